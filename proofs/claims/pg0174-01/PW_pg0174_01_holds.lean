import PyProof.Rows.All
import Wide.All
import Open.Line
import Wide.FinOn
import Lean
import PySem.Challenge.RW_pg0174_01
set_option Elab.async false
set_option maxRecDepth 100000
set_option linter.unusedVariables false
open PySem PySem.W PyProof.Rows

namespace Mine

/-- pure values -/
inductive PV where
  | none
  | bool (b : Bool)
  | int (i : Int)
  | str (x : Str)
  | bytes (b : Array UInt8)
  | tuple (vs : List PV)
  | list (vs : List PV)
  | dict (es : List (Str × PV))
  | range (a b c : Int)
  | type (n : String)
  deriving Inhabited

noncomputable abbrev Excl := Addr → Prop

noncomputable def tupObj (vs : List Value) (n : Nat) : Obj := { cls := .type "tuple", data := .seq vs.toArray n }
noncomputable def lstObj (vs : List Value) (n : Nat) : Obj := { cls := .type "list", data := .seq vs.toArray n }
noncomputable def dicObj (es : List DictEntry) (n : Nat) : Obj := { cls := .type "dict", data := .dict es.toArray n }
/-- the entries of a dict by texts -/
noncomputable def EntIs (w : World) (e : DictEntry) (k : Str) : Prop := ∃ t, e.key = .str k t ∧ e.hash = PyData.keyHash w.params k

mutual
noncomputable def Den (w : World) (X : Excl) (h : Heap) : PV → Value → Prop
  | .none, v => v = .none
  | .bool b, v => v = .bool b
  | .int i, v => ∃ t, v = .int i t
  | .str x, v => x.length ≤ sizeLine ∧ ∃ t, v = .str x t
  | .bytes x, v => ∃ t, v = .bytes x t
  | .tuple pvs, v => pvs.length ≤ sizeLine ∧ ∃ a vs n, v = .ref a ∧ ¬ X a ∧ h.get? a = some (tupObj vs n) ∧ DenL w X h pvs vs
  | .list pvs, v => pvs.length ≤ sizeLine ∧ ∃ a vs n, v = .ref a ∧ ¬ X a ∧ h.get? a = some (lstObj vs n) ∧ DenL w X h pvs vs
  | .dict ps, v => ∃ a es n, v = .ref a ∧ ¬ X a ∧ h.get? a = some (dicObj es n) ∧ DenD w X h ps es
  | .range a b c, v => ∃ r t u z, v = .ref r ∧ ¬ X r ∧ IsRange h r a b c t u z
  | .type n, v => v = .type n
noncomputable def DenL (w : World) (X : Excl) (h : Heap) : List PV → List Value → Prop
  | [], vs => vs = []
  | p :: ps, vs => ∃ v r, vs = v :: r ∧ Den w X h p v ∧ DenL w X h ps r
noncomputable def DenD (w : World) (X : Excl) (h : Heap) : List (Str × PV) → List DictEntry → Prop
  | [], es => es = []
  | (k, p) :: ps, es => ∃ e r, es = e :: r ∧ EntIs w e k ∧ Den w X h p e.val ∧ DenD w X h ps r
end

section
variable {w : World} {X X' : Excl} {h h' : Heap}
mutual
theorem Den.move (hm : ∀ a o, ¬ X a → h.get? a = some o → ¬ X' a ∧ h'.get? a = some o) : ∀ {p : PV} {v : Value}, Den w X h p v → Den w X' h' p v
  | .none, _, d => by simpa only [Den] using d
  | .type _, _, d => by simpa only [Den] using d
  | .bool _, _, d => by simpa only [Den] using d
  | .int _, _, d => by simpa only [Den] using d
  | .str _, _, d => by simpa only [Den] using d
  | .bytes _, _, d => by simpa only [Den] using d
  | .tuple pvs, v, d => by
    simp only [Den] at d ⊢
    obtain ⟨hz, a, vs, n, rfl, hx, hg, dl⟩ := d
    have := hm a _ hx hg
    exact ⟨hz, a, vs, n, rfl, this.1, this.2, DenL.move hm dl⟩
  | .list pvs, v, d => by
    simp only [Den] at d ⊢
    obtain ⟨hz, a, vs, n, rfl, hx, hg, dl⟩ := d
    have := hm a _ hx hg
    exact ⟨hz, a, vs, n, rfl, this.1, this.2, DenL.move hm dl⟩
  | .dict ps, v, d => by
    simp only [Den] at d ⊢
    obtain ⟨a, vs, n, rfl, hx, hg, dl⟩ := d
    have := hm a _ hx hg
    exact ⟨a, vs, n, rfl, this.1, this.2, DenD.move hm dl⟩
  | .range a b c, v, d => by
    simp only [Den] at d ⊢
    obtain ⟨r, t, u, z, rfl, hx, hg⟩ := d
    have := hm r _ hx hg
    exact ⟨r, t, u, z, rfl, this.1, this.2⟩
theorem DenL.move (hm : ∀ a o, ¬ X a → h.get? a = some o → ¬ X' a ∧ h'.get? a = some o) : ∀ {ps : List PV} {vs : List Value}, DenL w X h ps vs → DenL w X' h' ps vs
  | [], _, d => by simpa only [DenL] using d
  | p :: ps, vs, d => by
    simp only [DenL] at d ⊢
    obtain ⟨v, r, rfl, d1, d2⟩ := d
    exact ⟨v, r, rfl, Den.move hm d1, DenL.move hm d2⟩
theorem DenD.move (hm : ∀ a o, ¬ X a → h.get? a = some o → ¬ X' a ∧ h'.get? a = some o) : ∀ {ps : List (Str × PV)} {es : List DictEntry}, DenD w X h ps es → DenD w X' h' ps es
  | [], _, d => by simpa only [DenD] using d
  | (k, p) :: ps, es, d => by
    simp only [DenD] at d ⊢
    obtain ⟨e, r, rfl, d0, d1, d2⟩ := d
    exact ⟨e, r, rfl, d0, Den.move hm d1, DenD.move hm d2⟩
end

theorem Den.keeps (hk : ∀ b o, h.get? b = some o → h'.get? b = some o) {p : PV} {v : Value} (d : Den w X h p v) : Den w X h' p v := d.move fun a o hx e => ⟨hx, hk a o e⟩
theorem DenL.keeps (hk : ∀ b o, h.get? b = some o → h'.get? b = some o) {p : List PV} {v : List Value} (d : DenL w X h p v) : DenL w X h' p v := d.move fun a o hx e => ⟨hx, hk a o e⟩
theorem DenL.length : ∀ {ps : List PV} {vs : List Value}, DenL w X h ps vs → vs.length = ps.length
  | [], _, d => by simp only [DenL] at d; rw [d]; rfl
  | p :: ps, vs, d => by
    simp only [DenL] at d
    obtain ⟨v, r, rfl, _, d2⟩ := d
    simp [DenL.length d2]
theorem DenL.get : ∀ {ps : List PV} {vs : List Value} {i : Nat} {p : PV}, DenL w X h ps vs → ps[i]? = some p → ∃ v, vs[i]? = some v ∧ Den w X h p v
  | [], _, _, _, _, e => by simp at e
  | p :: ps, vs, 0, q, d, e => by
    simp only [DenL] at d
    obtain ⟨v, r, rfl, d1, d2⟩ := d
    simp at e; subst e
    exact ⟨v, rfl, d1⟩
  | p :: ps, vs, i + 1, q, d, e => by
    simp only [DenL] at d
    obtain ⟨v, r, rfl, d1, d2⟩ := d
    have e' : ps[i]? = some q := by simpa using e
    obtain ⟨u, hu, du⟩ := DenL.get d2 e'
    exact ⟨u, by simpa using hu, du⟩
theorem DenL.append : ∀ {ps qs : List PV} {vs us : List Value}, DenL w X h ps vs → DenL w X h qs us → DenL w X h (ps ++ qs) (vs ++ us)
  | [], qs, vs, us, d, e => by simp only [DenL] at d; subst d; simpa using e
  | p :: ps, qs, vs, us, d, e => by
    simp only [DenL] at d
    obtain ⟨v, r, rfl, d1, d2⟩ := d
    simp only [List.cons_append, DenL]
    exact ⟨v, r ++ us, rfl, d1, DenL.append d2 e⟩
theorem DenL.cons {p : PV} {ps : List PV} {v : Value} {vs : List Value} (d : Den w X h p v) (e : DenL w X h ps vs) : DenL w X h (p :: ps) (v :: vs) := by
  simp only [DenL]; exact ⟨v, vs, rfl, d, e⟩
theorem DenL.nil : DenL w X h [] [] := by simp only [DenL]
theorem DenL.one {p : PV} {v : Value} (d : Den w X h p v) : DenL w X h [p] [v] := .cons d .nil
theorem DenL.inv_cons {p : PV} {ps : List PV} {vs : List Value} (d : DenL w X h (p :: ps) vs) : ∃ v r, vs = v :: r ∧ Den w X h p v ∧ DenL w X h ps r := by
  simpa only [DenL] using d
theorem DenL.inv_nil {vs : List Value} (d : DenL w X h [] vs) : vs = [] := by simpa only [DenL] using d
theorem DenL.of_get : ∀ {ps : List PV} {vs : List Value}, ps.length = vs.length → (∀ (i : Nat) (p : PV) (v : Value), ps[i]? = some p → vs[i]? = some v → Den w X h p v) → DenL w X h ps vs
  | [], [], _, _ => .nil
  | [], _ :: _, e, _ => by simp at e
  | _ :: _, [], e, _ => by simp at e
  | p :: ps, v :: vs, e, g => .cons (g 0 p v rfl rfl) (DenL.of_get (by simpa using e) fun i q u h1 h2 => g (i + 1) q u (by simpa using h1) (by simpa using h2))
end

theorem keeps_refl (s : Shared) : Keeps s s := ⟨s.heap, s.toks, rfl, fun _ _ e => e⟩
theorem keeps_tk (s : Shared) (k : Nat) : Keeps s { s with toks := k } := ⟨s.heap, k, rfl, fun _ _ e => e⟩
theorem keeps_push (s : Shared) (o : Obj) (k : Nat) : Keeps s { s with heap := s.heap.push o, toks := k } := ⟨_, k, rfl, fun _ _ e => Heap.get?_push_of_some _ e⟩
theorem keeps_push' (s : Shared) (o : Obj) : Keeps s { s with heap := s.heap.push o } := ⟨_, s.toks, rfl, fun _ _ e => Heap.get?_push_of_some _ e⟩
theorem keeps_trans {a b c : Shared} (x : Keeps a b) (y : Keeps b c) : Keeps a c := by
  obtain ⟨h, t, rfl, k⟩ := x
  obtain ⟨h', t', rfl, k'⟩ := y
  exact ⟨h', t', rfl, fun b o e => k' b o (k b o e)⟩
theorem keeps_mem {a b : Shared} (x : Keeps a b) : ∀ c o, a.heap.get? c = some o → b.heap.get? c = some o := by
  obtain ⟨h, t, rfl, k⟩ := x
  exact k
theorem keeps_of {s : Shared} {h' : Heap} {tk : Nat} (k : ∀ b o, s.heap.get? b = some o → h'.get? b = some o) : Keeps s { s with heap := h', toks := tk } := ⟨h', tk, rfl, k⟩
/-- all excluded addresses lie in the heap (a new object is not excluded) -/
noncomputable def Xlt (X : Excl) (h : Heap) : Prop := ∀ a, X a → ∃ o, h.get? a = some o
theorem Xlt.new {X : Excl} {h : Heap} (x : Xlt X h) {a : Addr} (ha : h.objs.size ≤ a) : ¬ X a := fun q => let ⟨_, e⟩ := x a q; absurd (Heap.lt_size e) (Nat.not_lt.mpr ha)
theorem Xlt.keeps {X : Excl} {h h' : Heap} (x : Xlt X h) (hk : ∀ b o, h.get? b = some o → h'.get? b = some o) : Xlt X h' := fun a ha => let ⟨o, e⟩ := x a ha; ⟨o, hk a o e⟩
noncomputable def Post (w : World) (X : Excl) (s : Shared) (K : PV → Prop) (Q : Value → Shared → Prop) : Prop :=
  ∀ v pv s', K pv → Keeps s s' → Den w X s'.heap pv v → Q v s'
theorem Post.after {w : World} {X : Excl} {s s₁ : Shared} {K : PV → Prop} {Q : Value → Shared → Prop} (h : Post w X s K Q) (k : Keeps s s₁) : Post w X s₁ K Q :=
  fun v pv s' hk ks d => h v pv s' hk (keeps_trans k ks) d
end Mine
namespace Mine

/-- a branch, an obligation: whnf stops here -/
inductive Br (b : Bool) (T F : Prop) : Prop
  | mk (h1 : b = true → T) (h2 : b = false → F)
inductive Ob (P K : Prop) : Prop
  | mk (h1 : P) (h2 : K)
inductive Ex {α : Type} (o : Option α) (K : α → Prop) : Prop
  | mk (v : α) (h : o = some v) (k : K v)
theorem Br.intro {b : Bool} {T F : Prop} (h1 : b = true → T) (h2 : b = false → F) : Br b T F := .mk h1 h2
theorem Ob.intro {P K : Prop} (h1 : P) (h2 : K) : Ob P K := .mk h1 h2
theorem Br.tt {T F : Prop} (h : T) : Br true T F := .mk (fun _ => h) fun e => nomatch e
theorem Br.ff {T F : Prop} (h : F) : Br false T F := .mk (fun e => nomatch e) fun _ => h
theorem Br.elim {b : Bool} {T F : Prop} (h : Br b T F) : (b = true → T) ∧ (b = false → F) := let ⟨h1, h2⟩ := h; ⟨h1, h2⟩
theorem Ob.elim {P K : Prop} (h : Ob P K) : P ∧ K := let ⟨h1, h2⟩ := h; ⟨h1, h2⟩
theorem Ex.intro {α : Type} {o : Option α} {K : α → Prop} (v : α) (h : o = some v) (k : K v) : Ex o K := .mk v h k
theorem Ex.elim {α : Type} {o : Option α} {K : α → Prop} (h : Ex o K) : ∃ v, o = some v ∧ K v := let ⟨v, h, k⟩ := h; ⟨v, h, k⟩

noncomputable def sliceL {α : Type} (xs : List α) (lo hi st : Option Int) : List α :=
  (sliceRange (sliceBounds lo hi st xs.length).1 (sliceBounds lo hi st xs.length).2.1 (sliceBounds lo hi st xs.length).2.2).filterMap (xs[·]?)

/-! ### looking at values -/
noncomputable def asI (p : PV) (F : Int → Prop) : Prop := match p with | .int a => F a | _ => False
noncomputable def asS (p : PV) (F : Str → Prop) : Prop := match p with | .str a => F a | _ => False
noncomputable def asL (p : PV) (F : List PV → Prop) : Prop := match p with | .list a => F a | _ => False
noncomputable def asT (p : PV) (F : List PV → Prop) : Prop := match p with | .tuple a => F a | _ => False
noncomputable def asN (p : PV) (F : String → Prop) : Prop := match p with | .type a => F a | _ => False
theorem asI.inv {p : PV} {F : Int → Prop} (h : asI p F) : ∃ a, p = .int a ∧ F a := by
  cases p <;> first | exact False.elim h | exact ⟨_, rfl, h⟩
theorem asS.inv {p : PV} {F : Str → Prop} (h : asS p F) : ∃ a, p = .str a ∧ F a := by
  cases p <;> first | exact False.elim h | exact ⟨_, rfl, h⟩
theorem asL.inv {p : PV} {F : List PV → Prop} (h : asL p F) : ∃ a, p = .list a ∧ F a := by
  cases p <;> first | exact False.elim h | exact ⟨_, rfl, h⟩
theorem asT.inv {p : PV} {F : List PV → Prop} (h : asT p F) : ∃ a, p = .tuple a ∧ F a := by
  cases p <;> first | exact False.elim h | exact ⟨_, rfl, h⟩
theorem asN.inv {p : PV} {F : String → Prop} (h : asN p F) : ∃ a, p = .type a ∧ F a := by
  cases p <;> first | exact False.elim h | exact ⟨_, rfl, h⟩
noncomputable def gd (b : Bool) (P : Prop) : Prop := match b with | true => P | false => False
theorem gd.inv {b : Bool} {P : Prop} (h : gd b P) : b = true ∧ P := by
  cases b
  · exact False.elim h
  · exact ⟨rfl, h⟩
noncomputable def gs {α : Type} (o : Option α) (F : α → Prop) : Prop := match o with | some a => F a | none => False
theorem gs.inv {α : Type} {o : Option α} {F : α → Prop} (h : gs o F) : ∃ a, o = some a ∧ F a := by
  cases o
  · exact False.elim h
  · exact ⟨_, rfl, h⟩
noncomputable def as0 {α : Type} (l : List α) (T : Prop) (F : α → List α → Prop) : Prop := match l with | [] => T | a :: r => F a r
noncomputable def as1 {α : Type} (l : List α) (F : α → Prop) : Prop := as0 l False fun a r => as0 r (F a) fun _ _ => False
theorem as1.inv {α : Type} {l : List α} {F : α → Prop} (h : as1 l F) : ∃ a, l = [a] ∧ F a := by
  rcases l with _ | ⟨a, _ | ⟨b, r⟩⟩
  · exact False.elim h
  · exact ⟨a, rfl, h⟩
  · exact False.elim h

/-! ### what the operations answer -/
noncomputable def truthW : PV → (Bool → Prop) → Prop
  | .none, K => K false
  | .bool b, K => K b
  | .int i, K => K (i != 0)
  | .str x, K => K (x.length != 0)
  | .list vs, K => K (!vs.isEmpty)
  | .tuple vs, K => K (!vs.isEmpty)
  | _, _ => False

noncomputable def binW (op : Operator) (p q : PV) (K : PV → Prop) : Prop := match op with
  | .Add => (match p with
    | .int a => asI q fun b => K (.int (a + b))
    | .str a => asS q fun b => Ob (a.length + b.length ≤ sizeLine) (K (.str (a ++ b)))
    | .list a => asL q fun b => Ob (a.length + b.length ≤ sizeLine) (K (.list (a ++ b)))
    | _ => False)
  | .Sub => asI p fun a => asI q fun b => K (.int (a - b))
  | .Mult => (match p with
    | .int a => asI q fun b => Ob (IntMulOk a b) (K (.int (a * b)))
    | .list a => asI q fun n => Ob (-(2 ^ 63 : Int) ≤ n ∧ n < 2 ^ 63 ∧ a.length * n.toNat ≤ 2 ^ 24) (K (.list (List.replicate n.toNat a).flatten))
    | _ => False)
  | .FloorDiv => asI p fun a => asI q fun b => Ob (b ≠ 0 ∧ b.natAbs < 1073741824) (K (.int (a.fdiv b)))
  | .Mod => asI p fun a => asI q fun b => Ob (b ≠ 0) (K (.int (a.fmod b)))
  | .Pow => asI p fun a => asI q fun b => Ob (0 ≤ b ∧ (Builtin.Int.intBits a : Int) * b ≤ 2 ^ 27) (K (.int (a ^ b.toNat)))
  | _ => False

section
variable {prog : Program} {w : World} {A : Around} {E : Value → Shared → Prop} {s : Shared} {X : Excl} {Q : Value → Shared → Prop} {K : PV → Prop}

theorem den_none {v} {h : Heap} (d : Den w X h .none v) : v = .none := by simpa only [Den] using d
theorem den_bool {v b} {h : Heap} (d : Den w X h (.bool b) v) : v = .bool b := by simpa only [Den] using d
theorem den_int {v i} {h : Heap} (d : Den w X h (.int i) v) : ∃ t, v = .int i t := by simpa only [Den] using d
theorem den_str {v x} {h : Heap} (d : Den w X h (.str x) v) : x.length ≤ sizeLine ∧ ∃ t, v = .str x t := by simpa only [Den] using d
theorem den_list {v vs} {h : Heap} (d : Den w X h (.list vs) v) : vs.length ≤ sizeLine ∧ ∃ a us n, v = .ref a ∧ ¬ X a ∧ h.get? a = some (lstObj us n) ∧ DenL w X h vs us := by simpa only [Den] using d
theorem den_tuple {v vs} {h : Heap} (d : Den w X h (.tuple vs) v) : vs.length ≤ sizeLine ∧ ∃ a us n, v = .ref a ∧ ¬ X a ∧ h.get? a = some (tupObj us n) ∧ DenL w X h vs us := by simpa only [Den] using d
theorem den_range {v a b c} {h : Heap} (d : Den w X h (.range a b c) v) : ∃ r t u z, v = .ref r ∧ ¬ X r ∧ IsRange h r a b c t u z := by simpa only [Den] using d
theorem mk_int {i t} {h : Heap} : Den w X h (.int i) (.int i t) := by simp only [Den]; exact ⟨t, rfl⟩
theorem mk_bool {b} {h : Heap} : Den w X h (.bool b) (.bool b) := by simp only [Den]
theorem mk_none {h : Heap} : Den w X h .none .none := by simp only [Den]
theorem mk_str {x t} {h : Heap} (hx : x.length ≤ sizeLine) : Den w X h (.str x) (.str x t) := by simp only [Den]; exact ⟨hx, t, rfl⟩
theorem mk_list {vs us a n} {h : Heap} (hz : vs.length ≤ sizeLine) (hx : ¬ X a) (hg : h.get? a = some (lstObj us n)) (d : DenL w X h vs us) : Den w X h (.list vs) (.ref a) := by
  simp only [Den]; exact ⟨hz, a, us, n, rfl, hx, hg, d⟩
theorem mk_tuple {vs us a n} {h : Heap} (hz : vs.length ≤ sizeLine) (hx : ¬ X a) (hg : h.get? a = some (tupObj us n)) (d : DenL w X h vs us) : Den w X h (.tuple vs) (.ref a) := by
  simp only [Den]; exact ⟨hz, a, us, n, rfl, hx, hg, d⟩
theorem lst_isList {h : Heap} {a : Addr} {us : List Value} {n : Nat} (hg : h.get? a = some (lstObj us n)) : h.IsList a us.toArray := ⟨_, hg, rfl, n, rfl⟩
theorem tup_isTup {h : Heap} {a : Addr} {us : List Value} {n : Nat} (hg : h.get? a = some (tupObj us n)) : IsTup h a us.toArray := ⟨_, hg, rfl, n, rfl⟩
theorem sizeLine_fit {n : Nat} (h : n ≤ sizeLine) : (n : Int) < 2 ^ 63 := by have := sizeLine_eq; omega

theorem truth_op {v : Value} {p : PV} {Qb : Bool → Shared → Prop} {Kb : Bool → Prop} (d : Den w X s.heap p v) (h : truthW p Kb) (hq : ∀ b s', Kb b → Keeps s s' → Qb b s') :
    wpAny (model prog w) A (truthy v) Qb E s := by
  cases p with
  | none => rw [den_none d]; exact wpAny_pure (hq _ _ h (keeps_refl s))
  | bool b => rw [den_bool d]; exact wpAny_truthy_bool (hq _ _ h (keeps_refl s))
  | int i => obtain ⟨t, rfl⟩ := den_int d; exact PyProof.Rows.truthy_int (hq _ _ h (keeps_refl s))
  | str x =>
    obtain ⟨hx, t, rfl⟩ := den_str d
    refine PySem.P.truthy_str (by have := sizeLine_fit hx; omega) ?_
    have e : ((x.length : Int) != 0) = (x.length != 0) := by
      cases hh : x.length with
      | zero => rfl
      | succ n => simp; omega
    rw [e]
    exact hq _ _ h (keeps_tk s _)
  | list vs =>
    obtain ⟨hz, a, us, n, rfl, _, hg, dl⟩ := den_list d
    have hl := dl.length
    refine wpAny_truthy_list (lst_isList hg) (by simp; rw [hl]; exact sizeLine_fit hz) ?_
    have e : (!us.toArray.isEmpty) = !vs.isEmpty := by
      cases vs <;> cases us <;> simp_all
    rw [e]
    exact hq _ _ h (keeps_tk s _)
  | tuple vs =>
    obtain ⟨hz, a, us, n, rfl, _, hg, dl⟩ := den_tuple d
    have hl := dl.length
    refine truthy_tuple (tup_isTup hg) (by simp; rw [hl]; exact sizeLine_fit hz) ?_
    have e : (!us.toArray.isEmpty) = !vs.isEmpty := by
      cases vs <;> cases us <;> simp_all
    rw [e]
    exact hq _ _ h (keeps_tk s _)
  | _ => exact h.elim

theorem str_len_append (a b : Str) : (a ++ b).length = a.length + b.length := Str.length_append a b

theorem denL_flatten {h : Heap} {ps : List PV} {us : List Value} (d : DenL w X h ps us) : ∀ n : Nat, DenL w X h (List.replicate n ps).flatten (List.replicate n us).flatten
  | 0 => by simpa using DenL.nil
  | n + 1 => by
    simp only [List.replicate_succ, List.flatten_cons]
    exact d.append (denL_flatten d n)
theorem foldl_replicate (us : List Value) : ∀ (n : Nat) (acc : Array Value), (List.foldl (fun x1 x2 => x1 ++ x2) acc (List.replicate n us.toArray)) = acc ++ (List.replicate n us).flatten.toArray
  | 0, acc => by simp
  | n + 1, acc => by
    simp only [List.replicate_succ, List.foldl_cons, List.flatten_cons]
    rw [foldl_replicate us n]
    simp [Array.append_assoc]

theorem alloc_den {o : Obj} {v : PV} {k : Nat} (hX : Xlt X s.heap) (hk : K v) (hpost : Post w X s K Q)
    (hd : ¬ X s.heap.objs.size → Den w X (s.heap.push o) v (.ref s.heap.objs.size)) : Q (.ref s.heap.objs.size) { s with heap := s.heap.push o, toks := k } :=
  hpost _ v _ hk (keeps_push s o k) (hd (hX.new (Nat.le_refl _)))

theorem bin_op {op : Operator} {v u : Value} {p q : PV} (hX : Xlt X s.heap) (d : Den w X s.heap p v) (e : Den w X s.heap q u) (h : binW op p q K) (hq : Post w X s K Q) :
    wpAny (model prog w) A (binaryOp op v u) Q E s := by
  cases op with
  | Add =>
    cases p with
    | int a =>
      obtain ⟨b, rfl, h⟩ := asI.inv h
      obtain ⟨t, rfl⟩ := den_int d; obtain ⟨t', rfl⟩ := den_int e
      exact PyProof.Rows.add_int (hq _ _ _ h (keeps_tk s _) mk_int)
    | str a =>
      obtain ⟨b, rfl, h⟩ := asS.inv h
      obtain ⟨_, t, rfl⟩ := den_str d; obtain ⟨_, t', rfl⟩ := den_str e
      obtain ⟨hz, h⟩ := h.elim
      exact PyProof.Rows.add_str (fun t' tk => hq _ _ _ h (keeps_tk s _) (mk_str (by rw [str_len_append]; exact hz))) hz
    | list vs =>
      obtain ⟨ws, rfl, h⟩ := asL.inv h
      obtain ⟨_, a, us, n, rfl, _, hg, dl⟩ := den_list d
      obtain ⟨_, b, us', n', rfl, _, hg', dl'⟩ := den_list e
      obtain ⟨hz, h⟩ := h.elim
      refine PySem.P.add_list (n := n) (n2 := n') hg hg' ?_ (by simpa [dl.length, dl'.length] using hz)
      rw [List.append_toArray]
      refine alloc_den (k := s.toks) hX h hq fun hx => ?_
      refine mk_list (by simpa using hz) hx (n := 0) (us := us ++ us') (Heap.get?_push_size _ rfl) ?_
      exact (dl.append dl').keeps fun _ _ e => Heap.get?_push_of_some _ e
    | _ => exact False.elim h
  | Sub =>
    obtain ⟨a, rfl, h⟩ := asI.inv h; obtain ⟨b, rfl, h⟩ := asI.inv h
    obtain ⟨t, rfl⟩ := den_int d; obtain ⟨t', rfl⟩ := den_int e
    exact PyProof.Rows.sub_int (hq _ _ _ h (keeps_tk s _) mk_int)
  | Mult =>
    cases p with
    | int a =>
      obtain ⟨b, rfl, h⟩ := asI.inv h
      obtain ⟨t, rfl⟩ := den_int d; obtain ⟨t', rfl⟩ := den_int e
      obtain ⟨hm, h⟩ := h.elim
      exact PyProof.Rows.mul_int (hq _ _ _ h (keeps_tk s _) mk_int) hm
    | list vs =>
      obtain ⟨m, rfl, h⟩ := asI.inv h
      obtain ⟨_, a, us, n, rfl, _, hg, dl⟩ := den_list d
      obtain ⟨t', rfl⟩ := den_int e
      obtain ⟨⟨h0, h1, h2⟩, h⟩ := h.elim
      have hl : us.toArray.size * Int.toNat m ≤ 2 ^ 24 := by rw [List.size_toArray, dl.length]; exact h2
      have back : ∀ k : Nat, (a : Addr) = a → Q (.ref s.heap.objs.size) { s with heap := s.heap.push { cls := Value.type "list", data := Data.seq (List.foldl (fun x1 x2 => x1 ++ x2) #[] (List.replicate (if us.toArray.isEmpty = true then 0 else Int.toNat m) us.toArray)) }, toks := k } := by
        intro k _
        rw [foldl_replicate]
        refine alloc_den hX h hq fun hx => ?_
        have e : (List.replicate (if us.toArray.isEmpty = true then 0 else Int.toNat m) us).flatten = (List.replicate (Int.toNat m) us).flatten := by
          cases us with
          | nil => simp
          | cons x r => simp
        rw [e]
        refine mk_list ?_ hx (n := 0) (us := (List.replicate (Int.toNat m) us).flatten) (by rw [Array.empty_append]; exact Heap.get?_push_size _ rfl) ?_
        · rw [List.length_flatten]
          simp only [List.map_replicate, List.sum_replicate_nat]
          have := sizeLine_eq
          rw [Nat.mul_comm]
          omega
        · exact (denL_flatten dl _).keeps fun _ _ e => Heap.get?_push_of_some _ e
      exact wpAny_binaryOp_repeat_ref (T := "list") (U := "int") (by decide) ⟨_, hg, rfl⟩ (fun s' => typeIs_int s' _ _) noFill_list_mul PySem.F.fills_int_mul PySem.F.slot_int_rmul repeat_list PySem.F.slot_int_index.lookup
        (call_meets PySem.F.slot_int_rmul (typeIs_int s _ _) PySem.F.entry_int_rmul (PySem.F.args_int_rmul_2 _ _) (int___rmul___int_list _ _ a us.toArray n)
          ⟨hg, rfl, ⟨_, hg, rfl⟩, call_meets PySem.F.slot_list_mul ⟨_, hg, rfl⟩ PySem.F.entry_list_mul (PySem.F.args_list_mul_2 _ _)
            (AutoListH.list___mul___list_int_3 a us.toArray n _ _ (by simp [Builtin.List.listFitsIndex]; omega) (by omega) (by have := sizeLine_eq; simp only [Builtin.List.listTooLong, decide_eq_true_eq]; omega))
            ⟨hg, back _ rfl⟩⟩)
    | _ => exact False.elim h
  | FloorDiv =>
    obtain ⟨a, rfl, h⟩ := asI.inv h; obtain ⟨b, rfl, h⟩ := asI.inv h
    obtain ⟨t, rfl⟩ := den_int d; obtain ⟨t', rfl⟩ := den_int e
    obtain ⟨⟨h0, h1⟩, h⟩ := h.elim
    exact PyProof.Rows.floordiv_int h0 (hq _ _ _ h (keeps_tk s _) mk_int) (.inl (PyProof.noPylong_small h1))
  | Mod =>
    obtain ⟨a, rfl, h⟩ := asI.inv h; obtain ⟨b, rfl, h⟩ := asI.inv h
    obtain ⟨t, rfl⟩ := den_int d; obtain ⟨t', rfl⟩ := den_int e
    obtain ⟨h0, h⟩ := h.elim
    exact PyProof.Rows.mod_int h0 (hq _ _ _ h (keeps_tk s _) mk_int)
  | Pow =>
    obtain ⟨a, rfl, h⟩ := asI.inv h; obtain ⟨b, rfl, h⟩ := asI.inv h
    obtain ⟨t, rfl⟩ := den_int d; obtain ⟨t', rfl⟩ := den_int e
    obtain ⟨⟨h0, h1⟩, h⟩ := h.elim
    exact PyProof.Rows.pow_int h0 h1 (hq _ _ _ h (keeps_tk s _) mk_int)
  | _ => exact False.elim h
end
end Mine
namespace Mine

/-! ### comparisons of numbers and texts -/
noncomputable def cmpW (op : CmpOp) (p q : PV) (K : PV → Prop) : Prop := match op with
  | .Eq => (match p with
    | .int a => asI q fun b => K (.bool (a == b))
    | .str a => asS q fun b => K (.bool (a == b))
    | _ => False)
  | .NotEq => (match p with
    | .int a => asI q fun b => K (.bool (a != b))
    | .str a => asS q fun b => K (.bool (a != b))
    | _ => False)
  | .Lt => asI p fun a => asI q fun b => K (.bool (decide (a < b)))
  | .Gt => asI p fun a => asI q fun b => K (.bool (decide (b < a)))
  | .LtE => asI p fun a => asI q fun b => K (.bool (decide (a ≤ b)))
  | .GtE => asI p fun a => asI q fun b => K (.bool (decide (b ≤ a)))
  | .In => asS p fun a => asS q fun b => K (.bool (Txt.contains b a))
  | .Is => asN p fun a => asN q fun b => K (.bool (a == b))
  | .IsNot => asN p fun a => asN q fun b => K (.bool (!(a == b)))
  | _ => False

section
variable {prog : Program} {w : World} {A : Around} {E : Value → Shared → Prop} {s : Shared} {X : Excl} {Q : Value → Shared → Prop} {K : PV → Prop}

theorem den_type {v n} {h : Heap} (d : Den w X h (.type n) v) : v = .type n := by simpa only [Den] using d
theorem mk_type {n} {h : Heap} : Den w X h (.type n) (.type n) := by simp only [Den]

theorem cmp_op {op : CmpOp} {v u : Value} {p q : PV} (d : Den w X s.heap p v) (e : Den w X s.heap q u) (h : cmpW op p q K) (hq : Post w X s K Q) :
    wpAny (model prog w) A (compareOp op v u) Q E s := by
  cases op with
  | Eq =>
    cases p with
    | int a =>
      obtain ⟨b, rfl, h⟩ := asI.inv h
      obtain ⟨t, rfl⟩ := den_int d; obtain ⟨t', rfl⟩ := den_int e
      exact PyProof.Rows.eq_int (hq _ _ _ h (keeps_refl s) mk_bool)
    | str a =>
      obtain ⟨b, rfl, h⟩ := asS.inv h
      obtain ⟨_, t, rfl⟩ := den_str d; obtain ⟨_, t', rfl⟩ := den_str e
      exact PyProof.Rows.eq_str (hq _ _ _ h (keeps_refl s) mk_bool)
    | _ => exact False.elim h
  | NotEq =>
    cases p with
    | int a =>
      obtain ⟨b, rfl, h⟩ := asI.inv h
      obtain ⟨t, rfl⟩ := den_int d; obtain ⟨t', rfl⟩ := den_int e
      exact PyProof.Rows.ne_int (hq _ _ _ h (keeps_refl s) mk_bool)
    | str a =>
      obtain ⟨b, rfl, h⟩ := asS.inv h
      obtain ⟨_, t, rfl⟩ := den_str d; obtain ⟨_, t', rfl⟩ := den_str e
      exact PyProof.Rows.ne_str (hq _ _ _ h (keeps_refl s) mk_bool)
    | _ => exact False.elim h
  | Lt =>
    obtain ⟨a, rfl, h⟩ := asI.inv h; obtain ⟨b, rfl, h⟩ := asI.inv h
    obtain ⟨t, rfl⟩ := den_int d; obtain ⟨t', rfl⟩ := den_int e
    exact PyProof.Rows.lt_int (hq _ _ _ h (keeps_refl s) mk_bool)
  | Gt =>
    obtain ⟨a, rfl, h⟩ := asI.inv h; obtain ⟨b, rfl, h⟩ := asI.inv h
    obtain ⟨t, rfl⟩ := den_int d; obtain ⟨t', rfl⟩ := den_int e
    exact PyProof.Rows.gt_int (hq _ _ _ h (keeps_refl s) mk_bool)
  | LtE =>
    obtain ⟨a, rfl, h⟩ := asI.inv h; obtain ⟨b, rfl, h⟩ := asI.inv h
    obtain ⟨t, rfl⟩ := den_int d; obtain ⟨t', rfl⟩ := den_int e
    exact PyProof.Rows.le_int (hq _ _ _ h (keeps_refl s) mk_bool)
  | GtE =>
    obtain ⟨a, rfl, h⟩ := asI.inv h; obtain ⟨b, rfl, h⟩ := asI.inv h
    obtain ⟨t, rfl⟩ := den_int d; obtain ⟨t', rfl⟩ := den_int e
    exact PyProof.Rows.ge_int (hq _ _ _ h (keeps_refl s) mk_bool)
  | In =>
    obtain ⟨a, rfl, h⟩ := asS.inv h; obtain ⟨b, rfl, h⟩ := asS.inv h
    obtain ⟨_, t, rfl⟩ := den_str d; obtain ⟨_, t', rfl⟩ := den_str e
    exact SB.contains (hq _ _ _ h (keeps_refl s) mk_bool)
  | Is =>
    obtain ⟨a, rfl, h⟩ := asN.inv h; obtain ⟨b, rfl, h⟩ := asN.inv h
    rw [den_type d, den_type e]
    refine wpAny_is_plain rfl ?_
    have e : (Value.type a == Value.type b) = (a == b) := by rw [Bool.eq_iff_iff, beq_iff_eq, beq_iff_eq, Value.type.injEq]
    rw [e]
    exact hq _ _ _ h (keeps_refl s) mk_bool
  | IsNot =>
    obtain ⟨a, rfl, h⟩ := asN.inv h; obtain ⟨b, rfl, h⟩ := asN.inv h
    rw [den_type d, den_type e]
    refine wpAny_isNot_plain rfl ?_
    have e : (Value.type a == Value.type b) = (a == b) := by rw [Bool.eq_iff_iff, beq_iff_eq, beq_iff_eq, Value.type.injEq]
    rw [e]
    exact hq _ _ _ h (keeps_refl s) mk_bool
  | _ => exact False.elim h

/-! ### iteration -/
noncomputable def rangeItems (a b c : Int) : List PV := (List.range (Builtin.Range.rangeSize a b c).toNat).map fun i : Nat => PV.int (a + i * c)
noncomputable def iterW : PV → (List PV → Prop) → Prop
  | .list vs, K => K vs
  | .tuple vs, K => K vs
  | .str x, K => K (x.cps.toList.map fun c => PV.str ⟨#[c]⟩)
  | .range a b c, K => Ob (Builtin.Range.small a b c = true ∧ 0 ≤ Builtin.Range.rangeSize a b c ∧ Builtin.Range.rangeSize a b c ≤ sizeLine) (K (rangeItems a b c))
  | _, _ => False

noncomputable def plainIter (n : String) : Bool := !(["enumerate", "zip", "dict_itemiterator", "dict_reverseitemiterator", "odict_iterator", "itertools.zip_longest", "itertools.pairwise"].contains n)
structure IterAt (prog : Program) (w : World) (X : Excl) (xs : List PV) (I : Addr) (h : Heap) (fp : List Addr) (P : Nat → Value → Prop) (St : Nat → Heap → Prop) : Prop where
  walks : ∀ A : Around, A.handled = none → Walks prog w A I fp [I] xs.length P St
  start : St 0 h
  out : ∀ b ∈ fp, b ≠ I → ¬ X b
  old : ∀ b ∈ fp, b < h.objs.size
  self : ¬ X I
  live : ∀ i h, St i h → ∃ o, h.get? I = some o
  item : ∀ (X' : Excl) i v h', (∀ b o, ¬ X b → b ≠ I → h.get? b = some o → ¬ X' b ∧ h'.get? b = some o) → P i v → ∃ p, xs[i]? = some p ∧ Den w X' h' p v
  len : xs.length ≤ sizeLine
  newI : h.objs.size = I + 1
  cls : ∀ i h, St i h → ∃ o n, h.get? I = some o ∧ o.cls = .type n ∧ plainIter n = true
  alive : ∀ b ∈ fp, ∃ o, h.get? b = some o

theorem iter_op {v : Value} {p : PV} {Kl : List PV → Prop} {Qi : Value → Shared → Prop} (hX : Xlt X s.heap) (d : Den w X s.heap p v) (h : iterW p Kl)
    (hq : ∀ xs s' fp P St, Kl xs → Keeps s s' → IterAt prog w X xs s.heap.objs.size s'.heap fp P St → Qi (.ref s.heap.objs.size) s') :
    wpAny (model prog w) A (pyIter v) Qi E s := by
  have hI : ¬ X s.heap.objs.size := hX.new (Nat.le_refl _)
  -- what stood before stands, the new iterator apart
  have later : ∀ (X' : Excl) (o : Obj) (h' : Heap) {q : PV} {u : Value}, Den w X s.heap q u → (∀ b o', ¬ X b → b ≠ s.heap.objs.size → (s.heap.push o).get? b = some o' → ¬ X' b ∧ h'.get? b = some o') →
      Den w X' h' q u := fun X' o h' q u d hk => d.move fun a o' hx e => hk a o' hx (Nat.ne_of_lt (Heap.lt_size e)) (Heap.get?_push_of_some _ e)
  cases p with
  | list vs =>
    obtain ⟨hz, a, us, n, rfl, hx, hg, dl⟩ := den_list d
    have hl := dl.length
    have hl' := lst_isList hg
    have hlt : a < s.heap.objs.size := Heap.lt_size hg
    refine wpAny_pyIter_list hl' (hq vs _ [s.heap.objs.size, a] (fun i v => us.toArray[i]? = some v) (fun i h => h.IsListIter s.heap.objs.size a i ∧ h.IsList a us.toArray) h (keeps_push' s _) ⟨fun A hA => ?_, ?_, ?_, ?_, hI, (fun i h st => let ⟨o, e, _⟩ := st.1; ⟨o, e⟩), ?_, hz, by simp, ?_, ?_⟩)
    · have := Walks.list (prog := prog) (w := w) hA s.heap.objs.size a (Nat.ne_of_lt hlt) us.toArray
      simpa [hl] using this
    · exact ⟨⟨_, Heap.get?_push_size _ rfl, rfl, rfl⟩, hl'.push _⟩
    · intro b hb hne
      simp at hb
      rcases hb with rfl | rfl
      · exact absurd rfl hne
      · exact hx
    · intro b hb
      rw [Heap.size_push]
      rcases List.mem_cons.mp hb with e | hb
      · rw [e]; exact Nat.lt_succ_self _
      · rw [List.mem_singleton.mp hb]; exact Nat.lt_succ_of_lt hlt
    · intro X' i v h' hk hv
      have hv' : us[i]? = some v := by simpa using hv
      have hi : i < vs.length := by
        have := (List.getElem?_eq_some_iff.mp hv').1
        omega
      obtain ⟨u, hu, du⟩ := dl.get (List.getElem?_eq_getElem hi)
      rw [hv'] at hu; cases hu
      exact ⟨_, List.getElem?_eq_getElem hi, later X' _ h' du hk⟩
    · intro i h st
      obtain ⟨o, e, ec, _⟩ := st.1
      exact ⟨o, _, e, ec, by decide⟩
    · intro b hb
      rcases List.mem_cons.mp hb with e | hb
      · rw [e]; exact ⟨_, Heap.get?_push_size _ rfl⟩
      · rw [List.mem_singleton.mp hb]; exact ⟨_, Heap.get?_push_of_some _ hg⟩
  | tuple vs =>
    obtain ⟨hz, a, us, n, rfl, hx, hg, dl⟩ := den_tuple d
    have hl := dl.length
    have hl' : s.heap.IsTuple a us.toArray := ⟨_, hg, rfl, n, rfl⟩
    have hlt : a < s.heap.objs.size := Heap.lt_size hg
    refine wpAny_pyIter_tuple hl' (hq vs _ [s.heap.objs.size, a] (fun i v => us.toArray[i]? = some v) (fun i h => h.IsTupleIter s.heap.objs.size a i ∧ h.IsTuple a us.toArray) h (keeps_push' s _) ⟨fun A hA => ?_, ?_, ?_, ?_, hI, (fun i h st => let ⟨o, e, _⟩ := st.1; ⟨o, e⟩), ?_, hz, by simp, ?_, ?_⟩)
    · have := Walks.tuple (prog := prog) (w := w) hA s.heap.objs.size a (Nat.ne_of_lt hlt) us.toArray
      simpa [hl] using this
    · exact ⟨⟨_, Heap.get?_push_size _ rfl, rfl, rfl⟩, hl'.push _⟩
    · intro b hb hne
      simp at hb
      rcases hb with rfl | rfl
      · exact absurd rfl hne
      · exact hx
    · intro b hb
      rw [Heap.size_push]
      rcases List.mem_cons.mp hb with e | hb
      · rw [e]; exact Nat.lt_succ_self _
      · rw [List.mem_singleton.mp hb]; exact Nat.lt_succ_of_lt hlt
    · intro X' i v h' hk hv
      have hv' : us[i]? = some v := by simpa using hv
      have hi : i < vs.length := by
        have := (List.getElem?_eq_some_iff.mp hv').1
        omega
      obtain ⟨u, hu, du⟩ := dl.get (List.getElem?_eq_getElem hi)
      rw [hv'] at hu; cases hu
      exact ⟨_, List.getElem?_eq_getElem hi, later X' _ h' du hk⟩
    · intro i h st
      obtain ⟨o, e, ec, _⟩ := st.1
      exact ⟨o, _, e, ec, by decide⟩
    · intro b hb
      rcases List.mem_cons.mp hb with e | hb
      · rw [e]; exact ⟨_, Heap.get?_push_size _ rfl⟩
      · rw [List.mem_singleton.mp hb]; exact ⟨_, Heap.get?_push_of_some _ hg⟩
  | str x =>
    obtain ⟨hz, t, rfl⟩ := den_str d
    have fin : ∀ (o : Obj) (St : Nat → Heap → Prop), (∀ A' : Around, A'.handled = none → Walks prog w A' s.heap.objs.size [s.heap.objs.size] [s.heap.objs.size] x.cps.size (SignAt x) St) →
        (∀ i h, St i h → ∃ o n, h.get? s.heap.objs.size = some o ∧ o.cls = .type n ∧ plainIter n = true) → St 0 (s.heap.push o) → Qi (.ref s.heap.objs.size) { s with heap := s.heap.push o } := by
     intro o St hW hlive hst
     refine hq _ _ [s.heap.objs.size] (SignAt x) St h (keeps_push' s _) ⟨fun A hA => ?_, hst, ?_, ?_, hI, (fun i h st => let ⟨o, _, e, _⟩ := hlive i h st; ⟨o, e⟩), ?_, ?_, by simp, hlive, fun b hb => ?_⟩
     · have := hW A hA
       simpa using this
     · intro b hb hne
       simp at hb
       exact absurd hb hne
     · intro b hb
       simp at hb
       simp [hb]
     · rintro X' i v h' hk ⟨c, u, hc, rfl⟩
       refine ⟨.str ⟨#[c]⟩, ?_, ?_⟩
       · simp [hc]
       · exact mk_str (by show 1 ≤ sizeLine; have := sizeLine_eq; omega)
     · simpa [Str.length] using hz
     · rw [List.mem_singleton.mp hb]
       obtain ⟨o, _, e, _⟩ := hlive 0 _ hst
       exact ⟨o, e⟩
    cases ha : x.cps.all (· < 128)
    · exact wpAny_pyIter_wide ha (fin _ _ (fun A' hA => Walks.strWide hA _ x t) (fun i h st => let ⟨o, e, ec, _⟩ := st; ⟨o, _, e, ec, by decide⟩) ⟨_, Heap.get?_push_size _ rfl, rfl, rfl⟩)
    · exact wpAny_pyIter_ascii ha (fin _ _ (fun A' hA => Walks.strAscii hA _ x t) (fun i h st => let ⟨o, e, ec, _⟩ := st; ⟨o, _, e, ec, by decide⟩) ⟨_, Heap.get?_push_size _ rfl, rfl, rfl⟩)
  | range a b c =>
    obtain ⟨⟨h1, h2, h3⟩, hK⟩ := Ob.elim h
    obtain ⟨r, t, u, z, rfl, hx, hg⟩ := den_range d
    have hn : ((Builtin.Range.rangeSize a b c).toNat : Int) = Builtin.Range.rangeSize a b c := Int.toNat_of_nonneg h2
    have hlen : (rangeItems a b c).length = (Builtin.Range.rangeSize a b c).toNat := by simp [rangeItems]
    have fin : ∀ o, o = ({ cls := .type "range_iterator", data := .fields #[rawInt a, rawInt (Builtin.Range.rangeSize a b c), rawInt c] } : Obj) → Qi (.ref s.heap.objs.size) { s with heap := s.heap.push o } := by
      intro o ho
      refine hq _ _ [s.heap.objs.size] (fun i v => i < (rangeItems a b c).length ∧ ∃ t, v = .int (a + i * c) t) (fun i h => IsRangeIter h s.heap.objs.size (a + (i : Nat) * c) (((Builtin.Range.rangeSize a b c).toNat : Int) - (i : Nat)) c) hK (keeps_push' s _) ⟨fun A hA => ?_, ?_, ?_, ?_, hI, (fun i h st => ⟨_, st⟩), ?_, ?_, by simp, fun i h st => ⟨_, _, st, rfl, by decide⟩, fun b hb => ?_⟩
      · have W := Walks.range (prog := prog) (w := w) hA s.heap.objs.size a c (Builtin.Range.rangeSize a b c).toNat
        rw [← hlen] at W
        refine ⟨W.sub, ?_, fun i s Q E hi st hQ => W.item i s Q E hi (by rw [hlen]; exact st) fun v h' tk hp st' hk => hQ v h' tk ⟨hi, hp⟩ (by rw [hlen] at st'; exact st') hk,
          fun s Q E st hQ => W.done s Q E (by rw [hlen] at *; exact st) hQ, fun i s Q E st hQ => W.self i s Q E (by rw [hlen]; exact st) hQ⟩
        intro i h h' st hk
        have := W.frame i h h' (by rw [hlen]; exact st) hk
        rw [hlen] at this; exact this
      · subst ho
        show IsRangeIter _ _ (a + ((0 : Nat) : Int) * c) (((Builtin.Range.rangeSize a b c).toNat : Int) - ((0 : Nat) : Int)) c
        have e1 : a + ((0 : Nat) : Int) * c = a := by simp
        have e2 : (((Builtin.Range.rangeSize a b c).toNat : Int) - ((0 : Nat) : Int)) = Builtin.Range.rangeSize a b c := by rw [hn]; simp
        rw [e1, e2]
        exact Heap.get?_push_size _ rfl
      · intro b' hb hne
        simp at hb
        exact absurd hb hne
      · intro b' hb
        simp at hb
        simp [hb]
      · rintro X' i v h' hk ⟨hi, t, rfl⟩
        refine ⟨.int (a + i * c), ?_, mk_int⟩
        rw [hlen] at hi
        simp [rangeItems, hi]
      · rw [hlen]; omega
      · rw [List.mem_singleton.mp hb]; exact ⟨_, Heap.get?_push_size _ (by rw [ho]; rfl)⟩
    exact wpAny_pyIter_range hg h1 (fin _ rfl)
  | _ => exact h.elim
end
end Mine
namespace Mine

inductive BI where
  | len | min | range | list | sum | chr | type
  deriving DecidableEq

noncomputable def ints? : List PV → Option (List Int)
  | [] => some []
  | .int i :: r => (ints? r).map (i :: ·)
  | _ => none
noncomputable def minInts : List Int → Int
  | [] => 0
  | [a] => a
  | a :: r => min a (minInts r)
noncomputable def kindOf? : PV → Option String
  | .none => some "NoneType" | .bool _ => some "bool" | .int _ => some "int" | .str _ => some "str" | .tuple _ => some "tuple" | .list _ => some "list" | _ => none

noncomputable def lenW (p : PV) (K : PV → Prop) : Prop := match p with
  | .str x => K (.int x.length)
  | .list vs => K (.int vs.length)
  | .tuple vs => K (.int vs.length)
  | _ => False
noncomputable def listW (p : PV) (K : PV → Prop) : Prop := match p with
  | .range a b c => Ob (Builtin.Range.small a b c = true ∧ 0 ≤ Builtin.Range.rangeSize a b c ∧ Builtin.Range.rangeSize a b c ≤ sizeLine) (K (.list (rangeItems a b c)))
  | .list vs => K (.list vs)
  | _ => False
noncomputable def bcallW (f : BI) (ps : List PV) (K : PV → Prop) : Prop := match f with
  | .len => as1 ps fun p => lenW p K
  | .min => as0 ps False fun a r => as0 r (asL a fun vs => Ex (ints? vs) fun ns => Ob (ns ≠ []) (K (.int (minInts ns)))) fun b r => asI a fun a => asI b fun b =>
      as0 r (K (.int (if b < a then b else a))) fun c r => as0 r (asI c fun c => K (.int (min a (min b c)))) fun _ _ => False
  | .range => as0 ps False fun a r => asI a fun a => as0 r (K (.range 0 a 1)) fun b r => asI b fun b => as0 r (K (.range a b 1)) fun c r =>
      as0 r (asI c fun c => Ob (c ≠ 0 ∧ c.natAbs < 1073741824) (K (.range a b c))) fun _ _ => False
  | .list => as1 ps fun p => listW p K
  | .sum => as1 ps fun p => asL p fun vs => Ex (ints? vs) fun ns => K (.int ns.sum)
  | .chr => as1 ps fun p => asI p fun i => Ob (0 ≤ i ∧ i ≤ 1114111) (K (.str ⟨#[i.toNat]⟩))
  | .type => as1 ps fun p => Ex (kindOf? p) fun k => K (.type k)

noncomputable def BI.val : BI → Value
  | .len => .builtin "len" | .min => .builtin "min" | .range => .type "range" | .list => .type "list" | .sum => .builtin "sum" | .chr => .builtin "chr" | .type => .type "type"

section
variable {prog : Program} {w : World} {A : Around} {E : Value → Shared → Prop} {s : Shared} {X : Excl} {Q : Value → Shared → Prop} {K : PV → Prop}

theorem denL_one {p : PV} {vs : List Value} {h : Heap} (d : DenL w X h [p] vs) : ∃ v, vs = [v] ∧ Den w X h p v := by
  obtain ⟨v, r, rfl, d1, d2⟩ := d.inv_cons
  rw [d2.inv_nil]; exact ⟨v, rfl, d1⟩
theorem denL_two {p q : PV} {vs : List Value} {h : Heap} (d : DenL w X h [p, q] vs) : ∃ v u, vs = [v, u] ∧ Den w X h p v ∧ Den w X h q u := by
  obtain ⟨v, r, rfl, d1, d2⟩ := d.inv_cons
  obtain ⟨u, rfl, d3⟩ := denL_one d2
  exact ⟨v, u, rfl, d1, d3⟩
theorem denL_three {p q r : PV} {vs : List Value} {h : Heap} (d : DenL w X h [p, q, r] vs) : ∃ v u z, vs = [v, u, z] ∧ Den w X h p v ∧ Den w X h q u ∧ Den w X h r z := by
  obtain ⟨v, r, rfl, d1, d2⟩ := d.inv_cons
  obtain ⟨u, z, rfl, d3, d4⟩ := denL_two d2
  exact ⟨v, u, z, rfl, d1, d3, d4⟩

theorem ints_den {h : Heap} : ∀ {vs : List PV} {ns : List Int} {us : List Value}, ints? vs = some ns → DenL w X h vs us → vs = ns.map PV.int
  | [], ns, _, e, _ => by simp [ints?] at e; subst e; rfl
  | .int i :: r, ns, us, e, d => by
    simp only [ints?, Option.map_eq_some_iff] at e
    obtain ⟨ms, hm, rfl⟩ := e
    obtain ⟨_, _, rfl, _, d2⟩ := d.inv_cons
    rw [ints_den hm d2]; rfl
  | .none :: _, _, _, e, _ | .bool _ :: _, _, _, e, _ | .str _ :: _, _, _, e, _ | .bytes _ :: _, _, _, e, _ | .tuple _ :: _, _, _, e, _ | .list _ :: _, _, _, e, _ | .dict _ :: _, _, _, e, _ | .range .. :: _, _, _, e, _ | .type _ :: _, _, _, e, _ => by simp [ints?] at e
theorem ints_map (ns : List Int) : ints? (ns.map PV.int) = some ns := by
  induction ns with
  | nil => rfl
  | cons a r ih => simp [ints?, ih]

theorem min_of {ns : List Int} {M : Int} (h1 : M ∈ ns) (h2 : ∀ a ∈ ns, M ≤ a) : minInts ns = M := by
  induction ns with
  | nil => cases h1
  | cons a r ih =>
    cases r with
    | nil => simp at h1; simp [minInts, h1]
    | cons b r =>
      have e : minInts (a :: b :: r) = min a (minInts (b :: r)) := rfl
      rw [e]
      by_cases hm : M ∈ b :: r
      · rw [ih hm fun x hx => h2 x (List.mem_cons_of_mem _ hx)]
        have := h2 a List.mem_cons_self
        omega
      · have hMa : M = a := by
          rcases List.mem_cons.mp h1 with h | h
          · exact h
          · exact absurd h hm
        subst hMa
        have : M ≤ minInts (b :: r) := by
          clear ih e hm h1
          induction r generalizing b with
          | nil => exact h2 b (by simp)
          | cons c r ih2 =>
            have e : minInts (b :: c :: r) = min b (minInts (c :: r)) := rfl
            rw [e]
            have h3 := ih2 c fun x hx => h2 x (by simp at hx ⊢; rcases hx with h | h | h <;> simp [h])
            have h4 := h2 b (by simp)
            omega
        omega

theorem iter_ints {xs : List PV} {ns : List Int} {I : Addr} {h : Heap} {fp : List Addr} {P : Nat → Value → Prop} {St : Nat → Heap → Prop} (it : IterAt prog w X xs I h fp P St) (e : xs = ns.map PV.int) :
    ∀ i v, P i v → ∃ t, v = .int (ns.getD i 0) t := fun i v hp => by
  obtain ⟨p, hp, d⟩ := it.item X i v h (fun _ _ hx _ e => ⟨hx, e⟩) hp
  subst e
  simp at hp
  obtain ⟨a, ha, rfl⟩ := hp
  obtain ⟨t, rfl⟩ := den_int d
  exact ⟨t, by simp [ha]⟩

theorem preSum_getD : ∀ (ns : List Int), preSum (fun i => ns.getD i 0) ns.length = ns.sum := by
  intro ns
  have key : ∀ (k : Nat), k ≤ ns.length → preSum (fun i => ns.getD i 0) k = (ns.take k).sum := by
    intro k
    induction k with
    | zero => intro _; simp [preSum]
    | succ k ih =>
      intro hk
      have hk' : k < ns.length := hk
      rw [preSum, ih (by omega), List.take_succ_eq_append_getElem hk', List.sum_append]
      simp [hk']
  rw [key _ (Nat.le_refl _), List.take_length]

theorem bcall_op {b : BI} {vs : List Value} {ps : List PV} (hh : A.handled = none) (hX : Xlt X s.heap) (d : DenL w X s.heap ps vs) (h : bcallW b ps K) (hq : Post w X s K Q) :
    wpAny (model prog w) A (call b.val vs) Q E s := by
  cases b with
  | len =>
    obtain ⟨p, rfl, h⟩ := as1.inv h
    cases p with
    | str x =>
      obtain ⟨v, rfl, dv⟩ := denL_one d
      obtain ⟨hz, t, rfl⟩ := den_str dv
      exact PySem.P.len_str (by have := sizeLine_fit hz; omega) (hq _ _ _ h (keeps_tk s _) mk_int)
    | list vs =>
      obtain ⟨v, rfl, dv⟩ := denL_one d
      obtain ⟨hz, a, us, n, rfl, _, hg, dl⟩ := den_list dv
      refine Calls.call_len_list (lst_isList hg) (by rw [List.size_toArray, dl.length]; exact sizeLine_fit hz) ?_
      rw [List.size_toArray, dl.length]
      exact hq _ _ _ h (keeps_tk s _) mk_int
    | tuple vs =>
      obtain ⟨v, rfl, dv⟩ := denL_one d
      obtain ⟨hz, a, us, n, rfl, _, hg, dl⟩ := den_tuple dv
      refine PyProof.Rows.len_tuple (tup_isTup hg) (by rw [List.size_toArray, dl.length]; exact sizeLine_fit hz) ?_
      rw [List.size_toArray, dl.length]
      exact hq _ _ _ h (keeps_tk s _) mk_int
    | _ => exact False.elim h
  | min =>
    rcases ps with _ | ⟨p, _ | ⟨q, r⟩⟩
    · exact False.elim h
    · obtain ⟨vs, rfl, h⟩ := asL.inv h
      obtain ⟨v, rfl, dv⟩ := denL_one d
      obtain ⟨ns, hn, h⟩ := h.elim
      obtain ⟨hne, h⟩ := h.elim
      obtain ⟨_, _, _, _, rfl, _, _, dl⟩ := den_list dv
      have e := ints_den hn dl
      refine call_min_walk (iter_op (Kl := fun xs => xs = ns.map PV.int) hX dv e ?_)
      intro xs s' fp P St hxs hk it
      subst hxs
      have hv := iter_ints it rfl
      refine ⟨_, fp, [s.heap.objs.size], _, P, St, _, rfl, it.walks _ hh, it.start, it.old, ?_, CmpOf.ints_lt (fun i => ns.getD i 0) hv, fun v h' tk hP hk' => ?_⟩
      · rw [List.length_map]; exact List.length_pos_iff.mpr hne
      · obtain ⟨t, rfl⟩ := hv _ _ hP
        obtain ⟨h1, h2⟩ := argBest_lt (fun i => ns.getD i 0) ((ns.map PV.int).length - 1)
        have hpos : 0 < ns.length := List.length_pos_iff.mpr hne
        have em := min_of (ns := ns) (M := ns.getD (argBest (fun i j => decide (ns.getD i 0 < ns.getD j 0)) ((ns.map PV.int).length - 1)) 0) ?_ ?_
        · rw [← em]
          obtain ⟨hp, tk0, rfl, hk0⟩ := hk
          exact hq _ _ _ h (keeps_of fun b o e => hk' b o (by simpa using Nat.ne_of_lt (Heap.lt_size e)) (hk0 b o e)) mk_int
        · rw [List.length_map] at h1 ⊢
          rw [List.getD_eq_getElem?_getD, List.getElem?_eq_getElem (by omega)]
          exact List.getElem_mem _
        · intro a ha
          obtain ⟨j, hj, rfl⟩ := List.getElem_of_mem ha
          have := h2 j (by rw [List.length_map]; omega)
          simpa [hj] using this
    · obtain ⟨a, rfl, h⟩ := asI.inv h; obtain ⟨b, rfl, h⟩ := asI.inv h
      rcases r with _ | ⟨c, _ | ⟨u, r⟩⟩
      · change K (.int (if b < a then b else a)) at h
        obtain ⟨v, u, rfl, d1, d2⟩ := denL_two d
        obtain ⟨t, rfl⟩ := den_int d1; obtain ⟨t', rfl⟩ := den_int d2
        refine min_two_ints hh fun h' tk hk => ?_
        split <;> rename_i hc <;> simp only [hc, if_true, if_false] at h
        · exact hq _ _ _ h (keeps_of hk) mk_int
        · exact hq _ _ _ h (keeps_of hk) mk_int
      · obtain ⟨c, rfl, h⟩ := asI.inv h
        obtain ⟨v, u, z, rfl, d1, d2, d3⟩ := denL_three d
        obtain ⟨t, rfl⟩ := den_int d1; obtain ⟨t', rfl⟩ := den_int d2; obtain ⟨t'', rfl⟩ := den_int d3
        refine min_three_ints hh fun h' tk hk => ?_
        refine hq _ _ _ h (keeps_of hk) ?_
        split <;> split <;> (simp only [Den]; exact ⟨_, by congr 1; omega⟩)
      · exact False.elim h
  | range =>
    rcases ps with _ | ⟨p, r⟩
    · exact False.elim h
    obtain ⟨a, rfl, h⟩ := asI.inv h
    rcases r with _ | ⟨q, r⟩
    · obtain ⟨v, rfl, dv⟩ := denL_one d
      obtain ⟨t, rfl⟩ := den_int dv
      refine call_range_1 ?_
      refine hq _ _ _ h (keeps_push s _ _) ?_
      simp only [Den]
      exact ⟨_, _, _, _, rfl, hX.new (Nat.le_refl _), IsRange.new ..⟩
    obtain ⟨b, rfl, h⟩ := asI.inv h
    rcases r with _ | ⟨c, _ | ⟨u, r⟩⟩
    · obtain ⟨v, u, rfl, d1, d2⟩ := denL_two d
      obtain ⟨t, rfl⟩ := den_int d1; obtain ⟨t', rfl⟩ := den_int d2
      refine call_range_2 ?_
      refine hq _ _ _ h (keeps_push s _ _) ?_
      simp only [Den]
      exact ⟨_, _, _, _, rfl, hX.new (Nat.le_refl _), IsRange.new ..⟩
    · obtain ⟨c, rfl, h⟩ := asI.inv h
      obtain ⟨v, u, z, rfl, d1, d2, d3⟩ := denL_three d
      obtain ⟨⟨hc, hc'⟩, h⟩ := h.elim
      obtain ⟨t, rfl⟩ := den_int d1; obtain ⟨t', rfl⟩ := den_int d2; obtain ⟨t'', rfl⟩ := den_int d3
      refine PySem.call_range_3 hc ?_ (.inl (PyProof.noPylong_small hc'))
      refine hq _ _ _ h (keeps_push s _ _) ?_
      simp only [Den]
      exact ⟨_, _, _, _, rfl, hX.new (Nat.le_refl _), IsRange.new ..⟩
    · exact False.elim h
  | list =>
    obtain ⟨p, rfl, h⟩ := as1.inv h
    cases p with
    | range a b c =>
      obtain ⟨v, rfl, dv⟩ := denL_one d
      obtain ⟨⟨h1, h2, h3⟩, h⟩ := h.elim
      obtain ⟨r, t, u, z, rfl, hx, hg⟩ := den_range dv
      have hn : ((Builtin.Range.rangeSize a b c).toNat : Int) = Builtin.Range.rangeSize a b c := Int.toNat_of_nonneg h2
      refine call_list_range (n := (Builtin.Range.rangeSize a b c).toNat) hh hg h1 hn.symm (by have := sizeLine_eq; omega) fun h' tk acc' c' hk hg' hit => ?_
      refine hq _ _ _ h (keeps_of hk) ?_
      refine mk_list (us := acc'.toList) (n := c') ?_ (hX.new (Nat.le_refl _)) hg' (DenL.of_get ?_ ?_)
      · simp [rangeItems]; omega
      · simp [rangeItems, hit.1]
      · intro i p v hp hv
        obtain ⟨t, rfl⟩ := hit.2 i v (by simpa using hv)
        simp only [rangeItems, List.getElem?_map, Option.map_eq_some_iff] at hp
        obtain ⟨j, hj, rfl⟩ := hp
        obtain ⟨hi, rfl⟩ := List.getElem?_eq_some_iff.mp hj
        simp only [List.getElem_range]
        exact mk_int
    | list vs =>
      obtain ⟨v, rfl, dv⟩ := denL_one d
      obtain ⟨hz, a, us, n, rfl, _, hg, dl⟩ := den_list dv
      refine call_list_seq a (.inl rfl) hg rfl rfl (fun h' c' hk hg' => ?_) (by rw [List.size_toArray, dl.length]; exact hz)
      refine hq _ _ _ h (keeps_of hk) ?_
      exact mk_list hz (hX.new (Nat.le_refl _)) hg' (dl.keeps hk)
    | _ => exact False.elim h
  | sum =>
    obtain ⟨p, rfl, h⟩ := as1.inv h
    obtain ⟨vs, rfl, h⟩ := asL.inv h
    obtain ⟨v, rfl, dv⟩ := denL_one d
    obtain ⟨ns, hn, h⟩ := h.elim
    obtain ⟨_, _, _, _, rfl, _, _, dl⟩ := den_list dv
    have e := ints_den hn dl
    refine call_sum_walkG (iter_op (Kl := fun xs => xs = ns.map PV.int) hX dv e ?_)
    intro xs s' fp P St hxs hk it
    subst hxs
    have hv := iter_ints it rfl
    refine ⟨_, fp, [s.heap.objs.size], _, P, St, _, rfl, it.walks _ hh, it.start, it.old, hv, fun h' tk t' hk' => ?_⟩
    rw [List.length_map, preSum_getD]
    obtain ⟨hp, tk0, rfl, hk0⟩ := hk
    exact hq _ _ _ h (keeps_of fun b o e => hk' b o (by simpa using Nat.ne_of_lt (Heap.lt_size e)) (hk0 b o e)) mk_int
  | chr =>
    obtain ⟨p, rfl, h⟩ := as1.inv h
    obtain ⟨i, rfl, h⟩ := asI.inv h
    obtain ⟨v, rfl, dv⟩ := denL_one d
    obtain ⟨⟨h1, h2⟩, h⟩ := h.elim
    obtain ⟨t, rfl⟩ := den_int dv
    exact PyProof.Rows.chr_of_range h1 h2 (hq _ _ _ h (keeps_tk s _) (mk_str (by show 1 ≤ sizeLine; have := sizeLine_eq; omega)))
  | type =>
    obtain ⟨p, rfl, h⟩ := as1.inv h
    obtain ⟨v, rfl, dv⟩ := denL_one d
    obtain ⟨k, hk, h⟩ := h.elim
    cases p with
    | none => rw [den_none dv]; cases hk; exact call_type_of (Tx := "NoneType") rfl (by decide) (hq _ _ _ h (keeps_refl s) mk_type)
    | bool b => rw [den_bool dv]; cases hk; exact call_type_of (Tx := "bool") rfl (by decide) (hq _ _ _ h (keeps_refl s) mk_type)
    | int i => obtain ⟨t, rfl⟩ := den_int dv; cases hk; exact call_type_of (Tx := "int") rfl (by decide) (hq _ _ _ h (keeps_refl s) mk_type)
    | str x => obtain ⟨_, t, rfl⟩ := den_str dv; cases hk; exact call_type_of (Tx := "str") rfl (by decide) (hq _ _ _ h (keeps_refl s) mk_type)
    | list vs => obtain ⟨_, a, us, n, rfl, _, hg, dl⟩ := den_list dv; cases hk; exact call_type_of (Tx := "list") ⟨_, hg, rfl⟩ (by decide) (hq _ _ _ h (keeps_refl s) mk_type)
    | tuple vs => obtain ⟨_, a, us, n, rfl, _, hg, dl⟩ := den_tuple dv; cases hk; exact call_type_of (Tx := "tuple") ⟨_, hg, rfl⟩ (by decide) (hq _ _ _ h (keeps_refl s) mk_type)
    | _ => cases hk
end
end Mine
namespace Mine

/-- the item at a place -/
noncomputable def itemAt {α : Type} (xs : List α) (i : Int) : Option α := (seqIndex? i xs.length).bind (xs[·]?)
noncomputable def idxW (p q : PV) (K : PV → Prop) : Prop := match p with
  | .str x => asI q fun i => Ex (itemAt x.cps.toList i) fun c => K (.str ⟨#[c]⟩)
  | .list vs => asI q fun i => Ex (itemAt vs i) K
  | .tuple vs => asI q fun i => Ex (itemAt vs i) K
  | _ => False
noncomputable def sliceW (p : PV) (lo hi st : Option Int) (K : PV → Prop) : Prop := match p with
  | .str x => (match st with | none => K (.str (Txt.slice x lo hi)) | some _ => False)
  | .list vs => Ob (st ≠ some 0) (K (.list (sliceL vs lo hi st)))
  | _ => False
/-- a part of a slice -/
noncomputable def partOf : PV → Option (Option Int)
  | .none => some none
  | .int i => some (some i)
  | _ => none

section
variable {prog : Program} {w : World} {A : Around} {E : Value → Shared → Prop} {s : Shared} {X : Excl} {Q : Value → Shared → Prop} {K : PV → Prop}

theorem subscripted_op (slice : Expr) (o i : Value) : ∃ ops, subscripted slice false o i = operate ops (getItem o i) := by
  cases slice with
  | Slice a b c p => cases c <;> exact ⟨_, rfl⟩
  | _ => exact ⟨_, rfl⟩
theorem seqIndex_range {i : Int} {n k : Nat} (h : seqIndex? i n = some k) : k < n ∧ ((0 ≤ i ∧ k = i.toNat ∧ i < n) ∨ (i < 0 ∧ k = (i + n).toNat ∧ -(n : Int) ≤ i)) := by
  unfold seqIndex? at h
  by_cases hi : i < 0
  · simp only [hi, if_true] at h
    split at h
    · rename_i hc
      simp only [Bool.and_eq_true, decide_eq_true_eq] at hc
      cases h
      omega
    · cases h
  · simp only [hi, if_false] at h
    split at h
    · rename_i hc
      simp only [Bool.and_eq_true, decide_eq_true_eq] at hc
      cases h
      omega
    · cases h

theorem idx_op {value slice : Expr} {v u : Value} {p q : PV} (d : Den w X s.heap p v) (e : Den w X s.heap q u) (h : idxW p q K) (hq : Post w X s K Q) :
    wpAny (model prog w) A (subscriptTail value slice v u) Q E s := by
  obtain ⟨ops, hs⟩ := subscripted_op slice v u
  cases p with
  | str x =>
    obtain ⟨i, rfl, h⟩ := asI.inv h
    obtain ⟨hz, t, rfl⟩ := den_str d
    obtain ⟨t', rfl⟩ := den_int e
    obtain ⟨c, hc, h⟩ := h.elim
    refine tail_any (typeIs_str s _ _) PySem.F.slot_str_getitem.lookup (PySem.P.getItem_str (c := c) ?_ ?_ (hq _ _ _ h (keeps_tk s _) (mk_str (by show 1 ≤ sizeLine; have := sizeLine_eq; omega)))) hs
    · unfold itemAt at hc
      obtain ⟨k, hk, hc⟩ := Option.bind_eq_some_iff.mp hc
      obtain ⟨h1, h2⟩ := seqIndex_range hk
      have hz' := sizeLine_fit hz
      simp only [Str.length, ← Array.length_toList] at hz'
      rw [Bool.or_eq_false_iff]
      exact ⟨decide_eq_false (by omega), decide_eq_false (by omega)⟩
    · unfold itemAt at hc
      simpa [Str.length] using hc
  | list vs =>
    obtain ⟨i, rfl, h⟩ := asI.inv h
    obtain ⟨hz, a, us, n, rfl, hx, hg, dl⟩ := den_list d
    obtain ⟨t', rfl⟩ := den_int e
    obtain ⟨c, hc, h⟩ := h.elim
    have hz' := sizeLine_fit hz
    unfold itemAt at hc
    obtain ⟨k, hk, hc⟩ := Option.bind_eq_some_iff.mp hc
    obtain ⟨hv, hu, du⟩ := dl.get hc
    obtain ⟨h1, h2⟩ := seqIndex_range hk
    refine tail_any ((lst_isList hg).typeIs) slot_list_getitem.lookup ?_ hs
    rcases h2 with ⟨h2, rfl, h3⟩ | ⟨h2, rfl, h3⟩
    · exact wpAny_getItem_list (lst_isList hg) h2 (by omega) (by simpa using hu) (hq _ _ _ h (keeps_refl s) du)
    · refine wpAny_getItem_list_neg (lst_isList hg) h2 ?_ (by omega) ?_ (hq _ _ _ h (keeps_refl s) du)
      · rw [List.size_toArray, dl.length]; exact h3
      · rw [List.size_toArray, dl.length]; simpa using hu
  | tuple vs =>
    obtain ⟨i, rfl, h⟩ := asI.inv h
    obtain ⟨hz, a, us, n, rfl, hx, hg, dl⟩ := den_tuple d
    obtain ⟨t', rfl⟩ := den_int e
    obtain ⟨c, hc, h⟩ := h.elim
    have hz' := sizeLine_fit hz
    unfold itemAt at hc
    obtain ⟨k, hk, hc⟩ := Option.bind_eq_some_iff.mp hc
    obtain ⟨hv, hu, du⟩ := dl.get hc
    obtain ⟨h1, h2⟩ := seqIndex_range hk
    refine tail_any (T := "tuple") ⟨_, hg, rfl⟩ PySem.F.slot_tuple_getitem.lookup ?_ hs
    refine PySem.P.getItem_tuple (n := n) hg ?_ ?_ (by rw [List.size_toArray, dl.length]; exact hk) (by simpa using hu) (hq _ _ _ h (keeps_refl s) du)
    · omega
    · omega
  | _ => exact False.elim h

theorem part_is {h : Heap} {p : PV} {v : Value} {o : Option Int} (d : Den w X h p v) (e : partOf p = some o) : ∃ q : Option (Int × Tok), v = partValue q ∧ q.map (·.1) = o := by
  cases p with
  | none => rw [den_none d]; cases e; exact ⟨none, rfl, rfl⟩
  | int i => obtain ⟨t, rfl⟩ := den_int d; cases e; exact ⟨some (i, t), rfl, rfl⟩
  | _ => cases e
theorem isPart_of {q : Option (Int × Tok)} : IsPart (partValue q) (q.map (·.1)) := by
  cases q with
  | none => exact .none
  | some p => exact .int _ _

theorem sliceL_den {h : Heap} {ps : List PV} {us : List Value} (d : DenL w X h ps us) (lo hi st : Option Int) : DenL w X h (sliceL ps lo hi st) (sliceL us lo hi st) := by
  unfold sliceL
  rw [d.length]
  generalize sliceRange _ _ _ = l
  induction l with
  | nil => exact .nil
  | cons a l ih =>
    simp only [List.filterMap_cons]
    cases hp : ps[a]? with
    | none =>
      have : us[a]? = none := by
        rw [List.getElem?_eq_none_iff] at hp ⊢
        rw [d.length]; exact hp
      rw [this]; exact ih
    | some p =>
      obtain ⟨v, hv, dv⟩ := d.get hp
      rw [hv]
      exact .cons dv ih

theorem sliceL_length {α : Type} (xs : List α) (lo hi st : Option Int) : (sliceL xs lo hi st).length ≤ xs.length := by
  unfold sliceL
  refine Nat.le_trans (List.length_filterMap_le _ _) ?_
  refine sliceRange_length_le _ _ _ _ (fun hp => ?_) (fun hm => ?_)
  · simp only [sliceBounds] at hp ⊢
    cases lo <;> cases hi <;> simp only [hp, if_true] <;> (constructor <;> (try split) <;> omega)
  · simp only [sliceBounds] at hm ⊢
    cases lo <;> cases hi <;> simp only [hm, if_false] <;> (constructor <;> (try split) <;> omega)

theorem slice_op {value slice : Expr} {v : Value} {p : PV} {lo hi st : Option (Int × Tok)} (hX : Xlt X s.heap) (d : Den w X s.heap p v) {sl : Addr}
    (hs : s.heap.get? sl = some { cls := .type "slice", data := .fields #[partValue lo, partValue hi, partValue st] })
    (h : sliceW p (lo.map (·.1)) (hi.map (·.1)) (st.map (·.1)) K) (hq : Post w X s K Q) :
    wpAny (model prog w) A (subscriptTail value slice v (.ref sl)) Q E s := by
  obtain ⟨ops, ho⟩ := subscripted_op slice v (.ref sl)
  generalize hl : lo.map (·.1) = l at h
  generalize hh : hi.map (·.1) = u at h
  generalize hst : st.map (·.1) = t at h
  cases p with
  | str x =>
    cases t with
    | some _ => exact h.elim
    | none =>
    obtain ⟨hz, t, rfl⟩ := den_str d
    refine tail_any (typeIs_str s _ _) PySem.F.slot_str_getitem.lookup (wpAny_getItem_str_slice (l := lo) (u := hi) (st := st) ⟨_, hs, rfl, rfl⟩ (by rw [hst]; rfl) ?_) ho
    have e1 : (st.map (·.1)).getD 1 = 1 := by rw [hst]; rfl
    have e2 : sliceMade x t lo hi st = if ((1 : Int) == 1 && (Builtin.Str.strSliceIndices l u 1 x.length).length == x.length) = true then Made.val (.str x t) else Made.str ⟨((Builtin.Str.strSliceIndices l u 1 x.length).filterMap (x.cps[·]?)).toArray⟩ := by
      unfold sliceMade slicePicked
      rw [e1, hl, hh]
    rw [e2]
    have hlen : (Txt.slice x l u).length ≤ sizeLine := Nat.le_trans (Txt.slice_le x l u) hz
    exact post_val_or_str ⟨hlen, fun t' k => hq _ _ _ h (keeps_tk s _) (mk_str hlen)⟩
  | list vs =>
    obtain ⟨hz, a, us, n, rfl, hx, hg, dl⟩ := den_list d
    obtain ⟨h0, h⟩ := Ob.elim h
    refine tail_any ((lst_isList hg).typeIs) slot_list_getitem.lookup ?_ ho
    refine wpAny_getItem_list_slice (lo := lo.map (·.1)) (hi := hi.map (·.1)) (st := st.map (·.1)) (lst_isList hg) ⟨_, hs, rfl, rfl⟩ isPart_of isPart_of isPart_of (by rw [hst]; exact h0) ?_ (by rw [List.size_toArray, dl.length]; exact hz)
    rw [hl, hh, hst]
    have e : slicePick us.toArray l u t = (sliceL us l u t).toArray := by
      unfold slicePick sliceL
      simp
    rw [e]
    exact alloc_den hX h hq fun hx => mk_list (Nat.le_trans (sliceL_length _ _ _ _) hz) hx (n := 0) (us := sliceL us l u t) (Heap.get?_push_size _ rfl) ((sliceL_den dl _ _ _).keeps fun _ _ e => Heap.get?_push_of_some _ e)
  | _ => cases t <;> exact h.elim
end
end Mine
namespace Mine

/-! ### names -/
noncomputable def eqNats : List Nat → List Nat → Bool
  | [], [] => true
  | a :: as, b :: bs => match Nat.beq a b with
    | true => eqNats as bs
    | false => false
  | _, _ => false
theorem eqNats_iff : ∀ (a b : List Nat), eqNats a b = true ↔ a = b
  | [], [] => by simp [eqNats]
  | [], _ :: _ => by simp [eqNats]
  | _ :: _, [] => by simp [eqNats]
  | a :: as, b :: bs => by
    unfold eqNats
    cases h : Nat.beq a b with
    | true =>
      have : a = b := Nat.eq_of_beq_eq_true h
      subst this
      simp [eqNats_iff as bs]
    | false =>
      have : a ≠ b := Nat.ne_of_beq_eq_false h
      simp [this]
noncomputable def nmEq (a b : Str) : Bool := eqNats a.cps.toList b.cps.toList
theorem nmEq_iff (a b : Str) : nmEq a b = true ↔ a = b := by
  unfold nmEq
  rw [eqNats_iff]
  constructor
  · intro h
    cases a; cases b
    exact congrArg Str.mk (Array.toList_inj.mp h)
  · rintro rfl; rfl

inductive LV where
  | val (p : PV)
  | own (vs : List PV)
  | ownd (es : List (Str × PV))
noncomputable abbrev Loc := List (Str × LV)
noncomputable def get : Loc → Str → Option LV
  | [], _ => none
  | (y, v) :: r, x => match nmEq y x with
    | true => some v
    | false => get r x
noncomputable def set : Loc → Str → LV → Loc
  | [], x, v => [(x, v)]
  | (y, u) :: r, x, v => match nmEq y x with
    | true => (y, v) :: r
    | false => (y, u) :: set r x v
theorem get_set (σ : Loc) (x y : Str) (v : LV) : get (set σ x v) y = if y = x then some v else get σ y := by
  induction σ with
  | nil =>
    simp only [set, get]
    cases h : nmEq x y with
    | true => rw [(nmEq_iff x y).mp h]; simp
    | false =>
      have : ¬ y = x := fun e => by rw [(nmEq_iff x y).mpr e.symm] at h; cases h
      simp [this]
  | cons a r ih =>
    obtain ⟨z, u⟩ := a
    simp only [set]
    cases h : nmEq z x with
    | true =>
      have hz := (nmEq_iff z x).mp h
      subst hz
      simp only [get]
      cases h2 : nmEq z y with
      | true => rw [(nmEq_iff z y).mp h2]; simp
      | false =>
        have : ¬ y = z := fun e => by rw [(nmEq_iff z y).mpr e.symm] at h2; cases h2
        simp [this]
    | false =>
      simp only [get]
      rw [ih]
      cases h2 : nmEq z y with
      | true =>
        have hz := (nmEq_iff z y).mp h2
        subst hz
        have : ¬ z = x := fun e => by rw [(nmEq_iff z x).mpr e] at h; cases h
        simp [this]
      | false => simp

inductive VK where
  | loc | glob
noncomputable abbrev Sc := List (Str × NameKind)
noncomputable def kd : Sc → Str → Option VK
  | [], _ => none
  | (y, k) :: r, x => match nmEq y x with
    | true => (match k with | .local | .cell | .free => some .loc | .globalImplicit => some .glob | .globalExplicit => none)
    | false => kd r x
noncomputable def vkOf : Option NameKind → Option VK
  | some .local | some .cell | some .free => some .loc
  | some .globalImplicit => some .glob
  | _ => none
theorem kd_lookup (sc : Sc) (x : Str) : kd sc x = vkOf (sc.lookup x) := by
  induction sc with
  | nil => rfl
  | cons a r ih =>
    obtain ⟨y, k⟩ := a
    simp only [kd, List.lookup_cons]
    cases h : nmEq y x with
    | true =>
      rw [(nmEq_iff y x).mp h]
      simp only [beq_self_eq_true]
      cases k <;> rfl
    | false =>
      have : (x == y) = false := by
        rw [beq_eq_false_iff_ne]
        exact fun e => by rw [(nmEq_iff y x).mpr e.symm] at h; cases h
      simp only [this]
      exact ih

noncomputable abbrev PSpec := List PV → (PV → Prop) → Prop
/-- what the text's top holds: its defs (by their contracts), its constants -/
structure GC where
  fn : Str → Option PSpec
  const : Str → Option PV

structure Wd where
  prog : Program
  w : World
  p : Program
  loose : List Str
  mean : ExcName → Option Value
  mg : Str → Option Value
  mb : Str → Option Value
  top : Heap
  T : Top p loose mean mg mb top

noncomputable abbrev Wd.M (W : Wd) : Model := model W.prog W.w

structure Room (d : Nat) (A : Around) : Prop where
  handled : A.handled = none
  depth : A.depth + d ≤ 900
  units : A.units + 64 * d ≤ 9000
theorem Room.less {d e : Nat} {A : Around} (r : Room d A) (h : e ≤ d) : Room e A := ⟨r.handled, by have := r.depth; omega, by have := r.units; omega⟩

noncomputable def LDen (prog : Program) (w : World) (X M : Excl) (h : Heap) : LV → Value → Prop
  | .val p, v => Den w X h p v
  | .own vs, v => vs.length ≤ sizeLine ∧ ∃ a us n, v = .ref a ∧ M a ∧ h.get? a = some (lstObj us n) ∧ DenL w X h vs us
  | .ownd es, v => es.length ≤ 1000 ∧ ∃ a kvs, v = .ref a ∧ M a ∧ h.DictOf (strKind prog w) a kvs ∧ kvs.map (·.1) = es.map (·.1) ∧ DenL w X h (es.map (·.2)) (kvs.map (·.2))
theorem LDen.keeps {prog : Program} {w : World} {X M : Excl} {h h' : Heap} (hk : ∀ b o, h.get? b = some o → h'.get? b = some o) {l : LV} {v : Value} (d : LDen prog w X M h l v) : LDen prog w X M h' l v := by
  cases l with
  | val p => exact Den.keeps hk d
  | own vs => obtain ⟨hz, a, us, n, e, m, g, dl⟩ := d; exact ⟨hz, a, us, n, e, m, hk _ _ g, dl.keeps hk⟩
  | ownd es => obtain ⟨hz, a, us, e, m, g, e2, dl⟩ := d; exact ⟨hz, a, us, e, m, g.keep hk, e2, dl.keeps hk⟩

theorem LDen.move {prog : Program} {w : World} {X X' M : Excl} {h h' : Heap} (hk : ∀ b o, h.get? b = some o → h'.get? b = some o) (hx : ∀ a o, ¬ X a → h.get? a = some o → ¬ X' a) {l : LV} {v : Value} (d : LDen prog w X M h l v) : LDen prog w X' M h' l v := by
  cases l with
  | val p => exact Den.move (fun a o ha e => ⟨hx a o ha e, hk a o e⟩) d
  | own vs => obtain ⟨hz, a, us, n, e, m, g, dl⟩ := d; exact ⟨hz, a, us, n, e, m, hk _ _ g, dl.move fun a o ha e => ⟨hx a o ha e, hk a o e⟩⟩
  | ownd es => obtain ⟨hz, a, us, e, m, g, e2, dl⟩ := d; exact ⟨hz, a, us, e, m, g.keep hk, e2, dl.move fun a o ha e => ⟨hx a o ha e, hk a o e⟩⟩

noncomputable def ReadsName (env : Env) (h : Heap) (x : Str) (v : Value) : Prop := match env.kindOf x with
  | some .local => ∃ m, h.Ns env.locals m ∧ m x = some v
  | some .cell | some .free => ∃ c, env.cells.lookup x = some c ∧ h.IsCell c (some v)
  | _ => False
theorem ReadsName.keeps {env : Env} {h h' : Heap} {x : Str} {v : Value} (hk : ∀ b o, h.get? b = some o → h'.get? b = some o) (r : ReadsName env h x v) : ReadsName env h' x v := by
  unfold ReadsName at r ⊢
  split at r
  · obtain ⟨m, hn, e⟩ := r; exact ⟨m, hn.keeps hk, e⟩
  · obtain ⟨c, hl, e⟩ := r; exact ⟨c, hl, e.keeps hk⟩
  · obtain ⟨c, hl, e⟩ := r; exact ⟨c, hl, e.keeps hk⟩
  · exact r.elim

structure EnvOk (env : Env) (sc : Sc) : Prop where
  kind : env.scope.kind = .function
  globals : env.globals = mainGlobals
  builtins : env.builtins = builtinsNs
  kinds : ∀ x, env.kindOf x = sc.lookup x ∨ (sc.lookup x = some .free ∧ env.kindOf x = some .cell)
  noDebug : kd sc (Str.ofString "__debug__") = none
  cells : ∀ x, env.kindOf x = some .cell ∨ env.kindOf x = some .free → ∃ c, env.cells.lookup x = some c
  noClass : kd sc (Str.ofString "__classdict__") = none

theorem EnvOk.names {env : Env} {sc : Sc} (e : EnvOk env sc) (x : Str) : vkOf (env.kindOf x) = kd sc x := by
  rw [kd_lookup]
  rcases e.kinds x with h | ⟨h1, h2⟩
  · rw [h]
  · rw [h1, h2]; rfl

noncomputable def Vis (prog : Program) (w : World) (env : Env) (X M : Excl) (σ : Loc) (h : Heap) : Prop :=
  ∀ x l, get σ x = some l → vkOf (env.kindOf x) = some .loc → ∃ v, ReadsName env h x v ∧ LDen prog w X M h l v
theorem Vis.keeps {prog : Program} {w : World} {env : Env} {X M : Excl} {σ : Loc} {h h' : Heap} (hk : ∀ b o, h.get? b = some o → h'.get? b = some o) (V : Vis prog w env X M σ h) : Vis prog w env X M σ h' :=
  fun x l e k => let ⟨v, r, d⟩ := V x l e k; ⟨v, r.keeps hk, d.keeps hk⟩

/-- the state in which an expression is reckoned -/
structure ES (W : Wd) (A : Around) (d : Nat) (X M : Excl) (env : Env) (sc : Sc) (σ : Loc) (s : Shared) : Prop where
  room : Room d A
  top : ∀ b o, W.top.get? b = some o → s.heap.get? b = some o
  eok : EnvOk env sc
  xlt : Xlt X s.heap
  mx : ∀ a, M a → X a
  vis : Vis W.prog W.w env X M σ s.heap
  tok : 1 ≤ s.toks
theorem ES.after {W : Wd} {A : Around} {d : Nat} {X M : Excl} {env : Env} {sc : Sc} {σ : Loc} {s s' : Shared} (x : ES W A d X M env sc σ s) (k : Keeps s s') (t : s.toks ≤ s'.toks) : ES W A d X M env sc σ s' :=
  ⟨x.room, fun b o e => keeps_mem k b o (x.top b o e), x.eok, x.xlt.keeps (keeps_mem k), x.mx, x.vis.keeps (keeps_mem k), Nat.le_trans x.tok t⟩
end Mine
namespace Mine

noncomputable abbrev WE := Sc → Expr → Loc → (PV → Prop) → Prop
noncomputable abbrev WT := Sc → Expr → Loc → (Bool → Prop) → Prop

noncomputable def EOk (W : Wd) (d : Nat) (f : WE) : Prop :=
  ∀ A E s X M env sc e σ K Q, ES W A d X M env sc σ s → f sc e σ K → Post W.w X s K Q → wpAny W.M A (eval e env) Q E s
noncomputable def TOk (W : Wd) (d : Nat) (f : WT) : Prop :=
  ∀ A E s X M env sc e σ (K : Bool → Prop) Q, ES W A d X M env sc σ s → f sc e σ K → (∀ b s', K b → Keeps s s' → Q b s') → wpAny W.M A (isTrue e env (eval e env)) Q E s

structure CallOK (W : Wd) (d : Nat) (f : Str) (spec : PSpec) : Prop where
  get : ∃ a, W.mg f = some (.ref a) ∧ (∃ o fd, W.top.get? a = some o ∧ o.data = .func fd) ∧
    ∀ A E s X vs ps K Q, Room d A → (∀ b o, W.top.get? b = some o → s.heap.get? b = some o) → Xlt X s.heap → 1 ≤ s.toks → DenL W.w X s.heap ps vs → spec ps K →
      Post W.w X s K Q → wpAny W.M A (call (.ref a) vs) Q E s

noncomputable def BI.name : BI → Str
  | .len => Str.ofString "len" | .min => Str.ofString "min" | .range => Str.ofString "range" | .list => Str.ofString "list" | .sum => Str.ofString "sum" | .chr => Str.ofString "chr" | .type => Str.ofString "type"
noncomputable def biOf (x : Str) : List BI → Option BI
  | [] => none
  | b :: r => match nmEq b.name x with
    | true => some b
    | false => biOf x r
noncomputable def allBI : List BI := [.len, .min, .range, .list, .sum, .chr, .type]
theorem biOf_name {x : Str} : ∀ {l : List BI} {b : BI}, biOf x l = some b → b.name = x
  | [], _, e => by cases e
  | c :: r, b, e => by
    simp only [biOf] at e
    cases h : nmEq c.name x with
    | true => rw [h] at e; cases e; exact (nmEq_iff _ _).mp h
    | false => rw [h] at e; exact biOf_name e

structure GOk (W : Wd) (d : Nat) (G : GC) : Prop where
  fn : ∀ f spec, G.fn f = some spec → CallOK W d f spec
  const : ∀ x p, G.const x = some p → ∃ v, W.mg x = some v ∧ ∀ X h, Den W.w X h p v
  bi : ∀ b : BI, W.mg b.name = none ∧ W.mb b.name = some b.val
  int : W.mg (Str.ofString "int") = none ∧ W.mb (Str.ofString "int") = some (.type "int")

section
variable {W : Wd} {A : Around} {d : Nat} {X M : Excl} {env : Env} {sc : Sc} {σ : Loc} {s : Shared} {E : Value → Shared → Prop} {Q : Value → Shared → Prop} {K : PV → Prop} {G : GC} {r : WE} {t : WT}

theorem EOk.tk (h : EOk W d r) {e : Expr} (x : ES W A d X M env sc σ s) (hr : r sc e σ K) (hq : ∀ v p s', K p → Keeps s s' → s.toks ≤ s'.toks → Den W.w X s'.heap p v → Q v s') :
    wpAny W.M A (eval e env) Q E s :=
  wpAny_with_toks (Nat.le_refl _) (h A _ s X M env sc e σ K _ x hr fun v p s' hk ks dn ht => hq v p s' hk ks ht dn)

/-! looking at expressions -/
noncomputable def nameOf? (e : Expr) : Option (Str × Pos) := match e with | .Name x p => some (x, p) | _ => none
theorem nameOf?.inv {e : Expr} {q : Str × Pos} (h : nameOf? e = some q) : e = .Name q.1 q.2 := by
  cases e <;> first | (cases h; rfl) | cases h
noncomputable def sliceOf? (e : Expr) : Option (Option Expr × Option Expr × Option Expr × Pos) := match e with | .Slice lo hi st p => some (lo, hi, st, p) | _ => none
theorem sliceOf?.inv {e : Expr} {q : Option Expr × Option Expr × Option Expr × Pos} (h : sliceOf? e = some q) : e = .Slice q.1 q.2.1 q.2.2.1 q.2.2.2 := by
  cases e <;> first | (cases h; rfl) | cases h
noncomputable def strC? (e : Expr) : Option (Str × Nat × Pos) := match e with | .Constant c k p => (match c with | .str x => some (x, k, p) | _ => none) | _ => none
theorem strC?.inv {e : Expr} {q : Str × Nat × Pos} (h : strC? e = some q) : e = .Constant (.str q.1) q.2.1 q.2.2 := by
  cases e with
  | Constant c k p => cases c <;> first | (cases h; rfl) | cases h
  | _ => cases h
noncomputable def is0 (n : Int) : Bool := match n with
  | .ofNat m => (match m with | 0 => true | _ + 1 => false)
  | .negSucc _ => false
theorem is0.inv {n : Int} (h : is0 n = true) : n = 0 := by
  cases n with
  | ofNat m => cases m <;> first | rfl | cases h
  | negSucc m => cases h
/-- the one clause of a comprehension over one name -/
noncomputable def genOf? (gens : List Comprehension) : Option ((Str × Pos) × Expr × List Expr) := match gens with
  | [] => none
  | g :: r => (match r, nameOf? g.target, is0 g.is_async with
    | [], some q, true => some (q, g.iter, g.ifs)
    | _, _, _ => none)
theorem genOf?.inv {gens : List Comprehension} {q : (Str × Pos) × Expr × List Expr} (h : genOf? gens = some q) : gens = [⟨.Name q.1.1 q.1.2, q.2.1, q.2.2, 0⟩] := by
  rcases gens with _ | ⟨⟨t, it, ifs, n⟩, r⟩
  · cases h
  · simp only [genOf?] at h
    split at h
    · rename_i h2 h3
      cases nameOf?.inv h2
      cases is0.inv h3
      cases h
      rfl
    · cases h

/-! constants and names -/
noncomputable def constW : Const → (PV → Prop) → Prop
  | .none, K => K .none
  | .bool b, K => K (.bool b)
  | .int i, K => K (.int i)
  | .str x, K => match Nat.ble x.length 1000 with
    | true => K (.str x)
    | false => False
  | _, _ => False
theorem le_1000 {n : Nat} (h : Nat.ble n 1000 = true) : n ≤ sizeLine := by
  have := Nat.le_of_ble_eq_true h
  have := sizeLine_eq
  omega
theorem const_ok {c : Const} {k pos} (h : constW c K) (hq : Post W.w X s K Q) : wpAny W.M A (eval (.Constant c k pos) env) Q E s := by
  rw [arm_eval_Constant]
  cases c with
  | none => exact wpAny_pure (hq _ _ _ h (keeps_refl s) mk_none)
  | bool b => exact wpAny_pure (hq _ _ _ h (keeps_refl s) mk_bool)
  | int i => exact wpAny_mkInt (hq _ _ _ h (keeps_tk s _) mk_int)
  | str x =>
    simp only [constW] at h
    split at h
    · rename_i hc
      exact wpAny_mkText (hq _ _ _ h (keeps_tk s _) (mk_str (le_1000 hc)))
    · exact h.elim
  | _ => exact h.elim

noncomputable def nameW (G : GC) (sc : Sc) (σ : Loc) (x : Str) (K : PV → Prop) : Prop :=
  match kd sc x with
  | some .loc => (match get σ x with | some (.val p) => K p | _ => False)
  | some .glob => (match G.const x with
    | some p => K p
    | none => (match nmEq (Str.ofString "int") x with | true => K (.type "int") | false => False))
  | none => False

theorem reads_wp {x : Str} {v : Value} {Qv : Value → Shared → Prop} (ek : EnvOk env sc) (hr : ReadsName env s.heap x v) (h : Qv v s) (hcd : (x == ("__classdict__" : Str)) = false) : wpAny W.M A (loadName env x) Qv E s := by
  unfold ReadsName at hr
  split at hr
  · rename_i hk
    obtain ⟨m, hn, e⟩ := hr
    exact wpAny_loadName_local ek.kind hk hn e h
  · rename_i hk
    obtain ⟨c, hl, e⟩ := hr
    exact wpAny_loadName_cell ek.kind hk hl e h
  · rename_i hk
    obtain ⟨c, hl, e⟩ := hr
    exact wpAny_loadName_free ek.kind hk hl e h hcd
  · exact hr.elim

theorem EnvOk.ne_debug {k : VK} {x : Str} (ek : EnvOk env sc) (h : kd sc x = some k) : (x == ("__debug__" : Str)) = false := by
  rw [beq_eq_false_iff_ne]
  rintro rfl
  rw [ek.noDebug] at h; cases h
theorem EnvOk.ne_class {k : VK} {x : Str} (ek : EnvOk env sc) (h : kd sc x = some k) : (x == ("__classdict__" : Str)) = false := by
  rw [beq_eq_false_iff_ne]
  rintro rfl
  rw [ek.noClass] at h; cases h
theorem glob_kind {x : Str} (ek : EnvOk env sc) (h : kd sc x = some .glob) : env.kindOf x = some .globalImplicit := by
  have := ek.names x
  rw [h] at this
  cases hk : env.kindOf x with
  | none => rw [hk] at this; cases this
  | some k => rw [hk] at this; cases k <;> first | rfl | cases this

theorem nsTop {s : Shared} (hs : ∀ b o, W.top.get? b = some o → s.heap.get? b = some o) (ek : EnvOk env sc) : s.heap.Ns env.globals W.mg ∧ s.heap.Ns env.builtins W.mb := by
  rw [ek.globals, ek.builtins]
  exact ⟨W.T.g.keeps hs, W.T.b.keeps hs⟩

theorem name_ok {x : Str} {pos : Pos} (hG : GOk W d G) (es : ES W A d X M env sc σ s) (h : nameW G sc σ x K) (hq : Post W.w X s K Q) : wpAny W.M A (eval (.Name x pos) env) Q E s := by
  unfold nameW at h
  split at h
  · rename_i hk
    refine wpAny_Name ?_ (es.eok.ne_debug hk)
    split at h
    · rename_i p hg
      obtain ⟨v, hr, dv⟩ := es.vis x _ hg (by rw [es.eok.names, hk])
      exact reads_wp es.eok hr (hq _ _ _ h (keeps_refl s) dv) (es.eok.ne_class hk)
    · exact h.elim
  · rename_i hk
    have hn := nsTop es.top es.eok
    refine Calls.Name_function_global es.eok.kind (glob_kind es.eok hk) ?_ (es.eok.ne_debug hk)
    split at h
    · rename_i p hc
      obtain ⟨v, hv, dv⟩ := hG.const x p hc
      exact Calls.loadGlobal_global hn.1 hv (hq _ _ _ h (keeps_refl s) (dv X s.heap))
    · split at h
      · rename_i hx
        have e := (nmEq_iff _ _).mp hx
        subst e
        exact Calls.loadGlobal_builtin hn.1 hG.int.1 hn.2 hG.int.2 (hq _ _ _ h (keeps_refl s) mk_type)
      · exact h.elim
  · exact h.elim

/-! two operands -/
theorem two_ok {e1 e2 : Expr} {f : PV → PV → (PV → Prop) → Prop} {g : Value → Value → Sem Value} {Q' : Value → Shared → Prop} (hr : EOk W d r) (es : ES W A d X M env sc σ s)
    (hop : ∀ v u p q s', ES W A d X M env sc σ s' → Keeps s s' → Den W.w X s'.heap p v → Den W.w X s'.heap q u → f p q K → wpAny W.M A (g v u) Q' E s')
    (h : r sc e1 σ fun a => r sc e2 σ fun b => f a b K) :
    wpAny W.M A (eval e1 env) (fun a s₁ => wpAny W.M A (eval e2 env) (fun b s₂ => wpAny W.M A (g a b) Q' E s₂) E s₁) E s := by
  refine hr.tk es h fun v p s1 h1 k1 t1 d1 => ?_
  have es1 := es.after k1 t1
  refine hr.tk es1 h1 fun u q s2 h2 k2 t2 d2 => ?_
  exact hop v u p q s2 (es1.after k2 t2) (keeps_trans k1 k2) (d1.keeps (keeps_mem k2)) d2 h2

theorem binop_ok {l rr : Expr} {op : Operator} {pos : Pos} (hr : EOk W d r) (es : ES W A d X M env sc σ s) (h : r sc l σ fun a => r sc rr σ fun b => binW op a b K) (hq : Post W.w X s K Q) :
    wpAny W.M A (eval (.BinOp l op rr pos) env) Q E s :=
  wpAny_BinOp (two_ok (f := fun a b K => binW op a b K) hr es (fun v u p q s' es' k' d1 d2 hf => bin_op es'.xlt d1 d2 hf (hq.after k')) h)

noncomputable def noSet : Expr → Bool
  | .Set .. => false
  | _ => true
theorem marks_of {op : CmpOp} {e : Expr} (h : noSet e = true) : behindInMarks op e = false := by
  cases e <;> first | rfl | cases h
theorem compare_ok {l rr : Expr} {op : CmpOp} {pos : Pos} (hr : EOk W d r) (hs : noSet rr = true) (es : ES W A d X M env sc σ s) (h : r sc l σ fun a => r sc rr σ fun b => cmpW op a b K) (hq : Post W.w X s K Q) :
    wpAny W.M A (eval (.Compare l [op] [rr] pos) env) Q E s :=
  wpAny_Compare1 (two_ok (f := fun a b K => cmpW op a b K) hr es (fun v u p q s' es' k' d1 d2 hf => cmp_op d1 d2 hf (hq.after k')) h) (marks_of hs)

/-! `a or b` as a value -/
noncomputable def boolW (r : Expr → (PV → Prop) → Prop) : BoolOp → List Expr → (PV → Prop) → Prop
  | _, [], _ => False
  | _, [x], K => r x K
  | .Or, x :: rest, K => r x fun v => truthW v fun b => Br b (K v) (boolW r .Or rest K)
  | .And, x :: rest, K => r x fun v => truthW v fun b => Br b (boolW r .And rest K) (K v)
theorem bool_ok {op : BoolOp} {pos : Pos} (hr : EOk W d r) : ∀ {vs : List Expr} {s : Shared} {Q : Value → Shared → Prop}, ES W A d X M env sc σ s → boolW (fun e K => r sc e σ K) op vs K → Post W.w X s K Q →
    wpAny W.M A (boolOp pos op (evalEach vs env)) Q E s
  | [], _, _, _, h, _ => by cases op <;> exact h.elim
  | [x], s, Q, es, h, hq => by
    have h' : r sc x σ K := by cases op <;> exact h
    show wpAny W.M A (eval x env) Q E s
    exact hr _ _ _ _ _ _ _ _ _ _ _ es h' hq
  | x :: y :: rest, s, Q, es, h, hq => by
    show wpAny W.M A (do
      let v ← eval x env
      standAt pos
      let t ← holding [v] (truthy v)
      match op, t with
      | .And, false | .Or, true => pure v
      | _, _ => boolOp pos op (evalEach (y :: rest) env)) Q E s
    cases op with
    | Or =>
      simp only [boolW] at h
      refine wpAny_bind (hr.tk es h fun v p s1 h1 k1 t1 d1 => ?_)
      have es1 := es.after k1 t1
      refine wpAny_bind (wpAny_standAt (wpAny_bind (wpAny_holding (wpAny_with_toks (Nat.le_refl _) (truth_op d1 h1 fun b s2 h2 k2 t2 => ?_)))))
      have h3 := h2.elim
      cases b with
      | true => exact wpAny_pure (hq _ _ _ (h3.1 rfl) (keeps_trans k1 k2) (d1.keeps (keeps_mem k2)))
      | false => exact bool_ok hr (es1.after k2 t2) (h3.2 rfl) (hq.after (keeps_trans k1 k2))
    | And =>
      simp only [boolW] at h
      refine wpAny_bind (hr.tk es h fun v p s1 h1 k1 t1 d1 => ?_)
      have es1 := es.after k1 t1
      refine wpAny_bind (wpAny_standAt (wpAny_bind (wpAny_holding (wpAny_with_toks (Nat.le_refl _) (truth_op d1 h1 fun b s2 h2 k2 t2 => ?_)))))
      have h3 := h2.elim
      cases b with
      | false => exact wpAny_pure (hq _ _ _ (h3.2 rfl) (keeps_trans k1 k2) (d1.keeps (keeps_mem k2)))
      | true => exact bool_ok hr (es1.after k2 t2) (h3.1 rfl) (hq.after (keeps_trans k1 k2))

theorem ifexp_ok {c a b : Expr} {pos : Pos} (hr : EOk W d r) (ht : TOk W d t) (es : ES W A d X M env sc σ s) (h : t sc c σ fun x => Br x (r sc a σ K) (r sc b σ K)) (hq : Post W.w X s K Q) :
    wpAny W.M A (eval (.IfExp c a b pos) env) Q E s := by
  rw [arm_eval_IfExp]
  refine wpAny_bind (wpAny_with_toks (Nat.le_refl _) (ht _ _ _ _ _ _ _ _ _ _ _ es h fun x s1 h1 k1 t1 => ?_))
  have h2 := h1.elim
  cases x with
  | true => exact hr _ _ _ _ _ _ _ _ _ _ _ (es.after k1 t1) (h2.1 rfl) (hq.after k1)
  | false => exact hr _ _ _ _ _ _ _ _ _ _ _ (es.after k1 t1) (h2.2 rfl) (hq.after k1)

/-! several expressions -/
noncomputable def noStar : Expr → Bool
  | .Starred .. => false
  | _ => true
noncomputable def eachW (r : Expr → (PV → Prop) → Prop) : List Expr → (List PV → Prop) → Prop
  | [], K => K []
  | e :: es, K => match noStar e with
    | true => r e fun p => eachW r es fun ps => K (p :: ps)
    | false => False
theorem starEach_plain {e : Expr} {es : List Expr} (h : noStar e = true) : starEach (e :: es) env = (false, eval e env) :: starEach es env := by
  cases e <;> first | rfl | cases h
theorem each_ok {pos : Pos} (hr : EOk W d r) : ∀ {es : List Expr} {s : Shared} {K : List PV → Prop} {Q : List Value → Shared → Prop}, ES W A d X M env sc σ s → eachW (fun e K => r sc e σ K) es K →
    (∀ vs ps s', K ps → Keeps s s' → s.toks ≤ s'.toks → DenL W.w X s'.heap ps vs → Q vs s') → wpAny W.M A (spliced (backTo pos (starEach es env))) Q E s
  | [], s, K, Q, x, h, hq => Calls.spliced_nil (hq _ _ _ h (keeps_refl s) (Nat.le_refl _) .nil)
  | e :: es, s, K, Q, x, h, hq => by
    simp only [eachW] at h
    split at h
    · rename_i hn
      rw [starEach_plain hn]
      show wpAny W.M A (spliced ((false, eval e env) :: backTo pos (starEach es env))) Q E s
      refine Calls.spliced_cons (hr.tk x h fun v p s1 h1 k1 t1 d1 => ?_)
      refine each_ok hr (x.after k1 t1) h1 fun vs ps s2 h2 k2 t2 d2 => ?_
      exact hq _ _ _ h2 (keeps_trans k1 k2) (Nat.le_trans t1 t2) (.cons (d1.keeps (keeps_mem k2)) d2)
    · exact h.elim
theorem eachW_len {f : Expr → (PV → Prop) → Prop} : ∀ {es : List Expr} {K : List PV → Prop}, True := trivial

theorem list_ok {es : List Expr} {pos : Pos} (hr : EOk W d r) (x : ES W A d X M env sc σ s) (h : eachW (fun e K => r sc e σ K) es fun ps => Ob (ps.length ≤ sizeLine) (K (.list ps))) (hq : Post W.w X s K Q) :
    wpAny W.M A (eval (.List es pos) env) Q E s := by
  refine List_ (each_ok hr x h fun vs ps s1 h1 k1 t1 d1 => ?_)
  obtain ⟨hz, h1⟩ := h1.elim
  refine wpAny_newObj_type ?_ (by show vs.toArray.size ≤ sizeLine; rw [List.size_toArray, d1.length]; exact hz)
  exact alloc_den (x.after k1 t1).xlt h1 (hq.after k1) fun hx => mk_list hz hx (n := 0) (us := vs) (Heap.get?_push_size _ rfl) (d1.keeps fun _ _ e => Heap.get?_push_of_some _ e)
theorem tuple_ok {es : List Expr} {n : Nat} {pos : Pos} (hr : EOk W d r) (x : ES W A d X M env sc σ s) (h : eachW (fun e K => r sc e σ K) es fun ps => Ob (ps.length ≤ sizeLine) (K (.tuple ps))) (hq : Post W.w X s K Q) :
    wpAny W.M A (eval (.Tuple es n pos) env) Q E s := by
  refine Tuple_ (each_ok hr x h fun vs ps s1 h1 k1 t1 d1 => ?_)
  obtain ⟨hz, h1⟩ := h1.elim
  refine wpAny_newObj_type ?_ (by show vs.toArray.size ≤ sizeLine; rw [List.size_toArray, d1.length]; exact hz)
  exact alloc_den (x.after k1 t1).xlt h1 (hq.after k1) fun hx => mk_tuple hz hx (n := 0) (us := vs) (Heap.get?_push_size _ rfl) (d1.keeps fun _ _ e => Heap.get?_push_of_some _ e)

/-! an item, a slice -/
theorem item_ok {v i : Expr} {pos : Pos} (hr : EOk W d r) (x : ES W A d X M env sc σ s) (h : r sc v σ fun p => r sc i σ fun q => idxW p q K) (hq : Post W.w X s K Q) :
    wpAny W.M A (eval (.Subscript v i pos) env) Q E s :=
  Subscript_ (two_ok (f := fun a b K => idxW a b K) (g := fun a b => subscriptTail v i a b) hr x (fun v u p q s' es' k' d1 d2 hf => idx_op d1 d2 hf (hq.after k')) h)
end
end Mine
namespace Mine

section
variable {W : Wd} {A : Around} {d : Nat} {X M : Excl} {env : Env} {sc : Sc} {σ : Loc} {s : Shared} {E : Value → Shared → Prop} {Q : Value → Shared → Prop} {K : PV → Prop} {G : GC} {r : WE} {t : WT}

/-! an item of an own list -/
noncomputable def ownItemW (r : Expr → (PV → Prop) → Prop) (sc : Sc) (σ : Loc) (x : Str) (i : Expr) (K : PV → Prop) : Prop :=
  match kd sc x with
  | some .loc => (match get σ x with
    | some (.own vs) => r i fun q => (match q with | .int k => Ex (itemAt vs k) K | _ => False)
    | some (.val p) => r i fun q => idxW p q K
    | _ => False)
  | _ => False
theorem own_item_ok {x : Str} {i : Expr} {p pos : Pos} (hr : EOk W d r) (es : ES W A d X M env sc σ s) (h : ownItemW (fun e K => r sc e σ K) sc σ x i K) (hq : Post W.w X s K Q) :
    wpAny W.M A (eval (.Subscript (.Name x p) i pos) env) Q E s := by
  unfold ownItemW at h
  split at h
  · rename_i hk
    split at h
    · rename_i vs hg
      obtain ⟨v, hrn, hz, a, us, n, rfl, hm, ho, dl⟩ := es.vis x _ hg (by rw [es.eok.names, hk])
      refine Subscript_ (wpAny_Name (reads_wp es.eok hrn ?_ (es.eok.ne_class hk)) (es.eok.ne_debug hk))
      refine hr.tk es h fun u q s1 h1 k1 t1 d1 => ?_
      cases q with
      | int k =>
        obtain ⟨t', rfl⟩ := den_int d1
        obtain ⟨c, hc, h1⟩ := Ex.elim h1
        have hz' := sizeLine_fit hz
        unfold itemAt at hc
        obtain ⟨k', hk', hc⟩ := Option.bind_eq_some_iff.mp hc
        obtain ⟨hv, hu, du⟩ := dl.get hc
        obtain ⟨e1, e2⟩ := seqIndex_range hk'
        have hl := lst_isList (keeps_mem k1 _ _ ho)
        obtain ⟨ops, hs⟩ := subscripted_op i (.ref a) (.int k t')
        refine tail_any hl.typeIs slot_list_getitem.lookup ?_ hs
        rcases e2 with ⟨e2, rfl, e3⟩ | ⟨e2, rfl, e3⟩
        · exact wpAny_getItem_list hl e2 (by omega) (by simpa using hu) (hq _ _ _ h1 k1 (du.keeps (keeps_mem k1)))
        · refine wpAny_getItem_list_neg hl e2 ?_ (by omega) ?_ (hq _ _ _ h1 k1 (du.keeps (keeps_mem k1)))
          · rw [List.size_toArray, dl.length]; exact e3
          · rw [List.size_toArray, dl.length]; simpa using hu
      | _ => exact h1.elim
    · rename_i q hg
      obtain ⟨v, hrn, dv⟩ := es.vis x _ hg (by rw [es.eok.names, hk])
      refine Subscript_ (wpAny_Name (reads_wp es.eok hrn ?_ (es.eok.ne_class hk)) (es.eok.ne_debug hk))
      refine hr.tk es h fun u q' s1 h1 k1 t1 d1 => ?_
      exact idx_op (LDen.keeps (l := .val q) (M := M) (keeps_mem k1) dv) d1 h1 (hq.after k1)
    · exact h.elim
  · exact h.elim

/-! slices -/
noncomputable def partW (r : Expr → (PV → Prop) → Prop) : Option Expr → (Option Int → Prop) → Prop
  | none, K => K none
  | some e, K => r e fun p => Ex (partOf p) K
theorem part_ok {e : Option Expr} {Kp : Option Int → Prop} {Qp : Value → Shared → Prop} (hr : EOk W d r) (es : ES W A d X M env sc σ s) (h : partW (fun e K => r sc e σ K) e Kp)
    (hq : ∀ (q : Option (Int × Tok)) s', Kp (q.map (·.1)) → Keeps s s' → s.toks ≤ s'.toks → Qp (partValue q) s') : wpAny W.M A (evalPart e env) Qp E s := by
  cases e with
  | none => rw [evalPart_none]; exact wpAny_pure (hq none s h (keeps_refl s) (Nat.le_refl _))
  | some e =>
    rw [evalPart_some]
    refine hr.tk es h fun v p s1 h1 k1 t1 d1 => ?_
    obtain ⟨o, ho, h1⟩ := h1.elim
    obtain ⟨q, rfl, hm⟩ := part_is d1 ho
    exact hq q s1 (hm ▸ h1) k1 t1
noncomputable def slicesW (r : Expr → (PV → Prop) → Prop) (v : Expr) (lo hi st : Option Expr) (K : PV → Prop) : Prop :=
  r v fun p => partW r lo fun l => partW r hi fun u => partW r st fun z => sliceW p l u z K
theorem slices_ok {v : Expr} {lo hi st : Option Expr} {p pos : Pos} (hr : EOk W d r) (es : ES W A d X M env sc σ s) (h : slicesW (fun e K => r sc e σ K) v lo hi st K) (hq : Post W.w X s K Q) :
    wpAny W.M A (eval (.Subscript v (.Slice lo hi st p) pos) env) Q E s := by
  refine Subscript_ (hr.tk es h fun v p s1 h1 k1 t1 d1 => ?_)
  have es1 := es.after k1 t1
  refine wpAny_Slice (part_ok hr es1 h1 fun l s2 h2 k2 t2 => ?_)
  have es2 := es1.after k2 t2
  refine part_ok hr es2 h2 fun u s3 h3 k3 t3 => ?_
  have es3 := es2.after k3 t3
  refine part_ok hr es3 h3 fun z s4 h4 k4 t4 => ?_
  have es4 := es3.after k4 t4
  have kk := keeps_trans k2 (keeps_trans k3 (keeps_trans k4 (keeps_push' s4 { cls := .type "slice", data := .fields #[partValue l, partValue u, partValue z] })))
  refine slice_op (lo := l) (hi := u) (st := z) ?_ (d1.keeps (keeps_mem kk)) (Heap.get?_push_size _ rfl) h4 (hq.after (keeps_trans k1 kk))
  exact es4.xlt.keeps fun _ _ e => Heap.get?_push_of_some _ e

/-! calls by name -/
noncomputable def callW (G : GC) (r : Expr → (PV → Prop) → Prop) (sc : Sc) (f : Str) (args : List Expr) (K : PV → Prop) : Prop :=
  match args with
  | [] => False
  | a :: as => (match kd sc f with
    | some .glob => (match G.fn f with
      | some spec => eachW r (a :: as) fun ps => spec ps K
      | none => (match biOf f allBI with
        | some b => eachW r (a :: as) fun ps => bcallW b ps K
        | none => False))
    | _ => False)
theorem any_star : ∀ {es : List Expr} {pos : Pos} {f : Expr → (PV → Prop) → Prop} {Kl : List PV → Prop}, eachW f es Kl → True := fun _ => trivial

theorem evalArgs_ok {f : Value} {a : Expr} {as : List Expr} {pos : Pos} {Ka : List PV → Prop} {Qa : Args → Shared → Prop} (hr : EOk W d r) (es : ES W A d X M env sc σ s) (h : eachW (fun e K => r sc e σ K) (a :: as) Ka)
    (hq : ∀ vs ps s', Ka ps → Keeps s s' → s.toks ≤ s'.toks → DenL W.w X s'.heap ps vs → Qa ⟨vs, []⟩ s') : wpAny W.M A (evalArgs f true (backTo pos (starEach (a :: as) env)) (backToKw pos (keywordEach [] env))) Qa E s := by
  have h' := h
  simp only [eachW] at h
  split at h
  · rename_i hn
    rw [starEach_plain hn]
    refine Calls.evalArgs_plain ?_
    have e : backTo pos (starEach (a :: as) env) = (false, eval a env) :: backTo pos (starEach as env) := by rw [starEach_plain hn]; rfl
    exact e ▸ each_ok (pos := pos) hr es h' hq
  · exact h.elim

theorem starEach_any : ∀ {es : List Expr} {pos : Pos} {f : Expr → (PV → Prop) → Prop} (hn : ∀ e ∈ es, noStar e = true), (backTo pos (starEach es env)).any (·.1) = false
  | [], _, _, _ => rfl
  | e :: es, pos, f, hn => by
    rw [starEach_plain (hn e List.mem_cons_self)]
    show (false || (backTo pos (starEach es env)).any (·.1)) = false
    rw [Bool.false_or]
    exact starEach_any (f := f) fun x hx => hn x (List.mem_cons_of_mem _ hx)
noncomputable def noStars (es : List Expr) : Bool := es.all noStar

noncomputable def callW' (G : GC) (r : Expr → (PV → Prop) → Prop) (sc : Sc) (f : Str) (args : List Expr) (K : PV → Prop) : Prop :=
  match noStars args with
  | true => callW G r sc f args K
  | false => False

theorem call_ok {f : Str} {p pos : Pos} {args : List Expr} (hG : GOk W d G) (hr : EOk W d r) (es : ES W A d X M env sc σ s) (h : callW' G (fun e K => r sc e σ K) sc f args K) (hq : Post W.w X s K Q) :
    wpAny W.M A (eval (.Call (.Name f p) args [] pos) env) Q E s := by
  unfold callW' at h
  split at h
  · rename_i hns
    unfold callW at h
    cases args with
    | nil => exact h.elim
    | cons a as =>
      simp only at h
      split at h
      · rename_i hk
        have hn := nsTop es.top es.eok
        refine wpAny_Call_Name_kw (Calls.Name_function_global es.eok.kind (glob_kind es.eok hk) ?_ (es.eok.ne_debug hk))
        have hst : (backTo pos (starEach (a :: as) env)).any (·.1) = false := starEach_any (f := fun _ _ => True) (List.all_eq_true.mp hns)
        split at h
        · rename_i spec hf
          obtain ⟨fa, hfa, ⟨o, fd, hto, hod⟩, hc⟩ := (hG.fn f spec hf).get
          refine Calls.loadGlobal_global hn.1 hfa ?_
          refine Calls.callWith_function (o := o) (fd := fd) (evalArgs_ok hr es h fun vs ps s1 h1 k1 t1 d1 => ?_)
          have es1 := es.after k1 t1
          exact ⟨⟨es1.top _ _ hto, hod⟩, hc A E s1 X vs ps K Q es1.room es1.top es1.xlt es1.tok d1 h1 (hq.after k1)⟩
        · split at h
          · rename_i b hb
            have hbn := biOf_name hb
            have hbi := hG.bi b
            rw [hbn] at hbi
            refine Calls.loadGlobal_builtin hn.1 hbi.1 hn.2 hbi.2 ?_
            have fin : wpAny W.M A (evalArgs b.val true (backTo pos (starEach (a :: as) env)) (backToKw pos (keywordEach [] env))) (fun x s₁ => wpAny W.M A (call b.val ([] ++ x.pos) x.kw) Q E s₁) E s :=
              evalArgs_ok hr es h fun vs ps s1 h1 k1 t1 d1 => by
                have es1 := es.after k1 t1
                exact bcall_op es1.room.handled es1.xlt d1 h1 (hq.after k1)
            cases b with
            | len => exact Calls.callWith_builtin (id := "len") hst fin
            | min => exact Calls.callWith_builtin (id := "min") hst fin
            | range => exact PySem.callWith_type (T := "range") hst fin
            | list => exact PySem.callWith_type (T := "list") hst fin
            | sum => exact Calls.callWith_builtin (id := "sum") hst fin
            | chr => exact Calls.callWith_builtin (id := "chr") hst fin
            | type => exact PySem.callWith_type (T := "type") hst fin
          · exact h.elim
      · exact h.elim
  · exact h.elim

/-! methods of texts -/
inductive SM where
  | lower | join | replace
noncomputable def SM.name : SM → Str
  | .lower => Str.ofString "lower" | .join => Str.ofString "join" | .replace => Str.ofString "replace"
noncomputable def smOf (x : Str) : List SM → Option SM
  | [] => none
  | b :: r => match nmEq b.name x with
    | true => some b
    | false => smOf x r
theorem smOf_name {x : Str} : ∀ {l : List SM} {b : SM}, smOf x l = some b → b.name = x
  | [], _, e => by cases e
  | c :: r, b, e => by
    simp only [smOf] at e
    cases h : nmEq c.name x with
    | true => rw [h] at e; cases e; exact (nmEq_iff _ _).mp h
    | false => rw [h] at e; exact smOf_name e
noncomputable def strs? : List PV → Option (List Str)
  | [] => some []
  | .str i :: r => (strs? r).map (i :: ·)
  | _ => none
theorem strs_map (ns : List Str) : strs? (ns.map PV.str) = some ns := by
  induction ns with
  | nil => rfl
  | cons a r ih => simp [strs?, ih]
theorem strs_den {h : Heap} : ∀ {vs : List PV} {ns : List Str} {us : List Value}, strs? vs = some ns → DenL W.w X h vs us → ∃ l : List (Str × Tok), us = strValues l ∧ l.map (·.1) = ns
  | [], ns, us, e, d => by simp [strs?] at e; subst e; exact ⟨[], d.inv_nil, rfl⟩
  | .str i :: r, ns, us, e, d => by
    simp only [strs?, Option.map_eq_some_iff] at e
    obtain ⟨ms, hm, rfl⟩ := e
    obtain ⟨v, us, rfl, d1, d2⟩ := d.inv_cons
    obtain ⟨_, t, rfl⟩ := den_str d1
    obtain ⟨l, rfl, rfl⟩ := strs_den hm d2
    exact ⟨(i, t) :: l, rfl, rfl⟩
  | .none :: _, _, _, e, _ | .bool _ :: _, _, _, e, _ | .int _ :: _, _, _, e, _ | .bytes _ :: _, _, _, e, _ | .tuple _ :: _, _, _, e, _ | .list _ :: _, _, _, e, _ | .dict _ :: _, _, _, e, _ | .range .. :: _, _, _, e, _ | .type _ :: _, _, _, e, _ => by simp [strs?] at e

noncomputable def smethW (r : Expr → (PV → Prop) → Prop) (o : Expr) (m : Str) (args : List Expr) (K : PV → Prop) : Prop :=
  gs (smOf m [.lower, .join, .replace]) fun sm => match sm with
  | .lower => as0 args (r o fun p => asS p fun x => Ob ((Txt.lower x).length ≤ sizeLine) (K (.str (Txt.lower x)))) fun _ _ => False
  | .join => as1 args fun e => gd (noStar e) (r o fun p => asS p fun x => r e fun q => asL q fun vs => Ex (strs? vs) fun xs => Ob (JoinOk x xs = true) (K (.str (Txt.join x xs))))
  | .replace => as0 args False fun a l => as1 l fun b => gs (strC? a) fun y => gs (strC? b) fun z => r o fun p => asS p fun x =>
      Ob ((y.1 == z.1) = false ∧ x.length + (x.length + 1) * z.1.length ≤ 16777216 ∧ (Txt.replace x y.1 z.1).length ≤ sizeLine) (K (.str (Txt.replace x y.1 z.1)))
noncomputable def noCall : Expr → Bool
  | .Call .. => false
  | _ => true
theorem base_plain {o : Expr} {m : Str} {whole : Sem Value} (h : noCall o = true) : attributeBase o m env whole = whole := by
  cases o <;> first | rfl | cases h

theorem not_too {n : Nat} (h : n ≤ sizeLine) : Builtin.Str.tooLong n = false := by
  have := sizeLine_eq
  simp only [Builtin.Str.tooLong, decide_eq_false_iff_not]
  omega

theorem smeth_ok {o : Expr} {m : Str} {apos pos : Pos} {args : List Expr} (hr : EOk W d r) (hc : noCall o = true) (hl : (apos.endLine == pos.line) = true) (es : ES W A d X M env sc σ s)
    (h : smethW (fun e K => r sc e σ K) o m args K) (hq : Post W.w X s K Q) :
    wpAny W.M A (eval (.Call (.Attribute o m apos) args [] pos) env) Q E s := by
  obtain ⟨sm, hm, h⟩ := gs.inv h
  have e := smOf_name hm
  subst e
  cases sm with
  | lower =>
    rcases args with _ | ⟨a, l⟩
    · refine Call_method0 (base_plain hc) hl (hr.tk es h fun v p s1 h1 k1 t1 d1 => ?_)
      obtain ⟨x, rfl, h1⟩ := asS.inv h1
      obtain ⟨hz, t', rfl⟩ := den_str d1
      obtain ⟨ho, h1⟩ := Ob.elim h1
      exact SB.lower (not_too ho) (hq _ _ _ h1 (keeps_trans k1 (keeps_tk _ _)) (mk_str ho))
    · exact False.elim h
  | join =>
    obtain ⟨e, rfl, h2⟩ := as1.inv (F := fun e => gd (noStar e) (r sc o σ fun p => asS p fun x => r sc e σ fun q => asL q fun vs => Ex (strs? vs) fun xs => Ob (JoinOk x xs = true) (K (.str (Txt.join x xs))))) h
    obtain ⟨hn, h2⟩ := gd.inv h2
    refine Call_method1 (base_plain hc) (starEach_plain hn) hl (hr.tk es h2 fun v p s1 h1 k1 t1 d1 => ?_)
    obtain ⟨x, rfl, h1⟩ := asS.inv h1
    obtain ⟨hz, t', rfl⟩ := den_str d1
    refine SB.join ((hr.tk (es.after k1 t1) h1 fun u q s2 h2 k2 t2 d2 => ?_))
    obtain ⟨vs, rfl, h2⟩ := asL.inv h2
    obtain ⟨xs, hx, h2⟩ := Ex.elim h2
    obtain ⟨hj, h2⟩ := Ob.elim h2
    obtain ⟨hz', a, us, n, rfl, _, hg, dl⟩ := den_list d2
    obtain ⟨l, rfl, rfl⟩ := strs_den hx dl
    exact ⟨a, l, rfl, lst_isList hg, _, rfl, hj, fun t' k => hq _ _ _ h2 (keeps_trans k1 (keeps_trans k2 (keeps_tk _ _))) (mk_str (joinOk_length hj))⟩
  | replace =>
    rcases args with _ | ⟨a, l⟩
    · exact False.elim h
    obtain ⟨b, rfl, h2⟩ := as1.inv (F := fun b => gs (strC? a) fun y => gs (strC? b) fun z => r sc o σ fun p => asS p fun x =>
      Ob ((y.1 == z.1) = false ∧ x.length + (x.length + 1) * z.1.length ≤ 16777216 ∧ (Txt.replace x y.1 z.1).length ≤ sizeLine) (K (.str (Txt.replace x y.1 z.1)))) h
    obtain ⟨⟨y, k0, p0⟩, hy, h2⟩ := gs.inv h2
    obtain ⟨⟨z, k1', p1⟩, hz', h2⟩ := gs.inv h2
    cases strC?.inv hy
    cases strC?.inv hz'
    refine Call_method2 (base_plain hc) rfl hl (hr.tk es h2 fun v p s1 h1 k1 t1 d1 => ?_)
    obtain ⟨x, rfl, h1⟩ := asS.inv h1
    obtain ⟨hz, t', rfl⟩ := den_str d1
    obtain ⟨⟨h2, h3, h4⟩, h1⟩ := Ob.elim h1
    have htok : 1 ≤ s1.toks := Nat.le_trans es.tok t1
    refine ⟨"str", "str.replace", PySem.F.plainAttrs_str, PySem.F.slot_str_replace, PySem.F.type_str_replace, typeIs_str _ _ _, (fun _ e => nomatch e), ?_⟩
    refine Calls.callWith_builtin rfl (Calls.evalArgs_plain (Calls.spliced_cons (Calls.Constant_str (Calls.spliced_cons (Calls.Constant_str (Calls.spliced_nil ?_))))))
    exact SC.replace (Nat.ne_of_gt htok) (Nat.succ_ne_zero _) (Nat.ne_of_lt (Nat.lt_succ_self _)) h2 h3 fun t'' k => hq _ _ _ h1 (keeps_trans k1 (keeps_tk _ _)) (mk_str h4)
end
end Mine
namespace Mine

section
variable {W : Wd} {A : Around} {d : Nat} {X M : Excl} {env : Env} {sc : Sc} {σ : Loc} {s : Shared} {E : Value → Shared → Prop} {Q : Value → Shared → Prop} {K : PV → Prop} {G : GC} {r : WE} {t : WT}

/-! tests -/
noncomputable def plainTest : Expr → Bool
  | .UnaryOp .Not _ _ | .BoolOp .. | .IfExp .. | .Compare .. => false
  | _ => true
noncomputable def allW (t : Expr → (Bool → Prop) → Prop) : BoolOp → List Expr → (Bool → Prop) → Prop
  | .And, [], K => K true
  | .Or, [], K => K false
  | .And, x :: rest, K => t x fun b => Br b (allW t .And rest K) (K false)
  | .Or, x :: rest, K => t x fun b => Br b (K true) (allW t .Or rest K)
noncomputable def plainW (r : WE) (sc : Sc) (e : Expr) (σ : Loc) (K : Bool → Prop) : Prop := gd (plainTest e) (r sc e σ fun p => truthW p K)
noncomputable def stepT (r : WE) (t : WT) : WT := fun sc e σ K => match e with
  | .UnaryOp op x p => (match op with
    | .Not => t sc x σ fun b => K (!b)
    | op => plainW r sc (.UnaryOp op x p) σ K)
  | .BoolOp op xs _ => allW (fun e K => t sc e σ K) op xs K
  | .Compare l ops rs _ => as1 ops fun op => as1 rs fun rr => gd (noSet rr) (r sc l σ fun a => r sc rr σ fun b => cmpW op a b fun c => truthW c K)
  | e => plainW r sc e σ K

theorem TOk.tk {Kb : Bool → Prop} {Qb : Bool → Shared → Prop} (h : TOk W d t) {e : Expr} (x : ES W A d X M env sc σ s) (hr : t sc e σ Kb) (hq : ∀ b s', Kb b → Keeps s s' → s.toks ≤ s'.toks → Qb b s') :
    wpAny W.M A (isTrue e env (eval e env)) Qb E s :=
  wpAny_with_toks (Nat.le_refl _) (h A _ s X M env sc e σ Kb _ x hr fun b s' hk ks ht => hq b s' hk ks ht)

theorem all_ok (ht : TOk W d t) : ∀ {op : BoolOp} {xs : List Expr} {s : Shared} {Kb : Bool → Prop} {Qb : Bool → Shared → Prop}, ES W A d X M env sc σ s → allW (fun e K => t sc e σ K) op xs Kb →
    (∀ b s', Kb b → Keeps s s' → Qb b s') → wpAny W.M A (allTrue op xs env) Qb E s
  | .And, [], s, Kb, Qb, x, h, hq => wpAny_pure (hq _ _ h (keeps_refl s))
  | .Or, [], s, Kb, Qb, x, h, hq => wpAny_pure (hq _ _ h (keeps_refl s))
  | .And, e :: xs, s, Kb, Qb, x, h, hq => by
    rw [arm_allTrue_cons]
    refine wpAny_bind (ht.tk x h fun b s1 h1 k1 t1 => ?_)
    have h2 := h1.elim
    cases b with
    | true => exact all_ok ht (x.after k1 t1) (h2.1 rfl) fun b s' hb ks => hq b s' hb (keeps_trans k1 ks)
    | false => exact wpAny_pure (hq _ _ (h2.2 rfl) k1)
  | .Or, e :: xs, s, Kb, Qb, x, h, hq => by
    rw [arm_allTrue_cons]
    refine wpAny_bind (ht.tk x h fun b s1 h1 k1 t1 => ?_)
    have h2 := h1.elim
    cases b with
    | false => exact all_ok ht (x.after k1 t1) (h2.2 rfl) fun b s' hb ks => hq b s' hb (keeps_trans k1 ks)
    | true => exact wpAny_pure (hq _ _ (h2.1 rfl) k1)

theorem plain_isTrue {e : Expr} (h : plainTest e = true) (whole : Sem Value) : isTrue e env whole = (do let v ← whole; standAt e.pos; holding [v] (truthy v)) := by
  cases e with
  | UnaryOp op x p => cases op <;> first | rfl | cases h
  | BoolOp => cases h
  | IfExp => cases h
  | Compare => cases h
  | _ => rfl

theorem stepT_ok (hr : EOk W d r) (ht : TOk W d t) : TOk W d (stepT r t) := by
  intro A E s X M env sc e σ Kb Qb x h hq
  have plain : ∀ e, plainW r sc e σ Kb → wpAny W.M A (isTrue e env (eval e env)) Qb E s := by
    intro e h
    obtain ⟨hp, h⟩ := gd.inv h
    refine wpAny_isTrue_value ?_ (plain_isTrue hp _)
    refine hr.tk x h fun v p s1 h1 k1 t1 d1 => ?_
    exact truth_op d1 h1 fun b s' hb ks => hq b s' hb (keeps_trans k1 ks)
  cases e with
  | UnaryOp op y p =>
    cases op with
    | Not => exact wpAny_isTrue_Not (ht.tk x h fun b s1 h1 k1 t1 => hq _ _ h1 k1)
    | _ => exact plain _ h
  | BoolOp op xs p => exact wpAny_isTrue_BoolOp (all_ok ht x h hq)
  | Compare l ops rs p =>
    obtain ⟨op, rfl, h2⟩ := as1.inv h
    obtain ⟨rr, rfl, h3⟩ := as1.inv h2
    obtain ⟨hs, h4⟩ := gd.inv h3
    refine wpAny_isTrue_Compare1 ?_ (marks_of hs)
    refine two_ok (f := fun a b K => cmpW _ a b K) (K := fun c => truthW c Kb) hr x (fun v u p q s' es' k' d1 d2 hf => ?_) h4
    refine cmp_op d1 d2 hf fun v p s2 h2 k2 d3 => ?_
    exact truth_op d3 h2 fun b s3 hb ks => hq b s3 hb (keeps_trans k' (keeps_trans k2 ks))
  | _ => exact plain _ h
end
end Mine
namespace Mine

/-! ### list comprehensions -/
noncomputable def testsW (t : Expr → (Bool → Prop) → Prop) : List Expr → (Bool → Prop) → Prop
  | [], K => K true
  | [c], K => t c K
  | _, _ => False
noncomputable def loopW (r : WE) (t : WT) (scn : Sc) (elt : Expr) (x : Str) (ifs : List Expr) (σ : Loc) : List PV → List PV → (List PV → Prop) → Prop
  | [], acc, K => K acc
  | p :: ps, acc, K => testsW (fun c K => t scn c (set σ x (.val p)) K) ifs fun b =>
      Br b (r scn elt (set σ x (.val p)) fun y => loopW r t scn elt x ifs σ ps (acc ++ [y]) K) (loopW r t scn elt x ifs σ ps acc K)

/-- the names of a comprehension's scope: its one name, `.0`, names of the text's top, names from outside that stand in a cell -/
noncomputable def isCF (sc : Sc) (x : Str) : Bool :=
  match sc with
  | [] => false
  | (y, k) :: r => match nmEq y x with
    | true => (match k with | .cell | .free => true | _ => false)
    | false => isCF r x
noncomputable def scopeOk (sc : Sc) (σ : Loc) (x : Str) : Sc → Bool
  | [] => true
  | (y, k) :: r => (match k with
    | .local | .cell => (match nmEq y x with
      | true => true
      | false => (match nmEq y (Str.ofString ".0"), get σ (Str.ofString ".0") with
        | true, none => true
        | _, _ => false))
    | .globalImplicit => true
    | .free => isCF sc y
    | .globalExplicit => false) && scopeOk sc σ x r
noncomputable def nodupNames : Sc → Bool
  | [] => true
  | (y, _) :: r => r.all (fun p => !nmEq y p.1) && nodupNames r
noncomputable def hasTarget (x : Str) : Sc → Bool
  | [] => false
  | (y, k) :: r => (match nmEq y x with
    | true => (match k with | .local | .cell => true | _ => false)
    | false => hasTarget x r)
noncomputable def noBad (sc : Sc) : Bool := (match kd sc (Str.ofString "__debug__"), kd sc (Str.ofString "__classdict__") with | none, none => true | _, _ => false)
noncomputable def compOk (sc : Sc) (σ : Loc) (x : Str) (scope : Scope) (iter : Expr) : Bool :=
  (match scope.kind with | .function => true | _ => false) && scopeOk sc σ x scope.names && nodupNames scope.names && hasTarget x scope.names && noBad scope.names && noSet iter
noncomputable def compW (r : WE) (t : WT) (sc : Sc) (σ : Loc) (elt iter : Expr) (x : Str) (ifs : List Expr) (scope : Scope) (K : PV → Prop) : Prop :=
  match compOk sc σ x scope iter with
  | true => r sc iter σ fun p => iterW p fun xs => loopW r t scope.names elt x ifs σ xs [] fun ys => K (.list ys)
  | false => False

theorem isCF_lookup (x : Str) : ∀ sc : Sc, isCF sc x = true → sc.lookup x = some .cell ∨ sc.lookup x = some .free
  | [], h => by cases h
  | (y, k) :: r, h => by
    simp only [isCF] at h
    simp only [List.lookup_cons]
    cases hn : nmEq y x with
    | true =>
      rw [hn] at h
      rw [(nmEq_iff y x).mp hn]
      simp only [beq_self_eq_true]
      cases k <;> first | (exact .inl rfl) | (exact .inr rfl) | cases h
    | false =>
      rw [hn] at h
      have : (x == y) = false := by
        rw [beq_eq_false_iff_ne]
        exact fun e => by rw [(nmEq_iff y x).mpr e.symm] at hn; cases hn
      simp only [this]
      exact isCF_lookup x r h

theorem scopeOk_mem {sc : Sc} {σ : Loc} {x : Str} : ∀ {l : Sc}, scopeOk sc σ x l = true → ∀ y k, (y, k) ∈ l →
    (k = .globalImplicit) ∨ (k = .free ∧ isCF sc y = true) ∨ ((k = .local ∨ k = .cell) ∧ (y = x ∨ get σ y = none))
  | [], _, _, _, hm => by cases hm
  | (z, j) :: r, h, y, k, hm => by
    simp only [scopeOk, Bool.and_eq_true] at h
    rcases List.mem_cons.mp hm with e | hm
    · cases e
      have h1 := h.1
      cases j with
      | globalImplicit => exact .inl rfl
      | free => exact .inr (.inl ⟨rfl, h1⟩)
      | globalExplicit => cases h1
      | «local» =>
        refine .inr (.inr ⟨.inl rfl, ?_⟩)
        simp only at h1
        split at h1
        · rename_i hn; exact .inl ((nmEq_iff _ _).mp hn)
        · split at h1
          · rename_i hn hg; rw [(nmEq_iff _ _).mp hn]; exact .inr hg
          · cases h1
      | cell =>
        refine .inr (.inr ⟨.inr rfl, ?_⟩)
        simp only at h1
        split at h1
        · rename_i hn; exact .inl ((nmEq_iff _ _).mp hn)
        · split at h1
          · rename_i hn hg; rw [(nmEq_iff _ _).mp hn]; exact .inr hg
          · cases h1
    · exact scopeOk_mem h.2 y k hm
theorem nodup_lookup : ∀ {l : Sc}, nodupNames l = true → ∀ y k, (y, k) ∈ l → l.lookup y = some k
  | [], _, _, _, hm => by cases hm
  | (z, j) :: r, h, y, k, hm => by
    simp only [nodupNames, Bool.and_eq_true, List.all_eq_true] at h
    rw [List.lookup_cons]
    rcases List.mem_cons.mp hm with e | hm2
    · cases e; simp
    · have : (y == z) = false := by
        rw [beq_eq_false_iff_ne]
        intro e
        have h2 := h.1 _ hm2
        rw [e] at h2
        simp [(nmEq_iff z z).mpr rfl] at h2
      rw [this]
      exact nodup_lookup h.2 y k hm2
theorem hasTarget_lookup (x : Str) : ∀ {l : Sc}, hasTarget x l = true → l.lookup x = some .local ∨ l.lookup x = some .cell
  | [], h => by cases h
  | (y, k) :: r, h => by
    simp only [hasTarget] at h
    simp only [List.lookup_cons]
    cases hn : nmEq y x with
    | true =>
      rw [hn] at h
      rw [(nmEq_iff y x).mp hn]
      simp only [beq_self_eq_true]
      cases k <;> first | (exact .inl rfl) | (exact .inr rfl) | cases h
    | false =>
      rw [hn] at h
      have : (x == y) = false := by
        rw [beq_eq_false_iff_ne]
        exact fun e => by rw [(nmEq_iff y x).mpr e.symm] at hn; cases hn
      simp only [this]
      exact hasTarget_lookup x h

/-! the closure -/
noncomputable def clOf (cells : List (Str × Addr)) : Sc → List (Str × Addr) → List (Str × Addr)
  | [], acc => acc
  | (n, k) :: r, acc => if k == .free then clOf cells r ((n, (cells.lookup n).getD 0) :: acc) else clOf cells r acc
theorem closure_is {scope : Scope} {env : Env} (h : ∀ n, (n, NameKind.free) ∈ scope.names → ∃ c, env.cells.lookup n = some c) : closureFor scope env = pure (clOf env.cells scope.names []) := by
  unfold closureFor
  have key : ∀ (l : Sc) (acc : List (Str × Addr)), (∀ n, (n, NameKind.free) ∈ l → ∃ c, env.cells.lookup n = some c) →
      (forIn l acc fun x r => (if x.2 == NameKind.free then (do let a ← cellOf env x.1; pure (ForInStep.yield ((x.1, a) :: r))) else pure (ForInStep.yield r) : Sem (ForInStep (List (Str × Addr))))) = pure (clOf env.cells l acc) := by
    intro l
    induction l with
    | nil => intro acc _; rfl
    | cons a l ih =>
      intro acc hl
      obtain ⟨n, k⟩ := a
      rw [List.forIn_cons]
      by_cases hk : k = .free
      · subst hk
        obtain ⟨c, hc⟩ := hl n List.mem_cons_self
        have e1 : cellOf env n = pure c := by unfold cellOf; rw [hc]
        simp only [clOf, beq_self_eq_true, if_true]
        rw [e1]
        have := ih ((n, c) :: acc) fun m hm => hl m (List.mem_cons_of_mem _ hm)
        rw [hc, Option.getD_some]
        simpa using this
      · have hk' : (k == NameKind.free) = false := by simpa using hk
        simp only [clOf, hk', Bool.false_eq_true, if_false]
        have := ih acc fun m hm => hl m (List.mem_cons_of_mem _ hm)
        simpa using this
  have := key scope.names [] h
  simpa using this
theorem clOf_lookup {cells : List (Str × Addr)} {x : Str} : ∀ {l : Sc} {acc : List (Str × Addr)}, (∀ n, (n, NameKind.free) ∈ l → ∃ c, cells.lookup n = some c) → (acc.lookup x = none ∨ acc.lookup x = cells.lookup x) →
    ((x, NameKind.free) ∈ l ∨ acc.lookup x = cells.lookup x) → (clOf cells l acc).lookup x = cells.lookup x
  | [], acc, _, _, h => by
    rcases h with h | h
    · cases h
    · exact h
  | (n, k) :: r, acc, hc, ha, h => by
    by_cases hk : k = .free
    · subst hk
      simp only [clOf, beq_self_eq_true, if_true]
      obtain ⟨c, e⟩ := hc n List.mem_cons_self
      by_cases hx : x = n
      · subst hx
        refine clOf_lookup (fun m hm => hc m (List.mem_cons_of_mem _ hm)) ?_ ?_ <;> simp [List.lookup_cons, e]
      · have hb : (x == n) = false := by simpa using hx
        refine clOf_lookup (fun m hm => hc m (List.mem_cons_of_mem _ hm)) (by simpa [List.lookup_cons, hb] using ha) ?_
        rcases h with h | h
        · rcases List.mem_cons.mp h with e' | h
          · cases e'; exact absurd rfl hx
          · exact .inl h
        · exact .inr (by simpa [List.lookup_cons, hb] using h)
    · have hk' : (k == NameKind.free) = false := by simpa using hk
      simp only [clOf, hk', Bool.false_eq_true, if_false]
      refine clOf_lookup (fun m hm => hc m (List.mem_cons_of_mem _ hm)) ha ?_
      rcases h with h | h
      · rcases List.mem_cons.mp h with e' | h
        · cases e'; exact absurd rfl hk
        · exact .inl h
      · exact .inr h
end Mine
namespace Mine

theorem cellsFrom_append : ∀ (names : Sc) (n : Nat) (acc : List (Str × Addr)), cellsFrom n names acc = cellsFrom n names [] ++ acc
  | [], _, _ => rfl
  | (y, k) :: r, n, acc => by
    unfold cellsFrom
    split
    · rw [cellsFrom_append r (n + 1) ((y, n) :: acc), cellsFrom_append r (n + 1) [(y, n)]]; simp
    · exact cellsFrom_append r n acc
theorem cellsFrom_has {x : Str} : ∀ {names : Sc} {n : Nat}, (x, NameKind.cell) ∈ names → ∃ c, (cellsFrom n names []).lookup x = some c
  | [], _, h => by cases h
  | (y, k) :: r, n, h => by
    unfold cellsFrom
    split
    · rename_i hk
      rw [cellsFrom_append]
      rcases List.mem_cons.mp h with e | h
      · cases e
        cases hl : (cellsFrom (n + 1) r []).lookup x with
        | some c => exact ⟨c, by rw [List.lookup_append, hl]; rfl⟩
        | none => exact ⟨n, by rw [List.lookup_append, hl]; simp⟩
      · obtain ⟨c, hc⟩ := cellsFrom_has (n := n + 1) h
        exact ⟨c, by rw [List.lookup_append, hc]; rfl⟩
    · rename_i hk
      rcases List.mem_cons.mp h with e | h
      · cases e; exact absurd (by rfl) hk
      · exact cellsFrom_has h
theorem cellsFrom_mem {x : Str} {c : Addr} : ∀ {names : Sc} {n : Nat}, (x, c) ∈ cellsFrom n names [] → (x, NameKind.cell) ∈ names
  | [], _, h => by cases h
  | (y, k) :: r, n, h => by
    unfold cellsFrom at h
    split at h
    · rename_i hk
      rw [cellsFrom_append] at h
      rcases List.mem_append.mp h with h | h
      · exact List.mem_cons_of_mem _ (cellsFrom_mem h)
      · cases List.mem_singleton.mp h
        have : k = NameKind.cell := by simpa using hk
        rw [this]; exact List.mem_cons_self
    · exact List.mem_cons_of_mem _ (cellsFrom_mem h)
theorem pushCells_alive : ∀ (names : Sc) (h : Heap) (a : Addr), h.objs.size ≤ a → a < (pushCells h names).objs.size → ∃ o, (pushCells h names).get? a = some o
  | [], h, a, h1, h2 => absurd h2 (Nat.not_lt.mpr h1)
  | (y, k) :: r, h, a, h1, h2 => by
    unfold pushCells at h2 ⊢
    split
    · rename_i hk
      rw [if_pos hk] at h2
      by_cases ha : a = h.objs.size
      · subst ha
        exact ⟨_, pushCells_keeps r _ _ _ (Heap.get?_push_size _ rfl)⟩
      · exact pushCells_alive r _ a (by rw [Heap.size_push]; exact Nat.lt_of_le_of_ne h1 (Ne.symm ha)) h2
    · rename_i hk
      rw [if_neg hk] at h2
      exact pushCells_alive r h a h1 h2
theorem pushCells_size : ∀ (names : Sc) (h : Heap), h.objs.size ≤ (pushCells h names).objs.size
  | [], _ => Nat.le_refl _
  | (y, k) :: r, h => by
    unfold pushCells
    split
    · exact Nat.le_trans (by rw [Heap.size_push]; exact Nat.le_succ _) (pushCells_size r _)
    · exact pushCells_size r h
theorem wp_compEnv {M : Model} {A : Around} {E : Value → Shared → Prop} {s : Shared} {scope : Scope} {globals : Addr} {cl : List (Str × Addr)} {qual : Str} {outer : Env} {Q : Env → Shared → Prop}
    (h : Q { scope, locals := s.heap.objs.size, globals, cells := cellsFrom (s.heap.objs.size + 1) scope.names cl, qual, func := none, code := outer.code, frame := outer.frame, builtins := outer.builtins }
      { s with heap := pushCells (s.heap.push { cls := .type "dict", data := .dict #[] }) scope.names }) :
    wpAny M A (newFunctionEnv scope globals cl [] qual none .none (some outer)) Q E s := by
  simp only [newFunctionEnv, Option.isSome_some, if_true]
  refine wpAny_bind (wpAny_alloc ?_)
  refine wpAny_bind (wpAny_layCells _ (fun name kind cells => by cases hkc : kind == NameKind.cell <;> simp [hkc]) _ _ _ _ ?_)
  rw [show ({ s with heap := s.heap.push { cls := .type "dict", data := .dict #[] } } : Shared).heap.objs.size = s.heap.objs.size + 1 from Heap.size_push ..]
  exact wpAny_bind (wpAny_pure (wpAny_pure h))

theorem relabel_lookup_aux (env : Env) (x : Str) : ∀ (names : Sc),
    (names.map fun (n, k) => if (k == .free && env.scope.kind == .function && env.kindOf n == some .cell) = true then (n, NameKind.cell) else (n, k)).lookup x
      = (names.lookup x).map fun k => if (k == .free && env.scope.kind == .function && env.kindOf x == some .cell) = true then .cell else k
  | [] => rfl
  | (y, k) :: r => by
    have ih := relabel_lookup_aux env x r
    show List.lookup x ((if (k == .free && env.scope.kind == .function && env.kindOf y == some .cell) = true then (y, NameKind.cell) else (y, k)) :: _) = _
    cases hb : x == y with
    | true =>
      have hx : x = y := by simpa using hb
      subst hx
      by_cases hc : (k == .free && env.scope.kind == .function && env.kindOf x == some .cell) = true
      · rw [if_pos hc]; simp only [List.lookup_cons, beq_self_eq_true, Option.map_some]; rw [if_pos hc]
      · rw [if_neg hc]; simp only [List.lookup_cons, beq_self_eq_true, Option.map_some]; rw [if_neg hc]
    | false =>
      by_cases hc : (k == .free && env.scope.kind == .function && env.kindOf y == some .cell) = true
      · rw [if_pos hc]; simp only [List.lookup_cons, hb]; exact ih
      · rw [if_neg hc]; simp only [List.lookup_cons, hb]; exact ih
theorem relabel_lookup (scope : Scope) (env : Env) (x : Str) :
    (relabel scope env).names.lookup x = (scope.names.lookup x).map fun k => if (k == .free && env.scope.kind == .function && env.kindOf x == some .cell) = true then .cell else k :=
  relabel_lookup_aux env x scope.names

end Mine
namespace Mine

noncomputable def compEnvN (scope : Scope) (env : Env) (C n : Nat) : Env :=
  { scope := relabel scope env, locals := C, globals := env.globals, cells := cellsFrom n scope.names (clOf env.cells scope.names []), qual := env.qual, func := none, code := env.code, frame := env.frame, builtins := env.builtins }

section
variable {W : Wd} {A : Around} {d : Nat} {X M : Excl} {env : Env} {sc : Sc} {σ : Loc} {s : Shared} {E : Value → Shared → Prop} {Q : Value → Shared → Prop} {K : PV → Prop} {G : GC} {r : WE} {t : WT} {scope : Scope} {x : Str}

structure CompFacts (sc : Sc) (σ : Loc) (x : Str) (scope : Scope) : Prop where
  kind : scope.kind = .function
  names : scopeOk sc σ x scope.names = true
  nodup : nodupNames scope.names = true
  target : hasTarget x scope.names = true
  noDebug : kd scope.names (Str.ofString "__debug__") = none
  noClass : kd scope.names (Str.ofString "__classdict__") = none
theorem comp_facts {iter : Expr} (h : compOk sc σ x scope iter = true) : CompFacts sc σ x scope ∧ noSet iter = true := by
  simp only [compOk, Bool.and_eq_true] at h
  obtain ⟨⟨⟨⟨⟨h1, h2⟩, h3⟩, h4⟩, h5⟩, h6⟩ := h
  unfold noBad at h5
  refine ⟨⟨?_, h2, h3, h4, ?_, ?_⟩, h6⟩
  · cases hk : scope.kind <;> first | rfl | (rw [hk] at h1; cases h1)
  · split at h5 <;> first | assumption | cases h5
  · split at h5 <;> first | assumption | cases h5

theorem free_has (F : CompFacts sc σ x scope) (ek : EnvOk env sc) : ∀ n, (n, NameKind.free) ∈ scope.names → ∃ c, env.cells.lookup n = some c := by
  intro n hn
  rcases scopeOk_mem F.names n _ hn with h | ⟨_, h⟩ | ⟨h, _⟩
  · cases h
  · refine ek.cells n ?_
    rcases isCF_lookup n sc h with e | e <;> rcases ek.kinds n with k | ⟨k1, k2⟩
    · exact .inl (k.trans e)
    · exact .inl k2
    · exact .inr (k.trans e)
    · exact .inl k2
  · rcases h with h | h <;> cases h
theorem cells_free (F : CompFacts sc σ x scope) (ek : EnvOk env sc) {C n : Nat} {y : Str} (h : scope.names.lookup y = some .free) : (compEnvN scope env C n).cells.lookup y = env.cells.lookup y := by
  show (cellsFrom n scope.names (clOf env.cells scope.names [])).lookup y = _
  rw [cellsFrom_append, List.lookup_append]
  have hnone : (cellsFrom n scope.names []).lookup y = none := by
    cases hl : (cellsFrom n scope.names []).lookup y with
    | none => rfl
    | some c =>
      have := nodup_lookup F.nodup y _ (cellsFrom_mem (mem_of_lookup hl))
      rw [h] at this; cases this
  rw [hnone, Option.none_or]
  exact clOf_lookup (free_has F ek) (.inl rfl) (.inl (mem_of_lookup h))

theorem compEnv_kind (C n : Nat) (y : Str) : (compEnvN scope env C n).kindOf y = (scope.names.lookup y).map fun k => if (k == .free && env.scope.kind == .function && env.kindOf y == some .cell) = true then .cell else k :=
  relabel_lookup scope env y
theorem compEnv_ok (F : CompFacts sc σ x scope) (ek : EnvOk env sc) (C n : Nat) : EnvOk (compEnvN scope env C n) scope.names where
  kind := F.kind
  globals := ek.globals
  builtins := ek.builtins
  kinds := fun y => by
    rw [compEnv_kind]
    cases hl : scope.names.lookup y with
    | none => exact .inl rfl
    | some k =>
      simp only [Option.map_some]
      split
      · rename_i hc
        simp only [Bool.and_eq_true, beq_iff_eq] at hc
        exact .inr ⟨by rw [hc.1.1], rfl⟩
      · exact .inl rfl
  cells := fun y h => by
    rw [compEnv_kind] at h
    cases hl : scope.names.lookup y with
    | none => rw [hl] at h; rcases h with h | h <;> cases h
    | some k =>
      have hm := mem_of_lookup hl
      have hk : k = .cell ∨ k = .free := by
        rw [hl] at h
        simp only [Option.map_some, Option.some.injEq] at h
        split at h
        · rename_i hc
          simp only [Bool.and_eq_true, beq_iff_eq] at hc
          exact .inr hc.1.1
        · rcases h with h | h
          · exact .inl h
          · exact .inr h
      rcases hk with rfl | rfl
      · obtain ⟨c, hc⟩ := cellsFrom_has (n := n) hm
        refine ⟨c, ?_⟩
        show (cellsFrom n scope.names (clOf env.cells scope.names [])).lookup y = _
        rw [cellsFrom_append, List.lookup_append, hc]; rfl
      · rw [cells_free F ek hl]
        exact free_has F ek y hm
  noDebug := F.noDebug
  noClass := F.noClass

/-- the target can be stored -/
noncomputable def Tg (cenv : Env) (h : Heap) (J : Excl) (x : Str) : Prop :=
  (cenv.kindOf x = some .local ∧ ∃ m, h.Ns cenv.locals m) ∨ (cenv.kindOf x = some .cell ∧ ∃ c v, cenv.cells.lookup x = some c ∧ h.IsCell c v ∧ J c ∧ c ≠ cenv.locals)

theorem store_target {cenv : Env} {J : Excl} {v : Value} {pos : Pos} {Qs : Unit → Shared → Prop} (hk : cenv.scope.kind = .function) (hC : J cenv.locals) (hns : ∃ m, s.heap.Ns cenv.locals m) (T : Tg cenv s.heap J x)
    (hq : ∀ h' tk, (∀ b o, ¬ J b → s.heap.get? b = some o → h'.get? b = some o) → (∀ b, (∃ o, s.heap.get? b = some o) → ∃ o, h'.get? b = some o) → (∃ m, h'.Ns cenv.locals m) → Tg cenv h' J x → ReadsName cenv h' x v →
      (∀ b o, b ≠ cenv.locals → (∀ c, cenv.cells.lookup x = some c → cenv.kindOf x = some .cell → b ≠ c) → s.heap.get? b = some o → h'.get? b = some o) → Qs () { s with heap := h', toks := tk }) :
    wpAny W.M A (assign (.Name x pos) cenv v) Qs E s := by
  have hp : (cenv.scope.kind == .class || (cenv.scope.kind == .module && cenv.locals != cenv.globals)) = false := by rw [hk]; rfl
  rcases T with ⟨hl, m, hn⟩ | ⟨hl, c, v0, hc, hv, hJ, hne⟩
  · refine wpAny_assign_Name (wpAny_storeName_local hl hn (fun h' hn' hs' => ?_) hp)
    refine hq h' _ (fun b o hb e => hs'.extBut b o (fun q => hb (q ▸ hC)) e) (fun b ⟨o, e⟩ => ?_) ⟨_, hn'⟩ (.inl ⟨hl, _, hn'⟩) ?_ (fun b o hb _ e => hs'.extBut b o hb e)
    · by_cases hb : b = cenv.locals
      · subst hb; obtain ⟨o', _, _, g, _⟩ := hn'; exact ⟨o', g⟩
      · exact ⟨o, hs'.extBut b o hb e⟩
    · unfold ReadsName; rw [hl]; exact ⟨_, hn', by simp⟩
  · refine wpAny_assign_Name (wpAny_storeName_cell hk hl hc hv fun h' hv' hs' => ?_)
    obtain ⟨m, hn⟩ := hns
    refine hq h' _ (fun b o hb e => hs'.extBut b o (fun q => hb (q ▸ hJ)) e) (fun b ⟨o, e⟩ => ?_) ⟨m, hn.sameBut hs' (Ne.symm hne)⟩ (.inr ⟨hl, c, _, hc, hv', hJ, hne⟩) ?_ (fun b o hb hb2 e => hs'.extBut b o (hb2 c hc hl) e)
    · by_cases hb : b = c
      · subst hb; obtain ⟨o', g, _⟩ := hv'; exact ⟨o', g⟩
      · exact ⟨o, hs'.extBut b o hb e⟩
    · unfold ReadsName; rw [hl]; exact ⟨c, hc, hv'⟩

/-- the names that a comprehension sees -/
theorem comp_vis {cenv : Env} {C n : Nat} {J : Excl} {h h' : Heap} {v : Value} {p : PV} (hce : cenv = compEnvN scope env C n) (F : CompFacts sc σ x scope) (ek : EnvOk env sc) (V : Vis W.prog W.w env X M σ h)
    (hk : ∀ b o, h.get? b = some o → h'.get? b = some o) (hJ : ∀ a o, h.get? a = some o → ¬ J a) (hr : ReadsName cenv h' x v) (dv : Den W.w (fun a => X a ∨ J a) h' p v) :
    Vis W.prog W.w cenv (fun a => X a ∨ J a) M (set σ x (.val p)) h' := by
  subst hce
  intro y l hg hkd
  rw [get_set] at hg
  by_cases hy : y = x
  · subst hy
    simp at hg; subst hg
    exact ⟨v, hr, dv⟩
  · rw [if_neg hy] at hg
    have hkind := compEnv_kind (scope := scope) (env := env) C n y
    cases hl : scope.names.lookup y with
    | none => rw [hkind, hl] at hkd; cases hkd
    | some k =>
      rcases scopeOk_mem F.names y k (mem_of_lookup hl) with rfl | ⟨rfl, hcf⟩ | ⟨_, h | h⟩
      · rw [hkind, hl] at hkd; cases hkd
      · have hek : env.kindOf y = some .cell ∨ env.kindOf y = some .free := by
          rcases isCF_lookup y sc hcf with e | e <;> rcases ek.kinds y with k | ⟨k1, k2⟩
          · exact .inl (k.trans e)
          · exact .inl k2
          · exact .inr (k.trans e)
          · exact .inl k2
        obtain ⟨u, hru, du⟩ := V y l hg (by rcases hek with e | e <;> rw [e] <;> rfl)
        refine ⟨u, ?_, du.move hk fun a o ha e q => q.elim ha (hJ a o e)⟩
        have hcell : ∃ c, env.cells.lookup y = some c ∧ h.IsCell c (some u) := by
          unfold ReadsName at hru
          rcases hek with e | e <;> (rw [e] at hru; exact hru)
        obtain ⟨c, hc, hcv⟩ := hcell
        have hc' := cells_free F ek (C := C) (n := n) hl
        have hkk : (compEnvN scope env C n).kindOf y = some .cell ∨ (compEnvN scope env C n).kindOf y = some .free := by
          rw [hkind, hl]
          simp only [Option.map_some]
          split
          · exact .inl rfl
          · exact .inr rfl
        unfold ReadsName
        rcases hkk with e | e <;> (rw [e]; exact ⟨c, by rw [hc', hc], hcv.keeps hk⟩)
      · exact absurd h hy
      · rw [h] at hg; cases hg
end
end Mine
namespace Mine

section
variable {W : Wd} {A : Around} {d : Nat} {X M : Excl} {env : Env} {sc : Sc} {σ : Loc} {s : Shared} {E : Value → Shared → Prop} {Q : Value → Shared → Prop} {K : PV → Prop} {G : GC} {r : WE} {t : WT} {scope : Scope} {x : Str}

theorem cellsFrom_ge {x : Str} {c : Addr} : ∀ {names : Sc} {n : Nat}, (x, c) ∈ cellsFrom n names [] → n ≤ c ∧ ∀ h : Heap, h.objs.size = n → c < (pushCells h names).objs.size ∧ (pushCells h names).IsCell c none
  | [], _, h => by cases h
  | (y, k) :: r, n, hm => by
    unfold cellsFrom at hm
    split at hm
    · rename_i hk
      rw [cellsFrom_append] at hm
      rcases List.mem_append.mp hm with hm | hm
      · have ih := cellsFrom_ge hm
        refine ⟨by omega, fun h hn => ?_⟩
        unfold pushCells
        rw [if_pos hk]
        exact ih.2 _ (by rw [Heap.size_push, hn])
      · cases List.mem_singleton.mp hm
        refine ⟨Nat.le_refl _, fun h hn => ?_⟩
        unfold pushCells
        rw [if_pos hk]
        refine ⟨Nat.lt_of_lt_of_le ?_ (pushCells_size r _), ?_⟩
        · rw [Heap.size_push, hn]; exact Nat.lt_succ_self _
        · subst hn
          exact Heap.IsCell.keeps (h := h.push _) ⟨_, Heap.get?_push_size _ rfl, rfl⟩ (pushCells_keeps r _)
    · rename_i hk
      have ih := cellsFrom_ge hm
      refine ⟨ih.1, fun h hn => ?_⟩
      unfold pushCells
      rw [if_neg hk]
      exact ih.2 h hn

noncomputable def testsOf (ifs : List Expr) (env : Env) : Sem Bool := forIn ifs true fun c r => if r = true then do let ok ← isTrue c env (eval c env); pure (ForInStep.yield ok) else pure (ForInStep.yield r)
theorem tests_ok {ifs : List Expr} {Kb : Bool → Prop} {Qb : Bool → Shared → Prop} (ht : TOk W d t) (es : ES W A d X M env sc σ s) (h : testsW (fun c K => t sc c σ K) ifs Kb)
    (hq : ∀ b s', Kb b → Keeps s s' → s.toks ≤ s'.toks → Qb b s') : wpAny W.M A (forIn ifs true fun c r => if r = true then do let ok ← isTrue c env (eval c env); pure (ForInStep.yield ok) else pure (ForInStep.yield r)) Qb E s := by
  match ifs, h with
  | [], h => exact wpAny_tests_nil (hq _ _ h (keeps_refl s) (Nat.le_refl _))
  | [c], h => exact wpAny_tests_one (ht.tk es h hq)

noncomputable def InR (lo hi a : Nat) : Prop := lo ≤ a ∧ a < hi
theorem toN {a b : Nat} (h : a < b) : a < b := h
theorem ltn {h : Heap} {b : Nat} {o : Obj} (e : h.get? b = some o) : b < h.objs.size := Heap.lt_size e
theorem keeps_upd {s1 s' : Shared} {h' : Heap} {tk : Nat} (k : Keeps s1 s') (hk : ∀ (b : Nat) o, b < s1.heap.objs.size → s'.heap.get? b = some o → h'.get? b = some o) : Keeps s1 { s' with heap := h', toks := tk } := by
  obtain ⟨h2, t2, rfl, k2⟩ := k
  exact ⟨h', tk, rfl, fun b o e => hk b o (Heap.lt_size e) (k2 b o e)⟩

/-- the state between two turns of a comprehension -/
structure Turn (W : Wd) (X : Excl) (x : Str) (cenv : Env) (I N : Nat) (fp : List Addr) (St : Nat → Heap → Prop) (s1 s2 s' : Shared) (i : Nat) (acc : List PV) : Prop where
  keeps : Keeps s1 s'
  toks : 1 ≤ s'.toks
  below : ∀ (b : Nat) o, b ≠ I → s2.heap.get? b = some o → s'.heap.get? b = some o
  st : St i s'.heap
  list : ∃ us n, s'.heap.get? (I + 1) = some (lstObj us n) ∧ DenL W.w (fun a => X a ∨ InR I N a) s'.heap acc us
  short : acc.length ≤ i
  ns : ∃ m, s'.heap.Ns cenv.locals m
  tg : Tg cenv s'.heap (InR (I + 2) N) x
  alive : ∀ a : Nat, I ≤ a → a < N → ∃ o, s'.heap.get? a = some o

theorem comp_turns {elt iter : Expr} {ifs : List Expr} {pos px : Pos} {xs : List PV} {fp : List Addr} {P : Nat → Value → Prop} {St : Nat → Heap → Prop} {N C n₀ : Nat} {cenv : Env} {s1 s2 s3 : Shared} {R : Result → Shared → Prop}
    {Kl : List PV → Prop} (hr : EOk W d r) (ht : TOk W d t) (F : CompFacts sc σ x scope) (es : ES W A d X M env sc σ s1) (hI : s2.heap.objs.size = s1.heap.objs.size + 1) (k2 : Keeps s1 s2)
    (it : IterAt W.prog W.w X xs s1.heap.objs.size s2.heap fp P St) (hce : cenv = compEnvN scope env C n₀) (hC : C = s1.heap.objs.size + 2) (hN : C < N)
    (T : Turn W X x cenv s1.heap.objs.size N fp St s1 s2 s3 0 []) (h : loopW r t scope.names elt x ifs σ xs [] Kl)
    (hR : ∀ ys us n s', Kl ys → Keeps s1 s' → (∃ m, s'.heap.Ns C m) → ys.length ≤ sizeLine → s'.heap.get? (s1.heap.objs.size + 1) = some (lstObj us n) → DenL W.w (fun a => X a ∨ InR s1.heap.objs.size N a) s'.heap ys us → R (.ok .next) s') :
    codeAny W.M A (.compLoop (.ListComp elt [⟨.Name x px, iter, ifs, 0⟩] scope pos) 0 (.ref s1.heap.objs.size) (.ref (s1.heap.objs.size + 1)) cenv) R s3 := by
  have hcl : cenv.locals = C := by rw [hce]; rfl
  have hck : cenv.scope.kind = .function := by rw [hce]; exact F.kind
  have hceo : EnvOk cenv scope.names := by rw [hce]; exact compEnv_ok F es.eok C n₀
  refine codeAny_compLoop_tests (fun m s' => ∃ i acc, i + m = xs.length ∧ Turn W X x cenv s1.heap.objs.size N fp St s1 s2 s' i acc ∧ loopW r t scope.names elt x ifs σ (xs.drop i) acc Kl)
    (fun m s' hinv => ?_) xs.length ⟨0, [], by omega, T, h⟩
  obtain ⟨i, acc, him, T, h⟩ := hinv
  have WK := it.walks A es.room.handled
  by_cases hlt : i < xs.length
  case neg =>
    have : i = xs.length := by omega
    subst this
    rw [List.drop_length] at h
    simp only [loopW] at h
    refine WK.done _ _ _ T.st fun h' tk hk => ?_
    obtain ⟨us, n, hg, dl⟩ := T.list
    obtain ⟨m', hm'⟩ := T.ns
    have hkeep : ∀ (b : Nat) o, b ≠ s1.heap.objs.size → s'.heap.get? b = some o → h'.get? b = some o := fun b o hb e => hk b o (by simpa using hb) e
    refine hR acc us n _ h (keeps_upd T.keeps fun b o hb e => hkeep b o (Nat.ne_of_lt hb) e) ⟨m', hcl ▸ hm'.at' fun o e => hkeep _ o (by rw [hcl]; omega) e⟩ (Nat.le_trans T.short it.len) (hkeep _ _ (by omega) hg) (dl.move fun a o ha e => ⟨ha, hkeep a o ?_ e⟩)
    rintro rfl; exact ha (.inr ⟨Nat.le_refl _, by omega⟩)
  case pos =>
    obtain ⟨p, hp⟩ : ∃ p, xs[i]? = some p := ⟨xs[i], by simp [hlt]⟩
    have hdrop : xs.drop i = p :: xs.drop (i + 1) := by
      rw [List.drop_eq_getElem_cons hlt]
      have := hp
      rw [List.getElem?_eq_getElem hlt] at this
      cases this; rfl
    rw [hdrop] at h
    simp only [loopW] at h
    have hJI : ∀ b o, ¬ (X b ∨ InR s1.heap.objs.size N b) → s'.heap.get? b = some o → b ≠ s1.heap.objs.size := by
      rintro b o hb _ rfl
      exact hb (.inr ⟨Nat.le_refl _, by omega⟩)
    refine wpAny_with_toks T.toks (WK.item i _ _ _ hlt T.st fun v h' tk hPv hst hk htk => ?_)
    have hkeep : ∀ (b : Nat) o, b ≠ s1.heap.objs.size → s'.heap.get? b = some o → h'.get? b = some o := fun b o hb e => hk b o (by simpa using hb) e
    have halive : ∀ a : Nat, s1.heap.objs.size ≤ a → a < N → ∃ o, h'.get? a = some o := fun a h1 h2 => by
      by_cases ha : a = s1.heap.objs.size
      · subst ha; exact it.live _ _ hst
      · obtain ⟨o, e⟩ := T.alive a h1 h2; exact ⟨o, hkeep a o ha e⟩
    obtain ⟨m', hm'⟩ := T.ns
    have htg : Tg cenv h' (InR (s1.heap.objs.size + 2) N) x := by
      rcases T.tg with ⟨h1, m, hn⟩ | ⟨h1, c, v, h2, h3, h4, h5⟩
      · exact .inl ⟨h1, m, hn.at' fun o e => hkeep _ o (by rw [hcl]; omega) e⟩
      · exact .inr ⟨h1, c, v, h2, (let ⟨o, e, x⟩ := h3; ⟨o, hkeep _ o (by have := h4.1; omega) e, x⟩), h4, h5⟩
    -- the name is stored
    refine wpAny_with_toks (s := { s' with heap := h', toks := tk }) (Nat.le_refl _) (store_target (s := { s' with heap := h', toks := tk }) (J := InR (s1.heap.objs.size + 2) N) hck (by rw [hcl]; exact ⟨by omega, hN⟩) ⟨m', hm'.at' fun o e => hkeep _ o (by rw [hcl]; omega) e⟩ htg
      fun h4 tk4 hk4 hal4 hns4 htg4 hrd4 hst4 htk4 => ?_)
    have hk14 : ∀ b o, s1.heap.get? b = some o → h4.get? b = some o := fun b o e => by
      have hb := ltn e
      exact hk4 b o (fun q => by have := q.1; omega) (hkeep b o (by omega) (keeps_mem T.keeps b o e))
    have hb4 : ∀ (b : Nat) o, b < s1.heap.objs.size + 2 → b ≠ s1.heap.objs.size → s'.heap.get? b = some o → h4.get? b = some o := fun b o hb hb2 e => hk4 b o (fun q => by have := q.1; omega) (hkeep b o hb2 e)
    have hbelow : ∀ (b : Nat) o, b ≠ s1.heap.objs.size → s2.heap.get? b = some o → h4.get? b = some o := fun b o hb e => by
      have := ltn e
      exact hb4 b o (by omega) hb (T.below b o hb e)
    have hX' : ∀ a, (X a ∨ InR s1.heap.objs.size N a) → ∃ o, h4.get? a = some o := fun a ha => by
      rcases ha with ha | ⟨h1, h2⟩
      · obtain ⟨o, e⟩ := es.xlt a ha; exact ⟨o, hk14 a o e⟩
      · exact hal4 a (halive a h1 h2)
    obtain ⟨q, hq, dv⟩ := it.item (fun a => X a ∨ InR s1.heap.objs.size N a) i v h4 (fun b o hx hb e => ⟨fun hq => hq.elim hx fun hq => by have h1 := ltn e; have h2 := hq.1; exact hb (by show (b : Nat) = s1.heap.objs.size; exact Nat.le_antisymm (by omega) h2), hbelow b o hb e⟩) hPv
    rw [hp] at hq; cases hq
    have es4 : ES W A d (fun a => X a ∨ InR s1.heap.objs.size N a) M cenv scope.names (set σ x (.val p)) { s' with heap := h4, toks := tk4 } :=
      ⟨es.room, fun b o e => hk14 b o (es.top b o e), hceo, hX', fun a ha => .inl (es.mx a ha), comp_vis hce F es.eok es.vis hk14 (fun a o e q => by have := ltn e; have := q.1; omega) hrd4 dv, Nat.le_trans htk htk4⟩
    have st4 : St (i + 1) h4 := WK.frame _ _ _ hst fun b hb o e => by
      have := toN (it.old b hb)
      exact hk4 b o (fun q => by have := q.1; omega) e
    obtain ⟨us, n, hg, dl⟩ := T.list
    have hg4 : h4.get? (s1.heap.objs.size + 1) = some (lstObj us n) := hb4 _ _ (by omega) (by omega) hg
    have dl4 : DenL W.w (fun a => X a ∨ InR s1.heap.objs.size N a) h4 acc us := dl.move fun a o ha e => ⟨ha, hk4 a o (fun q => ha (.inr ⟨by have := q.1; omega, q.2⟩)) (hkeep a o (hJI a o ha e) e)⟩
    have kk4 : Keeps s1 { s' with heap := h4, toks := tk4 } := keeps_upd T.keeps fun b o hb e => hb4 b o (by omega) (by omega) e
    -- the tests
    refine tests_ok ht es4 h fun b s5 h5 k5 t5 => ?_
    have es5 := es4.after k5 t5
    have h5 := h5.elim
    have alive5 : ∀ a : Nat, s1.heap.objs.size ≤ a → a < N → ∃ o, s5.heap.get? a = some o := fun a h1 h2 => let ⟨o, e⟩ := hX' a (.inr ⟨h1, h2⟩); ⟨o, keeps_mem k5 a o e⟩
    have tg_keeps : ∀ {g g' : Heap}, (∀ (b : Nat) o, b ≠ s1.heap.objs.size + 1 → g.get? b = some o → g'.get? b = some o) → Tg cenv g (InR (s1.heap.objs.size + 2) N) x → Tg cenv g' (InR (s1.heap.objs.size + 2) N) x := by
      intro g g' hgg tg
      rcases tg with ⟨h1, m, hn⟩ | ⟨h1, c, v, h2, h3, h4, h5⟩
      · exact .inl ⟨h1, m, hn.at' fun o e => hgg _ o (by rw [hcl]; omega) e⟩
      · exact .inr ⟨h1, c, v, h2, (let ⟨o, e, x⟩ := h3; ⟨o, hgg _ o (by have := h4.1; omega) e, x⟩), h4, h5⟩
    cases b with
    | false =>
      rw [if_neg (by simp)]
      obtain ⟨mm, hmm⟩ := hns4
      exact ⟨xs.length - (i + 1), by omega, i + 1, acc, by omega, ⟨keeps_trans kk4 k5, es5.tok, fun b o hb e => keeps_mem k5 b o (hbelow b o hb e), WK.frame _ _ _ st4 fun b hb o e => keeps_mem k5 b o e,
        ⟨us, n, keeps_mem k5 _ _ hg4, dl4.keeps (keeps_mem k5)⟩, Nat.le_succ_of_le T.short, ⟨mm, hmm.keeps (keeps_mem k5)⟩, tg_keeps (fun b o _ e => keeps_mem k5 b o e) htg4, alive5⟩, h5.2 rfl⟩
    | true =>
      rw [if_pos rfl]
      refine hr.tk es5 (h5.1 rfl) fun u y s6 h6 k6 t6 d6 => ?_
      have k46 := keeps_trans k5 k6
      have hg6 := keeps_mem k46 _ _ hg4
      have dl6 := dl4.keeps (keeps_mem k46)
      have hlen := dl6.length
      have hil := it.len
      have hsh := T.short
      refine wpAny_with_toks (Nat.le_refl _) (wpAny_list_append_plain (items := us.toArray) ⟨n, hg6⟩ (fun h7 hp7 hs7 ht7 => ?_) (by rw [List.size_toArray, hlen]; omega))
      obtain ⟨n', hp7⟩ := hp7
      have hk7 : ∀ (b : Nat) o, b ≠ s1.heap.objs.size + 1 → s6.heap.get? b = some o → h7.get? b = some o := fun b o hb e => by rw [hs7.2 b hb]; exact e
      have hmv : ∀ a o, ¬ (X a ∨ InR s1.heap.objs.size N a) → s6.heap.get? a = some o → ¬ (X a ∨ InR s1.heap.objs.size N a) ∧ h7.get? a = some o := fun a o ha e => ⟨ha, hk7 a o (by rintro rfl; exact ha (.inr ⟨by omega, by omega⟩)) e⟩
      obtain ⟨mm, hmm⟩ := hns4
      refine ⟨xs.length - (i + 1), by omega, i + 1, acc ++ [y], by omega, ⟨keeps_upd (keeps_trans kk4 k46) fun b o hb e => hk7 b o (by omega) e, Nat.le_trans es5.tok (Nat.le_trans t6 ht7), fun b o hb e => hk7 b o ?_ (keeps_mem k46 b o (hbelow b o hb e)), WK.frame _ _ _ st4 fun b hb o e => hk7 b o ?_ (keeps_mem k46 b o e),
        ⟨us ++ [u], n', by rw [hp7]; unfold lstObj; rw [List.push_toArray], (dl6.move hmv).append (.one (d6.move hmv))⟩, by simp; omega, ⟨mm, (hmm.keeps (keeps_mem k46)).at' fun o e => hk7 _ o (by rw [hcl]; omega) e⟩, tg_keeps (fun b o hb e => hk7 b o hb (keeps_mem k46 b o e)) htg4, ?_⟩, h6⟩
      · have := ltn e; omega
      · have := toN (it.old b hb); omega
      · intro a h1 h2
        by_cases ha : a = s1.heap.objs.size + 1
        · subst ha; exact ⟨_, hp7⟩
        · obtain ⟨o, e⟩ := alive5 a h1 h2; exact ⟨o, hk7 a o ha (keeps_mem k6 a o e)⟩
end
end Mine
namespace Mine

section
variable {W : Wd} {A : Around} {d : Nat} {X M : Excl} {env : Env} {sc : Sc} {σ : Loc} {s : Shared} {E : Value → Shared → Prop} {Q : Value → Shared → Prop} {K : PV → Prop} {G : GC} {r : WE} {t : WT} {scope : Scope} {x : Str}

theorem folded_plain {e : Expr} (h : noSet e = true) (v : Value) : foldedSetIterable e env v = pure v := by
  cases e <;> first | rfl | cases h

theorem comp_gen {elt iter : Expr} {ifs : List Expr} {pos px : Pos} {use : Option (Value → Sem Unit)} (hr : EOk W d r) (ht : TOk W d t) (es : ES W A d X M env sc σ s) (h : compW r t sc σ elt iter x ifs scope K)
    (hfin : ∀ ys acc C s', K (.list ys) → Keeps s s' → 1 ≤ s'.toks → (∃ m, s'.heap.Ns C m) → s.heap.get? C = none → Den W.w (fun a => X a ∨ a = C) s'.heap (.list ys) acc →
      compPost W.M A E use Q acc C (.ok .next) s') :
    wpAny W.M A (comprehension (.ListComp elt [⟨.Name x px, iter, ifs, 0⟩] scope pos) scope env (firstIterPos [⟨.Name x px, iter, ifs, 0⟩] pos) (newList []) (firstAsync [⟨.Name x px, iter, ifs, 0⟩]) (firstIter [⟨.Name x px, iter, ifs, 0⟩] env) use) Q E s := by
  unfold compW at h
  split at h
  · rename_i hok
    obtain ⟨F, hns⟩ := comp_facts hok
    refine wpAny_comprehension_free rfl (folded_plain hns) (closure_is (free_has F es.eok)) F.kind (fun y hy hl => nodup_lookup F.nodup _ _ (hl ▸ hy)) ?_
    refine hr.tk es h fun v p s1 h1 k1 t1 d1 => ?_
    have es1 := es.after k1 t1
    refine wpAny_with_toks es1.tok (iter_op es1.xlt d1 h1 fun xs s2 fp P St h2 k2 it tk2 => ?_)
    refine wpAny_newList (wp_compEnv ?_) (by simp)
    have hsz : s2.heap.objs.size = s1.heap.objs.size + 1 := it.newI
    have hD : (s2.heap.push { cls := .type "list", data := .seq #[] }).objs.size = s1.heap.objs.size + 2 := by rw [Heap.size_push, hsz]
    -- the last heap
    generalize hg3 : (s2.heap.push { cls := .type "list", data := .seq #[] }) = g3 at *
    have hk23 : ∀ b o, s2.heap.get? b = some o → g3.get? b = some o := fun b o e => by rw [← hg3]; exact Heap.get?_push_of_some _ e
    have hl3 : g3.get? (s1.heap.objs.size + 1) = some (lstObj [] 0) := by rw [← hg3, ← hsz]; exact Heap.get?_push_size _ rfl
    generalize hg4 : pushCells (g3.push { cls := .type "dict", data := .dict #[] }) scope.names = g4
    have hk34 : ∀ b o, g3.get? b = some o → g4.get? b = some o := fun b o e => by rw [← hg4]; exact pushCells_keeps _ _ _ _ (Heap.get?_push_of_some _ e)
    have hns4 : g4.Ns g3.objs.size (fun _ => none) := by
      rw [← hg4]
      exact (Heap.Ns.new g3 _).keeps fun b o e => pushCells_keeps _ _ _ _ e
    have hsz4 : (g3.push { cls := .type "dict", data := .dict #[] }).objs.size = g3.objs.size + 1 := Heap.size_push ..
    have hN : g3.objs.size < g4.objs.size := by
      rw [← hg4]
      refine Nat.lt_of_lt_of_le ?_ (pushCells_size _ _)
      rw [hsz4]; exact Nat.lt_succ_self _
    have hceq : ({ ({ scope, locals := g3.objs.size, globals := env.globals, cells := cellsFrom (g3.objs.size + 1) scope.names (clOf env.cells scope.names []), qual := env.qual, func := none, code := env.code, frame := env.frame, builtins := env.builtins } : Env) with scope := relabel scope env })
        = compEnvN scope env g3.objs.size (g3.objs.size + 1) := rfl
    have hg3s : g3.objs.size = s1.heap.objs.size + 2 := hD
    have k14 : Keeps s1 { s2 with heap := g4 } := keeps_upd k2 fun b o _ e => hk34 b o (hk23 b o e)
    have T : Turn W X x (compEnvN scope env g3.objs.size (g3.objs.size + 1)) s1.heap.objs.size g4.objs.size fp St s1 s2 { s2 with heap := g4 } 0 [] := by
      refine ⟨k14, tk2, fun b o _ e => hk34 b o (hk23 b o e), ?_, ⟨[], 0, hk34 _ _ hl3, .nil⟩, Nat.le_refl _, ⟨_, hns4⟩, ?_, ?_⟩
      · exact (it.walks A es.room.handled).frame _ _ _ it.start fun b _ o e => hk34 b o (hk23 b o e)
      · have hkd := compEnv_kind (scope := scope) (env := env) g3.objs.size (g3.objs.size + 1) x
        rcases hasTarget_lookup x F.target with e | e
        · exact .inl ⟨by rw [hkd, e]; rfl, _, hns4⟩
        · obtain ⟨c, hc⟩ := cellsFrom_has (n := g3.objs.size + 1) (mem_of_lookup e)
          have hge := cellsFrom_ge (mem_of_lookup hc)
          have hlt := hge.2 (g3.push { cls := .type "dict", data := .dict #[] }) hsz4
          rw [hg4] at hlt
          refine .inr ⟨by rw [hkd, e]; rfl, c, none, ?_, hlt.2, ⟨?_, hlt.1⟩, ?_⟩
          · show (cellsFrom (g3.objs.size + 1) scope.names (clOf env.cells scope.names [])).lookup x = _
            rw [cellsFrom_append, List.lookup_append, hc]; rfl
          · have h1 : g3.objs.size + 1 ≤ c := hge.1
            rw [hg3s] at h1
            exact Nat.le_of_succ_le h1
          · intro e'
            have h1 : g3.objs.size + 1 ≤ c := hge.1
            have h2 : c = g3.objs.size := e'
            rw [h2] at h1
            exact absurd h1 (Nat.not_succ_le_self _)
      · intro a h1 h2
        by_cases ha : a < s2.heap.objs.size
        · have : a = s1.heap.objs.size := by omega
          subst this
          obtain ⟨o, e⟩ := it.live _ _ it.start
          exact ⟨o, hk34 _ _ (hk23 _ _ e)⟩
        · by_cases hb : a < g3.objs.size
          · have : a = s1.heap.objs.size + 1 := by omega
            subst this
            exact ⟨_, hk34 _ _ hl3⟩
          · by_cases hc : a = g3.objs.size
            · subst hc
              obtain ⟨o, _, _, e, _⟩ := hns4
              exact ⟨o, e⟩
            · have := pushCells_alive scope.names (g3.push { cls := .type "dict", data := .dict #[] }) a (by rw [hsz4]; omega) (by rw [hg4]; exact h2)
              rw [hg4] at this
              exact this
    have loop : codeAny W.M A (.compLoop (.ListComp elt [⟨.Name x px, iter, ifs, 0⟩] scope pos) 0 (.ref s1.heap.objs.size) (.ref (s1.heap.objs.size + 1)) (compEnvN scope env g3.objs.size (g3.objs.size + 1))) (compPost W.M A E use Q (.ref (s1.heap.objs.size + 1)) g3.objs.size) { s2 with heap := g4 } := by
      refine codeAny_with_toks (n := 1) tk2 ?_
      refine comp_turns hr ht F es1 hsz k2 it rfl hg3s hN T h2 fun ys us n s' hK hks hns hle hgl hdl htk => ?_
      have hCs : s.heap.get? g3.objs.size = none := by
        cases e : s.heap.get? g3.objs.size with
        | none => rfl
        | some o => have := ltn (keeps_mem k1 _ _ e); omega
      refine hfin ys _ g3.objs.size s' hK (keeps_trans k1 hks) htk hns hCs ?_
      refine mk_list hle (fun q => ?_) hgl (hdl.move fun a o ha e => ⟨?_, e⟩)
      · rcases q with q | q
        · exact es1.xlt.new (Nat.le_succ _) q
        · exact absurd q (Nat.ne_of_lt (by omega))
      · rintro (q | rfl)
        · exact ha (.inl q)
        · exact ha (.inr ⟨by omega, hN⟩)
    rw [hsz]
    exact codeAny_compStart_list loop ((it.walks A es.room.handled).self _ _ _ _ T.st loop)
  · exact h.elim

end
end Mine
namespace Mine

section
variable {W : Wd} {A : Around} {d : Nat} {X M : Excl} {env : Env} {sc : Sc} {σ : Loc} {s : Shared} {E : Value → Shared → Prop} {Q : Value → Shared → Prop} {K : PV → Prop} {G : GC} {r : WE} {t : WT} {scope : Scope} {x : Str}

noncomputable def lookS : List (Str × PV) → Str → Option PV
  | [], _ => none
  | (y, p) :: r, x => match nmEq y x with
    | true => some p
    | false => lookS r x
theorem lookS_den {h : Heap} {k : Str} {p : PV} : ∀ {es : List (Str × PV)} {kvs : List (Str × Value)}, kvs.map (·.1) = es.map (·.1) → DenL W.w X h (es.map (·.2)) (kvs.map (·.2)) → lookS es k = some p →
    ∃ v, valueAt kvs k = some v ∧ Den W.w X h p v
  | [], _, _, _, e => by cases e
  | (y, q) :: r, [], hm, _, _ => by simp at hm
  | (y, q) :: r, (z, v) :: kvs, hm, d, e => by
    simp only [List.map_cons, List.cons.injEq] at hm d
    obtain ⟨rfl, hm⟩ := hm
    obtain ⟨v', r', e', d1, d2⟩ := d.inv_cons
    cases e'
    simp only [lookS] at e
    cases hn : nmEq z k with
    | true =>
      rw [hn] at e
      cases e
      have := (nmEq_iff z k).mp hn
      subst this
      exact ⟨v, by simp [valueAt], d1⟩
    | false =>
      rw [hn] at e
      have hne : ¬ z = k := fun q => by rw [(nmEq_iff z k).mpr q] at hn; cases hn
      obtain ⟨u, hu, du⟩ := lookS_den hm d2 e
      refine ⟨u, ?_, du⟩
      rw [← hu]
      simp [valueAt, hne]

noncomputable def dictItemW (r : Expr → (PV → Prop) → Prop) (es : List (Str × PV)) (i : Expr) (K : PV → Prop) : Prop :=
  r i fun q => (match q with | .str k => Ex (lookS es k) K | _ => False)
noncomputable def itemW (G : GC) (r : Expr → (PV → Prop) → Prop) (sc : Sc) (σ : Loc) (x : Str) (i : Expr) (K : PV → Prop) : Prop :=
  match kd sc x with
  | some .loc => (match get σ x with
    | some (.ownd es) => dictItemW r es i K
    | _ => ownItemW r sc σ x i K)
  | _ => nameW G sc σ x fun p => r i fun q => idxW p q K
theorem itemW_ok {x : Str} {i : Expr} {p pos : Pos} (hG : GOk W d G) (hr : EOk W d r) (es : ES W A d X M env sc σ s) (h : itemW G (fun e K => r sc e σ K) sc σ x i K) (hq : Post W.w X s K Q) :
    wpAny W.M A (eval (.Subscript (.Name x p) i pos) env) Q E s := by
  unfold itemW at h
  split at h
  · rename_i hk
    split at h
    · rename_i ds hg
      unfold dictItemW at h
      obtain ⟨v, hrn, hz, a, kvs, rfl, hm, ho, he, dl⟩ := es.vis x _ hg (by rw [es.eok.names, hk])
      refine Subscript_ (wpAny_Name (reads_wp es.eok hrn ?_ (es.eok.ne_class hk)) (es.eok.ne_debug hk))
      refine hr.tk es h fun u q s1 h1 k1 t1 d1 => ?_
      cases q with
      | str k =>
        obtain ⟨hks, t', rfl⟩ := den_str d1
        obtain ⟨c, hc, h1⟩ := Ex.elim h1
        obtain ⟨u, hu, du⟩ := lookS_den he dl hc
        have ho' := ho.keep (keeps_mem k1)
        obtain ⟨ops, hs⟩ := subscripted_op i (.ref a) (.str k t')
        refine tail_any ho'.typeIs slot_dict_getitem.lookup ?_ hs
        refine wpAny_getItem_of (strKind_is _ _ _ _) ho'.mapOf hu (hq _ _ _ h1 (keeps_trans k1 (keeps_tk _ _)) (du.keeps (keeps_mem k1)))
      | _ => exact h1.elim
    · exact own_item_ok hr es h hq
  · refine Subscript_ (wpAny_with_toks (Nat.le_refl _) (name_ok hG es h fun v p s1 h1 k1 d1 t1 => ?_))
    refine hr.tk (es.after k1 t1) h1 fun u q s2 h2 k2 t2 d2 => ?_
    exact idx_op (d1.keeps (keeps_mem k2)) d2 h2 (hq.after (keeps_trans k1 k2))

theorem listcomp_ok {elt iter : Expr} {ifs : List Expr} {pos px : Pos} (hr : EOk W d r) (ht : TOk W d t) (es : ES W A d X M env sc σ s) (h : compW r t sc σ elt iter x ifs scope K) (hq : Post W.w X s K Q) :
    wpAny W.M A (eval (.ListComp elt [⟨.Name x px, iter, ifs, 0⟩] scope pos) env) Q E s := by
  rw [arm_eval_ListComp]
  refine comp_gen hr ht es h fun ys acc C s' hK hks htk hns hC hden => ?_
  obtain ⟨m, hm⟩ := hns
  refine ⟨m, hm, fun h' hs' => ?_⟩
  have hk' : ∀ b o, b ≠ C → s'.heap.get? b = some o → h'.get? b = some o := fun b o hb e => by rw [hs'.2 b hb]; exact e
  refine hq _ _ _ hK ?_ (hden.move fun a o ha e => ⟨fun q => ha (.inl q), hk' a o (fun q => ha (.inr q)) e⟩)
  obtain ⟨g, tk, rfl, hg⟩ := hks
  exact ⟨h', tk, rfl, fun b o e => hk' b o (by rintro rfl; rw [hC] at e; cases e) (hg b o e)⟩

noncomputable def subW (G : GC) (r : Expr → (PV → Prop) → Prop) (sc : Sc) (σ : Loc) (v i : Expr) (K : PV → Prop) : Prop := match sliceOf? i with
  | some q => slicesW r v q.1 q.2.1 q.2.2.1 K
  | none => (match nameOf? v with
    | some q => itemW G r sc σ q.1 i K
    | none => r v fun p => r i fun q => idxW p q K)
noncomputable def calW (G : GC) (r : Expr → (PV → Prop) → Prop) (sc : Sc) (f : Expr) (args : List Expr) (kws : List Keyword) (pos : Pos) (K : PV → Prop) : Prop := as0 kws (match f with
  | .Name f _ => callW' G r sc f args K
  | .Attribute o m apos => gd (noCall o) (gd (Nat.beq apos.endLine pos.line) (smethW r o m args K))
  | _ => False) fun _ _ => False
noncomputable def stepE (G : GC) (r : WE) (t : WT) : WE := fun sc e σ K => match e with
  | .Constant c _ _ => constW c K
  | .Name x _ => nameW G sc σ x K
  | .BinOp l op rr _ => r sc l σ fun a => r sc rr σ fun b => binW op a b K
  | .BoolOp op xs _ => boolW (fun e K => r sc e σ K) op xs K
  | .Compare l ops rs _ => as1 ops fun op => as1 rs fun rr => gd (noSet rr) (r sc l σ fun a => r sc rr σ fun b => cmpW op a b K)
  | .IfExp c a b _ => t sc c σ fun x => Br x (r sc a σ K) (r sc b σ K)
  | .List es _ => eachW (fun e K => r sc e σ K) es fun ps => Ob (ps.length ≤ sizeLine) (K (.list ps))
  | .Tuple es _ _ => eachW (fun e K => r sc e σ K) es fun ps => Ob (ps.length ≤ sizeLine) (K (.tuple ps))
  | .Subscript v i _ => subW G (fun e K => r sc e σ K) sc σ v i K
  | .Call f args kws pos => calW G (fun e K => r sc e σ K) sc f args kws pos K
  | .ListComp elt gens scope _ => gs (genOf? gens) fun c => compW r t sc σ elt c.2.1 c.1.1 c.2.2 scope K
  | _ => False

theorem stepE_ok (hG : GOk W d G) (hr : EOk W d r) (ht : TOk W d t) : EOk W d (stepE G r t) := by
  intro A E s X M env sc e σ K Q es h hq
  cases e with
  | Constant c k p => exact const_ok h hq
  | Name x p => exact name_ok hG es h hq
  | BinOp l op rr p => exact binop_ok hr es h hq
  | BoolOp op xs p => exact bool_ok hr es h hq
  | Compare l ops rs p =>
    obtain ⟨op, rfl, h2⟩ := as1.inv h
    obtain ⟨rr, rfl, h3⟩ := as1.inv h2
    obtain ⟨hs, h4⟩ := gd.inv h3
    exact compare_ok hr hs es h4 hq
  | IfExp c a b p => exact ifexp_ok hr ht es h hq
  | List es' p => exact list_ok hr es h hq
  | Tuple es' n p => exact tuple_ok hr es h hq
  | Subscript v i p =>
    change subW G (fun e K => r sc e σ K) sc σ v i K at h
    unfold subW at h
    cases hs : sliceOf? i with
    | some q =>
      rw [hs] at h
      cases sliceOf?.inv hs
      exact slices_ok hr es h hq
    | none =>
      rw [hs] at h
      cases hn : nameOf? v with
      | some q =>
        rw [hn] at h
        cases nameOf?.inv hn
        exact itemW_ok hG hr es h hq
      | none =>
        rw [hn] at h
        exact item_ok hr es h hq
  | Call f args kws p =>
    rcases kws with _ | ⟨k, l⟩
    · cases f with
      | Name f q => exact call_ok hG hr es h hq
      | Attribute o m q =>
        obtain ⟨h1, h3⟩ := gd.inv h
        obtain ⟨h2, h4⟩ := gd.inv h3
        exact smeth_ok hr h1 (by simpa using Nat.eq_of_beq_eq_true h2) es h4 hq
      | _ => exact False.elim h
    · exact False.elim h
  | ListComp elt gens scope p =>
    obtain ⟨c, hc, h2⟩ := gs.inv h
    rw [genOf?.inv hc]
    exact listcomp_ok hr ht es h2 hq
  | _ => exact False.elim h
end
end Mine
namespace Mine

section
variable {W : Wd} {A : Around} {d : Nat} {X M M' : Excl} {env : Env} {sc : Sc} {σ : Loc} {s s' : Shared} {E : Value → Shared → Prop} {Q : Value → Shared → Prop} {K : PV → Prop} {G : GC} {r : WE} {t : WT} {scope : Scope} {x : Str}

/-! ### the state between two statements -/
structure FrOk (env : Env) (M : Excl) (h : Heap) : Prop where
  loc : M env.locals ∧ ∃ m, h.Ns env.locals m
  cell : ∀ x, env.kindOf x = some .cell → ∃ c v, env.cells.lookup x = some c ∧ h.IsCell c v ∧ M c
  inj : ∀ x y c, env.kindOf x = some .cell → env.kindOf y = some .cell → env.cells.lookup x = some c → env.cells.lookup y = some c → x = y
  noFree : ∀ x, env.kindOf x ≠ some .free

noncomputable def isOwn : LV → Bool
  | .val _ => false
  | _ => true
/-- what a name holds, its own objects apart from all others -/
noncomputable def Sep (env : Env) (σ : Loc) (h : Heap) : Prop :=
  ∀ x y l k v, x ≠ y → get σ x = some l → get σ y = some k → isOwn l = true → isOwn k = true → vkOf (env.kindOf x) = some .loc → vkOf (env.kindOf y) = some .loc → ReadsName env h x v → ReadsName env h y v → False

noncomputable def Apart (env : Env) (σ : Loc) (h : Heap) : Prop :=
  ∀ x l v, get σ x = some l → isOwn l = true → vkOf (env.kindOf x) = some .loc → ReadsName env h x v → v ≠ .ref env.locals

noncomputable def Un (X M : Excl) : Excl := fun a => X a ∨ M a

structure SS (W : Wd) (A : Around) (d : Nat) (X M : Excl) (env : Env) (sc : Sc) (σ : Loc) (s : Shared) : Prop where
  es : ES W A d (Un X M) M env sc σ s
  fr : FrOk env M s.heap
  sep : Sep env σ s.heap
  apart : Apart env σ s.heap
  mtop : ∀ b o, W.top.get? b = some o → ¬ M b
  m0 : ∀ a, M a → ¬ X a

noncomputable def Mut (M M' : Excl) (s s' : Shared) : Prop := ∃ h' tk, s' = { s with heap := h', toks := tk } ∧ ∀ b o, ¬ M b → s.heap.get? b = some o → ¬ M' b ∧ h'.get? b = some o
theorem Mut.refl (M : Excl) (s : Shared) : Mut M M s s := ⟨s.heap, s.toks, rfl, fun b o h e => ⟨h, e⟩⟩
theorem Mut.trans {M M₁ M₂ : Excl} {a b c : Shared} (x : Mut M M₁ a b) (y : Mut M₁ M₂ b c) : Mut M M₂ a c := by
  obtain ⟨h, t, rfl, k⟩ := x
  obtain ⟨h', t', rfl, k'⟩ := y
  exact ⟨h', t', rfl, fun b o hm e => let ⟨h1, h2⟩ := k b o hm e; k' b o h1 h2⟩
theorem Mut.of_keeps {M : Excl} {a b : Shared} (k : Keeps a b) : Mut M M a b := by
  obtain ⟨h, t, rfl, k⟩ := k
  exact ⟨h, t, rfl, fun b o hm e => ⟨hm, k b o e⟩⟩
theorem Mut.mem {M M' : Excl} {a b : Shared} (x : Mut M M' a b) : ∀ c o, ¬ M c → a.heap.get? c = some o → ¬ M' c ∧ b.heap.get? c = some o := by
  obtain ⟨h, t, rfl, k⟩ := x
  exact k

theorem ReadsName.inj {h : Heap} {v u : Value} (a : ReadsName env h x v) (b : ReadsName env h x u) : v = u := by
  have cellCase : ∀ {c c' : Addr}, env.cells.lookup x = some c → h.IsCell c (some v) → env.cells.lookup x = some c' → h.IsCell c' (some u) → v = u := by
    intro c c' hl e hl' e'
    rw [hl] at hl'; cases hl'
    obtain ⟨o, g, e⟩ := e
    obtain ⟨o', g', e'⟩ := e'
    rw [g] at g'; cases g'
    rw [e] at e'; cases e'; rfl
  unfold ReadsName at a b
  cases hk : env.kindOf x with
  | none => rw [hk] at a; exact a.elim
  | some k =>
    rw [hk] at a b
    cases k with
    | «local» =>
      obtain ⟨m, hn, e⟩ := a
      obtain ⟨m', hn', e'⟩ := b
      obtain ⟨o, es, ep, g, hd, _, hf⟩ := hn
      obtain ⟨o', es', ep', g', hd', _, hf'⟩ := hn'
      rw [g] at g'; cases g'
      rw [hd] at hd'; cases hd'
      have h1 := hf x
      have h2 := hf' x
      rw [h1, e] at h2
      rw [e'] at h2; cases h2; rfl
    | cell => obtain ⟨c, hl, e⟩ := a; obtain ⟨c', hl', e'⟩ := b; exact cellCase hl e hl' e'
    | free => obtain ⟨c, hl, e⟩ := a; obtain ⟨c', hl', e'⟩ := b; exact cellCase hl e hl' e'
    | _ => exact a.elim

theorem FrOk.keeps {h h' : Heap} (hk : ∀ b o, h.get? b = some o → h'.get? b = some o) (F : FrOk env M h) : FrOk env M h' where
  loc := ⟨F.loc.1, let ⟨m, hn⟩ := F.loc.2; ⟨m, hn.keeps hk⟩⟩
  cell := fun x hx => let ⟨c, v, h1, h2, h3⟩ := F.cell x hx; ⟨c, v, h1, h2.keeps hk, h3⟩
  inj := F.inj
  noFree := F.noFree

theorem FrOk.reads {h : Heap} (F : FrOk env M h) {v : Value} (hx : vkOf (env.kindOf x) = some .loc) : (∃ m, env.kindOf x = some .local ∧ h.Ns env.locals m) ∨ (env.kindOf x = some .cell ∧ ∃ c u, env.cells.lookup x = some c ∧ h.IsCell c u ∧ M c) := by
  cases hk : env.kindOf x with
  | none => rw [hk] at hx; cases hx
  | some k =>
    cases k with
    | «local» => obtain ⟨m, hn⟩ := F.loc.2; exact .inl ⟨m, rfl, hn⟩
    | cell => exact .inr ⟨rfl, F.cell x hk⟩
    | free => exact absurd hk (F.noFree x)
    | _ => rw [hk] at hx; cases hx

theorem Sep.keeps {h h' : Heap} (hk : ∀ b o, h.get? b = some o → h'.get? b = some o) (V : ∀ x l, get σ x = some l → vkOf (env.kindOf x) = some .loc → ∃ v, ReadsName env h x v) (S : Sep env σ h) : Sep env σ h' := by
  intro x y l k v hxy hl hk' ol ok hx hy rx ry
  obtain ⟨u, ru⟩ := V x l hl hx
  obtain ⟨z, rz⟩ := V y k hk' hy
  have e1 := (ru.keeps hk).inj rx
  have e2 := (rz.keeps hk).inj ry
  subst e1; subst e2
  exact S x y l k _ hxy hl hk' ol ok hx hy ru rz

theorem Apart.keeps {h h' : Heap} (hk : ∀ b o, h.get? b = some o → h'.get? b = some o) (V : ∀ x l, get σ x = some l → vkOf (env.kindOf x) = some .loc → ∃ v, ReadsName env h x v) (S : Apart env σ h) : Apart env σ h' := by
  intro x l v hl ol hx rx
  obtain ⟨u, ru⟩ := V x l hl hx
  have e1 := (ru.keeps hk).inj rx
  subst e1
  exact S x l _ hl ol hx ru

theorem Vis.reads {P : Program} {w : World} {h : Heap} (V : Vis P w env X M σ h) : ∀ x l, get σ x = some l → vkOf (env.kindOf x) = some .loc → ∃ v, ReadsName env h x v :=
  fun x l e k => let ⟨v, r, _⟩ := V x l e k; ⟨v, r⟩

theorem SS.after (S : SS W A d X M env sc σ s) (k : Keeps s s') (t : s.toks ≤ s'.toks) : SS W A d X M env sc σ s' :=
  ⟨S.es.after k t, S.fr.keeps (keeps_mem k), S.sep.keeps (keeps_mem k) S.es.vis.reads, S.apart.keeps (keeps_mem k) S.es.vis.reads, S.mtop, S.m0⟩
end
end Mine
namespace Mine

section
variable {W : Wd} {A : Around} {d : Nat} {X M M' : Excl} {env : Env} {sc : Sc} {σ : Loc} {s s' : Shared} {E : Value → Shared → Prop} {Q : Value → Shared → Prop} {K : PV → Prop} {G : GC} {r : WE} {t : WT} {scope : Scope} {x : Str}

theorem LDen.but {P : Program} {w : World} {h h' : Heap} {c : Addr} {l : LV} {v : Value} (hM : M c) (hk : ∀ b o, b ≠ c → h.get? b = some o → h'.get? b = some o) (hne : isOwn l = true → v ≠ .ref c) (d : LDen P w (Un X M) M h l v) :
    LDen P w (Un X M) M h' l v := by
  have hmv : ∀ a o, ¬ Un X M a → h.get? a = some o → ¬ Un X M a ∧ h'.get? a = some o := fun a o ha e => ⟨ha, hk a o (by rintro rfl; exact ha (.inr hM)) e⟩
  cases l with
  | val p => exact Den.move hmv d
  | own vs =>
    obtain ⟨hz, a, us, n, rfl, m, g, dl⟩ := d
    exact ⟨hz, a, us, n, rfl, m, hk a _ (fun q => hne rfl (by rw [q])) g, dl.move hmv⟩
  | ownd es =>
    obtain ⟨hz, a, us, rfl, m, g, e2, dl⟩ := d
    refine ⟨hz, a, us, rfl, m, ?_, e2, dl.move hmv⟩
    obtain ⟨o, es', ep, ho, r⟩ := g
    exact ⟨o, es', ep, hk a _ (fun q => hne rfl (by rw [q])) ho, r⟩
/-- an own object is no cell -/
theorem LDen.no_cell {P : Program} {w : World} {h : Heap} {c : Addr} {u : Option Value} {l : LV} {v : Value} (hc : h.IsCell c u) (ho : isOwn l = true) (d : LDen P w X M h l v) : v ≠ .ref c := by
  rintro rfl
  obtain ⟨o, g, e⟩ := hc
  cases l with
  | val p => cases ho
  | own vs =>
    obtain ⟨_, a, us, n, ea, m, g', _⟩ := d
    cases ea
    rw [g] at g'; cases g'
    cases e
  | ownd es =>
    obtain ⟨_, a, us, ea, m, ⟨o', es', ep, g', _, hd, _⟩, _⟩ := d
    cases ea
    rw [g] at g'; cases g'
    rw [e] at hd; cases hd

theorem cell_ne_ns {h : Heap} {c a : Addr} {u : Option Value} {m : Str → Option Value} (hc : h.IsCell c u) (hn : h.Ns a m) : c ≠ a := by
  rintro rfl
  obtain ⟨o, g, e⟩ := hc
  obtain ⟨o', es, ep, g', hd, _⟩ := hn
  rw [g] at g'; cases g'
  rw [e] at hd; cases hd

theorem store_name_ok {l : LV} {v : Value} {Qs : Unit → Shared → Prop} (S : SS W A d X M env sc σ s) (hk : kd sc x = some .loc) (dv : LDen W.prog W.w (Un X M) M s.heap l v) (hl : isOwn l = true → v ≠ .ref env.locals)
    (hsep : isOwn l = true → ∀ y k u, y ≠ x → get σ y = some k → isOwn k = true → vkOf (env.kindOf y) = some .loc → ReadsName env s.heap y u → u ≠ v)
    (hq : ∀ s', SS W A d X M env sc (set σ x l) s' → Mut M M s s' → Qs () s') : wpAny W.M A (storeName env x v) Qs E s := by
  have hkx : vkOf (env.kindOf x) = some .loc := by rw [S.es.eok.names, hk]
  have hfn := S.es.eok.kind
  have hp : (env.scope.kind == .class || (env.scope.kind == .module && env.locals != env.globals)) = false := by rw [hfn]; rfl
  -- one address changes
  have fin : ∀ (c : Addr) (h' : Heap) (tk : Nat), M c → Heap.SameBut c s.heap h' → (∃ o, h'.get? c = some o) → 1 ≤ tk → FrOk env M h' → ReadsName env h' x v →
      (∀ y u, y ≠ x → vkOf (env.kindOf y) = some .loc → ReadsName env s.heap y u → ReadsName env h' y u) →
      (∀ y k u, get σ y = some k → isOwn k = true → vkOf (env.kindOf y) = some .loc → ReadsName env s.heap y u → u ≠ .ref c) → (isOwn l = true → v ≠ .ref c) → Qs () { s with heap := h', toks := tk } := by
    intro c h' tk hM hs hal htk hF hr hold hown hvc
    have hkeep : ∀ b o, b ≠ c → s.heap.get? b = some o → h'.get? b = some o := fun b o hb e => by rw [hs.2 b hb]; exact e
    refine hq _ ⟨⟨S.es.room, fun b o e => hkeep b o (fun q => S.mtop b o e (q ▸ hM)) (S.es.top b o e), S.es.eok, ?_, S.es.mx, ?_, htk⟩, hF, ?_, ?_, S.mtop, S.m0⟩ ⟨h', tk, rfl, fun b o hb e => ⟨hb, hkeep b o (fun q => hb (q ▸ hM)) e⟩⟩
    · intro a ha
      by_cases hac : a = c
      · subst hac; exact hal
      · obtain ⟨o, e⟩ := S.es.xlt a ha; exact ⟨o, hkeep a o hac e⟩
    · intro y k hg hky
      rw [get_set] at hg
      by_cases hyx : y = x
      · subst hyx
        simp at hg; subst hg
        exact ⟨v, hr, dv.but hM hkeep hvc⟩
      · rw [if_neg hyx] at hg
        obtain ⟨u, hru, du⟩ := S.es.vis y k hg hky
        exact ⟨u, hold y u hyx hky hru, du.but hM hkeep fun ho => hown y k u hg ho hky hru⟩
    · intro y z k j u hyz hgy hgz oy oz hky hkz ry rz
      rw [get_set] at hgy hgz
      by_cases hyx : y = x
      · subst hyx
        rw [if_neg (Ne.symm hyz)] at hgz
        simp at hgy; subst hgy
        obtain ⟨u', hru, _⟩ := S.es.vis z j hgz hkz
        have e1 := (hold z u' (Ne.symm hyz) hkz hru).inj rz
        subst e1
        exact hsep oy z j _ (Ne.symm hyz) hgz oz hkz hru (ry.inj hr)
      · rw [if_neg hyx] at hgy
        obtain ⟨u', hru, _⟩ := S.es.vis y k hgy hky
        have e1 := (hold y u' hyx hky hru).inj ry
        subst e1
        by_cases hzx : z = x
        · subst hzx
          simp at hgz; subst hgz
          exact hsep oz y k _ hyx hgy oy hky hru (rz.inj hr)
        · rw [if_neg hzx] at hgz
          obtain ⟨u'', hru', _⟩ := S.es.vis z j hgz hkz
          have e2 := (hold z u'' hzx hkz hru').inj rz
          subst e2
          exact S.sep y z k j _ hyz hgy hgz oy oz hky hkz hru hru'
    · intro y k u hgy oy hky ry
      rw [get_set] at hgy
      by_cases hyx : y = x
      · subst hyx
        simp at hgy; subst hgy
        rw [ry.inj hr]
        exact hl oy
      · rw [if_neg hyx] at hgy
        obtain ⟨u', hru, _⟩ := S.es.vis y k hgy hky
        have e1 := (hold y u' hyx hky hru).inj ry
        subst e1
        exact S.apart y k _ hgy oy hky hru
  rcases S.fr.reads (v := v) hkx with ⟨m, hlx, hn⟩ | ⟨hcx, c, u, hcl, hcv, hMc⟩
  · refine wpAny_storeName_local hlx hn (fun h' hn' hs' => ?_) hp
    refine fin env.locals h' _ S.fr.loc.1 hs' (let ⟨o, _, _, e, _⟩ := hn'; ⟨o, e⟩) (Nat.le_succ_of_le S.es.tok) ⟨⟨S.fr.loc.1, _, hn'⟩, fun y hy => ?_, S.fr.inj, S.fr.noFree⟩ ?_ ?_ (fun y k u hg ho hky hr => S.apart y k u hg ho hky hr) hl
    · obtain ⟨c, u, h1, h2, h3⟩ := S.fr.cell y hy
      exact ⟨c, u, h1, h2.sameBut hs' (cell_ne_ns h2 hn), h3⟩
    · unfold ReadsName; rw [hlx]; exact ⟨_, hn', by simp⟩
    · intro y u hyx hky hr
      unfold ReadsName at hr ⊢
      cases hkk : env.kindOf y with
      | none => rw [hkk] at hky; cases hky
      | some kk =>
        rw [hkk] at hr
        cases kk with
        | «local» =>
          obtain ⟨m', hn2, e⟩ := hr
          refine ⟨_, hn', ?_⟩
          rw [if_neg hyx]
          obtain ⟨o, es, ep, g, hd, _, hf⟩ := hn
          obtain ⟨o', es', ep', g', hd', _, hf'⟩ := hn2
          rw [g] at g'; cases g'
          rw [hd] at hd'; cases hd'
          rw [← hf y, hf' y, e]
        | cell => obtain ⟨c, hc, hv⟩ := hr; exact ⟨c, hc, hv.sameBut hs' (cell_ne_ns hv hn)⟩
        | free => exact absurd hkk (S.fr.noFree y)
        | _ => exact hr.elim
  · obtain ⟨m, hn⟩ := S.fr.loc.2
    refine wpAny_with_toks (Nat.le_refl _) (wpAny_storeName_cell hfn hcx hcl hcv fun h' hv' hs' htk => ?_)
    have hcn := cell_ne_ns hcv hn
    refine fin c h' _ hMc hs' (let ⟨o, e, _⟩ := hv'; ⟨o, e⟩) (Nat.le_trans S.es.tok htk) ⟨⟨S.fr.loc.1, m, hn.sameBut hs' (Ne.symm hcn)⟩, fun y hy => ?_, S.fr.inj, S.fr.noFree⟩ ?_ ?_ ?_ ?_
    · obtain ⟨c', u', h1, h2, h3⟩ := S.fr.cell y hy
      by_cases hcc : c' = c
      · subst hcc; exact ⟨c', _, h1, hv', h3⟩
      · exact ⟨c', u', h1, h2.sameBut hs' hcc, h3⟩
    · unfold ReadsName; rw [hcx]; exact ⟨c, hcl, hv'⟩
    · intro y u' hyx hky hr
      unfold ReadsName at hr ⊢
      cases hkk : env.kindOf y with
      | none => rw [hkk] at hky; cases hky
      | some kk =>
        rw [hkk] at hr
        cases kk with
        | «local» =>
          obtain ⟨m', hn2, e⟩ := hr
          exact ⟨m', hn2.sameBut hs' (Ne.symm (cell_ne_ns hcv hn2)), e⟩
        | cell =>
          obtain ⟨c', hc', hv2⟩ := hr
          refine ⟨c', hc', hv2.sameBut hs' ?_⟩
          rintro rfl
          exact hyx (S.fr.inj y x _ hkk hcx hc' hcl)
        | free => exact absurd hkk (S.fr.noFree y)
        | _ => exact hr.elim
    · intro y k u' hg ho hky hr
      obtain ⟨u2, hr2, d2⟩ := S.es.vis y k hg hky
      rw [hr.inj hr2]
      exact d2.no_cell hcv ho
    · exact fun ho => dv.no_cell hcv ho
end
end Mine
namespace Mine

section
variable {W : Wd} {A : Around} {d : Nat} {X M M' : Excl} {env : Env} {sc : Sc} {σ : Loc} {s s' : Shared} {E : Value → Shared → Prop} {Q : Value → Shared → Prop} {K : PV → Prop} {G : GC} {r : WE} {t : WT} {scope : Scope} {x : Str}

theorem LDen.mono {P : Program} {w : World} {X X' M M' : Excl} {h h' : Heap} {l : LV} {v : Value} (hM : ∀ a o, M a → h.get? a = some o → v = .ref a → isOwn l = true → M' a) (hk : ∀ b o, h.get? b = some o → h'.get? b = some o) (hx : ∀ a o, ¬ X a → h.get? a = some o → ¬ X' a)
    (d : LDen P w X M h l v) : LDen P w X' M' h' l v := by
  have hmv : ∀ a o, ¬ X a → h.get? a = some o → ¬ X' a ∧ h'.get? a = some o := fun a o ha e => ⟨hx a o ha e, hk a o e⟩
  cases l with
  | val p => exact Den.move hmv d
  | own vs => obtain ⟨hz, a, us, n, rfl, m, g, dl⟩ := d; exact ⟨hz, a, us, n, rfl, hM a _ m g rfl rfl, hk _ _ g, dl.move hmv⟩
  | ownd es =>
    obtain ⟨hz, a, us, rfl, m, g, e2, dl⟩ := d
    refine ⟨hz, a, us, rfl, ?_, g.keep hk, e2, dl.move hmv⟩
    obtain ⟨o, es', ep, ho, _⟩ := g
    exact hM a _ m ho rfl rfl

noncomputable def Plus (M : Excl) (a : Addr) : Excl := fun b => M b ∨ b = a
noncomputable def Minus (M : Excl) (a : Addr) : Excl := fun b => M b ∧ b ≠ a

theorem SS.grow {a : Addr} {o : Obj} (S : SS W A d X M env sc σ s) (k : Keeps s s') (t : s.toks ≤ s'.toks) (hn : s.heap.get? a = none) (ha : s'.heap.get? a = some o) : SS W A d X (Plus M a) env sc σ s' ∧ Mut M (Plus M a) s s' := by
  have hne : ∀ b ob, s.heap.get? b = some ob → b ≠ a := by rintro b ob e rfl; rw [hn] at e; cases e
  refine ⟨⟨⟨S.es.room, fun b ob e => keeps_mem k b ob (S.es.top b ob e), S.es.eok, ?_, fun b hb => .inr hb, ?_, Nat.le_trans S.es.tok t⟩, ?_, S.sep.keeps (keeps_mem k) S.es.vis.reads, S.apart.keeps (keeps_mem k) S.es.vis.reads, ?_, ?_⟩, ?_⟩
  · rintro b (hb | hb | rfl)
    · obtain ⟨ob, e⟩ := S.es.xlt b (.inl hb); exact ⟨ob, keeps_mem k _ _ e⟩
    · obtain ⟨ob, e⟩ := S.es.xlt b (.inr hb); exact ⟨ob, keeps_mem k _ _ e⟩
    · exact ⟨o, ha⟩
  · intro y l hg hky
    obtain ⟨v, hr, dv⟩ := S.es.vis y l hg hky
    refine ⟨v, hr.keeps (keeps_mem k), dv.mono (fun b _ hb _ _ _ => .inl hb) (keeps_mem k) fun b ob hb e => ?_⟩
    rintro (h1 | h1 | h1)
    · exact hb (.inl h1)
    · exact hb (.inr h1)
    · exact hne b ob e h1
  · have F := S.fr.keeps (keeps_mem k)
    exact ⟨⟨.inl F.loc.1, F.loc.2⟩, fun y hy => let ⟨c, v, h1, h2, h3⟩ := F.cell y hy; ⟨c, v, h1, h2, .inl h3⟩, F.inj, F.noFree⟩
  · rintro b ob e (hb | rfl)
    · exact S.mtop b ob e hb
    · exact hne _ _ (S.es.top _ _ e) rfl
  · rintro b (hb | rfl) hx
    · exact S.m0 b hb hx
    · obtain ⟨ob, e⟩ := S.es.xlt _ (.inl hx)
      exact hne _ _ e rfl
  · obtain ⟨h', tk, rfl, hk⟩ := k
    refine ⟨h', tk, rfl, fun b ob hb e => ⟨?_, hk b ob e⟩⟩
    rintro (h1 | h1)
    · exact hb h1
    · exact hne b ob e h1

theorem own_addr {P : Program} {w : World} {h : Heap} {l : LV} {v : Value} (ho : isOwn l = true) (d : LDen P w X M h l v) : ∃ a o, v = .ref a ∧ M a ∧ h.get? a = some o := by
  cases l with
  | val p => cases ho
  | own vs => obtain ⟨_, a, us, n, rfl, m, g, _⟩ := d; exact ⟨a, _, rfl, m, g⟩
  | ownd es => obtain ⟨_, a, us, rfl, m, ⟨o, es', ep, g, _⟩, _⟩ := d; exact ⟨a, _, rfl, m, g⟩

theorem ReadsName.cell_of {h : Heap} {c : Addr} {v : Value} (hr : ReadsName env h x v) (ck : env.kindOf x = some .cell) (hc : env.cells.lookup x = some c) : h.IsCell c (some v) := by
  unfold ReadsName at hr
  rw [ck] at hr
  obtain ⟨c', h1, h2⟩ := hr
  rw [hc] at h1; cases h1
  exact h2

/-- a read stands while an own object is changed -/
theorem ReadsName.but {h h' : Heap} {a : Addr} {y : Str} {v : Value} (hk : ∀ b o, b ≠ a → h.get? b = some o → h'.get? b = some o) (hL : a ≠ env.locals) (hC : ∀ c u, h.IsCell c u → a ≠ c) (hr : ReadsName env h y v) : ReadsName env h' y v := by
  have cellCase : ∀ {c : Addr}, h.IsCell c (some v) → h'.IsCell c (some v) := fun {c} hv => by
    obtain ⟨o, g, e⟩ := id hv
    exact ⟨o, hk c o (Ne.symm (hC c _ hv)) g, e⟩
  unfold ReadsName at hr ⊢
  split at hr
  · obtain ⟨m, hn, e⟩ := hr
    exact ⟨m, hn.at' fun o e => hk _ o (Ne.symm hL) e, e⟩
  · obtain ⟨c, hc, hv⟩ := hr; exact ⟨c, hc, cellCase hv⟩
  · obtain ⟨c, hc, hv⟩ := hr; exact ⟨c, hc, cellCase hv⟩
  · exact hr.elim

theorem SS.touch {a : Addr} {l l' : LV} {h' : Heap} {tk : Nat} (S : SS W A d X M env sc σ s) (hk : kd sc x = some .loc) (hg : get σ x = some l) (ho : isOwn l = true) (hr : ReadsName env s.heap x (.ref a)) (hs : Heap.SameBut a s.heap h') (hal : ∃ o, h'.get? a = some o)
    (ht : 1 ≤ tk) (dl : LDen W.prog W.w (Un X M) M h' l' (.ref a)) : SS W A d X M env sc (set σ x l') { s with heap := h', toks := tk } ∧ Mut M M s { s with heap := h', toks := tk } := by
  have hkx : vkOf (env.kindOf x) = some .loc := by rw [S.es.eok.names, hk]
  have hkeep : ∀ b o, b ≠ a → s.heap.get? b = some o → h'.get? b = some o := fun b o hb e => by rw [hs.2 b hb]; exact e
  obtain ⟨v, hr', dv⟩ := S.es.vis x l hg hkx
  have := hr'.inj hr
  subst this
  obtain ⟨a', o, ea, hM, hget⟩ := own_addr ho dv
  cases ea
  have hL : a ≠ env.locals := fun q => S.apart x l _ hg ho hkx hr (by rw [q])
  have hC : ∀ c u, s.heap.IsCell c u → a ≠ c := fun c u hc q => dv.no_cell hc ho (by rw [q])
  have old : ∀ y u, ReadsName env s.heap y u → ReadsName env h' y u := fun y u hy => hy.but hkeep hL hC
  refine ⟨⟨⟨S.es.room, fun b o e => hkeep b o (fun q => S.mtop b o e (q ▸ hM)) (S.es.top b o e), S.es.eok, ?_, S.es.mx, ?_, ht⟩, ?_, ?_, ?_, S.mtop, S.m0⟩, ⟨h', tk, rfl, fun b o hb e => ⟨hb, hkeep b o (fun q => hb (q ▸ hM)) e⟩⟩⟩
  · intro b hb
    by_cases hba : b = a
    · subst hba; exact hal
    · obtain ⟨o, e⟩ := S.es.xlt b hb; exact ⟨o, hkeep b o hba e⟩
  · intro y k hgy hky
    rw [get_set] at hgy
    by_cases hyx : y = x
    · subst hyx
      simp at hgy; subst hgy
      exact ⟨_, old _ _ hr, dl⟩
    · rw [if_neg hyx] at hgy
      obtain ⟨u, hru, du⟩ := S.es.vis y k hgy hky
      exact ⟨u, old y u hru, du.but hM hkeep fun oy q => S.sep y x k l (.ref a) hyx hgy hg oy ho hky hkx (q ▸ hru) hr⟩
  · refine ⟨⟨S.fr.loc.1, let ⟨m, hn⟩ := S.fr.loc.2; ⟨m, hn.at' fun o e => hkeep _ o (Ne.symm hL) e⟩⟩, fun y hy => ?_, S.fr.inj, S.fr.noFree⟩
    obtain ⟨c, u, h1, h2, h3⟩ := S.fr.cell y hy
    obtain ⟨o, g, e⟩ := id h2
    exact ⟨c, u, h1, ⟨o, hkeep c o (Ne.symm (hC c u h2)) g, e⟩, h3⟩
  · intro y z k j u hyz hgy hgz oy oz hky hkz ry rz
    have back : ∀ w k, get (set σ x l') w = some k → isOwn k = true → vkOf (env.kindOf w) = some .loc → ReadsName env h' w u → ∃ k', get σ w = some k' ∧ isOwn k' = true ∧ ReadsName env s.heap w u := by
      intro w k hgw ow hkw rw'
      rw [get_set] at hgw
      by_cases hwx : w = x
      · subst hwx
        have := rw'.inj (old _ _ hr)
        subst this
        exact ⟨l, hg, ho, hr⟩
      · rw [if_neg hwx] at hgw
        obtain ⟨u', hru, _⟩ := S.es.vis w k hgw hkw
        have := (old w u' hru).inj rw'
        subst this
        exact ⟨k, hgw, ow, hru⟩
    obtain ⟨k', g1, o1, r1⟩ := back y k hgy oy hky ry
    obtain ⟨j', g2, o2, r2⟩ := back z j hgz oz hkz rz
    exact S.sep y z k' j' u hyz g1 g2 o1 o2 hky hkz r1 r2
  · intro y k u hgy oy hky ry
    rw [get_set] at hgy
    by_cases hyx : y = x
    · subst hyx
      have := ry.inj (old _ _ hr)
      subst this
      intro q; cases q; exact hL rfl
    · rw [if_neg hyx] at hgy
      obtain ⟨u', hru, _⟩ := S.es.vis y k hgy hky
      have := (old y u' hru).inj ry
      subst this
      exact S.apart y k _ hgy oy hky hru

/-- an own list is given away: from here on nothing writes it -/
theorem SS.freeze {vs : List PV} (S : SS W A d X M env sc σ s) (hk : kd sc x = some .loc) (hg : get σ x = some (.own vs)) : ∃ M', SS W A d X M' env sc (set σ x (.val (.list vs))) s ∧ Mut M M' s s := by
  have hkx : vkOf (env.kindOf x) = some .loc := by rw [S.es.eok.names, hk]
  obtain ⟨v, hr, hz, a, us, n, rfl, hM, ho, dl⟩ := S.es.vis x _ hg hkx
  have dv : LDen W.prog W.w (Un X M) M s.heap (.own vs) (.ref a) := ⟨hz, a, us, n, rfl, hM, ho, dl⟩
  have hL : a ≠ env.locals := fun q => S.apart x _ _ hg rfl hkx hr (by rw [q])
  have hC : ∀ c u, s.heap.IsCell c u → c ≠ a := fun c u hc q => dv.no_cell hc rfl (by rw [q])
  have hsub : ∀ b, ¬ Un X M b → ¬ Un X (Minus M a) b := fun b hb q => q.elim (fun q => hb (.inl q)) fun q => hb (.inr q.1)
  have ha : ¬ Un X (Minus M a) a := by
    rintro (h | h)
    · exact S.m0 a hM h
    · exact h.2 rfl
  refine ⟨Minus M a, ⟨⟨S.es.room, S.es.top, S.es.eok, fun b hb => S.es.xlt b (hb.imp id fun h => h.1), fun b hb => .inr hb, ?_, S.es.tok⟩, ?_, ?_, ?_, fun b o e hb => S.mtop b o e hb.1, fun b hb => S.m0 b hb.1⟩, ⟨s.heap, s.toks, rfl, fun b o hb e => ⟨fun q => hb q.1, e⟩⟩⟩
  · intro y k hgy hky
    rw [get_set] at hgy
    by_cases hyx : y = x
    · subst hyx
      simp at hgy; subst hgy
      exact ⟨_, hr, mk_list hz ha ho (dl.move fun b o hb e => ⟨hsub b hb, e⟩)⟩
    · rw [if_neg hyx] at hgy
      obtain ⟨u, hru, du⟩ := S.es.vis y k hgy hky
      refine ⟨u, hru, du.mono (fun b o hb e hu oy => ⟨hb, ?_⟩) (fun _ _ e => e) fun b o hb _ => hsub b hb⟩
      rintro rfl
      subst hu
      exact S.sep y x k _ _ hyx hgy hg oy rfl hky hkx hru hr
  · exact ⟨⟨⟨S.fr.loc.1, Ne.symm hL⟩, S.fr.loc.2⟩, fun y hy => let ⟨c, u, h1, h2, h3⟩ := S.fr.cell y hy; ⟨c, u, h1, h2, h3, hC c u h2⟩, S.fr.inj, S.fr.noFree⟩
  · intro y z k j u hyz hgy hgz oy oz hky hkz ry rz
    rw [get_set] at hgy hgz
    by_cases hyx : y = x
    · subst hyx; simp at hgy; subst hgy; cases oy
    · by_cases hzx : z = x
      · subst hzx; simp at hgz; subst hgz; cases oz
      · rw [if_neg hyx] at hgy; rw [if_neg hzx] at hgz
        exact S.sep y z k j u hyz hgy hgz oy oz hky hkz ry rz
  · intro y k u hgy oy hky ry
    rw [get_set] at hgy
    by_cases hyx : y = x
    · subst hyx; simp at hgy; subst hgy; cases oy
    · rw [if_neg hyx] at hgy
      exact S.apart y k u hgy oy hky ry

/-! an address that the names do not reach -/
theorem SS.shield {c : Addr} {o : Obj} (S : SS W A d X M env sc σ s) (k : Keeps s s') (t : 1 ≤ s'.toks) (hn : s.heap.get? c = none) (hc : s'.heap.get? c = some o) : SS W A d (Plus X c) M env sc σ s' ∧ ¬ M c ∧ ¬ X c ∧ W.top.get? c = none := by
  have hne : ∀ b ob, s.heap.get? b = some ob → b ≠ c := by rintro b ob e rfl; rw [hn] at e; cases e
  have hMc : ¬ M c := fun q => let ⟨ob, e⟩ := S.es.xlt c (.inr q); hne _ _ e rfl
  have hXc : ¬ X c := fun q => let ⟨ob, e⟩ := S.es.xlt c (.inl q); hne _ _ e rfl
  have htop : W.top.get? c = none := by
    cases e : W.top.get? c with
    | none => rfl
    | some ob => exact absurd rfl (hne _ _ (S.es.top _ _ e))
  have hx : ∀ b ob, ¬ Un X M b → s.heap.get? b = some ob → ¬ Un (Plus X c) M b := by
    rintro b ob hb e ((q | q) | q)
    · exact hb (.inl q)
    · exact hne b ob e q
    · exact hb (.inr q)
  refine ⟨⟨⟨S.es.room, fun b ob e => keeps_mem k _ _ (S.es.top b ob e), S.es.eok, ?_, fun a ha => .inr ha, ?_, t⟩, S.fr.keeps (keeps_mem k), S.sep.keeps (keeps_mem k) S.es.vis.reads, S.apart.keeps (keeps_mem k) S.es.vis.reads, S.mtop, ?_⟩, hMc, hXc, htop⟩
  · rintro a ((q | rfl) | q)
    · obtain ⟨ob, e⟩ := S.es.xlt a (.inl q); exact ⟨ob, keeps_mem k _ _ e⟩
    · exact ⟨o, hc⟩
    · obtain ⟨ob, e⟩ := S.es.xlt a (.inr q); exact ⟨ob, keeps_mem k _ _ e⟩
  · intro y l hg hky
    obtain ⟨v, hr, dv⟩ := S.es.vis y l hg hky
    exact ⟨v, hr.keeps (keeps_mem k), dv.mono (fun a _ ha _ _ _ => ha) (keeps_mem k) hx⟩
  · rintro a ha (q | rfl)
    · exact S.m0 a ha q
    · exact hMc ha
/-- a shielded address may change -/
theorem SS.jolt {c : Addr} {h' : Heap} {tk : Nat} (S : SS W A d (Plus X c) M env sc σ s) (hM : ¬ M c) (hX : ¬ X c) (htop : W.top.get? c = none) (hk : ∀ b o, b ≠ c → s.heap.get? b = some o → h'.get? b = some o) (ht : 1 ≤ tk)
    {X' : Excl} (hX' : X' = X ∨ (X' = Plus X c ∧ ∃ o, h'.get? c = some o)) : SS W A d X' M env sc σ { s with heap := h', toks := tk } := by
  have hMne : ∀ a, M a → a ≠ c := by rintro a ha rfl; exact hM ha
  have hsub : ∀ a, ¬ Un (Plus X c) M a → ¬ Un X' M a ∧ a ≠ c := by
    intro a ha
    refine ⟨?_, fun q => ha (.inl (.inr q))⟩
    rcases hX' with rfl | ⟨rfl, _⟩
    · exact fun q => ha (q.imp .inl id)
    · exact ha
  have hmv : ∀ a o, ¬ Un (Plus X c) M a → s.heap.get? a = some o → ¬ Un X' M a ∧ h'.get? a = some o := fun a o ha e => ⟨(hsub a ha).1, hk a o (hsub a ha).2 e⟩
  have reads : ∀ y u, ReadsName env s.heap y u → vkOf (env.kindOf y) = some .loc → ReadsName env h' y u := by
    intro y u hr hy
    unfold ReadsName at hr ⊢
    cases hkk : env.kindOf y with
    | none => rw [hkk] at hr; exact hr.elim
    | some kk =>
      rw [hkk] at hr
      cases kk with
      | «local» => obtain ⟨m, hn, e⟩ := hr; exact ⟨m, hn.at' fun o e => hk _ o (hMne _ S.fr.loc.1) e, e⟩
      | cell =>
        obtain ⟨c', v', h1, h2, h3⟩ := S.fr.cell y hkk
        obtain ⟨c2, hc2, o, g, e⟩ := hr
        rw [h1] at hc2; cases hc2
        exact ⟨c', h1, o, hk _ o (hMne _ h3) g, e⟩
      | free => exact absurd hkk (S.fr.noFree y)
      | _ => exact hr.elim
  refine ⟨⟨S.es.room, fun b ob e => hk b ob (by rintro rfl; rw [htop] at e; cases e) (S.es.top b ob e), S.es.eok, ?_, fun a ha => .inr ha, ?_, ht⟩, ?_, ?_, ?_, S.mtop, ?_⟩
  · intro a ha
    by_cases hac : a = c
    · subst hac
      rcases hX' with rfl | ⟨rfl, h⟩
      · exact (ha.elim hX hM).elim
      · exact h
    · have : Un (Plus X c) M a := by
        rcases hX' with rfl | ⟨rfl, _⟩
        · exact ha.imp .inl id
        · exact ha
      obtain ⟨o, e⟩ := S.es.xlt a this
      exact ⟨o, hk a o hac e⟩
  · intro y l hg hky
    obtain ⟨v, hr, dv⟩ := S.es.vis y l hg hky
    refine ⟨v, reads y v hr hky, ?_⟩
    cases l with
    | val p => exact Den.move hmv dv
    | own vs => obtain ⟨hz, a, us, n, rfl, m, g, dl⟩ := dv; exact ⟨hz, a, us, n, rfl, m, hk _ _ (hMne _ m) g, dl.move hmv⟩
    | ownd es =>
      obtain ⟨hz, a, us, rfl, m, ⟨o, es', ep, ho, rr⟩, e2, dl⟩ := dv
      exact ⟨hz, a, us, rfl, m, ⟨o, es', ep, hk _ _ (hMne _ m) ho, rr⟩, e2, dl.move hmv⟩
  · refine ⟨⟨S.fr.loc.1, let ⟨m, hn⟩ := S.fr.loc.2; ⟨m, hn.at' fun o e => hk _ o (hMne _ S.fr.loc.1) e⟩⟩, fun y hy => ?_, S.fr.inj, S.fr.noFree⟩
    obtain ⟨c', u, h1, ⟨o, g, e⟩, h3⟩ := S.fr.cell y hy
    exact ⟨c', u, h1, ⟨o, hk c' o (hMne _ h3) g, e⟩, h3⟩
  · intro y z l k v hyz hgy hgz oy oz hky hkz ry rz
    obtain ⟨u, hru, _⟩ := S.es.vis y l hgy hky
    obtain ⟨u', hru', _⟩ := S.es.vis z k hgz hkz
    have e1 := (reads y u hru hky).inj ry
    have e2 := (reads z u' hru' hkz).inj rz
    subst e1; subst e2
    exact S.sep y z l k _ hyz hgy hgz oy oz hky hkz hru hru'
  · intro y l v hgy oy hky ry
    obtain ⟨u, hru, _⟩ := S.es.vis y l hgy hky
    have e1 := (reads y u hru hky).inj ry
    subst e1
    exact S.apart y l _ hgy oy hky hru
  · intro a ha q
    rcases hX' with rfl | ⟨rfl, _⟩
    · exact S.m0 a ha (.inl q)
    · exact S.m0 a ha q

/-- a value of a shielded state -/
theorem den_jolt {w : World} {c : Addr} {h h' : Heap} {p : PV} {v : Value} (hk : ∀ b o, b ≠ c → h.get? b = some o → h'.get? b = some o) (dv : Den w (Un (Plus X c) M) h p v) : Den w (Un X M) h' p v :=
  dv.move fun a o ha e => ⟨fun q => ha (q.imp .inl id), hk a o (fun q => ha (.inl (.inr q))) e⟩
end
end Mine
namespace Mine

/-! ### statements -/
inductive FP where
  | next | brk | cont
  | ret (p : PV)
noncomputable def FDen (w : World) (X : Excl) (h : Heap) : FP → Flow → Prop
  | .next, f => f = .next
  | .brk, f => f = .brk
  | .cont, f => f = .cont
  | .ret p, f => ∃ v, f = .ret v ∧ Den w X h p v
noncomputable abbrev WS := Sc → Stmt → Loc → (FP → Loc → Prop) → Prop
noncomputable abbrev WB := Sc → List Stmt → Loc → (FP → Loc → Prop) → Prop

noncomputable def SPost (W : Wd) (A : Around) (d : Nat) (X M : Excl) (env : Env) (sc : Sc) (s : Shared) (K : FP → Loc → Prop) (Q : Flow → Shared → Prop) : Prop :=
  ∀ fp f σ' M' s', K fp σ' → SS W A d X M' env sc σ' s' → Mut M M' s s' → FDen W.w (Un X M') s'.heap fp f → Q f s'
noncomputable def BOk (W : Wd) (d : Nat) (f : WB) : Prop :=
  ∀ A E s X M env sc b σ K Q, SS W A d X M env sc σ s → f sc b σ K → SPost W A d X M env sc s K Q → wpAny W.M A (execs b env) Q E s
noncomputable def StOk (W : Wd) (d : Nat) (f : WS) : Prop :=
  ∀ A E s X M env sc b σ K Q, SS W A d X M env sc σ s → f sc b σ K → SPost W A d X M env sc s K Q → wpAny W.M A (exec b env) Q E s

section
variable {W : Wd} {A : Around} {d : Nat} {X M M' : Excl} {env : Env} {sc : Sc} {σ : Loc} {s s' : Shared} {E : Value → Shared → Prop} {Q : Flow → Shared → Prop} {K : FP → Loc → Prop} {G : GC} {r : WE} {t : WT} {b : WB} {x : Str}

theorem SPost.after (h : SPost W A d X M env sc s K Q) (m : Mut M M' s s') : SPost W A d X M' env sc s' K Q :=
  fun fp f σ' M2 s2 hk hs hm hf => h fp f σ' M2 s2 hk hs (m.trans hm) hf

/-! blocks -/
noncomputable def blockW (st : WS) (sc : Sc) (b : List Stmt) : Loc → (FP → Loc → Prop) → Prop :=
  List.rec (motive := fun _ => Loc → (FP → Loc → Prop) → Prop) (fun σ K => K .next σ) (fun x _ ih σ K => st sc x σ fun fp σ' => match fp with
    | .next => ih σ' K
    | fp => K fp σ') b
noncomputable def blockB (st : WS) : WB := fun sc b σ K => blockW st sc b σ K
theorem block_ok {st : WS} (h : StOk W d st) : BOk W d (blockB st) := by
  intro A E s X M env sc b σ K Q S hb hq
  unfold blockB at hb
  induction b generalizing s M σ with
  | nil => exact wpAny_execs_nil (hq .next .next σ M s hb S (Mut.refl M s) rfl)
  | cons x rest ih =>
    refine wpAny_execs_cons (h A E s X M env sc x σ _ _ S hb fun fp f σ' M' s' hk hs hm hf => ?_)
    cases fp with
    | next =>
      cases hf
      exact ih (σ := σ') (M := M') (s := s') hs hk (hq.after hm)
    | brk => cases hf; exact hq _ _ _ _ _ hk hs hm rfl
    | cont => cases hf; exact hq _ _ _ _ _ hk hs hm rfl
    | ret p => obtain ⟨v, rfl, dv⟩ := hf; exact hq _ _ _ _ _ hk hs hm ⟨v, rfl, dv⟩

/-! names stored -/
theorem store_val {v : Value} {p : PV} {Qs : Unit → Shared → Prop} (S : SS W A d X M env sc σ s) (hk : kd sc x = some .loc) (dv : Den W.w (Un X M) s.heap p v)
    (hq : ∀ s', SS W A d X M env sc (set σ x (.val p)) s' → Mut M M s s' → Qs () s') : wpAny W.M A (storeName env x v) Qs E s :=
  store_name_ok (l := .val p) S hk dv (fun h => nomatch h) (fun h => nomatch h) hq

noncomputable def isLoc (sc : Sc) (x : Str) : Bool := match kd sc x with | some .loc => true | _ => false
theorem isLoc_iff {sc : Sc} {x : Str} (h : isLoc sc x = true) : kd sc x = some .loc := by
  unfold isLoc at h
  split at h
  · assumption
  · cases h

/-! `x = e` -/
noncomputable def noComp : Expr → Bool
  | .ListComp .. | .SetComp .. | .DictComp .. => false
  | _ => true
theorem swaps_no {value : Expr} {target : Option Expr} {line : Nat} (h : noComp value = true) : swapsWith value target line env = pure false := by
  cases value <;> first | rfl | cases h
noncomputable def compOf? (value : Expr) : Option (Expr × ((Str × Pos) × Expr × List Expr) × Scope × Pos) := match value with
  | .ListComp elt gens scope pos => (match genOf? gens with | some q => some (elt, q, scope, pos) | none => none)
  | _ => none
theorem compOf?.inv {value : Expr} {c : Expr × ((Str × Pos) × Expr × List Expr) × Scope × Pos} (h : compOf? value = some c) : value = .ListComp c.1 [⟨.Name c.2.1.1.1 c.2.1.1.2, c.2.1.2.1, c.2.1.2.2, 0⟩] c.2.2.1 c.2.2.2 := by
  cases value with
  | ListComp elt gens scope pos =>
    simp only [compOf?] at h
    split at h
    · rename_i q hq
      cases genOf?.inv hq
      cases h
      rfl
    · cases h
  | _ => cases h
noncomputable def assignW (r : WE) (t : WT) (sc : Sc) (σ : Loc) (x : Str) (value : Expr) (K : FP → Loc → Prop) : Prop :=
  gd (isLoc sc x) (match compOf? value with
    | some c => compW r t sc σ c.1 c.2.1.2.1 c.2.1.1.1 c.2.1.2.2 c.2.2.1 fun p => K .next (set σ x (.val p))
    | none => gd (noComp value) (r sc value σ fun p => K .next (set σ x (.val p))))
theorem assign_ok {value : Expr} {px pos : Pos} (hr : EOk W d r) (ht : TOk W d t) (S : SS W A d X M env sc σ s) (h : assignW r t sc σ x value K) (hq : SPost W A d X M env sc s K Q) :
    wpAny W.M A (exec (.Assign [.Name x px] value pos) env) Q E s := by
  obtain ⟨hx, h2⟩ := gd.inv h
  clear h
  have hk := isLoc_iff hx
  cases hc : compOf? value with
  | some c =>
    rw [hc] at h2
    have h := h2
    obtain ⟨elt, ⟨⟨y, py⟩, iter, ifs⟩, scope, cpos⟩ := c
    cases compOf?.inv hc
    clear h2 hc
    have hsw : ∃ b, swapsWith (.ListComp elt [⟨.Name y py, iter, ifs, 0⟩] scope cpos) (some (.Name x px)) pos.line env = pure b := ⟨_, rfl⟩
    obtain ⟨bb, hsw⟩ := hsw
    cases bb with
    | false =>
      refine wpAny_Assign_Name (wpAny_with_toks (Nat.le_refl _) (listcomp_ok hr ht S.es h fun v p s1 hp k1 d1 t1 => ?_)) hsw
      exact store_val (S.after k1 t1) hk d1 fun s2 S2 m2 => hq _ _ _ _ _ hp S2 ((Mut.of_keeps k1).trans m2) rfl
    | true =>
      rw [exec_Assign_Name_used _ _ _ _ hsw]
      refine wpAny_bind (wpAny_standAt (wpAny_bind ?_))
      show wpAny _ A (do let _ ← comprehension (.ListComp elt [⟨.Name y py, iter, ifs, 0⟩] scope cpos) scope env _ (newList []) false (eval iter env) (some (assign (.Name x px) env))) _ _ s
      refine wpAny_bind (wpAny_mono (comp_gen (use := some (assign (.Name x px) env)) (Q := fun _ s' => Q .next s') hr ht S.es h fun ys acc C s1 hp k1 t1 hns hC hden => ?_) (fun _ s' hq => wpAny_pure (wpAny_pure hq)) fun _ _ e => e)
      obtain ⟨m, hn⟩ := hns
      obtain ⟨o, _, _, hCo, _⟩ := id hn
      obtain ⟨S1, hMC, hXC, htop⟩ := S.shield k1 t1 hC hCo
      have hden' : Den W.w (Un (Plus X C) M) s1.heap (.list ys) acc := hden.move fun a o ha e => ⟨fun q => ha (q.elim (fun q => q.elim (fun q => .inl (.inl q)) .inr) fun q => .inl (.inr q)), e⟩
      show wpAny _ A (assign (.Name x px) env acc) _ _ _
      refine wpAny_assign_Name (wpAny_with_toks t1 (store_val S1 hk hden' fun s2 S2 m2 t2 => ?_))
      refine ⟨m, hn.at' fun o e => (m2.mem _ o hMC e).2, fun h' hs' => ?_⟩
      have hkp : ∀ b o, b ≠ C → s2.heap.get? b = some o → h'.get? b = some o := fun b o hb e => by rw [hs'.2 b hb]; exact e
      have S3 := S2.jolt (tk := s2.toks) (h' := h') hMC hXC htop hkp t2 (.inl rfl)
      refine hq .next _ _ _ _ hp S3 ?_ rfl
      obtain ⟨h2, tk2, rfl, m2⟩ := m2
      obtain ⟨h1, tk1, rfl, k1⟩ := k1
      refine ⟨h', tk2, rfl, fun b o hb e => ⟨hb, hkp b o (by rintro rfl; rw [hC] at e; cases e) (m2 b o hb (k1 b o e)).2⟩⟩
  | none =>
    rw [hc] at h2
    obtain ⟨hn, h⟩ := gd.inv h2
    refine wpAny_Assign_Name (hr.tk S.es h fun v p s1 hp k1 t1 d1 => ?_) (swaps_no hn)
    exact store_val (S.after k1 t1) hk d1 fun s2 S2 m2 => hq _ _ _ _ _ hp S2 ((Mut.of_keeps k1).trans m2) rfl

/-! `x, y = e` -/
noncomputable def setNames : List Str → List PV → Loc → Loc
  | x :: xs, p :: ps, σ => setNames xs ps (set σ x (.val p))
  | _, _, σ => σ
noncomputable def namesOf : List Expr → Option (List Str)
  | [] => some []
  | e :: r => (match nameOf? e with | some q => (match namesOf r with | some xs => some (q.1 :: xs) | none => none) | none => none)
noncomputable def allLoc (sc : Sc) : List Str → Bool
  | [] => true
  | x :: r => (match isLoc sc x with | true => allLoc sc r | false => false)
noncomputable def sameLen {α β : Type} : List α → List β → Bool
  | [], [] => true
  | _ :: a, _ :: b => sameLen a b
  | _, _ => false
theorem sameLen_iff {α β : Type} : ∀ {a : List α} {b : List β}, sameLen a b = true → a.length = b.length
  | [], [], _ => rfl
  | _ :: a, _ :: b, h => by simp [sameLen_iff (a := a) (b := b) h]
  | [], _ :: _, h => by cases h
  | _ :: _, [], h => by cases h
noncomputable def unpackW (sc : Sc) (σ : Loc) (es : List Expr) (p : PV) (K : Loc → Prop) : Prop :=
  asT p fun ps => gs (namesOf es) fun xs => gd (sameLen xs ps) (gd (allLoc sc xs) (K (setNames xs ps σ)))
theorem namesOf_each {es : List Expr} : ∀ {xs : List Str}, namesOf es = some xs → (assignEach es env).length = xs.length ∧ (assignEach es env).findIdx? (·.1) = none ∧
    ∃ ps : List Pos, ps.length = xs.length ∧ (assignEach es env).map (·.2) = (xs.zip ps).map fun q => assign (.Name q.1 q.2) env := by
  induction es with
  | nil => intro xs h; cases h; exact ⟨rfl, rfl, [], rfl, rfl⟩
  | cons e es ih =>
    intro xs h
    unfold namesOf at h
    cases hq : nameOf? e with
    | none => rw [hq] at h; cases h
    | some q =>
      rw [hq] at h
      cases nameOf?.inv hq
      cases hy : namesOf es with
      | none => rw [hy] at h; cases h
      | some ys =>
        rw [hy] at h
        cases h
        obtain ⟨h1, h2, ps, h3, h4⟩ := ih hy
        refine ⟨congrArg (· + 1) h1, ?_, q.2 :: ps, congrArg (· + 1) h3, congrArg (assign (.Name q.1 q.2) env :: ·) h4⟩
        show ((false, assign (.Name q.1 q.2) env) :: assignEach es env).findIdx? (·.1) = none
        rw [List.findIdx?_cons, h2]
        rfl
theorem stores_ok : ∀ {xs : List Str} {ps : List Pos} {pvs : List PV} {vs : List Value} {s : Shared} {σ : Loc} {Qs : Unit → Shared → Prop}, SS W A d X M env sc σ s → allLoc sc xs = true → ps.length = xs.length → xs.length = pvs.length →
    DenL W.w (Un X M) s.heap pvs vs → (∀ s', SS W A d X M env sc (setNames xs pvs σ) s' → Mut M M s s' → Qs () s') → wpAny W.M A (assignInOrder ((xs.zip ps).map fun q => assign (.Name q.1 q.2) env) vs) Qs E s
  | [], ps, pvs, vs, s, σ, Qs, S, _, _, hl, _, hq => by
    cases pvs with
    | nil => exact assignInOrder_nil (hq s S (Mut.refl M s))
    | cons => simp at hl
  | x :: xs, [], pvs, vs, s, σ, Qs, S, _, hp, _, _, _ => by simp at hp
  | x :: xs, p :: ps, [], vs, s, σ, Qs, S, _, _, hl, _, _ => by simp at hl
  | x :: xs, p :: ps, pv :: pvs, vs, s, σ, Qs, S, ha, hp, hl, dl, hq => by
    simp only [allLoc] at ha
    split at ha
    · rename_i hx
      obtain ⟨v, r, rfl, d1, d2⟩ := dl.inv_cons
      refine assignInOrder_cons (wpAny_assign_Name (store_val S (isLoc_iff hx) d1 fun s2 S2 m2 => ?_))
      refine stores_ok S2 ha (by simpa using hp) (by simpa using hl) (d2.move fun a o h e => m2.mem a o (fun q => h (.inr q)) e |>.imp (fun _ => h) id) fun s3 S3 m3 => hq s3 S3 (m2.trans m3)
    · cases ha
theorem unpack_ok {es : List Expr} {n : Nat} {pos : Pos} {p : PV} {v : Value} {Kl : Loc → Prop} {Qs : Unit → Shared → Prop} (S : SS W A d X M env sc σ s) (dv : Den W.w (Un X M) s.heap p v) (h : unpackW sc σ es p Kl)
    (hq : ∀ σ' s', Kl σ' → SS W A d X M env sc σ' s' → Mut M M s s' → Qs () s') : wpAny W.M A (assign (.Tuple es n pos) env v) Qs E s := by
  obtain ⟨ps, rfl, h3⟩ := asT.inv h
  obtain ⟨xs, hxs, h4⟩ := gs.inv h3
  obtain ⟨h1, h5⟩ := gd.inv h4
  obtain ⟨h2, h⟩ := gd.inv h5
  obtain ⟨hz, a, us, k, rfl, hx, hg, dl⟩ := den_tuple dv
  obtain ⟨e1, e2, pp, e3, e4⟩ := namesOf_each (env := env) hxs
  have hlen := sameLen_iff h1
  refine wpAny_with_toks S.es.tok (assign_Tuple_tuple S.es.room.handled (tup_isTup hg) (by rw [e1, List.size_toArray, dl.length, hlen]) e2 fun h' he => ?_)
  have kk : Keeps s { s with heap := h' } := ⟨h', s.toks, rfl, fun b o e => he b o (Nat.ne_of_lt (Heap.lt_size e)) e⟩
  rw [e4]
  have S1 := S.after kk (Nat.le_refl _)
  exact stores_ok S1 h2 e3 hlen (dl.keeps (keeps_mem kk)) fun s2 S2 m2 _ => hq _ s2 h S2 ((Mut.of_keeps kk).trans m2)

noncomputable def noTup : Expr → Bool
  | .Tuple .. => false
  | _ => true
noncomputable def assignTupW (r : WE) (sc : Sc) (σ : Loc) (es : List Expr) (value : Expr) (K : FP → Loc → Prop) : Prop :=
  gd (noTup value) (r sc value σ fun p => unpackW sc σ es p fun σ' => K .next σ')
theorem swapped_none {es : List Expr} {n : Nat} {tp : Pos} {value : Expr} (h : noTup value = true) : swappedStores [.Tuple es n tp] value env = pure none := by
  cases value <;> first | rfl | cases h
theorem assignTup_ok {es : List Expr} {n : Nat} {tp pos : Pos} {value : Expr} (hr : EOk W d r) (S : SS W A d X M env sc σ s) (h : assignTupW r sc σ es value K) (hq : SPost W A d X M env sc s K Q) :
    wpAny W.M A (exec (.Assign [.Tuple es n tp] value pos) env) Q E s := by
  obtain ⟨hn, h⟩ := gd.inv h
  have hsole : swapsWithSole [.Tuple es n tp] value pos.line env = pure false := by
    show swapsWith value (some (.Tuple es n tp)) pos.line env = pure false
    cases value <;> first | rfl | cases hn
  refine Assign_Tuple (hr.tk S.es h fun v p s1 h1 k1 t1 d1 => ?_) hsole (swapped_none hn)
  exact unpack_ok (S.after k1 t1) d1 h1 fun σ' s2 hK S2 m2 => hq _ _ _ _ _ hK S2 ((Mut.of_keeps k1).trans m2) rfl
end
end Mine
namespace Mine

section
variable {W : Wd} {A : Around} {d : Nat} {X M M' : Excl} {env : Env} {sc : Sc} {σ : Loc} {s s' : Shared} {E : Value → Shared → Prop} {Q : Flow → Shared → Prop} {K : FP → Loc → Prop} {G : GC} {r : WE} {t : WT} {b : WB} {x : Str}

/-- an item of a plain list is stored: the list is plain after it -/
theorem set_plain {l : Addr} {us : List Value} {n : Nat} {k : Int} {tk : Tok} {v : Value} {Qs : Unit → Shared → Prop} (hl : s.heap.get? l = some (lstObj us n)) (h0 : 0 ≤ k) (hn : k < us.length) (hz : us.length ≤ sizeLine)
    (hq : ∀ h' n', h'.get? l = some (lstObj (us.set k.toNat v) n') → Heap.SameBut l s.heap h' → Qs () { s with heap := h' }) : wpAny W.M A (setItem (.ref l) (.int k tk) v) Qs E s := by
  have hL := lst_isList hl
  have hfit : k < 2 ^ 63 := by have := sizeLine_fit hz; omega
  have hj : k.toNat < us.toArray.size := by simp; omega
  unfold setItem
  with_reducible refine wpAny_holding ?_
  refine wpAny_bind (wpAny_sequenceKey hL.typeIs (by decide) ?_)
  refine wpAny_bind (wpAny_callSpecial?_slot (name := Str.ofString "__setitem__") hL.typeIs slot_list_setitem (wpAny_call_entry slot_list_setitem hL.typeIs entry_list_setitem ?_ (args_list_setitem _ _ _)))
  show wpAny _ _ (Builtin.List.listSubscript? (.int k tk) >>= _) _ _ s
  refine wpAny_bind (wpAny_listSubscript_int (fitsIndex_of h0 hfit) ?_)
  have hk : ∃ j : Nat, k = j := ⟨k.toNat, by omega⟩
  obtain ⟨j, rfl⟩ := hk
  have hj' : us.toArray[j]? = some us.toArray[j] := Array.getElem?_eq_getElem (by simpa using hj)
  show wpAny _ _ ((seqItemAt l j >>= fun r => pure (r.map (j, ·))) >>= _) _ _ s
  refine wpAny_bind (wpAny_bind (wpAny_seqItemAt hl rfl (wpAny_pure ?_)))
  rw [hj']
  show wpAny _ _ (setSeqItemAt l j v >>= _) _ _ s
  have up : (s.heap.update l (Obj.mapSeq (·.setIfInBounds j v))).get? l = some (lstObj (us.set j v) (if (us.toArray.setIfInBounds j v).size == us.toArray.size then n else n + 1)) := by
    have := IsL.update (h := s.heap) (l := l) (items := us.toArray) (n := n) hl (·.setIfInBounds j v)
    rw [show IsL _ _ _ _ = _ from rfl] at this
    rw [this]
    simp [lstObj]
  refine wpAny_bind (wpAny_setSeqItemAt hl rfl ?_)
  exact wpAny_pure ⟨.none, rfl, wpAny_pure (hq _ _ up (Heap.SameBut.update ..))⟩
end
end Mine
namespace Mine

section
variable {W : Wd} {A : Around} {d : Nat} {X M M' : Excl} {env : Env} {sc : Sc} {σ : Loc} {s s' : Shared} {E : Value → Shared → Prop} {Q : Flow → Shared → Prop} {K : FP → Loc → Prop} {G : GC} {r : WE} {t : WT} {b : WB} {x : Str}

theorem SPost.keeps (h : SPost W A d X M env sc s K Q) (k : Keeps s s') : SPost W A d X M env sc s' K Q := h.after (Mut.of_keeps k)

/-! `x[i] = e` -/
noncomputable def storeS : List (Str × PV) → Str → PV → List (Str × PV)
  | [], k, p => [(k, p)]
  | (y, q) :: r, k, p => match nmEq y k with
    | true => (y, p) :: r
    | false => (y, q) :: storeS r k p
noncomputable def itemStoreW (r : WE) (sc : Sc) (σ : Loc) (x : Str) (i value : Expr) (K : FP → Loc → Prop) : Prop :=
  gd (isLoc sc x) (gd (noComp value) (r sc value σ fun p => gs (get σ x) fun l => match l with
    | .own vs => r sc i σ fun q => asI q fun k => Ob (0 ≤ k ∧ k < vs.length) (K .next (set σ x (.own (vs.set k.toNat p))))
    | .ownd es => r sc i σ fun q => asS q fun k => Ob (es.length < 1000) (K .next (set σ x (.ownd (storeS es k p))))
    | .val _ => False))

theorem denL_set {w : World} {h : Heap} {p : PV} {v : Value} (dv : Den w X h p v) : ∀ {ps : List PV} {vs : List Value} (i : Nat), DenL w X h ps vs → DenL w X h (ps.set i p) (vs.set i v)
  | [], vs, i, dl => by cases dl.inv_nil; exact .nil
  | q :: ps, vs, 0, dl => by obtain ⟨u, r, rfl, d1, d2⟩ := dl.inv_cons; exact .cons dv d2
  | q :: ps, vs, i + 1, dl => by obtain ⟨u, r, rfl, d1, d2⟩ := dl.inv_cons; exact .cons d1 (denL_set dv i d2)

theorem storeS_map {k : Str} {p : PV} : ∀ {es : List (Str × PV)}, (storeS es k p).map (·.1) = if k ∈ es.map (·.1) then es.map (·.1) else es.map (·.1) ++ [k]
  | [] => by simp [storeS]
  | (y, q) :: r => by
    simp only [storeS]
    cases h : nmEq y k with
    | true => simp [(nmEq_iff y k).mp h]
    | false =>
      have hne : ¬ k = y := fun e => by rw [(nmEq_iff y k).mpr e.symm] at h; cases h
      simp only [List.map_cons, storeS_map (es := r), List.mem_cons, hne, false_or]
      split <;> simp
theorem stored_cons {y k : Str} {u v : Value} {kvs : List (Str × Value)} (hn : ((y, u) :: kvs).map (·.1) |>.Nodup) : stored ((y, u) :: kvs) k v = if y = k then (y, v) :: kvs else (y, u) :: stored kvs k v := by
  unfold stored
  by_cases h : y = k
  · subst h
    have hni : y ∉ kvs.map (·.1) := by simpa using (List.nodup_cons.mp hn).1
    simp only [List.any_cons, decide_true, Bool.true_or, if_true, List.map_cons]
    rw [map_store_of_not_mem kvs y v hni]
  · simp only [List.any_cons, h, decide_false, Bool.false_or, List.map_cons, if_false]
    split <;> simp
theorem storeS_den {w : World} {h : Heap} {k : Str} {p : PV} {v : Value} (dv : Den w X h p v) : ∀ {es : List (Str × PV)} {kvs : List (Str × Value)}, kvs.map (·.1) = es.map (·.1) → (kvs.map (·.1)).Nodup → DenL w X h (es.map (·.2)) (kvs.map (·.2)) →
    (stored kvs k v).map (·.1) = (storeS es k p).map (·.1) ∧ DenL w X h ((storeS es k p).map (·.2)) ((stored kvs k v).map (·.2)) ∧ (storeS es k p).length ≤ es.length + 1
  | [], kvs, hm, _, _ => by
    have : kvs = [] := by simpa using hm
    subst this
    exact ⟨rfl, .one dv, Nat.le_refl _⟩
  | (y, q) :: r, [], hm, _, _ => by simp at hm
  | (y, q) :: r, (z, u) :: kvs, hm, hn, dl => by
    simp only [List.map_cons, List.cons.injEq] at hm
    obtain ⟨rfl, hm⟩ := hm
    obtain ⟨u', r', e', d1, d2⟩ := dl.inv_cons
    simp only [List.map_cons, List.cons.injEq] at e'
    obtain ⟨rfl, rfl⟩ := e'
    rw [stored_cons hn]
    simp only [storeS]
    cases hq : nmEq z k with
    | true =>
      rw [if_pos ((nmEq_iff z k).mp hq)]
      exact ⟨by simp [hm], .cons dv d2, by simp⟩
    | false =>
      have hne : ¬ z = k := fun e => by rw [(nmEq_iff z k).mpr e] at hq; cases hq
      rw [if_neg hne]
      obtain ⟨h1, h2, h3⟩ := storeS_den dv hm (List.nodup_cons.mp hn).2 d2
      exact ⟨by simp [h1], .cons d1 h2, by simp; omega⟩

theorem itemStore_ok {i value : Expr} {p sp pos : Pos} (hr : EOk W d r) (S : SS W A d X M env sc σ s) (h : itemStoreW r sc σ x i value K) (hq : SPost W A d X M env sc s K Q) :
    wpAny W.M A (exec (.Assign [.Subscript (.Name x p) i sp] value pos) env) Q E s := by
  obtain ⟨hx, h2⟩ := gd.inv h
  obtain ⟨hnc, h3⟩ := gd.inv h2
  · have hk := isLoc_iff hx
    refine wpAny_Assign_Subscript (hr.tk S.es h3 fun v pv s1 h1 k1 t1 d1 => ?_) (swaps_no hnc)
    have S1 := S.after k1 t1
    obtain ⟨l, hg, h1⟩ := gs.inv h1
    cases l with
    | own vs =>
      obtain ⟨u, hrn, hz, a, us, n, rfl, hM, ho, dl⟩ := S1.es.vis x _ hg (by rw [S1.es.eok.names, hk])
      refine wpAny_Name (reads_wp S1.es.eok hrn ?_ (S1.es.eok.ne_class hk)) (S1.es.eok.ne_debug hk)
      refine hr.tk S1.es h1 fun u q s2 h2 k2 t2 d2 => ?_
      have S2 := S1.after k2 t2
      obtain ⟨k, rfl, h2⟩ := asI.inv h2
      · skip
        obtain ⟨⟨h0, hlt⟩, h2⟩ := h2.elim
        obtain ⟨tk, rfl⟩ := den_int d2
        have hlen := dl.length
        refine set_plain (keeps_mem k2 _ _ ho) h0 (by omega) (by omega) fun h' n' hg' hs' => ?_
        have hrn2 := hrn.keeps (keeps_mem k2)
        have dl2 := (denL_set (d1.keeps (keeps_mem k2)) k.toNat (dl.keeps (keeps_mem k2)))
        have mv : ∀ c o, ¬ Un X M c → s2.heap.get? c = some o → ¬ Un X M c ∧ h'.get? c = some o := fun c o hc e => ⟨hc, by rw [hs'.2 c (by rintro rfl; exact hc (.inr hM))]; exact e⟩
        obtain ⟨S3, m3⟩ := S2.touch (tk := s2.toks) (l' := .own (vs.set k.toNat pv)) hk hg rfl hrn2 hs' ⟨_, hg'⟩ S2.es.tok ⟨by simpa using hz, a, _, n', rfl, hM, hg', dl2.move mv⟩
        exact hq _ _ _ _ _ h2 S3 ((Mut.of_keeps (keeps_trans k1 k2)).trans m3) rfl
    | ownd es =>
      obtain ⟨u, hrn, hz, a, kvs, rfl, hM, ho, he, dl⟩ := S1.es.vis x _ hg (by rw [S1.es.eok.names, hk])
      refine wpAny_Name (reads_wp S1.es.eok hrn ?_ (S1.es.eok.ne_class hk)) (S1.es.eok.ne_debug hk)
      refine hr.tk S1.es h1 fun u q s2 h2 k2 t2 d2 => ?_
      have S2 := S1.after k2 t2
      obtain ⟨k, rfl, h2⟩ := asS.inv h2
      · skip
        obtain ⟨hlt, h2⟩ := h2.elim
        obtain ⟨_, tk, rfl⟩ := den_str d2
        have ho2 := ho.keep (keeps_mem k2)
        have hkl : kvs.length ≤ sizeLine := by
          have := congrArg List.length he
          simp at this
          have := sizeLine_eq
          omega
        refine wpAny_with_toks (Nat.le_refl _) (wpAny_setItem_pairs (strKind_is _ _ k tk) ho2 (fun h' hm' hs' => ?_) hkl)
        intro htk
        obtain ⟨ob, _, _, hob, _⟩ := id hm'
        have hrn2 := hrn.keeps (keeps_mem k2)
        have hnd : (kvs.map (·.1)).Nodup := let ⟨_, _, _, _, _, _, _, _, e⟩ := ho; e
        obtain ⟨e1, e2, e3⟩ := storeS_den (d1.keeps (keeps_mem k2)) (k := k) he hnd (dl.keeps (keeps_mem k2))
        have mv : ∀ c o, ¬ Un X M c → s2.heap.get? c = some o → ¬ Un X M c ∧ h'.get? c = some o := fun c o hc e => ⟨hc, by rw [hs'.2 c (by rintro rfl; exact hc (.inr hM))]; exact e⟩
        obtain ⟨S3, m3⟩ := S2.touch (tk := s2.toks + 1) (l' := .ownd (storeS es k pv)) hk hg rfl hrn2 hs' ⟨_, hob⟩ (Nat.le_succ_of_le S2.es.tok) ⟨by omega, a, _, rfl, hM, hm', e1, e2.move mv⟩
        exact hq _ _ _ _ _ h2 S3 ((Mut.of_keeps (keeps_trans k1 k2)).trans m3) rfl
    | val p => exact False.elim h1
end
end Mine
namespace Mine

section
variable {W : Wd} {A : Around} {d : Nat} {X M M' : Excl} {env : Env} {sc : Sc} {σ : Loc} {s s' : Shared} {E : Value → Shared → Prop} {Q : Flow → Shared → Prop} {K : FP → Loc → Prop} {G : GC} {r : WE} {t : WT} {b : WB} {x : Str}

theorem fresh_none {h h' : Heap} (hk : ∀ b o, h.get? b = some o → h'.get? b = some o) : h.get? h'.objs.size = none := by
  cases e : h.get? h'.objs.size with
  | none => rfl
  | some o => exact absurd (Heap.lt_size (hk _ _ e)) (Nat.lt_irrefl _)

/-- a fresh own object gets a name -/
theorem store_own {l : LV} {a : Addr} {o : Obj} {Qs : Unit → Shared → Prop} (S : SS W A d X M env sc σ s) (hk : kd sc x = some .loc) (k : Keeps s s') (t : s.toks ≤ s'.toks) (hn : s.heap.get? a = none) (ha : s'.heap.get? a = some o)
    (hl : LDen W.prog W.w (Un X (Plus M a)) (Plus M a) s'.heap l (.ref a)) (hq : ∀ s2 M', SS W A d X M' env sc (set σ x l) s2 → Mut M M' s s2 → Qs () s2) : wpAny W.M A (storeName env x (.ref a)) Qs E s' := by
  obtain ⟨S1, m1⟩ := S.grow k t hn ha
  refine store_name_ok S1 hk hl (fun _ => ?_) (fun _ y k u hyx hg oy hky hr => ?_) fun s2 S2 m2 => hq s2 _ S2 (m1.trans m2)
  · rintro e
    cases e
    obtain ⟨o', e⟩ := S.es.xlt _ (.inr S.fr.loc.1)
    rw [hn] at e; cases e
  · obtain ⟨u', hr', d'⟩ := S.es.vis y k hg hky
    obtain ⟨a', o', rfl, hM, hget⟩ := own_addr oy d'
    have := (hr'.keeps (keeps_mem ‹Keeps s s'›)).inj hr
    subst this
    rintro e
    cases e
    rw [hn] at hget; cases hget

noncomputable def constPair? (k : Option Expr) (e : Expr) : Option (Str × Str × (Nat × Pos) × (Nat × Pos)) := match k with
  | none => none
  | some k => (match strC? k with
    | none => none
    | some a => (match strC? e with
      | none => none
      | some b => (match Nat.ble b.1.length 1000 with | true => some (a.1, b.1, a.2, b.2) | false => none)))
theorem constPair?.inv {k : Option Expr} {e : Expr} {q : Str × Str × (Nat × Pos) × (Nat × Pos)} (h : constPair? k e = some q) :
    k = some (.Constant (.str q.1) q.2.2.1.1 q.2.2.1.2) ∧ e = .Constant (.str q.2.1) q.2.2.2.1 q.2.2.2.2 ∧ Nat.ble q.2.1.length 1000 = true := by
  unfold constPair? at h
  cases k with
  | none => cases h
  | some k =>
    simp only at h
    cases ha : strC? k with
    | none => rw [ha] at h; cases h
    | some a =>
      rw [ha] at h
      simp only at h
      cases hb : strC? e with
      | none => rw [hb] at h; cases h
      | some b =>
        rw [hb] at h
        simp only at h
        cases hl : Nat.ble b.1.length 1000 with
        | false => rw [hl] at h; cases h
        | true => rw [hl] at h; cases h; exact ⟨congrArg some (strC?.inv ha), strC?.inv hb, hl⟩
noncomputable def constPairs : List (Option Expr) → List Expr → Option (List (Str × PV))
  | [], vs => (match vs with | [] => some [] | _ :: _ => none)
  | k :: ks, vs => (match vs with
    | [] => none
    | e :: vs => (match constPair? k e with
      | none => none
      | some q => (match constPairs ks vs with
        | none => none
        | some r => some ((q.1, .str q.2.1) :: r))))
theorem constPairs.inv {k : Option Expr} {ks : List (Option Expr)} {vs : List Expr} {es : List (Str × PV)} (h : constPairs (k :: ks) vs = some es) :
    ∃ e vs' q r, vs = e :: vs' ∧ constPair? k e = some q ∧ constPairs ks vs' = some r ∧ es = (q.1, .str q.2.1) :: r := by
  unfold constPairs at h
  cases vs with
  | nil => cases h
  | cons e vs =>
    simp only at h
    cases hq : constPair? k e with
    | none => rw [hq] at h; cases h
    | some q =>
      rw [hq] at h
      simp only at h
      cases hr : constPairs ks vs with
      | none => rw [hr] at h; cases h
      | some r => rw [hr] at h; cases h; exact ⟨e, vs, q, r, rfl, hq, hr, rfl⟩
noncomputable def nodupKeys : List (Str × PV) → Bool
  | [] => true
  | (k, _) :: r => (match r.all (fun p => !nmEq k p.1) with | true => nodupKeys r | false => false)
theorem nodupKeys_iff : ∀ {es : List (Str × PV)}, nodupKeys es = true → (es.map (·.1)).Nodup
  | [], _ => by simp
  | (k, p) :: r, h => by
    simp only [nodupKeys] at h
    split at h
    · rename_i ha
      simp only [List.map_cons, List.nodup_cons]
      refine ⟨?_, nodupKeys_iff h⟩
      intro hm
      obtain ⟨q, hq, e⟩ := List.mem_map.mp hm
      have := List.all_eq_true.mp ha q hq
      rw [← e] at this
      simp [(nmEq_iff q.1 q.1).mpr rfl] at this
    · cases h
theorem constPairs_eval {pos : Pos} {keys : List (Option Expr)} : ∀ {values : List Expr} {es : List (Str × PV)} {s : Shared} {Qp : List (Value × Value) → Shared → Prop}, constPairs keys values = some es →
    (∀ vs s', allStrKeys vs = true → (strPairs vs).map (·.1) = es.map (·.1) → DenL W.w X s'.heap (es.map (·.2)) ((strPairs vs).map (·.2)) → (∃ tk, s' = { s with toks := tk }) → s.toks ≤ s'.toks → Qp vs s') →
    wpAny W.M A (evalPairs (pairTrees keys values env pos)) Qp E s := by
  induction keys with
  | nil =>
    intro values es s Qp h hq
    cases values with
    | nil => cases h; exact pairTrees_nil_walk (hq [] s rfl rfl .nil ⟨s.toks, rfl⟩ (Nat.le_refl _))
    | cons => cases h
  | cons k ks ih =>
    intro values es s Qp h hq
    obtain ⟨e, vs, ⟨a, b, p, q⟩, r, rfl, h1, hr, rfl⟩ := constPairs.inv h
    obtain ⟨rfl, rfl, hl⟩ := constPair?.inv h1
    refine pairTrees_cons_walk ?_
    rw [arm_eval_Constant]
    refine wpAny_mkText ?_
    rw [arm_eval_Constant]
    refine wpAny_mkText ?_
    refine ih hr fun us s' h1 h2 h3 h4 h5 => ?_
    obtain ⟨tk, rfl⟩ := h4
    exact hq _ _ h1 (congrArg (a :: ·) h2) (.cons (mk_str (le_1000 hl)) h3) ⟨tk, rfl⟩ (Nat.le_trans (Nat.le_add_right _ 2) h5)

/-! `x = [..]`, `x = list(range(..))`, `x = {..}`: an own object -/
noncomputable def isGlob (sc : Sc) (x : Str) : Bool := match kd sc x with | some .glob => true | _ => false
theorem isGlob.inv {sc : Sc} {x : Str} (h : isGlob sc x = true) : kd sc x = some .glob := by
  unfold isGlob at h
  cases hk : kd sc x with
  | none => rw [hk] at h; cases h
  | some k => rw [hk] at h; cases k <;> first | rfl | cases h
noncomputable def ownRangeW (p : PV) (K : LV → Prop) : Prop := match p with
  | .range a b c => Ob (Builtin.Range.small a b c = true ∧ 0 ≤ Builtin.Range.rangeSize a b c ∧ Builtin.Range.rangeSize a b c ≤ sizeLine) (K (.own (rangeItems a b c)))
  | _ => False
noncomputable def ownW (r : WE) (sc : Sc) (σ : Loc) (value : Expr) (K : LV → Prop) : Prop :=
  match value with
  | .List es _ => eachW (fun e K => r sc e σ K) es fun ps => Ob (ps.length ≤ sizeLine) (K (.own ps))
  | .Call f args kws _ => gs (nameOf? f) fun q => as1 args fun e => as0 kws (gd (isGlob sc q.1) (gd (nmEq q.1 (Str.ofString "list")) (gd (noStar e) (r sc e σ fun p => ownRangeW p K)))) fun _ _ => False
  | .Dict keys values _ => gs (constPairs keys values) fun es => gd (nodupKeys es) (gd (Nat.ble es.length 15) (as0 es False fun _ _ => K (.ownd es)))
  | _ => False

theorem own_ok {value : Expr} {Kl : LV → Prop} {Qv : Value → Shared → Prop} (hG : GOk W d G) (hl : G.fn (Str.ofString "list") = none) (hr : EOk W d r) (S : SS W A d X M env sc σ s) (h : ownW r sc σ value Kl)
    (hq : ∀ l a o s', Kl l → Keeps s s' → s.toks ≤ s'.toks → s.heap.get? a = none → s'.heap.get? a = some o → LDen W.prog W.w (Un X (Plus M a)) (Plus M a) s'.heap l (.ref a) → Qv (.ref a) s') : wpAny W.M A (eval value env) Qv E s := by
  cases value with
  | List es pos =>
    refine wpAny_with_toks (Nat.le_refl _) (List_ (each_ok hr S.es h fun vs ps s1 h1 k1 t1 d1 => ?_))
    obtain ⟨hz, h1⟩ := h1.elim
    have hsz : vs.toArray.size ≤ sizeLine := by rw [List.size_toArray, d1.length]; exact hz
    refine wpAny_newObj_type ?_ (by show vs.toArray.size ≤ sizeLine; exact hsz)
    intro tt
    have kk := keeps_trans k1 (keeps_push' s1 { cls := .type "list", data := .seq vs.toArray })
    have hnone : s.heap.get? s1.heap.objs.size = none := fresh_none (keeps_mem k1)
    refine hq _ _ _ _ h1 kk tt hnone (Heap.get?_push_size _ rfl) ⟨hz, _, vs, 0, rfl, .inr rfl, Heap.get?_push_size _ rfl, d1.move fun b o hb e => ⟨?_, Heap.get?_push_of_some _ e⟩⟩
    rintro (q | q | q)
    · exact hb (.inl q)
    · exact hb (.inr q)
    · exact absurd (q ▸ Heap.lt_size e) (Nat.lt_irrefl _)
  | Call f args kws cpos =>
    obtain ⟨⟨f, fp⟩, hfn, h2⟩ := gs.inv h
    clear h
    cases nameOf?.inv hfn
    obtain ⟨e, rfl, h3⟩ := as1.inv h2
    clear h2 hfn
    rcases kws with _ | ⟨kw, kws⟩
    · obtain ⟨hk, h4⟩ := gd.inv h3
      obtain ⟨hf, h5⟩ := gd.inv h4
      obtain ⟨hs, h⟩ := gd.inv h5
      clear h3 h4 h5
      have hk := isGlob.inv hk
      have hf' : f = Str.ofString "list" := (nmEq_iff _ _).mp hf
      subst hf'
      have hn := nsTop S.es.top S.es.eok
      have hbi := hG.bi .list
      refine wpAny_Call_Name_kw (Calls.Name_function_global S.es.eok.kind (glob_kind S.es.eok hk) ?_ (S.es.eok.ne_debug hk))
      refine Calls.loadGlobal_builtin hn.1 hbi.1 hn.2 hbi.2 ?_
      refine PySem.callWith_type (T := "list") (starEach_any (f := fun _ _ => True) (by simpa using hs)) ?_
      refine wpAny_with_toks (Nat.le_refl _) (evalArgs_ok (f := .type "list") (Ka := fun ps => as1 ps fun p => ownRangeW p Kl) hr S.es ?_ fun vs ps s1 h1 k1 t1 d1 => ?_)
      · simp only [eachW, hs]
        exact h
      · obtain ⟨p, rfl, h1⟩ := as1.inv h1
        cases p with
        | range ra rb rc =>
          obtain ⟨v, rfl, dv⟩ := denL_one d1
          obtain ⟨⟨h3, h4, h5⟩, h6⟩ := h1.elim
          obtain ⟨ro, tk1, tk2, tk3, rfl, hx, hg⟩ := den_range dv
          have hrn : ((Builtin.Range.rangeSize ra rb rc).toNat : Int) = Builtin.Range.rangeSize ra rb rc := Int.toNat_of_nonneg h4
          refine fun _ => wpAny_with_toks (Nat.le_refl _) (call_list_range (n := (Builtin.Range.rangeSize ra rb rc).toNat) S.es.room.handled hg h3 hrn.symm (by have := sizeLine_eq; omega) fun h' tk acc' c' hk hg' hit tt => ?_)
          have kk := keeps_trans k1 (keeps_of (tk := tk) hk)
          have hnone : s.heap.get? s1.heap.objs.size = none := fresh_none (keeps_mem k1)
          refine hq _ _ _ _ h6 kk (Nat.le_trans t1 tt) hnone hg' ⟨by simp [rangeItems]; omega, _, acc'.toList, c', rfl, .inr rfl, hg', DenL.of_get ?_ ?_⟩
          · simp [rangeItems, hit.1]
          · intro i p v hp hv
            obtain ⟨t, rfl⟩ := hit.2 i v (by simpa using hv)
            simp only [rangeItems, List.getElem?_map, Option.map_eq_some_iff] at hp
            obtain ⟨j, hj, rfl⟩ := hp
            obtain ⟨hi, rfl⟩ := List.getElem?_eq_some_iff.mp hj
            simp only [List.getElem_range]
            exact mk_int
        | _ => exact False.elim h1
    · exact False.elim h3
  | Dict keys values pos =>
    obtain ⟨es, hes, h2⟩ := gs.inv h
    obtain ⟨hnd, h3⟩ := gd.inv h2
    obtain ⟨hle, h4⟩ := gd.inv h3
    rcases es with _ | ⟨e0, er⟩
    · exact False.elim h4
    · replace h : Kl (.ownd (e0 :: er)) := h4
      clear h2 h3 h4
      · have hlen : (e0 :: er).length ≤ 15 := Nat.le_of_ble_eq_true hle
        have hall : ∀ {keys : List (Option Expr)} {values : List Expr} {es : List (Str × PV)}, constPairs keys values = some es → keys.all (·.isSome) = true ∧ keys.length = values.length ∧ keys.length = es.length := by
          intro keys
          induction keys with
          | nil =>
            intro values es h
            cases values with
            | nil => cases h; exact ⟨rfl, rfl, rfl⟩
            | cons => cases h
          | cons k0 ks ih =>
            intro values es h
            obtain ⟨e, vs, q, r, rfl, hq, hr, rfl⟩ := constPairs.inv h
            obtain ⟨rfl, _, _⟩ := constPair?.inv hq
            obtain ⟨h1, h2, h3⟩ := ih hr
            exact ⟨h1, congrArg (· + 1) h2, congrArg (· + 1) h3⟩
        obtain ⟨h1, h2, h3⟩ := hall hes
        refine wpAny_with_toks (Nat.le_refl _) (wpAny_Dict_walk (knd := strKind W.prog W.w) h1 h2 (by rintro rfl; simp at h3) (by omega) ?_)
        refine constPairs_eval (X := Un X (Plus M s.heap.objs.size)) hes fun vs s1 a1 a2 a3 a4 a5 => ?_
        obtain ⟨tk, rfl⟩ := a4
        have hnew : (s.heap.push { cls := .type "dict", data := .dict #[] }).DictOf (strKind W.prog W.w) s.heap.objs.size [] := Heap.DictOf.new _
        refine display_done_str a1 (by rw [a2]; exact nodupKeys_iff hnd) hnew fun h' hm hs tt => ?_
        have hkp : ∀ b o, s.heap.get? b = some o → h'.get? b = some o := fun b o e => by
          rw [hs.2 b (Nat.ne_of_lt (Heap.lt_size e))]; exact Heap.get?_push_of_some _ e
        obtain ⟨ob, _, _, hob, _⟩ := id hm
        refine hq _ _ _ _ h (keeps_of hkp) tt (fresh_none (h' := s.heap) fun _ _ e => e) hob ⟨by omega, _, _, rfl, .inr rfl, hm, a2, ?_⟩
        refine DenL.move (X := Un X (Plus M s.heap.objs.size)) (h := s.heap.push { cls := .type "dict", data := .dict #[] }) (fun b o hb e => ⟨hb, ?_⟩) a3
        rw [hs.2 b (fun q => hb (.inr (.inr q)))]; exact e
  | _ => exact False.elim h
end
end Mine
namespace Mine

section
variable {W : Wd} {A : Around} {d : Nat} {X M M' : Excl} {env : Env} {sc : Sc} {σ : Loc} {s s' : Shared} {E : Value → Shared → Prop} {Q : Flow → Shared → Prop} {K : FP → Loc → Prop} {G : GC} {r : WE} {t : WT} {b : WB} {x : Str}

noncomputable def assignOwnW (r : WE) (sc : Sc) (σ : Loc) (x : Str) (value : Expr) (K : FP → Loc → Prop) : Prop :=
  gd (isLoc sc x) (gd (noComp value) (ownW r sc σ value fun l => K .next (set σ x l)))
theorem assignOwn_ok {value : Expr} {px pos : Pos} (hG : GOk W d G) (hl : G.fn (Str.ofString "list") = none) (hr : EOk W d r) (S : SS W A d X M env sc σ s) (h : assignOwnW r sc σ x value K) (hq : SPost W A d X M env sc s K Q) :
    wpAny W.M A (exec (.Assign [.Name x px] value pos) env) Q E s := by
  obtain ⟨hx, h2⟩ := gd.inv h
  obtain ⟨hnc, h3⟩ := gd.inv h2
  refine wpAny_Assign_Name (own_ok hG hl hr S h3 fun l a o s1 hK k1 t1 hn ha hl => ?_) (swaps_no hnc)
  exact store_own S (isLoc_iff hx) k1 t1 hn ha hl fun s2 M' S2 m2 => hq _ _ _ _ _ hK S2 m2 rfl

/-! `a, b = (c, d)` over four names -/
noncomputable def isLocal (sc : Sc) (x : Str) : Bool := match sc with
  | [] => false
  | (y, k) :: r => match nmEq y x with
    | true => (match k with | .local => true | _ => false)
    | false => isLocal r x
theorem isLocal_lookup {x : Str} : ∀ {sc : Sc}, isLocal sc x = true → sc.lookup x = some .local
  | [], h => by cases h
  | (y, k) :: r, h => by
    simp only [isLocal] at h
    rw [List.lookup_cons]
    cases hn : nmEq y x with
    | true =>
      rw [hn] at h
      rw [(nmEq_iff y x).mp hn]
      simp only [beq_self_eq_true]
      cases k <;> first | rfl | cases h
    | false =>
      rw [hn] at h
      have : (x == y) = false := by
        rw [beq_eq_false_iff_ne]
        exact fun e => by rw [(nmEq_iff y x).mpr e.symm] at hn; cases hn
      simp only [this]
      exact isLocal_lookup h
noncomputable def swapW (G : GC) (sc : Sc) (σ : Loc) (x y u v : Str) (lx ly : Nat) (K : FP → Loc → Prop) : Prop :=
  gd (isLocal sc x) (gd (isLocal sc y) (gd (!nmEq x y) (gd (Nat.beq lx ly) (gd (!nmEq u (Str.ofString "__debug__")) (gd (!nmEq v (Str.ofString "__debug__"))
    (nameW G sc σ u fun p => nameW G sc σ v fun q => K .next (set (set σ y (.val q)) x (.val p))))))))

theorem nameW_mono {K K' : PV → Prop} (hk : ∀ p, K p → K' p) (h : nameW G sc σ x K) : nameW G sc σ x K' := by
  unfold nameW at h ⊢
  split at h
  · split at h
    · exact hk _ h
    · exact h
  · split at h
    · exact hk _ h
    · split at h
      · exact hk _ h
      · exact h
  · exact h

theorem swap_fin {x y : Str} {p q : PV} {v1 v2 : Value} {tA : Addr} {Qs : Unit → Shared → Prop} (S : SS W A d X M env sc σ s) (lx : kd sc x = some .loc) (ly : kd sc y = some .loc) (ht : IsTup s'.heap tA #[v1, v2]) (k : Keeps s s') (tt : s.toks ≤ s'.toks)
    (dp : Den W.w (Un X M) s.heap p v1) (dq : Den W.w (Un X M) s.heap q v2) (hq : ∀ s2, SS W A d X M env sc (set (set σ y (.val q)) x (.val p)) s2 → Mut M M s s2 → Qs () s2) :
    wpAny W.M A (unpackItems (.ref tA) 2 none) (fun items s₂ => wpAny W.M A (assignInOrder [bindName env y, bindName env x] items.reverse) Qs E s₂) E s' := by
  have S2 := S.after k tt
  refine unpackItems_tuple (items := #[v1, v2]) S.es.room.handled ht fun h' he => ?_
  have kk2 : Keeps s' { s' with heap := h' } := ⟨h', s'.toks, rfl, fun b o e => he b o (Nat.ne_of_lt (Heap.lt_size e)) e⟩
  have S3 := S2.after kk2 (Nat.le_refl _)
  have kk3 := keeps_trans k kk2
  refine assignInOrder_cons (wpAny_bindName (store_val S3 ly (dq.keeps (keeps_mem kk3)) fun s4 S4 m4 => ?_))
  refine assignInOrder_cons (wpAny_bindName (store_val S4 lx ((dp.keeps (keeps_mem kk3)).move fun a o hh e => m4.mem a o (fun q => hh (.inr q)) e |>.imp (fun _ => hh) id) fun s5 S5 m5 => ?_))
  exact assignInOrder_nil (hq _ S5 ((Mut.of_keeps kk3).trans (m4.trans m5)))

theorem swap_ok {x y u v : Str} {px py pu pv tp vp pos : Pos} {n k : Nat} (hG : GOk W d G) (S : SS W A d X M env sc σ s) (h : swapW G sc σ x y u v px.line py.line K) (hq : SPost W A d X M env sc s K Q) :
    wpAny W.M A (exec (.Assign [.Tuple [.Name x px, .Name y py] n tp] (.Tuple [.Name u pu, .Name v pv] k vp) pos) env) Q E s := by
  obtain ⟨h1, g⟩ := gd.inv h
  obtain ⟨h2, g⟩ := gd.inv g
  obtain ⟨h3, g⟩ := gd.inv g
  obtain ⟨h4, g⟩ := gd.inv g
  obtain ⟨h5, g⟩ := gd.inv g
  obtain ⟨h6, h⟩ := gd.inv g
  clear g
  rw [Bool.not_eq_true'] at h3 h5 h6
  · skip
    have hfree := S.fr.noFree
    have kx : env.kindOf x = some .local := by
      rcases S.es.eok.kinds x with e | ⟨e, _⟩
      · rw [e]; exact isLocal_lookup h1
      · rw [isLocal_lookup h1] at e; cases e
    have ky : env.kindOf y = some .local := by
      rcases S.es.eok.kinds y with e | ⟨e, _⟩
      · rw [e]; exact isLocal_lookup h2
      · rw [isLocal_lookup h2] at e; cases e
    have lx : kd sc x = some .loc := by rw [kd_lookup, isLocal_lookup h1]; rfl
    have ly : kd sc y = some .loc := by rw [kd_lookup, isLocal_lookup h2]; rfl
    have hxy : x ≠ y := fun e => by rw [(nmEq_iff x y).mpr e] at h3; cases h3
    have hline : px.line = py.line := Nat.eq_of_beq_eq_true h4
    have hu : (u == ("__debug__" : Str)) = false := by rw [beq_eq_false_iff_ne]; intro e; rw [(nmEq_iff u _).mpr e] at h5; cases h5
    have hv : (v == ("__debug__" : Str)) = false := by rw [beq_eq_false_iff_ne]; intro e; rw [(nmEq_iff v _).mpr e] at h6; cases h6
    have hbk : env.blockKind = .function := by
      unfold Env.blockKind
      rw [S.es.eok.kind]
      rfl
    have hw : swappedStores [.Tuple [.Name x px, .Name y py] n tp] (.Tuple [.Name u pu, .Name v pv] k vp) env = pure (some [x, y]) := by
      have hyx : (y == x) = false := by rw [beq_eq_false_iff_ne]; exact Ne.symm hxy
      have f1 : foldedForSure 8 (.Name u pu) = false := rfl
      have c1 : constantsAlone 8 (.Name u pu) = (u == ("__debug__" : Str)) := rfl
      have p1 : (Expr.Name x px).pos = px := rfl
      unfold swappedStores
      simp [hbk, kx, ky, p1, hline, f1, c1, hu, List.eraseDups, List.eraseDupsBy, List.eraseDupsBy.loop, hyx]
    have hnm : EOk W d (fun sc e σ K => gs (nameOf? e) fun q => nameW G sc σ q.1 K) := by
      intro A E s X M env sc e σ K Q es h hq
      obtain ⟨q, hq', h2⟩ := gs.inv h
      rw [nameOf?.inv hq']
      exact name_ok hG es h2 hq
    refine Assign_Tuple_swapped (names := [x, y]) ?_ rfl hw
    refine Tuple_ (each_ok (K := fun ps => ∃ p q, ps = [p, q] ∧ K .next (set (set σ y (.val q)) x (.val p))) hnm S.es ?_ fun vs ps s1 h1 k1 t1 d1 => ?_)
    · simp only [eachW, noStar]
      exact nameW_mono (fun p hp => nameW_mono (fun q hq => ⟨p, q, rfl, hq⟩) hp) h
    · obtain ⟨p, q, rfl, hK⟩ := h1
      obtain ⟨v1, v2, rfl, dp, dq⟩ := denL_two d1
      have S1 := S.after k1 t1
      refine wpAny_newObj_type ?_ (by show 2 ≤ sizeLine; have := sizeLine_eq; omega)
      have ht : IsTup (s1.heap.push { cls := .type "tuple", data := .seq #[v1, v2] }) s1.heap.objs.size #[v1, v2] := tup_isTup (us := [v1, v2]) (n := 0) (Heap.get?_push_size _ rfl)
      have kk : Keeps s1 { s1 with heap := s1.heap.push { cls := .type "tuple", data := .seq #[v1, v2] } } := keeps_push' s1 _
      exact swap_fin S1 lx ly ht kk (Nat.le_refl _) dp dq fun s5 S5 m5 => hq _ _ _ _ _ hK S5 ((Mut.of_keeps k1).trans m5) rfl

/-! `a = b = e` -/
noncomputable def chainW (r : WE) (sc : Sc) (σ : Loc) (x y : Str) (value : Expr) (K : FP → Loc → Prop) : Prop :=
  gd (isLoc sc x) (gd (isLoc sc y) (gd (noComp value) (r sc value σ fun p => K .next (set (set σ x (.val p)) y (.val p)))))
theorem chain_ok {x y : Str} {value : Expr} {px py pos : Pos} (hr : EOk W d r) (S : SS W A d X M env sc σ s) (h : chainW r sc σ x y value K) (hq : SPost W A d X M env sc s K Q) :
    wpAny W.M A (exec (.Assign [.Name x px, .Name y py] value pos) env) Q E s := by
  obtain ⟨hx, h2⟩ := gd.inv h
  obtain ⟨hy, h3⟩ := gd.inv h2
  obtain ⟨hnc, h⟩ := gd.inv h3
  · refine wpAny_Assign_two (hr.tk S.es h fun v p s1 hp k1 t1 d1 => ?_)
    have S1 := S.after k1 t1
    refine wpAny_assign_Name (store_val S1 (isLoc_iff hx) d1 fun s2 S2 m2 => ?_)
    refine wpAny_assign_Name (store_val S2 (isLoc_iff hy) (d1.move fun a o hh e => m2.mem a o (fun q => hh (.inr q)) e |>.imp (fun _ => hh) id) fun s3 S3 m3 => ?_)
    exact hq _ _ _ _ _ hp S3 ((Mut.of_keeps k1).trans (m2.trans m3)) rfl

/-! `x += e` -/
theorem nameW_loc {K : PV → Prop} (hk : kd sc x = some .loc) (h : nameW G sc σ x K) : ∃ p, get σ x = some (.val p) ∧ K p := by
  unfold nameW at h
  rw [hk] at h
  cases hg : get σ x with
  | none => rw [hg] at h; exact False.elim h
  | some l =>
    rw [hg] at h
    cases l with
    | val p => exact ⟨p, rfl, h⟩
    | _ => exact False.elim h
noncomputable def augOp (op : Operator) (p q : PV) (K : Int → Prop) : Prop := match op with
  | .Add => asI p fun a => asI q fun b => K (a + b)
  | .Sub => asI p fun a => asI q fun b => K (a - b)
  | _ => False
noncomputable def augW (G : GC) (r : WE) (sc : Sc) (σ : Loc) (x : Str) (op : Operator) (value : Expr) (K : FP → Loc → Prop) : Prop :=
  gd (isLoc sc x) (nameW G sc σ x fun p => r sc value σ fun q => augOp op p q fun i => K .next (set σ x (.val (.int i))))
theorem aug_ok {op : Operator} {value : Expr} {px pos : Pos} (hG : GOk W d G) (hr : EOk W d r) (S : SS W A d X M env sc σ s) (h : augW G r sc σ x op value K) (hq : SPost W A d X M env sc s K Q) :
    wpAny W.M A (exec (.AugAssign (.Name x px) op value pos) env) Q E s := by
  obtain ⟨hx, h2⟩ := gd.inv h
  have hk := isLoc_iff hx
  obtain ⟨p, hg, h3⟩ := nameW_loc hk h2
  obtain ⟨v, hrn, dv⟩ := S.es.vis x _ hg (by rw [S.es.eok.names, hk])
  refine wpAny_AugAssign_Name (reads_wp S.es.eok hrn ?_ (S.es.eok.ne_class hk))
  refine hr.tk S.es h3 fun u q s1 h1 k1 t1 d1 => ?_
  have S1 := S.after k1 t1
  have kk := keeps_tk s1 (s1.toks + 1)
  have fin : ∀ i : Int, K .next (set σ x (.val (.int i))) → wpAny W.M A (storeName env x (.int i s1.toks)) (fun _ s' => Q .next s') E { s1 with toks := s1.toks + 1 } := fun i hi =>
    store_val (S1.after kk (Nat.le_succ _)) hk mk_int fun s2 S2 m2 => hq _ _ _ _ _ hi S2 ((Mut.of_keeps (keeps_trans k1 kk)).trans m2) rfl
  cases op with
  | Add =>
    obtain ⟨a, rfl, h4⟩ := asI.inv h1
    obtain ⟨b, rfl, h5⟩ := asI.inv h4
    obtain ⟨tk, rfl⟩ := den_int (w := W.w) (h := s.heap) (X := Un X M) dv
    obtain ⟨tk', rfl⟩ := den_int d1
    exact PyProof.Rows.iadd_int (fin _ h5)
  | Sub =>
    obtain ⟨a, rfl, h4⟩ := asI.inv h1
    obtain ⟨b, rfl, h5⟩ := asI.inv h4
    obtain ⟨tk, rfl⟩ := den_int (w := W.w) (h := s.heap) (X := Un X M) dv
    obtain ⟨tk', rfl⟩ := den_int d1
    exact PyProof.Rows.isub_int (fin _ h5)
  | _ => exact False.elim h1

/-! `if`, `return`, `try` -/
theorem if_ok {test : Expr} {body orelse : List Stmt} {pos : Pos} (ht : TOk W d t) (hb : BOk W d b) (S : SS W A d X M env sc σ s) (h : t sc test σ fun c => Br c (b sc body σ K) (b sc orelse σ K)) (hq : SPost W A d X M env sc s K Q) :
    wpAny W.M A (exec (.If test body orelse pos) env) Q E s := by
  refine wpAny_If (ht.tk S.es h fun c s1 h1 k1 t1 => ?_)
  have h2 := h1.elim
  have S1 := S.after k1 t1
  cases c with
  | true => exact hb _ _ _ _ _ _ _ _ _ _ _ S1 (h2.1 rfl) (hq.keeps k1)
  | false => exact hb _ _ _ _ _ _ _ _ _ _ _ S1 (h2.2 rfl) (hq.keeps k1)
theorem return_ok {e : Expr} {pos : Pos} (hr : EOk W d r) (S : SS W A d X M env sc σ s) (h : r sc e σ fun p => K (.ret p) σ) (hq : SPost W A d X M env sc s K Q) :
    wpAny W.M A (exec (.Return (some e) pos) env) Q E s :=
  wpAny_Return_some (hr.tk S.es h fun v p s1 h1 k1 t1 d1 => hq _ _ _ _ _ h1 (S.after k1 t1) (Mut.of_keeps k1) ⟨v, rfl, d1⟩)
theorem try_ok {body orelse : List Stmt} {h₀ : ExceptHandler} {hs : List ExceptHandler} {pos : Pos} (hb : BOk W d b) (S : SS W A d X M env sc σ s)
    (h : b sc body σ fun fp σ' => match fp with
      | .next => b sc orelse σ' K
      | fp => K fp σ') (hq : SPost W A d X M env sc s K Q) :
    wpAny W.M A (exec (.Try body (h₀ :: hs) orelse [] pos) env) Q E s := by
  refine wpAny_Try_except (hb _ _ _ _ _ _ _ _ _ _ _ S h fun fp f σ' M' s1 h1 S1 m1 hf => ?_)
  cases fp with
  | next => cases hf; exact hb _ _ _ _ _ _ _ _ _ _ _ S1 h1 (hq.after m1)
  | brk => cases hf; exact hq _ _ _ _ _ h1 S1 m1 rfl
  | cont => cases hf; exact hq _ _ _ _ _ h1 S1 m1 rfl
  | ret p => obtain ⟨v, rfl, dv⟩ := hf; exact hq _ _ _ _ _ h1 S1 m1 ⟨v, rfl, dv⟩

/-! `x.append(e)`, `x.extend(e)` -/
noncomputable def ownOf? (σ : Loc) (x : Str) : Option (List PV) := match get σ x with | some l => (match l with | .own vs => some vs | _ => none) | none => none
theorem ownOf?.inv {vs : List PV} (h : ownOf? σ x = some vs) : get σ x = some (.own vs) := by
  unfold ownOf? at h
  cases hg : get σ x with
  | none => rw [hg] at h; cases h
  | some l => rw [hg] at h; cases l <;> cases h; rfl
noncomputable def growW (r : WE) (sc : Sc) (σ : Loc) (x m : Str) (e : Expr) (al pl : Nat) (K : FP → Loc → Prop) : Prop :=
  gd (isLoc sc x) (gd (noStar e) (gd (Nat.beq al pl) (gs (ownOf? σ x) fun vs => match nmEq m (Str.ofString "append") with
    | true => r sc e σ fun p => Ob (vs.length < sizeLine) (K .next (set σ x (.own (vs ++ [p]))))
    | false => gd (nmEq m (Str.ofString "extend")) (r sc e σ fun p => asL p fun us => Ob (vs.length + us.length ≤ sizeLine) (K .next (set σ x (.own (vs ++ us))))))))
theorem grow_ok {m : Str} {e : Expr} {xp ap cp pos : Pos} (hr : EOk W d r) (S : SS W A d X M env sc σ s) (h : growW r sc σ x m e ap.endLine cp.line K) (hq : SPost W A d X M env sc s K Q) :
    wpAny W.M A (exec (.Expr (.Call (.Attribute (.Name x xp) m ap) [e] [] cp) pos) env) Q E s := by
  obtain ⟨hx, g⟩ := gd.inv h
  obtain ⟨hns, g⟩ := gd.inv g
  obtain ⟨hln, g⟩ := gd.inv g
  obtain ⟨vs, hg, h⟩ := gs.inv g
  clear g
  have hg := ownOf?.inv hg
  · skip
    have hk := isLoc_iff hx
    have hi : interactive env = false := by
      unfold interactive
      rw [S.es.eok.kind]
      rfl
    refine wpAny_Expr_any ?_ hi (swaps_no rfl)
    have hl : (ap.endLine == cp.line) = true := by simpa using Nat.eq_of_beq_eq_true hln
    obtain ⟨u, hrn, hz, a, us, n, rfl, hM, ho, dl⟩ := S.es.vis x _ hg (by rw [S.es.eok.names, hk])
    refine Call_method1 rfl (starEach_plain hns) hl (wpAny_Name (reads_wp S.es.eok hrn ?_ (S.es.eok.ne_class hk)) (S.es.eok.ne_debug hk))
    have hT : s.TypeIs (.ref a) "list" := ⟨_, ho, rfl⟩
    have hd : ∀ b, Value.ref a = .ref b → ∃ ob, s.heap.get? b = some ob ∧ ob.dict = none := by rintro b q; cases q; exact ⟨_, ho, rfl⟩
    cases hm : nmEq m (Str.ofString "append") with
    | true =>
      rw [hm] at h
      have em := (nmEq_iff _ _).mp hm
      subst em
      refine ⟨"list", "list.append", PySem.F.plainAttrs_list, PySem.F.slot_list_append, PySem.F.type_list_append, hT, hd, ?_⟩
      refine PySem.P.append_list (hr.tk S.es h fun v p s1 h1 k1 t1 d1 => ?_)
      obtain ⟨hlt, h1⟩ := h1.elim
      have hlen := dl.length
      have ho1 := keeps_mem k1 _ _ ho
      refine ⟨us.toArray, n, by rw [List.size_toArray]; omega, ho1, ?_⟩
      have S1 := S.after k1 t1
      have up := IsL.update (h := s1.heap) (l := a) (items := us.toArray) (n := n) ho1 (·.push v)
      have hs : Heap.SameBut a s1.heap (s1.heap.update a (Obj.mapSeq (·.push v))) := Heap.SameBut.update ..
      have mv : ∀ c o, ¬ Un X M c → s1.heap.get? c = some o → ¬ Un X M c ∧ (s1.heap.update a (Obj.mapSeq (·.push v))).get? c = some o := fun c o hc e => ⟨hc, by rw [hs.2 c (by rintro rfl; exact hc (.inr hM))]; exact e⟩
      obtain ⟨S2, m2⟩ := S1.touch (tk := s1.toks) (l' := .own (vs ++ [p])) hk hg rfl (hrn.keeps (keeps_mem k1)) hs ⟨_, up⟩ S1.es.tok
        ⟨by simp; omega, a, us ++ [v], _, rfl, hM, by rw [show IsL _ _ _ _ = _ from rfl] at up; rw [up, List.push_toArray]; rfl, ((dl.keeps (keeps_mem k1)).append (.one d1)).move mv⟩
      exact hq _ _ _ _ _ h1 S2 ((Mut.of_keeps k1).trans m2) rfl
    | false =>
      rw [hm] at h
      obtain ⟨hm, h⟩ := gd.inv h
      have em := (nmEq_iff _ _).mp hm
      subst em
      refine ⟨"list", "list.extend", PySem.F.plainAttrs_list, PySem.F.slot_list_extend, PySem.F.type_list_extend, hT, hd, ?_⟩
      refine PySem.P.extend_list (hr.tk S.es h fun v p s1 h1 k1 t1 d1 => ?_)
      obtain ⟨ps, rfl, h1⟩ := asL.inv h1
      · obtain ⟨hlt, h1⟩ := h1.elim
        obtain ⟨hz2, a2, us2, n2, rfl, hx2, ho2, dl2⟩ := den_list d1
        have hlen := dl.length
        have hlen2 := dl2.length
        have ho1 := keeps_mem k1 _ _ ho
        refine ⟨a2, us.toArray, us2.toArray, n, n2, by rw [List.size_toArray]; omega, by rw [List.size_toArray, List.size_toArray]; omega, ?_, rfl, ho1, ho2, ?_⟩
        · have := sizeLine_eq
          simp [Builtin.List.listTooLong]
          omega
        have S1 := S.after k1 t1
        have up := IsL.update (h := s1.heap) (l := a) (items := us.toArray) (n := n) ho1 (· ++ us2.toArray)
        have hs : Heap.SameBut a s1.heap (s1.heap.update a (Obj.mapSeq (· ++ us2.toArray))) := Heap.SameBut.update ..
        have mv : ∀ c o, ¬ Un X M c → s1.heap.get? c = some o → ¬ Un X M c ∧ (s1.heap.update a (Obj.mapSeq (· ++ us2.toArray))).get? c = some o := fun c o hc e => ⟨hc, by rw [hs.2 c (by rintro rfl; exact hc (.inr hM))]; exact e⟩
        obtain ⟨S2, m2⟩ := S1.touch (tk := s1.toks) (l' := .own (vs ++ ps)) hk hg rfl (hrn.keeps (keeps_mem k1)) hs ⟨_, up⟩ S1.es.tok
          ⟨by simp; omega, a, us ++ us2, _, rfl, hM, by rw [show IsL _ _ _ _ = _ from rfl] at up; rw [up, List.append_toArray]; rfl, ((dl.keeps (keeps_mem k1)).append dl2).move mv⟩
        exact hq _ _ _ _ _ h1 S2 ((Mut.of_keeps k1).trans m2) rfl
end
end Mine
namespace Mine

inductive Fuel (f : Nat → Prop) : Prop
  | mk (n : Nat) (h : f n)
theorem Fuel.intro {f : Nat → Prop} (n : Nat) (h : f n) : Fuel f := .mk n h
theorem Fuel.elim {f : Nat → Prop} (h : Fuel f) : ∃ n, f n := let ⟨n, h⟩ := h; ⟨n, h⟩

section
variable {W : Wd} {A : Around} {d : Nat} {X M M' : Excl} {env : Env} {sc : Sc} {σ : Loc} {s s' : Shared} {E : Value → Shared → Prop} {Q : Flow → Shared → Prop} {K : FP → Loc → Prop} {G : GC} {r : WE} {t : WT} {b : WB} {x : Str}

noncomputable def whileN (t : WT) (b : WB) (sc : Sc) (test : Expr) (body orelse : List Stmt) (K : FP → Loc → Prop) : Nat → Loc → Prop
  | 0, _ => False
  | n + 1, σ => t sc test σ fun c => Br c (b sc body σ fun fp σ' => match fp with
      | .next => whileN t b sc test body orelse K n σ'
      | .cont => whileN t b sc test body orelse K n σ'
      | .brk => K .next σ'
      | .ret p => K (.ret p) σ') (b sc orelse σ K)
theorem while_ok {test : Expr} {body orelse : List Stmt} {pos : Pos} (ht : TOk W d t) (hb : BOk W d b) (S : SS W A d X M env sc σ s) (h : Fuel fun n => whileN t b sc test body orelse K n σ) (hq : SPost W A d X M env sc s K Q) :
    wpAny W.M A (exec (.While test body orelse pos) env) Q E s := by
  obtain ⟨n, h⟩ := h.elim
  refine wpAny_While (codeAny_whileLoop (fun n s' => ∃ σ' M', SS W A d X M' env sc σ' s' ∧ Mut M M' s s' ∧ whileN t b sc test body orelse K n σ') (fun n s' hinv => ?_) n ⟨σ, M, S, Mut.refl M s, h⟩)
  obtain ⟨σ', M', S', m', h⟩ := hinv
  cases n with
  | zero => exact h.elim
  | succ n =>
    simp only [whileN] at h
    refine ht.tk S'.es h fun c s1 h1 k1 t1 => ?_
    have S1 := S'.after k1 t1
    have m1 := m'.trans (Mut.of_keeps k1)
    have h2 := h1.elim
    cases c with
    | true =>
      rw [if_pos rfl]
      refine hb _ _ _ _ _ _ _ _ _ _ _ S1 (h2.1 rfl) fun fp f σ2 M2 s2 hk S2 m2 hf => ?_
      cases fp with
      | next => cases hf; exact ⟨n, Nat.lt_succ_self n, σ2, M2, S2, m1.trans m2, hk⟩
      | cont => cases hf; exact ⟨n, Nat.lt_succ_self n, σ2, M2, S2, m1.trans m2, hk⟩
      | brk => cases hf; exact hq _ _ _ _ _ hk S2 (m1.trans m2) rfl
      | ret p => obtain ⟨v, rfl, dv⟩ := hf; exact hq _ _ _ _ _ hk S2 (m1.trans m2) ⟨v, rfl, dv⟩
    | false =>
      rw [if_neg (by simp)]
      exact hb _ _ _ _ _ _ _ _ _ _ _ S1 (h2.2 rfl) fun fp f σ2 M2 s2 hk S2 m2 hf => hq _ _ _ _ _ hk S2 (m1.trans m2) hf

theorem letGo_plain {target : Expr} {I : Addr} {v : Value} {o : Obj} {n : String} {Qs : Unit → Shared → Prop} (ho : s.heap.get? I = some o) (hc : o.cls = .type n) (hn : plainIter n = true) (h : Qs () s) :
    wpAny W.M A (letOwnedTupleGo target (.ref I) v) Qs E s := by
  have hnn : (["enumerate", "zip", "dict_itemiterator", "dict_reverseitemiterator", "odict_iterator", "itertools.zip_longest", "itertools.pairwise"].contains n) = false := by
    unfold plainIter at hn
    simpa using hn
  unfold letOwnedTupleGo
  cases target <;> first
    | exact wpAny_pure h
    | (cases v <;> first
        | exact wpAny_pure h
        | (refine wpAny_bind (wpAny_load ho ?_)
           rw [hc]
           cases o.data <;> first
             | exact wpAny_pure h
             | (simp only [hnn, Bool.false_and, Bool.false_eq_true, if_false]
                exact wpAny_pure h)))

noncomputable def targetW (sc : Sc) (σ : Loc) (target : Expr) (p : PV) (K : Loc → Prop) : Prop :=
  match target with
  | .Name x _ => gd (isLoc sc x) (K (set σ x (.val p)))
  | .Tuple es _ _ => unpackW sc σ es p K
  | _ => False
theorem target_ok {target : Expr} {p : PV} {v : Value} {Kl : Loc → Prop} {Qs : Unit → Shared → Prop} (S : SS W A d X M env sc σ s) (dv : Den W.w (Un X M) s.heap p v) (h : targetW sc σ target p Kl)
    (hq : ∀ σ' s', Kl σ' → SS W A d X M env sc σ' s' → Mut M M s s' → Qs () s') : wpAny W.M A (assign target env v) Qs E s := by
  cases target with
  | Name x p =>
    obtain ⟨hx, h2⟩ := gd.inv h
    exact wpAny_assign_Name (store_val S (isLoc_iff hx) dv fun s2 S2 m2 => hq _ _ h2 S2 m2)
  | Tuple es n p => exact unpack_ok S dv h hq
  | _ => exact False.elim h

noncomputable def forL (b : WB) (sc : Sc) (target : Expr) (body orelse : List Stmt) (K : FP → Loc → Prop) : List PV → Loc → Prop
  | [], σ => b sc orelse σ K
  | p :: ps, σ => targetW sc σ target p fun σ' => b sc body σ' fun fp σ'' => match fp with
      | .next => forL b sc target body orelse K ps σ''
      | .cont => forL b sc target body orelse K ps σ''
      | .brk => K .next σ''
      | .ret p => K (.ret p) σ''
noncomputable def forW (r : WE) (b : WB) (sc : Sc) (σ : Loc) (target iter : Expr) (body orelse : List Stmt) (K : FP → Loc → Prop) : Prop :=
  gd (noSet iter) (r sc iter σ fun p => iterW p fun xs => forL b sc target body orelse K xs σ)

theorem for_ok {target iter : Expr} {body orelse : List Stmt} {pos : Pos} (hr : EOk W d r) (hb : BOk W d b) (S : SS W A d X M env sc σ s) (h : forW r b sc σ target iter body orelse K) (hq : SPost W A d X M env sc s K Q) :
    wpAny W.M A (exec (.For target iter body orelse pos) env) Q E s := by
  obtain ⟨hns, h⟩ := gd.inv h
  · refine wpAny_For (hr.tk S.es h fun v p s1 h1 k1 t1 d1 => ?_) (folded_plain hns)
    have S1 := S.after k1 t1
    refine wpAny_with_toks S1.es.tok (iter_op S1.es.xlt d1 h1 fun xs s2 fp P St h2 k2 it tk2 => ?_)
    have hInone : s1.heap.get? s1.heap.objs.size = none := fresh_none (h' := s1.heap) fun _ _ e => e
    obtain ⟨oI, hoI⟩ := it.live _ _ it.start
    obtain ⟨S2, hMI, hXI, htop⟩ := S1.shield k2 tk2 hInone hoI
    generalize hIe : s1.heap.objs.size = I at *
    refine codeAny_forLoop_any (fun m s' => ∃ i σi Mi, i + m = xs.length ∧ SS W A d (Plus X I) Mi env sc σi s' ∧ St i s'.heap ∧ Mut M Mi s1 s' ∧
      (∀ b o, b ≠ I → ¬ M b → s2.heap.get? b = some o → ¬ Mi b ∧ s'.heap.get? b = some o) ∧ forL b sc target body orelse K (xs.drop i) σi) (fun m s' hinv => ?_) xs.length
      ⟨0, σ, M, by omega, S2, it.start, Mut.of_keeps k2, fun b o _ hb e => ⟨hb, e⟩, h2⟩
    obtain ⟨i, σi, Mi, him, Si, sti, mi, hbel, h⟩ := hinv
    have WK := it.walks A S.es.room.handled
    have hMiI : ¬ Mi I := fun q => Si.m0 I q (.inr rfl)
    have outer : ∀ {M2 s3}, Mut M M2 s1 s3 → Mut M M2 s s3 := fun m => (Mut.of_keeps k1).trans m
    by_cases hlt : i < xs.length
    case neg =>
      have hi : i = xs.length := by omega
      subst hi
      rw [List.drop_length] at h
      simp only [forL] at h
      refine wpAny_with_toks Si.es.tok (WK.done s' _ _ sti fun h' tk hk htk => ?_)
      have hkp : ∀ b o, b ≠ I → s'.heap.get? b = some o → h'.get? b = some o := fun b o hb e => hk b o (by simpa using hb) e
      have S3 := Si.jolt (X' := X) hMiI hXI htop hkp htk (.inl rfl)
      refine hb _ _ _ _ _ _ _ _ _ _ _ S3 h fun fp f σ4 M4 s4 hK S4 m4 hf => hq _ _ _ _ _ hK S4 (outer (Mut.trans ?_ m4)) hf
      obtain ⟨hh, tt, rfl, mm⟩ := mi
      refine ⟨h', tk, rfl, fun b o hb e => ⟨(mm b o hb e).1, hkp b o (by rintro rfl; rw [hInone] at e; cases e) (mm b o hb e).2⟩⟩
    case pos =>
      obtain ⟨p, hp⟩ : ∃ p, xs[i]? = some p := ⟨xs[i], by simp [hlt]⟩
      have hdrop : xs.drop i = p :: xs.drop (i + 1) := by
        rw [List.drop_eq_getElem_cons hlt]
        have := hp
        rw [List.getElem?_eq_getElem hlt] at this
        cases this; rfl
      rw [hdrop] at h
      simp only [forL] at h
      refine wpAny_with_toks Si.es.tok (WK.item i s' _ _ hlt sti fun v h' tk hPv hst hk htk => ?_)
      have hkp : ∀ b o, b ≠ I → s'.heap.get? b = some o → h'.get? b = some o := fun b o hb e => hk b o (by simpa using hb) e
      obtain ⟨oi, n, hoi, hcls, hpl⟩ := it.cls _ _ hst
      have S3 := Si.jolt (X' := Plus X I) hMiI hXI htop hkp htk (.inr ⟨rfl, oi, hoi⟩)
      have m3 : Mut M Mi s1 { s' with heap := h', toks := tk } := by
        obtain ⟨hh, tt, rfl, mm⟩ := mi
        exact ⟨h', tk, rfl, fun b o hb e => ⟨(mm b o hb e).1, hkp b o (by rintro rfl; rw [hInone] at e; cases e) (mm b o hb e).2⟩⟩
      have hbel3 : ∀ b o, b ≠ I → ¬ M b → s2.heap.get? b = some o → ¬ Mi b ∧ h'.get? b = some o := fun b o h1 h2 e => ⟨(hbel b o h1 h2 e).1, hkp b o h1 (hbel b o h1 h2 e).2⟩
      obtain ⟨q, hqe, dv⟩ := it.item (Un (Plus X I) Mi) i v h' (fun b o hx hb e => by
        have h3 := hbel3 b o hb (fun q => hx (.inr q)) e
        refine ⟨?_, h3.2⟩
        rintro ((q | q) | q)
        · exact hx (.inl q)
        · exact hb q
        · exact h3.1 q) hPv
      rw [hp] at hqe; cases hqe
      refine letGo_plain hoi hcls hpl ?_
      refine target_ok S3 dv h fun σ4 s4 h4 S4 m4 => ?_
      have hbel4 : ∀ b o, b ≠ I → ¬ M b → s2.heap.get? b = some o → ¬ Mi b ∧ s4.heap.get? b = some o := fun b o h1 h2 e => let ⟨h3, h5⟩ := hbel3 b o h1 h2 e; m4.mem b o h3 h5
      have frame : ∀ {M5 s5}, Mut Mi M5 s4 s5 → St (i + 1) s5.heap := by
        intro M5 s5 m5
        refine WK.frame _ _ _ hst fun b hb o e => ?_
        have nb : ¬ Mi b := by
          by_cases hbI : b = I
          · subst hbI; exact hMiI
          · obtain ⟨o', e'⟩ := it.alive b hb
            exact (hbel3 b o' hbI (fun q => it.out b hb hbI (.inr q)) e').1
        exact (m5.mem b o nb (m4.mem b o nb e).2).2
      have leave : ∀ {σ5 M5 s5}, SS W A d (Plus X I) M5 env sc σ5 s5 → SS W A d X M5 env sc σ5 s5 := by
        intro σ5 M5 s5 S5
        exact S5.jolt (h' := s5.heap) (tk := s5.toks) (fun q => S5.m0 I q (.inr rfl)) hXI htop (fun _ _ _ e => e) S5.es.tok (.inl rfl)
      refine hb _ _ _ _ _ _ _ _ _ _ _ S4 h4 fun fp f σ5 M5 s5 h5 S5 m5 hf => ?_
      have m15 := m3.trans (m4.trans m5)
      have hbel5 : ∀ b o, b ≠ I → ¬ M b → s2.heap.get? b = some o → ¬ M5 b ∧ s5.heap.get? b = some o := fun b o h1 h2 e => let ⟨h3, h5⟩ := hbel4 b o h1 h2 e; m5.mem b o h3 h5
      cases fp with
      | next => cases hf; exact ⟨xs.length - (i + 1), by omega, i + 1, σ5, M5, by omega, S5, frame m5, m15, hbel5, h5⟩
      | cont => cases hf; exact ⟨xs.length - (i + 1), by omega, i + 1, σ5, M5, by omega, S5, frame m5, m15, hbel5, h5⟩
      | brk => cases hf; exact hq _ _ _ _ _ h5 (leave S5) (outer m15) rfl
      | ret q => obtain ⟨u, rfl, du⟩ := hf; exact hq _ _ _ _ _ h5 (leave S5) (outer m15) ⟨u, rfl, den_jolt (fun _ _ _ e => e) du⟩
end
end Mine
namespace Mine

section
variable {W : Wd} {A : Around} {d : Nat} {X M M' : Excl} {env : Env} {sc : Sc} {σ : Loc} {s s' : Shared} {E : Value → Shared → Prop} {Q : Flow → Shared → Prop} {K : FP → Loc → Prop} {G : GC} {r : WE} {t : WT} {b : WB} {x : Str}

/-! own lists that a statement gives away -/
noncomputable def frz1 (sc : Sc) (σ : Loc) (x : Str) : Loc :=
  match isLoc sc x, get σ x with
  | true, some (.own vs) => set σ x (.val (.list vs))
  | _, _ => σ
noncomputable def frz (sc : Sc) : List Str → Loc → Loc
  | [], σ => σ
  | x :: r, σ => frz sc r (frz1 sc σ x)
theorem frz_ok : ∀ {xs : List Str} {σ : Loc} {M : Excl}, SS W A d X M env sc σ s → ∃ M', SS W A d X M' env sc (frz sc xs σ) s ∧ Mut M M' s s
  | [], σ, M, S => ⟨M, S, Mut.refl M s⟩
  | x :: r, σ, M, S => by
    have : ∃ M', SS W A d X M' env sc (frz1 sc σ x) s ∧ Mut M M' s s := by
      unfold frz1
      split
      · rename_i vs hx hg
        exact S.freeze (isLoc_iff hx) hg
      · exact ⟨M, S, Mut.refl M s⟩
    obtain ⟨M1, S1, m1⟩ := this
    obtain ⟨M2, S2, m2⟩ := frz_ok (xs := r) S1
    exact ⟨M2, S2, m1.trans m2⟩
noncomputable def nameArgs : List Expr → List Str
  | [] => []
  | .Name x _ :: r => x :: nameArgs r
  | _ :: r => nameArgs r
noncomputable def bare : Expr → List Str
  | .Name x _ => [x]
  | .Call (.Name _ _) args _ _ => nameArgs args
  | _ => []

noncomputable def inMu (x : Str) : List Str → Bool
  | [] => false
  | y :: r => match nmEq y x with
    | true => true
    | false => inMu x r

noncomputable def mus (mu : List Str) : List Str → List Str
  | [] => []
  | x :: r => match inMu x mu with
    | true => x :: mus mu r
    | false => mus mu r

noncomputable def swapOf? (es : List Expr) (value : Expr) : Option ((Str × Pos) × (Str × Pos) × (Str × Pos) × (Str × Pos) × (Nat × Pos)) := match es with
  | [] => none
  | e1 :: r => (match r with
    | [] => none
    | e2 :: r => (match r, nameOf? e1, nameOf? e2, value with
      | [], some x, some y, .Tuple vs n p => (match vs with
        | [] => none
        | f1 :: r => (match r with
          | [] => none
          | f2 :: r => (match r, nameOf? f1, nameOf? f2 with
            | [], some u, some v => some (x, y, u, v, n, p)
            | _, _, _ => none)))
      | _, _, _, _ => none))
theorem swapOf?.inv {es : List Expr} {value : Expr} {q : (Str × Pos) × (Str × Pos) × (Str × Pos) × (Str × Pos) × (Nat × Pos)} (h : swapOf? es value = some q) :
    es = [.Name q.1.1 q.1.2, .Name q.2.1.1 q.2.1.2] ∧ value = .Tuple [.Name q.2.2.1.1 q.2.2.1.2, .Name q.2.2.2.1.1 q.2.2.2.1.2] q.2.2.2.2.1 q.2.2.2.2.2 := by
  rcases es with _ | ⟨e1, _ | ⟨e2, _ | ⟨e3, r⟩⟩⟩
  · cases h
  · cases h
  · unfold swapOf? at h
    simp only at h
    cases h1 : nameOf? e1 with
    | none => rw [h1] at h; cases h
    | some x =>
      cases h2 : nameOf? e2 with
      | none => rw [h1, h2] at h; cases h
      | some y =>
        rw [h1, h2] at h
        cases value with
        | Tuple vs n p =>
          rcases vs with _ | ⟨f1, _ | ⟨f2, _ | ⟨f3, r⟩⟩⟩
          · cases h
          · cases h
          · simp only at h
            cases h3 : nameOf? f1 with
            | none => rw [h3] at h; cases h
            | some u =>
              cases h4 : nameOf? f2 with
              | none => rw [h3, h4] at h; cases h
              | some v =>
                rw [h3, h4] at h
                cases h
                cases nameOf?.inv h1
                cases nameOf?.inv h2
                cases nameOf?.inv h3
                cases nameOf?.inv h4
                exact ⟨rfl, rfl⟩
          · cases h
        | _ => cases h
  · cases h
noncomputable def assign1W (G : GC) (mu : List Str) (r : WE) (t : WT) (sc : Sc) (σ : Loc) (target value : Expr) (K : FP → Loc → Prop) : Prop := match target with
  | .Name x _ => (match inMu x mu with
    | true => assignOwnW r sc σ x value K
    | false => assignW r t sc (frz sc (mus mu (bare value)) σ) x value K)
  | .Tuple es _ _ => (match swapOf? es value with
    | some q => swapW G sc σ q.1.1 q.2.1.1 q.2.2.1.1 q.2.2.2.1.1 q.1.2.line q.2.1.2.line K
    | none => assignTupW r sc σ es value K)
  | .Subscript o i _ => gs (nameOf? o) fun x => itemStoreW r sc σ x.1 i value K
  | _ => False
noncomputable def assignsW (G : GC) (mu : List Str) (r : WE) (t : WT) (sc : Sc) (σ : Loc) (ts : List Expr) (value : Expr) (K : FP → Loc → Prop) : Prop :=
  as0 ts False fun t1 l => as0 l (assign1W G mu r t sc σ t1 value K) fun t2 l => as0 l (gs (nameOf? t1) fun x => gs (nameOf? t2) fun y => chainW r sc σ x.1 y.1 value K) fun _ _ => False
noncomputable def exprW (mu : List Str) (r : WE) (sc : Sc) (σ : Loc) (e : Expr) (K : FP → Loc → Prop) : Prop := match e with
  | .Call f args kws cp => (match f with
    | .Attribute o m ap => gs (nameOf? o) fun x => as1 args fun e => as0 kws (growW r sc (frz sc (mus mu (bare e)) σ) x.1 m e ap.endLine cp.line K) fun _ _ => False
    | _ => False)
  | _ => False
noncomputable def stepS (G : GC) (mu : List Str) (r : WE) (t : WT) (b : WB) : WS := fun sc st σ K => match st with
  | .Assign ts value _ => assignsW G mu r t sc σ ts value K
  | .AugAssign x op value _ => gs (nameOf? x) fun x => augW G r sc σ x.1 op value K
  | .If test body orelse _ => t sc test σ fun c => Br c (b sc body σ K) (b sc orelse σ K)
  | .Return e _ => gs e fun e => r sc e (frz sc (mus mu (bare e)) σ) fun p => K (.ret p) (frz sc (mus mu (bare e)) σ)
  | .Expr e _ => exprW mu r sc σ e K
  | .While test body orelse _ => Fuel fun n => whileN t b sc test body orelse K n σ
  | .For target iter body orelse _ => forW r b sc σ target iter body orelse K
  | .Try body hs orelse fin _ => as0 hs False fun _ _ => as0 fin (b sc body σ fun fp σ' => match fp with
      | .next => b sc orelse σ' K
      | fp => K fp σ') fun _ _ => False
  | _ => False

theorem assign1_ok {mu : List Str} {target value : Expr} {pos : Pos} (hG : GOk W d G) (hl : G.fn (Str.ofString "list") = none) (hr : EOk W d r) (ht : TOk W d t) (S : SS W A d X M env sc σ s) (h : assign1W G mu r t sc σ target value K)
    (hq : SPost W A d X M env sc s K Q) : wpAny W.M A (exec (.Assign [target] value pos) env) Q E s := by
  cases target with
  | Name x px =>
    change (match inMu x mu with | true => assignOwnW r sc σ x value K | false => assignW r t sc (frz sc (mus mu (bare value)) σ) x value K) at h
    cases hm : inMu x mu with
    | true => rw [hm] at h; exact assignOwn_ok hG hl hr S h hq
    | false =>
      rw [hm] at h
      obtain ⟨M1, S1, m1⟩ := frz_ok S
      exact assign_ok hr ht S1 h (hq.after m1)
  | Tuple es n px =>
    change (match swapOf? es value with | some q => swapW G sc σ q.1.1 q.2.1.1 q.2.2.1.1 q.2.2.2.1.1 q.1.2.line q.2.1.2.line K | none => assignTupW r sc σ es value K) at h
    cases hm : swapOf? es value with
    | some q =>
      rw [hm] at h
      obtain ⟨rfl, rfl⟩ := swapOf?.inv hm
      exact swap_ok hG S h hq
    | none => rw [hm] at h; exact assignTup_ok hr S h hq
  | Subscript o i px =>
    obtain ⟨x, hx, h2⟩ := gs.inv h
    cases nameOf?.inv hx
    exact itemStore_ok hr S h2 hq
  | _ => exact False.elim h
theorem stepS_ok {mu : List Str} (hG : GOk W d G) (hl : G.fn (Str.ofString "list") = none) (hr : EOk W d r) (ht : TOk W d t) (hb : BOk W d b) : StOk W d (stepS G mu r t b) := by
  intro A E s X M env sc st σ K Q S h hq
  cases st with
  | Assign ts value pos =>
    rcases ts with _ | ⟨t1, _ | ⟨t2, _ | ⟨t3, l⟩⟩⟩
    · exact False.elim h
    · exact assign1_ok hG hl hr ht S h hq
    · obtain ⟨x, hx, h2⟩ := gs.inv h
      obtain ⟨y, hy, h3⟩ := gs.inv h2
      cases nameOf?.inv hx
      cases nameOf?.inv hy
      exact chain_ok hr S h3 hq
    · exact False.elim h
  | AugAssign x op value pos =>
    obtain ⟨x, hx, h2⟩ := gs.inv h
    cases nameOf?.inv hx
    exact aug_ok hG hr S h2 hq
  | If test body orelse pos => exact if_ok ht hb S h hq
  | Return e pos =>
    obtain ⟨e, rfl, h2⟩ := gs.inv h
    obtain ⟨M1, S1, m1⟩ := frz_ok S
    exact return_ok hr S1 h2 (hq.after m1)
  | Expr e pos =>
    cases e with
    | Call f args kws cp =>
      cases f with
      | Attribute o m ap =>
        obtain ⟨x, hx, h2⟩ := gs.inv h
        cases nameOf?.inv hx
        obtain ⟨e, rfl, h3⟩ := as1.inv h2
        rcases kws with _ | ⟨k, l⟩
        · obtain ⟨M1, S1, m1⟩ := frz_ok S
          exact grow_ok hr S1 h3 (hq.after m1)
        · exact False.elim h3
      | _ => exact False.elim h
    | _ => exact False.elim h
  | While test body orelse pos => exact while_ok ht hb S h hq
  | For target iter body orelse pos => exact for_ok hr hb S h hq
  | Try body hs orelse fin pos =>
    rcases hs with _ | ⟨h0, hs⟩
    · exact False.elim h
    · rcases fin with _ | ⟨f0, fin⟩
      · exact try_ok hb S h hq
      · exact False.elim h
  | _ => exact False.elim h

/-! the recursion -/
noncomputable def EW (G : GC) (n : Nat) : WE × WT := Nat.rec (motive := fun _ => WE × WT) (⟨fun _ _ _ _ => False, fun _ _ _ _ => False⟩) (fun _ p => ⟨stepE G p.1 p.2, stepT p.1 p.2⟩) n
theorem EW_ok (hG : GOk W d G) (n : Nat) : EOk W d (EW G n).1 ∧ TOk W d (EW G n).2 := by
  induction n with
  | zero => exact ⟨fun A E s X M env sc e σ K Q es h hq => h.elim, fun A E s X M env sc e σ K Q es h hq => h.elim⟩
  | succ n ih => exact ⟨stepE_ok hG ih.1 ih.2, stepT_ok ih.1 ih.2⟩
noncomputable def BW (G : GC) (mu : List Str) (k n : Nat) : WB := Nat.rec (motive := fun _ => WB) (fun _ _ _ _ => False) (fun _ b => blockB (stepS G mu (EW G k).1 (EW G k).2 b)) n
theorem BW_ok {mu : List Str} (hG : GOk W d G) (hl : G.fn (Str.ofString "list") = none) (k n : Nat) : BOk W d (BW G mu k n) := by
  induction n with
  | zero => exact fun A E s X M env sc e σ K Q es h hq => h.elim
  | succ n ih => exact block_ok (stepS_ok hG hl (EW_ok hG k).1 (EW_ok hG k).2 ih)
end
end Mine
namespace Mine

section
variable {W : Wd} {A : Around} {d : Nat} {X M M' : Excl} {env : Env} {sc : Sc} {σ : Loc} {s s' : Shared} {E : Value → Shared → Prop} {G : GC} {r : WE} {t : WT} {b : WB} {x : Str}

noncomputable def startσ : List Str → List PV → Loc
  | x :: xs, p :: ps => (x, .val p) :: startσ xs ps
  | _, _ => []
noncomputable def plainKinds : Sc → Bool
  | [] => true
  | (_, k) :: r => (match k with | .local | .cell | .globalImplicit => true | _ => false) && plainKinds r
noncomputable def nodupStrs : List Str → Bool
  | [] => true
  | x :: r => r.all (fun y => !nmEq x y) && nodupStrs r
noncomputable def allLocs (sc : Sc) (xs : List Str) : Bool := xs.all fun x => isLoc sc x
noncomputable def entryOk (names : List Str) (scope : Scope) : Bool :=
  (match scope.kind with | .function => true | _ => false) && !scope.isCoroutine && !scope.isGenerator && plainKinds scope.names && nodupNames scope.names && noBad scope.names && nodupStrs names && allLocs scope.names names

theorem plainKinds_lookup {y : Str} {k : NameKind} : ∀ {sc : Sc}, plainKinds sc = true → sc.lookup y = some k → k = .local ∨ k = .cell ∨ k = .globalImplicit
  | [], _, h => by cases h
  | (z, j) :: r, hp, h => by
    simp only [plainKinds, Bool.and_eq_true] at hp
    rw [List.lookup_cons] at h
    split at h
    · cases h
      have h1 := hp.1
      cases k <;> first | (exact .inl rfl) | (exact .inr (.inl rfl)) | (exact .inr (.inr rfl)) | cases h1
    · exact plainKinds_lookup hp.2 h
theorem nodupStrs_iff : ∀ {xs : List Str}, nodupStrs xs = true → xs.Nodup
  | [], _ => List.nodup_nil
  | x :: r, h => by
    simp only [nodupStrs, Bool.and_eq_true, List.all_eq_true] at h
    refine List.nodup_cons.mpr ⟨fun hm => ?_, nodupStrs_iff h.2⟩
    have := h.1 x hm
    simp [(nmEq_iff x x).mpr rfl] at this

theorem bindL_other {k : Str → Option NameKind} {y : Str} : ∀ {binds : List (Str × Value)} {m : Str → Option Value}, y ∉ binds.map (·.1) → bindL k binds m y = m y
  | [], m, _ => rfl
  | (n, v) :: r, m, h => by
    simp only [List.map_cons, List.mem_cons, not_or] at h
    unfold bindL
    rw [bindL_other h.2]
    split
    · simp [h.1]
    · rfl
theorem bindC_other {k : Str → Option NameKind} {y : Str} : ∀ {binds : List (Str × Value)} {m : Str → Option Value}, y ∉ binds.map (·.1) → bindC k binds m y = m y
  | [], m, _ => rfl
  | (n, v) :: r, m, h => by
    simp only [List.map_cons, List.mem_cons, not_or] at h
    unfold bindC
    rw [bindC_other h.2]
    split
    · rfl
    · simp [h.1]
theorem bind_at {k : Str → Option NameKind} {y : Str} {v : Value} : ∀ {binds : List (Str × Value)} {m cm : Str → Option Value}, (binds.map (·.1)).Nodup → (y, v) ∈ binds →
    (k y = some .local → bindL k binds m y = some v) ∧ (k y = some .cell → bindC k binds cm y = some v)
  | (n, u) :: r, m, cm, hn, hm => by
    have hn' := List.nodup_cons.mp hn
    rcases List.mem_cons.mp hm with e | hm
    · cases e
      constructor
      · intro hk
        unfold bindL
        rw [bindL_other hn'.1, if_pos hk]
        simp
      · intro hk
        unfold bindC
        rw [bindC_other hn'.1, if_neg (by rw [hk]; simp)]
        simp
    · unfold bindL bindC
      exact bind_at hn'.2 hm

theorem start_get {w : World} {h : Heap} : ∀ {names : List Str} {ps : List PV} {vs : List Value} {y : Str} {l : LV}, names.length = ps.length → DenL w X h ps vs → get (startσ names ps) y = some l →
    ∃ p v, l = .val p ∧ (y, v) ∈ names.zip vs ∧ Den w X h p v
  | [], _, _, _, _, _, _, hg => by cases hg
  | x :: xs, [], _, _, _, hl, _, _ => by simp at hl
  | x :: xs, p :: ps, vs, y, l, hl, dl, hg => by
    obtain ⟨v, r, rfl, d1, d2⟩ := dl.inv_cons
    simp only [startσ, get] at hg
    cases hn : nmEq x y with
    | true =>
      rw [hn] at hg
      cases hg
      rw [(nmEq_iff x y).mp hn]
      exact ⟨p, v, rfl, by simp, d1⟩
    | false =>
      rw [hn] at hg
      obtain ⟨q, u, e, hm, du⟩ := start_get (by simpa using hl) d2 hg
      exact ⟨q, u, e, by simp [hm], du⟩

noncomputable def retK (K : PV → Prop) : FP → Loc → Prop := fun fp _ => match fp with
  | .ret p => K p
  | .next => K .none
  | _ => False

theorem enter_ok {dr : DefRec} {names : List Str} {bw : WB} {env : Env} {s s1 : Shared} {vs : List Value} {ps : List PV} {K : PV → Prop} {Q : Value → Shared → Prop} (hloc : env.locals = s.heap.objs.size) (hcells : env.cells = cellsFrom (s.heap.objs.size + 1) dr.scope.names [])
    (hkof : ∀ x, env.kindOf x = dr.scope.names.lookup x) (hkind : env.scope.kind = .function) (hgl : env.globals = mainGlobals) (hbu : env.builtins = builtinsNs) (hpk : plainKinds dr.scope.names = true)
    (hdebug : kd dr.scope.names (Str.ofString "__debug__") = none ∧ kd dr.scope.names (Str.ofString "__classdict__") = none) (hnames : (names.zip vs).map (·.1) = names) (hnod : names.Nodup) (hlen : ps.length = names.length) (hroom : Room (d + 1) A)
    (htop : ∀ b o, W.top.get? b = some o → s.heap.get? b = some o) (hX : Xlt X s.heap) (dl : DenL W.w X s.heap ps vs) (hb : BOk W d bw) (hbw : bw dr.scope.names dr.body (startσ names ps) (retK K)) (hq : Post W.w X s K Q)
    (x : InCallC s env.locals (bindL env.kindOf (names.zip vs) fun _ => none) env.cells (bindC env.kindOf (names.zip vs) fun _ => none) s1) (htk1 : 1 ≤ s1.toks) :
    wpAny W.M (A.deeper env) (execs dr.body env) (fun f s' => Q (match f with | .ret v => v | _ => .none) s') (fun _ _ => False) s1 := by
    obtain ⟨h₁, tk, rfl, hkeep⟩ := x.done
    have htk : 1 ≤ tk := htk1
    have hnofree : ∀ x, env.kindOf x ≠ some .free := by
      intro x e
      rw [hkof] at e
      rcases plainKinds_lookup hpk e with h | h | h <;> cases h
    have hcell : ∀ x, env.kindOf x = some .cell → ∃ c, env.cells.lookup x = some c := by
      intro x e
      rw [hkof] at e
      rw [hcells]
      exact cellsFrom_has (n := s.heap.objs.size + 1) (mem_of_lookup e)
    have eok : EnvOk env dr.scope.names :=
      ⟨hkind, hgl, hbu, fun x => .inl (hkof x), hdebug.1, fun x hx => by
        rcases hx with hx | hx
        · exact hcell x hx
        · exact absurd hx (hnofree x), hdebug.2⟩
    let M : Excl := fun b => b = env.locals ∨ ∃ n, env.cells.lookup n = some b
    have hMn : ∀ b o, s.heap.get? b = some o → ¬ M b := by
      rintro b o e (h | ⟨n, hn⟩)
      · rw [hloc] at h; subst h; exact Nat.lt_irrefl _ (Heap.lt_size e)
      · have := x.above n b (mem_of_lookup hn)
        rw [hloc] at this
        exact Nat.lt_asymm (Heap.lt_size e) this
    have S : SS W (A.deeper env) d X M env dr.scope.names (startσ names ps) { s with heap := h₁, toks := tk } := by
      refine ⟨⟨⟨hroom.handled, ?_, ?_⟩, fun b o e => hkeep b o (htop b o e), eok, ?_, fun b hb => .inr hb, ?_, htk⟩, ⟨⟨.inl rfl, _, x.toInCall.ns⟩, fun y hy => ?_, ?_, hnofree⟩, ?_, ?_, fun b o e => hMn b o (htop b o e), fun b hb hx => ?_⟩
      · have := hroom.depth
        show A.depth + 1 + d ≤ 900
        omega
      · have := hroom.units
        show A.units + 3 + 64 * d ≤ 9000
        omega
      · rintro b (hb | hb | ⟨n, hn⟩)
        · obtain ⟨o, e⟩ := hX b hb; exact ⟨o, hkeep b o e⟩
        · obtain ⟨o, _, _, e, _⟩ := x.toInCall.ns; exact ⟨o, hb ▸ e⟩
        · obtain ⟨o, e, _⟩ := x.cell n b hn; exact ⟨o, e⟩
      · intro y l hg hky
        obtain ⟨p, v, rfl, hm, dv⟩ := start_get hlen.symm dl hg
        have hb := bind_at (k := env.kindOf) (m := fun _ => none) (cm := fun _ => none) (by rw [hnames]; exact hnod) hm
        refine ⟨v, ?_, dv.move fun b o hb' e => ⟨fun q => q.elim hb' (hMn b o e), hkeep b o e⟩⟩
        unfold ReadsName
        cases hkk : env.kindOf y with
        | none => rw [hkk] at hky; cases hky
        | some kk =>
          cases kk with
          | «local» => exact ⟨_, x.toInCall.ns, hb.1 hkk⟩
          | cell =>
            obtain ⟨c, hc⟩ := hcell y hkk
            exact ⟨c, hc, hb.2 hkk ▸ x.cell y c hc⟩
          | free => exact absurd hkk (hnofree y)
          | _ => rw [hkk] at hky; cases hky
      · obtain ⟨c, hc⟩ := hcell y hy
        exact ⟨c, _, hc, x.cell y c hc, .inr ⟨y, hc⟩⟩
      · intro y z c _ _ hy hz
        exact name_of_addr x.apart (mem_of_lookup hy) (mem_of_lookup hz)
      · intro y z l k v _ hgy _ oy _ _ _ _ _
        obtain ⟨p, _, rfl, _⟩ := start_get hlen.symm dl hgy
        cases oy
      · intro y l v hgy oy _ _
        obtain ⟨p, _, rfl, _⟩ := start_get hlen.symm dl hgy
        cases oy
      · obtain ⟨o, e⟩ := hX b hx
        exact hMn b o e hb
    refine hb _ (fun _ _ => False) _ X M env _ _ _ _ _ S hbw fun fp f σ' M' s' hK S' m' hf => ?_
    have hks : Keeps s s' := by
      obtain ⟨h', tk', rfl, mm⟩ := m'
      exact ⟨h', tk', rfl, fun b o e => (mm b o (hMn b o e) (hkeep b o e)).2⟩
    cases fp with
    | next => cases hf; exact hq _ _ _ hK hks mk_none
    | ret p => obtain ⟨v, rfl, dv⟩ := hf; exact hq _ _ _ hK hks (dv.move fun b o hb' e => ⟨fun q => hb' (.inl q), e⟩)
    | _ => exact hK.elim

theorem callOK {f : Str} {dr : DefRec} {names : List Str} {bw : WB} {spec : PSpec} (hd : dr ∈ recsOf W.p) (hname : dr.name = f) (hok : entryOk names dr.scope = true)
    (hbind : ∀ vs pm cd doc, vs.length = names.length → bindArgs (Calls.docDef dr.name dr.params dr.body dr.scope pm cd doc) ⟨vs, []⟩ = pure (names.zip vs)) (hb : BOk W d bw)
    (hspec : ∀ ps K, spec ps K → ps.length = names.length ∧ bw dr.scope.names dr.body (startσ names ps) (retK K)) : CallOK W (d + 1) f spec where
  get := by
    subst hname
    obtain ⟨a, o, pm, code, doc, hmg, ho, hdata, hcode⟩ := W.T.fn dr hd
    refine ⟨a, hmg, ⟨o, _, ho, hdata⟩, fun A E s X vs ps K Q hroom htop hX htok dl hsp hq => ?_⟩
    obtain ⟨hlen, hbw⟩ := hspec ps K hsp
    have hvl : vs.length = names.length := by rw [dl.length, hlen]
    simp only [entryOk, Bool.and_eq_true] at hok
    obtain ⟨⟨⟨⟨⟨⟨⟨hk, hco⟩, hge⟩, hpk⟩, hnd⟩, hnb⟩, hns⟩, hal⟩ := hok
    have hco : dr.scope.isCoroutine = false := by simpa using hco
    have hge : dr.scope.isGenerator = false := by simpa using hge
    have hkind : dr.scope.kind = .function := by
      cases e : dr.scope.kind <;> first | rfl | (rw [e] at hk; cases hk)
    have hnames : (names.zip vs).map (·.1) = names := by
      rw [List.map_fst_zip]; omega
    have hnod := nodupStrs_iff hns
    have hdebug : kd dr.scope.names (Str.ofString "__debug__") = none ∧ kd dr.scope.names (Str.ofString "__classdict__") = none := by
      unfold noBad at hnb
      split at hnb
      · exact ⟨by assumption, by assumption⟩
      · cases hnb
    have hpar : ∀ x ∈ names.zip vs, dr.scope.names.lookup x.1 = some .local ∨ (dr.scope.names.lookup x.1 = some .cell ∧ ((cellsFrom (s.heap.objs.size + 1) dr.scope.names []).lookup x.1).isSome = true) := by
      intro x hx
      have hm : x.1 ∈ names := by rw [← hnames]; exact List.mem_map_of_mem hx
      have hl := isLoc_iff (List.all_eq_true.mp hal _ hm)
      rw [kd_lookup] at hl
      cases e : dr.scope.names.lookup x.1 with
      | none => rw [e] at hl; cases hl
      | some k =>
        rcases plainKinds_lookup hpk e with rfl | rfl | rfl
        · exact .inl rfl
        · refine .inr ⟨rfl, ?_⟩
          obtain ⟨c, hc⟩ := cellsFrom_has (n := s.heap.objs.size + 1) (mem_of_lookup e)
          rw [hc]; rfl
        · rw [e] at hl; cases hl
    refine wpAny_call (codeAny_call_function (by have := hroom.depth; show A.depth < 1000; omega) (htop a o ho) hdata hco hge rfl (hcode.keeps htop) ?_)
    rw [hbind vs pm code doc hvl]
    refine wpAny_pure (wpAny_with_toks htok (wpAny_newFunctionEnv_cells hkind hpar fun env he s1 x htk => ?_))
    subst he
    refine ⟨(W.T.nolimit.keeps htop).keeps x.toInCall.keep, codeAny_func (wpAny_mono (enter_ok (dr := dr) (names := names) (ps := ps) (K := K) (Q := Q) rfl rfl (fun _ => rfl) hkind rfl rfl hpk hdebug hnames hnod hlen hroom htop hX dl hb hbw hq x htk) (fun _ _ z => z) fun _ _ z => z.elim)⟩
end
end Mine
namespace Mine

section
variable {W : Wd} {A : Around} {d : Nat} {X M M' : Excl} {env : Env} {sc : Sc} {σ : Loc} {s s' : Shared} {E : Value → Shared → Prop} {G : GC} {r : WE} {t : WT} {b : WB} {x : Str}

/-- the first row of a law: `y = z[:c]`; behind it the tokens are not none -/
noncomputable def firstRow (y z : Str) (c : Int) (py pz ps kp pos' pos : Pos) (k : Nat) : Stmt := .Assign [.Name y py] (.Subscript (.Name z pz) (.Slice none (some (.Constant (.int c) k kp)) none ps) pos') pos
theorem first_ok {y z : Str} {c : Int} {py pz ps kp pos' pos : Pos} {k : Nat} {h : Heap} {tk : Nat} {vs : List PV} {Q : Flow → Shared → Prop} (S0 : ∀ tk', 1 ≤ tk' → SS W A d X M env sc σ { s with heap := h, toks := tk' }) (hz : get σ z = some (.val (.list vs)))
    (hzl : kd sc z = some .loc) (hyl : kd sc y = some .loc)
    (hq : ∀ s', SS W A d X M env sc (set σ y (.val (.list (sliceL vs none (some c) none)))) s' → Mut M M { s with heap := h, toks := tk } s' → Q .next s') :
    wpAny W.M A (exec (firstRow y z c py pz ps kp pos' pos k) env) Q E { s with heap := h, toks := tk } := by
  have S1 := S0 1 (Nat.le_refl _)
  have SB := S0 (tk + 1) (by omega)
  obtain ⟨v, hr, dv⟩ := S1.es.vis z _ hz (by rw [S1.es.eok.names, hzl])
  refine wpAny_Assign_Name (Subscript_ ?_) (swaps_no rfl)
  refine wpAny_Name ?_ (S1.es.eok.ne_debug hzl)
  refine reads_wp S1.es.eok hr ?_ (S1.es.eok.ne_class hzl)
  refine wpAny_Slice ?_
  rw [evalPart_none]
  refine wpAny_pure ?_
  rw [evalPart_some, arm_eval_Constant]
  refine wpAny_mkInt ?_
  refine wpAny_pure ?_
  have kp := keeps_push' { s with heap := h, toks := tk + 1 } { cls := .type "slice", data := .fields #[.none, .int c tk, .none] }
  refine wpAny_with_toks (n := tk + 1) (Nat.le_refl _) (slice_op (lo := none) (hi := some (c, tk)) (st := none) (K := fun p => p = .list (sliceL vs none (some c) none)) (X := Un X M) ?_ (dv.keeps (keeps_mem kp)) (Heap.get?_push_size _ rfl) (Ob.intro (by simp) rfl) fun u p s4 hp k4 d4 t4 => ?_)
  · exact SB.es.xlt.keeps (keeps_mem kp)
  · subst hp
    have kk := keeps_trans kp k4
    have S4 := SB.after kk t4
    refine store_val S4 hyl d4 fun s5 S5 m5 => ?_
    refine hq s5 S5 (Mut.trans ?_ m5)
    obtain ⟨h', t', rfl, kk⟩ := kk
    exact ⟨h', t', rfl, fun b o hb e => ⟨hb, kk b o e⟩⟩

theorem enter_first {y z : Str} {c : Int} {py pz ps kp pos' pos : Pos} {k : Nat} {rest : List Stmt} {us : List PV} {dr : DefRec} {names : List Str} {bw : WB} {env : Env} {s s1 : Shared} {vs : List Value} {psv : List PV} {K : PV → Prop} {Q : Value → Shared → Prop} (hloc : env.locals = s.heap.objs.size) (hcells : env.cells = cellsFrom (s.heap.objs.size + 1) dr.scope.names [])
    (hkof : ∀ x, env.kindOf x = dr.scope.names.lookup x) (hkind : env.scope.kind = .function) (hgl : env.globals = mainGlobals) (hbu : env.builtins = builtinsNs) (hpk : plainKinds dr.scope.names = true)
    (hdebug : kd dr.scope.names (Str.ofString "__debug__") = none ∧ kd dr.scope.names (Str.ofString "__classdict__") = none) (hnames : (names.zip vs).map (·.1) = names) (hnod : names.Nodup) (hlen : psv.length = names.length) (hroom : Room (d + 1) A)
    (htop : ∀ b o, W.top.get? b = some o → s.heap.get? b = some o) (hX : Xlt X s.heap) (dl : DenL W.w X s.heap psv vs) (hb : BOk W d bw) (hbody : dr.body = firstRow y z c py pz ps kp pos' pos k :: rest) (hz : get (startσ names psv) z = some (.val (.list us))) (hzl : kd dr.scope.names z = some .loc) (hyl : kd dr.scope.names y = some .loc) (hbw : bw dr.scope.names rest (set (startσ names psv) y (.val (.list (sliceL us none (some c) none)))) (retK K)) (hq : Post W.w X s K Q)
    (x : InCallC s env.locals (bindL env.kindOf (names.zip vs) fun _ => none) env.cells (bindC env.kindOf (names.zip vs) fun _ => none) s1) :
    wpAny W.M (A.deeper env) (execs dr.body env) (fun f s' => Q (match f with | .ret v => v | _ => .none) s') (fun _ _ => False) s1 := by
    obtain ⟨h₁, tk, rfl, hkeep⟩ := x.done
    have hnofree : ∀ x, env.kindOf x ≠ some .free := by
      intro x e
      rw [hkof] at e
      rcases plainKinds_lookup hpk e with h | h | h <;> cases h
    have hcell : ∀ x, env.kindOf x = some .cell → ∃ c, env.cells.lookup x = some c := by
      intro x e
      rw [hkof] at e
      rw [hcells]
      exact cellsFrom_has (n := s.heap.objs.size + 1) (mem_of_lookup e)
    have eok : EnvOk env dr.scope.names :=
      ⟨hkind, hgl, hbu, fun x => .inl (hkof x), hdebug.1, fun x hx => by
        rcases hx with hx | hx
        · exact hcell x hx
        · exact absurd hx (hnofree x), hdebug.2⟩
    let M : Excl := fun b => b = env.locals ∨ ∃ n, env.cells.lookup n = some b
    have hMn : ∀ b o, s.heap.get? b = some o → ¬ M b := by
      rintro b o e (h | ⟨n, hn⟩)
      · rw [hloc] at h; subst h; exact Nat.lt_irrefl _ (Heap.lt_size e)
      · have := x.above n b (mem_of_lookup hn)
        rw [hloc] at this
        exact Nat.lt_asymm (Heap.lt_size e) this
    have S0 : ∀ tk', 1 ≤ tk' → SS W (A.deeper env) d X M env dr.scope.names (startσ names psv) { s with heap := h₁, toks := tk' } := by
      intro tk' htk
      refine ⟨⟨⟨hroom.handled, ?_, ?_⟩, fun b o e => hkeep b o (htop b o e), eok, ?_, fun b hb => .inr hb, ?_, htk⟩, ⟨⟨.inl rfl, _, x.toInCall.ns⟩, fun y hy => ?_, ?_, hnofree⟩, ?_, ?_, fun b o e => hMn b o (htop b o e), fun b hb hx => ?_⟩
      · have := hroom.depth
        show A.depth + 1 + d ≤ 900
        omega
      · have := hroom.units
        show A.units + 3 + 64 * d ≤ 9000
        omega
      · rintro b (hb | hb | ⟨n, hn⟩)
        · obtain ⟨o, e⟩ := hX b hb; exact ⟨o, hkeep b o e⟩
        · obtain ⟨o, _, _, e, _⟩ := x.toInCall.ns; exact ⟨o, hb ▸ e⟩
        · obtain ⟨o, e, _⟩ := x.cell n b hn; exact ⟨o, e⟩
      · intro y l hg hky
        obtain ⟨p, v, rfl, hm, dv⟩ := start_get hlen.symm dl hg
        have hb := bind_at (k := env.kindOf) (m := fun _ => none) (cm := fun _ => none) (by rw [hnames]; exact hnod) hm
        refine ⟨v, ?_, dv.move fun b o hb' e => ⟨fun q => q.elim hb' (hMn b o e), hkeep b o e⟩⟩
        unfold ReadsName
        cases hkk : env.kindOf y with
        | none => rw [hkk] at hky; cases hky
        | some kk =>
          cases kk with
          | «local» => exact ⟨_, x.toInCall.ns, hb.1 hkk⟩
          | cell =>
            obtain ⟨c, hc⟩ := hcell y hkk
            exact ⟨c, hc, hb.2 hkk ▸ x.cell y c hc⟩
          | free => exact absurd hkk (hnofree y)
          | _ => rw [hkk] at hky; cases hky
      · obtain ⟨c, hc⟩ := hcell y hy
        exact ⟨c, _, hc, x.cell y c hc, .inr ⟨y, hc⟩⟩
      · intro y z c _ _ hy hz
        exact name_of_addr x.apart (mem_of_lookup hy) (mem_of_lookup hz)
      · intro y z l k v _ hgy _ oy _ _ _ _ _
        obtain ⟨p, _, rfl, _⟩ := start_get hlen.symm dl hgy
        cases oy
      · intro y l v hgy oy _ _
        obtain ⟨p, _, rfl, _⟩ := start_get hlen.symm dl hgy
        cases oy
      · obtain ⟨o, e⟩ := hX b hx
        exact hMn b o e hb
    rw [hbody]
    refine wpAny_execs_cons (first_ok S0 hz hzl hyl fun s2 S2 m2 => ?_)
    refine hb _ (fun _ _ => False) _ X M env _ _ _ _ _ S2 hbw fun fp f σ' M' s' hK S' m' hf => ?_
    have hks : Keeps s s' := by
      obtain ⟨h', tk', rfl, mm⟩ := m2.trans m'
      exact ⟨h', tk', rfl, fun b o e => (mm b o (hMn b o e) (hkeep b o e)).2⟩
    cases fp with
    | next => cases hf; exact hq _ _ _ hK hks mk_none
    | ret p => obtain ⟨v, rfl, dv⟩ := hf; exact hq _ _ _ hK hks (dv.move fun b o hb' e => ⟨fun q => hb' (.inl q), e⟩)
    | _ => exact hK.elim

theorem callFirst {y z : Str} {c : Int} {py pz ps kp pos' pos : Pos} {k : Nat} {rest : List Stmt} {f : Str} {dr : DefRec} {names : List Str} {bw : WB} {spec : PSpec} (hd : dr ∈ recsOf W.p) (hname : dr.name = f) (hok : entryOk names dr.scope = true)
    (hbind : ∀ vs pm cd doc, vs.length = names.length → bindArgs (Calls.docDef dr.name dr.params dr.body dr.scope pm cd doc) ⟨vs, []⟩ = pure (names.zip vs)) (hb : BOk W d bw)
    (hbody : dr.body = firstRow y z c py pz ps kp pos' pos k :: rest) (hzl : kd dr.scope.names z = some .loc) (hyl : kd dr.scope.names y = some .loc)
    (hspec : ∀ ps K, spec ps K → ps.length = names.length ∧ ∃ us, get (startσ names ps) z = some (.val (.list us)) ∧ bw dr.scope.names rest (set (startσ names ps) y (.val (.list (sliceL us none (some c) none)))) (retK K)) : ∃ a, W.mg f = some (.ref a) ∧ ∀ A E s X vs ps K Q, Room (d + 1) A → (∀ b o, W.top.get? b = some o → s.heap.get? b = some o) → Xlt X s.heap → DenL W.w X s.heap ps vs → spec ps K →
      Post W.w X s K Q → wpAny W.M A (call (.ref a) vs) Q E s := by
    subst hname
    obtain ⟨a, o, pm, code, doc, hmg, ho, hdata, hcode⟩ := W.T.fn dr hd
    refine ⟨a, hmg, fun A E s X vs psv K Q hroom htop hX dl hsp hq => ?_⟩
    obtain ⟨hlen, us, hz, hbw⟩ := hspec psv K hsp
    have hvl : vs.length = names.length := by rw [dl.length, hlen]
    simp only [entryOk, Bool.and_eq_true] at hok
    obtain ⟨⟨⟨⟨⟨⟨⟨hk, hco⟩, hge⟩, hpk⟩, hnd⟩, hnb⟩, hns⟩, hal⟩ := hok
    have hco : dr.scope.isCoroutine = false := by simpa using hco
    have hge : dr.scope.isGenerator = false := by simpa using hge
    have hkind : dr.scope.kind = .function := by
      cases e : dr.scope.kind <;> first | rfl | (rw [e] at hk; cases hk)
    have hnames : (names.zip vs).map (·.1) = names := by
      rw [List.map_fst_zip]; omega
    have hnod := nodupStrs_iff hns
    have hdebug : kd dr.scope.names (Str.ofString "__debug__") = none ∧ kd dr.scope.names (Str.ofString "__classdict__") = none := by
      unfold noBad at hnb
      split at hnb
      · exact ⟨by assumption, by assumption⟩
      · cases hnb
    have hpar : ∀ x ∈ names.zip vs, dr.scope.names.lookup x.1 = some .local ∨ (dr.scope.names.lookup x.1 = some .cell ∧ ((cellsFrom (s.heap.objs.size + 1) dr.scope.names []).lookup x.1).isSome = true) := by
      intro x hx
      have hm : x.1 ∈ names := by rw [← hnames]; exact List.mem_map_of_mem hx
      have hl := isLoc_iff (List.all_eq_true.mp hal _ hm)
      rw [kd_lookup] at hl
      cases e : dr.scope.names.lookup x.1 with
      | none => rw [e] at hl; cases hl
      | some k =>
        rcases plainKinds_lookup hpk e with rfl | rfl | rfl
        · exact .inl rfl
        · refine .inr ⟨rfl, ?_⟩
          obtain ⟨c, hc⟩ := cellsFrom_has (n := s.heap.objs.size + 1) (mem_of_lookup e)
          rw [hc]; rfl
        · rw [e] at hl; cases hl
    refine wpAny_call (codeAny_call_function (by have := hroom.depth; show A.depth < 1000; omega) (htop a o ho) hdata hco hge rfl (hcode.keeps htop) ?_)
    rw [hbind vs pm code doc hvl]
    refine wpAny_pure (wpAny_newFunctionEnv_cells hkind hpar fun env he s1 x => ?_)
    subst he
    refine ⟨(W.T.nolimit.keeps htop).keeps x.toInCall.keep, codeAny_func (wpAny_mono (enter_first (dr := dr) (names := names) (psv := psv) (K := K) (Q := Q) rfl rfl (fun _ => rfl) hkind rfl rfl hpk hdebug hnames hnod hlen hroom htop hX dl hb hbody hz hzl hyl hbw hq x) (fun _ _ z => z) fun _ _ z => z.elim)⟩
end
end Mine
namespace Mine

/-! ### texts as lists of code points -/
noncomputable def cpl (x : Str) : List Nat := x.cps.toList
noncomputable def mk (l : List Nat) : Str := ⟨l.toArray⟩
theorem cpl_mk (l : List Nat) : cpl (mk l) = l := by simp [cpl, mk]
theorem mk_cpl (x : Str) : mk (cpl x) = x := by cases x; simp [cpl, mk]
theorem cpl_inj {x y : Str} (h : cpl x = cpl y) : x = y := by rw [← mk_cpl x, ← mk_cpl y, h]
theorem cpl_append (x y : Str) : cpl (x ++ y) = cpl x ++ cpl y := by simp [cpl, Str.cps_append]
theorem mk_append (a b : List Nat) : mk (a ++ b) = mk a ++ mk b := cpl_inj (by rw [cpl_append, cpl_mk, cpl_mk, cpl_mk])
theorem len_cpl (x : Str) : x.length = (cpl x).length := by simp [cpl, Str.length]
theorem len_mk (l : List Nat) : (mk l).length = l.length := by rw [len_cpl, cpl_mk]

/-- one sign is put in place of another -/
noncomputable def rp (c : Nat) (z : List Nat) (l : List Nat) : List Nat := l.flatMap fun d => if d = c then z else [d]
theorem rp_free {c : Nat} {z : List Nat} : ∀ {l : List Nat}, c ∉ l → rp c z l = l
  | [], _ => rfl
  | d :: l, h => by
    simp only [List.mem_cons, not_or] at h
    have := rp_free (z := z) h.2
    unfold rp at this ⊢
    rw [List.flatMap_cons, this, if_neg (Ne.symm h.1)]; rfl
theorem rp_append (c : Nat) (z a b : List Nat) : rp c z (a ++ b) = rp c z a ++ rp c z b := by simp [rp]
theorem rp_join (c : Nat) (z : Str) : ∀ parts : List Str, (∀ p ∈ parts, c ∉ cpl p) → rp c (cpl z) (cpl (Str.join ⟨#[c]⟩ parts)) = cpl (Str.join z parts)
  | [], _ => rfl
  | [p], h => rp_free (h p (List.mem_singleton.mpr rfl))
  | p :: q :: r, h => by
    have ih := rp_join c z (q :: r) fun a ha => h a (List.mem_cons_of_mem _ ha)
    show rp c (cpl z) (cpl (p ++ ⟨#[c]⟩ ++ Str.join ⟨#[c]⟩ (q :: r))) = cpl (p ++ z ++ Str.join z (q :: r))
    rw [cpl_append, cpl_append, cpl_append, cpl_append, rp_append, rp_append, ih, rp_free (h p (List.mem_cons_self ..))]
    congr 2
    simp [rp, cpl]
theorem replace_cpl (x z : Str) (c : Nat) : cpl (Txt.replace x ⟨#[c]⟩ z) = rp c (cpl z) (cpl x) := by
  rw [StrLaws.replace_one, ← rp_join c z _ (StrLaws.split_free x c), StrLaws.join_split]
theorem contains_cpl (x : Str) (c : Nat) : Txt.contains x ⟨#[c]⟩ = decide (c ∈ cpl x) := StrLaws.found_one x c
theorem replace_not {x z : Str} {c : Nat} (h : Txt.contains x ⟨#[c]⟩ = false) : Txt.replace x ⟨#[c]⟩ z = x := by
  refine cpl_inj ?_
  rw [replace_cpl]
  rw [contains_cpl] at h
  exact rp_free (by simpa using h)
theorem rp_length {c : Nat} {z : List Nat} (hz : z.length ≤ 6) : ∀ l : List Nat, (rp c z l).length ≤ 6 * l.length
  | [] => by simp [rp]
  | d :: l => by
    have := rp_length hz (c := c) l
    unfold rp at this ⊢
    rw [List.flatMap_cons, List.length_append, List.length_cons]
    have h1 : (if d = c then z else [d]).length ≤ 6 := by split <;> simp_all
    omega

theorem join_cpl : ∀ xs : List Str, cpl (Txt.join ⟨#[]⟩ xs) = (xs.map cpl).flatten := by
  have key : ∀ xs : List Str, cpl (Str.join ⟨#[]⟩ xs) = (xs.map cpl).flatten := by
    intro xs
    induction xs with
    | nil => rfl
    | cons p r ih =>
      cases r with
      | nil => simp [Str.join]
      | cons q r =>
        show cpl (p ++ ⟨#[]⟩ ++ Str.join ⟨#[]⟩ (q :: r)) = _
        rw [cpl_append, cpl_append, ih]
        simp [cpl]
  intro xs
  show cpl (Builtin.Str.glued _ xs) = _
  rw [StrLaws.glued_eq_join]
  exact key xs

/-! slices -/
theorem slice_nat (x : Str) {a b : Nat} (hab : a ≤ b) (hb : b ≤ x.length) : cpl (Txt.slice x (some (a : Int)) (some (b : Int))) = ((cpl x).drop a).take (b - a) := by
  show cpl (StrLaws.sliceText x _ _) = _
  rw [StrLaws.sliceText_nat x hab hb]
  exact cpl_mk _
theorem slice_congr {x : Str} {l u l' u' : Option Int} (h : Builtin.Str.strSliceIndices l u 1 x.length = Builtin.Str.strSliceIndices l' u' 1 x.length) : Txt.slice x l u = Txt.slice x l' u' := by
  unfold Txt.slice; rw [h]
theorem slice_to {x : Str} {j : Int} (h0 : 0 ≤ j) : cpl (Txt.slice x none (some j)) = (cpl x).take j.toNat := by
  have e : Txt.slice x none (some j) = Txt.slice x (some ((0 : Nat) : Int)) (some ((min j.toNat x.length : Nat) : Int)) := by
    refine slice_congr ?_
    unfold Builtin.Str.strSliceIndices
    simp only [Int.natCast_zero]
    congr 1
    · have h1 : ¬ j < 0 := by omega
      have h2 : ¬ ((min j.toNat x.length : Nat) : Int) < 0 := by omega
      simp only [h1, h2, if_false]
      simp
      omega
  rw [e, slice_nat x (Nat.zero_le _) (Nat.min_le_right _ _), List.drop_zero, Nat.sub_zero, len_cpl]
  by_cases h : j.toNat ≤ (cpl x).length
  · rw [Nat.min_eq_left h]
  · rw [Nat.min_eq_right (by omega), List.take_of_length_le (Nat.le_refl _), List.take_of_length_le (by omega)]
theorem slice_from {x : Str} {i : Int} (h0 : 0 ≤ i) : cpl (Txt.slice x (some i) none) = (cpl x).drop i.toNat := by
  have e : Txt.slice x (some i) none = Txt.slice x (some ((min i.toNat x.length : Nat) : Int)) (some ((x.length : Nat) : Int)) := by
    refine slice_congr ?_
    unfold Builtin.Str.strSliceIndices
    have h1 : ¬ i < 0 := by omega
    have h2 : ¬ ((min i.toNat x.length : Nat) : Int) < 0 := by omega
    have h3 : ((1 : Int) > 0) := by omega
    have h4 : ¬ ((x.length : Nat) : Int) < 0 := by omega
    simp only [h1, h2, h3, h4, if_false, if_true]
    rw [show (max 0 (min i (x.length : Int))) = max 0 (min ((min i.toNat x.length : Nat) : Int) x.length) from by omega, show (max 0 (min (x.length : Int) (x.length : Int))) = (x.length : Int) from by omega]
  rw [e, slice_nat x (Nat.min_le_right _ _) (Nat.le_refl _), len_cpl]
  rw [List.take_of_length_le (by simp)]
  by_cases h : i.toNat ≤ (cpl x).length
  · rw [Nat.min_eq_left h]
  · rw [Nat.min_eq_right (by omega), List.drop_eq_nil_of_le (Nat.le_refl _), List.drop_eq_nil_of_le (by omega)]
theorem slice_to_neg {x : Str} {j : Nat} (h0 : 0 < j) : cpl (Txt.slice x none (some (-(j : Int)))) = (cpl x).take ((cpl x).length - j) := by
  have e : Txt.slice x none (some (-(j : Int))) = Txt.slice x none (some ((x.length - j : Nat) : Int)) := by
    refine slice_congr ?_
    unfold Builtin.Str.strSliceIndices
    congr 1
    have h1 : (-(j : Int)) < 0 := by omega
    have h2 : ¬ ((x.length - j : Nat) : Int) < 0 := by omega
    have h3 : ((1 : Int) > 0) := by omega
    simp only [h1, h2, h3, if_false, if_true]
    rw [show (max 0 (min (-(j : Int) + (x.length : Int)) x.length)) = max 0 (min ((x.length - j : Nat) : Int) x.length) from by omega]
  rw [e, slice_to (by omega), len_cpl]
  rfl
theorem slice_all {x : Str} : Txt.slice x none none = x := by
  have e : Txt.slice x none none = Txt.slice x (some ((0 : Nat) : Int)) none := by
    refine slice_congr ?_
    unfold Builtin.Str.strSliceIndices
    congr 1
  rw [e]
  exact cpl_inj (by rw [slice_from (by omega)]; simp)
end Mine
namespace Mine

/-! ### the price of turning one list into another -/
section
variable {α : Type} (c : α → α → Nat)
noncomputable def D : List α → List α → Nat
  | [], b => 2 * b.length
  | x :: a, [] => 2 * (a.length + 1)
  | x :: a, y :: b => min (D a b + c x y) (min (D a (y :: b) + 2) (D (x :: a) b + 2))
  termination_by a b => a.length + b.length
theorem D_nil (b : List α) : D c [] b = 2 * b.length := by simp [D]
theorem D_nil' (a : List α) : D c a [] = 2 * a.length := by cases a <;> simp [D]
theorem D_cons (x y : α) (a b : List α) : D c (x :: a) (y :: b) = min (D c a b + c x y) (min (D c a (y :: b) + 2) (D c (x :: a) b + 2)) := by rw [D]
theorem D_up1 (x : α) (a b : List α) : D c (x :: a) b ≤ D c a b + 2 := by
  cases b with
  | nil => rw [D_nil', D_nil']; simp; omega
  | cons y b => rw [D_cons]; omega
theorem D_up2 (y : α) (a b : List α) : D c a (y :: b) ≤ D c a b + 2 := by
  cases a with
  | nil => rw [D_nil, D_nil]; simp; omega
  | cons x a => rw [D_cons]; omega
theorem D_down1 (x : α) (a : List α) : ∀ b, D c a b ≤ D c (x :: a) b + 2
  | [] => by rw [D_nil', D_nil']; simp; omega
  | y :: b => by
    have ih := D_down1 x a b
    have h1 := D_up2 c y a b
    rw [D_cons]
    omega
theorem D_down2 (y : α) (b : List α) : ∀ a, D c a b ≤ D c a (y :: b) + 2
  | [] => by rw [D_nil, D_nil]; simp; omega
  | x :: a => by
    have ih := D_down2 y b a
    have h1 := D_up1 c x a b
    rw [D_cons]
    omega
theorem D_same {x : α} (h : c x x = 0) (a b : List α) : D c (x :: a) (x :: b) = D c a b := by
  have h1 := D_down1 c x a b
  have h2 := D_down2 c x b a
  rw [D_cons, h]
  omega
/-- a way from one list to the other, and its price -/
inductive Al : List α → List α → Nat → Prop
  | nil : Al [] [] 0
  | del (x : α) {a b : List α} {n : Nat} (h : Al a b n) : Al (x :: a) b (n + 2)
  | ins (y : α) {a b : List α} {n : Nat} (h : Al a b n) : Al a (y :: b) (n + 2)
  | sub (x y : α) {a b : List α} {n : Nat} (h : Al a b n) : Al (x :: a) (y :: b) (n + c x y)
theorem Al.le {a b : List α} {n : Nat} (h : Al c a b n) : D c a b ≤ n := by
  induction h with
  | nil => rw [D_nil]; exact Nat.le_refl _
  | del x h ih => exact Nat.le_trans (D_up1 c x _ _) (Nat.add_le_add_right ih 2)
  | ins y h ih => exact Nat.le_trans (D_up2 c y _ _) (Nat.add_le_add_right ih 2)
  | sub x y h ih => rw [D_cons]; exact Nat.le_trans (Nat.min_le_left _ _) (Nat.add_le_add_right ih _)
theorem al_nil : ∀ b : List α, Al c [] b (2 * b.length)
  | [] => .nil
  | y :: b => .ins y (al_nil b)
theorem al_nil' : ∀ a : List α, Al c a [] (2 * a.length)
  | [] => .nil
  | x :: a => .del x (al_nil' a)
theorem al_D (a : List α) : ∀ b, Al c a b (D c a b) := by
  induction a with
  | nil => intro b; rw [D_nil]; exact al_nil c b
  | cons x a ih =>
    intro b
    induction b with
    | nil => rw [D_nil']; exact al_nil' c _
    | cons y b ihb =>
      rw [D_cons]
      have pick : ∀ {p q : Nat}, Al c (x :: a) (y :: b) p → Al c (x :: a) (y :: b) q → Al c (x :: a) (y :: b) (min p q) := fun {p q} hp hq => by
        rcases Nat.le_total p q with e | e
        · rw [Nat.min_eq_left e]; exact hp
        · rw [Nat.min_eq_right e]; exact hq
      exact pick (.sub x y (ih b)) (pick (.del x (ih (y :: b))) (.ins y ihb))
variable {c} in
theorem Al.append {a b a' b' : List α} {n m : Nat} (h : Al c a b n) (h' : Al c a' b' m) : Al c (a ++ a') (b ++ b') (n + m) := by
  induction h with
  | nil => rw [Nat.zero_add]; exact h'
  | del x h ih => rw [Nat.add_right_comm]; exact .del x ih
  | ins y h ih => rw [Nat.add_right_comm]; exact .ins y ih
  | sub x y h ih => rw [Nat.add_right_comm]; exact .sub x y ih
variable {c} in
theorem Al.rev {a b : List α} {n : Nat} (h : Al c a b n) : Al c a.reverse b.reverse n := by
  induction h with
  | nil => exact .nil
  | del x h ih =>
    have := ih.append (Al.del x (.nil (c := c)))
    rwa [List.append_nil, Nat.zero_add, ← List.reverse_cons] at this
  | ins y h ih =>
    have := ih.append (Al.ins y (.nil (c := c)))
    rwa [List.append_nil, Nat.zero_add, ← List.reverse_cons] at this
  | sub x y h ih =>
    rw [List.reverse_cons, List.reverse_cons]
    have := ih.append (Al.sub x y (.nil (c := c)))
    rw [Nat.zero_add] at this
    exact this
variable {c} in
theorem Al.symm (hs : ∀ x y, c x y = c y x) {a b : List α} {n : Nat} (h : Al c a b n) : Al c b a n := by
  induction h with
  | nil => exact .nil
  | del x h ih => exact .ins x ih
  | ins y h ih => exact .del y ih
  | sub x y h ih => rw [hs x y]; exact .sub y x ih
theorem D_symm (hs : ∀ x y, c x y = c y x) (a b : List α) : D c a b = D c b a :=
  Nat.le_antisymm ((al_D c b a).symm hs).le ((al_D c a b).symm hs).le
theorem D_reverse (a b : List α) : D c a.reverse b.reverse = D c a b := by
  refine Nat.le_antisymm (al_D c a b).rev.le ?_
  have := (al_D c a.reverse b.reverse).rev.le
  rwa [List.reverse_reverse, List.reverse_reverse] at this
theorem D_snoc (a b : List α) (x y : α) : D c (a ++ [x]) (b ++ [y]) = min (D c a b + c x y) (min (D c a (b ++ [y]) + 2) (D c (a ++ [x]) b + 2)) := by
  rw [← D_reverse c (a ++ [x]), ← D_reverse c a b, ← D_reverse c a (b ++ [y]), ← D_reverse c (a ++ [x]) b, List.reverse_append, List.reverse_append]
  exact D_cons c x y _ _
theorem D_prefix (h : ∀ x, c x x = 0) (a b : List α) : ∀ z : List α, D c (z ++ a) (z ++ b) = D c a b
  | [] => rfl
  | x :: z => by
    show D c (x :: (z ++ a)) (x :: (z ++ b)) = _
    rw [D_same c (h x), D_prefix h a b z]
theorem D_suffix (h : ∀ x, c x x = 0) (a b z : List α) : D c (a ++ z) (b ++ z) = D c a b := by
  rw [← D_reverse, List.reverse_append, List.reverse_append, D_prefix c h, D_reverse]
theorem D_diff : ∀ (a b : List α), 2 * b.length ≤ D c a b + 2 * a.length
  | [], b => by rw [D_nil]; omega
  | x :: a, [] => by simp
  | x :: a, y :: b => by
    have i1 := D_diff a b
    have i2 := D_diff a (y :: b)
    have i3 := D_diff (x :: a) b
    rw [D_cons]
    simp only [List.length_cons] at i1 i2 i3 ⊢
    omega
  termination_by a b => a.length + b.length
theorem D_le : ∀ (a b : List α), D c a b ≤ 2 * a.length + 2 * b.length
  | [], b => by rw [D_nil]; omega
  | x :: a, b => by
    have := D_le a b
    have := D_up1 c x a b
    simp only [List.length_cons]
    omega

/-! prefixes -/
noncomputable def Pij (a b : List α) (i j : Nat) : Nat := D c (a.take i) (b.take j)
theorem Pij_0 (a b : List α) {j : Nat} (h : j ≤ b.length) : Pij c a b 0 j = 2 * j := by
  simp [Pij, D_nil, Nat.min_eq_left h]
theorem Pij_0' (a b : List α) {i : Nat} (h : i ≤ a.length) : Pij c a b i 0 = 2 * i := by
  simp [Pij, D_nil', Nat.min_eq_left h]
theorem Pij_succ (a b : List α) {i j : Nat} (hi : i < a.length) (hj : j < b.length) :
    Pij c a b (i + 1) (j + 1) = min (Pij c a b i j + c a[i] b[j]) (min (Pij c a b i (j + 1) + 2) (Pij c a b (i + 1) j + 2)) := by
  unfold Pij
  rw [List.take_succ_eq_append_getElem hi, List.take_succ_eq_append_getElem hj, D_snoc]
theorem Pij_all (a b : List α) : Pij c a b a.length b.length = D c a b := by simp [Pij]

/-- what stands in one row bounds the price from below -/
theorem row_bound (hc : ∀ x y, c x y ≤ 2) (a b : List α) {m j : Nat} (hj : j ≤ b.length) (hm : ∀ i, i ≤ a.length → m ≤ Pij c a b i j) :
    ∀ k, j + k ≤ b.length → ∀ i, i ≤ a.length → m ≤ Pij c a b i (j + k)
  | 0, _, i, hi => hm i hi
  | k + 1, hk, 0, hi => by
    have := row_bound hc a b hj hm k (by omega) 0 hi
    rw [Pij_0 c a b (by omega)] at this ⊢
    omega
  | k + 1, hk, i + 1, hi => by
    have h1 := row_bound hc a b hj hm k (by omega) i (by omega)
    have h2 := row_bound hc a b hj hm k (by omega) (i + 1) hi
    have h3 := row_bound hc a b hj hm (k + 1) hk i (by omega)
    show m ≤ Pij c a b (i + 1) (j + k + 1)
    rw [Pij_succ c a b (by omega) (by omega)]
    have e : j + (k + 1) = j + k + 1 := rfl
    rw [e] at h3
    omega
end
end Mine
namespace Mine

section
variable {α : Type} [DecidableEq α]
noncomputable def lcp : List α → List α → Nat
  | x :: a, y :: b => if x = y then lcp a b + 1 else 0
  | _, _ => 0
theorem lcp_le : ∀ a b : List α, lcp a b ≤ a.length ∧ lcp a b ≤ b.length
  | [], _ => by simp [lcp]
  | _ :: _, [] => by simp [lcp]
  | x :: a, y :: b => by
    have := lcp_le a b
    unfold lcp
    split <;> simp <;> omega
theorem lcp_take : ∀ a b : List α, a.take (lcp a b) = b.take (lcp a b)
  | [], _ => by simp [lcp]
  | _ :: _, [] => by simp [lcp]
  | x :: a, y :: b => by
    have := lcp_take a b
    unfold lcp
    split
    · rename_i h; subst h; simp [this]
    · simp
/-- up to the end of the common beginning the signs are the same -/
theorem lcp_same : ∀ (a b : List α) (k : Nat), k < lcp a b → ∃ x, a[k]? = some x ∧ b[k]? = some x
  | [], _, k, h => by simp [lcp] at h
  | _ :: _, [], k, h => by simp [lcp] at h
  | x :: a, y :: b, k, h => by
    unfold lcp at h
    split at h
    · rename_i e; subst e
      cases k with
      | zero => exact ⟨x, rfl, rfl⟩
      | succ k => simpa using lcp_same a b k (by omega)
    · omega
theorem lcp_stop : ∀ (a b : List α), lcp a b = a.length ∨ lcp a b = b.length ∨ ∃ x y, a[lcp a b]? = some x ∧ b[lcp a b]? = some y ∧ x ≠ y
  | [], _ => by simp [lcp]
  | _ :: _, [] => by simp [lcp]
  | x :: a, y :: b => by
    unfold lcp
    split
    · rcases lcp_stop a b with h | h | ⟨u, v, h1, h2, h3⟩
      · left; simp [h]
      · right; left; simp [h]
      · right; right; exact ⟨u, v, by simpa using h1, by simpa using h2, h3⟩
    · rename_i h
      right; right; exact ⟨x, y, rfl, rfl, h⟩
theorem lcp_ge : ∀ (z a b : List α), z.length ≤ lcp (z ++ a) (z ++ b)
  | [], _, _ => by simp
  | x :: z, a, b => by
    have := lcp_ge z a b
    simp only [List.cons_append, lcp, if_true, List.length_cons]
    omega
theorem lcp_ge_take {a b : List α} {k : Nat} (h : a.take k = b.take k) (ha : k ≤ a.length) (hb : k ≤ b.length) : k ≤ lcp a b := by
  have := lcp_ge (a.take k) (a.drop k) (b.drop k)
  rw [List.take_append_drop, h, List.take_append_drop, List.length_take] at this
  omega

/-- the common beginning and the common end are cut off -/
noncomputable def strip (a b : List α) : List α × List α :=
  let a1 := a.drop (lcp a b)
  let b1 := b.drop (lcp a b)
  let m := lcp a1.reverse b1.reverse
  (a1.take (a1.length - m), b1.take (b1.length - m))

theorem D_strip (c : α → α → Nat) (h : ∀ x, c x x = 0) (a b : List α) : D c (strip a b).1 (strip a b).2 = D c a b := by
  have e1 : D c (a.drop (lcp a b)) (b.drop (lcp a b)) = D c a b := by
    have := D_prefix c h (a.drop (lcp a b)) (b.drop (lcp a b)) (a.take (lcp a b))
    rw [List.take_append_drop] at this
    rw [← this]
    congr 1
    rw [lcp_take, List.take_append_drop]
  unfold strip
  simp only
  rw [← e1]
  generalize a.drop (lcp a b) = a1
  generalize b.drop (lcp a b) = b1
  have h1 := lcp_le a1.reverse b1.reverse
  have h2 := lcp_take a1.reverse b1.reverse
  generalize lcp a1.reverse b1.reverse = m at *
  simp only [List.length_reverse] at h1
  rw [List.take_reverse, List.take_reverse] at h2
  have h2 := List.reverse_inj.mp h2
  have := D_suffix c h (a1.take (a1.length - m)) (b1.take (b1.length - m)) (a1.drop (a1.length - m))
  rw [List.take_append_drop] at this
  rw [← this]
  congr 1
  rw [h2, List.take_append_drop]

theorem take_rev {l : List α} {k : Nat} : l.reverse.take k = (l.drop (l.length - k)).reverse := List.take_reverse ..

theorem strip_short (P x y S : List α) : (strip (P ++ x ++ S) (P ++ y ++ S)).1 = [] ∨ (strip (P ++ x ++ S) (P ++ y ++ S)).2 = [] ∨
    ((strip (P ++ x ++ S) (P ++ y ++ S)).1.length ≤ x.length ∧ (strip (P ++ x ++ S) (P ++ y ++ S)).2.length ≤ y.length) := by
  generalize ha : P ++ x ++ S = a
  generalize hb : P ++ y ++ S = b
  have hp : P.length ≤ lcp a b := by
    rw [← ha, ← hb, List.append_assoc, List.append_assoc]
    exact lcp_ge P _ _
  have hl := lcp_le a b
  have hal : a.length = P.length + x.length + S.length := by rw [← ha]; simp; omega
  have hbl : b.length = P.length + y.length + S.length := by rw [← hb]; simp; omega
  unfold strip
  simp only
  generalize lcp a b = k at *
  generalize ha1 : a.drop k = a1
  generalize hb1 : b.drop k = b1
  have hal1 : a1.length = a.length - k := by rw [← ha1]; simp
  have hbl1 : b1.length = b.length - k := by rw [← hb1]; simp
  have hm := lcp_le a1.reverse b1.reverse
  simp only [List.length_reverse] at hm
  -- the last signs agree
  have ends : ∀ n, n ≤ S.length → n ≤ a1.length → n ≤ b1.length → n ≤ lcp a1.reverse b1.reverse := by
    intro n hS hA hB
    refine lcp_ge_take ?_ (by simpa using hA) (by simpa using hB)
    have e1 : a1.reverse.take n = (S.drop (S.length - n)).reverse := by
      rw [List.take_reverse, ← ha1, List.drop_drop]
      congr 1
      have : k + ((a.drop k).length - n) = (P ++ x).length + (S.length - n) := by simp; omega
      rw [this, ← ha, ← List.drop_drop, List.drop_left]
    have e2 : b1.reverse.take n = (S.drop (S.length - n)).reverse := by
      rw [List.take_reverse, ← hb1, List.drop_drop]
      congr 1
      have : k + ((b.drop k).length - n) = (P ++ y).length + (S.length - n) := by simp; omega
      rw [this, ← hb, ← List.drop_drop, List.drop_left]
    rw [e1, e2]
  by_cases h1 : S.length ≤ a1.length ∧ S.length ≤ b1.length
  · have := ends S.length (Nat.le_refl _) h1.1 h1.2
    right; right
    simp only [List.length_take]
    omega
  · by_cases h2 : a1.length ≤ b1.length
    · have := ends a1.length (by omega) (Nat.le_refl _) h2
      left
      rw [show a1.length - lcp a1.reverse b1.reverse = 0 by omega]
      rfl
    · have := ends b1.length (by omega) (by omega) (Nat.le_refl _)
      right; left
      rw [show b1.length - lcp a1.reverse b1.reverse = 0 by omega]
      rfl
end

/-- the answer of the bounded reckoning -/
noncomputable def LevOk (dd : Nat) (m r : Int) : Prop := r = dd ∨ (m < dd ∧ r = m + 1)
noncomputable def levFits {α : Type} [DecidableEq α] (a b : List α) : Prop := (strip a b).1 = [] ∨ (strip a b).2 = [] ∨ ((strip a b).1.length ≤ 40 ∧ (strip a b).2.length ≤ 40)
end Mine
namespace Mine

/-! ### loops, as the pure side meets them -/
theorem loop_of {r : WE} {t : WT} {scn : Sc} {elt : Expr} {x : Str} {ifs : List Expr} {σ : Loc} (f : PV → Option PV) : ∀ {xs acc : List PV} {K : List PV → Prop},
    (∀ p ∈ xs, ∀ (X : PV → Prop) (Z : Prop), (match f p with | some y => X y | none => Z) → testsW (fun c K => t scn c (set σ x (.val p)) K) ifs fun b => Br b (r scn elt (set σ x (.val p)) X) Z) →
    K (acc ++ xs.filterMap f) → loopW r t scn elt x ifs σ xs acc K
  | [], acc, K, _, h => by simpa [loopW] using h
  | p :: xs, acc, K, hs, h => by
    simp only [loopW]
    refine hs p List.mem_cons_self _ _ ?_
    cases hf : f p with
    | none =>
      refine loop_of f (fun q hq => hs q (List.mem_cons_of_mem _ hq)) ?_
      simpa [List.filterMap_cons, hf] using h
    | some y =>
      refine loop_of f (fun q hq => hs q (List.mem_cons_of_mem _ hq)) ?_
      simpa [List.filterMap_cons, hf, List.append_assoc] using h
/-- a comprehension without a condition -/
theorem loop_map {r : WE} {t : WT} {scn : Sc} {elt : Expr} {x : Str} {σ : Loc} (f : PV → PV) {xs acc : List PV} {K : List PV → Prop}
    (hs : ∀ p ∈ xs, ∀ X : PV → Prop, X (f p) → r scn elt (set σ x (.val p)) X) (h : K (acc ++ xs.map f)) : loopW r t scn elt x [] σ xs acc K := by
  refine loop_of (fun p => some (f p)) (fun p hp X Z hx => ?_) (by simpa using h)
  exact Br.tt (hs p hp X hx)

theorem while_of {t : WT} {b : WB} {sc : Sc} {test : Expr} {body orelse : List Stmt} {K : FP → Loc → Prop} (σf : Nat → Loc) : ∀ (N : Nat) (k : Nat),
    (∀ k, k < N → ∀ X : Loc → Prop, X (σf (k + 1)) → t sc test (σf k) fun c => Br c (b sc body (σf k) fun fp σ' => match fp with | .next => X σ' | .cont => X σ' | .brk => K .next σ' | .ret p => K (.ret p) σ') (b sc orelse (σf k) K)) →
    (∀ X : Loc → Prop, t sc test (σf N) fun c => Br c (b sc body (σf N) fun fp σ' => match fp with | .next => X σ' | .cont => X σ' | .brk => K .next σ' | .ret p => K (.ret p) σ') (b sc orelse (σf N) K)) →
    k ≤ N → whileN t b sc test body orelse K (N - k + 1) (σf k) := by
  intro N k hs hl hk
  have key : ∀ n k, k + n = N → whileN t b sc test body orelse K (n + 1) (σf k) := by
    intro n
    induction n with
    | zero =>
      intro k e
      have : k = N := by omega
      subst this
      exact hl _
    | succ n ih =>
      intro k e
      exact hs k (by omega) _ (ih (k + 1) (by omega))
  exact key (N - k) k (by omega)
theorem fuel_of {t : WT} {b : WB} {sc : Sc} {test : Expr} {body orelse : List Stmt} {K : FP → Loc → Prop} {σ : Loc} (σf : Nat → Loc) (N : Nat) (h0 : σ = σf 0)
    (hs : ∀ k, k < N → ∀ X : Loc → Prop, X (σf (k + 1)) → t sc test (σf k) fun c => Br c (b sc body (σf k) fun fp σ' => match fp with | .next => X σ' | .cont => X σ' | .brk => K .next σ' | .ret p => K (.ret p) σ') (b sc orelse (σf k) K))
    (hl : ∀ X : Loc → Prop, t sc test (σf N) fun c => Br c (b sc body (σf N) fun fp σ' => match fp with | .next => X σ' | .cont => X σ' | .brk => K .next σ' | .ret p => K (.ret p) σ') (b sc orelse (σf N) K)) :
    Fuel fun n => whileN t b sc test body orelse K n σ :=
  Fuel.intro (N - 0 + 1) (h0 ▸ while_of σf N 0 hs hl (Nat.zero_le _))

theorem fuel_by {t : WT} {b : WB} {sc : Sc} {test : Expr} {body orelse : List Stmt} {K : FP → Loc → Prop} {σ : Loc} (σf : Nat → Loc) (N : Nat) (h0 : σ = σf 0)
    (ht : ∀ k, k < N → ∀ Y : Bool → Prop, Y true → t sc test (σf k) Y) (hs : ∀ k, k < N → ∀ X : Loc → Prop, X (σf (k + 1)) → b sc body (σf k) fun fp σ' => match fp with | .next => X σ' | .cont => X σ' | .brk => K .next σ' | .ret p => K (.ret p) σ')
    (hl : ∀ Y : Bool → Prop, Y false → t sc test (σf N) Y) (he : b sc orelse (σf N) K) : Fuel fun n => whileN t b sc test body orelse K n σ :=
  fuel_of σf N h0 (fun k hk X hX => ht k hk _ (Br.tt (hs k hk X hX))) fun X => hl _ (Br.ff he)

/-- a loop over a list, by what holds before each turn; it may be left early -/
theorem for_of {b : WB} {sc : Sc} {target : Expr} {body orelse : List Stmt} {K : FP → Loc → Prop} {xs : List PV} {σ : Loc} (I : Nat → Loc → Prop) (h0 : I 0 σ)
    (hs : ∀ i p σ, xs[i]? = some p → I i σ → ∀ X : Loc → Prop, (∀ σ', I (i + 1) σ' → X σ') → targetW sc σ target p fun σ' => b sc body σ' fun fp σ'' => match fp with | .next => X σ'' | .cont => X σ'' | .brk => K .next σ'' | .ret p => K (.ret p) σ'')
    (hl : ∀ σ, I xs.length σ → b sc orelse σ K) : forL b sc target body orelse K xs σ := by
  have key : ∀ (ys : List PV) (i : Nat) (σ : Loc), xs.drop i = ys → i ≤ xs.length → I i σ → forL b sc target body orelse K ys σ := by
    intro ys
    induction ys with
    | nil =>
      intro i σ e hi h
      have : i = xs.length := by
        have := congrArg List.length e
        simp at this
        omega
      subst this
      exact hl σ h
    | cons p ys ih =>
      intro i σ e hi h
      have hp : xs[i]? = some p := by
        have := congrArg (·[0]?) e
        simpa using this
      have hlt : i < xs.length := (List.getElem?_eq_some_iff.mp hp).1
      have he : xs.drop (i + 1) = ys := by
        have := congrArg List.tail e
        simpa using this
      exact hs i p σ hp h _ fun σ' h' => ih (i + 1) σ' he (by omega) h'
  exact key xs 0 σ (by simp) (Nat.zero_le _) h0

/-- a sign is put in place of another, if it is there -/
theorem Br.rep {t c z : Str} {k : Nat} {B1 B2 : Prop} (F : Str → Prop) (hc : c = ⟨#[k]⟩) (h1 : F (Txt.replace t c z) → B1) (h2 : F t → B2) (h : F (Txt.replace t c z)) : Br (Txt.contains t c) B1 B2 := by
  subst hc
  refine Br.intro (fun _ => h1 h) fun hn => h2 ?_
  rw [replace_not hn] at h
  exact h
end Mine
namespace Mine
/-- the program's text, the three rows that only say a module's name left out -/
noncomputable def pr : Program := { PySem.Challenge.pw_pg0174_01 with main := { PySem.Challenge.pw_pg0174_01.main with
  body := (PySem.Challenge.pw_pg0174_01.main.body.drop 1).take 5 ++ ((PySem.Challenge.pw_pg0174_01.main.body.drop 7).take 6 ++ PySem.Challenge.pw_pg0174_01.main.body.drop 14) } }
end Mine
namespace Mine

structure Is (W : Wd) : Prop where
  p : W.p = pr
  loose : W.loose = looseW pr []
noncomputable def drOf (p : Program) (i : Nat) : DefRec := match p.main.body[i]? with
  | some (.FunctionDef name args body _ _ _ scope _ _ pos) => ⟨name, args, body, scope, pos⟩
  | _ => ⟨Str.ofString "", ⟨[], [], none, [], [], none, []⟩, [], default, default⟩
theorem rec_mem {W : Wd} (h : Is W) {i : Nat} {x : Str} (hf : (recsOf pr).find? (fun e => e.name == x) = some (drOf pr i)) : drOf pr i ∈ recsOf W.p := by
  rw [h.p]; exact List.mem_of_find?_eq_some hf

noncomputable def consts1 (x : Str) : Option PV := match nmEq (Str.ofString "_MAX_STRING_SIZE") x with
  | true => some (.int 40)
  | false => (match nmEq (Str.ofString "_MOVE_COST") x with
    | true => some (.int 2)
    | false => (match nmEq (Str.ofString "_CASE_COST") x with
      | true => some (.int 1)
      | false => none))
noncomputable def G0 : GC := ⟨fun _ => none, consts1⟩

theorem const_int {W : Wd} (h : Is W) {x : Str} {k : Int} (hv : valOf pr x = some (.int k)) : ∃ v, W.mg x = some v ∧ ∀ X h, Den W.w X h (.int k) v := by
  obtain ⟨v, hm, hr⟩ := W.T.const x _ (by rw [h.p]; exact hv)
  refine ⟨v, hm, fun X h => ?_⟩
  have := hr h
  cases this
  exact mk_int
theorem bi_free {W : Wd} (h : Is W) {x : Str} {v : Value} (h1 : startupNames.contains x = false) (h2 : (looseW pr []).contains x = false) (h3 : ((recsOf pr).map (·.name)).contains x = false) (h4 : ((litsOf pr).map (·.1)).contains x = false)
    (h5 : ((clssOf pr (looseW pr [])).map (·.name)).contains x = false) (h6 : (x == ("__name__" : Str)) = false) (h7 : bootBuiltins x = some v) : W.mg x = none ∧ W.mb x = some v := by
  have no : ∀ {l : List Str}, l.contains x = false → x ∉ l := fun e hm => by rw [List.contains_iff_mem.mpr hm] at e; cases e
  refine ⟨W.T.free x (no h1) ?_ ?_ ?_ ?_, ?_⟩
  · rw [h.loose]; exact no h2
  · rw [h.p]; exact no h3
  · rw [h.p]; exact no h4
  · rw [h.p, h.loose]; exact no h5
  · rw [W.T.builtins x (by simpa using h6), h7]

theorem gok0 {W : Wd} (h : Is W) (d : Nat) : GOk W d G0 where
  fn := fun f spec e => nomatch e
  const := fun x p e => by
    simp only [G0, consts1] at e
    split at e
    · rename_i hx
      cases e
      rw [← (nmEq_iff _ _).mp hx]
      exact const_int h (by rfl)
    · split at e
      · rename_i hx
        cases e
        rw [← (nmEq_iff _ _).mp hx]
        exact const_int h (by rfl)
      · split at e
        · rename_i hx
          cases e
          rw [← (nmEq_iff _ _).mp hx]
          exact const_int h (by rfl)
        · cases e
  bi := fun b => by
    cases b <;> exact bi_free h (by decide +kernel) (by decide +kernel) (by decide +kernel) (by decide +kernel) (by decide +kernel) (by decide +kernel) (by rfl)
  int := bi_free h (by decide +kernel) (by decide +kernel) (by decide +kernel) (by decide +kernel) (by decide +kernel) (by decide +kernel) (by rfl)

theorem CallOK.up {W : Wd} {d e : Nat} {f : Str} {spec : PSpec} (h : CallOK W d f spec) (hde : d ≤ e) : CallOK W e f spec where
  get := by
    obtain ⟨a, h1, h2, h3⟩ := h.get
    exact ⟨a, h1, h2, fun A E s X vs ps K Q hr => h3 A E s X vs ps K Q (hr.less hde)⟩
/-- one more def -/
noncomputable def GC.with (G : GC) (f : Str) (spec : PSpec) : GC := ⟨fun x => match nmEq f x with | true => some spec | false => G.fn x, G.const⟩
theorem GOk.with {W : Wd} {d : Nat} {G : GC} {f : Str} {spec : PSpec} (h : GOk W d G) (c : CallOK W d f spec) : GOk W d (G.with f spec) where
  fn := fun g s e => by
    simp only [GC.with] at e
    split at e
    · rename_i hx
      cases e
      rw [← (nmEq_iff _ _).mp hx]
      exact c
    · exact h.fn g s e
  const := h.const
  bi := h.bi
  int := h.int
end Mine
namespace Mine

theorem len1 {α : Type} {vs : List α} (h : vs.length = 1) : ∃ a, vs = [a] := by
  match vs, h with
  | [a], _ => exact ⟨a, rfl⟩
theorem len2 {α : Type} {vs : List α} (h : vs.length = 2) : ∃ a b, vs = [a, b] := by
  match vs, h with
  | [a, b], _ => exact ⟨a, b, rfl⟩
theorem len3 {α : Type} {vs : List α} (h : vs.length = 3) : ∃ a b c, vs = [a, b, c] := by
  match vs, h with
  | [a, b, c], _ => exact ⟨a, b, c, rfl⟩

/-! `_substitution_cost` -/
noncomputable def subC (a b : Str) : Nat := match a == b with
  | true => 0
  | false => (match Txt.lower a == Txt.lower b with
    | true => 1
    | false => 2)
noncomputable def subSpec : PSpec := fun ps K => as0 ps False fun p0 r0 => asS p0 fun a => as1 r0 fun p1 => asS p1 fun b => 
    ((Txt.lower a).length ≤ sizeLine ∧ (Txt.lower b).length ≤ sizeLine) ∧ K (.int (subC a b))
theorem sub_ok {W : Wd} (h : Is W) : CallOK W 1 (Str.ofString "_substitution_cost") subSpec := by
  refine callOK (names := [Str.ofString "ch_a", Str.ofString "ch_b"]) (rec_mem h (i := 3) (x := Str.ofString "_substitution_cost") (by rfl)) (by rfl) (by decide +kernel)
    (fun vs pm cd doc hl => ?_) (BW_ok (gok0 h 0) rfl 8 4 (mu := [])) fun ps K hs => ?_
  · obtain ⟨a, b, rfl⟩ := len2 hl
    rfl
  · rcases ps with _ | ⟨p0, r0⟩
    · exact False.elim hs
    have hsa := hs
    obtain ⟨a, rfl, hsb⟩ := asS.inv hsa
    obtain ⟨p1, rfl, hsba⟩ := as1.inv hsb
    obtain ⟨b, rfl, hsbb⟩ := asS.inv hsba
    have hs := hsbb
    · obtain ⟨⟨h1, h2⟩, hk⟩ := hs
      refine ⟨rfl, ?_⟩
      unfold subC at hk
      conv => whnf
      refine Br.intro (fun e => ?_) (fun e => ?_)
      · conv => whnf
        rw [e] at hk
        exact hk
      · conv => whnf
        refine Ob.intro h1 ?_
        conv => whnf
        refine Ob.intro h2 ?_
        conv => whnf
        rw [e] at hk
        refine Br.intro (fun e2 => ?_) (fun e2 => ?_)
        · conv => whnf
          rw [e2] at hk
          exact hk
        · conv => whnf
          rw [e2] at hk
          exact hk
end Mine
namespace Mine

/-! `_levenshtein_distance` over texts -/
noncomputable def cst (x y : Nat) : Nat := subC ⟨#[x]⟩ ⟨#[y]⟩
noncomputable def levSpec : PSpec := fun ps K => as0 ps False fun p0 r0 => asS p0 fun a => as0 r0 False fun p1 r1 => asS p1 fun b => as1 r1 fun p2 => asI p2 fun m => 
    (a.length ≤ 1000 ∧ b.length ≤ 1000 ∧ levFits (cpl a) (cpl b)) ∧ ∀ r, LevOk (D cst (cpl a) (cpl b)) m r → K (.int r)
noncomputable def G1 : GC := G0.with (Str.ofString "_substitution_cost") subSpec
theorem gok1 {W : Wd} (h : Is W) : GOk W 1 G1 := (gok0 h 1).with (sub_ok h)

theorem Br.two {a b : Str} {c : Bool} {B1 B2 : Prop} (F : Str → Str → Prop) (h1 : F b a → B1) (h2 : F a b → B2) (h : ∀ x y : Str, (c = true → x = b ∧ y = a) → (c = false → x = a ∧ y = b) → F x y) : Br c B1 B2 :=
  Br.intro (fun e => h1 (h b a (fun _ => ⟨rfl, rfl⟩) (fun q => by rw [e] at q; cases q))) (fun e => h2 (h a b (fun q => by rw [e] at q; cases q) fun _ => ⟨rfl, rfl⟩))

theorem item_nat {α : Type} {xs : List α} {k : Nat} {x : α} (h : xs[k]? = some x) : itemAt xs (k : Int) = some x := by
  have hk : k < xs.length := (List.getElem?_eq_some_iff.mp h).1
  unfold itemAt seqIndex?
  have h1 : ¬ ((k : Int) < 0) := by omega
  simp only [h1, if_false]
  have h2 : (0 : Int) ≤ (k : Int) ∧ (k : Int) < xs.length := by omega
  simp [hk]
  exact (List.getElem?_eq_some_iff.mp h).2

theorem slice_len {x : Str} {k : Nat} : (Txt.slice x (some (k : Int)) none).length = (cpl x).length - k := by
  rw [len_cpl, slice_from (by omega)]; simp

theorem item_neg {α : Type} {xs : List α} {k : Nat} {x : α} (h : xs.reverse[k]? = some x) : itemAt xs (-(k : Int) - 1) = some x := by
  have hk : k < xs.length := by simpa using (List.getElem?_eq_some_iff.mp h).1
  rw [List.getElem?_reverse hk] at h
  unfold itemAt seqIndex?
  have h1 : (-(k : Int) - 1) < 0 := by omega
  simp only [h1, if_true]
  have e : (-(k : Int) - 1 + xs.length).toNat = xs.length - 1 - k := by omega
  have h3 : ¬ (-(k : Int) - 1 + xs.length < 0) := by omega
  have h4 : (-(k : Int) - 1 + xs.length) < xs.length := by omega
  simp [e, h3, h4]
  rw [if_pos (by omega)]
  exact h
theorem slice_negl {x : Str} {k : Nat} : (Txt.slice x none (some (-((k + 1 : Nat) : Int)))).length = (cpl x).length - (k + 1) := by
  rw [len_cpl, slice_to_neg (by omega)]; simp
theorem slice_neg0 {x : Str} {k : Nat} (e : ((Txt.slice x none (some (-((k + 1 : Nat) : Int)))).length != 0) = false) : (cpl x).length ≤ k + 1 := by
  rw [slice_negl] at e; simp at e; omega
theorem subC_symm (a b : Str) : subC a b = subC b a := by
  unfold subC
  rw [BEq.comm (a := a), BEq.comm (a := Txt.lower a)]
theorem cst_symm (x y : Nat) : cst x y = cst y x := subC_symm _ _
theorem cst_le (x y : Nat) : cst x y ≤ 2 := by
  unfold cst subC
  split
  · omega
  · split <;> omega
theorem cst_same (x : Nat) : cst x x = 0 := by simp [cst, subC]
noncomputable def levB (k : Nat) (σ : Loc) (K : PV → Prop) : Prop :=
  blockW (stepS G1 [Str.ofString "row"] (EW G1 10).1 (EW G1 10).2 (BW G1 [Str.ofString "row"] 10 5)) (drOf pr 4).scope.names ((drOf pr 4).body.drop k) σ (retK K)
theorem row_size (n : Nat) : Builtin.Range.rangeSize 2 (2 * ((n : Int) + 1)) 2 = n := by
  unfold Builtin.Range.rangeSize
  rw [if_pos (by omega)]
  split <;> omega
theorem count_size (n : Nat) : Builtin.Range.rangeSize 0 (n : Int) 1 = n := by
  unfold Builtin.Range.rangeSize
  rw [if_pos (by omega)]
  split <;> omega
theorem row_items (n : Nat) : rangeItems 2 (2 * ((n : Int) + 1)) 2 = (List.range n).map fun i : Nat => PV.int (2 * ((i : Int) + 1)) := by
  unfold rangeItems
  rw [row_size]
  refine List.map_congr_left fun i _ => ?_
  congr 1; omega
theorem count_items (n : Nat) : rangeItems 0 (n : Int) 1 = (List.range n).map fun i : Nat => PV.int i := by
  unfold rangeItems
  rw [count_size]
  refine List.map_congr_left fun i _ => ?_
  congr 1; omega
theorem small_of {a b c : Int} (ha : a.natAbs < 1000000) (hb : b.natAbs < 1000000) (hc : 0 < c ∧ c < 1000000) (hn : 0 ≤ Builtin.Range.rangeSize a b c ∧ Builtin.Range.rangeSize a b c < 1000000) : Builtin.Range.small a b c = true := by
  have fit : ∀ x : Int, x.natAbs < 2000001 → Builtin.Range.rangeFitsLong x = true := fun x hx => by
    unfold Builtin.Range.rangeFitsLong
    simp only [Bool.and_eq_true, decide_eq_true_eq]
    omega
  unfold Builtin.Range.small
  rw [fit a (by omega), fit b (by omega), fit c (by omega), fit _ (by omega), if_pos hc.1, fit (b + (c - 1)) (by omega)]
  simp

theorem one_low (c : Nat) : (Txt.lower ⟨#[c]⟩).length ≤ sizeLine := by
  have := len_lower ⟨#[c]⟩
  have := sizeLine_eq
  have : (⟨#[c]⟩ : Str).length = 1 := rfl
  omega
/-! the rows -/
noncomputable def s7 (a b : Str) (m p q : Int) (row : List PV) (res : Int) : Loc :=
  [(Str.ofString "a", .val (.str a)), (Str.ofString "b", .val (.str b)), (Str.ofString "max_cost", .val (.int m)), (Str.ofString "pre", .val (.int p)), (Str.ofString "post", .val (.int q)), (Str.ofString "row", .own row), (Str.ofString "result", .val (.int res))]
noncomputable def s11 (a b : Str) (m p q : Int) (row : List PV) (res bi : Int) (bc : Str) (di mi : Int) : Loc :=
  [(Str.ofString "a", .val (.str a)), (Str.ofString "b", .val (.str b)), (Str.ofString "max_cost", .val (.int m)), (Str.ofString "pre", .val (.int p)), (Str.ofString "post", .val (.int q)), (Str.ofString "row", .own row), (Str.ofString "result", .val (.int res)),
   (Str.ofString "bindex", .val (.int bi)), (Str.ofString "bchar", .val (.str bc)), (Str.ofString "distance", .val (.int di)), (Str.ofString "minimum", .val (.int mi))]
noncomputable def s14 (a b : Str) (m p q : Int) (row : List PV) (res bi : Int) (bc : Str) (di mi ix su ins : Int) : Loc :=
  [(Str.ofString "a", .val (.str a)), (Str.ofString "b", .val (.str b)), (Str.ofString "max_cost", .val (.int m)), (Str.ofString "pre", .val (.int p)), (Str.ofString "post", .val (.int q)), (Str.ofString "row", .own row), (Str.ofString "result", .val (.int res)),
   (Str.ofString "bindex", .val (.int bi)), (Str.ofString "bchar", .val (.str bc)), (Str.ofString "distance", .val (.int di)), (Str.ofString "minimum", .val (.int mi)),
   (Str.ofString "index", .val (.int ix)), (Str.ofString "substitute", .val (.int su)), (Str.ofString "insert_delete", .val (.int ins))]
noncomputable def rowAt (A B : List Nat) (i j : Nat) : List PV := (List.range A.length).map fun t => PV.int (if t < i then (Pij cst A B (t + 1) (j + 1) : Nat) else (Pij cst A B (t + 1) j : Nat) : Nat)
theorem rowAt_item {A B : List Nat} {i j : Nat} (h : i < A.length) : itemAt (rowAt A B i j) (i : Int) = some (.int (Pij cst A B (i + 1) j : Nat)) := by
  refine item_nat ?_
  unfold rowAt
  rw [List.getElem?_map, List.getElem?_range h]
  simp
theorem rowAt_set {A B : List Nat} {i j : Nat} (h : i < A.length) : (rowAt A B i j).set i (.int (Pij cst A B (i + 1) (j + 1) : Nat)) = rowAt A B (i + 1) j := by
  refine List.ext_getElem? fun k => ?_
  rw [List.getElem?_set]
  unfold rowAt
  simp only [List.getElem?_map, List.length_map, List.length_range]
  by_cases hk : i = k
  · subst hk
    rw [if_pos rfl, if_pos h, List.getElem?_range h]
    simp
  · rw [if_neg hk]
    by_cases hl : k < A.length
    · rw [List.getElem?_range hl]
      have : (k < i + 1) = (k < i) := by simp; omega
      simp [this]
    · rw [List.getElem?_eq_none (by simpa using hl)]
      rfl
theorem rowAt_next {A B : List Nat} {j : Nat} : rowAt A B A.length j = rowAt A B 0 (j + 1) := by
  unfold rowAt
  refine List.map_congr_left fun t ht => ?_
  simp [List.mem_range.mp ht]
theorem step_val {A B : List Nat} {i j ai bc r1 : Nat} (hi : A[i]? = some ai) (hj : B[j]? = some bc) (hr : r1 = if i = 0 then 2 * j else Pij cst A B i (j + 1)) :
    (if ((Pij cst A B i j : Nat) : Int) + (subC ⟨#[bc]⟩ ⟨#[ai]⟩ : Nat) < (if ((Pij cst A B (i + 1) j : Nat) : Int) < (r1 : Int) then ((Pij cst A B (i + 1) j : Nat) : Int) else (r1 : Int)) + 2 then
      ((Pij cst A B i j : Nat) : Int) + (subC ⟨#[bc]⟩ ⟨#[ai]⟩ : Nat) else (if ((Pij cst A B (i + 1) j : Nat) : Int) < (r1 : Int) then ((Pij cst A B (i + 1) j : Nat) : Int) else (r1 : Int)) + 2) = ((Pij cst A B (i + 1) (j + 1) : Nat) : Int) := by
  obtain ⟨hil, rfl⟩ := List.getElem?_eq_some_iff.mp hi
  obtain ⟨hjl, rfl⟩ := List.getElem?_eq_some_iff.mp hj
  rw [Pij_succ cst A B hil hjl]
  have e : subC ⟨#[B[j]]⟩ ⟨#[A[i]]⟩ = cst A[i] B[j] := subC_symm _ _
  rw [e]
  have h2 := cst_le A[i] B[j]
  by_cases h0 : i = 0
  · subst h0
    rw [if_pos rfl] at hr
    rw [Pij_0 cst A B (by omega), Pij_0 cst A B (by omega)]
    split <;> split <;> omega
  · rw [if_neg h0] at hr
    split <;> split <;> omega
/-- between two turns of the inner loop -/
noncomputable def Jn (a b : Str) (m p q : Int) (j : Nat) (i : Nat) (σ : Loc) : Prop :=
  ∃ (bc : Nat) (res : Nat) (mi : Int), (cpl b)[j]? = some bc ∧ (res : Nat) = (if i = 0 then 2 * j else Pij cst (cpl a) (cpl b) i (j + 1)) ∧ (∀ t, t < i → mi ≤ (Pij cst (cpl a) (cpl b) (t + 1) (j + 1) : Nat)) ∧
    ((i = 0 ∧ σ = s11 a b m p q (rowAt (cpl a) (cpl b) i j) res j ⟨#[bc]⟩ (Pij cst (cpl a) (cpl b) i j : Nat) mi) ∨
     ∃ ix su ins, σ = s14 a b m p q (rowAt (cpl a) (cpl b) i j) res j ⟨#[bc]⟩ (Pij cst (cpl a) (cpl b) i j : Nat) mi ix su ins)
noncomputable def In (a b : Str) (m p q : Int) (j : Nat) (σ : Loc) : Prop :=
  ∃ res : Nat, (j ≠ 0 → res = Pij cst (cpl a) (cpl b) (cpl a).length j) ∧ (σ = s7 a b m p q (rowAt (cpl a) (cpl b) 0 j) res ∨ ∃ bi bc di mi ix su ins, σ = s14 a b m p q (rowAt (cpl a) (cpl b) 0 j) res bi bc di mi ix su ins)
set_option maxHeartbeats 4000000 in
theorem lev_12 (a b : Str) (m p q : Int) (K : PV → Prop) (ha : 0 < (cpl a).length) (hab : (cpl a).length ≤ (cpl b).length) (hb : (cpl b).length ≤ 40) (hK : ∀ r, LevOk (D cst (cpl a) (cpl b)) m r → K (.int r)) :
    levB 12 [(Str.ofString "a", .val (.str a)), (Str.ofString "b", .val (.str b)), (Str.ofString "max_cost", .val (.int m)), (Str.ofString "pre", .val (.int p)), (Str.ofString "post", .val (.int q))] K := by
  conv => whnf
  refine Ob.intro (IntMulOk.of_right (by decide)) ?_
  conv => whnf
  refine Br.intro (fun e => ?_) (fun e => ?_)
  · conv => whnf
    refine hK _ (.inr ⟨?_, rfl⟩)
    simp only [decide_eq_true_eq, len_cpl] at e
    have := D_diff cst (cpl a) (cpl b)
    omega
  · conv => whnf
    refine Ob.intro (IntMulOk.of_left (by decide)) ?_
    conv => whnf
    refine Ob.intro (by decide) ?_
    conv => whnf
    rw [len_cpl a]
    refine Ob.intro ⟨small_of (by decide) (by omega) (by decide) (by rw [row_size]; omega), by rw [row_size]; omega, by rw [row_size]; have := sizeLine_eq; omega⟩ ?_
    rw [row_items]
    conv => whnf
    rw [len_cpl b]
    refine Ob.intro ⟨small_of (by decide) (by omega) (by decide) (by rw [count_size]; omega), by rw [count_size]; omega, by rw [count_size]; have := sizeLine_eq; omega⟩ ?_
    rw [count_items]
    conv => whnf
    have hA40 : (cpl a).length ≤ 40 := by omega
    have hP : ∀ i j, Pij cst (cpl a) (cpl b) i j ≤ 200 := fun i j => by
      have h1 := D_le cst ((cpl a).take i) ((cpl b).take j)
      have h2 := List.length_take_le i (cpl a)
      have h3 := List.length_take_le j (cpl b)
      have h4 : ((cpl a).take i).length ≤ (cpl a).length := by simp; omega
      have h5 : ((cpl b).take j).length ≤ (cpl b).length := by simp; omega
      unfold Pij
      omega
    refine for_of (In a b m p q) ⟨0, fun h => absurd rfl h, .inl ?_⟩ (fun j pv σ hj hI X hX => ?_) (fun σ hI => ?_)
    · unfold s7
      have : rowAt (cpl a) (cpl b) 0 0 = (List.range (cpl a).length).map fun i : Nat => PV.int (2 * ((i : Int) + 1)) := by
        unfold rowAt
        refine List.map_congr_left fun t ht => ?_
        have := List.mem_range.mp ht
        rw [if_neg (by omega), Pij_0' cst _ _ (by omega)]
        congr 1
      rw [this]
      rfl
    · have hjb : j < (cpl b).length := by
        have := (List.getElem?_eq_some_iff.mp hj).1
        simpa using this
      have hpv : pv = .int j := by
        rw [List.getElem?_map, List.getElem?_range hjb] at hj
        simpa using hj.symm
      subst hpv
      obtain ⟨bc, hbc⟩ : ∃ c, (cpl b)[j]? = some c := ⟨_, List.getElem?_eq_getElem hjb⟩
      obtain ⟨res, hres, rfl | ⟨bi0, bc0, di0, mi0, ix0, su0, ins0, rfl⟩⟩ := hI
      · unfold s7
        conv => whnf
        refine Ex.intro bc (item_nat hbc) ?_
        conv => whnf
        refine Ob.intro (IntMulOk.of_right (by decide)) ?_
        conv => whnf
        rw [len_cpl a]
        refine Ob.intro ⟨small_of (by decide) (by omega) (by decide) (by rw [count_size]; omega), by rw [count_size]; omega, by rw [count_size]; have := sizeLine_eq; omega⟩ ?_
        rw [count_items]
        conv => whnf
        refine for_of (Jn a b m p q j) ⟨bc, 2 * j, 9223372036854775807, hbc, by simp, fun t ht => absurd ht (Nat.not_lt_zero t), ?_⟩ (fun i pw σ hi hJ Z hZ => ?_) (fun σ hJ => ?_)
        · rw [Pij_0 cst _ _ (by omega)]
          have e2 : ((2 * j : Nat) : Int) = (j : Int) * 2 := by omega
          rw [e2]
          exact .inl ⟨rfl, rfl⟩
        · have hia : i < (cpl a).length := by
            have := (List.getElem?_eq_some_iff.mp hi).1
            simpa using this
          have hpw : pw = .int i := by
            rw [List.getElem?_map, List.getElem?_range hia] at hi
            simpa using hi.symm
          subst hpw
          obtain ⟨ai, hai⟩ : ∃ c, (cpl a)[i]? = some c := ⟨_, List.getElem?_eq_getElem hia⟩
          obtain ⟨bc1, r1, mi1, hbc1, hr1, hmi1, ⟨_, rfl⟩ | ⟨ix1, su1, ins1, rfl⟩⟩ := hJ
          · unfold s11
            conv => whnf
            refine Ex.intro ai (item_nat hai) ?_
            conv => whnf
            refine ⟨⟨one_low _, one_low _⟩, ?_⟩
            conv => whnf
            refine Ex.intro _ (rowAt_item hia) ?_
            conv => whnf
            refine Ob.intro ⟨by omega, by simp [rowAt]; omega⟩ ?_
            rw [step_val hai hbc1 hr1, Int.toNat_natCast, rowAt_set hia]
            conv => whnf
            refine Br.intro (fun em => ?_) (fun em => ?_)
            · conv => whnf
              refine hZ _ ⟨bc1, _, (Pij cst (cpl a) (cpl b) (i + 1) (j + 1) : Nat), hbc1, by simp, fun t ht => ?_, .inr ⟨_, _, _, rfl⟩⟩
              simp only [decide_eq_true_eq] at em
              by_cases hti : t = i
              · subst hti; omega
              · have := hmi1 t (by omega); omega
            · conv => whnf
              refine hZ _ ⟨bc1, _, mi1, hbc1, by simp, fun t ht => ?_, .inr ⟨_, _, _, rfl⟩⟩
              simp only [decide_eq_false_iff_not] at em
              by_cases hti : t = i
              · subst hti; omega
              · have := hmi1 t (by omega); omega
          · unfold s14
            conv => whnf
            refine Ex.intro ai (item_nat hai) ?_
            conv => whnf
            refine ⟨⟨one_low _, one_low _⟩, ?_⟩
            conv => whnf
            refine Ex.intro _ (rowAt_item hia) ?_
            conv => whnf
            refine Ob.intro ⟨by omega, by simp [rowAt]; omega⟩ ?_
            rw [step_val hai hbc1 hr1, Int.toNat_natCast, rowAt_set hia]
            conv => whnf
            refine Br.intro (fun em => ?_) (fun em => ?_)
            · conv => whnf
              refine hZ _ ⟨bc1, _, (Pij cst (cpl a) (cpl b) (i + 1) (j + 1) : Nat), hbc1, by simp, fun t ht => ?_, .inr ⟨_, _, _, rfl⟩⟩
              simp only [decide_eq_true_eq] at em
              by_cases hti : t = i
              · subst hti; omega
              · have := hmi1 t (by omega); omega
            · conv => whnf
              refine hZ _ ⟨bc1, _, mi1, hbc1, by simp, fun t ht => ?_, .inr ⟨_, _, _, rfl⟩⟩
              simp only [decide_eq_false_iff_not] at em
              by_cases hti : t = i
              · subst hti; omega
              · have := hmi1 t (by omega); omega
        · simp only [List.length_map, List.length_range] at hJ
          obtain ⟨bc1, r1, mi1, hbc1, hr1, hmi1, ⟨h0, _⟩ | ⟨ix1, su1, ins1, rfl⟩⟩ := hJ
          · omega
          · rw [if_neg (by omega)] at hr1
            unfold s14
            conv => whnf
            refine Br.intro (fun em => ?_) (fun em => ?_)
            · conv => whnf
              refine hK _ (.inr ⟨?_, rfl⟩)
              simp only [decide_eq_true_eq] at em
              have rb := row_bound cst cst_le (cpl a) (cpl b) (m := (m + 1).toNat) (j := j + 1) (by omega) (fun t ht => ?_) ((cpl b).length - (j + 1)) (by omega) (cpl a).length (Nat.le_refl _)
              · rw [show j + 1 + ((cpl b).length - (j + 1)) = (cpl b).length by omega, Pij_all] at rb
                omega
              · cases t with
                | zero =>
                  have h1 := hmi1 0 (by omega)
                  have h2 := Pij_succ cst (cpl a) (cpl b) (i := 0) (j := j) ha hjb
                  have h3 := cst_le (cpl a)[0] (cpl b)[j]
                  rw [Pij_0 cst _ _ (by omega)] at h2 ⊢
                  omega
                | succ t =>
                  have h1 := hmi1 t (by omega)
                  omega
            · conv => whnf
              refine hX _ ⟨r1, fun _ => hr1, .inr ⟨(j : Int), ⟨#[bc1]⟩, (Pij cst (cpl a) (cpl b) (cpl a).length j : Nat), mi1, ix1, su1, ins1, ?_⟩⟩
              rw [← rowAt_next]
              rfl
      · unfold s14
        conv => whnf
        refine Ex.intro bc (item_nat hbc) ?_
        conv => whnf
        refine Ob.intro (IntMulOk.of_right (by decide)) ?_
        conv => whnf
        rw [len_cpl a]
        refine Ob.intro ⟨small_of (by decide) (by omega) (by decide) (by rw [count_size]; omega), by rw [count_size]; omega, by rw [count_size]; have := sizeLine_eq; omega⟩ ?_
        rw [count_items]
        conv => whnf
        refine for_of (Jn a b m p q j) ⟨bc, 2 * j, 9223372036854775807, hbc, by simp, fun t ht => absurd ht (Nat.not_lt_zero t), ?_⟩ (fun i pw σ hi hJ Z hZ => ?_) (fun σ hJ => ?_)
        · rw [Pij_0 cst _ _ (by omega)]
          have e2 : ((2 * j : Nat) : Int) = (j : Int) * 2 := by omega
          rw [e2]
          exact .inr ⟨ix0, su0, ins0, rfl⟩
        · have hia : i < (cpl a).length := by
            have := (List.getElem?_eq_some_iff.mp hi).1
            simpa using this
          have hpw : pw = .int i := by
            rw [List.getElem?_map, List.getElem?_range hia] at hi
            simpa using hi.symm
          subst hpw
          obtain ⟨ai, hai⟩ : ∃ c, (cpl a)[i]? = some c := ⟨_, List.getElem?_eq_getElem hia⟩
          obtain ⟨bc1, r1, mi1, hbc1, hr1, hmi1, ⟨_, rfl⟩ | ⟨ix1, su1, ins1, rfl⟩⟩ := hJ
          · unfold s11
            conv => whnf
            refine Ex.intro ai (item_nat hai) ?_
            conv => whnf
            refine ⟨⟨one_low _, one_low _⟩, ?_⟩
            conv => whnf
            refine Ex.intro _ (rowAt_item hia) ?_
            conv => whnf
            refine Ob.intro ⟨by omega, by simp [rowAt]; omega⟩ ?_
            rw [step_val hai hbc1 hr1, Int.toNat_natCast, rowAt_set hia]
            conv => whnf
            refine Br.intro (fun em => ?_) (fun em => ?_)
            · conv => whnf
              refine hZ _ ⟨bc1, _, (Pij cst (cpl a) (cpl b) (i + 1) (j + 1) : Nat), hbc1, by simp, fun t ht => ?_, .inr ⟨_, _, _, rfl⟩⟩
              simp only [decide_eq_true_eq] at em
              by_cases hti : t = i
              · subst hti; omega
              · have := hmi1 t (by omega); omega
            · conv => whnf
              refine hZ _ ⟨bc1, _, mi1, hbc1, by simp, fun t ht => ?_, .inr ⟨_, _, _, rfl⟩⟩
              simp only [decide_eq_false_iff_not] at em
              by_cases hti : t = i
              · subst hti; omega
              · have := hmi1 t (by omega); omega
          · unfold s14
            conv => whnf
            refine Ex.intro ai (item_nat hai) ?_
            conv => whnf
            refine ⟨⟨one_low _, one_low _⟩, ?_⟩
            conv => whnf
            refine Ex.intro _ (rowAt_item hia) ?_
            conv => whnf
            refine Ob.intro ⟨by omega, by simp [rowAt]; omega⟩ ?_
            rw [step_val hai hbc1 hr1, Int.toNat_natCast, rowAt_set hia]
            conv => whnf
            refine Br.intro (fun em => ?_) (fun em => ?_)
            · conv => whnf
              refine hZ _ ⟨bc1, _, (Pij cst (cpl a) (cpl b) (i + 1) (j + 1) : Nat), hbc1, by simp, fun t ht => ?_, .inr ⟨_, _, _, rfl⟩⟩
              simp only [decide_eq_true_eq] at em
              by_cases hti : t = i
              · subst hti; omega
              · have := hmi1 t (by omega); omega
            · conv => whnf
              refine hZ _ ⟨bc1, _, mi1, hbc1, by simp, fun t ht => ?_, .inr ⟨_, _, _, rfl⟩⟩
              simp only [decide_eq_false_iff_not] at em
              by_cases hti : t = i
              · subst hti; omega
              · have := hmi1 t (by omega); omega
        · simp only [List.length_map, List.length_range] at hJ
          obtain ⟨bc1, r1, mi1, hbc1, hr1, hmi1, ⟨h0, _⟩ | ⟨ix1, su1, ins1, rfl⟩⟩ := hJ
          · omega
          · rw [if_neg (by omega)] at hr1
            unfold s14
            conv => whnf
            refine Br.intro (fun em => ?_) (fun em => ?_)
            · conv => whnf
              refine hK _ (.inr ⟨?_, rfl⟩)
              simp only [decide_eq_true_eq] at em
              have rb := row_bound cst cst_le (cpl a) (cpl b) (m := (m + 1).toNat) (j := j + 1) (by omega) (fun t ht => ?_) ((cpl b).length - (j + 1)) (by omega) (cpl a).length (Nat.le_refl _)
              · rw [show j + 1 + ((cpl b).length - (j + 1)) = (cpl b).length by omega, Pij_all] at rb
                omega
              · cases t with
                | zero =>
                  have h1 := hmi1 0 (by omega)
                  have h2 := Pij_succ cst (cpl a) (cpl b) (i := 0) (j := j) ha hjb
                  have h3 := cst_le (cpl a)[0] (cpl b)[j]
                  rw [Pij_0 cst _ _ (by omega)] at h2 ⊢
                  omega
                | succ t =>
                  have h1 := hmi1 t (by omega)
                  omega
            · conv => whnf
              refine hX _ ⟨r1, fun _ => hr1, .inr ⟨(j : Int), ⟨#[bc1]⟩, (Pij cst (cpl a) (cpl b) (cpl a).length j : Nat), mi1, ix1, su1, ins1, ?_⟩⟩
              rw [← rowAt_next]
              rfl
    · obtain ⟨res, hres, hs⟩ := hI
      simp only [List.length_map, List.length_range] at hres hs
      have hr := hres (by omega)
      rw [Pij_all] at hr
      rcases hs with rfl | ⟨bi0, bc0, di0, mi0, ix0, su0, ins0, rfl⟩
      · unfold s7
        conv => whnf
        exact hK _ (.inl (by rw [hr]))
      · unfold s14
        conv => whnf
        exact hK _ (.inl (by rw [hr]))
theorem lev_9 (a b : Str) (m p q : Int) (K : PV → Prop) (ha : (cpl a).length ≤ 1000) (hb : (cpl b).length ≤ 1000) (hf : cpl a = [] ∨ cpl b = [] ∨ ((cpl a).length ≤ 40 ∧ (cpl b).length ≤ 40)) (hK : ∀ r, LevOk (D cst (cpl a) (cpl b)) m r → K (.int r)) :
    levB 9 [(Str.ofString "a", .val (.str a)), (Str.ofString "b", .val (.str b)), (Str.ofString "max_cost", .val (.int m)), (Str.ofString "pre", .val (.int p)), (Str.ofString "post", .val (.int q))] K := by
  have hna : ∀ x : Str, (!(x.length != 0)) = true → cpl x = [] := fun x e => by rw [len_cpl] at e; simpa using e
  have hnf : ∀ x : Str, (!(x.length != 0)) = false → 0 < (cpl x).length := fun x e => by rw [len_cpl] at e; simp at e; exact List.length_pos_iff.mpr e
  conv => whnf
  refine Br.intro (fun e => ?_) (fun e1 => ?_)
  · have e := hna _ e
    conv => whnf
    refine Br.tt ?_
    conv => whnf
    refine Ob.intro (IntMulOk.of_left (by decide)) ?_
    conv => whnf
    refine hK _ (.inl ?_)
    rw [e, D_nil, len_cpl, len_cpl, e]; simp
  · conv => whnf
    refine Br.intro (fun e => ?_) (fun e2 => ?_)
    · have e := hna _ e
      conv => whnf
      refine Br.tt ?_
      conv => whnf
      refine Ob.intro (IntMulOk.of_left (by decide)) ?_
      conv => whnf
      refine hK _ (.inl ?_)
      rw [e, D_nil', len_cpl, len_cpl, e]; simp
    · have e1 := hnf _ e1
      have e2 := hnf _ e2
      have hf : (cpl a).length ≤ 40 ∧ (cpl b).length ≤ 40 := by
        rcases hf with h | h | h
        · rw [h] at e1; simp at e1
        · rw [h] at e2; simp at e2
        · exact h
      conv => whnf
      refine Br.ff ?_
      conv => whnf
      refine Br.intro (fun e => by rw [len_cpl] at e; simp at e; omega) (fun _ => ?_)
      conv => whnf
      refine Br.intro (fun e => by rw [len_cpl] at e; simp at e; omega) (fun _ => ?_)
      conv => whnf
      refine Br.ff ?_
      conv => whnf
      refine Br.intro (fun e => ?_) (fun e => ?_)
      · simp only [decide_eq_true_eq, len_cpl] at e
        have h := lev_12 b a m p q K e2 (by omega) hf.1 fun r hr => hK r (by rw [D_symm cst cst_symm]; exact hr)
        conv at h => whnf
        have es : set (set [(Str.ofString "a", LV.val (.str a)), (Str.ofString "b", .val (.str b)), (Str.ofString "max_cost", .val (.int m)), (Str.ofString "pre", .val (.int p)), (Str.ofString "post", .val (.int q))] (Str.ofString "b") (.val (.str a))) (Str.ofString "a") (.val (.str b)) =
            [(Str.ofString "a", .val (.str b)), (Str.ofString "b", .val (.str a)), (Str.ofString "max_cost", .val (.int m)), (Str.ofString "pre", .val (.int p)), (Str.ofString "post", .val (.int q))] := rfl
        conv => whnf
        rw [es]
        exact h
      · simp only [decide_eq_false_iff_not, len_cpl] at e
        have h := lev_12 a b m p q K e1 (by omega) hf.2 hK
        conv at h => whnf
        conv => whnf
        exact h
theorem lev_body (a b : Str) (m : Int) (K : PV → Prop) (ha : a.length ≤ 1000) (hb : b.length ≤ 1000) (hf : levFits (cpl a) (cpl b)) (hK : ∀ r, LevOk (D cst (cpl a) (cpl b)) m r → K (.int r)) :
    BW G1 [Str.ofString "row"] 10 6 (drOf pr 4).scope.names (drOf pr 4).body (startσ [Str.ofString "a", Str.ofString "b", Str.ofString "max_cost"] [.str a, .str b, .int m]) (retK K) := by
  conv => whnf
  refine Br.intro (fun h => ?_) (fun h => ?_)
  · conv => whnf
    refine hK _ (.inl ?_)
    have := eq_of_beq h
    subst this
    have := D_prefix cst cst_same [] [] (cpl a)
    rw [List.append_nil] at this
    rw [this, D_nil]; rfl
  · conv => whnf
    have hl := lcp_le (cpl a) (cpl b)
    refine fuel_by (fun k => [(Str.ofString "a", .val (.str a)), (Str.ofString "b", .val (.str b)), (Str.ofString "max_cost", .val (.int m)), (Str.ofString "pre", .val (.int k))]) (lcp (cpl a) (cpl b)) rfl (fun k hk Y hY => ?_) (fun k hk X hX => ?_) (fun Y hY => ?_) ?_
    · obtain ⟨c, hca, hcb⟩ := lcp_same _ _ _ hk
      conv => whnf
      refine Ex.intro _ rfl ?_
      conv => whnf
      refine Br.intro (fun _ => ?_) (fun e => by rw [slice_len] at e; simp at e; omega)
      conv => whnf
      refine Ex.intro _ rfl ?_
      conv => whnf
      refine Br.intro (fun _ => ?_) (fun e => by rw [slice_len] at e; simp at e; omega)
      conv => whnf
      refine Ex.intro c (item_nat hca) ?_
      conv => whnf
      refine Ex.intro c (item_nat hcb) ?_
      conv => whnf
      refine Br.intro (fun _ => ?_) (fun e => by simp at e)
      conv => whnf
      exact hY
    · conv => whnf
      exact hX
    · conv => whnf
      refine Ex.intro _ rfl ?_
      conv => whnf
      refine Br.intro (fun q1 => ?_) (fun _ => ?_)
      · conv => whnf
        refine Ex.intro _ rfl ?_
        conv => whnf
        refine Br.intro (fun q2 => ?_) (fun _ => ?_)
        · rw [slice_len] at q1 q2
          simp at q1 q2
          rcases lcp_stop (cpl a) (cpl b) with e | e | ⟨x, y, hx, hy, hxy⟩
          · omega
          · omega
          · conv => whnf
            refine Ex.intro x (item_nat hx) ?_
            conv => whnf
            refine Ex.intro y (item_nat hy) ?_
            conv => whnf
            refine Br.intro (fun e => by simp at e; exact absurd e hxy) (fun _ => ?_)
            conv => whnf
            exact hY
        · conv => whnf
          exact hY
      · conv => whnf
        exact hY
    · conv => whnf
      refine Ex.intro _ rfl ?_
      conv => whnf
      refine Ex.intro _ rfl ?_
      conv => whnf
      generalize ea1 : Txt.slice a (some ((lcp (cpl a) (cpl b) : Nat) : Int)) none = a1
      generalize eb1 : Txt.slice b (some ((lcp (cpl a) (cpl b) : Nat) : Int)) none = b1
      have ca1 : cpl a1 = (cpl a).drop (lcp (cpl a) (cpl b)) := by rw [← ea1, slice_from (by omega)]; rfl
      have cb1 : cpl b1 = (cpl b).drop (lcp (cpl a) (cpl b)) := by rw [← eb1, slice_from (by omega)]; rfl
      generalize hN : lcp (cpl a) (cpl b) = N at *
      have hl2 := lcp_le (cpl a1).reverse (cpl b1).reverse
      simp only [List.length_reverse] at hl2
      refine fuel_by (fun k => [(Str.ofString "a", .val (.str a1)), (Str.ofString "b", .val (.str b1)), (Str.ofString "max_cost", .val (.int m)), (Str.ofString "pre", .val (.int N)), (Str.ofString "post", .val (.int (-(k : Int))))]) (lcp (cpl a1).reverse (cpl b1).reverse) rfl (fun k hk Y hY => ?_) (fun k hk X hX => ?_) (fun Y hY => ?_) ?_
      · obtain ⟨c, hca, hcb⟩ := lcp_same _ _ _ hk
        cases k with
        | zero =>
          conv => whnf
          refine Br.ff ?_
          conv => whnf
          refine Ex.intro _ rfl ?_
          conv => whnf
          refine Br.intro (fun _ => ?_) (fun e => by rw [slice_all, len_cpl] at e; simp at e; simp [e] at hk hca)
          conv => whnf
          refine Br.ff ?_
          conv => whnf
          refine Ex.intro _ rfl ?_
          conv => whnf
          refine Br.intro (fun _ => ?_) (fun e => by rw [slice_all, len_cpl] at e; simp at e; simp [e] at hk hcb)
          conv => whnf
          refine Ex.intro c (item_neg hca) ?_
          conv => whnf
          refine Ex.intro c (item_neg hcb) ?_
          conv => whnf
          refine Br.intro (fun _ => ?_) (fun e => by simp at e)
          conv => whnf
          exact hY
        | succ k =>
          conv => whnf
          refine Br.tt ?_
          conv => whnf
          refine Ex.intro _ rfl ?_
          conv => whnf
          refine Br.intro (fun _ => ?_) (fun e => by have e := slice_neg0 e; omega)
          conv => whnf
          refine Br.tt ?_
          conv => whnf
          refine Ex.intro _ rfl ?_
          conv => whnf
          refine Br.intro (fun _ => ?_) (fun e => by have e := slice_neg0 e; omega)
          conv => whnf
          refine Ex.intro c (item_neg hca) ?_
          conv => whnf
          refine Ex.intro c (item_neg hcb) ?_
          conv => whnf
          refine Br.intro (fun _ => ?_) (fun e => by simp at e)
          conv => whnf
          exact hY
      · have e : -((k + 1 : Nat) : Int) = -(k : Int) - 1 := by omega
        simp only [e] at hX
        conv => whnf
        exact hX
      · generalize hM : lcp (cpl a1).reverse (cpl b1).reverse = M at *
        have stop := lcp_stop (cpl a1).reverse (cpl b1).reverse
        rw [hM] at stop
        simp only [List.length_reverse] at stop
        cases M with
        | zero =>
          conv => whnf
          refine Br.ff ?_
          conv => whnf
          refine Ex.intro _ rfl ?_
          conv => whnf
          refine Br.intro (fun q1 => ?_) (fun _ => ?_)
          · conv => whnf
            refine Br.ff ?_
            conv => whnf
            refine Ex.intro _ rfl ?_
            conv => whnf
            refine Br.intro (fun q2 => ?_) (fun _ => ?_)
            · rcases stop with e | e | ⟨x, y, hx, hy, hxy⟩
              · exact absurd q1 (by rw [slice_all, len_cpl, ← e]; simp)
              · exact absurd q2 (by rw [slice_all, len_cpl, ← e]; simp)
              · conv => whnf
                refine Ex.intro x (item_neg hx) ?_
                conv => whnf
                refine Ex.intro y (item_neg hy) ?_
                conv => whnf
                refine Br.intro (fun e => by simp at e; exact absurd e hxy) (fun _ => ?_)
                conv => whnf
                exact hY
            · conv => whnf
              exact hY
          · conv => whnf
            exact hY
        | succ M =>
          conv => whnf
          refine Br.tt ?_
          conv => whnf
          refine Ex.intro _ rfl ?_
          conv => whnf
          refine Br.intro (fun q1 => ?_) (fun _ => ?_)
          · conv => whnf
            refine Br.tt ?_
            conv => whnf
            refine Ex.intro _ rfl ?_
            conv => whnf
            refine Br.intro (fun q2 => ?_) (fun _ => ?_)
            · rcases stop with e | e | ⟨x, y, hx, hy, hxy⟩
              · exact absurd q1 (by rw [slice_negl]; simp; omega)
              · exact absurd q2 (by rw [slice_negl]; simp; omega)
              · conv => whnf
                refine Ex.intro x (item_neg hx) ?_
                conv => whnf
                refine Ex.intro y (item_neg hy) ?_
                conv => whnf
                refine Br.intro (fun e => by simp at e; exact absurd e hxy) (fun _ => ?_)
                conv => whnf
                exact hY
            · conv => whnf
              exact hY
          · conv => whnf
            exact hY
      · generalize hM : lcp (cpl a1).reverse (cpl b1).reverse = M at *
        have h1000 : (cpl a1).length ≤ 1000 ∧ (cpl b1).length ≤ 1000 := by
          rw [len_cpl] at ha hb
          rw [ca1, cb1]; simp; omega
        have hst : strip (cpl a) (cpl b) = ((cpl a1).take ((cpl a1).length - M), (cpl b1).take ((cpl b1).length - M)) := by
          unfold strip
          simp only [hN, ← ca1, ← cb1, hM]
        have hfin : ∀ a2 b2 : Str, cpl a2 = (cpl a1).take ((cpl a1).length - M) → cpl b2 = (cpl b1).take ((cpl b1).length - M) →
            levB 9 [(Str.ofString "a", .val (.str a2)), (Str.ofString "b", .val (.str b2)), (Str.ofString "max_cost", .val (.int m)), (Str.ofString "pre", .val (.int N)), (Str.ofString "post", .val (.int (-(M : Int))))] K := by
          intro a2 b2 h1 h2
          have hd := D_strip cst cst_same (cpl a) (cpl b)
          rw [hst, ← h1, ← h2] at hd
          refine lev_9 a2 b2 m N (-(M : Int)) K (by rw [h1]; simp; omega) (by rw [h2]; simp; omega) ?_ ?_
          · unfold levFits at hf
            rw [hst] at hf
            simpa only [h1, h2] using hf
          · intro r hr
            rw [hd] at hr
            exact hK r hr
        cases M with
        | zero =>
          conv => whnf
          refine Br.ff ?_
          conv => whnf
          refine Ex.intro _ rfl ?_
          conv => whnf
          refine Br.ff ?_
          conv => whnf
          refine Ex.intro _ rfl ?_
          exact hfin _ _ (by rw [slice_all]; simp) (by rw [slice_all]; simp)
        | succ M =>
          conv => whnf
          refine Br.tt ?_
          conv => whnf
          refine Ex.intro _ rfl ?_
          conv => whnf
          refine Br.tt ?_
          conv => whnf
          refine Ex.intro _ rfl ?_
          exact hfin _ _ (slice_to_neg (by omega)) (slice_to_neg (by omega))

theorem lev_ok {W : Wd} (h : Is W) : CallOK W 2 (Str.ofString "_levenshtein_distance") levSpec := by
  refine callOK (names := [Str.ofString "a", Str.ofString "b", Str.ofString "max_cost"]) (rec_mem h (i := 4) (x := Str.ofString "_levenshtein_distance") (by rfl)) (by rfl) (by decide +kernel)
    (fun vs pm cd doc hl => ?_) (BW_ok (gok1 h) rfl 10 6 (mu := [Str.ofString "row"])) fun ps K hs => ?_
  · obtain ⟨a, b, c, rfl⟩ := len3 hl
    rfl
  · rcases ps with _ | ⟨p0, r0⟩
    · exact False.elim hs
    have hsa := hs
    obtain ⟨a, rfl, hsb⟩ := asS.inv hsa
    rcases r0 with _ | ⟨p1, r1⟩
    · exact False.elim hsb
    have hsba := hsb
    obtain ⟨b, rfl, hsbb⟩ := asS.inv hsba
    obtain ⟨p2, rfl, hsbba⟩ := as1.inv hsbb
    obtain ⟨m, rfl, hsbbb⟩ := asI.inv hsbba
    have hs := hsbbb
    · obtain ⟨⟨h1, h2, h3⟩, hk⟩ := hs
      exact ⟨rfl, lev_body a b m K h1 h2 h3 hk⟩
end Mine
namespace Mine

/-! the five ways of writing -/
noncomputable def signsOf : Nat → List Nat
  | 0 => [38, 60, 62]
  | 1 => [38, 60, 62, 34, 13, 10, 9]
  | 2 => [38, 62, 34]
  | 3 => [38, 60, 62, 13]
  | _ => [38, 60, 34, 13, 10, 9]
noncomputable def nameOf (kind d : Nat) : List Nat :=
  if d = 38 then [97, 109, 112] else if d = 60 then [108, 116] else if d = 62 then [103, 116] else if d = 34 then [113, 117, 111, 116]
  else if d = 13 then (if kind = 1 then [35, 49, 51] else [35, 120, 68]) else if d = 10 then (if kind = 1 then [35, 49, 48] else [35, 120, 65])
  else (if kind = 1 then [35, 48, 57] else [35, 120, 57])
noncomputable def escT (kind d : Nat) : List Nat := if d ∈ signsOf kind then 38 :: nameOf kind d ++ [59] else [d]
noncomputable def escL (kind : Nat) (l : List Nat) : List Nat := l.flatMap (escT kind)
noncomputable def escSpec (kind : Nat) : PSpec := fun ps K => as1 ps fun p0 => asS p0 fun x => 
    (cpl x).length ≤ 1000 ∧ K (.str (mk (escL kind (cpl x))))
theorem Br.rep2 {t c z : Str} {k : Nat} {B1 B2 B : Prop} (hc : c = ⟨#[k]⟩) (h2 : Txt.replace t c z = t → B → B2) (h1 : B → B1) (h : B) : Br (Txt.contains t c) B1 B2 := by
  subst hc
  exact Br.intro (fun _ => h1 h) fun hn => h2 (replace_not hn) h
theorem rp_flat (c : Nat) (z : List Nat) (f : Nat → List Nat) (l : List Nat) : rp c z (l.flatMap f) = l.flatMap fun d => rp c z (f d) := by
  unfold rp; rw [List.flatMap_assoc]
theorem flat_len {f : Nat → List Nat} (h : ∀ d, (f d).length ≤ 6) : ∀ {l : List Nat} {n : Nat}, l.length ≤ n → (l.flatMap f).length ≤ 6 * n
  | [], n, _ => by simp
  | d :: l, n, hl => by
    have h1 := h d
    simp only [List.length_cons] at hl
    have h2 := flat_len h (l := l) (n := n - 1) (by omega)
    rw [List.flatMap_cons, List.length_append]
    omega
theorem flat_congr {f g : Nat → List Nat} (h : ∀ d, f d = g d) {l : List Nat} : l.flatMap f = l.flatMap g := by
  rw [show f = g from funext h]
theorem rep_len {x y : Str} {c : Nat} {z : Str} {n : Nat} (h : cpl y = rp c (cpl z) (cpl x)) (hz : (cpl z).length ≤ 6) (hx : (cpl x).length ≤ n) : (cpl y).length ≤ 6 * n := by
  rw [h]
  have := rp_length hz (c := c) (cpl x)
  omega
theorem rep_ok {x : Str} {c : Nat} {z : Str} {n : Nat} (hn : n ≤ 500000) (hz : (cpl z).length ≤ 6) (hx : (cpl x).length ≤ n) (hne : ((⟨#[c]⟩ : Str) == z) = false) :
    ((⟨#[c]⟩ : Str) == z) = false ∧ x.length + (x.length + 1) * z.length ≤ 16777216 ∧ (Txt.replace x ⟨#[c]⟩ z).length ≤ sizeLine := by
  have h1 := rep_len (x := x) (y := Txt.replace x ⟨#[c]⟩ z) (replace_cpl x z c) hz hx
  have := sizeLine_eq
  rw [len_cpl, len_cpl, len_cpl]
  refine ⟨hne, ?_, by omega⟩
  have : ((cpl x).length + 1) * (cpl z).length ≤ (500000 + 1) * 6 := Nat.mul_le_mul (by omega) hz
  omega

set_option maxHeartbeats 4000000 in
theorem esc0_body (x : Str) (K : PV → Prop) (hx : (cpl x).length ≤ 1000) (hK : K (.str (mk (escL 0 (cpl x))))) :
    BW G0 [] 8 5 (drOf pr 6).scope.names (drOf pr 6).body (startσ [Str.ofString "text"] [.str x]) (retK K) := by
  have l0 : (cpl x).length ≤ 1000 := hx
  have b0 : (cpl x).length ≤ 1000 := hx
  conv => whnf
  refine Br.rep2 (t := x) (c := Str.ofString "&") (z := Str.ofString "&amp;") (k := 38) (by rfl) (fun hn => by rw [← hn]; exact fun hF => hF) (fun hF => ?_) ?_
  · conv => whnf
    refine Ob.intro (rep_ok (n := 1000) (by omega) (by decide +kernel) l0 (by decide +kernel)) ?_
    conv at hF => whnf
    conv => whnf
    exact hF
  have c1 := replace_cpl x (mk [38, 97, 109, 112, 59]) 38
  rw [cpl_mk] at c1
  rw [show Txt.replace x ⟨#[38]⟩ (mk [38, 97, 109, 112, 59]) = Txt.replace x (Str.ofString "&") (Str.ofString "&amp;") from rfl] at c1
  generalize e1 : Txt.replace x (Str.ofString "&") (Str.ofString "&amp;") = x1 at *
  have d1 : cpl x1 = (cpl x).flatMap fun d => if d = 38 then [38, 97, 109, 112, 59] else [d] := c1
  have l1 : (cpl x1).length ≤ 6000 := by
    rw [d1]
    exact flat_len (fun d => by
      by_cases h : d ∈ [38, 60, 62, 34, 13, 10, 9]
      · revert d; decide +kernel
      · simp only [List.mem_cons, List.not_mem_nil, not_or, or_false] at h; simp [rp, h]) hx
  conv => whnf
  refine Br.rep2 (t := x1) (c := Str.ofString "<") (z := Str.ofString "&lt;") (k := 60) (by rfl) (fun hn => by rw [← hn]; exact fun hF => hF) (fun hF => ?_) ?_
  · conv => whnf
    refine Ob.intro (rep_ok (n := 6000) (by omega) (by decide +kernel) l1 (by decide +kernel)) ?_
    conv at hF => whnf
    conv => whnf
    exact hF
  have c2 := replace_cpl x1 (mk [38, 108, 116, 59]) 60
  rw [cpl_mk] at c2
  rw [show Txt.replace x1 ⟨#[60]⟩ (mk [38, 108, 116, 59]) = Txt.replace x1 (Str.ofString "<") (Str.ofString "&lt;") from rfl] at c2
  generalize e2 : Txt.replace x1 (Str.ofString "<") (Str.ofString "&lt;") = x2 at *
  have d2 := c2
  rw [d1, rp_flat] at d2
  have l2 : (cpl x2).length ≤ 6000 := by
    rw [d2]
    exact flat_len (fun d => by
      by_cases h : d ∈ [38, 60, 62, 34, 13, 10, 9]
      · revert d; decide +kernel
      · simp only [List.mem_cons, List.not_mem_nil, not_or, or_false] at h; simp [rp, h]) hx
  conv => whnf
  refine Br.rep2 (t := x2) (c := Str.ofString ">") (z := Str.ofString "&gt;") (k := 62) (by rfl) (fun hn => by rw [← hn]; exact fun hF => hF) (fun hF => ?_) ?_
  · conv => whnf
    refine Ob.intro (rep_ok (n := 6000) (by omega) (by decide +kernel) l2 (by decide +kernel)) ?_
    conv at hF => whnf
    conv => whnf
    exact hF
  have c3 := replace_cpl x2 (mk [38, 103, 116, 59]) 62
  rw [cpl_mk] at c3
  rw [show Txt.replace x2 ⟨#[62]⟩ (mk [38, 103, 116, 59]) = Txt.replace x2 (Str.ofString ">") (Str.ofString "&gt;") from rfl] at c3
  generalize e3 : Txt.replace x2 (Str.ofString ">") (Str.ofString "&gt;") = x3 at *
  have d3 := c3
  rw [d2, rp_flat] at d3
  have l3 : (cpl x3).length ≤ 6000 := by
    rw [d3]
    exact flat_len (fun d => by
      by_cases h : d ∈ [38, 60, 62, 34, 13, 10, 9]
      · revert d; decide +kernel
      · simp only [List.mem_cons, List.not_mem_nil, not_or, or_false] at h; simp [rp, h]) hx
  conv => whnf
  have fin : x3 = mk (escL 0 (cpl x)) := by
    refine cpl_inj ?_
    rw [d3, cpl_mk]
    unfold escL
    refine flat_congr fun d => ?_
    by_cases h : d ∈ [38, 60, 62, 34, 13, 10, 9]
    · revert d; decide +kernel
    · simp only [List.mem_cons, List.not_mem_nil, not_or, or_false] at h
      simp [escT, signsOf, rp, h]
  rw [fin]
  exact hK
theorem esc0_ok {W : Wd} (h : Is W) : CallOK W 1 (Str.ofString "_escape_cdata") (escSpec 0) := by
  refine callOK (names := [Str.ofString "text"]) (rec_mem h (i := 6) (x := Str.ofString "_escape_cdata") (by rfl)) (by rfl) (by decide +kernel)
    (fun vs pm cd doc hl => ?_) (BW_ok (gok0 h 0) rfl 8 5 (mu := [])) fun ps K hs => ?_
  · obtain ⟨a, rfl⟩ := len1 hl
    rfl
  · obtain ⟨p0, rfl, hsa⟩ := as1.inv hs
    obtain ⟨x, rfl, hsb⟩ := asS.inv hsa
    have hs := hsb
    · exact ⟨rfl, esc0_body x K hs.1 hs.2⟩

set_option maxHeartbeats 4000000 in
theorem esc1_body (x : Str) (K : PV → Prop) (hx : (cpl x).length ≤ 1000) (hK : K (.str (mk (escL 1 (cpl x))))) :
    BW G0 [] 8 5 (drOf pr 7).scope.names (drOf pr 7).body (startσ [Str.ofString "text"] [.str x]) (retK K) := by
  have l0 : (cpl x).length ≤ 1000 := hx
  have b0 : (cpl x).length ≤ 1000 := hx
  conv => whnf
  refine Br.rep2 (t := x) (c := Str.ofString "&") (z := Str.ofString "&amp;") (k := 38) (by rfl) (fun hn => by rw [← hn]; exact fun hF => hF) (fun hF => ?_) ?_
  · conv => whnf
    refine Ob.intro (rep_ok (n := 1000) (by omega) (by decide +kernel) l0 (by decide +kernel)) ?_
    conv at hF => whnf
    conv => whnf
    exact hF
  have c1 := replace_cpl x (mk [38, 97, 109, 112, 59]) 38
  rw [cpl_mk] at c1
  rw [show Txt.replace x ⟨#[38]⟩ (mk [38, 97, 109, 112, 59]) = Txt.replace x (Str.ofString "&") (Str.ofString "&amp;") from rfl] at c1
  generalize e1 : Txt.replace x (Str.ofString "&") (Str.ofString "&amp;") = x1 at *
  have d1 : cpl x1 = (cpl x).flatMap fun d => if d = 38 then [38, 97, 109, 112, 59] else [d] := c1
  have l1 : (cpl x1).length ≤ 6000 := by
    rw [d1]
    exact flat_len (fun d => by
      by_cases h : d ∈ [38, 60, 62, 34, 13, 10, 9]
      · revert d; decide +kernel
      · simp only [List.mem_cons, List.not_mem_nil, not_or, or_false] at h; simp [rp, h]) hx
  conv => whnf
  refine Br.rep2 (t := x1) (c := Str.ofString "<") (z := Str.ofString "&lt;") (k := 60) (by rfl) (fun hn => by rw [← hn]; exact fun hF => hF) (fun hF => ?_) ?_
  · conv => whnf
    refine Ob.intro (rep_ok (n := 6000) (by omega) (by decide +kernel) l1 (by decide +kernel)) ?_
    conv at hF => whnf
    conv => whnf
    exact hF
  have c2 := replace_cpl x1 (mk [38, 108, 116, 59]) 60
  rw [cpl_mk] at c2
  rw [show Txt.replace x1 ⟨#[60]⟩ (mk [38, 108, 116, 59]) = Txt.replace x1 (Str.ofString "<") (Str.ofString "&lt;") from rfl] at c2
  generalize e2 : Txt.replace x1 (Str.ofString "<") (Str.ofString "&lt;") = x2 at *
  have d2 := c2
  rw [d1, rp_flat] at d2
  have l2 : (cpl x2).length ≤ 6000 := by
    rw [d2]
    exact flat_len (fun d => by
      by_cases h : d ∈ [38, 60, 62, 34, 13, 10, 9]
      · revert d; decide +kernel
      · simp only [List.mem_cons, List.not_mem_nil, not_or, or_false] at h; simp [rp, h]) hx
  conv => whnf
  refine Br.rep2 (t := x2) (c := Str.ofString ">") (z := Str.ofString "&gt;") (k := 62) (by rfl) (fun hn => by rw [← hn]; exact fun hF => hF) (fun hF => ?_) ?_
  · conv => whnf
    refine Ob.intro (rep_ok (n := 6000) (by omega) (by decide +kernel) l2 (by decide +kernel)) ?_
    conv at hF => whnf
    conv => whnf
    exact hF
  have c3 := replace_cpl x2 (mk [38, 103, 116, 59]) 62
  rw [cpl_mk] at c3
  rw [show Txt.replace x2 ⟨#[62]⟩ (mk [38, 103, 116, 59]) = Txt.replace x2 (Str.ofString ">") (Str.ofString "&gt;") from rfl] at c3
  generalize e3 : Txt.replace x2 (Str.ofString ">") (Str.ofString "&gt;") = x3 at *
  have d3 := c3
  rw [d2, rp_flat] at d3
  have l3 : (cpl x3).length ≤ 6000 := by
    rw [d3]
    exact flat_len (fun d => by
      by_cases h : d ∈ [38, 60, 62, 34, 13, 10, 9]
      · revert d; decide +kernel
      · simp only [List.mem_cons, List.not_mem_nil, not_or, or_false] at h; simp [rp, h]) hx
  conv => whnf
  refine Br.rep2 (t := x3) (c := Str.ofString "\"") (z := Str.ofString "&quot;") (k := 34) (by rfl) (fun hn => by rw [← hn]; exact fun hF => hF) (fun hF => ?_) ?_
  · conv => whnf
    refine Ob.intro (rep_ok (n := 6000) (by omega) (by decide +kernel) l3 (by decide +kernel)) ?_
    conv at hF => whnf
    conv => whnf
    exact hF
  have c4 := replace_cpl x3 (mk [38, 113, 117, 111, 116, 59]) 34
  rw [cpl_mk] at c4
  rw [show Txt.replace x3 ⟨#[34]⟩ (mk [38, 113, 117, 111, 116, 59]) = Txt.replace x3 (Str.ofString "\"") (Str.ofString "&quot;") from rfl] at c4
  generalize e4 : Txt.replace x3 (Str.ofString "\"") (Str.ofString "&quot;") = x4 at *
  have d4 := c4
  rw [d3, rp_flat] at d4
  have l4 : (cpl x4).length ≤ 6000 := by
    rw [d4]
    exact flat_len (fun d => by
      by_cases h : d ∈ [38, 60, 62, 34, 13, 10, 9]
      · revert d; decide +kernel
      · simp only [List.mem_cons, List.not_mem_nil, not_or, or_false] at h; simp [rp, h]) hx
  conv => whnf
  refine Br.rep2 (t := x4) (c := Str.ofString "\r") (z := Str.ofString "&#13;") (k := 13) (by rfl) (fun hn => by rw [← hn]; exact fun hF => hF) (fun hF => ?_) ?_
  · conv => whnf
    refine Ob.intro (rep_ok (n := 6000) (by omega) (by decide +kernel) l4 (by decide +kernel)) ?_
    conv at hF => whnf
    conv => whnf
    exact hF
  have c5 := replace_cpl x4 (mk [38, 35, 49, 51, 59]) 13
  rw [cpl_mk] at c5
  rw [show Txt.replace x4 ⟨#[13]⟩ (mk [38, 35, 49, 51, 59]) = Txt.replace x4 (Str.ofString "\r") (Str.ofString "&#13;") from rfl] at c5
  generalize e5 : Txt.replace x4 (Str.ofString "\r") (Str.ofString "&#13;") = x5 at *
  have d5 := c5
  rw [d4, rp_flat] at d5
  have l5 : (cpl x5).length ≤ 6000 := by
    rw [d5]
    exact flat_len (fun d => by
      by_cases h : d ∈ [38, 60, 62, 34, 13, 10, 9]
      · revert d; decide +kernel
      · simp only [List.mem_cons, List.not_mem_nil, not_or, or_false] at h; simp [rp, h]) hx
  conv => whnf
  refine Br.rep2 (t := x5) (c := Str.ofString "\n") (z := Str.ofString "&#10;") (k := 10) (by rfl) (fun hn => by rw [← hn]; exact fun hF => hF) (fun hF => ?_) ?_
  · conv => whnf
    refine Ob.intro (rep_ok (n := 6000) (by omega) (by decide +kernel) l5 (by decide +kernel)) ?_
    conv at hF => whnf
    conv => whnf
    exact hF
  have c6 := replace_cpl x5 (mk [38, 35, 49, 48, 59]) 10
  rw [cpl_mk] at c6
  rw [show Txt.replace x5 ⟨#[10]⟩ (mk [38, 35, 49, 48, 59]) = Txt.replace x5 (Str.ofString "\n") (Str.ofString "&#10;") from rfl] at c6
  generalize e6 : Txt.replace x5 (Str.ofString "\n") (Str.ofString "&#10;") = x6 at *
  have d6 := c6
  rw [d5, rp_flat] at d6
  have l6 : (cpl x6).length ≤ 6000 := by
    rw [d6]
    exact flat_len (fun d => by
      by_cases h : d ∈ [38, 60, 62, 34, 13, 10, 9]
      · revert d; decide +kernel
      · simp only [List.mem_cons, List.not_mem_nil, not_or, or_false] at h; simp [rp, h]) hx
  conv => whnf
  refine Br.rep2 (t := x6) (c := Str.ofString "\t") (z := Str.ofString "&#09;") (k := 9) (by rfl) (fun hn => by rw [← hn]; exact fun hF => hF) (fun hF => ?_) ?_
  · conv => whnf
    refine Ob.intro (rep_ok (n := 6000) (by omega) (by decide +kernel) l6 (by decide +kernel)) ?_
    conv at hF => whnf
    conv => whnf
    exact hF
  have c7 := replace_cpl x6 (mk [38, 35, 48, 57, 59]) 9
  rw [cpl_mk] at c7
  rw [show Txt.replace x6 ⟨#[9]⟩ (mk [38, 35, 48, 57, 59]) = Txt.replace x6 (Str.ofString "\t") (Str.ofString "&#09;") from rfl] at c7
  generalize e7 : Txt.replace x6 (Str.ofString "\t") (Str.ofString "&#09;") = x7 at *
  have d7 := c7
  rw [d6, rp_flat] at d7
  have l7 : (cpl x7).length ≤ 6000 := by
    rw [d7]
    exact flat_len (fun d => by
      by_cases h : d ∈ [38, 60, 62, 34, 13, 10, 9]
      · revert d; decide +kernel
      · simp only [List.mem_cons, List.not_mem_nil, not_or, or_false] at h; simp [rp, h]) hx
  conv => whnf
  have fin : x7 = mk (escL 1 (cpl x)) := by
    refine cpl_inj ?_
    rw [d7, cpl_mk]
    unfold escL
    refine flat_congr fun d => ?_
    by_cases h : d ∈ [38, 60, 62, 34, 13, 10, 9]
    · revert d; decide +kernel
    · simp only [List.mem_cons, List.not_mem_nil, not_or, or_false] at h
      simp [escT, signsOf, rp, h]
  rw [fin]
  exact hK
theorem esc1_ok {W : Wd} (h : Is W) : CallOK W 1 (Str.ofString "_escape_attrib") (escSpec 1) := by
  refine callOK (names := [Str.ofString "text"]) (rec_mem h (i := 7) (x := Str.ofString "_escape_attrib") (by rfl)) (by rfl) (by decide +kernel)
    (fun vs pm cd doc hl => ?_) (BW_ok (gok0 h 0) rfl 8 5 (mu := [])) fun ps K hs => ?_
  · obtain ⟨a, rfl⟩ := len1 hl
    rfl
  · obtain ⟨p0, rfl, hsa⟩ := as1.inv hs
    obtain ⟨x, rfl, hsb⟩ := asS.inv hsa
    have hs := hsb
    · exact ⟨rfl, esc1_body x K hs.1 hs.2⟩

set_option maxHeartbeats 4000000 in
theorem esc2_body (x : Str) (K : PV → Prop) (hx : (cpl x).length ≤ 1000) (hK : K (.str (mk (escL 2 (cpl x))))) :
    BW G0 [] 8 5 (drOf pr 8).scope.names (drOf pr 8).body (startσ [Str.ofString "text"] [.str x]) (retK K) := by
  have l0 : (cpl x).length ≤ 1000 := hx
  have b0 : (cpl x).length ≤ 1000 := hx
  conv => whnf
  refine Br.rep2 (t := x) (c := Str.ofString "&") (z := Str.ofString "&amp;") (k := 38) (by rfl) (fun hn => by rw [← hn]; exact fun hF => hF) (fun hF => ?_) ?_
  · conv => whnf
    refine Ob.intro (rep_ok (n := 1000) (by omega) (by decide +kernel) l0 (by decide +kernel)) ?_
    conv at hF => whnf
    conv => whnf
    exact hF
  have c1 := replace_cpl x (mk [38, 97, 109, 112, 59]) 38
  rw [cpl_mk] at c1
  rw [show Txt.replace x ⟨#[38]⟩ (mk [38, 97, 109, 112, 59]) = Txt.replace x (Str.ofString "&") (Str.ofString "&amp;") from rfl] at c1
  generalize e1 : Txt.replace x (Str.ofString "&") (Str.ofString "&amp;") = x1 at *
  have d1 : cpl x1 = (cpl x).flatMap fun d => if d = 38 then [38, 97, 109, 112, 59] else [d] := c1
  have l1 : (cpl x1).length ≤ 6000 := by
    rw [d1]
    exact flat_len (fun d => by
      by_cases h : d ∈ [38, 60, 62, 34, 13, 10, 9]
      · revert d; decide +kernel
      · simp only [List.mem_cons, List.not_mem_nil, not_or, or_false] at h; simp [rp, h]) hx
  conv => whnf
  refine Br.rep2 (t := x1) (c := Str.ofString ">") (z := Str.ofString "&gt;") (k := 62) (by rfl) (fun hn => by rw [← hn]; exact fun hF => hF) (fun hF => ?_) ?_
  · conv => whnf
    refine Ob.intro (rep_ok (n := 6000) (by omega) (by decide +kernel) l1 (by decide +kernel)) ?_
    conv at hF => whnf
    conv => whnf
    exact hF
  have c2 := replace_cpl x1 (mk [38, 103, 116, 59]) 62
  rw [cpl_mk] at c2
  rw [show Txt.replace x1 ⟨#[62]⟩ (mk [38, 103, 116, 59]) = Txt.replace x1 (Str.ofString ">") (Str.ofString "&gt;") from rfl] at c2
  generalize e2 : Txt.replace x1 (Str.ofString ">") (Str.ofString "&gt;") = x2 at *
  have d2 := c2
  rw [d1, rp_flat] at d2
  have l2 : (cpl x2).length ≤ 6000 := by
    rw [d2]
    exact flat_len (fun d => by
      by_cases h : d ∈ [38, 60, 62, 34, 13, 10, 9]
      · revert d; decide +kernel
      · simp only [List.mem_cons, List.not_mem_nil, not_or, or_false] at h; simp [rp, h]) hx
  conv => whnf
  refine Br.rep2 (t := x2) (c := Str.ofString "\"") (z := Str.ofString "&quot;") (k := 34) (by rfl) (fun hn => by rw [← hn]; exact fun hF => hF) (fun hF => ?_) ?_
  · conv => whnf
    refine Ob.intro (rep_ok (n := 6000) (by omega) (by decide +kernel) l2 (by decide +kernel)) ?_
    conv at hF => whnf
    conv => whnf
    exact hF
  have c3 := replace_cpl x2 (mk [38, 113, 117, 111, 116, 59]) 34
  rw [cpl_mk] at c3
  rw [show Txt.replace x2 ⟨#[34]⟩ (mk [38, 113, 117, 111, 116, 59]) = Txt.replace x2 (Str.ofString "\"") (Str.ofString "&quot;") from rfl] at c3
  generalize e3 : Txt.replace x2 (Str.ofString "\"") (Str.ofString "&quot;") = x3 at *
  have d3 := c3
  rw [d2, rp_flat] at d3
  have l3 : (cpl x3).length ≤ 6000 := by
    rw [d3]
    exact flat_len (fun d => by
      by_cases h : d ∈ [38, 60, 62, 34, 13, 10, 9]
      · revert d; decide +kernel
      · simp only [List.mem_cons, List.not_mem_nil, not_or, or_false] at h; simp [rp, h]) hx
  conv => whnf
  have fin : x3 = mk (escL 2 (cpl x)) := by
    refine cpl_inj ?_
    rw [d3, cpl_mk]
    unfold escL
    refine flat_congr fun d => ?_
    by_cases h : d ∈ [38, 60, 62, 34, 13, 10, 9]
    · revert d; decide +kernel
    · simp only [List.mem_cons, List.not_mem_nil, not_or, or_false] at h
      simp [escT, signsOf, rp, h]
  rw [fin]
  exact hK
theorem esc2_ok {W : Wd} (h : Is W) : CallOK W 1 (Str.ofString "_escape_attrib_html") (escSpec 2) := by
  refine callOK (names := [Str.ofString "text"]) (rec_mem h (i := 8) (x := Str.ofString "_escape_attrib_html") (by rfl)) (by rfl) (by decide +kernel)
    (fun vs pm cd doc hl => ?_) (BW_ok (gok0 h 0) rfl 8 5 (mu := [])) fun ps K hs => ?_
  · obtain ⟨a, rfl⟩ := len1 hl
    rfl
  · obtain ⟨p0, rfl, hsa⟩ := as1.inv hs
    obtain ⟨x, rfl, hsb⟩ := asS.inv hsa
    have hs := hsb
    · exact ⟨rfl, esc2_body x K hs.1 hs.2⟩

set_option maxHeartbeats 4000000 in
theorem esc3_body (x : Str) (K : PV → Prop) (hx : (cpl x).length ≤ 1000) (hK : K (.str (mk (escL 3 (cpl x))))) :
    BW G0 [] 8 5 (drOf pr 9).scope.names (drOf pr 9).body (startσ [Str.ofString "text"] [.str x]) (retK K) := by
  have l0 : (cpl x).length ≤ 1000 := hx
  have b0 : (cpl x).length ≤ 1000 := hx
  conv => whnf
  refine Br.rep2 (t := x) (c := Str.ofString "&") (z := Str.ofString "&amp;") (k := 38) (by rfl) (fun hn => by rw [← hn]; exact fun hF => hF) (fun hF => ?_) ?_
  · conv => whnf
    refine Ob.intro (rep_ok (n := 1000) (by omega) (by decide +kernel) l0 (by decide +kernel)) ?_
    conv at hF => whnf
    conv => whnf
    exact hF
  have c1 := replace_cpl x (mk [38, 97, 109, 112, 59]) 38
  rw [cpl_mk] at c1
  rw [show Txt.replace x ⟨#[38]⟩ (mk [38, 97, 109, 112, 59]) = Txt.replace x (Str.ofString "&") (Str.ofString "&amp;") from rfl] at c1
  generalize e1 : Txt.replace x (Str.ofString "&") (Str.ofString "&amp;") = x1 at *
  have d1 : cpl x1 = (cpl x).flatMap fun d => if d = 38 then [38, 97, 109, 112, 59] else [d] := c1
  have l1 : (cpl x1).length ≤ 6000 := by
    rw [d1]
    exact flat_len (fun d => by
      by_cases h : d ∈ [38, 60, 62, 34, 13, 10, 9]
      · revert d; decide +kernel
      · simp only [List.mem_cons, List.not_mem_nil, not_or, or_false] at h; simp [rp, h]) hx
  conv => whnf
  refine Br.rep2 (t := x1) (c := Str.ofString "<") (z := Str.ofString "&lt;") (k := 60) (by rfl) (fun hn => by rw [← hn]; exact fun hF => hF) (fun hF => ?_) ?_
  · conv => whnf
    refine Ob.intro (rep_ok (n := 6000) (by omega) (by decide +kernel) l1 (by decide +kernel)) ?_
    conv at hF => whnf
    conv => whnf
    exact hF
  have c2 := replace_cpl x1 (mk [38, 108, 116, 59]) 60
  rw [cpl_mk] at c2
  rw [show Txt.replace x1 ⟨#[60]⟩ (mk [38, 108, 116, 59]) = Txt.replace x1 (Str.ofString "<") (Str.ofString "&lt;") from rfl] at c2
  generalize e2 : Txt.replace x1 (Str.ofString "<") (Str.ofString "&lt;") = x2 at *
  have d2 := c2
  rw [d1, rp_flat] at d2
  have l2 : (cpl x2).length ≤ 6000 := by
    rw [d2]
    exact flat_len (fun d => by
      by_cases h : d ∈ [38, 60, 62, 34, 13, 10, 9]
      · revert d; decide +kernel
      · simp only [List.mem_cons, List.not_mem_nil, not_or, or_false] at h; simp [rp, h]) hx
  conv => whnf
  refine Br.rep2 (t := x2) (c := Str.ofString ">") (z := Str.ofString "&gt;") (k := 62) (by rfl) (fun hn => by rw [← hn]; exact fun hF => hF) (fun hF => ?_) ?_
  · conv => whnf
    refine Ob.intro (rep_ok (n := 6000) (by omega) (by decide +kernel) l2 (by decide +kernel)) ?_
    conv at hF => whnf
    conv => whnf
    exact hF
  have c3 := replace_cpl x2 (mk [38, 103, 116, 59]) 62
  rw [cpl_mk] at c3
  rw [show Txt.replace x2 ⟨#[62]⟩ (mk [38, 103, 116, 59]) = Txt.replace x2 (Str.ofString ">") (Str.ofString "&gt;") from rfl] at c3
  generalize e3 : Txt.replace x2 (Str.ofString ">") (Str.ofString "&gt;") = x3 at *
  have d3 := c3
  rw [d2, rp_flat] at d3
  have l3 : (cpl x3).length ≤ 6000 := by
    rw [d3]
    exact flat_len (fun d => by
      by_cases h : d ∈ [38, 60, 62, 34, 13, 10, 9]
      · revert d; decide +kernel
      · simp only [List.mem_cons, List.not_mem_nil, not_or, or_false] at h; simp [rp, h]) hx
  conv => whnf
  refine Br.rep2 (t := x3) (c := Str.ofString "\r") (z := Str.ofString "&#xD;") (k := 13) (by rfl) (fun hn => by rw [← hn]; exact fun hF => hF) (fun hF => ?_) ?_
  · conv => whnf
    refine Ob.intro (rep_ok (n := 6000) (by omega) (by decide +kernel) l3 (by decide +kernel)) ?_
    conv at hF => whnf
    conv => whnf
    exact hF
  have c4 := replace_cpl x3 (mk [38, 35, 120, 68, 59]) 13
  rw [cpl_mk] at c4
  rw [show Txt.replace x3 ⟨#[13]⟩ (mk [38, 35, 120, 68, 59]) = Txt.replace x3 (Str.ofString "\r") (Str.ofString "&#xD;") from rfl] at c4
  generalize e4 : Txt.replace x3 (Str.ofString "\r") (Str.ofString "&#xD;") = x4 at *
  have d4 := c4
  rw [d3, rp_flat] at d4
  have l4 : (cpl x4).length ≤ 6000 := by
    rw [d4]
    exact flat_len (fun d => by
      by_cases h : d ∈ [38, 60, 62, 34, 13, 10, 9]
      · revert d; decide +kernel
      · simp only [List.mem_cons, List.not_mem_nil, not_or, or_false] at h; simp [rp, h]) hx
  conv => whnf
  have fin : x4 = mk (escL 3 (cpl x)) := by
    refine cpl_inj ?_
    rw [d4, cpl_mk]
    unfold escL
    refine flat_congr fun d => ?_
    by_cases h : d ∈ [38, 60, 62, 34, 13, 10, 9]
    · revert d; decide +kernel
    · simp only [List.mem_cons, List.not_mem_nil, not_or, or_false] at h
      simp [escT, signsOf, rp, h]
  rw [fin]
  exact hK
theorem esc3_ok {W : Wd} (h : Is W) : CallOK W 1 (Str.ofString "_escape_cdata_c14n") (escSpec 3) := by
  refine callOK (names := [Str.ofString "text"]) (rec_mem h (i := 9) (x := Str.ofString "_escape_cdata_c14n") (by rfl)) (by rfl) (by decide +kernel)
    (fun vs pm cd doc hl => ?_) (BW_ok (gok0 h 0) rfl 8 5 (mu := [])) fun ps K hs => ?_
  · obtain ⟨a, rfl⟩ := len1 hl
    rfl
  · obtain ⟨p0, rfl, hsa⟩ := as1.inv hs
    obtain ⟨x, rfl, hsb⟩ := asS.inv hsa
    have hs := hsb
    · exact ⟨rfl, esc3_body x K hs.1 hs.2⟩

set_option maxHeartbeats 4000000 in
theorem esc4_body (x : Str) (K : PV → Prop) (hx : (cpl x).length ≤ 1000) (hK : K (.str (mk (escL 4 (cpl x))))) :
    BW G0 [] 8 5 (drOf pr 10).scope.names (drOf pr 10).body (startσ [Str.ofString "text"] [.str x]) (retK K) := by
  have l0 : (cpl x).length ≤ 1000 := hx
  have b0 : (cpl x).length ≤ 1000 := hx
  conv => whnf
  refine Br.rep2 (t := x) (c := Str.ofString "&") (z := Str.ofString "&amp;") (k := 38) (by rfl) (fun hn => by rw [← hn]; exact fun hF => hF) (fun hF => ?_) ?_
  · conv => whnf
    refine Ob.intro (rep_ok (n := 1000) (by omega) (by decide +kernel) l0 (by decide +kernel)) ?_
    conv at hF => whnf
    conv => whnf
    exact hF
  have c1 := replace_cpl x (mk [38, 97, 109, 112, 59]) 38
  rw [cpl_mk] at c1
  rw [show Txt.replace x ⟨#[38]⟩ (mk [38, 97, 109, 112, 59]) = Txt.replace x (Str.ofString "&") (Str.ofString "&amp;") from rfl] at c1
  generalize e1 : Txt.replace x (Str.ofString "&") (Str.ofString "&amp;") = x1 at *
  have d1 : cpl x1 = (cpl x).flatMap fun d => if d = 38 then [38, 97, 109, 112, 59] else [d] := c1
  have l1 : (cpl x1).length ≤ 6000 := by
    rw [d1]
    exact flat_len (fun d => by
      by_cases h : d ∈ [38, 60, 62, 34, 13, 10, 9]
      · revert d; decide +kernel
      · simp only [List.mem_cons, List.not_mem_nil, not_or, or_false] at h; simp [rp, h]) hx
  conv => whnf
  refine Br.rep2 (t := x1) (c := Str.ofString "<") (z := Str.ofString "&lt;") (k := 60) (by rfl) (fun hn => by rw [← hn]; exact fun hF => hF) (fun hF => ?_) ?_
  · conv => whnf
    refine Ob.intro (rep_ok (n := 6000) (by omega) (by decide +kernel) l1 (by decide +kernel)) ?_
    conv at hF => whnf
    conv => whnf
    exact hF
  have c2 := replace_cpl x1 (mk [38, 108, 116, 59]) 60
  rw [cpl_mk] at c2
  rw [show Txt.replace x1 ⟨#[60]⟩ (mk [38, 108, 116, 59]) = Txt.replace x1 (Str.ofString "<") (Str.ofString "&lt;") from rfl] at c2
  generalize e2 : Txt.replace x1 (Str.ofString "<") (Str.ofString "&lt;") = x2 at *
  have d2 := c2
  rw [d1, rp_flat] at d2
  have l2 : (cpl x2).length ≤ 6000 := by
    rw [d2]
    exact flat_len (fun d => by
      by_cases h : d ∈ [38, 60, 62, 34, 13, 10, 9]
      · revert d; decide +kernel
      · simp only [List.mem_cons, List.not_mem_nil, not_or, or_false] at h; simp [rp, h]) hx
  conv => whnf
  refine Br.rep2 (t := x2) (c := Str.ofString "\"") (z := Str.ofString "&quot;") (k := 34) (by rfl) (fun hn => by rw [← hn]; exact fun hF => hF) (fun hF => ?_) ?_
  · conv => whnf
    refine Ob.intro (rep_ok (n := 6000) (by omega) (by decide +kernel) l2 (by decide +kernel)) ?_
    conv at hF => whnf
    conv => whnf
    exact hF
  have c3 := replace_cpl x2 (mk [38, 113, 117, 111, 116, 59]) 34
  rw [cpl_mk] at c3
  rw [show Txt.replace x2 ⟨#[34]⟩ (mk [38, 113, 117, 111, 116, 59]) = Txt.replace x2 (Str.ofString "\"") (Str.ofString "&quot;") from rfl] at c3
  generalize e3 : Txt.replace x2 (Str.ofString "\"") (Str.ofString "&quot;") = x3 at *
  have d3 := c3
  rw [d2, rp_flat] at d3
  have l3 : (cpl x3).length ≤ 6000 := by
    rw [d3]
    exact flat_len (fun d => by
      by_cases h : d ∈ [38, 60, 62, 34, 13, 10, 9]
      · revert d; decide +kernel
      · simp only [List.mem_cons, List.not_mem_nil, not_or, or_false] at h; simp [rp, h]) hx
  conv => whnf
  refine Br.rep2 (t := x3) (c := Str.ofString "\t") (z := Str.ofString "&#x9;") (k := 9) (by rfl) (fun hn => by rw [← hn]; exact fun hF => hF) (fun hF => ?_) ?_
  · conv => whnf
    refine Ob.intro (rep_ok (n := 6000) (by omega) (by decide +kernel) l3 (by decide +kernel)) ?_
    conv at hF => whnf
    conv => whnf
    exact hF
  have c4 := replace_cpl x3 (mk [38, 35, 120, 57, 59]) 9
  rw [cpl_mk] at c4
  rw [show Txt.replace x3 ⟨#[9]⟩ (mk [38, 35, 120, 57, 59]) = Txt.replace x3 (Str.ofString "\t") (Str.ofString "&#x9;") from rfl] at c4
  generalize e4 : Txt.replace x3 (Str.ofString "\t") (Str.ofString "&#x9;") = x4 at *
  have d4 := c4
  rw [d3, rp_flat] at d4
  have l4 : (cpl x4).length ≤ 6000 := by
    rw [d4]
    exact flat_len (fun d => by
      by_cases h : d ∈ [38, 60, 62, 34, 13, 10, 9]
      · revert d; decide +kernel
      · simp only [List.mem_cons, List.not_mem_nil, not_or, or_false] at h; simp [rp, h]) hx
  conv => whnf
  refine Br.rep2 (t := x4) (c := Str.ofString "\n") (z := Str.ofString "&#xA;") (k := 10) (by rfl) (fun hn => by rw [← hn]; exact fun hF => hF) (fun hF => ?_) ?_
  · conv => whnf
    refine Ob.intro (rep_ok (n := 6000) (by omega) (by decide +kernel) l4 (by decide +kernel)) ?_
    conv at hF => whnf
    conv => whnf
    exact hF
  have c5 := replace_cpl x4 (mk [38, 35, 120, 65, 59]) 10
  rw [cpl_mk] at c5
  rw [show Txt.replace x4 ⟨#[10]⟩ (mk [38, 35, 120, 65, 59]) = Txt.replace x4 (Str.ofString "\n") (Str.ofString "&#xA;") from rfl] at c5
  generalize e5 : Txt.replace x4 (Str.ofString "\n") (Str.ofString "&#xA;") = x5 at *
  have d5 := c5
  rw [d4, rp_flat] at d5
  have l5 : (cpl x5).length ≤ 6000 := by
    rw [d5]
    exact flat_len (fun d => by
      by_cases h : d ∈ [38, 60, 62, 34, 13, 10, 9]
      · revert d; decide +kernel
      · simp only [List.mem_cons, List.not_mem_nil, not_or, or_false] at h; simp [rp, h]) hx
  conv => whnf
  refine Br.rep2 (t := x5) (c := Str.ofString "\r") (z := Str.ofString "&#xD;") (k := 13) (by rfl) (fun hn => by rw [← hn]; exact fun hF => hF) (fun hF => ?_) ?_
  · conv => whnf
    refine Ob.intro (rep_ok (n := 6000) (by omega) (by decide +kernel) l5 (by decide +kernel)) ?_
    conv at hF => whnf
    conv => whnf
    exact hF
  have c6 := replace_cpl x5 (mk [38, 35, 120, 68, 59]) 13
  rw [cpl_mk] at c6
  rw [show Txt.replace x5 ⟨#[13]⟩ (mk [38, 35, 120, 68, 59]) = Txt.replace x5 (Str.ofString "\r") (Str.ofString "&#xD;") from rfl] at c6
  generalize e6 : Txt.replace x5 (Str.ofString "\r") (Str.ofString "&#xD;") = x6 at *
  have d6 := c6
  rw [d5, rp_flat] at d6
  have l6 : (cpl x6).length ≤ 6000 := by
    rw [d6]
    exact flat_len (fun d => by
      by_cases h : d ∈ [38, 60, 62, 34, 13, 10, 9]
      · revert d; decide +kernel
      · simp only [List.mem_cons, List.not_mem_nil, not_or, or_false] at h; simp [rp, h]) hx
  conv => whnf
  have fin : x6 = mk (escL 4 (cpl x)) := by
    refine cpl_inj ?_
    rw [d6, cpl_mk]
    unfold escL
    refine flat_congr fun d => ?_
    by_cases h : d ∈ [38, 60, 62, 34, 13, 10, 9]
    · revert d; decide +kernel
    · simp only [List.mem_cons, List.not_mem_nil, not_or, or_false] at h
      simp [escT, signsOf, rp, h]
  rw [fin]
  exact hK
theorem esc4_ok {W : Wd} (h : Is W) : CallOK W 1 (Str.ofString "_escape_attrib_c14n") (escSpec 4) := by
  refine callOK (names := [Str.ofString "text"]) (rec_mem h (i := 10) (x := Str.ofString "_escape_attrib_c14n") (by rfl)) (by rfl) (by decide +kernel)
    (fun vs pm cd doc hl => ?_) (BW_ok (gok0 h 0) rfl 8 5 (mu := [])) fun ps K hs => ?_
  · obtain ⟨a, rfl⟩ := len1 hl
    rfl
  · obtain ⟨p0, rfl, hsa⟩ := as1.inv hs
    obtain ⟨x, rfl, hsb⟩ := asS.inv hsa
    have hs := hsb
    · exact ⟨rfl, esc4_body x K hs.1 hs.2⟩

end Mine
namespace Mine

noncomputable def G5 : GC := ((((G0.with (Str.ofString "_escape_cdata") (escSpec 0)).with (Str.ofString "_escape_attrib") (escSpec 1)).with (Str.ofString "_escape_attrib_html") (escSpec 2)).with (Str.ofString "_escape_cdata_c14n") (escSpec 3)).with (Str.ofString "_escape_attrib_c14n") (escSpec 4)
theorem gok5 {W : Wd} (h : Is W) : GOk W 1 G5 := (((((gok0 h 1).with (esc0_ok h)).with (esc1_ok h)).with (esc2_ok h)).with (esc3_ok h)).with (esc4_ok h)
noncomputable def writeSpec : PSpec := fun ps K => as0 ps False fun p0 r0 => asS p0 fun x => as1 r0 fun p1 => asI p1 fun k => 
    (0 ≤ k ∧ k ≤ 4 ∧ (cpl x).length ≤ 1000) ∧ K (.str (mk (escL k.toNat (cpl x))))
theorem five {k : Int} (h0 : 0 ≤ k) (h4 : k ≤ 4) : k = 0 ∨ k = 1 ∨ k = 2 ∨ k = 3 ∨ k = 4 := by omega
theorem write_ok {W : Wd} (h : Is W) : CallOK W 2 (Str.ofString "_law_write") writeSpec := by
  refine callOK (names := [Str.ofString "text", Str.ofString "kind"]) (rec_mem h (i := 11) (x := Str.ofString "_law_write") (by rfl)) (by rfl) (by decide +kernel)
    (fun vs pm cd doc hl => ?_) (BW_ok (gok5 h) rfl 8 5 (mu := [])) fun ps K hs => ?_
  · obtain ⟨a, b, rfl⟩ := len2 hl
    rfl
  · rcases ps with _ | ⟨p0, r0⟩
    · exact False.elim hs
    have hsa := hs
    obtain ⟨x, rfl, hsb⟩ := asS.inv hsa
    obtain ⟨p1, rfl, hsba⟩ := as1.inv hsb
    obtain ⟨k, rfl, hsbb⟩ := asI.inv hsba
    have hs := hsbb
    · obtain ⟨⟨h1, h2, h3⟩, hk⟩ := hs
      refine ⟨rfl, ?_⟩
      rcases five h1 h2 with rfl | rfl | rfl | rfl | rfl
      · conv => whnf
        refine Br.tt ?_
        conv => whnf
        exact ⟨h3, hk⟩
      · conv => whnf
        refine Br.ff ?_
        conv => whnf
        refine Br.tt ?_
        conv => whnf
        exact ⟨h3, hk⟩
      · conv => whnf
        refine Br.ff ?_
        conv => whnf
        refine Br.ff ?_
        conv => whnf
        refine Br.tt ?_
        conv => whnf
        exact ⟨h3, hk⟩
      · conv => whnf
        refine Br.ff ?_
        conv => whnf
        refine Br.ff ?_
        conv => whnf
        refine Br.ff ?_
        conv => whnf
        refine Br.tt ?_
        conv => whnf
        exact ⟨h3, hk⟩
      · conv => whnf
        refine Br.ff ?_
        conv => whnf
        refine Br.ff ?_
        conv => whnf
        refine Br.ff ?_
        conv => whnf
        refine Br.ff ?_
        conv => whnf
        exact ⟨h3, hk⟩
end Mine
namespace Mine

noncomputable def charsOf (x : Str) : List PV := x.cps.toList.map fun c => PV.str ⟨#[c]⟩
noncomputable def each (f : Nat → List Nat) : PV → PV
  | .str s => .str (mk ((cpl s).flatMap f))
  | p => p
theorem each_chars (f : Nat → List Nat) (x : Str) : (charsOf x).map (each f) = (cpl x).map fun c => PV.str (mk (f c)) := by
  unfold charsOf
  rw [List.map_map]
  refine List.map_congr_left fun c _ => ?_
  simp [each, cpl]
theorem strs_each (g : Nat → Str) : ∀ l : List Nat, strs? (l.map fun c => PV.str (g c)) = some (l.map g)
  | [] => rfl
  | c :: l => by simp [strs?, strs_each g l]
theorem join_each (f : Nat → List Nat) (l : List Nat) : Txt.join (Str.ofString "") (l.map fun c => mk (f c)) = mk (l.flatMap f) := by
  refine cpl_inj ?_
  rw [show Str.ofString "" = ⟨#[]⟩ from rfl, join_cpl, cpl_mk, List.map_map]
  simp [List.flatMap_def, cpl_mk, Function.comp_def]
theorem joinOk_each {f : Nat → List Nat} (hf : ∀ d, (f d).length ≤ 6) {l : List Nat} (hl : l.length ≤ 100000) : JoinOk (Str.ofString "") (l.map fun c => mk (f c)) = true := by
  refine joinOk_of_weight ?_ (by decide +kernel)
  have : ∀ l : List Nat, ((l.map fun c => mk (f c)).map (·.length)).sum ≤ 6 * l.length := by
    intro l
    induction l with
    | nil => simp
    | cons d l ih =>
      have := hf d
      simp only [List.map_cons, List.sum_cons, List.length_cons, len_mk] at ih ⊢
      omega
  have := this l
  simp only [List.length_map]
  omega
theorem escT_len (k d : Nat) : (escT k d).length ≤ 6 := by
  unfold escT
  split
  · unfold nameOf
    simp only [List.length_append, List.length_cons, List.length_nil]
    repeat' split
    all_goals simp
  · simp

noncomputable def spellSpec : PSpec := fun ps K => as0 ps False fun p0 r0 => asS p0 fun x => as1 r0 fun p1 => asI p1 fun k => 
    (0 ≤ k ∧ k ≤ 4 ∧ (cpl x).length ≤ 1000) ∧ K (.str (mk (escL k.toNat (cpl x))))
set_option maxHeartbeats 4000000 in
theorem spell_body (x : Str) (k : Int) (K : PV → Prop) (h1 : 0 ≤ k) (h2 : k ≤ 4) (h3 : (cpl x).length ≤ 1000) (hK : K (.str (mk (escL k.toNat (cpl x))))) :
    BW G0 [Str.ofString "names"] 10 5 (drOf pr 12).scope.names (drOf pr 12).body (startσ [Str.ofString "text", Str.ofString "kind"] [.str x, .int k]) (retK K) := by
  rcases five h1 h2 with rfl | rfl | rfl | rfl | rfl
  · conv => whnf
    refine Ob.intro (by show 5 ≤ sizeLine; have := sizeLine_eq; omega) ?_
    conv => whnf
    refine Ex.intro _ rfl ?_
    conv => whnf
    refine Br.ff ?_
    conv => whnf
    refine Ob.intro (by decide) ?_
    conv => whnf
    refine Br.ff ?_
    conv => whnf
    refine Ob.intro (by decide) ?_
    conv => whnf
    refine Br.ff ?_
    conv => whnf
    refine Ob.intro (by decide) ?_
    conv => whnf
    refine loop_map (each (escT 0)) (fun p hp X hX => ?_) ?_
    · obtain ⟨c, hc, rfl⟩ := List.mem_map.mp hp
      have hX : X (.str (mk (escT 0 c))) := by
        have e : each (escT 0) (PV.str ⟨#[c]⟩) = .str (mk (escT 0 c)) := by simp [each, cpl]
        rw [e] at hX
        exact hX
      conv => whnf
      refine Br.intro (fun e => ?_) (fun e => ?_)
      · rw [contains_cpl, show cpl (Str.ofString "&<>") = [38, 60, 62] from by decide +kernel] at e
        simp only [decide_eq_true_eq, List.mem_cons, List.not_mem_nil, or_false] at e
        rcases e with rfl | rfl | rfl
        · conv => whnf
          refine Ex.intro _ rfl ?_
          conv => whnf
          refine Ob.intro (by decide +kernel) ?_
          conv => whnf
          refine Ob.intro (by decide +kernel) ?_
          conv => whnf
          rw [show (Str.ofString "&" ++ Str.ofString "amp" ++ Str.ofString ";") = mk (escT 0 38) from by decide +kernel]
          exact hX
        · conv => whnf
          refine Ex.intro _ rfl ?_
          conv => whnf
          refine Ob.intro (by decide +kernel) ?_
          conv => whnf
          refine Ob.intro (by decide +kernel) ?_
          conv => whnf
          rw [show (Str.ofString "&" ++ Str.ofString "lt" ++ Str.ofString ";") = mk (escT 0 60) from by decide +kernel]
          exact hX
        · conv => whnf
          refine Ex.intro _ rfl ?_
          conv => whnf
          refine Ob.intro (by decide +kernel) ?_
          conv => whnf
          refine Ob.intro (by decide +kernel) ?_
          conv => whnf
          rw [show (Str.ofString "&" ++ Str.ofString "gt" ++ Str.ofString ";") = mk (escT 0 62) from by decide +kernel]
          exact hX
      · rw [contains_cpl, show cpl (Str.ofString "&<>") = signsOf 0 from by decide +kernel] at e
        simp only [decide_eq_false_iff_not] at e
        conv => whnf
        have e2 : mk (escT 0 c) = ⟨#[c]⟩ := by
          unfold escT
          rw [if_neg e]; rfl
        rw [e2] at hX
        exact hX
    · rw [List.nil_append]
      rw [show List.map (fun c => PV.str ⟨#[c]⟩) x.cps.toList = charsOf x from rfl, each_chars]
      conv => whnf
      refine Ex.intro _ (strs_each _ _) ?_
      conv => whnf
      refine Ob.intro (joinOk_each (escT_len 0) (by omega)) ?_
      conv => whnf
      rw [join_each]
      exact hK
  · conv => whnf
    refine Ob.intro (by show 5 ≤ sizeLine; have := sizeLine_eq; omega) ?_
    conv => whnf
    refine Ex.intro _ rfl ?_
    conv => whnf
    refine Br.tt ?_
    conv => whnf
    refine Ob.intro (by decide) ?_
    conv => whnf
    refine Br.tt ?_
    conv => whnf
    refine Ob.intro (by decide) ?_
    conv => whnf
    refine Br.tt ?_
    conv => whnf
    refine Ob.intro (by decide) ?_
    conv => whnf
    refine loop_map (each (escT 1)) (fun p hp X hX => ?_) ?_
    · obtain ⟨c, hc, rfl⟩ := List.mem_map.mp hp
      have hX : X (.str (mk (escT 1 c))) := by
        have e : each (escT 1) (PV.str ⟨#[c]⟩) = .str (mk (escT 1 c)) := by simp [each, cpl]
        rw [e] at hX
        exact hX
      conv => whnf
      refine Br.intro (fun e => ?_) (fun e => ?_)
      · rw [contains_cpl, show cpl (Str.ofString "&<>\"\r\n\t") = [38, 60, 62, 34, 13, 10, 9] from by decide +kernel] at e
        simp only [decide_eq_true_eq, List.mem_cons, List.not_mem_nil, or_false] at e
        rcases e with rfl | rfl | rfl | rfl | rfl | rfl | rfl
        · conv => whnf
          refine Ex.intro _ rfl ?_
          conv => whnf
          refine Ob.intro (by decide +kernel) ?_
          conv => whnf
          refine Ob.intro (by decide +kernel) ?_
          conv => whnf
          rw [show (Str.ofString "&" ++ Str.ofString "amp" ++ Str.ofString ";") = mk (escT 1 38) from by decide +kernel]
          exact hX
        · conv => whnf
          refine Ex.intro _ rfl ?_
          conv => whnf
          refine Ob.intro (by decide +kernel) ?_
          conv => whnf
          refine Ob.intro (by decide +kernel) ?_
          conv => whnf
          rw [show (Str.ofString "&" ++ Str.ofString "lt" ++ Str.ofString ";") = mk (escT 1 60) from by decide +kernel]
          exact hX
        · conv => whnf
          refine Ex.intro _ rfl ?_
          conv => whnf
          refine Ob.intro (by decide +kernel) ?_
          conv => whnf
          refine Ob.intro (by decide +kernel) ?_
          conv => whnf
          rw [show (Str.ofString "&" ++ Str.ofString "gt" ++ Str.ofString ";") = mk (escT 1 62) from by decide +kernel]
          exact hX
        · conv => whnf
          refine Ex.intro _ rfl ?_
          conv => whnf
          refine Ob.intro (by decide +kernel) ?_
          conv => whnf
          refine Ob.intro (by decide +kernel) ?_
          conv => whnf
          rw [show (Str.ofString "&" ++ Str.ofString "quot" ++ Str.ofString ";") = mk (escT 1 34) from by decide +kernel]
          exact hX
        · conv => whnf
          refine Ex.intro _ rfl ?_
          conv => whnf
          refine Ob.intro (by decide +kernel) ?_
          conv => whnf
          refine Ob.intro (by decide +kernel) ?_
          conv => whnf
          rw [show (Str.ofString "&" ++ Str.ofString "#13" ++ Str.ofString ";") = mk (escT 1 13) from by decide +kernel]
          exact hX
        · conv => whnf
          refine Ex.intro _ rfl ?_
          conv => whnf
          refine Ob.intro (by decide +kernel) ?_
          conv => whnf
          refine Ob.intro (by decide +kernel) ?_
          conv => whnf
          rw [show (Str.ofString "&" ++ Str.ofString "#10" ++ Str.ofString ";") = mk (escT 1 10) from by decide +kernel]
          exact hX
        · conv => whnf
          refine Ex.intro _ rfl ?_
          conv => whnf
          refine Ob.intro (by decide +kernel) ?_
          conv => whnf
          refine Ob.intro (by decide +kernel) ?_
          conv => whnf
          rw [show (Str.ofString "&" ++ Str.ofString "#09" ++ Str.ofString ";") = mk (escT 1 9) from by decide +kernel]
          exact hX
      · rw [contains_cpl, show cpl (Str.ofString "&<>\"\r\n\t") = signsOf 1 from by decide +kernel] at e
        simp only [decide_eq_false_iff_not] at e
        conv => whnf
        have e2 : mk (escT 1 c) = ⟨#[c]⟩ := by
          unfold escT
          rw [if_neg e]; rfl
        rw [e2] at hX
        exact hX
    · rw [List.nil_append]
      rw [show List.map (fun c => PV.str ⟨#[c]⟩) x.cps.toList = charsOf x from rfl, each_chars]
      conv => whnf
      refine Ex.intro _ (strs_each _ _) ?_
      conv => whnf
      refine Ob.intro (joinOk_each (escT_len 1) (by omega)) ?_
      conv => whnf
      rw [join_each]
      exact hK
  · conv => whnf
    refine Ob.intro (by show 5 ≤ sizeLine; have := sizeLine_eq; omega) ?_
    conv => whnf
    refine Ex.intro _ rfl ?_
    conv => whnf
    refine Br.ff ?_
    conv => whnf
    refine Ob.intro (by decide) ?_
    conv => whnf
    refine Br.ff ?_
    conv => whnf
    refine Ob.intro (by decide) ?_
    conv => whnf
    refine Br.ff ?_
    conv => whnf
    refine Ob.intro (by decide) ?_
    conv => whnf
    refine loop_map (each (escT 2)) (fun p hp X hX => ?_) ?_
    · obtain ⟨c, hc, rfl⟩ := List.mem_map.mp hp
      have hX : X (.str (mk (escT 2 c))) := by
        have e : each (escT 2) (PV.str ⟨#[c]⟩) = .str (mk (escT 2 c)) := by simp [each, cpl]
        rw [e] at hX
        exact hX
      conv => whnf
      refine Br.intro (fun e => ?_) (fun e => ?_)
      · rw [contains_cpl, show cpl (Str.ofString "&>\"") = [38, 62, 34] from by decide +kernel] at e
        simp only [decide_eq_true_eq, List.mem_cons, List.not_mem_nil, or_false] at e
        rcases e with rfl | rfl | rfl
        · conv => whnf
          refine Ex.intro _ rfl ?_
          conv => whnf
          refine Ob.intro (by decide +kernel) ?_
          conv => whnf
          refine Ob.intro (by decide +kernel) ?_
          conv => whnf
          rw [show (Str.ofString "&" ++ Str.ofString "amp" ++ Str.ofString ";") = mk (escT 2 38) from by decide +kernel]
          exact hX
        · conv => whnf
          refine Ex.intro _ rfl ?_
          conv => whnf
          refine Ob.intro (by decide +kernel) ?_
          conv => whnf
          refine Ob.intro (by decide +kernel) ?_
          conv => whnf
          rw [show (Str.ofString "&" ++ Str.ofString "gt" ++ Str.ofString ";") = mk (escT 2 62) from by decide +kernel]
          exact hX
        · conv => whnf
          refine Ex.intro _ rfl ?_
          conv => whnf
          refine Ob.intro (by decide +kernel) ?_
          conv => whnf
          refine Ob.intro (by decide +kernel) ?_
          conv => whnf
          rw [show (Str.ofString "&" ++ Str.ofString "quot" ++ Str.ofString ";") = mk (escT 2 34) from by decide +kernel]
          exact hX
      · rw [contains_cpl, show cpl (Str.ofString "&>\"") = signsOf 2 from by decide +kernel] at e
        simp only [decide_eq_false_iff_not] at e
        conv => whnf
        have e2 : mk (escT 2 c) = ⟨#[c]⟩ := by
          unfold escT
          rw [if_neg e]; rfl
        rw [e2] at hX
        exact hX
    · rw [List.nil_append]
      rw [show List.map (fun c => PV.str ⟨#[c]⟩) x.cps.toList = charsOf x from rfl, each_chars]
      conv => whnf
      refine Ex.intro _ (strs_each _ _) ?_
      conv => whnf
      refine Ob.intro (joinOk_each (escT_len 2) (by omega)) ?_
      conv => whnf
      rw [join_each]
      exact hK
  · conv => whnf
    refine Ob.intro (by show 5 ≤ sizeLine; have := sizeLine_eq; omega) ?_
    conv => whnf
    refine Ex.intro _ rfl ?_
    conv => whnf
    refine Br.ff ?_
    conv => whnf
    refine Ob.intro (by decide) ?_
    conv => whnf
    refine Br.ff ?_
    conv => whnf
    refine Ob.intro (by decide) ?_
    conv => whnf
    refine Br.ff ?_
    conv => whnf
    refine Ob.intro (by decide) ?_
    conv => whnf
    refine loop_map (each (escT 3)) (fun p hp X hX => ?_) ?_
    · obtain ⟨c, hc, rfl⟩ := List.mem_map.mp hp
      have hX : X (.str (mk (escT 3 c))) := by
        have e : each (escT 3) (PV.str ⟨#[c]⟩) = .str (mk (escT 3 c)) := by simp [each, cpl]
        rw [e] at hX
        exact hX
      conv => whnf
      refine Br.intro (fun e => ?_) (fun e => ?_)
      · rw [contains_cpl, show cpl (Str.ofString "&<>\r") = [38, 60, 62, 13] from by decide +kernel] at e
        simp only [decide_eq_true_eq, List.mem_cons, List.not_mem_nil, or_false] at e
        rcases e with rfl | rfl | rfl | rfl
        · conv => whnf
          refine Ex.intro _ rfl ?_
          conv => whnf
          refine Ob.intro (by decide +kernel) ?_
          conv => whnf
          refine Ob.intro (by decide +kernel) ?_
          conv => whnf
          rw [show (Str.ofString "&" ++ Str.ofString "amp" ++ Str.ofString ";") = mk (escT 3 38) from by decide +kernel]
          exact hX
        · conv => whnf
          refine Ex.intro _ rfl ?_
          conv => whnf
          refine Ob.intro (by decide +kernel) ?_
          conv => whnf
          refine Ob.intro (by decide +kernel) ?_
          conv => whnf
          rw [show (Str.ofString "&" ++ Str.ofString "lt" ++ Str.ofString ";") = mk (escT 3 60) from by decide +kernel]
          exact hX
        · conv => whnf
          refine Ex.intro _ rfl ?_
          conv => whnf
          refine Ob.intro (by decide +kernel) ?_
          conv => whnf
          refine Ob.intro (by decide +kernel) ?_
          conv => whnf
          rw [show (Str.ofString "&" ++ Str.ofString "gt" ++ Str.ofString ";") = mk (escT 3 62) from by decide +kernel]
          exact hX
        · conv => whnf
          refine Ex.intro _ rfl ?_
          conv => whnf
          refine Ob.intro (by decide +kernel) ?_
          conv => whnf
          refine Ob.intro (by decide +kernel) ?_
          conv => whnf
          rw [show (Str.ofString "&" ++ Str.ofString "#xD" ++ Str.ofString ";") = mk (escT 3 13) from by decide +kernel]
          exact hX
      · rw [contains_cpl, show cpl (Str.ofString "&<>\r") = signsOf 3 from by decide +kernel] at e
        simp only [decide_eq_false_iff_not] at e
        conv => whnf
        have e2 : mk (escT 3 c) = ⟨#[c]⟩ := by
          unfold escT
          rw [if_neg e]; rfl
        rw [e2] at hX
        exact hX
    · rw [List.nil_append]
      rw [show List.map (fun c => PV.str ⟨#[c]⟩) x.cps.toList = charsOf x from rfl, each_chars]
      conv => whnf
      refine Ex.intro _ (strs_each _ _) ?_
      conv => whnf
      refine Ob.intro (joinOk_each (escT_len 3) (by omega)) ?_
      conv => whnf
      rw [join_each]
      exact hK
  · conv => whnf
    refine Ob.intro (by show 5 ≤ sizeLine; have := sizeLine_eq; omega) ?_
    conv => whnf
    refine Ex.intro _ rfl ?_
    conv => whnf
    refine Br.ff ?_
    conv => whnf
    refine Ob.intro (by decide) ?_
    conv => whnf
    refine Br.ff ?_
    conv => whnf
    refine Ob.intro (by decide) ?_
    conv => whnf
    refine Br.ff ?_
    conv => whnf
    refine Ob.intro (by decide) ?_
    conv => whnf
    refine loop_map (each (escT 4)) (fun p hp X hX => ?_) ?_
    · obtain ⟨c, hc, rfl⟩ := List.mem_map.mp hp
      have hX : X (.str (mk (escT 4 c))) := by
        have e : each (escT 4) (PV.str ⟨#[c]⟩) = .str (mk (escT 4 c)) := by simp [each, cpl]
        rw [e] at hX
        exact hX
      conv => whnf
      refine Br.intro (fun e => ?_) (fun e => ?_)
      · rw [contains_cpl, show cpl (Str.ofString "&<\"\r\n\t") = [38, 60, 34, 13, 10, 9] from by decide +kernel] at e
        simp only [decide_eq_true_eq, List.mem_cons, List.not_mem_nil, or_false] at e
        rcases e with rfl | rfl | rfl | rfl | rfl | rfl
        · conv => whnf
          refine Ex.intro _ rfl ?_
          conv => whnf
          refine Ob.intro (by decide +kernel) ?_
          conv => whnf
          refine Ob.intro (by decide +kernel) ?_
          conv => whnf
          rw [show (Str.ofString "&" ++ Str.ofString "amp" ++ Str.ofString ";") = mk (escT 4 38) from by decide +kernel]
          exact hX
        · conv => whnf
          refine Ex.intro _ rfl ?_
          conv => whnf
          refine Ob.intro (by decide +kernel) ?_
          conv => whnf
          refine Ob.intro (by decide +kernel) ?_
          conv => whnf
          rw [show (Str.ofString "&" ++ Str.ofString "lt" ++ Str.ofString ";") = mk (escT 4 60) from by decide +kernel]
          exact hX
        · conv => whnf
          refine Ex.intro _ rfl ?_
          conv => whnf
          refine Ob.intro (by decide +kernel) ?_
          conv => whnf
          refine Ob.intro (by decide +kernel) ?_
          conv => whnf
          rw [show (Str.ofString "&" ++ Str.ofString "quot" ++ Str.ofString ";") = mk (escT 4 34) from by decide +kernel]
          exact hX
        · conv => whnf
          refine Ex.intro _ rfl ?_
          conv => whnf
          refine Ob.intro (by decide +kernel) ?_
          conv => whnf
          refine Ob.intro (by decide +kernel) ?_
          conv => whnf
          rw [show (Str.ofString "&" ++ Str.ofString "#xD" ++ Str.ofString ";") = mk (escT 4 13) from by decide +kernel]
          exact hX
        · conv => whnf
          refine Ex.intro _ rfl ?_
          conv => whnf
          refine Ob.intro (by decide +kernel) ?_
          conv => whnf
          refine Ob.intro (by decide +kernel) ?_
          conv => whnf
          rw [show (Str.ofString "&" ++ Str.ofString "#xA" ++ Str.ofString ";") = mk (escT 4 10) from by decide +kernel]
          exact hX
        · conv => whnf
          refine Ex.intro _ rfl ?_
          conv => whnf
          refine Ob.intro (by decide +kernel) ?_
          conv => whnf
          refine Ob.intro (by decide +kernel) ?_
          conv => whnf
          rw [show (Str.ofString "&" ++ Str.ofString "#x9" ++ Str.ofString ";") = mk (escT 4 9) from by decide +kernel]
          exact hX
      · rw [contains_cpl, show cpl (Str.ofString "&<\"\r\n\t") = signsOf 4 from by decide +kernel] at e
        simp only [decide_eq_false_iff_not] at e
        conv => whnf
        have e2 : mk (escT 4 c) = ⟨#[c]⟩ := by
          unfold escT
          rw [if_neg e]; rfl
        rw [e2] at hX
        exact hX
    · rw [List.nil_append]
      rw [show List.map (fun c => PV.str ⟨#[c]⟩) x.cps.toList = charsOf x from rfl, each_chars]
      conv => whnf
      refine Ex.intro _ (strs_each _ _) ?_
      conv => whnf
      refine Ob.intro (joinOk_each (escT_len 4) (by omega)) ?_
      conv => whnf
      rw [join_each]
      exact hK
theorem spell_ok {W : Wd} (h : Is W) : CallOK W 1 (Str.ofString "_law_spell") spellSpec := by
  refine callOK (names := [Str.ofString "text", Str.ofString "kind"]) (rec_mem h (i := 12) (x := Str.ofString "_law_spell") (by rfl)) (by rfl) (by decide +kernel)
    (fun vs pm cd doc hl => ?_) (BW_ok (gok0 h 0) rfl 10 5 (mu := [Str.ofString "names"])) fun ps K hs => ?_
  · obtain ⟨a, b, rfl⟩ := len2 hl
    rfl
  · rcases ps with _ | ⟨p0, r0⟩
    · exact False.elim hs
    have hsa := hs
    obtain ⟨x, rfl, hsb⟩ := asS.inv hsa
    obtain ⟨p1, rfl, hsba⟩ := as1.inv hsb
    obtain ⟨k, rfl, hsbb⟩ := asI.inv hsba
    have hs := hsbb
    · obtain ⟨⟨h1, h2, h3⟩, hk⟩ := hs
      exact ⟨rfl, spell_body x k K h1 h2 h3 hk⟩
end Mine
namespace Mine

theorem item_int {α : Type} {xs : List α} {i : Int} (h0 : 0 ≤ i) (h1 : i < xs.length) : ∃ x, itemAt xs i = some x := by
  have : i = ((i.toNat : Nat) : Int) := by omega
  rw [this]
  have hl : i.toNat < xs.length := by omega
  exact ⟨xs[i.toNat], item_nat (List.getElem?_eq_getElem hl)⟩

noncomputable def signSpec : PSpec := fun ps K => as1 ps fun p0 => asI p0 fun n => 
    ∀ c : Nat, K (.str ⟨#[c]⟩)
theorem sign_ok {W : Wd} (h : Is W) : CallOK W 1 (Str.ofString "_law_sign") signSpec := by
  refine callOK (names := [Str.ofString "number"]) (rec_mem h (i := 13) (x := Str.ofString "_law_sign") (by rfl)) (by rfl) (by decide +kernel)
    (fun vs pm cd doc hl => ?_) (BW_ok (gok0 h 0) rfl 10 5 (mu := [])) fun ps K hs => ?_
  · obtain ⟨a, rfl⟩ := len1 hl
    rfl
  · obtain ⟨p0, rfl, hsa⟩ := as1.inv hs
    obtain ⟨n, rfl, hsb⟩ := asI.inv hsa
    have hs := hsb
    · refine ⟨rfl, ?_⟩
      conv => whnf
      refine Ob.intro (by decide) ?_
      conv => whnf
      refine Br.intro (fun _ => ?_) (fun _ => ?_)
      · conv => whnf
        refine Ob.intro (by decide) ?_
        conv => whnf
        refine Ob.intro (by decide) ?_
        conv => whnf
        obtain ⟨c, hc⟩ := item_int (xs := (Str.ofString "&<>\"\r\n\tlgt;#").cps.toList) (i := (n.fdiv 2).fmod 12) (Int.fmod_nonneg_of_pos _ (by decide)) (by
          rw [show (Str.ofString "&<>\"\r\n\tlgt;#").cps.toList.length = 12 from by decide +kernel]
          exact Int.fmod_lt_of_pos _ (by decide))
        refine Ex.intro c hc ?_
        conv => whnf
        exact hs c
      · conv => whnf
        refine Ob.intro (by decide) ?_
        conv => whnf
        refine Ob.intro (by decide) ?_
        have g0 : 0 ≤ (n.fdiv 2).fmod 1112064 := Int.fmod_nonneg_of_pos _ (by decide)
        have g1 : (n.fdiv 2).fmod 1112064 < 1112064 := Int.fmod_lt_of_pos _ (by decide)
        conv => whnf
        refine Br.intro (fun e => ?_) (fun e => ?_)
        · conv => whnf
          refine Ob.intro ⟨g0, by omega⟩ ?_
          conv => whnf
          exact hs _
        · conv => whnf
          refine Ob.intro ⟨by omega, by omega⟩ ?_
          conv => whnf
          exact hs _

/-! `_law_row` -/
noncomputable def rowSpec : PSpec := fun ps K => as0 ps False fun p0 r0 => asI p0 fun n => as1 r0 fun p1 => asS p1 fun marks => 
    ∃ u v, cpl marks = [u, v] ∧ ∀ r : List Nat, r.length ≤ 3 → (∀ d ∈ r, d = u ∨ d = v) → K (.str (mk r))
theorem row_ok {W : Wd} (h : Is W) : CallOK W 1 (Str.ofString "_law_row") rowSpec := by
  refine callOK (names := [Str.ofString "number", Str.ofString "marks"]) (rec_mem h (i := 14) (x := Str.ofString "_law_row") (by rfl)) (by rfl) (by decide +kernel)
    (fun vs pm cd doc hl => ?_) (BW_ok (gok0 h 0) rfl 12 5 (mu := [])) fun ps K hs => ?_
  · obtain ⟨a, b, rfl⟩ := len2 hl
    rfl
  · rcases ps with _ | ⟨p0, r0⟩
    · exact False.elim hs
    have hsa := hs
    obtain ⟨n, rfl, hsb⟩ := asI.inv hsa
    obtain ⟨p1, rfl, hsba⟩ := as1.inv hsb
    obtain ⟨marks, rfl, hsbb⟩ := asS.inv hsba
    have hs := hsbb
    · obtain ⟨u, v, hm, hk⟩ := hs
      refine ⟨rfl, ?_⟩
      conv => whnf
      refine Ob.intro (by decide) ?_
      conv => whnf
      refine Ob.intro (by decide) ?_
      conv => whnf
      refine Ob.intro (by decide) ?_
      have g0 : 0 ≤ n.fmod 4 := Int.fmod_nonneg_of_pos _ (by decide)
      have g1 : n.fmod 4 < 4 := Int.fmod_lt_of_pos _ (by decide)
      obtain ⟨w, hw⟩ : ∃ w : Nat, 3 - n.fmod 4 = (w : Int) := ⟨(3 - n.fmod 4).toNat, by omega⟩
      conv => whnf
      rw [hw]
      refine Ob.intro ⟨small_of (by decide) (by omega) (by decide) (by rw [count_size]; omega), by rw [count_size]; omega, by rw [count_size]; have := sizeLine_eq; omega⟩ ?_
      rw [count_items]
      conv => whnf
      have pick : ∀ i : Int, ∃ d, itemAt marks.cps.toList (i.fmod 2) = some d ∧ (d = u ∨ d = v) := by
        intro i
        have e : marks.cps.toList = [u, v] := hm
        rw [e]
        have h0 : 0 ≤ i.fmod 2 := Int.fmod_nonneg_of_pos _ (by decide)
        have h1 : i.fmod 2 < 2 := Int.fmod_lt_of_pos _ (by decide)
        have : i.fmod 2 = 0 ∨ i.fmod 2 = 1 := by omega
        rcases this with e | e <;> rw [e]
        · exact ⟨u, rfl, .inl rfl⟩
        · exact ⟨v, rfl, .inr rfl⟩
      refine loop_map (fun p => match p with
        | .int i => .str (mk [Classical.choose (pick (((n.fdiv 4).fmod 8).fdiv (2 ^ i.toNat)))])
        | p => p) (fun p hp X hX => ?_) ?_
      · obtain ⟨i, hi, rfl⟩ := List.mem_map.mp hp
        have hi3 : i < 3 := by have := List.mem_range.mp hi; omega
        have hi' : i = 0 ∨ i = 1 ∨ i = 2 := by omega
        have hc := Classical.choose_spec (pick (((n.fdiv 4).fmod 8).fdiv (2 ^ ((i : Nat) : Int).toNat)))
        simp only at hX
        rcases hi' with rfl | rfl | rfl
        all_goals
          conv => whnf
          refine Ob.intro (by decide) ?_
          conv => whnf
          refine Ob.intro (by decide) ?_
          conv => whnf
          refine Ob.intro (by decide) ?_
          conv => whnf
          refine Ex.intro _ hc.1 ?_
          conv => whnf
          exact hX
      · rw [List.nil_append, List.map_map]
        conv => whnf
        refine Ex.intro _ (strs_each (fun i : Nat => mk [Classical.choose (pick (((n.fdiv 4).fmod 8).fdiv (2 ^ ((i : Nat) : Int).toNat)))]) _) ?_
        conv => whnf
        refine Ob.intro ?_ ?_
        · refine joinOk_of_weight ?_ (by decide +kernel)
          have : ∀ l : List Nat, ((l.map fun i : Nat => mk [Classical.choose (pick (((n.fdiv 4).fmod 8).fdiv (2 ^ ((i : Nat) : Int).toNat)))]).map (·.length)).sum = l.length := by
            intro l
            induction l with
            | nil => rfl
            | cons a l ih =>
              simp only [List.map_cons, List.sum_cons, ih, List.length_cons, len_mk, List.length_nil]
              omega
          rw [this]
          simp
          omega
        conv => whnf
        have e : Txt.join (Str.ofString "") (List.map (fun i : Nat => mk [Classical.choose (pick (((n.fdiv 4).fmod 8).fdiv (2 ^ ((i : Nat) : Int).toNat)))]) (List.range w)) = mk ((List.range w).map fun i : Nat => Classical.choose (pick (((n.fdiv 4).fmod 8).fdiv (2 ^ ((i : Nat) : Int).toNat)))) := by
          refine cpl_inj ?_
          rw [show Str.ofString "" = ⟨#[]⟩ from rfl, join_cpl, cpl_mk, List.map_map]
          generalize List.range w = l
          induction l with
          | nil => rfl
          | cons a l ih =>
            simp only [List.map_cons, List.flatten_cons, Function.comp_apply, cpl_mk] at ih ⊢
            rw [ih]; rfl
        rw [e]
        refine hk _ (by simp; omega) fun d hd => ?_
        obtain ⟨i, _, rfl⟩ := List.mem_map.mp hd
        exact (Classical.choose_spec (pick (((n.fdiv 4).fmod 8).fdiv (2 ^ ((i : Nat) : Int).toNat)))).2
end Mine
namespace Mine

noncomputable def waysL (l : List Nat) : List (List Nat) := l.foldl (fun W m => W ++ W.map (· ++ [m])) [[]]
theorem ways_snoc (l : List Nat) (x : Nat) : waysL (l ++ [x]) = waysL l ++ (waysL l).map (· ++ [x]) := by simp [waysL, List.foldl_append]
theorem ways_len : ∀ n (l : List Nat), l.length = n → (waysL l).length = 2 ^ n ∧ ∀ w ∈ waysL l, w.length ≤ n
  | 0, l, h => by
    have : l = [] := List.length_eq_zero_iff.mp h
    subst this
    simp [waysL]
  | n + 1, l, h => by
    rcases List.eq_nil_or_concat l with rfl | ⟨l', x, rfl⟩
    · simp at h
    · have hl : l'.length = n := by simpa using h
      obtain ⟨h1, h2⟩ := ways_len n l' hl
      rw [List.concat_eq_append, ways_snoc]
      refine ⟨by simp [h1]; omega, fun w hw => ?_⟩
      rcases List.mem_append.mp hw with hw | hw
      · have := h2 w hw; omega
      · obtain ⟨w', hw', rfl⟩ := List.mem_map.mp hw
        have := h2 w' hw'
        simp; omega
theorem ways_has : ∀ n (l : List Nat) (m : Nat), l.length = n → m ≤ n → ∃ w ∈ waysL l, w.length = m
  | 0, l, m, h, hm => by
    have : l = [] := List.length_eq_zero_iff.mp h
    subst this
    exact ⟨[], by simp [waysL], by simp; omega⟩
  | n + 1, l, m, h, hm => by
    rcases List.eq_nil_or_concat l with rfl | ⟨l', x, rfl⟩
    · simp at h
    · have hl : l'.length = n := by simpa using h
      rw [List.concat_eq_append, ways_snoc]
      by_cases hmn : m ≤ n
      · obtain ⟨w, hw, e⟩ := ways_has n l' m hl hmn
        exact ⟨w, List.mem_append_left _ hw, e⟩
      · obtain ⟨w, hw, e⟩ := ways_has n l' n hl (Nat.le_refl _)
        exact ⟨w ++ [x], List.mem_append_right _ (List.mem_map_of_mem hw), by simp; omega⟩

noncomputable def waysOf (l : List Nat) (m : Nat) : List (List Nat) := (waysL l).filter fun w => w.length == m
noncomputable def strL (w : List Nat) : PV := .str (mk w)
noncomputable def waysSpec : PSpec := fun ps K => as0 ps False fun p0 r0 => asS p0 fun row => as1 r0 fun p1 => asI p1 fun many => 
    ((cpl row).length ≤ 3 ∧ 0 ≤ many) ∧ K (.list ((waysOf (cpl row) many.toNat).map strL))
noncomputable def w3 (row : Str) (many : Int) (W : List (List Nat)) : Loc := [(Str.ofString "row", .val (.str row)), (Str.ofString "many", .val (.int many)), (Str.ofString "ways", .val (.list (W.map strL)))]
noncomputable def w4 (row : Str) (many : Int) (W : List (List Nat)) (m : Str) : Loc := [(Str.ofString "row", .val (.str row)), (Str.ofString "many", .val (.int many)), (Str.ofString "ways", .val (.list (W.map strL))), (Str.ofString "mark", .val (.str m))]
noncomputable def wI (row : Str) (many : Int) (i : Nat) (σ : Loc) : Prop := σ = w3 row many (waysL ((cpl row).take i)) ∨ ∃ m, σ = w4 row many (waysL ((cpl row).take i)) m

theorem ways_ok {W : Wd} (h : Is W) : CallOK W 1 (Str.ofString "_law_ways") waysSpec := by
  refine callOK (names := [Str.ofString "row", Str.ofString "many"]) (rec_mem h (i := 15) (x := Str.ofString "_law_ways") (by rfl)) (by rfl) (by decide +kernel)
    (fun vs pm cd doc hl => ?_) (BW_ok (gok0 h 0) rfl 10 5 (mu := [])) fun ps K hs => ?_
  · obtain ⟨a, b, rfl⟩ := len2 hl
    rfl
  · rcases ps with _ | ⟨p0, r0⟩
    · exact False.elim hs
    have hsa := hs
    obtain ⟨row, rfl, hsb⟩ := asS.inv hsa
    obtain ⟨p1, rfl, hsba⟩ := as1.inv hsb
    obtain ⟨many, rfl, hsbb⟩ := asI.inv hsba
    have hs := hsbb
    · obtain ⟨⟨h3, h0⟩, hk⟩ := hs
      refine ⟨rfl, ?_⟩
      have hsz := sizeLine_eq
      conv => whnf
      refine Ob.intro (by show 1 ≤ sizeLine; omega) ?_
      conv => whnf
      refine for_of (wI row many) (.inl rfl) (fun i p σ hi hI X hX => ?_) (fun σ hI => ?_)
      · obtain ⟨c, hc, rfl⟩ : ∃ c, (cpl row)[i]? = some c ∧ p = .str ⟨#[c]⟩ := by
          rw [List.getElem?_map, Option.map_eq_some_iff] at hi
          obtain ⟨c, hc, rfl⟩ := hi
          exact ⟨c, hc, rfl⟩
        have hil : i < (cpl row).length := (List.getElem?_eq_some_iff.mp hc).1
        have hnext : waysL ((cpl row).take (i + 1)) = waysL ((cpl row).take i) ++ (waysL ((cpl row).take i)).map (· ++ [c]) := by
          rw [List.take_succ_eq_append_getElem hil, ways_snoc]
          rw [(List.getElem?_eq_some_iff.mp hc).2]
        have hT : ((cpl row).take i).length = i := by simp; omega
        obtain ⟨hn1, hn2⟩ := ways_len i _ hT
        have hp8 : 2 ^ i ≤ 8 := by
          have : i = 0 ∨ i = 1 ∨ i = 2 := by omega
          rcases this with rfl | rfl | rfl <;> decide
        unfold wI at hI
        generalize hV : waysL ((cpl row).take i) = V at *
        have hfin : (List.map strL V).map (fun p => match p with
            | .str s => strL (cpl s ++ [c])
            | p => p) = (V.map (· ++ [c])).map strL := by
          rw [List.map_map, List.map_map]
          refine List.map_congr_left fun w _ => ?_
          simp [strL, cpl_mk]
        rcases hI with rfl | ⟨m0, rfl⟩
        · unfold w3
          conv => whnf
          refine loop_map (fun p => match p with
            | .str s => strL (cpl s ++ [c])
            | p => p) (fun p hp Y hY => ?_) ?_
          · obtain ⟨w, hw, rfl⟩ := List.mem_map.mp hp
            have := hn2 w hw
            unfold strL at hY ⊢
            simp only [cpl_mk] at hY
            conv => whnf
            refine Ob.intro (by rw [len_mk]; show _ + 1 ≤ sizeLine; omega) ?_
            conv => whnf
            rw [mk_append] at hY
            exact hY
          · rw [List.nil_append, hfin]
            conv => whnf
            refine Ob.intro (by simp only [List.length_map]; omega) ?_
            conv => whnf
            refine hX _ (.inr ⟨⟨#[c]⟩, ?_⟩)
            rw [hnext]
            unfold w4
            rw [List.map_append]
            rfl
        · unfold w4
          conv => whnf
          refine loop_map (fun p => match p with
            | .str s => strL (cpl s ++ [c])
            | p => p) (fun p hp Y hY => ?_) ?_
          · obtain ⟨w, hw, rfl⟩ := List.mem_map.mp hp
            have := hn2 w hw
            unfold strL at hY ⊢
            simp only [cpl_mk] at hY
            conv => whnf
            refine Ob.intro (by rw [len_mk]; show _ + 1 ≤ sizeLine; omega) ?_
            conv => whnf
            rw [mk_append] at hY
            exact hY
          · rw [List.nil_append, hfin]
            conv => whnf
            refine Ob.intro (by simp only [List.length_map]; omega) ?_
            conv => whnf
            refine hX _ (.inr ⟨⟨#[c]⟩, ?_⟩)
            rw [hnext]
            unfold w4
            rw [List.map_append]
            rfl
      · have hlen : (List.map (fun c => PV.str ⟨#[c]⟩) row.cps.toList).length = (cpl row).length := by simp [cpl]
        have hflt : (List.map strL (waysL (cpl row))).filterMap (fun p => match p with
            | .str s => if (s.length : Int) = many then some (.str s) else none
            | p => none) = (waysOf (cpl row) many.toNat).map strL := by
          unfold waysOf
          generalize waysL (cpl row) = V
          induction V with
          | nil => rfl
          | cons w V ih =>
            simp only [List.map_cons, List.filterMap_cons, List.filter_cons, strL]
            have e : (((mk w).length : Int) = many) = ((w.length == many.toNat) = true) := by
              rw [len_mk]; simp; omega
            simp only [e]
            cases hb : w.length == many.toNat with
            | true => simp only [if_true, List.map_cons]; exact congrArg _ ih
            | false => simp only [Bool.false_eq_true, if_false]; exact ih
        unfold wI at hI
        rw [hlen, List.take_of_length_le (Nat.le_refl _)] at hI
        rcases hI with rfl | ⟨m0, rfl⟩
        · unfold w3
          conv => whnf
          refine loop_of (fun p => match p with
            | .str s => if (s.length : Int) = many then some (.str s) else none
            | p => none) (fun p hp Y Z hY => ?_) ?_
          · obtain ⟨w, hw, rfl⟩ := List.mem_map.mp hp
            unfold strL at hY ⊢
            conv => whnf
            refine Br.intro (fun e => ?_) (fun e => ?_)
            · simp only [beq_iff_eq] at e
              simp only [e, if_true] at hY
              conv => whnf
              exact hY
            · have e' : ¬ ((mk w).length : Int) = many := by simpa using e
              simp only [e', if_false] at hY
              exact hY
          · rw [List.nil_append, hflt]
            exact hk
        · unfold w4
          conv => whnf
          refine loop_of (fun p => match p with
            | .str s => if (s.length : Int) = many then some (.str s) else none
            | p => none) (fun p hp Y Z hY => ?_) ?_
          · obtain ⟨w, hw, rfl⟩ := List.mem_map.mp hp
            unfold strL at hY ⊢
            conv => whnf
            refine Br.intro (fun e => ?_) (fun e => ?_)
            · simp only [beq_iff_eq] at e
              simp only [e, if_true] at hY
              conv => whnf
              exact hY
            · have e' : ¬ ((mk w).length : Int) = many := by simpa using e
              simp only [e', if_false] at hY
              exact hY
          · rw [List.nil_append, hflt]
            exact hk
end Mine
namespace Mine

noncomputable def mism (l r : List Nat) (m : Nat) : Nat := ((List.range m).filter fun p => decide (l.getD p 0 ≠ r.getD p 0)).length
noncomputable def pairsOf (one two : List Nat) (m : Nat) : List Int := (waysOf one m).flatMap fun l => (waysOf two m).map fun r => (mism l r m : Int)
noncomputable def leastOf (one two : List Nat) (m : Nat) : Int := minInts (pairsOf one two m)
noncomputable def turnedF (one two : List Nat) : List Int := (List.range (min one.length two.length + 1)).map (leastOf one two)
noncomputable def turnedSpec : PSpec := fun ps K => as0 ps False fun p0 r0 => asS p0 fun one => as1 r0 fun p1 => asS p1 fun two => 
    ((cpl one).length ≤ 3 ∧ (cpl two).length ≤ 3) ∧ K (.list ((turnedF (cpl one) (cpl two)).map PV.int))
noncomputable def G9 : GC := G0.with (Str.ofString "_law_ways") waysSpec
theorem gok9 {W : Wd} (h : Is W) : GOk W 1 G9 := (gok0 h 1).with (ways_ok h)

noncomputable def t3 (one two : Str) (L : List Int) : Loc := [(Str.ofString "one", .val (.str one)), (Str.ofString "two", .val (.str two)), (Str.ofString "least", .own (L.map PV.int))]
noncomputable def t6 (one two : Str) (L : List Int) (m : Nat) (R : List (List Nat)) (T : LV) : Loc := [(Str.ofString "one", .val (.str one)), (Str.ofString "two", .val (.str two)), (Str.ofString "least", .own (L.map PV.int)), (Str.ofString "many", .val (.int m)), (Str.ofString "rights", .val (.list (R.map strL))), (Str.ofString "turned", T)]
noncomputable def t7 (one two : Str) (L : List Int) (m : Nat) (R : List (List Nat)) (T : LV) (l : PV) : Loc := [(Str.ofString "one", .val (.str one)), (Str.ofString "two", .val (.str two)), (Str.ofString "least", .own (L.map PV.int)), (Str.ofString "many", .val (.int m)), (Str.ofString "rights", .val (.list (R.map strL))), (Str.ofString "turned", T), (Str.ofString "left", .val l)]
noncomputable def tI (one two : Str) (i : Nat) (σ : Loc) : Prop := σ = t3 one two ((List.range i).map (leastOf (cpl one) (cpl two))) ∨ ∃ m R T l, σ = t7 one two ((List.range i).map (leastOf (cpl one) (cpl two))) m R (.val (.list T)) l
noncomputable def tJ (one two : Str) (L : List Int) (m : Nat) (k : Nat) (σ : Loc) : Prop :=
  (k = 0 ∧ σ = t6 one two L m (waysOf (cpl two) m) (.own [])) ∨
  ∃ l, σ = t7 one two L m (waysOf (cpl two) m) (.own ((((waysOf (cpl one) m).take k).flatMap fun l => (waysOf (cpl two) m).map fun r => (mism l r m : Int)).map PV.int)) l
theorem waysOf_len {l : List Nat} {m : Nat} (h : l.length ≤ 3) : (waysOf l m).length ≤ 8 ∧ ∀ w ∈ waysOf l m, w.length = m := by
  obtain ⟨h1, _⟩ := ways_len _ l rfl
  refine ⟨Nat.le_trans (List.length_filter_le _ _) ?_, fun w hw => ?_⟩
  · rw [h1]
    have : l.length = 0 ∨ l.length = 1 ∨ l.length = 2 ∨ l.length = 3 := by omega
    rcases this with e | e | e | e <;> rw [e] <;> decide
  · have := (List.mem_filter.mp hw).2
    simpa using this
theorem flat_small {A B : List (List Nat)} {f : List Nat → List Nat → Int} (ha : A.length ≤ 8) (hb : B.length ≤ 8) : (A.flatMap fun l => B.map (f l)).length ≤ 64 := by
  have : ∀ A : List (List Nat), (A.flatMap fun l => B.map (f l)).length = A.length * B.length := by
    intro A
    induction A with
    | nil => simp
    | cons a A ih => rw [List.flatMap_cons, List.length_append, ih, List.length_map, List.length_cons, Nat.add_mul]; omega
  rw [this]
  exact Nat.mul_le_mul ha hb
theorem at_of {w : List Nat} {p m : Nat} (h : w.length = m) (hp : p < m) : (mk w).cps.toList[p]? = some (w.getD p 0) := by
  show (cpl (mk w))[p]? = _
  rw [cpl_mk, List.getElem?_eq_getElem (by omega)]
  simp [List.getD_eq_getElem?_getD, List.getElem?_eq_getElem (show p < w.length by omega)]
noncomputable def misf (l r : List Nat) : PV → Option PV
  | .int i => if l.getD i.toNat 0 = r.getD i.toNat 0 then none else some (.int i)
  | _ => none
theorem mism_items (l r : List Nat) : ∀ ps : List Nat, ((ps.map fun p : Nat => PV.int p).filterMap (misf l r)).length = (ps.filter fun p => decide (l.getD p 0 ≠ r.getD p 0)).length
  | [] => rfl
  | p :: ps => by
    have ih := mism_items l r ps
    simp only [List.map_cons, List.filterMap_cons, List.filter_cons, misf, Int.toNat_natCast]
    by_cases h : l.getD p 0 = r.getD p 0
    · simp only [h, if_true, ne_eq, not_true, decide_false, Bool.false_eq_true, if_false]
      exact ih
    · simp only [h, if_false, ne_eq, not_false_iff, decide_true, if_true, List.length_cons]
      rw [ih]

set_option maxHeartbeats 4000000 in
theorem turned_ok {W : Wd} (h : Is W) : CallOK W 2 (Str.ofString "_law_turned") turnedSpec := by
  refine callOK (names := [Str.ofString "one", Str.ofString "two"]) (rec_mem h (i := 16) (x := Str.ofString "_law_turned") (by rfl)) (by rfl) (by decide +kernel)
    (fun vs pm cd doc hl => ?_) (BW_ok (gok9 h) rfl 12 5 (mu := [Str.ofString "least", Str.ofString "turned"])) fun ps K hs => ?_
  · obtain ⟨a, b, rfl⟩ := len2 hl
    rfl
  · rcases ps with _ | ⟨p0, r0⟩
    · exact False.elim hs
    have hsa := hs
    obtain ⟨one, rfl, hsb⟩ := asS.inv hsa
    obtain ⟨p1, rfl, hsba⟩ := as1.inv hsb
    obtain ⟨two, rfl, hsbb⟩ := asS.inv hsba
    have hs := hsbb
    · obtain ⟨⟨h1, h2⟩, hk⟩ := hs
      refine ⟨rfl, ?_⟩
      have hsz := sizeLine_eq
      conv => whnf
      refine Ob.intro (Nat.zero_le _) ?_
      conv => whnf
      have emin : (if (two.length : Int) < (one.length : Int) then (two.length : Int) else (one.length : Int)) + 1 = ((min (cpl one).length (cpl two).length + 1 : Nat) : Int) := by
        rw [len_cpl, len_cpl]
        split <;> omega
      rw [emin]
      refine Ob.intro ⟨small_of (by decide) (by omega) (by decide) (by rw [count_size]; omega), by rw [count_size]; omega, by rw [count_size]; omega⟩ ?_
      rw [count_items]
      conv => whnf
      refine for_of (tI one two) (.inl rfl) (fun m p σ hi hI X hX => ?_) (fun σ hI => ?_)
      · have hm : m < min (cpl one).length (cpl two).length + 1 := by
          have := (List.getElem?_eq_some_iff.mp hi).1
          simpa using this
        have hp : p = .int m := by
          rw [List.getElem?_map, List.getElem?_range hm] at hi
          simpa using hi.symm
        subst hp
        obtain ⟨hA1, hA2⟩ := waysOf_len (m := m) h1
        obtain ⟨hB1, hB2⟩ := waysOf_len (m := m) h2
        have hApos : 0 < (waysOf (cpl one) m).length := by
          obtain ⟨w, hw, e⟩ := ways_has _ (cpl one) m rfl (by omega)
          exact List.length_pos_of_mem (List.mem_filter.mpr ⟨hw, by simpa using e⟩)
        have hBpos : 0 < (waysOf (cpl two) m).length := by
          obtain ⟨w, hw, e⟩ := ways_has _ (cpl two) m rfl (by omega)
          exact List.length_pos_of_mem (List.mem_filter.mpr ⟨hw, by simpa using e⟩)
        have hne : pairsOf (cpl one) (cpl two) m ≠ [] := by
          obtain ⟨a, ha⟩ := List.exists_mem_of_length_pos hApos
          obtain ⟨b, hb⟩ := List.exists_mem_of_length_pos hBpos
          intro e
          have : (mism a b m : Int) ∈ pairsOf (cpl one) (cpl two) m := List.mem_flatMap.mpr ⟨a, ha, List.mem_map_of_mem hb⟩
          rw [e] at this
          cases this
        have hsnoc : List.map PV.int ((List.range (m + 1)).map (leastOf (cpl one) (cpl two))) = List.map PV.int ((List.range m).map (leastOf (cpl one) (cpl two))) ++ [PV.int (minInts (pairsOf (cpl one) (cpl two) m))] := by
          rw [List.range_succ, List.map_append, List.map_append]; rfl
        unfold tI at hI
        rcases hI with rfl | ⟨m0, R0, T0, l0, rfl⟩
        · unfold t3
          conv => whnf
          refine ⟨⟨h2, by omega⟩, ?_⟩
          conv => whnf
          refine Ob.intro (Nat.zero_le _) ?_
          conv => whnf
          refine ⟨⟨h1, by omega⟩, ?_⟩
          conv => whnf
          refine for_of (tJ one two ((List.range m).map (leastOf (cpl one) (cpl two))) m) (.inl ⟨rfl, rfl⟩) (fun k q σ hk hJ Z hZ => ?_) (fun σ hJ => ?_)
          · obtain ⟨l, hlk, rfl⟩ : ∃ l, (waysOf (cpl one) m)[k]? = some l ∧ q = strL l := by
              rw [List.getElem?_map, Option.map_eq_some_iff] at hk
              obtain ⟨l, hl, rfl⟩ := hk
              exact ⟨l, hl, rfl⟩
            have hkl : k < (waysOf (cpl one) m).length := (List.getElem?_eq_some_iff.mp hlk).1
            have hll : l.length = m := hA2 l (List.mem_of_getElem? hlk)
            have hnext : (((waysOf (cpl one) m).take (k + 1)).flatMap fun l => (waysOf (cpl two) m).map fun r => (mism l r m : Int)).map PV.int =
                (((waysOf (cpl one) m).take k).flatMap fun l => (waysOf (cpl two) m).map fun r => (mism l r m : Int)).map PV.int ++ (List.map strL (waysOf (cpl two) m)).map (fun q => match q with
                  | .str r => .int (mism l (cpl r) m : Nat)
                  | q => q) := by
              rw [List.take_succ_eq_append_getElem hkl, (List.getElem?_eq_some_iff.mp hlk).2, List.flatMap_append, List.map_append, List.flatMap_singleton, List.map_map, List.map_map]
              congr 1
            have hsm := flat_small (A := (waysOf (cpl one) m).take k) (B := waysOf (cpl two) m) (f := fun l r => (mism l r m : Int)) (by simp; omega) hB1
            rcases hJ with ⟨rfl, rfl⟩ | ⟨l0, rfl⟩
            · have hnext : (((waysOf (cpl one) m).take (0 + 1)).flatMap fun l => (waysOf (cpl two) m).map fun r => (mism l r m : Int)).map PV.int = [] ++ (List.map strL (waysOf (cpl two) m)).map (fun q => match q with
                  | .str r => .int (mism l (cpl r) m : Nat)
                  | q => q) := hnext
              unfold t6
              conv => whnf
              refine loop_map (fun q => match q with
                | .str r => .int (mism l (cpl r) m : Nat)
                | q => q) (fun q hq V hV => ?_) ?_
              · obtain ⟨r, hr, rfl⟩ := List.mem_map.mp hq
                have hrl := hB2 r hr
                simp only [strL, cpl_mk] at hV
                unfold strL
                conv => whnf
                refine Ob.intro ⟨small_of (by decide) (by omega) (by decide) (by rw [count_size]; omega), by rw [count_size]; omega, by rw [count_size]; omega⟩ ?_
                rw [count_items]
                conv => whnf
                refine loop_of (misf l r) (fun z hz Y U hY => ?_) ?_
                · obtain ⟨pl, hpl, rfl⟩ := List.mem_map.mp hz
                  have hplm := List.mem_range.mp hpl
                  simp only [misf, Int.toNat_natCast] at hY
                  conv => whnf
                  refine Ex.intro _ (item_nat (at_of hll hplm)) ?_
                  conv => whnf
                  refine Ex.intro _ (item_nat (at_of hrl hplm)) ?_
                  conv => whnf
                  refine Br.intro (fun e => ?_) (fun e => ?_)
                  · have hne : ¬ l.getD pl 0 = r.getD pl 0 := by simpa using e
                    rw [if_neg hne] at hY
                    conv => whnf
                    exact hY
                  · have heq : l.getD pl 0 = r.getD pl 0 := by simpa using e
                    rw [if_pos heq] at hY
                    exact hY
                · rw [List.nil_append]
                  conv => whnf
                  rw [mism_items]
                  exact hV
              · rw [List.nil_append]
                conv => whnf
                refine Ob.intro (by simp only [List.length_map, List.length_nil]; omega) ?_
                conv => whnf
                refine hZ _ (.inr ⟨strL l, ?_⟩)
                rw [hnext]
                rfl
            · unfold t7
              conv => whnf
              refine loop_map (fun q => match q with
                | .str r => .int (mism l (cpl r) m : Nat)
                | q => q) (fun q hq V hV => ?_) ?_
              · obtain ⟨r, hr, rfl⟩ := List.mem_map.mp hq
                have hrl := hB2 r hr
                simp only [strL, cpl_mk] at hV
                unfold strL
                conv => whnf
                refine Ob.intro ⟨small_of (by decide) (by omega) (by decide) (by rw [count_size]; omega), by rw [count_size]; omega, by rw [count_size]; omega⟩ ?_
                rw [count_items]
                conv => whnf
                refine loop_of (misf l r) (fun z hz Y U hY => ?_) ?_
                · obtain ⟨pl, hpl, rfl⟩ := List.mem_map.mp hz
                  have hplm := List.mem_range.mp hpl
                  simp only [misf, Int.toNat_natCast] at hY
                  conv => whnf
                  refine Ex.intro _ (item_nat (at_of hll hplm)) ?_
                  conv => whnf
                  refine Ex.intro _ (item_nat (at_of hrl hplm)) ?_
                  conv => whnf
                  refine Br.intro (fun e => ?_) (fun e => ?_)
                  · have hne : ¬ l.getD pl 0 = r.getD pl 0 := by simpa using e
                    rw [if_neg hne] at hY
                    conv => whnf
                    exact hY
                  · have heq : l.getD pl 0 = r.getD pl 0 := by simpa using e
                    rw [if_pos heq] at hY
                    exact hY
                · rw [List.nil_append]
                  conv => whnf
                  rw [mism_items]
                  exact hV
              · rw [List.nil_append]
                conv => whnf
                refine Ob.intro (by simp only [List.length_map, List.length_nil]; omega) ?_
                conv => whnf
                refine hZ _ (.inr ⟨strL l, ?_⟩)
                rw [hnext]
                rfl
          · simp only [List.length_map, Int.toNat_natCast] at hJ
            rcases hJ with ⟨e0, _⟩ | ⟨l0, rfl⟩
            · omega
            · rw [List.take_length]
              unfold t7
              conv => whnf
              refine Ex.intro _ (ints_map _) ?_
              conv => whnf
              refine Ob.intro hne ?_
              conv => whnf
              refine Ob.intro (by simp; omega) ?_
              conv => whnf
              refine hX _ (.inr ⟨m, waysOf (cpl two) m, (pairsOf (cpl one) (cpl two) m).map PV.int, l0, ?_⟩)
              unfold t7
              rw [hsnoc]
              rfl
        · unfold t7
          conv => whnf
          refine ⟨⟨h2, by omega⟩, ?_⟩
          conv => whnf
          refine Ob.intro (Nat.zero_le _) ?_
          conv => whnf
          refine ⟨⟨h1, by omega⟩, ?_⟩
          conv => whnf
          refine for_of (tJ one two ((List.range m).map (leastOf (cpl one) (cpl two))) m) (.inr ⟨l0, rfl⟩) (fun k q σ hk hJ Z hZ => ?_) (fun σ hJ => ?_)
          · obtain ⟨l, hlk, rfl⟩ : ∃ l, (waysOf (cpl one) m)[k]? = some l ∧ q = strL l := by
              rw [List.getElem?_map, Option.map_eq_some_iff] at hk
              obtain ⟨l, hl, rfl⟩ := hk
              exact ⟨l, hl, rfl⟩
            have hkl : k < (waysOf (cpl one) m).length := (List.getElem?_eq_some_iff.mp hlk).1
            have hll : l.length = m := hA2 l (List.mem_of_getElem? hlk)
            have hnext : (((waysOf (cpl one) m).take (k + 1)).flatMap fun l => (waysOf (cpl two) m).map fun r => (mism l r m : Int)).map PV.int =
                (((waysOf (cpl one) m).take k).flatMap fun l => (waysOf (cpl two) m).map fun r => (mism l r m : Int)).map PV.int ++ (List.map strL (waysOf (cpl two) m)).map (fun q => match q with
                  | .str r => .int (mism l (cpl r) m : Nat)
                  | q => q) := by
              rw [List.take_succ_eq_append_getElem hkl, (List.getElem?_eq_some_iff.mp hlk).2, List.flatMap_append, List.map_append, List.flatMap_singleton, List.map_map, List.map_map]
              congr 1
            have hsm := flat_small (A := (waysOf (cpl one) m).take k) (B := waysOf (cpl two) m) (f := fun l r => (mism l r m : Int)) (by simp; omega) hB1
            rcases hJ with ⟨rfl, rfl⟩ | ⟨l0, rfl⟩
            · have hnext : (((waysOf (cpl one) m).take (0 + 1)).flatMap fun l => (waysOf (cpl two) m).map fun r => (mism l r m : Int)).map PV.int = [] ++ (List.map strL (waysOf (cpl two) m)).map (fun q => match q with
                  | .str r => .int (mism l (cpl r) m : Nat)
                  | q => q) := hnext
              unfold t6
              conv => whnf
              refine loop_map (fun q => match q with
                | .str r => .int (mism l (cpl r) m : Nat)
                | q => q) (fun q hq V hV => ?_) ?_
              · obtain ⟨r, hr, rfl⟩ := List.mem_map.mp hq
                have hrl := hB2 r hr
                simp only [strL, cpl_mk] at hV
                unfold strL
                conv => whnf
                refine Ob.intro ⟨small_of (by decide) (by omega) (by decide) (by rw [count_size]; omega), by rw [count_size]; omega, by rw [count_size]; omega⟩ ?_
                rw [count_items]
                conv => whnf
                refine loop_of (misf l r) (fun z hz Y U hY => ?_) ?_
                · obtain ⟨pl, hpl, rfl⟩ := List.mem_map.mp hz
                  have hplm := List.mem_range.mp hpl
                  simp only [misf, Int.toNat_natCast] at hY
                  conv => whnf
                  refine Ex.intro _ (item_nat (at_of hll hplm)) ?_
                  conv => whnf
                  refine Ex.intro _ (item_nat (at_of hrl hplm)) ?_
                  conv => whnf
                  refine Br.intro (fun e => ?_) (fun e => ?_)
                  · have hne : ¬ l.getD pl 0 = r.getD pl 0 := by simpa using e
                    rw [if_neg hne] at hY
                    conv => whnf
                    exact hY
                  · have heq : l.getD pl 0 = r.getD pl 0 := by simpa using e
                    rw [if_pos heq] at hY
                    exact hY
                · rw [List.nil_append]
                  conv => whnf
                  rw [mism_items]
                  exact hV
              · rw [List.nil_append]
                conv => whnf
                refine Ob.intro (by simp only [List.length_map, List.length_nil]; omega) ?_
                conv => whnf
                refine hZ _ (.inr ⟨strL l, ?_⟩)
                rw [hnext]
                rfl
            · unfold t7
              conv => whnf
              refine loop_map (fun q => match q with
                | .str r => .int (mism l (cpl r) m : Nat)
                | q => q) (fun q hq V hV => ?_) ?_
              · obtain ⟨r, hr, rfl⟩ := List.mem_map.mp hq
                have hrl := hB2 r hr
                simp only [strL, cpl_mk] at hV
                unfold strL
                conv => whnf
                refine Ob.intro ⟨small_of (by decide) (by omega) (by decide) (by rw [count_size]; omega), by rw [count_size]; omega, by rw [count_size]; omega⟩ ?_
                rw [count_items]
                conv => whnf
                refine loop_of (misf l r) (fun z hz Y U hY => ?_) ?_
                · obtain ⟨pl, hpl, rfl⟩ := List.mem_map.mp hz
                  have hplm := List.mem_range.mp hpl
                  simp only [misf, Int.toNat_natCast] at hY
                  conv => whnf
                  refine Ex.intro _ (item_nat (at_of hll hplm)) ?_
                  conv => whnf
                  refine Ex.intro _ (item_nat (at_of hrl hplm)) ?_
                  conv => whnf
                  refine Br.intro (fun e => ?_) (fun e => ?_)
                  · have hne : ¬ l.getD pl 0 = r.getD pl 0 := by simpa using e
                    rw [if_neg hne] at hY
                    conv => whnf
                    exact hY
                  · have heq : l.getD pl 0 = r.getD pl 0 := by simpa using e
                    rw [if_pos heq] at hY
                    exact hY
                · rw [List.nil_append]
                  conv => whnf
                  rw [mism_items]
                  exact hV
              · rw [List.nil_append]
                conv => whnf
                refine Ob.intro (by simp only [List.length_map, List.length_nil]; omega) ?_
                conv => whnf
                refine hZ _ (.inr ⟨strL l, ?_⟩)
                rw [hnext]
                rfl
          · simp only [List.length_map, Int.toNat_natCast] at hJ
            rcases hJ with ⟨e0, _⟩ | ⟨l0, rfl⟩
            · omega
            · rw [List.take_length]
              unfold t7
              conv => whnf
              refine Ex.intro _ (ints_map _) ?_
              conv => whnf
              refine Ob.intro hne ?_
              conv => whnf
              refine Ob.intro (by simp; omega) ?_
              conv => whnf
              refine hX _ (.inr ⟨m, waysOf (cpl two) m, (pairsOf (cpl one) (cpl two) m).map PV.int, l0, ?_⟩)
              unfold t7
              rw [hsnoc]
              rfl
      · have hln : (List.map (fun i : Nat => PV.int i) (List.range (min (cpl one).length (cpl two).length + 1))).length = min (cpl one).length (cpl two).length + 1 := by simp
        unfold tI at hI
        rw [hln] at hI
        rcases hI with rfl | ⟨m, R, T, l, rfl⟩
        · unfold t3
          conv => whnf
          exact hk
        · unfold t7
          conv => whnf
          exact hk
end Mine
namespace Mine

/-! ### the price, reckoned row by row -/
noncomputable def nxt (c : Nat → Nat → Nat) (x : Nat) : List Nat → List Nat → List Nat
  | [], r => [r.headD 0 + 2]
  | y :: b, r => (fun t => min (r.tail.headD 0 + c x y) (min (r.headD 0 + 2) (t.headD 0 + 2)) :: t) (nxt c x b r.tail)
noncomputable def base : List Nat → List Nat
  | [] => [0]
  | _ :: b => (fun t => (t.headD 0 + 2) :: t) (base b)
noncomputable def dpRow (c : Nat → Nat → Nat) : List Nat → List Nat → List Nat
  | [], b => base b
  | x :: a, b => nxt c x b (dpRow c a b)
noncomputable def fd (c : Nat → Nat → Nat) (a b : List Nat) : Nat := (dpRow c a b).headD 0
noncomputable def rowOf (f : List Nat → Nat) : List Nat → List Nat
  | [] => [f []]
  | y :: b => f (y :: b) :: rowOf f b
theorem rowOf_head (f : List Nat → Nat) (b : List Nat) : (rowOf f b).headD 0 = f b := by cases b <;> rfl
theorem base_is (c : Nat → Nat → Nat) : ∀ b : List Nat, base b = rowOf (D c []) b
  | [] => by simp [base, rowOf, D_nil]
  | y :: b => by
    have ih := base_is c b
    simp only [base, rowOf, ih, rowOf_head, D_nil, List.length_cons]
    congr 1
theorem nxt_is (c : Nat → Nat → Nat) (x : Nat) (a : List Nat) : ∀ b : List Nat, nxt c x b (rowOf (D c a) b) = rowOf (D c (x :: a)) b
  | [] => by simp [nxt, rowOf, D_nil']; omega
  | y :: b => by
    have ih := nxt_is c x a b
    simp only [nxt, rowOf, List.tail_cons, List.headD_cons, ih, rowOf_head]
    rw [D_cons]
theorem dpRow_is (c : Nat → Nat → Nat) : ∀ a b : List Nat, dpRow c a b = rowOf (D c a) b
  | [], b => base_is c b
  | x :: a, b => by rw [dpRow, dpRow_is c a b, nxt_is]
theorem fd_is (c : Nat → Nat → Nat) (a b : List Nat) : fd c a b = D c a b := by
  unfold fd
  rw [dpRow_is, rowOf_head]

theorem D_congr {c c' : Nat → Nat → Nat} : ∀ (a b : List Nat), (∀ x ∈ a, ∀ y ∈ b, c x y = c' x y) → D c a b = D c' a b
  | [], b, _ => by rw [D_nil, D_nil]
  | x :: a, [], _ => by rw [D_nil', D_nil']
  | x :: a, y :: b, h => by
    rw [D_cons, D_cons, D_congr a b fun u hu v hv => h u (List.mem_cons_of_mem _ hu) v (List.mem_cons_of_mem _ hv),
      D_congr a (y :: b) fun u hu v hv => h u (List.mem_cons_of_mem _ hu) v hv, D_congr (x :: a) b fun u hu v hv => h u hu v (List.mem_cons_of_mem _ hv), h x List.mem_cons_self y List.mem_cons_self]
  termination_by a b => a.length + b.length

/-- the signs that stand in the rows and in their references -/
noncomputable def alpha : List Nat := [60, 62, 13, 10, 9, 38, 108, 116, 103, 59, 35, 49, 51, 48, 120, 68, 57, 97, 109, 112]
noncomputable def c2 (x y : Nat) : Nat := match Nat.beq x y with | true => 0 | false => 2
theorem cst_alpha : ∀ x ∈ alpha, ∀ y ∈ alpha, cst x y = c2 x y := by decide +kernel

noncomputable def dueI (p : Int) (one two : List Nat) : Int :=
  minInts ((List.range (turnedF one two).length).map fun m : Nat => p * (((one.length : Int) + two.length) - 2 * (m : Int)) + 2 * (turnedF one two).getD m 0)
noncomputable def rows2 (u v : Nat) : List (List Nat) := [[], [u], [v], [u, u], [u, v], [v, u], [v, v]]
noncomputable def rows3 (u v : Nat) : List (List Nat) := rows2 u v ++ (rows2 u v).flatMap fun r => if r.length = 2 then [u :: r, v :: r] else []
noncomputable def tab (f : List Nat → List Nat) (p : Int) (rs : List (List Nat)) : Bool := rs.all fun one => rs.all fun two => (decide ((fd c2 (f one) (f two) : Int) = dueI p one two) && (Nat.ble (f one).length 40 && (f one).all fun d => alpha.contains d))

structure Hand where
  k : Nat
  u : Nat
  v : Nat
  size : Nat
noncomputable def hands : List Hand := [⟨0, 60, 62, 4⟩, ⟨1, 60, 62, 4⟩, ⟨3, 60, 62, 4⟩, ⟨1, 13, 10, 5⟩, ⟨4, 9, 13, 5⟩]
theorem tab0a : tab id 2 (rows3 60 62) = true := by decide +kernel
theorem tab0b : tab id 2 (rows3 13 10) = true := by decide +kernel
theorem tab0c : tab id 2 (rows3 9 13) = true := by decide +kernel
theorem tab1a : tab (escL 0) 8 (rows3 60 62) = true := by decide +kernel
theorem tab1b : tab (escL 1) 8 (rows3 60 62) = true := by decide +kernel
theorem tab1c : tab (escL 3) 8 (rows3 60 62) = true := by decide +kernel
theorem tab1d : tab (escL 1) 10 (rows3 13 10) = true := by decide +kernel
theorem tab1e : tab (escL 4) 10 (rows3 9 13) = true := by decide +kernel
theorem tab2a : tab (fun l => escL 0 (escL 0 l)) 16 (rows2 60 62) = true := by decide +kernel
theorem tab2b : tab (fun l => escL 0 (escL 1 l)) 16 (rows2 60 62) = true := by decide +kernel
theorem tab2c : tab (fun l => escL 0 (escL 3 l)) 16 (rows2 60 62) = true := by decide +kernel
theorem tab2d : tab (fun l => escL 0 (escL 1 l)) 18 (rows2 13 10) = true := by decide +kernel
theorem tab2e : tab (fun l => escL 0 (escL 4 l)) 18 (rows2 9 13) = true := by decide +kernel

noncomputable def rowIn (u v : Nat) (r : List Nat) : Prop := ∀ d ∈ r, d = u ∨ d = v
theorem in_rows2 {u v : Nat} {r : List Nat} (hl : r.length ≤ 2) (h : rowIn u v r) : r ∈ rows2 u v := by
  match r, hl with
  | [], _ => simp [rows2]
  | [a], _ =>
    have := h a (by simp)
    rcases this with rfl | rfl <;> simp [rows2]
  | [a, b], _ =>
    have h1 := h a (by simp)
    have h2 := h b (by simp)
    rcases h1 with rfl | rfl <;> rcases h2 with rfl | rfl <;> simp [rows2]
theorem in_rows3 {u v : Nat} {r : List Nat} (hl : r.length ≤ 3) (h : rowIn u v r) : r ∈ rows3 u v := by
  by_cases h2 : r.length ≤ 2
  · exact List.mem_append_left _ (in_rows2 h2 h)
  · obtain ⟨a, b, c, rfl⟩ := len3 (vs := r) (by omega)
    have h1 := h a (by simp)
    refine List.mem_append_right _ (List.mem_flatMap.mpr ⟨[b, c], in_rows2 (by simp) (fun d hd => h d (List.mem_cons_of_mem _ hd)), ?_⟩)
    rcases h1 with rfl | rfl <;> simp
theorem tab_at {f : List Nat → List Nat} {p : Int} {rs : List (List Nat)} (h : tab f p rs = true) {one two : List Nat} (h1 : one ∈ rs) (h2 : two ∈ rs) :
    (D cst (f one) (f two) : Int) = dueI p one two ∧ (f one).length ≤ 40 ∧ (f two).length ≤ 40 := by
  unfold tab at h
  have get : ∀ a ∈ rs, ∀ b ∈ rs, ((fd c2 (f a) (f b) : Int) = dueI p a b) ∧ (f a).length ≤ 40 ∧ ∀ d ∈ f a, d ∈ alpha := by
    intro a ha b hb
    have := List.all_eq_true.mp (List.all_eq_true.mp h a ha) b hb
    simp only [Bool.and_eq_true, decide_eq_true_eq, List.all_eq_true, List.contains_iff_mem] at this
    exact ⟨this.1, Nat.le_of_ble_eq_true this.2.1, this.2.2⟩
  have g1 := get one h1 two h2
  have g2 := get two h2 one h1
  refine ⟨?_, g1.2.1, g2.2.1⟩
  rw [D_congr (c' := c2) _ _ fun x hx y hy => cst_alpha x (g1.2.2 x hx) y (g2.2.2 y hy), ← fd_is]
  exact g1.1
theorem escL_append (k : Nat) (a b : List Nat) : escL k (a ++ b) = escL k a ++ escL k b := by simp [escL]
theorem escL_len {k : Nat} {l : List Nat} {n : Nat} (h : l.length ≤ n) : (escL k l).length ≤ 6 * n := flat_len (escT_len k) h
/-- the price and the fit of two texts that share what stands ahead and behind -/
theorem between {P S a b : List Nat} {p : Int} {one two : List Nat} (h : (D cst a b : Int) = dueI p one two ∧ a.length ≤ 40 ∧ b.length ≤ 40) :
    (D cst (P ++ a ++ S) (P ++ b ++ S) : Int) = dueI p one two ∧ levFits (P ++ a ++ S) (P ++ b ++ S) ∧ levFits (P ++ b ++ S) (P ++ a ++ S) := by
  refine ⟨?_, ?_, ?_⟩
  · rw [D_suffix cst cst_same, D_prefix cst cst_same]; exact h.1
  · rcases strip_short P a b S with h1 | h1 | h1
    · exact .inl h1
    · exact .inr (.inl h1)
    · exact .inr (.inr ⟨by omega, by omega⟩)
  · rcases strip_short P b a S with h1 | h1 | h1
    · exact .inl h1
    · exact .inr (.inl h1)
    · exact .inr (.inr ⟨by omega, by omega⟩)
theorem level0 {H : Hand} (hH : H ∈ hands) {one two : List Nat} (h1 : one.length ≤ 3) (h2 : two.length ≤ 3) (g1 : rowIn H.u H.v one) (g2 : rowIn H.u H.v two) (P S : List Nat) :
    (D cst (P ++ one ++ S) (P ++ two ++ S) : Int) = dueI 2 one two ∧ levFits (P ++ one ++ S) (P ++ two ++ S) ∧ levFits (P ++ two ++ S) (P ++ one ++ S) := by
  refine between ?_
  have m1 := in_rows3 h1 g1
  have m2 := in_rows3 h2 g2
  simp only [hands, List.mem_cons, List.not_mem_nil, or_false] at hH
  rcases hH with rfl | rfl | rfl | rfl | rfl
  · exact tab_at tab0a m1 m2
  · exact tab_at tab0a m1 m2
  · exact tab_at tab0a m1 m2
  · exact tab_at tab0b m1 m2
  · exact tab_at tab0c m1 m2
theorem level1 {H : Hand} (hH : H ∈ hands) {one two : List Nat} (h1 : one.length ≤ 3) (h2 : two.length ≤ 3) (g1 : rowIn H.u H.v one) (g2 : rowIn H.u H.v two) (P S : List Nat) :
    (D cst (escL H.k (P ++ one ++ S)) (escL H.k (P ++ two ++ S)) : Int) = dueI (2 * H.size) one two ∧ levFits (escL H.k (P ++ one ++ S)) (escL H.k (P ++ two ++ S)) ∧ levFits (escL H.k (P ++ two ++ S)) (escL H.k (P ++ one ++ S)) := by
  rw [escL_append, escL_append, escL_append, escL_append]
  refine between ?_
  have m1 := in_rows3 h1 g1
  have m2 := in_rows3 h2 g2
  simp only [hands, List.mem_cons, List.not_mem_nil, or_false] at hH
  rcases hH with rfl | rfl | rfl | rfl | rfl
  · exact tab_at tab1a m1 m2
  · exact tab_at tab1b m1 m2
  · exact tab_at tab1c m1 m2
  · exact tab_at tab1d m1 m2
  · exact tab_at tab1e m1 m2
theorem refs_in : ∀ H ∈ [(0, 60), (0, 62), (1, 60), (1, 62), (3, 60), (3, 62), (1, 13), (1, 10), (4, 9), (4, 13)], ∀ d ∈ escT H.1 H.2, ∀ k ∈ [0, 1, 2, 3, 4], escT k d = escT 0 d := by decide +kernel
theorem esc_again {H : Hand} (hH : H ∈ hands) {k : Nat} (hk : k ≤ 4) : ∀ {l : List Nat}, rowIn H.u H.v l → escL k (escL H.k l) = escL 0 (escL H.k l)
  | [], _ => rfl
  | d :: l, h => by
    have ih := esc_again hH hk (l := l) fun e he => h e (List.mem_cons_of_mem _ he)
    have hd := h d List.mem_cons_self
    show escL k (escL H.k ([d] ++ l)) = escL 0 (escL H.k ([d] ++ l))
    rw [escL_append, escL_append, escL_append, ih]
    congr 1
    have hk' : k ∈ [0, 1, 2, 3, 4] := by
      have : k = 0 ∨ k = 1 ∨ k = 2 ∨ k = 3 ∨ k = 4 := by omega
      simpa using this
    have key : ∀ w : List Nat, (∀ e ∈ w, escT k e = escT 0 e) → escL k w = escL 0 w := by
      intro w hw
      unfold escL
      induction w with
      | nil => rfl
      | cons e w ihw => rw [List.flatMap_cons, List.flatMap_cons, hw e List.mem_cons_self, ihw fun x hx => hw x (List.mem_cons_of_mem _ hx)]
    refine key _ fun e he => ?_
    have he : e ∈ escT H.k d := by simpa [escL] using he
    have hm : (H.k, d) ∈ [(0, 60), (0, 62), (1, 60), (1, 62), (3, 60), (3, 62), (1, 13), (1, 10), (4, 9), (4, 13)] := by
      simp only [hands, List.mem_cons, List.not_mem_nil, or_false] at hH
      rcases hH with rfl | rfl | rfl | rfl | rfl <;> rcases hd with rfl | rfl <;> decide
    exact refs_in (H.k, d) hm e he k hk'
theorem level2 {H : Hand} (hH : H ∈ hands) {k : Nat} (hk : k ≤ 4) {one two : List Nat} (h1 : one.length ≤ 2) (h2 : two.length ≤ 2) (g1 : rowIn H.u H.v one) (g2 : rowIn H.u H.v two) (P S : List Nat) :
    (D cst (escL k (escL H.k (P ++ one ++ S))) (escL k (escL H.k (P ++ two ++ S))) : Int) = dueI (2 * H.size + 8) one two ∧ levFits (escL k (escL H.k (P ++ one ++ S))) (escL k (escL H.k (P ++ two ++ S))) ∧
      levFits (escL k (escL H.k (P ++ two ++ S))) (escL k (escL H.k (P ++ one ++ S))) := by
  simp only [escL_append]
  refine between ?_
  rw [esc_again hH hk g1, esc_again hH hk g2]
  have m1 := in_rows2 h1 g1
  have m2 := in_rows2 h2 g2
  simp only [hands, List.mem_cons, List.not_mem_nil, or_false] at hH
  rcases hH with rfl | rfl | rfl | rfl | rfl
  · exact tab_at tab2a m1 m2
  · exact tab_at tab2b m1 m2
  · exact tab_at tab2c m1 m2
  · exact tab_at tab2d m1 m2
  · exact tab_at tab2e m1 m2
end Mine
namespace Mine

noncomputable def toldSpec : PSpec := fun ps K => as0 ps False fun p0 r0 => asS p0 fun one => as0 r0 False fun p1 r1 => asS p1 fun two => as0 r1 False fun p2 r2 => asI p2 fun due => as1 r2 fun p3 => asI p3 fun bound => 
    (one.length ≤ 1000 ∧ two.length ≤ 1000 ∧ levFits (cpl one) (cpl two) ∧ levFits (cpl two) (cpl one) ∧ due = (D cst (cpl one) (cpl two) : Nat)) ∧ K (.bool true)
noncomputable def G10 : GC := G0.with (Str.ofString "_levenshtein_distance") levSpec
theorem gok10 {W : Wd} (h : Is W) : GOk W 2 G10 := (gok0 h 2).with (lev_ok h)
theorem len4 {α : Type} {vs : List α} (h : vs.length = 4) : ∃ a b c d, vs = [a, b, c, d] := by
  match vs, h with
  | [a, b, c, d], _ => exact ⟨a, b, c, d, rfl⟩

noncomputable def u4 (one two : Str) (due bound : Int) : Loc := [(Str.ofString "one", .val (.str one)), (Str.ofString "two", .val (.str two)), (Str.ofString "due", .val (.int due)), (Str.ofString "bound", .val (.int bound))]
noncomputable def u8 (one two : Str) (due bound : Int) (x y : Str) (l r : Int) : Loc := [(Str.ofString "one", .val (.str one)), (Str.ofString "two", .val (.str two)), (Str.ofString "due", .val (.int due)), (Str.ofString "bound", .val (.int bound)),
  (Str.ofString "ahead", .val (.str x)), (Str.ofString "behind", .val (.str y)), (Str.ofString "limit", .val (.int l)), (Str.ofString "told", .val (.int r))]
noncomputable def uI (one two : Str) (due bound : Int) (i : Nat) (σ : Loc) : Prop := σ = u4 one two due bound ∨ ∃ x y l r, σ = u8 one two due bound x y l r
theorem told_false {d1 : Nat} {l r : Int} {due : Int} (e3 : due = d1) (hr : LevOk d1 l r) (h : (r != due) = true) (h2 : (decide (due ≤ l)) = true ∨ (r != l + 1) = true) : False := by
  simp at h h2
  rcases hr with h3 | ⟨h3, h4⟩ <;> omega
set_option maxHeartbeats 4000000 in
theorem told_body (one two : Str) (due bound : Int) (K : PV → Prop) (d1 : Nat) (h1 : one.length ≤ 1000) (h2 : two.length ≤ 1000) (h3 : levFits (cpl one) (cpl two)) (h4 : levFits (cpl two) (cpl one))
    (e1 : D cst (cpl one) (cpl two) = d1) (e2 : D cst (cpl two) (cpl one) = d1) (e3 : due = d1) (hk : K (.bool true)) :
    BW G10 [] 12 6 (drOf pr 17).scope.names (drOf pr 17).body (startσ [Str.ofString "one", Str.ofString "two", Str.ofString "due", Str.ofString "bound"] [.str one, .str two, .int due, .int bound]) (retK K) := by
  have hsz := sizeLine_eq
  conv => whnf
  refine Ob.intro (by show 3 ≤ sizeLine; omega) ?_
  conv => whnf
  refine Ob.intro (by show 3 ≤ sizeLine; omega) ?_
  conv => whnf
  refine Ob.intro (by show 3 ≤ sizeLine; omega) ?_
  conv => whnf
  refine Ob.intro (by show 3 ≤ sizeLine; omega) ?_
  refine for_of (uI one two due bound) (.inl rfl) (fun k p σ hk' hI X hX => ?_) (fun σ hI => ?_)
  · obtain ⟨x, y, l, rfl, g1, g2, g3, g4⟩ : ∃ x y l, p = .tuple [.str x, .str y, .int l] ∧ x.length ≤ 1000 ∧ y.length ≤ 1000 ∧ levFits (cpl x) (cpl y) ∧ D cst (cpl x) (cpl y) = d1 := by
      match k, hk' with
      | 0, hk' => cases hk'; exact ⟨_, _, _, rfl, h1, h2, h3, e1⟩
      | 1, hk' => cases hk'; exact ⟨_, _, _, rfl, h2, h1, h4, e2⟩
      | 2, hk' => cases hk'; exact ⟨_, _, _, rfl, h1, h2, h3, e1⟩
    rcases hI with rfl | ⟨x0, y0, l0, r0, rfl⟩
    · unfold u4
      conv => whnf
      refine ⟨⟨g1, g2, g3⟩, fun r hr => ?_⟩
      rw [g4] at hr
      conv => whnf
      refine Ex.intro _ rfl ?_
      conv => whnf
      refine Br.intro (fun e => by simp at e) (fun _ => ?_)
      have hfin := hX (u8 one two due bound x y l r) (.inr ⟨x, y, l, r, rfl⟩)
      conv => whnf
      refine Br.intro (fun e => ?_) (fun e => ?_)
      · conv => whnf
        refine Br.intro (fun e5 => (told_false e3 hr e (.inl e5)).elim) (fun e5 => ?_)
        conv => whnf
        refine Br.intro (fun e6 => (told_false e3 hr e (.inr e6)).elim) (fun e6 => ?_)
        conv => whnf
        refine Br.ff ?_
        conv => whnf
        refine Br.ff ?_
        conv => whnf
        exact hfin
      · conv => whnf
        refine Br.ff ?_
        conv => whnf
        exact hfin
    · unfold u8
      conv => whnf
      refine ⟨⟨g1, g2, g3⟩, fun r hr => ?_⟩
      rw [g4] at hr
      conv => whnf
      refine Ex.intro _ rfl ?_
      conv => whnf
      refine Br.intro (fun e => by simp at e) (fun _ => ?_)
      have hfin := hX (u8 one two due bound x y l r) (.inr ⟨x, y, l, r, rfl⟩)
      conv => whnf
      refine Br.intro (fun e => ?_) (fun e => ?_)
      · conv => whnf
        refine Br.intro (fun e5 => (told_false e3 hr e (.inl e5)).elim) (fun e5 => ?_)
        conv => whnf
        refine Br.intro (fun e6 => (told_false e3 hr e (.inr e6)).elim) (fun e6 => ?_)
        conv => whnf
        refine Br.ff ?_
        conv => whnf
        refine Br.ff ?_
        conv => whnf
        exact hfin
      · conv => whnf
        refine Br.ff ?_
        conv => whnf
        exact hfin
  · rcases hI with rfl | ⟨x0, y0, l0, r0, rfl⟩
    · unfold u4
      conv => whnf
      exact hk
    · unfold u8
      conv => whnf
      exact hk
theorem told_ok {W : Wd} (h : Is W) : CallOK W 3 (Str.ofString "_law_told") toldSpec := by
  refine callOK (names := [Str.ofString "one", Str.ofString "two", Str.ofString "due", Str.ofString "bound"]) (rec_mem h (i := 17) (x := Str.ofString "_law_told") (by rfl)) (by rfl) (by decide +kernel)
    (fun vs pm cd doc hl => ?_) (BW_ok (gok10 h) rfl 12 6 (mu := [])) fun ps K hs => ?_
  · obtain ⟨a, b, c, d, rfl⟩ := len4 hl
    rfl
  · rcases ps with _ | ⟨p0, r0⟩
    · exact False.elim hs
    have hsa := hs
    obtain ⟨one, rfl, hsb⟩ := asS.inv hsa
    rcases r0 with _ | ⟨p1, r1⟩
    · exact False.elim hsb
    have hsba := hsb
    obtain ⟨two, rfl, hsbb⟩ := asS.inv hsba
    rcases r1 with _ | ⟨p2, r2⟩
    · exact False.elim hsbb
    have hsbba := hsbb
    obtain ⟨due, rfl, hsbbb⟩ := asI.inv hsbba
    obtain ⟨p3, rfl, hsbbba⟩ := as1.inv hsbbb
    obtain ⟨bound, rfl, hsbbbb⟩ := asI.inv hsbbba
    have hs := hsbbbb
    · obtain ⟨⟨h1, h2, h3, h4, hdue⟩, hk⟩ := hs
      exact ⟨rfl, told_body one two due bound K _ h1 h2 h3 h4 rfl (D_symm cst cst_symm _ _) hdue hk⟩
end Mine
namespace Mine

/-- a comprehension whose items answer with something of a kind -/
theorem loop_rel {r : WE} {t : WT} {scn : Sc} {elt : Expr} {x : Str} {σ : Loc} (R : PV → Prop) : ∀ {xs acc : List PV} {K : List PV → Prop},
    (∀ p ∈ xs, ∀ X : PV → Prop, (∀ y, R y → X y) → r scn elt (set σ x (.val p)) X) → (∀ ys : List PV, ys.length = xs.length → (∀ y ∈ ys, R y) → K (acc ++ ys)) → loopW r t scn elt x [] σ xs acc K
  | [], acc, K, _, h => by
    have := h [] rfl (by simp)
    simpa [loopW] using this
  | p :: xs, acc, K, hs, h => by
    simp only [loopW]
    refine Br.tt (hs p List.mem_cons_self _ fun y hy => ?_)
    refine loop_rel R (fun q hq => hs q (List.mem_cons_of_mem _ hq)) fun ys hl hR => ?_
    have := h (y :: ys) (by simp [hl]) (fun z hz => by
      rcases List.mem_cons.mp hz with rfl | hz
      · exact hy
      · exact hR z hz)
    simpa [List.append_assoc] using this

noncomputable def G11 : GC := ((((((G0.with (Str.ofString "_law_write") writeSpec).with (Str.ofString "_law_spell") spellSpec).with (Str.ofString "_law_sign") signSpec).with (Str.ofString "_law_row") rowSpec).with (Str.ofString "_law_turned") turnedSpec).with (Str.ofString "_law_told") toldSpec)
theorem gok11 {W : Wd} (h : Is W) : GOk W 3 G11 :=
  ((((((gok0 h 3).with ((write_ok h).up (by omega))).with ((spell_ok h).up (by omega))).with ((sign_ok h).up (by omega))).with ((row_ok h).up (by omega))).with ((turned_ok h).up (by omega))).with (told_ok h)

theorem slice_ints {ns : List Int} {lo hi st : Option Int} : sliceL (ns.map PV.int) lo hi st = (sliceL ns lo hi st).map PV.int := by
  unfold sliceL
  rw [List.length_map, List.map_filterMap]
  congr 1
  funext i
  rw [List.getElem?_map]


noncomputable def lawB (k : Nat) (σ : Loc) (K : PV → Prop) : Prop :=
  blockW (stepS G11 [] (EW G11 14).1 (EW G11 14).2 (BW G11 [] 14 5)) (drOf pr 18).scope.names ((drOf pr 18).body.drop k) σ (retK K)
noncomputable def n15 (sv dv kv mv fv : PV) (ns : List Int) (size : Nat) (one two P S left right : Str) : Loc :=
  [(Str.ofString "script", .val sv), (Str.ofString "numbers", .val (.list (ns.map PV.int))), (Str.ofString "draws", .val dv), (Str.ofString "first", .val fv), (Str.ofString "marks", .val mv), (Str.ofString "size", .val (.int size)),
   (Str.ofString "kinds", .val kv), (Str.ofString "one", .val (.str one)), (Str.ofString "two", .val (.str two)), (Str.ofString "least", .val (.list ((turnedF (cpl one) (cpl two)).map PV.int))), (Str.ofString "before", .val (.str P)), (Str.ofString "after", .val (.str S)),
   (Str.ofString "left", .val (.str left)), (Str.ofString "right", .val (.str right)), (Str.ofString "prices", .val (.list [.int 2, .int (2 * size), .int (2 * size + 8)]))]
noncomputable def n18 (sv dv kv mv fv : PV) (ns : List Int) (size : Nat) (one two P S left right : Str) (lev ov due : PV) : Loc :=
  n15 sv dv kv mv fv ns size one two P S left right ++ [(Str.ofString "level", .val lev), (Str.ofString "over", .val ov), (Str.ofString "due", .val due)]
noncomputable def n21 (sv dv kv mv fv : PV) (ns : List Int) (size : Nat) (one two P S left right : Str) (lev ov due ki dl dr : PV) : Loc :=
  n15 sv dv kv mv fv ns size one two P S left right ++ [(Str.ofString "level", .val lev), (Str.ofString "over", .val ov), (Str.ofString "due", .val due), (Str.ofString "kind", .val ki), (Str.ofString "due_left", .val dl), (Str.ofString "due_right", .val dr)]
/-- what stands in the text at a level -/
noncomputable def lt (ks : List Nat) (i : Nat) (l : List Nat) : List Nat := (ks.take i).foldl (fun l k => escL k l) l
noncomputable def lI (sv dv mv fv : PV) (ks : List Nat) (ns : List Int) (size : Nat) (one two P S : Str) (i : Nat) (σ : Loc) : Prop :=
  (i = 0 ∧ σ = n15 sv dv (.list (ks.map fun k : Nat => .int k)) mv fv ns size one two P S (mk (lt ks 0 (cpl P ++ cpl one ++ cpl S))) (mk (lt ks 0 (cpl P ++ cpl two ++ cpl S)))) ∨
  (i = 1 ∧ ∃ lev ov due, σ = n18 sv dv (.list (ks.map fun k : Nat => .int k)) mv fv ns size one two P S (mk (lt ks 0 (cpl P ++ cpl one ++ cpl S))) (mk (lt ks 0 (cpl P ++ cpl two ++ cpl S))) lev ov due) ∨
  (2 ≤ i ∧ ∃ lev ov due ki dl dr, σ = n21 sv dv (.list (ks.map fun k : Nat => .int k)) mv fv ns size one two P S (mk (lt ks (i - 1) (cpl P ++ cpl one ++ cpl S))) (mk (lt ks (i - 1) (cpl P ++ cpl two ++ cpl S))) lev ov due ki dl dr)
noncomputable def priceAt (size : Nat) (i : Nat) : Int := if i = 0 then 2 else if i = 1 then 2 * size else 2 * size + 8

theorem lt_step {ks : List Nat} {i k : Nat} (h : ks[i]? = some k) (l : List Nat) : escL k (lt ks i l) = lt ks (i + 1) l := by
  unfold lt
  have hi := (List.getElem?_eq_some_iff.mp h).1
  rw [List.take_succ_eq_append_getElem hi, List.foldl_append, (List.getElem?_eq_some_iff.mp h).2]
  rfl
theorem price_bits {size : Nat} (h : size ≤ 5) (i : Nat) : Builtin.Int.intBits (priceAt size i) ≤ 64 := by
  have : size = 0 ∨ size = 1 ∨ size = 2 ∨ size = 3 ∨ size = 4 ∨ size = 5 := by omega
  unfold priceAt
  rcases this with rfl | rfl | rfl | rfl | rfl | rfl <;> split <;> (try split) <;> decide
noncomputable def dueG (p a b : Int) (t : List Int) : PV → PV := fun q => match q with
  | .int m => .int (p * (a + b - 2 * m) + 2 * t.getD m.toNat 0)
  | q => q
theorem due_ints (p a b : Int) (t : List Int) : ints? (List.map ((dueG p a b t) ∘ fun i : Nat => PV.int i) (List.range t.length)) = some ((List.range t.length).map fun m : Nat => p * (a + b - 2 * (m : Int)) + 2 * t.getD m 0) := by
  rw [← ints_map, List.map_map]
  rfl
theorem due_ne (p a b : Int) (t : List Int) (h : 1 ≤ t.length) : ((List.range t.length).map fun m : Nat => p * (a + b - 2 * (m : Int)) + 2 * t.getD m 0) ≠ [] := by
  intro e
  have := congrArg List.length e
  simp at this
  rw [this] at h
  simp at h
theorem due_val {one two : List Nat} (p : Int) {a b : Nat} (ha : a = one.length) (hb : b = two.length) : minInts ((List.range (turnedF one two).length).map fun m : Nat => p * ((a : Int) + b - 2 * (m : Int)) + 2 * (turnedF one two).getD m 0) = dueI p one two := by
  subst ha; subst hb; rfl

set_option maxHeartbeats 4000000 in
theorem law_12 (sv dv mv fv : PV) (ks : List Nat) (ns : List Int) (size : Nat) (one two P S : Str) (K : PV → Prop) (hsize : size ≤ 5) (hks : ks.length ≤ 2) (hks1 : 1 ≤ ks.length) (hk4 : ∀ k ∈ ks, k ≤ 4)
    (hone : (cpl one).length ≤ 3) (htwo : (cpl two).length ≤ 3)
    (hlen : ∀ i, i ≤ 2 → (lt ks i (cpl P ++ cpl one ++ cpl S)).length ≤ 1000 ∧ (lt ks i (cpl P ++ cpl two ++ cpl S)).length ≤ 1000)
    (hlev : ∀ i, i ≤ ks.length → (D cst (lt ks i (cpl P ++ cpl one ++ cpl S)) (lt ks i (cpl P ++ cpl two ++ cpl S)) : Int) = dueI (priceAt size i) (cpl one) (cpl two) ∧ levFits (lt ks i (cpl P ++ cpl one ++ cpl S)) (lt ks i (cpl P ++ cpl two ++ cpl S)) ∧
      levFits (lt ks i (cpl P ++ cpl two ++ cpl S)) (lt ks i (cpl P ++ cpl one ++ cpl S))) (hk : K (.bool true)) :
    lawB 12 (n15 sv dv (.list (ks.map fun k : Nat => .int k)) mv fv ns size one two P S (mk (cpl P ++ cpl one ++ cpl S)) (mk (cpl P ++ cpl two ++ cpl S))) K := by
  have hsz := sizeLine_eq
  conv => whnf
  have hkl : (List.map (fun k : Nat => PV.int k) ks).length = ks.length := by simp
  rw [hkl]
  have hc : ((ks.length : Nat) : Int) + 1 = ((ks.length + 1 : Nat) : Int) := by omega
  rw [hc]
  refine Ob.intro ⟨small_of (by decide) (by omega) (by decide) (by rw [count_size]; omega), by rw [count_size]; omega, by rw [count_size]; omega⟩ ?_
  rw [count_items]
  have hnt : (List.map PV.int (turnedF (cpl one) (cpl two))).length = (turnedF (cpl one) (cpl two)).length := by simp
  have hnl : (turnedF (cpl one) (cpl two)).length ≤ 4 := by simp [turnedF]; omega
  have hnp : 1 ≤ (turnedF (cpl one) (cpl two)).length := by simp [turnedF]
  refine for_of (lI sv dv mv fv ks ns size one two P S) (.inl ⟨rfl, rfl⟩) (fun i p σ hi hI X hX => ?_) (fun σ hI => ?_)
  · obtain ⟨hi3, rfl⟩ : i < ks.length + 1 ∧ p = .int i := by
      rw [List.getElem?_map, Option.map_eq_some_iff] at hi
      obtain ⟨j, hj, rfl⟩ := hi
      have := List.getElem?_eq_some_iff.mp hj
      obtain ⟨h1, h2⟩ := this
      simp at h1 h2
      subst h2
      exact ⟨h1, rfl⟩
    rcases hI with ⟨rfl, rfl⟩ | ⟨rfl, lev, ov, due, rfl⟩ | ⟨h2i, lev, ov, due, ki, dl, dr, rfl⟩
    · unfold n15
      conv => whnf
      refine Br.ff ?_
      conv => whnf
      rw [hnt]
      refine Ob.intro ⟨small_of (by decide) (by omega) (by decide) (by rw [count_size]; omega), by rw [count_size]; omega, by rw [count_size]; omega⟩ ?_
      rw [count_items]
      conv => whnf
      refine loop_map (dueG (priceAt size 0) one.length two.length (turnedF (cpl one) (cpl two))) (fun p hp Y hY => ?_) ?_
      · obtain ⟨m, hm, rfl⟩ := List.mem_map.mp hp
        have hm := List.mem_range.mp hm
        simp only [dueG, Int.toNat_natCast] at hY
        have hit : itemAt (List.map PV.int (turnedF (cpl one) (cpl two))) (m : Int) = some (.int ((turnedF (cpl one) (cpl two)).getD m 0)) := item_nat (by
          rw [List.getElem?_map, List.getD_eq_getElem?_getD, List.getElem?_eq_getElem hm]; rfl)
        conv => whnf
        refine Ex.intro (.int (priceAt size 0)) (by rfl) ?_
        conv => whnf
        refine Ob.intro (IntMulOk.of_left (by decide)) ?_
        conv => whnf
        refine Ob.intro (IntMulOk.of_left (price_bits hsize _)) ?_
        conv => whnf
        refine Ex.intro _ hit ?_
        conv => whnf
        refine Ob.intro (IntMulOk.of_left (by decide)) ?_
        conv => whnf
        exact hY
      · rw [List.nil_append, List.map_map]
        conv => whnf
        refine Ex.intro _ (due_ints _ _ _ _) ?_
        conv => whnf
        refine Ob.intro (due_ne _ _ _ _ hnp) ?_
        conv => whnf
        refine Ex.intro _ (ints_map _) ?_
        conv => whnf
        refine ⟨⟨by rw [len_mk]; exact (hlen 0 (by omega)).1, by rw [len_mk]; exact (hlen 0 (by omega)).2, by rw [cpl_mk, cpl_mk]; exact (hlev 0 (by omega)).2.1, by rw [cpl_mk, cpl_mk]; exact (hlev 0 (by omega)).2.2,
          by rw [cpl_mk, cpl_mk]; exact (due_val _ (len_cpl one) (len_cpl two)).trans (hlev 0 (by omega)).1.symm⟩, ?_⟩
        conv => whnf
        refine Br.ff ?_
        conv => whnf
        exact hX _ (.inr (.inl ⟨rfl, _, _, _, rfl⟩))
    · unfold n18 n15
      obtain ⟨k, hkk⟩ : ∃ k, ks[0]? = some k := ⟨ks[0], List.getElem?_eq_getElem (by omega)⟩
      have hk4' : k ≤ 4 := hk4 k (List.mem_of_getElem? hkk)
      have hlk : ∀ l, escL k (lt ks 0 l) = lt ks 1 l := fun l => lt_step hkk l
      conv => whnf
      refine Br.tt ?_
      conv => whnf
      refine Ex.intro (.int k) (item_nat (k := 0) (by rw [List.getElem?_map, hkk]; rfl)) ?_
      conv => whnf
      refine ⟨⟨by omega, by omega, by rw [cpl_mk]; exact (hlen 0 (by omega)).1⟩, ?_⟩
      rw [cpl_mk, Int.toNat_natCast, hlk]
      conv => whnf
      refine ⟨⟨by omega, by omega, by rw [cpl_mk]; exact (hlen 0 (by omega)).2⟩, ?_⟩
      rw [cpl_mk, Int.toNat_natCast, hlk]
      conv => whnf
      refine ⟨⟨by omega, by omega, by rw [cpl_mk]; exact (hlen 0 (by omega)).1⟩, ?_⟩
      rw [cpl_mk, Int.toNat_natCast, hlk]
      conv => whnf
      refine ⟨⟨by omega, by omega, by rw [cpl_mk]; exact (hlen 0 (by omega)).2⟩, ?_⟩
      rw [cpl_mk, Int.toNat_natCast, hlk]
      conv => whnf
      refine Br.intro (fun e => by simp at e) (fun _ => ?_)
      conv => whnf
      refine Br.intro (fun e => by simp at e) (fun _ => ?_)
      conv => whnf
      refine Br.ff ?_
      conv => whnf
      rw [hnt]
      refine Ob.intro ⟨small_of (by decide) (by omega) (by decide) (by rw [count_size]; omega), by rw [count_size]; omega, by rw [count_size]; omega⟩ ?_
      rw [count_items]
      conv => whnf
      refine loop_map (dueG (priceAt size 1) one.length two.length (turnedF (cpl one) (cpl two))) (fun p hp Y hY => ?_) ?_
      · obtain ⟨m, hm, rfl⟩ := List.mem_map.mp hp
        have hm := List.mem_range.mp hm
        simp only [dueG, Int.toNat_natCast] at hY
        have hit : itemAt (List.map PV.int (turnedF (cpl one) (cpl two))) (m : Int) = some (.int ((turnedF (cpl one) (cpl two)).getD m 0)) := item_nat (by
          rw [List.getElem?_map, List.getD_eq_getElem?_getD, List.getElem?_eq_getElem hm]; rfl)
        conv => whnf
        refine Ex.intro (.int (priceAt size 1)) (by rfl) ?_
        conv => whnf
        refine Ob.intro (IntMulOk.of_left (by decide)) ?_
        conv => whnf
        refine Ob.intro (IntMulOk.of_left (price_bits hsize _)) ?_
        conv => whnf
        refine Ex.intro _ hit ?_
        conv => whnf
        refine Ob.intro (IntMulOk.of_left (by decide)) ?_
        conv => whnf
        exact hY
      · rw [List.nil_append, List.map_map]
        conv => whnf
        refine Ex.intro _ (due_ints _ _ _ _) ?_
        conv => whnf
        refine Ob.intro (due_ne _ _ _ _ hnp) ?_
        conv => whnf
        refine Ex.intro _ (ints_map _) ?_
        conv => whnf
        refine ⟨⟨by rw [len_mk]; exact (hlen 1 (by omega)).1, by rw [len_mk]; exact (hlen 1 (by omega)).2, by rw [cpl_mk, cpl_mk]; exact (hlev 1 (by omega)).2.1, by rw [cpl_mk, cpl_mk]; exact (hlev 1 (by omega)).2.2,
          by rw [cpl_mk, cpl_mk]; exact (due_val _ (len_cpl one) (len_cpl two)).trans (hlev 1 (by omega)).1.symm⟩, ?_⟩
        conv => whnf
        refine Br.ff ?_
        conv => whnf
        exact hX _ (.inr (.inr ⟨by omega, _, _, _, _, _, _, rfl⟩))
    · have : i = 2 := by omega
      subst this
      unfold n21 n15
      obtain ⟨k, hkk⟩ : ∃ k, ks[1]? = some k := ⟨ks[1], List.getElem?_eq_getElem (by omega)⟩
      have hk4' : k ≤ 4 := hk4 k (List.mem_of_getElem? hkk)
      have hlk : ∀ l, escL k (lt ks 1 l) = lt ks 2 l := fun l => lt_step hkk l
      conv => whnf
      refine Br.tt ?_
      conv => whnf
      refine Ex.intro (.int k) (item_nat (k := 1) (by rw [List.getElem?_map, hkk]; rfl)) ?_
      conv => whnf
      refine ⟨⟨by omega, by omega, by rw [cpl_mk]; exact (hlen 1 (by omega)).1⟩, ?_⟩
      rw [cpl_mk, Int.toNat_natCast, hlk]
      conv => whnf
      refine ⟨⟨by omega, by omega, by rw [cpl_mk]; exact (hlen 1 (by omega)).2⟩, ?_⟩
      rw [cpl_mk, Int.toNat_natCast, hlk]
      conv => whnf
      refine ⟨⟨by omega, by omega, by rw [cpl_mk]; exact (hlen 1 (by omega)).1⟩, ?_⟩
      rw [cpl_mk, Int.toNat_natCast, hlk]
      conv => whnf
      refine ⟨⟨by omega, by omega, by rw [cpl_mk]; exact (hlen 1 (by omega)).2⟩, ?_⟩
      rw [cpl_mk, Int.toNat_natCast, hlk]
      conv => whnf
      refine Br.intro (fun e => by simp at e) (fun _ => ?_)
      conv => whnf
      refine Br.intro (fun e => by simp at e) (fun _ => ?_)
      conv => whnf
      refine Br.ff ?_
      conv => whnf
      rw [hnt]
      refine Ob.intro ⟨small_of (by decide) (by omega) (by decide) (by rw [count_size]; omega), by rw [count_size]; omega, by rw [count_size]; omega⟩ ?_
      rw [count_items]
      conv => whnf
      refine loop_map (dueG (priceAt size 2) one.length two.length (turnedF (cpl one) (cpl two))) (fun p hp Y hY => ?_) ?_
      · obtain ⟨m, hm, rfl⟩ := List.mem_map.mp hp
        have hm := List.mem_range.mp hm
        simp only [dueG, Int.toNat_natCast] at hY
        have hit : itemAt (List.map PV.int (turnedF (cpl one) (cpl two))) (m : Int) = some (.int ((turnedF (cpl one) (cpl two)).getD m 0)) := item_nat (by
          rw [List.getElem?_map, List.getD_eq_getElem?_getD, List.getElem?_eq_getElem hm]; rfl)
        conv => whnf
        refine Ex.intro (.int (priceAt size 2)) (by rfl) ?_
        conv => whnf
        refine Ob.intro (IntMulOk.of_left (by decide)) ?_
        conv => whnf
        refine Ob.intro (IntMulOk.of_left (price_bits hsize _)) ?_
        conv => whnf
        refine Ex.intro _ hit ?_
        conv => whnf
        refine Ob.intro (IntMulOk.of_left (by decide)) ?_
        conv => whnf
        exact hY
      · rw [List.nil_append, List.map_map]
        conv => whnf
        refine Ex.intro _ (due_ints _ _ _ _) ?_
        conv => whnf
        refine Ob.intro (due_ne _ _ _ _ hnp) ?_
        conv => whnf
        refine Ex.intro _ (ints_map _) ?_
        conv => whnf
        refine ⟨⟨by rw [len_mk]; exact (hlen 2 (by omega)).1, by rw [len_mk]; exact (hlen 2 (by omega)).2, by rw [cpl_mk, cpl_mk]; exact (hlev 2 (by omega)).2.1, by rw [cpl_mk, cpl_mk]; exact (hlev 2 (by omega)).2.2,
          by rw [cpl_mk, cpl_mk]; exact (due_val _ (len_cpl one) (len_cpl two)).trans (hlev 2 (by omega)).1.symm⟩, ?_⟩
        conv => whnf
        refine Br.ff ?_
        conv => whnf
        exact hX _ (.inr (.inr ⟨by omega, _, _, _, _, _, _, rfl⟩))
  · have hxl : (List.map (fun i : Nat => PV.int i) (List.range (ks.length + 1))).length = ks.length + 1 := by simp
    rw [hxl] at hI
    rcases hI with ⟨e, _⟩ | ⟨e, _⟩ | ⟨_, lev, ov, due, ki, dl, dr, rfl⟩
    · omega
    · omega
    · unfold n21 n15
      conv => whnf
      exact hk
end Mine
namespace Mine

noncomputable def handVals : List PV := [.tuple [.int 0, .str (Str.ofString "<>"), .int 4], .tuple [.int 1, .str (Str.ofString "<>"), .int 4], .tuple [.int 3, .str (Str.ofString "<>"), .int 4], .tuple [.int 1, .str (Str.ofString "\r\n"), .int 5], .tuple [.int 4, .str (Str.ofString "\t\r"), .int 5]]
theorem hand_at (d : Int) : ∃ (H : Hand) (m : Str), H ∈ hands ∧ cpl m = [H.u, H.v] ∧ itemAt handVals (d.fmod 5) = some (.tuple [.int H.k, .str m, .int H.size]) := by
  have h0 : 0 ≤ d.fmod 5 := Int.fmod_nonneg_of_pos _ (by decide)
  have h1 : d.fmod 5 < 5 := Int.fmod_lt_of_pos _ (by decide)
  have : d.fmod 5 = 0 ∨ d.fmod 5 = 1 ∨ d.fmod 5 = 2 ∨ d.fmod 5 = 3 ∨ d.fmod 5 = 4 := by omega
  rcases this with e | e | e | e | e <;> rw [e]
  · exact ⟨⟨0, 60, 62, 4⟩, _, by simp [hands], by decide +kernel, rfl⟩
  · exact ⟨⟨1, 60, 62, 4⟩, _, by simp [hands], by decide +kernel, rfl⟩
  · exact ⟨⟨3, 60, 62, 4⟩, _, by simp [hands], by decide +kernel, rfl⟩
  · exact ⟨⟨1, 13, 10, 5⟩, _, by simp [hands], by decide +kernel, rfl⟩
  · exact ⟨⟨4, 9, 13, 5⟩, _, by simp [hands], by decide +kernel, rfl⟩

theorem slice_le {α : Type} (xs : List α) (lo hi : Option Int) : (sliceL xs lo hi none).length ≤ xs.length := by
  unfold sliceL
  rw [sliceBounds_plain]
  refine Nat.le_trans (List.length_filterMap_le _ _) ?_
  rw [sliceRange_one, List.length_map, List.length_range]
  cases hi with
  | none => exact Nat.sub_le _ _
  | some h => refine Nat.le_trans (Nat.sub_le _ _) ?_; simp only [Option.elim, clipAt]; split <;> omega
theorem slice_le2 {α : Type} (xs : List α) (lo hi : Int) (h0 : 0 ≤ lo) (h1 : lo ≤ hi) : (sliceL xs (some lo) (some hi) none).length ≤ (hi - lo).toNat := by
  unfold sliceL
  rw [sliceBounds_plain]
  refine Nat.le_trans (List.length_filterMap_le _ _) ?_
  rw [sliceRange_one, List.length_map, List.length_range]
  simp only [Option.elim, clipAt]
  split <;> split <;> omega
theorem slice_le0 {α : Type} (xs : List α) (hi : Int) (h1 : 0 ≤ hi) : (sliceL xs none (some hi) none).length ≤ hi.toNat := by
  unfold sliceL
  rw [sliceBounds_plain]
  refine Nat.le_trans (List.length_filterMap_le _ _) ?_
  rw [sliceRange_one, List.length_map, List.length_range]
  simp only [Option.elim, clipAt]
  split <;> omega
noncomputable def drawF (ms : List Int) : PV → PV
  | .int i => .int ((sliceL ms (some i) none (some 3)).sum + [1, 8, 20].getD i.toNat 0)
  | p => p
theorem three_items {p : PV} (h : p ∈ rangeItems 0 3 1) : p = .int 0 ∨ p = .int 1 ∨ p = .int 2 := by
  have e : rangeItems 0 3 1 = [.int 0, .int 1, .int 2] := rfl
  rw [e] at h
  simpa using h

theorem signs_of : ∀ {ys : List PV}, (∀ y ∈ ys, ∃ c : Nat, y = .str (mk [c])) → ∃ cs : List Nat, ys = cs.map fun c => .str (mk [c])
  | [], _ => ⟨[], rfl⟩
  | y :: ys, h => by
    obtain ⟨c, rfl⟩ := h y List.mem_cons_self
    obtain ⟨cs, rfl⟩ := signs_of fun z hz => h z (List.mem_cons_of_mem _ hz)
    exact ⟨c :: cs, rfl⟩
theorem hand_facts {H : Hand} (hH : H ∈ hands) : H.k ≤ 4 ∧ H.size ≤ 5 ∧ Builtin.Int.intBits (H.size : Int) ≤ 64 := by
  simp only [hands, List.mem_cons, List.not_mem_nil, or_false] at hH
  rcases hH with rfl | rfl | rfl | rfl | rfl <;> exact ⟨by decide, by decide, by decide⟩
theorem lt_len {ks : List Nat} {l : List Nat} (hl : l.length ≤ 7) (hks : ks.length ≤ 2) (i : Nat) (hi : i ≤ 2) : (lt ks i l).length ≤ 1000 := by
  have : i = 0 ∨ i = 1 ∨ i = 2 := by omega
  match ks, hks with
  | [], _ => rcases this with rfl | rfl | rfl <;> (show l.length ≤ 1000; omega)
  | [a], _ =>
    have := escL_len (k := a) hl
    rcases ‹i = 0 ∨ i = 1 ∨ i = 2› with rfl | rfl | rfl
    · show l.length ≤ 1000; omega
    · show (escL a l).length ≤ 1000; omega
    · show (escL a l).length ≤ 1000; omega
  | [a, b], _ =>
    have h1 := escL_len (k := a) hl
    have h2 := escL_len (k := b) h1
    rcases ‹i = 0 ∨ i = 1 ∨ i = 2› with rfl | rfl | rfl
    · show l.length ≤ 1000; omega
    · show (escL a l).length ≤ 1000; omega
    · show (escL b (escL a l)).length ≤ 1000; omega
theorem row_cut {H : Hand} {r : List Nat} {n : Nat} {j : Int} {t : Str} (hr : r.length ≤ 3) (hd : ∀ d ∈ r, d = H.u ∨ d = H.v) (hj : j = 4 - (n : Int)) (hn : n ≤ 2) (ht : Txt.slice (mk r) none (some j) = t) :
    (cpl t).length ≤ 3 ∧ (cpl t).length ≤ 4 - n ∧ rowIn H.u H.v (cpl t) := by
  rw [← ht, slice_to (by omega), cpl_mk]
  refine ⟨?_, ?_, fun d hm => hd d (List.mem_of_mem_take hm)⟩
  · rw [List.length_take]; omega
  · rw [List.length_take]; omega

set_option maxHeartbeats 4000000 in
theorem law_4 (sv : PV) (ms : List Int) (d0 d1 d2 : Int) (H : Hand) (m : Str) (ks : List Nat) (K : PV → Prop) (hn : ms.length ≤ 63) (hH : H ∈ hands) (hm : cpl m = [H.u, H.v]) (hks : ks = [H.k] ∨ ∃ k2, k2 ≤ 4 ∧ ks = [H.k, k2]) (hk : K (.bool true)) :
    lawB 4 [(Str.ofString "script", .val sv), (Str.ofString "numbers", .val (.list (ms.map PV.int))), (Str.ofString "draws", .val (.list [.int d0, .int d1, .int d2])), (Str.ofString "first", .val (.int H.k)), (Str.ofString "marks", .val (.str m)), (Str.ofString "size", .val (.int H.size)),
      (Str.ofString "kinds", .val (.list (ks.map fun k : Nat => .int k)))] K := by
  have hsz := sizeLine_eq
  obtain ⟨hf1, hf2, hf3⟩ := hand_facts hH
  have hk2 : ks.length ≤ 2 := by rcases hks with rfl | ⟨k2, _, rfl⟩ <;> simp
  have hk1 : 1 ≤ ks.length := by rcases hks with rfl | ⟨k2, _, rfl⟩ <;> simp
  have hk4 : ∀ k ∈ ks, k ≤ 4 := by
    rcases hks with rfl | ⟨k2, h2, rfl⟩
    · intro k hk'; rw [List.mem_singleton.mp hk']; exact hf1
    · intro k hk'
      rcases List.mem_cons.mp hk' with rfl | hk'
      · exact hf1
      · rw [List.mem_singleton.mp hk']; exact h2
  conv => whnf
  refine Ex.intro _ rfl ?_
  conv => whnf
  refine ⟨H.u, H.v, hm, fun r1 hr1 hd1 => ?_⟩
  conv => whnf
  refine Ex.intro _ rfl ?_
  conv => whnf
  generalize ho1 : Txt.slice (mk r1) none _ = one
  obtain ⟨o1, o2, o3⟩ := row_cut hr1 hd1 (by simp only [List.length_map]) hk2 ho1
  clear ho1 hr1 hd1
  conv => whnf
  refine Ex.intro _ rfl ?_
  conv => whnf
  refine ⟨H.u, H.v, hm, fun r2 hr2 hd2 => ?_⟩
  conv => whnf
  refine Ex.intro _ rfl ?_
  conv => whnf
  generalize ho2 : Txt.slice (mk r2) none _ = two
  obtain ⟨w1, w2, w3⟩ := row_cut hr2 hd2 (by simp only [List.length_map]) hk2 ho2
  clear ho2 hr2 hd2
  conv => whnf
  refine ⟨⟨o1, w1⟩, ?_⟩
  conv => whnf
  refine Ex.intro _ rfl ?_
  conv => whnf
  refine Ob.intro (by decide) ?_
  rw [slice_ints]
  have hs1 := slice_le0 ms 2 (by decide)
  generalize sliceL ms none (some 2) none = ms1 at *
  refine loop_rel (fun y => ∃ c : Nat, y = .str (mk [c])) (fun p hp Y hY => ?_) fun ys hyl hys => ?_
  · obtain ⟨q, hq, rfl⟩ := List.mem_map.mp hp
    conv => whnf
    intro c
    conv => whnf
    exact hY _ ⟨c, rfl⟩
  obtain ⟨cs1, rfl⟩ := signs_of hys
  rw [List.length_map, List.length_map] at hyl
  rw [List.nil_append]
  conv => whnf
  refine Ex.intro _ (strs_each (fun c => mk [c]) cs1) ?_
  conv => whnf
  refine Ob.intro (joinOk_each (f := fun d => [d]) (fun _ => by simp) (by omega)) ?_
  rw [join_each (fun d => [d])]
  have len1 : (cs1.flatMap fun d => [d]).length ≤ 2 := by rw [List.flatMap_singleton']; omega
  generalize ep : mk (cs1.flatMap fun d => [d]) = P
  have hP : (cpl P).length ≤ 2 := by rw [← ep, cpl_mk]; exact len1
  clear ep
  conv => whnf
  refine Ex.intro _ rfl ?_
  conv => whnf
  refine Ex.intro _ rfl ?_
  conv => whnf
  refine Ob.intro (by decide) ?_
  rw [slice_ints]
  have hs2 := slice_le2 ms 2 4 (by decide) (by decide)
  generalize sliceL ms (some 2) (some 4) none = ms2 at *
  refine loop_rel (fun y => ∃ c : Nat, y = .str (mk [c])) (fun p hp Y hY => ?_) fun ys hyl hys => ?_
  · obtain ⟨q, hq, rfl⟩ := List.mem_map.mp hp
    conv => whnf
    intro c
    conv => whnf
    exact hY _ ⟨c, rfl⟩
  obtain ⟨cs2, rfl⟩ := signs_of hys
  rw [List.length_map, List.length_map] at hyl
  rw [List.nil_append]
  conv => whnf
  refine Ex.intro _ (strs_each (fun c => mk [c]) cs2) ?_
  conv => whnf
  refine Ob.intro (joinOk_each (f := fun d => [d]) (fun _ => by simp) (by omega)) ?_
  rw [join_each (fun d => [d])]
  have len2 : (cs2.flatMap fun d => [d]).length ≤ 2 := by rw [List.flatMap_singleton']; omega
  generalize es : mk (cs2.flatMap fun d => [d]) = S
  have hS : (cpl S).length ≤ 2 := by rw [← es, cpl_mk]; exact len2
  clear es
  conv => whnf
  have lP := len_cpl P
  have lS := len_cpl S
  have l1 := len_cpl one
  have l2 := len_cpl two
  refine Ob.intro (by omega) ?_
  conv => whnf
  refine Ob.intro (by rw [len_cpl, cpl_append, List.length_append]; omega) ?_
  conv => whnf
  refine Ob.intro (by omega) ?_
  conv => whnf
  refine Ob.intro (by rw [len_cpl, cpl_append, List.length_append]; omega) ?_
  have e1 : P ++ one ++ S = mk (cpl P ++ cpl one ++ cpl S) := cpl_inj (by rw [cpl_mk, cpl_append, cpl_append])
  have e2 : P ++ two ++ S = mk (cpl P ++ cpl two ++ cpl S) := cpl_inj (by rw [cpl_mk, cpl_append, cpl_append])
  rw [e1, e2]
  conv => whnf
  refine Ob.intro (IntMulOk.of_left (by decide)) ?_
  conv => whnf
  refine Ob.intro (IntMulOk.of_left (by decide)) ?_
  conv => whnf
  refine Ob.intro (by show 3 ≤ sizeLine; omega) ?_
  have b1 : (cpl P ++ cpl one ++ cpl S).length ≤ 7 := by simp only [List.length_append]; omega
  have b2 : (cpl P ++ cpl two ++ cpl S).length ≤ 7 := by simp only [List.length_append]; omega
  refine law_12 sv (.list [.int d0, .int d1, .int d2]) (.str m) (.int H.k) ks ms H.size one two P S K hf2 hk2 hk1 hk4 o1 w1 (fun i hi => ⟨lt_len b1 hk2 i hi, lt_len b2 hk2 i hi⟩) (fun i hi => ?_) hk
  have h3 : i = 0 ∨ i = 1 ∨ i = 2 := by omega
  rcases h3 with rfl | rfl | rfl
  · exact level0 hH o1 w1 o3 w3 _ _
  · have q : ∀ l, lt ks 1 l = escL H.k l := by rcases hks with rfl | ⟨k2, h2, rfl⟩ <;> exact fun _ => rfl
    rw [q, q]
    exact level1 hH o1 w1 o3 w3 _ _
  · rcases hks with rfl | ⟨k2, h2, rfl⟩
    · simp at hi
    · exact level2 hH h2 (by simpa using o2) (by simpa using w2) o3 w3 _ _

theorem kinds_of (k : Nat) (d : Int) (e : Int) : ∃ ks : List Nat, [PV.int k] ++ (List.replicate (e.fmod 2).toNat [PV.int (d.fmod 5)]).flatten = ks.map (fun k : Nat => PV.int k) ∧ (ks = [k] ∨ ∃ k2, k2 ≤ 4 ∧ ks = [k, k2]) := by
  have h0 : 0 ≤ e.fmod 2 := Int.fmod_nonneg_of_pos _ (by decide)
  have h1 : e.fmod 2 < 2 := Int.fmod_lt_of_pos _ (by decide)
  have g0 : 0 ≤ d.fmod 5 := Int.fmod_nonneg_of_pos _ (by decide)
  have g1 : d.fmod 5 < 5 := Int.fmod_lt_of_pos _ (by decide)
  have : e.fmod 2 = 0 ∨ e.fmod 2 = 1 := by omega
  rcases this with e | e <;> rw [e]
  · exact ⟨[k], rfl, .inl rfl⟩
  · refine ⟨[k, (d.fmod 5).toNat], ?_, .inr ⟨_, by omega, rfl⟩⟩
    show [PV.int k, PV.int (d.fmod 5)] = [PV.int k, PV.int ((d.fmod 5).toNat : Nat)]
    rw [Int.toNat_of_nonneg g0]

set_option maxHeartbeats 4000000 in
theorem law_2 (sv : PV) (ms : List Int) (d0 d1 d2 : Int) (K : PV → Prop) (hn : ms.length ≤ 63) (hk : K (.bool true)) :
    lawB 2 [(Str.ofString "script", .val sv), (Str.ofString "numbers", .val (.list (ms.map PV.int))), (Str.ofString "draws", .val (.list [.int d0, .int d1, .int d2]))] K := by
  have hsz := sizeLine_eq
  have s3 : 3 ≤ sizeLine := by omega
  conv => whnf
  refine Ob.intro s3 ?_
  conv => whnf
  refine Ob.intro s3 ?_
  conv => whnf
  refine Ob.intro s3 ?_
  conv => whnf
  refine Ob.intro s3 ?_
  conv => whnf
  refine Ob.intro s3 ?_
  conv => whnf
  refine Ob.intro (by show 5 ≤ sizeLine; omega) ?_
  conv => whnf
  refine Ex.intro _ rfl ?_
  conv => whnf
  refine Ob.intro (by decide) ?_
  conv => whnf
  obtain ⟨H, m, hH, hm, hit⟩ := hand_at d0
  refine Ex.intro _ hit ?_
  conv => whnf
  refine Ob.intro (by show 1 ≤ sizeLine; omega) ?_
  conv => whnf
  refine Ex.intro _ rfl ?_
  conv => whnf
  refine Ob.intro (by decide) ?_
  conv => whnf
  refine Ob.intro (by decide) ?_
  conv => whnf
  refine Ob.intro (by show 1 ≤ sizeLine; omega) ?_
  conv => whnf
  refine Ex.intro _ rfl ?_
  conv => whnf
  refine Ob.intro (by decide) ?_
  conv => whnf
  refine Ob.intro (by decide) ?_
  have n0 : 0 ≤ (d0.fdiv 5).fmod 2 := Int.fmod_nonneg_of_pos _ (by decide)
  have n1 : (d0.fdiv 5).fmod 2 < 2 := Int.fmod_lt_of_pos _ (by decide)
  conv => whnf
  refine Ob.intro ⟨by omega, by omega, by show 1 * _ ≤ 2 ^ 24; omega⟩ ?_
  conv => whnf
  refine Ob.intro (by rw [List.length_flatten, List.map_replicate, List.sum_replicate_nat]; simp only [List.length_cons, List.length_nil]; omega) ?_
  obtain ⟨ks, hks, hks'⟩ := kinds_of H.k (d0.fdiv 10) (d0.fdiv 5)
  rw [hks]
  exact law_4 sv ms d0 d1 d2 H m ks K hn hH hm hks' hk

set_option maxHeartbeats 4000000 in
theorem law_1 (sv : PV) (ms : List Int) (K : PV → Prop) (hn : ms.length ≤ 63) (hk : K (.bool true)) :
    lawB 1 [(Str.ofString "script", .val sv), (Str.ofString "numbers", .val (.list (ms.map PV.int)))] K := by
  have hsz := sizeLine_eq
  conv => whnf
  refine Ob.intro ⟨by decide, by decide, by rw [hsz]; decide⟩ ?_
  refine loop_map (drawF ms) (fun p hp Y hY => ?_) ?_
  · rcases three_items hp with rfl | rfl | rfl
    all_goals
      conv => whnf
      refine Ex.intro _ rfl ?_
      conv => whnf
      refine Ex.intro _ rfl ?_
      conv => whnf
      refine Ob.intro (by decide) ?_
      rw [slice_ints]
      conv => whnf
      refine Ex.intro _ (ints_map _) ?_
      conv => whnf
      refine Ob.intro (by show 3 ≤ sizeLine; omega) ?_
      conv => whnf
      refine Ex.intro _ rfl ?_
      conv => whnf
      exact hY
  have hds : ([] : List PV) ++ List.map (drawF ms) (rangeItems 0 3 1) = [.int ((sliceL ms (some 0) none (some 3)).sum + 1), .int ((sliceL ms (some 1) none (some 3)).sum + 8), .int ((sliceL ms (some 2) none (some 3)).sum + 20)] := rfl
  rw [hds]
  generalize (sliceL ms (some 0) none (some 3)).sum + 1 = d0
  generalize (sliceL ms (some 1) none (some 3)).sum + 8 = d1
  generalize (sliceL ms (some 2) none (some 3)).sum + 20 = d2
  have h := law_2 sv ms d0 d1 d2 K hn hk
  exact h

noncomputable def lawSpec : PSpec := fun ps K => as1 ps fun p0 => asL p0 fun vs => 
    (∃ ns : List Int, vs = ns.map PV.int ∧ ns.length ≤ 63) ∧ K (.bool true)
theorem law_ok {W : Wd} (h : Is W) : ∃ a, W.mg (Str.ofString "law") = some (.ref a) ∧ ∀ A E s X vs ps K Q, Room 4 A → (∀ b o, W.top.get? b = some o → s.heap.get? b = some o) → Xlt X s.heap → DenL W.w X s.heap ps vs → lawSpec ps K →
      Post W.w X s K Q → wpAny W.M A (call (.ref a) vs) Q E s := by
  refine callFirst (names := [Str.ofString "script"]) (y := Str.ofString "numbers") (z := Str.ofString "script") (c := 60) (rest := (drOf pr 18).body.drop 1) (rec_mem h (i := 18) (x := Str.ofString "law") (by rfl)) (by rfl) (by decide +kernel)
    (fun vs pm cd doc hl => ?_) (BW_ok (gok11 h) rfl 14 6 (mu := [])) (by rfl) (by rfl) (by rfl) fun ps K hs => ?_
  · obtain ⟨a, rfl⟩ := len1 hl
    rfl
  · obtain ⟨p0, rfl, hsa⟩ := as1.inv hs
    obtain ⟨vs, rfl, hsb⟩ := asL.inv hsa
    have hs := hsb
    · obtain ⟨⟨ns, rfl, hn⟩, hk⟩ := hs
      refine ⟨rfl, _, rfl, ?_⟩
      rw [slice_ints]
      exact law_1 _ _ K (Nat.le_trans (slice_le _ _ _) hn) hk
end Mine
namespace Mine
theorem wellAll_ints {P : Params} {h : Heap} : ∀ {ns : List Int} {vs : List Value}, WellAll P h vs (ofPys (ns.map PyData.int)) → ∃ ts : List Tok, vs = (ns.zip ts).map (fun q => Value.int q.1 q.2) ∧ ts.length = ns.length
  | [], _, x => by cases x; exact ⟨[], rfl, rfl⟩
  | n :: ns, _, x => by
    simp only [List.map_cons, ofPys, ofPy] at x
    cases x with
    | cons a b =>
      cases a
      obtain ⟨ts, rfl, e⟩ := wellAll_ints b
      exact ⟨_ :: ts, rfl, by simp [e]⟩
theorem denL_ints {w : World} {X : Excl} {h : Heap} : ∀ {ns : List Int} {ts : List Tok}, ts.length = ns.length → DenL w X h (ns.map PV.int) ((ns.zip ts).map (fun q => Value.int q.1 q.2))
  | [], [], _ => .nil
  | n :: ns, t :: ts, e => .cons mk_int (denL_ints (by simpa using e))
  | [], _ :: _, e => by simp at e
  | _ :: _, [], e => by simp at e
theorem well_den {w : World} {h : Heap} {v : Value} {ns : List Int} (hn : ns.length ≤ 63) (x : Well w.params h v (ofPy (PyData.list (ns.map PyData.int)))) : Den w (fun _ => False) h (.list (ns.map PV.int)) v := by
  simp only [ofPy] at x
  cases x with
  | list hg hw =>
    obtain ⟨ts, rfl, e⟩ := wellAll_ints hw
    refine mk_list (n := 0) (by have := sizeLine_eq; simp; omega) (fun q => q) hg (denL_ints e)
end Mine
open Mine in
set_option maxHeartbeats 8000000 in
theorem Mine.join : PySem.Challenge.rw_pg0174_01.Holds := by
  w_on
  o_law
  o_head Hook.none
  (case hw => w_witness2)
  intro w s₀ s₁ mg mb G Y fa o pm cd doc dV kV ho hdd hcd hD hmg hg args vals as hpre hlay hrd hwl hlo
  refine Ground.open G ?_
  intro T B D TE TW
  wrow_args hpre hlay hrd hwl hlo
  rename_i hI _ hcond _
  rename Well _ _ _ _ => hwell
  rename List Int => ns
  have hlen : ns.length ≤ 63 := by omega
  let W : Wd := ⟨PySem.Challenge.rw_pg0174_01.row.toRowW.prog, w, _, _, ExcName.means s₀.heap, mg, mb, s₁.heap, T⟩
  obtain ⟨a, ha, hc⟩ := law_ok (W := W) ⟨rfl, rfl⟩
  have e : a = fa := by
    have h : some (Value.ref a) = some (Value.ref fa) := ha.symm.trans hmg
    cases h; rfl
  subst e
  refine hc callerA _ s₁ (fun _ => False) [_] [.list (ns.map PV.int)] (fun p => p = .bool true) _ ⟨rfl, by decide, by decide⟩ (fun _ _ e => e) (fun _ q => q.elim) (.one (well_den hlen hwell)) ⟨⟨ns, rfl, hlen⟩, rfl⟩ ?_
  intro v pv s' hp hk dv
  subst hp
  have := den_bool dv
  subst this
  refine GoodW.toG ⟨.inl ⟨.bool true, .bool true, [], rfl, fun cls => ?_, ReadsW.bool true, ?_, unshared_nil⟩, keeps_mem hk, ?_, ?_⟩
  · rfl
  · wrow_post
  · obtain ⟨h', t', rfl, _⟩ := hk; rfl
  · obtain ⟨h', t', rfl, _⟩ := hk; exact hg

theorem PySem.Challenge.cw_pg0174_01_holds : PySem.Challenge.rw_pg0174_01.Holds :=
  Mine.join
