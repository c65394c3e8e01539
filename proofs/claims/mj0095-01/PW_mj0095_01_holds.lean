import PyProof.Rows.All
import Wide.All
import OpenK.AllK
import Wide.FinOn
import PySem.Challenge.RW_mj0095_01
open PySem PySem.W PyProof.Rows
set_option autoImplicit false
set_option Elab.async false
set_option linter.unusedVariables false
set_option linter.unusedSimpArgs false

namespace Mine

/-- data: a value as it is, an int, a text, a tuple, range(n) -/
inductive D where
  | val (v : Value)
  | int (i : Int)
  | str (x : Str)
  | tup (l : List D)
  | rng (n : Int)

abbrev D.non : D := .val .none
abbrev D.bool (b : Bool) : D := .val (.bool b)
abbrev D.ref (a : Addr) : D := .val (.ref a)

mutual
def Is (h : Heap) : D → Value → Prop
  | .val w, v => v = w
  | .int i, v => ∃ t, v = .int i t
  | .str x, v => ∃ t, v = .str x t
  | .tup l, v => ∃ a vs n, v = .ref a ∧ h.get? a = some (seqObj "tuple" vs n) ∧ IsAll h l vs.toList
  | .rng n, v => ∃ a t u w, v = .ref a ∧ IsRange h a 0 n 1 t u w
def IsAll (h : Heap) : List D → List Value → Prop
  | [], vs => vs = []
  | d :: ds, vs => ∃ v r, vs = v :: r ∧ Is h d v ∧ IsAll h ds r
end

/-- a mutable object: a list, a cell -/
inductive Mo where
  | lst (l : List D)
  | cel (d : Option D)

def MoIs (h : Heap) (a : Addr) : Mo → Prop
  | .lst ds => ∃ vs n, h.get? a = some (seqObj "list" vs n) ∧ IsAll h ds vs.toList
  | .cel none => ∃ o, h.get? a = some o ∧ o.data = .cell none
  | .cel (some d) => ∃ o v, h.get? a = some o ∧ o.data = .cell (some v) ∧ Is h d v

abbrev Sto := List (Addr × Mo)
abbrev Loc := List (Str × D)
abbrev dom (S : Sto) : List Addr := S.map (·.1)

inductive Has : Loc → Str → D → Prop where
  | here {x d m} : Has ((x, d) :: m) x d
  | there {x d y e m} : x ≠ y → Has m x d → Has ((y, e) :: m) x d

def NotTup (h : Heap) (a : Addr) : Prop := (∀ vs n, h.get? a ≠ some (seqObj "tuple" vs n)) ∧ ∀ n t u w, ¬ IsRange h a 0 n 1 t u w

/-- all but X is kept; nothing goes -/
def Kp (X : List Addr) (h h' : Heap) : Prop := (∀ a o, h.get? a = some o → ∃ o', h'.get? a = some o') ∧ ∀ a o, a ∉ X → h.get? a = some o → h'.get? a = some o

theorem Kp.refl (X : List Addr) (h : Heap) : Kp X h h := ⟨fun _ o e => ⟨o, e⟩, fun _ _ _ e => e⟩
theorem Kp.all {X : List Addr} {h h' : Heap} (k : ∀ a o, h.get? a = some o → h'.get? a = some o) : Kp X h h' := ⟨fun a o e => ⟨o, k a o e⟩, fun a o _ e => k a o e⟩
theorem Kp.push (X : List Addr) (h : Heap) (o : Obj) : Kp X h (h.push o) := .all fun _ _ e => Heap.get?_push_of_some _ e
theorem Kp.mono {X Y : List Addr} {h h' : Heap} (k : Kp X h h') (hs : ∀ a, a ∈ X → a ∈ Y) : Kp Y h h' := ⟨k.1, fun a o n e => k.2 a o (fun q => n (hs a q)) e⟩
theorem Kp.of_same {a : Addr} {X : List Addr} {h h' : Heap} (k : Heap.SameBut a h h') (ha : a ∈ X) (hl : ∃ o, h'.get? a = some o) : Kp X h h' :=
  ⟨fun b o e => if q : b = a then q ▸ hl else ⟨o, (k.2 b q).trans e⟩, fun b o n e => (k.2 b (fun q => n (q ▸ ha))).trans e⟩
theorem Kp.trans {X : List Addr} {h h' h'' : Heap} (x : Kp X h h') (y : Kp X h' h'') : Kp X h h'' :=
  ⟨fun a o e => by obtain ⟨o', e'⟩ := x.1 a o e; exact y.1 a o' e', fun a o n e => y.2 a o n (x.2 a o n e)⟩

mutual
theorem Is.kp2 {h h' : Heap} {X : List Addr} (k : ∀ a o, a ∉ X → h.get? a = some o → h'.get? a = some o) (nt : ∀ a, a ∈ X → NotTup h a) : ∀ {d : D} {v : Value}, Is h d v → Is h' d v
  | .val _, _, i => by rw [Is] at i ⊢; exact i
  | .int _, _, i => by rw [Is] at i ⊢; exact i
  | .str _, _, i => by rw [Is] at i ⊢; exact i
  | .tup _, _, i => by
    rw [Is] at i ⊢
    obtain ⟨a, vs, n, e, g, r⟩ := i
    exact ⟨a, vs, n, e, k a _ (fun q => (nt a q).1 vs n g) g, IsAll.kp2 k nt r⟩
  | .rng _, _, i => by
    rw [Is] at i ⊢
    obtain ⟨a, t, u, w, e, g⟩ := i
    exact ⟨a, t, u, w, e, k a _ (fun q => (nt a q).2 _ _ _ _ g) g⟩
theorem IsAll.kp2 {h h' : Heap} {X : List Addr} (k : ∀ a o, a ∉ X → h.get? a = some o → h'.get? a = some o) (nt : ∀ a, a ∈ X → NotTup h a) : ∀ {ds : List D} {vs : List Value}, IsAll h ds vs → IsAll h' ds vs
  | [], _, i => by rw [IsAll] at i ⊢; exact i
  | _ :: _, _, i => by
    rw [IsAll] at i ⊢
    obtain ⟨v, r, e, i1, i2⟩ := i
    exact ⟨v, r, e, Is.kp2 k nt i1, IsAll.kp2 k nt i2⟩
end

theorem Is.kp {h h' : Heap} {X : List Addr} (k : Kp X h h') (nt : ∀ a, a ∈ X → NotTup h a) {d : D} {v : Value} (i : Is h d v) : Is h' d v := Is.kp2 k.2 nt i
theorem IsAll.kp {h h' : Heap} {X : List Addr} (k : Kp X h h') (nt : ∀ a, a ∈ X → NotTup h a) {ds : List D} {vs : List Value} (i : IsAll h ds vs) : IsAll h' ds vs := IsAll.kp2 k.2 nt i

theorem IsAll.length {h : Heap} : ∀ {ds : List D} {vs : List Value}, IsAll h ds vs → vs.length = ds.length
  | [], _, i => by rw [IsAll] at i; subst i; rfl
  | _ :: _, _, i => by
    rw [IsAll] at i
    obtain ⟨v, r, rfl, _, i2⟩ := i
    simp [IsAll.length i2]
theorem IsAll.nil {h : Heap} : IsAll h [] [] := by rw [IsAll]
theorem IsAll.cons {h : Heap} {d : D} {v : Value} {ds : List D} {vs : List Value} (i : Is h d v) (r : IsAll h ds vs) : IsAll h (d :: ds) (v :: vs) := by
  rw [IsAll]; exact ⟨v, vs, rfl, i, r⟩
theorem IsAll.uncons {h : Heap} {d : D} {ds : List D} {vs : List Value} (i : IsAll h (d :: ds) vs) : ∃ v r, vs = v :: r ∧ Is h d v ∧ IsAll h ds r := by
  rw [IsAll] at i; exact i
theorem IsAll.unnil {h : Heap} {vs : List Value} (i : IsAll h [] vs) : vs = [] := by rw [IsAll] at i; exact i
theorem IsAll.append {h : Heap} : ∀ {ds es : List D} {vs us : List Value}, IsAll h ds vs → IsAll h es us → IsAll h (ds ++ es) (vs ++ us)
  | [], _, _, _, i, j => by rw [i.unnil]; exact j
  | _ :: _, _, _, _, i, j => by
    obtain ⟨v, r, rfl, i1, i2⟩ := i.uncons
    exact .cons i1 (IsAll.append i2 j)
theorem IsAll.get {h : Heap} : ∀ {ds : List D} {vs : List Value} {i : Nat} {d : D}, IsAll h ds vs → ds[i]? = some d → ∃ v, vs[i]? = some v ∧ Is h d v
  | [], _, _, _, _, e => by simp at e
  | _ :: _, _, 0, _, a, e => by
    obtain ⟨v, r, rfl, i1, _⟩ := a.uncons
    simp at e; subst e
    exact ⟨v, rfl, i1⟩
  | _ :: _, _, i + 1, _, a, e => by
    obtain ⟨v, r, rfl, _, i2⟩ := a.uncons
    simp only [List.getElem?_cons_succ] at e ⊢
    exact IsAll.get i2 e
theorem IsAll.set {h : Heap} : ∀ {ds : List D} {vs : List Value} {i : Nat} {d : D} {v : Value}, IsAll h ds vs → Is h d v → IsAll h (ds.set i d) (vs.set i v)
  | [], _, _, _, _, a, _ => by rw [a.unnil]; exact .nil
  | _ :: _, _, 0, _, _, a, j => by
    obtain ⟨v, r, rfl, _, i2⟩ := a.uncons
    exact .cons j i2
  | _ :: _, _, i + 1, _, _, a, j => by
    obtain ⟨v, r, rfl, i1, i2⟩ := a.uncons
    exact .cons i1 (IsAll.set i2 j)
theorem IsAll.take {h : Heap} : ∀ {ds : List D} {vs : List Value} (n : Nat), IsAll h ds vs → IsAll h (ds.take n) (vs.take n)
  | [], _, n, a => by rw [a.unnil]; simpa using IsAll.nil
  | _ :: _, _, 0, a => by simpa using IsAll.nil
  | _ :: _, _, n + 1, a => by
    obtain ⟨v, r, rfl, i1, i2⟩ := a.uncons
    exact .cons i1 (IsAll.take n i2)
theorem IsAll.drop {h : Heap} : ∀ {ds : List D} {vs : List Value} (n : Nat), IsAll h ds vs → IsAll h (ds.drop n) (vs.drop n)
  | [], _, n, a => by rw [a.unnil]; simpa using IsAll.nil
  | _ :: _, _, 0, a => a
  | _ :: _, _, n + 1, a => by
    obtain ⟨v, r, rfl, _, i2⟩ := a.uncons
    simpa using IsAll.drop n i2

theorem MoIs.kp2 {h h' : Heap} {X : List Addr} (k : ∀ a o, a ∉ X → h.get? a = some o → h'.get? a = some o) (nt : ∀ a, a ∈ X → NotTup h a) {a : Addr} (ha : a ∉ X) : ∀ {o : Mo}, MoIs h a o → MoIs h' a o
  | .lst _, ⟨vs, n, g, r⟩ => ⟨vs, n, k a _ ha g, r.kp2 k nt⟩
  | .cel none, ⟨o, g, r⟩ => ⟨o, k a _ ha g, r⟩
  | .cel (some _), ⟨o, v, g, r, i⟩ => ⟨o, v, k a _ ha g, r, i.kp2 k nt⟩
theorem MoIs.kp {h h' : Heap} {X : List Addr} (k : Kp X h h') (nt : ∀ a, a ∈ X → NotTup h a) {a : Addr} (ha : a ∉ X) {o : Mo} (x : MoIs h a o) : MoIs h' a o := x.kp2 k.2 nt ha
theorem MoIs.stands {h : Heap} {a : Addr} : ∀ {o : Mo}, MoIs h a o → ∃ x, h.get? a = some x
  | .lst _, ⟨_, _, g, _⟩ => ⟨_, g⟩
  | .cel none, ⟨_, g, _⟩ => ⟨_, g⟩
  | .cel (some _), ⟨_, _, g, _⟩ => ⟨_, g⟩
theorem MoIs.notTup {h : Heap} {a : Addr} : ∀ {o : Mo}, MoIs h a o → NotTup h a
  | .lst _, ⟨vs, n, g, _⟩ => ⟨fun us k e => by rw [g] at e; simp [seqObj] at e, fun _ _ _ _ e => by unfold IsRange at e; rw [g] at e; simp [seqObj] at e⟩
  | .cel none, ⟨o, g, r⟩ => ⟨fun us k e => by rw [g] at e; cases e; simp at r, fun _ _ _ _ e => by unfold IsRange at e; rw [g] at e; cases e; simp at r⟩
  | .cel (some _), ⟨o, v, g, r, _⟩ => ⟨fun us k e => by rw [g] at e; cases e; simp at r, fun _ _ _ _ e => by unfold IsRange at e; rw [g] at e; cases e; simp at r⟩
theorem notTup_ns {h : Heap} {a : Addr} {m : Str → Option Value} (n : h.Ns a m) : NotTup h a := by
  obtain ⟨o, es, ep, ho, hd, _⟩ := n
  exact ⟨fun vs k e => by rw [ho] at e; cases e; simp at hd, fun _ _ _ _ e => by unfold IsRange at e; rw [ho] at e; cases e; simp at hd⟩

theorem nilX {h : Heap} : ∀ a, a ∈ ([] : List Addr) → NotTup h a := by intro a q; cases q
theorem nilN {a : Addr} : a ∉ ([] : List Addr) := by intro q; cases q

/-- what stands at a state: the frame L with the names m, the mutable objects S, all of the base h₀ -/
structure St (h₀ : Heap) (os₀ : OsState) (L : Addr) (m : Loc) (S : Sto) (s : Shared) : Prop where
  keep : ∀ a o, h₀.get? a = some o → s.heap.get? a = some o
  fr : ∃ mV, s.heap.Ns L mV ∧ ∀ x d, Has m x d → ∃ v, mV x = some v ∧ Is s.heap d v
  freshL : h₀.get? L = none
  mos : ∀ a o, (a, o) ∈ S → MoIs s.heap a o
  freshS : ∀ a, a ∈ dom S → h₀.get? a = none
  nodup : (dom S).Nodup
  gens : s.gens = #[]
  os : s.os = os₀

section
variable {h₀ : Heap} {os₀ : OsState} {L : Addr} {m m' : Loc} {S S' S'' : Sto} {s s' s'' : Shared}

theorem mem_dom {a : Addr} (h : a ∈ dom S) : ∃ o, (a, o) ∈ S := by
  obtain ⟨p, hp, rfl⟩ := List.mem_map.mp h
  exact ⟨p.2, hp⟩
theorem dom_mem {a : Addr} {o : Mo} (h : (a, o) ∈ S) : a ∈ dom S := List.mem_map.mpr ⟨_, h, rfl⟩

theorem St.notTup (T : St h₀ os₀ L m S s) : ∀ a, a ∈ L :: dom S → NotTup s.heap a := fun a ha => by
  rcases List.mem_cons.mp ha with rfl | ha
  · obtain ⟨mV, n, _⟩ := T.fr
    exact notTup_ns n
  · obtain ⟨o, ho⟩ := mem_dom ha
    exact (T.mos a o ho).notTup
theorem St.notL (T : St h₀ os₀ L m S s) : L ∉ dom S := fun ha => by
  obtain ⟨o, ho⟩ := mem_dom ha
  obtain ⟨mV, ⟨ob, es, ep, hob, hd, _⟩, _⟩ := T.fr
  have := T.mos L o ho
  cases o with
  | lst ds => obtain ⟨vs, n, g, _⟩ := this; rw [hob] at g; cases g; simp at hd
  | cel d =>
    cases d with
    | none => obtain ⟨o', g, r⟩ := this; rw [hob] at g; cases g; rw [hd] at r; cases r
    | some d => obtain ⟨o', v, g, r, _⟩ := this; rw [hob] at g; cases g; rw [hd] at r; cases r
theorem St.ltL (T : St h₀ os₀ L m S s) : L < s.heap.objs.size := by
  obtain ⟨mV, n, _⟩ := T.fr
  exact n.lt
theorem St.ltS (T : St h₀ os₀ L m S s) {a : Addr} (h : a ∈ dom S) : a < s.heap.objs.size := by
  obtain ⟨o, ho⟩ := mem_dom h
  obtain ⟨x, hx⟩ := (T.mos a o ho).stands
  exact Heap.lt_size hx
theorem none_size (h : Heap) : h.get? h.objs.size = none := by
  cases q : h.get? h.objs.size with
  | none => rfl
  | some o => exact absurd (Heap.lt_size q) (Nat.lt_irrefl _)
theorem St.fresh0 (T : St h₀ os₀ L m S s) : h₀.get? s.heap.objs.size = none := by
  cases q : h₀.get? s.heap.objs.size with
  | none => rfl
  | some o => exact absurd (Heap.lt_size (T.keep _ _ q)) (Nat.lt_irrefl _)

/-- nothing of it is touched -/
theorem St.still (T : St h₀ os₀ L m S s) (k : ∀ a o, s.heap.get? a = some o → s'.heap.get? a = some o) (hg : s'.gens = s.gens) (ho : s'.os = s.os) : St h₀ os₀ L m S s' := by
  have hk : Kp [] s.heap s'.heap := Kp.all k
  obtain ⟨mV, ⟨o, es, ep, g, r⟩, f⟩ := T.fr
  refine ⟨fun a o e => k a o (T.keep a o e), ⟨mV, ⟨o, es, ep, k _ _ g, r⟩, fun x d hx => ?_⟩, T.freshL, fun a o ha => ?_, T.freshS, T.nodup, hg.trans T.gens, ho.trans T.os⟩
  · obtain ⟨v, e, i⟩ := f x d hx
    exact ⟨v, e, i.kp hk nilX⟩
  · exact (T.mos a o ha).kp hk nilX nilN
theorem St.toks (T : St h₀ os₀ L m S s) (tk : Nat) : St h₀ os₀ L m S { s with toks := tk } := T.still (fun _ _ e => e) rfl rfl
theorem St.push (T : St h₀ os₀ L m S s) (o : Obj) : St h₀ os₀ L m S { s with heap := s.heap.push o } := T.still (fun _ _ e => Heap.get?_push_of_some _ e) rfl rfl

/-- a new mutable object is laid -/
theorem St.lay {a : Addr} {o : Mo} (T : St h₀ os₀ L m S s) (h0 : h₀.get? a = none) (hn : a ∉ dom S) (hm : MoIs s.heap a o) : St h₀ os₀ L m ((a, o) :: S) s where
  keep := T.keep
  fr := T.fr
  freshL := T.freshL
  mos b p hb := by
    rcases List.mem_cons.mp hb with e | hb
    · cases e; exact hm
    · exact T.mos b p hb
  freshS b hb := by
    rcases List.mem_cons.mp hb with e | hb
    · rw [e]; exact h0
    · exact T.freshS b hb
  nodup := List.nodup_cons.mpr ⟨hn, T.nodup⟩
  gens := T.gens
  os := T.os

/-- the frame's names: fewer -/
theorem St.less (T : St h₀ os₀ L m S s) (hm : ∀ x d, Has m' x d → Has m x d) : St h₀ os₀ L m' S s := by
  obtain ⟨mV, n, f⟩ := T.fr
  exact ⟨T.keep, ⟨mV, n, fun x d h => f x d (hm x d h)⟩, T.freshL, T.mos, T.freshS, T.nodup, T.gens, T.os⟩
/-- the mutable objects: fewer -/
theorem St.drop (T : St h₀ os₀ L m S s) (hs : S'.Sublist S) : St h₀ os₀ L m S' s := { T with
  mos := fun a o h => T.mos a o (hs.subset h)
  freshS := fun a h => T.freshS a ((hs.map _).subset h)
  nodup := T.nodup.sublist (hs.map _) }

/-- from s to s': only L and S are touched; what is mutable now was so or is new -/
structure Go (L : Addr) (S S' : Sto) (s s' : Shared) : Prop where
  kp : Kp (L :: dom S) s.heap s'.heap
  new : ∀ a, a ∈ dom S' → a ∈ dom S ∨ s.heap.get? a = none

theorem Go.refl : Go L S S s s := ⟨Kp.refl _ _, fun _ h => .inl h⟩
theorem Go.still (k : ∀ a o, s.heap.get? a = some o → s'.heap.get? a = some o) : Go L S S s s' := ⟨Kp.all k, fun _ h => .inl h⟩
theorem Go.toks (tk : Nat) : Go L S S s { s with toks := tk } := ⟨Kp.refl _ _, fun _ h => .inl h⟩
theorem Go.push (o : Obj) : Go L S S s { s with heap := s.heap.push o } := ⟨Kp.push _ _ _, fun _ h => .inl h⟩
theorem Go.trans (x : Go L S S' s s') (y : Go L S' S'' s' s'') : Go L S S'' s s'' where
  kp := ⟨fun a o e => by obtain ⟨o', e'⟩ := x.kp.1 a o e; exact y.kp.1 a o' e', fun a o n e => y.kp.2 a o (fun q => by
      rcases List.mem_cons.mp q with q | q
      · exact n (List.mem_cons.mpr (.inl q))
      · rcases x.new a q with q | q
        · exact n (List.mem_cons.mpr (.inr q))
        · rw [q] at e; cases e) (x.kp.2 a o n e)⟩
  new a ha := by
    rcases y.new a ha with q | q
    · exact x.new a q
    · refine .inr ?_
      cases e : s.heap.get? a with
      | none => rfl
      | some o => obtain ⟨o', e'⟩ := x.kp.1 a o e; rw [q] at e'; cases e'
theorem Go.drop {T : Sto} (x : Go L S S' s s') (hs : T.Sublist S') : Go L S T s s' := ⟨x.kp, fun a h => x.new a ((hs.map _).subset h)⟩
theorem Go.is {d : D} {v : Value} (x : Go L S S' s s') (T : St h₀ os₀ L m S s) (i : Is s.heap d v) : Is s'.heap d v := i.kp x.kp T.notTup
theorem Go.isAll {ds : List D} {vs : List Value} (x : Go L S S' s s') (T : St h₀ os₀ L m S s) (i : IsAll s.heap ds vs) : IsAll s'.heap ds vs := i.kp x.kp T.notTup
end

end Mine

namespace Mine

structure Cx where
  prog : Program
  w : World
  h₀ : Heap
  os₀ : OsState
abbrev Cx.M (c : Cx) : Model := model c.prog c.w
abbrev Cx.St (c : Cx) := Mine.St c.h₀ c.os₀

inductive Fl where
  | nxt | brk | cont
  | ret (d : D)
def FlIs (h : Heap) : Fl → Flow → Prop
  | .nxt, f => f = .next
  | .brk, f => f = .brk
  | .cont, f => f = .cont
  | .ret d, f => ∃ v, f = .ret v ∧ Is h d v
def BIs (_ : Heap) (b : Bool) (a : Bool) : Prop := a = b
def UIs (_ : Heap) (_ : Unit) (_ : Unit) : Prop := True

section
variable {α β γ δ : Type}
/-- the end of a run -/
def Pst (c : Cx) (R : Heap → β → α → Prop) (L : Addr) (S : Sto) (s : Shared) (K : β → Loc → Sto → Prop) : α → Shared → Prop :=
  fun a s' => ∃ b m' S', R s'.heap b a ∧ c.St L m' S' s' ∧ Go L S S' s s' ∧ K b m' S'
def No : Value → Shared → Prop := fun _ _ => False
/-- what is shown of a tree -/
def WG (c : Cx) (A : Around) (R : Heap → β → α → Prop) (t : Sem α) (L : Addr) (m : Loc) (S : Sto) (K : β → Loc → Sto → Prop) : Prop :=
  ∀ s, c.St L m S s → wpAny c.M A t (Pst c R L S s K) No s

variable {c : Cx} {A : Around} {R : Heap → β → α → Prop} {L : Addr} {m : Loc} {S : Sto}
theorem no_elim {Q : α → Shared → Prop} {E : Value → Shared → Prop} {t : Sem α} {M : Model} {s : Shared} (h : wpAny M A t Q No s) : wpAny M A t Q E s := wpAny_mono h (fun _ _ x => x) fun _ _ x => x.elim
theorem wg_mono {t : Sem α} {K K' : β → Loc → Sto → Prop} (h : WG c A R t L m S K) (hk : ∀ b m' S', K b m' S' → K' b m' S') : WG c A R t L m S K' :=
  fun s T => wpAny_mono (h s T) (fun _ _ ⟨b, m', S', r, T', G, k⟩ => ⟨b, m', S', r, T', G, hk _ _ _ k⟩) fun _ _ x => x
theorem wg_of_eq {t t' : Sem α} {K : β → Loc → Sto → Prop} (e : t = t') (h : WG c A R t' L m S K) : WG c A R t L m S K := e ▸ h
theorem pst_go {S' : Sto} {s s' : Shared} {K : β → Loc → Sto → Prop} {a : α} {s'' : Shared} (G : Go L S S' s s') (h : Pst c R L S' s' K a s'') : Pst c R L S s K a s'' := by
  obtain ⟨b, m', S'', r, T, G', k⟩ := h
  exact ⟨b, m', S'', r, T, G.trans G', k⟩
theorem wg_go {t : Sem α} {m' : Loc} {S' : Sto} {s s' : Shared} {K : β → Loc → Sto → Prop} (h : WG c A R t L m' S' K) (T : c.St L m' S' s') (G : Go L S S' s s') : wpAny c.M A t (Pst c R L S s K) No s' :=
  wpAny_mono (h s' T) (fun _ _ p => pst_go G p) fun _ _ x => x
/-- fewer names -/
theorem wg_less {t : Sem α} {m' : Loc} {K : β → Loc → Sto → Prop} (h : WG c A R t L m' S K) (hm : ∀ x d, Has m' x d → Has m x d) : WG c A R t L m S K :=
  fun s T => h s (T.less hm)
/-- fewer objects -/
theorem wg_drop {t : Sem α} {S' : Sto} {K : β → Loc → Sto → Prop} (h : WG c A R t L m S' K) (hs : S'.Sublist S) : WG c A R t L m S K :=
  fun s T => wg_go h (T.drop hs) (Go.refl.drop hs)

/-- a tree that makes of one datum -/
def WF (c : Cx) (A : Around) (R : Heap → β → α → Prop) (f : Value → Sem α) (d : D) (L : Addr) (m : Loc) (S : Sto) (K : β → Loc → Sto → Prop) : Prop :=
  ∀ v s, c.St L m S s → Is s.heap d v → wpAny c.M A (f v) (Pst c R L S s K) No s
def WF2 (c : Cx) (A : Around) (R : Heap → β → α → Prop) (f : Value → Value → Sem α) (d e : D) (L : Addr) (m : Loc) (S : Sto) (K : β → Loc → Sto → Prop) : Prop :=
  ∀ v u s, c.St L m S s → Is s.heap d v → Is s.heap e u → wpAny c.M A (f v u) (Pst c R L S s K) No s
def WF3 (c : Cx) (A : Around) (R : Heap → β → α → Prop) (f : Value → Value → Value → Sem α) (d e g : D) (L : Addr) (m : Loc) (S : Sto) (K : β → Loc → Sto → Prop) : Prop :=
  ∀ v u x s, c.St L m S s → Is s.heap d v → Is s.heap e u → Is s.heap g x → wpAny c.M A (f v u x) (Pst c R L S s K) No s
def WFs (c : Cx) (A : Around) (R : Heap → β → α → Prop) (f : List Value → Sem α) (ds : List D) (L : Addr) (m : Loc) (S : Sto) (K : β → Loc → Sto → Prop) : Prop :=
  ∀ vs s, c.St L m S s → IsAll s.heap ds vs → wpAny c.M A (f vs) (Pst c R L S s K) No s
theorem wf_go {f : Value → Sem α} {d : D} {m' : Loc} {S' : Sto} {s s' : Shared} {v : Value} {K : β → Loc → Sto → Prop} (h : WF c A R f d L m' S' K) (T : c.St L m' S' s') (G : Go L S S' s s') (i : Is s'.heap d v) : wpAny c.M A (f v) (Pst c R L S s K) No s' :=
  wpAny_mono (h v s' T i) (fun _ _ p => pst_go G p) fun _ _ x => x
theorem wf2_go {f : Value → Value → Sem α} {d e : D} {m' : Loc} {S' : Sto} {s s' : Shared} {v u : Value} {K : β → Loc → Sto → Prop} (h : WF2 c A R f d e L m' S' K) (T : c.St L m' S' s') (G : Go L S S' s s') (i : Is s'.heap d v) (j : Is s'.heap e u) : wpAny c.M A (f v u) (Pst c R L S s K) No s' :=
  wpAny_mono (h v u s' T i j) (fun _ _ p => pst_go G p) fun _ _ x => x
theorem wfs_go {f : List Value → Sem α} {ds : List D} {m' : Loc} {S' : Sto} {s s' : Shared} {vs : List Value} {K : β → Loc → Sto → Prop} (h : WFs c A R f ds L m' S' K) (T : c.St L m' S' s') (G : Go L S S' s s') (i : IsAll s'.heap ds vs) : wpAny c.M A (f vs) (Pst c R L S s K) No s' :=
  wpAny_mono (h vs s' T i) (fun _ _ p => pst_go G p) fun _ _ x => x
end

/-- of these names the values are known -/
def Sub (m₀ m : Loc) : Prop := ∀ x d, Has m₀ x d → Has m x d
theorem Sub.nil {m : Loc} : Sub [] m := fun _ _ h => nomatch h
theorem Sub.cons {m₀ m : Loc} {x : Str} {d : D} (h : Has m x d) (r : Sub m₀ m) : Sub ((x, d) :: m₀) m := fun y e hy => by
  cases hy with
  | here => exact h
  | there _ hy => exact r y e hy
theorem Has.here' {x : Str} {d d' : D} {m : Loc} (h : d = d') : Has ((x, d) :: m) x d' := h ▸ Has.here

/-! expressions -/
section
variable {c : Cx} {A : Around} {env : Env} {L : Addr} {m : Loc} {S : Sto}

abbrev WE (c : Cx) (A : Around) (t : Sem Value) := WG c A Is t
abbrev WX (c : Cx) (A : Around) (t : Sem Flow) := WG c A FlIs t
abbrev WB (c : Cx) (A : Around) (t : Sem Bool) := WG c A BIs t
abbrev WU (c : Cx) (A : Around) (t : Sem Unit) := WG c A UIs t

theorem we_int {i : Int} {k : Nat} {pos : Pos} {K : D → Loc → Sto → Prop} (h : K (.int i) m S) : WE c A (eval (.Constant (.int i) k pos) env) L m S K :=
  fun s T => wpAny_Constant_int ⟨_, _, _, by rw [Is]; exact ⟨_, rfl⟩, T.toks _, Go.toks _, h⟩
theorem we_str {x : Str} {k : Nat} {pos : Pos} {K : D → Loc → Sto → Prop} (h : K (.str x) m S) : WE c A (eval (.Constant (.str x) k pos) env) L m S K :=
  fun s T => wpAny_Constant_str ⟨_, _, _, by rw [Is]; exact ⟨_, rfl⟩, T.toks _, Go.toks _, h⟩
theorem we_name {x : Str} {pos : Pos} {d : D} {K : D → Loc → Sto → Prop} (hx : Has m x d) (h : K d m S) (hL : env.locals = L := by rfl) (hk : env.scope.kind = .function := by rfl) (hl : env.kindOf x = some .local := by rfl)
    (hd : (x == ("__debug__" : Str)) = false := by decide) : WE c A (eval (.Name x pos) env) L m S K := fun s T => by
  obtain ⟨mV, n, f⟩ := T.fr
  obtain ⟨v, e, i⟩ := f x d hx
  subst hL
  exact wpAny_Name (wpAny_loadName_local hk hl n e ⟨_, _, _, i, T, Go.refl, h⟩) hd

theorem we_binop {l r : Expr} {op : Operator} {pos : Pos} {K : D → Loc → Sto → Prop}
    (h : WE c A (eval l env) L m S fun d m S => WE c A (eval r env) L m S fun e m S => WF2 c A Is (binaryOp op) d e L m S K) : WE c A (eval (.BinOp l op r pos) env) L m S K := fun s T =>
  wpAny_BinOp (wpAny_mono (h s T) (fun _ s₁ ⟨d, m₁, S₁, i, T₁, G₁, k⟩ => wpAny_mono (k s₁ T₁) (fun _ s₂ ⟨e, m₂, S₂, j, T₂, G₂, k₂⟩ => wf2_go k₂ T₂ (G₁.trans G₂) (G₂.is T₁ i) j) fun _ _ x => x) fun _ _ x => x)
theorem we_cmp {l r : Expr} {op : CmpOp} {pos : Pos} {K : D → Loc → Sto → Prop}
    (h : WE c A (eval l env) L m S fun d m S => WE c A (eval r env) L m S fun e m S => WF2 c A Is (compareOp op) d e L m S K) (hm : behindInMarks op r = false := by with_unfolding_all rfl) : WE c A (eval (.Compare l [op] [r] pos) env) L m S K := fun s T =>
  wpAny_Compare1 (wpAny_mono (h s T) (fun _ s₁ ⟨d, m₁, S₁, i, T₁, G₁, k⟩ => wpAny_mono (k s₁ T₁) (fun _ s₂ ⟨e, m₂, S₂, j, T₂, G₂, k₂⟩ => wf2_go k₂ T₂ (G₁.trans G₂) (G₂.is T₁ i) j) fun _ _ x => x) fun _ _ x => x) hm

/-! tests -/
theorem wb_cmp {l r : Expr} {op : CmpOp} {pos : Pos} {whole : Sem Value} {K : Bool → Loc → Sto → Prop}
    (h : WE c A (eval l env) L m S fun d m S => WE c A (eval r env) L m S fun e m S => WF2 c A Is (compareOp op) d e L m S fun d m S => ∃ b, d = .bool b ∧ K b m S) (hm : behindInMarks op r = false := by with_unfolding_all rfl) :
    WB c A (isTrue (.Compare l [op] [r] pos) env whole) L m S K := fun s T =>
  wpAny_isTrue_Compare1 (wpAny_mono (h s T) (fun _ s₁ ⟨d, m₁, S₁, i, T₁, G₁, k⟩ => wpAny_mono (k s₁ T₁) (fun _ s₂ ⟨e, m₂, S₂, j, T₂, G₂, k₂⟩ =>
    wpAny_mono (wf2_go k₂ T₂ (G₁.trans G₂) (G₂.is T₁ i) j) (fun v s₃ ⟨d, m₃, S₃, i₃, T₃, G₃, b, e, k₃⟩ => by
      subst e; rw [Is] at i₃; subst i₃
      exact wpAny_truthy_bool ⟨b, m₃, S₃, rfl, T₃, G₃, k₃⟩) fun _ _ x => x) fun _ _ x => x) fun _ _ x => x) hm
theorem wb_not {x : Expr} {pos : Pos} {whole : Sem Value} {K : Bool → Loc → Sto → Prop} (h : WB c A (isTrue x env (eval x env)) L m S fun b m S => K (!b) m S) : WB c A (isTrue (.UnaryOp .Not x pos) env whole) L m S K := fun s T =>
  wpAny_isTrue_Not (wpAny_mono (h s T) (fun a s₁ ⟨b, m₁, S₁, i, T₁, G₁, k⟩ => by cases (i : a = b); exact ⟨_, m₁, S₁, rfl, T₁, G₁, k⟩) fun _ _ x => x)
theorem wb_and2 {x y : Expr} {pos : Pos} {whole : Sem Value} {K : Bool → Loc → Sto → Prop}
    (h : WB c A (isTrue x env (eval x env)) L m S fun b m S => if b = true then WB c A (isTrue y env (eval y env)) L m S K else K false m S) : WB c A (isTrue (.BoolOp .And [x, y] pos) env whole) L m S K := fun s T => by
  refine wpAny_isTrue_BoolOp (wpAny_allTrue_And_cons (wpAny_mono (h s T) (fun a s₁ ⟨b, m₁, S₁, i, T₁, G₁, k⟩ => ?_) fun _ _ x => x))
  cases (i : a = b)
  cases a with
  | false =>
    rw [if_neg (by decide)] at k ⊢
    exact ⟨_, m₁, S₁, rfl, T₁, G₁, k⟩
  | true =>
    rw [if_pos rfl] at k ⊢
    refine wpAny_allTrue_And_cons (wpAny_mono (wg_go k T₁ G₁) (fun a s₂ ⟨b, m₂, S₂, i, T₂, G₂, k₂⟩ => ?_) fun _ _ x => x)
    cases (i : a = b)
    cases a with
    | false => rw [if_neg (by decide)]; exact ⟨_, m₂, S₂, rfl, T₂, G₂, k₂⟩
    | true => rw [if_pos rfl]; exact wpAny_allTrue_And_nil ⟨_, m₂, S₂, rfl, T₂, G₂, k₂⟩
theorem wb_val {e : Expr} {whole : Sem Value} {K : Bool → Loc → Sto → Prop} (h : WE c A whole L m S fun d m S => WF c A BIs truthy d L m S K)
    (he : isTrue e env whole = (do let v ← whole; standAt e.pos; holding [v] (truthy v)) := by rfl) : WB c A (isTrue e env whole) L m S K := fun s T =>
  wpAny_isTrue_value (wpAny_mono (h s T) (fun _ s₁ ⟨d, m₁, S₁, i, T₁, G₁, k⟩ => wf_go k T₁ G₁ i) fun _ _ x => x) he

/-! statements -/
theorem wx_nil {K : Fl → Loc → Sto → Prop} (h : K .nxt m S) : WX c A (execs [] env) L m S K := fun s T => wpAny_execs_nil ⟨.nxt, m, S, rfl, T, Go.refl, h⟩
theorem wx_cons {st : Stmt} {rest : List Stmt} {K : Fl → Loc → Sto → Prop}
    (h : WX c A (exec st env) L m S fun f m S => match f with | .nxt => WX c A (execs rest env) L m S K | f => K f m S) : WX c A (execs (st :: rest) env) L m S K := fun s T => by
  refine wpAny_execs_cons (wpAny_mono (h s T) (fun f s₁ ⟨fl, m₁, S₁, i, T₁, G₁, k⟩ => ?_) fun _ _ x => x)
  cases fl with
  | nxt => cases (i : f = .next); exact wg_go k T₁ G₁
  | brk => cases (i : f = .brk); exact ⟨.brk, m₁, S₁, rfl, T₁, G₁, k⟩
  | cont => cases (i : f = .cont); exact ⟨.cont, m₁, S₁, rfl, T₁, G₁, k⟩
  | ret d => obtain ⟨v, rfl, i⟩ := i; exact ⟨.ret d, m₁, S₁, ⟨v, rfl, i⟩, T₁, G₁, k⟩
theorem wx_if {test : Expr} {body orelse : List Stmt} {pos : Pos} {K : Fl → Loc → Sto → Prop}
    (h : WB c A (isTrue test env (eval test env)) L m S fun b m S => if b = true then WX c A (execs body env) L m S K else WX c A (execs orelse env) L m S K) : WX c A (exec (.If test body orelse pos) env) L m S K := fun s T => by
  refine wpAny_If (wpAny_mono (h s T) (fun a s₁ ⟨b, m₁, S₁, i, T₁, G₁, k⟩ => ?_) fun _ _ x => x)
  cases (i : a = b)
  cases a with
  | false => rw [if_neg (by decide)] at k ⊢; exact wg_go k T₁ G₁
  | true => rw [if_pos rfl] at k ⊢; exact wg_go k T₁ G₁
theorem wx_ret {e : Expr} {pos : Pos} {K : Fl → Loc → Sto → Prop} (h : WE c A (eval e env) L m S fun d m S => K (.ret d) m S) : WX c A (exec (.Return (some e) pos) env) L m S K := fun s T =>
  wpAny_Return_some (wpAny_mono (h s T) (fun v s₁ ⟨d, m₁, S₁, i, T₁, G₁, k⟩ => ⟨.ret d, m₁, S₁, ⟨v, rfl, i⟩, T₁, G₁, k⟩) fun _ _ x => x)
theorem wx_break {pos : Pos} {K : Fl → Loc → Sto → Prop} (h : K .brk m S) : WX c A (exec (.Break pos) env) L m S K := fun s T => wpAny_Break ⟨.brk, m, S, rfl, T, Go.refl, h⟩
theorem wx_continue {pos : Pos} {K : Fl → Loc → Sto → Prop} (h : K .cont m S) : WX c A (exec (.Continue pos) env) L m S K := fun s T => wpAny_Continue ⟨.cont, m, S, rfl, T, Go.refl, h⟩
theorem wx_expr {e : Expr} {pos : Pos} {K : Fl → Loc → Sto → Prop} (h : WE c A (eval e env) L m S fun _ m S => K .nxt m S) (hi : interactive env = false := by rfl) (hs : swapsWith e none pos.line env = pure false := by rfl) :
    WX c A (exec (.Expr e pos) env) L m S K := fun s T =>
  wpAny_Expr_any (wpAny_mono (h s T) (fun v s₁ ⟨d, m₁, S₁, _, T₁, G₁, k⟩ => ⟨.nxt, m₁, S₁, rfl, T₁, G₁, k⟩) fun _ _ x => x) hi hs

/-- the frame's name x gets d -/
theorem St.store {h₀ : Heap} {os₀ : OsState} {s : Shared} {h' : Heap} {tk : Nat} {mV : Str → Option Value} {x : Str} {v : Value} {d : D} (T : St h₀ os₀ L m S s) (n : s.heap.Ns L mV) (f : ∀ x d, Has m x d → ∃ v, mV x = some v ∧ Is s.heap d v)
    (n' : h'.Ns L (fun y => if y = x then some v else mV y)) (hs : Heap.SameBut L s.heap h') (i : Is s.heap d v) : St h₀ os₀ L ((x, d) :: m) S { s with heap := h', toks := tk } := by
  have kp : Kp [L] s.heap h' := Kp.of_same hs (List.mem_cons_self ..) (by obtain ⟨o, _, _, e, _⟩ := n'; exact ⟨o, e⟩)
  have nt : ∀ a, a ∈ [L] → NotTup s.heap a := fun a ha => T.notTup a (List.mem_cons.mpr (.inl (List.mem_singleton.mp ha)))
  refine ⟨fun a o e => kp.2 a o (fun q => ?_) (T.keep a o e), ⟨_, n', fun y e hy => ?_⟩, T.freshL, fun a o ha => (T.mos a o ha).kp kp nt fun q => ?_, T.freshS, T.nodup, T.gens, T.os⟩
  · rw [List.mem_singleton.mp q, T.freshL] at e; cases e
  · cases hy with
    | here => exact ⟨v, by simp, i.kp kp nt⟩
    | there hne hy =>
      obtain ⟨u, eu, iu⟩ := f y e hy
      exact ⟨u, by simp [hne, eu], iu.kp kp nt⟩
  · exact T.notL (List.mem_singleton.mp q ▸ dom_mem ha)
theorem wu_store {x : Str} {d : D} {K : Unit → Loc → Sto → Prop} (h : K () ((x, d) :: m) S) (hL : env.locals = L := by rfl) (hl : env.kindOf x = some .local := by rfl)
    (hp : (env.scope.kind == .class || (env.scope.kind == .module && env.locals != env.globals)) = false := by rfl) : WF c A UIs (storeName env x) d L m S K := fun v s T i => by
  subst hL
  obtain ⟨mV, n, f⟩ := T.fr
  refine wpAny_storeName_local hl n (fun h' n' hs => ⟨(), _, S, trivial, T.store n f n' hs i, ⟨Kp.of_same hs (List.mem_cons_self ..) (by obtain ⟨o, _, _, e, _⟩ := n'; exact ⟨o, e⟩), fun _ h => .inl h⟩, h⟩) hp
theorem wx_assign {x : Str} {pos' pos : Pos} {value : Expr} {K : Fl → Loc → Sto → Prop} (h : WE c A (eval value env) L m S fun d m S => K .nxt ((x, d) :: m) S)
    (hL : env.locals = L := by rfl) (hl : env.kindOf x = some .local := by rfl) (hp : (env.scope.kind == .class || (env.scope.kind == .module && env.locals != env.globals)) = false := by rfl)
    (hs : swapsWith value (some (.Name x pos')) pos.line env = pure false := by rfl) : WX c A (exec (.Assign [.Name x pos'] value pos) env) L m S K := fun s T =>
  wpAny_Assign_Name (wpAny_mono (h s T) (fun v s₁ ⟨d, m₁, S₁, i, T₁, G₁, k⟩ =>
    wpAny_mono (wf_go (wu_store (K := fun _ m S => K .nxt m S) k hL hl hp) T₁ G₁ i) (fun _ s₂ ⟨_, m₂, S₂, _, T₂, G₂, k₂⟩ => ⟨.nxt, m₂, S₂, rfl, T₂, G₂, k₂⟩) fun _ _ x => x) fun _ _ x => x) hs

/-! loops -/
theorem wx_while {test : Expr} {body : List Stmt} {pos : Pos} {K : Fl → Loc → Sto → Prop} (I : Nat → Loc → Sto → Prop)
    (turn : ∀ n m S, I n m S → WB c A (isTrue test env (eval test env)) L m S fun b m S => if b = true then
      WX c A (execs body env) L m S (fun f m S => match f with | .nxt => ∃ k, k < n ∧ I k m S | .cont => ∃ k, k < n ∧ I k m S | .brk => K .nxt m S | .ret d => K (.ret d) m S) else K .nxt m S)
    (n : Nat) (h : I n m S) : WX c A (exec (.While test body [] pos) env) L m S K := fun s T => by
  refine wpAny_While (codeAny_whileLoop (fun n s' => ∃ m' S', I n m' S' ∧ c.St L m' S' s' ∧ Go L S S' s s') ?_ n ⟨m, S, h, T, Go.refl⟩)
  rintro n s₁ ⟨m₁, S₁, hI, T₁, G₁⟩
  refine no_elim (wpAny_mono (wg_go (turn n m₁ S₁ hI) T₁ G₁) (fun a s₂ ⟨b, m₂, S₂, i, T₂, G₂, k⟩ => ?_) fun _ _ x => x)
  cases (i : a = b)
  cases a with
  | false => rw [if_neg (by decide)] at k ⊢; exact wpAny_execs_nil ⟨.nxt, m₂, S₂, rfl, T₂, G₂, k⟩
  | true =>
    rw [if_pos rfl] at k ⊢
    refine no_elim (wpAny_mono (wg_go k T₂ G₂) (fun f s₃ ⟨fl, m₃, S₃, i, T₃, G₃, k⟩ => ?_) fun _ _ x => x)
    cases fl with
    | nxt => cases (i : f = .next); obtain ⟨j, hj, hI⟩ := k; exact ⟨j, hj, m₃, S₃, hI, T₃, G₃⟩
    | cont => cases (i : f = .cont); obtain ⟨j, hj, hI⟩ := k; exact ⟨j, hj, m₃, S₃, hI, T₃, G₃⟩
    | brk => cases (i : f = .brk); exact ⟨.nxt, m₃, S₃, rfl, T₃, G₃, k⟩
    | ret d => obtain ⟨v, rfl, i⟩ := i; exact ⟨.ret d, m₃, S₃, ⟨v, rfl, i⟩, T₃, G₃, k⟩
end

end Mine

namespace Mine

section
variable {c : Cx} {A : Around} {env : Env} {L : Addr} {m : Loc} {S : Sto}
variable {K : D → Loc → Sto → Prop}

theorem is_int {h : Heap} {i : Int} {v : Value} (x : Is h (.int i) v) : ∃ t, v = .int i t := by rw [Is] at x; exact x
theorem is_str {h : Heap} {i : Str} {v : Value} (x : Is h (.str i) v) : ∃ t, v = .str i t := by rw [Is] at x; exact x
theorem is_val {h : Heap} {w v : Value} (x : Is h (.val w) v) : v = w := by rw [Is] at x; exact x
theorem is_tup {h : Heap} {l : List D} {v : Value} (x : Is h (.tup l) v) : ∃ a vs n, v = .ref a ∧ h.get? a = some (seqObj "tuple" vs n) ∧ IsAll h l vs.toList := by rw [Is] at x; exact x
theorem int_is {h : Heap} {i : Int} {t : Tok} : Is h (.int i) (.int i t) := by rw [Is]; exact ⟨t, rfl⟩
theorem str_is {h : Heap} {i : Str} {t : Tok} : Is h (.str i) (.str i t) := by rw [Is]; exact ⟨t, rfl⟩
theorem val_is {h : Heap} {v : Value} : Is h (.val v) v := by rw [Is]
theorem tup_is {h : Heap} {l : List D} {a : Addr} {vs : Array Value} {n : Nat} (g : h.get? a = some (seqObj "tuple" vs n)) (r : IsAll h l vs.toList) : Is h (.tup l) (.ref a) := by rw [Is]; exact ⟨a, vs, n, rfl, g, r⟩

/-- an end with nothing touched but the tokens -/
theorem pst_toks {s : Shared} {d : D} {v : Value} {tk : Nat} (T : c.St L m S s) (i : Is s.heap d v) (k : K d m S) : Pst c Is L S s K v { s with toks := tk } := ⟨d, m, S, i, T.toks _, Go.toks _, k⟩
theorem pst_here {s : Shared} {d : D} {v : Value} (T : c.St L m S s) (i : Is s.heap d v) (k : K d m S) : Pst c Is L S s K v s := ⟨d, m, S, i, T, Go.refl, k⟩

theorem wf2_add_int {a b : Int} (k : K (.int (a + b)) m S) : WF2 c A Is (binaryOp .Add) (.int a) (.int b) L m S K := fun v u s T i j => by
  obtain ⟨t, rfl⟩ := is_int i; obtain ⟨t', rfl⟩ := is_int j
  exact PyProof.Rows.add_int (pst_toks T int_is k)
theorem wf2_sub_int {a b : Int} (k : K (.int (a - b)) m S) : WF2 c A Is (binaryOp .Sub) (.int a) (.int b) L m S K := fun v u s T i j => by
  obtain ⟨t, rfl⟩ := is_int i; obtain ⟨t', rfl⟩ := is_int j
  exact PyProof.Rows.sub_int (pst_toks T int_is k)
theorem wf2_mul_int {a b : Int} (k : K (.int (a * b)) m S) (ha : a.natAbs < 1000) (hb : b.natAbs < 1000) : WF2 c A Is (binaryOp .Mult) (.int a) (.int b) L m S K := fun v u s T i j => by
  obtain ⟨t, rfl⟩ := is_int i; obtain ⟨t', rfl⟩ := is_int j
  exact PyProof.Rows.mul_int (pst_toks T int_is k) (by mul_fits)
theorem wf2_floordiv_int {a b : Int} (k : K (.int (a.fdiv b)) m S) (hb : b ≠ 0) (hs : b.natAbs < 1000) : WF2 c A Is (binaryOp .FloorDiv) (.int a) (.int b) L m S K := fun v u s T i j => by
  obtain ⟨t, rfl⟩ := is_int i; obtain ⟨t', rfl⟩ := is_int j
  exact PyProof.Rows.floordiv_int hb (pst_toks T int_is k) (.inl (PyProof.noPylong_small (by omega)))
theorem wf2_mod_int {a b : Int} (k : K (.int (a.fmod b)) m S) (hb : b ≠ 0) (hs : b.natAbs < 1000) : WF2 c A Is (binaryOp .Mod) (.int a) (.int b) L m S K := fun v u s T i j => by
  obtain ⟨t, rfl⟩ := is_int i; obtain ⟨t', rfl⟩ := is_int j
  exact PyProof.Rows.mod_int' hb (pst_toks T int_is k)
theorem wf2_rshift1 {a : Int} (h0 : 0 ≤ a) (k : K (.int (a / 2)) m S) : WF2 c A Is (binaryOp .RShift) (.int a) (.int 1) L m S K := fun v u s T i j => by
  obtain ⟨t, rfl⟩ := is_int i; obtain ⟨t', rfl⟩ := is_int j
  exact wpAny_rshift1_int h0 (pst_toks T int_is k)
theorem wf2_add_str {a b : Str} (k : K (.str (a ++ b)) m S) (hz : a.length + b.length ≤ sizeLine) : WF2 c A Is (binaryOp .Add) (.str a) (.str b) L m S K := fun v u s T i j => by
  obtain ⟨t, rfl⟩ := is_str i; obtain ⟨t', rfl⟩ := is_str j
  exact PyProof.Rows.add_str (fun t' tk => pst_toks T str_is k) hz
theorem wf2_lt_int {a b : Int} (k : K (.bool (decide (a < b))) m S) : WF2 c A Is (compareOp .Lt) (.int a) (.int b) L m S K := fun v u s T i j => by
  obtain ⟨t, rfl⟩ := is_int i; obtain ⟨t', rfl⟩ := is_int j
  exact PyProof.Rows.lt_int (pst_here T val_is k)
theorem wf2_gt_int {a b : Int} (k : K (.bool (decide (b < a))) m S) : WF2 c A Is (compareOp .Gt) (.int a) (.int b) L m S K := fun v u s T i j => by
  obtain ⟨t, rfl⟩ := is_int i; obtain ⟨t', rfl⟩ := is_int j
  exact PyProof.Rows.gt_int (pst_here T val_is k)
theorem wf2_ge_int {a b : Int} (k : K (.bool (decide (b ≤ a))) m S) : WF2 c A Is (compareOp .GtE) (.int a) (.int b) L m S K := fun v u s T i j => by
  obtain ⟨t, rfl⟩ := is_int i; obtain ⟨t', rfl⟩ := is_int j
  exact PyProof.Rows.ge_int (pst_here T val_is k)
theorem wf2_eq_int {a b : Int} (k : K (.bool (a == b)) m S) : WF2 c A Is (compareOp .Eq) (.int a) (.int b) L m S K := fun v u s T i j => by
  obtain ⟨t, rfl⟩ := is_int i; obtain ⟨t', rfl⟩ := is_int j
  exact PyProof.Rows.eq_int (pst_here T val_is k)
theorem wf2_eq_str {a b : Str} (k : K (.bool (a == b)) m S) : WF2 c A Is (compareOp .Eq) (.str a) (.str b) L m S K := fun v u s T i j => by
  obtain ⟨t, rfl⟩ := is_str i; obtain ⟨t', rfl⟩ := is_str j
  exact PyProof.Rows.eq_str (pst_here T val_is k)
theorem wf2_ne_str {a b : Str} (k : K (.bool (a != b)) m S) : WF2 c A Is (compareOp .NotEq) (.str a) (.str b) L m S K := fun v u s T i j => by
  obtain ⟨t, rfl⟩ := is_str i; obtain ⟨t', rfl⟩ := is_str j
  exact PyProof.Rows.ne_str (pst_here T val_is k)

/-! displays -/
theorem ws_nil {pos : Pos} {K : List D → Loc → Sto → Prop} (k : K [] m S) : WG c A IsAll (spliced (backTo pos (starEach [] env))) L m S K := fun s T => PyProof.Rows.spliced_none ⟨[], m, S, .nil, T, Go.refl, k⟩
theorem ws_cons {e : Expr} {rest : List Expr} {pos : Pos} {K : List D → Loc → Sto → Prop} (h : WE c A (eval e env) L m S fun d m S => WG c A IsAll (spliced (backTo pos (starEach rest env))) L m S fun ds m S => K (d :: ds) m S)
    (he : starEach (e :: rest) env = (false, eval e env) :: starEach rest env := by rfl) : WG c A IsAll (spliced (backTo pos (starEach (e :: rest) env))) L m S K := fun s T =>
  PyProof.Rows.spliced_more (wpAny_mono (h s T) (fun v s₁ ⟨d, m₁, S₁, i, T₁, G₁, k⟩ => wpAny_mono (k s₁ T₁) (fun vs s₂ ⟨ds, m₂, S₂, j, T₂, G₂, k₂⟩ => ⟨d :: ds, m₂, S₂, .cons (G₂.is T₁ i) j, T₂, G₁.trans G₂, k₂⟩) fun _ _ x => x) fun _ _ x => x) he

/-- a new tuple -/
theorem wfs_tuple {ds : List D} (k : K (.tup ds) m S) (hz : ds.length ≤ sizeLine) : WFs c A Is newTuple ds L m S K := fun vs s T i =>
  wpAny_newTuple ⟨.tup ds, m, S, tup_is (vs := vs.toArray) (Heap.get?_push_size _ rfl) (i.kp (Kp.push [] _ _) nilX), T.push _, Go.push _, k⟩ (by rw [i.length]; exact hz)
/-- a new list -/
theorem St.newList {h₀ : Heap} {os₀ : OsState} {s : Shared} {ds : List D} {vs : Array Value} {n : Nat} (T : St h₀ os₀ L m S s) (i : IsAll s.heap ds vs.toList) :
    St h₀ os₀ L m ((s.heap.objs.size, .lst ds) :: S) { s with heap := s.heap.push (seqObj "list" vs n) } :=
  (T.push _).lay T.fresh0 (fun q => Nat.lt_irrefl _ (T.ltS q)) ⟨vs, n, Heap.get?_push_size _ rfl, i.kp (Kp.push [] _ _) nilX⟩
theorem Go.newList {s : Shared} {ds : List D} {vs : Array Value} {n : Nat} : Go L S ((s.heap.objs.size, .lst ds) :: S) s { s with heap := s.heap.push (seqObj "list" vs n) } :=
  ⟨Kp.push _ _ _, fun a h => by
    rcases List.mem_cons.mp h with rfl | h
    · exact .inr (none_size _)
    · exact .inl h⟩
theorem wfs_list {ds : List D} (k : ∀ a, K (.ref a) m ((a, .lst ds) :: S)) (hz : ds.length ≤ sizeLine) : WFs c A Is newList ds L m S K := fun vs s T i =>
  wpAny_newList ⟨_, m, _, val_is, T.newList (by simpa using i), Go.newList, k _⟩ (by rw [i.length]; exact hz)
theorem we_tuple {elts : List Expr} {k : Nat} {pos : Pos} (h : WG c A IsAll (spliced (backTo pos (starEach elts env))) L m S fun ds m S => ds.length ≤ 16 ∧ K (.tup ds) m S) :
    WE c A (eval (.Tuple elts k pos) env) L m S K := fun s T =>
  PyProof.Rows.Tuple_ (wpAny_mono (h s T) (fun vs s₁ ⟨ds, m₁, S₁, i, T₁, G₁, z, k⟩ => wfs_go (wfs_tuple k (by rw [sizeLine_eq]; omega)) T₁ G₁ i) fun _ _ x => x)
theorem we_list {elts : List Expr} {pos : Pos} (h : WG c A IsAll (spliced (backTo pos (starEach elts env))) L m S fun ds m S => ds.length ≤ 16 ∧ ∀ a, K (.ref a) m ((a, .lst ds) :: S)) :
    WE c A (eval (.List elts pos) env) L m S K := fun s T =>
  PyProof.Rows.List_ (wpAny_mono (h s T) (fun vs s₁ ⟨ds, m₁, S₁, i, T₁, G₁, z, k⟩ => wfs_go (wfs_list k (by rw [sizeLine_eq]; omega)) T₁ G₁ i) fun _ _ x => x)

/-! places of the store -/
inductive At : Sto → Addr → Mo → Prop where
  | here {a o S} : At ((a, o) :: S) a o
  | there {a o p S} : At S a o → At (p :: S) a o
theorem At.mem {a : Addr} {o : Mo} (h : At S a o) : (a, o) ∈ S := by
  induction h with
  | here => exact List.mem_cons_self ..
  | there _ ih => exact List.mem_cons_of_mem _ ih
/-- o is put in a's place -/
inductive Up : Sto → Addr → Mo → Mo → Sto → Prop where
  | here {a o o' S} : Up ((a, o) :: S) a o o' ((a, o') :: S)
  | there {a o o' p S S'} : Up S a o o' S' → Up (p :: S) a o o' (p :: S')
theorem Up.at {a : Addr} {o o' : Mo} {S' : Sto} (h : Up S a o o' S') : At S a o := by
  induction h with
  | here => exact .here
  | there _ ih => exact .there ih
theorem Up.dom {a : Addr} {o o' : Mo} {S' : Sto} (h : Up S a o o' S') : dom S' = dom S := by
  induction h with
  | here => rfl
  | there _ ih => simp [Mine.dom] at ih ⊢; exact ih
theorem Up.mem {a : Addr} {o o' : Mo} {S' : Sto} (h : Up S a o o' S') (n : (Mine.dom S).Nodup) : ∀ b p, (b, p) ∈ S' → (b = a ∧ p = o') ∨ (b ≠ a ∧ (b, p) ∈ S) := by
  induction h with
  | here =>
    intro b p hb
    rcases List.mem_cons.mp hb with e | hb'
    · cases e; exact .inl ⟨rfl, rfl⟩
    · refine .inr ⟨fun q => ?_, List.mem_cons_of_mem _ hb'⟩
      subst q
      exact (List.nodup_cons.mp n).1 (dom_mem hb')
  | there u ih =>
    intro b p hb
    rcases List.mem_cons.mp hb with e | hb
    · refine .inr ⟨fun q => ?_, ?_⟩
      · subst e; cases q
        exact (List.nodup_cons.mp n).1 (dom_mem u.at.mem)
      · rw [e]; exact List.mem_cons_self ..
    · rcases ih (List.nodup_cons.mp n).2 b p hb with q | ⟨q, r⟩
      · exact .inl q
      · exact .inr ⟨q, List.mem_cons_of_mem _ r⟩

theorem Up.ex {a : Addr} {o : Mo} (h : At S a o) (o' : Mo) : ∃ S', Up S a o o' S' := by
  induction h with
  | here => exact ⟨_, .here⟩
  | there _ ih => obtain ⟨S', u⟩ := ih; exact ⟨_, .there u⟩
theorem Up.over {a : Addr} {o o1 o2 : Mo} {S1 S2 : Sto} (n : (Mine.dom S).Nodup) (h1 : Up S a o o1 S1) (h2 : Up S a o o2 S2) : Up S1 a o1 o2 S2 := by
  induction h1 generalizing S2 with
  | here =>
    cases h2 with
    | here => exact .here
    | there u => exact absurd (dom_mem u.at.mem) (List.nodup_cons.mp n).1
  | there u ih =>
    cases h2 with
    | here => exact absurd (dom_mem u.at.mem) (List.nodup_cons.mp n).1
    | there u' => exact .there (ih (List.nodup_cons.mp n).2 u')
theorem Up.now {a : Addr} {o o' : Mo} {S' : Sto} (h : Up S a o o' S') : At S' a o' := by
  induction h with
  | here => exact .here
  | there _ ih => exact .there ih
theorem Up.nodup {a : Addr} {o o' : Mo} {S' : Sto} (h : Up S a o o' S') (n : (Mine.dom S).Nodup) : (Mine.dom S').Nodup := h.dom ▸ n
theorem Up.same {a : Addr} {o : Mo} (h : At S a o) : Up S a o o S := by
  induction h with
  | here => exact .here
  | there _ ih => exact .there ih
theorem Up.self {a : Addr} {o o' : Mo} {S' : Sto} (h : Up S a o o' S') (e : o' = o) : S' = S := by
  induction h with
  | here => rw [e]
  | there _ ih => rw [ih e]
theorem St.up {h₀ : Heap} {os₀ : OsState} {s : Shared} {h' : Heap} {tk : Nat} {a : Addr} {o o' : Mo} {S' : Sto} (T : St h₀ os₀ L m S s) (u : Up S a o o' S') (hs : Heap.SameBut a s.heap h') (hm : MoIs h' a o') : St h₀ os₀ L m S' { s with heap := h', toks := tk } := by
  have ha := dom_mem u.at.mem
  have kp : Kp [a] s.heap h' := Kp.of_same hs (List.mem_cons_self ..) hm.stands
  have nt : ∀ b, b ∈ [a] → NotTup s.heap b := fun b hb => T.notTup b (List.mem_cons.mpr (.inr (List.mem_singleton.mp hb ▸ ha)))
  obtain ⟨mV, n, f⟩ := T.fr
  have hL : L ≠ a := fun q => T.notL (q ▸ ha)
  refine ⟨fun b x e => kp.2 b x (fun q => ?_) (T.keep b x e), ⟨mV, n.sameBut hs hL, fun x d hx => ?_⟩, T.freshL, fun b p hb => ?_, fun b hb => T.freshS b (u.dom ▸ hb), u.dom ▸ T.nodup, T.gens, T.os⟩
  · rw [List.mem_singleton.mp q, T.freshS a ha] at e; cases e
  · obtain ⟨v, e, i⟩ := f x d hx
    exact ⟨v, e, i.kp kp nt⟩
  · rcases u.mem T.nodup b p hb with ⟨rfl, rfl⟩ | ⟨q, r⟩
    · exact hm
    · exact (T.mos b p r).kp kp nt fun q' => q (List.mem_singleton.mp q')
theorem Go.up {s : Shared} {h' : Heap} {tk : Nat} {a : Addr} {o o' : Mo} {S' : Sto} (u : Up S a o o' S') (hs : Heap.SameBut a s.heap h') (hl : ∃ x, h'.get? a = some x) : Go L S S' s { s with heap := h', toks := tk } :=
  ⟨(Kp.of_same hs (List.mem_cons_self ..) hl).mono fun b hb => List.mem_cons.mpr (.inr (List.mem_singleton.mp hb ▸ dom_mem u.at.mem)), fun b hb => .inl (u.dom ▸ hb)⟩

/-! places of lists and tuples -/
theorem isList_of {h : Heap} {a : Addr} {vs : Array Value} {n : Nat} (g : h.get? a = some (seqObj "list" vs n)) : h.IsList a vs := ⟨_, g, rfl, n, rfl⟩
theorem isTup_of {h : Heap} {a : Addr} {vs : Array Value} {n : Nat} (g : h.get? a = some (seqObj "tuple" vs n)) : IsTup h a vs := ⟨_, g, rfl, n, rfl⟩
theorem we_sub {value slice : Expr} {pos : Pos} (h : WE c A (eval value env) L m S fun d m S => WE c A (eval slice env) L m S fun e m S => WF2 c A Is (subscriptTail value slice) d e L m S K) : WE c A (eval (.Subscript value slice pos) env) L m S K := fun s T =>
  PyProof.Rows.Subscript_ (wpAny_mono (h s T) (fun _ s₁ ⟨d, m₁, S₁, i, T₁, G₁, k⟩ => wpAny_mono (k s₁ T₁) (fun _ s₂ ⟨e, m₂, S₂, j, T₂, G₂, k₂⟩ => wf2_go k₂ T₂ (G₁.trans G₂) (G₂.is T₁ i) j) fun _ _ x => x) fun _ _ x => x)
theorem wf2_item {value slice : Expr} {a : Addr} {ds : List D} {i : Int} {d : D} (h : At S a (.lst ds)) (h0 : 0 ≤ i) (hs : i < 2 ^ 62) (hi : ds[i.toNat]? = some d) (k : K d m S)
    (hp : ∀ o i, subscripted slice false o i = operate [o, i] (getItem o i) := by intro _ _; rfl) : WF2 c A Is (subscriptTail value slice) (.ref a) (.int i) L m S K := fun v u s T x y => by
  have e := is_val x; subst e
  obtain ⟨t', rfl⟩ := is_int y
  obtain ⟨vs, n, g, r⟩ := T.mos a _ h.mem
  obtain ⟨w, hw, iw⟩ := r.get hi
  have hl := isList_of g
  exact tail_any hl.typeIs slot_list_getitem.lookup (wpAny_getItem_list hl h0 (by omega) (by rw [← Array.getElem?_toList]; exact hw) (pst_here T iw k)) (hp _ _)
theorem wf2_place {value slice : Expr} {ds : List D} {i : Int} {d : D} (h0 : 0 ≤ i) (hs : i < 2 ^ 62) (hi : ds[i.toNat]? = some d) (k : K d m S)
    (hp : ∀ o i, subscripted slice false o i = operate [o, i] (getItem o i) := by intro _ _; rfl) : WF2 c A Is (subscriptTail value slice) (.tup ds) (.int i) L m S K := fun v u s T x y => by
  obtain ⟨a, vs, n, rfl, g, r⟩ := is_tup x
  obtain ⟨t', rfl⟩ := is_int y
  obtain ⟨w, hw, iw⟩ := r.get hi
  have hl := isTup_of g
  have hz : i.toNat < vs.size := by
    have := (List.getElem?_eq_some_iff.mp hw).1
    simpa using this
  refine tail_any hl.typeIs slot_tuple_getitem.lookup (PyProof.Rows.getItem_tuple (j := i.toNat) hl (by omega) (by omega) ?_ (by rw [← Array.getElem?_toList]; exact hw) (pst_here T iw k)) (hp _ _)
  unfold seqIndex?
  simp; omega
/-- a[i] = v -/
theorem wx_setItem {o i value : Expr} {pos' pos : Pos} {K : Fl → Loc → Sto → Prop}
    (h : WE c A (eval value env) L m S fun d m S => WE c A (eval o env) L m S fun e m S => WE c A (eval i env) L m S fun f m S => ∃ a ds n S', e = .ref a ∧ f = .int n ∧ 0 ≤ n ∧ n < 2 ^ 62 ∧ n.toNat < ds.length ∧ Up S a (.lst ds) (.lst (ds.set n.toNat d)) S' ∧ K .nxt m S')
    (hs : swapsWith value (some (.Subscript o i pos')) pos.line env = pure false := by rfl) : WX c A (exec (.Assign [.Subscript o i pos'] value pos) env) L m S K := fun s T => by
  refine wpAny_Assign_Subscript (wpAny_mono (h s T) (fun v s₁ ⟨d, m₁, S₁, i₁, T₁, G₁, k⟩ => wpAny_mono (k s₁ T₁) (fun ov s₂ ⟨e, m₂, S₂, i₂, T₂, G₂, k⟩ => wpAny_mono (k s₂ T₂) (fun iv s₃ ⟨f, m₃, S₃, i₃, T₃, G₃, k⟩ => ?_) fun _ _ x => x) fun _ _ x => x) fun _ _ x => x) hs
  obtain ⟨a, ds, n, S', rfl, rfl, h0, h1, hz, u, k⟩ := k
  have e := is_val i₂; subst e
  obtain ⟨t', rfl⟩ := is_int i₃
  obtain ⟨vs, n', g, r⟩ := T₃.mos a _ u.at.mem
  have hv : Is s₃.heap d v := G₃.is T₂ (G₂.is T₁ i₁)
  have sb := Heap.SameBut.update s₃.heap a (Obj.mapSeq (·.setIfInBounds n.toNat v))
  have hsz : n < vs.size := by have := r.length; simp at this; omega
  have kp : Kp [a] s₃.heap (s₃.heap.update a (Obj.mapSeq (·.setIfInBounds n.toNat v))) := Kp.of_same sb (List.mem_cons_self ..) ⟨_, Heap.get?_update_self _ g rfl⟩
  have nt : ∀ b, b ∈ [a] → NotTup s₃.heap b := fun b hb => T₃.notTup b (List.mem_cons.mpr (.inr (List.mem_singleton.mp hb ▸ dom_mem u.at.mem)))
  have hm : MoIs (s₃.heap.update a (Obj.mapSeq (·.setIfInBounds n.toNat v))) a (.lst (ds.set n.toNat d)) := by
    refine ⟨_, _, Heap.get?_update_self _ g rfl, ?_⟩
    rw [Array.toList_setIfInBounds]
    exact (r.kp kp nt).set (hv.kp kp nt)
  exact ki_setAt g h0 (by omega) hsz ⟨.nxt, m₃, S', rfl, T₃.up (tk := s₃.toks) u sb hm, ((G₁.trans G₂).trans G₃).trans (Go.up (tk := s₃.toks) u sb hm.stands), k⟩
end

end Mine

namespace Mine

section
variable {c : Cx} {A : Around} {env : Env} {L : Addr} {m : Loc} {S : Sto}
variable {K : D → Loc → Sto → Prop}

/-! names of the module and of the built-ins -/
structure Glo (c : Cx) (mg mb : Str → Option Value) : Prop where
  g : c.h₀.Ns mainGlobals mg
  b : c.h₀.Ns builtinsNs mb
  lim : c.h₀.NoLimit

theorem ns_keep {h h' : Heap} {a : Addr} {f : Str → Option Value} (n : h.Ns a f) (k : ∀ a o, h.get? a = some o → h'.get? a = some o) : h'.Ns a f := by
  obtain ⟨o, es, ep, e, r⟩ := n; exact ⟨o, es, ep, k _ _ e, r⟩
theorem we_global {mg mb : Str → Option Value} {x : Str} {pos : Pos} {v : Value} (G : Glo c mg mb) (hx : mg x = some v) (k : K (.val v) m S) (hg : env.globals = mainGlobals := by rfl) (hk : env.scope.kind = .function := by rfl)
    (hl : env.kindOf x = some .globalImplicit := by rfl) (hd : (x == ("__debug__" : Str)) = false := by decide) : WE c A (eval (.Name x pos) env) L m S K := fun s T =>
  Calls.Name_function_global hk hl (Calls.loadGlobal_global (by rw [hg]; exact ns_keep G.g T.keep) hx (pst_here T val_is k)) hd
theorem we_builtin {mg mb : Str → Option Value} {x : Str} {pos : Pos} {v : Value} (G : Glo c mg mb) (hx : mg x = none) (hb : mb x = some v) (k : K (.val v) m S) (hg : env.globals = mainGlobals := by rfl) (hbn : env.builtins = builtinsNs := by rfl)
    (hk : env.scope.kind = .function := by rfl) (hl : env.kindOf x = some .globalImplicit := by rfl) (hd : (x == ("__debug__" : Str)) = false := by decide) : WE c A (eval (.Name x pos) env) L m S K := fun s T =>
  Calls.Name_function_global hk hl (Calls.loadGlobal_builtin (by rw [hg]; exact ns_keep G.g T.keep) hx (by rw [hbn]; exact ns_keep G.b T.keep) hb (pst_here T val_is k)) hd

/-! calls by a name -/
theorem we_call_b {id : String} {e : Expr} {x : Str} {p : Pos} {rest : List Expr} {pos : Pos}
    (h : WE c A (eval (.Name x p) env) L m S fun d m S => d = .val (.builtin id) ∧ WG c A IsAll (spliced (backTo pos (starEach (e :: rest) env))) L m S fun ds m S => WFs c A Is (fun vs => call (.builtin id) vs) ds L m S K)
    (he : starEach (e :: rest) env = (false, eval e env) :: starEach rest env := by rfl) (hplain : (backTo pos (starEach (e :: rest) env)).any (·.1) = false := by rfl) :
    WE c A (eval (.Call (.Name x p) (e :: rest) [] pos) env) L m S K := fun s T =>
  wpAny_Call_NameR (wpAny_mono (h s T) (fun v s₁ ⟨d, m₁, S₁, i, T₁, G₁, hd, k⟩ => by
    subst hd; have e1 := is_val i; subst e1
    refine Calls.callWith_builtin hplain ?_
    rw [he] at k ⊢
    refine Calls.evalArgs_plain (wpAny_mono (k s₁ T₁) (fun vs s₂ ⟨ds, m₂, S₂, j, T₂, G₂, k₂⟩ => ?_) fun _ _ x => x)
    exact wfs_go k₂ T₂ (G₁.trans G₂) j) fun _ _ x => x)
theorem we_call_t {id : String} {e : Expr} {x : Str} {p : Pos} {rest : List Expr} {pos : Pos}
    (h : WE c A (eval (.Name x p) env) L m S fun d m S => d = .val (.type id) ∧ WG c A IsAll (spliced (backTo pos (starEach (e :: rest) env))) L m S fun ds m S => WFs c A Is (fun vs => call (.type id) vs) ds L m S K)
    (he : starEach (e :: rest) env = (false, eval e env) :: starEach rest env := by rfl) (hplain : (backTo pos (starEach (e :: rest) env)).any (·.1) = false := by rfl) :
    WE c A (eval (.Call (.Name x p) (e :: rest) [] pos) env) L m S K := fun s T =>
  wpAny_Call_NameR (wpAny_mono (h s T) (fun v s₁ ⟨d, m₁, S₁, i, T₁, G₁, hd, k⟩ => by
    subst hd; have e1 := is_val i; subst e1
    refine PySem.callWith_type hplain ?_
    rw [he] at k ⊢
    refine Calls.evalArgs_plain (wpAny_mono (k s₁ T₁) (fun vs s₂ ⟨ds, m₂, S₂, j, T₂, G₂, k₂⟩ => ?_) fun _ _ x => x)
    exact wfs_go k₂ T₂ (G₁.trans G₂) j) fun _ _ x => x)
theorem we_call_f {fa : Addr} {o : Obj} {fd : FuncData} {e : Expr} {x : Str} {p : Pos} {rest : List Expr} {pos : Pos} (ho : c.h₀.get? fa = some o) (hd : o.data = .func fd)
    (h : WE c A (eval (.Name x p) env) L m S fun d m S => d = .ref fa ∧ WG c A IsAll (spliced (backTo pos (starEach (e :: rest) env))) L m S fun ds m S => WFs c A Is (fun vs => call (.ref fa) vs) ds L m S K)
    (he : starEach (e :: rest) env = (false, eval e env) :: starEach rest env := by rfl) :
    WE c A (eval (.Call (.Name x p) (e :: rest) [] pos) env) L m S K := fun s T =>
  wpAny_Call_NameR (wpAny_mono (h s T) (fun v s₁ ⟨d, m₁, S₁, i, T₁, G₁, hd', k⟩ => by
    subst hd'; have e1 := is_val i; subst e1
    refine Calls.callWith_function (o := o) (fd := fd) ?_
    rw [he] at k ⊢
    refine Calls.evalArgs_plain (wpAny_mono (k s₁ T₁) (fun vs s₂ ⟨ds, m₂, S₂, j, T₂, G₂, k₂⟩ => ⟨⟨T₂.keep _ _ ho, hd⟩, ?_⟩) fun _ _ x => x)
    exact wfs_go k₂ T₂ (G₁.trans G₂) j) fun _ _ x => x)

/-! methods -/
/-- what a method's owner is -/
def Own (T : String) : D → Sto → Prop
  | .str _, _ => T = "str"
  | .val (.ref a), S => T = "list" ∧ ∃ ds, (a, Mo.lst ds) ∈ S
  | _, _ => False
theorem own_list {a : Addr} {ds : List D} (h : (a, Mo.lst ds) ∈ S) : Own "list" (.ref a) S := ⟨rfl, ds, h⟩
theorem own_str {x : Str} : Own "str" (.str x) S := (rfl : "str" = "str")
theorem Own.type {T : String} {d : D} {v : Value} {s : Shared} (T' : c.St L m S s) (h : Own T d S) (i : Is s.heap d v) : s.TypeIs v T ∧ ∀ a, v = .ref a → ∃ ob, s.heap.get? a = some ob ∧ ob.dict = none := by
  cases d with
  | str x => obtain ⟨t, rfl⟩ := is_str i; cases (h : T = "str"); exact ⟨typeIs_str _ _ _, fun a q => nomatch q⟩
  | val w =>
    have e := is_val i; subst e
    cases v with
    | ref a =>
      obtain ⟨rfl, ds, hm⟩ := h
      obtain ⟨vs, n, g, r⟩ := T'.mos a _ hm
      exact ⟨⟨_, g, rfl⟩, fun b q => by cases q; exact ⟨_, g, rfl⟩⟩
    | _ => exact h.elim
  | _ => exact h.elim
theorem we_meth {o : Expr} {name : Str} {apos pos : Pos} {args : List Expr} {T id : String} (pa : PlainAttrs T) (slot : Slot T name id) (hty : typeOf (.builtin id) = pure (.type "method_descriptor"))
    (h : WE c A (eval o env) L m S fun d m S => Own T d S ∧ WG c A IsAll (spliced (backTo pos (starEach args env))) L m S fun ds m S => WFs c A Is (fun vs => call (.builtin id) vs) (d :: ds) L m S K)
    (hbase : attributeBase o name env (eval o env) = eval o env := by rfl)
    (hfew : ((backTo pos (starEach args env)).all (fun x => !x.1) && (backToKw pos (keywordEach [] env)).all (fun x => x.1.isSome) && decide (args.length + ([] : List Keyword).length + (if ([] : List Keyword).isEmpty then 0 else 1) < 30)) = true := by rfl)
    (hline : (apos.endLine == pos.line) = true := by rfl) (hplain : (backTo pos (starEach args env)).any (·.1) = false := by rfl)
    (he : starEach args env = [] ∨ ∃ x r, backTo pos (starEach args env) = (false, x) :: r := by first | exact .inl rfl | exact .inr ⟨_, _, rfl⟩) : WE c A (eval (.Call (.Attribute o name apos) args [] pos) env) L m S K := fun s T₀ => by
  refine wpAny_Call_method hbase hfew hline pa slot hty (wpAny_mono (h s T₀) (fun v s₁ ⟨d, m₁, S₁, i, T₁, G₁, hd, k⟩ => ?_) fun _ _ x => x)
  have ty := hd.type T₁ i
  refine ⟨ty.1, ty.2, Calls.callWith_builtin hplain ?_⟩
  have fin : wpAny c.M A (spliced (backTo pos (starEach args env))) (fun vs s' => wpAny c.M A (call (.builtin id) ([v] ++ vs)) (Pst c Is L S s K) No s') No s₁ :=
    wpAny_mono (k s₁ T₁) (fun vs s₂ ⟨ds, m₂, S₂, j, T₂, G₂, k₂⟩ => wfs_go k₂ T₂ (G₁.trans G₂) (.cons (G₂.is T₁ i) j)) fun _ _ x => x
  rcases he with he | ⟨x, r, he⟩
  · rw [he] at fin ⊢
    have fin' := (fin : wpAny c.M A (pure []) _ _ _)
    exact PySem.evalArgs_none (fun Γ p hΓ => fin Γ p hΓ Γ p hΓ)
  · rw [he] at fin ⊢
    exact Calls.evalArgs_plain fin

/-! built-in functions -/
theorem wfs_len {a : Addr} {ds : List D} (h : At S a (.lst ds)) (hz : ds.length < 2 ^ 60) (k : K (.int ds.length) m S) : WFs c A Is (fun vs => call (.builtin "len") vs) [.ref a] L m S K := fun vs s T i => by
  obtain ⟨v, r, rfl, i1, i2⟩ := i.uncons
  have := i2.unnil; subst this
  have := is_val i1; subst this
  obtain ⟨vs, n, g, r⟩ := T.mos a _ h.mem
  have e : vs.size = ds.length := by have := r.length; simpa using this
  refine Calls.call_len_list (isList_of g) (by rw [e]; omega) (pst_toks T (by rw [e]; exact int_is) k)

/-! the text's own defs -/
theorem has_lookup {h : Heap} : ∀ {ps : List Str} {ds : List D} {vs : List Value}, ps.Nodup → IsAll h ds vs → ∀ {x : Str} {d : D}, Has (ps.zip ds) x d → ∃ v, (ps.zip vs).reverse.lookup x = some v ∧ Is h d v := by
  intro ps
  induction ps with
  | nil => intro ds vs _ _ x d hx; cases hx
  | cons p ps ih =>
    intro ds vs np i x d hx
    cases ds with
    | nil => cases hx
    | cons e ds =>
      obtain ⟨v, r, rfl, i1, i2⟩ := i.uncons
      simp only [List.zip_cons_cons, List.reverse_cons, List.lookup_append] at hx ⊢
      cases hx with
      | here =>
        have : (ps.zip r).reverse.lookup p = none := by
          rw [List.lookup_eq_none_iff]
          intro q hq
          have hq' := List.of_mem_zip (List.mem_reverse.mp hq)
          have := (List.nodup_cons.mp np).1
          simp only [bne_iff_ne, ne_eq]
          intro e; rw [e] at this; exact this hq'.1
        rw [this]
        exact ⟨v, by simp [List.lookup], i1⟩
      | there hne hx =>
        obtain ⟨w, hw, iw⟩ := ih (List.nodup_cons.mp np).2 i2 hx
        exact ⟨w, by rw [hw]; rfl, iw⟩
/-- the callee's state, and back -/
theorem St.enter {h₀ : Heap} {os₀ : OsState} {s : Shared} {h' : Heap} {tk : Nat} {L' : Addr} {ps : List Str} {ds : List D} {vs : List Value} (T : St h₀ os₀ L m S s) (np : ps.Nodup) (i : IsAll s.heap ds vs) (hL : L' = s.heap.objs.size)
    (n : h'.Ns L' (fun x => (ps.zip vs).reverse.lookup x)) (k : ∀ a o, s.heap.get? a = some o → h'.get? a = some o) : St h₀ os₀ L' (ps.zip ds) S { s with heap := h', toks := tk } := by
  have kp : Kp [] s.heap h' := Kp.all k
  refine ⟨fun a o e => k a o (T.keep a o e), ⟨_, n, fun x d hx => ?_⟩, by rw [hL]; exact T.fresh0, fun a o ha => (T.mos a o ha).kp kp nilX nilN, T.freshS, T.nodup, T.gens, T.os⟩
  obtain ⟨v, e, iv⟩ := has_lookup np i hx
  exact ⟨v, e, iv.kp kp nilX⟩
theorem St.leave {h₀ : Heap} {os₀ : OsState} {s s₁ s₂ : Shared} {L' : Addr} {m' : Loc} {S' : Sto} (T : St h₀ os₀ L m S s) (k : ∀ a o, s.heap.get? a = some o → s₁.heap.get? a = some o) (hL : L' = s.heap.objs.size)
    (T₂ : St h₀ os₀ L' m' S' s₂) (G : Go L' S S' s₁ s₂) : St h₀ os₀ L m S' s₂ ∧ Go L S S' s s₂ := by
  have hne : ∀ a o, s.heap.get? a = some o → a ≠ L' := fun a o e q => Nat.lt_irrefl _ (hL ▸ q ▸ Heap.lt_size e)
  have kp : Kp (dom S) s.heap s₂.heap := ⟨fun a o e => G.kp.1 a o (k a o e), fun a o n e => G.kp.2 a o (fun q => by
    rcases List.mem_cons.mp q with q | q
    · exact hne a o e q
    · exact n q) (k a o e)⟩
  have nt : ∀ a, a ∈ dom S → NotTup s.heap a := fun a ha => T.notTup a (List.mem_cons.mpr (.inr ha))
  obtain ⟨mV, ⟨o, es, ep, g, r⟩, f⟩ := T.fr
  refine ⟨⟨T₂.keep, ⟨mV, ⟨o, es, ep, kp.2 L o T.notL g, r⟩, fun x d hx => ?_⟩, T.freshL, T₂.mos, T₂.freshS, T₂.nodup, T₂.gens, T₂.os⟩, ⟨kp.mono fun a ha => List.mem_cons.mpr (.inr ha), fun a ha => ?_⟩⟩
  · obtain ⟨v, e, i⟩ := f x d hx
    exact ⟨v, e, i.kp kp nt⟩
  · rcases G.new a ha with q | q
    · exact .inl q
    · refine .inr ?_
      cases e : s.heap.get? a with
      | none => rfl
      | some o => rw [k a o e] at q; cases q

theorem wfs_nodup {f : List Value → Sem Value} {ds : List D} (h : (dom S).Nodup → WFs c A Is f ds L m S K) : WFs c A Is f ds L m S K := fun vs s T i => h T.nodup vs s T i
/-- a def of the text -/
structure Fn (c : Cx) (fa : Addr) (fd : FuncData) : Prop where
  stands : ∃ o, c.h₀.get? fa = some o ∧ o.data = .func fd
  code : c.h₀.CodeRec fd.code fd.qualname

def Fl.val : Fl → D
  | .ret d => d
  | _ => .non

theorem wfs_def {mg mb : Str → Option Value} {fa : Addr} {fd : FuncData} {body : List Stmt} {ps : List Str} {ds : List D} {m₀ : Loc} (G : Glo c mg mb) (F : Fn c fa fd) (hroom : A.depth < recursionLimit) (hbody : fd.body = .stmts body)
    (hn : ds.length = ps.length) (hbind : ∀ vs, vs.length = ps.length → bindArgs fd ⟨vs, []⟩ = pure (ps.zip vs)) (np : ps.Nodup) (hcell : ∀ x ∈ fd.scope.names, x.2 ≠ .cell) (hloc : ∀ x ∈ ps, fd.scope.names.lookup x = some .local)
    (hm : ps.zip ds = m₀) (h : ∀ L', WX c (A.deeper (callEnv fd L' fa)) (execs body (callEnv fd L' fa)) L' m₀ S fun f _ S => K f.val m S)
    (hco : fd.scope.isCoroutine = false := by rfl) (hgen : fd.scope.isGenerator = false := by rfl) (hk : fd.scope.kind = .function := by rfl) :
    WFs c A Is (fun vs => call (.ref fa) vs) ds L m S K := fun vs s T i => by
  obtain ⟨o, ho, hd⟩ := F.stands
  refine wpAny_call (codeAny_call_def (binds := ps.zip vs) hroom (T.keep _ _ ho) hd (G.lim.keeps T.keep) (F.code.keeps T.keep) hbody (.of_eq (hbind vs (by rw [i.length, hn]))) hcell (fun x hx => hloc _ (List.of_mem_zip hx).1) (fun h₁ n k => ?_) hco hgen hk)
  have T₁ := T.enter (tk := s.toks + (ps.zip vs).length) np i rfl n k
  rw [hm] at T₁
  refine wpAny_mono (h _ _ T₁) (fun f s₂ ⟨fl, m₂, S₂, j, T₂, G₂, k₂⟩ => ?_) fun _ _ x => x.elim
  have back := T.leave k rfl T₂ G₂
  cases fl with
  | ret d => obtain ⟨v, rfl, i⟩ := j; exact ⟨d, m, S₂, i, back.1, back.2, k₂⟩
  | nxt => cases (j : f = .next); exact ⟨.non, m, S₂, val_is, back.1, back.2, k₂⟩
  | brk => cases (j : f = .brk); exact ⟨.non, m, S₂, val_is, back.1, back.2, k₂⟩
  | cont => cases (j : f = .cont); exact ⟨.non, m, S₂, val_is, back.1, back.2, k₂⟩
end

end Mine

namespace Mine
open PySem.MeetsSeq PySem.MeetsSeq2 PySem.MeetsSeq3 PySem.SeqRoads2 PySem.SeqAt
open PySem.AutoSeq1 (wpAny_loadPart')

/-! the order of tuples -/
def ltS (a b : Str) : Bool := decide (a.cps.toList < b.cps.toList)
def RlAt (A : Around) (s : Shared) (y x : Value) (b : Bool) : Prop :=
  ∀ (prog : Program) (w : World) (E : Value → Shared → Prop) (Q : Value → Shared → Prop), Q (.bool b) s → wpAny (model prog w) A (richCompare .Lt y x) Q E s
/-- a pair after the other: equal, or the first that differs tells -/
def Lex (A : Around) (s : Shared) (P : Bool → Prop) (fin : Bool) : List (Value × Value) → Prop
  | [] => P fin
  | (p, q) :: r => ∃ e, EqAt A s p q e ∧ (e = true → Lex A s P fin r) ∧ (e = false → ∃ b, RlAt A s p q b ∧ P b)

set_option maxHeartbeats 1000000 in
theorem tuple_ltAt (l b : Addr) (items items2 : Array Value) (n n2 : Nat) :
    Meets (Builtin.«tuple.__lt__» ⟨[.ref l, .ref b], []⟩)
      (fun A R s => s.heap.get? l = some (seqObj "tuple" items n) ∧ s.heap.get? b = some (seqObj "tuple" items2 n2) ∧
        Lex A.in1 s (fun b => R (.ok (.ret (.bool b))) s) (decide (items.size < items2.size)) (items.toList.zip items2.toList)) :=
  .of_wp fun prog w A R s h => by
    obtain ⟨hp, g, d, tk, os⟩ := s; obtain ⟨hl, hb, h⟩ := h
    have f2 := AutoSeq1.sub_tuple_tuple
    wp_walk using wpAny_loadPart' hl, wpAny_loadPart' hb, wpAny_forIn_list _ (fun rest b s' => b.1 = none ∧ s' = ⟨hp, g, d, tk, os⟩ ∧ Lex A.in1 ⟨hp, g, d, tk, os⟩ (fun b => R (.ok (.ret (.bool b))) ⟨hp, g, d, tk, os⟩) (decide (items.size < items2.size)) rest) _
    case turn =>
      rintro ⟨y, x⟩ rest b s' ⟨hb', rfl, e, he, h1, h2⟩
      refine wpAny_bind (he prog w _ _ ?_)
      cases e with
      | true =>
        wp_walk
        exact ⟨rfl, rfl, h1 rfl⟩
      | false =>
        obtain ⟨q, hq, hR⟩ := h2 rfl
        simp only [Bool.not_false, if_true]
        refine wpAny_bind (wpAny_rule (wpAny_bind (hq prog w _ _ ?_)))
        wp_walk
        exact ⟨_, rfl, hR⟩
    case fin =>
      rintro ⟨b1, b2⟩ s' ⟨hb', rfl, hR⟩
      simp only at hb'
      subst hb'
      exact wpAny_pure ⟨_, rfl, hR⟩
    · exact ⟨rfl, rfl, h⟩

/-- of one make: texts and ints at the same places -/
inductive Like : List D → List D → Prop where
  | nil : Like [] []
  | str {a b : Str} {r r' : List D} : Like r r' → Like (.str a :: r) (.str b :: r')
  | int {i j : Int} {r r' : List D} : Like r r' → Like (.int i :: r) (.int j :: r')
def ltL : List D → List D → Bool
  | .str a :: r, .str b :: r' => if a = b then ltL r r' else ltS a b
  | .int i :: r, .int j :: r' => if i = j then ltL r r' else decide (i < j)
  | _, _ => false
theorem Like.length {ds es : List D} (h : Like ds es) : ds.length = es.length := by
  induction h with
  | nil => rfl
  | str _ ih => simp [ih]
  | int _ ih => simp [ih]

theorem eqAt_str {A : Around} {s : Shared} {a b : Str} {t u : Tok} : EqAt A s (.str a t) (.str b u) (decide (a = b)) := fun _ _ _ _ hq => wpAny_eqBool_str hq
theorem eqAt_int {A : Around} {s : Shared} {a b : Int} {t u : Tok} : EqAt A s (.int a t) (.int b u) (a == b) := fun _ _ _ _ hq => wpAny_eqBool_int hq
theorem rlAt_str {A : Around} {s : Shared} {a b : Str} {t u : Tok} : RlAt A s (.str a t) (.str b u) (ltS a b) := fun _ _ _ _ hq => PyProof.Rows.lt_str hq
theorem rlAt_int {A : Around} {s : Shared} {a b : Int} {t u : Tok} : RlAt A s (.int a t) (.int b u) (decide (a < b)) := fun _ _ _ _ hq => PyProof.Rows.lt_int hq
theorem lex_like {A : Around} {s : Shared} {P : Bool → Prop} {ds es : List D} (h : Like ds es) : ∀ {vs us : List Value}, IsAll s.heap ds vs → IsAll s.heap es us → P (ltL ds es) → Lex A s P false (vs.zip us) := by
  induction h with
  | nil => intro vs us i j p; rw [i.unnil, j.unnil]; exact p
  | @str a b r r' _ ih =>
    intro vs us i j p
    obtain ⟨v, vs, rfl, i1, i2⟩ := i.uncons
    obtain ⟨u, us, rfl, j1, j2⟩ := j.uncons
    obtain ⟨t, rfl⟩ := is_str i1
    obtain ⟨t', rfl⟩ := is_str j1
    refine ⟨_, eqAt_str, fun e => ih i2 j2 ?_, fun e => ⟨_, rlAt_str, ?_⟩⟩
    · have e' : a = b := by simpa using e
      rw [ltL, if_pos e'] at p; exact p
    · have e' : ¬ a = b := by simpa using e
      rw [ltL, if_neg e'] at p; exact p
  | @int a b r r' _ ih =>
    intro vs us i j p
    obtain ⟨v, vs, rfl, i1, i2⟩ := i.uncons
    obtain ⟨u, us, rfl, j1, j2⟩ := j.uncons
    obtain ⟨t, rfl⟩ := is_int i1
    obtain ⟨t', rfl⟩ := is_int j1
    refine ⟨_, eqAt_int, fun e => ih i2 j2 ?_, fun e => ⟨_, rlAt_int, ?_⟩⟩
    · have e' : a = b := by simpa using e
      rw [ltL, if_pos e'] at p; exact p
    · have e' : ¬ a = b := by simpa using e
      rw [ltL, if_neg e'] at p; exact p

section
variable {c : Cx} {A : Around} {env : Env} {L : Addr} {m : Loc} {S : Sto}
variable {K : D → Loc → Sto → Prop}

theorem wf2_lt_tup {ds es : List D} (hl : Like ds es) (hu : A.units < cLine) (k : K (.bool (ltL ds es)) m S) : WF2 c A Is (compareOp .Lt) (.tup ds) (.tup es) L m S K := fun v u s T g g' => by
  obtain ⟨l, vs, n, rfl, e, i⟩ := is_tup g
  obtain ⟨l', us, n', rfl, e', j⟩ := is_tup g'
  have hz : vs.size = us.size := by
    have h1 := i.length; have h2 := j.length; have h3 := hl.length
    simp at h1 h2; omega
  show wpAny _ _ (richCompare .Lt _ _) _ _ _
  refine richCompare_meets_room (op := .Lt) ⟨_, e, rfl⟩ ⟨_, e', rfl⟩ F.slot_tuple_lt F.entry_tuple_lt (F.args_tuple_lt_2 _ _) (tuple_ltAt l l' vs us n n') ⟨e, e', ?_⟩ hu
  rw [show decide (vs.size < us.size) = false by simp [hz]]
  exact lex_like hl i j ⟨(by intro q; cases q), pst_here T val_is k⟩

theorem all_tt (n : Nat) : ((List.range n).all fun _ => true) = true := by rw [List.all_eq_true]; intros; rfl
/-! equal data -/
def flat : D → Bool
  | .str _ => true
  | .int _ => true
  | _ => false
theorem eqAt_flat {s : Shared} {d : D} {v u : Value} (hf : flat d = true) (i : Is s.heap d v) (j : Is s.heap d u) : EqAt A s v u true := by
  cases d with
  | str x => obtain ⟨t, rfl⟩ := is_str i; obtain ⟨t', rfl⟩ := is_str j; have := eqAt_str (A := A) (s := s) (a := x) (b := x) (t := t) (u := t'); simpa using this
  | int x => obtain ⟨t, rfl⟩ := is_int i; obtain ⟨t', rfl⟩ := is_int j; have := eqAt_int (A := A) (s := s) (a := x) (b := x) (t := t) (u := t'); simpa using this
  | _ => cases hf
theorem eqAt_items {s : Shared} {ds : List D} {vs us : Array Value} (P : D → Prop) (hP : ∀ d v u, P d → Is s.heap d v → Is s.heap d u → EqAt A s v u true) (hf : ∀ d ∈ ds, P d) (i : IsAll s.heap ds vs.toList) (j : IsAll s.heap ds us.toList) :
    ∀ k (h1 : k < vs.size) (h2 : k < us.size), EqAt A s vs[k] us[k] true := by
  intro k h1 h2
  have hk : k < ds.length := by have := i.length; simp at this; omega
  obtain ⟨v, e, iv⟩ := i.get (List.getElem?_eq_getElem hk)
  obtain ⟨u, e', iu⟩ := j.get (List.getElem?_eq_getElem hk)
  have a1 : vs[k] = v := by rw [Array.getElem?_toList] at e; exact (Array.getElem?_eq_some_iff.mp e).2
  have a2 : us[k] = u := by rw [Array.getElem?_toList] at e'; exact (Array.getElem?_eq_some_iff.mp e').2
  rw [a1, a2]
  exact hP _ _ _ (hf _ (List.getElem_mem hk)) iv iu
theorem same_size {h : Heap} {ds : List D} {vs us : Array Value} (i : IsAll h ds vs.toList) (j : IsAll h ds us.toList) : vs.size = us.size := by
  have h1 := i.length; have h2 := j.length; simp at h1 h2; omega
/-- a tuple of texts and ints -/
def tupd : D → Prop
  | .tup ds => ∀ d ∈ ds, flat d = true
  | _ => False
theorem eqAt_tup {s : Shared} {d : D} {v u : Value} (hu : A.units < cLine) (hf : tupd d) (i : Is s.heap d v) (j : Is s.heap d u) : EqAt A s v u true := by
  cases d with
  | tup ds =>
    obtain ⟨l, vs, n, rfl, e, i⟩ := is_tup i
    obtain ⟨l', us, n', rfl, e', j⟩ := is_tup j
    by_cases hne : l = l'
    · subst hne; exact EqAt.same _
    · refine EqAt.of_refs hne ?_
      have := RcAt.tuples (A := A) (s := s) (e := fun _ => true) (isTup_of e : s.heap.IsTuple l vs) (isTup_of e' : s.heap.IsTuple l' us) hu (eqAt_items (fun d => flat d = true) (fun d v u hf i j => eqAt_flat hf i j) hf i j)
      rw [same_size i j, Nat.min_self, all_tt] at this
      simpa using this
  | _ => exact hf.elim
theorem eqAt_list {s : Shared} {l l' : Addr} {ds : List D} (hu : A.units + 1 < cLine) (hf : ∀ d ∈ ds, tupd d) (i : MoIs s.heap l (.lst ds)) (j : MoIs s.heap l' (.lst ds)) : EqAt A s (.ref l) (.ref l') true := by
  by_cases hne : l = l'
  · subst hne; exact EqAt.same _
  · obtain ⟨vs, n, e, i⟩ := i
    obtain ⟨us, n', e', j⟩ := j
    refine EqAt.of_refs hne ?_
    have := RcAt.lists (A := A) (s := s) (e := fun _ => true) (isList_of e) (isList_of e') (same_size i j) (by omega) (eqAt_items (fun d => tupd d) (fun d v u hf i j => eqAt_tup (by show A.units + 1 < cLine; exact hu) hf i j) hf i j)
    rw [all_tt] at this
    exact this
/-- (told, aside) == (told, aside) -/
theorem wf2_eq_pair {a b a' b' : Addr} {ds es : List D} (h1 : At S a (.lst ds)) (h2 : At S a' (.lst ds)) (h3 : At S b (.lst es)) (h4 : At S b' (.lst es)) (hd : ∀ d ∈ ds, tupd d) (he : ∀ d ∈ es, tupd d) (hu : A.units + 2 < cLine)
    (k : K (.bool true) m S) : WF2 c A Is (compareOp .Eq) (.tup [.ref a, .ref b]) (.tup [.ref a', .ref b']) L m S K := fun v u s T g g' => by
  obtain ⟨l, vs, n, rfl, e, i⟩ := is_tup g
  obtain ⟨l', us, n', rfl, e', j⟩ := is_tup g'
  obtain ⟨v1, r1, e1, i1, i⟩ := i.uncons
  obtain ⟨v2, r2, rfl, i2, i⟩ := i.uncons
  have := i.unnil; subst this
  obtain ⟨u1, q1, f1, j1, j⟩ := j.uncons
  obtain ⟨u2, q2, rfl, j2, j⟩ := j.uncons
  have := j.unnil; subst this
  have := is_val i1; subst this; have := is_val i2; subst this; have := is_val j1; subst this; have := is_val j2; subst this
  have ev : vs = #[.ref a, .ref b] := by rw [← Array.toArray_toList (xs := vs), e1]
  have eu : us = #[.ref a', .ref b'] := by rw [← Array.toArray_toList (xs := us), f1]
  subst ev eu
  refine eq_tupleAt (e := fun _ => true) (isTup_of e) (isTup_of e') (by omega) (fun k hk _ => ?_) (pst_here T val_is (by rw [all_tt]; simpa using k))
  have e1 : k = 0 ∨ k = 1 := by simp at hk; omega
  rcases e1 with rfl | rfl
  · exact eqAt_list (by show A.units + 1 + 1 < cLine; omega) hd (T.mos _ _ h1.mem) (T.mos _ _ h2.mem)
  · exact eqAt_list (by show A.units + 1 + 1 < cLine; omega) he (T.mos _ _ h3.mem) (T.mos _ _ h4.mem)
/-- gave != top -/
theorem wf2_ne_same {ds : List D} (hf : ∀ d ∈ ds, flat d = true) (hu : A.units < cLine) (k : K (.bool false) m S) : WF2 c A Is (compareOp .NotEq) (.tup ds) (.tup ds) L m S K := fun v u s T g g' => by
  obtain ⟨l, vs, n, rfl, e, i⟩ := is_tup g
  obtain ⟨l', us, n', rfl, e', j⟩ := is_tup g'
  show wpAny _ _ (richCompare .NotEq _ _) _ _ _
  refine richCompare_meets_room (op := .NotEq) ⟨_, e, rfl⟩ ⟨_, e', rfl⟩ F.slot_tuple_ne F.entry_tuple_ne (F.args_tuple_ne_2 _ _) (tuple_neAt l l' vs us n n' none none #[] #[] (fun _ => true)) ⟨e, e', eqAt_items (fun d => flat d = true) (fun d v u hf i j => eqAt_flat hf i j) hf i j, ?_⟩ hu
  refine ⟨(by intro q; cases q), ?_⟩
  rw [same_size i j, Nat.min_self, all_tt]
  simpa using pst_here T val_is k
/-- xs != [] -/
theorem wf2_ne_nil {a b : Addr} {ds : List D} (h1 : At S a (.lst ds)) (h2 : At S b (.lst [])) (hu : A.units < cLine) (k : K (.bool (!ds.isEmpty)) m S) : WF2 c A Is (compareOp .NotEq) (.ref a) (.ref b) L m S K := fun v u s T g g' => by
  have := is_val g; subst this; have := is_val g'; subst this
  obtain ⟨vs, n, e, i⟩ := T.mos _ _ h1.mem
  obtain ⟨us, n', e', j⟩ := T.mos _ _ h2.mem
  have hus : us.size = 0 := by have := j.length; simpa using this
  have hvs : vs.size = ds.length := by have := i.length; simpa using this
  show wpAny _ _ (richCompare .NotEq _ _) _ _ _
  cases ds with
  | nil =>
    refine richCompare_meets_room (op := .NotEq) ⟨_, e, rfl⟩ ⟨_, e', rfl⟩ F.slot_list_ne F.entry_list_ne (F.args_list_ne_2 _ _) (list_neAt a b vs us n n' none none #[] #[] (by rw [hvs, hus]; rfl) (fun _ => true)) ⟨e, e', fun j h1 h2 => by omega, ?_⟩ hu
    refine ⟨(by intro q; cases q), ?_⟩
    rw [all_tt]
    exact pst_here T val_is k
  | cons d ds =>
    refine richCompare_meets_room (op := .NotEq) ⟨_, e, rfl⟩ ⟨_, e', rfl⟩ F.slot_list_ne F.entry_list_ne (F.args_list_ne_2 _ _) (list_ne_lengthsAt a b vs us n n' none none #[] #[] (by rw [hvs, hus]; simp)) ⟨e, e', ?_⟩ hu
    exact ⟨(by intro q; cases q), pst_here T val_is k⟩
end

end Mine

namespace Mine

def stN (i : Nat) : Stmt := PySem.Challenge.pw_mj0095_01.main.body.getD i (.Pass ⟨0, 0, 0, 0⟩)
def fdOf (st : Stmt) (pm cd doc : Value) : FuncData :=
  match st with
  | .FunctionDef name args body _ _ _ scope _ _ _ => { name := name, qualname := name, params := args, body := .stmts body, scope := scope, globals := mainGlobals, closure := [], defaults := .none, kwdefaults := .none, doc := doc, pyModule := pm, code := cd, builtins := builtinsNs }
  | _ => default
def bodyOf (st : Stmt) : List Stmt :=
  match st with
  | .FunctionDef _ _ body _ _ _ _ _ _ _ => body
  | _ => []

/-- room for frames and for C's calls -/
structure Room (n : Nat) (A : Around) : Prop where
  handled : A.handled = none
  depth : A.depth + n ≤ 600
  units : A.units + 10 * n ≤ 1000
theorem Room.deeper {n : Nat} {A : Around} {env : Env} (h : Room (n + 1) A) : Room n (A.deeper env) := ⟨h.handled, by have := h.depth; show A.depth + 1 + n ≤ 600; omega, by have := h.units; show A.units + 3 + 10 * n ≤ 1000; omega⟩
theorem Room.in1 {n : Nat} {A : Around} (h : Room (n + 1) A) : Room n A.in1 := ⟨h.handled, by have := h.depth; show A.depth + n ≤ 600; omega, by have := h.units; show A.units + 1 + 10 * n ≤ 1000; omega⟩
theorem Room.deep {n : Nat} {A : Around} (h : Room (n + 1) A) : A.depth < recursionLimit := by have := h.depth; show A.depth < 1000; omega
theorem Room.unit {n : Nat} {A : Around} (h : Room n A) : A.units < cLine := by have := h.units; show A.units < 9900; omega

section
variable {c : Cx} {A : Around} {L : Addr} {m : Loc} {S : Sto} {mg mb : Str → Option Value}
variable {K : D → Loc → Sto → Prop}

/-- one of heapq's items -/
structure It where
  w : Str
  p : Int
  r : Str
def It.d (x : It) : D := .tup [.str x.w, .int x.p, .str x.r]
def It.lt (x y : It) : Bool := ltL [.str x.w, .int x.p, .str x.r] [.str y.w, .int y.p, .str y.r]
theorem wf2_lt_it {x y : It} (hu : A.units < cLine) (k : K (.bool (x.lt y)) m S) : WF2 c A Is (compareOp .Lt) x.d y.d L m S K := wf2_lt_tup (.str (.int (.str .nil))) hu k


local macro_rules | `(tactic| kd_mem) => `(tactic| first | with_reducible exact Has.here | ((with_reducible refine' Has.here' ?hd); (case hd => first | rfl | (congr 1; omega))) | (refine' Has.there ?hne ?hh; (case hne => decide +kernel); (case hh => kd_mem)))
local macro_rules | `(tactic| kd_subs) => `(tactic| repeat (first | exact Sub.nil | refine Sub.cons (by kd_mem) ?_))
local macro_rules | `(tactic| kd_in) => `(tactic| repeat (first | with_reducible assumption | with_reducible exact At.here | with_reducible exact Up.here | with_reducible refine At.there ?_ | with_reducible refine Up.there ?_))

theorem map_get {l : List It} {i : Nat} {x : It} (h : l[i]? = some x) : (l.map It.d)[i]? = some x.d := by rw [List.getElem?_map, h]; rfl
theorem map_set (l : List It) (i : Nat) (x : It) : (l.map It.d).set i x.d = (l.set i x).map It.d := by rw [List.map_set]

theorem List.set_getElem?_self' {α : Type} : ∀ {l : List α} {i : Nat} {x : α}, l[i]? = some x → l.set i x = l
  | [], _, _, h => by simp at h
  | y :: l, 0, x, h => by simp at h; subst h; rfl
  | y :: l, i + 1, x, h => by simp only [List.getElem?_cons_succ] at h; rw [List.set_cons_succ, List.set_getElem?_self' h]
def sdown (l : List It) (p : Nat) (x t : It) : List It := if x.lt t then (l.set p t).set 0 x else l.set p x


set_option maxRecDepth 100000 in
/-- _siftdown(heap, 0, 0) -/
theorem siftdown0 {fa : Addr} {pm cd doc : Value} {a : Addr} {l : List It} {x : It} (G : Glo c mg mb) (F : Fn c fa (fdOf (stN 4) pm cd doc)) (R : Room 1 A) (hx : l[0]? = some x) (hl : At S a (.lst (l.map It.d)))
    (k : K .non m S) : WFs c A Is (fun vs => call (.ref fa) vs) [.ref a, .int 0, .int 0] L m S K := by
  refine wfs_def (ps := ["heap", "startpos", "pos"]) (body := bodyOf (stN 4)) (m₀ := [("heap", .ref a), ("startpos", .int 0), ("pos", .int 0)]) G F R.deep rfl rfl (fun vs hv => ?_) (by decide +kernel)
    (by show ∀ x ∈ (fdOf (stN 4) .none .none .none).scope.names, x.2 ≠ .cell; decide +kernel) (by show ∀ x ∈ (["heap", "startpos", "pos"] : List Str), (fdOf (stN 4) .none .none .none).scope.names.lookup x = some .local; decide +kernel) rfl fun L' => ?_
  · match vs, hv with
    | [v1, v2, v3], _ => rfl
  · show WX c _ (execs [_, _, _] _) _ _ _ _
    refine wx_cons (wx_assign (we_sub (we_name (by kd_mem) (we_name (by kd_mem) (wf2_item (i := 0) hl (by decide) (by decide) (map_get hx) ?_)))))
    refine wx_cons (wx_while (fun n m' S' => n = 0 ∧ m' = ([("newitem", x.d), ("heap", .ref a), ("startpos", .int 0), ("pos", .int 0)] : Loc) ∧ S' = S) ?_ 0 ⟨rfl, rfl, rfl⟩)
    rintro n m' S' ⟨rfl, rfl, rfl⟩
    refine wb_cmp (we_name (by kd_mem) (we_name (by kd_mem) (wf2_gt_int ⟨_, rfl, ?_⟩)))
    rw [if_neg (by decide)]
    have hz : 0 < l.length := (List.getElem?_eq_some_iff.mp hx).1
    have e : (l.map It.d).set 0 x.d = l.map It.d := by rw [map_set]; congr 1; exact List.set_getElem?_self' hx
    refine wx_cons (wx_setItem (we_name (by kd_mem) (we_name (by kd_mem) (we_name (by kd_mem) ⟨a, l.map It.d, 0, _, rfl, rfl, by decide, by decide, by simpa using hz, by rw [show (0 : Int).toNat = 0 from rfl, e]; exact Up.same hl, ?_⟩))))
    exact wx_nil k

set_option maxRecDepth 100000 in
/-- _siftdown(heap, 0, p) for p = 1 or 2 -/
theorem siftdownP {fa : Addr} {pm cd doc : Value} {a : Addr} {l : List It} {x t : It} {p : Int} {S' : Sto} (G : Glo c mg mb) (F : Fn c fa (fdOf (stN 4) pm cd doc)) (R : Room 1 A) (hp : p = 1 ∨ p = 2) (hx : l[p.toNat]? = some x) (ht : l[0]? = some t)
    (u : Up S a (.lst (l.map It.d)) (.lst ((sdown l p.toNat x t).map It.d)) S') (k : K .non m S') : WFs c A Is (fun vs => call (.ref fa) vs) [.ref a, .int 0, .int p] L m S K := by
  refine wfs_nodup fun nd => ?_
  refine wfs_def (ps := ["heap", "startpos", "pos"]) (body := bodyOf (stN 4)) (m₀ := [("heap", .ref a), ("startpos", .int 0), ("pos", .int p)]) G F R.deep rfl rfl (fun vs hv => ?_) (by decide +kernel)
    (by show ∀ x ∈ (fdOf (stN 4) .none .none .none).scope.names, x.2 ≠ .cell; decide +kernel) (by show ∀ x ∈ (["heap", "startpos", "pos"] : List Str), (fdOf (stN 4) .none .none .none).scope.names.lookup x = some .local; decide +kernel) rfl fun L' => ?_
  · match vs, hv with
    | [v1, v2, v3], _ => rfl
  · have hl := u.at
    have hz : p.toNat < l.length := (List.getElem?_eq_some_iff.mp hx).1
    have hz0 : 0 < l.length := (List.getElem?_eq_some_iff.mp ht).1
    have hq : (p - 1) / 2 = 0 := by omega
    have hp0 : 0 ≤ p := by omega
    have hp1 : p < 2 ^ 62 := by omega
    obtain ⟨S1, u1⟩ := Up.ex hl (.lst ((l.set p.toNat t).map It.d))
    show WX c _ (execs [_, _, _] _) _ _ _ _
    refine wx_cons (wx_assign (we_sub (we_name (by kd_mem) (we_name (by kd_mem) (wf2_item hl hp0 hp1 (map_get hx) ?_)))))
    refine wx_cons (wx_while (fun n m' S' => (n = 1 ∧ m' = ([("newitem", x.d), ("heap", .ref a), ("startpos", .int 0), ("pos", .int p)] : Loc) ∧ S' = S) ∨
      (n = 0 ∧ x.lt t = true ∧ m' = ([("pos", .int 0), ("parent", t.d), ("parentpos", .int 0), ("newitem", x.d), ("heap", .ref a), ("startpos", .int 0), ("pos", .int p)] : Loc) ∧ S' = S1)) ?_ 1 (.inl ⟨rfl, rfl, rfl⟩))
    rintro n m' S₂ (⟨rfl, rfl, rfl⟩ | ⟨rfl, hlt, rfl, rfl⟩)
    · refine wb_cmp (we_name (by kd_mem) (we_name (by kd_mem) (wf2_gt_int ⟨_, rfl, ?_⟩)))
      rw [if_pos (by simp; omega)]
      refine wx_cons (wx_assign (we_binop (we_binop (we_name (by kd_mem) (we_int (wf2_sub_int (we_int (wf2_rshift1 (by omega) ?_))))))))
      rw [hq]
      refine wx_cons (wx_assign (we_sub (we_name (by kd_mem) (we_name (by kd_mem) (wf2_item (i := 0) hl (by decide) (by decide) (map_get ht) ?_)))))
      refine wx_cons (wx_if (wb_cmp (we_name (by kd_mem) (we_name (by kd_mem) (wf2_lt_it (R.deeper (n := 0)).unit ⟨_, rfl, ?_⟩)))))
      by_cases hlt : x.lt t = true
      · rw [if_pos hlt]
        refine wx_cons (wx_setItem (we_name (by kd_mem) (we_name (by kd_mem) (we_name (by kd_mem) ⟨a, l.map It.d, p, S1, rfl, rfl, hp0, hp1, by simpa using hz, by rw [map_set]; exact u1, ?_⟩))))
        refine wx_cons (wx_assign (we_name (by kd_mem) ?_))
        refine wx_cons (wx_continue ?_)
        exact ⟨0, by decide, .inr ⟨rfl, hlt, rfl, rfl⟩⟩
      · rw [if_neg hlt]
        refine wx_nil (wx_cons (wx_break ?_))
        have e : sdown l p.toNat x t = l.set p.toNat x := by unfold sdown; rw [if_neg hlt]
        rw [e] at u
        refine wx_cons (wx_setItem (we_name (by kd_mem) (we_name (by kd_mem) (we_name (by kd_mem) ⟨a, l.map It.d, p, S', rfl, rfl, hp0, hp1, by simpa using hz, by rw [map_set]; exact u, ?_⟩))))
        exact wx_nil k
    · refine wb_cmp (we_name (by kd_mem) (we_name (by kd_mem) (wf2_gt_int ⟨_, rfl, ?_⟩)))
      rw [if_neg (by decide)]
      have e : sdown l p.toNat x t = (l.set p.toNat t).set 0 x := by unfold sdown; rw [if_pos hlt]
      rw [e] at u
      refine wx_cons (wx_setItem (we_name (by kd_mem) (we_name (by kd_mem) (we_name (by kd_mem) ⟨a, (l.set p.toNat t).map It.d, 0, S', rfl, rfl, by decide, by decide, by simpa using hz0, ?_, ?_⟩))))
      · have := u1.over nd u
        rw [show (0 : Int).toNat = 0 from rfl, map_set]; exact this
      · exact wx_nil k

def child : List It → Option (Nat × It)
  | [_, a] => some (1, a)
  | [_, a, b] => if a.lt b then some (1, a) else some (2, b)
  | _ => none
def sup (l : List It) : List It :=
  match l, child l with
  | x :: r, some (p, t) => sdown (((x :: r).set 0 t).set p x) p x t
  | _, _ => l

/-- the names that the heap's defs ask for -/
structure HG (c : Cx) (mg mb : Str → Option Value) (fsd fsu : Addr) : Prop where
  glo : Glo c mg mb
  len0 : mg "len" = none
  len : mb "len" = some (.builtin "len")
  sd : mg "_siftdown" = some (.ref fsd)
  su : mg "_siftup" = some (.ref fsu)
  fsd : ∃ pm cd doc, Fn c fsd (fdOf (stN 4) pm cd doc)
  fsu : ∃ pm cd doc, Fn c fsu (fdOf (stN 5) pm cd doc)

theorem Fn.at' {fa : Addr} {fd : FuncData} (F : Fn c fa fd) : ∃ o, c.h₀.get? fa = some o ∧ o.data = .func fd := F.stands


theorem child_some {l : List It} {p : Nat} {t : It} (h : child l = some (p, t)) : (p = 1 ∨ p = 2) ∧ l[p]? = some t ∧ p < l.length ∧ l.length ≤ 3 := by
  match l with
  | [] => simp [child] at h
  | [_] => simp [child] at h
  | [_, a] => simp [child] at h; obtain ⟨rfl, rfl⟩ := h; simp
  | [_, a, b] =>
    simp only [child] at h
    by_cases hab : a.lt b = true
    · rw [if_pos hab] at h; cases h; simp
    · rw [if_neg hab] at h; cases h; simp
  | _ :: _ :: _ :: _ :: _ => simp [child] at h

set_option maxRecDepth 100000 in
set_option maxHeartbeats 1000000 in
/-- _siftup(heap, 0) -/
theorem siftup {fsd fsu : Addr} {a : Addr} {x : It} {r : List It} {S' : Sto} (H : HG c mg mb fsd fsu) (R : Room 3 A) (hr : r.length ≤ 2)
    (u : Up S a (.lst ((x :: r).map It.d)) (.lst ((sup (x :: r)).map It.d)) S') (k : K .non m S') : WFs c A Is (fun vs => call (.ref fsu) vs) [.ref a, .int 0] L m S K := by
  refine wfs_nodup fun nd => ?_
  obtain ⟨pm, cd, doc, F⟩ := H.fsu
  obtain ⟨pm', cd', doc', F'⟩ := H.fsd
  obtain ⟨o', ho', hd'⟩ := F'.stands
  have R' : Room 2 A := ⟨R.handled, by have := R.depth; omega, by have := R.units; omega⟩
  refine wfs_def (ps := ["heap", "pos"]) (body := bodyOf (stN 5)) (m₀ := [("heap", .ref a), ("pos", .int 0)]) H.glo F R.deep rfl rfl (fun vs hv => ?_) (by decide +kernel)
    (by show ∀ x ∈ (fdOf (stN 5) .none .none .none).scope.names, x.2 ≠ .cell; decide +kernel) (by show ∀ x ∈ (["heap", "pos"] : List Str), (fdOf (stN 5) .none .none .none).scope.names.lookup x = some .local; decide +kernel) rfl fun L' => ?_
  · match vs, hv with
    | [v1, v2], _ => rfl
  · have hl := u.at
    have ez : ((x :: r).map It.d).length = r.length + 1 := by simp
    show WX c _ (execs [_, _, _, _, _, _, _] _) _ _ _ _
    refine wx_cons (wx_assign (we_call_b (we_builtin H.glo H.len0 H.len ⟨rfl, ws_cons (we_name (by kd_mem) (ws_nil (wfs_len hl (by rw [ez]; omega) ?_)))⟩)))
    rw [ez]
    refine wx_cons (wx_assign (we_name (by kd_mem) ?_))
    refine wx_cons (wx_assign (we_sub (we_name (by kd_mem) (we_name (by kd_mem) (wf2_item (i := 0) hl (by decide) (by decide) rfl ?_)))))
    refine wx_cons (wx_assign (we_binop (we_binop (we_int (we_name (by kd_mem) (wf2_mul_int (we_int (wf2_add_int ?_)) (by decide) (by decide)))))))
    cases hc : child (x :: r) with
    | none =>
      have hr0 : r = [] := by
        match r, hr, hc with
        | [], _, _ => rfl
        | [_], _, hc => simp [child] at hc
        | [b, d], _, hc => simp only [child] at hc; split at hc <;> cases hc
      subst hr0
      refine wx_cons (wx_while (fun n m' S' => n = 0 ∧ m' = ([("childpos", .int (2 * 0 + 1)), ("newitem", x.d), ("startpos", .int 0), ("endpos", .int (([] : List It).length + 1 : Nat)), ("heap", .ref a), ("pos", .int 0)] : Loc) ∧ S' = S) ?_ 0 ⟨rfl, rfl, rfl⟩)
      rintro n m' S₂ ⟨rfl, rfl, rfl⟩
      refine wb_cmp (we_name (by kd_mem) (we_name (by kd_mem) (wf2_lt_int ⟨_, rfl, ?_⟩)))
      rw [if_neg (by decide)]
      refine wx_cons (wx_setItem (we_name (by kd_mem) (we_name (by kd_mem) (we_name (by kd_mem) ⟨a, [x].map It.d, 0, _, rfl, rfl, by decide, by decide, by simp, Up.same hl, ?_⟩))))
      refine wx_cons (wx_expr (we_call_f ho' hd' (we_global H.glo H.sd ⟨rfl, ws_cons (we_name (by kd_mem) (ws_cons (we_name (by kd_mem) (ws_cons (we_name (by kd_mem) (ws_nil (siftdown0 (l := [x]) H.glo F' R'.deeper rfl hl ?_)))))))⟩)))
      refine wx_nil ?_
      rw [← u.self rfl]; exact k
    | some q =>
      obtain ⟨p, t⟩ := q
      obtain ⟨hp, ht, hz, h3⟩ := child_some hc
      have esup : sup (x :: r) = sdown (((x :: r).set 0 t).set p x) p x t := by unfold sup; rw [hc]
      rw [esup] at u
      obtain ⟨S1, u1⟩ := Up.ex hl (.lst (((x :: r).set 0 t).map It.d))
      obtain ⟨S2, u2⟩ := Up.ex hl (.lst ((((x :: r).set 0 t).set p x).map It.d))
      have hr1 : 0 < r.length := by simp at hz; omega
      refine wx_cons (wx_while (fun n m' S' => (n = 1 ∧ m' = ([("childpos", .int (2 * 0 + 1)), ("newitem", x.d), ("startpos", .int 0), ("endpos", .int (r.length + 1 : Nat)), ("heap", .ref a), ("pos", .int 0)] : Loc) ∧ S' = S) ∨
        (n = 0 ∧ Sub [("childpos", .int (2 * (p : Int) + 1)), ("pos", .int p), ("newitem", x.d), ("startpos", .int 0), ("endpos", .int (r.length + 1 : Nat)), ("heap", .ref a)] m' ∧ S' = S1)) ?_ 1 (.inl ⟨rfl, rfl, rfl⟩))
      rintro n m' S₂ (⟨rfl, rfl, rfl⟩ | ⟨rfl, hs, rfl⟩)
      · refine wb_cmp (we_name (by kd_mem) (we_name (by kd_mem) (wf2_lt_int ⟨_, rfl, ?_⟩)))
        rw [if_pos (by simp; omega)]
        refine wx_cons (wx_assign (we_binop (we_name (by kd_mem) (we_int (wf2_add_int ?_)))))
        refine wx_cons (wg_mono (K := fun f m'' S'' => f = .nxt ∧ Sub [("childpos", .int p), ("newitem", x.d), ("startpos", .int 0), ("endpos", .int (r.length + 1 : Nat)), ("heap", .ref a), ("pos", .int 0)] m'' ∧ S'' = S₂) ?_ ?_)
        · refine wx_if (wb_and2 (wb_cmp (we_name (by kd_mem) (we_name (by kd_mem) (wf2_lt_int ⟨_, rfl, ?_⟩)))))
          match r, hr, hr1, hc, hl with
          | [a1], _, _, hc, hl =>
            rw [if_neg (by simp), if_neg (by decide)]
            cases hc
            exact wx_nil ⟨rfl, by kd_subs, rfl⟩
          | [a1, b1], _, _, hc, hl =>
            rw [if_pos (by simp)]
            refine wb_not (wb_cmp (we_sub (we_name (by kd_mem) (we_name (by kd_mem) (wf2_item (i := 1) hl (by decide) (by decide) rfl (we_sub (we_name (by kd_mem) (we_name (by kd_mem) (wf2_item (i := 2) hl (by decide) (by decide) rfl (wf2_lt_it (x := a1) (y := b1) (R'.deeper (n := 1)).unit ⟨_, rfl, ?_⟩)))))))))) 
            simp only [child] at hc
            by_cases hab : a1.lt b1 = true
            · rw [if_pos hab] at hc
              cases hc
              rw [hab, if_neg (by decide)]
              exact wx_nil ⟨rfl, by kd_subs, rfl⟩
            · rw [if_neg hab] at hc
              cases hc
              rw [Bool.not_eq_true] at hab
              rw [hab, if_pos (by decide)]
              refine wx_cons (wx_assign (we_name (by kd_mem) ?_))
              exact wx_nil ⟨rfl, by kd_subs, rfl⟩
        · rintro f m'' S'' ⟨rfl, hs, rfl⟩
          refine wg_less (m' := [("childpos", .int p), ("newitem", x.d), ("startpos", .int 0), ("endpos", .int (r.length + 1 : Nat)), ("heap", .ref a), ("pos", .int 0)]) ?_ hs
          refine wx_cons (wx_setItem (we_sub (we_name (by kd_mem) (we_name (by kd_mem) (wf2_item (i := p) hl (by omega) (by omega) (map_get (by rw [show ((p : Int)).toNat = p by omega]; exact ht)) (we_name (by kd_mem) (we_name (by kd_mem) ⟨a, (x :: r).map It.d, 0, S1, rfl, rfl, by decide, by decide, by simp, by rw [map_set]; exact u1, ?_⟩)))))))
          refine wx_cons (wx_assign (we_name (by kd_mem) ?_))
          refine wx_cons (wx_assign (we_binop (we_binop (we_int (we_name (by kd_mem) (wf2_mul_int (we_int (wf2_add_int ?_)) (by decide) (by omega)))))))
          refine wx_nil ⟨0, by decide, .inr ⟨rfl, by kd_subs, rfl⟩⟩
      · refine wg_less (m' := [("childpos", .int (2 * (p : Int) + 1)), ("pos", .int p), ("newitem", x.d), ("startpos", .int 0), ("endpos", .int (r.length + 1 : Nat)), ("heap", .ref a)]) ?_ hs
        refine wb_cmp (we_name (by kd_mem) (we_name (by kd_mem) (wf2_lt_int ⟨_, rfl, ?_⟩)))
        rw [if_neg (by simp at h3 ⊢; omega)]
        refine wx_cons (wx_setItem (we_name (by kd_mem) (we_name (by kd_mem) (we_name (by kd_mem) ⟨a, ((x :: r).set 0 t).map It.d, p, S2, rfl, rfl, by omega, by omega, by simpa using hz, ?_, ?_⟩))))
        · rw [map_set]; exact u1.over nd u2
        refine wx_cons (wx_expr (we_call_f ho' hd' (we_global H.glo H.sd ⟨rfl, ws_cons (we_name (by kd_mem) (ws_cons (we_name (by kd_mem) (ws_cons (we_name (by kd_mem) (ws_nil (siftdownP (l := ((x :: r).set 0 t).set p x) (x := x) (t := t) (S' := S') H.glo F' R'.deeper (by omega) ?_ ?_ ?_ ?_)))))))⟩)))
        · rw [show ((p : Int)).toNat = p by omega]; exact List.getElem?_set_self (by simpa using hz)
        · rcases hp with rfl | rfl <;> simp
        · exact u2.over nd u
        · exact wx_nil k
end
end Mine

namespace Mine

section
variable {c : Cx} {A : Around} {env : Env} {L : Addr} {m : Loc} {S : Sto}

/-- an object that is none of ours is touched -/
structure Apart (c : Cx) (I L : Addr) (S : Sto) (h : Heap) : Prop where
  ne : I ≠ L
  out : I ∉ dom S
  fresh : c.h₀.get? I = none
  nt : NotTup h I
theorem St.other {s : Shared} {h' : Heap} {tk : Nat} {I : Addr} (T : c.St L m S s) (P : Apart c I L S s.heap) (k : ∀ b o, b ≠ I → s.heap.get? b = some o → h'.get? b = some o) : c.St L m S { s with heap := h', toks := tk } := by
  have k' : ∀ b o, b ∉ [I] → s.heap.get? b = some o → h'.get? b = some o := fun b o n e => k b o (fun q => n (q ▸ List.mem_cons_self ..)) e
  have nt : ∀ a, a ∈ [I] → NotTup s.heap a := fun a ha => List.mem_singleton.mp ha ▸ P.nt
  obtain ⟨mV, ⟨o, es, ep, g, r⟩, f⟩ := T.fr
  refine ⟨fun a o e => k a o (fun q => ?_) (T.keep a o e), ⟨mV, ⟨o, es, ep, k _ _ (Ne.symm P.ne) g, r⟩, fun x d hx => ?_⟩, T.freshL, fun a o ha => (T.mos a o ha).kp2 k' nt fun q => ?_, T.freshS, T.nodup, T.gens, T.os⟩
  · rw [q, P.fresh] at e; cases e
  · obtain ⟨v, e, i⟩ := f x d hx
    exact ⟨v, e, i.kp2 k' nt⟩
  · exact P.out (List.mem_singleton.mp q ▸ dom_mem ha)
theorem Go.other {S' : Sto} {s s' : Shared} {h' : Heap} {tk : Nat} {I : Addr} (G : Go L S S' s s') (hI : s.heap.get? I = none) (k : ∀ b o, b ≠ I → s'.heap.get? b = some o → h'.get? b = some o) : Go L S S' s { s' with heap := h', toks := tk } := by
  have ne : ∀ b o, s.heap.get? b = some o → b ≠ I := fun b o e q => by rw [q, hI] at e; cases e
  exact ⟨⟨fun a o e => by obtain ⟨o', e'⟩ := G.kp.1 a o e; exact ⟨o', k a o' (ne a o e) e'⟩, fun a o n e => k a o (ne a o e) (G.kp.2 a o n e)⟩, G.new⟩

/-- an iterator: n items, d i the i-th; Q: what the store must bear -/
structure Iter (c : Cx) (A : Around) (I : Addr) (n : Nat) (d : Nat → D) (P : Nat → Heap → Prop) (Q : Sto → Prop) : Prop where
  stab : ∀ i h h', P i h → (∀ o, h.get? I = some o → h'.get? I = some o) → P i h'
  stands : ∀ i h, P i h → ∃ o, h.get? I = some o
  nt : ∀ i h, P i h → NotTup h I
  next : ∀ i L m S s, i < n → c.St L m S s → Q S → P i s.heap → ∀ R : Option Value → Shared → Prop, (∀ h' tk v, P (i + 1) h' → Heap.SameBut I s.heap h' → Is s.heap (d i) v → R (some v) { s with heap := h', toks := tk }) → wpAny c.M A (pyNext (.ref I)) R No s
  fin : ∀ L m S s, c.St L m S s → Q S → P n s.heap → ∀ R : Option Value → Shared → Prop, (∀ h', Heap.ExtBut I s.heap h' → R none { s with heap := h' }) → wpAny c.M A (pyNext (.ref I)) R No s
  self : ∀ i s, P i s.heap → ∀ R : Value → Shared → Prop, R (.ref I) s → wpAny c.M A (pyIter (.ref I)) R No s
  own : ∀ i s target v, P i s.heap → ∀ R : Unit → Shared → Prop, R () s → wpAny c.M A (letOwnedTupleGo target (.ref I) v) R No s

theorem code_for {target : Expr} {body : List Stmt} {I : Addr} {n : Nat} {d : Nat → D} {P : Nat → Heap → Prop} {Q : Sto → Prop} {K : Fl → Loc → Sto → Prop} {S₀ : Sto} {s₀ s : Shared} (it : Iter c A I n d P Q)
    (J : Nat → Loc → Sto → Prop) (hQ : ∀ i m S, J i m S → Q S)
    (turn : ∀ i m S, i < n → J i m S → WF c A UIs (assign target env) (d i) L m S fun _ m S => WX c A (execs body env) L m S fun f m S => match f with | .nxt => J (i + 1) m S | .cont => J (i + 1) m S | .brk => K .nxt m S | .ret d => K (.ret d) m S)
    (fin : ∀ m S, J n m S → K .nxt m S) (hJ : J 0 m S) (T : c.St L m S s) (G : Go L S₀ S s₀ s) (hI : s₀.heap.get? I = none) (hP : P 0 s.heap) (ne : I ≠ L) (out : I ∉ dom S) (fresh : c.h₀.get? I = none)
    (ht : ∀ v, letOwnedTupleGo target (.ref I) v = pure () := by intro _; rfl) :
    codeAny c.M A (.forLoop target (.ref I) body [] env) (fun r s' => match r with | .ok f => Pst c FlIs L S₀ s₀ K f s' | .error e => cameBackBy c.M A env No e s') s := by
  refine codeAny_forLoop (fun k s' => ∃ i m' S', k = n - i ∧ i ≤ n ∧ J i m' S' ∧ c.St L m' S' s' ∧ Go L S₀ S' s₀ s' ∧ P i s'.heap ∧ I ∉ dom S') ?_ n ⟨0, m, S, rfl, Nat.zero_le _, hJ, T, G, hP, out⟩ ht
  rintro k s₁ ⟨i, m₁, S₁, rfl, hi, hJ₁, T₁, G₁, hP₁, out₁⟩
  have ap : Apart c I L S₁ s₁.heap := ⟨ne, out₁, fresh, it.nt i _ hP₁⟩
  rcases Nat.lt_or_ge i n with hlt | hge
  · refine no_elim (it.next i L m₁ S₁ s₁ hlt T₁ (hQ _ _ _ hJ₁) hP₁ _ fun h' tk v hP' hs iv => ?_)
    have keep : ∀ b o, b ≠ I → s₁.heap.get? b = some o → h'.get? b = some o := fun b o hb e => (hs.2 b hb).trans e
    have T₂ : c.St L m₁ S₁ { s₁ with heap := h', toks := tk } := St.other T₁ ap keep
    have iv' : Is h' (d i) v := iv.kp2 (X := [I]) (fun b o n e => keep b o (fun q => n (q ▸ List.mem_cons_self ..)) e) fun a ha => List.mem_singleton.mp ha ▸ ap.nt
    have G₂ : Go L S₀ S₁ s₀ { s₁ with heap := h', toks := tk } := G₁.other hI keep
    refine no_elim (wpAny_mono (turn i m₁ S₁ hlt hJ₁ v _ T₂ iv') (fun _ s₃ ⟨_, m₃, S₃, _, T₃, G₃, k⟩ => ?_) fun _ _ x => x)
    refine no_elim (wpAny_mono (k s₃ T₃) (fun f s₄ ⟨fl, m₄, S₄, j, T₄, G₄, k⟩ => ?_) fun _ _ x => x)
    have G₅ := G₃.trans G₄
    have hP4 : P (i + 1) s₄.heap := it.stab _ _ _ hP' fun o e => G₅.kp.2 I o (fun q => by
      rcases List.mem_cons.mp q with q | q
      · exact ne q
      · exact out₁ q) e
    have out4 : I ∉ dom S₄ := fun q => by
      obtain ⟨o, ho⟩ := it.stands _ _ hP'
      rcases G₅.new I q with q | q
      · exact out₁ q
      · rw [ho] at q; cases q
    cases fl with
    | nxt => cases (j : f = .next); exact ⟨n - (i + 1), by omega, i + 1, m₄, S₄, rfl, hlt, k, T₄, G₂.trans G₅, hP4, out4⟩
    | cont => cases (j : f = .cont); exact ⟨n - (i + 1), by omega, i + 1, m₄, S₄, rfl, hlt, k, T₄, G₂.trans G₅, hP4, out4⟩
    | brk => cases (j : f = .brk); exact ⟨.nxt, m₄, S₄, rfl, T₄, G₂.trans G₅, k⟩
    | ret d => obtain ⟨v, rfl, i⟩ := j; exact ⟨.ret d, m₄, S₄, ⟨v, rfl, i⟩, T₄, G₂.trans G₅, k⟩
  · obtain rfl : i = n := Nat.le_antisymm hi hge
    refine no_elim (it.fin L m₁ S₁ s₁ T₁ (hQ _ _ _ hJ₁) hP₁ _ fun h' hs => ?_)
    have keep : ∀ b o, b ≠ I → s₁.heap.get? b = some o → h'.get? b = some o := fun b o hb e => hs b o hb e
    have T₂ : c.St L m₁ S₁ { s₁ with heap := h', toks := s₁.toks } := St.other T₁ ap keep
    exact wpAny_execs_nil ⟨.nxt, m₁, S₁, rfl, T₂, G₁.other (tk := s₁.toks) hI keep, fin _ _ hJ₁⟩

theorem own_pass {I : Addr} {o : Obj} {n : String} {fs : Array Value} {s : Shared} {target : Expr} {v : Value} {R : Unit → Shared → Prop} (ho : s.heap.get? I = some o) (hc : o.cls = .type n) (hd : o.data = .fields fs)
    (hn : n = "range_iterator" ∨ n = "list_iterator") (h : R () s) : wpAny c.M A (letOwnedTupleGo target (.ref I) v) R No s := by
  cases target <;> cases v <;> first
    | exact wpAny_pure h
    | (show wpAny c.M A (load I >>= _) R No s
       refine wpAny_bind (wpAny_load ho ?_)
       rw [hc, hd]
       dsimp only
       rcases hn with rfl | rfl
       · rw [if_neg (by simp)]; exact wpAny_pure h
       · rw [if_neg (by simp)]; exact wpAny_pure h)
theorem iter_range {I : Addr} {n : Nat} {x step : Int} (hh : A.handled = none) : Iter c A I n (fun i => .int (x + i * step)) (fun i h => IsRangeIter h I (x + i * step) ((n : Int) - i) step) (fun _ => True) where
  stab i h h' p k := k _ p
  stands i h p := ⟨_, p⟩
  nt i h p := ⟨fun vs k e => by unfold IsRangeIter at p; rw [p] at e; simp [seqObj] at e, fun _ _ _ _ e => by unfold IsRangeIter at p; unfold IsRange at e; rw [p] at e; simp at e⟩
  next i L m S s hi T _ p R h := wpAny_pyNext_range_item p (by omega) fun h' p' hs => h h' _ _ (by
    have e1 : x + ((i + 1 : Nat) : Int) * step = x + i * step + step := by rw [Int.natCast_add, Int.add_mul]; simp; omega
    have e2 : (n : Int) - ((i + 1 : Nat) : Int) = n - i - 1 := by omega
    show IsRangeIter h' I (x + ((i + 1 : Nat) : Int) * step) ((n : Int) - ((i + 1 : Nat) : Int)) step
    rw [e1, e2]; exact p') hs int_is
  fin L m S s T _ p R h := wpAny_pyNext_range_end hh p (by omega) h
  self i s p R h := wpAny_pyIter_rangeiter p h
  own i s target v p R h := own_pass p rfl rfl (.inl rfl) h

theorem iter_list {I a : Addr} {ds : List D} (hh : A.handled = none) : Iter c A I ds.length (fun i => ds.getD i .non) (fun i h => h.IsListIter I a i) (fun S => At S a (.lst ds)) where
  stab i h h' p k := by obtain ⟨o, ho, r⟩ := p; exact ⟨o, k o ho, r⟩
  stands i h p := by obtain ⟨o, ho, r⟩ := p; exact ⟨o, ho⟩
  nt i h p := by
    obtain ⟨o, ho, hc, hd⟩ := p
    exact ⟨fun vs k e => by rw [ho] at e; cases e; simp at hd, fun _ _ _ _ e => by unfold IsRange at e; rw [ho] at e; cases e; simp at hc⟩
  next i L m S s hi T hl p R h := by
    obtain ⟨vs, n, g, r⟩ := T.mos a _ hl.mem
    obtain ⟨v, hv, iv⟩ := r.get (List.getElem?_eq_getElem hi)
    refine wpAny_pyNext_list_item p (isList_of g) (by rw [← Array.getElem?_toList]; exact hv) fun h' p' hs => h h' s.toks v p' hs ?_
    rw [List.getD_eq_getElem?_getD, List.getElem?_eq_getElem hi]; exact iv
  fin L m S s T hl p R h := by
    obtain ⟨vs, n, g, r⟩ := T.mos a _ hl.mem
    have e := r.length
    exact wpAny_pyNext_list_end hh p (isList_of g) (by simp at e; simp [e]) h
  self i s p R h := wpAny_pyIter_listiter p h
  own i s target v p R h := by obtain ⟨o, ho, hc, hd⟩ := p; exact own_pass ho hc hd (.inr rfl) h

variable {K : Fl → Loc → Sto → Prop}
/-- the turn of a for -/
def Turn (c : Cx) (A : Around) (env : Env) (L : Addr) (target : Expr) (body : List Stmt) (K : Fl → Loc → Sto → Prop) (d : D) (J : Loc → Sto → Prop) (m : Loc) (S : Sto) : Prop :=
  WF c A UIs (assign target env) d L m S fun _ m S => WX c A (execs body env) L m S fun f m S => match f with | .nxt => J m S | .cont => J m S | .brk => K .nxt m S | .ret d => K (.ret d) m S

theorem wx_for_range {target iter : Expr} {body : List Stmt} {pos : Pos} (hh : A.handled = none)
    (h : WE c A (eval iter env) L m S fun d m S => ∃ n : Nat, d = .rng n ∧ n < 2 ^ 30 ∧ ∃ J : Nat → Loc → Sto → Prop, J 0 m S ∧ (∀ i m S, i < n → J i m S → Turn c A env L target body K (.int i) (J (i + 1)) m S) ∧ ∀ m S, J n m S → K .nxt m S)
    (hs : ∀ x, foldedSetIterable iter env x = pure x := by intro _; rfl) (ht : ∀ I v, letOwnedTupleGo target (.ref I) v = pure () := by intro _ _; rfl) : WX c A (exec (.For target iter body [] pos) env) L m S K := fun s T => by
  refine wpAny_For (wpAny_mono (h s T) (fun v s₁ ⟨d, m₁, S₁, i, T₁, G₁, n, hd, hn, J, h0, turn, fin⟩ => ?_) fun _ _ x => x) hs
  subst hd
  rw [Is] at i
  obtain ⟨a, t, u, w, rfl, hr⟩ := i
  have hsize : Builtin.Range.rangeSize 0 n 1 = n := by
    unfold Builtin.Range.rangeSize
    rw [if_pos (by decide)]
    split
    · rw [Int.ediv_one]; omega
    · omega
  refine wpAny_pyIter_range hr ?_ ?_
  · exact small_one (by omega) (by omega) (by omega) (by omega)
  · rw [hsize]
    have hp : IsRangeIter (s₁.heap.push { cls := .type "range_iterator", data := .fields #[rawInt 0, rawInt n, rawInt 1] }) s₁.heap.objs.size (0 + ((0 : Nat) : Int) * 1) ((n : Int) - ((0 : Nat) : Int)) 1 := by
      have := Heap.get?_push_size s₁.heap (o := { cls := .type "range_iterator", data := .fields #[rawInt 0, rawInt n, rawInt 1] }) rfl
      simpa [IsRangeIter] using this
    have hnone : s.heap.get? s₁.heap.objs.size = none := by
      cases e : s.heap.get? s₁.heap.objs.size with
      | none => rfl
      | some o => obtain ⟨o', e'⟩ := G₁.kp.1 _ _ e; rw [none_size] at e'; cases e'
    exact code_for (iter_range (x := 0) (step := 1) (n := n) hh) J (fun _ _ _ _ => trivial) (fun i m S hi hJ => by simpa [Turn] using turn i m S hi hJ) fin h0 (T₁.push _) (G₁.trans (Go.push _)) hnone hp
      (Nat.ne_of_gt T₁.ltL) (fun q => Nat.lt_irrefl _ (T₁.ltS q)) T₁.fresh0 (ht _)

theorem go_none {S' : Sto} {s s' : Shared} (G : Go L S S' s s') : s.heap.get? s'.heap.objs.size = none := by
  cases e : s.heap.get? s'.heap.objs.size with
  | none => rfl
  | some o => obtain ⟨o', e'⟩ := G.kp.1 _ _ e; rw [none_size] at e'; cases e'
theorem wx_for_list {target iter : Expr} {body : List Stmt} {pos : Pos} (hh : A.handled = none)
    (h : WE c A (eval iter env) L m S fun d m S => ∃ a ds, d = .ref a ∧ At S a (.lst ds) ∧ ∃ J : Nat → Loc → Sto → Prop, J 0 m S ∧ (∀ i m S, J i m S → At S a (.lst ds)) ∧ (∀ i e m S, ds[i]? = some e → J i m S → Turn c A env L target body K e (J (i + 1)) m S) ∧ ∀ m S, J ds.length m S → K .nxt m S)
    (hs : ∀ x, foldedSetIterable iter env x = pure x := by intro _; rfl) (ht : ∀ I v, letOwnedTupleGo target (.ref I) v = pure () := by intro _ _; rfl) : WX c A (exec (.For target iter body [] pos) env) L m S K := fun s T => by
  refine wpAny_For (wpAny_mono (h s T) (fun v s₁ ⟨d, m₁, S₁, i, T₁, G₁, a, ds, hd, hl, J, h0, hJ, turn, fin⟩ => ?_) fun _ _ x => x) hs
  subst hd
  have e := is_val i; subst e
  obtain ⟨vs, n, g, r⟩ := T₁.mos a _ hl.mem
  refine wpAny_pyIter_list (isList_of g) ?_
  refine code_for (iter_list (a := a) (ds := ds) hh) J hJ (fun i m S hi hJ => ?_) fin h0 (T₁.push _) (G₁.trans (Go.push _)) (go_none G₁) ⟨_, Heap.get?_push_size _ rfl, rfl, rfl⟩ (Nat.ne_of_gt T₁.ltL) (fun q => Nat.lt_irrefl _ (T₁.ltS q)) T₁.fresh0 (ht _)
  have := turn i ds[i] m S (List.getElem?_eq_getElem hi) hJ
  rw [show ds.getD i .non = ds[i] by rw [List.getD_eq_getElem?_getD, List.getElem?_eq_getElem hi]; rfl]
  exact this
/-- the loop's name -/
theorem turn_name {x : Str} {px : Pos} {body : List Stmt} {d : D} {J : Loc → Sto → Prop} (h : WX c A (execs body env) L ((x, d) :: m) S fun f m S => match f with | .nxt => J m S | .cont => J m S | .brk => K .nxt m S | .ret d => K (.ret d) m S)
    (hL : env.locals = L := by rfl) (hl : env.kindOf x = some .local := by rfl) (hp : (env.scope.kind == .class || (env.scope.kind == .module && env.locals != env.globals)) = false := by rfl) : Turn c A env L (.Name x px) body K d J m S := fun v s T i =>
  wpAny_assign_Name (wu_store (K := fun _ m S => WX c A (execs body env) L m S _) h hL hl hp v s T i)

/-- range(n) -/
theorem wfs_range {n : Int} {K : D → Loc → Sto → Prop} (k : K (.rng n) m S) : WFs c A Is (fun vs => call (.type "range") vs) [.int n] L m S K := fun vs s T i => by
  obtain ⟨v, r, rfl, i1, i2⟩ := i.uncons
  have := i2.unnil; subst this
  obtain ⟨t, rfl⟩ := is_int i1
  refine call_range_1 ⟨.rng n, m, S, ?_, (T.push _).toks _, ⟨Kp.push _ _ _, fun _ h => .inl h⟩, k⟩
  rw [Is]
  exact ⟨_, _, _, _, rfl, Heap.get?_push_size _ rfl⟩

/-! reversed(range(n)) -/
theorem sub_ri_reversed : isSubtype (.type "range_iterator") (.type "reversed") = pure false := by rw [isSubtype_type]; kernel_rfl
theorem call_range_reversed {prog : Program} {w : World} {A : Around} {E : Value → Shared → Prop} {s : Shared} {r : Addr} {n : Nat} {t u v : Tok} {Q : Value → Shared → Prop} (hr : IsRange s.heap r 0 n 1 t u v) (hn : n < 2 ^ 30)
    (h : Q (.ref s.heap.objs.size) { s with heap := s.heap.push { cls := .type "range_iterator", data := .fields #[rawInt ((n : Int) - 1), rawInt n, rawInt (-1)] } }) :
    wpAny (model prog w) A (call (.builtin "range.__reversed__") [.ref r]) Q E s := by
  have hsize : Builtin.Range.rangeSize 0 n 1 = n := by
    unfold Builtin.Range.rangeSize
    rw [if_pos (by decide)]
    split
    · rw [Int.ediv_one]; omega
    · omega
  refine wpAny_call_entry F.slot_range_reversed ⟨_, hr, rfl⟩ F.entry_range_reversed ?_ (F.args_range_reversed_1 _)
  unfold Builtin.«range.__reversed__»
  refine wpAny_bind (wpAny_of_eq (a := Value.ref r) rfl ?_)
  have hf : ∀ Q', Q' (0, (n : Int), 1) s → wpAny (model prog w) A.in1 (Builtin.Range.rangeFields (.ref r)) Q' E s := fun Q' hq => by
    unfold Builtin.Range.rangeFields
    refine wpAny_bind (wpAny_field hr rfl (i := 0) (x := .int 0 t) rfl (wpAny_bind (wpAny_of_eq (a := some 0) rfl ?_)))
    refine wpAny_bind (wpAny_field hr rfl (i := 1) (x := .int n u) rfl (wpAny_bind (wpAny_of_eq (a := some (n : Int)) rfl ?_)))
    refine wpAny_bind (wpAny_field hr rfl (i := 2) (x := .int 1 v) rfl (wpAny_bind (wpAny_of_eq (a := some 1) rfl ?_)))
    exact wpAny_pure hq
  refine wpAny_bind (hf _ ?_)
  dsimp only
  rw [hsize]
  have hs : (Builtin.Range.rangeFitsLong 0 && Builtin.Range.rangeFitsLong n && Builtin.Range.rangeFitsLong 1 && Builtin.Range.rangeFitsLong (-1) && Builtin.Range.rangeFitsLong (0 - 1) && Builtin.Range.rangeFitsLong n) = true := by
    have : Builtin.Range.rangeFitsLong (n : Int) = true := by unfold Builtin.Range.rangeFitsLong; simp; omega
    rw [this]; decide
  rw [hs]
  simp only [Bool.not_true, Bool.false_eq_true, if_false, if_true]
  refine wpAny_bind (wpAny_newObj_type (wpAny_pure ⟨_, rfl, ?_⟩))
  have e : (0 : Int) + ((n : Int) - 1) * 1 = n - 1 := by omega
  rw [e]; exact h

theorem code_reversed_range {prog : Program} {w : World} {A : Around} {E : Value → Shared → Prop} {s : Shared} {r : Addr} {n : Nat} {t u v : Tok} {Q : Value → Shared → Prop} (hr : IsRange s.heap r 0 n 1 t u v) (hn : n < 2 ^ 30)
    (h : Q (.ref s.heap.objs.size) { s with heap := s.heap.push { cls := .type "range_iterator", data := .fields #[rawInt ((n : Int) - 1), rawInt n, rawInt (-1)] } }) :
    codeAny (model prog w) A (.call (.builtin "reversed.__new__") ⟨[.type "reversed", .ref r], []⟩) (wants Q E) s := by
  have hT : s.TypeIs (.ref r) "range" := ⟨_, hr, rfl⟩
  refine codeAny_of_tree ?_
  show wpAny _ A.in1 (do checkBuiltinCall "reversed.__new__" ⟨[.type "reversed", .ref r], []⟩; again (.builtin "reversed.__new__" ⟨[.type "reversed", .ref r], []⟩)) _ _ s
  refine wpAny_bind (wpAny_of_eq (F.newCall_reversed_1 _) (wpAny_pure ⟨plainId_quiet F.plain_reversed_new _, codeAny_builtin F.entry_reversed_new ?_⟩))
  rw [Around.under_plainId F.plain_reversed_new _]
  unfold Builtin.«reversed.__new__»
  refine wpAny_bind (wpAny_of_eq (newClass_reversed _) ?_)
  try dsimp only
  refine wpAny_bind (wpAny_of_eq (a := ()) (by first | rfl | kernel_rfl) ?_)
  refine wpAny_bind (wpAny_of_eq (a := ()) (by first | rfl | kernel_rfl) ?_)
  try dsimp only
  refine wpAny_bind (wpAny_specialOf hT F.slot_range_reversed.lookup ?_)
  try dsimp only
  refine wpAny_bind (wpAny_of_eq (F.slot_range_reversed.bind _) ?_)
  try dsimp only
  rw [if_neg (show ¬ ((Value.builtin "range.__reversed__" == Value.none) = true) from Bool.false_ne_true)]
  refine wpAny_bind (wpAny_rule ?_)
  refine wpAny_bind (m := runValue (.call (.builtin "range.__reversed__") ⟨[.ref r], []⟩)) (show wpAny _ _ (call (.builtin "range.__reversed__") [.ref r]) _ _ _ from call_range_reversed hr hn ?_)
  first
  | exact wpAny_pure h
  | exact wpAny_bind (wpAny_pure (wpAny_pure h))
theorem call_reversed_range {prog : Program} {w : World} {A : Around} {E : Value → Shared → Prop} {s : Shared} {r : Addr} {n : Nat} {t u v : Tok} {Q : Value → Shared → Prop} (hr : IsRange s.heap r 0 n 1 t u v) (hn : n < 2 ^ 30)
    (h : Q (.ref s.heap.objs.size) { s with heap := s.heap.push { cls := .type "range_iterator", data := .fields #[rawInt ((n : Int) - 1), rawInt n, rawInt (-1)] } }) :
    wpAny (model prog w) A (call (.type "reversed") [.ref r]) Q E s := by
  refine callType_other (U := "range_iterator") (Q₁ := fun obj s₁ => obj = .ref s.heap.objs.size ∧ s₁ = { s with heap := s.heap.push { cls := .type "range_iterator", data := .fields #[rawInt ((n : Int) - 1), rawInt n, rawInt (-1)] } }) (by decide +kernel) F.create_reversed ⟨_, _, F.mro_reversed⟩ F.made_reversed sub_ri_reversed (F.typeCall_reversed_1 _) (code_reversed_range hr hn ⟨rfl, rfl⟩) ?_
  rintro obj s₁ ⟨rfl, rfl⟩
  exact ⟨⟨_, Heap.get?_push_size _ rfl, rfl⟩, h⟩
/-- for i in reversed(range(n)) -/
theorem wx_for_rev {mg mb : Str → Option Value} {target e : Expr} {p p' : Pos} {body : List Stmt} {pos : Pos} {x : Str} (G : Glo c mg mb) (hx : mg x = none) (hb : mb x = some (.type "reversed")) (hh : A.handled = none)
    (h : WE c A (eval e env) L m S fun d m S => ∃ n : Nat, d = .rng n ∧ n < 2 ^ 30 ∧ ∃ J : Nat → Loc → Sto → Prop, J 0 m S ∧ (∀ i m S, i < n → J i m S → Turn c A env L target body K (.int ((n : Int) - 1 + i * (-1))) (J (i + 1)) m S) ∧ ∀ m S, J n m S → K .nxt m S)
    (hg : env.globals = mainGlobals := by rfl) (hbn : env.builtins = builtinsNs := by rfl) (hk : env.scope.kind = .function := by rfl) (hl : env.kindOf x = some .globalImplicit := by rfl) (hd : (x == ("__debug__" : Str)) = false := by decide)
    (he : starEach [e] env = [(false, eval e env)] := by rfl) (hs : ∀ y, foldedSetIterable (.Call (.Name x p) [e] [] p') env y = pure y := by intro _; rfl) (ht : ∀ I v, letOwnedTupleGo target (.ref I) v = pure () := by intro _ _; rfl) :
    WX c A (exec (.For target (.Call (.Name x p) [e] [] p') body [] pos) env) L m S K := fun s T => by
  refine wpAny_For (wpAny_Call_NameR ?_) hs
  refine Calls.Name_function_global hk hl (Calls.loadGlobal_builtin (by rw [hg]; exact ns_keep G.g T.keep) hx (by rw [hbn]; exact ns_keep G.b T.keep) hb ?_) hd
  refine PySem.callWith_type (by rw [he]; rfl) ?_
  rw [he]
  refine Calls.evalArgs_plain (Calls.spliced_cons (wpAny_mono (h s T) (fun v s₁ ⟨d, m₁, S₁, i, T₁, G₁, n, hd, hn, J, h0, turn, fin⟩ => Calls.spliced_nil ?_) fun _ _ x => x))
  subst hd
  rw [Is] at i
  obtain ⟨a, t, u, w, rfl, hr⟩ := i
  refine call_reversed_range hr hn ?_
  have hp : IsRangeIter (s₁.heap.push { cls := .type "range_iterator", data := .fields #[rawInt ((n : Int) - 1), rawInt n, rawInt (-1)] }) s₁.heap.objs.size ((n : Int) - 1 + ((0 : Nat) : Int) * (-1)) ((n : Int) - ((0 : Nat) : Int)) (-1) := by
    have := Heap.get?_push_size s₁.heap (o := { cls := .type "range_iterator", data := .fields #[rawInt ((n : Int) - 1), rawInt n, rawInt (-1)] }) rfl
    simpa [IsRangeIter] using this
  refine wpAny_pyIter_rangeiter (by simpa using hp) ?_
  exact code_for (iter_range (x := (n : Int) - 1) (step := -1) (n := n) hh) J (fun _ _ _ _ => trivial) turn fin h0 (T₁.push _) (G₁.trans (Go.push _)) (go_none G₁) hp
      (Nat.ne_of_gt T₁.ltL) (fun q => Nat.lt_irrefl _ (T₁.ltS q)) T₁.fresh0 (ht _)
end

end Mine

namespace Mine

section
variable {c : Cx} {A : Around} {env : Env} {L : Addr} {m : Loc} {S : Sto} {mg mb : Str → Option Value}
variable {K : D → Loc → Sto → Prop}

local macro_rules | `(tactic| kd_mem) => `(tactic| first | with_reducible exact Has.here | ((with_reducible refine' Has.here' ?hd); (case hd => first | rfl | (congr 1; omega))) | (refine' Has.there ?hne ?hh; (case hne => decide +kernel); (case hh => kd_mem)))
local macro_rules | `(tactic| kd_subs) => `(tactic| repeat (first | exact Sub.nil | refine Sub.cons (by kd_mem) ?_))
local macro_rules | `(tactic| kd_in) => `(tactic| repeat (first | with_reducible assumption | with_reducible exact At.here | with_reducible exact Up.here | with_reducible refine At.there ?_ | with_reducible refine Up.there ?_))

theorem wfs_append {a : Addr} {ds : List D} {d : D} {S' : Sto} (u : Up S a (.lst ds) (.lst (ds ++ [d])) S') (hz : ds.length < 2 ^ 20) (k : K .non m S') : WFs c A Is (fun vs => call (.builtin "list.append") vs) [.ref a, d] L m S K := fun vs s T i => by
  obtain ⟨v, r, rfl, i1, i2⟩ := i.uncons
  obtain ⟨w, r, rfl, iw, i3⟩ := i2.uncons
  have := i3.unnil; subst this
  have := is_val i1; subst this
  obtain ⟨vs, n, g, r⟩ := T.mos a _ u.at.mem
  have hv : vs.size = ds.length := by have := r.length; simpa using this
  refine append_at g (fun h' hs g' => ?_) (by rw [hv, sizeLine_eq]; omega)
  have kp : Kp [a] s.heap h' := Kp.of_same hs (List.mem_cons_self ..) ⟨_, g'⟩
  have nt : ∀ b, b ∈ [a] → NotTup s.heap b := fun b hb => T.notTup b (List.mem_cons.mpr (.inr (List.mem_singleton.mp hb ▸ dom_mem u.at.mem)))
  have hm : MoIs h' a (.lst (ds ++ [d])) := ⟨_, _, g', by rw [Array.toList_push]; exact (r.kp kp nt).append (.cons (iw.kp kp nt) .nil)⟩
  exact ⟨.non, m, S', val_is, T.up (tk := s.toks) u hs hm, Go.up (tk := s.toks) u hs hm.stands, k⟩
theorem wfs_pop {a : Addr} {ds : List D} {d : D} {S' : Sto} (u : Up S a (.lst (ds ++ [d])) (.lst ds) S') (hz : ds.length < 2 ^ 20) (k : K d m S') : WFs c A Is (fun vs => call (.builtin "list.pop") vs) [.ref a] L m S K := fun vs s T i => by
  obtain ⟨v, r, rfl, i1, i2⟩ := i.uncons
  have := i2.unnil; subst this
  have := is_val i1; subst this
  obtain ⟨vs, n, g, r⟩ := T.mos a _ u.at.mem
  have hv : vs.size = ds.length + 1 := by have := r.length; simpa using this
  obtain ⟨y, hy, iy⟩ := r.get (i := ds.length) (d := d) (by simp)
  refine PyProof.Rows.Copied.pop_at g (y := y) (by rw [hv, Nat.add_sub_cancel, ← Array.getElem?_toList]; exact hy) (fun h' hs g' => ?_) (by rw [hv, sizeLine_eq]; omega)
  have kp : Kp [a] s.heap h' := Kp.of_same hs (List.mem_cons_self ..) ⟨_, g'⟩
  have nt : ∀ b, b ∈ [a] → NotTup s.heap b := fun b hb => T.notTup b (List.mem_cons.mpr (.inr (List.mem_singleton.mp hb ▸ dom_mem u.at.mem)))
  have hm : MoIs h' a (.lst ds) := ⟨_, _, g', by
    have := (r.kp kp nt).take ds.length
    rw [List.take_left'  rfl] at this
    rw [Array.toList_pop, List.dropLast_eq_take]
    rw [Array.length_toList, hv, Nat.add_sub_cancel]
    exact this⟩
  exact ⟨d, m, S', iy.kp kp nt, T.up (tk := s.toks) u hs hm, Go.up (tk := s.toks) u hs hm.stands, k⟩
theorem wf_truthy_list {a : Addr} {ds : List D} {K : Bool → Loc → Sto → Prop} (h : At S a (.lst ds)) (hz : ds.length < 2 ^ 20) (k : K (!ds.isEmpty) m S) : WF c A BIs truthy (.ref a) L m S K := fun v s T i => by
  have := is_val i; subst this
  obtain ⟨vs, n, g, r⟩ := T.mos a _ h.mem
  have hv : vs.size = ds.length := by have := r.length; simpa using this
  refine wpAny_truthy_list (isList_of g) (by rw [hv]; omega) ⟨_, m, S, ?_, T.toks _, Go.toks _, k⟩
  show _ = _
  unfold Array.isEmpty
  rw [hv]; cases ds <;> simp

set_option maxRecDepth 100000 in
/-- heapreplace(heap, item) -/
theorem heapreplace {fsd fsu fa : Addr} {pm cd doc : Value} {a : Addr} {x y : It} {r : List It} {S' : Sto} (H : HG c mg mb fsd fsu) (Fa : Fn c fa (fdOf (stN 2) pm cd doc)) (R : Room 4 A) (hr : r.length ≤ 2)
    (u : Up S a (.lst ((x :: r).map It.d)) (.lst ((sup (y :: r)).map It.d)) S') (k : K x.d m S') : WFs c A Is (fun vs => call (.ref fa) vs) [.ref a, y.d] L m S K := by
  refine wfs_nodup fun nd => ?_
  obtain ⟨pm', cd', doc', F'⟩ := H.fsu
  obtain ⟨o', ho', hd'⟩ := F'.stands
  refine wfs_def (ps := ["heap", "item"]) (body := bodyOf (stN 2)) (m₀ := [("heap", .ref a), ("item", y.d)]) H.glo Fa R.deep rfl rfl (fun vs hv => ?_) (by decide +kernel)
    (by show ∀ x ∈ (fdOf (stN 2) .none .none .none).scope.names, x.2 ≠ .cell; decide +kernel) (by show ∀ x ∈ (["heap", "item"] : List Str), (fdOf (stN 2) .none .none .none).scope.names.lookup x = some .local; decide +kernel) rfl fun L' => ?_
  · match vs, hv with
    | [v1, v2], _ => rfl
  · have hl := u.at
    obtain ⟨S1, u1⟩ := Up.ex hl (.lst ((y :: r).map It.d))
    show WX c _ (execs [_, _, _, _] _) _ _ _ _
    refine wx_cons (wx_assign (we_sub (we_name (by kd_mem) (we_int (wf2_item (d := x.d) hl (by decide) (by decide) rfl ?_)))))
    refine wx_cons (wx_setItem (we_name (by kd_mem) (we_name (by kd_mem) (we_int ⟨a, (x :: r).map It.d, 0, S1, rfl, rfl, by decide, by decide, by simp, u1, ?_⟩))))
    refine wx_cons (wx_expr (we_call_f ho' hd' (we_global H.glo H.su ⟨rfl, ws_cons (we_name (by kd_mem) (ws_cons (we_int (ws_nil (siftup (x := y) (r := r) (S' := S') H R.deeper hr (u1.over nd u) ?_)))))⟩)))
    exact wx_cons (wx_ret (we_name (by kd_mem) k))

set_option maxRecDepth 100000 in
/-- heappop(heap) of one item -/
theorem heappop1 {fsd fsu fa : Addr} {pm cd doc : Value} {a : Addr} {x : It} {S' : Sto} (H : HG c mg mb fsd fsu) (Fa : Fn c fa (fdOf (stN 1) pm cd doc)) (R : Room 4 A)
    (u : Up S a (.lst ([x].map It.d)) (.lst []) S') (k : K x.d m S') : WFs c A Is (fun vs => call (.ref fa) vs) [.ref a] L m S K := by
  refine wfs_def (ps := ["heap"]) (body := bodyOf (stN 1)) (m₀ := [("heap", .ref a)]) H.glo Fa R.deep rfl rfl (fun vs hv => ?_) (by decide +kernel)
    (by show ∀ x ∈ (fdOf (stN 1) .none .none .none).scope.names, x.2 ≠ .cell; decide +kernel) (by show ∀ x ∈ (["heap"] : List Str), (fdOf (stN 1) .none .none .none).scope.names.lookup x = some .local; decide +kernel) rfl fun L' => ?_
  · match vs, hv with
    | [v1], _ => rfl
  · show WX c _ (execs [_, _, _] _) _ _ _ _
    refine wx_cons (wx_assign (we_meth PySem.F.plainAttrs_list PySem.F.slot_list_pop PySem.F.type_list_pop (we_name (by kd_mem) ⟨own_list u.at.mem, ws_nil (wfs_pop (ds := []) (d := x.d) u (by decide) ?_)⟩)))
    refine wx_cons (wx_if (wb_val (we_name (by kd_mem) (wf_truthy_list u.now (by decide) ?_))))
    rw [if_neg (by decide)]
    exact wx_nil (wx_cons (wx_ret (we_name (by kd_mem) k)))

set_option maxRecDepth 100000 in
/-- heappop(heap) of two or three -/
theorem heappop2 {fsd fsu fa : Addr} {pm cd doc : Value} {a : Addr} {x y : It} {r : List It} {S' : Sto} (H : HG c mg mb fsd fsu) (Fa : Fn c fa (fdOf (stN 1) pm cd doc)) (R : Room 4 A) (hr : r.length ≤ 1)
    (u : Up S a (.lst ((x :: (r ++ [y])).map It.d)) (.lst ((sup (y :: r)).map It.d)) S') (k : K x.d m S') : WFs c A Is (fun vs => call (.ref fa) vs) [.ref a] L m S K := by
  refine wfs_nodup fun nd => ?_
  obtain ⟨pm', cd', doc', F'⟩ := H.fsu
  obtain ⟨o', ho', hd'⟩ := F'.stands
  refine wfs_def (ps := ["heap"]) (body := bodyOf (stN 1)) (m₀ := [("heap", .ref a)]) H.glo Fa R.deep rfl rfl (fun vs hv => ?_) (by decide +kernel)
    (by show ∀ x ∈ (fdOf (stN 1) .none .none .none).scope.names, x.2 ≠ .cell; decide +kernel) (by show ∀ x ∈ (["heap"] : List Str), (fdOf (stN 1) .none .none .none).scope.names.lookup x = some .local; decide +kernel) rfl fun L' => ?_
  · match vs, hv with
    | [v1], _ => rfl
  · have hl := u.at
    have e : (x :: (r ++ [y])).map It.d = (x :: r).map It.d ++ [y.d] := by simp
    rw [e] at u hl
    obtain ⟨S1, u1⟩ := Up.ex hl (.lst ((x :: r).map It.d))
    obtain ⟨S2, u2⟩ := Up.ex hl (.lst ((y :: r).map It.d))
    have hz : ((x :: r).map It.d).length < 2 ^ 20 := by simp; omega
    show WX c _ (execs [_, _, _] _) _ _ _ _
    refine wx_cons (wx_assign (we_meth PySem.F.plainAttrs_list PySem.F.slot_list_pop PySem.F.type_list_pop (we_name (by kd_mem) ⟨own_list u.at.mem, ws_nil (wfs_pop u1 hz ?_)⟩)))
    refine wx_cons (wx_if (wb_val (we_name (by kd_mem) (wf_truthy_list u1.now hz ?_))))
    rw [if_pos (by simp)]
    refine wx_cons (wx_assign (we_sub (we_name (by kd_mem) (we_int (wf2_item (d := x.d) u1.now (by decide) (by decide) rfl ?_)))))
    refine wx_cons (wx_setItem (we_name (by kd_mem) (we_name (by kd_mem) (we_int ⟨a, (x :: r).map It.d, 0, S2, rfl, rfl, by decide, by decide, by simp, u1.over nd u2, ?_⟩))))
    refine wx_cons (wx_expr (we_call_f ho' hd' (we_global H.glo H.su ⟨rfl, ws_cons (we_name (by kd_mem) (ws_cons (we_int (ws_nil (siftup (x := y) (r := r) (S' := S') H R.deeper (by omega) (u2.over nd u) ?_)))))⟩)))
    exact wx_cons (wx_ret (we_name (by kd_mem) k))

set_option maxRecDepth 100000 in
/-- heapify(x) -/
theorem heapify {fsd fsu fa : Addr} {pm cd doc : Value} {a : Addr} {l : List It} {S' : Sto} (H : HG c mg mb fsd fsu) (hr0 : mg "range" = none) (hr : mb "range" = some (.type "range")) (hv0 : mg "reversed" = none) (hv : mb "reversed" = some (.type "reversed"))
    (Fa : Fn c fa (fdOf (stN 3) pm cd doc)) (R : Room 4 A) (h3 : l.length ≤ 3)
    (u : Up S a (.lst (l.map It.d)) (.lst ((sup l).map It.d)) S') (k : K .non m S') : WFs c A Is (fun vs => call (.ref fa) vs) [.ref a] L m S K := by
  obtain ⟨pm', cd', doc', F'⟩ := H.fsu
  obtain ⟨o', ho', hd'⟩ := F'.stands
  refine wfs_def (ps := ["x"]) (body := bodyOf (stN 3)) (m₀ := [("x", .ref a)]) H.glo Fa R.deep rfl rfl (fun vs hv => ?_) (by decide +kernel)
    (by show ∀ x ∈ (fdOf (stN 3) .none .none .none).scope.names, x.2 ≠ .cell; decide +kernel) (by show ∀ x ∈ (["x"] : List Str), (fdOf (stN 3) .none .none .none).scope.names.lookup x = some .local; decide +kernel) rfl fun L' => ?_
  · match vs, hv with
    | [v1], _ => rfl
  · have hl := u.at
    show WX c _ (execs [_, _] _) _ _ _ _
    refine wx_cons (wx_assign (we_call_b (we_builtin H.glo H.len0 H.len ⟨rfl, ws_cons (we_name (by kd_mem) (ws_nil (wfs_len hl (by simp; omega) ?_)))⟩)))
    refine wx_cons (wx_for_rev H.glo hv0 hv R.handled (we_call_t (we_builtin H.glo hr0 hr ⟨rfl, ws_cons (we_binop (we_name (by kd_mem) (we_int (wf2_floordiv_int (ws_nil (wfs_range ?_)) (by decide) (by decide)))))⟩)))
    have hq : ((l.map It.d).length : Int).fdiv 2 = ((l.length / 2 : Nat) : Int) := by
      rw [List.length_map, Int.fdiv_eq_ediv_of_nonneg _ (by decide)]; omega
    rw [hq]
    refine ⟨l.length / 2, rfl, by omega, fun i m' S'' => (i = 0 ∧ Sub [("x", .ref a)] m' ∧ S'' = S) ∨ (i = 1 ∧ 2 ≤ l.length ∧ S'' = S'), .inl ⟨rfl, by kd_subs, rfl⟩, ?_, ?_⟩
    · rintro i m' S'' hi (⟨rfl, hs, rfl⟩ | ⟨rfl, _⟩)
      · refine turn_name ?_
        have e0 : ((l.length / 2 : Nat) : Int) - 1 + ((0 : Nat) : Int) * (-1) = 0 := by omega
        rw [e0]
        match l, h3, hi, u with
        | x :: r, h3, hi, u =>
          refine wx_cons (wx_expr (we_call_f ho' hd' (we_global H.glo H.su ⟨rfl, ws_cons (we_name (Has.there (by decide +kernel) (hs _ _ .here)) (ws_cons (we_name (by kd_mem) (ws_nil (siftup (x := x) (r := r) (S' := S') H R.deeper (by simp at h3; omega) u ?_)))))⟩)))
          exact wx_nil (.inr ⟨rfl, by simp at hi ⊢; omega, rfl⟩)
      · omega
    · rintro m' S'' (⟨hi, hs, rfl⟩ | ⟨hi, hs, rfl⟩)
      · refine wx_nil ?_
        have e : sup l = l := by
          match l, h3, hi with
          | [], _, _ => rfl
          | [x], _, _ => rfl
          | _ :: _ :: _, _, hi => simp at hi; omega
        rw [e] at u
        rw [← u.self rfl]; exact k
      · exact wx_nil k
end

end Mine

namespace Mine

/-! the library's ledger over our state: its base is empty, the ledger is all that stands -/
def hnil : Heap := ⟨#[], {}⟩
theorem hnil_get (a : Addr) : hnil.get? a = none := by
  cases e : hnil.get? a with
  | none => rfl
  | some o => exact absurd (Heap.lt_size e) (Nat.not_lt_zero _)
def allN (h : Heap) (L : Addr) : List (Addr × Obj) := (List.range h.objs.size).filterMap fun a => if a = L then none else (h.get? a).map fun o => (a, o)
theorem mem_allN {h : Heap} {L a : Addr} {o : Obj} : (a, o) ∈ allN h L ↔ a ≠ L ∧ h.get? a = some o := by
  unfold allN
  rw [List.mem_filterMap]
  constructor
  · rintro ⟨b, _, hb⟩
    by_cases hL : b = L
    · rw [if_pos hL] at hb; cases hb
    · rw [if_neg hL] at hb
      cases e : h.get? b with
      | none => rw [e] at hb; cases hb
      | some x => rw [e] at hb; cases hb; exact ⟨hL, e⟩
  · rintro ⟨hL, e⟩
    exact ⟨a, List.mem_range.mpr (Heap.lt_size e), by rw [if_neg hL, e]; rfl⟩
theorem fr0 {h : Heap} {L : Addr} {mV : Str → Option Value} (n : h.Ns L mV) : Fr hnil L h mV := ⟨n, fun b o e => (by rw [hnil_get] at e; cases e), Nat.zero_le _⟩
theorem news0 {h : Heap} {L : Addr} : News hnil L h (allN h L) := fun p hp => by
  obtain ⟨a, o⟩ := p
  obtain ⟨h1, h2⟩ := mem_allN.mp hp
  exact ⟨h2, h1, hnil_get _⟩

section
variable {c : Cx} {A : Around} {env : Env} {L : Addr} {m : Loc} {S : Sto} {mg mb : Str → Option Value}
variable {K : D → Loc → Sto → Prop}

theorem St.adapt {s : Shared} {h' : Heap} {tk : Nat} {mV : Str → Option Value} (T : c.St L m S s) (n : s.heap.Ns L mV) (f : ∀ x d, Has m x d → ∃ v, mV x = some v ∧ Is s.heap d v) (F : Fr hnil L h' mV) (N : News hnil L h' (allN s.heap L)) :
    c.St L m S { s with heap := h', toks := tk } ∧ Go L S S s { s with heap := h', toks := tk } := by
  have k : ∀ a o, a ∉ [L] → s.heap.get? a = some o → h'.get? a = some o := fun a o hn e => (N (a, o) (mem_allN.mpr ⟨fun q => hn (q ▸ List.mem_cons_self ..), e⟩)).1
  have nt : ∀ a, a ∈ [L] → NotTup s.heap a := fun a ha => List.mem_singleton.mp ha ▸ notTup_ns n
  refine ⟨⟨fun a o e => k a o (fun q => ?_) (T.keep a o e), ⟨mV, F.ns, fun x d hx => ?_⟩, T.freshL, fun a o ha => (T.mos a o ha).kp2 k nt fun q => ?_, T.freshS, T.nodup, T.gens, T.os⟩, ⟨⟨fun a o e => ?_, fun a o hn e => k a o (fun q => hn ?_) e⟩, fun a h => .inl h⟩⟩
  · rw [List.mem_singleton.mp q, T.freshL] at e; cases e
  · obtain ⟨v, e, i⟩ := f x d hx
    exact ⟨v, e, i.kp2 k nt⟩
  · exact T.notL (List.mem_singleton.mp q ▸ dom_mem ha)
  · by_cases q : a = L
    · obtain ⟨o', _, _, e', _⟩ := F.ns
      exact ⟨o', q ▸ e'⟩
    · exact ⟨o, k a o (fun q' => q (List.mem_singleton.mp q')) e⟩
  · rw [List.mem_singleton.mp q]; exact List.mem_cons_self ..

theorem pst_new {s : Shared} {h' : Heap} {tk : Nat} {mV : Str → Option Value} {a : Addr} {vs : Array Value} {n' : Nat} {ds : List D} (T : c.St L m S s) (n : s.heap.Ns L mV) (f : ∀ x d, Has m x d → ∃ v, mV x = some v ∧ Is s.heap d v) (F : Fr hnil L h' mV)
    (N : News hnil L h' (allN s.heap L)) (ga : h'.get? a = some (seqObj "list" vs n')) (hna : s.heap.get? a = none) (r : IsAll h' ds vs.toList) (k : K (.ref a) m ((a, .lst ds) :: S)) : Pst c Is L S s K (.ref a) { s with heap := h', toks := tk } := by
  have ad := St.adapt (tk := tk) T n f F N
  have h0 : c.h₀.get? a = none := by
    cases q : c.h₀.get? a with
    | none => rfl
    | some o => rw [T.keep a o q] at hna; cases hna
  have hns : a ∉ dom S := fun q => by
    obtain ⟨o, ho⟩ := mem_dom q
    obtain ⟨x, hx⟩ := (T.mos a o ho).stands
    rw [hx] at hna; cases hna
  have hm : MoIs h' a (.lst ds) := ⟨_, _, ga, r⟩
  refine ⟨.ref a, m, _, val_is, ad.1.lay h0 hns hm, ⟨ad.2.kp, fun b hb => ?_⟩, k⟩
  rcases List.mem_cons.mp hb with rfl | hb
  · exact .inr hna
  · exact .inl hb

/-! texts -/
theorem isAll_strs {h : Heap} : ∀ {xs : List Str} {vs : List Value}, StrsAre vs xs → IsAll h (xs.map .str) vs
  | _, _, .nil => .nil
  | _, _, .cons x t r => .cons str_is (isAll_strs r)
theorem strs_isAll {h : Heap} : ∀ {xs : List Str} {vs : List Value}, IsAll h (xs.map .str) vs → StrsAre vs xs
  | [], _, i => by rw [i.unnil]; exact .nil
  | x :: xs, _, i => by
    obtain ⟨v, r, rfl, i1, i2⟩ := i.uncons
    obtain ⟨t, rfl⟩ := is_str i1
    exact .cons x t (strs_isAll i2)
theorem wfs_strip {x : Str} (hz : x.length ≤ sizeLine) (k : K (.str (Txt.strip x)) m S) : WFs c A Is (fun vs => call (.builtin "str.strip") vs) [.str x] L m S K := fun vs s T i => by
  obtain ⟨v, r, rfl, i1, i2⟩ := i.uncons
  have := i2.unnil; subst this
  obtain ⟨t, rfl⟩ := is_str i1
  exact SC.strip (fun t' tk => pst_toks T str_is k) hz
theorem wfs_rstrip {x : Str} (hz : x.length ≤ sizeLine) (k : K (.str (Txt.rstrip x)) m S) : WFs c A Is (fun vs => call (.builtin "str.rstrip") vs) [.str x] L m S K := fun vs s T i => by
  obtain ⟨v, r, rfl, i1, i2⟩ := i.uncons
  have := i2.unnil; subst this
  obtain ⟨t, rfl⟩ := is_str i1
  exact SC.rstrip (fun t' tk => pst_toks T str_is k) hz
theorem wf_truthy_str {x : Str} {K : Bool → Loc → Sto → Prop} (hz : x.length < 2 ^ 30) (k : K (decide (x.length ≠ 0)) m S) : WF c A BIs truthy (.str x) L m S K := fun v s T i => by
  obtain ⟨t, rfl⟩ := is_str i
  refine PySem.P.truthy_str (by omega) ⟨_, m, S, ?_, T.toks _, Go.toks _, k⟩
  show ((x.length : Int) != 0) = decide (x.length ≠ 0)
  by_cases h : x.length = 0
  · simp [h]
  · simp [h]
theorem wfs_join {x : Str} {a : Addr} {xs : List Str} (h : At S a (.lst (xs.map .str))) (hx : x.length ≤ 16) (hw : (xs.map (·.length)).sum + xs.length ≤ 1048576) (k : K (.str (Txt.join x xs)) m S) :
    WFs c A Is (fun vs => call (.builtin "str.join") vs) [.str x, .ref a] L m S K := fun vs s T i => by
  obtain ⟨v, r, rfl, i1, i2⟩ := i.uncons
  obtain ⟨w, r, rfl, iw, i3⟩ := i2.uncons
  have := i3.unnil; subst this
  obtain ⟨t, rfl⟩ := is_str i1
  have := is_val iw; subst this
  obtain ⟨vs, n, g, r⟩ := T.mos a _ h.mem
  exact join_listW (isList_of g) (strs_isAll r) hx hw fun t' tk => pst_toks T str_is k
theorem wfs_split {x y : Str} (hy : (y.length == 0) = false) (hz : x.length + 2 ≤ sizeLine) (k : ∀ a, K (.ref a) m ((a, .lst ((Txt.split x y).map .str)) :: S)) : WFs c A Is (fun vs => call (.builtin "str.split") vs) [.str x, .str y] L m S K := fun vs s T i => by
  obtain ⟨v, r, rfl, i1, i2⟩ := i.uncons
  obtain ⟨w, r, rfl, iw, i3⟩ := i2.uncons
  have := i3.unnil; subst this
  obtain ⟨t, rfl⟩ := is_str i1
  obtain ⟨t', rfl⟩ := is_str iw
  obtain ⟨mV, n, f⟩ := T.fr
  refine KSpl.split1 (fr0 n) news0 hy (fun a l h' tk e hs F N hlt => ?_) hz
  have ga := (N _ (List.mem_cons_self ..)).1
  have hna : s.heap.get? a = none := by
    cases q : s.heap.get? a with
    | none => rfl
    | some o => exact absurd (hlt (a, o) (mem_allN.mpr ⟨(N _ (List.mem_cons_self ..)).2.1, q⟩)) (Nat.lt_irrefl _)
  exact pst_new T n f F (fun p hp => N p (List.mem_cons_of_mem _ hp)) ga hna (by rw [← e]; simpa using isAll_strs hs) (k a)

/-! slices, sums of lists -/
def Lst (c : Cx) (S : Sto) (a : Addr) (ds : List D) : Prop := ∀ L m s, c.St L m S s → ∃ vs, s.heap.IsList a vs ∧ IsAll s.heap ds vs.toList
theorem At.lst {a : Addr} {ds : List D} (h : At S a (.lst ds)) : Lst c S a ds := fun L m s T => by
  obtain ⟨vs, n, g, r⟩ := T.mos a _ h.mem
  exact ⟨vs, isList_of g, r⟩
theorem lst_base {a : Addr} {ds : List D} {vs : Array Value} (h : c.h₀.IsList a vs) (i : IsAll c.h₀ ds vs.toList) : Lst c S a ds := fun L m s T => by
  obtain ⟨o, ho, r⟩ := h
  exact ⟨vs, ⟨o, T.keep _ _ ho, r⟩, i.kp (Kp.all (X := []) T.keep) nilX⟩
theorem pst_slice {s₁ : Shared} {ds : List D} {w : Array Value} {vl vu : Value} (T : c.St L m S s₁) (r : IsAll s₁.heap ds w.toList) (k : ∀ b, K (.ref b) m ((b, .lst ds) :: S)) :
    Pst c Is L S s₁ K (.ref (s₁.heap.objs.size + 1)) { s₁ with heap := (s₁.heap.push { cls := .type "slice", data := .fields #[vl, vu, .none] }).push { cls := .type "list", data := .seq w } } := by
  have T₁ := T.push { cls := .type "slice", data := .fields #[vl, vu, .none] }
  have G₁ : Go L S S s₁ { s₁ with heap := s₁.heap.push { cls := .type "slice", data := .fields #[vl, vu, .none] } } := Go.push _
  have T₂ := T₁.newList (n := 0) (r.kp (Kp.push [] _ { cls := .type "slice", data := .fields #[vl, vu, .none] }) nilX)
  have G₂ := G₁.trans (Go.newList (ds := ds) (vs := w) (n := 0))
  have e : (s₁.heap.push { cls := .type "slice", data := .fields #[vl, vu, .none] }).objs.size = s₁.heap.objs.size + 1 := Heap.size_push _ _
  rw [show (({ s₁ with heap := s₁.heap.push { cls := .type "slice", data := .fields #[vl, vu, .none] } } : Shared).heap.objs.size) = s₁.heap.objs.size + 1 from e] at T₂ G₂
  exact ⟨_, m, _, val_is, T₂, G₂, k _⟩
theorem we_slice_upto {value e : Expr} {p pos : Pos}
    (h : WE c A (eval value env) L m S fun d m S => WE c A (eval e env) L m S fun e' m S => ∃ a ds, ∃ n : Nat, d = .ref a ∧ Lst c S a ds ∧ e' = .int n ∧ ds.length ≤ 2 ^ 20 ∧ ∀ b, K (.ref b) m ((b, .lst (ds.take n)) :: S))
    (ht : ∀ o r, letTemporaryGo value o r = pure () := by intro _ _; rfl) : WE c A (eval (.Subscript value (.Slice none (some e) none p) pos) env) L m S K := fun s T => by
  refine wpAny_Subscript_list_slice (wpAny_mono (h s T) (fun v s₁ ⟨d, m₁, S₁, i, T₁, G₁, k⟩ => wpAny_evalPart_none (wpAny_evalPart_some (wpAny_mono (k s₁ T₁) (fun u s₂ ⟨e', m₂, S₂, j, T₂, G₂, a, ds, n, hd, hl, he, hz, k2⟩ => ?_) fun _ _ x => x))) fun _ _ x => x) ht
  subst hd he
  have := is_val i; subst this
  obtain ⟨t, rfl⟩ := is_int j
  obtain ⟨vs, g, r⟩ := hl L m₂ s₂ T₂
  have hsz : vs.size = ds.length := by have := r.length; simpa using this
  refine ⟨a, vs, none, some n, rfl, g, by rw [hsz, sizeLine_eq]; omega, .none, .int _ _, ?_⟩
  rw [slicePick_upto']
  exact pst_go (G₁.trans G₂) (pst_slice T₂ (r.take n) k2)
theorem we_slice_from {value e : Expr} {p pos : Pos}
    (h : WE c A (eval value env) L m S fun d m S => WE c A (eval e env) L m S fun e' m S => ∃ a ds, ∃ n : Nat, d = .ref a ∧ Lst c S a ds ∧ e' = .int n ∧ ds.length ≤ 2 ^ 20 ∧ ∀ b, K (.ref b) m ((b, .lst (ds.drop n)) :: S))
    (ht : ∀ o r, letTemporaryGo value o r = pure () := by intro _ _; rfl) : WE c A (eval (.Subscript value (.Slice (some e) none none p) pos) env) L m S K := fun s T => by
  refine wpAny_Subscript_list_slice (wpAny_mono (h s T) (fun v s₁ ⟨d, m₁, S₁, i, T₁, G₁, k⟩ => wpAny_evalPart_some (wpAny_mono (k s₁ T₁) (fun u s₂ ⟨e', m₂, S₂, j, T₂, G₂, a, ds, n, hd, hl, he, hz, k2⟩ => wpAny_evalPart_none ?_) fun _ _ x => x)) fun _ _ x => x) ht
  subst hd he
  have := is_val i; subst this
  obtain ⟨t, rfl⟩ := is_int j
  obtain ⟨vs, g, r⟩ := hl L m₂ s₂ T₂
  have hsz : vs.size = ds.length := by have := r.length; simpa using this
  refine ⟨a, vs, some n, none, rfl, g, by rw [hsz, sizeLine_eq]; omega, .int _ _, .none, ?_⟩
  rw [slicePick_from']
  exact pst_go (G₁.trans G₂) (pst_slice T₂ (r.drop n) k2)
theorem wf2_add_list {a b : Addr} {ds es : List D} (h1 : Lst c S a ds) (h2 : Lst c S b es) (hz : ds.length + es.length ≤ 2 ^ 20) (k : ∀ l, K (.ref l) m ((l, .lst (ds ++ es)) :: S)) : WF2 c A Is (binaryOp .Add) (.ref a) (.ref b) L m S K := fun v u s T i j => by
  have := is_val i; subst this
  have := is_val j; subst this
  obtain ⟨vs, g, r⟩ := h1 L m s T
  obtain ⟨us, g', r'⟩ := h2 L m s T
  obtain ⟨mV, n, f⟩ := T.fr
  have e1 : vs.size = ds.length := by have := r.length; simpa using this
  have e2 : us.size = es.length := by have := r'.length; simpa using this
  refine add_arrays (fr0 n) news0 g g' (fun h' F N => ?_) (by rw [e1, e2, sizeLine_eq]; omega)
  have N' : News hnil L h' (allN s.heap L) := fun p hp => N p (List.mem_cons_of_mem _ hp)
  have k' : ∀ a o, a ∉ [L] → s.heap.get? a = some o → h'.get? a = some o := fun a o hn e => (N' (a, o) (mem_allN.mpr ⟨fun q => hn (q ▸ List.mem_cons_self ..), e⟩)).1
  have nt : ∀ a, a ∈ [L] → NotTup s.heap a := fun a ha => List.mem_singleton.mp ha ▸ notTup_ns n
  exact pst_new (tk := s.toks) T n f F N' (N _ (List.mem_cons_self ..)).1 (none_size _) (by simpa using (r.append r').kp2 k' nt) (k _)
end

end Mine

namespace Mine

def nl : Str := Str.ofString "\n"
/-- what splitdoc gives -/
def sd (x : Str) : Str × Str :=
  match Txt.split (Txt.strip x) nl with
  | [] => (Str.ofString "", Str.ofString "")
  | [w] => (w, Str.ofString "")
  | w :: v :: r => if (Txt.rstrip v).length = 0 then (w, Txt.join nl r) else (Str.ofString "", Txt.join nl (w :: v :: r))

section
variable {c : Cx} {A : Around} {env : Env} {L : Addr} {m : Loc} {S : Sto} {mg mb : Str → Option Value}
variable {K : D → Loc → Sto → Prop}

local macro_rules | `(tactic| kd_mem) => `(tactic| first | with_reducible exact Has.here | ((with_reducible refine' Has.here' ?hd); (case hd => first | rfl | (congr 1; omega))) | (refine' Has.there ?hne ?hh; (case hne => decide +kernel); (case hh => kd_mem)))
local macro_rules | `(tactic| kd_subs) => `(tactic| repeat (first | exact Sub.nil | refine Sub.cons (by kd_mem) ?_))

theorem wfs_drop {S' : Sto} {f : List Value → Sem Value} {ds : List D} (h : WFs c A Is f ds L m S fun d m' S' => S.Sublist S' ∧ K d m' S) : WFs c A Is f ds L m S K := fun vs s T i =>
  wpAny_mono (h vs s T i) (fun v s' ⟨d, m', S', j, T', G, hs, k⟩ => ⟨d, m', S, j, T'.drop hs, G.drop hs, k⟩) fun _ _ x => x
theorem eqv_nl : (nl.length == 0) = false := by decide +kernel
theorem len_nl : nl.length = 1 := by decide +kernel

set_option maxRecDepth 100000 in
set_option maxHeartbeats 4000000 in
/-- splitdoc(doc) -/
theorem splitdoc {fa : Addr} {pm cd doc : Value} {x : Str} (G : Glo c mg mb) (len0 : mg "len" = none) (len : mb "len" = some (.builtin "len")) (Fa : Fn c fa (fdOf (stN 7) pm cd doc)) (R : Room 2 A) (hz : x.length ≤ 100000)
    (k : K (.tup [.str (sd x).1, .str (sd x).2]) m S) : WFs c A Is (fun vs => call (.ref fa) vs) [.str x] L m S K := by
  refine wfs_drop (S' := S) ?_
  refine wfs_def (ps := ["doc"]) (body := bodyOf (stN 7)) (m₀ := [("doc", .str x)]) G Fa R.deep rfl rfl (fun vs hv => ?_) (by decide +kernel)
    (by show ∀ x ∈ (fdOf (stN 7) .none .none .none).scope.names, x.2 ≠ .cell; decide +kernel) (by show ∀ x ∈ (["doc"] : List Str), (fdOf (stN 7) .none .none .none).scope.names.lookup x = some .local; decide +kernel) rfl fun L' => ?_
  · match vs, hv with
    | [v1], _ => rfl
  · have hzs : (Txt.strip x).length ≤ 100000 := Nat.le_trans (len_strip x) hz
    have hpos := split_pos (Txt.strip x) nl
    have hwt := split_weight (Txt.strip x) nl (by rw [len_nl]; exact Nat.le_refl _)
    have hsh : ∀ y ∈ Txt.split (Txt.strip x) nl, y.length ≤ 100000 := fun y hy => Nat.le_trans (part_short hy) hzs
    have hle := split_le (Txt.strip x) nl
    show WX c _ (execs [_, _, _] _) _ _ _ _
    refine wx_cons (wx_assign (we_meth PySem.F.plainAttrs_str PySem.F.slot_str_split PySem.F.type_str_split (we_meth PySem.F.plainAttrs_str PySem.F.slot_str_strip PySem.F.type_str_strip
      (we_name (by kd_mem) ⟨own_str, ws_nil (wfs_strip (by rw [sizeLine_eq]; omega) ⟨own_str, ws_cons (we_str (ws_nil (wfs_split eqv_nl (by rw [sizeLine_eq]; omega) fun a => ?_)))⟩)⟩))))
    change WX c _ _ _ ((_, _) :: _) ((a, .lst ((Txt.split (Txt.strip x) nl).map .str)) :: S) _
    have hl : At ((a, .lst ((Txt.split (Txt.strip x) nl).map .str)) :: S) a (.lst ((Txt.split (Txt.strip x) nl).map .str)) := .here
    generalize hls : Txt.split (Txt.strip x) nl = ls at *
    have hll : (ls.map D.str).length < 2 ^ 60 := by simp; omega
    refine wx_cons (wx_if (wb_cmp (we_call_b (we_builtin G len0 len ⟨rfl, ws_cons (we_name (by kd_mem) (ws_nil (wfs_len hl hll (we_int (wf2_eq_int ⟨_, rfl, ?_⟩)))))⟩))))
    match ls, hls with
    | [], _ => simp at hpos
    | [w], hls =>
      rw [if_pos (by simp)]
      refine wx_cons (wx_ret (we_tuple (ws_cons (we_sub (we_name (by kd_mem) (we_int (wf2_item (d := .str w) hl (by decide) (by decide) rfl (ws_cons (we_str (ws_nil ⟨Nat.le_of_ble_eq_true rfl, ?_⟩))))))))))
      refine ⟨List.sublist_cons_self _ _, ?_⟩
      have e : sd x = (w, Str.ofString "") := by unfold sd; rw [hls]
      rw [e] at k; exact k
    | w :: v :: r, hls =>
      rw [if_neg (by simp; omega)]
      have hlv : At ((a, .lst ((w :: v :: r).map .str)) :: S) a (.lst ((w :: v :: r).map .str)) := .here
      have hv : v.length ≤ 100000 := hsh v (by simp)
      refine wx_cons (wx_if (wb_and2 (wb_cmp (we_call_b (we_builtin G len0 len ⟨rfl, ws_cons (we_name (by kd_mem) (ws_nil (wfs_len hlv hll (we_int (wf2_ge_int ⟨_, rfl, ?_⟩)))))⟩)))))
      rw [if_pos (by simp; omega)]
      refine wb_not (wb_val (we_meth PySem.F.plainAttrs_str PySem.F.slot_str_rstrip PySem.F.type_str_rstrip (we_sub (we_name (by kd_mem) (we_int (wf2_item (d := .str v) hlv (by decide) (by decide) rfl
        ⟨own_str, ws_nil (wfs_rstrip (by rw [sizeLine_eq]; omega) (wf_truthy_str (by have := len_rstrip v; omega) ?_))⟩))))))
      have hsum : (((w :: v :: r)).map (·.length)).sum + (w :: v :: r).length ≤ 1048576 := by omega
      by_cases h0 : (Txt.rstrip v).length = 0
      · rw [if_pos (by simp [h0])]
        have e : sd x = (w, Txt.join nl r) := by unfold sd; rw [hls]; simp only [h0, if_true]
        rw [e] at k
        refine wx_cons (wx_ret (we_tuple (ws_cons (we_sub (we_name (by kd_mem) (we_int (wf2_item (d := .str w) hlv (by decide) (by decide) rfl
          (ws_cons (we_meth PySem.F.plainAttrs_str PySem.F.slot_str_join PySem.F.type_str_join (we_str ⟨own_str, ws_cons (we_slice_from (we_name (by kd_mem) (we_int ⟨a, (w :: v :: r).map .str, 2, rfl, hlv.lst, rfl, by simp at hle ⊢; omega, fun b => ?_⟩)))⟩)))))))))) 
        refine ws_nil (wfs_join (xs := r) .here (by rw [show (Str.ofString "\n").length = 1 from by decide +kernel]; decide) (by simp at hsum; omega) (ws_nil ⟨Nat.le_of_ble_eq_true rfl, ?_⟩))
        exact ⟨(List.sublist_cons_self _ _).trans (List.sublist_cons_self _ _), k⟩
      · rw [if_neg (by simp [h0])]
        have e : sd x = (Str.ofString "", Txt.join nl (w :: v :: r)) := by unfold sd; rw [hls]; simp only [h0, if_false]
        rw [e] at k
        refine wx_nil (wx_nil (wx_cons (wx_ret (we_tuple (ws_cons (we_str (ws_cons (we_meth PySem.F.plainAttrs_str PySem.F.slot_str_join PySem.F.type_str_join (we_str ⟨own_str, ws_cons (we_name (by kd_mem)
          (ws_nil (wfs_join (xs := w :: v :: r) .here (by rw [show (Str.ofString "\n").length = 1 from by decide +kernel]; decide) hsum (ws_nil ⟨Nat.le_of_ble_eq_true rfl, ?_⟩))))⟩)))))))))
        exact ⟨List.sublist_cons_self _ _, k⟩
end

end Mine

namespace Mine

section
variable {c : Cx} {A : Around} {env : Env} {L : Addr} {m : Loc} {S : Sto} {mg mb : Str → Option Value}

/-! several targets -/
def WA (c : Cx) (A : Around) (ts : List (Value → Sem Unit)) (ds : List D) (L : Addr) (m : Loc) (S : Sto) (K : Unit → Loc → Sto → Prop) : Prop :=
  ∀ vs s, c.St L m S s → IsAll s.heap ds vs → wpAny c.M A (assignInOrder ts vs) (Pst c UIs L S s K) No s
theorem wa_nil {K : Unit → Loc → Sto → Prop} (k : K () m S) : WA c A [] [] L m S K := fun vs s T i => by
  rw [i.unnil]; exact wpAny_assignInOrder_none ⟨(), m, S, trivial, T, Go.refl, k⟩
theorem wa_name {K : Unit → Loc → Sto → Prop} {x : Str} {p : Pos} {ts : List (Value → Sem Unit)} {d : D} {ds : List D} (h : WA c A ts ds L ((x, d) :: m) S K)
    (hL : env.locals = L := by rfl) (hl : env.kindOf x = some .local := by rfl) (hp : (env.scope.kind == .class || (env.scope.kind == .module && env.locals != env.globals)) = false := by rfl) : WA c A (assign (.Name x p) env :: ts) (d :: ds) L m S K := fun vs s T i => by
  obtain ⟨v, r, rfl, i1, i2⟩ := i.uncons
  refine wpAny_assignInOrder_more (wpAny_assign_Name (wpAny_mono (wu_store (K := fun _ m' S' => m' = (x, d) :: m ∧ S' = S) ⟨rfl, rfl⟩ hL hl hp v s T i1) (fun _ s₁ ⟨_, m₁, S₁, _, T₁, G₁, e1, e2⟩ => ?_) fun _ _ x => x))
  subst e1 e2
  exact wpAny_mono (h r s₁ T₁ (G₁.isAll T i2)) (fun _ _ p => pst_go G₁ p) fun _ _ x => x
theorem wu_tuple {K : Unit → Loc → Sto → Prop} {elts : List Expr} {k : Nat} {pos : Pos} {ds : List D} (hh : A.handled = none) (h : WA c A ((assignEach elts env).map (·.2)) ds L m S K)
    (hn : (assignEach elts env).length = ds.length := by rfl) (hstar : (assignEach elts env).findIdx? (·.1) = none := by rfl) : WF c A UIs (assign (.Tuple elts k pos) env) (.tup ds) L m S K := fun v s T i => by
  obtain ⟨a, vs, n, rfl, g, r⟩ := is_tup i
  have e : vs.size = ds.length := by have := r.length; simpa using this
  refine wpAny_assign_Tuple hh (isTup_of g) (by rw [hn, e]) hstar fun h' hs => ?_
  have k : ∀ b o, s.heap.get? b = some o → h'.get? b = some o := fun b o e => hs b o (Nat.ne_of_lt (Heap.lt_size e)) e
  have T₁ : c.St L m S { s with heap := h' } := T.still k rfl rfl
  have G₁ : Go L S S s { s with heap := h' } := Go.still k
  exact wpAny_mono (h _ _ T₁ (r.kp (Kp.all (X := []) k) nilX)) (fun _ _ p => pst_go G₁ p) fun _ _ x => x
/-- a, b = e -/
theorem wx_assign_tuple {K : Fl → Loc → Sto → Prop} {elts : List Expr} {k : Nat} {tpos pos : Pos} {value : Expr} (h : WE c A (eval value env) L m S fun d m S => WF c A UIs (assign (.Tuple elts k tpos) env) d L m S fun _ m S => K .nxt m S)
    (hs : swapsWithSole [.Tuple elts k tpos] value pos.line env = pure false := by rfl) (hw : swappedStores [.Tuple elts k tpos] value env = pure none := by rfl) : WX c A (exec (.Assign [.Tuple elts k tpos] value pos) env) L m S K := fun s T =>
  PyProof.Rows.Assign_Tuple (wpAny_mono (h s T) (fun v s₁ ⟨d, m₁, S₁, i, T₁, G₁, k⟩ => wpAny_mono (wf_go k T₁ G₁ i) (fun _ s₂ ⟨_, m₂, S₂, _, T₂, G₂, k₂⟩ => ⟨.nxt, m₂, S₂, rfl, T₂, G₂, k₂⟩) fun _ _ x => x) fun _ _ x => x) hs hw

/-! comprehensions -/
/-- what is gone through: n items, d i the i-th -/
inductive Src (S : Sto) : D → Nat → (Nat → D) → Prop where
  | range {n : Nat} : n < 2 ^ 30 → Src S (.rng n) n (fun i => .int i)
  | list {a : Addr} {ds : List D} : At S a (.lst ds) → Src S (.ref a) ds.length (fun i => ds.getD i .non)

/-- one turn: the targets, the test, the element -/
def CTurn (c : Cx) (A : Around) (cenv : Env) (C : Addr) (target : Expr) (ifs : List Expr) (elt : Expr) (d : D) (S₀ : Sto) (out : List D) (P : List D → Prop) : Prop :=
  WF c A UIs (assign target cenv) d C [] S₀ fun _ m S => match ifs with
    | [] => WE c A (eval elt cenv) C m S fun e m S => S₀.Sublist S ∧ P (out ++ [e])
    | [t] => WB c A (isTrue t cenv (eval t cenv)) C m S fun b m S => if b = true then WE c A (eval elt cenv) C m S (fun e m S => S₀.Sublist S ∧ P (out ++ [e])) else S₀.Sublist S ∧ P out
    | _ => False

theorem up_head {a : Addr} {o o' : Mo} : Up ((a, o) :: S) a o o' ((a, o') :: S) := .here
theorem St.appendHead {s : Shared} {a : Addr} {out : List D} {e : D} {S' : Sto} {C : Addr} {m' : Loc} (T : c.St C m' S' s) (hs : ((a, .lst out) :: S).Sublist S') : c.St C [] ((a, .lst out) :: S) s := (T.drop hs).less (fun _ _ h => nomatch h)

theorem St.leave2 {s s₂ : Shared} {C : Addr} {m' : Loc} {S' : Sto} (T : c.St L m S s) (hC : s.heap.get? C = none) (T₂ : c.St C m' S' s₂) (G : Go C S S' s s₂) : c.St L m S' s₂ ∧ Go L S S' s s₂ := by
  have hne : ∀ a o, s.heap.get? a = some o → a ≠ C := fun a o e q => by rw [q, hC] at e; cases e
  have kp : Kp (dom S) s.heap s₂.heap := ⟨G.kp.1, fun a o n e => G.kp.2 a o (fun q => by
    rcases List.mem_cons.mp q with q | q
    · exact hne a o e q
    · exact n q) e⟩
  have nt : ∀ a, a ∈ dom S → NotTup s.heap a := fun a ha => T.notTup a (List.mem_cons.mpr (.inr ha))
  obtain ⟨mV, ⟨o, es, ep, g, r⟩, f⟩ := T.fr
  refine ⟨⟨T₂.keep, ⟨mV, ⟨o, es, ep, kp.2 L o T.notL g, r⟩, fun x d hx => ?_⟩, T.freshL, T₂.mos, T₂.freshS, T₂.nodup, T₂.gens, T₂.os⟩, ⟨kp.mono fun a ha => List.mem_cons.mpr (.inr ha), G.new⟩⟩
  obtain ⟨v, e, i⟩ := f x d hx
  exact ⟨v, e, i.kp kp nt⟩

theorem code_comp {elt target iter : Expr} {ifs : List Expr} {scope : Scope} {pos : Pos} {cenv : Env} {I acc C : Addr} {n : Nat} {d : Nat → D} {P : Nat → Heap → Prop} {Q : Sto → Prop} {S₀ : Sto} {s₀ s : Shared} {R : Result → Shared → Prop}
    (it : Iter c A I n d P Q) (outs : Nat → List D) (hif : ifs = [] ∨ ∃ t, ifs = [t]) (hQ : ∀ out, Q ((acc, .lst out) :: S)) (hz : n < 2 ^ 19) (h0 : outs 0 = [])
    (turn : ∀ i, i < n → CTurn c A cenv C target ifs elt (d i) ((acc, .lst (outs i)) :: S) (outs i) fun o => outs (i + 1) = o)
    (T : c.St C [] ((acc, .lst (outs 0)) :: S) s) (G : Go C S₀ ((acc, .lst (outs 0)) :: S) s₀ s) (hI : s₀.heap.get? I = none) (hP : P 0 s.heap) (ne : I ≠ C) (out : I ∉ dom ((acc, .lst (outs 0)) :: S)) (fresh : c.h₀.get? I = none)
    (fin : ∀ s', c.St C [] ((acc, .lst (outs n)) :: S) s' → Go C S₀ ((acc, .lst (outs n)) :: S) s₀ s' → R (.ok .next) s') :
    codeAny c.M A (.compLoop (.ListComp elt [⟨target, iter, ifs, 0⟩] scope pos) 0 (.ref I) (.ref acc) cenv) R s := by
  -- one more item at the end
  have app : ∀ i s₁ m' S' e v, i < n → (outs i).length ≤ i → ((acc, Mo.lst (outs i)) :: S).Sublist S' → c.St C m' S' s₁ → Is s₁.heap e v →
      ∀ R' : Value → Shared → Prop, (∀ s₂, c.St C [] ((acc, .lst (outs i ++ [e])) :: S) s₂ → Go C ((acc, .lst (outs i)) :: S) ((acc, .lst (outs i ++ [e])) :: S) s₁ s₂ → R' .none s₂) → wpAny c.M A (call (.builtin "list.append") [.ref acc, v]) R' No s₁ := by
    intro i s₁ m' S' e v hi hlen hs T₁ iv R' hR
    have T₂ : c.St C [] ((acc, .lst (outs i)) :: S) s₁ := (T₁.drop hs).less (fun _ _ h => nomatch h)
    refine wpAny_mono (wfs_append (K := fun d m' S' => d = .non ∧ m' = [] ∧ S' = (acc, .lst (outs i ++ [e])) :: S) (d := e) up_head (by omega) ⟨rfl, rfl, rfl⟩ [.ref acc, v] s₁ T₂ (.cons val_is (.cons iv .nil))) (fun w s₂ ⟨d, m₂, S₂, j, T₃, G₃, e1, e2, e3⟩ => ?_) fun _ _ x => x
    subst e1 e2 e3
    have := is_val j; subst this
    exact hR s₂ T₃ G₃
  -- behind an item
  have back : ∀ i s₁ s₂ out', i < n → c.St C [] ((acc, .lst (outs i)) :: S) s₁ → Go C S₀ ((acc, .lst (outs i)) :: S) s₀ s₁ → P (i + 1) s₁.heap → I ∉ dom ((acc, Mo.lst (outs i)) :: S) → outs (i + 1) = out' → c.St C [] ((acc, .lst out') :: S) s₂ → Go C ((acc, .lst (outs i)) :: S) ((acc, .lst out') :: S) s₁ s₂ →
      c.St C [] ((acc, .lst (outs (i + 1))) :: S) s₂ ∧ Go C S₀ ((acc, .lst (outs (i + 1))) :: S) s₀ s₂ ∧ P (i + 1) s₂.heap := by
    intro i s₁ s₂ out' hi T₁ G₁ hP' ho e T₂ G₂
    subst e
    exact ⟨T₂, G₁.trans G₂, it.stab _ _ _ hP' fun o e => G₂.kp.2 I o (fun q => by
      rcases List.mem_cons.mp q with q | q
      · exact ne q
      · exact ho q) e⟩
  have inv : ∀ i, i < n → ∀ s₁, (outs i).length ≤ i → c.St C [] ((acc, .lst (outs i)) :: S) s₁ → Go C S₀ ((acc, .lst (outs i)) :: S) s₀ s₁ → P i s₁.heap → ∀ R' : Option Value → Shared → Prop,
      (∀ v s₂, c.St C [] ((acc, .lst (outs i)) :: S) s₂ → Go C S₀ ((acc, .lst (outs i)) :: S) s₀ s₂ → P (i + 1) s₂.heap → Is s₂.heap (d i) v → R' (some v) s₂) → wpAny c.M A (pyNext (.ref I)) R' No s₁ := by
    intro i hi s₁ hlen T₁ G₁ hP₁ R' hR
    have ap : Apart c I C ((acc, .lst (outs i)) :: S) s₁.heap := ⟨ne, out, fresh, it.nt i _ hP₁⟩
    refine it.next i C [] _ s₁ hi T₁ (hQ _) hP₁ _ fun h' tk v hP' hs iv => ?_
    have keep : ∀ b o, b ≠ I → s₁.heap.get? b = some o → h'.get? b = some o := fun b o hb e => (hs.2 b hb).trans e
    exact hR v _ (St.other T₁ ap keep) (G₁.other hI keep) hP' (iv.kp2 (X := [I]) (fun b o n e => keep b o (fun q => n (q ▸ List.mem_cons_self ..)) e) fun a ha => List.mem_singleton.mp ha ▸ ap.nt)
  have last : ∀ s₁, c.St C [] ((acc, .lst (outs n)) :: S) s₁ → Go C S₀ ((acc, .lst (outs n)) :: S) s₀ s₁ → P n s₁.heap → ∀ R' : Option Value → Shared → Prop, (∀ s₂, R (.ok .next) s₂ → R' none s₂) → wpAny c.M A (pyNext (.ref I)) R' No s₁ := by
    intro s₁ T₁ G₁ hP₁ R' hR
    have ap : Apart c I C ((acc, .lst (outs n)) :: S) s₁.heap := ⟨ne, out, fresh, it.nt n _ hP₁⟩
    refine it.fin C [] _ s₁ T₁ (hQ _) hP₁ _ fun h' hs => hR _ ?_
    have keep : ∀ b o, b ≠ I → s₁.heap.get? b = some o → h'.get? b = some o := fun b o hb e => hs b o hb e
    exact fin _ (St.other (tk := s₁.toks) T₁ ap keep) (G₁.other (tk := s₁.toks) hI keep)
  let J : Nat → Shared → Prop := fun k s' => ∃ i, k = n - i ∧ i ≤ n ∧ (outs i).length ≤ i ∧ c.St C [] ((acc, .lst (outs i)) :: S) s' ∧ Go C S₀ ((acc, .lst (outs i)) :: S) s₀ s' ∧ P i s'.heap
  have start : J n s := ⟨0, rfl, Nat.zero_le _, by rw [h0]; exact Nat.le_refl _, T, G, hP⟩
  rcases hif with rfl | ⟨t, rfl⟩
  · refine kcp_loop J ?_ n start
    rintro k s₁ ⟨i, rfl, hi, hlen, T₁, G₁, hP₁⟩
    rcases Nat.lt_or_ge i n with hlt | hge
    · refine no_elim (inv i hlt s₁ hlen T₁ G₁ hP₁ _ fun v s₂ T₂ G₂ hP₂ iv => ?_)
      refine no_elim (it.own (i + 1) s₂ target v hP₂ _ ?_)
      refine no_elim (wpAny_mono (turn i hlt v s₂ T₂ iv) (fun _ s₃ ⟨_, m₃, S₃, _, T₃, G₃, k⟩ => ?_) fun _ _ x => x)
      refine no_elim (wpAny_mono (k s₃ T₃) (fun e s₄ ⟨de, m₄, S₄, ie, T₄, G₄, hs, ho⟩ => ?_) fun _ _ x => x)
      refine no_elim (app i s₄ m₄ S₄ de e hlt hlen hs T₄ ie _ fun s₅ T₅ G₅ => ?_)
      have b := back i s₂ s₅ _ hlt T₂ G₂ hP₂ out ho T₅ (((G₃.trans G₄).drop hs).trans G₅)
      exact ⟨n - (i + 1), by omega, i + 1, rfl, hlt, by rw [ho]; simp; omega, b.1, b.2.1, b.2.2⟩
    · obtain rfl : i = n := Nat.le_antisymm hi hge
      exact no_elim (last s₁ T₁ G₁ hP₁ _ fun s₂ h => h)
  · refine kct_loop J ?_ n start
    rintro k s₁ ⟨i, rfl, hi, hlen, T₁, G₁, hP₁⟩
    rcases Nat.lt_or_ge i n with hlt | hge
    · refine no_elim (inv i hlt s₁ hlen T₁ G₁ hP₁ _ fun v s₂ T₂ G₂ hP₂ iv => ?_)
      refine no_elim (it.own (i + 1) s₂ target v hP₂ _ ?_)
      refine no_elim (wpAny_mono (turn i hlt v s₂ T₂ iv) (fun _ s₃ ⟨_, m₃, S₃, _, T₃, G₃, k⟩ => ?_) fun _ _ x => x)
      refine no_elim (wpAny_mono (k s₃ T₃) (fun ok s₄ ⟨b, m₄, S₄, ib, T₄, G₄, hb⟩ => ?_) fun _ _ x => x)
      cases (ib : ok = b)
      cases ok with
      | true =>
        rw [if_pos rfl] at hb ⊢
        refine no_elim (wpAny_mono (hb s₄ T₄) (fun e s₅ ⟨de, m₅, S₅, ie, T₅, G₅, hs, ho⟩ => ?_) fun _ _ x => x)
        refine no_elim (app i s₅ m₅ S₅ de e hlt hlen hs T₅ ie _ fun s₆ T₆ G₆ => ?_)
        have b := back i s₂ s₆ _ hlt T₂ G₂ hP₂ out ho T₆ ((((G₃.trans G₄).trans G₅).drop hs).trans G₆)
        exact ⟨n - (i + 1), by omega, i + 1, rfl, hlt, by rw [ho]; simp; omega, b.1, b.2.1, b.2.2⟩
      | false =>
        rw [if_neg (by decide)] at hb ⊢
        obtain ⟨hs, ho⟩ := hb
        have b := back i s₂ s₄ _ hlt T₂ G₂ hP₂ out ho ((T₄.drop hs).less (fun _ _ h => nomatch h)) ((G₃.trans G₄).drop hs)
        exact ⟨n - (i + 1), by omega, i + 1, rfl, hlt, by rw [ho]; omega, b.1, b.2.1, b.2.2⟩
    · obtain rfl : i = n := Nat.le_antisymm hi hge
      exact no_elim (last s₁ T₁ G₁ hP₁ _ fun s₂ h => h)

theorem src_iter {d : D} {n : Nat} {dd : Nat → D} {v : Value} {s : Shared} {R : Value → Shared → Prop} (hh : A.handled = none) (src : Src S d n dd) (T : c.St L m S s) (i : Is s.heap d v)
    (h : ∀ (o : Obj) (P : Nat → Heap → Prop) (Q : Sto → Prop), Iter c A s.heap.objs.size n dd P Q → (∀ p, Q (p :: S)) → P 0 (s.heap.push o) → R (.ref s.heap.objs.size) { s with heap := s.heap.push o }) : wpAny c.M A (pyIter v) R No s := by
  cases src with
  | range hn =>
    rw [Is] at i
    obtain ⟨a, t, u, w, rfl, hr⟩ := i
    have hsize : Builtin.Range.rangeSize 0 n 1 = n := by
      unfold Builtin.Range.rangeSize
      rw [if_pos (by decide)]
      split
      · rw [Int.ediv_one]; omega
      · omega
    refine wpAny_pyIter_range hr (small_one (by omega) (by omega) (by omega) (by omega)) ?_
    rw [hsize]
    have it := iter_range (c := c) (A := A) (I := s.heap.objs.size) (n := n) (x := 0) (step := 1) hh
    have e : (fun i : Nat => D.int (0 + (i : Int) * 1)) = fun i => .int i := by funext i; congr 1; omega
    rw [e] at it
    refine h _ _ _ it (fun _ => trivial) ?_
    have := Heap.get?_push_size s.heap (o := { cls := .type "range_iterator", data := .fields #[rawInt 0, rawInt n, rawInt 1] }) rfl
    simpa [IsRangeIter] using this
  | @list a ds hl =>
    have := is_val i; subst this
    obtain ⟨vs, n, g, r⟩ := T.mos a _ hl.mem
    exact wpAny_pyIter_list (isList_of g) (h _ _ _ (iter_list hh) (fun _ => .there hl) ⟨_, Heap.get?_push_size _ rfl, rfl, rfl⟩)

variable {K : D → Loc → Sto → Prop}

theorem comp_tail {elt target iter : Expr} {ifs : List Expr} {scope : Scope} {cl : List (Str × Addr)} {pos : Pos} {s s₃ : Shared} {acc I C : Addr} {h' : Heap} {tk : Nat} {mC : Str → Option Value} {n : Nat} {dd : Nat → D} {P : Nat → Heap → Prop} {Q : Sto → Prop}
    {R : Result → Shared → Prop} (hif : ifs = [] ∨ ∃ t, ifs = [t]) (hn : n < 2 ^ 19) (outs : Nat → List D) (h0 : outs 0 = [])
    (turn : ∀ acc C i, i < n → CTurn c A (compEnvC scope cl C env) C target ifs elt (dd i) ((acc, .lst (outs i)) :: S) (outs i) fun o => outs (i + 1) = o)
    (T : c.St L m S s) (it : Iter c A I n dd P Q) (hQ : ∀ p, Q (p :: S)) (T₃ : c.St L m ((acc, .lst []) :: S) s₃) (k₃ : ∀ a o, s.heap.get? a = some o → s₃.heap.get? a = some o) (hacc : s.heap.get? acc = none) (hI : s.heap.get? I = none) (hP : P 0 s₃.heap) (hIa : I ≠ acc)
    (hC : s₃.heap.get? C = none) (n' : h'.Ns C mC) (keep : ∀ a o, s₃.heap.get? a = some o → h'.get? a = some o)
    (fin : ∀ s', c.St C [] ((acc, .lst (outs n)) :: S) s' → c.St L m ((acc, .lst (outs n)) :: S) s' → Go L S ((acc, .lst (outs n)) :: S) s s' → R (.ok .next) s') :
    codeAny c.M A (.compStart (.ListComp elt [⟨target, iter, ifs, 0⟩] scope pos) 0 (.ref I) (.ref acc) (compEnvC scope cl C env)) R { s₃ with heap := h', toks := tk } := by
  have hCs : s.heap.get? C = none := by
    cases e : s.heap.get? C with
    | none => rfl
    | some o => rw [k₃ _ _ e] at hC; cases hC
  have hC0 : c.h₀.get? C = none := by
    cases e : c.h₀.get? C with
    | none => rfl
    | some o => rw [T.keep _ _ e] at hCs; cases hCs
  have hI0 : c.h₀.get? I = none := by
    cases e : c.h₀.get? I with
    | none => rfl
    | some o => rw [T.keep _ _ e] at hI; cases hI
  obtain ⟨oI, hoI⟩ := it.stands _ _ hP
  have hIC : I ≠ C := fun q => by rw [q, hC] at hoI; cases hoI
  have hIout : I ∉ dom ((acc, Mo.lst []) :: S) := fun q => by
    rcases List.mem_cons.mp q with q | q
    · exact hIa q
    · have := T.ltS q
      obtain ⟨o, ho⟩ := mem_dom q
      obtain ⟨x, hx⟩ := (T.mos I o ho).stands
      rw [hx] at hI; cases hI
  have kp : Kp [] s₃.heap h' := Kp.all keep
  have T₄ : c.St C [] ((acc, .lst (outs 0)) :: S) { s₃ with heap := h', toks := tk } := by
    rw [h0]
    exact ⟨fun a o e => keep a o (T₃.keep a o e), ⟨mC, n', fun _ _ h => nomatch h⟩, hC0, fun a o ha => (T₃.mos a o ha).kp kp nilX nilN, T₃.freshS, T₃.nodup, T₃.gens, T₃.os⟩
  have G₄ : Go C S ((acc, .lst (outs 0)) :: S) s { s₃ with heap := h', toks := tk } := by
    rw [h0]
    refine ⟨Kp.all fun a o e => keep a o (k₃ a o e), fun a ha => ?_⟩
    rcases List.mem_cons.mp ha with q | q
    · exact .inr (q ▸ hacc)
    · exact .inl q
  have hP4 : P 0 h' := it.stab _ _ _ hP fun o e => keep I o e
  have body : codeAny c.M A (.compLoop (.ListComp elt [⟨target, iter, ifs, 0⟩] scope pos) 0 (.ref I) (.ref acc) (compEnvC scope cl C env)) R { s₃ with heap := h', toks := tk } :=
    code_comp it outs hif (fun _ => hQ _) hn h0 (fun i hi => turn acc C i hi) T₄ G₄ hI hP4 hIC hIout hI0 fun s' T' G' => by
      have b := St.leave2 T hCs T' G'
      exact fin s' T' b.1 b.2
  exact codeAny_compStart_list body (no_elim (it.self 0 _ hP4 _ body))

/-- the part that both forms share -/
theorem comp_body {elt target iter : Expr} {ifs : List Expr} {scope : Scope} {cl : List (Str × Addr)} {pos : Pos} {v : Value} {s : Shared} {d : D} {n : Nat} {dd : Nat → D} {RR : Value → Addr → Result → Shared → Prop} (hh : A.handled = none)
    (hcell : ∀ x ∈ scope.names, x.2 ≠ .cell) (hkind : scope.kind = .function) (hif : ifs = [] ∨ ∃ t, ifs = [t]) (src : Src S d n dd) (hn : n < 2 ^ 19) (outs : Nat → List D) (h0 : outs 0 = [])
    (turn : ∀ acc C i, i < n → CTurn c A (compEnvC scope cl C env) C target ifs elt (dd i) ((acc, .lst (outs i)) :: S) (outs i) fun o => outs (i + 1) = o) (T : c.St L m S s) (iv : Is s.heap d v)
    (fin : ∀ acc C s', s.heap.get? C = none → c.St C [] ((acc, .lst (outs n)) :: S) s' → c.St L m ((acc, .lst (outs n)) :: S) s' → Go L S ((acc, .lst (outs n)) :: S) s s' → RR (.ref acc) C (.ok .next) s') :
    wpAny c.M A (pyIter v) (fun it s₂ => wpAny c.M A (newList []) (fun acc s₃ => wpAny c.M A (newFunctionEnv scope env.globals cl [] env.qual none .none (some env)) (fun cenv s₄ =>
        codeAny c.M A (.compStart (.ListComp elt [⟨target, iter, ifs, 0⟩] scope pos) 0 it acc { cenv with scope := relabel scope env }) (RR acc cenv.locals) s₄) No s₃) No s₂) No s := by
  refine src_iter hh src T iv fun o P Q it hQ hP => ?_
  have T₁ := T.push o
  refine wpAny_newList ?_ (Nat.zero_le _)
  have T₂ := T₁.newList (ds := []) (vs := #[]) (n := 0) IsAll.nil
  refine wpAny_newFunctionEnv hcell (fun _ q => nomatch q) (fun h' n' hs => ?_) hkind
  have k₃ : ∀ a x, s.heap.get? a = some x → ((s.heap.push o).push (seqObj "list" #[] 0)).get? a = some x := fun a x e => Heap.get?_push_of_some _ (Heap.get?_push_of_some _ e)
  have hacc : s.heap.get? (s.heap.push o).objs.size = none := by
    cases e : s.heap.get? (s.heap.push o).objs.size with
    | none => rfl
    | some x => have := Heap.lt_size e; rw [Heap.size_push] at this; exact absurd this (Nat.not_lt.mpr (Nat.le_succ _))
  have hIa : s.heap.objs.size ≠ (s.heap.push o).objs.size := by rw [Heap.size_push]; exact Nat.ne_of_lt (Nat.lt_succ_self _)
  have hP3 : P 0 ((s.heap.push o).push (seqObj "list" #[] 0)) := it.stab _ _ _ hP fun x e => Heap.get?_push_of_some _ e
  have keep : ∀ a x, ((s.heap.push o).push (seqObj "list" #[] 0)).get? a = some x → h'.get? a = some x := fun a x e =>
    (hs.2 a (Nat.ne_of_lt (Heap.lt_size e))).trans (Heap.get?_push_of_some _ e)
  have hCn : s.heap.get? ((s.heap.push o).push (seqObj "list" #[] 0)).objs.size = none := by
    cases e : s.heap.get? ((s.heap.push o).push (seqObj "list" #[] 0)).objs.size with
    | none => rfl
    | some x => have := k₃ _ _ e; rw [none_size] at this; cases this
  exact comp_tail hif hn outs h0 turn T it hQ T₂ k₃ hacc (none_size _) hP3 hIa (none_size _) n' keep fun s' T' T'' G' => fin _ _ s' hCn T' T'' G'

/-- [elt for target in iter if ..] -/
theorem we_comp {elt target iter : Expr} {ifs : List Expr} {scope : Scope} {cl : List (Str × Addr)} {pos : Pos} (hh : A.handled = none) (hclos : closureFor scope env = pure cl)
    (h : WE c A (eval iter env) L m S fun d m S => ∃ (n : Nat) (dd : Nat → D) (outs : Nat → List D), Src S d n dd ∧ n < 2 ^ 19 ∧ outs 0 = [] ∧ (∀ acc C i, i < n → CTurn c A (compEnvC scope cl C env) C target ifs elt (dd i) ((acc, .lst (outs i)) :: S) (outs i) fun o => outs (i + 1) = o) ∧
      ∀ acc, K (.ref acc) m ((acc, .lst (outs n)) :: S))
    (hif : ifs = [] ∨ ∃ t, ifs = [t] := by first | exact .inl rfl | exact .inr ⟨_, rfl⟩) (hcell : ∀ x ∈ scope.names, x.2 ≠ .cell := by decide +kernel) (hkind : scope.kind = .function := by rfl)
    (hnames : ∀ x ∈ scope.names, x.2 = .local → scope.names.lookup x.1 = some .local := by decide +kernel) (hs : ∀ x, foldedSetIterable iter env x = pure x := by intro _; rfl) :
    WE c A (eval (.ListComp elt [⟨target, iter, ifs, 0⟩] scope pos) env) L m S K := fun s T => by
  rw [eval_ListComp]
  refine wpAny_comprehension_free (use := none) rfl hs hclos hkind hnames (wpAny_mono (h s T) (fun v s₁ ⟨d, m₁, S₁, i, T₁, G₁, n, dd, outs, src, hn, h0, turn, k⟩ => ?_) fun _ _ x => x)
  refine comp_body (RR := fun acc C => compPost c.M A No none (Pst c Is L S s K) acc C) hh hcell hkind hif src hn outs h0 turn T₁ i fun acc C s' hC TC TL G => ?_
  obtain ⟨mC, nC, _⟩ := TC.fr
  refine ⟨mC, nC, fun h' hsb => ?_⟩
  have hCL : C ≠ L := fun q => by
    obtain ⟨mV, ⟨o, _, _, e, _⟩, _⟩ := T₁.fr
    rw [q, e] at hC; cases hC
  have ap : Apart c C L ((acc, .lst (outs n)) :: S₁) s'.heap := ⟨hCL, TC.notL, TC.freshL, notTup_ns nC⟩
  have keep : ∀ b o, b ≠ C → s'.heap.get? b = some o → h'.get? b = some o := fun b o hb e => (hsb.2 b hb).trans e
  exact ⟨_, m₁, _, val_is, St.other (tk := s'.toks) TL ap keep, G₁.trans (G.other (tk := s'.toks) hC keep), k acc⟩

/-- y = [elt for target in iter if ..] -/
theorem wx_comp {K : Fl → Loc → Sto → Prop} {elt target iter : Expr} {ifs : List Expr} {scope : Scope} {cl : List (Str × Addr)} {pos py spos : Pos} {y : Str} (hh : A.handled = none) (hclos : closureFor scope env = pure cl)
    (h : WE c A (eval iter env) L m S fun d m S => ∃ (n : Nat) (dd : Nat → D) (outs : Nat → List D), Src S d n dd ∧ n < 2 ^ 19 ∧ outs 0 = [] ∧ (∀ acc C i, i < n → CTurn c A (compEnvC scope cl C env) C target ifs elt (dd i) ((acc, .lst (outs i)) :: S) (outs i) fun o => outs (i + 1) = o) ∧
      ∀ acc, K .nxt ((y, .ref acc) :: m) ((acc, .lst (outs n)) :: S))
    (hsw : swapsWith (.ListComp elt [⟨target, iter, ifs, 0⟩] scope pos) (some (.Name y py)) spos.line env = pure true := by rfl) (hL : env.locals = L := by rfl) (hy : env.kindOf y = some .local := by rfl)
    (hp : (env.scope.kind == .class || (env.scope.kind == .module && env.locals != env.globals)) = false := by rfl)
    (hif : ifs = [] ∨ ∃ t, ifs = [t] := by first | exact .inl rfl | exact .inr ⟨_, rfl⟩) (hcell : ∀ x ∈ scope.names, x.2 ≠ .cell := by decide +kernel) (hkind : scope.kind = .function := by rfl)
    (hnames : ∀ x ∈ scope.names, x.2 = .local → scope.names.lookup x.1 = some .local := by decide +kernel) (hs : ∀ x, foldedSetIterable iter env x = pure x := by intro _; rfl) :
    WX c A (exec (.Assign [.Name y py] (.ListComp elt [⟨target, iter, ifs, 0⟩] scope pos) spos) env) L m S K := fun s T => by
  rw [exec_Assign_Name_used _ _ _ _ hsw]
  refine wpAny_bind (wpAny_standAt (wpAny_bind ?_))
  show wpAny _ A (do let _ ← comprehension (.ListComp elt [⟨target, iter, ifs, 0⟩] scope pos) scope env _ (newList []) false (eval iter env) (some (assign (.Name y py) env))) _ _ s
  refine wpAny_bind (wpAny_mono (wpAny_comprehension_free (use := some (assign (.Name y py) env)) (Q := fun _ s' => Pst c FlIs L S s K .next s') rfl hs hclos hkind hnames
    (wpAny_mono (h s T) (fun v s₁ ⟨d, m₁, S₁, i, T₁, G₁, n, dd, outs, src, hn, h0, turn, k⟩ => ?_) fun _ _ x => x)) (fun _ s' hq => wpAny_pure (wpAny_pure hq)) fun _ _ e => e)
  refine comp_body (RR := fun acc C => compPost c.M A No (some (assign (.Name y py) env)) (fun _ s' => Pst c FlIs L S s K .next s') acc C) hh hcell hkind hif src hn outs h0 turn T₁ i fun acc C s' hC TC TL G => ?_
  have hCL : C ≠ L := fun q => by
    obtain ⟨mV, ⟨o, _, _, e, _⟩, _⟩ := T₁.fr
    rw [q, e] at hC; cases hC
  show wpAny c.M A (assign (.Name y py) env (.ref acc)) _ _ _
  refine wpAny_assign_Name (wpAny_mono (wu_store (K := fun _ m' S' => m' = (y, .ref acc) :: m₁ ∧ S' = (acc, .lst (outs n)) :: S₁) ⟨rfl, rfl⟩ hL hy hp (.ref acc) s' TL val_is) (fun _ s₂ ⟨_, m₂, S₂, _, T₂, G₂, e1, e2⟩ => ?_) fun _ _ x => x)
  subst e1 e2
  obtain ⟨mC, ⟨oC, es, ep, eC, rC⟩, _⟩ := TC.fr
  have eC2 : s₂.heap.get? C = some oC := G₂.kp.2 C oC (fun q => by
    rcases List.mem_cons.mp q with q | q
    · exact hCL q
    · exact TC.notL q) eC
  have nC : s₂.heap.Ns C mC := ⟨oC, es, ep, eC2, rC⟩
  refine ⟨mC, nC, fun h' hsb => ?_⟩
  have ap : Apart c C L ((acc, .lst (outs n)) :: S₁) s₂.heap := ⟨hCL, TC.notL, TC.freshL, notTup_ns nC⟩
  have keep : ∀ b o, b ≠ C → s₂.heap.get? b = some o → h'.get? b = some o := fun b o hb e => (hsb.2 b hb).trans e
  exact ⟨.nxt, _, _, rfl, St.other (tk := s₂.toks) T₂ ap keep, G₁.trans ((G.trans G₂).other (tk := s₂.toks) hC keep), k acc⟩
end

end Mine

namespace Mine

/-! the sort, its questions answered by a plain order -/
def KOk {α : Type} (lt : Nat → Nat → Bool) (n : Nat) : KasT α → (α → Prop) → Prop
  | .ret a, Q => Q a
  | .ask i j k, Q => i < n ∧ j < n ∧ KOk lt n (k (lt i j)) Q
theorem KOk.bind {α β : Type} {lt : Nat → Nat → Bool} {n : Nat} {f : α → KasT β} {Q : β → Prop} : ∀ {t : KasT α}, KOk lt n t (fun a => KOk lt n (f a) Q) → KOk lt n (t.bind f) Q
  | .ret _, h => h
  | .ask _ _ _, h => ⟨h.1, h.2.1, KOk.bind h.2.2⟩
theorem KOk.mono {α : Type} {lt : Nat → Nat → Bool} {n : Nat} {P Q : α → Prop} (hpq : ∀ a, P a → Q a) : ∀ {t : KasT α}, KOk lt n t P → KOk lt n t Q
  | .ret _, h => hpq _ h
  | .ask _ _ _, h => ⟨h.1, h.2.1, KOk.mono hpq h.2.2⟩
theorem KOk.wp {α : Type} {lt : Nat → Nat → Bool} {n : Nat} {cmp : Nat → Nat → (Bool → Shared → Prop) → Shared → Prop} {P : α → Prop} {G : α → Shared → Prop} {s : Shared}
    (hc : ∀ i j C, i < n → j < n → C (lt i j) s → cmp i j C s) (hg : ∀ a, P a → G a s) : ∀ {t : KasT α}, KOk lt n t P → t.kasWp cmp G s
  | .ret _, h => hg _ h
  | .ask _ _ _, h => hc _ _ _ h.1 h.2.1 (KOk.wp hc hg h.2.2)

/-- a strict order in which any two of the first n part -/
structure Ord (lt : Nat → Nat → Bool) (n : Nat) : Prop where
  trans : ∀ i j k, i < n → j < n → k < n → lt i j = true → lt j k = true → lt i k = true
  total : ∀ i j, i < n → j < n → i ≠ j → lt i j = true ∨ lt j i = true
  irr : ∀ i, i < n → lt i i = false

/-- an array of the numbers below n, each once -/
def PA (n : Nat) (p : Array Nat) : Prop := p.Perm (List.range n).toArray
theorem PA.size {n : Nat} {p : Array Nat} (h : PA n p) : p.size = n := by have := h.size_eq; simpa using this
theorem PA.lt {n : Nat} {p : Array Nat} (h : PA n p) {i : Nat} (hi : i < n) : p.getD i 0 < n := by
  have hs := h.size
  have hi' : i < p.size := by omega
  have : p[i] ∈ (List.range n).toArray := h.mem_iff.mp (Array.getElem_mem hi')
  rw [show p.getD i 0 = p[i] by simp [Array.getD, hi']]
  simpa using this
theorem PA.inj {n : Nat} {p : Array Nat} (h : PA n p) {i j : Nat} (hi : i < n) (hj : j < n) (hne : i ≠ j) : p.getD i 0 ≠ p.getD j 0 := by
  have hs := h.size
  have hi' : i < p.size := by omega
  have hj' : j < p.size := by omega
  have nd : p.toList.Nodup := (Array.perm_iff_toList_perm.mp h).nodup_iff.mpr (by simpa using List.nodup_range)
  rw [show p.getD i 0 = p[i] by simp [Array.getD, hi'], show p.getD j 0 = p[j] by simp [Array.getD, hj']]
  intro e
  have pw := List.pairwise_iff_getElem.mp nd
  rcases Nat.lt_or_gt_of_ne hne with q | q
  · exact pw i j (by simpa using hi') (by simpa using hj') q (by simpa using e)
  · exact pw j i (by simpa using hj') (by simpa using hi') q (by simpa using e.symm)
theorem getD_of {p q : Array Nat} {i j : Nat} (h : p[i]? = q[j]?) : p.getD i 0 = q.getD j 0 := by
  simp only [Array.getD_eq_getD_getElem?]; rw [h]
theorem PA.rev {n : Nat} {p : Array Nat} (h : PA n p) (i j : Nat) : PA n (kas_rev p i j) := (mirror_perm p i j _).trans h
theorem PA.bubble {n : Nat} {p : Array Nat} (h : PA n p) (i d : Nat) : PA n (PyProof.Rows.bubble p i d) := (bubble_perm p i d).trans h

/-- the first k stand in order -/
def Asc (lt : Nat → Nat → Bool) (p : Array Nat) (k : Nat) : Prop := ∀ i j, i < j → j < k → lt (p.getD i 0) (p.getD j 0) = true

section
variable {lt : Nat → Nat → Bool} {n : Nat}
theorem Ord.of_not (O : Ord lt n) {i j : Nat} (hi : i < n) (hj : j < n) (hne : i ≠ j) (h : lt i j = false) : lt j i = true := by
  rcases O.total i j hi hj hne with e | e
  · rw [h] at e; cases e
  · exact e
theorem Asc.step (O : Ord lt n) {p : Array Nat} (hp : PA n p) {k : Nat} (h : Asc lt p k) (hk : k < n) (h1 : 0 < k) (hl : lt (p.getD (k - 1) 0) (p.getD k 0) = true) : Asc lt p (k + 1) := by
  intro i j hij hj
  rcases Nat.lt_or_ge j k with hlt | hge
  · exact h i j hij hlt
  · obtain rfl : j = k := by omega
    rcases Nat.lt_or_ge i (j - 1) with q | q
    · exact O.trans _ _ _ (hp.lt (by omega)) (hp.lt (by omega)) (hp.lt (by omega)) (h i (j - 1) q (by omega)) hl
    · obtain rfl : i = j - 1 := by omega
      exact hl
theorem ok_asc (O : Ord lt n) {p : Array Nat} (hp : PA n p) : ∀ (f k : Nat), 0 < k → k + f ≤ n → Asc lt p k → KOk lt n (kas_asc p f k) fun r => k ≤ r ∧ r ≤ n ∧ Asc lt p r ∧ (r = k + f ∨ (r < k + f ∧ lt (p.getD r 0) (p.getD (r - 1) 0) = true))
  | 0, k, h1, h2, ha => ⟨Nat.le_refl _, h2, ha, .inl rfl⟩
  | f + 1, k, h1, h2, ha => by
    refine ⟨hp.lt (by omega), hp.lt (by omega), ?_⟩
    cases hc : lt (p.getD k 0) (p.getD (k - 1) 0) with
    | true => exact ⟨Nat.le_refl _, by omega, ha, .inr ⟨by omega, hc⟩⟩
    | false =>
      show KOk lt n (kas_asc p f (k + 1)) _
      have hl := O.of_not (hp.lt (by omega)) (hp.lt (by omega)) (hp.inj (by omega) (by omega) (by omega)) hc
      refine KOk.mono (fun r hr => ?_) (ok_asc O hp f (k + 1) (by omega) (by omega) (ha.step O hp (by omega) h1 hl))
      refine ⟨by omega, hr.2.1, hr.2.2.1, ?_⟩
      rcases hr.2.2.2 with q | q
      · exact .inl (by omega)
      · exact .inr ⟨by omega, q.2⟩

/-- the first k stand in order backwards -/
def Desc (lt : Nat → Nat → Bool) (p : Array Nat) (k : Nat) : Prop := ∀ i j, i < j → j < k → lt (p.getD j 0) (p.getD i 0) = true
theorem Desc.step (O : Ord lt n) {p : Array Nat} (hp : PA n p) {k : Nat} (h : Desc lt p k) (hk : k < n) (h1 : 0 < k) (hl : lt (p.getD k 0) (p.getD (k - 1) 0) = true) : Desc lt p (k + 1) := by
  intro i j hij hj
  rcases Nat.lt_or_ge j k with hlt | hge
  · exact h i j hij hlt
  · obtain rfl : j = k := by omega
    rcases Nat.lt_or_ge i (j - 1) with q | q
    · exact O.trans _ _ _ (hp.lt (by omega)) (hp.lt (by omega)) (hp.lt (by omega)) hl (h i (j - 1) q (by omega))
    · obtain rfl : i = j - 1 := by omega
      exact hl
theorem ok_desc (O : Ord lt n) {p : Array Nat} (hp : PA n p) : ∀ (f k : Nat), 0 < k → k + f ≤ n → Desc lt p k → KOk lt n (kas_desc f p k 0) fun r => r.1 = p ∧ r.2.2 = 0 ∧ k ≤ r.2.1 ∧ r.2.1 ≤ n ∧ Desc lt p r.2.1
  | 0, k, h1, h2, hd => ⟨rfl, rfl, Nat.le_refl _, h2, hd⟩
  | f + 1, k, h1, h2, hd => by
    refine ⟨hp.lt (by omega), hp.lt (by omega), ?_⟩
    cases hc : lt (p.getD k 0) (p.getD (k - 1) 0) with
    | true =>
      show KOk lt n (kas_desc f p (k + 1) 0) _
      refine KOk.mono (fun r hr => ?_) (ok_desc O hp f (k + 1) (by omega) (by omega) (hd.step O hp (by omega) h1 hc))
      exact ⟨hr.1, hr.2.1, by omega, hr.2.2.2.1, hr.2.2.2.2⟩
    | false =>
      have hl := O.of_not (hp.lt (by omega)) (hp.lt (by omega)) (hp.inj (by omega) (by omega) (by omega)) hc
      refine ⟨hp.lt (by omega), hp.lt (by omega), ?_⟩
      rw [hl]
      exact ⟨rfl, rfl, Nat.le_refl _, (by omega : k ≤ n), hd⟩
theorem rev_getD {p : Array Nat} {k i : Nat} (hk : k ≤ p.size) (hi : i < k) : (kas_rev p 0 k).getD i 0 = p.getD (k - 1 - i) 0 := by
  refine getD_of ?_
  unfold kas_rev
  rw [getElem?_mirror_all hk, if_pos ⟨Nat.zero_le _, hi⟩, Nat.zero_add]
theorem Desc.rev {p : Array Nat} (hp : PA n p) {k : Nat} (hk : k ≤ n) (h : Desc lt p k) : Asc lt (kas_rev p 0 k) k := by
  intro i j hij hj
  have hs := hp.size
  rw [rev_getD (by omega) (by omega), rev_getD (by omega) hj]
  exact h _ _ (by omega) (by omega)
theorem ok_tail3 (O : Ord lt n) {p : Array Nat} (hp : PA n p) {k : Nat} (h1 : 0 < k) (hk : k ≤ n) (h : Desc lt p k) : KOk lt n (kas_tail3 k n p) fun r => PA n r.2 ∧ 0 < r.1 ∧ r.1 ≤ n ∧ Asc lt r.2 r.1 := by
  unfold kas_tail3
  refine KOk.bind (KOk.mono (fun m hm => ?_) (ok_asc O (hp.rev 0 k) (n - k) k h1 (by omega) (h.rev hp hk)))
  exact ⟨hp.rev 0 k, by omega, hm.2.1, hm.2.2.1⟩
theorem asc_one {p : Array Nat} : Asc lt p 1 := fun i j hij hj => by omega
theorem ok_count (O : Ord lt n) {p : Array Nat} (hp : PA n p) (h2 : 2 ≤ n) : KOk lt n (kas_count n p) fun r => PA n r.2 ∧ 0 < r.1 ∧ r.1 ≤ n ∧ Asc lt r.2 r.1 := by
  unfold kas_count
  refine KOk.bind (KOk.mono (fun k hk => ?_) (ok_asc O hp (n - 1) 1 (by decide) (by omega) asc_one))
  obtain ⟨h1, hkn, ha, hl⟩ := hk
  by_cases he : k = n
  · subst he
    rw [if_pos (by simp)]
    exact ⟨hp, by omega, hkn, ha⟩
  · rw [if_neg (by simpa using he)]
    rcases hl with hl | ⟨hlt, hl⟩
    · omega
    by_cases hk1 : k > 1
    · rw [if_pos hk1]
      refine ⟨hp.lt (by omega), hp.lt (by omega), ?_⟩
      rw [ha 0 (k - 1) (by omega) (by omega)]
      exact ⟨hp, by omega, hkn, ha⟩
    · rw [if_neg hk1]
      obtain rfl : k = 1 := by omega
      unfold kas_descPart
      have hd : Desc lt p 2 := fun i j hij hj => by
        obtain rfl : i = 0 := by omega
        obtain rfl : j = 1 := by omega
        exact hl
      refine KOk.bind (KOk.mono (fun r hr => ?_) (ok_desc O hp (n - (1 + 1)) 2 (by decide) (by omega) hd))
      obtain ⟨e1, e2, e3, e4, e5⟩ := hr
      rw [if_neg (by omega), e1]
      exact ok_tail3 O hp (by omega) e4 e5
theorem ok_place (O : Ord lt n) {p : Array Nat} (hp : PA n p) {k : Nat} (hk : k < n) (ha : Asc lt p k) : ∀ (f l r : Nat), l ≤ r → r ≤ k → r - l ≤ f → (∀ i, i < l → lt (p.getD i 0) (p.getD k 0) = true) → (∀ i, r ≤ i → i < k → lt (p.getD k 0) (p.getD i 0) = true) →
    KOk lt n (kas_place p k f l r) fun x => x ≤ k ∧ (∀ i, i < x → lt (p.getD i 0) (p.getD k 0) = true) ∧ ∀ i, x ≤ i → i < k → lt (p.getD k 0) (p.getD i 0) = true
  | 0, l, r, h1, h2, h3, h4, h5 => by
    obtain rfl : l = r := by omega
    exact ⟨h2, h4, h5⟩
  | f + 1, l, r, h1, h2, h3, h4, h5 => by
    unfold kas_place
    by_cases hlr : l ≥ r
    · rw [if_pos hlr]
      obtain rfl : l = r := by omega
      exact ⟨h2, h4, h5⟩
    · rw [if_neg hlr]
      refine ⟨hp.lt hk, hp.lt (by omega), ?_⟩
      cases hc : lt (p.getD k 0) (p.getD ((l + r) / 2) 0) with
      | true =>
        show KOk lt n (kas_place p k f l ((l + r) / 2)) _
        refine ok_place O hp hk ha f l ((l + r) / 2) (by omega) (by omega) (by omega) h4 fun i hi hik => ?_
        rcases Nat.lt_or_ge ((l + r) / 2) i with q | q
        · exact O.trans _ _ _ (hp.lt hk) (hp.lt (by omega)) (hp.lt (by omega)) hc (ha _ _ q hik)
        · obtain rfl : i = (l + r) / 2 := by omega
          exact hc
      | false =>
        show KOk lt n (kas_place p k f ((l + r) / 2 + 1) r) _
        have hm := O.of_not (hp.lt hk) (hp.lt (by omega)) (hp.inj hk (by omega) (by omega)) hc
        refine ok_place O hp hk ha f ((l + r) / 2 + 1) r (by omega) h2 (by omega) (fun i hi => ?_) h5
        rcases Nat.lt_or_ge i ((l + r) / 2) with q | q
        · exact O.trans _ _ _ (hp.lt (by omega)) (hp.lt (by omega)) (hp.lt hk) (ha _ _ q (by omega)) hm
        · obtain rfl : i = (l + r) / 2 := by omega
          exact hm
theorem bubble_getD {p : Array Nat} {k x i : Nat} (hk : k < p.size) (hx : x ≤ k) : (PyProof.Rows.bubble p k (k - x)).getD i 0 = if i = x then p.getD k 0 else if x < i ∧ i ≤ k then p.getD (i - 1) 0 else p.getD i 0 := by
  have e := getElem?_bubble hk (k - x) (by omega) i
  rw [show k - (k - x) = x by omega] at e
  by_cases h : i = x
  · rw [if_pos h] at e ⊢; exact getD_of e
  · rw [if_neg h] at e ⊢
    by_cases h' : x < i ∧ i ≤ k
    · rw [if_pos h'] at e ⊢; exact getD_of e
    · rw [if_neg h'] at e ⊢; exact getD_of e
theorem asc_bubble {p : Array Nat} (hp : PA n p) {k x : Nat} (hk : k < n) (ha : Asc lt p k) (hx : x ≤ k) (h1 : ∀ i, i < x → lt (p.getD i 0) (p.getD k 0) = true) (h2 : ∀ i, x ≤ i → i < k → lt (p.getD k 0) (p.getD i 0) = true) :
    Asc lt (PyProof.Rows.bubble p k (k - x)) (k + 1) := by
  intro i j hij hj
  have hs := hp.size
  rw [bubble_getD (by omega) hx, bubble_getD (by omega) hx]
  repeat' split
  all_goals first
    | omega
    | exact h1 _ (by omega)
    | exact h2 _ (by omega) (by omega)
    | exact ha _ _ (by omega) (by omega)
theorem ok_bin (O : Ord lt n) : ∀ (f : Nat) {p : Array Nat} (k : Nat), PA n p → k + f = n → Asc lt p k → KOk lt n (kas_bin f p k) fun r => PA n r ∧ Asc lt r n
  | 0, p, k, hp, hk, ha => by obtain rfl : k = n := by omega
                              exact ⟨hp, ha⟩
  | f + 1, p, k, hp, hk, ha => by
    unfold kas_bin
    refine KOk.bind (KOk.mono (fun x hx => ?_) (ok_place O hp (by omega) ha k 0 k (Nat.zero_le _) (Nat.le_refl _) (by omega) (fun i hi => by omega) fun i hi hik => by omega))
    exact ok_bin O f (k + 1) (hp.bubble _ _) (by omega) (asc_bubble hp (by omega) ha hx.1 hx.2.1 hx.2.2)
theorem ok_sort (O : Ord lt n) (h2 : 2 ≤ n) : KOk lt n (kas_sort n) fun p => PA n p ∧ Asc lt p n := by
  unfold kas_sort
  refine KOk.bind (KOk.mono (fun r hr => ?_) (ok_count O (Array.Perm.refl _) h2))
  obtain ⟨hp, h0, hn, ha⟩ := hr
  by_cases hlt : r.1 < n
  · rw [if_pos hlt]
    rw [show max r.1 1 = r.1 by omega]
    exact ok_bin O (n - r.1) r.1 hp (by omega) ha
  · rw [if_neg hlt]
    obtain e : r.1 = n := by omega
    rw [e] at ha
    exact ⟨hp, ha⟩
end
end Mine

namespace Mine

/-! the order of texts and of tuples -/
theorem ltS_irr (a : Str) : ltS a a = false := by unfold ltS; simp
theorem ltS_trans {a b c : Str} (h1 : ltS a b = true) (h2 : ltS b c = true) : ltS a c = true := by
  unfold ltS at *
  simp only [decide_eq_true_eq] at *
  exact List.lt_trans h1 h2
theorem ltS_total {a b : Str} (h : a ≠ b) : ltS a b = true ∨ ltS b a = true := by
  unfold ltS
  simp only [decide_eq_true_eq]
  by_cases h1 : a.cps.toList < b.cps.toList
  · exact .inl h1
  · by_cases h2 : b.cps.toList < a.cps.toList
    · exact .inr h2
    · exfalso
      apply h
      have := List.le_antisymm (List.not_lt.mp h2) (List.not_lt.mp h1)
      cases a; cases b
      simp only [Str.mk.injEq]
      exact Array.toList_inj.mp this
theorem ltL_irr : ∀ (l : List D), ltL l l = false
  | [] => rfl
  | .str a :: r => by rw [ltL, if_pos rfl]; exact ltL_irr r
  | .int a :: r => by rw [ltL, if_pos rfl]; exact ltL_irr r
  | .val _ :: _ => by simp [ltL]
  | .tup _ :: _ => by simp [ltL]
  | .rng _ :: _ => by simp [ltL]
theorem ltL_trans {x y z : List D} (h1 : Like x y) : Like y z → ltL x y = true → ltL y z = true → ltL x z = true := by
  induction h1 generalizing z with
  | nil => intro _ h _; simp [ltL] at h
  | @str a b r r' _ ih =>
    intro h2 e1 e2
    cases h2 with
    | @str _ c' _ r'' h2 =>
      rw [ltL] at e1 e2 ⊢
      by_cases hab : a = b
      · subst hab
        rw [if_pos rfl] at e1
        by_cases hac : a = c'
        · rw [if_pos hac] at e2 ⊢; exact ih h2 e1 e2
        · rw [if_neg hac] at e2 ⊢; exact e2
      · rw [if_neg hab] at e1
        by_cases hbc : b = c'
        · subst hbc; rw [if_neg hab]; exact e1
        · rw [if_neg hbc] at e2
          have e3 := ltS_trans e1 e2
          by_cases hac : a = c'
          · subst hac; rw [ltS_irr] at e3; cases e3
          · rw [if_neg hac]; exact e3
  | @int a b r r' _ ih =>
    intro h2 e1 e2
    cases h2 with
    | @int _ c' _ r'' h2 =>
      rw [ltL] at e1 e2 ⊢
      by_cases hab : a = b
      · subst hab
        rw [if_pos rfl] at e1
        by_cases hac : a = c'
        · rw [if_pos hac] at e2 ⊢; exact ih h2 e1 e2
        · rw [if_neg hac] at e2 ⊢; exact e2
      · rw [if_neg hab] at e1
        by_cases hbc : b = c'
        · subst hbc; rw [if_neg hab]; exact e1
        · rw [if_neg hbc] at e2
          simp only [decide_eq_true_eq] at e1 e2
          rw [if_neg (by omega)]
          simp only [decide_eq_true_eq]; omega
theorem ltL_total {x y : List D} (h : Like x y) : x ≠ y → ltL x y = true ∨ ltL y x = true := by
  induction h with
  | nil => intro h; exact absurd rfl h
  | @str a b r r' _ ih =>
    intro hne
    rw [ltL, ltL]
    by_cases hab : a = b
    · subst hab
      rw [if_pos rfl, if_pos rfl]
      exact ih fun e => hne (by rw [e])
    · rw [if_neg hab, if_neg (Ne.symm hab)]; exact ltS_total hab
  | @int a b r r' _ ih =>
    intro hne
    rw [ltL, ltL]
    by_cases hab : a = b
    · subst hab
      rw [if_pos rfl, if_pos rfl]
      exact ih fun e => hne (by rw [e])
    · rw [if_neg hab, if_neg (Ne.symm hab)]
      simp only [decide_eq_true_eq]; omega

theorem katLex_like {prog : Program} {w : World} {A : Around} {s : Shared} {C : Bool → Shared → Prop} {ds es : List D} (h : Like ds es) : ∀ {vs us : List Value} (i : Nat), IsAll s.heap ds vs → IsAll s.heap es us → C (ltL ds es) s → KatLex prog w A true false C (vs.zip us) i s := by
  induction h with
  | nil => intro vs us i a b p; rw [a.unnil, b.unnil]; exact kat_nil p
  | @str a b r r' _ ih =>
    intro vs us i x y p
    obtain ⟨v, vs, rfl, i1, i2⟩ := x.uncons
    obtain ⟨u, us, rfl, j1, j2⟩ := y.uncons
    obtain ⟨t, rfl⟩ := is_str i1
    obtain ⟨t', rfl⟩ := is_str j1
    refine kat_cons (wpAny_eqBool_str (kat_go (fun e => kat_yes (ih (i + 1) i2 j2 ?_)) fun e => kat_no ?_))
    · have e' : a = b := by simpa using e
      rw [ltL, if_pos e'] at p; exact p
    · have e' : ¬ a = b := by simpa using e
      rw [ltL, if_neg e'] at p
      cases hi : (true && i == 0) with
      | true => exact oneLt_str p
      | false => exact kat_one _ _ (PyProof.Rows.lt_str p)
  | @int a b r r' _ ih =>
    intro vs us i x y p
    obtain ⟨v, vs, rfl, i1, i2⟩ := x.uncons
    obtain ⟨u, us, rfl, j1, j2⟩ := y.uncons
    obtain ⟨t, rfl⟩ := is_int i1
    obtain ⟨t', rfl⟩ := is_int j1
    refine kat_cons (wpAny_eqBool_int (kat_go (fun e => kat_yes (ih (i + 1) i2 j2 ?_)) fun e => kat_no ?_))
    · have e' : a = b := by simpa using e
      rw [ltL, if_pos e'] at p; exact p
    · have e' : ¬ a = b := by simpa using e
      rw [ltL, if_neg e'] at p
      cases hi : (true && i == 0) with
      | true => exact oneLt_int p
      | false => exact kat_one _ _ (PyProof.Rows.lt_int p)

/-- the first of a tuple: a text or an int -/
def tyOf : List D → Value
  | .str _ :: _ => .type "str"
  | _ => .type "int"
theorem like_ty {x y : List D} (h : Like x y) (hx : x ≠ []) : tyOf x = tyOf y := by
  cases h with
  | nil => exact absurd rfl hx
  | str _ => rfl
  | int _ => rfl
theorem tups_of {M : Model} {h : Heap} {T : Value} : ∀ {ls : List (List D)} {vs : List Value}, IsAll h (ls.map .tup) vs → (∀ x ∈ ls, x ≠ [] ∧ Like x x ∧ tyOf x = T) → ∃ fs, KatTups h vs fs ∧ fs.length = ls.length ∧ ∀ v ∈ fs, Looks M h (typeOf v) T
  | [], vs, i, _ => by rw [i.unnil]; exact ⟨[], .nil, rfl, fun v hv => nomatch hv⟩
  | x :: ls, vs, i, hx => by
    obtain ⟨v, r, rfl, i1, i2⟩ := i.uncons
    obtain ⟨fs, t, hl, hT⟩ := tups_of (M := M) i2 fun y hy => hx y (List.mem_cons_of_mem _ hy)
    obtain ⟨a, us, n, rfl, g, ru⟩ := is_tup i1
    obtain ⟨hne, hlk, hty⟩ := hx x (List.mem_cons_self ..)
    match x, hne, hlk, hty, ru with
    | d :: rest, _, hlk, hty, ru =>
      obtain ⟨f, us', e, fi, _⟩ := ru.uncons
      have h0 : us[0]? = some f := by rw [← Array.getElem?_toList, e]; rfl
      refine ⟨f :: fs, .cons g rfl rfl h0 t, by simp [hl], fun v hv => ?_⟩
      rcases List.mem_cons.mp hv with rfl | hv
      · cases hlk with
        | str _ => obtain ⟨t, rfl⟩ := is_str fi; rw [← hty]; exact Looks.of_pure rfl
        | int _ => obtain ⟨t, rfl⟩ := is_int fi; rw [← hty]; exact Looks.of_pure rfl
      · exact hT v hv

theorem perm_map_range {α : Type} (l : List α) (d : α) {p : List Nat} (h : p.Perm (List.range l.length)) : (p.map fun i => l.getD i d).Perm l := by
  have := h.map fun i => l.getD i d
  refine this.trans (List.Perm.of_eq ?_)
  apply List.ext_getElem
  · simp
  · intro i h1 h2; simp at h1; simp [h1]

section
variable {c : Cx} {A : Around} {env : Env} {L : Addr} {m : Loc} {S : Sto} {mg mb : Str → Option Value}
variable {K : D → Loc → Sto → Prop}

theorem isAll_pick {h : Heap} {ds : List D} {vs : List Value} (i : IsAll h ds vs) : ∀ (p : List Nat), (∀ j ∈ p, j < ds.length) → IsAll h (p.map fun j => ds.getD j .non) (p.map fun j => vs.getD j Value.none)
  | [], _ => .nil
  | j :: p, hj => by
    have hlt := hj j (List.mem_cons_self ..)
    obtain ⟨v, e, iv⟩ := i.get (List.getElem?_eq_getElem hlt)
    refine .cons ?_ (isAll_pick i p fun k hk => hj k (List.mem_cons_of_mem _ hk))
    show Is h (ds.getD j .non) (vs.getD j Value.none)
    rw [List.getD_eq_getElem?_getD, List.getElem?_eq_getElem hlt, List.getD_eq_getElem?_getD, e]; exact iv

theorem wfs_sorted2 {a : Addr} {ls : List (List D)} (h : At S a (.lst (ls.map .tup))) (h2 : 2 ≤ ls.length) (h64 : ls.length < 64) (hne : ∀ x ∈ ls, x ≠ []) (hlike : ∀ x ∈ ls, ∀ y ∈ ls, Like x y) (hnd : ls.Nodup)
    (k : ∀ (b : Addr) (out : List (List D)), out.Perm ls → out.Pairwise (fun x y => ltL x y = true) → K (.ref b) m ((b, .lst (out.map .tup)) :: S)) : WFs c A Is (fun vs => call (.builtin "sorted") vs) [.ref a] L m S K := fun vs s T i => by
  obtain ⟨v, r, rfl, i1, i2⟩ := i.uncons
  have := i2.unnil; subst this
  have := is_val i1; subst this
  obtain ⟨arr, n, g, r⟩ := T.mos a _ h.mem
  obtain ⟨mV, nV, f⟩ := T.fr
  have hlen : arr.toList.length = ls.length := by have := r.length; simpa using this
  have hl : s.heap.IsList a arr.toList.toArray := by simpa using isList_of g
  refine kat_sorted (vs := arr.toList) (fr0 nV) news0 hl (by omega) (by omega) fun Da e1 h' F N hlt => ?_
  have N' : News hnil L h' (allN s.heap L) := fun p hp => N p (List.mem_cons_of_mem _ hp)
  have k' : ∀ a o, a ∉ [L] → s.heap.get? a = some o → h'.get? a = some o := fun a o hn e => (N' (a, o) (mem_allN.mpr ⟨fun q => hn (q ▸ List.mem_cons_self ..), e⟩)).1
  have nt : ∀ a, a ∈ [L] → NotTup s.heap a := fun a ha => List.mem_singleton.mp ha ▸ notTup_ns nV
  have r' : IsAll h' (ls.map .tup) arr.toList := r.kp2 k' nt
  have hDn : s.heap.get? Da = none := by
    cases q : s.heap.get? Da with
    | none => rfl
    | some o => exact absurd (hlt (Da, o) (mem_allN.mpr ⟨(N _ (List.mem_cons_self ..)).2.1, q⟩)) (Nat.lt_irrefl _)
  match ls, h2, hne, hlike, hnd with
  | x₀ :: ls', h2, hne, hlike, hnd =>
  obtain ⟨fs, tp, hfl, hfT⟩ := tups_of (M := c.M) (T := tyOf x₀) r' fun x hx => ⟨hne x hx, hlike x hx x hx, (like_ty (hlike x hx x₀ (List.mem_cons_self ..)) (hne x hx))⟩
  have hTT : (tyOf x₀ == tyOf x₀) = true ∧ (tyOf x₀ != Value.type "tuple") = true := by
    unfold tyOf; split <;> exact ⟨by decide, by decide⟩
  refine kat_kind (s := { s with heap := h' }) tp (by rw [hfl]; simp) hfT hTT.1 ?_
  rw [hTT.2]
  have O : Ord (fun i j => ltL ((x₀ :: ls').getD i []) ((x₀ :: ls').getD j [])) (x₀ :: ls').length := by
    have mem : ∀ i, i < (x₀ :: ls').length → (x₀ :: ls').getD i [] ∈ x₀ :: ls' := fun i hi => by
      rw [List.getD_eq_getElem?_getD, List.getElem?_eq_getElem hi]; exact List.getElem_mem hi
    refine ⟨fun i j k hi hj hk e1 e2 => ltL_trans (hlike _ (mem i hi) _ (mem j hj)) (hlike _ (mem j hj) _ (mem k hk)) e1 e2, fun i j hi hj hij => ltL_total (hlike _ (mem i hi) _ (mem j hj)) fun e => ?_, fun i hi => ltL_irr _⟩
    rw [List.getD_eq_getElem?_getD, List.getElem?_eq_getElem hi, List.getD_eq_getElem?_getD, List.getElem?_eq_getElem hj] at e
    have pw := List.pairwise_iff_getElem.mp hnd
    rcases Nat.lt_or_gt_of_ne hij with q | q
    · exact pw i j hi hj q e
    · exact pw j i hj hi q e.symm
  rw [hlen]
  refine KOk.wp (lt := fun i j => ltL ((x₀ :: ls').getD i []) ((x₀ :: ls').getD j [])) (n := (x₀ :: ls').length) (fun i j C hi hj hC => ?_) (fun p hp => ?_) (ok_sort O h2)
  · unfold kas_ask
    obtain ⟨v, ev, iv⟩ := r'.get (i := i) (d := .tup ((x₀ :: ls').getD i [])) (by rw [List.getElem?_map, List.getElem?_eq_getElem hi, List.getD_eq_getElem?_getD, List.getElem?_eq_getElem hi]; rfl)
    obtain ⟨u, eu, iu⟩ := r'.get (i := j) (d := .tup ((x₀ :: ls').getD j [])) (by rw [List.getElem?_map, List.getElem?_eq_getElem hj, List.getD_eq_getElem?_getD, List.getElem?_eq_getElem hj]; rfl)
    rw [List.getD_eq_getElem?_getD, ev, List.getD_eq_getElem?_getD, eu]
    obtain ⟨av, xs, nv, rfl, gv, rv⟩ := is_tup iv
    obtain ⟨au, ys, nu, rfl, gu, ru⟩ := is_tup iu
    have hlk := hlike _ (by rw [List.getD_eq_getElem?_getD, List.getElem?_eq_getElem hi]; exact List.getElem_mem hi : (x₀ :: ls').getD i [] ∈ x₀ :: ls') _ (by rw [List.getD_eq_getElem?_getD, List.getElem?_eq_getElem hj]; exact List.getElem_mem hj : (x₀ :: ls').getD j [] ∈ x₀ :: ls')
    have hsz : xs.size = ys.size := by
      have h1 := rv.length; have h2 := ru.length; have h3 := hlk.length
      simp only [Array.length_toList] at h1 h2; omega
    refine kat_lt (b := true) gv rfl gu rfl ?_
    rw [show decide (xs.size < ys.size) = false by simp [hsz]]
    exact katLex_like hlk 0 rv ru hC
  · obtain ⟨hpa, hasc⟩ := hp
    have hpl : p.toList.Perm (List.range (x₀ :: ls').length) := by simpa using Array.perm_iff_toList_perm.mp hpa
    have hin : ∀ j ∈ p.toList, j < (x₀ :: ls').length := fun j hj => List.mem_range.mp (hpl.mem_iff.mp hj)
    have eout : (p.toList.map fun j => ((x₀ :: ls').map D.tup).getD j .non) = (p.toList.map fun j => (x₀ :: ls').getD j []).map .tup := by
      rw [List.map_map]
      refine List.map_congr_left fun j hj => ?_
      have hj' := hin j hj
      show ((x₀ :: ls').map D.tup).getD j .non = .tup ((x₀ :: ls').getD j [])
      rw [List.getD_eq_getElem?_getD, List.getElem?_map, List.getElem?_eq_getElem hj', List.getD_eq_getElem?_getD, List.getElem?_eq_getElem hj']; rfl
    refine KasFin.intro F N (.head fun q hq => Nat.ne_of_lt (hlt q hq)) fun h'' cc F'' N'' => ?_
    have N3 : News hnil L h'' (allN s.heap L) := fun q hq => N'' q (List.mem_cons_of_mem _ hq)
    have k'' : ∀ a o, a ∉ [L] → s.heap.get? a = some o → h''.get? a = some o := fun a o hn e => (N3 (a, o) (mem_allN.mpr ⟨fun q => hn (q ▸ List.mem_cons_self ..), e⟩)).1
    have ip := isAll_pick (r.kp2 k'' nt) p.toList (by simpa using hin)
    rw [eout] at ip
    refine pst_new (tk := s.toks) T nV f F'' N3 (N'' _ (List.mem_cons_self ..)).1 hDn (by simpa using ip) (k Da _ (perm_map_range _ _ hpl) ?_)
    rw [List.pairwise_iff_getElem]
    intro i j hi hj hij
    have hsz := hpa.size
    have hi' : i < p.size := by simpa using hi
    have hj' : j < p.size := by simpa using hj
    have := hasc i j hij (by omega)
    simp only [List.getElem_map, Array.getElem_toList]
    rw [show p.getD i 0 = p[i] by simp [Array.getD, hi'], show p.getD j 0 = p[j] by simp [Array.getD, hj']] at this
    exact this

/-! a list of one item or none -/
theorem sort_short {prog : Program} {w : World} {A : Around} {E : Value → Shared → Prop} {s : Shared} {a : Addr} {vs : List Value} {n : Nat} {P : PySem.Fin → Shared → Prop} (ho : s.heap.get? a = some (seqObj "list" vs.toArray n)) (h2 : vs.length < 2)
    (h : P (.done (.ret .none)) { s with heap := sortedHeap s.heap a vs vs.toArray }) : wpAny (model prog w) A (Builtin.«list.sort» ⟨[.ref a], []⟩) P E s := by
  rw [list_sort_plain]
  have ha : a < s.heap.objs.size := Heap.lt_size ho
  have hz : vs.length ≤ sizeLine := by rw [sizeLine_eq]; omega
  refine wpAny_bind (listItems_at ho rfl ?_)
  refine wpAny_bind (listUpdate_at ho rfl ?_ (by rw [List.size_toArray]; exact hz) (Nat.zero_le _))
  obtain ⟨e1, ho1⟩ : ∃ e1, (s.heap.update a (Obj.mapSeq fun _ => (#[] : Array Value))).get? a = some (seqObj "list" #[] e1) := ⟨_, get?_update_seq ho (fun _ => #[])⟩
  refine wpAny_bind (seqEpoch_at ho1 rfl ?_)
  refine wpAny_bind (wpAny_newTuple ?_ (by show vs.length ≤ _; exact hz))
  refine wpAny_bind (wpAny_newList ?_ (Nat.zero_le _))
  refine wpAny_holding ?_
  have ho6 : (((s.heap.update a (Obj.mapSeq fun _ => (#[] : Array Value))).push (seqObj "tuple" vs.toArray 0)).push (seqObj "list" #[] 0)).get? a = some (seqObj "list" #[] e1) :=
    Heap.get?_push_of_some _ (Heap.get?_push_of_some _ ho1)
  show wpAny (model prog w) A _ P E { s with heap := ((s.heap.update a (Obj.mapSeq fun _ => (#[] : Array Value))).push (seqObj "tuple" vs.toArray 0)).push (seqObj "list" #[] 0) }
  dsimp only
  have h2' : vs.toArray.size < 2 := by rw [List.size_toArray]; exact h2
  rw [if_pos h2', if_pos h2']
  refine wpAny_bind (wpAny_pure ?_)
  rw [StateT.run_pure]
  refine wpAny_bind (wpAny_pure ?_)
  dsimp only
  have e : (vs.toArray.zip vs.toArray).map (·.2) = vs.toArray := by
    apply Array.toList_inj.mp
    rw [Array.toList_map, Array.toList_zip]
    simp only [List.toList_toArray]
    exact List.map_snd_zip (Nat.le_refl _)
  refine wpAny_bind (seqEpoch_at ho6 rfl ?_)
  refine wpAny_bind (listUpdate_at ho6 rfl ?_ (Nat.zero_le _) (by show ((vs.toArray.zip vs.toArray).map (·.2)).size ≤ _; rw [e, List.size_toArray]; omega))
  simp only [bne_self_eq_false, Bool.false_eq_true, if_false]
  refine wpAny_pure ?_
  show P _ { s with heap := (((s.heap.update a (Obj.mapSeq fun _ => (#[] : Array Value))).push (seqObj "tuple" vs.toArray 0)).push (seqObj "list" #[] 0)).update a (Obj.mapSeq fun _ => (vs.toArray.zip vs.toArray).map (·.2)) }
  rw [e]
  exact h
theorem sorted_short {prog : Program} {w : World} {A : Around} {E : Value → Shared → Prop} {s : Shared} {l : Addr} {vs : List Value} {Q : Value → Shared → Prop} (hl : s.heap.IsList l vs.toArray) (h2 : vs.length < 2)
    (h : Q (.ref (s.heap.objs.size + 1)) { s with heap := sortedAll s.heap vs vs.toArray }) : wpAny (model prog w) A (call (.builtin "sorted") [.ref l]) Q E s := by
  have hz : vs.length ≤ sizeLine := by rw [sizeLine_eq]; omega
  refine Calls.call_function_entry kind_sorted plain_sorted entry_sorted (args_sorted1 _) ?_
  unfold Builtin.«sorted»
  refine wpAny_bind (m := checkCount "sorted" 1 1 _) (wpAny_pure ?_)
  refine wpAny_bind (collect_list hl ?_ hz)
  refine wpAny_bind (wpAny_newList ?_ hz)
  have hsz : ((s.heap.push (seqObj "list" #[] 0)).update s.heap.objs.size (Obj.mapSeq (· ++ vs.toArray))).objs.size = s.heap.objs.size + 1 := by
    rw [Heap.size_update, size_push']
  have hoL : (((s.heap.push (seqObj "list" #[] 0)).update s.heap.objs.size (Obj.mapSeq (· ++ vs.toArray))).push (seqObj "list" vs.toArray 0)).get? (s.heap.objs.size + 1) = some (seqObj "list" vs.toArray 0) := by
    rw [← hsz]; exact Heap.get?_push_size _ rfl
  show wpAny _ _ _ _ _ { s with heap := ((s.heap.push (seqObj "list" #[] 0)).update s.heap.objs.size (Obj.mapSeq (· ++ vs.toArray))).push (seqObj "list" vs.toArray 0) }
  rw [hsz]
  refine wpAny_bind (wpAny_holding (wpAny_call_entry slot_list_sort ⟨_, hoL, rfl⟩ entry_list_sort (sort_short hoL h2 ⟨_, rfl, ?_⟩) (args_list_sort _)))
  exact wpAny_pure ⟨_, rfl, h⟩
theorem wfs_sorted1 {a : Addr} {ds : List D} (h : At S a (.lst ds)) (h2 : ds.length < 2) (k : ∀ b : Addr, K (.ref b) m ((b, .lst ds) :: S)) : WFs c A Is (fun vs => call (.builtin "sorted") vs) [.ref a] L m S K := fun vs s T i => by
  obtain ⟨v, r, rfl, i1, i2⟩ := i.uncons
  have := i2.unnil; subst this
  have := is_val i1; subst this
  obtain ⟨arr, n, g, r⟩ := T.mos a _ h.mem
  obtain ⟨mV, nV, f⟩ := T.fr
  have hlen : arr.toList.length = ds.length := by have := r.length; simpa using this
  have hl : s.heap.IsList a arr.toList.toArray := by simpa using isList_of g
  refine sorted_short (vs := arr.toList) hl (by omega) ?_
  have old : ∀ b o, s.heap.get? b = some o → (sortedAll s.heap arr.toList arr.toList.toArray).get? b = some o := fun b o e => sortedAll_old e
  obtain ⟨e, he⟩ := sortedAll_at s.heap arr.toList arr.toList.toArray
  have hna : s.heap.get? (s.heap.objs.size + 1) = none := by
    cases q : s.heap.get? (s.heap.objs.size + 1) with
    | none => rfl
    | some o => exact absurd (Heap.lt_size q) (Nat.not_lt.mpr (Nat.le_succ _))
  refine pst_new (tk := s.toks) T nV f (fr0 (ns_keep nV old)) (fun p hp => ?_) he hna (by simpa using r.kp (Kp.all (X := []) old) nilX) (k _)
  obtain ⟨h1, h2⟩ := mem_allN.mp hp
  exact ⟨old _ _ h2, h1, hnil_get _⟩
/-- sorted(xs): tuples that part -/
theorem wfs_sorted {a : Addr} {ls : List (List D)} (h : At S a (.lst (ls.map .tup))) (h64 : ls.length < 64) (hne : ∀ x ∈ ls, x ≠ []) (hlike : ∀ x ∈ ls, ∀ y ∈ ls, Like x y) (hnd : ls.Nodup)
    (k : ∀ (b : Addr) (out : List (List D)), out.Perm ls → out.Pairwise (fun x y => ltL x y = true) → K (.ref b) m ((b, .lst (out.map .tup)) :: S)) : WFs c A Is (fun vs => call (.builtin "sorted") vs) [.ref a] L m S K := by
  rcases Nat.lt_or_ge ls.length 2 with h2 | h2
  · refine wfs_sorted1 h (by simpa using h2) fun b => k b ls (List.Perm.refl _) ?_
    match ls, h2 with
    | [], _ => exact .nil
    | [x], _ => exact List.pairwise_singleton _ _
  · exact wfs_sorted2 h h2 h64 hne hlike hnd k

/-! min, max -/
theorem ints_isAll {h : Heap} : ∀ {ns : List Int} {vs : List Value}, IsAll h (ns.map .int) vs → IntsAre vs ns
  | [], _, i => by rw [i.unnil]; exact .nil
  | x :: xs, _, i => by
    obtain ⟨v, r, rfl, i1, i2⟩ := i.uncons
    obtain ⟨t, rfl⟩ := is_int i1
    exact .cons x t (ints_isAll i2)
theorem wfs_min {a : Addr} {ns : List Int} (hh : A.handled = none) (h : At S a (.lst (ns.map .int))) (hne : 0 < ns.length) (k : ∀ M, M ∈ ns → (∀ x, x ∈ ns → M ≤ x) → K (.int M) m S) : WFs c A Is (fun vs => call (.builtin "min") vs) [.ref a] L m S K := fun vs s T i => by
  obtain ⟨v, r, rfl, i1, i2⟩ := i.uncons
  have := i2.unnil; subst this
  have := is_val i1; subst this
  obtain ⟨arr, n, g, r⟩ := T.mos a _ h.mem
  obtain ⟨mV, nV, f⟩ := T.fr
  refine min_list_N hh (fr0 nV) news0 (vs := arr.toList) (by simpa using isList_of g) (ints_isAll r) hne fun h' M t tk F N h1 h2 => ?_
  have ad := St.adapt (tk := tk) T nV f F N
  exact ⟨.int M, m, S, int_is, ad.1, ad.2, k M h1 h2⟩
/-- the greatest text -/
def maxS : Str → List Str → Str
  | x, [] => x
  | x, y :: r => maxS (if ltS x y then y else x) r
theorem maxS_argBest (xs : List Str) : ∀ k, k < xs.length → ∀ r, xs.drop (k + 1) = r → maxS (xs.getD (argBest (fun i j => ltS (xs.getD j (Str.ofString "")) (xs.getD i (Str.ofString ""))) k) (Str.ofString "")) r = maxS (xs.getD 0 (Str.ofString "")) (xs.drop 1)
  | 0, _, r, e => by rw [← e]; rfl
  | k + 1, hk, r, e => by
    have ih := maxS_argBest xs k (by omega) (xs.drop (k + 1)) rfl
    rw [← ih, List.drop_eq_getElem_cons hk, e]
    have eg : xs[k + 1] = xs.getD (k + 1) (Str.ofString "") := by rw [List.getD_eq_getElem?_getD, List.getElem?_eq_getElem hk]; rfl
    rw [eg]
    show _ = maxS (if ltS _ _ = true then _ else _) r
    simp only [argBest]
    split <;> rfl
theorem wfs_max {a : Addr} {x : Str} {xs : List Str} (hh : A.handled = none) (h : At S a (.lst ((x :: xs).map .str))) (k : K (.str (maxS x xs)) m S) : WFs c A Is (fun vs => call (.builtin "max") vs) [.ref a] L m S K := fun vs s T i => by
  obtain ⟨v, r, rfl, i1, i2⟩ := i.uncons
  have := i2.unnil; subst this
  have := is_val i1; subst this
  obtain ⟨arr, n, g, r⟩ := T.mos a _ h.mem
  obtain ⟨mV, nV, f⟩ := T.fr
  have hlen : arr.size = (x :: xs).length := by have := r.length; simpa using this
  have at' : ∀ (j : Nat) (v : Value), arr[j]? = some v → ∃ t, v = .str ((x :: xs).getD j (Str.ofString "")) t := fun j v hv => by
    have hj : j < (x :: xs).length := by have := (Array.getElem?_eq_some_iff.mp hv).1; omega
    obtain ⟨u, hu, iu⟩ := r.get (i := j) (d := .str ((x :: xs).getD j (Str.ofString ""))) (by rw [List.getElem?_map, List.getElem?_eq_getElem hj, List.getD_eq_getElem?_getD, List.getElem?_eq_getElem hj]; rfl)
    rw [Array.getElem?_toList, hv] at hu
    cases hu
    exact is_str iu
  refine call_max_walk (PySem.Flt.iter_list_ (isList_of g) fun s₂ e st hfp hlI => ?_)
  subst e
  have W := Walks.list (prog := c.prog) (w := c.w) (A := A.in1) hh _ a hlI arr
  refine ⟨_, _, _, _, _, _, fun i j => ltS ((x :: xs).getD j (Str.ofString "")) ((x :: xs).getD i (Str.ofString "")), rfl, W, st, hfp, by rw [hlen]; simp, fun i j vi vj s Q E hi hj h => ?_, fun v h' tk hP hk => ?_⟩
  · obtain ⟨t, rfl⟩ := at' i vi hi
    obtain ⟨u, rfl⟩ := at' j vj hj
    exact PySem.P.gt_str h
  · obtain ⟨t, rfl⟩ := at' _ v hP
    have e := maxS_argBest (x :: xs) (arr.size - 1) (by rw [hlen]; simp) [] (by rw [hlen]; simp)
    have e' : (x :: xs).getD (argBest (fun i j => ltS ((x :: xs).getD j (Str.ofString "")) ((x :: xs).getD i (Str.ofString ""))) (arr.size - 1)) (Str.ofString "") = maxS x xs := e
    rw [e']
    have kp := PySem.Flt.kept_iter hk
    refine ⟨_, m, S, str_is, ?_, ?_, k⟩
    · exact T.still kp rfl rfl
    · exact Go.still kp
end

end Mine

namespace Mine

/-! what the law builds -/
def partings : List Str := ["\n\n", "\n \n", "\n\n\n", "\n\t\n", "\n\n \n\n", "\n"]
def wordsL : List Str := ["a", "b", "ab", "b a", "c", "ba"]
/-- a row that parts, and a word -/
abbrev Pc := Str × Str
def Pc.d (x : Pc) : D := .tup [.str x.1, .str x.2]
def piece (x : Int) : Pc := (partings.getD ((x.fdiv 18).fmod 6).toNat "", wordsL.getD ((x.fdiv 3).fmod 6).toNat "")
def rowOf (j : Int) (xs : List Int) : List Pc := (xs.filter fun x => decide (x.fmod 3 = j)).map piece
def more : List Int := [3, 1, 18, 14, 52]

section
variable {c : Cx} {A : Around} {env : Env} {L : Addr} {m : Loc} {S : Sto} {mg mb : Str → Option Value}
variable {K : D → Loc → Sto → Prop}

local macro_rules | `(tactic| kd_mem) => `(tactic| first | with_reducible assumption | with_reducible exact Has.here | ((with_reducible refine' Has.here' ?hd); (case hd => first | rfl | (congr 1; omega))) | (refine' Has.there ?hne ?hh; (case hne => decide +kernel); (case hh => kd_mem)))
local macro_rules | `(tactic| kd_subs) => `(tactic| repeat (first | exact Sub.nil | refine Sub.cons (by kd_mem) ?_))
local macro_rules | `(tactic| kd_in) => `(tactic| repeat (first | with_reducible assumption | with_reducible exact At.here | with_reducible exact Up.here | with_reducible refine At.there ?_ | with_reducible refine Up.there ?_))

theorem wfs_conseq {f : List Value → Sem Value} {ds : List D} {K' : D → Loc → Sto → Prop} (h : WFs c A Is f ds L m S K') (hk : ∀ d m' S', K' d m' S' → ∃ S'', S''.Sublist S' ∧ K d m' S'') : WFs c A Is f ds L m S K := fun vs s T i =>
  wpAny_mono (h vs s T i) (fun v s' ⟨d, m', S', j, T', G, k⟩ => by
    obtain ⟨S'', hs, k'⟩ := hk d m' S' k
    exact ⟨d, m', S'', j, T'.drop hs, G.drop hs, k'⟩) fun _ _ x => x

theorem fmod_cases (x : Int) : x.fmod 3 = 0 ∨ x.fmod 3 = 1 ∨ x.fmod 3 = 2 := by
  have h1 := Int.fmod_nonneg_of_pos x (by decide : (0 : Int) < 3)
  have h2 := Int.fmod_lt_of_pos x (by decide : (0 : Int) < 3)
  omega
theorem fmod6 (x : Int) : 0 ≤ x.fmod 6 ∧ x.fmod 6 < 6 := ⟨Int.fmod_nonneg_of_pos x (by decide), Int.fmod_lt_of_pos x (by decide)⟩
theorem menu_get (l : List Str) (hl : l.length = 6) (x : Int) : (l.map D.str)[(x.fmod 6).toNat]? = some (.str (l.getD (x.fmod 6).toNat "")) := by
  have h := fmod6 x
  have hi : (x.fmod 6).toNat < l.length := by omega
  rw [List.getElem?_map, List.getElem?_eq_getElem hi, List.getD_eq_getElem?_getD, List.getElem?_eq_getElem hi]; rfl
theorem rowOf_snoc (j : Int) (xs : List Int) (x : Int) : (rowOf j (xs ++ [x])).map Pc.d = (rowOf j xs).map Pc.d ++ (if x.fmod 3 = j then [(piece x).d] else []) := by
  unfold rowOf
  rw [List.filter_append, List.map_append, List.map_append]
  congr 1
  by_cases h : x.fmod 3 = j <;> simp [h]

/-- the script's ints, in the base -/
structure Script (c : Cx) (a : Addr) (xs : List Int) : Prop where
  list : ∃ vs, c.h₀.IsList a vs ∧ IsAll c.h₀ (xs.map .int) vs.toList
  len : xs.length ≤ 63

def xsOf (xs : List Int) : List Int := xs.take 12 ++ more

set_option maxRecDepth 100000 in
set_option maxHeartbeats 4000000 in
/-- _law_rows(script) -/
theorem lawRows {fa : Addr} {pm cd doc : Value} {a : Addr} {xs : List Int} (G : Glo c mg mb) (Fa : Fn c fa (fdOf (stN 9) pm cd doc)) (R : Room 2 A) (X : Script c a xs)
    (k : ∀ ar r0 r1 r2 : Addr, K (.ref ar) m ((ar, .lst [.ref r0, .ref r1, .ref r2]) :: (r2, .lst ((rowOf 2 (xsOf xs)).map Pc.d)) :: (r1, .lst ((rowOf 1 (xsOf xs)).map Pc.d)) :: (r0, .lst ((rowOf 0 (xsOf xs)).map Pc.d)) :: S)) :
    WFs c A Is (fun vs => call (.ref fa) vs) [.ref a] L m S K := by
  refine wfs_conseq (K' := fun d m' S' => ∃ ar r0 r1 r2 : Addr, d = .ref ar ∧ m' = m ∧ ((ar, Mo.lst [.ref r0, .ref r1, .ref r2]) :: (r2, .lst ((rowOf 2 (xsOf xs)).map Pc.d)) :: (r1, .lst ((rowOf 1 (xsOf xs)).map Pc.d)) :: (r0, .lst ((rowOf 0 (xsOf xs)).map Pc.d)) :: S).Sublist S') ?_
    fun d m' S' ⟨ar, r0, r1, r2, e1, e2, hs⟩ => by subst e1 e2; exact ⟨_, hs, k ar r0 r1 r2⟩
  refine wfs_def (ps := ["script"]) (body := bodyOf (stN 9)) (m₀ := [("script", .ref a)]) G Fa R.deep rfl rfl (fun vs hv => ?_) (by decide +kernel)
    (by show ∀ x ∈ (fdOf (stN 9) .none .none .none).scope.names, x.2 ≠ .cell; decide +kernel) (by show ∀ x ∈ (["script"] : List Str), (fdOf (stN 9) .none .none .none).scope.names.lookup x = some .local; decide +kernel) rfl fun L' => ?_
  · match vs, hv with
    | [v1], _ => rfl
  · obtain ⟨vs, hvs, his⟩ := X.list
    show WX c _ (execs [_, _, _, _, _] _) _ _ _ _
    refine wx_cons (wx_assign (we_list (ws_cons (we_str (ws_cons (we_str (ws_cons (we_str (ws_cons (we_str (ws_cons (we_str (ws_cons (we_str (ws_nil ⟨Nat.le_of_ble_eq_true rfl, fun a1 => ?_⟩)))))))))))))))
    refine wx_cons (wx_assign (we_list (ws_cons (we_str (ws_cons (we_str (ws_cons (we_str (ws_cons (we_str (ws_cons (we_str (ws_cons (we_str (ws_nil ⟨Nat.le_of_ble_eq_true rfl, fun a2 => ?_⟩)))))))))))))))
    refine wx_cons (wx_assign (we_list (ws_cons (we_list (ws_nil ⟨Nat.le_of_ble_eq_true rfl, fun r0 => ws_cons (we_list (ws_nil ⟨Nat.le_of_ble_eq_true rfl, fun r1 => ws_cons (we_list (ws_nil ⟨Nat.le_of_ble_eq_true rfl, fun r2 => ws_nil ⟨Nat.le_of_ble_eq_true rfl, fun ar => ?_⟩⟩))⟩))⟩)))))
    have e12 : ((xs.map D.int).take 12 ++ [.int 3, .int 1, .int 18, .int 14, .int 52]) = (xsOf xs).map D.int := by unfold xsOf more; simp [List.map_take]
    have hlen := X.len
    have hx1 : (xs.map D.int).length ≤ 2 ^ 20 := by simp; omega
    refine wx_cons (wx_for_list R.in1.handled (we_binop (we_slice_upto (we_name (by kd_mem) (we_int ⟨a, xs.map .int, 12, rfl, lst_base hvs his, rfl, hx1, fun b1 => we_list (ws_cons (we_int (ws_cons (we_int (ws_cons (we_int (ws_cons (we_int (ws_cons (we_int (ws_nil ⟨Nat.le_of_ble_eq_true rfl, fun b2 =>
      wf2_add_list (At.lst (At.there At.here)) (At.lst At.here) (by simp; omega) fun ax => ⟨ax, _, rfl, At.here, ?_⟩⟩)))))))))))⟩)))))
    rw [e12]
    refine ⟨fun i m' S' => Has m' "parting" (.ref a1) ∧ Has m' "words" (.ref a2) ∧ Has m' "rows" (.ref ar) ∧ S' = (ax, Mo.lst ((xsOf xs).map D.int)) :: (b2, .lst [.int 3, .int 1, .int 18, .int 14, .int 52]) :: (b1, .lst ((xs.map D.int).take 12)) :: (ar, .lst [.ref r0, .ref r1, .ref r2]) ::
      (r2, .lst ((rowOf 2 ((xsOf xs).take i)).map Pc.d)) :: (r1, .lst ((rowOf 1 ((xsOf xs).take i)).map Pc.d)) :: (r0, .lst ((rowOf 0 ((xsOf xs).take i)).map Pc.d)) :: (a2, .lst (wordsL.map .str)) :: (a1, .lst (partings.map .str)) :: S, ⟨by kd_mem, by kd_mem, by kd_mem, rfl⟩, ?_, ?_, ?_⟩
    · rintro i m' S' ⟨_, _, _, rfl⟩; exact At.here
    · rintro i e m' S' he ⟨h1, h2, h3, rfl⟩
      rw [List.getElem?_map] at he
      cases hx : (xsOf xs)[i]? with
      | none => rw [hx] at he; cases he
      | some x =>
        rw [hx] at he; cases he
        have et : (xsOf xs).take (i + 1) = (xsOf xs).take i ++ [x] := by
          obtain ⟨hi, rfl⟩ := List.getElem?_eq_some_iff.mp hx
          rw [List.take_append_getElem]
        have hz : ∀ j, ((rowOf j ((xsOf xs).take i)).map Pc.d).length < 2 ^ 20 := fun j => by
          have l1 := List.length_filter_le (fun x => decide (x.fmod 3 = j)) ((xsOf xs).take i)
          have l2 : (xsOf xs).length ≤ 17 := by unfold xsOf more; simp; omega
          simp only [rowOf, List.length_map]
          have l3 : ((xsOf xs).take i).length ≤ 17 := by simp; omega
          omega
        have fm := fmod_cases x
        have hb : ∃ (r : Addr) (ds : List D) (S2 : Sto), ([D.ref r0, .ref r1, .ref r2])[(x.fmod 3).toNat]? = some (.ref r) ∧ Up ((ax, Mo.lst ((xsOf xs).map D.int)) :: (b2, .lst [.int 3, .int 1, .int 18, .int 14, .int 52]) :: (b1, .lst ((xs.map D.int).take 12)) :: (ar, .lst [.ref r0, .ref r1, .ref r2]) :: (r2, .lst ((rowOf 2 ((xsOf xs).take i)).map Pc.d)) :: (r1, .lst ((rowOf 1 ((xsOf xs).take i)).map Pc.d)) :: (r0, .lst ((rowOf 0 ((xsOf xs).take i)).map Pc.d)) :: (a2, .lst (wordsL.map .str)) :: (a1, .lst (partings.map .str)) :: S) r (.lst ds) (.lst (ds ++ [(piece x).d])) S2 ∧ ds.length < 2 ^ 20 ∧ S2 = (ax, Mo.lst ((xsOf xs).map D.int)) :: (b2, .lst [.int 3, .int 1, .int 18, .int 14, .int 52]) :: (b1, .lst ((xs.map D.int).take 12)) :: (ar, .lst [.ref r0, .ref r1, .ref r2]) :: (r2, .lst ((rowOf 2 ((xsOf xs).take (i + 1))).map Pc.d)) :: (r1, .lst ((rowOf 1 ((xsOf xs).take (i + 1))).map Pc.d)) :: (r0, .lst ((rowOf 0 ((xsOf xs).take (i + 1))).map Pc.d)) :: (a2, .lst (wordsL.map .str)) :: (a1, .lst (partings.map .str)) :: S := by
          rw [et, rowOf_snoc, rowOf_snoc, rowOf_snoc]
          rcases fm with h | h | h
          · exact ⟨r0, _, _, by rw [h]; rfl, (.there (.there (.there (.there (.there (.there .here)))))), hz 0, by rw [h, if_neg (by decide), if_neg (by decide), if_pos rfl, List.append_nil, List.append_nil]⟩
          · exact ⟨r1, _, _, by rw [h]; rfl, (.there (.there (.there (.there (.there .here))))), hz 1, by rw [h, if_neg (by decide), if_pos rfl, if_neg (by decide), List.append_nil, List.append_nil]⟩
          · exact ⟨r2, _, _, by rw [h]; rfl, (.there (.there (.there (.there .here)))), hz 2, by rw [h, if_pos rfl, if_neg (by decide), if_neg (by decide), List.append_nil, List.append_nil]⟩
        obtain ⟨r, ds, S2, hr, u, hzz, hS2⟩ := hb
        refine turn_name ?_
        refine wx_cons (wx_expr (we_meth PySem.F.plainAttrs_list PySem.F.slot_list_append PySem.F.type_list_append (we_sub (we_name (by kd_mem) (we_binop (we_name (by kd_mem) (we_int (wf2_mod_int (wf2_item (d := .ref r) (At.there (At.there (At.there At.here))) (by omega) (by omega) hr ⟨own_list u.at.mem, ?_⟩) (by decide) (by decide)))))))))
        refine ws_cons (we_tuple (ws_cons (we_sub (we_name (by kd_mem) (we_binop (we_binop (we_name (by kd_mem) (we_int (wf2_floordiv_int (we_int (wf2_mod_int (wf2_item (ds := partings.map D.str) (d := .str (piece x).1) (by kd_in) (fmod6 _).1 (by have := fmod6 (x.fdiv 18); omega) (menu_get partings rfl _) ?_) (by decide) (by decide))) (by decide) (by decide))))))))))
        refine ws_cons (we_sub (we_name (by kd_mem) (we_binop (we_binop (we_name (by kd_mem) (we_int (wf2_floordiv_int (we_int (wf2_mod_int (wf2_item (ds := wordsL.map D.str) (d := .str (piece x).2) (by kd_in) (fmod6 _).1 (by have := fmod6 (x.fdiv 3); omega) (menu_get wordsL rfl _) ?_) (by decide) (by decide))) (by decide) (by decide))))))))
        exact ws_nil ⟨Nat.le_of_ble_eq_true rfl, ws_nil (wfs_append u hzz (wx_nil ⟨.there (by decide) h1, .there (by decide) h2, .there (by decide) h3, hS2⟩))⟩
    · rintro m' S' ⟨h1, h2, h3, rfl⟩
      rw [List.length_map, List.take_length]
      refine wx_cons (wx_ret (we_name (by kd_mem) ⟨ar, r0, r1, r2, rfl, rfl, ?_⟩))
      refine .cons _ (.cons _ (.cons _ (.cons_cons _ (.cons_cons _ (.cons_cons _ (.cons_cons _ (.cons _ (.cons _ (List.Sublist.refl _)))))))))
end
end Mine

namespace Mine

/-! the merge, plain -/
structure As where
  p : Int
  r : Str
def As.l (x : As) : List D := [.int x.p, .str x.r]
def As.d (x : As) : D := .tup x.l
structure Tl where
  w : Str
  p : Int
def Tl.d (x : Tl) : D := .tup [.str x.w, .int x.p]
def put (st : List It × List As) (p : Int) (x : Str) : List It × List As :=
  if (sd x).1 != (Str.ofString "") then (st.1 ++ [⟨(sd x).1, p, (sd x).2⟩], st.2) else if (sd x).2 != (Str.ofString "") then (st.1, st.2 ++ [⟨p, (sd x).2⟩]) else st
def fed (docs : List Str) : Nat → List It × List As
  | 0 => ([], [])
  | i + 1 => put (fed docs i) i (docs.getD i (Str.ofString ""))
theorem fed_len (docs : List Str) : ∀ i, (fed docs i).1.length ≤ i ∧ (fed docs i).2.length ≤ i
  | 0 => ⟨Nat.le_refl _, Nat.le_refl _⟩
  | i + 1 => by
    have := fed_len docs i
    simp only [fed, put]
    split
    · simp; omega
    · split
      · simp; omega
      · omega
/-- what heappop leaves of x :: r -/
def popped (r : List It) : List It := match r.getLast? with
  | none => []
  | some y => sup (y :: r.dropLast)
def Fits (x : It) (r : List It) (t : List Tl) (a : List As) : Prop := r.length ≤ 2 ∧ t.length < 2 ^ 20 ∧ a.length < 2 ^ 20 ∧ x.r.length ≤ 100000
inductive Runs : Nat → List It → List Tl → List As → List Tl → List As → Prop where
  | fin {t a} : Runs 0 [] t a t a
  | give {n x r t a t' a'} : ((sd x.r).1 != (Str.ofString "")) = true → Fits x r t a → Runs n (sup (⟨(sd x.r).1, x.p, (sd x.r).2⟩ :: r)) (t ++ [⟨x.w, x.p⟩]) a t' a' → Runs (n + 1) (x :: r) t a t' a'
  | take {n x r t a t' a'} : ((sd x.r).1 != (Str.ofString "")) = false → Fits x r t a → Runs n (popped r) (t ++ [⟨x.w, x.p⟩]) (if (sd x.r).2 != (Str.ofString "") then a ++ [⟨x.p, (sd x.r).2⟩] else a) t' a' → Runs (n + 1) (x :: r) t a t' a'

theorem Room.le {n k : Nat} {A : Around} (h : Room n A) (hk : k ≤ n) : Room k A := ⟨h.handled, by have := h.depth; omega, by have := h.units; omega⟩

section
variable {c : Cx} {A : Around} {env : Env} {L : Addr} {m : Loc} {S : Sto} {mg mb : Str → Option Value}
variable {K : D → Loc → Sto → Prop}

local macro_rules | `(tactic| kd_mem) => `(tactic| first | with_reducible assumption | with_reducible exact Has.here | ((with_reducible refine' Has.here' ?hd); (case hd => first | rfl | (congr 1; omega))) | (refine' Has.there ?hne ?hh; (case hne => decide +kernel); (case hh => kd_mem)))
local macro_rules | `(tactic| kd_subs) => `(tactic| repeat (first | exact Sub.nil | refine Sub.cons (by kd_mem) ?_))
local macro_rules | `(tactic| kd_in) => `(tactic| repeat (first | with_reducible assumption | with_reducible exact At.here | with_reducible exact Up.here | with_reducible refine At.there ?_ | with_reducible refine Up.there ?_))


/-- heappop(heap), of one to three -/
theorem heappop {fsd fsu fa : Addr} {pm cd doc : Value} {a : Addr} {x : It} {r : List It} {S' : Sto} (H : HG c mg mb fsd fsu) (Fa : Fn c fa (fdOf (stN 1) pm cd doc)) (R : Room 4 A) (hr : r.length ≤ 2)
    (u : Up S a (.lst ((x :: r).map It.d)) (.lst ((popped r).map It.d)) S') (k : K x.d m S') : WFs c A Is (fun vs => call (.ref fa) vs) [.ref a] L m S K := by
  rcases List.eq_nil_or_concat r with rfl | ⟨q, y, rfl⟩
  · exact heappop1 H Fa R u k
  · simp only [List.concat_eq_append] at u hr
    unfold popped at u
    rw [List.getLast?_concat, List.dropLast_concat] at u
    exact heappop2 H Fa R (by simp at hr; omega) u k

/-- the names that the merge asks for -/
structure MG (c : Cx) (mg mb : Str → Option Value) (fsd fsu fsp fhy fhr fhp : Addr) : Prop where
  h : HG c mg mb fsd fsu
  range0 : mg "range" = none
  range : mb "range" = some (.type "range")
  rev0 : mg "reversed" = none
  rev : mb "reversed" = some (.type "reversed")
  sorted0 : mg "sorted" = none
  sorted : mb "sorted" = some (.builtin "sorted")
  sp : mg "splitdoc" = some (.ref fsp)
  hy : mg "heapify" = some (.ref fhy)
  hr : mg "heapreplace" = some (.ref fhr)
  hp : mg "heappop" = some (.ref fhp)
  fsp : ∃ pm cd doc, Fn c fsp (fdOf (stN 7) pm cd doc)
  fhy : ∃ pm cd doc, Fn c fhy (fdOf (stN 3) pm cd doc)
  fhr : ∃ pm cd doc, Fn c fhr (fdOf (stN 2) pm cd doc)
  fhp : ∃ pm cd doc, Fn c fhp (fdOf (stN 1) pm cd doc)

set_option maxRecDepth 100000 in
set_option maxHeartbeats 4000000 in
/-- _law_merged(docs) -/
theorem lawMerged {fa fsd fsu fsp fhy fhr fhp : Addr} {pm cd doc : Value} {ad : Addr} {docs : List Str} {n : Nat} {told : List Tl} {fin : List As} (M : MG c mg mb fsd fsu fsp fhy fhr fhp) (Fa : Fn c fa (fdOf (stN 10) pm cd doc)) (R : Room 6 A)
    (hd : At S ad (.lst (docs.map .str))) (h3 : docs.length ≤ 3) (hz : ∀ x ∈ docs, x.length ≤ 100000) (run : Runs n (sup (fed docs docs.length).1) [] (fed docs docs.length).2 told fin)
    (h64 : fin.length < 64) (hnd : (fin.map As.l).Nodup)
    (k : ∀ (at' ab : Addr) (out : List (List D)), out.Perm (fin.map As.l) → out.Pairwise (fun x y => ltL x y = true) → K (.tup [.ref at', .ref ab]) m ((ab, .lst (out.map .tup)) :: (at', .lst (told.map Tl.d)) :: S)) :
    WFs c A Is (fun vs => call (.ref fa) vs) [.ref ad] L m S K := by
  refine wfs_conseq (K' := fun d m' S' => ∃ (at' ab : Addr) (out : List (List D)), d = .tup [.ref at', .ref ab] ∧ m' = m ∧ out.Perm (fin.map As.l) ∧ out.Pairwise (fun x y => ltL x y = true) ∧ ((ab, Mo.lst (out.map .tup)) :: (at', .lst (told.map Tl.d)) :: S).Sublist S') ?_
    fun d m' S' ⟨at', ab, out, e1, e2, h1, h2, hs⟩ => by subst e1 e2; exact ⟨_, hs, k at' ab out h1 h2⟩
  obtain ⟨pm1, cd1, doc1, F1⟩ := M.fsp
  obtain ⟨o1, ho1, hd1⟩ := F1.stands
  obtain ⟨pm2, cd2, doc2, F2⟩ := M.fhy
  obtain ⟨o2, ho2, hd2⟩ := F2.stands
  obtain ⟨pm3, cd3, doc3, F3⟩ := M.fhr
  obtain ⟨o3, ho3, hd3⟩ := F3.stands
  obtain ⟨pm4, cd4, doc4, F4⟩ := M.fhp
  obtain ⟨o4, ho4, hd4⟩ := F4.stands
  have G := M.h.glo
  refine wfs_def (ps := ["docs"]) (body := bodyOf (stN 10)) (m₀ := [("docs", .ref ad)]) G Fa R.deep rfl rfl (fun vs hv => ?_) (by decide +kernel)
    (by show ∀ x ∈ (fdOf (stN 10) .none .none .none).scope.names, x.2 ≠ .cell; decide +kernel) (by show ∀ x ∈ (["docs"] : List Str), (fdOf (stN 10) .none .none .none).scope.names.lookup x = some .local; decide +kernel) rfl fun L' => ?_
  · match vs, hv with
    | [v1], _ => rfl
  · have R5 := R.deeper (env := callEnv (fdOf (stN 10) pm cd doc) L' fa)
    have R4 := R5.le (k := 4) (by decide)
    have R2 := R5.le (k := 2) (by decide)
    show WX c _ (execs [_, _, _, _, _, _, _] _) _ _ _ _
    refine wx_cons (wx_assign (we_list (ws_nil ⟨Nat.le_of_ble_eq_true rfl, fun ah => ?_⟩)))
    refine wx_cons (wx_assign (we_list (ws_nil ⟨Nat.le_of_ble_eq_true rfl, fun at' => ?_⟩)))
    refine wx_cons (wx_assign (we_list (ws_nil ⟨Nat.le_of_ble_eq_true rfl, fun aa => ?_⟩)))
    have hlen : (docs.map D.str).length = docs.length := by simp
    refine wx_cons (wx_for_range R5.handled (we_call_t (we_builtin G M.range0 M.range ⟨rfl, ws_cons (we_call_b (we_builtin G M.h.len0 M.h.len ⟨rfl, ws_cons (we_name (by kd_mem) (ws_nil (wfs_len (.there (.there (.there hd))) (by rw [hlen]; omega) (ws_nil (wfs_range ⟨docs.length, by rw [hlen], by omega, ?_⟩)))))⟩))⟩)))
    refine ⟨fun i m' S' => Has m' "docs" (.ref ad) ∧ Has m' "heap" (.ref ah) ∧ Has m' "told" (.ref at') ∧ Has m' "aside" (.ref aa) ∧ S' = (aa, .lst ((fed docs i).2.map As.d)) :: (at', .lst []) :: (ah, .lst ((fed docs i).1.map It.d)) :: S, ⟨by kd_mem, by kd_mem, by kd_mem, by kd_mem, rfl⟩, ?_, ?_⟩
    · rintro i m' S' hi ⟨g1, g2, g3, g4, rfl⟩
      refine turn_name ?_
      have hg : docs[i]? = some (docs.getD i (Str.ofString "")) := by rw [List.getD_eq_getElem?_getD, List.getElem?_eq_getElem hi]; rfl
      generalize hx : docs.getD i (Str.ofString "") = x at hg
      have hzx := hz x (List.mem_of_getElem? hg)
      have fl := fed_len docs i
      have hJ : fed docs (i + 1) = put (fed docs i) i x := by show put _ _ _ = _; rw [hx]
      refine wx_cons (wx_assign_tuple (we_call_f ho1 hd1 (we_global G M.sp ⟨rfl, ws_cons (we_sub (we_name (by kd_mem) (we_name (by kd_mem) (wf2_item (ds := docs.map D.str) (i := i) (d := .str x) (.there (.there (.there hd))) (by omega) (by omega) (by rw [List.getElem?_map]; simp [hg]) (ws_nil (splitdoc G M.h.len0 M.h.len F1 R2 hzx (wu_tuple R5.handled (wa_name (wa_name (wa_nil ?_))))))))))⟩)))
      refine wx_cons (wx_if (wb_cmp (we_name (by kd_mem) (we_str (wf2_ne_str ⟨_, rfl, ?_⟩)))))
      by_cases c1 : ((sd x).1 != (Str.ofString "")) = true
      · rw [if_pos c1]
        refine wx_cons (wx_expr (we_meth PySem.F.plainAttrs_list PySem.F.slot_list_append PySem.F.type_list_append (we_name (by kd_mem) ⟨own_list (At.mem (.there (.there .here))), ws_cons (we_tuple (ws_cons (we_name (by kd_mem) (ws_cons (we_name (by kd_mem) (ws_cons (we_name (by kd_mem) (ws_nil ⟨Nat.le_of_ble_eq_true rfl, ?_⟩))))))))⟩)))
        refine ws_nil (wfs_append (.there (.there .here)) (by simp; omega) (wx_nil (wx_nil ?_)))
        refine ⟨by kd_mem, by kd_mem, by kd_mem, by kd_mem, ?_⟩
        rw [hJ]; unfold put; rw [if_pos c1]; simp [It.d]
      · rw [if_neg c1]
        refine wx_cons (wx_if (wb_cmp (we_name (by kd_mem) (we_str (wf2_ne_str ⟨_, rfl, ?_⟩)))))
        by_cases c2 : ((sd x).2 != (Str.ofString "")) = true
        · rw [if_pos c2]
          refine wx_cons (wx_expr (we_meth PySem.F.plainAttrs_list PySem.F.slot_list_append PySem.F.type_list_append (we_name (by kd_mem) ⟨own_list (At.mem .here), ws_cons (we_tuple (ws_cons (we_name (by kd_mem) (ws_cons (we_name (by kd_mem) (ws_nil ⟨Nat.le_of_ble_eq_true rfl, ?_⟩))))))⟩)))
          refine ws_nil (wfs_append .here (by simp; omega) (wx_nil (wx_nil (wx_nil ?_))))
          refine ⟨by kd_mem, by kd_mem, by kd_mem, by kd_mem, ?_⟩
          rw [hJ]; unfold put; rw [if_neg c1, if_pos c2]; simp [As.d, As.l]
        · rw [if_neg c2]
          refine wx_nil (wx_nil (wx_nil ?_))
          refine ⟨by kd_mem, by kd_mem, by kd_mem, by kd_mem, ?_⟩
          rw [hJ]; unfold put; rw [if_neg c1, if_neg c2]
    · rintro m' S' ⟨g1, g2, g3, g4, rfl⟩
      have fl := fed_len docs docs.length
      refine wx_cons (wx_expr (we_call_f ho2 hd2 (we_global G M.hy ⟨rfl, ws_cons (we_name (by kd_mem) (ws_nil (heapify M.h M.range0 M.range M.rev0 M.rev F2 R4 (by omega) (.there (.there .here)) ?_)))⟩)))
      have ea : fin.map As.d = (fin.map As.l).map D.tup := by rw [List.map_map]; rfl
      refine wx_cons (wx_while (fun n m' S' => ∃ h t a, Runs n h t a told fin ∧ Has m' "heap" (.ref ah) ∧ Has m' "told" (.ref at') ∧ Has m' "aside" (.ref aa) ∧ S' = (aa, .lst (a.map As.d)) :: (at', .lst (t.map Tl.d)) :: (ah, .lst (h.map It.d)) :: S) ?_ n ⟨_, _, _, run, g2, g3, g4, rfl⟩)
      clear run g1 g2 g3 g4
      rintro n m' S' ⟨h, t, a, run, g2, g3, g4, rfl⟩
      refine wb_cmp (we_name (by kd_mem) (we_list (ws_nil ⟨Nat.le_of_ble_eq_true rfl, fun b => wf2_ne_nil (ds := h.map It.d) (.there (.there (.there .here))) .here R5.unit ⟨_, rfl, ?_⟩⟩)))
      cases run with
      | fin =>
        rw [if_neg (by simp)]
        refine wx_cons (wx_ret (we_tuple (ws_cons (we_name (by kd_mem) (ws_cons (we_call_b (we_builtin G M.sorted0 M.sorted ⟨rfl, ws_cons (we_name (by kd_mem) (ws_nil (wfs_sorted (ls := fin.map As.l) (by rw [ea]; exact .there .here) (by simpa using h64) (by simp [As.l]) (by simp only [List.mem_map]; rintro _ ⟨x, _, rfl⟩ _ ⟨y, _, rfl⟩; exact .int (.str .nil)) hnd fun ab out p1 p2 => ws_nil ⟨Nat.le_of_ble_eq_true rfl, ?_⟩)))⟩)))))))
        exact ⟨at', ab, out, rfl, rfl, p1, p2, .cons_cons _ (.cons _ (.cons _ (.cons_cons _ (.cons _ (List.Sublist.refl _)))))⟩
      | @give n x r _ _ _ _ c1 f run =>
        obtain ⟨fr, ft, fa', fz⟩ := f
        rw [if_pos (by simp)]
        refine wg_drop ?_ (List.sublist_cons_self _ _)
        refine wx_cons (wx_assign (we_sub (we_name (by kd_mem) (we_int (wf2_item (d := x.d) (ds := (x :: r).map It.d) (.there (.there .here)) (by decide) (by decide) rfl ?_)))))
        refine wx_cons (wx_expr (we_meth PySem.F.plainAttrs_list PySem.F.slot_list_append PySem.F.type_list_append (we_name (by kd_mem) ⟨own_list (At.mem (.there .here)), ws_cons (we_tuple (ws_cons (we_sub (we_name (d := x.d) (by kd_mem) (we_int (wf2_place (ds := [.str x.w, .int x.p, .str x.r]) (d := .str x.w) (by decide) (by decide) rfl (ws_cons (we_sub (we_name (d := x.d) (by kd_mem) (we_int (wf2_place (ds := [.str x.w, .int x.p, .str x.r]) (d := .int x.p) (by decide) (by decide) rfl (ws_nil ⟨Nat.le_of_ble_eq_true rfl, ws_nil (wfs_append (.there .here) (by simp; omega) ?_)⟩))))))))))))⟩)))
        refine wx_cons (wx_assign_tuple (we_call_f ho1 hd1 (we_global G M.sp ⟨rfl, ws_cons (we_sub (we_name (d := x.d) (by kd_mem) (we_int (wf2_place (ds := [.str x.w, .int x.p, .str x.r]) (d := .str x.r) (by decide) (by decide) rfl (ws_nil (splitdoc G M.h.len0 M.h.len F1 R2 fz (wu_tuple R5.handled (wa_name (wa_name (wa_nil ?_))))))))))⟩)))
        refine wx_cons (wx_if (wb_cmp (we_name (by kd_mem) (we_str (wf2_ne_str ⟨_, rfl, ?_⟩)))))
        rw [if_pos c1]
        refine wx_cons (wx_assign (we_call_f ho3 hd3 (we_global G M.hr ⟨rfl, ws_cons (we_name (by kd_mem) (ws_cons (we_tuple (ws_cons (we_name (by kd_mem) (ws_cons (we_sub (we_name (d := x.d) (by kd_mem) (we_int (wf2_place (ds := [.str x.w, .int x.p, .str x.r]) (d := .int x.p) (by decide) (by decide) rfl (ws_cons (we_name (by kd_mem) (ws_nil ⟨Nat.le_of_ble_eq_true rfl, ws_nil (heapreplace (x := x) (y := ⟨(sd x.r).1, x.p, (sd x.r).2⟩) (r := r) M.h F3 R4 fr (.there (.there .here)) ?_)⟩)))))))))))))⟩)))
        refine wx_nil ?_
        refine wx_cons (wx_if (wb_cmp (we_name (d := x.d) (by kd_mem) (we_name (d := x.d) (by kd_mem) (wf2_ne_same (ds := [.str x.w, .int x.p, .str x.r]) (by simp [flat]) R5.unit ⟨_, rfl, ?_⟩)))))
        rw [if_neg (by decide)]
        refine wx_nil (wx_nil ⟨_, Nat.lt_succ_self _, _, _, _, run, by kd_mem, by kd_mem, by kd_mem, ?_⟩)
        simp [Tl.d]
      | @take n x r _ _ _ _ c1 f run =>
        obtain ⟨fr, ft, fa', fz⟩ := f
        rw [if_pos (by simp)]
        refine wg_drop ?_ (List.sublist_cons_self _ _)
        refine wx_cons (wx_assign (we_sub (we_name (by kd_mem) (we_int (wf2_item (d := x.d) (ds := (x :: r).map It.d) (.there (.there .here)) (by decide) (by decide) rfl ?_)))))
        refine wx_cons (wx_expr (we_meth PySem.F.plainAttrs_list PySem.F.slot_list_append PySem.F.type_list_append (we_name (by kd_mem) ⟨own_list (At.mem (.there .here)), ws_cons (we_tuple (ws_cons (we_sub (we_name (d := x.d) (by kd_mem) (we_int (wf2_place (ds := [.str x.w, .int x.p, .str x.r]) (d := .str x.w) (by decide) (by decide) rfl (ws_cons (we_sub (we_name (d := x.d) (by kd_mem) (we_int (wf2_place (ds := [.str x.w, .int x.p, .str x.r]) (d := .int x.p) (by decide) (by decide) rfl (ws_nil ⟨Nat.le_of_ble_eq_true rfl, ws_nil (wfs_append (.there .here) (by simp; omega) ?_)⟩))))))))))))⟩)))
        refine wx_cons (wx_assign_tuple (we_call_f ho1 hd1 (we_global G M.sp ⟨rfl, ws_cons (we_sub (we_name (d := x.d) (by kd_mem) (we_int (wf2_place (ds := [.str x.w, .int x.p, .str x.r]) (d := .str x.r) (by decide) (by decide) rfl (ws_nil (splitdoc G M.h.len0 M.h.len F1 R2 fz (wu_tuple R5.handled (wa_name (wa_name (wa_nil ?_))))))))))⟩)))
        refine wx_cons (wx_if (wb_cmp (we_name (by kd_mem) (we_str (wf2_ne_str ⟨_, rfl, ?_⟩)))))
        rw [if_neg (by rw [c1]; decide)]
        refine wx_cons (wx_assign (we_call_f ho4 hd4 (we_global G M.hp ⟨rfl, ws_cons (we_name (by kd_mem) (ws_nil (heappop (x := x) (r := r) M.h F4 R4 fr (.there (.there .here)) ?_)))⟩)))
        refine wx_cons (wx_if (wb_cmp (we_name (by kd_mem) (we_str (wf2_ne_str ⟨_, rfl, ?_⟩)))))
        by_cases c2 : ((sd x.r).2 != (Str.ofString "")) = true
        · rw [if_pos c2] at run
          rw [if_pos c2]
          refine wx_cons (wx_expr (we_meth PySem.F.plainAttrs_list PySem.F.slot_list_append PySem.F.type_list_append (we_name (by kd_mem) ⟨own_list (At.mem .here), ws_cons (we_tuple (ws_cons (we_sub (we_name (d := x.d) (by kd_mem) (we_int (wf2_place (ds := [.str x.w, .int x.p, .str x.r]) (d := .int x.p) (by decide) (by decide) rfl (ws_cons (we_name (by kd_mem) (ws_nil ⟨Nat.le_of_ble_eq_true rfl, ws_nil (wfs_append .here (by simp; omega) ?_)⟩)))))))))⟩)))
          refine wx_nil (wx_nil ?_)
          refine wx_cons (wx_if (wb_cmp (we_name (d := x.d) (by kd_mem) (we_name (d := x.d) (by kd_mem) (wf2_ne_same (ds := [.str x.w, .int x.p, .str x.r]) (by simp [flat]) R5.unit ⟨_, rfl, ?_⟩)))))
          rw [if_neg (by decide)]
          refine wx_nil (wx_nil ⟨_, Nat.lt_succ_self _, _, _, _, run, by kd_mem, by kd_mem, by kd_mem, ?_⟩)
          simp [Tl.d, As.d, As.l]
        · rw [if_neg c2] at run
          rw [if_neg c2]
          refine wx_nil (wx_nil ?_)
          refine wx_cons (wx_if (wb_cmp (we_name (d := x.d) (by kd_mem) (we_name (d := x.d) (by kd_mem) (wf2_ne_same (ds := [.str x.w, .int x.p, .str x.r]) (by simp [flat]) R5.unit ⟨_, rfl, ?_⟩)))))
          rw [if_neg (by decide)]
          refine wx_nil (wx_nil ⟨_, Nat.lt_succ_self _, _, _, _, run, by kd_mem, by kd_mem, by kd_mem, ?_⟩)
          simp [Tl.d]
end
end Mine

namespace Mine

section
variable {c : Cx} {A : Around} {env : Env} {L : Addr} {m : Loc} {S : Sto} {mg mb : Str → Option Value}
variable {K : D → Loc → Sto → Prop}

/-! names in cells -/
theorem moIs_cel {h : Heap} {a : Addr} {o : Option D} (x : MoIs h a (.cel o)) : ∃ v, h.IsCell a v := by
  cases o with
  | none => obtain ⟨o, g, r⟩ := x; exact ⟨_, o, g, r⟩
  | some d => obtain ⟨o, v, g, r, _⟩ := x; exact ⟨_, o, g, r⟩
theorem we_cellname {x : Str} {pos : Pos} {a : Addr} {d : D} (h : At S a (.cel (some d))) (k : K d m S) (hk : env.scope.kind = .function := by rfl) (hl : env.kindOf x = some .cell := by rfl) (hc : env.cells.lookup x = some a := by rfl)
    (hd : (x == ("__debug__" : Str)) = false := by decide) : WE c A (eval (.Name x pos) env) L m S K := fun s T => by
  obtain ⟨o, v, g, r, i⟩ := T.mos a _ h.mem
  exact wpAny_Name (wpAny_loadName_cell hk hl hc ⟨o, g, r⟩ ⟨_, _, _, i, T, Go.refl, k⟩) hd
theorem wx_assign_cell {x : Str} {pos' pos : Pos} {value : Expr} {K : Fl → Loc → Sto → Prop} {a : Addr}
    (h : WE c A (eval value env) L m S fun d m S => ∃ o S', Up S a (.cel o) (.cel (some d)) S' ∧ K .nxt m S')
    (hk : env.scope.kind = .function := by rfl) (hl : env.kindOf x = some .cell := by rfl) (hc : env.cells.lookup x = some a := by rfl)
    (hs : swapsWith value (some (.Name x pos')) pos.line env = pure false := by rfl) : WX c A (exec (.Assign [.Name x pos'] value pos) env) L m S K := fun s T =>
  wpAny_Assign_Name (wpAny_mono (h s T) (fun v s₁ ⟨d, m₁, S₁, i, T₁, G₁, o, S', u, k⟩ => by
    obtain ⟨v₀, hv₀⟩ := moIs_cel (T₁.mos a _ u.at.mem)
    refine wpAny_storeName_cell hk hl hc hv₀ fun h' hv hsb => ?_
    obtain ⟨ob, hob, hdat⟩ := hv
    have ha := dom_mem u.at.mem
    have hm : MoIs h' a (.cel (some d)) := ⟨ob, v, hob, hdat, i.kp (Kp.of_same hsb (List.mem_cons_self ..) ⟨ob, hob⟩) fun b hb => T₁.notTup b (List.mem_cons.mpr (.inr (List.mem_singleton.mp hb ▸ ha)))⟩
    exact ⟨.nxt, m₁, S', rfl, T₁.up (tk := s₁.toks) u hsb hm, G₁.trans (Go.up u hsb hm.stands), k⟩) fun _ _ x => x) hs

/-- a def of one parameter, with one cell -/
theorem wfs_cell {fa : Addr} {fd : FuncData} {body : List Stmt} {p x : Str} {d : D} (G : Glo c mg mb) (Fa : Fn c fa fd) (hroom : A.depth < recursionLimit) (hbody : fd.body = .stmts body)
    (hbind : ∀ v, bindArgs fd ⟨[v], []⟩ = pure [(p, v)]) (hcell : ∀ n, cellsFrom n fd.scope.names [] = [(x, n)]) (hloc : fd.scope.names.lookup p = some .local)
    (h : ∀ L', WX c (A.deeper (callEnvC fd L' fa)) (execs body (callEnvC fd L' fa)) L' [(p, d)] ((L' + 1, .cel none) :: S) fun f _ S => K f.val m S)
    (hclo : fd.closure = [] := by rfl) (hco : fd.scope.isCoroutine = false := by rfl) (hgen : fd.scope.isGenerator = false := by rfl) (hk : fd.scope.kind = .function := by rfl) :
    WFs c A Is (fun vs => call (.ref fa) vs) [d] L m S K := fun vs s T i => by
  obtain ⟨v, r, rfl, i1, i2⟩ := i.uncons
  have := i2.unnil; subst this
  obtain ⟨o, ho, hd⟩ := Fa.stands
  refine wpAny_call (codeAny_call_cells (binds := [(p, v)]) hroom (T.keep _ _ ho) hd (G.lim.keeps T.keep) (Fa.code.keeps T.keep) hbody (hbind v) hclo (fun y hy => .inl (by rw [List.mem_singleton.mp hy]; exact hloc)) (fun s₁ X => ?_) hco hgen hk)
  have hns := X.toInCall.ns
  have hkp := X.toInCall.keep
  obtain ⟨h₁, tk, rfl⟩ := X.toInCall.same
  have hce : (callEnvC fd s.heap.objs.size fa).cells = [(x, s.heap.objs.size + 1)] := hcell _
  have hcl := X.cell x (s.heap.objs.size + 1) (by rw [hce]; simp [List.lookup])
  have ekind : (callEnvC fd s.heap.objs.size fa).kindOf p = some .local := hloc
  have eL : bindL (callEnvC fd s.heap.objs.size fa).kindOf [(p, v)] (fun _ => none) = fun y => ([p].zip [v]).reverse.lookup y := by
    funext y
    simp only [bindL, ekind, if_true]
    by_cases hy : y = p
    · subst hy; simp [List.lookup]
    · have : (y == p) = false := by simpa using hy
      simp [hy, List.lookup, this]
  have eC : bindC (callEnvC fd s.heap.objs.size fa).kindOf [(p, v)] (fun _ => none) = fun _ => none := by simp only [bindC, ekind, if_true]
  rw [eC] at hcl
  have hns' : h₁.Ns s.heap.objs.size (fun y => ([p].zip [v]).reverse.lookup y) := eL ▸ hns
  have T₁ := T.enter (tk := tk) (ps := [p]) (by simp) i rfl hns' hkp
  have hnone : s.heap.get? (s.heap.objs.size + 1) = none := by
    cases e : s.heap.get? (s.heap.objs.size + 1) with
    | none => rfl
    | some o => exact absurd (Heap.lt_size e) (Nat.not_lt.mpr (Nat.le_succ _))
  have hn0 : c.h₀.get? (s.heap.objs.size + 1) = none := by
    cases e : c.h₀.get? (s.heap.objs.size + 1) with
    | none => rfl
    | some o => rw [T.keep _ _ e] at hnone; cases hnone
  have hnS : s.heap.objs.size + 1 ∉ dom S := fun q => absurd (T.ltS q) (Nat.not_lt.mpr (Nat.le_succ _))
  obtain ⟨ob, hob, hdat⟩ := hcl
  have T₂ := T₁.lay (a := s.heap.objs.size + 1) (o := .cel none) hn0 hnS ⟨ob, hob, hdat⟩
  refine wpAny_mono (h _ _ T₂) (fun f s₂ ⟨fl, m₂, S₂, j, T₃, G₂, k₂⟩ => ?_) fun _ _ x => x.elim
  have hLn : s.heap.get? s.heap.objs.size = none := none_size _
  have ne : ∀ a o, s.heap.get? a = some o → a ∉ dom S → a ∉ s.heap.objs.size :: dom ((s.heap.objs.size + 1, Mo.cel none) :: S) := fun a o e n q => by
    rcases List.mem_cons.mp q with q | q
    · rw [q, hLn] at e; cases e
    · rcases List.mem_cons.mp q with q | q
      · rw [(q : a = s.heap.objs.size + 1), hnone] at e; cases e
      · exact n q
  have GG : Go s.heap.objs.size S S₂ s s₂ := ⟨⟨fun a o e => G₂.kp.1 a o (hkp a o e), fun a o n e => G₂.kp.2 a o (ne a o e fun q => n (List.mem_cons.mpr (.inr q))) (hkp a o e)⟩, fun a ha => by
    rcases G₂.new a ha with q | q
    · rcases List.mem_cons.mp q with q | q
      · exact .inr (by rw [(q : a = s.heap.objs.size + 1)]; exact hnone)
      · exact .inl q
    · refine .inr ?_
      cases e : s.heap.get? a with
      | none => rfl
      | some o => have := hkp a o e; exact absurd (this.symm.trans q) (by simp)⟩
  have back := T.leave2 hLn T₃ GG
  cases fl with
  | ret d => obtain ⟨v, rfl, i⟩ := j; exact ⟨d, m, S₂, i, back.1, back.2, k₂⟩
  | nxt => cases (j : f = .next); exact ⟨.non, m, S₂, val_is, back.1, back.2, k₂⟩
  | brk => cases (j : f = .brk); exact ⟨.non, m, S₂, val_is, back.1, back.2, k₂⟩
  | cont => cases (j : f = .cont); exact ⟨.non, m, S₂, val_is, back.1, back.2, k₂⟩
end
end Mine

namespace Mine

/-! what is due, plain -/
def pc0 : Pc := (Str.ofString "", Str.ofString "")
def isTorn (row : List Pc) (k : Nat) : Bool := (row.getD (k + 1) pc0).1 == Str.ofString "\n"
def tornOf (row : List Pc) : List Nat := (List.range (row.length - 1)).filter (isTorn row)
def endOf (row : List Pc) : Nat := (tornOf row).headD row.length
def peakOf (row : List Pc) (k : Nat) : Str := match (row.take (k + 1)).map (·.2) with
  | [] => Str.ofString ""
  | x :: xs => maxS x xs
structure Im where
  peak : Str
  place : Int
  k : Int
  word : Str
def Im.l (x : Im) : List D := [.str x.peak, .int x.place, .int x.k, .str x.word]
def Im.d (x : Im) : D := .tup x.l
def Im.tl (x : Im) : Tl := ⟨x.word, x.place⟩
def rowItems (place : Int) (row : List Pc) (n : Nat) : List Im := (List.range n).map fun k => ⟨peakOf row k, place, k, (row.getD k pc0).2⟩
def textFrom (row : List Pc) (e : Nat) : Str := (row.getD e pc0).2 ++ Txt.join (Str.ofString "") ((row.drop (e + 1)).map fun x => x.1 ++ x.2)
def dueItems (rows : List (List Pc)) : Nat → List Im
  | 0 => []
  | i + 1 => dueItems rows i ++ rowItems i (rows.getD i []) (endOf (rows.getD i []))
def dueAside (rows : List (List Pc)) : Nat → List As
  | 0 => []
  | i + 1 => dueAside rows i ++ if tornOf (rows.getD i []) = [] then [] else [⟨i, textFrom (rows.getD i []) (endOf (rows.getD i []))⟩]
theorem torn_lt {row : List Pc} {k : Nat} (h : k ∈ tornOf row) : k < row.length - 1 := List.mem_range.mp (List.mem_filter.mp h).1
theorem torn_sorted (row : List Pc) : (tornOf row).Pairwise (· < ·) := List.Pairwise.filter _ List.pairwise_lt_range
theorem end_min {row : List Pc} {M : Int} (hM : M ∈ (tornOf row).map (fun k : Nat => (k : Int)) ++ [(row.length : Int)]) (hmin : ∀ x, x ∈ (tornOf row).map (fun k : Nat => (k : Int)) ++ [(row.length : Int)] → M ≤ x) : M = endOf row := by
  have hs := torn_sorted row
  have hl := @torn_lt row
  unfold endOf
  cases e : tornOf row with
  | nil => rw [e] at hM; simpa using hM
  | cons a r =>
    rw [e] at hM hmin hs
    have h1 := hmin a (by simp)
    have ha := hl (e ▸ List.mem_cons_self ..)
    show M = (a : Int)
    rw [List.mem_append, List.mem_map] at hM
    rcases hM with ⟨b, hb, rfl⟩ | hM
    · rcases List.mem_cons.mp hb with rfl | hb
      · rfl
      · have := (List.pairwise_cons.mp hs).1 b hb; omega
    · have := List.mem_singleton.mp hM; omega
theorem end_le (row : List Pc) : endOf row ≤ row.length := by
  have hl := @torn_lt row
  unfold endOf
  cases e : tornOf row with
  | nil => exact Nat.le_refl _
  | cons a r => have := hl (e ▸ List.mem_cons_self ..); show a ≤ _; omega
theorem end_lt {row : List Pc} (h : tornOf row ≠ []) : endOf row < row.length - 1 := by
  have hl := @torn_lt row
  unfold endOf
  cases e : tornOf row with
  | nil => exact absurd e h
  | cons a r => show a < _; exact hl (by rw [e]; exact List.mem_cons_self ..)
theorem rowItems_succ (p : Int) (row : List Pc) (k : Nat) : rowItems p row (k + 1) = rowItems p row k ++ [⟨peakOf row k, p, k, (row.getD k pc0).2⟩] := by
  simp [rowItems, List.range_succ]
structure RowOk (row : List Pc) : Prop where
  pos : 1 ≤ row.length
  few : row.length ≤ 100
  small : ∀ x ∈ row, x.1.length ≤ 8 ∧ x.2.length ≤ 8
theorem sum_le {α : Type} {f : α → Nat} {b : Nat} : ∀ {l : List α}, (∀ x ∈ l, f x ≤ b) → (l.map f).sum ≤ b * l.length
  | [], _ => by simp
  | x :: l, h => by
    have := sum_le (l := l) fun y hy => h y (List.mem_cons_of_mem _ hy)
    have := h x (List.mem_cons_self ..)
    simp only [List.map_cons, List.sum_cons, List.length_cons, Nat.mul_succ]; omega
theorem dueItems_len {rows : List (List Pc)} (h : ∀ row ∈ rows, RowOk row) : ∀ i, i ≤ rows.length → (dueItems rows i).length ≤ 100 * i
  | 0, _ => Nat.le_refl _
  | i + 1, hi => by
    have := dueItems_len h i (by omega)
    have hr : rows.getD i [] ∈ rows := by rw [List.getD_eq_getElem?_getD, List.getElem?_eq_getElem (by omega)]; exact List.getElem_mem _
    have := (h _ hr).few
    have := end_le (rows.getD i [])
    simp only [dueItems, List.length_append, rowItems, List.length_map, List.length_range]; omega
theorem dueAside_len (rows : List (List Pc)) : ∀ i, (dueAside rows i).length ≤ i
  | 0 => Nat.le_refl _
  | i + 1 => by
    have := dueAside_len rows i
    simp only [dueAside, List.length_append]
    split <;> simp <;> omega

section
variable {c : Cx} {A : Around} {env : Env} {L : Addr} {m : Loc} {S : Sto} {mg mb : Str → Option Value}
variable {K : D → Loc → Sto → Prop}

local macro_rules | `(tactic| kd_mem) => `(tactic| first | with_reducible assumption | with_reducible exact Has.here | ((with_reducible refine' Has.here' ?hd); (case hd => first | rfl | (congr 1; omega))) | (refine' Has.there ?hne ?hh; (case hne => decide +kernel); (case hh => kd_mem)))
local macro_rules | `(tactic| kd_subs) => `(tactic| repeat (first | exact Sub.nil | refine Sub.cons (by kd_mem) ?_))
local macro_rules | `(tactic| kd_in) => `(tactic| repeat (first | with_reducible assumption | with_reducible exact At.here | with_reducible exact Up.here | with_reducible refine At.there ?_ | with_reducible refine Up.there ?_))


theorem wu_name {x : Str} {p : Pos} {d : D} {K : Unit → Loc → Sto → Prop} (h : K () ((x, d) :: m) S) (hL : env.locals = L := by rfl) (hl : env.kindOf x = some .local := by rfl)
    (hp : (env.scope.kind == .class || (env.scope.kind == .module && env.locals != env.globals)) = false := by rfl) : WF c A UIs (assign (.Name x p) env) d L m S K := fun v s T i => wpAny_assign_Name (wu_store h hL hl hp v s T i)
theorem at_eq {a : Addr} {ds ds' : List D} (h : ds = ds') : At ((a, .lst ds) :: S) a (.lst ds') := by subst h; exact .here
def unIm : List D → Im
  | [.str a, .int b, .int c, .str d] => ⟨a, b, c, d⟩
  | _ => ⟨Str.ofString "", 0, 0, Str.ofString ""⟩
theorem un_out {its : List Im} {out : List (List D)} (p : out.Perm (its.map Im.l)) (s : out.Pairwise fun x y => ltL x y = true) : ∃ l : List Im, out = l.map Im.l ∧ l.Perm its ∧ l.Pairwise fun x y => ltL x.l y.l = true := by
  have inv : ∀ x : Im, unIm x.l = x := fun x => rfl
  have e : out = (out.map unIm).map Im.l := by
    rw [List.map_map]
    have : ∀ x ∈ out, (Im.l ∘ unIm) x = id x := fun x hx => by
      obtain ⟨y, _, rfl⟩ := List.mem_map.mp (p.mem_iff.mp hx)
      rfl
    rw [List.map_congr_left this, List.map_id]
  refine ⟨out.map unIm, e, ?_, ?_⟩
  · have := p.map unIm
    rw [List.map_map, show unIm ∘ Im.l = id from rfl, List.map_id] at this
    exact this
  · have s' := e ▸ s
    exact (List.pairwise_map.mp s')
theorem pc_get {row : List Pc} {k : Nat} (hk : k < row.length) : (row.map Pc.d)[k]? = some (row.getD k pc0).d := by
  rw [List.getElem?_map, List.getElem?_eq_getElem hk, List.getD_eq_getElem?_getD, List.getElem?_eq_getElem hk]; rfl
theorem pc_getD {row : List Pc} {k : Nat} (hk : k < row.length) : (row.map Pc.d).getD k .non = (row.getD k pc0).d := by
  rw [List.getD_eq_getElem?_getD, pc_get hk]; rfl
theorem map_take_succ {α β : Type} {l : List α} {f : α → β} {i : Nat} {d : α} (hi : i < l.length) : (l.take (i + 1)).map f = (l.take i).map f ++ [f (l.getD i d)] := by
  rw [← List.take_append_getElem hi, List.map_append, List.getD_eq_getElem?_getD, List.getElem?_eq_getElem hi]; rfl

/-- the names that what is due asks for -/
structure DG (c : Cx) (mg mb : Str → Option Value) : Prop where
  glo : Glo c mg mb
  len0 : mg "len" = none
  len : mb "len" = some (.builtin "len")
  range0 : mg "range" = none
  range : mb "range" = some (.type "range")
  min0 : mg "min" = none
  min : mb "min" = some (.builtin "min")
  max0 : mg "max" = none
  max : mb "max" = some (.builtin "max")
  sorted0 : mg "sorted" = none
  sorted : mb "sorted" = some (.builtin "sorted")

set_option maxRecDepth 100000 in
set_option maxHeartbeats 4000000 in
/-- _law_due(rows) -/
theorem lawDue {fa : Addr} {pm cd doc : Value} {ar : Addr} {rs : List (Addr × List Pc)} (M : DG c mg mb) (Fa : Fn c fa (fdOf (stN 11) pm cd doc)) (R : Room 6 A)
    (hr : At S ar (.lst (rs.map fun x => .ref x.1))) (hrow : ∀ x ∈ rs, At S x.1 (.lst (x.2.map Pc.d))) (hok : ∀ row ∈ rs.map (·.2), RowOk row) (h3 : rs.length ≤ 3)
    (h64 : (dueItems (rs.map (·.2)) rs.length).length < 64) (hnd : ((dueItems (rs.map (·.2)) rs.length).map Im.l).Nodup)
    (k : ∀ (at' aa : Addr) (out : List Im), out.Perm (dueItems (rs.map (·.2)) rs.length) → out.Pairwise (fun x y => ltL x.l y.l = true) → K (.tup [.ref at', .ref aa]) m ((at', .lst (out.map fun x => x.tl.d)) :: (aa, .lst ((dueAside (rs.map (·.2)) rs.length).map As.d)) :: S)) :
    WFs c A Is (fun vs => call (.ref fa) vs) [.ref ar] L m S K := by
  refine wfs_conseq (K' := fun d m' S' => ∃ (at' aa : Addr) (out : List Im), d = .tup [.ref at', .ref aa] ∧ m' = m ∧ out.Perm (dueItems (rs.map (·.2)) rs.length) ∧ out.Pairwise (fun x y => ltL x.l y.l = true) ∧ ((at', Mo.lst (out.map fun x => x.tl.d)) :: (aa, .lst ((dueAside (rs.map (·.2)) rs.length).map As.d)) :: S).Sublist S') ?_
    fun d m' S' ⟨at', ab, out, e1, e2, h1, h2, hs⟩ => by subst e1 e2; exact ⟨_, hs, k at' ab out h1 h2⟩
  have G := M.glo
  refine wfs_cell (p := "rows") (x := "row") (body := bodyOf (stN 11)) G Fa R.deep rfl (fun v => rfl) (fun n => rfl) (by show (fdOf (stN 11) .none .none .none).scope.names.lookup _ = _; decide +kernel) fun L' => ?_
  have R5 := R.deeper (env := callEnvC (fdOf (stN 11) pm cd doc) L' fa)
  generalize hrows : rs.map (·.2) = rows at *
  have hlr : rows.length = rs.length := by rw [← hrows]; simp
  show WX c _ (execs [_, _, _, _] _) _ _ _ _
  refine wx_cons (wx_assign (we_list (ws_nil ⟨Nat.le_of_ble_eq_true rfl, fun ai => ?_⟩)))
  refine wx_cons (wx_assign (we_list (ws_nil ⟨Nat.le_of_ble_eq_true rfl, fun aa => ?_⟩)))
  have hlen : (rs.map fun x => D.ref x.1).length = rs.length := by simp
  refine wx_cons (wx_for_range R5.handled (we_call_t (we_builtin G M.range0 M.range ⟨rfl, ws_cons (we_call_b (we_builtin G M.len0 M.len ⟨rfl, ws_cons (we_name (by kd_mem) (ws_nil (wfs_len (.there (.there (.there hr))) (by rw [hlen]; omega) (ws_nil (wfs_range ⟨rs.length, by rw [hlen], by omega, ?_⟩)))))⟩))⟩)))
  refine ⟨fun i m' S' => Has m' "rows" (.ref ar) ∧ Has m' "items" (.ref ai) ∧ Has m' "aside" (.ref aa) ∧ ∃ o, S' = (aa, .lst ((dueAside rows i).map As.d)) :: (ai, .lst ((dueItems rows i).map Im.d)) :: (L' + 1, .cel o) :: S, ⟨by kd_mem, by kd_mem, by kd_mem, none, rfl⟩, ?_, ?_⟩
  · rintro i m' S' hi ⟨g1, g2, g3, o, rfl⟩
    refine turn_name ?_
    obtain ⟨r, row, hri⟩ : ∃ r row, rs[i]? = some (r, row) := ⟨_, _, List.getElem?_eq_getElem hi⟩
    have hmem := List.mem_of_getElem? hri
    have hrow1 : At S r (.lst (row.map Pc.d)) := hrow _ hmem
    have hri2 : rows[i]? = some row := by rw [← hrows, List.getElem?_map, hri]; rfl
    have hgD : rows.getD i [] = row := by rw [List.getD_eq_getElem?_getD, hri2]; rfl
    have ok := hok row (List.mem_of_getElem? hri2)
    have ok1 := ok.pos
    have ok2 := ok.few
    have il := dueItems_len hok i (by omega)
    have al := dueAside_len rows i
    have eI : dueItems rows (i + 1) = dueItems rows i ++ rowItems i row (endOf row) := by show _ ++ _ = _; rw [hgD]
    have eA : dueAside rows (i + 1) = dueAside rows i ++ if tornOf row = [] then [] else [⟨i, textFrom row (endOf row)⟩] := by show _ ++ _ = _; rw [hgD]
    have hml : (row.map Pc.d).length = row.length := by simp
    refine wx_cons (wx_assign_cell (a := L' + 1) (we_sub (we_name (by kd_mem) (we_name (by kd_mem) (wf2_item (ds := rs.map fun x => D.ref x.1) (i := i) (d := .ref r) (.there (.there (.there hr))) (by omega) (by omega) (by rw [List.getElem?_map]; simp [hri]) ⟨o, _, .there (.there .here), ?_⟩)))))
    refine wx_cons (wx_comp R5.handled (cl := [("row", L' + 1)]) (by with_unfolding_all rfl) (we_call_t (we_builtin G M.range0 M.range ⟨rfl, ws_cons (we_binop (we_call_b (we_builtin G M.len0 M.len ⟨rfl, ws_cons (we_cellname (.there (.there .here)) (ws_nil (wfs_len (.there (.there (.there hrow1))) (by rw [hml]; omega) (we_int (wf2_sub_int (ws_nil (wfs_range ?_)))))))⟩)))⟩)))
    have e1 : ((row.map Pc.d).length : Int) - 1 = ((row.length - 1 : Nat) : Int) := by rw [hml]; omega
    rw [e1]
    refine ⟨row.length - 1, fun i => D.int i, fun i => ((List.range i).filter (isTorn row)).map (fun k : Nat => D.int k), Src.range (by omega), by omega, rfl, ?_, ?_⟩
    · intro acc C j hj
      unfold CTurn
      refine wu_name ?_
      refine wb_cmp (we_sub (we_sub (we_cellname (.there (.there (.there .here))) (we_binop (we_name (by kd_mem) (we_int (wf2_add_int (wf2_item (ds := row.map Pc.d) (i := (j : Int) + 1) (d := (row.getD (j + 1) pc0).d) (.there (.there (.there (.there hrow1)))) (by omega) (by omega) (by rw [show ((j : Int) + 1).toNat = j + 1 by omega]; exact pc_get (by omega)) ?_))))))))
      refine we_int (wf2_place (ds := [.str (row.getD (j + 1) pc0).1, .str (row.getD (j + 1) pc0).2]) (d := .str (row.getD (j + 1) pc0).1) (by decide) (by decide) rfl (we_str (wf2_eq_str ⟨_, rfl, ?_⟩)))
      by_cases ct : isTorn row j = true
      · rw [if_pos (show ((row.getD (j + 1) pc0).fst == Str.ofString "\n") = true from ct)]
        refine we_name (by kd_mem) ⟨List.Sublist.refl _, ?_⟩
        show ((List.range (j + 1)).filter (isTorn row)).map (fun k : Nat => D.int k) = _
        rw [List.range_succ, List.filter_append]; simp [ct]
      · rw [if_neg (show ¬ ((row.getD (j + 1) pc0).fst == Str.ofString "\n") = true from ct)]
        refine ⟨List.Sublist.refl _, ?_⟩
        show ((List.range (j + 1)).filter (isTorn row)).map (fun k : Nat => D.int k) = _
        rw [List.range_succ, List.filter_append]; simp [ct]
    · intro tn
      have eT : ((List.range (row.length - 1)).filter (isTorn row)).map (fun k : Nat => D.int k) = ((tornOf row).map (fun k : Nat => (k : Int))).map D.int := by rw [List.map_map]; rfl
      change WX c _ _ _ _ ((tn, .lst (((List.range (row.length - 1)).filter (isTorn row)).map (fun k : Nat => D.int k))) :: _) _
      rw [eT]
      have htl : (tornOf row).length ≤ row.length := Nat.le_trans (List.length_filter_le _ _) (by simp)
      have hel := end_le row
      refine wx_cons (wx_assign (we_call_b (we_builtin G M.min0 M.min ⟨rfl, ws_cons (we_binop (we_name (by kd_mem) (we_list (ws_cons (we_call_b (we_builtin G M.len0 M.len ⟨rfl, ws_cons (we_cellname (.there (.there (.there .here))) (ws_nil (wfs_len (.there (.there (.there (.there hrow1)))) (by rw [hml]; omega) (ws_nil ⟨Nat.le_of_ble_eq_true rfl, fun b => wf2_add_list (At.lst (.there .here)) (At.lst .here) (by simp; omega) fun l => ws_nil ?_⟩))))⟩))))))⟩)))
      refine wfs_min (ns := (tornOf row).map (fun k : Nat => (k : Int)) ++ [(row.length : Int)]) R5.handled (at_eq (by simp)) (by simp) fun E hE hmin => ?_
      have hEe := end_min hE hmin
      subst hEe
      refine wg_drop (S' := (tn, .lst (((tornOf row).map (fun k : Nat => (k : Int))).map D.int)) :: (aa, .lst ((dueAside rows i).map As.d)) :: (ai, .lst ((dueItems rows i).map Im.d)) :: (L' + 1, .cel (some (.ref r))) :: S) ?_ (.cons _ (.cons _ (List.Sublist.refl _)))
      refine wx_cons (wx_for_range R5.handled (we_call_t (we_builtin G M.range0 M.range ⟨rfl, ws_cons (we_name (by kd_mem) (ws_nil (wfs_range ⟨endOf row, rfl, by omega, ?_⟩)))⟩)))
      refine ⟨fun k m' S' => Has m' "rows" (.ref ar) ∧ Has m' "items" (.ref ai) ∧ Has m' "aside" (.ref aa) ∧ Has m' "place" (.int i) ∧ Has m' "torn" (.ref tn) ∧ Has m' "end" (.int (endOf row)) ∧ S' = (tn, .lst (((tornOf row).map (fun k : Nat => (k : Int))).map D.int)) :: (aa, .lst ((dueAside rows i).map As.d)) :: (ai, .lst ((dueItems rows i ++ rowItems i row k).map Im.d)) :: (L' + 1, .cel (some (.ref r))) :: S, ⟨by kd_mem, by kd_mem, by kd_mem, by kd_mem, by kd_mem, by kd_mem, by simp [rowItems]⟩, ?_, ?_⟩
      · rintro k m2 S2 hk ⟨q1, q2, q3, q4, q5, q6, rfl⟩
        refine turn_name ?_
        refine wx_cons (wx_expr (we_meth PySem.F.plainAttrs_list PySem.F.slot_list_append PySem.F.type_list_append (we_name (by kd_mem) ⟨own_list (At.mem (.there (.there .here))), ws_cons (we_tuple (ws_cons (we_call_b (we_builtin G M.max0 M.max ⟨rfl, ws_cons (we_comp R5.handled (cl := []) (by with_unfolding_all rfl) (we_slice_upto (we_cellname (.there (.there (.there .here))) (we_binop (we_name (by kd_mem) (we_int (wf2_add_int ⟨r, row.map Pc.d, k + 1, rfl, At.lst (.there (.there (.there (.there hrow1)))), congrArg D.int (by omega), by rw [hml]; omega, fun b => ?_⟩)))))))⟩))))⟩)))
        have eTk : (row.map Pc.d).take (k + 1) = (row.take (k + 1)).map Pc.d := by rw [List.map_take]
        rw [eTk]
        have hlk : ((row.take (k + 1)).map Pc.d).length = k + 1 := by simp; omega
        have hlk2 : (row.take (k + 1)).length = k + 1 := by simp; omega
        refine ⟨_, _, fun j => ((row.take (k + 1)).take j).map (fun x => D.str x.2), Src.list .here, by rw [hlk]; omega, rfl, ?_, ?_⟩
        · intro acc C j hj
          rw [hlk] at hj
          have hj2 : j < (row.take (k + 1)).length := by omega
          unfold CTurn
          rw [pc_getD hj2]
          refine wu_tuple R5.handled (ds := [.str ((row.take (k + 1)).getD j pc0).1, .str ((row.take (k + 1)).getD j pc0).2]) (wa_name (wa_name (wa_nil (we_name (by kd_mem) ⟨List.Sublist.refl _, ?_⟩))))
          exact map_take_succ hj2
        · intro acc
          obtain ⟨w0, ws, hw⟩ : ∃ w0 ws, (row.take (k + 1)).map (·.2) = w0 :: ws := by
            cases e : (row.take (k + 1)).map (·.2) with
            | nil => have := congrArg List.length e; rw [List.length_map, hlk2] at this; exact absurd this (by simp)
            | cons a b => exact ⟨a, b, rfl⟩
          have hpk : peakOf row k = maxS w0 ws := by unfold peakOf; rw [hw]
          have eW : ((row.take (k + 1)).take ((row.take (k + 1)).map Pc.d).length).map (fun x => D.str x.2) = (w0 :: ws).map D.str := by
            rw [hlk, List.take_of_length_le (Nat.le_of_eq hlk2), ← hw, List.map_map]; rfl
          have hsz : ((dueItems rows i ++ rowItems i row k).map Im.d).length < 2 ^ 20 := by simp [rowItems]; omega
          refine ws_nil (wfs_max (x := w0) (xs := ws) R5.handled (at_eq eW) (ws_cons (we_name (by kd_mem) (ws_cons (we_name (by kd_mem) (ws_cons (we_sub (we_sub (we_cellname (.there (.there (.there (.there (.there .here))))) (we_name (by kd_mem) (wf2_item (ds := row.map Pc.d) (i := k) (d := (row.getD k pc0).d) (.there (.there (.there (.there (.there (.there hrow1)))))) (by omega) (by omega) (by simpa using pc_get (by omega)) ?_)))))))))))
          refine we_int (wf2_place (ds := [.str (row.getD k pc0).1, .str (row.getD k pc0).2]) (d := .str (row.getD k pc0).2) (by decide) (by decide) rfl (ws_nil ⟨Nat.le_of_ble_eq_true rfl, ws_nil (wfs_append (.there (.there (.there (.there .here)))) hsz ?_)⟩))
          refine wg_drop ?_ (.cons _ (.cons _ (List.Sublist.refl _)))
          refine wx_nil ⟨by kd_mem, by kd_mem, by kd_mem, by kd_mem, by kd_mem, by kd_mem, ?_⟩
          rw [rowItems_succ]; simp [Im.d, Im.l, hpk]
      · rintro m2 S2 ⟨q1, q2, q3, q4, q5, q6, rfl⟩
        refine wx_cons (wx_if (wb_cmp (we_name (by kd_mem) (we_list (ws_nil ⟨Nat.le_of_ble_eq_true rfl, fun b => wf2_ne_nil (ds := ((tornOf row).map (fun k : Nat => (k : Int))).map D.int) (.there .here) .here R5.unit ⟨_, rfl, ?_⟩⟩)))))
        by_cases ht : tornOf row = []
        · rw [if_neg (by simp [ht])]
          refine wx_nil (wg_drop ?_ (.cons _ (.cons _ (List.Sublist.refl _))))
          refine wx_nil ⟨by kd_mem, by kd_mem, by kd_mem, some (.ref r), ?_⟩
          rw [eI, eA, if_pos ht, List.append_nil]
        · rw [if_neg ht] at eA
          have helt := end_lt ht
          rw [if_pos (by simp [ht])]
          refine wx_cons (wx_expr (we_meth PySem.F.plainAttrs_list PySem.F.slot_list_append PySem.F.type_list_append (we_name (by kd_mem) ⟨own_list (At.mem (.there (.there .here))), ws_cons (we_tuple (ws_cons (we_name (by kd_mem) (ws_cons (we_binop (we_sub (we_sub (we_cellname (.there (.there (.there (.there .here)))) (we_name (by kd_mem) (wf2_item (ds := row.map Pc.d) (i := endOf row) (d := (row.getD (endOf row) pc0).d) (.there (.there (.there (.there (.there hrow1))))) (by omega) (by omega) (by simpa using pc_get (by omega)) ?_))))))))))⟩)))
          refine we_int (wf2_place (ds := [.str (row.getD (endOf row) pc0).1, .str (row.getD (endOf row) pc0).2]) (d := .str (row.getD (endOf row) pc0).2) (by decide) (by decide) rfl (we_meth PySem.F.plainAttrs_str PySem.F.slot_str_join PySem.F.type_str_join (we_str ⟨own_str, ws_cons (we_comp R5.handled (cl := []) (by with_unfolding_all rfl) (we_slice_from (we_cellname (.there (.there (.there (.there .here)))) (we_binop (we_name (by kd_mem) (we_int (wf2_add_int ⟨r, row.map Pc.d, endOf row + 1, rfl, At.lst (.there (.there (.there (.there (.there hrow1))))), congrArg D.int (by omega), by rw [hml]; omega, fun b2 => ?_⟩)))))))⟩)))
          have eTk : (row.map Pc.d).drop (endOf row + 1) = (row.drop (endOf row + 1)).map Pc.d := by rw [List.map_drop]
          rw [eTk]
          generalize hrd : row.drop (endOf row + 1) = rest
          have hsm : ∀ x ∈ rest, x.1.length ≤ 8 ∧ x.2.length ≤ 8 := fun x hx => ok.small x (List.mem_of_mem_drop (hrd ▸ hx))
          have hlk : (rest.map Pc.d).length = rest.length := by simp
          have hlr2 : rest.length ≤ 100 := by rw [← hrd]; simp; omega
          refine ⟨_, _, fun j => (rest.take j).map (fun x => D.str (x.1 ++ x.2)), Src.list .here, by rw [hlk]; omega, rfl, ?_, ?_⟩
          · intro acc C j hj
            rw [hlk] at hj
            have hx := hsm (rest.getD j pc0) (by rw [List.getD_eq_getElem?_getD, List.getElem?_eq_getElem hj]; exact List.getElem_mem _)
            unfold CTurn
            rw [pc_getD hj]
            refine wu_tuple R5.handled (ds := [.str (rest.getD j pc0).1, .str (rest.getD j pc0).2]) (wa_name (wa_name (wa_nil (we_binop (we_name (by kd_mem) (we_name (by kd_mem) (wf2_add_str ⟨List.Sublist.refl _, ?_⟩ (by rw [sizeLine_eq]; omega))))))))
            exact map_take_succ hj
          · intro acc
            have eW : (rest.take (rest.map Pc.d).length).map (fun x => D.str (x.1 ++ x.2)) = (rest.map fun x => x.1 ++ x.2).map D.str := by
              rw [hlk, List.take_length, List.map_map]; rfl
            have hsum : ((rest.map fun x => x.1 ++ x.2).map (·.length)).sum ≤ 16 * rest.length := by
              rw [List.map_map]
              refine sum_le fun x hx => ?_
              have := hsm x hx
              show (x.1 ++ x.2).length ≤ 16
              rw [Str.length_append]; omega
            have hjl : (Txt.join (Str.ofString "") (rest.map fun x => x.1 ++ x.2)).length ≤ 4 * (17 * rest.length + 1) := len_join_le (by show _ + _ ≤ _; simp only [List.length_map] at hsum ⊢; omega) (by decide)
            have hw2 := (ok.small (row.getD (endOf row) pc0) (by rw [List.getD_eq_getElem?_getD, List.getElem?_eq_getElem (by omega)]; exact List.getElem_mem _)).2
            refine ws_nil (wfs_join (xs := rest.map fun x => x.1 ++ x.2) (at_eq eW) (by decide) (by simp only [List.length_map] at hsum ⊢; omega) (wf2_add_str (ws_nil ⟨Nat.le_of_ble_eq_true rfl, ws_nil (wfs_append (.there (.there (.there (.there .here)))) (by simp; omega) ?_)⟩) (by rw [sizeLine_eq]; omega)))
            refine wx_nil (wg_drop ?_ (.cons _ (.cons _ (.cons _ (.cons _ (List.Sublist.refl _))))))
            refine wx_nil ⟨by kd_mem, by kd_mem, by kd_mem, some (.ref r), ?_⟩
            rw [eI, eA]; simp [As.d, As.l, textFrom, hrd]
  · rintro m' S' ⟨g1, g2, g3, o, rfl⟩
    refine wx_cons (wx_ret (we_tuple (ws_cons (we_comp R5.handled (cl := []) (by with_unfolding_all rfl) (we_call_b (we_builtin G M.sorted0 M.sorted ⟨rfl, ws_cons (we_name (by kd_mem) (ws_nil (wfs_sorted (ls := (dueItems rows rs.length).map Im.l) (.there (at_eq (by rw [List.map_map]; rfl))) (by simpa using h64) (by simp [Im.l]) (by simp only [List.mem_map]; rintro _ ⟨x, _, rfl⟩ _ ⟨y, _, rfl⟩; exact .str (.int (.int (.str .nil)))) hnd fun b out p1 p2 => ?_)))⟩))))))
    obtain ⟨its, rfl, hp, hs⟩ := un_out p1 p2
    have hlk : ((its.map Im.l).map D.tup).length = its.length := by simp
    have hil : its.length < 64 := by have := hp.length_eq; omega
    refine ⟨_, _, fun j => (its.take j).map (fun x => x.tl.d), Src.list .here, by rw [hlk]; omega, rfl, ?_, ?_⟩
    · intro acc C j hj
      rw [hlk] at hj
      unfold CTurn
      have e : ((its.map Im.l).map D.tup).getD j .non = .tup its[j].l := by
        rw [List.getD_eq_getElem?_getD, List.getElem?_map, List.getElem?_map, List.getElem?_eq_getElem hj]; rfl
      rw [e]
      refine wu_tuple R5.handled (ds := its[j].l) (wa_name (wa_name (wa_name (wa_name (wa_nil (we_tuple (ws_cons (we_name (by kd_mem) (ws_cons (we_name (by kd_mem) (ws_nil ⟨Nat.le_of_ble_eq_true rfl, List.Sublist.refl _, ?_⟩)))))))))))
      show (its.take (j + 1)).map (fun x => x.tl.d) = _
      rw [← List.take_append_getElem hj, List.map_append]; rfl
    · intro acc
      refine ws_cons (we_name (by kd_mem) (ws_nil ⟨Nat.le_of_ble_eq_true rfl, acc, aa, its, rfl, rfl, hp, hs, ?_⟩))
      have eO : (its.take ((its.map Im.l).map D.tup).length).map (fun x => x.tl.d) = its.map (fun x => x.tl.d) := by rw [hlk, List.take_length]
      rw [← eO]
      exact .cons_cons _ (.cons _ (.cons_cons _ (.cons _ (.cons _ (List.Sublist.refl _)))))
end
end Mine

namespace Mine

def docOf (row : List Pc) : Str := Txt.join (Str.ofString "") (row.map fun x => x.1 ++ x.2) ++ Str.ofString "\n"
/-- the plain law of three rows -/
structure Plain (rows : List (List Pc)) : Prop where
  ok : ∀ row ∈ rows, RowOk row
  runs : ∃ n told fin, Runs n (sup (fed (rows.map docOf) (rows.map docOf).length).1) [] (fed (rows.map docOf) (rows.map docOf).length).2 told fin ∧ fin.length < 64 ∧ (fin.map As.l).Nodup ∧
    (∀ out : List (List D), out.Perm (fin.map As.l) → out.Pairwise (fun x y => ltL x y = true) → out = (dueAside rows rows.length).map As.l) ∧
    (∀ out : List Im, out.Perm (dueItems rows rows.length) → out.Pairwise (fun x y => ltL x.l y.l = true) → out.map Im.tl = told)
  few : (dueItems rows rows.length).length < 64
  nodup : ((dueItems rows rows.length).map Im.l).Nodup
theorem join_short {rest : List Pc} (hl : rest.length ≤ 100) (hs : ∀ x ∈ rest, x.1.length ≤ 8 ∧ x.2.length ≤ 8) : ((rest.map fun x => x.1 ++ x.2).map (·.length)).sum ≤ 1600 ∧ (Txt.join (Str.ofString "") (rest.map fun x => x.1 ++ x.2)).length ≤ 6804 := by
  have hsum : ((rest.map fun x => x.1 ++ x.2).map (·.length)).sum ≤ 16 * rest.length := by
    rw [List.map_map]
    refine sum_le fun x hx => ?_
    have := hs x hx
    show (x.1 ++ x.2).length ≤ 16
    rw [Str.length_append]; omega
  refine ⟨by omega, ?_⟩
  have : (Txt.join (Str.ofString "") (rest.map fun x => x.1 ++ x.2)).length ≤ 4 * (1700 + 1) := len_join_le (by show _ + _ ≤ _; simp only [List.length_map] at hsum ⊢; omega) (by decide)
  omega
theorem doc_short {row : List Pc} (h : RowOk row) : (docOf row).length ≤ 100000 := by
  have := (join_short h.few h.small).2
  unfold docOf
  rw [Str.length_append]
  have : (Str.ofString "\n").length = 1 := by decide +kernel
  omega

section
variable {c : Cx} {A : Around} {env : Env} {L : Addr} {m : Loc} {S : Sto} {mg mb : Str → Option Value}
variable {K : Fl → Loc → Sto → Prop}

local macro_rules | `(tactic| kd_mem) => `(tactic| first | with_reducible assumption | with_reducible exact Has.here | ((with_reducible refine' Has.here' ?hd); (case hd => first | rfl | (congr 1; omega))) | (refine' Has.there ?hne ?hh; (case hne => decide +kernel); (case hh => kd_mem)))
local macro_rules | `(tactic| kd_subs) => `(tactic| repeat (first | exact Sub.nil | refine Sub.cons (by kd_mem) ?_))
local macro_rules | `(tactic| kd_in) => `(tactic| repeat (first | with_reducible assumption | with_reducible exact At.here | with_reducible exact Up.here | with_reducible refine At.there ?_ | with_reducible refine Up.there ?_))


set_option maxRecDepth 100000 in
set_option maxHeartbeats 4000000 in
/-- the body of law(script) -/
theorem lawBody {fa flr flm fld fsd fsu fsp fhy fhr fhp : Addr} {pm cd doc : Value} {a : Addr} {xs : List Int} (M : MG c mg mb fsd fsu fsp fhy fhr fhp) (N : DG c mg mb) (X : Script c a xs) (R : Room 7 A)
    (gr : mg "_law_rows" = some (.ref flr)) (gm : mg "_law_merged" = some (.ref flm)) (gd : mg "_law_due" = some (.ref fld))
    (Fr : ∃ pm cd doc, Fn c flr (fdOf (stN 9) pm cd doc)) (Fm : ∃ pm cd doc, Fn c flm (fdOf (stN 10) pm cd doc)) (Fd : ∃ pm cd doc, Fn c fld (fdOf (stN 11) pm cd doc))
    (P : Plain [rowOf 0 (xsOf xs), rowOf 1 (xsOf xs), rowOf 2 (xsOf xs)]) (k : ∀ m S, K (.ret (.bool true)) m S) :
    WX c A (execs (bodyOf (stN 12)) (callEnv (fdOf (stN 12) pm cd doc) L fa)) L [("script", .ref a)] S K := by
  obtain ⟨pm1, cd1, doc1, F1⟩ := Fr
  obtain ⟨o1, ho1, hd1⟩ := F1.stands
  obtain ⟨pm2, cd2, doc2, F2⟩ := Fm
  obtain ⟨o2, ho2, hd2⟩ := F2.stands
  obtain ⟨pm3, cd3, doc3, F3⟩ := Fd
  obtain ⟨o3, ho3, hd3⟩ := F3.stands
  have G := M.h.glo
  have R2 := R.le (k := 2) (by decide)
  have R6 := R.le (k := 6) (by decide)
  show WX c _ (execs [_, _, _] _) _ _ _ _
  refine wx_cons (wx_assign (we_call_f ho1 hd1 (we_global G gr ⟨rfl, ws_cons (we_name (by kd_mem) (ws_nil (lawRows G F1 R2 X fun ar r0 r1 r2 => ?_)))⟩)))
  generalize e0 : rowOf 0 (xsOf xs) = w0 at *
  generalize e1 : rowOf 1 (xsOf xs) = w1 at *
  generalize e2 : rowOf 2 (xsOf xs) = w2 at *
  generalize hS1 : ((ar, Mo.lst [D.ref r0, D.ref r1, D.ref r2]) :: (r2, Mo.lst (w2.map Pc.d)) :: (r1, Mo.lst (w1.map Pc.d)) :: (r0, Mo.lst (w0.map Pc.d)) :: S) = S1
  obtain ⟨rs, hrs⟩ : ∃ rs : List (Addr × List Pc), rs = [(r0, w0), (r1, w1), (r2, w2)] := ⟨_, rfl⟩
  have hr : At S1 ar (.lst (rs.map fun x => .ref x.1)) := by rw [← hS1, hrs]; exact .here
  have hrow : ∀ x ∈ rs, At S1 x.1 (.lst (x.2.map Pc.d)) := by
    rw [← hS1, hrs]
    intro x hx
    rcases List.mem_cons.mp hx with rfl | hx
    · exact .there (.there (.there .here))
    · rcases List.mem_cons.mp hx with rfl | hx
      · exact .there (.there .here)
      · rw [List.mem_singleton.mp hx]; exact .there .here
  have hrows : rs.map (·.2) = [w0, w1, w2] := by rw [hrs]; rfl
  have h3 : rs.length = 3 := by rw [hrs]; rfl
  rw [← hrows] at P
  obtain ⟨n, told, fin, run, f1, f2, f3, f4⟩ := P.runs
  have hl3 : (rs.map (·.2)).length = rs.length := by simp
  have P1 := P.few
  have P2 := P.nodup
  rw [hl3] at P1 P2 f3 f4
  refine wx_cons (wx_comp R.handled (cl := []) (by with_unfolding_all rfl) (we_name (by kd_mem) ⟨_, _, fun j => (rs.take j).map (fun x => D.str (docOf x.2)), Src.list hr, by simp; omega, rfl, ?_, ?_⟩))
  · intro acc C j hj
    rw [List.length_map] at hj
    unfold CTurn
    have e : (rs.map fun x => D.ref x.1).getD j .non = .ref rs[j].1 := by
      rw [List.getD_eq_getElem?_getD, List.getElem?_map, List.getElem?_eq_getElem hj]; rfl
    rw [e]
    have hrj := hrow _ (List.getElem_mem hj)
    have okj := P.ok rs[j].2 (List.mem_map_of_mem (List.getElem_mem hj))
    generalize hrest : rs[j].2 = rest at hrj okj
    have hj2 := join_short okj.few okj.small
    have hf := okj.few
    have hlk : (rest.map Pc.d).length = rest.length := by simp
    refine wu_name (we_binop (we_meth PySem.F.plainAttrs_str PySem.F.slot_str_join PySem.F.type_str_join (we_str ⟨own_str, ws_cons (we_comp R.handled (cl := []) (by with_unfolding_all rfl) (we_name (by kd_mem) ⟨_, _, fun j => (rest.take j).map (fun x => D.str (x.1 ++ x.2)), Src.list (.there hrj), by rw [hlk]; omega, rfl, ?_, ?_⟩))⟩)))
    · intro acc' C' i hi
      rw [hlk] at hi
      have hx := okj.small (rest.getD i pc0) (by rw [List.getD_eq_getElem?_getD, List.getElem?_eq_getElem hi]; exact List.getElem_mem _)
      unfold CTurn
      rw [pc_getD hi]
      refine wu_tuple R.handled (ds := [.str (rest.getD i pc0).1, .str (rest.getD i pc0).2]) (wa_name (wa_name (wa_nil (we_binop (we_name (by kd_mem) (we_name (by kd_mem) (wf2_add_str ⟨List.Sublist.refl _, ?_⟩ (by rw [sizeLine_eq]; omega))))))))
      exact map_take_succ hi
    · intro acc'
      have eW : (rest.take (rest.map Pc.d).length).map (fun x => D.str (x.1 ++ x.2)) = (rest.map fun x => x.1 ++ x.2).map D.str := by
        rw [hlk, List.take_length, List.map_map]; rfl
      refine ws_nil (wfs_join (xs := rest.map fun x => x.1 ++ x.2) (at_eq eW) (by decide) (by simp only [List.length_map]; have := hj2.1; omega) (we_str (wf2_add_str ⟨.cons _ (List.Sublist.refl _), ?_⟩ (by rw [sizeLine_eq]; have := hj2.2; have : (Str.ofString "\n").length = 1 := (by decide +kernel); omega))))
      show (rs.take (j + 1)).map (fun x => D.str (docOf x.2)) = _
      rw [← List.take_append_getElem hj, List.map_append, ← hrest]; rfl
  · intro acc
    have eD : (rs.take (rs.map fun x => D.ref x.1).length).map (fun x => D.str (docOf x.2)) = ((rs.map (·.2)).map docOf).map D.str := by
      rw [List.length_map, List.take_length, List.map_map, List.map_map]; rfl
    have hdoc : At ((acc, Mo.lst ((rs.take (rs.map fun x => D.ref x.1).length).map (fun x => D.str (docOf x.2)))) :: S1) acc (.lst (((rs.map (·.2)).map docOf).map D.str)) := at_eq eD
    refine wx_cons (wx_ret (we_cmp (we_call_f ho2 hd2 (we_global G gm ⟨rfl, ws_cons (we_name (by kd_mem) (ws_nil (lawMerged M F2 R6 hdoc (by simp; omega) (fun x hx => ?_) run f1 f2 fun at' ab out p1 p2 => ?_)))⟩))))
    · obtain ⟨row, hrow', rfl⟩ := List.mem_map.mp hx
      exact doc_short (P.ok row hrow')
    · have eo := f3 out p1 p2
      refine we_call_f ho3 hd3 (we_global G gd ⟨rfl, ws_cons (we_name (by kd_mem) (ws_nil (lawDue (rs := rs) N F3 R6 (.there (.there (.there hr))) (fun x hx => .there (.there (.there (hrow x hx)))) P.ok (by omega) P1 P2 fun at2 aa2 out2 p3 p4 => ?_)))⟩)
      have eo2 := f4 out2 p3 p4
      have et : (out2.map fun x => x.tl.d) = told.map Tl.d := by rw [← eo2, List.map_map]; rfl
      have ea : (dueAside (rs.map (·.2)) rs.length).map As.d = out.map D.tup := by rw [eo, List.map_map]; rfl
      rw [et, ea]
      refine wf2_eq_pair (ds := told.map Tl.d) (es := out.map D.tup) (.there (.there (.there .here))) .here (.there (.there .here)) (.there .here) ?_ ?_ (by have := R.units; show A.units + 2 < 9900; omega) (k _ _)
      · intro d hd
        obtain ⟨x, _, rfl⟩ := List.mem_map.mp hd
        intro y hy
        rcases List.mem_cons.mp hy with rfl | hy
        · rfl
        · rw [List.mem_singleton.mp hy]; rfl
      · rw [← ea]
        intro d hd
        obtain ⟨x, _, rfl⟩ := List.mem_map.mp hd
        intro y hy
        rcases List.mem_cons.mp hy with rfl | hy
        · rfl
        · rw [List.mem_singleton.mp hy]; rfl
end
end Mine

namespace Mine

abbrev theProg : Program := PySem.Challenge.rw_mj0095_01.row.prog
def RecAt (x : Str) (n : Nat) : Prop := ∃ d ∈ recsOf theProg, d.name = x ∧ ∀ pm cd doc, Calls.docDef d.name d.params d.body d.scope pm cd doc = fdOf (stN n) pm cd doc
theorem recs_len : (recsOf theProg).length = 10 := by kernel_rfl
theorem recAt {x : Str} {n i : Nat} (hi : i < (recsOf theProg).length) (hx : (recsOf theProg)[i].name = x) (hd : ∀ pm cd doc, Calls.docDef (recsOf theProg)[i].name (recsOf theProg)[i].params (recsOf theProg)[i].body (recsOf theProg)[i].scope pm cd doc = fdOf (stN n) pm cd doc) : RecAt x n :=
  ⟨_, List.getElem_mem hi, hx, hd⟩
theorem rec_heappop : RecAt "heappop" 1 := recAt (i := 0) (by rw [recs_len]; decide) (by kernel_rfl) (fun _ _ _ => by kernel_rfl)
theorem rec_heapreplace : RecAt "heapreplace" 2 := recAt (i := 1) (by rw [recs_len]; decide) (by kernel_rfl) (fun _ _ _ => by kernel_rfl)
theorem rec_heapify : RecAt "heapify" 3 := recAt (i := 2) (by rw [recs_len]; decide) (by kernel_rfl) (fun _ _ _ => by kernel_rfl)
theorem rec_siftdown : RecAt "_siftdown" 4 := recAt (i := 3) (by rw [recs_len]; decide) (by kernel_rfl) (fun _ _ _ => by kernel_rfl)
theorem rec_siftup : RecAt "_siftup" 5 := recAt (i := 4) (by rw [recs_len]; decide) (by kernel_rfl) (fun _ _ _ => by kernel_rfl)
theorem rec_splitdoc : RecAt "splitdoc" 7 := recAt (i := 5) (by rw [recs_len]; decide) (by kernel_rfl) (fun _ _ _ => by kernel_rfl)
theorem rec_rows : RecAt "_law_rows" 9 := recAt (i := 6) (by rw [recs_len]; decide) (by kernel_rfl) (fun _ _ _ => by kernel_rfl)
theorem rec_merged : RecAt "_law_merged" 10 := recAt (i := 7) (by rw [recs_len]; decide) (by kernel_rfl) (fun _ _ _ => by kernel_rfl)
theorem rec_due : RecAt "_law_due" 11 := recAt (i := 8) (by rw [recs_len]; decide) (by kernel_rfl) (fun _ _ _ => by kernel_rfl)

def asked : List Str := ["len", "range", "reversed", "sorted", "min", "max"]
def Frees (p : Program) (loose : List Str) : Prop := ∀ x ∈ asked, x ∉ startupNames ∧ x ∉ loose ∧ x ∉ (recsOf p).map (·.name) ∧ x ∉ (litsOf p).map (·.1) ∧ x ∉ (clssOf p loose).map (·.name)

theorem isAll_ints {h : Heap} : ∀ {ns : List Int} {vs : List Value}, IntsAre vs ns → IsAll h (ns.map .int) vs
  | _, _, .nil => .nil
  | _, _, .cons n t r => .cons int_is (isAll_ints r)

theorem finish {w : World} {s₁ s : Shared} {fa aS : Addr} {cdv : Value} {mg mb : Str → Option Value} {xs : List Int} {vs : List Value} {p : Program} {loose : List Str} {mean : ExcName → Option Value} {Q : Flow → Shared → Prop} {E : Value → Shared → Prop}
    (P : Plain [rowOf 0 (xsOf xs), rowOf 1 (xsOf xs), rowOf 2 (xsOf xs)])
    (T : Top p loose mean mg mb s₁.heap) (hp : recsOf p = recsOf theProg) (hf : Frees p loose) (hl : s₁.heap.IsList aS vs.toArray) (hi : IntsAre vs xs) (h63 : xs.length ≤ 63)
    (Fs : Fr s₁.heap s₁.heap.objs.size s.heap (fun x => List.lookup x [(Str.ofString "script", Value.ref aS)].reverse)) (hg : s.gens = #[]) (hos : s.os = s₁.os)
    (hQ : ∀ s' m, Fr s₁.heap s₁.heap.objs.size s'.heap m → s'.gens = #[] → s'.os = s₁.os → Q (.ret (.bool true)) s') :
    wpAny (model theProg w) (callerA.deeper (callEnv (fdOf (stN 12) .none cdv .none) s₁.heap.objs.size fa)) (execs (bodyOf (stN 12)) (callEnv (fdOf (stN 12) .none cdv .none) s₁.heap.objs.size fa)) Q E s := by
  let c : Cx := ⟨theProg, w, s₁.heap, s₁.os⟩
  have fn : ∀ {x : Str} {n : Nat}, RecAt x n → ∃ a, mg x = some (.ref a) ∧ ∃ pm cd doc, Fn c a (fdOf (stN n) pm cd doc) := by
    rintro x n ⟨d, hd, hx, hfd⟩
    obtain ⟨a, o, pm, code, doc, h1, h2, h3, h4⟩ := T.fn d (hp ▸ hd)
    have e := hfd pm code doc
    refine ⟨a, hx ▸ h1, pm, code, doc, ⟨o, h2, h3.trans (by rw [e])⟩, ?_⟩
    rw [← e]; exact h4
  have free : ∀ x ∈ asked, mg x = none := fun x hx => by
    obtain ⟨h1, h2, h3, h4, h5⟩ := hf x hx
    exact T.free x h1 h2 h3 h4 h5
  have glo : Glo c mg mb := ⟨T.g, T.b, T.nolimit⟩
  have len0 : mg "len" = none := free _ (by decide +kernel)
  have range0 : mg "range" = none := free _ (by decide +kernel)
  have rev0 : mg "reversed" = none := free _ (by decide +kernel)
  have sorted0 : mg "sorted" = none := free _ (by decide +kernel)
  have min0 : mg "min" = none := free _ (by decide +kernel)
  have max0 : mg "max" = none := free _ (by decide +kernel)
  have len : mb "len" = some (.builtin "len") := (T.builtins _ (by decide +kernel)).trans (by decide +kernel)
  have range : mb "range" = some (.type "range") := (T.builtins _ (by decide +kernel)).trans (by decide +kernel)
  have rev : mb "reversed" = some (.type "reversed") := (T.builtins _ (by decide +kernel)).trans (by decide +kernel)
  have sorted : mb "sorted" = some (.builtin "sorted") := (T.builtins _ (by decide +kernel)).trans (by decide +kernel)
  have min : mb "min" = some (.builtin "min") := (T.builtins _ (by decide +kernel)).trans (by decide +kernel)
  have max : mb "max" = some (.builtin "max") := (T.builtins _ (by decide +kernel)).trans (by decide +kernel)
  obtain ⟨a1, g1, f1⟩ := fn rec_heappop
  obtain ⟨a2, g2, f2⟩ := fn rec_heapreplace
  obtain ⟨a3, g3, f3⟩ := fn rec_heapify
  obtain ⟨a4, g4, f4⟩ := fn rec_siftdown
  obtain ⟨a5, g5, f5⟩ := fn rec_siftup
  obtain ⟨a7, g7, f7⟩ := fn rec_splitdoc
  obtain ⟨a9, g9, f9⟩ := fn rec_rows
  obtain ⟨a10, g10, f10⟩ := fn rec_merged
  obtain ⟨a11, g11, f11⟩ := fn rec_due
  have hN : s₁.heap.get? s₁.heap.objs.size = none := none_size _
  have st : c.St s₁.heap.objs.size [("script", .ref aS)] [] s := by
    refine ⟨Fs.keep, ⟨_, Fs.ns, fun x d hx => ?_⟩, hN, (fun a o ha => nomatch ha), (fun a ha => nomatch ha), List.nodup_nil, hg, hos⟩
    cases hx with
    | here => exact ⟨.ref aS, by simp [List.lookup], val_is⟩
    | there _ hx => cases hx
  have W := lawBody (c := c) (A := callerA.deeper (callEnv (fdOf (stN 12) .none cdv .none) s₁.heap.objs.size fa)) (fa := fa) (pm := .none) (cd := cdv) (doc := .none) (L := s₁.heap.objs.size) (S := []) (K := fun f m S => f = .ret (.bool true))
    ⟨⟨glo, len0, len, g4, g5, f4, f5⟩, range0, range, rev0, rev, sorted0, sorted, g7, g3, g2, g1, f7, f3, f2, f1⟩ ⟨glo, len0, len, range0, range, min0, min, max0, max, sorted0, sorted⟩
    ⟨⟨vs.toArray, hl, isAll_ints (by simpa using hi)⟩, h63⟩ ⟨rfl, Nat.le_of_ble_eq_true rfl, Nat.le_of_ble_eq_true rfl⟩ g9 g10 g11 f9 f10 f11 P (fun _ _ => rfl)
  refine wpAny_mono (W s st) (fun f s' ⟨fl, m', S', j, T', G', e⟩ => ?_) fun _ _ x => x.elim
  subst e
  obtain ⟨v, rfl, i⟩ := j
  have := is_val i; subst this
  obtain ⟨mV, n, _⟩ := T'.fr
  exact hQ s' mV ⟨n, T'.keep, Nat.le_refl _⟩ T'.gens T'.os
end Mine

namespace Mine

/-! texts and their lines -/
theorem nl_eq : nl = ⟨#[10]⟩ := by decide +kernel
theorem txt_join (s : Str) (l : List Str) : Txt.join s l = Str.join s l := StrLaws.glued_eq_join s l
theorem join_one (s x : Str) : Str.join s [x] = x := rfl
theorem join_more (s x y : Str) (r : List Str) : Str.join s (x :: y :: r) = x ++ s ++ Str.join s (y :: r) := rfl
def Free (x : Str) : Prop := 10 ∉ x.cps.toList
theorem tl_append (a b : Str) : (a ++ b).cps.toList = a.cps.toList ++ b.cps.toList := by rw [Str.cps_append]; simp
theorem str_ext {a b : Str} (h : a.cps.toList = b.cps.toList) : a = b := Str.ext' (Array.toList_inj.mp h)
theorem app_inj : ∀ {a b x y : List Nat}, 10 ∉ a → 10 ∉ b → a ++ 10 :: x = b ++ 10 :: y → a = b ∧ x = y
  | [], [], x, y, _, _, h => by simp at h; exact ⟨rfl, h⟩
  | [], c :: b, x, y, _, hb, h => by simp at h; exact absurd (h.1 ▸ List.mem_cons_self ..) hb
  | c :: a, [], x, y, ha, _, h => by simp at h; exact absurd (h.1 ▸ List.mem_cons_self ..) ha
  | c :: a, d :: b, x, y, ha, hb, h => by
    simp only [List.cons_append, List.cons.injEq] at h
    obtain ⟨h1, h2⟩ := h
    have := app_inj (fun q => ha (List.mem_cons_of_mem _ q)) (fun q => hb (List.mem_cons_of_mem _ q)) h2
    exact ⟨by rw [h1, this.1], this.2⟩
theorem join_toList (x y : Str) (r : List Str) : (Str.join nl (x :: y :: r)).cps.toList = x.cps.toList ++ 10 :: (Str.join nl (y :: r)).cps.toList := by
  rw [join_more, tl_append, tl_append, nl_eq]; simp
theorem join_inj : ∀ {ls ms : List Str}, ls ≠ [] → ms ≠ [] → (∀ l ∈ ls, Free l) → (∀ l ∈ ms, Free l) → Str.join nl ls = Str.join nl ms → ls = ms
  | [], _, h, _, _, _, _ => absurd rfl h
  | _, [], _, h, _, _, _ => absurd rfl h
  | [a], [b], _, _, _, _, h => by rw [join_one, join_one] at h; rw [h]
  | [a], b :: c :: r, _, _, ha, _, h => by
    have := congrArg (fun s : Str => s.cps.toList) h
    simp only [join_one, join_toList] at this
    exact absurd (by rw [this]; simp) (ha a (List.mem_cons_self ..))
  | b :: c :: r, [a], _, _, _, ha, h => by
    have := congrArg (fun s : Str => s.cps.toList) h
    simp only [join_one, join_toList] at this
    exact absurd (by rw [← this]; simp) (ha a (List.mem_cons_self ..))
  | a :: b :: r, c :: d :: q, _, _, h1, h2, h => by
    have := congrArg (fun s : Str => s.cps.toList) h
    simp only [join_toList] at this
    obtain ⟨e1, e2⟩ := app_inj (h1 a (List.mem_cons_self ..)) (h2 c (List.mem_cons_self ..)) this
    have := join_inj (ls := b :: r) (ms := d :: q) (by simp) (by simp) (fun l hl => h1 l (List.mem_cons_of_mem _ hl)) (fun l hl => h2 l (List.mem_cons_of_mem _ hl)) (str_ext e2)
    rw [str_ext e1, this]
theorem split_lines {ls : List Str} (h0 : ls ≠ []) (hf : ∀ l ∈ ls, Free l) : Txt.split (Str.join nl ls) nl = ls := by
  refine join_inj ?_ h0 ?_ hf (StrLaws.join_split _ _)
  · intro q
    have := split_pos (Str.join nl ls) nl
    rw [q] at this; simp at this
  · intro l hl
    rw [nl_eq] at hl
    exact StrLaws.split_free _ 10 l hl

/-! strip -/
def White (x : Str) : Prop := ∀ k ∈ x.cps.toList, Unicode.isSpace k = true
/-- a text that begins and ends with no white sign -/
structure Firm (x : Str) : Prop where
  first : ∃ k r, x.cps.toList = k :: r ∧ Unicode.isSpace k = false
  last : ∃ r k, x.cps.toList = r ++ [k] ∧ Unicode.isSpace k = false
theorem takeWhile_of {p : Nat → Bool} : ∀ {a : List Nat} {b : List Nat}, (∀ k ∈ a, p k = true) → (∀ k r, b = k :: r → p k = false) → (a ++ b).takeWhile p = a
  | [], [], _, _ => rfl
  | [], k :: r, _, h => by simp [List.takeWhile, h k r rfl]
  | c :: a, b, h1, h2 => by
    rw [List.cons_append, List.takeWhile_cons, h1 c (List.mem_cons_self ..), if_pos rfl, takeWhile_of (fun k hk => h1 k (List.mem_cons_of_mem _ hk)) h2]
theorem strip_of {q b q' : Str} (hq : White q) (hq' : White q') (hb : Firm b) : Txt.strip (q ++ b ++ q') = b := by
  obtain ⟨k, r, e1, n1⟩ := hb.first
  obtain ⟨r2, k2, e2, n2⟩ := hb.last
  refine str_ext ?_
  unfold Txt.strip
  rw [PyProof.Rows.stripBy_eq, StrLaws.strSub_toList]
  have el : (q ++ b ++ q').cps.toList = q.cps.toList ++ (b.cps.toList ++ q'.cps.toList) := by rw [tl_append, tl_append, List.append_assoc]
  have elo : PySem.stripLo Unicode.isSpace true (q ++ b ++ q') = q.cps.toList.length := by
    simp only [PySem.stripLo, if_true]
    rw [el, takeWhile_of hq]
    intro j t h
    rw [e1, List.cons_append] at h
    cases h; exact n1
  rw [elo]
  have ehi : PySem.stripHi Unicode.isSpace true (q ++ b ++ q') q.cps.toList.length = q.cps.toList.length + b.cps.toList.length := by
    simp only [PySem.stripHi, if_true]
    rw [el, List.drop_left, List.reverse_append, takeWhile_of (fun k hk => hq' k (List.mem_reverse.mp hk))]
    · have : (q ++ b ++ q').length = q.cps.toList.length + (b.cps.toList.length + q'.cps.toList.length) := by
        rw [← List.length_append, ← List.length_append, ← el]; simp [Str.length]
      rw [List.length_reverse]; omega
    · intro j t h
      rw [e2, List.reverse_append] at h
      cases h; exact n2
  rw [ehi, el, List.drop_left, Nat.add_sub_cancel_left, List.take_left]
end Mine

namespace Mine

/-! the menu -/
abbrev e0 : Str := Str.ofString ""
structure OkPc (x : Pc) : Prop where
  p : x.1 ∈ partings
  w : x.2 ∈ wordsL
def mid (p : Str) : List Str :=
  if p = Str.ofString "\n\n" then [e0] else if p = Str.ofString "\n \n" then [Str.ofString " "] else if p = Str.ofString "\n\n\n" then [e0, e0] else if p = Str.ofString "\n\t\n" then [Str.ofString "\t"]
  else if p = Str.ofString "\n\n \n\n" then [e0, Str.ofString " ", e0] else []
def pfx : List Str → Str
  | [] => e0
  | m :: r => m ++ nl ++ pfx r
theorem part_facts : ∀ p ∈ partings, p = nl ++ pfx (mid p) ∧ (∀ m ∈ mid p, 10 ∉ m.cps.toList ∧ (Txt.rstrip m).length = 0) ∧ (mid p = [] ↔ p = Str.ofString "\n") ∧ (∀ k ∈ (pfx (mid p).tail).cps.toList, Unicode.isSpace k = true) ∧
    (∀ k ∈ p.cps.toList, Unicode.isSpace k = true) ∧ p.length ≤ 8 ∧ (pfx (mid p).tail).length ≤ 8 := by decide +kernel
theorem word_facts : ∀ w ∈ wordsL, 10 ∉ w.cps.toList ∧ w.cps.toList ≠ [] ∧ Unicode.isSpace (w.cps.toList.headD 32) = false ∧ Unicode.isSpace (w.cps.toList.getLastD 32) = false ∧ (Txt.rstrip w).length ≠ 0 ∧ w.length ≤ 8 ∧ (w != e0) = true := by decide +kernel
theorem piece_ok (x : Int) : OkPc (piece x) := by
  have h : ∀ (l : List Str), l.length = 6 → ∀ y : Int, l.getD (y.fmod 6).toNat "" ∈ l := fun l hl y => by
    have := fmod6 y
    have hi : (y.fmod 6).toNat < l.length := by omega
    rw [List.getD_eq_getElem?_getD, List.getElem?_eq_getElem hi]; exact List.getElem_mem _
  exact ⟨h _ rfl _, h _ rfl _⟩

def body : List Pc → Str
  | [] => e0
  | x :: r => x.2 ++ Txt.join e0 (r.map fun y => y.1 ++ y.2)
def lines : List Pc → List Str
  | [] => []
  | [x] => [x.2]
  | x :: y :: r => x.2 :: (mid y.1 ++ lines (y :: r))
theorem e0_eq : e0 = Str.empty := by decide +kernel
theorem app_e0 (a : Str) : a ++ e0 = a := by rw [e0_eq]; exact Str.append_empty a
theorem e0_app (a : Str) : e0 ++ a = a := by rw [e0_eq]; exact Str.empty_append a
theorem join_nil_cons (a : Str) (l : List Str) : Txt.join e0 (a :: l) = a ++ Txt.join e0 l := by
  rw [txt_join, txt_join]
  cases l with
  | nil => show a = a ++ Str.empty; rw [Str.append_empty]
  | cons b r => rw [join_more, app_e0]
theorem join_nil_nil : Txt.join e0 [] = e0 := by decide +kernel
theorem body_one (x : Pc) : body [x] = x.2 := by show x.2 ++ Txt.join e0 [] = _; rw [join_nil_nil, app_e0]
theorem body_two (x y : Pc) (r : List Pc) : body (x :: y :: r) = x.2 ++ (y.1 ++ body (y :: r)) := by
  show x.2 ++ Txt.join e0 ((y.1 ++ y.2) :: _) = _
  rw [join_nil_cons, Str.append_assoc]; rfl
theorem lines_ne : ∀ {t : List Pc}, t ≠ [] → lines t ≠ []
  | [], h => absurd rfl h
  | [x], _ => by simp [lines]
  | x :: y :: r, _ => by simp [lines]
theorem join_pfx {L : List Str} (hL : L ≠ []) : ∀ ms : List Str, Str.join nl (ms ++ L) = pfx ms ++ Str.join nl L
  | [] => by show Str.join nl L = e0 ++ _; rw [e0_app]
  | m :: ms => by
    have ih := join_pfx hL ms
    cases h : ms ++ L with
    | nil => exact absurd (List.append_eq_nil_iff.mp h).2 hL
    | cons a r => rw [List.cons_append, h, join_more, ← h, ih]; show _ = m ++ nl ++ pfx ms ++ _; rw [Str.append_assoc (m ++ nl)]
theorem body_lines : ∀ {t : List Pc}, t ≠ [] → (∀ x ∈ t, OkPc x) → body t = Str.join nl (lines t)
  | [], h, _ => absurd rfl h
  | [x], _, _ => body_one x
  | x :: y :: r, _, ok => by
    have ih := body_lines (t := y :: r) (by simp) fun z hz => ok z (List.mem_cons_of_mem _ hz)
    have hp := (part_facts _ (ok y (by simp)).p).1
    have hne : mid y.1 ++ lines (y :: r) ≠ [] := fun q => lines_ne (by simp) (List.append_eq_nil_iff.mp q).2
    rw [body_two, ih]
    show _ = Str.join nl (x.2 :: (mid y.1 ++ lines (y :: r)))
    have : Str.join nl (x.2 :: (mid y.1 ++ lines (y :: r))) = x.2 ++ nl ++ Str.join nl (mid y.1 ++ lines (y :: r)) := by
      cases h : mid y.1 ++ lines (y :: r) with
      | nil => exact absurd h hne
      | cons a q => rfl
    rw [this, join_pfx (lines_ne (by simp)), Str.append_assoc, ← Str.append_assoc nl, ← hp]
theorem lines_free : ∀ {t : List Pc}, (∀ x ∈ t, OkPc x) → ∀ l ∈ lines t, Free l
  | [], _, l, h => by simp [lines] at h
  | [x], ok, l, h => by
    simp only [lines, List.mem_singleton] at h
    rw [h]; exact (word_facts _ (ok x (by simp)).w).1
  | x :: y :: r, ok, l, h => by
    simp only [lines, List.mem_cons, List.mem_append] at h
    rcases h with rfl | h | h
    · exact (word_facts _ (ok x (by simp)).w).1
    · exact ((part_facts _ (ok y (by simp)).p).2.1 l h).1
    · exact lines_free (t := y :: r) (fun z hz => ok z (List.mem_cons_of_mem _ hz)) l h
theorem word_firm {w : Str} (h : w ∈ wordsL) : Firm w := by
  obtain ⟨_, h1, h2, h3, _⟩ := word_facts w h
  constructor
  · cases e : w.cps.toList with
    | nil => exact absurd e h1
    | cons k r => rw [e] at h2; exact ⟨k, r, rfl, h2⟩
  · rcases List.eq_nil_or_concat w.cps.toList with e | ⟨r, k, e⟩
    · exact absurd e h1
    · refine ⟨r, k, by simpa using e, ?_⟩
      rw [e] at h3; simpa using h3
theorem Firm.app {a b c : Str} (ha : Firm a) (hc : Firm c) : Firm (a ++ (b ++ c)) := by
  obtain ⟨k, r, e, n⟩ := ha.first
  obtain ⟨q, j, e', n'⟩ := hc.last
  exact ⟨⟨k, r ++ (b ++ c).cps.toList, by rw [tl_append, e]; rfl, n⟩, ⟨a.cps.toList ++ (b.cps.toList ++ q), j, by rw [tl_append, tl_append, e']; simp, n'⟩⟩
theorem body_firm : ∀ {t : List Pc}, t ≠ [] → (∀ x ∈ t, OkPc x) → Firm (body t)
  | [], h, _ => absurd rfl h
  | [x], _, ok => by rw [body_one]; exact word_firm (ok x (by simp)).w
  | x :: y :: r, _, ok => by
    rw [body_two]
    exact (word_firm (ok x (by simp)).w).app (body_firm (t := y :: r) (by simp) fun z hz => ok z (List.mem_cons_of_mem _ hz))

/-! what splitdoc gives of such a text -/
section
variable {y : Str} {x z : Pc} {r : List Pc}
theorem sd_lines {t : List Pc} (h0 : t ≠ []) (ok : ∀ x ∈ t, OkPc x) (h : Txt.strip y = body t) : Txt.split (Txt.strip y) nl = lines t := by
  rw [h, body_lines h0 ok, split_lines (lines_ne h0) (lines_free ok)]
theorem sd_one (ok : OkPc x) (h : Txt.strip y = body [x]) : sd y = (x.2, e0) := by
  have := sd_lines (t := [x]) (by simp) (by simpa using ok) h
  unfold sd; rw [this]; rfl
theorem lines_cons (z : Pc) (r : List Pc) : ∃ q, lines (z :: r) = z.2 :: q := by
  cases r with
  | nil => exact ⟨[], rfl⟩
  | cons a r => exact ⟨_, rfl⟩
theorem sd_torn (ok : ∀ a ∈ x :: z :: r, OkPc a) (hz : z.1 = Str.ofString "\n") (h : Txt.strip y = body (x :: z :: r)) : sd y = (e0, body (x :: z :: r)) := by
  have e := sd_lines (by simp) ok h
  have hm : mid z.1 = [] := (part_facts _ (ok z (by simp)).p).2.2.1.mpr hz
  have e2 : lines (x :: z :: r) = x.2 :: lines (z :: r) := by show _ :: (mid z.1 ++ _) = _; rw [hm]; rfl
  obtain ⟨q, hq⟩ := lines_cons z r
  have e3 := body_lines (t := x :: z :: r) (by simp) ok
  unfold sd
  rw [e, e3, e2, hq]
  show (if (Txt.rstrip z.2).length = 0 then _ else _) = _
  rw [if_neg (word_facts _ (ok z (by simp)).w).2.2.2.2.1, txt_join]
theorem sd_more (ok : ∀ a ∈ x :: z :: r, OkPc a) (hz : z.1 ≠ Str.ofString "\n") (h : Txt.strip y = body (x :: z :: r)) : sd y = (x.2, pfx (mid z.1).tail ++ body (z :: r)) := by
  have e := sd_lines (by simp) ok h
  have pf := part_facts _ (ok z (by simp)).p
  have e3 := body_lines (t := z :: r) (by simp) fun a ha => ok a (List.mem_cons_of_mem _ ha)
  cases hm : mid z.1 with
  | nil => exact absurd (pf.2.2.1.mp hm) hz
  | cons a ms =>
    have e2 : lines (x :: z :: r) = x.2 :: a :: (ms ++ lines (z :: r)) := by show _ :: (mid z.1 ++ _) = _; rw [hm]; rfl
    unfold sd
    rw [e, e2]
    show (if (Txt.rstrip a).length = 0 then _ else _) = _
    rw [if_pos (pf.2.1 a (by rw [hm]; exact List.mem_cons_self ..)).2, txt_join, join_pfx (lines_ne (by simp)), ← e3]; rfl
theorem sd_nil : sd e0 = (e0, e0) := by decide +kernel
end

/-! the words of a row that are told, and what is left of it -/
def live : List Pc → List Str
  | [] => []
  | [x] => [x.2]
  | x :: y :: r => if y.1 = Str.ofString "\n" then [] else x.2 :: live (y :: r)
def left : List Pc → Option Str
  | [] => none
  | [x] => none
  | x :: y :: r => if y.1 = Str.ofString "\n" then some (body (x :: y :: r)) else left (y :: r)
/-- the text y bears the words ws, then what is left -/
def Bears (y : Str) (t : List Pc) : Prop := (t = [] ∧ y = e0) ∨ (t ≠ [] ∧ ∃ q q', y = q ++ body t ++ q' ∧ White q ∧ White q' ∧ q.length ≤ 8 ∧ q'.length ≤ 8)
structure Rest (y : Str) (ws : List Str) (lf : Option Str) : Prop where
  ex : ∃ t : List Pc, Bears y t ∧ (∀ x ∈ t, OkPc x) ∧ t.length ≤ 100 ∧ live t = ws ∧ left t = lf
theorem body_len : ∀ {t : List Pc}, (∀ x ∈ t, OkPc x) → (body t).length ≤ 16 * t.length
  | [], _ => Nat.le_of_ble_eq_true (by decide +kernel)
  | [x], ok => by rw [body_one]; have := (word_facts _ (ok x (by simp)).w).2.2.2.2.2.1; simp; omega
  | x :: y :: r, ok => by
    have ih := body_len (t := y :: r) fun z hz => ok z (List.mem_cons_of_mem _ hz)
    have h1 := (word_facts _ (ok x (by simp)).w).2.2.2.2.2.1
    have h2 := (part_facts _ (ok y (by simp)).p).2.2.2.2.2.1
    rw [body_two, Str.length_append, Str.length_append]
    simp only [List.length_cons] at ih ⊢; omega
theorem Rest.short {y : Str} {ws : List Str} {lf : Option Str} (h : Rest y ws lf) : y.length ≤ 100000 := by
  obtain ⟨t, hb, ok, hl, _⟩ := h.ex
  rcases hb with ⟨_, rfl⟩ | ⟨_, q, q', rfl, _, _, h1, h2⟩
  · decide +kernel
  · have := body_len ok
    rw [Str.length_append, Str.length_append]; omega
theorem ne_e0 {w : Str} (h : Firm w) : (w != e0) = true := by
  obtain ⟨k, r, e, _⟩ := h.first
  cases q : (w != e0) with
  | true => rfl
  | false =>
    have : w = e0 := by simpa using q
    rw [this, show e0.cps.toList = [] by decide +kernel] at e; cases e
theorem Rest.nil {y : Str} {lf : Option Str} (h : Rest y [] lf) : sd y = (e0, lf.getD e0) ∧ ∀ b, lf = some b → (b != e0) = true := by
  obtain ⟨t, hb, ok, hl, h1, h2⟩ := h.ex
  rcases hb with ⟨rfl, rfl⟩ | ⟨hne, q, q', rfl, wq, wq', _, _⟩
  · rw [← h2]; exact ⟨sd_nil, by simp [left]⟩
  · have hs : Txt.strip (q ++ body t ++ q') = body t := strip_of wq wq' (body_firm hne ok)
    match t, hne with
    | [x], _ => simp [live] at h1
    | x :: z :: r, _ =>
      simp only [live] at h1
      split at h1
      · rename_i hz
        simp only [left, if_pos hz] at h2
        rw [← h2]
        refine ⟨sd_torn ok hz hs, fun b hb => ?_⟩
        cases hb; exact ne_e0 (body_firm (by simp) ok)
      · cases h1
theorem Rest.cons {y : Str} {w : Str} {ws : List Str} {lf : Option Str} (h : Rest y (w :: ws) lf) : ∃ y', sd y = (w, y') ∧ (w != e0) = true ∧ Rest y' ws lf := by
  obtain ⟨t, hb, ok, hl, h1, h2⟩ := h.ex
  rcases hb with ⟨rfl, rfl⟩ | ⟨hne, q, q', rfl, wq, wq', _, _⟩
  · simp [live] at h1
  · have hs : Txt.strip (q ++ body t ++ q') = body t := strip_of wq wq' (body_firm hne ok)
    match t, hne with
    | [x], _ =>
      simp only [live, List.cons.injEq] at h1
      obtain ⟨rfl, rfl⟩ := h1
      refine ⟨e0, sd_one (ok x (by simp)) hs, (word_facts _ (ok x (by simp)).w).2.2.2.2.2.2, ⟨[], .inl ⟨rfl, rfl⟩, by simp, by simp, rfl, ?_⟩⟩
      rw [← h2]; rfl
    | x :: z :: r, _ =>
      simp only [live] at h1
      split at h1
      · cases h1
      · rename_i hz
        simp only [left, if_neg hz] at h2
        simp only [List.cons.injEq] at h1
        obtain ⟨rfl, rfl⟩ := h1
        have pf := part_facts _ (ok z (by simp)).p
        refine ⟨_, sd_more ok hz hs, (word_facts _ (ok x (by simp)).w).2.2.2.2.2.2, ⟨z :: r, .inr ⟨by simp, pfx (mid z.1).tail, e0, by rw [app_e0], pf.2.2.2.1, (by unfold White; decide +kernel), pf.2.2.2.2.2.2, by decide +kernel⟩, fun a ha => ok a (List.mem_cons_of_mem _ ha), by simp at hl ⊢; omega, rfl, h2⟩⟩
theorem rest_doc {row : List Pc} (h0 : row ≠ []) (ok : ∀ x ∈ row, OkPc x) (hl : row.length ≤ 100) : Rest (docOf row) (live row) (left row) := by
  refine ⟨row, .inr ⟨h0, ?_⟩, ok, hl, rfl, rfl⟩
  match row, h0 with
  | x :: r, _ =>
    have pf := part_facts _ (ok x (by simp)).p
    refine ⟨x.1, Str.ofString "\n", ?_, pf.2.2.2.2.1, by unfold White; decide +kernel, pf.2.2.2.2.2.1, by decide +kernel⟩
    show Txt.join e0 ((x.1 ++ x.2) :: _) ++ _ = _
    rw [join_nil_cons, Str.append_assoc x.1]; rfl
end Mine

namespace Mine

/-! orders -/
theorem ltS_asymm {a b : Str} (h : ltS a b = true) : ltS b a = false := by
  cases e : ltS b a with
  | false => rfl
  | true => have := ltS_trans h e; rw [ltS_irr] at this; cases this
theorem ltS_ne {a b : Str} (h : ltS a b = true) : a ≠ b := fun q => by rw [q, ltS_irr] at h; cases h
theorem ltS_ge {a b : Str} (h : ltS a b = false) : a = b ∨ ltS b a = true := by
  by_cases e : a = b
  · exact .inl e
  · rcases ltS_total e with q | q
    · rw [q] at h; cases h
    · exact .inr q
def kl (a : Str) (i : Int) (b : Str) (j : Int) : Prop := ltS a b = true ∨ (a = b ∧ i < j)
theorem kl_trans {a b d : Str} {i j k : Int} (h1 : kl a i b j) (h2 : kl b j d k) : kl a i d k := by
  rcases h1 with h1 | ⟨rfl, h1⟩
  · rcases h2 with h2 | ⟨rfl, h2⟩
    · exact .inl (ltS_trans h1 h2)
    · exact .inl h1
  · rcases h2 with h2 | ⟨rfl, h2⟩
    · exact .inl h2
    · exact .inr ⟨rfl, by omega⟩
theorem kl_up {a b d : Str} {i j : Int} (h1 : kl a i b j) (h2 : ltS d b = false) : kl a i d j := by
  rcases ltS_ge h2 with rfl | h2
  · exact h1
  · rcases h1 with h1 | ⟨rfl, h1⟩
    · exact .inl (ltS_trans h1 h2)
    · exact .inl h2

/-! heapq's items -/
theorem It.lt_irr (x : It) : x.lt x = false := ltL_irr _
theorem It.like (x y : It) : Like [.str x.w, .int x.p, .str x.r] [.str y.w, .int y.p, .str y.r] := .str (.int (.str .nil))
theorem It.lt_trans {x y z : It} (h1 : x.lt y = true) (h2 : y.lt z = true) : x.lt z = true := ltL_trans (It.like x y) (It.like y z) h1 h2
theorem It.lt_asymm {x y : It} (h : x.lt y = true) : y.lt x = false := by
  cases e : y.lt x with
  | false => rfl
  | true => have := It.lt_trans h e; rw [It.lt_irr] at this; cases this
theorem It.kl {x y : It} (h : y.lt x = false) (hp : x.p ≠ y.p) : Mine.kl x.w x.p y.w y.p := by
  unfold It.lt at h
  simp only [ltL] at h
  by_cases hw : y.w = x.w
  · rw [if_pos hw, if_neg (Ne.symm hp)] at h
    have := of_decide_eq_false h
    exact .inr ⟨hw.symm, by omega⟩
  · rw [if_neg hw] at h
    rcases ltS_total hw with q | q
    · rw [q] at h; cases h
    · exact .inl q
theorem sup2 (x a : It) : sup [x, a] = if x.lt a then [x, a] else [a, x] := by
  show sdown [a, x] 1 x a = _
  unfold sdown
  split <;> rfl
theorem sup3 (x a b : It) : sup [x, a, b] = if a.lt b then (if x.lt a then [x, a, b] else [a, x, b]) else (if x.lt b then [x, a, b] else [b, a, x]) := by
  by_cases h : a.lt b = true
  · have hc : child [x, a, b] = some (1, a) := by show (if a.lt b then _ else _) = _; rw [if_pos h]
    unfold sup
    rw [hc, if_pos h]
    show sdown [a, x, b] 1 x a = _
    unfold sdown
    split <;> rfl
  · have hc : child [x, a, b] = some (2, b) := by show (if a.lt b then _ else _) = _; rw [if_neg h]
    unfold sup
    rw [hc, if_neg h]
    show sdown [b, a, x] 2 x b = _
    unfold sdown
    split <;> rfl
theorem sup_perm : ∀ {l : List It}, l.length ≤ 3 → (sup l).Perm l
  | [], _ => .refl _
  | [x], _ => .refl _
  | [x, a], _ => by rw [sup2]; split; exact .refl _; exact .swap _ _ _
  | [x, a, b], _ => by
    rw [sup3]
    split
    · split
      · exact .refl _
      · exact .swap _ _ _
    · split
      · exact .refl _
      · exact ((List.Perm.swap a b [x])).trans (.trans (.cons _ (.swap x b [])) (.swap x a [b]))
  | _ :: _ :: _ :: _ :: _, h => by simp at h
theorem bfalse {b : Bool} (h : ¬ b = true) : b = false := by cases b; rfl; exact absurd rfl h
theorem sup_least : ∀ {l : List It} {x : It} {r : List It}, l.length ≤ 3 → sup l = x :: r → ∀ y ∈ r, y.lt x = false
  | [], _, _, _, h => by cases h
  | [x], _, _, _, h => by cases h; simp
  | [x, a], z, r, _, h => by
    rw [sup2] at h
    split at h
    · rename_i q; cases h; intro y hy; rw [List.mem_singleton.mp hy]; exact It.lt_asymm q
    · rename_i q; cases h; intro y hy; rw [List.mem_singleton.mp hy]; exact bfalse q
  | [x, a, b], z, r, _, h => by
    rw [sup3] at h
    split at h
    · rename_i q1
      split at h
      · rename_i q2; cases h; intro y hy
        rcases List.mem_cons.mp hy with rfl | hy
        · exact It.lt_asymm q2
        · rw [List.mem_singleton.mp hy]; exact It.lt_asymm (It.lt_trans q2 q1)
      · rename_i q2; cases h; intro y hy
        rcases List.mem_cons.mp hy with rfl | hy
        · exact bfalse q2
        · rw [List.mem_singleton.mp hy]; exact It.lt_asymm q1
    · rename_i q1
      split at h
      · rename_i q2; cases h; intro y hy
        rcases List.mem_cons.mp hy with rfl | hy
        · refine bfalse fun q => q1 (It.lt_trans q q2)
        · rw [List.mem_singleton.mp hy]; exact It.lt_asymm q2
      · rename_i q2; cases h; intro y hy
        rcases List.mem_cons.mp hy with rfl | hy
        · exact bfalse q1
        · rw [List.mem_singleton.mp hy]; exact bfalse q2
  | _ :: _ :: _ :: _ :: _, _, _, h, _ => by simp at h
theorem popped_perm {r : List It} (h : r.length ≤ 3) : (popped r).Perm r := by
  rcases List.eq_nil_or_concat r with rfl | ⟨q, y, rfl⟩
  · exact .refl _
  · simp only [List.concat_eq_append] at h ⊢
    unfold popped
    rw [List.getLast?_concat, List.dropLast_concat]
    refine (sup_perm (by simp at h ⊢; omega)).trans ?_
    simpa using (List.perm_append_comm (l₁ := [y]) (l₂ := q))
theorem popped_least {r : List It} {x : It} {r' : List It} (h : r.length ≤ 3) (e : popped r = x :: r') : ∀ y ∈ r', y.lt x = false := by
  rcases List.eq_nil_or_concat r with rfl | ⟨q, y, rfl⟩
  · cases e
  · simp only [List.concat_eq_append] at h e
    unfold popped at e
    rw [List.getLast?_concat, List.dropLast_concat] at e
    exact sup_least (by simp at h ⊢; omega) e

/-! what is due, by streams -/
def top : Option Str → Str → Str
  | none, w => w
  | some q, w => if ltS q w then w else q
def itemsFrom (p : Int) : Option Str → Nat → List Str → List Im
  | _, _, [] => []
  | pk, k, w :: ws => ⟨top pk w, p, k, w⟩ :: itemsFrom p (some (top pk w)) (k + 1) ws
theorem top_ge (q w : Str) : ltS (top (some q) w) q = false := by
  unfold top
  by_cases h : ltS q w = true
  · simp only [h, if_true]; exact ltS_asymm h
  · simp only [if_neg h]; exact ltS_irr _
theorem ge_trans {a b d : Str} (h1 : ltS a b = false) (h2 : ltS b d = false) : ltS a d = false := by
  cases e : ltS a d with
  | false => rfl
  | true =>
    rcases ltS_ge h1 with rfl | h
    · rw [e] at h2; cases h2
    · rw [ltS_trans h e] at h2; cases h2
theorem itemsFrom_facts {p : Int} : ∀ {ws : List Str} {q : Str} {k : Nat}, ∀ i ∈ itemsFrom p (some q) k ws, i.place = p ∧ (k : Int) ≤ i.k ∧ ltS i.peak q = false
  | [], _, _, i, h => by simp [itemsFrom] at h
  | w :: ws, q, k, i, h => by
    rw [itemsFrom] at h
    rcases List.mem_cons.mp h with rfl | h
    · exact ⟨rfl, Int.le_refl _, top_ge q w⟩
    · have := itemsFrom_facts i h
      exact ⟨this.1, by have := this.2.1; omega, ge_trans this.2.2 (top_ge q w)⟩
theorem Im.like (x y : Im) : Like x.l y.l := .str (.int (.int (.str .nil)))
theorem Im.asymm {x y : Im} (h : ltL x.l y.l = true) : ltL y.l x.l = false := by
  cases e : ltL y.l x.l with
  | false => rfl
  | true => have := ltL_trans (Im.like x y) (Im.like y x) h e; rw [ltL_irr] at this; cases this
theorem Im.lt_of_kl {x y : Im} (h : kl x.peak x.place y.peak y.place) : ltL x.l y.l = true := by
  unfold Im.l
  simp only [ltL]
  rcases h with h | ⟨h, h'⟩
  · rw [if_neg (ltS_ne h)]; exact h
  · rw [if_pos h, if_neg (by omega)]; exact decide_eq_true h'
theorem Im.lt_of_k {x y : Im} (hp : x.place = y.place) (h : ltS y.peak x.peak = false) (hk : x.k < y.k) : ltL x.l y.l = true := by
  unfold Im.l
  simp only [ltL]
  by_cases e : x.peak = y.peak
  · rw [if_pos e, if_pos hp, if_neg (by omega)]; exact decide_eq_true hk
  · rw [if_neg e]
    rcases ltS_total e with q | q
    · exact q
    · rw [q] at h; cases h

/-- one stream: its item in the heap, the words behind, what is left at its end; its peak so far, its next k -/
structure Sm where
  w : Str
  p : Int
  r : Str
  ws : List Str
  lf : Option Str
  pk : Option Str
  k : Nat
def Sm.it (s : Sm) : It := ⟨s.w, s.p, s.r⟩
def Sm.items (s : Sm) : List Im := itemsFrom s.p s.pk s.k (s.w :: s.ws)
def offs (p : Int) : Option Str → List As
  | some b => [⟨p, b⟩]
  | none => []
def Sm.off (s : Sm) : List As := offs s.p s.lf
def Sm.head (s : Sm) : Im := ⟨top s.pk s.w, s.p, s.k, s.w⟩
def Sm.tail (s : Sm) : List Im := itemsFrom s.p (some (top s.pk s.w)) (s.k + 1) s.ws
theorem Sm.items_eq (s : Sm) : s.items = s.head :: s.tail := rfl
theorem Sm.lt_tail (s : Sm) : ∀ i ∈ s.tail, ltL s.head.l i.l = true := fun i hi => by
  have f := itemsFrom_facts i hi
  exact Im.lt_of_k f.1.symm f.2.2 (by have := f.2.1; show (s.k : Int) < _; omega)
theorem Sm.lt_other {s s' : Sm} (h : kl (top s.pk s.w) s.p s'.w s'.p) (ht : top s'.pk s'.w = s'.w) : ∀ i ∈ s'.items, ltL s.head.l i.l = true := fun i hi => by
  rw [Sm.items_eq] at hi
  rcases List.mem_cons.mp hi with rfl | hi
  · refine Im.lt_of_kl ?_
    show kl (top s.pk s.w) s.p (top s'.pk s'.w) s'.p
    rw [ht]; exact h
  · have f := itemsFrom_facts i hi
    refine Im.lt_of_kl ?_
    show kl (top s.pk s.w) s.p i.peak i.place
    rw [f.1]
    rw [ht] at f
    exact kl_up h f.2.2
/-- c: peak and place of the last that was told -/
structure Inv (c : Option (Str × Int)) (hs : List Sm) : Prop where
  nodup : (hs.map Sm.p).Nodup
  rest : ∀ s ∈ hs, Rest s.r s.ws s.lf
  role : ∀ s ∈ hs, (∃ q, c = some (q, s.p) ∧ s.pk = some q) ∨ (top s.pk s.w = s.w ∧ ∀ q p, c = some (q, p) → kl q p s.w s.p)
theorem Inv.perm {c : Option (Str × Int)} {hs hs' : List Sm} (I : Inv c hs) (p : hs.Perm hs') : Inv c hs' :=
  ⟨(p.map Sm.p).nodup I.nodup, fun s h => I.rest s (p.mem_iff.mpr h), fun s h => I.role s (p.mem_iff.mpr h)⟩
theorem Inv.step {c : Option (Str × Int)} {sx : Sm} {hs : List Sm} (I : Inv c (sx :: hs)) (hl : ∀ s ∈ hs, kl sx.w sx.p s.w s.p) : ∀ s ∈ hs, top s.pk s.w = s.w ∧ kl (top sx.pk sx.w) sx.p s.w s.p := fun s hs' => by
  have hne : sx.p ≠ s.p := fun q => (List.nodup_cons.mp I.nodup).1 (q ▸ List.mem_map_of_mem hs')
  have h1 := hl s hs'
  rcases I.role sx (List.mem_cons_self ..) with ⟨q, hc, hq⟩ | ⟨ht, hw⟩
  · rcases I.role s (List.mem_cons_of_mem _ hs') with ⟨q', hc', _⟩ | ⟨ht', hw'⟩
    · rw [hc] at hc'; exact absurd (Prod.mk.inj (Option.some.inj hc')).2 hne
    · refine ⟨ht', ?_⟩
      rw [hq]
      unfold top
      by_cases hh : ltS q sx.w = true
      · simp only [hh, if_true]; exact h1
      · simp only [if_neg hh]; exact hw' q sx.p hc
  · rw [ht]
    refine ⟨?_, h1⟩
    rcases I.role s (List.mem_cons_of_mem _ hs') with ⟨q', hc', hq'⟩ | ⟨ht', hw'⟩
    · rcases kl_trans (hw q' s.p hc') h1 with h | ⟨_, h⟩
      · rw [hq']; unfold top; simp only [h, if_true]
      · omega
    · exact ht'

theorem least_head {its out : List Im} {x : Im} (p : out.Perm (x :: its)) (hl : ∀ i ∈ its, ltL x.l i.l = true) (hs : out.Pairwise fun x y => ltL x.l y.l = true) : ∃ o, out = x :: o ∧ o.Perm its ∧ o.Pairwise fun x y => ltL x.l y.l = true := by
  cases out with
  | nil => have := p.length_eq; simp at this
  | cons z o =>
    obtain ⟨h1, h2⟩ := List.pairwise_cons.mp hs
    have hz : z = x := by
      rcases List.mem_cons.mp (p.mem_iff.mp (List.mem_cons_self ..)) with e | e
      · exact e
      · rcases List.mem_cons.mp (p.mem_iff.mpr (List.mem_cons_self ..)) with e' | e'
        · exact e'.symm
        · have := h1 x e'
          rw [Im.asymm (hl z e)] at this; cases this
    subst hz
    exact ⟨o, rfl, p.cons_inv, h2⟩
end Mine

namespace Mine

theorem sum_pos {hs : List Sm} (h : (hs.map fun s => 1 + s.ws.length).sum = 0) : hs = [] := by
  cases hs with
  | nil => rfl
  | cons s r => simp only [List.map_cons, List.sum_cons] at h; omega
theorem aside_eq {p : Int} {lf : Option Str} {a : List As} (hb : ∀ b, lf = some b → (b != e0) = true) : (if (lf.getD e0) != (Str.ofString "") then a ++ [(⟨p, lf.getD e0⟩ : As)] else a) = a ++ offs p lf := by
  cases lf with
  | none => rw [if_neg (by decide +kernel)]; simp [offs]
  | some b => rw [if_pos (show (((some b).getD e0) != Str.ofString "") = true from hb b rfl)]; rfl

set_option maxHeartbeats 1000000 in
theorem merge : ∀ (n : Nat) (h : List It) (hs : List Sm) (c : Option (Str × Int)) (t : List Tl) (a : List As), (hs.map fun s => 1 + s.ws.length).sum = n → h.Perm (hs.map Sm.it) → (∀ x r, h = x :: r → ∀ y ∈ r, y.lt x = false) →
    Inv c hs → hs.length ≤ 3 → t.length + n < 2 ^ 20 → a.length + hs.length < 2 ^ 20 →
    ∃ ts fin, Runs n h t a (t ++ ts) fin ∧ fin.Perm (a ++ hs.flatMap Sm.off) ∧ ∀ out : List Im, out.Perm (hs.flatMap Sm.items) → (out.Pairwise fun x y => ltL x.l y.l = true) → out.map Im.tl = ts
  | 0, h, hs, c, t, a, hn, hp, _, _, _, _, _ => by
    have := sum_pos hn; subst this
    have : h = [] := List.Perm.eq_nil hp
    subst this
    refine ⟨[], a, by rw [List.append_nil]; exact .fin, by simp, fun out ho _ => ?_⟩
    have : out = [] := List.Perm.eq_nil ho
    subst this; rfl
  | n + 1, h, hs, c, t, a, hn, hp, hl, I, h3, ht, ha => by
    cases h with
    | nil =>
      have : hs = [] := by have := hp.length_eq; simp at this; exact List.eq_nil_of_length_eq_zero this.symm
      subst this; simp at hn
    | cons x r =>
      obtain ⟨sx, hsx, ex⟩ := List.mem_map.mp (hp.mem_iff.mp (List.mem_cons_self ..))
      obtain ⟨l1, l2, e12⟩ := List.append_of_mem hsx
      have ph : hs.Perm (sx :: (l1 ++ l2)) := by rw [e12]; exact List.perm_middle
      generalize l1 ++ l2 = hs1 at ph
      have I1 := I.perm ph
      have hr : r.Perm (hs1.map Sm.it) := by
        have q := hp.trans (ph.map Sm.it)
        rw [List.map_cons, ex] at q
        exact q.cons_inv
      have hlen : hs.length = hs1.length + 1 := by have := ph.length_eq; simpa using this
      have hrl : r.length = hs1.length := by have := hr.length_eq; simpa using this
      have hsum : 1 + sx.ws.length + (hs1.map fun s => 1 + s.ws.length).sum = n + 1 := by
        have := (ph.map fun s => 1 + s.ws.length).sum_nat
        rw [hn] at this
        simpa using this.symm
      have hkl : ∀ s ∈ hs1, kl sx.w sx.p s.w s.p := fun s hs' => by
        have hy : s.it ∈ r := hr.mem_iff.mpr (List.mem_map_of_mem hs')
        have hne : sx.p ≠ s.p := fun q => (List.nodup_cons.mp I1.nodup).1 (q ▸ List.mem_map_of_mem hs')
        have := hl x r rfl _ hy
        rw [← ex] at this
        exact It.kl (x := sx.it) (y := s.it) this hne
      have st := I1.step hkl
      have hlt : ∀ i ∈ sx.tail ++ hs1.flatMap Sm.items, ltL sx.head.l i.l = true := fun i hi => by
        rcases List.mem_append.mp hi with hi | hi
        · exact sx.lt_tail i hi
        · obtain ⟨s, hs', hi⟩ := List.mem_flatMap.mp hi
          exact Sm.lt_other (st s hs').2 (st s hs').1 i hi
      have pit : (hs.flatMap Sm.items).Perm (sx.head :: (sx.tail ++ hs1.flatMap Sm.items)) := by
        have := ph.flatMap_right Sm.items
        rw [List.flatMap_cons, Sm.items_eq] at this
        exact this
      have poff : (hs.flatMap Sm.off).Perm (sx.off ++ hs1.flatMap Sm.off) := by
        have := ph.flatMap_right Sm.off
        rwa [List.flatMap_cons] at this
      have rx := I1.rest sx (List.mem_cons_self ..)
      have exr : x.r = sx.r := by rw [← ex]; rfl
      have exw : x.w = sx.w := by rw [← ex]; rfl
      have exp : x.p = sx.p := by rw [← ex]; rfl
      have fits : Fits x r t a := ⟨by omega, by omega, by omega, by rw [exr]; exact rx.short⟩
      have I2 : Inv (some (top sx.pk sx.w, sx.p)) hs1 := ⟨(List.nodup_cons.mp I1.nodup).2, fun s hs' => I1.rest s (List.mem_cons_of_mem _ hs'), fun s hs' => .inr ⟨(st s hs').1, fun q p e => by cases e; exact (st s hs').2⟩⟩
      cases hws : sx.ws with
      | nil =>
        rw [hws] at rx hsum
        obtain ⟨e1, e2⟩ := rx.nil
        rw [← exr] at e1
        have htl : sx.tail = [] := by unfold Sm.tail; rw [hws]; rfl
        obtain ⟨ts, fin, run, pf, ho⟩ := merge n (popped r) hs1 _ (t ++ [⟨x.w, x.p⟩]) (a ++ sx.off) (by simp at hsum; omega) ((popped_perm (by omega)).trans hr) (fun y q e => popped_least (by omega) e) I2 (by omega) (by simp; omega)
          (by unfold Sm.off offs; cases sx.lf <;> simp <;> omega)
        refine ⟨⟨x.w, x.p⟩ :: ts, fin, ?_, ?_, fun out po so => ?_⟩
        · refine .take (by rw [e1]; exact (by decide +kernel : (e0 != Str.ofString "") = false)) fits ?_
          rw [e1, exp]
          show Runs n _ _ (if (sx.lf.getD e0) != (Str.ofString "") then a ++ [(⟨sx.p, sx.lf.getD e0⟩ : As)] else a) _ _
          rw [aside_eq e2]
          rw [List.append_assoc, exp] at run
          exact run
        · refine pf.trans ?_
          rw [List.append_assoc]
          exact (poff.symm.append_left a)
        · obtain ⟨o, rfl, p1, p2⟩ := least_head (po.trans pit) hlt so
          rw [htl, List.nil_append] at p1
          rw [List.map_cons, ho o p1 p2, exw, exp]; rfl
      | cons w' ws' =>
        rw [hws] at rx hsum
        obtain ⟨y', e1, e2, rx'⟩ := rx.cons
        rw [← exr] at e1
        let sx' : Sm := ⟨w', sx.p, y', ws', sx.lf, some (top sx.pk sx.w), sx.k + 1⟩
        have htl : sx.tail = sx'.items := by unfold Sm.tail; rw [hws]; rfl
        have hperm : (sup (⟨w', x.p, y'⟩ :: r)).Perm ((sx' :: hs1).map Sm.it) := by
          refine (sup_perm (by simp; omega)).trans ?_
          rw [List.map_cons, exp]
          exact hr.cons _
        have I3 : Inv (some (top sx.pk sx.w, sx.p)) (sx' :: hs1) := by
          refine ⟨?_, ?_, ?_⟩
          · exact I1.nodup
          · intro s hs'
            rcases List.mem_cons.mp hs' with rfl | hs'
            · exact rx'
            · exact I2.rest s hs'
          · intro s hs'
            rcases List.mem_cons.mp hs' with rfl | hs'
            · exact .inl ⟨_, rfl, rfl⟩
            · exact I2.role s hs'
        obtain ⟨ts, fin, run, pf, ho⟩ := merge n (sup (⟨w', x.p, y'⟩ :: r)) (sx' :: hs1) _ (t ++ [⟨x.w, x.p⟩]) a (by simp only [List.map_cons, List.sum_cons]; simp at hsum; show 1 + ws'.length + _ = _; omega) hperm (fun y q e => sup_least (by simp; omega) e) I3 (by simp; omega) (by simp; omega) (by simp; omega)
        refine ⟨⟨x.w, x.p⟩ :: ts, fin, ?_, ?_, fun out po so => ?_⟩
        · refine .give (by rw [e1]; exact e2) fits ?_
          rw [e1]
          rw [List.append_assoc] at run
          exact run
        · refine pf.trans (List.Perm.append_left a ?_)
          rw [List.flatMap_cons]
          exact poff.symm
        · obtain ⟨o, rfl, p1, p2⟩ := least_head (po.trans pit) hlt so
          rw [htl] at p1
          rw [List.map_cons, ho o (by rw [List.flatMap_cons]; exact p1) p2, exw, exp]; rfl
end Mine

namespace Mine

/-! the rows and their streams -/
theorem torn_one (x : Pc) : tornOf [x] = [] := rfl
theorem torn_cons (x y : Pc) (r : List Pc) : tornOf (x :: y :: r) = (if y.1 = Str.ofString "\n" then [0] else []) ++ (tornOf (y :: r)).map (· + 1) := by
  unfold tornOf
  have e1 : (x :: y :: r).length - 1 = ((y :: r).length - 1) + 1 := by simp
  rw [e1, List.range_succ_eq_map, List.filter_cons, List.filter_map]
  have e2 : isTorn (x :: y :: r) 0 = decide (y.1 = Str.ofString "\n") := by
    show (y.1 == Str.ofString "\n") = _
    by_cases h : y.1 = Str.ofString "\n" <;> simp [h]
  have e3 : (isTorn (x :: y :: r) ∘ Nat.succ) = isTorn (y :: r) := by funext k; rfl
  rw [e2, e3]
  by_cases h : y.1 = Str.ofString "\n"
  · simp [h]
  · simp [h]
theorem end_one (x : Pc) : endOf [x] = 1 := rfl
theorem end_cons (x y : Pc) (r : List Pc) : endOf (x :: y :: r) = if y.1 = Str.ofString "\n" then 0 else endOf (y :: r) + 1 := by
  unfold endOf
  rw [torn_cons]
  by_cases h : y.1 = Str.ofString "\n"
  · rw [if_pos h, if_pos h]; rfl
  · rw [if_neg h, if_neg h, List.nil_append]
    cases tornOf (y :: r) with
    | nil => rfl
    | cons a q => rfl
theorem end_live : ∀ row : List Pc, live row = (row.take (endOf row)).map (·.2)
  | [] => rfl
  | [x] => rfl
  | x :: y :: r => by
    rw [end_cons]
    unfold live
    by_cases h : y.1 = Str.ofString "\n"
    · rw [if_pos h, if_pos h]; rfl
    · rw [if_neg h, if_neg h, end_live (y :: r)]; rfl
theorem left_due : ∀ row : List Pc, left row = if tornOf row = [] then none else some (textFrom row (endOf row))
  | [] => rfl
  | [x] => rfl
  | x :: y :: r => by
    have ih := left_due (y :: r)
    rw [end_cons, torn_cons]
    unfold left
    by_cases h : y.1 = Str.ofString "\n"
    · rw [if_pos h, if_pos h, if_neg (by simp), if_pos h]; rfl
    · rw [if_neg h, if_neg h, if_neg h, ih, List.nil_append]
      by_cases e : tornOf (y :: r) = []
      · rw [if_pos e, if_pos (by rw [e]; rfl)]
      · rw [if_neg e, if_neg (by simpa using e)]; rfl
theorem aside_offs (i : Int) (row : List Pc) : (if tornOf row = [] then [] else [(⟨i, textFrom row (endOf row)⟩ : As)]) = offs i (left row) := by
  rw [left_due]
  split <;> rfl
def rowIts (p : Int) (ws : List Str) : List Im := (List.range ws.length).map fun k => ⟨match ws.take (k + 1) with | [] => e0 | x :: xs => maxS x xs, p, k, ws.getD k e0⟩
theorem itemsFrom_some (p : Int) : ∀ (ws : List Str) (q : Str) (k0 : Nat), itemsFrom p (some q) k0 ws = (List.range ws.length).map fun k => ⟨maxS q (ws.take (k + 1)), p, ((k0 + k : Nat) : Int), ws.getD k e0⟩
  | [], _, _ => rfl
  | w :: ws, q, k0 => by
    rw [itemsFrom, itemsFrom_some p ws, List.length_cons, List.range_succ_eq_map, List.map_cons, List.map_map]
    congr 1
    refine List.map_congr_left fun k _ => ?_
    show (⟨_, _, _, _⟩ : Im) = ⟨_, _, _, _⟩
    rw [show k0 + 1 + k = k0 + (k + 1) by omega]
    rfl
theorem itemsFrom_none (p : Int) (ws : List Str) : itemsFrom p none 0 ws = rowIts p ws := by
  cases ws with
  | nil => rfl
  | cons w ws =>
    unfold rowIts
    rw [itemsFrom, itemsFrom_some p ws, List.length_cons, List.range_succ_eq_map, List.map_cons, List.map_map]
    congr 1
    refine List.map_congr_left fun k _ => ?_
    show (⟨_, _, _, _⟩ : Im) = ⟨_, _, _, _⟩
    rw [show 0 + 1 + k = k + 1 by omega]
    rfl
theorem rowItems_live (p : Int) (row : List Pc) : rowItems p row (endOf row) = itemsFrom p none 0 (live row) := by
  rw [itemsFrom_none, end_live]
  have hl := end_le row
  unfold rowItems rowIts
  rw [show ((row.take (endOf row)).map (·.2)).length = endOf row by simp; omega]
  refine List.map_congr_left fun k hk => ?_
  have hk := List.mem_range.mp hk
  have e1 : ((row.take (endOf row)).map (·.2)).take (k + 1) = (row.take (k + 1)).map (·.2) := by
    rw [← List.map_take, List.take_take, Nat.min_eq_left (by omega)]
  have e2 : ((row.take (endOf row)).map (·.2)).getD k e0 = (row.getD k pc0).2 := by
    rw [List.getD_eq_getElem?_getD, List.getElem?_map, List.getElem?_take_of_lt hk, List.getD_eq_getElem?_getD, List.getElem?_eq_getElem (by omega)]; rfl
  rw [e1, e2]; rfl
theorem itemsFrom_len (p : Int) : ∀ (ws : List Str) (pk : Option Str) (k : Nat), (itemsFrom p pk k ws).length = ws.length
  | [], _, _ => rfl
  | w :: ws, _, _ => by rw [itemsFrom, List.length_cons, List.length_cons, itemsFrom_len p ws]
theorem total_len (hs : List Sm) : (hs.map fun s => 1 + s.ws.length).sum = (hs.flatMap Sm.items).length := by
  rw [List.length_flatMap]
  congr 1
  refine List.map_congr_left fun s _ => ?_
  unfold Sm.items
  rw [itemsFrom_len, List.length_cons]; omega

structure RowFit (row : List Pc) : Prop where
  ne : row ≠ []
  ok : ∀ x ∈ row, OkPc x
  few : row.length ≤ 17
theorem RowFit.rowOk {row : List Pc} (h : RowFit row) : RowOk row := ⟨by have := List.length_pos_iff.mpr h.ne; omega, by have := h.few; omega, fun x hx => ⟨(part_facts _ (h.ok x hx).p).2.2.2.2.2.1, (word_facts _ (h.ok x hx).w).2.2.2.2.2.1⟩⟩

theorem fed_streams {rows : List (List Pc)} (hr : ∀ row ∈ rows, RowFit row) : ∀ i, i ≤ rows.length → ∃ hs : List Sm, (fed (rows.map docOf) i).1 = hs.map Sm.it ∧ Inv none hs ∧ (∀ s ∈ hs, s.p < i) ∧ hs.length ≤ i ∧
    hs.flatMap Sm.items = dueItems rows i ∧ ((fed (rows.map docOf) i).2 ++ hs.flatMap Sm.off).Perm (dueAside rows i)
  | 0, _ => ⟨[], rfl, ⟨List.nodup_nil, by simp, by simp⟩, by simp, Nat.le_refl _, rfl, .refl _⟩
  | i + 1, hi => by
    obtain ⟨hs, h1, I, h2, h3, h4, h5⟩ := fed_streams hr i (by omega)
    have hri : rows[i]? = some (rows.getD i []) := by rw [List.getD_eq_getElem?_getD, List.getElem?_eq_getElem (by omega)]; rfl
    have fit := hr _ (List.mem_of_getElem? hri)
    have hdoc : (rows.map docOf).getD i (Str.ofString "") = docOf (rows.getD i []) := by
      rw [List.getD_eq_getElem?_getD, List.getElem?_map, hri]; rfl
    have R := rest_doc fit.ne fit.ok (by have := fit.few; omega)
    have ef : fed (rows.map docOf) (i + 1) = put (fed (rows.map docOf) i) i (docOf (rows.getD i [])) := by show put _ _ _ = _; rw [hdoc]
    have eI : dueItems rows (i + 1) = dueItems rows i ++ itemsFrom i none 0 (live (rows.getD i [])) := by rw [← rowItems_live]; rfl
    have eA : dueAside rows (i + 1) = dueAside rows i ++ offs i (left (rows.getD i [])) := by rw [← aside_offs]; rfl
    rw [ef, eI, eA]
    generalize rows.getD i [] = row at R
    cases hw : live row with
    | nil =>
      rw [hw] at R
      obtain ⟨e1, e2⟩ := R.nil
      have ep : put (fed (rows.map docOf) i) i (docOf row) = ((fed (rows.map docOf) i).1, (fed (rows.map docOf) i).2 ++ offs i (left row)) := by
        unfold put
        rw [e1, if_neg (show ¬ (e0 != Str.ofString "") = true by decide +kernel)]
        rw [← aside_eq (a := (fed (rows.map docOf) i).2) (p := i) e2]
        show (if ((left row).getD e0 != Str.ofString "") = true then _ else _) = _
        by_cases c2 : ((left row).getD e0 != Str.ofString "") = true
        · rw [if_pos c2, if_pos c2]
        · rw [if_neg c2, if_neg c2]
      rw [ep]
      refine ⟨hs, h1, I, fun s hs' => by have := h2 s hs'; omega, by omega, by rw [h4]; simp [itemsFrom], ?_⟩
      show ((fed (rows.map docOf) i).2 ++ offs i (left row) ++ hs.flatMap Sm.off).Perm _
      rw [List.append_assoc]
      refine (List.Perm.append_left _ List.perm_append_comm).trans ?_
      rw [← List.append_assoc]
      exact h5.append_right _
    | cons w ws =>
      rw [hw] at R
      obtain ⟨y', e1, e2, R'⟩ := R.cons
      have ep : put (fed (rows.map docOf) i) i (docOf row) = ((fed (rows.map docOf) i).1 ++ [⟨w, i, y'⟩], (fed (rows.map docOf) i).2) := by
        unfold put
        rw [e1]
        show (if (w != Str.ofString "") = true then _ else _) = _
        rw [if_pos e2]
      rw [ep]
      let s : Sm := ⟨w, i, y', ws, left row, none, 0⟩
      refine ⟨hs ++ [s], by rw [h1, List.map_append]; rfl, ⟨?_, ?_, ?_⟩, ?_, by simp; omega, by rw [List.flatMap_append, h4]; simp [Sm.items, s], ?_⟩
      · rw [List.map_append]
        refine List.nodup_append.mpr ⟨I.nodup, by simp, ?_⟩
        intro a ha b hb
        obtain ⟨s', hs', rfl⟩ := List.mem_map.mp ha
        have := h2 s' hs'
        have hb : b = (i : Int) := by simpa [s] using hb
        omega
      · intro s' hs'
        rcases List.mem_append.mp hs' with hs' | hs'
        · exact I.rest s' hs'
        · rw [List.mem_singleton.mp hs']; exact R'
      · intro s' hs'
        rcases List.mem_append.mp hs' with hs' | hs'
        · exact I.role s' hs'
        · rw [List.mem_singleton.mp hs']; exact .inr ⟨rfl, fun _ _ e => by cases e⟩
      · intro s' hs'
        rcases List.mem_append.mp hs' with hs' | hs'
        · have := h2 s' hs'; omega
        · rw [List.mem_singleton.mp hs']; show (i : Int) < _; omega
      · rw [List.flatMap_append, ← List.append_assoc]
        have : [s].flatMap Sm.off = offs i (left row) := by simp [Sm.off, s]
        rw [this]
        exact h5.append_right _

/-! what is due is apart, and in order -/
def Imr (x y : Im) : Prop := x.place < y.place ∨ (x.place = y.place ∧ x.k < y.k)
theorem dueItems_apart (rows : List (List Pc)) : ∀ i, (dueItems rows i).Pairwise Imr ∧ ∀ x ∈ dueItems rows i, x.place < i
  | 0 => ⟨.nil, by simp [dueItems]⟩
  | i + 1 => by
    obtain ⟨h1, h2⟩ := dueItems_apart rows i
    have hp : ∀ x ∈ rowItems i (rows.getD i []) (endOf (rows.getD i [])), x.place = i := fun x hx => by
      obtain ⟨k, _, rfl⟩ := List.mem_map.mp hx; rfl
    refine ⟨List.pairwise_append.mpr ⟨h1, ?_, fun a ha b hb => .inl (by rw [hp b hb]; exact h2 a ha)⟩, fun x hx => ?_⟩
    · unfold rowItems
      rw [List.pairwise_map]
      exact List.pairwise_lt_range.imp fun h => .inr ⟨rfl, Int.ofNat_lt.mpr h⟩
    · rcases List.mem_append.mp hx with hx | hx
      · have := h2 x hx; omega
      · rw [hp x hx]; omega
theorem dueItems_nodup (rows : List (List Pc)) (i : Nat) : ((dueItems rows i).map Im.l).Nodup := by
  refine List.pairwise_map.mpr ((dueItems_apart rows i).1.imp fun {x y} h => ?_)
  intro e
  unfold Im.l at e
  simp only [List.cons.injEq, D.int.injEq] at e
  rcases h with h | h
  · have := e.2.1; omega
  · have := e.2.2.1; omega
theorem dueAside_order (rows : List (List Pc)) : ∀ i, ((dueAside rows i).map As.l).Pairwise (fun x y => ltL x y = true) ∧ ∀ x ∈ dueAside rows i, x.p < i
  | 0 => ⟨.nil, by simp [dueAside]⟩
  | i + 1 => by
    obtain ⟨h1, h2⟩ := dueAside_order rows i
    have eA : dueAside rows (i + 1) = dueAside rows i ++ offs i (left (rows.getD i [])) := by rw [← aside_offs]; rfl
    rw [eA]
    cases left (rows.getD i []) with
    | none => simp only [offs, List.append_nil]; exact ⟨h1, fun x hx => by have := h2 x hx; omega⟩
    | some b =>
      refine ⟨?_, fun x hx => ?_⟩
      · rw [List.map_append]
        refine List.pairwise_append.mpr ⟨h1, by simp [offs], fun a ha c hc => ?_⟩
        obtain ⟨x, hx, rfl⟩ := List.mem_map.mp ha
        have hc : c = As.l ⟨i, b⟩ := by simpa [offs] using hc
        have := h2 x hx
        rw [hc]
        unfold As.l
        simp only [ltL]
        rw [if_neg (by omega)]; exact decide_eq_true this
      · rcases List.mem_append.mp hx with hx | hx
        · have := h2 x hx; omega
        · have : x = ⟨i, b⟩ := by simpa [offs] using hx
          rw [this]; show (i : Int) < _; omega
theorem dueItems_few {rows : List (List Pc)} (h : ∀ row ∈ rows, RowFit row) : ∀ i, i ≤ rows.length → (dueItems rows i).length ≤ 17 * i
  | 0, _ => Nat.le_refl _
  | i + 1, hi => by
    have := dueItems_few h i (by omega)
    have hr : rows.getD i [] ∈ rows := by rw [List.getD_eq_getElem?_getD, List.getElem?_eq_getElem (by omega)]; exact List.getElem_mem _
    have := (h _ hr).few
    have := end_le (rows.getD i [])
    simp only [dueItems, List.length_append, rowItems, List.length_map, List.length_range]; omega

theorem plain_rows {rows : List (List Pc)} (hr : ∀ row ∈ rows, RowFit row) (h3 : rows.length ≤ 3) : Plain rows := by
  have few := dueItems_few hr rows.length (Nat.le_refl _)
  refine ⟨fun row h => (hr row h).rowOk, ?_, by omega, dueItems_nodup _ _⟩
  obtain ⟨hs, h1, I, h2, hl, h4, h5⟩ := fed_streams hr rows.length (Nat.le_refl _)
  have hlen : (rows.map docOf).length = rows.length := by simp
  rw [hlen]
  have al := fed_len (rows.map docOf) rows.length
  have hl1 : (fed (rows.map docOf) rows.length).1.length ≤ 3 := by omega
  obtain ⟨ts, fin, run, pf, ho⟩ := merge _ (sup (fed (rows.map docOf) rows.length).1) hs none [] (fed (rows.map docOf) rows.length).2 rfl (by rw [h1]; rw [h1] at hl1; exact sup_perm hl1) (fun x r e => sup_least hl1 e) I (by omega)
    (by rw [total_len, h4]; simp; omega) (by omega)
  have pd := pf.trans h5
  have pl := dueAside_len rows rows.length
  have ord := (dueAside_order rows rows.length).1
  refine ⟨_, ts, fin, run, by rw [pd.length_eq]; omega, ?_, fun out po so => ?_, fun out po so => ho out (by rw [h4]; exact po) so⟩
  · refine (pd.map As.l).symm.nodup ?_
    exact ord.imp fun {x y} h e => by rw [e, ltL_irr] at h; cases h
  · have pp := po.trans (pd.map As.l)
    refine pp.eq_of_pairwise (le := fun x y => ltL x y = true) (fun a b ha hb hab hba => ?_) so ord
    obtain ⟨x, _, rfl⟩ := List.mem_map.mp (pp.mem_iff.mp ha)
    obtain ⟨y, _, rfl⟩ := List.mem_map.mp hb
    have := ltL_trans (z := x.l) (show Like x.l y.l from .int (.str .nil)) (show Like y.l x.l from .int (.str .nil)) hab hba
    rw [ltL_irr] at this; cases this

theorem rowOf_fit (j : Int) (xs : List Int) (hj : ∃ x ∈ more, x.fmod 3 = j) : RowFit (rowOf j (xsOf xs)) := by
  refine ⟨?_, ?_, ?_⟩
  · obtain ⟨x, hx, hm⟩ := hj
    have : piece x ∈ rowOf j (xsOf xs) := List.mem_map_of_mem (List.mem_filter.mpr ⟨List.mem_append_right _ hx, decide_eq_true hm⟩)
    exact List.ne_nil_of_mem this
  · intro y hy
    obtain ⟨x, _, rfl⟩ := List.mem_map.mp hy
    exact piece_ok x
  · unfold rowOf
    rw [List.length_map]
    refine Nat.le_trans (List.length_filter_le _ _) ?_
    unfold xsOf more; simp; omega
theorem plain (xs : List Int) : Plain [rowOf 0 (xsOf xs), rowOf 1 (xsOf xs), rowOf 2 (xsOf xs)] := by
  refine plain_rows (fun row h => ?_) (Nat.le_refl _)
  rcases List.mem_cons.mp h with rfl | h
  · exact rowOf_fit 0 xs ⟨3, by decide, by decide⟩
  · rcases List.mem_cons.mp h with rfl | h
    · exact rowOf_fit 1 xs ⟨1, by decide, by decide⟩
    · rw [List.mem_singleton.mp h]; exact rowOf_fit 2 xs ⟨14, by decide, by decide⟩
end Mine

set_option maxRecDepth 100000 in
set_option maxHeartbeats 8000000 in
theorem PySem.Challenge.cw_mj0095_01_holds : PySem.Challenge.rw_mj0095_01.Holds := by
  (w_on; o_law; k_head; (case hw => w_witness2); w_strict (k_go0; refine Mine.finish (Mine.plain _) (by assumption) (by kernel_rfl) (by unfold Mine.Frees; decide +kernel) (by assumption) (by assumption) (by omega) (by assumption) (by assumption) rfl ?_; intro s2 m2 F2 hg2 ho2; show GoodW _ _ _ _ _ (.ok (.ret (.bool true))) _; refine goodW_bool F2 hg2 (raisesW_false ?_) ?_ ho2; (· wrow_none_raised); (· wrow_post)))
