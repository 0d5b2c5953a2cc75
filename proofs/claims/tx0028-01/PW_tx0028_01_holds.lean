import PyProof.Rows.All
import Wide.All
import OpenK.AllK
import Wide.FinOn
import Lean
import PySem.Challenge.RW_tx0028_01
set_option Elab.async false
set_option linter.unusedVariables false
set_option maxRecDepth 100000
set_option compiler.extract_closed false
namespace Mine
open PySem PySem.W PySem.Calls PySem.Spec PyProof.Rows
local macro_rules | `(tactic| wtm_at "om") => `(tactic| first | lia | omega)
def sqS (ts : Array Lean.Syntax) : Lean.Syntax := .node .none `Lean.Parser.Tactic.tacticSeq #[.node .none `Lean.Parser.Tactic.tacticSeq1Indented #[.node .none `null ts]]
def krN : Lean.Syntax := .node .none `tacticKernel_rfl #[.atom .none "kernel_rfl"]
def inN (n : Nat) : Lean.Syntax := .node .none `Lean.Parser.Tactic.intro #[.atom .none "intro", .node .none `null (Array.replicate n (.node .none `Lean.Parser.Term.hole #[.atom .none "_"]))]
def kr0 : Lean.Syntax := sqS #[krN]
def kr1 : Lean.Syntax := sqS #[inN 1, .atom .none ";", krN]
def kr2 : Lean.Syntax := sqS #[inN 2, .atom .none ";", krN]
def kr3 : Lean.Syntax := sqS #[inN 3, .atom .none ";", krN]

section
@[irreducible] noncomputable def pw : Program := PySem.Challenge.rw_tx0028_01.row.prog

/-- abstract values: no identity tokens -/
inductive AV where
  | none
  | bool (b : Bool)
  | int (i : Int)
  | str (l : List Nat)
  | ref (a : Addr)
  | con (v : Value)

noncomputable def AV.rep : AV → Value → Prop
  | .none, v => v = .none
  | .bool b, v => v = .bool b
  | .int i, v => ∃ t, v = .int i t
  | .str l, v => ∃ t, v = .str ⟨l.toArray⟩ t
  | .ref a, v => v = .ref a
  | .con c, v => v = c

noncomputable abbrev LC := List (Str × AV)
noncomputable def lget : LC → Str → Option AV
  | [], _ => none
  | (y, a) :: r, x => if y = x then some a else lget r x
noncomputable def lput : LC → Str → AV → LC
  | [], x, a => [(x, a)]
  | (y, b) :: r, x, a => if y = x then (y, a) :: r else (y, b) :: lput r x a

theorem lget_head {x : Str} {a : AV} {r : LC} : lget ((x, a) :: r) x = some a := if_pos rfl
theorem lget_tail {x y : Str} {a b : AV} {r : LC} (h : lget r x = some a) (hn : autoParam ((y == x) = false) kr0) : lget ((y, b) :: r) x = some a := (if_neg (beq_eq_false_iff_ne.mp hn)).trans h
inductive Put : LC → Str → AV → LC → Prop
  | nil {x a} : Put [] x a [(x, a)]
  | head {x a b r} : Put ((x, b) :: r) x a ((x, a) :: r)
  | tail {x y a b r r'} (h : Put r x a r') (hn : y ≠ x) : Put ((y, b) :: r) x a ((y, b) :: r')
theorem Put.tl {x y : Str} {a b : AV} {r r' : LC} (h : Put r x a r') (hn : autoParam ((y == x) = false) kr0) : Put ((y, b) :: r) x a ((y, b) :: r') := .tail h (beq_eq_false_iff_ne.mp hn)
theorem Put.get {lc lc' : LC} {x : Str} {a : AV} (h : Put lc x a lc') : ∀ y, lget lc' y = if y = x then some a else lget lc y := by
  induction h with
  | nil => intro y; simp only [lget, eq_comm]
  | head => intro y; simp only [lget]; split <;> split <;> simp_all
  | tail h hn ih =>
    intro y
    simp only [lget, ih]
    split <;> split <;> simp_all

noncomputable def All2 : List AV → List Value → Prop
  | [], [] => True
  | a :: as, v :: vs => a.rep v ∧ All2 as vs
  | _, _ => False
/-- the goal put aside -/
theorem bc {G : Prop} (h : (G → False) → False) : G := Classical.byContradiction h
theorem amp {a b : AV} {as bs : List AV} (f : ∀ {u}, a.rep u → b.rep u) (g : ∀ {us}, All2 as us → All2 bs us) : ∀ {us}, All2 (a :: as) us → All2 (b :: bs) us
  | [], h => h.elim
  | _ :: _, h => ⟨f h.1, g h.2⟩
theorem al_con {v : Value} {a : AV} (r : a.rep v) {u : Value} (e : (AV.con v).rep u) : a.rep u := (show u = v from e) ▸ r
theorem al0 {vs : List Value} (h : All2 [] vs) : vs = [] := by cases vs with | nil => rfl | cons => exact h.elim
theorem alc {a : AV} {as : List AV} {vs : List Value} (h : All2 (a :: as) vs) : ∃ v r, vs = v :: r ∧ a.rep v ∧ All2 as r := by cases vs with | nil => exact h.elim | cons v r => exact ⟨v, r, rfl, h.1, h.2⟩
theorem al1 {a : AV} {vs : List Value} (h : All2 [a] vs) : ∃ v, vs = [v] ∧ a.rep v := (alc h).elim fun v q => q.elim fun _ q => ⟨v, q.1.trans (congrArg (v :: ·) (al0 q.2.2)), q.2.1⟩
theorem al2 {a b : AV} {vs : List Value} (h : All2 [a, b] vs) : ∃ v u, vs = [v, u] ∧ a.rep v ∧ b.rep u := (alc h).elim fun v q => q.elim fun _ q => (al1 q.2.2).elim fun u p => ⟨v, u, q.1.trans (congrArg (v :: ·) p.1), q.2.1, p.2⟩
theorem al3 {a b d : AV} {vs : List Value} (h : All2 [a, b, d] vs) : ∃ v u w, vs = [v, u, w] ∧ a.rep v ∧ b.rep u ∧ d.rep w := (alc h).elim fun v q => q.elim fun _ q => (al2 q.2.2).elim fun u p => p.elim fun w p => ⟨v, u, w, q.1.trans (congrArg (v :: ·) p.1), q.2.1, p.2⟩
theorem al4 {a b d e : AV} {vs : List Value} (h : All2 [a, b, d, e] vs) : ∃ v u w x, vs = [v, u, w, x] ∧ a.rep v ∧ b.rep u ∧ d.rep w ∧ e.rep x := (alc h).elim fun v q => q.elim fun _ q => (al3 q.2.2).elim fun u p => p.elim fun w p => p.elim fun x p => ⟨v, u, w, x, q.1.trans (congrArg (v :: ·) p.1), q.2.1, p.2⟩
theorem kw0 {α β : Type} {l : List (α × β)} (h : l.map (·.1) = []) : l = [] := List.map_eq_nil_iff.mp h
theorem kw1 {α β : Type} {l : List (α × β)} {x : α} (h : l.map (·.1) = [x]) : ∃ v, l = [(x, v)] := by
  cases l with
  | nil => cases h
  | cons p r =>
    have e := List.cons.inj h
    exact ⟨p.2, by rw [kw0 e.2, ← e.1]⟩
theorem ln0 {α : Type} {l : List α} (h : l.length = 0) : l = [] := List.length_eq_zero_iff.mp h
theorem lnc {α : Type} {l : List α} {n : Nat} (h : l.length = n + 1) : ∃ a r, l = a :: r ∧ r.length = n := by
  cases l with
  | nil => cases h
  | cons a r => exact ⟨a, r, rfl, Nat.succ.inj h⟩
theorem ln6 {α : Type} {l : List α} (h : l.length = 6) : ∃ a b c d e f, l = [a, b, c, d, e, f] :=
  (lnc h).elim fun a q => q.elim fun _ q => (lnc q.2).elim fun b r => r.elim fun _ r => (lnc r.2).elim fun c s => s.elim fun _ s => (lnc s.2).elim fun d t => t.elim fun _ t => (lnc t.2).elim fun e u => u.elim fun _ u => (lnc u.2).elim fun f v => v.elim fun _ v =>
    ⟨a, b, c, d, e, f, by rw [q.1, r.1, s.1, t.1, u.1, v.1, ln0 v.2]⟩
theorem All2.length : ∀ {as vs}, All2 as vs → as.length = vs.length
  | [], [], _ => rfl
  | _ :: _, _ :: _, h => congrArg (· + 1) (All2.length h.2)
theorem All2.get : ∀ {as vs}, All2 as vs → ∀ {i : Nat} {a}, as[i]? = some a → ∃ v, vs[i]? = some v ∧ a.rep v
  | [], [], _, i, a, h => by simp at h
  | b :: as, v :: vs, h, 0, a, e => by simp at e; subst e; exact ⟨v, rfl, h.1⟩
  | b :: as, v :: vs, h, i + 1, a, e => by simp at e; simpa using All2.get h.2 e
theorem All2.append : ∀ {as vs bs us}, All2 as vs → All2 bs us → All2 (as ++ bs) (vs ++ us)
  | [], [], _, _, _, h => h
  | _ :: _, _ :: _, _, _, h, h' => ⟨h.1, h.2.append h'⟩
theorem All2.set : ∀ {as vs}, All2 as vs → ∀ {i : Nat} {a v}, a.rep v → All2 (as.set i a) (vs.set i v)
  | [], [], _, _, _, _, _ => trivial
  | _ :: _, _ :: _, h, 0, _, _, r => ⟨r, h.2⟩
  | _ :: _, _ :: _, h, i + 1, _, _, r => ⟨h.1, All2.set h.2 r⟩
theorem All2.take : ∀ {as vs}, All2 as vs → ∀ n, All2 (as.take n) (vs.take n)
  | [], [], _, n => by simp [All2]
  | _ :: _, _ :: _, _, 0 => trivial
  | _ :: _, _ :: _, h, n + 1 => ⟨h.1, h.2.take n⟩
theorem All2.drop : ∀ {as vs}, All2 as vs → ∀ n, All2 (as.drop n) (vs.drop n)
  | [], [], _, n => by simp [All2]
  | _ :: _, _ :: _, h, 0 => h
  | _ :: _, _ :: _, h, n + 1 => All2.drop h.2 n
theorem All2.reverse {as vs} (h : All2 as vs) : All2 as.reverse vs.reverse := by
  induction as generalizing vs with
  | nil => cases vs with | nil => exact h | cons => exact h.elim
  | cons a as ih =>
    cases vs with
    | nil => exact h.elim
    | cons v vs => rw [List.reverse_cons, List.reverse_cons]; exact (ih h.2).append ⟨h.1, trivial⟩

inductive DR : LC → List DictEntry → Prop
  | nil : DR [] []
  | cons {x t a v hsh d es} : a.rep v → handedIn v = true → DR d es → DR ((x, a) :: d) (⟨hsh, .str x t, v⟩ :: es)
/-- abstract objects -/
inductive AO where
  | list (xs : List AV)
  | tup (xs : List AV)
  | cell (x : Option AV)
  | ns (d : LC)
  | rng (a b c : Int)
  | flds (cls : String) (xs : List AV)
  | lit (l : Addr) (i : Nat)
  | code (q : Str)
  | dct (d : LC)
  | obj (o : Obj)
  | any (P : Obj → Prop)

noncomputable def NsRel (d : LC) (es : Array DictEntry) : Prop := StrKeys es ∧ ∀ x a, lget d x = some a → ∃ v, nsFind es x = some v ∧ a.rep v
noncomputable def AO.rep : AO → Obj → Prop
  | .list xs, o => ∃ vs n, o = { cls := .type "list", data := .seq (List.toArray vs) n } ∧ All2 xs vs
  | .tup xs, o => ∃ vs n, o = { cls := .type "tuple", data := .seq (List.toArray vs) n } ∧ All2 xs vs
  | .cell x, o => match x with
    | some a => ∃ v, o.data = .cell (some v) ∧ a.rep v
    | none => o.data = .cell none
  | .ns d, o => ∃ es n, o.data = .dict es n ∧ NsRel d es
  | .rng a b c, o => ∃ t u v, o = { cls := .type "range", data := .fields #[.int a t, .int b u, .int c v] }
  | .flds k xs, o => ∃ vs, o = { cls := .type k, data := .fields (List.toArray vs) } ∧ All2 xs vs
  | .lit l i, o => o.cls = .type "list_iterator" ∧ o.data = .fields #[.ref l, .int i 0]
  | .dct d, o => ∃ es n, o = dictOf es n ∧ DR d es
  | .code q, o => ∃ vs t, o.data = .fields vs ∧ vs[1]? = some (.str q t)
  | .obj o', o => o = o' ∧ o'.isFreed = false
  | .any P, o => P o ∧ o.isFreed = false

theorem AO.rep_free {p : AO} {o : Obj} (h : p.rep o) : o.isFreed = false := by
  cases p with
  | list xs => obtain ⟨vs, n, rfl, _⟩ := h; rfl
  | tup xs => obtain ⟨vs, n, rfl, _⟩ := h; rfl
  | cell x =>
    obtain ⟨_, _, d, _⟩ := o
    cases x with
    | none => cases (show d = _ from h); rfl
    | some a => obtain ⟨v, e, _⟩ := h; cases (show d = _ from e); rfl
  | ns d => obtain ⟨_, _, dd, _⟩ := o; obtain ⟨es, n, e, _⟩ := h; cases (show dd = _ from e); rfl
  | rng a b c => obtain ⟨t, u, v, rfl⟩ := h; rfl
  | flds k xs => obtain ⟨vs, rfl, _⟩ := h; rfl
  | lit l i => obtain ⟨_, _, d, _⟩ := o; cases (show d = _ from h.2); rfl
  | dct d => obtain ⟨es, n, rfl, _⟩ := h; rfl
  | code q => obtain ⟨_, _, d, _⟩ := o; obtain ⟨vs, t, e, _⟩ := h; cases (show d = _ from e); rfl
  | obj o' => obtain ⟨rfl, h⟩ := h; exact h
  | any P => exact h.2

noncomputable abbrev OW := List (Addr × AO)
noncomputable def LRel (lc : LC) (m : Str → Option Value) : Prop := ∀ x a, lget lc x = some a → ∃ v, m x = some v ∧ a.rep v

structure Rep (g : Heap) (L : Addr) (lc : LC) (ow : OW) (h : Heap) : Prop where
  fr : ∃ m, Fr g L h m ∧ LRel lc m
  own : ∀ p ∈ ow, ∃ o, p.2.rep o ∧ h.get? p.1 = some o ∧ p.1 ≠ L ∧ g.get? p.1 = none
  nd : (ow.map (·.1)).Nodup

inductive Upd : OW → Addr → AO → AO → OW → Prop
  | head {a o o' r} : Upd ((a, o) :: r) a o o' ((a, o') :: r)
  | tail {a o o' r r' p} (h : Upd r a o o' r') : Upd (p :: r) a o o' (p :: r')
theorem Upd.mem {ow ow' : OW} {a : Addr} {o o' : AO} (h : Upd ow a o o' ow') : (a, o) ∈ ow := by
  induction h with
  | head => exact .head _
  | tail _ ih => exact .tail _ ih
theorem Upd.keys {ow ow' : OW} {a : Addr} {o o' : AO} (h : Upd ow a o o' ow') : ow'.map (·.1) = ow.map (·.1) := by
  induction h with
  | head => rfl
  | tail _ ih => simp only [List.map_cons, ih]
theorem Upd.split {ow ow' : OW} {a : Addr} {o o' : AO} (h : Upd ow a o o' ow') : ∃ pre post, ow = pre ++ (a, o) :: post ∧ ow' = pre ++ (a, o') :: post := by
  induction h with
  | head => exact ⟨[], _, rfl, rfl⟩
  | tail _ ih => obtain ⟨pre, post, rfl, rfl⟩ := ih; exact ⟨_ :: pre, post, rfl, rfl⟩

/-- dropping and reordering -/
inductive Take : Addr × AO → OW → OW → Prop
  | head {p r} : Take p (p :: r) r
  | tail {p q r r'} (h : Take p r r') : Take p (q :: r) (q :: r')
theorem Take.perm {p : Addr × AO} {ow r : OW} (h : Take p ow r) : ow.Perm (p :: r) := by
  induction h with
  | head => exact .refl _
  | tail _ ih => exact (List.Perm.cons _ ih).trans (List.Perm.swap ..)
inductive Pick : OW → OW → Prop
  | nil {ow} : Pick ow []
  | all {ow} : Pick ow ow
  | cons {p ow r r'} (t : Take p ow r) (h : Pick r r') : Pick ow (p :: r')
  | drop {p r r'} (h : Pick r r') : Pick (p :: r) r'
  | perm {r r'} (h : r.Perm r') : Pick r r'
theorem Pick.sub {ow r : OW} (h : Pick ow r) : ∃ d, ow.Perm (r ++ d) := by
  induction h with
  | nil => exact ⟨_, .refl _⟩
  | all => exact ⟨[], by simp⟩
  | cons t _ ih => obtain ⟨d, hd⟩ := ih; exact ⟨d, t.perm.trans (List.Perm.cons _ hd)⟩
  | drop _ ih => obtain ⟨d, hd⟩ := ih; exact ⟨_ :: d, (List.Perm.cons _ hd).trans (List.perm_middle.symm)⟩
  | perm h => exact ⟨[], by simpa using h⟩

section
variable {g h h' : Heap} {L : Addr} {lc lc' : LC} {ow ow' : OW}
theorem Rep.pick (R : Rep g L lc ow h) (p : Pick ow ow') : Rep g L lc ow' h := by
  obtain ⟨d, hd⟩ := p.sub
  refine ⟨R.fr, fun q hq => R.own q (hd.mem_iff.mpr (List.mem_append_left _ hq)), ?_⟩
  have := (hd.map (·.1)).nodup_iff.mp R.nd
  rw [List.map_append] at this
  exact (List.nodup_append.mp this).1
theorem Rep.lcs (R : Rep g L lc ow h) (k : ∀ x a, lget lc' x = some a → lget lc x = some a) : Rep g L lc' ow h :=
  let ⟨m, F, r⟩ := R.fr; ⟨⟨m, F, fun x a e => r x a (k x a e)⟩, R.own, R.nd⟩
theorem Rep.keep (R : Rep g L lc ow h) {b : Addr} {o : Obj} (e : g.get? b = some o) : h.get? b = some o := let ⟨_, F, _⟩ := R.fr; F.keep b o e
theorem Rep.get (R : Rep g L lc ow h) {a : Addr} {p : AO} (hm : (a, p) ∈ ow) : ∃ o, p.rep o ∧ h.get? a = some o :=
  let ⟨o, r, e, _⟩ := R.own _ hm; ⟨o, r, e⟩
theorem Rep.push (R : Rep g L lc ow h) {p : AO} {o : Obj} (r : p.rep o) : Rep g L lc ((h.objs.size, p) :: ow) (h.push o) := by
  obtain ⟨m, F, hl⟩ := R.fr
  have hf := AO.rep_free r
  refine ⟨⟨m, F.push o, hl⟩, fun q hq => ?_, ?_⟩
  · rcases List.mem_cons.mp hq with rfl | hq
    · have := News.push F (News.nil (L := L)) o hf _ (List.Mem.head _)
      exact ⟨o, r, this.1, this.2.1, this.2.2⟩
    · obtain ⟨o', r', e, n⟩ := R.own q hq
      exact ⟨o', r', Heap.get?_push_of_some _ e, n⟩
  · rw [List.map_cons]
    refine List.nodup_cons.mpr ⟨fun hm => ?_, R.nd⟩
    obtain ⟨q, hq, e⟩ := List.mem_map.mp hm
    obtain ⟨o', _, e', _⟩ := R.own q hq
    exact absurd (Heap.lt_size e') (by rw [e]; exact Nat.lt_irrefl _)
theorem Rep.upd (R : Rep g L lc ow h) {a : Addr} {p p' : AO} (U : Upd ow a p p' ow') {f : Obj → Obj} (r : ∀ o, p.rep o → h.get? a = some o → p'.rep (f o)) : Rep g L lc ow' (h.update a f) := by
  obtain ⟨o, ro, e, nL, ng⟩ := R.own _ U.mem
  obtain ⟨m, F, hl⟩ := R.fr
  have rf := r o ro e
  have hs : Heap.SameBut a h (h.update a f) := Heap.SameBut.update ..
  obtain ⟨pre, post, rfl, rfl⟩ := U.split
  have nd := R.nd
  refine ⟨⟨m, F.change hs nL ng, hl⟩, fun q hq => ?_, ?_⟩
  · by_cases hqa : q.1 = a
    · have hq' : q = (a, p') := by
        rcases List.mem_append.mp hq with hq | hq
        · exfalso
          rw [List.map_append, List.map_cons] at nd
          exact (List.nodup_append.mp nd).2.2 _ (List.mem_map_of_mem hq) _ (.head _) hqa
        · rcases List.mem_cons.mp hq with rfl | hq
          · rfl
          · exfalso
            rw [List.map_append, List.map_cons] at nd
            exact (List.nodup_cons.mp (List.nodup_append.mp nd).2.1).1 (List.mem_map.mpr ⟨q, hq, hqa⟩)
      subst hq'
      exact ⟨f o, rf, Heap.get?_update_self f e (AO.rep_free rf), nL, ng⟩
    · have hq' : q ∈ pre ++ (a, p) :: post := by
        rcases List.mem_append.mp hq with hq | hq
        · exact List.mem_append_left _ hq
        · rcases List.mem_cons.mp hq with rfl | hq
          · exact absurd rfl hqa
          · exact List.mem_append_right _ (.tail _ hq)
      obtain ⟨o', r', e', n⟩ := R.own q hq'
      exact ⟨o', r', (hs.2 _ hqa).trans e', n⟩
  · rw [U.keys]; exact nd
theorem Rep.setLocal (R : Rep g L lc ow h) {m : Str → Option Value} (F : Fr g L h m) (hl : LRel lc m) {x : Str} {a : AV} {v : Value} (P : Put lc x a lc') (ra : a.rep v) (hs : Heap.SameBut L h h')
    (hn : h'.Ns L (fun y => if y = x then some v else m y)) : Rep g L lc' ow h' := by
  refine ⟨⟨_, F.set hn hs, fun y b e => ?_⟩, fun q hq => ?_, R.nd⟩
  · rw [P.get] at e
    by_cases hy : y = x
    · rw [if_pos hy] at e; cases e; exact ⟨v, if_pos hy, ra⟩
    · rw [if_neg hy] at e; obtain ⟨u, hu, ru⟩ := hl y b e; exact ⟨u, (if_neg hy).trans hu, ru⟩
  · obtain ⟨o, r, e, n⟩ := R.own q hq
    exact ⟨o, r, (hs.2 _ n.1).trans e, n⟩
end

/-- a context: the activation at hand -/
structure Cx where
  w : World
  g : Heap
  L : Addr
  A : Around

structure AWp {α β : Type} (c : Cx) (rp : β → α → Prop) (t : Sem α) (lc : LC) (ow : OW) (Q : β → LC → OW → Prop) : Prop where
  run : ∀ (s : Shared) (P : α → Shared → Prop) (E : Value → Shared → Prop), Rep c.g c.L lc ow s.heap →
    (∀ (b : β) (x : α) lc' ow' h' tk', Q b lc' ow' → rp b x → Rep c.g c.L lc' ow' h' → P x { s with heap := h', toks := tk' }) →
    wpAny (model pw c.w) c.A t P E s

noncomputable abbrev rU : Unit → Unit → Prop := fun _ _ => True
noncomputable abbrev rB : Bool → Bool → Prop := fun b x => x = b
noncomputable abbrev EV (c : Cx) (t : Sem Value) (lc : LC) (ow : OW) (Q : AV → LC → OW → Prop) : Prop := AWp c AV.rep t lc ow Q
noncomputable abbrev UX (c : Cx) (t : Sem Unit) (lc : LC) (ow : OW) (Q : LC → OW → Prop) : Prop := AWp c rU t lc ow (fun _ => Q)
noncomputable abbrev BX (c : Cx) (t : Sem Bool) (lc : LC) (ow : OW) (Q : Bool → LC → OW → Prop) : Prop := AWp c rB t lc ow Q
inductive AF where
  | next | brk | cont | ret (a : AV)
noncomputable def AF.rep : AF → Flow → Prop
  | .next, f => f = .next
  | .brk, f => f = .brk
  | .cont, f => f = .cont
  | .ret a, f => ∃ v, f = .ret v ∧ a.rep v
noncomputable abbrev SX (c : Cx) (t : Sem Flow) (lc : LC) (ow : OW) (Q : AF → LC → OW → Prop) : Prop := AWp c AF.rep t lc ow Q

section
variable {α β γ δ : Type} {c : Cx} {rp : β → α → Prop} {rq : δ → γ → Prop} {lc lc' : LC} {ow ow' : OW}
theorem AWp.mono {t : Sem α} {Q Q' : β → LC → OW → Prop} (h : AWp c rp t lc ow Q) (k : ∀ b lc ow, Q b lc ow → Q' b lc ow) : AWp c rp t lc ow Q' :=
  ⟨fun s P E R kp => h.run s P E R fun b x lc' ow' h' tk' q r R' => kp b x lc' ow' h' tk' (k _ _ _ q) r R'⟩
theorem AWp.bind {x : Sem α} {f : α → Sem γ} {Q : δ → LC → OW → Prop} (h : AWp c rp x lc ow fun b lc' ow' => ∀ v, rp b v → AWp c rq (f v) lc' ow' Q) : AWp c rq (x >>= f) lc ow Q :=
  ⟨fun s P E R kp => wpAny_bind (h.run s _ E R fun b v lc' ow' h' tk' q r R' => (q v r).run _ P E R' fun b' v' lc'' ow'' h'' tk'' q' r' R'' => kp b' v' lc'' ow'' h'' tk'' q' r' R'')⟩
theorem AWp.pure {x : α} {b : β} {Q : β → LC → OW → Prop} (r : rp b x) (q : Q b lc ow) : AWp c rp (Pure.pure x : Sem α) lc ow Q :=
  ⟨fun s P E R kp => wpAny_pure (kp b x lc ow s.heap s.toks q r R)⟩
theorem AWp.weak {t : Sem α} {Q : β → LC → OW → Prop} (p : Pick ow ow') (h : AWp c rp t lc ow' Q) : AWp c rp t lc ow Q :=
  ⟨fun s P E R kp => h.run s P E (R.pick p) kp⟩
theorem AWp.forget {t : Sem α} {Q : β → LC → OW → Prop} (k : ∀ x a, lget lc' x = some a → lget lc x = some a) (h : AWp c rp t lc' ow Q) : AWp c rp t lc ow Q :=
  ⟨fun s P E R kp => h.run s P E (R.lcs k) kp⟩
theorem AWp.post {t : Sem α} {Q : β → LC → OW → Prop} (h : AWp c rp t lc ow fun b lc' ow' => ∃ lc'' ow'', Pick ow' ow'' ∧ (∀ x a, lget lc'' x = some a → lget lc' x = some a) ∧ Q b lc'' ow'') : AWp c rp t lc ow Q :=
  ⟨fun s P E R kp => h.run s P E R fun b x lc' ow' h' tk' ⟨lc'', ow'', p, k, q⟩ r R' => kp b x lc'' ow'' h' tk' q r ((R'.pick p).lcs k)⟩
theorem AWp.standAt {pos : Pos} {f : Unit → Sem α} {Q : β → LC → OW → Prop} (h : AWp c rp (f ()) lc ow Q) : AWp c rp (PySem.standAt pos >>= f) lc ow Q :=
  ⟨fun s P E R kp => wpAny_bind (wpAny_standAt (h.run s P E R kp))⟩
theorem AWp.holding {vs : List Value} {t : Sem α} {Q : β → LC → OW → Prop} (h : AWp c rp t lc ow Q) : AWp c rp (PySem.holding vs t) lc ow Q :=
  ⟨fun s P E R kp => wpAny_holding (h.run s P E R kp)⟩
end
end

section
noncomputable abbrev cs (x : Str) : List Nat := x.cps.toList
theorem mk_cs (x : Str) : (⟨(cs x).toArray⟩ : Str) = x := by cases x; rfl

structure Bin (c : Cx) (op : Operator) (a b : AV) (lc : LC) (ow : OW) (Q : AV → LC → OW → Prop) : Prop where
  run : ∀ u v, a.rep u → b.rep v → EV c (binaryOp op u v) lc ow Q
structure Inp (c : Cx) (op : Operator) (a b : AV) (lc : LC) (ow : OW) (Q : AV → LC → OW → Prop) : Prop where
  run : ∀ u v, a.rep u → b.rep v → EV c (inplaceOp op u v) lc ow Q
structure Cmp (c : Cx) (op : CmpOp) (a b : AV) (lc : LC) (ow : OW) (Q : AV → LC → OW → Prop) : Prop where
  run : ∀ u v, a.rep u → b.rep v → EV c (compareOp op u v) lc ow Q
structure Tru (c : Cx) (a : AV) (lc : LC) (ow : OW) (Q : Bool → LC → OW → Prop) : Prop where
  run : ∀ u, a.rep u → BX c (truthy u) lc ow Q
structure Uop (c : Cx) (op : UnaryOp) (a : AV) (lc : LC) (ow : OW) (Q : AV → LC → OW → Prop) : Prop where
  run : ∀ u, a.rep u → EV c (unaryOp op u) lc ow Q

section
variable {c : Cx} {lc lc' : LC} {ow ow' : OW} {env : Env}

-- constants
theorem ev_int {i : Int} {k pos} {Q} (h : Q (.int i) lc ow) : EV c (eval (.Constant (.int i) k pos) env) lc ow Q :=
  ⟨fun s P E R kp => by with_reducible refine wpAny_Constant_int ?_
                        exact kp _ _ _ _ s.heap _ h ⟨_, rfl⟩ R⟩
theorem ev_str {x : Str} {k pos} {Q} (h : Q (.str (cs x)) lc ow) : EV c (eval (.Constant (.str x) k pos) env) lc ow Q :=
  ⟨fun s P E R kp => by with_reducible refine Constant_str ?_
                        exact kp _ _ _ _ s.heap _ h ⟨_, by rw [mk_cs]⟩ R⟩
theorem ev_none {k pos} {Q} (h : Q .none lc ow) : EV c (eval (.Constant .none k pos) env) lc ow Q := AWp.pure (b := AV.none) rfl h
-- names
theorem ev_name {x : Str} {pos} {Q} (h : EV c (loadName env x) lc ow Q) (hd : autoParam ((x == ("__debug__" : Str)) = false) kr0) : EV c (eval (.Name x pos) env) lc ow Q :=
  ⟨fun s P E R kp => by with_reducible refine wpAny_Name ?_ hd
                        exact h.run s P E R kp⟩
theorem ld_local {x : Str} {a : AV} {Q} (hv : lget lc x = some a) (h : Q a lc ow)
    (hk : autoParam (env.scope.kind = .function) kr0) (hx : autoParam (env.kindOf x = some .local) kr0) (hL : autoParam (env.locals = c.L) kr0) : EV c (loadName env x) lc ow Q :=
  ⟨fun s P E R kp => by
    obtain ⟨m, F, hl⟩ := R.fr
    obtain ⟨v, hm, ra⟩ := hl x a hv
    have hns : s.heap.Ns env.locals m := by rw [hL]; exact F.ns
    with_reducible refine wpAny_loadName_local hk hx hns hm ?_
    exact kp _ _ _ _ s.heap s.toks h ra R⟩
theorem ld_cell {x : Str} {a : AV} {d : Addr} {Q} (hc : env.cells.lookup x = some d) (hm : (d, AO.cell (some a)) ∈ ow) (h : Q a lc ow)
    (hk : autoParam (env.scope.kind = .function) kr0) (hx : autoParam (env.kindOf x = some .cell) kr0) : EV c (loadName env x) lc ow Q :=
  ⟨fun s P E R kp => by
    obtain ⟨o, ⟨v, e, ra⟩, ho⟩ := R.get hm
    have hcell : s.heap.IsCell d (some v) := ⟨o, ho, e⟩
    with_reducible refine wpAny_loadName_cell hk hx hc hcell ?_
    exact kp _ _ _ _ s.heap s.toks h ra R⟩
theorem ld_free {x : Str} {a : AV} {d : Addr} {Q} (hc : env.cells.lookup x = some d) (hm : (d, AO.cell (some a)) ∈ ow) (h : Q a lc ow)
    (hk : autoParam (env.scope.kind = .function) kr0) (hx : autoParam (env.kindOf x = some .free) kr0) (hn : autoParam ((x == ("__classdict__" : Str)) = false) kr0) : EV c (loadName env x) lc ow Q :=
  ⟨fun s P E R kp => by
    obtain ⟨o, ⟨v, e, ra⟩, ho⟩ := R.get hm
    have hcell : s.heap.IsCell d (some v) := ⟨o, ho, e⟩
    with_reducible refine wpAny_loadName_free hk hx hc hcell ?_ hn
    exact kp _ _ _ _ s.heap s.toks h ra R⟩
theorem st_local {x : Str} {a : AV} {v : Value} {Q} (ra : a.rep v) (P : Put lc x a lc') (h : Q lc' ow)
    (hk : autoParam (env.scope.kind = .function) kr0) (hx : autoParam (env.kindOf x = some .local) kr0) (hL : autoParam (env.locals = c.L) kr0) : UX c (storeName env x v) lc ow Q :=
  ⟨fun s P' E R kp => by
    obtain ⟨m, F, hl⟩ := R.fr
    have hns : s.heap.Ns env.locals m := by rw [hL]; exact F.ns
    have hp : (env.scope.kind == .class || (env.scope.kind == .module && env.locals != env.globals)) = false := by rw [hk]; rfl
    with_reducible refine wpAny_storeName_local hx hns (fun h' hn hs => ?_) hp
    rw [hL] at hn hs
    exact kp () () lc' ow h' _ h trivial (R.setLocal F hl P ra hs hn)⟩
theorem st_cell {x : Str} {a : AV} {v : Value} {o : Option AV} {d : Addr} {Q} (ra : a.rep v) (hc : env.cells.lookup x = some d) (U : Upd ow d (AO.cell o) (AO.cell (some a)) ow') (h : Q lc ow')
    (hk : autoParam (env.scope.kind = .function) kr0) (hx : autoParam (env.kindOf x = some .cell) kr0) : UX c (storeName env x v) lc ow Q :=
  ⟨fun s P' E R kp => by
    obtain ⟨ob, r, ho⟩ := R.get U.mem
    have hcell : ∃ v₀, ob.data = .cell v₀ := by cases o with | none => exact ⟨_, r⟩ | some b => obtain ⟨v₀, e, _⟩ := r; exact ⟨_, e⟩
    obtain ⟨v₀, e⟩ := hcell
    unfold storeName
    simp only [hx, hk]
    refine wpAny_bind (wpAny_cellOf hc ?_)
    unfold cellSet
    refine wpAny_bind (wpAny_load ho ?_)
    rw [e]
    refine wpAny_update ho ?_
    exact kp () () lc ow' _ _ h trivial (R.upd U fun o' _ _ => ⟨v, rfl, ra⟩)⟩

-- operators
theorem ev_bin {l op r pos} {Q} (h : EV c (eval l env) lc ow fun a lc1 ow1 => EV c (eval r env) lc1 ow1 fun b lc2 ow2 => Bin c op a b lc2 ow2 Q) : EV c (eval (.BinOp l op r pos) env) lc ow Q :=
  ⟨fun s P E R kp => wpAny_BinOp (h.run s _ E R fun a u lc1 ow1 h1 tk1 q ra R1 => q.run _ _ _ R1 fun b v lc2 ow2 h2 tk2 q2 rb R2 => (q2.run u v ra rb).run _ _ _ R2 kp)⟩
theorem ev_cmp {l op r pos} {Q} (h : EV c (eval l env) lc ow fun a lc1 ow1 => EV c (eval r env) lc1 ow1 fun b lc2 ow2 => Cmp c op a b lc2 ow2 Q) (hm : autoParam (behindInMarks op r = false) kr0) : EV c (eval (.Compare l [op] [r] pos) env) lc ow Q :=
  ⟨fun s P E R kp => wpAny_Compare1 (h.run s _ E R fun a u lc1 ow1 h1 tk1 q ra R1 => q.run _ _ _ R1 fun b v lc2 ow2 h2 tk2 q2 rb R2 => (q2.run u v ra rb).run _ _ _ R2 kp) hm⟩
theorem bx_cmp {l op r pos whole} {Q} (h : EV c (eval l env) lc ow fun a lc1 ow1 => EV c (eval r env) lc1 ow1 fun b lc2 ow2 => Cmp c op a b lc2 ow2 fun t lc3 ow3 => Tru c t lc3 ow3 Q) (hm : autoParam (behindInMarks op r = false) kr0) : BX c (isTrue (.Compare l [op] [r] pos) env whole) lc ow Q :=
  ⟨fun s P E R kp => wpAny_isTrue_Compare1 (h.run s _ E R fun a u lc1 ow1 h1 tk1 q ra R1 => q.run _ _ _ R1 fun b v lc2 ow2 h2 tk2 q2 rb R2 => (q2.run u v ra rb).run _ _ _ R2 fun t x lc3 ow3 h3 tk3 q3 rt R3 => (q3.run x rt).run _ _ _ R3 kp) hm⟩
theorem ev_un {op x pos} {Q} (h : EV c (eval x env) lc ow fun a lc1 ow1 => Uop c op a lc1 ow1 Q) : EV c (eval (.UnaryOp op x pos) env) lc ow Q :=
  AWp.bind (h.mono fun a lc1 ow1 q v ra => AWp.standAt (AWp.holding (q.run v ra)))

theorem tru_bool {b : Bool} {Q : Bool → LC → OW → Prop} (h : Q b lc ow) : Tru c (.bool b) lc ow Q := by
  refine ⟨?_⟩
  rintro _ rfl
  refine ⟨fun s P E R kp => ?_⟩
  with_reducible refine wpAny_truthy_bool ?_
  exact kp _ _ _ _ s.heap s.toks h rfl R
theorem tru_int {i : Int} {Q : Bool → LC → OW → Prop} (h : Q (decide (i ≠ 0)) lc ow) : Tru c (.int i) lc ow Q := by
  refine ⟨?_⟩
  rintro _ ⟨t, rfl⟩
  refine ⟨fun s P E R kp => ?_⟩
  with_reducible refine PyProof.Rows.truthy_int ?_
  refine kp _ _ _ _ s.heap s.toks h ?_ R
  show (i != 0) = _
  by_cases e : i = 0 <;> simp [e]
theorem tru_str {l : List Nat} {Q : Bool → LC → OW → Prop} (h : Q (!l.isEmpty) lc ow) (hl : l.length < 1000000) : Tru c (.str l) lc ow Q := by
  refine ⟨?_⟩
  rintro _ ⟨t, rfl⟩
  refine ⟨fun s P E R kp => ?_⟩
  have hfit : ¬ ((⟨l.toArray⟩ : Str).length : Int) ≥ 2 ^ 63 := by simp [Str.length]; wtm_at "om"
  with_reducible refine PySem.P.truthy_str hfit ?_
  refine kp _ _ _ _ s.heap _ h ?_ R
  cases l with
  | nil => rfl
  | cons a l =>
    show ((((a :: l).length : Nat) : Int) != 0) = true
    simp only [List.length_cons, bne_iff_ne, ne_eq]; wtm_at "om"
theorem tru_list {a : Addr} {xs : List AV} {Q : Bool → LC → OW → Prop} (hm : (a, AO.list xs) ∈ ow) (h : Q (!xs.isEmpty) lc ow) (hl : xs.length < 1000000) : Tru c (.ref a) lc ow Q := by
  refine ⟨?_⟩
  rintro _ rfl
  refine ⟨fun s P E R kp => ?_⟩
  obtain ⟨o, ⟨vs, n, rfl, r⟩, ho⟩ := R.get hm
  have hlen := r.length
  have hl' : s.heap.IsList a vs.toArray := ⟨_, ho, rfl, n, rfl⟩
  have hfit : ((vs.toArray.size : Nat) : Int) < 2 ^ 63 := by rw [List.size_toArray]; wtm_at "om"
  with_reducible refine wpAny_truthy_list hl' hfit ?_
  refine kp _ _ _ _ s.heap _ h ?_ R
  cases xs <;> cases vs <;> first | rfl | cases hlen

section
variable {x y : Int} {Q : AV → LC → OW → Prop}
theorem b_add (h : Q (.int (x + y)) lc ow) : Bin c .Add (.int x) (.int y) lc ow Q := by
  refine ⟨?_⟩; rintro _ _ ⟨t, rfl⟩ ⟨u, rfl⟩; refine ⟨fun s P E R kp => ?_⟩
  with_reducible refine PyProof.Rows.add_int ?_
  exact kp _ _ _ _ s.heap _ h ⟨_, rfl⟩ R
theorem b_sub (h : Q (.int (x - y)) lc ow) : Bin c .Sub (.int x) (.int y) lc ow Q := by
  refine ⟨?_⟩; rintro _ _ ⟨t, rfl⟩ ⟨u, rfl⟩; refine ⟨fun s P E R kp => ?_⟩
  with_reducible refine PyProof.Rows.sub_int ?_
  exact kp _ _ _ _ s.heap _ h ⟨_, rfl⟩ R
theorem b_mul (h : Q (.int (x * y)) lc ow) (hm : IntMulOk x y) : Bin c .Mult (.int x) (.int y) lc ow Q := by
  refine ⟨?_⟩; rintro _ _ ⟨t, rfl⟩ ⟨u, rfl⟩; refine ⟨fun s P E R kp => ?_⟩
  with_reducible refine PyProof.Rows.mul_int ?_ hm
  exact kp _ _ _ _ s.heap _ h ⟨_, rfl⟩ R
theorem b_mod (h : Q (.int (x.fmod y)) lc ow) (hy : y ≠ 0) : Bin c .Mod (.int x) (.int y) lc ow Q := by
  refine ⟨?_⟩; rintro _ _ ⟨t, rfl⟩ ⟨u, rfl⟩; refine ⟨fun s P E R kp => ?_⟩
  with_reducible refine PyProof.Rows.mod_int' hy ?_
  exact kp _ _ _ _ s.heap _ h ⟨_, rfl⟩ R
theorem b_fdiv (h : Q (.int (x.fdiv y)) lc ow) (hy : y ≠ 0) (hp : Builtin.divisionGoesByPylong x y = false) : Bin c .FloorDiv (.int x) (.int y) lc ow Q := by
  refine ⟨?_⟩; rintro _ _ ⟨t, rfl⟩ ⟨u, rfl⟩; refine ⟨fun s P E R kp => ?_⟩
  with_reducible refine PyProof.Rows.floordiv_int hy ?_ (Or.inl hp)
  exact kp _ _ _ _ s.heap _ h ⟨_, rfl⟩ R
theorem b_shl (h : Q (.int (x * 2 ^ y.toNat)) lc ow) (hy : 0 ≤ y) (hz : (Builtin.Int.intBits x : Int) + y ≤ 2 ^ 27) : Bin c .LShift (.int x) (.int y) lc ow Q := by
  refine ⟨?_⟩; rintro _ _ ⟨t, rfl⟩ ⟨u, rfl⟩; refine ⟨fun s P E R kp => ?_⟩
  with_reducible refine PyProof.Rows.lshift_int hy hz ?_
  exact kp _ _ _ _ s.heap _ h ⟨_, rfl⟩ R
theorem b_shr (h : Q (.int (x.fdiv (2 ^ y.toNat))) lc ow) (hy : 0 ≤ y) : Bin c .RShift (.int x) (.int y) lc ow Q := by
  refine ⟨?_⟩; rintro _ _ ⟨t, rfl⟩ ⟨u, rfl⟩; refine ⟨fun s P E R kp => ?_⟩
  with_reducible refine PyProof.Rows.rshift_int hy ?_
  exact kp _ _ _ _ s.heap _ h ⟨_, rfl⟩ R
theorem b_pow (h : Q (.int (x ^ y.toNat)) lc ow) (hy : 0 ≤ y) (hz : (Builtin.Int.intBits x : Int) * y ≤ 2 ^ 27) : Bin c .Pow (.int x) (.int y) lc ow Q := by
  refine ⟨?_⟩; rintro _ _ ⟨t, rfl⟩ ⟨u, rfl⟩; refine ⟨fun s P E R kp => ?_⟩
  with_reducible refine PyProof.Rows.pow_int hy hz ?_
  exact kp _ _ _ _ s.heap _ h ⟨_, rfl⟩ R
theorem b_and (h : Q (.int (Builtin.bitAnd x y)) lc ow) : Bin c .BitAnd (.int x) (.int y) lc ow Q := by
  refine ⟨?_⟩; rintro _ _ ⟨t, rfl⟩ ⟨u, rfl⟩; refine ⟨fun s P E R kp => ?_⟩
  with_reducible refine PyProof.Rows.and_int ?_
  exact kp _ _ _ _ s.heap _ h ⟨_, rfl⟩ R
theorem b_or (h : Q (.int (Builtin.bitOr x y)) lc ow) : Bin c .BitOr (.int x) (.int y) lc ow Q := by
  refine ⟨?_⟩; rintro _ _ ⟨t, rfl⟩ ⟨u, rfl⟩; refine ⟨fun s P E R kp => ?_⟩
  with_reducible refine PyProof.Rows.or_int ?_
  exact kp _ _ _ _ s.heap _ h ⟨_, rfl⟩ R
theorem b_xor (h : Q (.int (Builtin.bitXor x y)) lc ow) : Bin c .BitXor (.int x) (.int y) lc ow Q := by
  refine ⟨?_⟩; rintro _ _ ⟨t, rfl⟩ ⟨u, rfl⟩; refine ⟨fun s P E R kp => ?_⟩
  with_reducible refine PyProof.Rows.xor_int ?_
  exact kp _ _ _ _ s.heap _ h ⟨_, rfl⟩ R
theorem i_add (h : Q (.int (x + y)) lc ow) : Inp c .Add (.int x) (.int y) lc ow Q := by
  refine ⟨?_⟩; rintro _ _ ⟨t, rfl⟩ ⟨u, rfl⟩; refine ⟨fun s P E R kp => ?_⟩
  with_reducible refine PyProof.Rows.iadd_int ?_
  exact kp _ _ _ _ s.heap _ h ⟨_, rfl⟩ R
theorem i_sub (h : Q (.int (x - y)) lc ow) : Inp c .Sub (.int x) (.int y) lc ow Q := by
  refine ⟨?_⟩; rintro _ _ ⟨t, rfl⟩ ⟨u, rfl⟩; refine ⟨fun s P E R kp => ?_⟩
  with_reducible refine PySem.AutoIntOps.isub_0 ?_
  exact kp _ _ _ _ s.heap _ h ⟨_, rfl⟩ R
theorem i_shl (h : Q (.int (x * 2 ^ y.toNat)) lc ow) (hy : 0 ≤ y) (hz : (Builtin.Int.intBits x : Int) + y ≤ 2 ^ 27) : Inp c .LShift (.int x) (.int y) lc ow Q := by
  refine ⟨?_⟩; rintro _ _ ⟨t, rfl⟩ ⟨u, rfl⟩; refine ⟨fun s P E R kp => ?_⟩
  with_reducible refine PyProof.Rows.ilshift_int hy hz ?_
  exact kp _ _ _ _ s.heap _ h ⟨_, rfl⟩ R
theorem i_shr (h : Q (.int (x.fdiv (2 ^ y.toNat))) lc ow) (hy : 0 ≤ y) : Inp c .RShift (.int x) (.int y) lc ow Q := by
  refine ⟨?_⟩; rintro _ _ ⟨t, rfl⟩ ⟨u, rfl⟩; refine ⟨fun s P E R kp => ?_⟩
  with_reducible refine PyProof.Rows.irshift_int hy ?_
  exact kp _ _ _ _ s.heap _ h ⟨_, rfl⟩ R
theorem u_neg (h : Q (.int (-x)) lc ow) : Uop c .USub (.int x) lc ow Q := by
  refine ⟨?_⟩; rintro _ ⟨t, rfl⟩; refine ⟨fun s P E R kp => ?_⟩
  with_reducible refine PyProof.Rows.neg_int ?_
  exact kp _ _ _ _ s.heap _ h ⟨_, rfl⟩ R
theorem u_inv (h : Q (.int (Builtin.bitNot x)) lc ow) : Uop c .Invert (.int x) lc ow Q := by
  refine ⟨?_⟩; rintro _ ⟨t, rfl⟩; refine ⟨fun s P E R kp => ?_⟩
  with_reducible refine PyProof.Rows.invert_int ?_
  exact kp _ _ _ _ s.heap _ h ⟨_, rfl⟩ R
theorem c_lt (h : Q (.bool (decide (x < y))) lc ow) : Cmp c .Lt (.int x) (.int y) lc ow Q := by
  refine ⟨?_⟩; rintro _ _ ⟨t, rfl⟩ ⟨u, rfl⟩; refine ⟨fun s P E R kp => ?_⟩
  with_reducible refine PyProof.Rows.lt_int ?_
  exact kp _ _ _ _ s.heap _ h rfl R
theorem c_gt (h : Q (.bool (decide (y < x))) lc ow) : Cmp c .Gt (.int x) (.int y) lc ow Q := by
  refine ⟨?_⟩; rintro _ _ ⟨t, rfl⟩ ⟨u, rfl⟩; refine ⟨fun s P E R kp => ?_⟩
  with_reducible refine PyProof.Rows.gt_int ?_
  exact kp _ _ _ _ s.heap _ h rfl R
theorem c_le (h : Q (.bool (decide (x ≤ y))) lc ow) : Cmp c .LtE (.int x) (.int y) lc ow Q := by
  refine ⟨?_⟩; rintro _ _ ⟨t, rfl⟩ ⟨u, rfl⟩; refine ⟨fun s P E R kp => ?_⟩
  with_reducible refine PyProof.Rows.le_int ?_
  exact kp _ _ _ _ s.heap _ h rfl R
theorem c_eq (h : Q (.bool (decide (x = y))) lc ow) : Cmp c .Eq (.int x) (.int y) lc ow Q := by
  refine ⟨?_⟩; rintro _ _ ⟨t, rfl⟩ ⟨u, rfl⟩; refine ⟨fun s P E R kp => ?_⟩
  with_reducible refine PyProof.Rows.eq_int ?_
  exact kp (.bool (decide (x = y))) _ _ _ s.heap _ h rfl R
theorem c_ne (h : Q (.bool (decide (x ≠ y))) lc ow) : Cmp c .NotEq (.int x) (.int y) lc ow Q := by
  refine ⟨?_⟩; rintro _ _ ⟨t, rfl⟩ ⟨u, rfl⟩; refine ⟨fun s P E R kp => ?_⟩
  with_reducible refine PyProof.Rows.ne_int ?_
  refine kp (.bool (decide (x ≠ y))) _ _ _ s.heap _ h ?_ R
  show Value.bool (x != y) = _
  by_cases e : x = y <;> simp [e]
end
section
variable {x y : List Nat} {Q : AV → LC → OW → Prop}
theorem c_eqs (h : Q (.bool (decide (x = y))) lc ow) : Cmp c .Eq (.str x) (.str y) lc ow Q := by
  refine ⟨?_⟩; rintro _ _ ⟨t, rfl⟩ ⟨u, rfl⟩; refine ⟨fun s P E R kp => ?_⟩
  with_reducible refine PySem.P.eq_str ?_
  refine kp (.bool (decide (x = y))) _ _ _ s.heap _ h ?_ R
  show Value.bool (x == y) = _
  by_cases e : x = y <;> simp [e]
theorem app_str (x y : List Nat) : (⟨x.toArray⟩ : Str) ++ ⟨y.toArray⟩ = ⟨(x ++ y).toArray⟩ := by
  show (⟨x.toArray ++ y.toArray⟩ : Str) = _
  simp
theorem len_str (x : List Nat) : (⟨x.toArray⟩ : Str).length = x.length := by simp [Str.length]
theorem adds_post {x y : List Nat} {t u : Tok} {s : Shared} {P : Value → Shared → Prop} (hz : x.length + y.length ≤ 1000000)
    (k : ∀ v tk', AV.rep (.str (x ++ y)) v → P v { s with toks := tk' }) :
    (if (⟨x.toArray⟩ : Str).length == 0 then Made.val (.str ⟨y.toArray⟩ u) else if (⟨y.toArray⟩ : Str).length == 0 then Made.val (.str ⟨x.toArray⟩ t) else Made.str (⟨x.toArray⟩ ++ ⟨y.toArray⟩)).post P s := by
  simp only [len_str, app_str]
  split
  · rename_i e
    have : x = [] := by cases x with | nil => rfl | cons a l => simp at e
    subst this
    exact k _ s.toks ⟨_, rfl⟩
  · split
    · rename_i e
      have : y = [] := by cases y with | nil => rfl | cons a l => simp at e
      subst this
      exact k _ s.toks ⟨t, by rw [List.append_nil]⟩
    · exact ⟨by rw [len_str, List.length_append, sizeLine_eq]; wtm_at "om", k _ _ ⟨_, rfl⟩⟩
theorem b_adds (h : Q (.str (x ++ y)) lc ow) (hz : x.length + y.length ≤ 1000000) : Bin c .Add (.str x) (.str y) lc ow Q := by
  refine ⟨?_⟩; rintro _ _ ⟨t, rfl⟩ ⟨u, rfl⟩; refine ⟨fun s P E R kp => ?_⟩
  with_reducible refine PySem.P.add_str ?_
  exact adds_post hz fun v tk' r => kp _ _ _ _ s.heap _ h r R
theorem i_adds (h : Q (.str (x ++ y)) lc ow) (hz : x.length + y.length ≤ 1000000) : Inp c .Add (.str x) (.str y) lc ow Q := by
  refine ⟨?_⟩; rintro _ _ ⟨t, rfl⟩ ⟨u, rfl⟩; refine ⟨fun s P E R kp => ?_⟩
  with_reducible refine PySem.P.iadd_str ?_
  exact adds_post hz fun v tk' r => kp _ _ _ _ s.heap _ h r R
end
end
end

section
section
variable {A B α β γ δ : Type}
theorem el_PE {P : Prop} {b : β} {G : β → Prop} (k : P → G b) : ∀ y, (P ∧ y = b) → G y := fun _ h => h.2 ▸ k h.1
theorem el_EE {a : α} {b : β} {G : α → β → Prop} (k : G a b) : ∀ x y, (x = a ∧ y = b) → G x y := fun _ _ h => h.1 ▸ h.2 ▸ k
theorem el_1EE {f : A → α} {g : A → β} {G : α → β → Prop} (k : ∀ a, G (f a) (g a)) : ∀ x y, (∃ a, x = f a ∧ y = g a) → G x y := fun _ _ h => h.elim fun a h => h.1 ▸ h.2 ▸ k a
theorem el_2EE {f : A → B → α} {g : A → B → β} {G : α → β → Prop} (k : ∀ a b, G (f a b) (g a b)) : ∀ x y, (∃ a b, x = f a b ∧ y = g a b) → G x y := fun _ _ h => h.elim fun a h => h.elim fun b h => h.1 ▸ h.2 ▸ k a b
theorem el_c5 {P : Prop} {a : α} {b : β} {d : γ} {e : δ} {G : α → δ → β → γ → Prop} (k : P → G a e b d) : ∀ x w y z, (x = a ∧ P ∧ y = b ∧ z = d ∧ w = e) → G x w y z := fun _ _ _ _ h => h.1 ▸ h.2.2.1 ▸ h.2.2.2.1 ▸ h.2.2.2.2 ▸ k h.2.1
theorem el_c4 {a : α} {b : β} {d : γ} {e : δ} {G : α → δ → β → γ → Prop} (k : G a e b d) : ∀ x w y z, (x = a ∧ y = b ∧ z = d ∧ w = e) → G x w y z := fun _ _ _ _ h => h.1 ▸ h.2.1 ▸ h.2.2.1 ▸ h.2.2.2 ▸ k
theorem el_r1 {Tw Ty Tz : Type} {dy : Ty} {dz : Tz} {dw : Tw} {P1 : Prop} {G : Tw → Ty → Tz → Prop} (k : P1 → G dw dy dz) : ∀ w y z, (y = dy ∧ z = dz ∧ w = dw ∧ P1) → G w y z := fun _ _ _ h => h.1 ▸ h.2.1 ▸ h.2.2.1 ▸ k h.2.2.2
theorem el_r2 {Tw Tz : Type} {P1 : Prop} {dz : Tz} {dw : Tw} {P2 : Prop} {G : Tw → Tz → Prop} (k : P1 → P2 → G dw dz) : ∀ w z, (P1 ∧ z = dz ∧ w = dw ∧ P2) → G w z := fun _ _ h => h.2.1 ▸ h.2.2.1 ▸ k h.1 h.2.2.2
theorem el_r3 {A Tw Tz : Type} {P1 : A → Prop} {P2 : A → Prop} {dz : A → Tz} {dw : A → Tw} {G : Tw → Tz → Prop} (k : ∀ a, P1 a → P2 a → G (dw a) (dz a)) : ∀ w z, (∃ a, P1 a ∧ P2 a ∧ z = dz a ∧ w = dw a) → G w z := fun _ _ h => h.elim fun a h => h.2.2.1 ▸ h.2.2.2 ▸ k a h.1 h.2.1
theorem el_s1 {A Ty Tz : Type} {P1 : A → Prop} {P2 : A → Prop} {dy : A → Ty} {dz : A → Tz} {G : Ty → Tz → Prop} (k : ∀ a, P1 a → P2 a → G (dy a) (dz a)) : ∀ y z, (∃ a, P1 a ∧ P2 a ∧ y = dy a ∧ z = dz a) → G y z := fun _ _ h => h.elim fun a h => h.2.2.1 ▸ h.2.2.2 ▸ k a h.1 h.2.1
theorem el_26a {Tw Ty Tz : Type} {dy : Ty} {P1 : Prop} {dw : Tw} {dz : Tz} {G : Tw → Ty → Tz → Prop} (k : P1 → G dw dy dz) : ∀ w y z, (y = dy ∧ P1 ∧ w = dw ∧ z = dz) → G w y z := fun _ _ _ h => h.1 ▸ h.2.2.1 ▸ h.2.2.2 ▸ k h.2.1
theorem el_26b {Tw Tz : Type} {P1 : Prop} {P2 : Prop} {dz : Tz} {dw : Tw} {G : Tw → Tz → Prop} (k : P1 → P2 → G dw dz) : ∀ w z, (P1 ∧ P2 ∧ z = dz ∧ w = dw) → G w z := fun _ _ h => h.2.2.1 ▸ h.2.2.2 ▸ k h.1 h.2.1
theorem el_17 {A Tx Ty : Type} {P1 : A → Prop} {dx : A → Tx} {dy : A → Ty} {P2 : A → Prop} {G : Tx → Ty → Prop} (k : ∀ a, P1 a → P2 a → G (dx a) (dy a)) : ∀ x y, (∃ a, P1 a ∧ x = dx a ∧ y = dy a ∧ P2 a) → G x y := fun _ _ h => h.elim fun a h => h.2.1 ▸ h.2.2.1 ▸ k a h.1 h.2.2.2
theorem el_17a {A B Tz : Type} {P1 : A → B → Prop} {P2 : A → B → Prop} {dz : A → B → Tz} {G : Tz → Prop} (k : ∀ a b, P1 a b → P2 a b → G (dz a b)) : ∀ z, (∃ a b, P1 a b ∧ P2 a b ∧ z = dz a b) → G z := fun _ h => h.elim fun a h => h.elim fun b h => h.2.2 ▸ k a b h.1 h.2.1
theorem el_12 {A Tz : Type} {P1 : A → Prop} {dz : A → Tz} {P2 : A → Prop} {P3 : A → Prop} {P4 : A → Prop} {G : Tz → Prop} (k : ∀ a, P1 a → P2 a → P3 a → P4 a → G (dz a)) : ∀ z, (∃ a, P1 a ∧ z = dz a ∧ P2 a ∧ P3 a ∧ P4 a) → G z := fun _ h => h.elim fun a h => h.2.1 ▸ k a h.1 h.2.2.1 h.2.2.2.1 h.2.2.2.2
theorem el_3 {A B Tx Tz : Type} {dx : A → B → Tx} {P1 : A → B → Prop} {P2 : A → B → Prop} {P3 : A → B → Prop} {P4 : A → B → Prop} {P5 : A → B → Prop} {P6 : A → B → Prop} {dz : A → B → Tz} {G : Tx → Tz → Prop} (k : ∀ a b, P1 a b → P2 a b → P3 a b → P4 a b → P5 a b → P6 a b → G (dx a b) (dz a b)) : ∀ x z, (∃ a b, x = dx a b ∧ P1 a b ∧ P2 a b ∧ P3 a b ∧ P4 a b ∧ P5 a b ∧ P6 a b ∧ z = dz a b) → G x z := fun _ _ h => h.elim fun a h => h.elim fun b h => h.1 ▸ h.2.2.2.2.2.2.2 ▸ k a b h.2.1 h.2.2.1 h.2.2.2.1 h.2.2.2.2.1 h.2.2.2.2.2.1 h.2.2.2.2.2.2.1
theorem el_E3 {Tx Ty Tz : Type} {dx : Tx} {dy : Ty} {dz : Tz} {G : Tx → Ty → Tz → Prop} (k : G dx dy dz) : ∀ x y z, (x = dx ∧ y = dy ∧ z = dz) → G x y z := fun _ _ _ h => h.1 ▸ h.2.1 ▸ h.2.2 ▸ k 
theorem el_25 {A Tw Tz : Type} {P1 : Prop} {P2 : Prop} {dw : Tw} {P3 : A → Prop} {P4 : A → Prop} {P5 : A → Prop} {dz : A → Tz} {G : Tw → Tz → Prop} (k : P1 → P2 → ∀ a, P3 a → P4 a → P5 a → G dw (dz a)) : ∀ w z, (P1 ∧ P2 ∧ w = dw ∧ ∃ a, P3 a ∧ P4 a ∧ P5 a ∧ z = dz a) → G w z := fun _ _ q => q.2.2.2.elim fun a h => q.2.2.1 ▸ h.2.2.2 ▸ k q.1 q.2.1 a h.1 h.2.1 h.2.2.1
theorem el_21 {A B Tx Ty Tz : Type} {dx : A → B → Tx} {dy : A → B → Ty} {P1 : A → B → Prop} {P2 : A → B → Prop} {P3 : A → B → Prop} {dz : A → B → Tz} {G : Tx → Ty → Tz → Prop} (k : ∀ a b, P1 a b → P2 a b → P3 a b → G (dx a b) (dy a b) (dz a b)) : ∀ x y z, (∃ a b, x = dx a b ∧ y = dy a b ∧ P1 a b ∧ P2 a b ∧ P3 a b ∧ z = dz a b) → G x y z := fun _ _ _ h => h.elim fun a h => h.elim fun b h => h.1 ▸ h.2.1 ▸ h.2.2.2.2.2 ▸ k a b h.2.2.1 h.2.2.2.1 h.2.2.2.2.1
theorem el_21b {A B Tx Ty Tz : Type} {P1 : A → B → Prop} {dx : A → B → Tx} {dy : A → B → Ty} {P2 : A → B → Prop} {P3 : A → B → Prop} {P4 : A → B → Prop} {dz : A → B → Tz} {G : Tx → Ty → Tz → Prop} (k : ∀ a b, P1 a b → P2 a b → P3 a b → P4 a b → G (dx a b) (dy a b) (dz a b)) : ∀ x y z, (∃ a b, P1 a b ∧ x = dx a b ∧ y = dy a b ∧ P2 a b ∧ P3 a b ∧ P4 a b ∧ z = dz a b) → G x y z := fun _ _ _ h => h.elim fun a h => h.elim fun b h => h.2.1 ▸ h.2.2.1 ▸ h.2.2.2.2.2.2 ▸ k a b h.1 h.2.2.2.1 h.2.2.2.2.1 h.2.2.2.2.2.1
theorem el_6 {A B Tx Ty Tz : Type} {dy : A → B → Ty} {dz : A → B → Tz} {P1 : A → B → Prop} {P2 : A → B → Prop} {dx : A → B → Tx} {G : Tx → Ty → Tz → Prop} (k : ∀ a b, P1 a b → P2 a b → G (dx a b) (dy a b) (dz a b)) : ∀ x y z, (∃ a b, y = dy a b ∧ z = dz a b ∧ P1 a b ∧ P2 a b ∧ x = dx a b) → G x y z := fun _ _ _ h => h.elim fun a h => h.elim fun b h => h.1 ▸ h.2.1 ▸ h.2.2.2.2 ▸ k a b h.2.2.1 h.2.2.2.1
end

theorem Rep.keeps {g h h' : Heap} {L : Addr} {lc : LC} {ow : OW} (R : Rep g L lc ow h) (k : ∀ a o, h.get? a = some o → h'.get? a = some o) : Rep g L lc ow h' := by
  obtain ⟨m, F, hl⟩ := R.fr
  refine ⟨⟨m, ⟨F.ns.keeps k, fun b o e => k b o (F.keep b o e), F.above⟩, hl⟩, fun p hp => ?_, R.nd⟩
  obtain ⟨o, r, e, n⟩ := R.own p hp
  exact ⟨o, r, k _ _ e, n⟩
theorem Rep.ext {g h h' : Heap} {L : Addr} {lc : LC} {ow : OW} (R : Rep g L lc ow h) (k : Heap.ExtBut h.objs.size h h') : Rep g L lc ow h' :=
  R.keeps fun a o e => k a o (Nat.ne_of_lt (Heap.lt_size e)) e

structure Sto (c : Cx) (env : Env) (x : Str) (a : AV) (lc : LC) (ow : OW) (Q : LC → OW → Prop) : Prop where
  run : ∀ v, a.rep v → UX c (storeName env x v) lc ow Q
structure Asg (c : Cx) (env : Env) (t : PySem.Expr) (a : AV) (lc : LC) (ow : OW) (Q : LC → OW → Prop) : Prop where
  run : ∀ v, a.rep v → UX c (assign t env v) lc ow Q
structure Br (b : Bool) (X Y : Prop) : Prop where
  t : b = true → X
  f : b = false → Y
theorem br_t {X Y : Prop} (h : X) : Br true X Y := ⟨fun _ => h, fun e => nomatch e⟩
theorem br_f {X Y : Prop} (h : Y) : Br false X Y := ⟨fun e => (nomatch e), fun _ => h⟩
theorem br_yes {X Y : Prop} {b : Bool} (e : b = true) (h : X) : Br b X Y := ⟨fun _ => h, fun e' => by rw [e] at e'; cases e'⟩
theorem br_no {X Y : Prop} {b : Bool} (e : b = false) (h : Y) : Br b X Y := ⟨fun e' => (by rw [e] at e'; cases e'), fun _ => h⟩
theorem br_dec {X Y p : Prop} [Decidable p] (x : p → X) (y : ¬ p → Y) : Br (decide p) X Y := ⟨fun e => x (of_decide_eq_true e), fun e => y (of_decide_eq_false e)⟩
theorem br_pos {X Y p : Prop} [Decidable p] (hp : p) (x : X) : Br (decide p) X Y := br_dec (fun _ => x) fun n => absurd hp n
theorem br_neg {X Y p : Prop} [Decidable p] (hp : ¬ p) (y : Y) : Br (decide p) X Y := br_dec (fun h => absurd h hp) fun _ => y

section
variable {c : Cx} {lc lc' : LC} {ow ow' : OW} {env : Env}
noncomputable def nxt (c : Cx) (rest : List Stmt) (env : Env) (Q : AF → LC → OW → Prop) : AF → LC → OW → Prop
  | .next, lc, ow => SX c (execs rest env) lc ow Q
  | f, lc, ow => Q f lc ow
/-- what a loop's body must leave -/
noncomputable abbrev LpQ (N B : LC → OW → Prop) (R : AV → LC → OW → Prop) : AF → LC → OW → Prop := fun f lc ow => match f with
  | .next | .cont => N lc ow
  | .brk => B lc ow
  | .ret a => R a lc ow
theorem sx_nil {Q : AF → LC → OW → Prop} (h : Q .next lc ow) : SX c (execs [] env) lc ow Q := AWp.pure (b := AF.next) rfl h
theorem sx_cons {st rest} {Q : AF → LC → OW → Prop} (h : SX c (exec st env) lc ow (nxt c rest env Q)) : SX c (execs (st :: rest) env) lc ow Q :=
  ⟨fun s P E R kp => wpAny_execs_cons (h.run s _ E R fun f x lc1 ow1 h1 tk1 q r R1 => by
    cases f with
    | next => cases (show x = _ from r); exact AWp.run q _ P E R1 kp
    | brk => cases (show x = _ from r); exact kp _ _ _ _ _ _ q rfl R1
    | cont => cases (show x = _ from r); exact kp _ _ _ _ _ _ q rfl R1
    | ret a => obtain ⟨v, rfl, ra⟩ := r; exact kp _ _ _ _ _ _ q ⟨v, rfl, ra⟩ R1)⟩
theorem nx {rest} {Q : AF → LC → OW → Prop} (h : SX c (execs rest env) lc ow Q) : nxt c rest env Q .next lc ow := h
theorem nx_ret {rest a} {Q : AF → LC → OW → Prop} (h : Q (.ret a) lc ow) : nxt c rest env Q (.ret a) lc ow := h
theorem nx_cont {rest} {Q : AF → LC → OW → Prop} (h : Q .cont lc ow) : nxt c rest env Q .cont lc ow := h

theorem sto_local {x : Str} {a : AV} {Q} (P : Put lc x a lc') (h : Q lc' ow)
    (hk : autoParam (env.scope.kind = .function) kr0) (hx : autoParam (env.kindOf x = some .local) kr0) (hL : autoParam (env.locals = c.L) kr0) : Sto c env x a lc ow Q :=
  ⟨fun v ra => st_local ra P h hk hx hL⟩
theorem sto_cell {x : Str} {a : AV} {o : Option AV} {d : Addr} {Q} (hc : env.cells.lookup x = some d) (U : Upd ow d (AO.cell o) (AO.cell (some a)) ow') (h : Q lc ow')
    (hk : autoParam (env.scope.kind = .function) kr0) (hx : autoParam (env.kindOf x = some .cell) kr0) : Sto c env x a lc ow Q :=
  ⟨fun v ra => st_cell ra hc U h hk hx⟩
theorem asg_name {x : Str} {pos} {a : AV} {Q} (h : Sto c env x a lc ow Q) : Asg c env (.Name x pos) a lc ow Q :=
  ⟨fun v ra => ⟨fun s P E R kp => assign_Name ((h.run v ra).run s P E R kp)⟩⟩

theorem sx_assign {x : Str} {pos' value pos} {Q : AF → LC → OW → Prop} (h : EV c (eval value env) lc ow fun a lc1 ow1 => Sto c env x a lc1 ow1 (Q .next))
    (hs : autoParam (swapsWith value (some (.Name x pos')) pos.line env = pure false) kr0) : SX c (exec (.Assign [.Name x pos'] value pos) env) lc ow Q :=
  ⟨fun s P E R kp => wpAny_Assign_Name (h.run s _ E R fun a v lc1 ow1 h1 tk1 q ra R1 => (q.run v ra).run _ _ E R1 fun _ _ lc2 ow2 h2 tk2 q2 _ R2 => kp .next .next _ _ _ _ q2 rfl R2) hs⟩
theorem sx_aug {x : Str} {pos' op value pos} {Q : AF → LC → OW → Prop} (h : EV c (loadName env x) lc ow fun a lc1 ow1 => EV c (eval value env) lc1 ow1 fun b lc2 ow2 => Inp c op a b lc2 ow2 fun d lc3 ow3 => Sto c env x d lc3 ow3 (Q .next)) :
    SX c (exec (.AugAssign (.Name x pos') op value pos) env) lc ow Q :=
  ⟨fun s P E R kp => wpAny_AugAssign_Name (h.run s _ E R fun a u lc1 ow1 h1 tk1 q ra R1 => q.run _ _ E R1 fun b v lc2 ow2 h2 tk2 q2 rb R2 => (q2.run u v ra rb).run _ _ E R2 fun d y lc3 ow3 h3 tk3 q3 rd R3 =>
    (q3.run y rd).run _ _ E R3 fun _ _ lc4 ow4 h4 tk4 q4 _ R4 => kp .next .next _ _ _ _ q4 rfl R4)⟩
theorem sx_two {t1 t2 value pos} {Q : AF → LC → OW → Prop} (h : EV c (eval value env) lc ow fun a lc1 ow1 => Asg c env t1 a lc1 ow1 fun lc2 ow2 => Asg c env t2 a lc2 ow2 (Q .next))
    (he : autoParam ((assignEach [t1, t2] env).map (·.2) = [assign t1 env, assign t2 env]) kr0) (hw : autoParam (swappedStores [t1, t2] value env = pure none) kr0) : SX c (exec (.Assign [t1, t2] value pos) env) lc ow Q :=
  ⟨fun s P E R kp => wpAny_Assign_two (h.run s _ E R fun a v lc1 ow1 h1 tk1 q ra R1 => (q.run v ra).run _ _ E R1 fun _ _ lc2 ow2 h2 tk2 q2 _ R2 => (q2.run v ra).run _ _ E R2 fun _ _ lc3 ow3 h3 tk3 q3 _ R3 => kp .next .next _ _ _ _ q3 rfl R3) he hw⟩
theorem sx_if {test body orelse pos} {Q : AF → LC → OW → Prop} (h : BX c (isTrue test env (eval test env)) lc ow fun b lc1 ow1 => Br b (SX c (execs body env) lc1 ow1 Q) (SX c (execs orelse env) lc1 ow1 Q)) : SX c (exec (.If test body orelse pos) env) lc ow Q :=
  ⟨fun s P E R kp => wpAny_If (h.run s _ E R fun b x lc1 ow1 h1 tk1 q r R1 => by
    subst r
    cases x with
    | true => exact (q.t rfl).run _ P E R1 kp
    | false => exact (q.f rfl).run _ P E R1 kp)⟩
theorem sx_ret {e pos} {Q : AF → LC → OW → Prop} (h : EV c (eval e env) lc ow fun a => Q (.ret a)) : SX c (exec (.Return (some e) pos) env) lc ow Q :=
  ⟨fun s P E R kp => wpAny_Return_some (h.run s _ E R fun a v lc1 ow1 h1 tk1 q ra R1 => kp _ _ _ _ _ _ q ⟨v, rfl, ra⟩ R1)⟩
theorem sx_ret0 {pos} {Q : AF → LC → OW → Prop} (h : Q (.ret .none) lc ow) : SX c (exec (.Return none pos) env) lc ow Q :=
  ⟨fun s P E R kp => wpAny_Return_none (kp (.ret .none) _ _ _ s.heap s.toks h ⟨_, rfl, rfl⟩ R)⟩
theorem sx_expr {e pos} {Q : AF → LC → OW → Prop} (h : EV c (eval e env) lc ow fun a lc1 ow1 => a = .none ∧ Q .next lc1 ow1)
    (hi : autoParam (interactive env = false) kr0) (hs : autoParam (swapsWith e none pos.line env = pure false) kr0) : SX c (exec (.Expr e pos) env) lc ow Q :=
  ⟨fun s P E R kp => wpAny_Expr (h.run s _ E R fun a v lc1 ow1 h1 tk1 q ra R1 => by
    obtain ⟨rfl, q⟩ := q
    cases (show v = _ from ra)
    exact kp .next .next _ _ _ _ q rfl R1) hi hs⟩
theorem sx_cont {pos} {Q : AF → LC → OW → Prop} (h : Q .cont lc ow) : SX c (exec (.Continue pos) env) lc ow Q := AWp.standAt (AWp.pure (b := AF.cont) rfl h)
-- tests
theorem bx_val {e : PySem.Expr} {whole : Sem Value} {Q : Bool → LC → OW → Prop} (h : AWp c AV.rep whole lc ow fun a lc1 ow1 => Tru c a lc1 ow1 Q) (hp : autoParam (isTrue e env whole = (do let v ← whole; standAt e.pos; holding [v] (truthy v))) kr0) : BX c (isTrue e env whole) lc ow Q := by
  rw [hp]
  exact AWp.bind (h.mono fun a lc1 ow1 q v ra => AWp.standAt (AWp.holding (q.run v ra)))
theorem bx_not {x pos whole} {Q : Bool → LC → OW → Prop} (h : BX c (isTrue x env (eval x env)) lc ow fun b => Q (!b)) : BX c (isTrue (.UnaryOp .Not x pos) env whole) lc ow Q :=
  ⟨fun s P E R kp => isTrue_not (h.run s _ E R fun b x lc1 ow1 h1 tk1 q r R1 => kp _ _ _ _ _ _ q (by cases (show x = b from r); rfl) R1)⟩
theorem bx_and_nil {pos whole} {Q : Bool → LC → OW → Prop} (h : Q true lc ow) : BX c (isTrue (.BoolOp .And [] pos) env whole) lc ow Q := AWp.pure (b := true) rfl h
theorem bx_or_nil {pos whole} {Q : Bool → LC → OW → Prop} (h : Q false lc ow) : BX c (isTrue (.BoolOp .Or [] pos) env whole) lc ow Q := AWp.pure (b := false) rfl h
theorem bx_and {x rest pos whole} {Q : Bool → LC → OW → Prop} (h : BX c (isTrue x env (eval x env)) lc ow fun b lc1 ow1 => Br b (BX c (isTrue (.BoolOp .And rest pos) env whole) lc1 ow1 Q) (Q false lc1 ow1)) : BX c (isTrue (.BoolOp .And (x :: rest) pos) env whole) lc ow Q :=
  AWp.bind (f := fun b => match BoolOp.And, b with | .And, false => pure false | .Or, true => pure true | _, _ => allTrue .And rest env) (h.mono fun b lc1 ow1 q v r => by
    subst r
    cases v with
    | true => exact q.t rfl
    | false => exact AWp.pure (b := false) rfl (q.f rfl))
theorem bx_or {x rest pos whole} {Q : Bool → LC → OW → Prop} (h : BX c (isTrue x env (eval x env)) lc ow fun b lc1 ow1 => Br b (Q true lc1 ow1) (BX c (isTrue (.BoolOp .Or rest pos) env whole) lc1 ow1 Q)) : BX c (isTrue (.BoolOp .Or (x :: rest) pos) env whole) lc ow Q :=
  AWp.bind (f := fun b => match BoolOp.Or, b with | .And, false => pure false | .Or, true => pure true | _, _ => allTrue .Or rest env) (h.mono fun b lc1 ow1 q v r => by
    subst r
    cases v with
    | true => exact AWp.pure (b := true) rfl (q.t rfl)
    | false => exact q.f rfl)
theorem ev_ifexp {test body orelse pos} {Q} (h : BX c (isTrue test env (eval test env)) lc ow fun b lc1 ow1 => Br b (EV c (eval body env) lc1 ow1 Q) (EV c (eval orelse env) lc1 ow1 Q)) : EV c (eval (.IfExp test body orelse pos) env) lc ow Q :=
  AWp.bind (f := fun b => if b then eval body env else eval orelse env) (h.mono fun b lc1 ow1 q v r => by
    subst r
    cases v with
    | true => exact q.t rfl
    | false => exact q.f rfl)
/-- «x or y» as a value -/
theorem ev_or2 {x y pos} {Q} (h : EV c (eval x env) lc ow fun a lc1 ow1 => Tru c a lc1 ow1 fun b lc2 ow2 => Br b (Q a lc2 ow2) (EV c (eval y env) lc2 ow2 Q)) : EV c (eval (.BoolOp .Or [x, y] pos) env) lc ow Q :=
  AWp.bind (f := fun v => standAt pos >>= fun _ => holding [v] (truthy v) >>= fun t => match BoolOp.Or, t with | .And, false | .Or, true => pure v | _, _ => boolOp pos .Or [eval y env]) (h.mono fun a lc1 ow1 q v ra =>
    AWp.standAt (AWp.bind (AWp.holding ((q.run v ra).mono fun b lc2 ow2 q2 t r => by
      subst r
      cases t with
      | true => exact AWp.pure ra (q2.t rfl)
      | false => exact q2.f rfl))))

/-- while, by what holds of it -/
theorem sx_while {test body orelse pos} {Q : AF → LC → OW → Prop} (J : Nat → LC → OW → Prop)
    (turn : ∀ n lc ow, J n lc ow → BX c (isTrue test env (eval test env)) lc ow fun b lc1 ow1 =>
      Br b (SX c (execs body env) lc1 ow1 (LpQ (fun lc2 ow2 => ∃ m, m < n ∧ J m lc2 ow2) (Q .next) fun a => Q (.ret a))) (SX c (execs orelse env) lc1 ow1 Q))
    (n : Nat) (h : J n lc ow) : SX c (exec (.While test body orelse pos) env) lc ow Q :=
  ⟨fun s P E R kp => by
    refine wpAny_While (codeAny_whileLoop (fun n s' => ∃ lc ow h' tk', s' = { s with heap := h', toks := tk' } ∧ Rep c.g c.L lc ow h' ∧ J n lc ow) (fun n s' hI => ?_) n ⟨lc, ow, s.heap, s.toks, rfl, R, h⟩)
    obtain ⟨lc0, ow0, h0, tk0, rfl, R0, hJ⟩ := hI
    refine (turn n lc0 ow0 hJ).run _ _ _ R0 fun b x lc1 ow1 h1 tk1 q r R1 => ?_
    subst r
    cases x with
    | true =>
      refine (q.t rfl).run _ _ _ R1 fun f y lc2 ow2 h2 tk2 q2 r2 R2 => ?_
      cases f with
      | next => cases (show y = _ from r2); obtain ⟨m, hm, hj⟩ := q2; exact ⟨m, hm, lc2, ow2, h2, tk2, rfl, R2, hj⟩
      | cont => cases (show y = _ from r2); obtain ⟨m, hm, hj⟩ := q2; exact ⟨m, hm, lc2, ow2, h2, tk2, rfl, R2, hj⟩
      | brk => cases (show y = _ from r2); exact kp .next .next _ _ _ _ q2 rfl R2
      | ret a => obtain ⟨v, rfl, ra⟩ := r2; exact kp (.ret a) _ _ _ _ _ q2 ⟨v, rfl, ra⟩ R2
    | false => exact (q.f rfl).run _ _ _ R1 fun f y lc2 ow2 h2 tk2 q2 r2 R2 => kp f y _ _ _ _ q2 r2 R2⟩
end
end

section
noncomputable abbrev rL : List AV → List Value → Prop := All2
noncomputable abbrev LX (c : Cx) (t : Sem (List Value)) (lc : LC) (ow : OW) (Q : List AV → LC → OW → Prop) : Prop := AWp c rL t lc ow Q
noncomputable def rO : Option AV → Option Value → Prop
  | none, v => v = none
  | some a, v => ∃ x, v = some x ∧ a.rep x
noncomputable abbrev OX (c : Cx) (t : Sem (Option Value)) (lc : LC) (ow : OW) (Q : Option AV → LC → OW → Prop) : Prop := AWp c rO t lc ow Q

structure Args (c : Cx) (env : Env) (pos : Pos) (es : List PySem.Expr) (lc : LC) (ow : OW) (Q : List AV → LC → OW → Prop) : Prop where
  run : LX c (spliced (backTo pos (starEach es env))) lc ow Q
structure Cal (c : Cx) (f : AV) (as : List AV) (kw : List (Str × AV)) (lc : LC) (ow : OW) (Q : AV → LC → OW → Prop) : Prop where
  run : ∀ fv vs kvs, f.rep fv → All2 as vs → kvs.map (·.1) = kw.map (·.1) → All2 (kw.map (·.2)) (kvs.map (·.2)) → EV c (call fv vs kvs) lc ow Q
structure Itr (c : Cx) (a : AV) (lc : LC) (ow : OW) (Q : Addr → LC → OW → Prop) : Prop where
  run : ∀ v, a.rep v → AWp c (fun (i : Addr) v => v = .ref i) (pyIter v) lc ow Q
structure Nxt (c : Cx) (it : Addr) (lc : LC) (ow : OW) (Q : Option AV → LC → OW → Prop) : Prop where
  run : OX c (pyNext (.ref it)) lc ow Q

section
variable {c : Cx} {lc lc' : LC} {ow ow' : OW} {env : Env}

theorem args_nil {pos} {Q : List AV → LC → OW → Prop} (h : Q [] lc ow) : Args c env pos [] lc ow Q := ⟨AWp.pure (b := []) trivial h⟩
theorem args_cons {pos e es} {Q : List AV → LC → OW → Prop} (h : EV c (eval e env) lc ow fun a lc1 ow1 => Args c env pos es lc1 ow1 fun as => Q (a :: as))
    (hs : autoParam (starEach (e :: es) env = (false, eval e env) :: starEach es env) kr0) : Args c env pos (e :: es) lc ow Q := by
  refine ⟨?_⟩
  rw [hs]
  show LX c (spliced ((false, eval e env) :: backTo pos (starEach es env))) lc ow Q
  refine ⟨fun s P E R kp => spliced_cons (h.run s _ E R fun a v lc1 ow1 h1 tk1 q ra R1 => q.run.run _ _ E R1 fun as vs lc2 ow2 h2 tk2 q2 rs R2 => kp _ _ _ _ _ _ q2 ⟨ra, rs⟩ R2)⟩

theorem ev_list {es pos} {Q} (h : Args c env pos es lc ow fun as lc1 ow1 => as.length ≤ 1000000 ∧ ∀ l, Q (.ref l) lc1 ((l, .list as) :: ow1)) : EV c (eval (.List es pos) env) lc ow Q :=
  ⟨fun s P E R kp => List_ (h.run.run s _ E R fun as vs lc1 ow1 h1 tk1 q rs R1 => by
    have hlen := rs.length
    unfold newList
    refine wpAny_newObj_type ?_ (by show vs.toArray.size ≤ sizeLine; rw [List.size_toArray, sizeLine_eq]; wtm_at "om")
    exact kp (.ref h1.objs.size) _ _ _ _ _ (q.2 h1.objs.size) rfl (R1.push (p := .list as) ⟨vs, 0, rfl, rs⟩))⟩
theorem ev_tup {es k pos} {Q} (h : Args c env pos es lc ow fun as lc1 ow1 => as.length ≤ 1000000 ∧ ∀ l, Q (.ref l) lc1 ((l, .tup as) :: ow1)) : EV c (eval (.Tuple es k pos) env) lc ow Q :=
  ⟨fun s P E R kp => Tuple_ (h.run.run s _ E R fun as vs lc1 ow1 h1 tk1 q rs R1 => by
    have hlen := rs.length
    unfold newTuple
    refine wpAny_newObj_type ?_ (by show vs.toArray.size ≤ sizeLine; rw [List.size_toArray, sizeLine_eq]; wtm_at "om")
    exact kp (.ref h1.objs.size) _ _ _ _ _ (q.2 h1.objs.size) rfl (R1.push (p := .tup as) ⟨vs, 0, rfl, rs⟩))⟩

-- the frame a call is kept by
structure Kpr (c : Cx) (fv : Value) (lc : LC) (ow : OW) : Prop where
  run : ∀ (s : Shared) (Q : Keeper → Shared → Prop) (E : Value → Shared → Prop), Rep c.g c.L lc ow s.heap → (∀ k, Q k s) → wpAny (model pw c.w) c.A (keeperOf fv) Q E s
theorem kpr_builtin {id : String} : Kpr c (.builtin id) lc ow := ⟨fun s Q E R k => wpAny_pure (k _)⟩
theorem kpr_type {id : String} : Kpr c (.type id) lc ow := ⟨fun s Q E R k => wpAny_pure (k _)⟩
theorem kpr_func {a : Addr} {o : Obj} {fd : FuncData} (h : ∀ s : Shared, Rep c.g c.L lc ow s.heap → ∃ o fd, s.heap.get? a = some o ∧ o.data = .func fd) : Kpr c (.ref a) lc ow :=
  ⟨fun s Q E R k => by
    obtain ⟨o, fd, ho, hd⟩ := h s R
    unfold keeperOf
    refine wpAny_bind (wpAny_load ho ?_)
    rw [hd]
    exact wpAny_pure (k _)⟩

theorem callWith_aw {pos : Pos} {fv : Value} {first : List Value} {args : List (Bool × Sem Value)} {kws : List (Option Str × Sem Value)} {Q} (hp : args.any (·.1) = false) (hk : kws.any (·.1.isNone) = false)
    (h : AWp c (fun (p : List AV × List (Str × AV)) (x : PySem.Args) => All2 p.1 x.pos ∧ x.kw.map (·.1) = p.2.map (·.1) ∧ All2 (p.2.map (·.2)) (x.kw.map (·.2))) (evalArgs fv true args kws) lc ow fun p lc1 ow1 =>
      Kpr c fv lc1 ow1 ∧ ∀ vs kvs, All2 p.1 vs → kvs.map (·.1) = p.2.map (·.1) → All2 (p.2.map (·.2)) (kvs.map (·.2)) → EV c (call fv (first ++ vs) kvs) lc1 ow1 Q) :
    EV c (callWith pos fv first args kws) lc ow Q := by
  refine ⟨fun s P E R kp => ?_⟩
  unfold callWith
  refine wpAny_bind (wpAny_holding (h.run s _ E R fun p x lc1 ow1 h1 tk1 q r R1 => wpAny_bind (wpAny_standAt ?_)))
  obtain ⟨kq, q⟩ := q
  rw [hp, hk]
  refine wpAny_bind (kq.run _ _ _ R1 fun k => ?_)
  have q' := (q x.pos x.kw r.1 r.2.1 r.2.2).run { s with heap := h1, toks := tk1 } (fun v s' => wpAny (model pw c.w) c.A (holding [v] point >>= fun _ => pure v) P E s') E R1 fun b v lc2 ow2 h2 tk2 q2 rb R2 => wpAny_bind (wpAny_holding (wpAny_point (wpAny_pure (kp _ _ _ _ _ _ q2 rb R2))))
  have ops : ∀ l, wpAny (model pw c.w) c.A (operate l (call fv (first ++ x.pos) x.kw)) (fun v s' => wpAny (model pw c.w) c.A (holding [v] point >>= fun _ => pure v) P E s') E { s with heap := h1, toks := tk1 } := fun l Γ p hΓ => by
    rw [Sem.wp_operate]; exact q' Γ p hΓ
  have mk : ∀ mk, wpAny (model pw c.w) c.A (callMarked mk fv (first ++ x.pos) x.kw) (fun v s' => wpAny (model pw c.w) c.A (holding [v] point >>= fun _ => pure v) P E s') E { s with heap := h1, toks := tk1 } := fun mk => by
    unfold callMarked; exact wpAny_keep q'
  cases k <;> simp only [Bool.or_false] <;> first | exact wpAny_bind q' | exact wpAny_bind (ops _) | (split <;> first | exact wpAny_bind q' | exact wpAny_bind (mk _))

/-- positional arguments -/
theorem evalArgs_aw {fv : Value} {es : List PySem.Expr} {pos : Pos} {Q} (hs : (starEach es env).any (·.1) = false) (h : Args c env pos es lc ow fun as => Q (as, [])) :
    AWp c (fun (p : List AV × List (Str × AV)) (x : PySem.Args) => All2 p.1 x.pos ∧ x.kw.map (·.1) = p.2.map (·.1) ∧ All2 (p.2.map (·.2)) (x.kw.map (·.2))) (evalArgs fv true (backTo pos (starEach es env)) []) lc ow Q := by
  refine ⟨fun s P E R kp => ?_⟩
  have hany : (backTo pos (starEach es env)).any (·.1) = false := by
    unfold backTo
    rw [List.any_map]
    exact hs
  have e : evalArgs fv true (backTo pos (starEach es env)) [] = (spliced (backTo pos (starEach es env)) >>= fun pos => holding (pos ++ []) (pure ⟨pos, []⟩)) := by
    unfold evalArgs
    cases hb : backTo pos (starEach es env) with
    | nil => rfl
    | cons x r =>
      obtain ⟨b, t⟩ := x
      rw [hb, List.any_cons] at hany
      have hb' : b = false := by cases b <;> first | rfl | cases hany
      subst hb'
      rfl
  rw [e]
  exact wpAny_bind (h.run.run s _ E R fun as vs lc1 ow1 h1 tk1 q r R1 => wpAny_holding (wpAny_pure (kp (as, []) ⟨vs, []⟩ _ _ _ _ q ⟨r, rfl, trivial⟩ R1)))

theorem any_backTo {pos : Pos} {l : List (Bool × Sem Value)} (h : l.any (·.1) = false) : (backTo pos l).any (·.1) = false := by
  unfold backTo; rw [List.any_map]; exact h
/-- a call of a name or another plain expression, positional -/
theorem ev_call {func : PySem.Expr} {es : List PySem.Expr} {pos} {Q} (h : EV c (eval func env) lc ow fun f lc1 ow1 => Args c env pos es lc1 ow1 fun as lc2 ow2 => (∀ fv, f.rep fv → Kpr c fv lc2 ow2) ∧ Cal c f as [] lc2 ow2 Q)
    (hs : autoParam ((starEach es env).any (·.1) = false) kr0)
    (he : autoParam (eval (.Call func es [] pos) env = (do callWith pos (← eval func env) [] (backTo pos (starEach es env)) [])) kr0) : EV c (eval (.Call func es [] pos) env) lc ow Q := by
  rw [he]
  refine AWp.bind (h.mono fun f lc1 ow1 q fv rf => ?_)
  refine callWith_aw (any_backTo hs) rfl (evalArgs_aw hs ⟨q.run.mono fun as lc2 ow2 q2 => ⟨q2.1 fv rf, fun vs kvs ra hk rk => ?_⟩⟩)
  cases kvs with
  | nil => exact q2.2.run fv vs [] rf ra rfl trivial
  | cons => cases hk

-- for
theorem sx_for {target iter body orelse pos} {Q : AF → LC → OW → Prop} (J : Addr → Nat → LC → OW → Prop)
    (turn : ∀ it n lc ow, J it n lc ow → Nxt c it lc ow fun r lc1 ow1 => match r with
      | none => SX c (execs orelse env) lc1 ow1 Q
      | some a => Asg c env target a lc1 ow1 fun lc2 ow2 => SX c (execs body env) lc2 ow2 (LpQ (fun lc3 ow3 => ∃ m, m < n ∧ J it m lc3 ow3) (Q .next) fun a => Q (.ret a)))
    (h : EV c (eval iter env) lc ow fun a lc1 ow1 => Itr c a lc1 ow1 fun it lc2 ow2 => ∃ n, J it n lc2 ow2)
    (hs : autoParam (∀ x, foldedSetIterable iter env x = pure x) kr1) (ht : autoParam (∀ it v, letOwnedTupleGo target it v = pure ()) kr2) : SX c (exec (.For target iter body orelse pos) env) lc ow Q :=
  ⟨fun s P E R kp => by
    refine wpAny_For (h.run s _ E R fun a v lc1 ow1 h1 tk1 q ra R1 => (q.run v ra).run _ _ E R1 fun it w lc2 ow2 h2 tk2 q2 rw R2 => ?_) hs
    subst rw
    obtain ⟨n, hJ⟩ := q2
    refine codeAny_forLoop (fun n s' => ∃ lc ow h' tk', s' = { s with heap := h', toks := tk' } ∧ Rep c.g c.L lc ow h' ∧ J it n lc ow) (fun n s' hI => ?_) n ⟨lc2, ow2, h2, tk2, rfl, R2, hJ⟩ (ht _)
    obtain ⟨lc0, ow0, h0, tk0, rfl, R0, hJ⟩ := hI
    refine (turn it n lc0 ow0 hJ).run.run _ _ _ R0 fun b x lc1 ow1 h1 tk1 q r R1 => ?_
    cases b with
    | none => cases (show x = _ from r); exact AWp.run q _ _ _ R1 fun f y lc2 ow2 h2 tk2 q2 r2 R2 => kp f y _ _ _ _ q2 r2 R2
    | some b =>
      obtain ⟨v, rfl, rb⟩ := r
      refine (Asg.run q v rb).run _ _ _ R1 fun _ _ lc2 ow2 h2 tk2 q2 _ R2 => AWp.run q2 _ _ _ R2 fun f y lc3 ow3 h3 tk3 q3 r3 R3 => ?_
      cases f with
      | next => cases (show y = _ from r3); obtain ⟨m, hm, hj⟩ := q3; exact ⟨m, hm, lc3, ow3, h3, tk3, rfl, R3, hj⟩
      | cont => cases (show y = _ from r3); obtain ⟨m, hm, hj⟩ := q3; exact ⟨m, hm, lc3, ow3, h3, tk3, rfl, R3, hj⟩
      | brk => cases (show y = _ from r3); exact kp .next .next _ _ _ _ q3 rfl R3
      | ret a => obtain ⟨v, rfl, ra⟩ := r3; exact kp (.ret a) _ _ _ _ _ q3 ⟨v, rfl, ra⟩ R3⟩

-- ranges
noncomputable abbrev rIt (x left step : Int) : AO := .obj { cls := .type "range_iterator", data := .fields #[rawInt x, rawInt left, rawInt step] }
theorem cal_range1 {n : Int} {Q} (h : ∀ r, Q (.ref r) lc ((r, .rng 0 n 1) :: ow)) : Cal c (.con (.type "range")) [.int n] [] lc ow Q := by
  refine ⟨?_⟩
  rintro _ vs kvs rfl ra hk -
  obtain ⟨v, rfl, t, rfl⟩ := al1 ra
  cases kw0 hk
  · refine ⟨fun s P E R kp => ?_⟩
    with_reducible refine call_range_1 ?_
    exact kp (.ref s.heap.objs.size) _ _ _ _ _ (h _) rfl (R.push (p := .rng 0 n 1) ⟨_, _, _, rfl⟩)
theorem itr_range {r : Addr} {a b d : Int} {Q} (hm : (r, AO.rng a b d) ∈ ow) (hsm : Builtin.Range.small a b d = true) (h : ∀ it, Q it lc ((it, rIt a (Builtin.Range.rangeSize a b d) d) :: ow)) : Itr c (.ref r) lc ow Q := by
  refine ⟨?_⟩
  rintro _ rfl
  refine ⟨fun s P E R kp => ?_⟩
  obtain ⟨o, ⟨t, u, v, rfl⟩, ho⟩ := R.get hm
  refine wpAny_pyIter_range ho hsm ?_
  exact kp s.heap.objs.size _ _ _ _ _ (h _) rfl (R.push (p := rIt a (Builtin.Range.rangeSize a b d) d) ⟨rfl, rfl⟩)
theorem nxt_range {it : Addr} {x left step : Int} {Q} (U : Upd ow it (rIt x left step) (rIt (x + step) (left - 1) step) ow') (hl : 0 < left) (h : Q (some (.int x)) lc ow') : Nxt c it lc ow Q := by
  refine ⟨⟨fun s P E R kp => ?_⟩⟩
  obtain ⟨o, ⟨rfl, _⟩, ho⟩ := R.get U.mem
  refine wpAny_pyNext_range_item ho hl fun h' hi hs => ?_
  refine kp _ _ _ _ _ _ h ⟨_, rfl, _, rfl⟩ ?_
  obtain ⟨pre, post, rfl, rfl⟩ := U.split
  obtain ⟨m, F, hl⟩ := R.fr
  have nd := R.nd
  obtain ⟨o', ro, e, nL, ng⟩ := R.own _ U.mem
  refine ⟨⟨m, F.change hs nL ng, hl⟩, fun q hq => ?_, by rw [List.map_append, List.map_cons] at nd ⊢; exact nd⟩
  rw [List.map_append, List.map_cons] at nd
  rcases List.mem_append.mp hq with hq | hq
  · obtain ⟨o', r', e', n⟩ := R.own q (List.mem_append_left _ hq)
    exact ⟨o', r', (hs.2 _ fun z => (List.nodup_append.mp nd).2.2 _ (List.mem_map_of_mem hq) _ (.head _) z).trans e', n⟩
  · rcases List.mem_cons.mp hq with rfl | hq
    · exact ⟨_, ⟨rfl, rfl⟩, hi, nL, ng⟩
    · obtain ⟨o', r', e', n⟩ := R.own q (List.mem_append_right _ (.tail _ hq))
      exact ⟨o', r', (hs.2 _ fun z => (List.nodup_cons.mp (List.nodup_append.mp nd).2.1).1 (List.mem_map.mpr ⟨q, hq, z⟩)).trans e', n⟩
theorem nxt_range_end {it : Addr} {x left step : Int} {Q} (hh : c.A.handled = none) (T : Take (it, rIt x left step) ow ow') (hl : left ≤ 0) (h : Q none lc ow') : Nxt c it lc ow Q := by
  refine ⟨⟨fun s P E R kp => ?_⟩⟩
  have hm : (it, rIt x left step) ∈ ow := T.perm.mem_iff.mpr (.head _)
  obtain ⟨o, ⟨rfl, _⟩, ho⟩ := R.get hm
  refine wpAny_pyNext_range_end hh ho hl fun h' he => ?_
  refine kp _ _ _ _ _ _ h rfl ?_
  obtain ⟨m, F, hl⟩ := R.fr
  have nd := (T.perm.map (·.1)).nodup_iff.mp R.nd
  rw [List.map_cons, List.nodup_cons] at nd
  obtain ⟨o', ro, e, nL, ng⟩ := R.own _ hm
  refine ⟨⟨m, ⟨F.ns.extBut he (Ne.symm nL), fun b o e => he b o (fun z => ?_) (F.keep b o e), F.above⟩, hl⟩, fun q hq => ?_, nd.2⟩
  · rw [z, ng] at e; cases e
  · obtain ⟨o', r', e', n⟩ := R.own q (T.perm.mem_iff.mpr (.tail _ hq))
    exact ⟨o', r', he _ _ (fun z => nd.1 (List.mem_map.mpr ⟨q, hq, z⟩)) e', n⟩
end
end

section
theorem Rep.news {g h : Heap} {L : Addr} {lc : LC} {ow : OW} (R : Rep g L lc ow h) : ∃ news, News g L h news ∧ ∀ p ∈ ow, ∃ o, p.2.rep o ∧ (p.1, o) ∈ news := by
  have own := R.own
  clear R
  induction ow with
  | nil => exact ⟨[], fun _ hp => (nomatch hp), fun _ hp => (nomatch hp)⟩
  | cons p r ih =>
    obtain ⟨news, N, h1⟩ := ih fun q hq => own q (.tail _ hq)
    obtain ⟨o, ro, e, n⟩ := own p (.head _)
    refine ⟨(p.1, o) :: news, fun q hq => ?_, fun q hq => ?_⟩
    · rcases List.mem_cons.mp hq with rfl | hq
      · exact ⟨e, n⟩
      · exact N q hq
    · rcases List.mem_cons.mp hq with rfl | hq
      · exact ⟨o, ro, .head _⟩
      · obtain ⟨o', r', m'⟩ := h1 q hq; exact ⟨o', r', .tail _ m'⟩
theorem Rep.ofNews {g h : Heap} {L : Addr} {lc : LC} {ow : OW} {news : List (Addr × Obj)} {m : Str → Option Value} (F : Fr g L h m) (hl : LRel lc m) (N : News g L h news) (nd : (ow.map (·.1)).Nodup)
    (k : ∀ p ∈ ow, ∃ o, p.2.rep o ∧ (p.1, o) ∈ news) : Rep g L lc ow h :=
  ⟨⟨m, F, hl⟩, fun p hp => let ⟨o, ro, hm⟩ := k p hp; ⟨o, ro, N _ hm⟩, nd⟩

structure Act (K : Frag) (c : Cx) (n : Nat) (env : Env) : Prop where
  below : ∃ A₀ base outer, Below A₀ base outer c.g ∧ c.A.frames = some (env :: outer)
  frame : env.frame = some c.L
  kind : env.scope.kind = .function
  X : K.In c.g
  T : ∃ p loose mean mg mb, Top p loose mean mg mb c.g
  depth : c.A.depth + n ≤ 900
  units : c.A.units + 20 * n ≤ 9000

theorem Act.less {K : Frag} {c : Cx} {n m : Nat} {env : Env} (A : Act K c n env) (h : m ≤ n) : Act K c m env :=
  ⟨A.below, A.frame, A.kind, A.X, A.T, by have := A.depth; wtm_at "om", by have := A.units; wtm_at "om"⟩

noncomputable def fName : Stmt → Str | .FunctionDef n .. => n | _ => Str.ofString ""
def fArgs : Stmt → Arguments | .FunctionDef _ a .. => a | _ => ⟨[], [], none, [], [], none, []⟩
def fBody : Stmt → List Stmt | .FunctionDef _ _ b .. => b | _ => []
def fScope : Stmt → Scope | .FunctionDef _ _ _ _ _ _ s .. => s | _ => { kind := .function, names := [], isGenerator := false, isCoroutine := false }
def stAt (i : Nat) : Stmt := (PySem.Challenge.pw_tx0028_01.main.body[i]?).getD (.Pass ⟨0, 0, 0, 0⟩)

noncomputable def FnK (K : Frag) (f cd : Addr) (qual : Str) (st : Stmt) (dV kV : Value) : Prop :=
  ∃ oc od osl doc pm an ct, K.lookup f = some ⟨oc, od, .func (fnX (fName st) qual (fArgs st) (fBody st) (fScope st) [] dV kV doc pm an (.ref cd) ct), osl⟩ ∧ codeIn K (.ref cd) qual = true

theorem zip_lookup {names : List Str} : names.Nodup → ∀ {as : List AV} {vs : List Value}, All2 as vs → ∀ x a, lget (names.zip as) x = some a → ∃ v, (names.zip vs).lookup x = some v ∧ a.rep v := by
  induction names with
  | nil => intro _ as vs _ x a h; cases h
  | cons n r ih =>
    intro nd as vs h2 x a h
    cases as with
    | nil => cases h
    | cons b as =>
      cases vs with
      | nil => exact h2.elim
      | cons v vs =>
        rw [List.zip_cons_cons] at h ⊢
        simp only [lget] at h
        rw [List.lookup_cons]
        by_cases e : n = x
        · subst e
          rw [if_pos rfl] at h
          cases h
          simp only [beq_self_eq_true]
          exact ⟨v, rfl, h2.1⟩
        · rw [if_neg e] at h
          have e' : (x == n) = false := beq_eq_false_iff_ne.mpr fun z => e z.symm
          rw [e']
          exact ih (List.nodup_cons.mp nd).2 h2.2 x a h
theorem lookup_perm {l l' : List (Str × Value)} (p : l.Perm l') (nd : (l.map (·.1)).Nodup) (x : Str) : l.lookup x = l'.lookup x := by
  induction p with
  | nil => rfl
  | cons y _ ih => rw [List.lookup_cons, List.lookup_cons, ih (List.nodup_cons.mp nd).2]
  | swap y z l =>
    obtain ⟨y1, y2⟩ := y
    obtain ⟨z1, z2⟩ := z
    simp only [List.lookup_cons]
    simp only [List.map_cons, List.nodup_cons, List.mem_cons, not_or] at nd
    by_cases e1 : x = y1
    · subst e1
      have : (x == z1) = false := beq_eq_false_iff_ne.mpr fun z => nd.1.1 z.symm
      simp [this]
    · have : (x == y1) = false := beq_eq_false_iff_ne.mpr e1
      simp [this]
  | trans p q ih1 ih2 => exact (ih1 nd).trans (ih2 ((p.map (·.1)).nodup_iff.mp nd))
theorem zip_fst {names : List Str} : ∀ {vs : List Value}, names.length = vs.length → (names.zip vs).map (·.1) = names := by
  induction names with
  | nil => intro vs _; rfl
  | cons n r ih =>
    intro vs h
    cases vs with
    | nil => cases h
    | cons v vs => rw [List.zip_cons_cons, List.map_cons, ih (by simpa using h)]

section
variable {K : Frag} {c : Cx} {lc lc' : LC} {ow ow' : OW} {env : Env} {n : Nat}
noncomputable def retQ (Q : AV → LC → OW → Prop) (lc : LC) : AF → LC → OW → Prop
  | .ret a, _, ow' => Q a lc ow'
  | _, _, ow' => Q .none lc ow'

structure CalC (c : Cx) (f : AV) (as : List AV) (kw : List (Str × AV)) (lc : LC) (ow : OW) (Q : AV → LC → OW → Prop) : Prop where
  run : ∀ fv vs kvs, f.rep fv → All2 as vs → kvs.map (·.1) = kw.map (·.1) → All2 (kw.map (·.2)) (kvs.map (·.2)) → ∀ (s : Shared) (P : Value → Shared → Prop) (E : Value → Shared → Prop), Rep c.g c.L lc ow s.heap →
    (∀ (b : AV) (x : Value) lc' ow' h' tk', Q b lc' ow' → b.rep x → Rep c.g c.L lc' ow' h' → P x { s with heap := h', toks := tk' }) →
    codeAny (model pw c.w) c.A (.call fv ⟨vs, kvs⟩) (fun r s' => match r with | .ok (.ret v) => P v s' | .ok _ => False | .error e => E e s') s
theorem CalC.cal {f : AV} {as : List AV} {kw : List (Str × AV)} {Q} (h : CalC c f as kw lc ow Q) : Cal c f as kw lc ow Q :=
  ⟨fun fv vs kvs a b d e => ⟨fun s P E R kp => wpAny_call (h.run fv vs kvs a b d e s P E R kp)⟩⟩
/-- a def of the text's, called -/
theorem calC_fn {f cd : Addr} {qual : Str} {st : Stmt} {dV kV : Value} {as : List AV} {kw : List (Str × AV)} {bs : List AV} {names : List Str} {Q} (A : Act K c (n + 1) env) (F : FnK K f cd qual st dV kV)
    (hbind : ∀ vs kvs, All2 as vs → kvs.map (·.1) = kw.map (·.1) → All2 (kw.map (·.2)) (kvs.map (·.2)) → ∃ us, All2 bs us ∧ ∀ (s : Shared) doc pm an ct, K.In s.heap → BindsTo s (fnX (fName st) qual (fArgs st) (fBody st) (fScope st) [] dV kV doc pm an (.ref cd) ct) ⟨vs, kvs⟩ (names.zip us))
    (hn : names.length = bs.length) (hnd : names.Nodup) (hloc : ∀ x ∈ names, (fScope st).names.lookup x = some .local)
    (hcell : ∀ x ∈ (fScope st).names, x.2 ≠ .cell) (hco : (fScope st).isCoroutine = false) (hgen : (fScope st).isGenerator = false) (hk : (fScope st).kind = .function)
    (h : ∀ c' : Cx, c'.w = c.w → c'.A.handled = c.A.handled → Act K c' n (envX qual (fScope st) c'.L f (.ref cd) []) →
      SX c' (execs (fBody st) (envX qual (fScope st) c'.L f (.ref cd) [])) (names.zip bs) ow (retQ Q lc)) : CalC c (.con (.ref f)) as kw lc ow Q := by
  refine ⟨?_⟩
  rintro _ vs kvs rfl ra hkn rk s P E R kp
  obtain ⟨us, rb, hb⟩ := hbind vs kvs ra hkn rk
  obtain ⟨oc, od, osl, doc, pm, an, ct, hK, hcd⟩ := F
  obtain ⟨A₀, base, outer, B, hfr⟩ := A.below
  obtain ⟨p, loose, mean, mg, mb, T⟩ := A.T
  obtain ⟨m, Fm, hl⟩ := R.fr
  obtain ⟨news, N, hnews⟩ := R.news
  have X := A.X.keeps Fm.keep
  have hlen : names.length = us.length := hn.trans rb.length
  have hdep := A.depth
  have hun := A.units
  refine (callX_plain (cl := []) B Fm N T.nolimit hfr A.frame A.kind (X _ _ hK) rfl (codeRec_of X hcd) (by unfold recursionLimit; wtm_at "om") (hb s doc pm an ct X)
    (fun y hy => hloc y.1 (by rw [← zip_fst hlen]; exact List.mem_map_of_mem hy)) (fun g L' h₁ FG F' N' B' st' lt => ?_) hcell hco hgen hk)
  have A' : Act K ⟨c.w, g, L', c.A.deeper (envX qual (fScope st) L' f (.ref cd) [])⟩ n (envX qual (fScope st) L' f (.ref cd) []) :=
    ⟨⟨c.A, base, env :: outer, B', Around.frames_deeper hfr⟩, rfl, hk, A.X.keeps st', ⟨p, loose, mean, mg, mb, T.keeps st'⟩, by show c.A.depth + 1 + n ≤ 900; wtm_at "om", by show c.A.units + 3 + 20 * n ≤ 9000; wtm_at "om"⟩
  have R' : Rep g L' (names.zip bs) ow h₁ := by
    refine Rep.ofNews F' (fun x a e => ?_) N' R.nd hnews
    obtain ⟨v, e', r⟩ := zip_lookup hnd rb x a e
    exact ⟨v, by rw [← lookup_perm (List.reverse_perm _).symm (by rw [zip_fst hlen]; exact hnd)]; exact e', r⟩
  refine (h ⟨c.w, g, L', c.A.deeper (envX qual (fScope st) L' f (.ref cd) [])⟩ rfl rfl A').run _ _ _ R' fun fl x lc1 ow1 h2 tk2 q r R2 => ?_
  obtain ⟨m', F2, _⟩ := R2.fr
  obtain ⟨news', N2, hnews'⟩ := R2.news
  refine leaveK_ F2 N2 fun F3 N3 => ?_
  have R3 : Rep c.g c.L lc ow1 h2 := Rep.ofNews F3 hl N3 R2.nd hnews'
  cases fl with
  | ret a => obtain ⟨v, rfl, rv⟩ := r; exact kp _ _ _ _ _ _ q rv R3
  | next => cases (show x = _ from r); exact kp .none _ _ _ _ _ q rfl R3
  | brk => cases (show x = _ from r); exact kp .none _ _ _ _ _ q rfl R3
  | cont => cases (show x = _ from r); exact kp .none _ _ _ _ _ q rfl R3

theorem cal_fn {f cd : Addr} {qual : Str} {st : Stmt} {dV kV : Value} {as : List AV} {kw : List (Str × AV)} {bs : List AV} {names : List Str} {Q} (A : Act K c (n + 1) env) (F : FnK K f cd qual st dV kV)
    (hbind : ∀ vs kvs, All2 as vs → kvs.map (·.1) = kw.map (·.1) → All2 (kw.map (·.2)) (kvs.map (·.2)) → ∃ us, All2 bs us ∧ ∀ (s : Shared) doc pm an ct, K.In s.heap → BindsTo s (fnX (fName st) qual (fArgs st) (fBody st) (fScope st) [] dV kV doc pm an (.ref cd) ct) ⟨vs, kvs⟩ (names.zip us))
    (hn : names.length = bs.length) (hnd : names.Nodup) (hloc : ∀ x ∈ names, (fScope st).names.lookup x = some .local)
    (hcell : ∀ x ∈ (fScope st).names, x.2 ≠ .cell) (hco : (fScope st).isCoroutine = false) (hgen : (fScope st).isGenerator = false) (hk : (fScope st).kind = .function)
    (h : ∀ c' : Cx, c'.w = c.w → c'.A.handled = c.A.handled → Act K c' n (envX qual (fScope st) c'.L f (.ref cd) []) →
      SX c' (execs (fBody st) (envX qual (fScope st) c'.L f (.ref cd) [])) (names.zip bs) ow (retQ Q lc)) : Cal c (.con (.ref f)) as kw lc ow Q :=
  (calC_fn A F hbind hn hnd hloc hcell hco hgen hk h).cal

theorem kpr_fn {f cd : Addr} {qual : Str} {st : Stmt} {dV kV : Value} (A : Act K c n env) (F : FnK K f cd qual st dV kV) : ∀ fv, AV.rep (.con (.ref f)) fv → Kpr c fv lc ow := by
  rintro _ rfl
  refine kpr_func (o := default) (fd := default) fun s R => ?_
  obtain ⟨oc, od, osl, doc, pm, an, ct, hK, hcd⟩ := F
  exact ⟨_, _, R.keep (A.X _ _ hK), rfl⟩

/-- a name of the module's -/
theorem ld_global {x : Str} {a : AV} {v : Value} {Q} (A : Act K c n env) {env' : Env} (e : nsIn K mainGlobals x = some (some v)) (ra : a.rep v) (h : Q a lc ow)
    (hk : autoParam (env'.scope.kind = .function) kr0) (hx : autoParam (env'.kindOf x = some .globalImplicit) kr0) (hg : autoParam (env'.globals = mainGlobals) kr0) (hd : autoParam ((x == ("__debug__" : Str)) = false) kr0) {pos : Pos} : EV c (eval (.Name x pos) env') lc ow Q :=
  ⟨fun s P E R kp => by
    obtain ⟨p, loose, mean, mg, mb, T⟩ := A.T
    obtain ⟨m, F, _⟩ := R.fr
    have hns : s.heap.Ns env'.globals mg := by rw [hg]; exact T.g.keeps F.keep
    refine Name_function_global hk hx (loadGlobal_global hns (mg_of A.X T.g e) ?_) hd
    exact kp _ _ _ _ s.heap s.toks h ra R⟩
theorem ld_builtin {x : Str} {a : AV} {v : Value} {Q} (A : Act K c n env) {env' : Env} (e : nsIn K mainGlobals x = some none) (hv : bootBuiltins x = some v) (ra : a.rep v) (h : Q a lc ow)
    (hn : x ≠ "__name__" := by decide +kernel)
    (hk : autoParam (env'.scope.kind = .function) kr0) (hx : autoParam (env'.kindOf x = some .globalImplicit) kr0) (hg : autoParam (env'.globals = mainGlobals) kr0) (hb : autoParam (env'.builtins = builtinsNs) kr0) (hd : autoParam ((x == ("__debug__" : Str)) = false) kr0) {pos : Pos} : EV c (eval (.Name x pos) env') lc ow Q :=
  ⟨fun s P E R kp => by
    obtain ⟨p, loose, mean, mg, mb, T⟩ := A.T
    obtain ⟨m, F, _⟩ := R.fr
    have hns : s.heap.Ns env'.globals mg := by rw [hg]; exact T.g.keeps F.keep
    have hbs : s.heap.Ns env'.builtins mb := by rw [hb]; exact T.b.keeps F.keep
    refine Name_function_global hk hx (loadGlobal_builtin hns (mg_none_of A.X T.g e) hbs ((T.builtins x hn).trans hv) ?_) hd
    exact kp _ _ _ _ s.heap s.toks h ra R⟩
end
end

section
noncomputable abbrev bsNames : List Str := ["a", "x", "lo", "hi", "key"]
noncomputable def bodyOfCls : Stmt → List Stmt
  | .ClassDef _ _ _ b .. => b
  | _ => []
/-- the class's k-th def -/
noncomputable def meAt (k : Nat) : Stmt := (bodyOfCls (stAt 13))[k]?.getD (.Pass ⟨0, 0, 0, 0⟩)
/-- how a def with «lo=0, hi=None, *, key=None» takes its arguments -/
structure BsK (K : Frag) (qual : Str) (i : Nat) (cd : Addr) (dV kV : Value) : Prop where
  k2 : ∀ a x q : Value, ∃ us, All2 [.con a, .con x, .int 0, .none, .con q] us ∧ ∀ doc pm an ct S, peek K S (bindArgs (fnX (fName (stAt i)) qual (fArgs (stAt i)) (fBody (stAt i)) (fScope (stAt i)) [] dV kV doc pm an (.ref cd) ct) ⟨[a, x], [("key", q)]⟩) = some (bsNames.zip us)
  k3 : ∀ a x l q : Value, ∃ us, All2 [.con a, .con x, .con l, .none, .con q] us ∧ ∀ doc pm an ct S, peek K S (bindArgs (fnX (fName (stAt i)) qual (fArgs (stAt i)) (fBody (stAt i)) (fScope (stAt i)) [] dV kV doc pm an (.ref cd) ct) ⟨[a, x, l], [("key", q)]⟩) = some (bsNames.zip us)
  k4 : ∀ a x l h q : Value, ∃ us, All2 [.con a, .con x, .con l, .con h, .con q] us ∧ ∀ doc pm an ct S, peek K S (bindArgs (fnX (fName (stAt i)) qual (fArgs (stAt i)) (fBody (stAt i)) (fScope (stAt i)) [] dV kV doc pm an (.ref cd) ct) ⟨[a, x, l, h], [("key", q)]⟩) = some (bsNames.zip us)
  p3 : ∀ a x l : Value, ∃ us, All2 [.con a, .con x, .con l, .none, .none] us ∧ ∀ doc pm an ct S, peek K S (bindArgs (fnX (fName (stAt i)) qual (fArgs (stAt i)) (fBody (stAt i)) (fScope (stAt i)) [] dV kV doc pm an (.ref cd) ct) ⟨[a, x, l], []⟩) = some (bsNames.zip us)
/-- a method's place in the class -/
structure MeK (K : Frag) (name : Str) (f : Addr) : Prop where
  find : findIn K (.ref 121) name = some (some (.ref f))
  isFn : PySem.W.isFn K (.ref f) = true
  get : specialIn K (.ref f) "__get__" = some (some (.builtin "function.__get__"))
  takes : takesIn K (.ref f) = some false
  type : typeIn K (.ref f) = some (.type "function")
/-- what the head's table says of the text's names, proved of it at the join -/
structure KOk (K : Frag) : Prop where
  range : nsIn K mainGlobals "range" = some none
  len : nsIn K mainGlobals "len" = some none
  min : nsIn K mainGlobals "min" = some none
  sum : nsIn K mainGlobals "sum" = some none
  list : nsIn K mainGlobals "list" = some none
  iter : nsIn K mainGlobals "iter" = some none
  sorted : nsIn K mainGlobals "sorted" = some none
  reversed : nsIn K mainGlobals "reversed" = some none
  enumerate : nsIn K mainGlobals "enumerate" = some none
  divmod : nsIn K mainGlobals "divmod" = some none
  valueError : nsIn K mainGlobals "ValueError" = some none
  zeroDiv : nsIn K mainGlobals "ZeroDivisionError" = some none
  caseCost : ∃ t, nsIn K mainGlobals "_CASE_COST" = some (some (.int 1 t))
  moveCost : ∃ t, nsIn K mainGlobals "_MOVE_COST" = some (some (.int 2 t))
  maxString : ∃ t, nsIn K mainGlobals "_MAX_STRING_SIZE" = some (some (.int 40 t))
  divLimit : ∃ t, nsIn K mainGlobals "_DIV_LIMIT" = some (some (.int 4000 t))
  g21 : nsIn K mainGlobals "_div2n1n" = some (some (.ref 21))
  g28 : nsIn K mainGlobals "_div3n2n" = some (some (.ref 28))
  g35 : nsIn K mainGlobals "_int2digits" = some (some (.ref 35))
  g42 : nsIn K mainGlobals "_digits2int" = some (some (.ref 42))
  g49 : nsIn K mainGlobals "_divmod_pos" = some (some (.ref 49))
  g56 : nsIn K mainGlobals "int_divmod" = some (some (.ref 56))
  g65 : nsIn K mainGlobals "insort_right" = some (some (.ref 65))
  g74 : nsIn K mainGlobals "bisect_right" = some (some (.ref 74))
  g83 : nsIn K mainGlobals "bisect_left" = some (some (.ref 83))
  g121 : nsIn K mainGlobals "_netrclex" = some (some (.ref 121))
  g132 : nsIn K mainGlobals "_substitution_cost" = some (some (.ref 132))
  g139 : nsIn K mainGlobals "_levenshtein_distance" = some (some (.ref 139))
  g146 : nsIn K mainGlobals "_law_lexer" = some (some (.ref 146))
  g151 : nsIn K mainGlobals "_law_family" = some (some (.ref 151))
  g158 : nsIn K mainGlobals "_law_hidden" = some (some (.ref 158))
  g163 : nsIn K mainGlobals "_law_words" = some (some (.ref 163))
  g170 : nsIn K mainGlobals "_law_far" = some (some (.ref 170))
  g177 : nsIn K mainGlobals "_law_counts" = some (some (.ref 177))
  g182 : nsIn K mainGlobals "_law_told" = some (some (.ref 182))
  g187 : nsIn K mainGlobals "_law_turned" = some (some (.ref 187))
  div2 : FnK K 21 20 "_div2n1n" (stAt 2) .none .none
  div3 : FnK K 28 27 "_div3n2n" (stAt 3) .none .none
  i2d : FnK K 35 34 "_int2digits" (stAt 4) .none .none
  d2i : FnK K 42 41 "_digits2int" (stAt 5) .none .none
  dmp : FnK K 49 48 "_divmod_pos" (stAt 6) .none .none
  idm : FnK K 56 55 "int_divmod" (stAt 7) .none .none
  insr : FnK K 65 64 "insort_right" (stAt 9) (.ref 57) (.ref 58)
  bisr : FnK K 74 73 "bisect_right" (stAt 10) (.ref 66) (.ref 67)
  bisl : FnK K 83 82 "bisect_left" (stAt 11) (.ref 75) (.ref 76)
  insrB : BsK K "insort_right" 9 64 (.ref 57) (.ref 58)
  bisrB : BsK K "bisect_right" 10 73 (.ref 66) (.ref 67)
  bislB : BsK K "bisect_left" 11 82 (.ref 75) (.ref 76)
  subst : FnK K 132 131 "_substitution_cost" (stAt 18) .none .none
  lev : FnK K 139 138 "_levenshtein_distance" (stAt 19) .none .none
  lexer : FnK K 146 145 "_law_lexer" (stAt 21) .none .none
  family : FnK K 151 150 "_law_family" (stAt 22) .none .none
  hidden : FnK K 158 157 "_law_hidden" (stAt 23) .none .none
  words : FnK K 163 162 "_law_words" (stAt 24) .none .none
  far : FnK K 170 169 "_law_far" (stAt 25) .none .none
  counts : FnK K 177 176 "_law_counts" (stAt 26) .none .none
  told : FnK K 182 181 "_law_told" (stAt 27) .none .none
  turned : FnK K 187 186 "_law_turned" (stAt 28) .none .none
  c34 : codeHdIn K 34 30 = true
  c41 : codeHdIn K 41 37 = true
  c176 : codeHdIn K 176 172 = true
  c145 : codeHdIn K 145 141 = true
  cls_keep : keepIn K (.ref 121) = true
  cls_makes : makesIn K 121 = true
  cls_dict : hasDictIn K 121 = true
  cls_set : findIn K (.ref 121) "__setattr__" = some (some (.builtin "object.__setattr__"))
  cls_over : plainOver K 121 = true
  g_lineno : plainGet K 121 "lineno" = true
  g_instream : plainGet K 121 "instream" = true
  g_whitespace : plainGet K 121 "whitespace" = true
  g_pushback : plainGet K 121 "pushback" = true
  g_read : plainGet K 121 "_read_char" = true
  g_token : plainGet K 121 "get_token" = true
  g_push : plainGet K 121 "push_token" = true
  f_lineno : findIn K (.ref 121) "lineno" = some none
  f_instream : findIn K (.ref 121) "instream" = some none
  f_whitespace : findIn K (.ref 121) "whitespace" = some none
  f_pushback : findIn K (.ref 121) "pushback" = some none
  t_lineno : takerIn K 121 "lineno" = some none
  t_instream : takerIn K 121 "instream" = some none
  t_whitespace : takerIn K 121 "whitespace" = some none
  t_pushback : takerIn K 121 "pushback" = some none
  m_init : MeK K "__init__" 97
  m_read : MeK K "_read_char" 104
  m_token : MeK K "get_token" 111
  m_push : MeK K "push_token" 118
  init : FnK K 97 96 "_netrclex.__init__" (meAt 0) .none .none
  readc : FnK K 104 103 "_netrclex._read_char" (meAt 1) .none .none
  token : FnK K 111 110 "_netrclex.get_token" (meAt 2) .none .none
  pusht : FnK K 118 117 "_netrclex.push_token" (meAt 3) .none .none
end

section
/-- a def's object, as the head leaves it -/
noncomputable abbrev kF (qual : Str) (st : Stmt) (dV kV pm cd : Value) : Obj := ⟨.type "function", none, .func (fnX (fName st) qual (fArgs st) (fBody st) (fScope st) [] dV kV .none pm none cd .none), #[]⟩
/-- a def's code object -/
noncomputable abbrev kC (name qual : Str) (n1 n2 n3 : Nat) (line args kwo fl : Int) (r1 : Addr) (b : Value) (z : Int) (r2 : Addr) (m v1 v2 : Value) (r5 : Addr) (u : Int) (n4 : Nat) : Obj :=
  ⟨.type "code", none, .fields #[.str name n1, .str qual n2, .str "/claim/cut.py" n3, .int line 0, .int args 0, .int 0 0, .int kwo 0, .int fl 0, .ref r1, b, .int z 0, .ref r2, m, v1, v2, .ref r5, .int u 0, .int line 0, .str "/claim/cut.py" n4], #[]⟩
noncomputable abbrev kE (P : Params) (x : Str) (t : Nat) (v : Value) : DictEntry := ⟨PyData.keyHash P x, .str x t, v⟩
/-- the part of the head's end heap that the law's walk reads -/
noncomputable def KT : Params → Frag := fun P =>
  (nat_lit 2, ⟨.none, none, .dict #[] 0, #[]⟩) ::
  (nat_lit 3, ⟨(.type "dict"), none, .dict #[kE P "__name__" 165 (.str "law_tx0028_01" 408), kE P "__doc__" 166 .none, kE P "__package__" 167 .none, kE P "__loader__" 168 (.builtin "__main__.__loader__#opaque"), kE P "__spec__" 169 .none, kE P "__annotations__" 170 (.ref 6), kE P "__builtins__" 171 (.ref 4), kE P "__file__" 173 (.str "/claim/cut.py" 172), kE P "__cached__" 174 .none, kE P "_DIV_LIMIT" 190 (.int 4000 189), kE P "_div2n1n" 207 (.ref 21), kE P "_div3n2n" 221 (.ref 28), kE P "_int2digits" 232 (.ref 35), kE P "_digits2int" 243 (.ref 42), kE P "_divmod_pos" 258 (.ref 49), kE P "int_divmod" 268 (.ref 56), kE P "insort_right" 283 (.ref 65), kE P "bisect_right" 297 (.ref 74), kE P "bisect_left" 311 (.ref 83), kE P "_netrclex" 371 (.ref 121), kE P "_MAX_STRING_SIZE" 375 (.int 40 374), kE P "_MOVE_COST" 377 (.int 2 376), kE P "_CASE_COST" 379 (.int 1 378), kE P "_substitution_cost" 387 (.ref 132), kE P "_levenshtein_distance" 407 (.ref 139), kE P "_law_lexer" 419 (.ref 146), kE P "_law_family" 425 (.ref 151), kE P "_law_hidden" 434 (.ref 158), kE P "_law_words" 440 (.ref 163), kE P "_law_far" 451 (.ref 170), kE P "_law_counts" 468 (.ref 177), kE P "_law_told" 474 (.ref 182), kE P "_law_turned" 480 (.ref 187), kE P "law" 486 (.ref 192)] 34, #[]⟩) ::
  (nat_lit 20, kC "_div2n1n" "_div2n1n" 191 192 193 3 3 0 3 15 (.bool true) 181 16 .none (.ref 17) (.ref 18) 19 205 206) ::
  (nat_lit 21, kF "_div2n1n" (stAt 2) .none .none (.str "cpy313._pylong" 187) (.ref 20)) ::
  (nat_lit 27, kC "_div3n2n" "_div3n2n" 208 209 210 19 6 0 3 22 (.bool true) 181 23 .none (.ref 24) (.ref 25) 26 219 220) ::
  (nat_lit 28, kF "_div3n2n" (stAt 3) .none .none (.str "cpy313._pylong" 187) (.ref 27)) ::
  (nat_lit 34, kC "_int2digits" "_int2digits" 222 223 224 29 2 0 3 29 (.bool true) 181 30 .none (.ref 31) (.ref 32) 33 230 231) ::
  (nat_lit 35, kF "_int2digits" (stAt 4) .none .none (.str "cpy313._pylong" 187) (.ref 34)) ::
  (nat_lit 41, kC "_digits2int" "_digits2int" 233 234 235 45 2 0 3 36 (.bool true) 181 37 .none (.ref 38) (.ref 39) 40 241 242) ::
  (nat_lit 42, kF "_digits2int" (stAt 5) .none .none (.str "cpy313._pylong" 187) (.ref 41)) ::
  (nat_lit 48, kC "_divmod_pos" "_divmod_pos" 244 245 246 54 2 0 3 43 (.bool true) 181 44 .none (.ref 45) (.ref 46) 47 256 257) ::
  (nat_lit 49, kF "_divmod_pos" (stAt 6) .none .none (.str "cpy313._pylong" 187) (.ref 48)) ::
  (nat_lit 55, kC "int_divmod" "int_divmod" 259 260 261 65 2 0 3 50 (.bool true) 181 51 .none (.ref 52) (.ref 53) 54 266 267) ::
  (nat_lit 56, kF "int_divmod" (stAt 7) .none .none (.str "cpy313._pylong" 187) (.ref 55)) ::
  (nat_lit 57, ⟨(.type "tuple"), none, .seq #[(.int 0 271), .none] 0, #[]⟩) ::
  (nat_lit 58, ⟨(.type "dict"), none, .dict #[kE P "key" 272 .none] 1, #[]⟩) ::
  (nat_lit 64, kC "insort_right" "insort_right" 273 274 275 77 4 1 3 59 (.bool true) 181 60 .none (.ref 61) (.ref 62) 63 281 282) ::
  (nat_lit 65, kF "insort_right" (stAt 9) (.ref 57) (.ref 58) (.str "cpy313.bisect" 269) (.ref 64)) ::
  (nat_lit 66, ⟨(.type "tuple"), none, .seq #[(.int 0 284), .none] 0, #[]⟩) ::
  (nat_lit 67, ⟨(.type "dict"), none, .dict #[kE P "key" 285 .none] 1, #[]⟩) ::
  (nat_lit 73, kC "bisect_right" "bisect_right" 286 287 288 83 4 1 3 68 (.bool true) 181 69 .none (.ref 70) (.ref 71) 72 295 296) ::
  (nat_lit 74, kF "bisect_right" (stAt 10) (.ref 66) (.ref 67) (.str "cpy313.bisect" 269) (.ref 73)) ::
  (nat_lit 75, ⟨(.type "tuple"), none, .seq #[(.int 0 298), .none] 0, #[]⟩) ::
  (nat_lit 76, ⟨(.type "dict"), none, .dict #[kE P "key" 299 .none] 1, #[]⟩) ::
  (nat_lit 82, kC "bisect_left" "bisect_left" 300 301 302 103 4 1 3 77 (.bool true) 181 78 .none (.ref 79) (.ref 80) 81 309 310) ::
  (nat_lit 83, kF "bisect_left" (stAt 11) (.ref 75) (.ref 76) (.str "cpy313.bisect" 269) (.ref 82)) ::
  (nat_lit 96, kC "__init__" "_netrclex.__init__" 326 327 328 126 2 0 3 91 (.bool true) 181 92 .none (.ref 93) (.ref 94) 95 331 332) ::
  (nat_lit 97, kF "_netrclex.__init__" (meAt 0) .none .none (.str "cpy313.netrc" 312) (.ref 96)) ::
  (nat_lit 103, kC "_read_char" "_netrclex._read_char" 334 335 336 132 1 0 3 98 (.bool true) 181 99 .none (.ref 100) (.ref 101) 102 339 340) ::
  (nat_lit 104, kF "_netrclex._read_char" (meAt 1) .none .none (.str "cpy313.netrc" 312) (.ref 103)) ::
  (nat_lit 110, kC "get_token" "_netrclex.get_token" 342 343 344 138 1 0 3 105 (.bool true) 181 106 .none (.ref 107) (.ref 108) 109 349 350) ::
  (nat_lit 111, kF "_netrclex.get_token" (meAt 2) .none .none (.str "cpy313.netrc" 312) (.ref 110)) ::
  (nat_lit 117, kC "push_token" "_netrclex.push_token" 352 353 354 165 2 0 3 112 (.bool true) 181 113 .none (.ref 114) (.ref 115) 116 357 358) ::
  (nat_lit 118, kF "_netrclex.push_token" (meAt 3) .none .none (.str "cpy313.netrc" 312) (.ref 117)) ::
  (nat_lit 120, ⟨(.type "dict"), none, .dict #[kE P "__module__" 321 (.str "cpy313.netrc" 312), kE P "__firstlineno__" 325 (.int 124 324), kE P "__init__" 333 (.ref 97), kE P "_read_char" 341 (.ref 104), kE P "get_token" 351 (.ref 111), kE P "push_token" 359 (.ref 118), kE P "__static_attributes__" 364 (.ref 119), kE P "__dict__" 366 (.ref 122), kE P "__weakref__" 368 (.ref 123), kE P "__doc__" 369 .none] 4, #[]⟩) ::
  (nat_lit 121, ⟨.type "type", none, .cls { name := "_netrclex", bases := [.type "object"], mro := [.ref 121, .type "object"], ns := 120, qualname := "_netrclex" }, #[none, none, some (.str "_netrclex" 314), some (.str "_netrclex" 322), some (.builtin "object.__new__"), some (.bool true)]⟩) ::
  (nat_lit 122, ⟨(.type "getset_descriptor"), none, .fields #[(.str "__dict__" 365), (.ref 121), (.builtin "function.__dict__"), (.builtin "function.__dict__#set")], #[]⟩) ::
  (nat_lit 123, ⟨(.type "getset_descriptor"), none, .fields #[(.str "__weakref__" 367), (.ref 121), (.builtin "ExceptionGroup.__weakref__"), .none], #[]⟩) ::
  (nat_lit 131, kC "_substitution_cost" "_substitution_cost" 380 381 382 171 2 0 3 126 (.bool true) 181 127 .none (.ref 128) (.ref 129) 130 385 386) ::
  (nat_lit 132, kF "_substitution_cost" (stAt 18) .none .none (.str "cpy313.traceback" 372) (.ref 131)) ::
  (nat_lit 138, kC "_levenshtein_distance" "_levenshtein_distance" 388 389 390 177 3 0 3 133 (.bool true) 181 134 .none (.ref 135) (.ref 136) 137 405 406) ::
  (nat_lit 139, kF "_levenshtein_distance" (stAt 19) .none .none (.str "cpy313.traceback" 372) (.ref 138)) ::
  (nat_lit 145, kC "_law_lexer" "_law_lexer" 410 411 412 216 1 0 3 140 (.bool true) 181 141 .none (.ref 142) (.ref 143) 144 417 418) ::
  (nat_lit 146, kF "_law_lexer" (stAt 21) .none .none (.str "law_tx0028_01" 408) (.ref 145)) ::
  (nat_lit 150, kC "_law_family" "_law_family" 420 421 422 226 2 0 3 147 (.bool true) 181 148 .none .none .none 149 423 424) ::
  (nat_lit 151, kF "_law_family" (stAt 22) .none .none (.str "law_tx0028_01" 408) (.ref 150)) ::
  (nat_lit 157, kC "_law_hidden" "_law_hidden" 426 427 428 232 1 0 3 152 (.bool true) 181 153 .none (.ref 154) (.ref 155) 156 432 433) ::
  (nat_lit 158, kF "_law_hidden" (stAt 23) .none .none (.str "law_tx0028_01" 408) (.ref 157)) ::
  (nat_lit 162, kC "_law_words" "_law_words" 435 436 437 237 1 0 3 159 (.bool true) 181 160 .none .none .none 161 438 439) ::
  (nat_lit 163, kF "_law_words" (stAt 24) .none .none (.str "law_tx0028_01" 408) (.ref 162)) ::
  (nat_lit 169, kC "_law_far" "_law_far" 441 442 443 250 2 0 3 164 (.bool true) 181 165 .none (.ref 166) (.ref 167) 168 449 450) ::
  (nat_lit 170, kF "_law_far" (stAt 25) .none .none (.str "law_tx0028_01" 408) (.ref 169)) ::
  (nat_lit 176, kC "_law_counts" "_law_counts" 452 453 454 261 1 0 3 171 (.bool true) 181 172 .none (.ref 173) (.ref 174) 175 466 467) ::
  (nat_lit 177, kF "_law_counts" (stAt 26) .none .none (.str "law_tx0028_01" 408) (.ref 176)) ::
  (nat_lit 181, kC "_law_told" "_law_told" 469 470 471 281 2 0 3 178 (.bool true) 181 179 .none .none .none 180 472 473) ::
  (nat_lit 182, kF "_law_told" (stAt 27) .none .none (.str "law_tx0028_01" 408) (.ref 181)) ::
  (nat_lit 186, kC "_law_turned" "_law_turned" 475 476 477 289 3 0 3 183 (.bool true) 181 184 .none .none .none 185 478 479) ::
  (nat_lit 187, kF "_law_turned" (stAt 28) .none .none (.str "law_tx0028_01" 408) (.ref 186)) ::
  (nat_lit 191, kC "law" "law" 481 482 483 305 1 0 3 188 (.bool true) 181 189 .none .none .none 190 484 485) ::
  (nat_lit 192, kF "law" (stAt 29) .none .none (.str "law_tx0028_01" 408) (.ref 191)) :: []
noncomputable def asK : List Addr := [2, 3, 20, 21, 27, 28, 34, 35, 41, 42, 48, 49, 55, 56, 57, 58, 64, 65, 66, 67, 73, 74, 75, 76, 82, 83, 96, 97, 103, 104, 110, 111, 117, 118, 120, 121, 122, 123, 131, 132, 138, 139, 145, 146, 150, 151, 157, 158, 162, 163, 169, 170, 176, 177, 181, 182, 186, 187, 191, 192]
theorem asK_eq : ∀ P, asK = (KT P).map (·.1) := fun _ => by kernel_rfl
/-- the text without the three defs that take a key -/
noncomputable def vw : Program := view PySem.Challenge.pw_tx0028_01 [1, 2, 3, 4, 5, 6, 7, 13, 15, 16, 17, 18, 19, 21, 22, 23, 24, 25, 26, 27, 28, 29]
noncomputable abbrev lsK : List Str := ["insort_right", "bisect_right", "bisect_left"]
abbrev dK : DefRec := { name := "law", params := fArgs (stAt 29), body := fBody (stAt 29), scope := fScope (stAt 29), pos := ⟨305, 0, 317, 84⟩ }
set_option maxHeartbeats 8000000 in
theorem leftK : LeftO PySem.Challenge.rw_tx0028_01.row.prog vw lsK (fun s => xlAt vw [] s && recOk (RowW.records PySem.Challenge.rw_tx0028_01.row.toRowW) s) (kmHook KT asK asK_eq [37, 30, 172, 141]).obs (kmHook KT asK asK_eq [37, 30, 172, 141]).val 2272 := by
  intro w
  kernel_rfl
theorem saidK : OpenLaw.wellSaid PySem.Challenge.rw_tx0028_01 = true := by kernel_rfl
theorem hd (walk : WalkO vw lsK (XL vw []) (kmHook KT asK asK_eq [37, 30, 172, 141]).says PySem.Challenge.rw_tx0028_01.row.toRowW dK [] fun f vs => PySem.call f vs) : PySem.Challenge.rw_tx0028_01.Holds := by
  refine holds_law saidK fun said => ?_
  refine holds_open (q := vw) (loose := lsK) (Xt := fun s => xlAt vw [] s && recOk (RowW.records PySem.Challenge.rw_tx0028_01.row.toRowW) s) (XP := XL vw []) (Yf := (kmHook KT asK asK_eq [37, 30, 172, 141]).obs) (Ya := (kmHook KT asK asK_eq [37, 30, 172, 141]).val)
    (YP := (kmHook KT asK asK_eq [37, 30, 172, 141]).says) (N := 2272) (d := dK) (kwd := []) leftK (kmHook KT asK asK_eq [37, 30, 172, 141]).of (kmHook KT asK asK_eq [37, 30, 172, 141]).keeps
    (fun s e => xl_of s (Bool.and_eq_true_iff.mp e).1) XL.keeps (by kernel_rfl) (by kernel_rfl) (by kernel_rfl) (fun s e => recFacts_of (Bool.and_eq_true_iff.mp e).2) (by kernel_rfl) said (by decide +kernel) ⟨rfl, rfl, rfl, rfl, rfl, by decide +kernel⟩ ?_ walk
  exact ⟨[WData.list []], by decide +kernel, by decide +kernel⟩
end

section
theorem Rep.sizeOf {g h : Heap} {L : Addr} {lc : LC} {ow : OW} (R : Rep g L lc ow h) : ∀ p ∈ ow, p.1 < h.objs.size := fun p hp => by
  obtain ⟨o, _, e, _⟩ := R.own p hp
  exact Heap.lt_size e
/-- one object more, by the kit's ledgers -/
theorem Rep.viaNews {g h h' : Heap} {L : Addr} {lc : LC} {ow : OW} {news : List (Addr × Obj)} {m : Str → Option Value} {a : Addr} {o : Obj} {p : AO} (R : Rep g L lc ow h) (hl : LRel lc m) (hk : ∀ p ∈ ow, ∃ o, p.2.rep o ∧ (p.1, o) ∈ news)
    (F' : Fr g L h' m) (N' : News g L h' ((a, o) :: news)) (ha : a = h.objs.size) (ro : p.rep o) : Rep g L lc ((a, p) :: ow) h' := by
  refine Rep.ofNews F' hl N' ?_ fun q hq => ?_
  · rw [List.map_cons, List.nodup_cons]
    refine ⟨fun hm => ?_, R.nd⟩
    refine bc fun hG => ?_
    obtain ⟨q, hq, e⟩ := List.mem_map.mp hm
    refine hG ?_
    clear hG
    have := R.sizeOf q hq
    rw [e, ha] at this
    exact Nat.lt_irrefl _ this
  · rcases List.mem_cons.mp hq with rfl | hq
    · exact ⟨o, ro, .head _⟩
    · obtain ⟨o', r, hm⟩ := hk q hq; exact ⟨o', r, .tail _ hm⟩
/-- one object turned, the heap given by what it keeps -/
theorem Rep.turn {g h h' : Heap} {L : Addr} {lc : LC} {ow ow' : OW} {a : Addr} {p p' : AO} {o : Obj} (R : Rep g L lc ow h) (U : Upd ow a p p' ow') (hs : Heap.SameBut a h h') (e : h'.get? a = some o) (r : p'.rep o) : Rep g L lc ow' h' := by
  refine bc fun hG => ?_
  obtain ⟨pre, post, rfl, rfl⟩ := U.split
  obtain ⟨m, F, hl⟩ := R.fr
  refine hG ?_
  clear hG
  have nd := R.nd
  refine bc fun hG => ?_
  obtain ⟨o', ro, e', nL, ng⟩ := R.own _ U.mem
  refine hG ?_
  clear hG
  refine ⟨⟨m, F.change hs nL ng, hl⟩, fun q hq => ?_, by rw [List.map_append, List.map_cons] at nd ⊢; exact nd⟩
  rw [List.map_append, List.map_cons] at nd
  rcases List.mem_append.mp hq with hq | hq
  · obtain ⟨o', r', e', n⟩ := R.own q (List.mem_append_left _ hq)
    exact ⟨o', r', (hs.2 _ fun z => (List.nodup_append.mp nd).2.2 _ (List.mem_map_of_mem hq) _ (.head _) z).trans e', n⟩
  · rcases List.mem_cons.mp hq with rfl | hq
    · exact ⟨_, r, e, nL, ng⟩
    · obtain ⟨o', r', e', n⟩ := R.own q (List.mem_append_right _ (.tail _ hq))
      exact ⟨o', r', (hs.2 _ fun z => (List.nodup_cons.mp (List.nodup_append.mp nd).2.1).1 (List.mem_map.mpr ⟨q, hq, z⟩)).trans e', n⟩
/-- one object let go, the rest as it was -/
theorem Rep.lose {g h h' : Heap} {L : Addr} {lc : LC} {ow ow' : OW} {a : Addr} {p : AO} (R : Rep g L lc ow h) (T : Take (a, p) ow ow') (he : Heap.ExtBut a h h') : Rep g L lc ow' h' := by
  have hm : (a, p) ∈ ow := T.perm.mem_iff.mpr (.head _)
  refine bc fun hG => ?_
  obtain ⟨m, F, hl⟩ := R.fr
  refine hG ?_
  clear hG
  have nd := (T.perm.map (·.1)).nodup_iff.mp R.nd
  rw [List.map_cons, List.nodup_cons] at nd
  refine bc fun hG => ?_
  obtain ⟨o', ro, e, nL, ng⟩ := R.own _ hm
  refine hG ?_
  clear hG
  refine ⟨⟨m, ⟨F.ns.extBut he (Ne.symm nL), fun b o e => he b o (fun z => ?_) (F.keep b o e), F.above⟩, hl⟩, fun q hq => ?_, nd.2⟩
  · rw [z, ng] at e; cases e
  · obtain ⟨o', r', e', n⟩ := R.own q (T.perm.mem_iff.mpr (.tail _ hq))
    exact ⟨o', r', he _ _ (fun z => nd.1 (List.mem_map.mpr ⟨q, hq, z⟩)) e', n⟩

structure Sub (c : Cx) (a i : AV) (lc : LC) (ow : OW) (Q : AV → LC → OW → Prop) : Prop where
  run : ∀ u v, a.rep u → i.rep v → EV c (getItem u v) lc ow Q ∧ ∃ T id, typeLookup (.type T) "__getitem__" = pure (some (.builtin id)) ∧ ∀ s : Shared, Rep c.g c.L lc ow s.heap → s.TypeIs u T
structure Mth (c : Cx) (a : AV) (name : Str) (lc : LC) (ow : OW) (Q : AV → List AV → LC → OW → Prop) : Prop where
  run : ∀ v pl, a.rep v → AWp c (fun (p : AV × List AV) (x : Value × List Value) => p.1.rep x.1 ∧ All2 p.2 x.2) (getMethod v name pl) lc ow (fun p => Q p.1 p.2)
inductive IsP : AV → Option Int → Prop
  | none : IsP .none none
  | int {i : Int} : IsP (.int i) (some i)
theorem IsP.part {a : AV} {o : Option Int} (h : IsP a o) {v : Value} (r : a.rep v) : IsPart v o := by
  cases h with
  | none => cases (show v = _ from r); exact .none
  | int => obtain ⟨t, rfl⟩ := r; exact .int _ _
theorem IsP.opt {a : AV} {o : Option Int} (h : IsP a o) {v : Value} (r : a.rep v) : ∃ q : Option (Int × Tok), q.map (·.1) = o ∧ v = partValue q := by
  cases h with
  | none => cases (show v = _ from r); exact ⟨Option.none, rfl, rfl⟩
  | int => obtain ⟨t, rfl⟩ := r; exact ⟨some (_, t), rfl, rfl⟩
/-- a slice of a list -/
noncomputable def lsl {α : Type} (xs : List α) (lo hi st : Option Int) : List α := (sliceRange (sliceBounds lo hi st xs.length).1 (sliceBounds lo hi st xs.length).2.1 (sliceBounds lo hi st xs.length).2.2).filterMap (fun i => xs[i]?)
theorem lsl_pick (vs : List Value) (lo hi st : Option Int) : slicePick vs.toArray lo hi st = (lsl vs lo hi st).toArray := by
  unfold slicePick lsl
  simp only [List.size_toArray, List.getElem?_toArray]
theorem All2.filterMap {as : List AV} {vs : List Value} (h : All2 as vs) (is : List Nat) : All2 (is.filterMap (fun i => as[i]?)) (is.filterMap (fun i => vs[i]?)) := by
  induction is with
  | nil => trivial
  | cons i r ih =>
    simp only [List.filterMap_cons]
    cases e : as[i]? with
    | none =>
      have : vs[i]? = none := by rw [List.getElem?_eq_none_iff] at e ⊢; rw [← h.length]; exact e
      rw [this]; exact ih
    | some a =>
      refine bc fun hG => ?_
      obtain ⟨v, hv, rv⟩ := h.get e
      refine hG ?_
      clear hG
      rw [hv]; exact ⟨rv, ih⟩
theorem All2.lsl {as : List AV} {vs : List Value} (h : All2 as vs) (lo hi st : Option Int) : All2 (Mine.lsl as lo hi st) (Mine.lsl vs lo hi st) := by
  unfold Mine.lsl; rw [h.length]; exact h.filterMap _

section
variable {c : Cx} {lc lc' : LC} {ow ow' : OW} {env : Env}
theorem ev_sub {value slice pos} {Q} (h : EV c (eval value env) lc ow fun a lc1 ow1 => EV c (eval slice env) lc1 ow1 fun i lc2 ow2 => Sub c a i lc2 ow2 Q)
    (hs : ∀ o i, subscripted slice false o i = operate [o, i] (getItem o i) ∨ subscripted slice false o i = operate [i, o] (getItem o i) := by intro _ _; first | exact Or.inl (by kernel_rfl) | exact Or.inr (by kernel_rfl)) : EV c (eval (.Subscript value slice pos) env) lc ow Q :=
  ⟨fun s P E R kp => by
    with_reducible refine Subscript_ ?_
    refine h.run s _ E R fun a u lc1 ow1 h1 tk1 q ra R1 => q.run _ _ E R1 fun i v lc2 ow2 h2 tk2 q2 ri R2 => ?_
    refine bc fun hG => ?_
    obtain ⟨g, T, id, hl, hT⟩ := q2.run u v ra ri
    refine hG ?_
    clear hG
    rcases hs u v with ho | ho
    · exact tail_any (hT _ R2) hl (g.run _ P E R2 kp) ho
    · exact tail_any (hT _ R2) hl (g.run _ P E R2 kp) ho⟩
structure Prt (c : Cx) (e : Option PySem.Expr) (env : Env) (lc : LC) (ow : OW) (Q : AV → LC → OW → Prop) : Prop where
  run : EV c (evalPart e env) lc ow Q
theorem prt_none {Q} (h : Q .none lc ow) : Prt c none env lc ow Q := ⟨AWp.pure (b := AV.none) rfl h⟩
theorem prt_some {e} {Q} (h : EV c (eval e env) lc ow Q) : Prt c (some e) env lc ow Q := ⟨⟨fun s P E R kp => evalPart_some_step (h.run s P E R kp)⟩⟩
theorem ev_slice {l u st pos} {Q} (h : Prt c l env lc ow fun a lc1 ow1 => Prt c u env lc1 ow1 fun b lc2 ow2 => Prt c st env lc2 ow2 fun d lc3 ow3 => ∀ sl, Q (.ref sl) lc3 ((sl, .flds "slice" [a, b, d]) :: ow3)) : EV c (eval (.Slice l u st pos) env) lc ow Q :=
  ⟨fun s P E R kp => by
    with_reducible refine wpAny_Slice ?_
    refine h.run.run s _ E R fun a v1 lc1 ow1 h1 tk1 q ra R1 => q.run.run _ _ E R1 fun b v2 lc2 ow2 h2 tk2 q2 rb R2 => q2.run.run _ _ E R2 fun d v3 lc3 ow3 h3 tk3 q3 rd R3 => ?_
    exact kp _ _ _ _ _ _ (q3 h3.objs.size) rfl (R3.push (p := .flds "slice" [a, b, d]) ⟨[v1, v2, v3], rfl, ra, rb, rd, trivial⟩)⟩

theorem sub_list {l : Addr} {xs : List AV} {k : Int} {x : AV} {Q} (hm : (l, AO.list xs) ∈ ow) (hk : 0 ≤ k) (hb : k < 2 ^ 63) (hx : xs[k.toNat]? = some x) (h : Q x lc ow) : Sub c (.ref l) (.int k) lc ow Q := by
  refine ⟨?_⟩
  rintro _ _ rfl ⟨t, rfl⟩
  refine ⟨⟨fun s P E R kp => ?_⟩, "list", _, slot_list_getitem.lookup, fun s R => ?_⟩
  · refine bc fun hG => ?_
    obtain ⟨o, ⟨vs, n, rfl, r⟩, ho⟩ := R.get hm
    refine hG ?_
    clear hG
    have hl' : s.heap.IsList l vs.toArray := ⟨_, ho, rfl, n, rfl⟩
    refine bc fun hG => ?_
    obtain ⟨v, hv, rv⟩ := r.get hx
    refine hG ?_
    clear hG
    have hv' : vs.toArray[k.toNat]? = some v := by rw [List.getElem?_toArray]; exact hv
    with_reducible refine wpAny_getItem_list hl' hk hb hv' ?_
    exact kp _ _ _ _ s.heap s.toks h rv R
  · obtain ⟨o, ⟨vs, n, rfl, r⟩, ho⟩ := R.get hm
    exact ⟨_, ho, rfl⟩
theorem sub_str {x : List Nat} {k : Int} {d : Nat} {Q} (hb : (decide (k < -2 ^ 63) || decide (k ≥ 2 ^ 63)) = false) (hx : ((seqIndex? k x.length).bind fun i => x[i]?) = some d) (h : Q (.str [d]) lc ow) : Sub c (.str x) (.int k) lc ow Q := by
  refine ⟨?_⟩
  rintro _ _ ⟨u, rfl⟩ ⟨t, rfl⟩
  refine ⟨⟨fun s P E R kp => ?_⟩, "str", _, F.slot_str_getitem.lookup, fun s R => typeIs_str _ _ _⟩
  have hx' : ((seqIndex? k (⟨x.toArray⟩ : Str).length).bind fun i => (⟨x.toArray⟩ : Str).cps[i]?) = some d := by
    rw [len_str]; simpa only [List.getElem?_toArray] using hx
  with_reducible refine PySem.P.getItem_str hb hx' ?_
  exact kp _ _ _ _ s.heap _ h ⟨_, rfl⟩ R
theorem sub_list_slice {l sl : Addr} {xs : List AV} {a b d : AV} {lo hi st : Option Int} {Q} (hs : (sl, AO.flds "slice" [a, b, d]) ∈ ow) (hm : (l, AO.list xs) ∈ ow) (pa : IsP a lo) (pb : IsP b hi) (pd : IsP d st) (h0 : st ≠ some 0) (hz : xs.length ≤ 1000000)
    (h : ∀ r, Q (.ref r) lc ((r, .list (lsl xs lo hi st)) :: ow)) : Sub c (.ref l) (.ref sl) lc ow Q := by
  refine ⟨?_⟩
  rintro _ _ rfl rfl
  refine ⟨⟨fun s P E R kp => ?_⟩, "list", _, slot_list_getitem.lookup, fun s R => ?_⟩
  · obtain ⟨o, ⟨vs, n, rfl, r⟩, ho⟩ := R.get hm
    obtain ⟨o', ⟨us, rfl, r'⟩, ho'⟩ := R.get hs
    obtain ⟨u1, u2, u3, rfl, r1, r2, r3⟩ := al3 r'
    · have hl' : s.heap.IsList l vs.toArray := ⟨_, ho, rfl, n, rfl⟩
      have hsl : s.heap.IsSliceOf sl u1 u2 u3 := ⟨_, ho', rfl, rfl⟩
      have hlen := r.length
      have hz' : vs.toArray.size ≤ sizeLine := by rw [List.size_toArray, sizeLine_eq]; wtm_at "om"
      refine wpAny_getItem_list_slice hl' hsl (pa.part r1) (pb.part r2) (pd.part r3) h0 ?_ hz'
      rw [lsl_pick]
      exact kp (.ref s.heap.objs.size) _ _ _ _ _ (h _) rfl (R.push (p := .list (lsl xs lo hi st)) ⟨_, 0, rfl, r.lsl lo hi st⟩)
  · obtain ⟨o, ⟨vs, n, rfl, r⟩, ho⟩ := R.get hm
    exact ⟨_, ho, rfl⟩
theorem lsl_none {α : Type} (xs : List α) (lo hi : Option Int) : lsl xs lo hi none = (xs.drop (kms_lo lo xs.length)).take (kms_hi hi xs.length - kms_lo lo xs.length) := by
  have := pick_run xs.toArray (kms_lo lo xs.length) (kms_hi hi xs.length - kms_lo lo xs.length)
  simp only [List.getElem?_toArray] at this
  unfold lsl
  rw [kms_bounds, sliceRange_one, this]
theorem kms_hi_le (hi : Option Int) (n : Nat) : kms_hi hi n ≤ n := by
  unfold kms_hi
  cases hi with
  | none => exact Nat.le_refl _
  | some y => simp only; split <;> wtm_at "om"
theorem sub_str_slice {sl : Addr} {x : List Nat} {a b : AV} {lo hi : Option Int} {Q} (hs : (sl, AO.flds "slice" [a, b, .none]) ∈ ow) (pa : IsP a lo) (pb : IsP b hi) (hz : x.length ≤ 1000000)
    (h : Q (.str (lsl x lo hi none)) lc ow) : Sub c (.str x) (.ref sl) lc ow Q := by
  refine ⟨?_⟩
  rintro _ _ ⟨u, rfl⟩ rfl
  refine ⟨⟨fun s P E R kp => ?_⟩, "str", _, F.slot_str_getitem.lookup, fun s R => typeIs_str _ _ _⟩
  obtain ⟨o', ⟨us, rfl, r'⟩, ho'⟩ := R.get hs
  obtain ⟨u1, u2, u3, rfl, r1, r2, r3⟩ := al3 r'
  · refine bc fun hG => ?_
    obtain ⟨q1, e1, rfl⟩ := pa.opt r1
    obtain ⟨q2, e2, rfl⟩ := pb.opt r2
    refine hG ?_
    clear hG
    cases (show u3 = _ from r3)
    have hsl : s.heap.IsSlice sl q1 q2 none := ⟨_, ho', rfl, rfl⟩
    have hp : slicePicked ⟨x.toArray⟩ q1 q2 none = sliceRange (sliceBounds lo hi none x.length).1 (sliceBounds lo hi none x.length).2.1 (sliceBounds lo hi none x.length).2.2 := by
      unfold slicePicked; rw [e1, e2, len_str]; rfl
    have hsel : (slicePicked ⟨x.toArray⟩ q1 q2 none).filterMap (fun i => (⟨x.toArray⟩ : Str).cps[i]?) = lsl x lo hi none := by
      rw [hp]; unfold lsl; simp only [List.getElem?_toArray]
    have hll : (slicePicked ⟨x.toArray⟩ q1 q2 none).length = kms_hi hi x.length - kms_lo lo x.length := by
      rw [hp, kms_bounds, sliceRange_one]; simp
    have hhi := kms_hi_le hi x.length
    refine wpAny_getItem_str_slice hsl rfl ?_
    unfold sliceMade
    rw [hsel]
    by_cases hw : (((none : Option (Int × Tok)).map (·.1)).getD 1 == 1 && (slicePicked ⟨x.toArray⟩ q1 q2 none).length == (⟨x.toArray⟩ : Str).length) = true
    · rw [if_pos hw]
      have hx : lsl x lo hi none = x := by
        rw [hll, len_str] at hw
        have hw' : kms_hi hi x.length - kms_lo lo x.length = x.length := by simpa using hw
        rw [lsl_none, hw']
        by_cases h0 : kms_lo lo x.length = 0
        · rw [h0, List.drop_zero, List.take_length]
        · have : x.length = 0 := by wtm_at "om"
          rw [List.eq_nil_of_length_eq_zero this]; simp
      rw [hx] at h
      exact kp _ _ _ _ s.heap s.toks h ⟨_, rfl⟩ R
    · rw [if_neg hw]
      refine ⟨?_, kp _ _ _ _ s.heap _ h ⟨_, rfl⟩ R⟩
      rw [len_str, lsl_none, sizeLine_eq, List.length_take, List.length_drop]
      exact Nat.le_trans (Nat.min_le_left _ _) (Nat.le_trans (Nat.sub_le _ _) (Nat.le_trans hhi (Nat.le_trans hz (by decide))))
end
end

section
theorem all2_ints : ∀ {ns : List Int} {vs : List Value}, All2 (ns.map .int) vs → IntsAre vs ns
  | [], [], _ => .nil
  | _ :: _, v :: _, ⟨⟨t, e⟩, r⟩ => by subst e; exact .cons _ _ (all2_ints r)
theorem all2_strs : ∀ {ss : List (List Nat)} {vs : List Value}, All2 (ss.map .str) vs → CarriedAll vs (ss.map fun x => PyData.str ⟨x.toArray⟩)
  | [], [], _ => .nil
  | _ :: _, v :: _, ⟨⟨t, e⟩, r⟩ => by subst e; exact .cons (.str _ _) (all2_strs r)
theorem mapSeq_rep {f : Array Value → Array Value} {vs us : List Value} {ys : List AV} {n : Nat} (e : f vs.toArray = us.toArray) (r : All2 ys us) : (AO.list ys).rep (Obj.mapSeq f { cls := .type "list", data := .seq vs.toArray n }) :=
  ⟨us, if (us.toArray.size == vs.toArray.size) = true then n else n + 1, by rw [← e]; rfl, r⟩
theorem kb {c : Cx} {lc : LC} {ow : OW} {id : String} : ∀ fv, AV.rep (.con (.builtin id)) fv → Kpr c fv lc ow := by rintro _ rfl; exact kpr_builtin
theorem kt {c : Cx} {lc : LC} {ow : OW} {id : String} : ∀ fv, AV.rep (.con (.type id)) fv → Kpr c fv lc ow := by rintro _ rfl; exact kpr_type

section
variable {c : Cx} {lc lc' : LC} {ow ow' : OW} {env : Env}
theorem ev_meth {o name apos args pos pl} {Q} (h : EV c (eval o env) lc ow fun a lc1 ow1 => Mth c a name lc1 ow1 fun f fs lc2 ow2 => Args c env pos args lc2 ow2 fun as lc3 ow3 => (∀ fv, f.rep fv → Kpr c fv lc3 ow3) ∧ Cal c f (fs ++ as) [] lc3 ow3 Q)
    (hs : autoParam ((starEach args env).any (·.1) = false) kr0)
    (he : eval (.Call (.Attribute o name apos) args [] pos) env = (do let ov ← eval o env; standAt apos.atName; let (f, first) ← holding [ov] (getMethod ov name pl); callWith pos f first (backTo pos (starEach args env)) []) := by with_unfolding_all rfl) :
    EV c (eval (.Call (.Attribute o name apos) args [] pos) env) lc ow Q := by
  rw [he]
  refine AWp.bind (h.mono fun a lc1 ow1 q v ra => AWp.standAt (AWp.bind (AWp.holding ((q.run v pl ra).mono fun p lc2 ow2 q2 x rx => ?_))))
  refine bc fun hG => ?_
  obtain ⟨f, fs⟩ := p
  obtain ⟨fv, first⟩ := x
  refine hG ?_
  clear hG
  refine callWith_aw (any_backTo hs) rfl (evalArgs_aw hs ⟨q2.run.mono fun as lc3 ow3 q3 => ⟨q3.1 fv rx.1, fun vs kvs ra hk rk => ?_⟩⟩)
  cases kvs with
  | nil => exact q3.2.run fv _ [] rx.1 (rx.2.append ra) rfl trivial
  | cons => cases hk
theorem mth_list {l : Addr} {xs : List AV} {name : Str} {id : String} {Q} (hm : (l, AO.list xs) ∈ ow) (sl : Slot "list" name id) (ty : typeOf (.builtin id) = pure (.type "method_descriptor")) (h : Q (.con (.builtin id)) [.ref l] lc ow) : Mth c (.ref l) name lc ow Q := by
  refine ⟨?_⟩
  rintro _ pl rfl
  refine ⟨fun s P E R kp => ?_⟩
  refine bc fun hG => ?_
  obtain ⟨o, ⟨vs, n, rfl, r⟩, ho⟩ := R.get hm
  refine hG ?_
  clear hG
  refine getMethod_builtin ⟨_, ho, rfl⟩ F.plainAttrs_list sl ty (fun a e => by cases e; exact ⟨_, ho, rfl⟩) ?_
  exact kp (.con (.builtin id), [.ref l]) _ _ _ s.heap s.toks h ⟨rfl, rfl, trivial⟩ R
theorem mth_str {x : List Nat} {name : Str} {id : String} {Q} (sl : Slot "str" name id) (ty : typeOf (.builtin id) = pure (.type "method_descriptor")) (h : Q (.con (.builtin id)) [.str x] lc ow) : Mth c (.str x) name lc ow Q := by
  refine ⟨?_⟩
  rintro _ pl ⟨t, rfl⟩
  refine ⟨fun s P E R kp => ?_⟩
  refine getMethod_builtin (typeIs_str _ _ _) F.plainAttrs_str sl ty (fun a e => nomatch e) ?_
  exact kp (.con (.builtin id), [.str x]) _ _ _ s.heap s.toks h ⟨rfl, ⟨t, rfl⟩, trivial⟩ R
theorem mth_bitlen {i : Int} {Q} (h : Q (.con (.builtin "int.bit_length")) [.int i] lc ow) : Mth c (.int i) "bit_length" lc ow Q := by
  refine ⟨?_⟩
  rintro _ pl ⟨t, rfl⟩
  refine ⟨fun s P E R kp => getMethod_int_bit_length ?_⟩
  exact kp (.con (.builtin "int.bit_length"), [.int i]) _ _ _ s.heap s.toks h ⟨rfl, ⟨t, rfl⟩, trivial⟩ R

theorem cal_1 {fv : Value} {a : AV} {Q} (h : ∀ v, a.rep v → EV c (call fv [v]) lc ow Q) : Cal c (.con fv) [a] [] lc ow Q := by
  refine ⟨?_⟩
  rintro _ vs kvs rfl ra hk -
  refine bc fun hG => ?_
  obtain ⟨v, rfl, r⟩ := al1 ra
  refine hG ?_
  clear hG
  cases kw0 hk
  exact h v r
theorem cal_2 {fv : Value} {a b : AV} {Q} (h : ∀ v u, a.rep v → b.rep u → EV c (call fv [v, u]) lc ow Q) : Cal c (.con fv) [a, b] [] lc ow Q := by
  refine ⟨?_⟩
  rintro _ vs kvs rfl ra hk -
  refine bc fun hG => ?_
  obtain ⟨v, u, rfl, r⟩ := al2 ra
  refine hG ?_
  clear hG
  cases kw0 hk
  exact h v u r.1 r.2
theorem cal_3 {fv : Value} {a b d : AV} {Q} (h : ∀ v u x, a.rep v → b.rep u → d.rep x → EV c (call fv [v, u, x]) lc ow Q) : Cal c (.con fv) [a, b, d] [] lc ow Q := by
  refine ⟨?_⟩
  rintro _ vs kvs rfl ra hk -
  refine bc fun hG => ?_
  obtain ⟨v, u, x, rfl, r⟩ := al3 ra
  refine hG ?_
  clear hG
  cases kw0 hk
  exact h v u x r.1 r.2.1 r.2.2

theorem cal_append {l : Addr} {xs : List AV} {a : AV} {Q} (U : Upd ow l (.list xs) (.list (xs ++ [a])) ow') (hz : xs.length ≤ 1000000) (h : Q .none lc ow') : Cal c (.con (.builtin "list.append")) [.ref l, a] [] lc ow Q := by
  refine cal_2 ?_
  rintro _ u rfl ra
  refine ⟨fun s P E R kp => ?_⟩
  refine bc fun hG => ?_
  obtain ⟨o, ⟨vs, n, rfl, r⟩, ho⟩ := R.get U.mem
  refine hG ?_
  clear hG
  have hlen := r.length
  have hz' : vs.toArray.size ≤ sizeLine := by rw [List.size_toArray, sizeLine_eq]; wtm_at "om"
  refine call_meets F.slot_list_append ⟨_, ho, rfl⟩ F.entry_list_append (F.args_list_append_2 _ _) (AutoListH.list_append_list_val_0 l vs.toArray n u hz') ⟨ho, ?_⟩
  refine kp .none _ _ _ _ s.toks h rfl (R.upd U fun o' ro' ho' => ?_)
  rw [ho] at ho'
  cases ho'
  exact mapSeq_rep (us := vs ++ [u]) (by simp) (r.append ⟨ra, trivial⟩)
theorem cal_insert {l : Addr} {xs : List AV} {k : Int} {a : AV} {Q} (hk : 0 ≤ k) (hk2 : k < 1000000) (U : Upd ow l (.list xs) (.list (xs.take k.toNat ++ a :: xs.drop k.toNat)) ow') (hz : xs.length ≤ 1000000) (h : Q .none lc ow') : Cal c (.con (.builtin "list.insert")) [.ref l, .int k, a] [] lc ow Q := by
  refine cal_3 ?_
  rintro _ _ x rfl ⟨t, rfl⟩ ra
  refine ⟨fun s P E R kp => ?_⟩
  refine bc fun hG => ?_
  obtain ⟨o, ⟨vs, n, rfl, r⟩, ho⟩ := R.get U.mem
  refine hG ?_
  clear hG
  have hlen := r.length
  have hz' : vs.toArray.size ≤ sizeLine := by rw [List.size_toArray, sizeLine_eq]; wtm_at "om"
  have hfit : ¬ (!Builtin.List.listFitsIndex k) = true := by
    simp only [Builtin.List.listFitsIndex, Bool.not_eq_true', Bool.not_eq_false]; simp; wtm_at "om"
  refine call_meets F.slot_list_insert ⟨_, ho, rfl⟩ F.entry_list_insert (F.args_list_insert_3 _ _ _) (AutoListH.list_insert_list_int_val_1 l vs.toArray n k t x hfit hz') ⟨ho, ?_⟩
  refine kp .none _ _ _ _ s.toks h rfl (R.upd U fun o' ro' ho' => ?_)
  rw [ho] at ho'
  cases ho'
  refine mapSeq_rep (us := vs.take k.toNat ++ x :: vs.drop k.toNat) ?_ ((r.take _).append ⟨ra, r.drop _⟩)
  have hn : ¬ k < 0 := by wtm_at "om"
  simp only [if_neg hn]
  apply Array.toList_inj.mp
  by_cases hle : k.toNat ≤ vs.length
  · simp [Nat.min_eq_left hle]
    exact List.take_of_length_le (by simp)
  · have h1 : vs.length ≤ k.toNat := by wtm_at "om"
    simp [Nat.min_eq_right h1, List.take_of_length_le h1, List.drop_of_length_le h1]
theorem cal_reverse {l : Addr} {xs : List AV} {Q} (U : Upd ow l (.list xs) (.list xs.reverse) ow') (hz : xs.length ≤ 1000000) (h : Q .none lc ow') : Cal c (.con (.builtin "list.reverse")) [.ref l] [] lc ow Q := by
  refine cal_1 ?_
  rintro _ rfl
  refine ⟨fun s P E R kp => ?_⟩
  refine bc fun hG => ?_
  obtain ⟨o, ⟨vs, n, rfl, r⟩, ho⟩ := R.get U.mem
  refine hG ?_
  clear hG
  have hlen := r.length
  have hz' : vs.toArray.size ≤ sizeLine := by rw [List.size_toArray, sizeLine_eq]; wtm_at "om"
  refine call_meets F.slot_list_reverse ⟨_, ho, rfl⟩ F.entry_list_reverse (F.args_list_reverse_1 _) (AutoListH.list_reverse_list_0 l vs.toArray n hz') ⟨ho, ?_⟩
  refine kp .none _ _ _ _ s.toks h rfl (R.upd U fun o' ro' ho' => ?_)
  rw [ho] at ho'
  cases ho'
  exact mapSeq_rep (us := vs.reverse) (by simp) r.reverse
theorem cal_pop0 {l : Addr} {x : AV} {xs : List AV} {Q} (U : Upd ow l (.list (x :: xs)) (.list xs) ow') (hz : xs.length < 1000000) (h : Q x lc ow') : Cal c (.con (.builtin "list.pop")) [.ref l, .int 0] [] lc ow Q := by
  refine cal_2 ?_
  rintro _ _ rfl ⟨t, rfl⟩
  refine ⟨fun s P E R kp => ?_⟩
  refine bc fun hG => ?_
  obtain ⟨o, ⟨vs, n, rfl, r⟩, ho⟩ := R.get U.mem
  refine hG ?_
  clear hG
  cases vs with
  | nil => exact r.elim
  | cons v vs =>
    have hlen := r.2.length
    have hz' : (v :: vs).toArray.size ≤ sizeLine := by rw [List.size_toArray, sizeLine_eq, List.length_cons]; wtm_at "om"
    refine call_meets F.slot_list_pop ⟨_, ho, rfl⟩ F.entry_list_pop (F.args_list_pop_2 _ _) (MeetsSeq.list_pop_at l (v :: vs).toArray n 0 t 0 v (by decide) (by simp [seqIndex?]; try wtm_at "om") (by simp) hz') ⟨ho, ?_⟩
    refine kp x v _ _ _ s.toks h r.1 (R.upd U fun o' ro' ho' => ?_)
    rw [ho] at ho'
    cases ho'
    exact mapSeq_rep (us := vs) (by simp [Array.eraseIdxIfInBounds]) r.2
theorem cal_len_list {l : Addr} {xs : List AV} {Q} (hm : (l, AO.list xs) ∈ ow) (hz : xs.length ≤ 1000000) (h : Q (.int xs.length) lc ow) : Cal c (.con (.builtin "len")) [.ref l] [] lc ow Q := by
  refine cal_1 ?_
  rintro _ rfl
  refine ⟨fun s P E R kp => ?_⟩
  refine bc fun hG => ?_
  obtain ⟨o, ⟨vs, n, rfl, r⟩, ho⟩ := R.get hm
  refine hG ?_
  clear hG
  have hlen := r.length
  have hl' : s.heap.IsList l vs.toArray := ⟨_, ho, rfl, n, rfl⟩
  have hfit : ((vs.toArray.size : Nat) : Int) < 2 ^ 63 := by rw [List.size_toArray]; wtm_at "om"
  with_reducible refine call_len_list hl' hfit ?_
  exact kp (.int xs.length) _ _ _ s.heap _ h ⟨_, by rw [List.size_toArray, hlen]⟩ R
theorem cal_len_str {x : List Nat} {Q} (hz : x.length ≤ 1000000) (h : Q (.int x.length) lc ow) : Cal c (.con (.builtin "len")) [.str x] [] lc ow Q := by
  refine cal_1 ?_
  rintro _ ⟨t, rfl⟩
  refine ⟨fun s P E R kp => ?_⟩
  have hfit : ¬ ((⟨x.toArray⟩ : Str).length : Int) ≥ 2 ^ 63 := by rw [len_str]; wtm_at "om"
  with_reducible refine PySem.P.len_str hfit ?_
  exact kp (.int x.length) _ _ _ s.heap _ h ⟨_, by rw [len_str]⟩ R
theorem cal_lower {x : List Nat} {Q} (hz : x.length ≤ 1000) (h : Q (.str (cs (Txt.lower ⟨x.toArray⟩))) lc ow) : Cal c (.con (.builtin "str.lower")) [.str x] [] lc ow Q := by
  refine cal_1 ?_
  rintro _ ⟨t, rfl⟩
  refine ⟨fun s P E R kp => ?_⟩
  refine SCL.lower (by rw [len_str]; wtm_at "om") fun _ => ?_
  exact kp (.str (cs (Txt.lower ⟨x.toArray⟩))) _ _ _ s.heap _ h ⟨_, by rw [mk_cs]⟩ R
theorem cal_count {x y : List Nat} {Q} (h : Q (.int (Txt.count ⟨x.toArray⟩ ⟨y.toArray⟩)) lc ow) : Cal c (.con (.builtin "str.count")) [.str x, .str y] [] lc ow Q := by
  refine cal_2 ?_
  rintro _ _ ⟨t, rfl⟩ ⟨u, rfl⟩
  refine ⟨fun s P E R kp => SC.count ?_⟩
  exact kp (.int (Txt.count ⟨x.toArray⟩ ⟨y.toArray⟩)) _ _ _ s.heap _ h ⟨_, rfl⟩ R
theorem cal_bitlen {i : Int} {Q} (h : Q (.int (Builtin.Int.intBits i)) lc ow) : Cal c (.con (.builtin "int.bit_length")) [.int i] [] lc ow Q := by
  refine cal_1 ?_
  rintro _ ⟨t, rfl⟩
  refine ⟨fun s P E R kp => call_int_bit_length ?_⟩
  exact kp (.int (Builtin.Int.intBits i)) _ _ _ s.heap _ h ⟨_, rfl⟩ R
theorem cal_divmod {a b : Int} {Q} (hb : b ≠ 0) (hp : Builtin.divisionGoesByPylong a b = false) (h : ∀ r, Q (.ref r) lc ((r, .tup [.int (a.fdiv b), .int (a.fmod b)]) :: ow)) : Cal c (.con (.builtin "divmod")) [.int a, .int b] [] lc ow Q := by
  refine cal_2 ?_
  rintro _ _ ⟨t, rfl⟩ ⟨u, rfl⟩
  refine ⟨fun s P E R kp => divmod_int hb ?_ (Or.inl hp)⟩
  exact kp (.ref s.heap.objs.size) _ _ _ _ _ (h _) rfl (R.push (p := .tup [.int (a.fdiv b), .int (a.fmod b)]) ⟨[_, _], 0, rfl, ⟨_, rfl⟩, ⟨_, rfl⟩, trivial⟩)
theorem cal_min {a b : Int} {Q} (hh : c.A.handled = none) (h : Q (.int (min a b)) lc ow) : Cal c (.con (.builtin "min")) [.int a, .int b] [] lc ow Q := by
  refine cal_2 ?_
  rintro _ _ ⟨t, rfl⟩ ⟨u, rfl⟩
  refine ⟨fun s P E R kp => min_two_ints hh fun h' tk hk => ?_⟩
  refine kp (.int (min a b)) _ _ _ h' tk h ?_ (R.keeps hk)
  by_cases e : b < a
  · rw [if_pos e]; exact ⟨u, by congr 1; wtm_at "om"⟩
  · rw [if_neg e]; exact ⟨t, by congr 1; wtm_at "om"⟩

theorem itr_list {l : Addr} {xs : List AV} {Q} (hm : (l, AO.list xs) ∈ ow) (h : ∀ it, Q it lc ((it, .lit l 0) :: ow)) : Itr c (.ref l) lc ow Q := by
  refine ⟨?_⟩
  rintro _ rfl
  refine ⟨fun s P E R kp => ?_⟩
  refine bc fun hG => ?_
  obtain ⟨o, ⟨vs, n, rfl, r⟩, ho⟩ := R.get hm
  refine hG ?_
  clear hG
  have hl' : s.heap.IsList l vs.toArray := ⟨_, ho, rfl, n, rfl⟩
  refine wpAny_pyIter_list hl' ?_
  exact kp s.heap.objs.size _ _ _ _ _ (h _) rfl (R.push (p := .lit l 0) ⟨rfl, rfl⟩)
theorem nxt_list {it l : Addr} {xs : List AV} {i : Nat} {x : AV} {Q} (U : Upd ow it (.lit l i) (.lit l (i + 1)) ow') (hm : (l, AO.list xs) ∈ ow) (hx : xs[i]? = some x) (h : Q (some x) lc ow') : Nxt c it lc ow Q := by
  refine ⟨⟨fun s P E R kp => ?_⟩⟩
  refine bc fun hG => ?_
  obtain ⟨o, ⟨vs, n, rfl, r⟩, ho⟩ := R.get hm
  obtain ⟨o', ⟨r1, r2⟩, ho'⟩ := R.get U.mem
  refine hG ?_
  clear hG
  have hl' : s.heap.IsList l vs.toArray := ⟨_, ho, rfl, n, rfl⟩
  refine bc fun hG => ?_
  obtain ⟨v, hv, rv⟩ := r.get hx
  refine hG ?_
  clear hG
  have hv' : vs.toArray[i]? = some v := by rw [List.getElem?_toArray]; exact hv
  refine wpAny_pyNext_list_item ⟨o', ho', r1, r2⟩ hl' hv' fun h' hi hs => ?_
  obtain ⟨o2, e2, c2, d2⟩ := hi
  exact kp (some x) _ _ _ _ _ h ⟨v, rfl, rv⟩ (R.turn U hs e2 ⟨c2, d2⟩)
theorem nxt_list_end {it l : Addr} {xs : List AV} {i : Nat} {Q} (hh : c.A.handled = none) (T : Take (it, .lit l i) ow ow') (hm : (l, AO.list xs) ∈ ow) (hx : xs[i]? = none) (h : Q none lc ow') : Nxt c it lc ow Q := by
  refine ⟨⟨fun s P E R kp => ?_⟩⟩
  refine bc fun hG => ?_
  obtain ⟨o, ⟨vs, n, rfl, r⟩, ho⟩ := R.get hm
  obtain ⟨o', ⟨r1, r2⟩, ho'⟩ := R.get (T.perm.mem_iff.mpr (.head _))
  refine hG ?_
  clear hG
  have hl' : s.heap.IsList l vs.toArray := ⟨_, ho, rfl, n, rfl⟩
  have hv' : vs.toArray[i]? = none := by rw [List.getElem?_toArray]; rw [List.getElem?_eq_none_iff] at hx ⊢; rw [← r.length]; exact hx
  refine wpAny_pyNext_list_end hh ⟨o', ho', r1, r2⟩ hl' hv' fun h' he => ?_
  exact kp none _ _ _ _ _ h rfl (R.lose T he)

theorem b_addl {a b : Addr} {xs ys : List AV} {Q} (ha : (a, AO.list xs) ∈ ow) (hb : (b, AO.list ys) ∈ ow) (hz : xs.length + ys.length ≤ 1000000) (h : ∀ r, Q (.ref r) lc ((r, .list (xs ++ ys)) :: ow)) : Bin c .Add (.ref a) (.ref b) lc ow Q := by
  refine ⟨?_⟩
  rintro _ _ rfl rfl
  refine ⟨fun s P E R kp => ?_⟩
  refine bc fun hG => ?_
  obtain ⟨o, ⟨vs, n, rfl, r⟩, ho⟩ := R.get ha
  obtain ⟨o', ⟨us, n', rfl, r'⟩, ho'⟩ := R.get hb
  obtain ⟨m, Fm, hl⟩ := R.fr
  obtain ⟨news, N, hnews⟩ := R.news
  refine hG ?_
  clear hG
  have h1 := r.length
  have h2 := r'.length
  refine add_lists Fm N (⟨_, ho, rfl, n, rfl⟩ : s.heap.IsList a vs.toArray) (⟨_, ho', rfl, n', rfl⟩ : s.heap.IsList b us.toArray) (fun h' F' N' => ?_) (by rw [sizeLine_eq]; wtm_at "om")
  exact kp (.ref s.heap.objs.size) _ _ _ _ _ (h _) rfl (R.viaNews hl hnews F' N' rfl ⟨vs ++ us, 0, rfl, r.append r'⟩)
theorem All2.rep {xs : List AV} {vs : List Value} (h : All2 xs vs) : ∀ n, All2 (List.replicate n xs).flatten (List.replicate n vs).flatten
  | 0 => trivial
  | n + 1 => by rw [List.replicate_succ, List.replicate_succ, List.flatten_cons, List.flatten_cons]; exact h.append (All2.rep h n)
theorem foldl_app {α : Type} (xs : List α) (n : Nat) : ∀ acc : List α, List.foldl (fun x1 x2 => x1 ++ x2) acc.toArray (List.replicate n xs.toArray) = (acc ++ (List.replicate n xs).flatten).toArray := by
  induction n with
  | zero => intro acc; simp
  | succ n ih =>
    intro acc
    rw [List.replicate_succ, List.replicate_succ, List.foldl_cons, List.flatten_cons, ← List.append_assoc, ← ih]
    simp
theorem b_mull {a : Addr} {xs : List AV} {k : Int} {Q} (ha : (a, AO.list xs) ∈ ow) (h0 : 0 ≤ k) (hk : k ≤ 1000000) (hz : xs.length * k.toNat ≤ 2 ^ 24) (h : ∀ r, Q (.ref r) lc ((r, .list (List.replicate k.toNat xs).flatten) :: ow)) : Bin c .Mult (.ref a) (.int k) lc ow Q := by
  refine ⟨?_⟩
  rintro _ _ rfl ⟨t, rfl⟩
  refine ⟨fun s P E R kp => ?_⟩
  refine bc fun hG => ?_
  obtain ⟨o, ⟨vs, n, rfl, r⟩, ho⟩ := R.get ha
  obtain ⟨m, Fm, hl⟩ := R.fr
  obtain ⟨news, N, hnews⟩ := R.news
  refine hG ?_
  clear hG
  have h1 := r.length
  refine mul_list Fm N ho (by wtm_at "om") (by wtm_at "om") (by rw [List.size_toArray, ← h1]; exact hz) (fun h' F' N' => ?_)
  refine kp (.ref s.heap.objs.size) _ _ _ _ _ (h _) rfl (R.viaNews hl hnews F' N' rfl ⟨(List.replicate k.toNat vs).flatten, 0, ?_, r.rep _⟩)
  congr 2
  cases vs with
  | nil => simp
  | cons v vs =>
    have := foldl_app (v :: vs) k.toNat []
    simpa using this
theorem b_muls {x : List Nat} {k : Int} {Q} (h0 : 0 ≤ k) (hk : k ≤ 1000) (hz : x.length ≤ 1000) (h : Q (.str (List.replicate k.toNat x).flatten) lc ow) : Bin c .Mult (.str x) (.int k) lc ow Q := by
  refine ⟨?_⟩
  rintro _ _ ⟨t, rfl⟩ ⟨u, rfl⟩
  refine ⟨fun s P E R kp => ?_⟩
  refine SB.mul (mulOk_of 1000 1000 (by rw [len_str]; exact hz) hk (by wtm_at "om") (by decide) (by decide)) fun t' tk => ?_
  refine kp _ _ _ _ s.heap tk h ⟨t', ?_⟩ R
  congr 1
  unfold Txt.mul
  split
  · have : k.toNat = 0 := by wtm_at "om"
    rw [this]; rfl
  · split
    · rename_i e
      simp only [Bool.or_eq_true, beq_iff_eq, len_str] at e
      rcases e with rfl | e
      · simp
      · rw [List.eq_nil_of_length_eq_zero e]; simp
    · have := foldl_app x k.toNat []
      simp only [List.nil_append] at this
      rw [← this]
theorem c_eqli {a b : Addr} {xs ys : List AV} {ns ms : List Int} {Q} (hu : c.A.units ≤ 9000) (ha : (a, AO.list xs) ∈ ow) (hb : (b, AO.list ys) ∈ ow) (hx : xs = ns.map .int) (hy : ys = ms.map .int) (h : Q (.bool (decide (ns = ms))) lc ow) : Cmp c .Eq (.ref a) (.ref b) lc ow Q := by
  subst hx hy
  refine ⟨?_⟩
  rintro _ _ rfl rfl
  refine ⟨fun s P E R kp => ?_⟩
  refine bc fun hG => ?_
  obtain ⟨o, ⟨vs, n, rfl, r⟩, ho⟩ := R.get ha
  obtain ⟨o', ⟨us, n', rfl, r'⟩, ho'⟩ := R.get hb
  refine hG ?_
  clear hG
  refine ke_eq_ints (⟨_, ho, rfl, n, rfl⟩ : s.heap.IsList a vs.toArray) (⟨_, ho', rfl, n', rfl⟩ : s.heap.IsList b us.toArray) (all2_ints r) (all2_ints r') (Nat.lt_of_le_of_lt (Nat.add_le_add_right hu 64) (by decide)) ?_
  exact kp _ _ _ _ s.heap s.toks h rfl R
theorem c_neli {a b : Addr} {xs ys : List AV} {ns ms : List Int} {Q} (hu : c.A.units ≤ 9000) (ha : (a, AO.list xs) ∈ ow) (hb : (b, AO.list ys) ∈ ow) (hx : xs = ns.map .int) (hy : ys = ms.map .int) (h : Q (.bool (decide (ns ≠ ms))) lc ow) : Cmp c .NotEq (.ref a) (.ref b) lc ow Q := by
  subst hx hy
  refine ⟨?_⟩
  rintro _ _ rfl rfl
  refine ⟨fun s P E R kp => ?_⟩
  refine bc fun hG => ?_
  obtain ⟨o, ⟨vs, n, rfl, r⟩, ho⟩ := R.get ha
  obtain ⟨o', ⟨us, n', rfl, r'⟩, ho'⟩ := R.get hb
  refine hG ?_
  clear hG
  refine ke_ne_ints (⟨_, ho, rfl, n, rfl⟩ : s.heap.IsList a vs.toArray) (⟨_, ho', rfl, n', rfl⟩ : s.heap.IsList b us.toArray) (all2_ints r) (all2_ints r') (Nat.lt_of_le_of_lt (Nat.add_le_add_right hu 64) (by decide)) ?_
  exact kp (.bool (decide (ns ≠ ms))) _ _ _ s.heap s.toks h (by show Value.bool _ = Value.bool _; congr 1; simp) R
theorem notin_ints {i : Int} {a : Addr} {xs : List AV} {ns : List Int} {Q} (ha : (a, AO.list xs) ∈ ow) (hx : xs = ns.map .int) (h : Q (.bool (decide (i ∉ ns))) lc ow) : Cmp c .NotIn (.int i) (.ref a) lc ow Q := by
  subst hx
  refine ⟨?_⟩
  rintro _ _ ⟨t, rfl⟩ rfl
  refine ⟨fun s P E R kp => ?_⟩
  refine bc fun hG => ?_
  obtain ⟨o, ⟨vs, n, rfl, r⟩, ho⟩ := R.get ha
  refine hG ?_
  clear hG
  refine notin_list_ints (⟨_, ho, rfl, n, rfl⟩ : s.heap.IsList a vs.toArray) (all2_ints r) ?_
  exact kp (.bool (decide (i ∉ ns))) _ _ _ s.heap s.toks h (by show Value.bool _ = Value.bool _; congr 1; rw [Bool.eq_iff_iff]; simp [List.any_eq_true]; exact ⟨fun hh hm => hh _ hm rfl, fun hh y hy e => hh (e ▸ hy)⟩) R
theorem in_str {x y : List Nat} {Q} (h : Q (.bool (!(Builtin.Str.occurrences ⟨x.toArray⟩ ⟨y.toArray⟩ 0 x.length 1).isEmpty)) lc ow) : Cmp c .In (.str y) (.str x) lc ow Q := by
  refine ⟨?_⟩
  rintro _ _ ⟨t, rfl⟩ ⟨u, rfl⟩
  refine ⟨fun s P E R kp => ?_⟩
  refine PySem.P.in_str ?_
  rw [len_str]
  exact kp _ _ _ _ s.heap s.toks h rfl R
theorem is_none {Q} (h : Q (.bool true) lc ow) : Cmp c .Is .none .none lc ow Q := by
  refine ⟨?_⟩
  rintro _ _ rfl rfl
  refine ⟨fun s P E R kp => is_none_none ?_⟩
  exact kp (.bool true) _ _ _ s.heap s.toks h rfl R
theorem is_int {i : Int} {Q} (h : Q (.bool false) lc ow) : Cmp c .Is (.int i) .none lc ow Q := by
  refine ⟨?_⟩
  rintro _ _ ⟨t, rfl⟩ rfl
  refine ⟨fun s P E R kp => is_int_none ?_⟩
  exact kp (.bool false) _ _ _ s.heap s.toks h rfl R
theorem is_ref {a : Addr} {Q} (h : Q (.bool false) lc ow) : Cmp c .Is (.ref a) .none lc ow Q := by
  refine ⟨?_⟩
  rintro _ _ rfl rfl
  refine ⟨fun s P E R kp => is_ref_none ?_⟩
  exact kp (.bool false) _ _ _ s.heap s.toks h rfl R
end
end

section
noncomputable def V (xs : Array Keyed) (i : Nat) : Int := match xs[i]? with
  | some p => numOf p.2
  | none => 0
theorem V_congr {xs ys : Array Keyed} {i j : Nat} (h : xs[i]? = ys[j]?) : V xs i = V ys j := by unfold V; rw [h]
theorem V_bubble {xs : Array Keyed} {src d : Nat} (hs : src < xs.size) (hd : d ≤ src) (k : Nat) :
    V (bubble xs src d) k = if k = src - d then V xs src else if src - d < k ∧ k ≤ src then V xs (k - 1) else V xs k := by
  have e := getElem?_bubble hs d hd k
  by_cases h1 : k = src - d
  · rw [if_pos h1] at e ⊢; exact V_congr e
  · rw [if_neg h1] at e ⊢
    by_cases h2 : src - d < k ∧ k ≤ src
    · rw [if_pos h2] at e ⊢; exact V_congr e
    · rw [if_neg h2] at e ⊢; exact V_congr e
theorem V_mirror {xs : Array Keyed} {i j : Nat} (hj : j ≤ xs.size) (k : Nat) :
    V (mirror xs i j ((j - i) / 2)) k = if i ≤ k ∧ k < j then V xs (i + j - 1 - k) else V xs k := by
  have e := getElem?_mirror_all (i := i) hj k
  by_cases h1 : i ≤ k ∧ k < j
  · rw [if_pos h1] at e ⊢; exact V_congr e
  · rw [if_neg h1] at e ⊢; exact V_congr e
noncomputable def Inc (N : Nat) (xs : Array Keyed) (n : Nat) : Prop := ∀ i j, i < j → n ≤ j → j < N → V xs i < V xs j
noncomputable def Asc (xs : Array Keyed) (n : Nat) : Prop := ∀ i j, i < j → j < n → K xs i < K xs j ∨ (K xs i = K xs j ∧ V xs i < V xs j)
noncomputable def Dsc (xs : Array Keyed) (n : Nat) : Prop := ∀ i j, i < j → j < n → K xs j < K xs i ∨ (K xs i = K xs j ∧ V xs j < V xs i)

theorem Inc.le {N : Nat} {xs : Array Keyed} {n m : Nat} (h : Inc N xs n) (hm : n ≤ m) : Inc N xs m := fun i j a b c => h i j a (by wtm_at "om") c
theorem Inc.mirror {N : Nat} {xs : Array Keyed} {n b : Nat} (h : Inc N xs n) (hs : n ≤ xs.size) : Inc N (mirror xs b n ((n - b) / 2)) n := fun i j hij hj hN => by
  rw [V_mirror hs, V_mirror hs, if_neg (show ¬ (b ≤ j ∧ j < n) by wtm_at "om")]
  split
  · exact h _ _ (by wtm_at "om") hj hN
  · exact h _ _ hij hj hN

section
variable {prog : Program} {w : World} {A : Around} {E : Value → Shared → Prop} {s : Shared} {a₀ : Array Keyed} {N : Nat}

theorem st_asc {st : SortSt} {a nrem : Nat} {Q : AscSt → SortSt → Prop} (h0 : IntKeys a₀) (hn : nrem ≤ a₀.size) (ha : 1 ≤ a) (han : a ≤ nrem) (hB : SBase a₀ st)
    (hs : Asc (arrOf st) a) (hI : Inc N (arrOf st) a) (hN : a₀.size ≤ N)
    (h : ∀ n, a ≤ n → n ≤ nrem → Asc (arrOf st) n → (n = nrem ∨ K (arrOf st) n < K (arrOf st) (n - 1)) → Q (none, n) st) :
    wpS (model prog w) A E s (ascLoop a nrem) Q st := by
  unfold ascLoop
  refine wpS_forRange (I := fun x c st' => st' = st ∧ c = (none, x) ∧ Asc (arrOf st) x) ?step ?fin ⟨rfl, rfl, hs⟩
  case fin =>
    rintro c st' ⟨rfl, rfl, hs'⟩
    rw [show max a nrem = nrem by wtm_at "om"] at hs' ⊢
    exact h nrem han (Nat.le_refl _) hs' (.inl rfl)
  case step =>
    rintro x c st' hax hxn ⟨rfl, rfl, hs'⟩
    dsimp only
    refine wpS_bind (wpS_ltK hB h0 (by wtm_at "om") (by wtm_at "om") ?_)
    by_cases hless : K (arrOf st') x < K (arrOf st') (x - 1)
    · simp only [hless, decide_true, if_true]
      exact wpS_pure (h x hax (by wtm_at "om") hs' (.inr hless))
    · simp only [hless, decide_false, Bool.false_eq_true, if_false]
      refine wpS_pure ⟨rfl, rfl, fun i j hij hj => ?_⟩
      by_cases hjx : j < x
      · exact hs' i j hij hjx
      · have hj' : j = x := by wtm_at "om"
        subst hj'
        have hv := hI i j hij hax (by wtm_at "om")
        by_cases hi' : i = j - 1
        · subst hi'; wtm_at "om"
        · have := hs' i (j - 1) (by wtm_at "om") (by wtm_at "om")
          wtm_at "om"

theorem st_tail3 {st : SortSt} {n nrem : Nat} {Q : Option Nat → SortSt → Prop} (h0 : IntKeys a₀) (hn : nrem ≤ a₀.size) (h1 : 1 ≤ n) (hnn : n ≤ nrem) (hB : SBase a₀ st)
    (hs : Dsc (arrOf st) n) (hI : Inc N (arrOf st) n) (hN : a₀.size ≤ N) (h : ∀ m st', SBase a₀ st' → 1 ≤ m → m ≤ nrem → Asc (arrOf st') m → Inc N (arrOf st') m → Q (some m) st') :
    wpS (model prog w) A E s (tail3 n nrem) Q st := by
  unfold tail3
  have hsz : n ≤ (arrOf st).size := by rw [hB.size]; wtm_at "om"
  refine wpS_bind (wpS_reverse ?_)
  have hB' : SBase a₀ (setArr st (mirror (arrOf st) 0 n ((n - 0) / 2))) := hB.setArr (mirror_perm _ _ _ _)
  have hI' : Inc N (arrOf (setArr st (mirror (arrOf st) 0 n ((n - 0) / 2)))) n := hI.mirror hsz
  refine wpS_bind (st_asc h0 hn h1 hnn hB' ?_ hI' hN fun m hm1 hm2 hsm _ => wpS_pure (h m _ hB' (by wtm_at "om") hm2 hsm (hI'.le hm1)))
  intro i j hij hj
  show K (mirror (arrOf st) 0 n ((n - 0) / 2)) i < K (mirror (arrOf st) 0 n ((n - 0) / 2)) j ∨ (K (mirror (arrOf st) 0 n ((n - 0) / 2)) i = K (mirror (arrOf st) 0 n ((n - 0) / 2)) j ∧ V (mirror (arrOf st) 0 n ((n - 0) / 2)) i < V (mirror (arrOf st) 0 n ((n - 0) / 2)) j)
  rw [K_mirror hsz, K_mirror hsz, V_mirror hsz, V_mirror hsz, if_pos (by wtm_at "om"), if_pos (by wtm_at "om"), if_pos (by wtm_at "om"), if_pos (by wtm_at "om")]
  have := hs (0 + n - 1 - j) (0 + n - 1 - i) (by rw [Nat.zero_add]; exact Nat.sub_lt_sub_left (Nat.lt_of_lt_of_le hij (Nat.le_sub_one_of_lt hj)) hij) (by wtm_at "om")
  wtm_at "om"

/-- a descending run, its last block of equals not turned yet -/
structure Mid (N : Nat) (xs : Array Keyed) (b x : Nat) : Prop where
  lt : b < x
  dsc : Dsc xs b
  over : ∀ i j, i < b → b ≤ j → j < x → K xs j < K xs i
  same : ∀ i, b ≤ i → i < x → K xs i = K xs (x - 1)
  inc : Inc N xs b
theorem Mid.turn {xs : Array Keyed} {b x : Nat} (h : Mid N xs b x) (hx : x ≤ xs.size) (hN : xs.size ≤ N) : Dsc (mirror xs b x ((x - b) / 2)) x ∧ Inc N (mirror xs b x ((x - b) / 2)) x := by
  refine ⟨fun i j hij hj => ?_, (h.inc.le (Nat.le_of_lt h.lt)).mirror hx⟩
  rw [K_mirror_equal hx h.same, K_mirror_equal hx h.same, V_mirror hx, V_mirror hx]
  by_cases hjb : j < b
  · rw [if_neg (by wtm_at "om"), if_neg (by wtm_at "om")]; exact h.dsc i j hij hjb
  · by_cases hib : i < b
    · exact .inl (h.over i j hib (by wtm_at "om") hj)
    · right
      rw [if_pos (by wtm_at "om"), if_pos (by wtm_at "om")]
      have hix : i < b + x - 1 := by wtm_at "om"
      refine ⟨by rw [h.same i (by wtm_at "om") (by wtm_at "om"), h.same j (by wtm_at "om") hj], h.inc _ _ (Nat.sub_lt_sub_left hix hij) (by wtm_at "om") (by wtm_at "om")⟩
theorem Mid.one {xs : Array Keyed} {x : Nat} (hd : Dsc xs x) (hi : Inc N xs x) (h1 : 1 ≤ x) (hless : K xs x < K xs (x - 1)) : Mid N xs x (x + 1) :=
  ⟨by wtm_at "om", hd, fun i j hi hj hjx => by
    have e : j = x := by wtm_at "om"
    subst e
    by_cases e : i = j - 1
    · subst e; exact hless
    · have := hd i (j - 1) (by wtm_at "om") (by wtm_at "om"); wtm_at "om", fun i h1 h2 => by congr 1; wtm_at "om", hi⟩
theorem Mid.single {xs : Array Keyed} {b : Nat} (h : Mid N xs b (b + 1)) : Dsc xs (b + 1) ∧ Inc N xs (b + 1) :=
  ⟨fun i j hij hj => by
    by_cases hjb : j < b
    · exact h.dsc i j hij hjb
    · exact .inl (h.over i j (by wtm_at "om") (by wtm_at "om") hj), h.inc.le (Nat.le_succ _)⟩

theorem st_desc {st : SortSt} {n nrem : Nat} {Q : DescSt → SortSt → Prop} (h0 : IntKeys a₀) (hn : nrem ≤ a₀.size) (hN : a₀.size = N) (h1 : 1 ≤ n) (hnn : n ≤ nrem) (hB : SBase a₀ st)
    (hs : Mid N (arrOf st) (n - 1) n)
    (h : ∀ m neq st', SBase a₀ st' → n ≤ m → m ≤ nrem → neq + 1 ≤ m → Mid N (arrOf st') (m - (neq + 1)) m → Q (none, m, neq) st') :
    wpS (model prog w) A E s (descLoop n nrem) Q st := by
  unfold descLoop
  refine wpS_forRange (I := fun x c st' => ∃ neq, c = (none, x, neq) ∧ SBase a₀ st' ∧ neq + 1 ≤ x ∧ Mid N (arrOf st') (x - (neq + 1)) x) ?step ?fin ⟨0, rfl, hB, h1, hs⟩
  case fin =>
    rintro c st' ⟨neq, rfl, hB', hq, hM⟩
    rw [show max n nrem = nrem by wtm_at "om"] at hM hq ⊢
    exact h nrem neq st' hB' hnn (Nat.le_refl _) hq hM
  case step =>
    rintro x c st' hax hxn ⟨neq, rfl, hB', hq, hM⟩
    dsimp only
    have hsz : x ≤ (arrOf st').size := by rw [hB'.size]; wtm_at "om"
    refine wpS_bind (wpS_ltK hB' h0 (by wtm_at "om") (by wtm_at "om") ?_)
    by_cases hless : K (arrOf st') x < K (arrOf st') (x - 1)
    · simp only [hless, decide_true, if_true]
      by_cases hneq : neq > 0
      · rw [if_pos hneq]
        have ht := hM.turn hsz (by rw [hB'.size]; wtm_at "om")
        refine wpS_bind (wpS_reverse (wpS_pure ⟨0, rfl, hB'.setArr (mirror_perm _ _ _ _), by wtm_at "om", ?_⟩))
        refine Mid.one ht.1 ht.2 (by wtm_at "om") ?_
        show K (mirror (arrOf st') _ _ _) _ < K (mirror (arrOf st') _ _ _) _
        rw [K_mirror_equal hsz hM.same, K_mirror_equal hsz hM.same]
        exact hless
      · rw [if_neg hneq]
        have hn0 : neq = 0 := by wtm_at "om"
        subst hn0
        have e : x - (0 + 1) + 1 = x := by wtm_at "om"
        have hM' : Mid N (arrOf st') (x - (0 + 1)) (x - (0 + 1) + 1) := by rw [e]; exact hM
        have hd := hM'.single
        rw [e] at hd
        exact wpS_pure ⟨0, rfl, hB', by wtm_at "om", Mid.one hd.1 hd.2 (by wtm_at "om") hless⟩
    · simp only [hless, decide_false, Bool.false_eq_true, if_false]
      refine wpS_bind (wpS_ltK hB' h0 (by wtm_at "om") (by wtm_at "om") ?_)
      by_cases hlarger : K (arrOf st') (x - 1) < K (arrOf st') x
      · simp only [hlarger, decide_true, if_true]
        exact wpS_pure (h x neq st' hB' hax (by wtm_at "om") hq hM)
      · simp only [hlarger, decide_false, Bool.false_eq_true, if_false]
        have heqx : K (arrOf st') x = K (arrOf st') (x - 1) := by wtm_at "om"
        refine wpS_pure ⟨neq + 1, rfl, hB', by wtm_at "om", ?_⟩
        rw [show x + 1 - (neq + 1 + 1) = x - (neq + 1) by wtm_at "om"]
        refine ⟨by wtm_at "om", hM.dsc, fun i j hi hj hjx => ?_, fun i h1 h2 => ?_, hM.inc⟩
        · by_cases e : j = x
          · subst e; rw [heqx]; exact hM.over i (j - 1) hi (by wtm_at "om") (by wtm_at "om")
          · exact hM.over i j hi hj (by wtm_at "om")
        · rw [show x + 1 - 1 = x by wtm_at "om"]
          by_cases hix : i = x
          · subst hix; rfl
          · rw [heqx]; exact hM.same i (by wtm_at "om") (by wtm_at "om")

theorem st_descPart {st : SortSt} {n nrem : Nat} {Q : Option Nat → SortSt → Prop} (h0 : IntKeys a₀) (hn : nrem ≤ a₀.size) (hN : a₀.size = N) (hnn : n + 1 ≤ nrem) (hB : SBase a₀ st)
    (hs : Mid N (arrOf st) n (n + 1)) (h : ∀ m st', SBase a₀ st' → 1 ≤ m → m ≤ nrem → Asc (arrOf st') m → Inc N (arrOf st') m → Q (some m) st') :
    wpS (model prog w) A E s (descPart n nrem) Q st := by
  unfold descPart
  refine wpS_bind (wpS_lift (wpAny_rule ⟨rfl, ?_⟩))
  refine wpS_bind (st_desc h0 hn hN (by wtm_at "om") hnn hB hs fun m neq st' hB' hm1 hm2 hq hM => ?_)
  dsimp only
  have hsz : m ≤ (arrOf st').size := by rw [hB'.size]; wtm_at "om"
  by_cases hneq : neq > 0
  · rw [if_pos hneq]
    have ht := hM.turn hsz (by rw [hB'.size]; wtm_at "om")
    exact wpS_bind (wpS_reverse (st_tail3 h0 hn (by wtm_at "om") hm2 (hB'.setArr (mirror_perm _ _ _ _)) ht.1 ht.2 (Nat.le_of_eq hN) h))
  · rw [if_neg hneq]
    have hn0 : neq = 0 := by wtm_at "om"
    subst hn0
    have e : m - (0 + 1) + 1 = m := by wtm_at "om"
    have hM' : Mid N (arrOf st') (m - (0 + 1)) (m - (0 + 1) + 1) := by rw [e]; exact hM
    have hd := hM'.single
    rw [e] at hd
    exact st_tail3 h0 hn (by wtm_at "om") hm2 hB' hd.1 hd.2 (Nat.le_of_eq hN) h

theorem st_countRun {st : SortSt} {nrem : Nat} {Q : Option Nat → SortSt → Prop} (h0 : IntKeys a₀) (hn : nrem ≤ a₀.size) (hN : a₀.size = N) (h1 : 1 ≤ nrem) (hB : SBase a₀ st) (hI : Inc N (arrOf st) 0)
    (h : ∀ m st', SBase a₀ st' → 1 ≤ m → m ≤ nrem → Asc (arrOf st') m → Inc N (arrOf st') m → Q (some m) st') :
    wpS (model prog w) A E s (countRun' 0 nrem) Q st := by
  rw [countRun0_eq]
  refine wpS_bind (st_asc h0 hn (Nat.le_refl 1) h1 hB (fun i j hij hj => by wtm_at "om") (hI.le (Nat.zero_le _)) (Nat.le_of_eq hN) fun n hn1 hn2 hsn hor => ?_)
  dsimp only
  by_cases hnn : n = nrem
  · rw [if_pos (by simpa using hnn)]
    exact wpS_pure (h n st hB hn1 hn2 hsn (hI.le (Nat.zero_le _)))
  · rw [if_neg (by simpa using hnn)]
    have hlt : K (arrOf st) n < K (arrOf st) (n - 1) := hor.resolve_left hnn
    by_cases hgt : n > 1
    · rw [if_pos hgt]
      refine wpS_bind (wpS_ltK hB h0 (by wtm_at "om") (by wtm_at "om") ?_)
      by_cases hrose : K (arrOf st) 0 < K (arrOf st) (n - 1)
      · simp only [hrose, decide_true, if_true]
        exact wpS_pure (h n st hB hn1 hn2 hsn (hI.le (Nat.zero_le _)))
      · simp only [hrose, decide_false, Bool.false_eq_true, if_false]
        have hsz : n ≤ (arrOf st).size := by rw [hB.size]; wtm_at "om"
        have hall : ∀ k, 0 ≤ k → k < n → K (arrOf st) k = K (arrOf st) (n - 1) := by
          intro k _ hk
          by_cases e0 : k = 0
          · subst e0
            have a2 := hsn 0 (n - 1) (by wtm_at "om") (by wtm_at "om")
            wtm_at "om"
          · by_cases e1 : k = n - 1
            · rw [e1]
            · have a1 := hsn 0 k (by wtm_at "om") hk
              have a2 := hsn k (n - 1) (by wtm_at "om") (by wtm_at "om")
              wtm_at "om"
        have hM : Mid N (arrOf st) 0 n := ⟨by wtm_at "om", fun i j _ hj => by wtm_at "om", fun i j hi => by wtm_at "om", hall, hI⟩
        have ht := hM.turn hsz (by rw [hB.size]; wtm_at "om")
        refine wpS_bind (wpS_reverse (st_descPart h0 hn hN (by wtm_at "om") (hB.setArr (mirror_perm _ _ _ _)) (Mid.one ht.1 ht.2 (by wtm_at "om") ?_) h))
        show K (mirror (arrOf st) _ _ _) _ < K (mirror (arrOf st) _ _ _) _
        rw [K_mirror_equal hsz hall, K_mirror_equal hsz hall]
        exact hlt
    · rw [if_neg hgt]
      have hn1' : n = 1 := by wtm_at "om"
      subst hn1'
      exact st_descPart h0 hn hN (by wtm_at "om") hB (Mid.one (fun i j hij hj => by wtm_at "om") (hI.le (Nat.zero_le _)) (by wtm_at "om") hlt) h

theorem st_binarySort {st : SortSt} {n ok : Nat} {Q : Bool → SortSt → Prop} (h0 : IntKeys a₀) (hn : n ≤ a₀.size) (hN : a₀.size = N) (hok : ok ≤ n) (hB : SBase a₀ st) (hs : Asc (arrOf st) ok) (hI : Inc N (arrOf st) ok)
    (h : ∀ st', SBase a₀ st' → Asc (arrOf st') n → Q true st') : wpS (model prog w) A E s (binarySort' 0 n ok) Q st := by
  rw [binarySort'_eq]
  simp only [Nat.zero_add]
  refine wpS_bind (wpS_mono (wpS_forRange (I := fun k c st' => c = (none, ()) ∧ SBase a₀ st' ∧ Asc (arrOf st') (min k n) ∧ Inc N (arrOf st') k)
    (Q := fun c st' => c = (none, ()) ∧ SBase a₀ st' ∧ Asc (arrOf st') n) ?step ?fin ?init) ?post)
  case post =>
    rintro c st' ⟨rfl, hB', hs'⟩
    exact wpS_pure (h st' hB' hs')
  case init =>
    refine ⟨rfl, hB, fun i j hij hj => ?_, hI.le (by wtm_at "om")⟩
    by_cases h1 : ok = 0
    · wtm_at "om"
    · exact hs i j hij (by wtm_at "om")
  case fin =>
    rintro c st' ⟨hc, hB', hs', _⟩
    refine ⟨hc, hB', ?_⟩
    rwa [show min (max (max ok 1) n) n = n by wtm_at "om"] at hs'
  case step =>
    rintro k c st' hak hkn ⟨rfl, hB', hs', hI'⟩
    rw [show min k n = k by wtm_at "om"] at hs'
    have hk : k < a₀.size := by wtm_at "om"
    have mono : ∀ i j, i ≤ j → j < k → K (arrOf st') i ≤ K (arrOf st') j := fun i j hij hj => by
      by_cases e : i = j
      · subst e; exact Int.le_refl _
      · have := hs' i j (by wtm_at "om") hj; wtm_at "om"
    refine wpS_bind (wpS_mono (wpS_forRange (I := fun x c st'' => st'' = st' ∧ ∃ l r, c = (none, l, r) ∧ l ≤ r ∧ r ≤ k ∧ r - l ≤ k - x ∧
        (∀ i, i < l → K (arrOf st') i ≤ K (arrOf st') k) ∧ (∀ i, r ≤ i → i < k → K (arrOf st') k < K (arrOf st') i))
      (Q := fun c st'' => st'' = st' ∧ ∃ l r, c = (none, l, r) ∧ l ≤ k ∧
        (∀ i, i < l → K (arrOf st') i ≤ K (arrOf st') k) ∧ (∀ i, l ≤ i → i < k → K (arrOf st') k < K (arrOf st') i)) ?istep ?ifin ?iinit) ?ipost)
    case iinit => exact ⟨rfl, 0, k, rfl, by wtm_at "om", by wtm_at "om", by wtm_at "om", fun i hi => by wtm_at "om", fun i h1 h2 => by wtm_at "om"⟩
    case ifin =>
      rintro c st'' ⟨rfl, l, r, rfl, hlr, hrk, hm, hlo, hhi⟩
      have : l = r := by wtm_at "om"
      subst this
      exact ⟨rfl, l, l, rfl, hrk, hlo, hhi⟩
    case istep =>
      rintro x c st'' _ hxk ⟨rfl, l, r, rfl, hlr, hrk, hm, hlo, hhi⟩
      dsimp only
      by_cases hge : l ≥ r
      · rw [if_pos hge]
        have : l = r := by wtm_at "om"
        subst this
        exact wpS_pure ⟨rfl, l, l, rfl, hrk, hlo, hhi⟩
      · rw [if_neg hge]
        refine wpS_bind (wpS_ltK hB' h0 hk (by wtm_at "om") ?_)
        by_cases hless : K (arrOf st'') k < K (arrOf st'') ((l + r) / 2)
        · simp only [hless, decide_true, if_true]
          have hlr' : l < r := Nat.lt_of_not_le hge
          have hm1 : l ≤ (l + r) / 2 := by wtm_at "om"
          have hm2 : (l + r) / 2 < r := by wtm_at "om"
          refine wpS_pure ⟨rfl, l, (l + r) / 2, rfl, hm1, Nat.le_trans (Nat.le_of_lt hm2) hrk, Nat.le_trans (Nat.le_pred_of_lt (Nat.sub_lt_sub_right hm1 hm2)) (Nat.pred_le_pred hm), hlo, fun i h1 h2 => ?_⟩
          exact Int.lt_of_lt_of_le hless (mono _ _ h1 h2)
        · simp only [hless, decide_false, Bool.false_eq_true, if_false]
          have hlr' : l < r := Nat.lt_of_not_le hge
          have hm1 : l ≤ (l + r) / 2 := by wtm_at "om"
          have hm2 : (l + r) / 2 < r := by wtm_at "om"
          refine wpS_pure ⟨rfl, (l + r) / 2 + 1, r, rfl, hm2, hrk, Nat.le_trans (Nat.sub_le_sub_left (Nat.succ_le_succ hm1) r) (Nat.pred_le_pred hm), fun i h1 => ?_, hhi⟩
          exact Int.le_trans (mono i ((l + r) / 2) (by wtm_at "om") (by wtm_at "om")) (Int.not_lt.mp hless)
    case ipost =>
      rintro c st'' ⟨rfl, l, r, rfl, hlk, hlo, hhi⟩
      show wpS _ _ _ _ (do moveDown' k l; pure (ForInStep.yield (none, ()))) _ _
      rw [moveDown'_eq]
      have hks : k < (arrOf st'').size := by rw [hB'.size]; exact hk
      refine wpS_bind (wpS_modify (wpS_pure ⟨rfl, hB'.setArr (bubble_perm _ _ _), ?_, ?_⟩))
      · rw [show min (k + 1) n = k + 1 by wtm_at "om"]
        intro i j hij hj
        show K (bubble (arrOf st'') k (k - l)) i < K (bubble (arrOf st'') k (k - l)) j ∨ (K (bubble (arrOf st'') k (k - l)) i = K (bubble (arrOf st'') k (k - l)) j ∧ V (bubble (arrOf st'') k (k - l)) i < V (bubble (arrOf st'') k (k - l)) j)
        rw [K_bubble hks (by wtm_at "om"), K_bubble hks (by wtm_at "om"), V_bubble hks (by wtm_at "om"), V_bubble hks (by wtm_at "om"), show k - (k - l) = l by wtm_at "om"]
        by_cases hil : i = l
        · have q1 : ¬ j = l := by wtm_at "om"
          have q2 : l < j ∧ j ≤ k := by wtm_at "om"
          simp only [if_pos hil, if_neg q1, if_pos q2]
          exact .inl (hhi _ (by wtm_at "om") (by wtm_at "om"))
        · rw [if_neg hil, if_neg hil]
          by_cases hjl : j = l
          · have q1 : ¬ (l < i ∧ i ≤ k) := by wtm_at "om"
            simp only [if_pos hjl, if_neg q1]
            exact (Int.lt_or_eq_of_le (hlo i (by wtm_at "om"))).imp id fun e => ⟨e, hI' i k (by wtm_at "om") (Nat.le_refl _) (by wtm_at "om")⟩
          · rw [if_neg hjl, if_neg hjl]
            by_cases hjb : l < j ∧ j ≤ k
            · rw [if_pos hjb, if_pos hjb]
              by_cases hib : l < i ∧ i ≤ k
              · rw [if_pos hib, if_pos hib]; exact hs' _ _ (by wtm_at "om") (by wtm_at "om")
              · rw [if_neg hib, if_neg hib]; exact hs' _ _ (by wtm_at "om") (by wtm_at "om")
            · have q1 : ¬ (l < i ∧ i ≤ k) := by wtm_at "om"
              simp only [if_neg hjb, if_neg q1]; exact hs' _ _ (by wtm_at "om") (by wtm_at "om")
      · intro i j hij hj hjN
        show V (bubble (arrOf st'') k (k - l)) i < V (bubble (arrOf st'') k (k - l)) j
        rw [V_bubble hks (by wtm_at "om"), V_bubble hks (by wtm_at "om"), show k - (k - l) = l by wtm_at "om", if_neg (show ¬ j = l by wtm_at "om"), if_neg (show ¬ (l < j ∧ j ≤ k) by wtm_at "om")]
        repeat' split
        all_goals exact hI' _ _ (by wtm_at "om") (by wtm_at "om") hjN

noncomputable def SDoneS (a₀ : Array Keyed) (st : SortSt) : Prop :=
  (arrOf st).Perm a₀ ∧ failedOf st = none ∧ pendingOf st = #[(0, a₀.size, 0)] ∧ Asc (arrOf st) a₀.size
theorem done_st {st : SortSt} (hB : SBase a₀ st) (hs : Asc (arrOf st) a₀.size) : SDoneS a₀ (setPending st ((pendingOf st).push (0, a₀.size, 0))) :=
  ⟨hB.perm, hB.failed, by show (pendingOf st).push _ = _; rw [hB.pend]; rfl, hs⟩
theorem st_sortRuns {st : SortSt} {Q : Unit → SortSt → Prop} (h0 : IntKeys a₀) (hB : SBase a₀ st) (hI : Inc a₀.size (arrOf st) 0) (h2 : 2 ≤ a₀.size) (h64 : a₀.size < 64)
    (h : ∀ st', (arrOf st').Perm a₀ → failedOf st' = none → Asc (arrOf st') a₀.size → Q () st') : wpS (model prog w) A E s sortRuns' Q st := by
  rw [sortRuns'_eq]
  refine wpS_bind (wpS_get ?_)
  dsimp only
  have hmr : minRun' a₀.size a₀.size 0 = a₀.size := by
    obtain ⟨f, hf⟩ : ∃ f, a₀.size = f + 1 := ⟨a₀.size - 1, by wtm_at "om"⟩
    have : minRun' (f + 1) a₀.size 0 = a₀.size := by rw [minRun'_succ, if_pos h64]; rfl
    rwa [← hf] at this
  simp only [hB.size, hmr]
  refine wpS_bind (wpS_mono (wpS_forRange
    (I := fun x c st' => (x = 0 ∧ c = (none, 0) ∧ SBase a₀ st' ∧ Inc a₀.size (arrOf st') 0) ∨ (1 ≤ x ∧ c = (none, a₀.size) ∧ SDoneS a₀ st'))
    (Q := fun c st' => c = (none, a₀.size) ∧ SDoneS a₀ st') ?step ?fin (.inl ⟨rfl, rfl, hB, hI⟩)) ?post)
  case fin =>
    rintro c st' (⟨hx, _, _⟩ | ⟨_, hc, hD⟩)
    · wtm_at "om"
    · exact ⟨hc, hD⟩
  case step =>
    rintro x c st' _ hx (⟨rfl, rfl, hB', hI'⟩ | ⟨hx1, rfl, hD⟩)
    · dsimp only
      rw [if_neg (by wtm_at "om")]
      simp only [Nat.sub_zero, Nat.min_self, Nat.zero_add]
      refine wpS_bind (st_countRun (N := a₀.size) h0 (Nat.le_refl _) rfl (by wtm_at "om") hB' hI' fun m st2 hB2 hm1 hm2 hs2 hI2 => ?_)
      dsimp only
      by_cases hlt : m < a₀.size
      · rw [if_pos hlt]
        refine wpS_bind (wpS_lift (wpAny_rule ⟨rfl, ?_⟩))
        refine wpS_bind (st_binarySort h0 (Nat.le_refl _) rfl hm2 hB2 hs2 hI2 fun st3 hB3 hs3 => ?_)
        simp only [Bool.not_true, Bool.false_eq_true, if_false]
        refine wpS_bind (wpS_get ?_)
        have hb : (pendingOf st3).back? = none := by rw [hB3.pend]; rfl
        rw [hb]
        dsimp only
        exact wpS_bind (wpS_modify (wpS_pure (.inr ⟨by wtm_at "om", rfl, done_st hB3 hs3⟩)))
      · rw [if_neg hlt]
        have hm : m = a₀.size := by wtm_at "om"
        subst hm
        refine wpS_bind (wpS_get ?_)
        have hb : (pendingOf st2).back? = none := by rw [hB2.pend]; rfl
        rw [hb]
        dsimp only
        exact wpS_bind (wpS_modify (wpS_pure (.inr ⟨by wtm_at "om", rfl, done_st hB2 hs2⟩)))
    · dsimp only
      rw [if_pos (Nat.le_refl _)]
      exact wpS_pure ⟨rfl, hD⟩
  case post =>
    rintro c st' ⟨rfl, hD⟩
    dsimp only
    refine wpS_bind (wpS_mono (wpS_forRange (I := fun _ c st'' => st'' = st' ∧ c = (none, ())) (Q := fun c st'' => st'' = st' ∧ c = (none, ())) ?_ (fun _ _ hh => hh) ⟨rfl, rfl⟩) ?_)
    · rintro x c st'' _ _ ⟨rfl, rfl⟩
      refine wpS_bind (wpS_get ?_)
      rw [if_pos (by rw [hD.2.2.1]; exact Nat.le_refl 1)]
      exact wpS_pure ⟨rfl, rfl⟩
    · rintro c st'' ⟨rfl, rfl⟩
      exact wpS_pure (h _ hD.1 hD.2.1 hD.2.2.2)
end
end


noncomputable def retP (Q : AV → LC → OW → Prop) (lc : LC) : AF → LC → OW → Prop
  | .ret a, _, ow' => ∃ ow'', Pick ow' ow'' ∧ Q a lc ow''
  | _, _, ow' => ∃ ow'', Pick ow' ow'' ∧ Q .none lc ow''
theorem ret_ok {Q : AV → LC → OW → Prop} {lc lc' : LC} {ow' ow'' : OW} {a : AV} (p : Pick ow' ow'') (q : Q a lc ow'') : retP Q lc (.ret a) lc' ow' := ⟨ow'', p, q⟩
theorem ret_none {Q : AV → LC → OW → Prop} {lc lc' : LC} {ow' ow'' : OW} (p : Pick ow' ow'') (q : Q .none lc ow'') : retP Q lc .next lc' ow' := ⟨ow'', p, q⟩
theorem sx_retQ {c : Cx} {t : Sem Flow} {lc lc' : LC} {ow : OW} {Q : AV → LC → OW → Prop} (h : SX c t lc ow (retP Q lc')) : SX c t lc ow (retQ Q lc') :=
  AWp.post (h.mono fun f lc1 ow1 q => by
    cases f <;> (obtain ⟨ow'', p, q⟩ := q; exact ⟨lc1, ow'', p, fun _ _ e => e, q⟩))

section
variable {K : Frag} {c : Cx} {lc : LC} {ow : OW} {env : Env} {n : Nat}
structure FnS (names : List Str) (st : Stmt) : Prop where
  nd : names.Nodup
  loc : ∀ x ∈ names, (fScope st).names.lookup x = some .local
  cell : ∀ x ∈ (fScope st).names, x.2 ≠ .cell
  co : (fScope st).isCoroutine = false
  gen : (fScope st).isGenerator = false
  kind : (fScope st).kind = .function
noncomputable abbrev BodyOf (K : Frag) (c : Cx) (n : Nat) (f cd : Addr) (qual : Str) (st : Stmt) (names : List Str) (bs : List AV) (ow : OW) (Q : AV → LC → OW → Prop) (lc : LC) : Prop :=
  ∀ c' : Cx, c'.w = c.w → c'.A.handled = c.A.handled → Act K c' n (envX qual (fScope st) c'.L f (.ref cd) []) →
      SX c' (execs (fBody st) (envX qual (fScope st) c'.L f (.ref cd) [])) (names.zip bs) ow (retP Q lc)
theorem cal_pos {f cd : Addr} {qual : Str} {st : Stmt} {dV kV : Value} {as : List AV} {names : List Str} {Q} (A : Act K c (n + 1) env) (F : FnK K f cd qual st dV kV) (S : FnS names st) (hn : names.length = as.length)
    (hb : ∀ vs : List Value, vs.length = as.length → ∀ doc pm an ct, bindArgs (fnX (fName st) qual (fArgs st) (fBody st) (fScope st) [] dV kV doc pm an (.ref cd) ct) ⟨vs, []⟩ = pure (names.zip vs))
    (h : BodyOf K c n f cd qual st names as ow Q lc) : Cal c (.con (.ref f)) as [] lc ow Q :=
  cal_fn A F (fun vs kvs ra hk _ => ⟨vs, ra, fun s doc pm an ct _ => by
    cases kvs with
    | nil => exact BindsTo.of_eq (hb vs ra.length.symm doc pm an ct)
    | cons => cases hk⟩) hn S.nd S.loc S.cell S.co S.gen S.kind fun c' hw hh A' => sx_retQ (h c' hw hh A')
end
theorem len1 {α : Type} {P : List α → Prop} (h : ∀ a, P [a]) : ∀ vs : List α, vs.length = 1 → P vs
  | [a], _ => h a
theorem len2 {α : Type} {P : List α → Prop} (h : ∀ a b, P [a, b]) : ∀ vs : List α, vs.length = 2 → P vs
  | [a, b], _ => h a b
theorem len3 {α : Type} {P : List α → Prop} (h : ∀ a b c, P [a, b, c]) : ∀ vs : List α, vs.length = 3 → P vs
  | [a, b, c], _ => h a b c
theorem len6 {α : Type} {P : List α → Prop} (h : ∀ a b c d e f, P [a, b, c, d, e, f]) : ∀ vs : List α, vs.length = 6 → P vs := fun vs q => by
  obtain ⟨a, b, c, d, e, f, rfl⟩ := ln6 q
  exact h a b c d e f

theorem mem0 {p : Addr × AO} {r : OW} : p ∈ p :: r := .head _
theorem mem1 {p q : Addr × AO} {r : OW} (h : p ∈ r) : p ∈ q :: r := .tail _ h
local macro_rules | `(tactic| wtm_at "mm") => `(tactic| with_reducible first | exact mem0 | assumption | (show _ ∈ (_ :: _); exact mem1 (by wtm_at "mm")))
local macro_rules | `(tactic| wtm_at "lg") => `(tactic| with_reducible first | exact lget_head | (show lget (_ :: _) _ = _; exact lget_tail (by wtm_at "lg")))
local macro_rules | `(tactic| wtm_at "pt") => `(tactic| with_reducible first | exact Put.head | exact Put.nil | (show Put (_ :: _) _ _ _; exact Put.tl (by wtm_at "pt")))
local macro_rules | `(tactic| wtm_at "up") => `(tactic| with_reducible first | exact Upd.head | (show Upd (_ :: _) _ _ _ _; exact Upd.tail (by wtm_at "up")))
local macro_rules | `(tactic| wtm_at "tk") => `(tactic| with_reducible first | exact Take.head | (show Take _ (_ :: _) _; exact Take.tail (by wtm_at "tk")))
local macro_rules | `(tactic| wtm_at "pk") => `(tactic| first | (with_reducible first | exact Pick.all | (show Pick (_ :: _) _; exact Pick.drop (by wtm_at "pk"))) | exact Pick.all)


/-- what is known of names, less -/
noncomputable def LSub (lc' lc : LC) : Prop := ∀ x a, lget lc' x = some a → lget lc x = some a
theorem ls_nil {lc : LC} : LSub [] lc := fun _ _ e => nomatch e
theorem ls_self {lc : LC} : LSub lc lc := fun _ _ e => e
theorem ls_cons {lc r : LC} {y : Str} {b : AV} (h : lget lc y = some b) (k : LSub r lc) : LSub ((y, b) :: r) lc := fun x a e => by
  unfold lget at e
  by_cases hy : y = x
  · rw [if_pos hy] at e; cases e; rw [← hy]; exact h
  · rw [if_neg hy] at e; exact k x a e
local macro_rules | `(tactic| wtm_at "ls") => `(tactic| with_reducible first | exact ls_nil | exact ls_self | (show LSub (_ :: _) _; exact ls_cons (by wtm_at "lg") (by wtm_at "ls")))

section
variable {c : Cx} {lc lc' : LC} {ow ow' : OW} {env : Env}
/-- for, by what its iterator does -/
theorem sx_gen {σ : Type} {target : PySem.Expr} {iter body orelse pos} {Q : AF → LC → OW → Prop} (N : Nat) (itf : σ → Nat → AO) (val : Nat → AV) (J : σ → Nat → LC → OW → Prop)
    (nx1 : ∀ s k it lc ow (R : Option AV → LC → OW → Prop), k < N → J s k lc ow → R (some (val k)) lc ((it, itf s (k + 1)) :: ow) → Nxt c it lc ((it, itf s k) :: ow) R)
    (nx0 : ∀ s it lc ow (R : Option AV → LC → OW → Prop), J s N lc ow → R none lc ow → Nxt c it lc ((it, itf s N) :: ow) R)
    (step : ∀ s k lc ow it o, k < N → J s k lc ow → Asg c env target (val k) lc ((it, o) :: ow) fun lc2 ow2 => SX c (execs body env) lc2 ow2 (LpQ (fun lc3 ow3 => ∃ lc4 ow4, Pick ow3 ((it, o) :: ow4) ∧ LSub lc4 lc3 ∧ J s (k + 1) lc4 ow4) (fun _ _ => False) fun b => Q (.ret b)))
    (fin : ∀ s lc ow, J s N lc ow → SX c (execs orelse env) lc ow Q)
    (h : EV c (eval iter env) lc ow fun a lc1 ow1 => Itr c a lc1 ow1 fun it lc2 ow2 => ∃ s lc0 ow0, Pick ow2 ((it, itf s 0) :: ow0) ∧ LSub lc0 lc2 ∧ J s 0 lc0 ow0)
    (hs : ∀ x, foldedSetIterable iter env x = pure x) (ht : ∀ it v, letOwnedTupleGo target it v = pure ()) : SX c (exec (.For target iter body orelse pos) env) lc ow Q := by
  refine sx_for (fun it n lc ow => ∃ s k lc0 ow0, k ≤ N ∧ n = N - k ∧ Pick ow ((it, itf s k) :: ow0) ∧ LSub lc0 lc ∧ J s k lc0 ow0) (fun it n lc ow hJ => ?_)
    (h.mono fun a lc1 ow1 q => ⟨fun v rv => (q.run v rv).mono fun it lc2 ow2 ⟨s, lc0, ow0, P, S, hJ⟩ => ⟨N, s, 0, lc0, ow0, Nat.zero_le _, rfl, P, S, hJ⟩⟩) hs ht
  refine bc fun hG => ?_
  obtain ⟨s, k, lc0, ow0, hk1, rfl, P, S, hJ⟩ := hJ
  refine hG ?_
  clear hG
  refine ⟨AWp.weak P (AWp.forget S ?_)⟩
  by_cases hlt : k < N
  · refine (nx1 s k it lc0 ow0 _ hlt hJ ⟨fun v rv => ((step s k lc0 ow0 it _ hlt hJ).run v rv).mono fun _ lc2 ow2 q2 => q2.mono fun f lc3 ow3 q => ?_⟩).run
    have g : (∃ lc4 ow4, Pick ow3 ((it, itf s (k + 1)) :: ow4) ∧ LSub lc4 lc3 ∧ J s (k + 1) lc4 ow4) → ∃ m, m < N - k ∧ ∃ s k lc0 ow0, k ≤ N ∧ m = N - k ∧ Pick ow3 ((it, itf s k) :: ow0) ∧ LSub lc0 lc3 ∧ J s k lc0 ow0 :=
      fun ⟨lc4, ow4, p4, s4, j4⟩ => ⟨N - (k + 1), by wtm_at "om", s, k + 1, lc4, ow4, hlt, rfl, p4, s4, j4⟩
    cases f with
    | next => exact g q
    | cont => exact g q
    | brk => exact (q : False).elim
    | ret b => exact q
  · obtain rfl : k = N := by wtm_at "om"
    exact (nx0 s it lc0 ow0 _ hJ (fin s lc0 ow0 hJ)).run
/-- for over a range made at the head -/
theorem sx_range {x : Str} {px : Pos} {iter body orelse pos} {Q : AF → LC → OW → Prop} (a d : Int) (N : Nat) (J : Nat → LC → OW → Prop) (hh : c.A.handled = none)
    (step : ∀ k lc ow, k < N → J k lc ow → ∃ lc', Put lc x (.int (a + k * d)) lc' ∧ ∀ it o, SX c (execs body env) lc' ((it, o) :: ow) (LpQ (fun lc3 ow3 => ∃ lc4 ow4, Pick ow3 ((it, o) :: ow4) ∧ LSub lc4 lc3 ∧ J (k + 1) lc4 ow4) (fun _ _ => False) fun b => Q (.ret b)))
    (fin : ∀ lc ow, J N lc ow → SX c (execs orelse env) lc ow Q)
    (h : EV c (eval iter env) lc ow fun v lc1 ow1 => ∃ r b ow2, v = .ref r ∧ Pick ow1 ((r, .rng a b d) :: ow2) ∧ Builtin.Range.rangeSize a b d = N ∧ Builtin.Range.small a b d = true ∧ J 0 lc1 ow2)
    (hk : autoParam (env.scope.kind = .function) kr0) (hx : autoParam (env.kindOf x = some .local) kr0) (hL : autoParam (env.locals = c.L) kr0)
    (hs : autoParam (∀ x, foldedSetIterable iter env x = pure x) kr1) : SX c (exec (.For (.Name x px) iter body orelse pos) env) lc ow Q :=
  sx_gen (σ := Unit) N (fun _ k => rIt (a + k * d) ((N : Int) - k) d) (fun k => .int (a + k * d)) (fun _ => J)
    (fun _ k it lc ow R hk _ h => nxt_range Upd.head (by wtm_at "om") (by rw [show a + k * d + d = a + ((k + 1 : Nat) : Int) * d by rw [Int.natCast_add, Int.add_mul]; wtm_at "om", show (N : Int) - k - 1 = (N : Int) - ((k + 1 : Nat) : Int) by wtm_at "om"]; exact h))
    (fun _ it lc ow R _ h => nxt_range_end hh Take.head (by wtm_at "om") h)
    (fun _ k lc ow it o hlt hJ => (step k lc ow hlt hJ).elim fun lc' q => asg_name (sto_local q.1 (q.2 it o) hk hx hL)) (fun _ => fin)
    (h.mono fun v lc1 ow1 ⟨r, b, ow2, e, P, hN, hsm, hJ⟩ => by
      subst e
      refine ⟨fun v rv => AWp.weak P ((itr_range mem0 hsm fun it => ⟨(), lc1, ow2, ?_, ls_self, hJ⟩).run v rv)⟩
      rw [hN]
      simp only [Int.natCast_zero, Int.zero_mul, Int.add_zero, Int.sub_zero]
      exact Pick.cons Take.head (Pick.drop Pick.all)) hs (fun _ _ => by kernel_rfl)
theorem sx_rng {x : Str} {px : Pos} {iter body orelse pos} {Q : AF → LC → OW → Prop} (N : Nat) (J : Nat → LC → OW → Prop) (hh : c.A.handled = none)
    (step : ∀ k lc ow, k < N → J k lc ow → ∃ lc', Put lc x (.int k) lc' ∧ ∀ it o, SX c (execs body env) lc' ((it, o) :: ow) (LpQ (fun lc3 ow3 => ∃ lc4 ow4, Pick ow3 ((it, o) :: ow4) ∧ LSub lc4 lc3 ∧ J (k + 1) lc4 ow4) (fun _ _ => False) fun b => Q (.ret b)))
    (fin : ∀ lc ow, J N lc ow → SX c (execs orelse env) lc ow Q)
    (h : EV c (eval iter env) lc ow fun v lc1 ow1 => ∃ r ow2, v = .ref r ∧ Pick ow1 ((r, .rng 0 N 1) :: ow2) ∧ N ≤ 1000000 ∧ J 0 lc1 ow2)
    (hk : autoParam (env.scope.kind = .function) kr0) (hx : autoParam (env.kindOf x = some .local) kr0) (hL : autoParam (env.locals = c.L) kr0)
    (hs : autoParam (∀ x, foldedSetIterable iter env x = pure x) kr1) : SX c (exec (.For (.Name x px) iter body orelse pos) env) lc ow Q := by
  refine sx_range 0 1 N J hh (fun k lc ow hk hJ => ?_) fin (h.mono fun v lc1 ow1 ⟨r, ow2, e, P, hN, hJ⟩ => ⟨r, N, ow2, e, P, ?_, ?_, hJ⟩) hk hx hL hs
  · obtain ⟨lc', Pt, hb⟩ := step k lc ow hk hJ
    exact ⟨lc', by rw [show (0 : Int) + k * 1 = k by wtm_at "om"]; exact Pt, hb⟩
  · simp [Builtin.Range.rangeSize]; wtm_at "om"
  · exact small_one (by wtm_at "om") (by wtm_at "om") (by wtm_at "om") (by wtm_at "om")
/-- for over a list that stands -/
theorem getD_some {xs : List AV} {k : Nat} (h : k < xs.length) : xs[k]? = some (xs.getD k .none) := by rw [List.getD_eq_getElem?_getD, List.getElem?_eq_getElem h]; rfl
theorem sx_each {target : PySem.Expr} {iter body orelse pos} {Q : AF → LC → OW → Prop} (xs : List AV) (J : Nat → LC → OW → Prop) (hh : c.A.handled = none)
    (step : ∀ k x lc ow, xs[k]? = some x → J k lc ow → ∀ it o, Asg c env target x lc ((it, o) :: ow) fun lc2 ow2 => SX c (execs body env) lc2 ow2 (LpQ (fun lc3 ow3 => ∃ lc4 ow4, Pick ow3 ((it, o) :: ow4) ∧ LSub lc4 lc3 ∧ J (k + 1) lc4 ow4) (fun _ _ => False) fun b => Q (.ret b)))
    (fin : ∀ lc ow, J xs.length lc ow → SX c (execs orelse env) lc ow Q)
    (h : EV c (eval iter env) lc ow fun v lc1 ow1 => ∃ l, v = .ref l ∧ (l, AO.list xs) ∈ ow1 ∧ (∀ k lc ow, J k lc ow → (l, AO.list xs) ∈ ow) ∧ ∃ ow2, Pick ow1 ow2 ∧ J 0 lc1 ow2)
    (hs : autoParam (∀ x, foldedSetIterable iter env x = pure x) kr1) (ht : autoParam (∀ it v, letOwnedTupleGo target it v = pure ()) kr2) : SX c (exec (.For target iter body orelse pos) env) lc ow Q :=
  sx_gen (σ := { l : Addr // ∀ k lc ow, J k lc ow → (l, AO.list xs) ∈ ow }) xs.length (fun l k => .lit l.1 k) (fun k => xs.getD k .none) (fun _ => J)
    (fun l k it lc ow R hk hJ h => nxt_list Upd.head (mem1 (l.2 _ _ _ hJ)) (getD_some hk) h) (fun l it lc ow R hJ h => nxt_list_end hh Take.head (mem1 (l.2 _ _ _ hJ)) (List.getElem?_eq_none_iff.mpr (Nat.le_refl _)) h)
    (fun l k lc ow it o hk hJ => step k _ lc ow (getD_some hk) hJ it o) (fun _ => fin)
    (h.mono fun v lc1 ow1 ⟨l, e, hm, hm2, ow2, P, hJ⟩ => by subst e; exact ⟨fun v rv => AWp.weak P ((itr_list (hm2 _ _ _ hJ) fun it => ⟨⟨l, hm2⟩, lc1, ow2, Pick.all, ls_self, hJ⟩).run v rv)⟩) hs ht

-- names of a comprehension's own
theorem ld_ns {x : Str} {a : AV} {C : Addr} {d : LC} {Q} (hm : (C, AO.ns d) ∈ ow) (hv : lget d x = some a) (h : Q a lc ow)
    (hk : autoParam (env.scope.kind = .function) kr0) (hx : autoParam (env.kindOf x = some .local) kr0) (hL : autoParam (env.locals = C) kr0) : EV c (loadName env x) lc ow Q :=
  ⟨fun s P E R kp => by
    refine bc fun hG => ?_
    obtain ⟨o, ⟨es, n, hd, hsk, r⟩, ho⟩ := R.get hm
    obtain ⟨v, hm', ra⟩ := r x a hv
    refine hG ?_
    clear hG
    have hns : s.heap.Ns env.locals (nsFind es) := by rw [hL]; exact ⟨o, es, n, ho, hd, hsk, fun _ => rfl⟩
    with_reducible refine wpAny_loadName_local hk hx hns hm' ?_
    exact kp _ _ _ _ s.heap s.toks h ra R⟩
theorem asg_ns {x : Str} {px} {a : AV} {C : Addr} {d d' : LC} {Q} (U : Upd ow C (.ns d) (.ns d') ow') (Pt : Put d x a d') (h : Q lc ow')
    (hk : autoParam (env.scope.kind = .function) kr0) (hx : autoParam (env.kindOf x = some .local) kr0) (hL : autoParam (env.locals = C) kr0) : Asg c env (.Name x px) a lc ow Q :=
  asg_name ⟨fun v ra => ⟨fun s P' E R kp => by
    refine bc fun hG => ?_
    obtain ⟨o, ⟨es, n, hd, hsk, r⟩, ho⟩ := R.get U.mem
    refine hG ?_
    clear hG
    have hns : s.heap.Ns env.locals (nsFind es) := by rw [hL]; exact ⟨o, es, n, ho, hd, hsk, fun _ => rfl⟩
    have hp : (env.scope.kind == .class || (env.scope.kind == .module && env.locals != env.globals)) = false := by rw [hk]; rfl
    with_reducible refine wpAny_storeName_local hx hns (fun h' hn hs => ?_) hp
    rw [hL] at hn hs
    refine bc fun hG => ?_
    obtain ⟨o', es', n', ho', hd', hsk', hf⟩ := hn
    refine hG ?_
    clear hG
    refine kp () () lc ow' h' _ h trivial (R.turn U hs ho' ⟨es', n', hd', hsk', fun y b e => ?_⟩)
    rw [Pt.get] at e
    by_cases hy : y = x
    · rw [if_pos hy] at e; cases e; exact ⟨v, (hf y).trans (if_pos hy), ra⟩
    · rw [if_neg hy] at e; obtain ⟨u, hu, ru⟩ := r y b e; exact ⟨u, (hf y).trans ((if_neg hy).trans hu), ru⟩⟩⟩

theorem itr_lit {it l : Addr} {i : Nat} {Q} (hm : (it, AO.lit l i) ∈ ow) (h : Q it lc ow) : Itr c (.ref it) lc ow Q := by
  refine ⟨?_⟩
  rintro _ rfl
  refine ⟨fun s P E R kp => ?_⟩
  refine bc fun hG => ?_
  obtain ⟨o, ⟨r1, r2⟩, ho⟩ := R.get hm
  refine hG ?_
  clear hG
  refine wpAny_pyIter_listiter ⟨o, ho, r1, r2⟩ ?_
  exact kp it _ _ _ s.heap s.toks h rfl R

noncomputable def CFin (c : Cx) (use : Option (Value → Sem Unit)) (Q : AV → LC → OW → Prop) (D C : Addr) (ys : List AV) (d : LC) (lc : LC) (ow : OW) : Prop := match use with
  | none => Q (.ref D) lc ((D, .list ys) :: ow)
  | some u => UX c (u (.ref D)) lc ((D, .list ys) :: (C, .ns d) :: ow) fun lc5 ow5 => ∃ d' ow6, Pick ow5 ((C, .ns d') :: ow6) ∧ Q .none lc5 ow6
noncomputable abbrev testsOf (ifs : List PySem.Expr) (env : Env) : Sem Bool := forIn ifs true fun c r => if r = true then do let ok ← isTrue c env (eval c env); pure (ForInStep.yield ok) else pure (ForInStep.yield r)
theorem bt_nil {Q : Bool → LC → OW → Prop} (h : Q true lc ow) : BX c (testsOf [] env) lc ow Q := AWp.pure (b := true) rfl h
theorem bt_one {e : PySem.Expr} {Q : Bool → LC → OW → Prop} (h : BX c (isTrue e env (eval e env)) lc ow Q) : BX c (testsOf [e] env) lc ow Q :=
  ⟨fun s P E R kp => wpAny_tests_one (h.run s P E R kp)⟩

theorem comp_base {elt iter target : PySem.Expr} {pos p : Pos} {ifs : List PySem.Expr} {scope : Scope} {cl : List (Str × Addr)} {use : Option (Value → Sem Unit)} {Q : AV → LC → OW → Prop}
    (J : Addr → Nat → List AV → LC → OW → Prop)
    (hclos : closureFor scope env = pure cl) (hcell : ∀ y ∈ scope.names, y.2 ≠ .cell) (hkind : scope.kind = .function) (hnames : ∀ y ∈ scope.names, y.2 = .local → scope.names.lookup y.1 = some .local)
    (again : ∀ it n lc ow D C d, J it n [] lc ow → Itr c (.ref it) lc ((D, .list []) :: (C, .ns d) :: ow) fun it' lc' ow' => it' = it ∧ lc' = lc ∧ ow' = ((D, .list []) :: (C, .ns d) :: ow))
    (loop : ∀ (s : Shared) (P : Value → Shared → Prop) (E : Value → Shared → Prop), (∀ (b : AV) (x : Value) lc' ow' h' tk', Q b lc' ow' → b.rep x → Rep c.g c.L lc' ow' h' → P x { s with heap := h', toks := tk' }) →
      ∀ it n lc2 ow2 D C h tk, J it n [] lc2 ow2 → Rep c.g c.L lc2 ((D, .list []) :: (C, .ns []) :: ow2) h → codeAny (model pw c.w) c.A (.compLoop (.ListComp elt [⟨target, iter, ifs, 0⟩] scope pos) 0 (.ref it) (.ref D) (compEnvC scope cl C env))
        (compPost (model pw c.w) c.A E use P (.ref D) C) { s with heap := h, toks := tk })
    (h : EV c (eval iter env) lc ow fun xv lc1 ow1 => Itr c xv lc1 ow1 fun it lc2 ow2 => ∃ n, J it n [] lc2 ow2)
    (hs : ∀ x, foldedSetIterable iter env x = pure x) :
    EV c (comprehension (.ListComp elt [⟨target, iter, ifs, 0⟩] scope pos) scope env p (newList []) false (eval iter env) use) lc ow Q := by
  refine ⟨fun s P E R kp => ?_⟩
  refine wpAny_comprehension_free rfl hs hclos hkind hnames (h.run s _ E R fun xv v lc1 ow1 h1 tk1 q rv R1 => (q.run v rv).run _ _ E R1 fun it w lc2 ow2 h2 tk2 q2 rw R2 => ?_)
  subst rw
  obtain ⟨n, hJ⟩ := q2
  refine wpAny_newObj_type (wpAny_newFunctionEnv hcell (by intro y hy; simp at hy) (fun h3 hns3 hsb3 => ?_) hkind)
  have R3 := R2.push (p := .list []) (o := { cls := .type "list", dict := none, data := .seq ([] : List Value).toArray }) ⟨[], 0, rfl, trivial⟩
  show codeAny (model pw c.w) c.A (.compStart (.ListComp elt [⟨target, iter, ifs, 0⟩] scope pos) 0 (.ref it) (.ref h2.objs.size) (compEnvC scope cl (h2.push { cls := .type "list", dict := none, data := .seq ([] : List Value).toArray }).objs.size env)) (compPost (model pw c.w) c.A E use P (.ref h2.objs.size) (h2.push { cls := .type "list", dict := none, data := .seq ([] : List Value).toArray }).objs.size) { s with heap := h3, toks := tk2 + ([] : List (Str × Value)).length }
  have hns3' : h3.Ns (h2.push { cls := .type "list", dict := none, data := .seq ([] : List Value).toArray }).objs.size (fun x => ([] : List (Str × Value)).reverse.lookup x) := hns3
  have hsb3' : Heap.SameBut (h2.push { cls := .type "list", dict := none, data := .seq ([] : List Value).toArray }).objs.size ((h2.push { cls := .type "list", dict := none, data := .seq ([] : List Value).toArray }).push { cls := .type "dict", data := .dict #[] }) h3 := hsb3
  clear hns3 hsb3
  generalize h2.push { cls := .type "list", dict := none, data := .seq ([] : List Value).toArray } = H3 at R3 hns3' hsb3' ⊢
  generalize h2.objs.size = D at R3 hns3' hsb3' ⊢
  have R4 := R3.push (p := .ns []) (o := { cls := .type "dict", data := .dict #[] }) ⟨#[], 0, rfl, fun e he => by simp at he, fun x a e => nomatch e⟩
  generalize H3.objs.size = C at R4 hns3' hsb3' ⊢
  refine bc fun hG => ?_
  obtain ⟨o3, es3, n3, ho3, hd3, hsk3, hf3⟩ := hns3'
  refine hG ?_
  clear hG
  have R5 : Rep c.g c.L lc2 ((D, .list []) :: (C, .ns []) :: ow2) h3 := (R4.turn (p' := .ns []) (ow' := (C, .ns []) :: (D, .list []) :: ow2) Upd.head hsb3' ho3 ⟨es3, n3, hd3, hsk3, fun x a e => nomatch e⟩).pick (Pick.cons (Take.tail Take.head) (Pick.cons Take.head Pick.all))
  refine codeAny_compStart_list (loop s P E kp it n lc2 ow2 D C _ _ hJ R5) ?_
  refine ((again it n lc2 ow2 D C [] hJ).run (.ref it) rfl).run _ _ _ R5 fun i w lc9 ow9 h9 tk9 q9 rw R9 => ?_
  subst rw
  obtain ⟨rfl, rfl, rfl⟩ := q9
  exact loop s P E kp _ _ _ _ D C _ _ hJ R9
theorem comp_core {elt iter : PySem.Expr} {x : Str} {px pos p : Pos} {ifs : List PySem.Expr} {scope : Scope} {cl : List (Str × Addr)} {use : Option (Value → Sem Unit)} {Q : AV → LC → OW → Prop}
    (J : Addr → Nat → List AV → LC → OW → Prop)
    (hclos : closureFor scope env = pure cl) (hcell : ∀ y ∈ scope.names, y.2 ≠ .cell) (hkind : scope.kind = .function) (hnames : ∀ y ∈ scope.names, y.2 = .local → scope.names.lookup y.1 = some .local)
    (again : ∀ it n lc ow D C d, J it n [] lc ow → Itr c (.ref it) lc ((D, .list []) :: (C, .ns d) :: ow) fun it' lc' ow' => it' = it ∧ lc' = lc ∧ ow' = ((D, .list []) :: (C, .ns d) :: ow))
    (step : ∀ it n ys lc ow D C d, J it n ys lc ow → ys.length < 1000000 ∧ Nxt c it lc ((D, .list ys) :: (C, .ns d) :: ow) fun r lc3 ow3 => match r with
      | none => ∃ d' ow4, Pick ow3 ((D, .list ys) :: (C, .ns d') :: ow4) ∧ CFin c use Q D C ys d' lc3 ow4
      | some a => Asg c (compEnvC scope cl C env) (.Name x px) a lc3 ow3 fun lc4 ow4 => BX c (testsOf ifs (compEnvC scope cl C env)) lc4 ow4 fun ok lc5 ow5 =>
          Br ok (EV c (eval elt (compEnvC scope cl C env)) lc5 ow5 fun y lc6 ow6 => ∃ m d' ow7, m < n ∧ Pick ow6 ((D, .list ys) :: (C, .ns d') :: ow7) ∧ J it m (ys ++ [y]) lc6 ow7)
            (∃ m d' ow7, m < n ∧ Pick ow5 ((D, .list ys) :: (C, .ns d') :: ow7) ∧ J it m ys lc5 ow7))
    (h : EV c (eval iter env) lc ow fun xv lc1 ow1 => Itr c xv lc1 ow1 fun it lc2 ow2 => ∃ n, J it n [] lc2 ow2)
    (hs : autoParam (∀ x, foldedSetIterable iter env x = pure x) kr1) :
    EV c (comprehension (.ListComp elt [⟨.Name x px, iter, ifs, 0⟩] scope pos) scope env p (newList []) false (eval iter env) use) lc ow Q := by
  refine comp_base J hclos hcell hkind hnames again (fun s P E kp it n lc2 ow2 D C h3 tk3 hJ R5 => ?_) h hs
  refine codeAny_compLoop_tests (fun n s' => ∃ ys lc ow d h' tk', s' = { s with heap := h', toks := tk' } ∧ Rep c.g c.L lc ((D, .list ys) :: (C, .ns d) :: ow) h' ∧ J it n ys lc ow) (fun n s' hI => ?_) n ⟨[], lc2, ow2, [], h3, tk3, rfl, R5, hJ⟩
  refine bc fun hG => ?_
  obtain ⟨ys, lc0, ow0, d, h0, tk0, rfl, R0, hJ⟩ := hI
  obtain ⟨hz, st⟩ := step it n ys lc0 ow0 D C d hJ
  refine hG ?_
  clear hG
  refine st.run.run _ _ _ R0 fun b y lc3 ow3 h3 tk3 q rb R3 => ?_
  cases b with
  | none =>
    cases (show y = _ from rb)
    refine bc fun hG => ?_
    obtain ⟨d', ow4, P4, q⟩ := q
    refine hG ?_
    clear hG
    have R4 := R3.pick P4
    cases use with
    | none =>
      refine bc fun hG => ?_
      obtain ⟨oc, ⟨es, nc, hdc, hskc, rc⟩, hoc⟩ := R4.get (mem1 mem0)
      refine hG ?_
      clear hG
      refine ⟨nsFind es, ⟨oc, es, nc, hoc, hdc, hskc, fun _ => rfl⟩, fun h' hs' => ?_⟩
      exact kp (.ref D) _ _ _ h' tk3 q rfl (R4.lose (Take.tail Take.head) hs'.extBut)
    | some u =>
      refine AWp.run q _ _ _ R4 fun _ _ lc5 ow5 h5 tk5 q5 _ R5 => ?_
      refine bc fun hG => ?_
      obtain ⟨d5, ow6, P6, q6⟩ := q5
      refine hG ?_
      clear hG
      have R6 := R5.pick P6
      refine bc fun hG => ?_
      obtain ⟨oc, ⟨es, nc, hdc, hskc, rc⟩, hoc⟩ := R6.get mem0
      refine hG ?_
      clear hG
      refine ⟨nsFind es, ⟨oc, es, nc, hoc, hdc, hskc, fun _ => rfl⟩, fun h' hs' => ?_⟩
      exact kp .none _ _ _ h' tk5 q6 rfl (R6.lose Take.head hs'.extBut)
  | some a =>
    refine bc fun hG => ?_
    obtain ⟨v, rfl, ra⟩ := rb
    refine hG ?_
    clear hG
    refine (Asg.run q v ra).run _ _ _ R3 fun _ _ lc4 ow4 h4 tk4 q4 _ R4 => AWp.run q4 _ _ _ R4 fun ok z lc5 ow5 h5 tk5 q5 rz R5 => ?_
    subst rz
    cases z with
    | false =>
      obtain ⟨m, d', ow7, hm, P7, j7⟩ := q5.f rfl
      exact ⟨m, hm, ys, _, ow7, d', h5, tk5, rfl, R5.pick P7, j7⟩
    | true =>
      refine AWp.run (q5.t rfl) _ _ _ R5 fun y yv lc6 ow6 h6 tk6 q6 ry R6 => ?_
      refine bc fun hG => ?_
      obtain ⟨m, d', ow7, hm, P7, j7⟩ := q6
      refine hG ?_
      clear hG
      have R7 := R6.pick P7
      have ap : Cal c (.con (.builtin "list.append")) [.ref D, y] [] lc6 ((D, .list ys) :: (C, .ns d') :: ow7) (fun a lc ow => a = .none ∧ lc = lc6 ∧ ow = ((D, .list (ys ++ [y])) :: (C, .ns d') :: ow7)) := cal_append Upd.head (Nat.le_of_lt hz) ⟨rfl, rfl, rfl⟩
      refine (ap.run (.builtin "list.append") [.ref D, yv] [] rfl ⟨rfl, ry, trivial⟩ rfl trivial).run _ _ _ R7 fun _ _ lc8 ow8 h8 tk8 q8 _ R8 => ?_
      obtain ⟨_, rfl, rfl⟩ := q8
      exact ⟨m, hm, ys ++ [y], _, ow7, d', h8, tk8, rfl, R8, j7⟩
end

section
variable {c : Cx} {lc lc' : LC} {ow : OW} {env : Env}
/-- an expression that the walk evaluates at once: its value, nothing turned -/
noncomputable def PE (c : Cx) (env : Env) (lc : LC) (ow : OW) (e : PySem.Expr) (a : AV) : Prop := ∀ Q : AV → LC → OW → Prop, Q a lc ow → EV c (eval e env) lc ow Q
noncomputable def PAs (c : Cx) (env : Env) (pos : Pos) (lc : LC) (ow : OW) (es : List PySem.Expr) (as : List AV) : Prop := ∀ Q : List AV → LC → OW → Prop, Q as lc ow → Args c env pos es lc ow Q
theorem ev_pe {e a} {Q} (p : PE c env lc ow e a) (h : Q a lc ow) : EV c (eval e env) lc ow Q := p Q h
theorem ag_pe {pos es as} {Q} (p : PAs c env pos lc ow es as) (h : Q as lc ow) : Args c env pos es lc ow Q := p Q h
theorem pe_name {x : Str} {a : AV} {pos} (hv : lget lc x = some a) (hk : autoParam (env.scope.kind = .function) kr0) (hx : autoParam (env.kindOf x = some .local) kr0) (hL : autoParam (env.locals = c.L) kr0)
    (hd : autoParam ((x == ("__debug__" : Str)) = false) kr0) : PE c env lc ow (.Name x pos) a := fun _ h => ev_name (ld_local hv h hk hx hL) hd
theorem pe_int {i : Int} {k pos} : PE c env lc ow (.Constant (.int i) k pos) (.int i) := fun _ h => ev_int h
theorem pe_str {x : Str} {k pos} : PE c env lc ow (.Constant (.str x) k pos) (.str (cs x)) := fun _ h => ev_str h
section
variable {l r : PySem.Expr} {x y : Int} {pos : Pos}
theorem pe_add (p : PE c env lc ow l (.int x)) (q : PE c env lc ow r (.int y)) : PE c env lc ow (.BinOp l .Add r pos) (.int (x + y)) := fun _ h => ev_bin (p _ (q _ (b_add h)))
theorem pe_sub (p : PE c env lc ow l (.int x)) (q : PE c env lc ow r (.int y)) : PE c env lc ow (.BinOp l .Sub r pos) (.int (x - y)) := fun _ h => ev_bin (p _ (q _ (b_sub h)))
theorem pe_and (p : PE c env lc ow l (.int x)) (q : PE c env lc ow r (.int y)) : PE c env lc ow (.BinOp l .BitAnd r pos) (.int (Builtin.bitAnd x y)) := fun _ h => ev_bin (p _ (q _ (b_and h)))
theorem pe_neg (p : PE c env lc ow l (.int x)) : PE c env lc ow (.UnaryOp .USub l pos) (.int (-x)) := fun _ h => ev_un (p _ (u_neg h))
variable {whole : Sem Value} {Q : Bool → LC → OW → Prop}
theorem px_lt (p : PE c env lc ow l (.int x)) (q : PE c env lc ow r (.int y)) (h : Q (decide (x < y)) lc ow) (hm : autoParam (behindInMarks .Lt r = false) kr0) : BX c (isTrue (.Compare l [.Lt] [r] pos) env whole) lc ow Q := bx_cmp (p _ (q _ (c_lt (tru_bool h)))) hm
theorem px_gt (p : PE c env lc ow l (.int x)) (q : PE c env lc ow r (.int y)) (h : Q (decide (y < x)) lc ow) (hm : autoParam (behindInMarks .Gt r = false) kr0) : BX c (isTrue (.Compare l [.Gt] [r] pos) env whole) lc ow Q := bx_cmp (p _ (q _ (c_gt (tru_bool h)))) hm
theorem px_eq (p : PE c env lc ow l (.int x)) (q : PE c env lc ow r (.int y)) (h : Q (decide (x = y)) lc ow) (hm : autoParam (behindInMarks .Eq r = false) kr0) : BX c (isTrue (.Compare l [.Eq] [r] pos) env whole) lc ow Q := bx_cmp (p _ (q _ (c_eq (tru_bool h)))) hm
theorem px_ne (p : PE c env lc ow l (.int x)) (q : PE c env lc ow r (.int y)) (h : Q (decide (x ≠ y)) lc ow) (hm : autoParam (behindInMarks .NotEq r = false) kr0) : BX c (isTrue (.Compare l [.NotEq] [r] pos) env whole) lc ow Q := bx_cmp (p _ (q _ (c_ne (tru_bool h)))) hm
end
theorem pa_nil {pos} : PAs c env pos lc ow [] [] := fun _ h => args_nil h
theorem pa_cons {pos e es a as} (p : PE c env lc ow e a) (q : PAs c env pos lc ow es as) (hs : autoParam (starEach (e :: es) env = (false, eval e env) :: starEach es env) kr0) : PAs c env pos lc ow (e :: es) (a :: as) := fun _ h => args_cons (p _ (q _ h)) hs
theorem sx_put {x : Str} {pos' value pos rest a} {Q : AF → LC → OW → Prop} (p : PE c env lc ow value a) (P : Put lc x a lc') (h : SX c (execs rest env) lc' ow Q) (hs : autoParam (swapsWith value (some (.Name x pos')) pos.line env = pure false) kr0)
    (hk : autoParam (env.scope.kind = .function) kr0) (hx : autoParam (env.kindOf x = some .local) kr0) (hL : autoParam (env.locals = c.L) kr0) : SX c (execs (.Assign [.Name x pos'] value pos :: rest) env) lc ow Q :=
  sx_cons (sx_assign (p _ (sto_local P (nx h) hk hx hL)) hs)
end
local macro_rules | `(tactic| wtm_at "sd") => `(tactic| first | assumption | omega | decide)
local macro_rules | `(tactic| wtm_at "a0") => `(tactic| with_reducible first
  | refine nx ?_
  | refine sx_nil ?_
  | refine sx_cons ?_
  | refine sx_assign ?_
  | refine sx_aug ?_
  | refine sx_if ?_
  | refine sx_ret ?_
  | refine sx_ret0 ?_
  | refine nx_ret ?_
  | refine ev_int ?_
  | refine ev_str ?_
  | refine ev_none ?_
  | refine ev_bin ?_
  | refine ev_un ?_
  | refine bx_cmp ?_
  | refine ev_cmp ?_
  | refine ev_sub ?_
  | refine ev_slice ?_
  | refine prt_none ?_
  | refine prt_some ?_
  | refine args_cons ?_
  | refine args_nil ?_
  | refine ev_meth ?_
  | refine ev_call ?_
  | (show EV _ (loadName _ _) _ _ _; refine ld_local (by wtm_at "lg") ?_)
  | (show EV _ (eval (.Name _ _) _) _ _ _; refine ev_name (ld_local (by wtm_at "lg") ?_))
  | (show Sto _ _ _ _ _ _ _; refine sto_local (by wtm_at "pt") ?_)
  | (show Asg _ _ (.Name _ _) _ _ _ _; refine asg_name (sto_local (by wtm_at "pt") ?_))
  | refine b_add ?_
  | refine b_sub ?_
  | refine b_and ?_
  | refine b_or ?_
  | refine b_xor ?_
  | refine i_add ?_
  | refine i_sub ?_
  | refine u_neg ?_
  | refine u_inv ?_
  | refine c_lt ?_
  | refine c_gt ?_
  | refine c_le ?_
  | refine c_eq ?_
  | refine c_ne ?_
  | refine c_eqs ?_
  | refine is_none ?_
  | refine is_int ?_
  | refine is_ref ?_
  | refine tru_bool ?_
  | refine tru_int ?_)
local macro_rules | `(tactic| wtm_at "pe") => `(tactic| with_reducible first
  | (show PE _ _ _ _ (.Name _ _) _; exact pe_name (by wtm_at "lg"))
  | exact pe_int
  | exact pe_str
  | (show PE _ _ _ _ (.BinOp _ .Add _ _) _; exact pe_add (by wtm_at "pe") (by wtm_at "pe"))
  | (show PE _ _ _ _ (.BinOp _ .Sub _ _) _; exact pe_sub (by wtm_at "pe") (by wtm_at "pe"))
  | (show PE _ _ _ _ (.BinOp _ .BitAnd _ _) _; exact pe_and (by wtm_at "pe") (by wtm_at "pe"))
  | (show PE _ _ _ _ (.UnaryOp .USub _ _) _; exact pe_neg (by wtm_at "pe")))
local macro_rules | `(tactic| wtm_at "pa") => `(tactic| with_reducible first
  | exact pa_nil
  | (show PAs _ _ _ _ _ (_ :: _) _; exact pa_cons (by wtm_at "pe") (by wtm_at "pa")))
local macro_rules | `(tactic| wtm_at "a1") => `(tactic| with_reducible first
  | (show SX _ (execs (.Assign [.Name _ _] _ _ :: _) _) _ _ _; refine sx_put (by wtm_at "pe") (by wtm_at "pt") ?_)
  | (show EV _ (eval _ _) _ _ _; refine ev_pe (by wtm_at "pe") ?_)
  | (show Args _ _ _ _ _ _ _; refine ag_pe (by wtm_at "pa") ?_)
  | (show BX _ (isTrue (.Compare _ [.Lt] [_] _) _ _) _ _ _; refine px_lt (by wtm_at "pe") (by wtm_at "pe") ?_)
  | (show BX _ (isTrue (.Compare _ [.Gt] [_] _) _ _) _ _ _; refine px_gt (by wtm_at "pe") (by wtm_at "pe") ?_)
  | (show BX _ (isTrue (.Compare _ [.Eq] [_] _) _ _) _ _ _; refine px_eq (by wtm_at "pe") (by wtm_at "pe") ?_)
  | (show BX _ (isTrue (.Compare _ [.NotEq] [_] _) _ _) _ _ _; refine px_ne (by wtm_at "pe") (by wtm_at "pe") ?_)
  | wtm_at "a0")

section
theorem Rep.turnX {g h h' : Heap} {L : Addr} {lc : LC} {ow ow' : OW} {a : Addr} {p p' : AO} {o : Obj} (R : Rep g L lc ow h) (U : Upd ow a p p' ow') (hs : Heap.ExtBut a h h') (e : h'.get? a = some o) (r : p'.rep o) : Rep g L lc ow' h' := by
  refine bc fun hG => ?_
  obtain ⟨pre, post, rfl, rfl⟩ := U.split
  obtain ⟨m, F, hl⟩ := R.fr
  refine hG ?_
  clear hG
  have nd := R.nd
  refine bc fun hG => ?_
  obtain ⟨o', ro, e', nL, ng⟩ := R.own _ U.mem
  refine hG ?_
  clear hG
  refine ⟨⟨m, ⟨F.ns.extBut hs (Ne.symm nL), fun b o e => hs b o (fun z => ?_) (F.keep b o e), F.above⟩, hl⟩, fun q hq => ?_, by rw [List.map_append, List.map_cons] at nd ⊢; exact nd⟩
  · rw [z, ng] at e; cases e
  rw [List.map_append, List.map_cons] at nd
  rcases List.mem_append.mp hq with hq | hq
  · obtain ⟨o', r', e', n⟩ := R.own q (List.mem_append_left _ hq)
    exact ⟨o', r', hs _ _ (fun z => (List.nodup_append.mp nd).2.2 _ (List.mem_map_of_mem hq) _ (.head _) z) e', n⟩
  · rcases List.mem_cons.mp hq with rfl | hq
    · exact ⟨_, r, e, nL, ng⟩
    · obtain ⟨o', r', e', n⟩ := R.own q (List.mem_append_right _ (.tail _ hq))
      exact ⟨o', r', hs _ _ (fun z => (List.nodup_cons.mp (List.nodup_append.mp nd).2.1).1 (List.mem_map.mpr ⟨q, hq, z⟩)) e', n⟩
/-- an object that came in beside -/
theorem Rep.add {g h h' : Heap} {L : Addr} {lc : LC} {ow ow' : OW} {a : Addr} {p : AO} {o : Obj} (R : Rep g L lc ow h) (R' : Rep g L lc ow' h') (hk : ow'.map (·.1) = ow.map (·.1)) (ha : h.objs.size ≤ a) (e : h'.get? a = some o) (r : p.rep o) : Rep g L lc ((a, p) :: ow') h' := by
  refine bc fun hG => ?_
  obtain ⟨m, F, hl⟩ := R.fr
  refine hG ?_
  clear hG
  have hL : L < h.objs.size := F.ns.lt
  refine ⟨R'.fr, fun q hq => ?_, ?_⟩
  · rcases List.mem_cons.mp hq with rfl | hq
    · exact ⟨o, r, e, Nat.ne_of_gt (Nat.lt_of_lt_of_le hL ha), Heap.get?_none_of_le (Nat.le_trans F.above (Nat.le_of_lt (Nat.lt_of_lt_of_le hL ha)))⟩
    · exact R'.own q hq
  · rw [List.map_cons, List.nodup_cons]
    refine ⟨fun hm => ?_, R'.nd⟩
    rw [hk] at hm
    refine bc fun hG => ?_
    obtain ⟨q, hq, e⟩ := List.mem_map.mp hm
    refine hG ?_
    clear hG
    have := R.sizeOf q hq
    rw [e] at this
    exact Nat.lt_irrefl _ (Nat.lt_of_lt_of_le this ha)

section
variable {K : Frag} {c : Cx} {lc lc' : LC} {ow ow' : OW} {env : Env} {n : Nat}

theorem Act.around (A : Act K c n env) {s : Shared} (R : Rep c.g c.L lc ow s.heap) {P : Addr} {ps : Array Value} (hP : (P, AO.obj (tabObj ps)) ∈ ow) : ∃ mg, s.heap.Ns mainGlobals mg ∧ mainGlobals ≠ P ∧ s.heap.BuiltinsAt mg P ∧ s.heap.get? P = some (tabObj ps) := by
  refine bc fun hG => ?_
  obtain ⟨p, loose, mean, mg, mb, T⟩ := A.T
  obtain ⟨m, F, _⟩ := R.fr
  obtain ⟨o, ⟨rfl, _⟩, e, nL, ng⟩ := R.own _ hP
  refine hG ?_
  clear hG
  have hgs := T.g.keeps F.keep
  refine bc fun hG => ?_
  obtain ⟨bm, ob, b1, b2, b3, b4, b5, b6⟩ := T.bmain
  refine hG ?_
  clear hG
  have hgP : mainGlobals ≠ P := fun q => by
    refine bc fun hG => ?_
    obtain ⟨o, es, ep, e', hd, _⟩ := hgs
    refine hG ?_
    clear hG
    rw [q] at e'
    rw [show s.heap.get? P = _ from e] at e'; cases e'; cases hd
  have hbP : bm ≠ P := fun q => by
    have e' := F.keep _ _ b3
    rw [q] at e'
    rw [show s.heap.get? P = _ from e] at e'; cases e'; cases b4
  have hbG : bm ≠ mainGlobals := fun q => by
    refine bc fun hG => ?_
    obtain ⟨o, es, ep, e, hd, _⟩ := T.g
    refine hG ?_
    clear hG
    rw [q, e] at b3; cases b3; rw [hd] at b6; cases b6
  exact ⟨mg, hgs, hgP, ⟨bm, ob, b1, b2, hbG, hbP, F.keep _ _ b3, b4, b5, b6⟩, e⟩

/-- a def inside, made for the first time -/
theorem mk_new {name qual : Str} {params : Arguments} {body : List Stmt} {scope : Scope} {pos : Pos} {fl : Nat} {clos : List (Str × Addr)} {cd P : Addr} {ps : Array Value} {ow' : Addr → OW} {Q} (A : Act K c n env) {env' : Env} (hC : codeHdIn K cd P = true) (hcl : closureFor scope env' = pure clos)
    (hP : (P, AO.obj (tabObj ps)) ∈ ow) (ht : TriplesOk ps.toList) (hnf : codeAmong pos ps.toList = none) (U : ∀ c', Upd ow P (.obj (tabObj ps)) (.obj (tabObj (ps ++ #[rawInt pos.line, rawInt pos.col, .ref c']))) (ow' c'))
    (h : ∀ f c' doc pm ctv, Q (.ref f) lc ((f, .obj (fnMade name qual params body scope clos doc pm c' ctv)) :: (c', .code qual) :: ow' c'))
    (hg : autoParam (env'.globals = mainGlobals) kr0) (hcd : autoParam (env'.code = .ref cd) kr0) : EV c (makeFunction name qual params (.stmts body) scope env' [] [] [] pos fl) lc ow Q :=
  ⟨fun s P' E R kp => by
    refine bc fun hG => ?_
    obtain ⟨mg, hgs, hgP, hb, hPo⟩ := A.around R hP
    obtain ⟨m, F, _⟩ := R.fr
    refine hG ?_
    clear hG
    have C := codeHd_of_K (A.X.keeps F.keep) hC
    refine makeFunction_K (mg := mg) hcl hg hgs hcd C hPo ht hnf hgP hb fun c' ctv doc h' tk hx hge hlt hrec htb => ?_
    refine bc fun hG => ?_
    obtain ⟨c₂, oc, vs, t, e2, hoc, hd, hv⟩ := hrec
    refine hG ?_
    clear hG
    cases e2
    have R1 := R.turnX (p' := .obj (tabObj (ps ++ #[rawInt pos.line, rawInt pos.col, .ref c']))) (U c') hx htb ⟨rfl, rfl⟩
    have R2 := R.add (p := .code qual) R1 (U c').keys hge hoc ⟨vs, t, hd, hv⟩
    have R3 := R2.push (p := .obj (fnMade name qual params body scope clos doc ((mg "__name__").getD .none) c' ctv)) ⟨rfl, rfl⟩
    exact kp (.ref h'.objs.size) _ _ _ _ tk (h _ _ _ _ _) rfl R3⟩
theorem mk_hit {name qual : Str} {params : Arguments} {body : List Stmt} {scope : Scope} {pos : Pos} {fl : Nat} {clos : List (Str × Addr)} {cd P c' : Addr} {ps : Array Value} {Q} (A : Act K c n env) {env' : Env} (hC : codeHdIn K cd P = true) (hcl : closureFor scope env' = pure clos)
    (hP : (P, AO.obj (tabObj ps)) ∈ ow) (ht : TriplesOk ps.toList) (hf : codeAmong pos ps.toList = some (.ref c'))
    (h : ∀ f doc pm ctv, Q (.ref f) lc ((f, .obj (fnMade name qual params body scope clos doc pm c' ctv)) :: ow))
    (hg : autoParam (env'.globals = mainGlobals) kr0) (hcd : autoParam (env'.code = .ref cd) kr0) : EV c (makeFunction name qual params (.stmts body) scope env' [] [] [] pos fl) lc ow Q :=
  ⟨fun s P' E R kp => by
    refine bc fun hG => ?_
    obtain ⟨mg, hgs, hgP, hb, hPo⟩ := A.around R hP
    obtain ⟨m, F, _⟩ := R.fr
    refine hG ?_
    clear hG
    have C := codeHd_of_K (A.X.keeps F.keep) hC
    refine makeFunction_hit (mg := mg) hcl hg hgs hcd C hPo ht hf hb fun ctv doc h' tk hk hsz => ?_
    have R3 := (R.keeps hk).push (p := .obj (fnMade name qual params body scope clos doc ((mg "__name__").getD .none) c' ctv)) ⟨rfl, rfl⟩
    exact kp (.ref h'.objs.size) _ _ _ _ tk (h _ _ _ _) rfl R3⟩
theorem lam_new {name qual : Str} {params : Arguments} {body : PySem.Expr} {scope : Scope} {pos : Pos} {fl : Nat} {clos : List (Str × Addr)} {cd P : Addr} {ps : Array Value} {ow' : Addr → OW} {Q} (A : Act K c n env) {env' : Env} (hC : codeHdIn K cd P = true) (hcl : closureFor scope env' = pure clos)
    (hP : (P, AO.obj (tabObj ps)) ∈ ow) (ht : TriplesOk ps.toList) (hnf : codeAmong pos ps.toList = none) (U : ∀ c', Upd ow P (.obj (tabObj ps)) (.obj (tabObj (ps ++ #[rawInt pos.line, rawInt pos.col, .ref c']))) (ow' c'))
    (h : ∀ f c' pm ctv, Q (.ref f) lc ((f, .obj (kla_obj name qual params body scope clos pm c' ctv)) :: (c', .code qual) :: ow' c'))
    (hg : autoParam (env'.globals = mainGlobals) kr0) (hcd : autoParam (env'.code = .ref cd) kr0) : EV c (makeFunction name qual params (.expr body) scope env' [] [] [] pos fl) lc ow Q :=
  ⟨fun s P' E R kp => by
    refine bc fun hG => ?_
    obtain ⟨mg, hgs, hgP, hb, hPo⟩ := A.around R hP
    obtain ⟨m, F, _⟩ := R.fr
    refine hG ?_
    clear hG
    have C := codeHd_of_K (A.X.keeps F.keep) hC
    refine kla_makeFunction (mg := mg) hcl hg hgs hcd C hPo ht hnf hgP hb fun c' ctv h' tk hx hge hlt hrec htb => ?_
    refine bc fun hG => ?_
    obtain ⟨c₂, oc, vs, t, e2, hoc, hd, hv⟩ := hrec
    refine hG ?_
    clear hG
    cases e2
    have R1 := R.turnX (p' := .obj (tabObj (ps ++ #[rawInt pos.line, rawInt pos.col, .ref c']))) (U c') hx htb ⟨rfl, rfl⟩
    have R2 := R.add (p := .code qual) R1 (U c').keys hge hoc ⟨vs, t, hd, hv⟩
    have R3 := R2.push (p := .obj (kla_obj name qual params body scope clos ((mg "__name__").getD .none) c' ctv)) ⟨rfl, rfl⟩
    exact kp (.ref h'.objs.size) _ _ _ _ tk (h _ _ _ _) rfl R3⟩
theorem ev_lam {params : Arguments} {body : PySem.Expr} {scope : Scope} {pos : Pos} {Q} (h : EV c (makeFunction "<lambda>" (env.qual ++ "<lambda>") params (.expr body) scope env [] [] [] pos pos.line) lc ow Q) (hd : autoParam (defaultsOf params env = ([], [])) kr0) : EV c (eval (.Lambda params body scope pos) env) lc ow Q :=
  ⟨fun s P E R kp => kla_eval hd (h.run s P E R kp)⟩
theorem sx_def {name : Str} {params : Arguments} {body : List Stmt} {scope : Scope} {pos : Pos} {Q : AF → LC → OW → Prop} (h : EV c (makeFunction name (qualnameIn env name name) params (.stmts body) scope env [] [] [] pos pos.line) lc ow fun a lc1 ow1 => Sto c env name a lc1 ow1 (Q .next))
    (hd0 : autoParam (params.defaults = []) kr0) (hk0 : autoParam (params.kw_defaults = []) kr0) (ha : autoParam (annTrees params none env = []) kr0) : SX c (exec (.FunctionDef name params body [] none [] scope none name pos) env) lc ow Q :=
  ⟨fun s P E R kp => nestDef_K hd0 hk0 ha (h.run s _ E R fun a v lc1 ow1 h1 tk1 q ra R1 => (q.run v ra).run _ _ E R1 fun _ _ lc2 ow2 h2 tk2 q2 _ R2 => kp .next .next _ _ _ _ q2 rfl R2)⟩

/-- a closure of statements, called -/
theorem cal_clo {f cd : Addr} {name qual : Str} {params : Arguments} {body : List Stmt} {scope : Scope} {cl : List (Str × Addr)} {doc pm ctv : Value} {as : List AV} {names : List Str} {Q} (A : Act K c (n + 1) env) (hf : (f, AO.obj (fnMade name qual params body scope cl doc pm cd ctv)) ∈ ow) (hcd : (cd, AO.code qual) ∈ ow)
    (hn : names.length = as.length) (hnd : names.Nodup) (hloc : ∀ x ∈ names, scope.names.lookup x = some .local)
    (hb : ∀ vs : List Value, vs.length = as.length → bindArgs (fnX name qual params body scope cl .none .none doc pm none (.ref cd) ctv) ⟨vs, []⟩ = pure (names.zip vs))
    (hcell : ∀ x ∈ scope.names, x.2 ≠ .cell) (hco : scope.isCoroutine = false) (hgen : scope.isGenerator = false) (hk : scope.kind = .function)
    (h : ∀ c' : Cx, c'.w = c.w → c'.A.handled = c.A.handled → Act K c' n (envX qual scope c'.L f (.ref cd) cl) →
      SX c' (execs body (envX qual scope c'.L f (.ref cd) cl)) (names.zip as) ow (retP Q lc)) : Cal c (.ref f) as [] lc ow Q := by
  refine ⟨?_⟩
  rintro _ vs kvs rfl ra hkn rk
  cases kvs with
  | cons => cases hkn
  | nil =>
    refine ⟨fun s P E R kp => ?_⟩
    refine bc fun hG => ?_
    obtain ⟨A₀, base, outer, B, hfr⟩ := A.below
    obtain ⟨p, loose, mean, mg, mb, T⟩ := A.T
    obtain ⟨m, Fm, hl⟩ := R.fr
    obtain ⟨news, N, hnews⟩ := R.news
    obtain ⟨o1, ⟨rfl, _⟩, ho1⟩ := R.get hf
    obtain ⟨o2, ⟨vs2, t2, hd2, hv2⟩, ho2⟩ := R.get hcd
    refine hG ?_
    clear hG
    have hlen : names.length = vs.length := hn.trans ra.length
    have hdep := A.depth
    have hun := A.units
    refine wpAny_call (callX_plain (cl := cl) B Fm N T.nolimit hfr A.frame A.kind ho1 rfl ⟨cd, o2, vs2, t2, rfl, ho2, hd2, hv2⟩ (by unfold recursionLimit; wtm_at "om") (BindsTo.of_eq (hb vs ra.length.symm))
      (fun y hy => hloc y.1 (by rw [← zip_fst hlen]; exact List.mem_map_of_mem hy)) (fun g L' h₁ FG F' N' B' st' lt => ?_) hcell hco hgen hk)
    have A' : Act K ⟨c.w, g, L', c.A.deeper (envX qual scope L' f (.ref cd) cl)⟩ n (envX qual scope L' f (.ref cd) cl) :=
      ⟨⟨c.A, base, env :: outer, B', Around.frames_deeper hfr⟩, rfl, hk, A.X.keeps st', ⟨p, loose, mean, mg, mb, T.keeps st'⟩, by show c.A.depth + 1 + n ≤ 900; wtm_at "om", by show c.A.units + 3 + 20 * n ≤ 9000; wtm_at "om"⟩
    have R' : Rep g L' (names.zip as) ow h₁ := by
      refine Rep.ofNews F' (fun x a e => ?_) N' R.nd hnews
      obtain ⟨v, e', r⟩ := zip_lookup hnd ra x a e
      exact ⟨v, by rw [← lookup_perm (List.reverse_perm _).symm (by rw [zip_fst hlen]; exact hnd)]; exact e', r⟩
    refine (sx_retQ (h ⟨c.w, g, L', c.A.deeper (envX qual scope L' f (.ref cd) cl)⟩ rfl rfl A')).run _ _ _ R' fun fl x lc1 ow1 h2 tk2 q r R2 => ?_
    refine bc fun hG => ?_
    obtain ⟨m', F2, _⟩ := R2.fr
    obtain ⟨news', N2, hnews'⟩ := R2.news
    refine hG ?_
    clear hG
    refine leaveK_ F2 N2 fun F3 N3 => ?_
    have R3 : Rep c.g c.L lc ow1 h2 := Rep.ofNews F3 hl N3 R2.nd hnews'
    cases fl with
    | ret a => obtain ⟨v, rfl, rv⟩ := r; exact kp _ _ _ _ _ _ q rv R3
    | next => cases (show x = _ from r); exact kp .none _ _ _ _ _ q rfl R3
    | brk => cases (show x = _ from r); exact kp .none _ _ _ _ _ q rfl R3
    | cont => cases (show x = _ from r); exact kp .none _ _ _ _ _ q rfl R3
/-- a lambda, called -/
theorem cal_lam {f cd : Addr} {name qual : Str} {params : Arguments} {body : PySem.Expr} {scope : Scope} {cl : List (Str × Addr)} {pm ctv : Value} {as : List AV} {names : List Str} {Q} (A : Act K c (n + 1) env) (hf : (f, AO.obj (kla_obj name qual params body scope cl pm cd ctv)) ∈ ow) (hcd : (cd, AO.code qual) ∈ ow)
    (hn : names.length = as.length) (hnd : names.Nodup) (hloc : ∀ x ∈ names, scope.names.lookup x = some .local)
    (hb : ∀ vs : List Value, vs.length = as.length → bindArgs (kla_fn name qual params body scope cl pm (.ref cd) ctv) ⟨vs, []⟩ = pure (names.zip vs))
    (hcell : ∀ x ∈ scope.names, x.2 ≠ .cell) (hco : scope.isCoroutine = false) (hgen : scope.isGenerator = false) (hk : scope.kind = .function)
    (h : ∀ c' : Cx, c'.w = c.w → c'.A.handled = c.A.handled → Act K c' n (envX qual scope c'.L f (.ref cd) cl) →
      EV c' (eval body (envX qual scope c'.L f (.ref cd) cl)) (names.zip as) ow fun a _ ow' => ∃ ow'', Pick ow' ow'' ∧ Q a lc ow'') : Cal c (.ref f) as [] lc ow Q := by
  refine ⟨?_⟩
  rintro _ vs kvs rfl ra hkn rk
  cases kvs with
  | cons => cases hkn
  | nil =>
    refine ⟨fun s P E R kp => ?_⟩
    refine bc fun hG => ?_
    obtain ⟨A₀, base, outer, B, hfr⟩ := A.below
    obtain ⟨p, loose, mean, mg, mb, T⟩ := A.T
    obtain ⟨m, Fm, hl⟩ := R.fr
    obtain ⟨news, N, hnews⟩ := R.news
    obtain ⟨o1, ⟨e1, _⟩, hm1⟩ := hnews _ hf
    refine hG ?_
    clear hG
    cases (show o1 = _ from e1)
    refine bc fun hG => ?_
    obtain ⟨o2, ⟨vs2, t2, hd2, hv2⟩, ho2⟩ := R.get hcd
    refine hG ?_
    clear hG
    have hlen : names.length = vs.length := hn.trans ra.length
    have hdep := A.depth
    have hun := A.units
    refine wpAny_call (kla_code (cl := cl) B Fm A.X N T hfr A.frame A.kind hm1 ⟨cd, o2, vs2, t2, rfl, ho2, hd2, hv2⟩ (by unfold recursionLimit; wtm_at "om") (hb vs ra.length.symm)
      (fun y hy => hloc y.1 (by rw [← zip_fst hlen]; exact List.mem_map_of_mem hy)) (fun g L' h₁ FG F' N' B' X' T' => ?_) hco hgen hk hcell)
    have A' : Act K ⟨c.w, g, L', c.A.deeper (envX qual scope L' f (.ref cd) cl)⟩ n (envX qual scope L' f (.ref cd) cl) :=
      ⟨⟨c.A, base, env :: outer, B', Around.frames_deeper hfr⟩, rfl, hk, X', ⟨p, loose, mean, mg, mb, T'⟩, by show c.A.depth + 1 + n ≤ 900; wtm_at "om", by show c.A.units + 3 + 20 * n ≤ 9000; wtm_at "om"⟩
    have R' : Rep g L' (names.zip as) ow h₁ := by
      refine Rep.ofNews F' (fun x a e => ?_) N' R.nd hnews
      obtain ⟨v, e', r⟩ := zip_lookup hnd ra x a e
      exact ⟨v, by rw [← lookup_perm (List.reverse_perm _).symm (by rw [zip_fst hlen]; exact hnd)]; exact e', r⟩
    refine (h ⟨c.w, g, L', c.A.deeper (envX qual scope L' f (.ref cd) cl)⟩ rfl rfl A').run _ _ _ R' fun a v lc1 ow1 h2 tk2 q rv R2 => ?_
    refine bc fun hG => ?_
    obtain ⟨ow'', Pk, q⟩ := q
    refine hG ?_
    clear hG
    have R2 := R2.pick Pk
    refine bc fun hG => ?_
    obtain ⟨m', F2, _⟩ := R2.fr
    obtain ⟨news', N2, hnews'⟩ := R2.news
    refine hG ?_
    clear hG
    refine leaveK_ F2 N2 fun F3 N3 => ?_
    have R3 : Rep c.g c.L lc ow'' h2 := Rep.ofNews F3 hl N3 R2.nd hnews'
    exact kp _ _ _ _ _ _ q rv R3
theorem kpr_clo {f : Addr} {name qual : Str} {params : Arguments} {body : List Stmt} {scope : Scope} {cl : List (Str × Addr)} {doc pm ctv : Value} {cd : Addr} (hf : (f, AO.obj (fnMade name qual params body scope cl doc pm cd ctv)) ∈ ow) : ∀ fv, AV.rep (.ref f) fv → Kpr c fv lc ow := by
  rintro _ rfl
  exact kpr_func (o := default) (fd := default) fun s R => by obtain ⟨o1, ⟨rfl, _⟩, ho1⟩ := R.get hf; exact ⟨_, _, ho1, rfl⟩
theorem kpr_lam {f : Addr} {name qual : Str} {params : Arguments} {body : PySem.Expr} {scope : Scope} {cl : List (Str × Addr)} {pm ctv : Value} {cd : Addr} (hf : (f, AO.obj (kla_obj name qual params body scope cl pm cd ctv)) ∈ ow) : ∀ fv, AV.rep (.ref f) fv → Kpr c fv lc ow := by
  rintro _ rfl
  exact kpr_func (o := default) (fd := default) fun s R => by obtain ⟨o1, ⟨rfl, _⟩, ho1⟩ := R.get hf; exact ⟨_, _, ho1, rfl⟩
end
end

section
theorem bindL_get {k : Str → Option NameKind} : ∀ {names : List Str}, names.Nodup → ∀ {vs : List Value} {m : Str → Option Value} {x : Str} {v : Value}, k x = some .local → (names.zip vs).lookup x = some v → bindL k (names.zip vs) m x = some v := by
  have keep : ∀ {names : List Str} {vs : List Value} {m : Str → Option Value} {x : Str}, x ∉ names → bindL k (names.zip vs) m x = m x := by
    intro names
    induction names with
    | nil => intro vs m x _; rfl
    | cons n r ih =>
      intro vs m x hx
      cases vs with
      | nil => rfl
      | cons v vs =>
        rw [List.zip_cons_cons]
        show bindL k (r.zip vs) _ x = _
        rw [ih (fun h => hx (.tail _ h))]
        have : ¬ x = n := fun e => hx (e ▸ .head _)
        split
        · exact if_neg this
        · rfl
  intro names
  induction names with
  | nil => intro _ vs m x v _ h; cases h
  | cons n r ih =>
    intro nd vs m x v hk h
    cases vs with
    | nil => cases h
    | cons u vs =>
      rw [List.zip_cons_cons] at h ⊢
      rw [List.lookup_cons] at h
      show bindL k (r.zip vs) _ x = _
      by_cases e : x = n
      · subst e
        simp only [beq_self_eq_true] at h
        rw [keep (List.nodup_cons.mp nd).1, if_pos hk]
        exact (if_pos rfl).trans h
      · have : (x == n) = false := beq_eq_false_iff_ne.mpr e
        rw [this] at h
        exact ih (List.nodup_cons.mp nd).2 hk h
theorem bindC_get {k : Str → Option NameKind} : ∀ {names : List Str}, names.Nodup → ∀ {vs : List Value} {m : Str → Option Value} {x : Str}, k x = some .cell → bindC k (names.zip vs) m x = ((names.zip vs).lookup x).or (m x) := by
  have keep : ∀ {names : List Str} {vs : List Value} {m : Str → Option Value} {x : Str}, x ∉ names → bindC k (names.zip vs) m x = m x := by
    intro names
    induction names with
    | nil => intro vs m x _; rfl
    | cons n r ih =>
      intro vs m x hx
      cases vs with
      | nil => rfl
      | cons v vs =>
        rw [List.zip_cons_cons]
        show bindC k (r.zip vs) _ x = _
        rw [ih (fun h => hx (.tail _ h))]
        have : ¬ x = n := fun e => hx (e ▸ .head _)
        split
        · rfl
        · exact if_neg this
  intro names
  induction names with
  | nil => intro _ vs m x _; rfl
  | cons n r ih =>
    intro nd vs m x hk
    cases vs with
    | nil => rfl
    | cons u vs =>
      rw [List.zip_cons_cons, List.lookup_cons]
      show bindC k (r.zip vs) _ x = _
      by_cases e : x = n
      · subst e
        rw [keep (List.nodup_cons.mp nd).1, if_neg (by rw [hk]; decide)]
        simp
      · have : (x == n) = false := beq_eq_false_iff_ne.mpr e
        rw [ih (List.nodup_cons.mp nd).2 hk, this]
        split
        · rfl
        · simp only [if_neg e]
theorem cells_acc : ∀ (names : List (Str × NameKind)) (n : Nat) (acc : List (Str × Addr)) (x : Str), (acc.lookup x).isSome = true → ((cellsFrom n names acc).lookup x).isSome = true
  | [], n, acc, x, h => h
  | (name, kind) :: r, n, acc, x, h => by
    unfold cellsFrom
    split
    · refine cells_acc r _ _ x ?_
      rw [List.lookup_cons]
      split
      · rfl
      · exact h
    · exact cells_acc r _ _ x h
theorem cells_has : ∀ (names : List (Str × NameKind)) (n : Nat) (acc : List (Str × Addr)) (x : Str), names.lookup x = some .cell → ((cellsFrom n names acc).lookup x).isSome = true
  | [], n, acc, x, h => by cases h
  | (name, kind) :: r, n, acc, x, h => by
    unfold cellsFrom
    rw [List.lookup_cons] at h
    by_cases e : x = name
    · subst e
      simp only [beq_self_eq_true] at h
      cases h
      refine cells_acc r _ _ x ?_
      rw [List.lookup_cons]
      simp
    · have : (x == name) = false := beq_eq_false_iff_ne.mpr e
      rw [this] at h
      split
      · exact cells_has r _ _ x h
      · exact cells_has r _ _ x h
theorem lget_zip_none {names : List Str} : ∀ {as : List AV} {vs : List Value}, All2 as vs → ∀ x, lget (names.zip as) x = none → (names.zip vs).lookup x = none := by
  induction names with
  | nil => intro as vs _ x _; rfl
  | cons n r ih =>
    intro as vs h2 x h
    cases as with
    | nil => cases vs with
      | nil => rfl
      | cons => exact h2.elim
    | cons b as =>
      cases vs with
      | nil => exact h2.elim
      | cons v vs =>
        rw [List.zip_cons_cons] at h ⊢
        simp only [lget] at h
        rw [List.lookup_cons]
        by_cases e : n = x
        · rw [if_pos e] at h; cases h
        · rw [if_neg e] at h
          have e' : (x == n) = false := beq_eq_false_iff_ne.mpr fun z => e z.symm
          rw [e']
          exact ih h2.2 x h
theorem cellsAre_rep {names : List Str} {as : List AV} {vs : List Value} {k : Str → Option NameKind} (nd : names.Nodup) (r : All2 as vs) : ∀ {cs : List (Str × Addr)} {cells : List (Addr × Obj)}, CellsAre (bindC k (names.zip vs) fun _ => none) cs cells → (∀ p ∈ cs, k p.1 = some .cell) →
    ∀ q ∈ cs.map (fun p => (p.2, AO.cell (lget (names.zip as) p.1))), ∃ o, q.2.rep o ∧ (q.1, o) ∈ cells := by
  intro cs cells h
  induction h with
  | nil => exact fun _ q hq => nomatch hq
  | @cons n c o cs cells hd t ih =>
    intro hk q hq
    rcases List.mem_cons.mp hq with rfl | hq
    · refine ⟨_, ?_, .head _⟩
      rw [bindC_get nd (hk _ (.head _))] at hd
      show AO.rep (.cell (lget (names.zip as) n)) _
      cases e : lget (names.zip as) n with
      | none => rw [lget_zip_none r n e] at hd; exact hd
      | some a =>
        refine bc fun hG => ?_
        obtain ⟨v, e', rv⟩ := zip_lookup nd r n a e
        refine hG ?_
        clear hG
        rw [e'] at hd
        exact ⟨v, hd, rv⟩
    · obtain ⟨o, r1, m1⟩ := ih (fun p hp => hk p (.tail _ hp)) q hq
      exact ⟨o, r1, .tail _ m1⟩
theorem lget_mem : ∀ {ls : LC} {x : Str} {a : AV}, lget ls x = some a → ∃ p ∈ ls, p.1 = x
  | [], _, _, e => by cases e
  | (y, b) :: r, x, a, e => by
    simp only [lget] at e
    by_cases hy : y = x
    · exact ⟨_, .head _, hy⟩
    · rw [if_neg hy] at e; obtain ⟨p, hp, e⟩ := lget_mem e; exact ⟨p, .tail _ hp, e⟩
theorem cellsFrom_ge : ∀ (names : List (Str × NameKind)) (n : Nat) (acc : List (Str × Addr)), (acc.map (·.2)).Nodup → (∀ p ∈ acc, p.2 < n) → ((cellsFrom n names acc).map (·.2)).Nodup ∧ ∀ p ∈ cellsFrom n names acc, p ∈ acc ∨ (n ≤ p.2 ∧ names.contains (p.1, NameKind.cell) = true)
  | [], n, acc, nd, _ => ⟨nd, fun p hp => .inl hp⟩
  | (name, kind) :: r, n, acc, nd, lt => by
    unfold cellsFrom
    split
    · rename_i hk
      have hk' : kind = .cell := by simpa using hk
      subst hk'
      have := cellsFrom_ge r (n + 1) ((name, n) :: acc) (by
        rw [List.map_cons, List.nodup_cons]
        refine ⟨fun hm => ?_, nd⟩
        refine bc fun hG => ?_
        obtain ⟨q, hq, e⟩ := List.mem_map.mp hm
        refine hG ?_
        clear hG
        have := lt q hq
        rw [e] at this
        exact Nat.lt_irrefl _ this) (fun p hp => by
        rcases List.mem_cons.mp hp with rfl | hp
        · exact Nat.lt_succ_self _
        · exact Nat.lt_succ_of_lt (lt p hp))
      refine ⟨this.1, fun p hp => ?_⟩
      rcases this.2 p hp with h | h
      · rcases List.mem_cons.mp h with rfl | h
        · exact .inr ⟨Nat.le_refl _, by simp⟩
        · exact .inl h
      · refine .inr ⟨Nat.le_of_succ_le h.1, ?_⟩
        have := h.2
        simp only [List.contains_iff_mem] at this ⊢
        exact .tail _ this
    · have := cellsFrom_ge r n acc nd lt
      refine ⟨this.1, fun p hp => ?_⟩
      rcases this.2 p hp with h | h
      · exact .inl h
      · refine .inr ⟨h.1, ?_⟩
        have := h.2
        simp only [List.contains_iff_mem] at this ⊢
        exact .tail _ this

section
variable {K : Frag} {c : Cx} {lc : LC} {ow : OW} {env : Env} {n : Nat}
/-- a def with cells of its own, called by position -/
theorem cal_cells {f cd : Addr} {qual : Str} {st : Stmt} {dV kV : Value} {as : List AV} {names : List Str} {ls : LC} {cw : Addr → OW} {Q} (A : Act K c (n + 1) env) (F : FnK K f cd qual st dV kV)
    (hn : names.length = as.length) (hnd : names.Nodup) (hkinds : ∀ x ∈ names, (fScope st).names.lookup x = some .local ∨ (fScope st).names.lookup x = some .cell)
    (hb : ∀ vs : List Value, vs.length = as.length → ∀ doc pm an ct, bindArgs (fnX (fName st) qual (fArgs st) (fBody st) (fScope st) [] dV kV doc pm an (.ref cd) ct) ⟨vs, []⟩ = pure (names.zip vs))
    (hls : LSub ls (names.zip as)) (hls2 : ∀ p ∈ ls, (fScope st).names.lookup p.1 = some .local)
    (hall : ∀ p ∈ (fScope st).names, p.2 = .cell → (fScope st).names.lookup p.1 = some .cell)
    (hcw : ∀ L', (cellsFrom (L' + 1) (fScope st).names []).map (fun p => (p.2, AO.cell (lget (names.zip as) p.1))) = cw L')
    (hcnd : ((cellsFrom 0 (fScope st).names []).map (·.1)).Nodup) (hco : (fScope st).isCoroutine = false) (hgen : (fScope st).isGenerator = false) (hk : (fScope st).kind = .function)
    (h : ∀ c' : Cx, c'.w = c.w → c'.A.handled = c.A.handled → Act K c' n (envOfC qual (fScope st) c'.L f (.ref cd)) →
      SX c' (execs (fBody st) (envOfC qual (fScope st) c'.L f (.ref cd))) ls (cw c'.L ++ ow) (retP Q lc)) : Cal c (.con (.ref f)) as [] lc ow Q := by
  refine ⟨?_⟩
  rintro _ vs kvs rfl ra hkn rk
  cases kvs with
  | cons => cases hkn
  | nil =>
    refine ⟨fun s P E R kp => ?_⟩
    refine bc fun hG => ?_
    obtain ⟨oc, od, osl, doc, pm, an, ct, hK, hcd⟩ := F
    obtain ⟨A₀, base, outer, B, hfr⟩ := A.below
    obtain ⟨p, loose, mean, mg, mb, T⟩ := A.T
    obtain ⟨m, Fm, hl⟩ := R.fr
    obtain ⟨news, N, hnews⟩ := R.news
    refine hG ?_
    clear hG
    have X := A.X.keeps Fm.keep
    have hlen : names.length = vs.length := hn.trans ra.length
    have hdep := A.depth
    have hun := A.units
    have hmem : ∀ y ∈ names.zip vs, y.1 ∈ names := fun y hy => by rw [← zip_fst hlen]; exact List.mem_map_of_mem hy
    refine wpAny_call (callX_cells B Fm N T.nolimit hfr A.frame A.kind (X _ _ hK) rfl (codeRec_of X hcd) (by unfold recursionLimit; wtm_at "om") (BindsTo.of_eq (hb vs ra.length.symm doc pm an ct))
      (fun n' y hy => (hkinds y.1 (hmem y hy)).imp id fun e => ⟨e, cells_has _ _ _ _ e⟩) hcnd (fun g L' h₁ tk cells FG F' N' CA B' st' lt => ?_) hco hgen hk)
    have A' : Act K ⟨c.w, g, L', c.A.deeper (envOfC qual (fScope st) L' f (.ref cd))⟩ n (envOfC qual (fScope st) L' f (.ref cd)) :=
      ⟨⟨c.A, base, env :: outer, B', Around.frames_deeper hfr⟩, rfl, hk, A.X.keeps st', ⟨p, loose, mean, mg, mb, T.keeps st'⟩, by show c.A.depth + 1 + n ≤ 900; wtm_at "om", by show c.A.units + 3 + 20 * n ≤ 9000; wtm_at "om"⟩
    have cge := cellsFrom_ge (fScope st).names (L' + 1) [] List.nodup_nil (fun p hp => nomatch hp)
    have R' : Rep g L' ls (cw L' ++ ow) h₁ := by
      refine Rep.ofNews F' (fun x a e => ?_) N' ?_ fun q hq => ?_
      · refine bc fun hG => ?_
        obtain ⟨v, e', r⟩ := zip_lookup hnd ra x a (hls x a e)
        refine hG ?_
        clear hG
        refine ⟨v, bindL_get hnd ?_ e', r⟩
        show (fScope st).names.lookup x = _
        have : ∃ p ∈ ls, p.1 = x := lget_mem e
        obtain ⟨p, hp, rfl⟩ := this
        exact hls2 p hp
      · rw [List.map_append]
        refine List.nodup_append.mpr ⟨?_, R.nd, ?_⟩
        · rw [← hcw, List.map_map]; exact cge.1
        · intro a ha b hb e
          rw [← hcw, List.map_map] at ha
          refine bc fun hG => ?_
          obtain ⟨q, hq, rfl⟩ := List.mem_map.mp ha
          obtain ⟨q', hq', rfl⟩ := List.mem_map.mp hb
          refine hG ?_
          clear hG
          have h1 := (cge.2 q hq).resolve_left (fun h => nomatch h)
          refine bc fun hG => ?_
          obtain ⟨o, _, hm⟩ := hnews q' hq'
          refine hG ?_
          clear hG
          have h2 := lt _ hm
          have h3 : q.2 = q'.1 := e
          rw [← h3] at h2
          exact Nat.lt_irrefl _ (Nat.lt_of_lt_of_le (Nat.lt_trans h2 (Nat.lt_succ_self _)) h1.1)
      · rcases List.mem_append.mp hq with hq | hq
        · rw [← hcw] at hq
          obtain ⟨o, r1, m1⟩ := cellsAre_rep hnd ra CA (fun p hp => by
            have h1 := ((cge.2 p hp).resolve_left (fun h => nomatch h)).2
            exact hall _ (List.contains_iff_mem.mp h1) rfl) q hq
          exact ⟨o, r1, List.mem_append_left _ m1⟩
        · obtain ⟨o, r1, m1⟩ := hnews q hq
          exact ⟨o, r1, List.mem_append_right _ m1⟩
    refine (sx_retQ (h ⟨c.w, g, L', c.A.deeper (envOfC qual (fScope st) L' f (.ref cd))⟩ rfl rfl A')).run _ _ _ R' fun fl x lc1 ow1 h2 tk2 q r R2 => ?_
    refine bc fun hG => ?_
    obtain ⟨m', F2, _⟩ := R2.fr
    obtain ⟨news', N2, hnews'⟩ := R2.news
    refine hG ?_
    clear hG
    refine leaveK_ F2 N2 fun F3 N3 => ?_
    have R3 : Rep c.g c.L lc ow1 h2 := Rep.ofNews F3 hl N3 R2.nd hnews'
    cases fl with
    | ret a => obtain ⟨v, rfl, rv⟩ := r; exact kp _ _ _ _ _ _ q rv R3
    | next => cases (show x = _ from r); exact kp .none _ _ _ _ _ q rfl R3
    | brk => cases (show x = _ from r); exact kp .none _ _ _ _ _ q rfl R3
    | cont => cases (show x = _ from r); exact kp .none _ _ _ _ _ q rfl R3
end
end

section
structure AsgO (c : Cx) (ts : List (Value → Sem Unit)) (xs : List AV) (lc : LC) (ow : OW) (Q : LC → OW → Prop) : Prop where
  run : ∀ vs, All2 xs vs → UX c (assignInOrder ts vs) lc ow Q
structure SetI (c : Cx) (a i x : AV) (lc : LC) (ow : OW) (Q : LC → OW → Prop) : Prop where
  run : ∀ u v y, a.rep u → i.rep v → x.rep y → UX c (setItem u v y) lc ow Q
section
variable {c : Cx} {lc lc' : LC} {ow ow' : OW} {env : Env}
theorem ao_nil {Q} (h : Q lc ow) : AsgO c [] [] lc ow Q := ⟨fun vs _ => by
  cases vs with
  | nil => exact AWp.pure (b := ()) trivial h
  | cons => exact AWp.pure (b := ()) trivial h⟩
theorem ao_asg {e : PySem.Expr} {ts a xs} {Q} (h : Asg c env e a lc ow fun lc1 ow1 => AsgO c ts xs lc1 ow1 Q) : AsgO c (assign e env :: ts) (a :: xs) lc ow Q := ⟨fun vs r => by
  cases vs with
  | nil => exact r.elim
  | cons v vs => exact AWp.bind (AWp.holding ((h.run v r.1).mono fun _ lc1 ow1 q _ _ => q.run vs r.2))⟩
theorem ao_bind {x : Str} {ts a xs} {Q} (h : Sto c env x a lc ow fun lc1 ow1 => AsgO c ts xs lc1 ow1 Q) : AsgO c ((fun v => bindName env x v) :: ts) (a :: xs) lc ow Q := ⟨fun vs r => by
  cases vs with
  | nil => exact r.elim
  | cons v vs => exact AWp.bind (rp := rU) (AWp.holding ⟨fun s P E R kp => wpAny_bindName ((h.run v r.1).run s _ E R fun _ _ lc1 ow1 h1 tk1 q _ R1 => kp () () lc1 ow1 h1 tk1 (fun _ _ => q.run vs r.2) trivial R1)⟩)⟩
/-- the target is a tuple, the value a tuple -/
theorem asg_tuple {elts : List PySem.Expr} {k tpos} {t : Addr} {xs : List AV} {ts} {Q} (hh : c.A.handled = none) (ht : (t, AO.tup xs) ∈ ow) (h : AsgO c ts xs lc ow Q)
    (he : autoParam ((assignEach elts env).map (·.2) = ts) kr0) (hst : autoParam ((assignEach elts env).findIdx? (·.1) = none) kr0) (hn : autoParam (ts.length = xs.length) kr0) : Asg c env (.Tuple elts k tpos) (.ref t) lc ow Q := by
  refine ⟨?_⟩
  rintro _ rfl
  refine ⟨fun s P E R kp => ?_⟩
  refine bc fun hG => ?_
  obtain ⟨o, ⟨vs, n, rfl, r⟩, ho⟩ := R.get ht
  refine hG ?_
  clear hG
  have ht' : IsTup s.heap t vs.toArray := ⟨_, ho, rfl, n, rfl⟩
  refine assign_Tuple_tuple hh ht' (by rw [List.size_toArray, ← r.length, ← hn, ← he, List.length_map]) hst fun h' hx => ?_
  rw [he]
  exact (h.run vs r).run _ P E (R.ext hx) kp
theorem sx_tuple {elts : List PySem.Expr} {k tpos value pos} {Q : AF → LC → OW → Prop} (h : EV c (eval value env) lc ow fun a lc1 ow1 => Asg c env (.Tuple elts k tpos) a lc1 ow1 (Q .next))
    (hs : autoParam (swapsWithSole [.Tuple elts k tpos] value pos.line env = pure false) kr0) (hw : autoParam (swappedStores [.Tuple elts k tpos] value env = pure none) kr0) : SX c (exec (.Assign [.Tuple elts k tpos] value pos) env) lc ow Q :=
  ⟨fun s P E R kp => Assign_Tuple (h.run s _ E R fun a v lc1 ow1 h1 tk1 q ra R1 => (q.run v ra).run _ _ E R1 fun _ _ lc2 ow2 h2 tk2 q2 _ R2 => kp .next .next _ _ _ _ q2 rfl R2) hs hw⟩
/-- stores that the compiler turns about -/
theorem sx_swap {elts : List PySem.Expr} {k tpos value pos} {names : List Str} {Q : AF → LC → OW → Prop} (hh : c.A.handled = none) (h : EV c (eval value env) lc ow fun a lc1 ow1 => ∃ t xs, a = .ref t ∧ (t, AO.tup xs) ∈ ow1 ∧ xs.length = names.length ∧ AsgO c (names.reverse.map fun n v => bindName env n v) xs.reverse lc1 ow1 (Q .next))
    (hs : autoParam (swapsWithSole [.Tuple elts k tpos] value pos.line env = pure false) kr0) (hw : autoParam (swappedStores [.Tuple elts k tpos] value env = pure (some names)) kr0) : SX c (exec (.Assign [.Tuple elts k tpos] value pos) env) lc ow Q :=
  ⟨fun s P E R kp => Assign_Tuple_swapped (h.run s _ E R fun a v lc1 ow1 h1 tk1 q ra R1 => by
    refine bc fun hG => ?_
    obtain ⟨t, xs, rfl, hm, hn, q⟩ := q
    refine hG ?_
    clear hG
    cases (show v = _ from ra)
    refine bc fun hG => ?_
    obtain ⟨o, ⟨vs, n, rfl, r⟩, ho⟩ := R1.get hm
    refine hG ?_
    clear hG
    have ht' : IsTup h1 t vs.toArray := ⟨_, ho, rfl, n, rfl⟩
    have hsz : names.length = vs.toArray.size := by rw [List.size_toArray, ← r.length, hn]
    rw [hsz]
    refine unpackItems_tuple hh ht' fun h' hx => ?_
    exact (q.run vs.reverse r.reverse).run _ _ E (R1.ext hx) fun _ _ lc2 ow2 h2 tk2 q2 _ R2 => kp .next .next _ _ _ _ q2 rfl R2) hs hw⟩

theorem set_list {l : Addr} {xs : List AV} {k : Int} {x : AV} {Q} (U : Upd ow l (.list xs) (.list (xs.set k.toNat x)) ow') (hk : 0 ≤ k) (hn : k.toNat < xs.length) (hz : xs.length ≤ 1000000) (h : Q lc ow') : SetI c (.ref l) (.int k) x lc ow Q := by
  refine ⟨?_⟩
  rintro _ _ y rfl ⟨t, rfl⟩ rx
  refine ⟨fun s P E R kp => ?_⟩
  refine bc fun hG => ?_
  obtain ⟨o, ⟨vs, n, rfl, r⟩, ho⟩ := R.get U.mem
  refine hG ?_
  clear hG
  have hlen := r.length
  have hl : s.heap.IsList l vs.toArray := ⟨_, ho, rfl, n, rfl⟩
  have hfit : k < 2 ^ 63 := by wtm_at "om"
  have hj : k.toNat < vs.length := by wtm_at "om"
  unfold setItem
  try with_reducible refine wpAny_holding ?_
  first | refine wpAny_bind (wpAny_pure ?_) | skip
  refine wpAny_bind (wpAny_sequenceKey hl.typeIs (by decide) ?_)
  refine wpAny_bind (wpAny_callSpecial?_slot (name := Str.ofString "__setitem__") hl.typeIs slot_list_setitem
    (wpAny_call_entry slot_list_setitem hl.typeIs entry_list_setitem ?_ (args_list_setitem _ _ _)))
  show wpAny _ _ (Builtin.List.listSubscript? (.int k t) >>= _) _ _ s
  refine wpAny_bind (wpAny_listSubscript_int (fitsIndex_of hk hfit) ?_)
  obtain ⟨j, rfl⟩ := Int.eq_ofNat_of_zero_le hk
  have hx' : vs.toArray[j]? = some (vs[j]'hj) := by rw [List.getElem?_toArray]; exact List.getElem?_eq_getElem hj
  show wpAny _ _ ((seqItemAt l j >>= fun r => pure (r.map (j, ·))) >>= _) _ _ s
  refine wpAny_bind (wpAny_bind (wpAny_seqItemAt ho rfl (wpAny_pure ?_)))
  rw [hx']
  show wpAny _ _ (setSeqItemAt l j y >>= _) _ _ s
  have fin : Rep c.g c.L lc ow' (s.heap.update l (Obj.mapSeq (·.setIfInBounds j y))) := R.upd U fun o' ro' ho' => by
    rw [ho] at ho'
    cases ho'
    exact mapSeq_rep (us := vs.set j y) (by simp) (r.set rx)
  refine wpAny_bind (wpAny_setSeqItemAt ho rfl ?_)
  first
    | exact wpAny_bind (wpAny_pure (wpAny_pure ⟨.none, rfl, wpAny_pure (kp () () _ _ _ s.toks h trivial fin)⟩))
    | exact wpAny_pure ⟨.none, rfl, wpAny_pure (kp () () _ _ _ s.toks h trivial fin)⟩
theorem sx_setitem {o i : PySem.Expr} {pos' value pos} {Q : AF → LC → OW → Prop} (h : EV c (eval value env) lc ow fun x lc1 ow1 => EV c (eval o env) lc1 ow1 fun a lc2 ow2 => EV c (eval i env) lc2 ow2 fun b lc3 ow3 => SetI c a b x lc3 ow3 (Q .next))
    (hs : autoParam (swapsWith value (some (.Subscript o i pos')) pos.line env = pure false) kr0) : SX c (exec (.Assign [.Subscript o i pos'] value pos) env) lc ow Q :=
  ⟨fun s P E R kp => wpAny_Assign_Subscript (h.run s _ E R fun x v lc1 ow1 h1 tk1 q rx R1 => q.run _ _ E R1 fun a u lc2 ow2 h2 tk2 q2 ra R2 => q2.run _ _ E R2 fun b w lc3 ow3 h3 tk3 q3 rb R3 =>
    (q3.run u w v ra rb rx).run _ _ E R3 fun _ _ lc4 ow4 h4 tk4 q4 _ R4 => kp .next .next _ _ _ _ q4 rfl R4) hs⟩
theorem sx_augitem {o i : PySem.Expr} {tpos op value pos} {Q : AF → LC → OW → Prop} (h : EV c (eval o env) lc ow fun a lc1 ow1 => EV c (eval i env) lc1 ow1 fun b lc2 ow2 => Sub c a b lc2 ow2 fun old lc3 ow3 => EV c (eval value env) lc3 ow3 fun x lc4 ow4 => Inp c op old x lc4 ow4 fun y lc5 ow5 => SetI c a b y lc5 ow5 (Q .next))
    (hs : autoParam (∀ ov iv new, augStore i ov iv new = (do holding [new, ov, iv] (setItem ov iv new); release [new, ov, iv] []; pure .next)) kr3) : SX c (exec (.AugAssign (.Subscript o i tpos) op value pos) env) lc ow Q :=
  ⟨fun s P E R kp => wpAny_AugAssign_SubscriptAny (h.run s _ E R fun a u lc1 ow1 h1 tk1 q ra R1 => q.run _ _ E R1 fun b w lc2 ow2 h2 tk2 q2 rb R2 => (q2.run u w ra rb).1.run _ _ E R2 fun old ov lc3 ow3 h3 tk3 q3 ro R3 =>
    q3.run _ _ E R3 fun x v lc4 ow4 h4 tk4 q4 rx R4 => (q4.run ov v ro rx).run _ _ E R4 fun y yv lc5 ow5 h5 tk5 q5 ry R5 => (q5.run u w yv ra rb ry).run _ _ E R5 fun _ _ lc6 ow6 h6 tk6 q6 _ R6 => kp .next .next _ _ _ _ q6 rfl R6) hs⟩

-- comparing data
theorem carried_ints : ∀ {ns : List Int} {vs : List Value}, All2 (ns.map .int) vs → CarriedAll vs (ns.map PyData.int)
  | [], [], _ => .nil
  | _ :: _, v :: _, ⟨⟨t, e⟩, r⟩ => by subst e; exact .cons (.int _ _) (carried_ints r)
theorem str_canLay : ∀ ss : List (List Nat), (∀ x ∈ ss, PyData.strOk ⟨x.toArray⟩ = true) → PyData.canLayAll0 (ss.map fun x => PyData.str ⟨x.toArray⟩) = true
  | [], _ => rfl
  | x :: r, ok => by simp [PyData.canLayAll0, PyData.canLay0, str_canLay r fun y hy => ok y (.tail _ hy), ok x (.head _)]
theorem str_depth : ∀ ss : List (List Nat), PyData.depthAll (ss.map fun x => PyData.str ⟨x.toArray⟩) = 0
  | [] => rfl
  | _ :: r => by simp [PyData.depthAll, PyData.depth, str_depth r]
theorem str_shaped (ss : List (List Nat)) (ok : ∀ x ∈ ss, PyData.strOk ⟨x.toArray⟩ = true) : SeqAt.shaped (.list (ss.map fun x => PyData.str ⟨x.toArray⟩)) = true := by
  simp [SeqAt.shaped, PyData.canLay0, PyData.depth, str_canLay ss ok, str_depth]
theorem str_sameAll : ∀ ss tt : List (List Nat), PySem.Spec.sameAll (ss.map fun x => PyData.str ⟨x.toArray⟩) (tt.map fun x => PyData.str ⟨x.toArray⟩) = decide (ss = tt)
  | [], [] => by simp [PySem.Spec.sameAll]
  | [], _ :: _ => by simp [PySem.Spec.sameAll]
  | _ :: _, [] => by simp [PySem.Spec.sameAll]
  | a :: r, b :: t => by
    simp only [List.map_cons, PySem.Spec.sameAll, PySem.Spec.same, str_sameAll r t]
    by_cases h : a = b <;> by_cases h' : r = t <;> simp [h, h']
theorem c_nels {a b : Addr} {xs ys : List AV} {ss tt : List (List Nat)} {Q} (hu : c.A.units ≤ 9000) (ha : (a, AO.list xs) ∈ ow) (hb : (b, AO.list ys) ∈ ow) (hx : xs = ss.map .str) (hy : ys = tt.map .str) (ok1 : ∀ x ∈ ss, PyData.strOk ⟨x.toArray⟩ = true) (ok2 : ∀ x ∈ tt, PyData.strOk ⟨x.toArray⟩ = true) (h : Q (.bool (decide (ss ≠ tt))) lc ow) : Cmp c .NotEq (.ref a) (.ref b) lc ow Q := by
  subst hx hy
  refine ⟨?_⟩
  rintro _ _ rfl rfl
  refine ⟨fun s P E R kp => ?_⟩
  refine bc fun hG => ?_
  obtain ⟨o, ⟨vs, n, rfl, r⟩, ho⟩ := R.get ha
  obtain ⟨o', ⟨us, n', rfl, r'⟩, ho'⟩ := R.get hb
  refine hG ?_
  clear hG
  refine ne_dataH_same (reads_newData (⟨_, ho, rfl, n, rfl⟩ : s.heap.IsList a vs.toArray) (all2_strs r)) (reads_newData (⟨_, ho', rfl, n', rfl⟩ : s.heap.IsList b us.toArray) (all2_strs r')) (str_shaped _ ok1) (str_shaped _ ok2) (Nat.lt_of_le_of_lt (Nat.add_le_add_right hu 64) (by decide))
    (SeqAt.noMix_of_shape (.list .str) rfl _ _ (list_map_has fun _ => rfl) (list_map_has fun _ => rfl)) ?_
  have e : PySem.Spec.same (.list (ss.map fun x => PyData.str ⟨x.toArray⟩)) (.list (tt.map fun x => PyData.str ⟨x.toArray⟩)) = decide (ss = tt) := by simp only [PySem.Spec.same]; exact str_sameAll ss tt
  rw [e]
  exact kp (.bool (decide (ss ≠ tt))) _ _ _ s.heap s.toks h (by show Value.bool _ = Value.bool _; congr 1; simp) R
/-- an empty list against one of strings -/
theorem c_eqls0 {a b : Addr} {xs : List AV} {ss : List (List Nat)} {Q} (hu : c.A.units ≤ 9000) (ha : (a, AO.list xs) ∈ ow) (hb : (b, AO.list []) ∈ ow) (hx : xs = ss.map .str) (ok1 : ∀ x ∈ ss, PyData.strOk ⟨x.toArray⟩ = true) (h : Q (.bool (decide (ss = []))) lc ow) : Cmp c .Eq (.ref a) (.ref b) lc ow Q := by
  subst hx
  refine ⟨?_⟩
  rintro _ _ rfl rfl
  refine ⟨fun s P E R kp => ?_⟩
  refine bc fun hG => ?_
  obtain ⟨o, ⟨vs, n, rfl, r⟩, ho⟩ := R.get ha
  obtain ⟨o', ⟨us, n', rfl, r'⟩, ho'⟩ := R.get hb
  refine hG ?_
  clear hG
  refine eq_dataH_same (reads_newData (⟨_, ho, rfl, n, rfl⟩ : s.heap.IsList a vs.toArray) (all2_strs r)) (reads_newData (⟨_, ho', rfl, n', rfl⟩ : s.heap.IsList b us.toArray) (all2_strs (ss := []) r')) (str_shaped _ ok1) (str_shaped _ fun _ h => nomatch h) (Nat.lt_of_le_of_lt (Nat.add_le_add_right hu 64) (by decide))
    (SeqAt.noMix_of_shape (.list .str) rfl _ _ (list_map_has fun _ => rfl) (list_map_has fun _ => rfl)) ?_
  have e : PySem.Spec.same (.list (ss.map fun x => PyData.str ⟨x.toArray⟩)) (.list (([] : List (List Nat)).map fun x => PyData.str ⟨x.toArray⟩)) = decide (ss = []) := by simp only [PySem.Spec.same]; exact str_sameAll ss []
  rw [e]
  exact kp _ _ _ _ s.heap s.toks h rfl R
/-- tuples of ints -/
theorem readsAll_of {h : Heap} : ∀ {vs : List Value} {ds : List PyData}, CarriedAll vs ds → ∃ as, ReadsAll h vs ds as
  | _, _, .nil => ⟨_, .nil⟩
  | _, _, .cons hc r => by
    obtain ⟨as, r⟩ := readsAll_of r
    cases hc with
    | int i t => exact ⟨_, .cons (.int i t) r⟩
    | bool b => exact ⟨_, .cons (.bool b) r⟩
    | str x t => exact ⟨_, .cons (.str x t) r⟩
    | none => exact ⟨_, .cons .none r⟩
theorem c_neti {a b : Addr} {xs ys : List AV} {ns ms : List Int} {Q} (hu : c.A.units ≤ 9000) (ha : (a, AO.tup xs) ∈ ow) (hb : (b, AO.tup ys) ∈ ow) (hx : xs = ns.map .int) (hy : ys = ms.map .int) (hlen : ns.length = 2) (hlen2 : ms.length = 2) (h : Q (.bool (decide (ns ≠ ms))) lc ow) : Cmp c .NotEq (.ref a) (.ref b) lc ow Q := by
  subst hx hy
  refine ⟨?_⟩
  rintro _ _ rfl rfl
  refine ⟨fun s P E R kp => ?_⟩
  refine bc fun hG => ?_
  obtain ⟨o, ⟨vs, n, rfl, r⟩, ho⟩ := R.get ha
  obtain ⟨o', ⟨us, n', rfl, r'⟩, ho'⟩ := R.get hb
  obtain ⟨as, ra⟩ := readsAll_of (h := s.heap) (carried_ints r)
  obtain ⟨bs, rb⟩ := readsAll_of (h := s.heap) (carried_ints r')
  obtain ⟨n1, ns', rfl, q⟩ := lnc hlen
  obtain ⟨n2, ns'', rfl, q2⟩ := lnc q
  refine hG ?_
  clear hG
  obtain rfl := ln0 q2
  refine bc fun hG => ?_
  obtain ⟨m1, ms', rfl, q3⟩ := lnc hlen2
  obtain ⟨m2, ms'', rfl, q4⟩ := lnc q3
  refine hG ?_
  clear hG
  obtain rfl := ln0 q4
  · refine ne_dataH_same (reads_tuple_at ho rfl rfl ra) (reads_tuple_at ho' rfl rfl rb) rfl rfl (Nat.lt_of_le_of_lt (Nat.add_le_add_right hu 64) (by decide)) rfl ?_
    have e : PySem.Spec.same (.tuple ([n1, n2].map PyData.int)) (.tuple ([m1, m2].map PyData.int)) = decide ([n1, n2] = [m1, m2]) := by simp only [PySem.Spec.same]; exact ke_sameAll [n1, n2] [m1, m2]
    rw [e]
    exact kp (.bool (decide ([n1, n2] ≠ [m1, m2]))) _ _ _ s.heap s.toks h (by show Value.bool _ = Value.bool _; congr 1; simp) R
end
end

section
inductive Pts : OW → List (Addr × Obj) → Prop
  | nil : Pts [] []
  | cons {a p o r ns} : p.rep o → Pts r ns → Pts ((a, p) :: r) ((a, o) :: ns)
theorem Pts.mem {ow : OW} {news : List (Addr × Obj)} (h : Pts ow news) : ∀ p ∈ ow, ∃ o, p.2.rep o ∧ (p.1, o) ∈ news := by
  induction h with
  | nil => intro p hp; cases hp
  | cons r h ih =>
    intro p hp
    rcases List.mem_cons.mp hp with rfl | hp
    · exact ⟨_, r, .head _⟩
    · obtain ⟨o, r1, m⟩ := ih p hp; exact ⟨o, r1, .tail _ m⟩
theorem Pts.keys {ow : OW} {news : List (Addr × Obj)} (h : Pts ow news) : news.map (·.1) = ow.map (·.1) := by
  induction h with
  | nil => rfl
  | cons r h ih => rw [List.map_cons, List.map_cons, ih]
theorem Rep.newsL {g h : Heap} {L : Addr} {lc : LC} {ow : OW} (R : Rep g L lc ow h) : ∃ news, News g L h news ∧ Pts ow news := by
  have own := R.own
  clear R
  induction ow with
  | nil => exact ⟨[], fun _ hp => (nomatch hp), .nil⟩
  | cons p r ih =>
    refine bc fun hG => ?_
    obtain ⟨news, N, h1⟩ := ih fun q hq => own q (.tail _ hq)
    obtain ⟨o, ro, e, n⟩ := own p (.head _)
    refine hG ?_
    clear hG
    refine ⟨(p.1, o) :: news, fun q hq => ?_, .cons ro h1⟩
    rcases List.mem_cons.mp hq with rfl | hq
    · exact ⟨e, n⟩
    · exact N q hq
theorem Pts.upd {ow ow' : OW} {a : Addr} {p p' : AO} (U : Upd ow a p p' ow') : ∀ {news}, Pts ow news → (ow.map (·.1)).Nodup → ∃ o, p.rep o ∧ (a, o) ∈ news ∧ ∀ o', p'.rep o' → ∃ news', PySem.W.Upd a o o' news news' ∧ Pts ow' news' := by
  induction U with
  | head =>
    intro news h nd
    cases h with
    | cons r h =>
      rename_i o ns
      refine ⟨o, r, .head _, fun o' r' => ⟨_, .head fun q hq => ?_, .cons r' h⟩⟩
      rw [List.map_cons, List.nodup_cons] at nd
      exact fun e => nd.1 (by rw [← h.keys, ← e]; exact List.mem_map_of_mem hq)
  | tail U ih =>
    intro news h nd
    cases h with
    | cons r h =>
      rename_i o ns
      rw [List.map_cons, List.nodup_cons] at nd
      refine bc fun hG => ?_
      obtain ⟨o2, r2, m2, k⟩ := ih h nd.2
      refine hG ?_
      clear hG
      refine ⟨o2, r2, .tail _ m2, fun o' r' => ?_⟩
      obtain ⟨news', U', P'⟩ := k o' r'
      exact ⟨_, .tail (fun e => nd.1 (by rw [show _ = _ from e]; exact List.mem_map_of_mem U.mem)) U', .cons r P'⟩

/-- what an instance's dict holds -/
noncomputable def AV.hand : AV → Bool
  | .con v => handedIn v
  | _ => true
theorem AV.handed {a : AV} (h : a.hand = true) {v : Value} (r : a.rep v) : handedIn v = true := by
  cases a with
  | none => cases (show v = _ from r); rfl
  | bool b => cases (show v = _ from r); rfl
  | int i => obtain ⟨t, rfl⟩ := r; rfl
  | str l => obtain ⟨t, rfl⟩ := r; rfl
  | ref a => cases (show v = _ from r); rfl
  | con w => cases (show v = _ from r); exact h
theorem isStr_str (x y : Str) (t : Tok) : (Value.str x t).isStr y = (x == y) := rfl
theorem refKey_str (h : Int) (x : Str) (t : Tok) (v : Value) : (DictEntry.mk h (.str x t) v).refKey = false := rfl
theorem DR.noref {d : LC} {es : List DictEntry} (h : DR d es) : es.any (·.refKey) = false := by
  induction h with
  | nil => rfl
  | cons _ _ _ ih => rw [List.any_cons, refKey_str, ih]; rfl
theorem DR.get {d : LC} {es : List DictEntry} (h : DR d es) {x : Str} {a : AV} (e : lget d x = some a) : ∃ v, getL x es = some (some v) ∧ a.rep v ∧ handedIn v = true := by
  induction h with
  | nil => cases e
  | cons r hv h ih =>
    rename_i y t b v hsh d es
    simp only [lget] at e
    unfold getL
    rw [List.find?_cons, isStr_str]
    by_cases hy : y = x
    · rw [if_pos hy] at e; cases e; subst hy; simp only [beq_self_eq_true]; exact ⟨v, rfl, r, hv⟩
    · rw [if_neg hy] at e
      have : (y == x) = false := beq_eq_false_iff_ne.mpr hy
      rw [this]
      refine bc fun hG => ?_
      obtain ⟨u, hu, ru⟩ := ih e
      refine hG ?_
      clear hG
      refine ⟨u, ?_, ru⟩
      unfold getL at hu
      rw [List.any_cons, refKey_str, Bool.false_or]
      exact hu
theorem DR.miss {d : LC} {es : List DictEntry} (h : DR d es) {x : Str} (e : lget d x = none) : getL x es = some none := by
  have : es.find? (·.key.isStr x) = none := by
    induction h with
    | nil => rfl
    | cons r hv h ih =>
      simp only [lget] at e
      rw [List.find?_cons, isStr_str]
      rename_i y t b v hsh d es
      by_cases hy : y = x
      · rw [if_pos hy] at e; cases e
      · rw [if_neg hy] at e
        have : (y == x) = false := beq_eq_false_iff_ne.mpr hy
        rw [this]; exact ih e
  unfold getL
  rw [this, h.noref]
  rfl
theorem DR.put {d d' : LC} {x : Str} {a : AV} (P : Put d x a d') : ∀ {es : List DictEntry}, DR d es → ∀ {v : Value} {h : Int} {t : Tok}, a.rep v → handedIn v = true → DR d' (putL x h (.str x t) v es) := by
  induction P with
  | nil => intro es h v hs t r hv; cases h; exact .cons r hv .nil
  | head =>
    intro es h v hs t r hv
    cases h with
    | cons r' hv' h' => unfold putL; rw [isStr_str, if_pos (by simp)]; exact .cons r hv h'
  | tail P hn ih =>
    intro es h v hs t r hv
    cases h with
    | cons r' hv' h' =>
      unfold putL
      rw [isStr_str, if_neg (by simpa using hn)]
      exact .cons r' hv' (ih h' r hv)
theorem DR.len {d : LC} {es : List DictEntry} (h : DR d es) : es.length = d.length := by
  induction h with
  | nil => rfl
  | cons _ _ _ ih => rw [List.length_cons, List.length_cons, ih]

structure GetA (c : Cx) (a : AV) (name : Str) (lc : LC) (ow : OW) (Q : AV → LC → OW → Prop) : Prop where
  run : ∀ v, a.rep v → EV c (getAttr v name true) lc ow Q
structure SetA (c : Cx) (a : AV) (name : Str) (b : AV) (lc : LC) (ow : OW) (Q : LC → OW → Prop) : Prop where
  run : ∀ u v, a.rep u → b.rep v → UX c (setAttr u name v) lc ow Q
noncomputable abbrev iO (C dx : Addr) : AO := .obj (instObj C dx)
section
variable {K : Frag} {c : Cx} {lc lc' : LC} {ow ow' : OW} {env : Env} {n : Nat}
theorem ev_attr {value : PySem.Expr} {attr pos} {Q} (h : EV c (eval value env) lc ow fun a lc1 ow1 => GetA c a attr lc1 ow1 Q)
    (he : autoParam (eval (.Attribute value attr pos) env = (do let o ← eval value env; standAt pos.atName; let r ← holding [o] (getAttr o attr true); letTemporaryGo value o r; pure r)) kr0) : EV c (eval (.Attribute value attr pos) env) lc ow Q :=
  ⟨fun s P E R kp => Attribute_any_ (h.run s _ E R fun a v lc1 ow1 h1 tk1 q ra R1 => (q.run v ra).run _ P E R1 kp) he⟩
theorem sx_setattr {o : PySem.Expr} {attr pos' value pos} {Q : AF → LC → OW → Prop} (h : EV c (eval value env) lc ow fun b lc1 ow1 => EV c (eval o env) lc1 ow1 fun a lc2 ow2 => SetA c a attr b lc2 ow2 (Q .next))
    (hs : autoParam (swapsWith value (some (.Attribute o attr pos')) pos.line env = pure false) kr0) : SX c (exec (.Assign [.Attribute o attr pos'] value pos) env) lc ow Q :=
  ⟨fun s P E R kp => plainObj_wpAny_Assign_Attribute (h.run s _ E R fun b v lc1 ow1 h1 tk1 q rb R1 => q.run _ _ E R1 fun a u lc2 ow2 h2 tk2 q2 ra R2 => (q2.run u v ra rb).run _ _ E R2 fun _ _ lc3 ow3 h3 tk3 q3 _ R3 => kp .next .next _ _ _ _ q3 rfl R3) hs⟩
theorem sx_augattr {o : PySem.Expr} {attr tpos op value pos} {Q : AF → LC → OW → Prop} (h : EV c (eval o env) lc ow fun a lc1 ow1 => GetA c a attr lc1 ow1 fun old lc2 ow2 => EV c (eval value env) lc2 ow2 fun x lc3 ow3 => Inp c op old x lc3 ow3 fun y lc4 ow4 => SetA c a attr y lc4 ow4 (Q .next)) :
    SX c (exec (.AugAssign (.Attribute o attr tpos) op value pos) env) lc ow Q :=
  ⟨fun s P E R kp => wpAny_AugAssign_AttributeAny (h.run s _ E R fun a u lc1 ow1 h1 tk1 q ra R1 => (q.run u ra).run _ _ E R1 fun old ov lc2 ow2 h2 tk2 q2 ro R2 => q2.run _ _ E R2 fun x v lc3 ow3 h3 tk3 q3 rx R3 =>
    (q3.run ov v ro rx).run _ _ E R3 fun y yv lc4 ow4 h4 tk4 q4 ry R4 => (q4.run u yv ra ry).run _ _ E R4 fun _ _ lc5 ow5 h5 tk5 q5 _ R5 => kp .next .next _ _ _ _ q5 rfl R5)⟩

theorem getA_inst {C x dx : Addr} {d : LC} {name : Str} {a : AV} {Q} (A : Act K c n env) (hx : (x, iO C dx) ∈ ow) (hd : (dx, AO.dct d) ∈ ow) (hv : lget d name = some a)
    (hg : plainGet K C name = true) (hh : hasDictIn K C = true) (ha : findIn K (.ref C) name = some none) (h : Q a lc ow) : GetA c (.ref x) name lc ow Q := by
  refine ⟨?_⟩
  rintro _ rfl
  refine ⟨fun s P E R kp => ?_⟩
  obtain ⟨m, F, hl⟩ := R.fr
  obtain ⟨o1, ⟨rfl, _⟩, ho1⟩ := R.get hx
  obtain ⟨o2, ⟨es, k, rfl, D⟩, ho2⟩ := R.get hd
  obtain ⟨v, e, rv, hv⟩ := D.get hv
  exact get_own F A.X ⟨ho1, rfl, rfl, ho2⟩ hg hh ha rfl e hv (kp _ _ _ _ s.heap _ h rv R)
theorem mth_inst {C x dx f : Addr} {d : LC} {name : Str} {Q} (A : Act K c n env) (hx : (x, iO C dx) ∈ ow) (hd : (dx, AO.dct d) ∈ ow) (hv : lget d name = none)
    (hg : plainGet K C name = true) (hf : findIn K (.ref C) name = some (some (.ref f))) (ht : isFn K (.ref f) = true) (h : Q (.con (.ref f)) [.ref x] lc ow) : Mth c (.ref x) name lc ow Q := by
  refine ⟨?_⟩
  rintro _ pl rfl
  refine ⟨fun s P E R kp => ?_⟩
  refine bc fun hG => ?_
  obtain ⟨m, F, hl⟩ := R.fr
  obtain ⟨o1, ⟨rfl, _⟩, ho1⟩ := R.get hx
  obtain ⟨o2, ⟨es, k, rfl, D⟩, ho2⟩ := R.get hd
  refine hG ?_
  clear hG
  refine method_inst F A.X ⟨ho1, rfl, rfl, ho2⟩ hg hf ht (D.miss hv) ?_
  exact kp (.con (.ref f), [.ref x]) _ _ _ s.heap s.toks h ⟨rfl, rfl, trivial⟩ R
theorem setA_inst {C x dx : Addr} {d d' : LC} {name : Str} {b : AV} {Q} (A : Act K c n env) (hx : (x, iO C dx) ∈ ow) (U : Upd ow dx (.dct d) (.dct d') ow') (Pt : Put d name b d') (hb : b.hand = true) (hlen : d'.length ≤ 100)
    (hs : findIn K (.ref C) "__setattr__" = some (some (.builtin "object.__setattr__"))) (hp : plainOver K C = true) (ht : takerIn K C name = some none) (hh : hasDictIn K C = true) (h : Q lc ow') : SetA c (.ref x) name b lc ow Q := by
  refine ⟨?_⟩
  rintro _ v rfl rb
  refine ⟨fun s P E R kp => ?_⟩
  refine bc fun hG => ?_
  obtain ⟨m, F, hl⟩ := R.fr
  obtain ⟨o1, ⟨rfl, _⟩, ho1⟩ := R.get hx
  obtain ⟨news, N, PN⟩ := R.newsL
  obtain ⟨o2, ⟨es, k, rfl, D⟩, hm2, nx⟩ := PN.upd U R.nd
  refine hG ?_
  clear hG
  have D' := D.put (h := PyData.keyHash c.w.params name) (t := s.toks + 1) Pt rb (AV.handed hb rb)
  refine bc fun hG => ?_
  obtain ⟨news', U', PN'⟩ := nx (dictOf (putL name (PyData.keyHash c.w.params name) (.str name (s.toks + 1)) v es) (putN name es k)) ⟨_, _, rfl, D'⟩
  refine hG ?_
  clear hG
  have hget : (getL name es).isSome = true := by
    cases e : lget d name with
    | none => rw [D.miss e]; rfl
    | some a => obtain ⟨v, e', _⟩ := D.get e; rw [e']; rfl
  refine set_dict F A.X N ⟨ho1, rfl, rfl, (N _ hm2).1⟩ rfl hs hp ht hh hget rfl U' (by rw [D'.len]; wtm_at "om") fun h' F' N' => ?_
  refine kp () () _ _ h' _ h trivial (Rep.ofNews F' hl N' ?_ PN'.mem)
  rw [U.keys]; exact R.nd
end
end

section
noncomputable abbrev Cx.in1 (c : Cx) : Cx := ⟨c.w, c.g, c.L, c.A.in1⟩
section
variable {K : Frag} {c : Cx} {lc lc' : LC} {ow ow' : OW} {env : Env} {n : Nat}
theorem Act.in1 (A : Act K c (n + 1) env) : Act K c.in1 n env :=
  ⟨by obtain ⟨A₀, base, outer, B, h⟩ := A.below; exact ⟨A₀, base, outer, B, h⟩, A.frame, A.kind, A.X, A.T, by have := A.depth; show c.A.depth + n ≤ 900; wtm_at "om", by have := A.units; show c.A.units + 1 + 20 * n ≤ 9000; wtm_at "om"⟩

theorem kpr_cls {C : Addr} (A : Act K c n env) (hk : keepIn K (.ref C) = true) : ∀ fv, AV.rep (.con (.ref C)) fv → Kpr c fv lc ow := by
  rintro _ rfl
  refine ⟨fun s Q E R k => ?_⟩
  obtain ⟨m, F, _⟩ := R.fr
  obtain ⟨k', _, L⟩ := looks_keep (M := model pw c.w) hk (A.X.keeps F.keep)
  exact L.here (k k')
theorem cal_cls {C fI : Addr} {as : List AV} {Q} (A : Act K c (n + 1) env) (hm : makesIn K C = true) (hi : findIn K (.ref C) "__init__" = some (some (.ref fI))) (hf : isFn K (.ref fI) = true)
    (h : ∀ x dx A', A'.handled = c.A.handled → Act K ⟨c.w, c.g, c.L, A'⟩ n env → CalC ⟨c.w, c.g, c.L, A'⟩ (.con (.ref fI)) (.ref x :: as) [] lc ((x, iO C dx) :: (dx, .dct []) :: ow) (fun a lc' ow' => a = .none ∧ Q (.ref x) lc' ow')) : Cal c (.con (.ref C)) as [] lc ow Q := by
  refine ⟨?_⟩
  rintro _ vs kvs rfl ra hkn rk
  cases kvs with
  | cons => cases hkn
  | nil =>
    refine ⟨fun s P E R kp => ?_⟩
    refine bc fun hG => ?_
    obtain ⟨m, F, hl⟩ := R.fr
    obtain ⟨news, N, PN⟩ := R.newsL
    refine hG ?_
    clear hG
    refine call_cls F A.X N hm hi hf fun x dx h' F' N' lt1 lt2 => ?_
    have A' : Act K ⟨c.w, c.g, c.L, c.A.under (.builtin "type.__call__" ⟨.ref C :: vs, []⟩)⟩ n env :=
      ⟨by obtain ⟨A₀, base, outer, B, h⟩ := A.below; exact ⟨A₀, base, outer, B, h⟩, A.frame, A.kind, A.X, A.T, by have := A.depth; show c.A.depth + 1 + n ≤ 900; wtm_at "om", by have := A.units; show c.A.units + 1 + 20 * n ≤ 9000; wtm_at "om"⟩
    have R' : Rep c.g c.L lc ((x, iO C dx) :: (dx, .dct []) :: ow) h' := by
      refine Rep.ofNews F' hl N' ?_ fun q hq => ?_
      · have old : ∀ q ∈ ow, q.1 < dx := fun q hq => by obtain ⟨o, _, hm⟩ := PN.mem q hq; exact lt1 _ hm
        rw [List.map_cons, List.map_cons, List.nodup_cons, List.nodup_cons]
        refine ⟨fun hm => ?_, fun hm => ?_, R.nd⟩
        · rcases List.mem_cons.mp hm with e | hm
          · exact absurd (show x = dx from e) (Nat.ne_of_gt lt2)
          · refine bc fun hG => ?_
            obtain ⟨q, hq, e⟩ := List.mem_map.mp hm
            refine hG ?_
            clear hG
            have := old q hq
            rw [e] at this
            exact Nat.lt_irrefl _ (Nat.lt_trans this lt2)
        · refine bc fun hG => ?_
          obtain ⟨q, hq, e⟩ := List.mem_map.mp hm
          refine hG ?_
          clear hG
          have := old q hq
          rw [e] at this
          exact Nat.lt_irrefl _ this
      · rcases List.mem_cons.mp hq with rfl | hq
        · exact ⟨_, ⟨rfl, rfl⟩, .head _⟩
        · rcases List.mem_cons.mp hq with rfl | hq
          · exact ⟨_, ⟨[], 0, rfl, .nil⟩, .tail _ (.head _)⟩
          · obtain ⟨o, r, hm⟩ := PN.mem q hq; exact ⟨o, r, .tail _ (.tail _ hm)⟩
    refine codeAny_mono ((h x dx (c.A.under (.builtin "type.__call__" ⟨.ref C :: vs, []⟩)) rfl A').run (.ref fI) (.ref x :: vs) [] rfl ⟨rfl, ra⟩ rfl trivial _ (fun v s' => v = .none ∧ P (.ref x) s') E R' fun b xv lc' ow' h2 tk2 q rb R2 => ?_) fun r s' hr => ?_
    · obtain ⟨rfl, q⟩ := q
      exact ⟨rb, kp _ _ _ _ _ _ q rfl R2⟩
    · cases r with
      | error e => exact hr
      | ok f => cases f <;> exact hr

/-- a method of an instance, taken as a value -/
theorem getA_meth {C x dx f : Addr} {d : LC} {name : Str} {Q} (A : Act K c n env) (hx : (x, iO C dx) ∈ ow) (hd : (dx, AO.dct d) ∈ ow) (hv : lget d name = none)
    (hg : plainGet K C name = true) (hh : hasDictIn K C = true) (hf : findIn K (.ref C) name = some (some (.ref f))) (hfg : specialIn K (.ref f) "__get__" = some (some (.builtin "function.__get__"))) (hft : takesIn K (.ref f) = some false) (hfn : typeIn K (.ref f) = some (.type "function"))
    (hc : copiedNames.contains name = false) (h : ∀ m, Q (.ref m) lc ((m, .obj (methodObj (.ref f) (.ref x))) :: ow)) : GetA c (.ref x) name lc ow Q := by
  refine ⟨?_⟩
  rintro _ rfl
  refine ⟨fun s P E R kp => ?_⟩
  refine bc fun hG => ?_
  obtain ⟨m, F, hl⟩ := R.fr
  obtain ⟨o1, ⟨rfl, _⟩, ho1⟩ := R.get hx
  obtain ⟨o2, ⟨es, k, rfl, D⟩, ho2⟩ := R.get hd
  refine hG ?_
  clear hG
  have X := A.X.keeps F.keep
  have hfo : findObj K C (some (dictOf es k)) name = some (.bind (.builtin "function.__get__") (.ref f)) := by
    refine bc fun hG => ?_
    obtain ⟨cd, hcl, hdd⟩ := any_some hh
    refine hG ?_
    clear hG
    unfold findObj
    rw [hcl, Option.bind_some, hf, Option.bind_some]
    show (specialIn K (.ref f) "__get__").bind _ = _
    rw [hfg, Option.bind_some]
    show (takesIn K (.ref f)).bind _ = _
    rw [hft, Option.bind_some]
    show (PySem.W.ownOf cd (some (dictOf es k)) name).bind _ = _
    have : PySem.W.ownOf cd (some (dictOf es k)) name = some none := by unfold PySem.W.ownOf; rw [if_pos hdd]; exact D.miss hv
    rw [this, Option.bind_some, hc]
    rfl
  refine get_bind X ⟨ho1, rfl, rfl, ho2⟩ (plainGet_of hg).1 hfo (plainGet_of hg).2 (wpAny_call (fn_get (s := { s with toks := s.toks + 1 }) X hfn ?_))
  refine wpAny_of_eq (handedOut_of (v := .ref s.heap.objs.size) rfl) ?_
  exact kp (.ref s.heap.objs.size) _ _ _ _ _ (h _) rfl (R.push (p := .obj (methodObj (.ref f) (.ref x))) ⟨rfl, rfl⟩)

theorem wpAny_borrowed {M : Model} {A : Around} {E : Value → Shared → Prop} {s : Shared} {f : Value} {pos : List Value} {Q : Value → Shared → Prop}
    (hc : codeAny M A (.call f ⟨pos, []⟩) (fun r s' => match r with | .ok (.ret v) => Q v s' | .ok _ => False | .error e => E e s') s) : wpAny M A (callBorrowed f pos) Q E s := fun Γ p hΓ => by
  have := wpAny_call hc Γ p hΓ
  rw [Sem.wp_cmd_call] at this
  refine Eq.mp ?_ this
  unfold callBorrowed Sem.wp
  congr 1
  funext r s'
  rcases r with e | (v | _ | _ | _) <;> rfl
end
end

section
open PySem.Builtin PySem.Builtin.ObjectAttr
theorem store_function : StoreFacts "function" [.type "function", .type "object"] "object.__setattr__" "object" where
  mro := by kernel_rfl
  slot := .of (owner := "object") (n := "__setattr__") (by rw [typeLookup_type, builtinLookup_eq_fast]; kernel_rfl) (by decide +kernel) (by decide +kernel) (by decide +kernel)
    (by first | exact .inl (by decide +kernel) | exact .inr (by decide +kernel)) (by rw [isSubtype_type]; kernel_rfl)
  entry := PySem.F.entry_object_sa
  kind := by decide +kernel
  split := by decide +kernel
  hasOwner := by decide +kernel
  args := fun a b c => by unfold argsOk; kernel_rfl
  passes := fun self => by kernel_rfl
theorem fn_read : typeLookup (.type "function") "read" = pure none := by rw [typeLookup_type, builtinLookup_eq_fast]; kernel_rfl
theorem fn_has : typeHasDict (.type "function") = true := by decide +kernel
theorem fn_getattr : typeLookup (.type "function") "__getattr__" = pure none := by rw [typeLookup_type, builtinLookup_eq_fast]; kernel_rfl
theorem fn_ga : typeLookup (.type "function") "__getattribute__" = pure (some (.builtin "object.__getattribute__")) := by rw [typeLookup_type, builtinLookup_eq_fast]; kernel_rfl
theorem slot_fn_ga : Slot "function" "__getattribute__" "object.__getattribute__" :=
  .of (owner := "object") (n := "__getattribute__") (by rw [typeLookup_type, builtinLookup_eq_fast]; kernel_rfl) (by decide +kernel) (by decide +kernel) (by decide +kernel)
    (by first | exact .inl (by decide +kernel) | exact .inr (by decide +kernel)) (by rw [isSubtype_type]; kernel_rfl)
theorem entry_oga : entryFor table "object.__getattribute__" = some Builtin.«object.__getattribute__» := entryFor_of_tree (by kernel_rfl)
theorem args_oga (a b : Value) : argsOk "object.__getattribute__" ⟨[a, b], []⟩ := by unfold argsOk; kernel_rfl
theorem ga_canon : Manifest.canonical "object.__getattribute__" = "object.__getattribute__" := by decide +kernel

theorem own_fn (f : Addr) : ownStreamTells (.ref f) (.type "function") = pure () := by kernel_rfl
theorem fin_fn : finalisedInACycleAlone "function" = false := by decide +kernel
/-- a function with a dict of its own -/
noncomputable abbrev withD (o : Obj) (d : Addr) : Obj := { o with dict := some d }
section
variable {K : Frag} {c : Cx} {lc lc' : LC} {ow ow' : OW} {env : Env} {n : Nat}
theorem setA_fn {f : Addr} {o : Obj} {b : AV} {ow' : Addr → OW} {Q} (U : ∀ d, Upd ow f (.obj o) (.obj (withD o d)) (ow' d)) (hc : o.cls = .type "function") (hd : o.dict = none) {fd : FuncData} (hdt : o.data = .func fd) (hfr : o.isFreed = false)
    (hb : b.hand = true) (h : ∀ d, Q lc ((d, .dct [("read", b)]) :: ow' d)) : SetA c (.ref f) "read" b lc ow Q := by
  refine ⟨?_⟩
  rintro _ v rfl rb
  refine ⟨fun s P E R kp => ?_⟩
  refine bc fun hG => ?_
  obtain ⟨o1, ⟨rfl, _⟩, ho⟩ := R.get (U 0).mem
  refine hG ?_
  clear hG
  unfold setAttr
  refine wpAny_bind (wpAny_mkText (wpAny_bind (wpAny_callSpecial?_slot (s := { s with toks := s.toks + 1 }) (name := Str.ofString "__setattr__") ⟨_, ho, hc⟩ store_function.slot (wpAny_call_entry store_function.slot ⟨_, ho, hc⟩ store_function.entry ?_ (store_function.args _ _ _)))))
  rw [osa_eq, refuse_eq]
  have hTy : ∀ tk, ({ s with toks := tk } : Shared).TypeIs (.ref f) "function" := fun tk => ⟨_, ho, hc⟩
  refine wpAny_bind (wpAny_bind (wpAny_typeOf (hTy _) (wpAny_bind (wpAny_of_eq store_function.mro ?_))))
  rw [store_function.passes]
  refine wpAny_pure (wpAny_bind (wpAny_typeOf (hTy _) (wpAny_bind (wpAny_of_eq fn_read (wpAny_bind (wpAny_pure ?_))))))
  show wpAny _ _ (storeInOwnDict (.ref f) (.type "function") (.str (Str.ofString "read") s.toks) (Str.ofString "read") v false) _ _ _
  unfold storeInOwnDict
  rw [own_fn]
  refine wpAny_bind (wpAny_pure ?_)
  unfold ownDictForStores instanceDict
  refine wpAny_bind (wpAny_bind (wpAny_loadPart ho ?_))
  refine bc fun hG => ?_
  obtain ⟨ocl, odi, oda, osl⟩ := o1
  refine hG ?_
  clear hG
  dsimp only at hc hd hdt
  subst hc hd hdt
  dsimp only
  rw [fn_has]
  simp only [Bool.not_true, Bool.or_self, Bool.false_eq_true, if_false]
  have hfs : f ≠ s.heap.objs.size := Nat.ne_of_lt (Heap.lt_size ho)
  refine wpAny_bind (wpAny_alloc ?_)
  refine wpAny_bind (wpAny_update (Heap.get?_push_of_some _ ho) ?_)
  unfold dictMade
  dsimp only
  rw [fin_fn]
  simp only [Bool.false_eq_true, if_false]
  refine wpAny_pure ?_
  dsimp only
  unfold storeInDict newKeyGuard
  refine wpAny_bind (wpAny_pure ?_)
  have R1 := R.push (p := .dct []) (o := { cls := .type "dict", data := .dict #[] }) ⟨[], 0, rfl, .nil⟩
  have R2 := R1.upd (p' := .obj (withD ⟨.type "function", none, .func fd, osl⟩ s.heap.objs.size)) (f := fun o => { o with dict := some s.heap.objs.size }) (.tail (U s.heap.objs.size)) fun o ro ho' => by
    obtain ⟨rfl, _⟩ := ro
    exact ⟨rfl, rfl⟩
  have hh := h s.heap.objs.size
  generalize (s.heap.push { cls := .type "dict", data := .dict #[] }).update f (fun o => { o with dict := some s.heap.objs.size }) = H at R2 ⊢
  generalize s.heap.objs.size = d at R2 hh ⊢
  refine bc fun hG => ?_
  obtain ⟨od, ⟨es, k, rfl, D⟩, hod⟩ := R2.get (.head _)
  refine hG ?_
  clear hG
  cases D
  unfold nsSet
  refine wpAny_bind (wpAny_bind ?_)
  unfold strHash
  refine wpAny_bind (wpAny_askSetting (wpAny_pure (wpAny_bind (wpAny_mkText (wpAny_bind (wpAny_loadPart hod ?_))))))
  dsimp only
  rw [aRefKeyMayBeTheName_at]
  refine wpAny_ite_false (by simp) ?_
  refine wpAny_updatePart hod ?_
  have R3 := R2.upd (p' := .dct [("read", b)]) (f := Obj.putName "read" (PyData.keyHash c.w.params "read") (.str "read" (s.toks + 1)) v) .head fun o ro ho' => by
    obtain ⟨es, n, rfl, D⟩ := ro
    exact ⟨_, _, putName_dict .., D.put .nil rb (AV.handed hb rb)⟩
  refine bc fun hG => ?_
  obtain ⟨od', ⟨es', k', rfl, D'⟩, hod'⟩ := R3.get (.head _)
  refine hG ?_
  clear hG
  refine wpAny_bind (wpAny_lookBehind hod' (pastItsLine_dict (by rw [List.size_toArray, D'.len, sizeLine_eq]; exact Nat.le_of_ble_eq_true rfl)) ?_)
  refine wpAny_pure ⟨_, rfl, wpAny_pure ?_⟩
  exact kp () () _ _ _ _ hh trivial R3
/-- what a function's own dict holds, as a method's name -/
theorem mth_fn {f d : Addr} {o : Obj} {b : AV} {fd : FuncData} {Q} (hf : (f, AO.obj (withD o d)) ∈ ow) (hc : o.cls = .type "function") (hdt : o.data = .func fd) (hd : (d, AO.dct [("read", b)]) ∈ ow) (h : Q b [] lc ow) : Mth c (.ref f) "read" lc ow Q := by
  refine ⟨?_⟩
  rintro _ pl rfl
  refine ⟨fun s P E R kp => ?_⟩
  refine bc fun hG => ?_
  obtain ⟨o1, ⟨rfl, _⟩, ho⟩ := R.get hf
  obtain ⟨o2, ⟨es, k, rfl, D⟩, hod⟩ := R.get hd
  obtain ⟨ocl, odi, oda, osl⟩ := o
  refine hG ?_
  clear hG
  dsimp only at hc hdt
  subst hc hdt
  have hTy : ∀ tk, ({ s with toks := tk } : Shared).TypeIs (.ref f) "function" := fun tk => ⟨_, ho, rfl⟩
  refine bc fun hG => ?_
  obtain ⟨v, hv, rv, hh⟩ := D.get (x := "read") lget_head
  refine hG ?_
  clear hG
  unfold getMethod
  refine wpAny_bind (wpAny_specialOf (hTy _) fn_ga ?_)
  show wpAny _ _ (if (Manifest.canonical "object.__getattribute__" != "object.__getattribute__") = true then _ else _) _ _ _
  rw [ga_canon, if_neg (by decide)]
  refine wpAny_bind (wpAny_specialOf (hTy _) fn_getattr ?_)
  refine wpAny_bind (wpAny_specialOf (hTy _) fn_read ?_)
  show wpAny _ _ (getAttr (.ref f) "read" >>= fun v => pure (v, [])) _ _ _
  refine wpAny_bind ?_
  unfold getAttr getAttrBy
  refine wpAny_bind (wpAny_mkText (wpAny_holding (wpAny_bind (wpAny_typeOf (hTy _) (wpAny_bind (wpAny_of_eq fn_ga ?_))))))
  show wpAny _ _ (getAttrByItsOwn (.ref f) (.str "read" s.toks) (.type "function") (.builtin "object.__getattribute__") true false) _ _ _
  unfold getAttrByItsOwn hookBefore
  rw [if_neg (by decide)]
  refine wpAny_bind (wpAny_pure (wpAny_bind (wpAny_attempt (wpAny_holding ?_))))
  have hx0 : (false && onTheHeap (Value.builtin "object.__getattribute__")) = false := rfl
  unfold callGetattribute boundAndCalled
  rw [hx0, if_neg (by decide)]
  refine wpAny_bind (wpAny_of_eq (slot_fn_ga.bind (.ref f)) ?_)
  refine wpAny_call (codeAny_call_builtin slot_fn_ga.plain entry_oga (slot_fn_ga.check _ _ _ _ _ _ _ _ (hTy (s.toks + 1)) (args_oga _ _) ?_))
  show wpAny _ _ (slotArgs "__getattribute__" 1 ⟨[.ref f, .str "read" s.toks], []⟩ >>= _) _ _ _
  refine wpAny_bind (wpAny_pure ?_)
  refine wpAny_bind (wpAny_pure ?_)
  refine wpAny_bind (wpAny_typeOf (hTy _) (wpAny_bind ?_))
  unfold find
  refine wpAny_bind (wpAny_of_eq fn_read (wpAny_bind (wpAny_pure (wpAny_bind (wpAny_pure ?_)))))
  unfold ownThenClass inOwnDict ObjectAttr.ownDict
  dsimp only
  refine wpAny_bind (wpAny_bind (wpAny_bind (wpAny_loadPart ho ?_)))
  dsimp only
  unfold instanceDict
  refine wpAny_bind (wpAny_loadPart ho ?_)
  dsimp only
  refine wpAny_pure ?_
  unfold inDict nsGet
  refine wpAny_bind (wpAny_loadPart hod ?_)
  rw [nsLook_of (r := some v) (by rw [lookIn_dict]; exact hv)]
  refine wpAny_pure (wpAny_bind (wpAny_rule (wpAny_pure (wpAny_pure ?_))))
  dsimp only
  refine wpAny_of_eq (handedOut_of hh) (wpAny_pure ?_)
  exact kp (b, []) (v, []) _ _ s.heap _ h ⟨rv, trivial⟩ R
end
end

section
open PySem.Builtin
theorem slot_cit_next : Slot "callable_iterator" "__next__" "callable_iterator.__next__" :=
  .of (owner := "callable_iterator") (n := "__next__") (by rw [typeLookup_type, builtinLookup_eq_fast]; kernel_rfl) (by decide +kernel) (by decide +kernel) (by decide +kernel)
    (by first | exact .inl (by decide +kernel) | exact .inr (by decide +kernel)) (by rw [isSubtype_type]; kernel_rfl)
theorem entry_cit_next : entryFor table "callable_iterator.__next__" = some Builtin.«callable_iterator.__next__» := entryFor_of_tree (by kernel_rfl)
theorem args_cit_next (a : Value) : argsOk "callable_iterator.__next__" ⟨[a], []⟩ := by unfold argsOk; kernel_rfl
theorem slot_cit_iter : Slot "callable_iterator" "__iter__" "callable_iterator.__iter__" :=
  .of (owner := "callable_iterator") (n := "__iter__") (by rw [typeLookup_type, builtinLookup_eq_fast]; kernel_rfl) (by decide +kernel) (by decide +kernel) (by decide +kernel)
    (by first | exact .inl (by decide +kernel) | exact .inr (by decide +kernel)) (by rw [isSubtype_type]; kernel_rfl)
theorem args_cit_iter (a : Value) : argsOk "callable_iterator.__iter__" ⟨[a], []⟩ := by unfold argsOk; kernel_rfl
theorem entry_cit_iter : entryFor table "callable_iterator.__iter__" = some Builtin.«dict_keyiterator.__iter__» :=
  entryFor_alias (id' := "dict_keyiterator.__iter__") (by kernel_rfl) (by first | rfl | decide +kernel | (unfold String.splitOn; simp +decide [String.splitOnAux])) (by decide +kernel) (by kernel_rfl)
theorem iter_kind : builtinKind "iter" = none := by decide +kernel
theorem iter_plain : plainId "iter" = true := by decide +kernel
theorem iter_entry : entryFor table "iter" = some Builtin.«iter» := entryFor_of_tree (by kernel_rfl)
theorem iter_args (a b : Value) : argsOk "iter" ⟨[a, b], []⟩ := by unfold argsOk; kernel_rfl
theorem meth_call : typeLookup (.type "method") "__call__" = pure (some (.builtin "method.__call__")) := by rw [typeLookup_type, builtinLookup_eq_fast]; kernel_rfl

noncomputable abbrev cIt (m : Addr) (x : List Nat) : AO := .flds "callable_iterator" [.ref m, .str x, .bool false]
noncomputable abbrev cEnd : AO := .flds "callable_iterator" [.none, .none, .bool true]
section
variable {K : Frag} {c : Cx} {a : AV} {lc lc' : LC} {ow ow' : OW} {env : Env} {n : Nat}
theorem cal_iter2 {m : Addr} {f self : Value} {x : List Nat} {Q} (hm : (m, AO.obj (methodObj f self)) ∈ ow) (h : ∀ it, Q (.ref it) lc ((it, cIt m x) :: ow)) : Cal c (.con (.builtin "iter")) [.ref m, .str x] [] lc ow Q := by
  refine cal_2 ?_
  rintro _ _ rfl ⟨t, rfl⟩
  refine ⟨fun s P E R kp => ?_⟩
  refine bc fun hG => ?_
  obtain ⟨o1, ⟨rfl, _⟩, ho⟩ := R.get hm
  refine hG ?_
  clear hG
  refine call_function_entry iter_kind iter_plain iter_entry (iter_args _ _) ?_
  show wpAny _ _ (someArgs "iter" 1 2 ⟨[.ref m, .str ⟨x.toArray⟩ t], []⟩ >>= _) _ _ _
  refine wpAny_bind (wpAny_pure ?_)
  dsimp only
  refine wpAny_bind (wpAny_specialOf (T := "method") ⟨_, ho, rfl⟩ meth_call ?_)
  refine wpAny_bind (wpAny_rule (wpAny_bind ?_))
  unfold newFields
  refine wpAny_newObj_type (wpAny_pure ⟨_, rfl, ?_⟩) (by size_fits)
  exact kp (.ref s.heap.objs.size) _ _ _ _ _ (h _) rfl (R.push (p := cIt m x) ⟨[.ref m, .str ⟨x.toArray⟩ t, .bool false], rfl, rfl, ⟨t, rfl⟩, rfl, trivial⟩)
theorem itr_cit {it : Addr} {xs : List AV} {Q} (hm : (it, AO.flds "callable_iterator" xs) ∈ ow) (h : Q it lc ow) : Itr c (.ref it) lc ow Q := by
  refine ⟨?_⟩
  rintro _ rfl
  refine ⟨fun s P E R kp => ?_⟩
  refine bc fun hG => ?_
  obtain ⟨o, ⟨vs, rfl, r⟩, ho⟩ := R.get hm
  refine hG ?_
  clear hG
  refine wpAny_pyIter_slot ⟨_, ho, rfl⟩ slot_cit_iter (wpAny_call_entry slot_cit_iter ⟨_, ho, rfl⟩ entry_cit_iter ?_ (args_cit_iter _))
  show wpAny _ _ (ret (.ref it)) _ _ s
  exact wpAny_pure ⟨_, rfl, "callable_iterator", _, ⟨_, ho, rfl⟩, slot_cit_next.lookup, kp it _ _ _ s.heap s.toks h rfl R⟩
/-- the end of an iterator's turn -/
theorem stop_at {α : Type} {M : Model} {A : Around} {s : Shared} {Q : α → Shared → Prop} {E : Value → Shared → Prop} (hh : A.handled = none)
    (hQ : ∀ e h', (∀ a o, s.heap.get? a = some o → h'.get? a = some o) → (∃ o, h'.get? e = some o ∧ o.cls = .type "StopIteration") → E (.ref e) { s with heap := h' }) :
    wpAny M A (SmallTypes.stopIteration : Sem α) Q E s := by
  unfold SmallTypes.stopIteration
  refine wpAny_bind ?_
  simp only [newExc, newTuple]
  refine wpAny_bind (wpAny_newObj_type ?_ (by size_fits))
  refine wpAny_bind (m := firstArgMember _ _) (wpAny_of_eq (a := Value.none) (by first | rfl | (simp only [firstArgMember]; rfl)) ?_)
  refine wpAny_newObj_type ?_ (by size_fits)
  simp only [raiseNew]
  refine wpAny_bind (wpAny_handled ?_)
  rw [hh]
  refine wpAny_bind (wpAny_pure (wpAny_throw ?_))
  exact hQ _ _ (fun a o e => Heap.get?_push_of_some _ (Heap.get?_push_of_some _ e)) ⟨_, Heap.get?_push_size _ rfl, rfl⟩
theorem nxt_cend {it : Addr} {Q} (hh : c.A.handled = none) (hm : (it, cEnd) ∈ ow) (h : Q none lc ow) : Nxt c it lc ow Q := by
  refine ⟨⟨fun s P E R kp => ?_⟩⟩
  obtain ⟨o, ⟨vs, rfl, r⟩, ho⟩ := R.get hm
  obtain ⟨v1, v2, v3, rfl, r1, r2, r3⟩ := al3 r
  · cases (show v3 = _ from r3)
    unfold pyNext
    refine wpAny_bind (wpAny_attempt (wpAny_callSpecial?_slot (name := Str.ofString "__next__") ⟨_, ho, rfl⟩ slot_cit_next
      (wpAny_call_entry slot_cit_next ⟨_, ho, rfl⟩ entry_cit_next ?_ (args_cit_next _))))
    show wpAny _ _ (field (.ref it) 2 >>= _) _ _ s
    refine wpAny_bind (wpAny_field ho rfl (x := .bool true) rfl ?_)
    show wpAny _ _ (if (Value.bool true == Value.bool true) = true then _ else _) _ _ s
    rw [if_pos (by decide)]
    refine wpAny_bind (wpAny_rule ?_)
    refine wpAny_bind (stop_at (show c.A.in1.handled = none from hh) fun e h' hk he => ?_)
    refine bc fun hG => ?_
    obtain ⟨oe, he, hce⟩ := he
    refine hG ?_
    clear hG
    show wpAny _ _ (isInstance (.ref e) (.type "StopIteration") >>= fun b => if b = true then pure none else throw (.ref e)) _ _ _
    refine wpAny_bind (wpAny_isInstance (T := "StopIteration") (b := true) ⟨oe, he, hce⟩ isSubtype_stop ?_)
    exact wpAny_pure (kp none _ _ _ h' s.toks h rfl (R.keeps hk))
theorem borrow_meth {M : Model} {A : Around} {E : Value → Shared → Prop} {s : Shared} {m f : Addr} {self : Value} {o : Obj} {fd : FuncData} {Q : Bool → Shared → Prop} (hom : s.heap.get? m = some (methodObj (.ref f) self)) (hof : s.heap.get? f = some o) (hfd : o.data = .func fd) (h : Q true s) :
    wpAny M A (borrowsExactly (.ref m)) Q E s := by
  unfold borrowsExactly
  dsimp only
  refine wpAny_bind (wpAny_load hom ?_)
  show wpAny _ _ (load f >>= _) _ _ _
  refine wpAny_bind (wpAny_load hof ?_)
  rw [hfd]
  exact wpAny_pure h
theorem eqb_str {prog : Program} {w : World} {A : Around} {E : Value → Shared → Prop} {s : Shared} {x y : List Nat} {t u : Tok} {Q : Bool → Shared → Prop} (h : Q (decide (x = y)) s) : wpAny (model prog w) A (eqBool (.str ⟨x.toArray⟩ t) (.str ⟨y.toArray⟩ u)) Q E s := by
  unfold eqBool
  refine wpAny_holding ?_
  by_cases e : (Value.str ⟨x.toArray⟩ t == Value.str ⟨y.toArray⟩ u) = true
  · have hxy : x = y := by
      have := eq_of_beq e
      injection this with h1 h2
      injection h1 with h1
      simpa using h1
    rw [if_pos e]
    refine wpAny_bind (wpAny_rule (wpAny_pure ?_))
    simpa [hxy] using h
  · rw [if_neg e]
    show wpAny _ _ (richCompare .Eq (.str ⟨x.toArray⟩ t) (.str ⟨y.toArray⟩ u) >>= truthOfDropped) _ _ _
    refine wpAny_bind ?_
    show wpAny _ _ (compareOp .Eq (.str ⟨x.toArray⟩ t) (.str ⟨y.toArray⟩ u)) _ _ _
    refine PySem.P.eq_str ?_
    show wpAny _ _ (truthy (.bool (x == y))) _ _ _
    refine wpAny_truthy_bool ?_
    have : (x == y) = decide (x = y) := by by_cases h : x = y <;> simp [h]
    rw [this]; exact h
/-- one turn: what the callable answers -/
theorem nxt_cit {it m f : Addr} {self : Value} {x y : List Nat} {lc1 : LC} {ow1 ow2 : OW} {Q} (hh : c.A.handled = none) (hm : (it, cIt m x) ∈ ow) (hme : (m, AO.obj (methodObj (.ref f) self)) ∈ ow)
    (hfn : ∀ (s : Shared) lc ow, Rep c.g c.L lc ow s.heap → ∃ o fd, s.heap.get? f = some o ∧ o.data = .func fd) (hself : AV.rep a self)
    (hcall : CalC c.in1 (.con (.ref f)) [a] [] lc ow (fun b lc' ow' => b = .str y ∧ lc' = lc1 ∧ ow' = ow1))
    (hm1 : (it, cIt m x) ∈ ow1) (hme1 : (m, AO.obj (methodObj (.ref f) self)) ∈ ow1) (h : x ≠ y → Q (some (.str y)) lc1 ow1) (U : Upd ow1 it (cIt m x) cEnd ow2) (h2 : x = y → Q none lc1 ow2) : Nxt c it lc ow Q := by
  refine ⟨⟨fun s P E R kp => ?_⟩⟩
  obtain ⟨o, ⟨vs, rfl, r⟩, ho⟩ := R.get hm
  obtain ⟨om, ⟨rfl, _⟩, hom⟩ := R.get hme
  obtain ⟨v1, v2, v3, rfl, r1, ⟨t2, r2⟩, r3⟩ := al3 r
  · cases (show v3 = _ from r3)
    cases (show v1 = _ from r1)
    subst r2
    refine bc fun hG => ?_
    obtain ⟨of, fd, hof, hfd⟩ := hfn s _ _ R
    refine hG ?_
    clear hG
    unfold pyNext
    refine wpAny_bind (wpAny_attempt (wpAny_callSpecial?_slot (name := Str.ofString "__next__") ⟨_, ho, rfl⟩ slot_cit_next
      (wpAny_call_entry slot_cit_next ⟨_, ho, rfl⟩ entry_cit_next ?_ (args_cit_next _))))
    show wpAny _ _ (field (.ref it) 2 >>= _) _ _ s
    refine wpAny_bind (wpAny_field ho rfl (x := .bool false) rfl ?_)
    show wpAny _ _ (if (Value.bool false == Value.bool true) = true then _ else _) _ _ s
    rw [if_neg (by decide)]
    refine wpAny_bind (wpAny_field ho rfl (x := .ref m) rfl ?_)
    refine wpAny_bind (wpAny_attempt ?_)
    unfold callOutOfASlot
    refine wpAny_bind (borrow_meth hom hof hfd ?_)
    rw [if_pos rfl]
    refine wpAny_borrowed (method_call hom ?_)
    refine hcall.run (.ref f) [self] [] rfl ⟨hself, trivial⟩ rfl trivial s _ _ R fun b yv lc' ow' h' tk' q rb R1 => ?_
    refine bc fun hG => ?_
    obtain ⟨rfl, rfl, rfl⟩ := q
    obtain ⟨u, rfl⟩ := rb
    refine hG ?_
    clear hG
    dsimp only
    obtain ⟨o', ⟨vs', rfl, r'⟩, ho'⟩ := R1.get hm1
    obtain ⟨om', ⟨rfl, _⟩, hom'⟩ := R1.get hme1
    obtain ⟨w1, w2, w3, rfl, r1', ⟨t2', r2'⟩, r3'⟩ := al3 r'
    · cases (show w3 = _ from r3')
      cases (show w1 = _ from r1')
      subst r2'
      refine bc fun hG => ?_
      obtain ⟨of', fd', hof', hfd'⟩ := hfn { s with heap := h', toks := tk' } _ _ R1
      refine hG ?_
      clear hG
      refine wpAny_bind (wpAny_field ho' rfl (x := .bool false) rfl ?_)
      rw [if_neg (by decide)]
      refine wpAny_bind (wpAny_field ho' rfl (x := .str ⟨x.toArray⟩ t2') rfl ?_)
      refine wpAny_bind (wpAny_holding (eqb_str ?_))
      by_cases hxy : x = y
      · rw [if_neg (by simp [hxy])]
        refine wpAny_bind (wpAny_rule (wpAny_bind ?_))
        show wpAny _ _ (field (.ref it) 0 >>= _) _ _ _
        refine wpAny_bind (wpAny_field ho' rfl (x := .ref m) rfl ?_)
        refine wpAny_bind ?_
        unfold slotLetsGo
        dsimp only
        refine wpAny_bind (borrow_meth hom' hof' hfd' ?_)
        rw [if_pos rfl]
        refine wpAny_pure ?_
        refine wpAny_bind (wpAny_setField_rec ho' (by simp) fun g1 e1 s1 => ?_)
        refine wpAny_bind (wpAny_setField_rec e1 (by simp) fun g2 e2 s2 => ?_)
        refine wpAny_setField_rec e2 (by simp) fun g3 e3 s3 => ?_
        have R3 : Rep c.g c.L lc' ow2 g3 := Rep.turn (p' := cEnd) R1 U ((s1.trans s2).trans s3) e3 ⟨[.none, .none, .bool true], rfl, rfl, rfl, rfl, trivial⟩
        refine stop_at (show c.A.in1.handled = none from hh) fun e h4 hk he => ?_
        refine bc fun hG => ?_
        obtain ⟨oe, he, hce⟩ := he
        refine hG ?_
        clear hG
        refine wpAny_bind (wpAny_isInstance (T := "StopIteration") (b := true) ⟨oe, he, hce⟩ isSubtype_stop ?_)
        exact wpAny_pure (kp none _ _ _ h4 tk' (h2 hxy) rfl (R3.keeps hk))
      · rw [if_pos (by simp [hxy])]
        refine wpAny_pure ⟨_, rfl, wpAny_pure ?_⟩
        exact kp (some (.str y)) _ _ _ h' tk' (h hxy) ⟨_, rfl, u, rfl⟩ R1
end
end

section
section
variable {K : Frag} {c : Cx} {lc lc' : LC} {ow ow' : OW} {env : Env} {n : Nat}
/-- a call with one keyword -/
theorem ev_call_kw {func e : PySem.Expr} {es : List PySem.Expr} {x : Str} {value : PySem.Expr} {p pos : Pos} {Q} (h : EV c (eval func env) lc ow fun f lc1 ow1 => Args c env pos (e :: es) lc1 ow1 fun as lc2 ow2 => EV c (eval value env) lc2 ow2 fun b lc3 ow3 => (∀ fv, f.rep fv → Kpr c fv lc3 ow3) ∧ Cal c f as [(x, b)] lc3 ow3 Q)
    (hs : autoParam ((starEach (e :: es) env).any (·.1) = false) kr0) (hse : autoParam (starEach (e :: es) env = (false, eval e env) :: starEach es env) kr0)
    (he : autoParam (eval (.Call func (e :: es) [⟨some x, value, p⟩] pos) env = (do callWith pos (← eval func env) [] (backTo pos (starEach (e :: es) env)) (backToKw pos (keywordEach [⟨some x, value, p⟩] env)))) kr0) : EV c (eval (.Call func (e :: es) [⟨some x, value, p⟩] pos) env) lc ow Q := by
  rw [he]
  refine AWp.bind (h.mono fun f lc1 ow1 q fv rf => ?_)
  refine callWith_aw (any_backTo hs) rfl ⟨fun s P E R kp => evalArgs_kw2 rfl (q.run.run s _ E R fun as vs lc2 ow2 h2 tk2 q2 rs R2 => kwAll_cons (q2.run _ _ E R2 fun b v lc3 ow3 h3 tk3 q3 rb R3 => kwAll_nil ?_)) hse⟩
  refine kp (as, [(x, b)]) ⟨vs, [(x, v)]⟩ lc3 ow3 h3 tk3 ⟨q3.1 fv rf, fun vs kvs ra hk rk => ?_⟩ ⟨rs, rfl, rb, trivial⟩ R3
  exact q3.2.run fv vs kvs rf ra hk rk
/-- a def of the text's with defaults, called by position and key words -/
theorem cal_dflt {f cd T : Addr} {qual : Str} {st : Stmt} {dV kV : Value} {as bs : List AV} {kw : List (Str × AV)} {names : List Str} {Q} (A : Act K c (n + 1) env) (F : FnK K f cd qual st dV kV) (S : FnS names st) (hn : names.length = bs.length)
    (hb : ∀ vs kvs, All2 as vs → kvs.map (·.1) = kw.map (·.1) → All2 (kw.map (·.2)) (kvs.map (·.2)) → ∃ us, All2 bs us ∧ ∀ (s : Shared) doc pm an ct, K.In s.heap → BindsTo s (fnX (fName st) qual (fArgs st) (fBody st) (fScope st) [] dV kV doc pm an (.ref cd) ct) ⟨vs, kvs⟩ (names.zip us))
    (h : BodyOf K c n f cd qual st names bs ow Q lc) : Cal c (.con (.ref f)) as kw lc ow Q :=
  cal_fn A F hb hn S.nd S.loc S.cell S.co S.gen S.kind fun c' hw hh A' => sx_retQ (h c' hw hh A')
end
end

section
section
variable {K : Frag} {c : Cx} {lc lc' : LC} {ow ow' : OW} {env : Env} {n : Nat}
theorem cal_sum {l : Addr} {xs : List AV} {ns : List Int} {Q} (hh : c.A.handled = none) (hm : (l, AO.list xs) ∈ ow) (hx : xs = ns.map .int) (h : Q (.int ns.sum) lc ow) : Cal c (.con (.builtin "sum")) [.ref l] [] lc ow Q := by
  subst hx
  refine cal_1 ?_
  rintro _ rfl
  refine ⟨fun s P E R kp => ?_⟩
  refine bc fun hG => ?_
  obtain ⟨m, F, hl⟩ := R.fr
  obtain ⟨news, N, PN⟩ := R.newsL
  obtain ⟨o, ⟨vs, k, rfl, r⟩, ho⟩ := R.get hm
  refine hG ?_
  clear hG
  refine LSm.sum_ints F N hh (⟨_, ho, rfl, k, rfl⟩ : s.heap.IsList l vs.toArray) (all2_ints r) fun h' tk t' F' N' => ?_
  exact kp (.int ns.sum) _ _ _ h' tk h ⟨t', rfl⟩ (Rep.ofNews F' hl N' R.nd PN.mem)
theorem all2_of : ∀ {xs : List AV} {vs : List Value}, xs.length = vs.length → (∀ (i : Nat) (a : AV) (v : Value), xs[i]? = some a → vs[i]? = some v → a.rep v) → All2 xs vs
  | [], [], _, _ => trivial
  | [], _ :: _, h, _ => by cases h
  | _ :: _, [], h, _ => by cases h
  | a :: xs, v :: vs, h, k => ⟨k 0 a v rfl rfl, all2_of (by simpa using h) fun i a v h1 h2 => k (i + 1) a v (by simpa using h1) (by simpa using h2)⟩
theorem cal_list_str {x : List Nat} {Q} (hh : c.A.handled = none) (hz : x.length ≤ 100000) (h : ∀ r, Q (.ref r) lc ((r, .list (x.map fun d => .str [d])) :: ow)) : Cal c (.con (.type "list")) [.str x] [] lc ow Q := by
  refine cal_1 ?_
  rintro _ ⟨t, rfl⟩
  refine ⟨fun s P E R kp => ?_⟩
  refine call_list_str hh _ t (fun h' tk acc' c' hk hS hI => ?_) (by show x.toArray.size ≤ sizeLine; rw [List.size_toArray, sizeLine_eq]; wtm_at "om")
  refine kp (.ref s.heap.objs.size) _ _ _ h' tk (h _) rfl (R.add (R.keeps hk) rfl (Nat.le_refl _) hS ⟨acc'.toList, c', by simp, ?_⟩)
  refine all2_of ?_ fun i a v h1 h2 => ?_
  · have e := hI.1; simp at e ⊢; wtm_at "om"
  · have := hI.2 i v (by simpa using h2)
    refine bc fun hG => ?_
    obtain ⟨d, t', hd, rfl⟩ := this
    refine hG ?_
    clear hG
    rw [List.getElem?_map] at h1
    have hd' : x[i]? = some d := by simpa using hd
    rw [hd'] at h1
    cases h1
    exact ⟨t', rfl⟩
theorem cal_list_rng {r : Addr} {a b d : Int} {n : Nat} {Q} (hh : c.A.handled = none) (hm : (r, AO.rng a b d) ∈ ow) (hsm : Builtin.Range.small a b d = true) (hn : Builtin.Range.rangeSize a b d = n) (hz : n ≤ 100000)
    (h : ∀ l, Q (.ref l) lc ((l, .list ((List.range n).map fun (i : Nat) => AV.int (a + i * d))) :: ow)) : Cal c (.con (.type "list")) [.ref r] [] lc ow Q := by
  refine cal_1 ?_
  rintro _ rfl
  refine ⟨fun s P E R kp => ?_⟩
  refine bc fun hG => ?_
  obtain ⟨o, ⟨t, u, v, rfl⟩, ho⟩ := R.get hm
  refine hG ?_
  clear hG
  refine call_list_range hh ho hsm hn (by wtm_at "om") fun h' tk acc' c' hk hS hI => ?_
  refine kp (.ref s.heap.objs.size) _ _ _ h' tk (h _) rfl (R.add (R.keeps hk) rfl (Nat.le_refl _) hS ⟨acc'.toList, c', by simp, ?_⟩)
  refine all2_of ?_ fun i a v h1 h2 => ?_
  · have e := hI.1; simp at e ⊢; wtm_at "om"
  · obtain ⟨t', rfl⟩ := hI.2 i v (by simpa using h2)
    have hi : i < n := by
      have := (List.getElem?_eq_some_iff.mp h1).1
      simpa using this
    rw [List.getElem?_map, List.getElem?_range hi] at h1
    cases h1
    exact ⟨t', rfl⟩
end
end

section
theorem collect_range {prog : Program} {w : World} {A : Around} {E : Value → Shared → Prop} {s : Shared} {r : Addr} {a b d : Int} {t u v : Tok} {n : Nat} {Q : List Value → Shared → Prop} (hh : A.handled = none) (hr : IsRange s.heap r a b d t u v) (hsmall : Builtin.Range.small a b d = true)
    (hn : Builtin.Range.rangeSize a b d = n) (hlen : n ≤ 2 ^ 24)
    (h : ∀ h' tk acc, (∀ b o, s.heap.get? b = some o → h'.get? b = some o) → ItemsOf (fun i v => ∃ t, v = .int (a + i * d) t) acc n → Q acc.toList { s with heap := h', toks := tk }) : wpAny (model prog w) A (collect (.ref r)) Q E s := by
  unfold collect
  refine wpAny_bind (wpAny_runValue (codeAny_builtin F.entry_proto_collect ?_))
  rw [Around.under_plainId F.plain_proto_collect _]
  show wpAny _ A.in1 (newList [] >>= fun l => again (.builtin "list.__iadd__" ⟨[l, .ref r], []⟩)) _ _ s
  refine wpAny_bind (wpAny_newObj_type ?_ (by size_fits))
  refine wpAny_pure ⟨plainId_quiet F.plain_list_iadd _, codeAny_builtin F.entry_list_iadd ?_⟩
  rw [Around.under_plainId F.plain_list_iadd _]
  show wpAny _ A.in1 (Builtin.List.listExtendWith (.ref s.heap.objs.size) (.ref r) (.ref s.heap.objs.size)) _ _ _
  refine wpAny_extend_range (R := fun r s' => match r with | .ok (.ret v) => wpAny (model prog w) A (match v with | .ref a => (do match (← load a).data with | .seq xs _ => pure xs.toList | _ => unsupported "internal:collect") | _ => unsupported "internal:collect") Q E s' | .ok _ => False | .error e => E e s') hh (Heap.get?_push_of_some _ hr) hsmall hn hlen s.heap.objs.size (.ref s.heap.objs.size) 0 (Heap.get?_push_size _ rfl) fun h' tk acc' c' hk hS' hacc => ?_
  dsimp only
  refine wpAny_bind (wpAny_load hS' ?_)
  dsimp only
  exact wpAny_pure (h h' tk acc' (fun b o e => hk b o (Nat.ne_of_lt (Heap.lt_size e)) (Heap.get?_push_of_some _ e)) hacc)
end

section
/-- by key, then by place -/
noncomputable def LexLt (ks : List Int) (x y : Int) : Prop := ks.getD x.toNat 0 < ks.getD y.toNat 0 ∨ (ks.getD x.toNat 0 = ks.getD y.toNat 0 ∧ x < y)
theorem V_eq {xs : Array Keyed} {i : Nat} (hi : i < xs.size) : V xs i = numOf xs[i].2 := by unfold V; rw [getElem?_pos xs i hi]
/-- what the sorted pairs say -/
theorem lex_out {ks : List Int} {kA vs : List Value} {n : Nat} (hk : All2 (ks.map .int) kA) (hv : All2 ((List.range n).map fun (i : Nat) => AV.int i) vs) (hn : ks.length = n) {xs : Array Keyed} (hp : xs.Perm (kA.toArray.zip vs.toArray)) (hs : Asc xs xs.size) :
    ∃ out : List Int, All2 (out.map .int) (xs.map (·.2)).toList ∧ out.Perm ((List.range n).map fun (i : Nat) => (i : Int)) ∧ out.Pairwise (LexLt ks) := by
  have hl : xs.toList.Perm (kA.zip vs) := by
    have := Array.perm_iff_toList_perm.mp hp
    simpa using this
  have hlk := hk.length
  have hlv := hv.length
  simp only [List.length_map, List.length_range] at hlk hlv
  have hmem : ∀ p ∈ kA.zip vs, ∃ i : Nat, i < n ∧ numOf p.1 = ks.getD i 0 ∧ (∃ t, p.2 = .int i t) := by
    intro p hp
    refine bc fun hG => ?_
    obtain ⟨i, hi, e⟩ := List.getElem_of_mem hp
    refine hG ?_
    clear hG
    have hi' : i < n := by simp at hi; wtm_at "om"
    have h1 : i < kA.length := by wtm_at "om"
    have h2 : i < vs.length := by wtm_at "om"
    have h3 : i < ks.length := by wtm_at "om"
    rw [List.getElem_zip] at e
    subst e
    refine bc fun hG => ?_
    obtain ⟨v, hv1, rv⟩ := hk.get (i := i) (a := .int ks[i]) (by simp [h3])
    obtain ⟨u, hu1, ru⟩ := hv.get (i := i) (a := .int i) (by simp [hi'])
    refine hG ?_
    clear hG
    rw [List.getElem?_eq_getElem h1] at hv1
    rw [List.getElem?_eq_getElem h2] at hu1
    cases hv1; cases hu1
    obtain ⟨t, e1⟩ := rv
    refine ⟨i, hi', ?_, ru⟩
    show numOf kA[i] = _
    rw [e1]
    simp [numOf, h3]
  have hall : ∀ p ∈ xs.toList, ∃ i : Nat, i < n ∧ numOf p.1 = ks.getD i 0 ∧ (∃ t, p.2 = .int i t) := fun p hp => hmem p (hl.mem_iff.mp hp)
  refine ⟨xs.toList.map fun p => numOf p.2, ?_, ?_, ?_⟩
  · rw [Array.toList_map, List.map_map]
    generalize xs.toList = l at hall
    clear hl hp hs
    induction l with
    | nil => trivial
    | cons p r ih =>
      refine bc fun hG => ?_
      obtain ⟨i, _, _, t, e⟩ := hall p (.head _)
      refine hG ?_
      clear hG
      refine ⟨⟨t, ?_⟩, ih fun q hq => hall q (.tail _ hq)⟩
      show p.2 = .int (numOf p.2) t
      rw [e]; rfl
  · refine (hl.map fun p => numOf p.2).trans ?_
    have : (kA.zip vs).map (fun p => numOf p.2) = vs.map numOf := by
      have h := List.map_snd_zip (l₁ := kA) (l₂ := vs) (by wtm_at "om")
      conv => rhs; rw [← h]
      rw [List.map_map]; rfl
    rw [this]
    have : vs.map numOf = (List.range n).map fun (i : Nat) => (i : Int) := by
      refine List.ext_getElem (by simp; wtm_at "om") fun i h1 h2 => ?_
      simp at h1 h2
      refine bc fun hG => ?_
      obtain ⟨u, hu1, t, e⟩ := hv.get (i := i) (a := .int i) (by simp [h2])
      refine hG ?_
      clear hG
      rw [List.getElem?_eq_getElem h1] at hu1
      cases hu1
      simp [e, numOf]
    rw [this]
  · rw [List.pairwise_iff_getElem]
    intro i j hi hj hij
    have hi' : i < xs.size := by simpa using hi
    have hj' : j < xs.size := by simpa using hj
    have q := hs i j hij hj'
    rw [K_eq hi', K_eq hj', V_eq hi', V_eq hj'] at q
    refine bc fun hG => ?_
    obtain ⟨a, _, ka, ta, ea⟩ := hall xs[i] (by simp)
    obtain ⟨b, _, kb, tb, eb⟩ := hall xs[j] (by simp)
    refine hG ?_
    clear hG
    rw [ka, kb, ea, eb] at q
    simp only [List.getElem_map, Array.getElem_toList]
    unfold LexLt
    rw [ea, eb]
    simpa [numOf] using q

section
variable {K : Frag} {c : Cx} {lc lc' : LC} {ow ow' : OW} {env : Env} {n : Nat}
theorem sort_tail {kS a : Addr} {ks : List Int} {e1 : Nat} {st : SortSt} {kA vs : List Value} {s : Shared} {A : Around} {E : Value → Shared → Prop} {P : PySem.Fin → Shared → Prop} (R : Rep c.g c.L lc ((kS, .list (ks.map .int)) :: (a, .obj (seqObj "list" #[] e1)) :: ow) s.heap)
    (hk : All2 (ks.map .int) kA) (hv : All2 ((List.range n).map fun (i : Nat) => AV.int i) vs) (hn : ks.length = n) (h64 : n < 64) (hp : (arrOf st).Perm (kA.toArray.zip vs.toArray)) (hs : Asc (arrOf st) (arrOf st).size) (hf : failedOf st = none)
    (h : ∀ (h' : Heap) (tk : Nat) (out : List Int), out.Perm ((List.range n).map fun (i : Nat) => (i : Int)) → out.Pairwise (LexLt ks) → Rep c.g c.L lc ((a, .list (out.map .int)) :: ow) h' → P (.done (.ret .none)) { s with heap := h', toks := tk }) :
    wpAny (model pw c.w) A (ksk_tail a false e1 (.ref kS) st) P E s := by
  refine bc fun hG => ?_
  obtain ⟨ok, ⟨kv, kn, rfl, rk⟩, hok⟩ := R.get (.head _)
  obtain ⟨oa, ⟨rfl, _⟩, hoa⟩ := R.get (.tail _ (.head _))
  refine hG ?_
  clear hG
  have hsz : (arrOf st).size = n := by
    have h1 := hp.size_eq
    have h2 := hk.length
    have h3 := hv.length
    simp at h1 h2 h3; wtm_at "om"
  have hkz : kv.length = n := by have := rk.length; simp at this; wtm_at "om"
  refine bc fun hG => ?_
  obtain ⟨out, ro, po, wo⟩ := lex_out hk hv hn hp hs
  refine hG ?_
  clear hG
  unfold ksk_tail
  dsimp only
  refine wpAny_bind (listUpdate_at hok rfl ?_ (by rw [List.size_toArray, sizeLine_eq]; wtm_at "om") (Nat.zero_le _))
  refine wpAny_bind (wpAny_letGo ?_)
  have R1 : Rep c.g c.L lc ((kS, .list []) :: (a, .obj (seqObj "list" #[] e1)) :: ow) (s.heap.update kS (Obj.mapSeq fun _ => (#[] : Array Value))) := R.upd Upd.head fun o ro ho => by
    rw [hok] at ho; cases ho
    exact mapSeq_rep (us := []) rfl trivial
  refine bc fun hG => ?_
  obtain ⟨oa2, ⟨rfl, _⟩, hoa2⟩ := R1.get (.tail _ (.head _))
  refine hG ?_
  clear hG
  refine wpAny_bind (seqEpoch_at hoa2 rfl ?_)
  have R2 : Rep c.g c.L lc ((kS, .list []) :: (a, .list (out.map .int)) :: ow) ((s.heap.update kS (Obj.mapSeq fun _ => (#[] : Array Value))).update a (Obj.mapSeq fun _ => (arrOf st).map (·.2))) := R1.upd (.tail .head) fun o ro' ho => by
    obtain ⟨rfl, _⟩ := ro'
    have := mapSeq_rep (f := fun _ => (arrOf st).map (·.2)) (vs := []) (n := e1) (us := ((arrOf st).map (·.2)).toList) (Array.toArray_toList ..).symm ro
    exact this
  refine wpAny_bind (listUpdate_at hoa2 rfl ?_ (Nat.zero_le _) ?_)
  · rw [hf]
    simp only [bne_self_eq_false, Bool.false_eq_true, if_false]
    exact wpAny_pure (h _ _ out po wo (R2.pick (.drop .all)))
  · show ((arrOf st).map (·.2)).size ≤ _
    rw [Array.size_map, hsz, sizeLine_eq]; wtm_at "om"
theorem sort_end {kS a : Addr} {ks : List Int} {e1 : Nat} {kA vs : List Value} {s : Shared} {A : Around} {E : Value → Shared → Prop} {P : PySem.Fin → Shared → Prop} (R : Rep c.g c.L lc ((kS, .list (ks.map .int)) :: (a, .obj (seqObj "list" #[] e1)) :: ow) s.heap)
    (hk : All2 (ks.map .int) kA) (hv : All2 ((List.range n).map fun (i : Nat) => AV.int i) vs) (hn : ks.length = n) (h64 : n < 64)
    (h : ∀ (h' : Heap) (tk : Nat) (out : List Int), out.Perm ((List.range n).map fun (i : Nat) => (i : Int)) → out.Pairwise (LexLt ks) → Rep c.g c.L lc ((a, .list (out.map .int)) :: ow) h' → P (.done (.ret .none)) { s with heap := h', toks := tk }) :
    wpAny (model pw c.w) A (ksk_end a false vs.toArray e1 (.ref kS) kA.toArray) P E s := by
  have hkz := hk.length
  have hvz := hv.length
  simp only [List.length_map, List.length_range] at hkz hvz
  have hzs : (kA.toArray.zip vs.toArray).size = n := by simp; wtm_at "om"
  have hI : IntsAre kA.toArray.toList ks := by simpa using all2_ints hk
  unfold ksk_end
  simp only [Bool.false_eq_true, if_false]
  by_cases h2 : vs.toArray.size < 2
  · rw [if_pos h2, if_pos h2]
    refine wpAny_bind (wpAny_pure ?_)
    rw [StateT.run_pure]
    refine wpAny_bind (wpAny_pure ?_)
    refine sort_tail (st := SortSt.mk' general' (kA.toArray.zip vs.toArray) #[] 7 none) R hk hv hn h64 (Array.Perm.refl _) ?_ rfl h
    intro i j hij hj
    have : (kA.toArray.zip vs.toArray).size < 2 := by rw [List.size_toArray] at h2; wtm_at "om"
    have hj' : j < (kA.toArray.zip vs.toArray).size := hj
    wtm_at "om"
  · rw [if_neg h2, if_neg h2]
    rw [List.size_toArray] at h2
    rw [ksk_kind hI (by rw [List.size_toArray]; wtm_at "om")]
    refine wpAny_bind (wpAny_pure ?_)
    have hInc : Inc (kA.toArray.zip vs.toArray).size (kA.toArray.zip vs.toArray) 0 := by
      intro i j hij _ hj
      have hjn : j < n := by rw [← hzs]; exact hj
      rw [V_eq (by wtm_at "om"), V_eq hj]
      have hi : i < vs.length := by wtm_at "om"
      have hj2 : j < vs.length := by wtm_at "om"
      obtain ⟨u, hu1, t, e⟩ := hv.get (i := i) (a := .int i) (by rw [List.getElem?_map, List.getElem?_range (by wtm_at "om")]; rfl)
      obtain ⟨u', hu1', t', e'⟩ := hv.get (i := j) (a := .int j) (by rw [List.getElem?_map, List.getElem?_range hjn]; rfl)
      rw [List.getElem?_eq_getElem hi] at hu1
      rw [List.getElem?_eq_getElem hj2] at hu1'
      cases hu1; cases hu1'
      simp only [Array.getElem_zip, List.getElem_toArray, e, e', numOf]
      wtm_at "om"
    refine wpAny_bind (wpAny_mono (st_sortRuns (a₀ := kA.toArray.zip vs.toArray) (st := SortSt.mk' oneType' (kA.toArray.zip vs.toArray) #[] 7 none)
      (Q := fun _ st' => (arrOf st').Perm (kA.toArray.zip vs.toArray) ∧ failedOf st' = none ∧ Asc (arrOf st') (kA.toArray.zip vs.toArray).size)
      (ksk_intKeys hI) ⟨Array.Perm.refl _, rfl, rfl, rfl⟩ hInc (by rw [hzs]; wtm_at "om") (by rw [hzs]; exact h64) fun st' a1 a2 a3 => ⟨a1, a2, a3⟩) ?_ fun _ _ e => e)
    rintro ⟨⟨⟩, st'⟩ s' ⟨rfl, hp, hf, hs⟩
    exact sort_tail R hk hv hn h64 hp (by rw [hp.size_eq]; exact hs) hf h
theorem sort_rest {kS a q : Addr} {ks : List Int} {e1 : Nat} {vs : List Value} {s : Shared} {E : Value → Shared → Prop} {P : PySem.Fin → Shared → Prop} (R : Rep c.g c.L lc ((kS, .list []) :: (a, .obj (seqObj "list" #[] e1)) :: ow) s.heap)
    (hv : All2 ((List.range n).map fun (i : Nat) => AV.int i) vs) (hn : ks.length = n) (h64 : n < 64)
    (turn : ∀ (i : Nat) (k : Int), ks[i]? = some k → ∀ tw : OW, Cal c.in1.in1 (.ref q) [.int i] [] lc (tw ++ ow) (fun b lc' ow' => b = .int k ∧ lc' = lc ∧ ow' = tw ++ ow))
    (h : ∀ (h' : Heap) (tk : Nat) (out : List Int), out.Perm ((List.range n).map fun (i : Nat) => (i : Int)) → out.Pairwise (LexLt ks) → Rep c.g c.L lc ((a, .list (out.map .int)) :: ow) h' → P (.done (.ret .none)) { s with heap := h', toks := tk }) :
    wpAny (model pw c.w) c.A.in1.in1 (ksk_rest a (.ref q) false vs.toArray e1 (.ref kS)) P E s := by
  have hvz := hv.length
  simp only [List.length_map, List.length_range] at hvz
  unfold ksk_rest
  refine wpAny_bind (wpAny_rule ?_)
  rw [List.forIn_toArray]
  refine wpAny_bind (ksk_fold (fun i s' => ∃ h' tk, s' = { s with heap := h', toks := tk } ∧ Rep c.g c.L lc ((kS, .list ((ks.take i).map .int)) :: (a, .obj (seqObj "list" #[] e1)) :: ow) h') vs 0 s ⟨s.heap, s.toks, rfl, R⟩ ?step ?done)
  case step =>
    rintro j x s' hx ⟨h', tk, rfl, R'⟩
    simp only [Nat.zero_add] at R' ⊢
    have hj : j < vs.length := (List.getElem?_eq_some_iff.mp hx).1
    have hjn : j < n := by wtm_at "om"
    obtain ⟨k, hkj⟩ : ∃ k, ks[j]? = some k := ⟨_, List.getElem?_eq_getElem (by wtm_at "om")⟩
    obtain ⟨v, hv1, rv⟩ := hv.get (i := j) (a := .int j) (by rw [List.getElem?_map, List.getElem?_range hjn]; rfl)
    rw [hx] at hv1
    cases hv1
    have T := (turn j k hkj [(kS, .list ((ks.take j).map .int)), (a, .obj (seqObj "list" #[] e1))]).run (.ref q) [x] [] rfl ⟨rv, trivial⟩ rfl trivial
    refine wpAny_bind (wpAny_attempt (T.run { s with heap := h', toks := tk } _ _ R' fun b y lc2 ow2 h2 tk2 qq rb R2 => ?_))
    refine bc fun hG => ?_
    obtain ⟨rfl, rfl, rfl⟩ := qq
    refine hG ?_
    clear hG
    try dsimp only
    refine bc fun hG => ?_
    obtain ⟨ok, ⟨kv, kn, rfl, rk⟩, hok⟩ := R2.get (.head _)
    refine hG ?_
    clear hG
    have hkl := rk.length
    simp only [List.length_map, List.length_take] at hkl
    refine wpAny_bind (listUpdate_at hok rfl ?_ (by rw [List.size_toArray, sizeLine_eq]; wtm_at "om") (by simp only [List.push_toArray, List.size_toArray, List.length_append, List.length_cons, List.length_nil]; rw [sizeLine_eq]; wtm_at "om"))
    refine wpAny_pure ⟨rfl, _, tk2, rfl, R2.upd Upd.head fun o ro ho => ?_⟩
    rw [hok] at ho; cases ho
    refine mapSeq_rep (us := kv ++ [y]) (by simp) ?_
    rw [List.take_add_one, hkj, List.map_append]
    exact rk.append ⟨rb, trivial⟩
  case done =>
    rintro s' ⟨h', tk, rfl, R'⟩
    rw [Nat.zero_add, List.take_of_length_le (by wtm_at "om")] at R'
    refine bc fun hG => ?_
    obtain ⟨ok, ⟨kv, kn, rfl, rk⟩, hok⟩ := R'.get (.head _)
    refine hG ?_
    clear hG
    try dsimp only
    refine wpAny_bind (listItems_at hok rfl ?_)
    exact sort_end (s := { s with heap := h', toks := tk }) R' rk hv hn h64 fun h3 tk3 out p w R3 => h h3 tk3 out p w R3
theorem cal_sorted {r q : Addr} {ks : List Int} {Q} (hh : c.A.handled = none) (hm : (r, AO.rng 0 n 1) ∈ ow) (hn : ks.length = n) (h64 : n < 64)
    (turn : ∀ (i : Nat) (k : Int), ks[i]? = some k → ∀ tw : OW, Cal c.in1.in1 (.ref q) [.int i] [] lc (tw ++ ow) (fun b lc' ow' => b = .int k ∧ lc' = lc ∧ ow' = tw ++ ow))
    (h : ∀ (l : Addr) (out : List Int), out.Perm ((List.range n).map fun (i : Nat) => (i : Int)) → out.Pairwise (LexLt ks) → Q (.ref l) lc ((l, .list (out.map .int)) :: ow)) : Cal c (.con (.builtin "sorted")) [.ref r] [("key", .ref q)] lc ow Q := by
  refine ⟨?_⟩
  rintro _ vs kvs rfl ra hkn rk
  obtain ⟨v, rfl, r1⟩ := al1 ra
  obtain ⟨kv, rfl⟩ := kw1 hkn
  · cases (show v = _ from r1)
    cases (show kv = _ from rk.1)
    refine ⟨fun s P E R kp => ?_⟩
    refine bc fun hG => ?_
    obtain ⟨o, ⟨t, u, w, rfl⟩, ho⟩ := R.get hm
    refine hG ?_
    clear hG
    refine call_function_entry_kw kind_sorted plain_sorted entry_sorted (ksk_s1 _ _) ?_
    unfold Builtin.«sorted»
    refine wpAny_bind (m := checkCount "sorted" 1 1 _) (wpAny_pure ?_)
    refine wpAny_bind (collect_range (s := s) hh ho (small_one (by wtm_at "om") (by wtm_at "om") (by wtm_at "om") (by wtm_at "om")) (n := n) (by simp [Builtin.Range.rangeSize]; wtm_at "om") (by wtm_at "om") fun h1 tk1 acc hk1 hI => ?_)
    have hv : All2 ((List.range n).map fun (i : Nat) => AV.int i) acc.toList := by
      refine all2_of ?_ fun i a v h1 h2 => ?_
      · have e := hI.1; simp at e ⊢; wtm_at "om"
      · obtain ⟨t', rfl⟩ := hI.2 i v (by simpa using h2)
        have hi : i < n := by
          have := (List.getElem?_eq_some_iff.mp h1).1
          simpa using this
        rw [List.getElem?_map, List.getElem?_range hi] at h1
        cases h1
        exact ⟨t', by congr 1; wtm_at "om"⟩
    have hvl := hv.length
    simp only [List.length_map, List.length_range] at hvl
    refine wpAny_bind (wpAny_newList ?_ (by rw [sizeLine_eq]; wtm_at "om"))
    have R1 := (R.keeps hk1).push (p := .obj (seqObj "list" acc.toList.toArray 0)) ⟨rfl, rfl⟩
    generalize h1.push (seqObj "list" acc.toList.toArray 0) = H1 at R1 ⊢
    generalize h1.objs.size = a at R1 ⊢
    refine bc fun hG => ?_
    obtain ⟨oa, ⟨rfl, _⟩, hoa⟩ := R1.get (.head _)
    refine hG ?_
    clear hG
    refine wpAny_bind (wpAny_holding (wpAny_call_entry_kw PyProof.Rows.slot_list_sort ⟨_, hoa, rfl⟩ PyProof.Rows.entry_list_sort ?body (ksk_l1 _ _)))
    case body =>
      show wpAny _ c.A.in1.in1 (Builtin.«list.sort» ⟨[.ref a], [(Str.ofString "key", .ref q)]⟩) _ _ _
      rw [ksk_t1 q a]
      unfold ksk_tree
      refine wpAny_bind (listItems_at hoa rfl ?_)
      refine wpAny_bind (listUpdate_at hoa rfl ?_ (by rw [List.size_toArray, sizeLine_eq]; wtm_at "om") (Nat.zero_le _))
      obtain ⟨e1, he1⟩ : ∃ e1, Obj.mapSeq (fun _ => (#[] : Array Value)) (seqObj "list" acc.toList.toArray 0) = seqObj "list" #[] e1 := ⟨_, rfl⟩
      have R2 : Rep c.g c.L lc ((a, .obj (seqObj "list" #[] e1)) :: ow) (H1.update a (Obj.mapSeq fun _ => (#[] : Array Value))) := R1.upd Upd.head fun o ro ho => by
        rw [hoa] at ho; cases ho
        exact ⟨he1, rfl⟩
      refine bc fun hG => ?_
      obtain ⟨oa2, ⟨rfl, _⟩, hoa2⟩ := R2.get (.head _)
      refine hG ?_
      clear hG
      refine wpAny_bind (seqEpoch_at hoa2 rfl ?_)
      refine wpAny_bind (wpAny_newTuple ?_ (by simp only [List.toList_toArray]; rw [sizeLine_eq]; wtm_at "om"))
      refine wpAny_bind (wpAny_newList ?_ (Nat.zero_le _))
      have R3 := (((R2.push (p := .tup ((List.range n).map fun (i : Nat) => AV.int i)) (o := { cls := .type "tuple", data := .seq acc.toList.toArray.toList.toArray }) ⟨acc.toList, 0, by simp, hv⟩).pick (.drop .all)).push (p := .list []) (o := { cls := .type "list", data := .seq ([] : List Value).toArray }) ⟨[], 0, rfl, trivial⟩)
      refine wpAny_holding ?_
      refine sort_rest R3 (by simpa using hv) hn h64 turn fun h' tk out p w R4 => ?_
      refine ⟨_, rfl, wpAny_pure ⟨_, rfl, ?_⟩⟩
      exact kp (.ref a) _ _ _ h' tk (h a out p w) rfl R4
end
end

section
noncomputable def hidS (n : Int) (k : Nat) : List Nat := (List.replicate (Builtin.bitAnd (n.fdiv (2 ^ k)) 1).toNat [92]).flatten ++ [[97, 66, 99, 68, 101].getD k 0]
noncomputable def hid (n : Int) : Nat → List Nat
  | 0 => []
  | k + 1 => hid n k ++ hidS n k

theorem hidS_len (n : Int) (k : Nat) (h : (Builtin.bitAnd (n.fdiv (2 ^ k)) 1).toNat ≤ 1) : (hidS n k).length ≤ 2 := by
  unfold hidS
  have : ∀ j, j ≤ 1 → (List.replicate j [92]).flatten.length ≤ 1 := by intro j hj; match j, hj with | 0, _ => decide | 1, _ => decide
  rw [List.length_append]
  have := this _ h
  simp; wtm_at "om"
theorem bitAnd_one (i : Int) : 0 ≤ Builtin.bitAnd i 1 ∧ Builtin.bitAnd i 1 ≤ 1 := bitAnd_range i (by decide)
theorem hid_len (n : Int) : ∀ k, (hid n k).length ≤ 2 * k
  | 0 => by simp [hid]
  | k + 1 => by
    have := hid_len n k
    have h2 := hidS_len n k (by have := bitAnd_one (n.fdiv (2 ^ k)); wtm_at "om")
    simp only [hid, List.length_append]; wtm_at "om"
set_option maxHeartbeats 2000000
theorem fns_hidden : FnS ["number"] (stAt 23) := ⟨by decide +kernel, by decide +kernel, by decide +kernel, by kernel_rfl, by kernel_rfl, by kernel_rfl⟩
theorem cal_hidden {K : Frag} {c : Cx} {env : Env} {n : Int} {d : Nat} {ow} {Q : AV → LC → OW → Prop} {lc : LC} (A : Act K c (d + 1) env) (O : KOk K) (hh : c.A.handled = none) (h0 : 0 ≤ n) (h32 : n < 32) (h : Q (.str (hid n 5)) lc ow) :
    Cal c (.con (.ref 158)) [.int n] [] lc ow Q := by
  refine cal_pos A O.hidden fns_hidden rfl (len1 fun u doc pm an ct => by kernel_rfl) fun c hw hc A => ?_
  show SX c (execs (fBody (stAt 23)) (envX "_law_hidden" (fScope (stAt 23)) c.L 158 (.ref 157) [])) [("number", .int n)] ow (retP Q lc)
  rw [← hc] at hh
  have hr := O.range
  refine sx_cons ?_
  repeat wtm_at "a1"
  refine sx_rng 5 (fun k lc1 ow1 => lc1 = ([("number", .int n), ("text", .str (hid n k))] : LC) ∧ ow1 = ow) hh ?_ ?_ ?_
  · rintro k _ _ hk ⟨rfl, rfl⟩
    refine ⟨_, by wtm_at "pt", fun it o => ?_⟩
    have hb := bitAnd_one (n.fdiv (2 ^ (k : Int).toNat))
    have hl := hid_len n k
    have hl2 := hidS_len n k (by have := bitAnd_one (n.fdiv (2 ^ k)); wtm_at "om")
    refine sx_cons ?_
    repeat wtm_at "a1"
    refine b_shr ?_ (by wtm_at "sd")
    repeat wtm_at "a1"
    refine b_muls (by wtm_at "om") (by wtm_at "om") (by decide) ?_
    repeat wtm_at "a1"
    refine sub_str (k := (k : Int)) (d := [97, 66, 99, 68, 101].getD k 0) (by simp; wtm_at "om") ?_ ?_
    · match k, hk with
      | 0, _ => decide +kernel
      | 1, _ => decide +kernel
      | 2, _ => decide +kernel
      | 3, _ => decide +kernel
      | 4, _ => decide +kernel
    refine b_adds ?_ ?_
    rotate_left
    · show (List.replicate _ [92]).flatten.length + 1 ≤ _
      unfold hidS at hl2
      rw [List.length_append] at hl2
      show (List.replicate (Builtin.bitAnd (n.fdiv (2 ^ k)) 1).toNat [92]).flatten.length + 1 ≤ _
      simp at hl2 ⊢; wtm_at "om"
    refine i_adds ?_ ?_
    rotate_left
    · show _ + (hidS n k).length ≤ _
      wtm_at "om"
    show Sto _ _ _ (.str (hid n (k + 1))) _ _ _
    repeat wtm_at "a1"
    exact ⟨_, _, by wtm_at "pk", by wtm_at "ls", rfl, rfl⟩
  · rintro _ _ ⟨rfl, rfl⟩
    repeat wtm_at "a1"
    exact ret_ok (by wtm_at "pk") h
  · wtm_at "a1"
    refine ld_builtin A hr (v := .type "range") (by kernel_rfl) (a := .con (.type "range")) rfl ?_
    repeat wtm_at "a1"
    refine ⟨kt, cal_range1 fun r => ?_⟩
    exact ⟨_, _, rfl, by wtm_at "pk", by decide, rfl, rfl⟩
end

section
noncomputable def lowN (x : List Nat) : List Nat := cs (Txt.lower ⟨x.toArray⟩)
noncomputable def substC (x y : List Nat) : Int := if x = y then 0 else if lowN x = lowN y then 1 else 2
theorem fns_subst : FnS ["ch_a", "ch_b"] (stAt 18) := ⟨by decide +kernel, by decide +kernel, by decide +kernel, by kernel_rfl, by kernel_rfl, by kernel_rfl⟩
theorem cal_subst {K : Frag} {c : Cx} {env : Env} {x y : List Nat} {d : Nat} {ow} {Q : AV → LC → OW → Prop} {lc : LC} (A : Act K c (d + 1) env) (O : KOk K) (hx : x.length ≤ 1000) (hy : y.length ≤ 1000) (h : Q (.int (substC x y)) lc ow) :
    Cal c (.con (.ref 132)) [.str x, .str y] [] lc ow Q := by
  refine cal_pos A O.subst fns_subst rfl (len2 fun u v doc pm an ct => by kernel_rfl) fun c hw hc A => ?_
  show SX c (execs (fBody (stAt 18)) (envX "_substitution_cost" (fScope (stAt 18)) c.L 132 (.ref 131) [])) [("ch_a", .str x), ("ch_b", .str y)] ow (retP Q lc)
  obtain ⟨t1, o1⟩ := O.caseCost
  obtain ⟨t2, o2⟩ := O.moveCost
  refine sx_cons ?_
  repeat wtm_at "a1"
  refine br_dec (fun e => ?_) fun e => ?_
  · repeat wtm_at "a1"
    exact ret_ok (by wtm_at "pk") (by rw [show (0 : Int) = substC x y by unfold substC; rw [if_pos e]]; exact h)
  · repeat wtm_at "a1"
    refine mth_str F.slot_str_lower F.type_str_lower ?_
    repeat wtm_at "a1"
    refine ⟨kb, cal_lower hx ?_⟩
    repeat wtm_at "a1"
    refine mth_str F.slot_str_lower F.type_str_lower ?_
    repeat wtm_at "a1"
    refine ⟨kb, cal_lower hy ?_⟩
    repeat wtm_at "a1"
    refine br_dec (fun e2 => ?_) fun e2 => ?_
    · refine sx_cons (sx_ret ?_)
      refine ld_global A o1 (a := .int 1) ⟨t1, rfl⟩ ?_
      refine nx_ret ?_
      exact ret_ok (lc' := []) (by wtm_at "pk") (by rw [show (1 : Int) = substC x y by unfold substC lowN; rw [if_neg e, if_pos e2]]; exact h)
    · repeat wtm_at "a1"
      refine ld_global A o2 (a := .int 2) ⟨t2, rfl⟩ ?_
      refine nx_ret ?_
      exact ret_ok (lc' := []) (by wtm_at "pk") (by rw [show (2 : Int) = substC x y by unfold substC lowN; rw [if_neg e, if_neg e2]]; exact h)
end

section
/-- a key function: whatever is at hand, it reads ks at its argument -/
structure KeyOf (K : Frag) (d : Nat) (q : Addr) (ow₀ : OW) (ks : List Int) : Prop where
  cal : ∀ (c : Cx) (env : Env) (lc : LC) (ow : OW) (i : Nat) (k : Int), Act K c (d + 1) env → (∀ p ∈ ow₀, p ∈ ow) → ks[i]? = some k → Cal c (.ref q) [.int i] [] lc ow (fun b lc' ow' => b = .int k ∧ lc' = lc ∧ ow' = ow)
  kpr : ∀ (c : Cx) (lc : LC) (ow : OW), (∀ p ∈ ow₀, p ∈ ow) → ∀ fv, AV.rep (.ref q) fv → Kpr c fv lc ow
noncomputable abbrev kwK (q : AV) : List (Str × AV) := [("key", q)]

section
variable {K : Frag} {qual : Str} {i : Nat} {cd : Addr} {dV kV : Value}
theorem BsK.b2 (B : BsK K qual i cd dV kV) {a x q : AV} : ∀ vs kvs, All2 [a, x] vs → kvs.map (·.1) = (kwK q).map (·.1) → All2 ((kwK q).map (·.2)) (kvs.map (·.2)) → ∃ us, All2 [a, x, .int 0, .none, q] us ∧ ∀ (s : Shared) doc pm an ct, K.In s.heap → BindsTo s (fnX (fName (stAt i)) qual (fArgs (stAt i)) (fBody (stAt i)) (fScope (stAt i)) [] dV kV doc pm an (.ref cd) ct) ⟨vs, kvs⟩ (bsNames.zip us) := by
  intro vs kvs ra hk rk
  obtain ⟨v1, v2, rfl, r1, r2⟩ := al2 ra
  obtain ⟨kv, rfl⟩ := kw1 hk
  exact (B.k2 v1 v2 kv).imp fun us q => ⟨amp (al_con r1) (amp (al_con r2) (amp id (amp id (amp (al_con rk.1) id)))) q.1, fun s doc pm an ct X => kp_binds X fun S => q.2 doc pm an ct S⟩
theorem BsK.b3 (B : BsK K qual i cd dV kV) {a x l q : AV} : ∀ vs kvs, All2 [a, x, l] vs → kvs.map (·.1) = (kwK q).map (·.1) → All2 ((kwK q).map (·.2)) (kvs.map (·.2)) → ∃ us, All2 [a, x, l, .none, q] us ∧ ∀ (s : Shared) doc pm an ct, K.In s.heap → BindsTo s (fnX (fName (stAt i)) qual (fArgs (stAt i)) (fBody (stAt i)) (fScope (stAt i)) [] dV kV doc pm an (.ref cd) ct) ⟨vs, kvs⟩ (bsNames.zip us) := by
  intro vs kvs ra hk rk
  obtain ⟨v1, v2, v3, rfl, r1, r2, r4⟩ := al3 ra
  obtain ⟨kv, rfl⟩ := kw1 hk
  exact (B.k3 v1 v2 v3 kv).imp fun us q => ⟨amp (al_con r1) (amp (al_con r2) (amp (al_con r4) (amp id (amp (al_con rk.1) id)))) q.1, fun s doc pm an ct X => kp_binds X fun S => q.2 doc pm an ct S⟩
theorem BsK.b4 (B : BsK K qual i cd dV kV) {a x l h q : AV} : ∀ vs kvs, All2 [a, x, l, h] vs → kvs.map (·.1) = (kwK q).map (·.1) → All2 ((kwK q).map (·.2)) (kvs.map (·.2)) → ∃ us, All2 [a, x, l, h, q] us ∧ ∀ (s : Shared) doc pm an ct, K.In s.heap → BindsTo s (fnX (fName (stAt i)) qual (fArgs (stAt i)) (fBody (stAt i)) (fScope (stAt i)) [] dV kV doc pm an (.ref cd) ct) ⟨vs, kvs⟩ (bsNames.zip us) := by
  intro vs kvs ra hk rk
  obtain ⟨v1, v2, v3, v4, rfl, r1, r2, r4, r5⟩ := al4 ra
  obtain ⟨kv, rfl⟩ := kw1 hk
  exact (B.k4 v1 v2 v3 v4 kv).imp fun us q => ⟨amp (al_con r1) (amp (al_con r2) (amp (al_con r4) (amp (al_con r5) (amp (al_con rk.1) id)))) q.1, fun s doc pm an ct X => kp_binds X fun S => q.2 doc pm an ct S⟩
end

theorem Act.less1 {K : Frag} {c : Cx} {n : Nat} {env : Env} (A : Act K c (n + 1) env) : Act K c n env := A.less (Nat.le_succ n)
/-- what bisect_right gives back -/
noncomputable def BsR (kf : Nat → Int) (x : Int) (lo hi r : Nat) : Prop := lo ≤ r ∧ (r ≤ hi ∨ r = lo) ∧ (∀ i, lo ≤ i → i < r → kf i ≤ x) ∧ (∀ i, r ≤ i → i < hi → x < kf i)
/-- what bisect_left gives back -/
noncomputable def BsL (kf : Nat → Int) (x : Int) (lo hi r : Nat) : Prop := lo ≤ r ∧ (r ≤ hi ∨ r = lo) ∧ (∀ i, lo ≤ i → i < r → kf i < x) ∧ (∀ i, r ≤ i → i < hi → x ≤ kf i)

theorem fns_bisr : FnS bsNames (stAt 10) := ⟨by decide +kernel, by decide +kernel, by decide +kernel, by kernel_rfl, by kernel_rfl, by kernel_rfl⟩
theorem fns_bisl : FnS bsNames (stAt 11) := ⟨by decide +kernel, by decide +kernel, by decide +kernel, by kernel_rfl, by kernel_rfl, by kernel_rfl⟩
theorem fns_insr : FnS bsNames (stAt 9) := ⟨by decide +kernel, by decide +kernel, by decide +kernel, by kernel_rfl, by kernel_rfl, by kernel_rfl⟩

theorem Cal.mono {c : Cx} {f : AV} {as : List AV} {kw : List (Str × AV)} {lc : LC} {ow : OW} {Q Q' : AV → LC → OW → Prop} (h : Cal c f as kw lc ow Q) (k : ∀ b lc ow, Q b lc ow → Q' b lc ow) : Cal c f as kw lc ow Q' :=
  ⟨fun fv vs kvs a b d e => (h.run fv vs kvs a b d e).mono k⟩
section
variable {K : Frag} {c : Cx} {lc : LC} {ow : OW} {env : Env} {d : Nat}
noncomputable abbrev bsLc (l : Addr) (x lo : Int) (hi : AV) (q : Addr) : LC := [("a", .ref l), ("x", .int x), ("lo", .int lo), ("hi", hi), ("key", .ref q)]
/-- hi as given: none or a number -/
inductive HiIs (n : Nat) : AV → Nat → Prop
  | none : HiIs n .none n
  | int {k : Nat} (h : k ≤ n) : HiIs n (.int k) k
set_option maxHeartbeats 2000000
theorem body_bisr {q l : Addr} {ow₀ : OW} {ks os : List Int} {kf : Nat → Int} {x : Int} {lo hi : Nat} {hv : AV} {Q : AV → LC → OW → Prop} (A : Act K c (d + 1) (envX "bisect_right" (fScope (stAt 10)) c.L 74 (.ref 73) [])) (O : KOk K) (Ky : KeyOf K d q ow₀ ks) (hs : ∀ p ∈ ow₀, p ∈ ow)
    (hl : (l, AO.list (os.map .int)) ∈ ow) (hz : os.length ≤ 1000) (hk : ∀ (i : Nat) (o : Int), os[i]? = some o → ∃ j : Nat, o = j ∧ ks[j]? = some (kf i)) (mono : ∀ i j, i ≤ j → j < os.length → kf i ≤ kf j) (hhi : HiIs os.length hv hi)
    (h : ∀ r, BsR kf x lo hi r → Q (.int r) lc ow) : SX c (execs (fBody (stAt 10)) (envX "bisect_right" (fScope (stAt 10)) c.L 74 (.ref 73) [])) (bsLc l x lo hv q) ow (retP Q lc) := by
  have hln := O.len
  have hle : hi ≤ os.length := by cases hhi <;> wtm_at "om"
  refine sx_cons ?_
  repeat wtm_at "a1"
  refine br_neg (by wtm_at "om") ?_
  repeat wtm_at "a1"
  have main : SX c (execs ((fBody (stAt 10)).drop 2) (envX "bisect_right" (fScope (stAt 10)) c.L 74 (.ref 73) [])) (bsLc l x lo (.int hi) q) ow (retP Q lc) := by
    refine sx_cons ?_
    repeat wtm_at "a1"
    refine br_no rfl ?_
    refine sx_cons ?_
    refine sx_while (fun n lc1 ow1 => ∃ lo' hi' : Nat, n = hi' - lo' ∧ lo ≤ lo' ∧ (lo' ≤ hi' ∨ lo' = lo) ∧ hi' ≤ hi ∧ (∀ i, lo ≤ i → i < lo' → kf i ≤ x) ∧ (∀ i, hi' ≤ i → i < hi → x < kf i) ∧ LSub (bsLc l x lo' (.int hi') q) lc1 ∧ ow1 = ow) ?_ (hi - lo) ⟨lo, hi, rfl, by wtm_at "om", by wtm_at "om", by wtm_at "om", fun i _ _ => by wtm_at "om", fun i _ _ => by wtm_at "om", ls_self, rfl⟩
    intro n lc1 ow1
    revert n ow1
    refine el_3 fun lo' hi' h1 h2 h3 h4 h5 h6 => ?_
    refine AWp.forget h6 ?_
    repeat wtm_at "a1"
    refine br_dec (fun hlt => ?_) fun hlt => ?_
    · have e : ((lo' : Int) + hi').fdiv 2 = ((lo' + hi') / 2 : Nat) := by
        rw [Int.fdiv_eq_ediv_of_nonneg _ (by wtm_at "om")]; wtm_at "om"
      repeat wtm_at "a1"
      refine b_fdiv ?_ (by decide) (PyProof.noPylong_small (by decide))
      rw [e]
      generalize hm : (lo' + hi') / 2 = m
      have hm1 : lo' ≤ m := by wtm_at "om"
      have hm2 : m < hi' := by wtm_at "om"
      have hos : ∃ o, os[m]? = some o := ⟨_, List.getElem?_eq_getElem (by wtm_at "om")⟩
      refine bc fun hG => ?_
      obtain ⟨o, ho⟩ := hos
      obtain ⟨j, rfl, hj⟩ := hk m o ho
      refine hG ?_
      clear hG
      repeat wtm_at "a1"
      refine sub_list (x := .int j) hl (by wtm_at "om") (by wtm_at "om") (by simp [ho]) ?_
      repeat wtm_at "a1"
      refine ⟨Ky.kpr _ _ _ hs, (Ky.cal _ _ _ _ j _ A hs hj).mono ?_⟩
      refine el_E3 ?_
      repeat wtm_at "a1"
      refine br_dec (fun hx => ?_) fun hx => ?_
      · repeat wtm_at "a1"
        refine ⟨m - lo', by wtm_at "om", lo', m, rfl, by wtm_at "om", by wtm_at "om", by wtm_at "om", h4, fun i hi1 hi2 => ?_, by wtm_at "ls", rfl⟩
        have := mono m i hi1 (by wtm_at "om")
        wtm_at "om"
      · repeat wtm_at "a1"
        refine ⟨hi' - (m + 1), by wtm_at "om", m + 1, hi', rfl, by wtm_at "om", by wtm_at "om", by wtm_at "om", fun i hi1 hi2 => ?_, h5, ?_, rfl⟩
        · have := mono i m (by wtm_at "om") (by wtm_at "om")
          wtm_at "om"
        · show LSub (bsLc l x ((m + 1 : Nat) : Int) (.int hi') q) _
          rw [show ((m + 1 : Nat) : Int) = (m : Int) + 1 by wtm_at "om"]
          wtm_at "ls"
    · repeat wtm_at "a1"
      refine ret_ok (lc' := []) (by wtm_at "pk") (h lo' ⟨by wtm_at "om", by wtm_at "om", h4, fun i hi1 hi2 => ?_⟩)
      exact h5 i (by wtm_at "om") hi2
  cases hhi with
  | none =>
    repeat wtm_at "a1"
    refine br_yes rfl ?_
    repeat wtm_at "a1"
    refine ld_builtin A hln (v := .builtin "len") (by kernel_rfl) (a := .con (.builtin "len")) rfl ?_
    repeat wtm_at "a1"
    refine ⟨kb, cal_len_list hl (by simp; wtm_at "om") ?_⟩
    rw [List.length_map]
    iterate 3 wtm_at "a0"
    exact main
  | int hle =>
    repeat wtm_at "a1"
    refine br_no rfl ?_
    iterate 2 wtm_at "a0"
    exact main
theorem body_bisl {q l : Addr} {ow₀ : OW} {ks os : List Int} {kf : Nat → Int} {x : Int} {lo hi : Nat} {hv : AV} {Q : AV → LC → OW → Prop} (A : Act K c (d + 1) (envX "bisect_left" (fScope (stAt 11)) c.L 83 (.ref 82) [])) (O : KOk K) (Ky : KeyOf K d q ow₀ ks) (hs : ∀ p ∈ ow₀, p ∈ ow)
    (hl : (l, AO.list (os.map .int)) ∈ ow) (hz : os.length ≤ 1000) (hk : ∀ (i : Nat) (o : Int), os[i]? = some o → ∃ j : Nat, o = j ∧ ks[j]? = some (kf i)) (mono : ∀ i j, i ≤ j → j < os.length → kf i ≤ kf j) (hhi : HiIs os.length hv hi)
    (h : ∀ r, BsL kf x lo hi r → Q (.int r) lc ow) : SX c (execs (fBody (stAt 11)) (envX "bisect_left" (fScope (stAt 11)) c.L 83 (.ref 82) [])) (bsLc l x lo hv q) ow (retP Q lc) := by
  have hln := O.len
  have hle : hi ≤ os.length := by cases hhi <;> wtm_at "om"
  refine sx_cons ?_
  repeat wtm_at "a1"
  refine br_neg (by wtm_at "om") ?_
  repeat wtm_at "a1"
  have main : SX c (execs ((fBody (stAt 11)).drop 2) (envX "bisect_left" (fScope (stAt 11)) c.L 83 (.ref 82) [])) (bsLc l x lo (.int hi) q) ow (retP Q lc) := by
    refine sx_cons ?_
    repeat wtm_at "a1"
    refine br_no rfl ?_
    refine sx_cons ?_
    refine sx_while (fun n lc1 ow1 => ∃ lo' hi' : Nat, n = hi' - lo' ∧ lo ≤ lo' ∧ (lo' ≤ hi' ∨ lo' = lo) ∧ hi' ≤ hi ∧ (∀ i, lo ≤ i → i < lo' → kf i < x) ∧ (∀ i, hi' ≤ i → i < hi → x ≤ kf i) ∧ LSub (bsLc l x lo' (.int hi') q) lc1 ∧ ow1 = ow) ?_ (hi - lo) ⟨lo, hi, rfl, by wtm_at "om", by wtm_at "om", by wtm_at "om", fun i _ _ => by wtm_at "om", fun i _ _ => by wtm_at "om", ls_self, rfl⟩
    intro n lc1 ow1
    revert n ow1
    refine el_3 fun lo' hi' h1 h2 h3 h4 h5 h6 => ?_
    refine AWp.forget h6 ?_
    repeat wtm_at "a1"
    refine br_dec (fun hlt => ?_) fun hlt => ?_
    · have e : ((lo' : Int) + hi').fdiv 2 = ((lo' + hi') / 2 : Nat) := by
        rw [Int.fdiv_eq_ediv_of_nonneg _ (by wtm_at "om")]; wtm_at "om"
      repeat wtm_at "a1"
      refine b_fdiv ?_ (by decide) (PyProof.noPylong_small (by decide))
      rw [e]
      generalize hm : (lo' + hi') / 2 = m
      have hm1 : lo' ≤ m := by wtm_at "om"
      have hm2 : m < hi' := by wtm_at "om"
      have hos : ∃ o, os[m]? = some o := ⟨_, List.getElem?_eq_getElem (by wtm_at "om")⟩
      refine bc fun hG => ?_
      obtain ⟨o, ho⟩ := hos
      obtain ⟨j, rfl, hj⟩ := hk m o ho
      refine hG ?_
      clear hG
      repeat wtm_at "a1"
      refine sub_list (x := .int j) hl (by wtm_at "om") (by wtm_at "om") (by simp [ho]) ?_
      repeat wtm_at "a1"
      refine ⟨Ky.kpr _ _ _ hs, (Ky.cal _ _ _ _ j _ A hs hj).mono ?_⟩
      refine el_E3 ?_
      repeat wtm_at "a1"
      refine br_dec (fun hx => ?_) fun hx => ?_
      · repeat wtm_at "a1"
        refine ⟨hi' - (m + 1), by wtm_at "om", m + 1, hi', rfl, by wtm_at "om", by wtm_at "om", by wtm_at "om", fun i hi1 hi2 => ?_, h5, ?_, rfl⟩
        · have := mono i m (by wtm_at "om") (by wtm_at "om")
          wtm_at "om"
        · show LSub (bsLc l x ((m + 1 : Nat) : Int) (.int hi') q) _
          rw [show ((m + 1 : Nat) : Int) = (m : Int) + 1 by wtm_at "om"]
          wtm_at "ls"
      · repeat wtm_at "a1"
        refine ⟨m - lo', by wtm_at "om", lo', m, rfl, by wtm_at "om", by wtm_at "om", by wtm_at "om", h4, fun i hi1 hi2 => ?_, by wtm_at "ls", rfl⟩
        have := mono m i hi1 (by wtm_at "om")
        wtm_at "om"
    · repeat wtm_at "a1"
      refine ret_ok (lc' := []) (by wtm_at "pk") (h lo' ⟨by wtm_at "om", by wtm_at "om", h4, fun i hi1 hi2 => ?_⟩)
      exact h5 i (by wtm_at "om") hi2
  cases hhi with
  | none =>
    repeat wtm_at "a1"
    refine br_yes rfl ?_
    repeat wtm_at "a1"
    refine ld_builtin A hln (v := .builtin "len") (by kernel_rfl) (a := .con (.builtin "len")) rfl ?_
    repeat wtm_at "a1"
    refine ⟨kb, cal_len_list hl (by simp; wtm_at "om") ?_⟩
    rw [List.length_map]
    iterate 3 wtm_at "a0"
    exact main
  | int hle =>
    repeat wtm_at "a1"
    refine br_no rfl ?_
    iterate 2 wtm_at "a0"
    exact main
theorem cal_bisr3 {q l : Addr} {ow₀ : OW} {ks os : List Int} {kf : Nat → Int} {x : Int} {lo : Nat} {Q : AV → LC → OW → Prop} (A : Act K c (d + 2) env) (O : KOk K) (Ky : KeyOf K d q ow₀ ks) (hs : ∀ p ∈ ow₀, p ∈ ow)
    (hl : (l, AO.list (os.map .int)) ∈ ow) (hz : os.length ≤ 1000) (hk : ∀ (i : Nat) (o : Int), os[i]? = some o → ∃ j : Nat, o = j ∧ ks[j]? = some (kf i)) (mono : ∀ i j, i ≤ j → j < os.length → kf i ≤ kf j)
    (h : ∀ r, BsR kf x lo os.length r → Q (.int r) lc ow) : Cal c (.con (.ref 74)) [.ref l, .int x, .int lo] (kwK (.ref q)) lc ow Q :=
  cal_dflt (T := 0) (bs := [.ref l, .int x, .int (lo : Nat), .none, .ref q]) A O.bisr fns_bisr rfl O.bisrB.b3 fun c' hw hc A' => body_bisr A' O Ky hs hl hz hk mono HiIs.none h
theorem cal_bisr4 {q l : Addr} {ow₀ : OW} {ks os : List Int} {kf : Nat → Int} {x : Int} {lo hi : Nat} {hv : AV} {Q : AV → LC → OW → Prop} (A : Act K c (d + 2) env) (O : KOk K) (Ky : KeyOf K d q ow₀ ks) (hs : ∀ p ∈ ow₀, p ∈ ow)
    (hl : (l, AO.list (os.map .int)) ∈ ow) (hz : os.length ≤ 1000) (hk : ∀ (i : Nat) (o : Int), os[i]? = some o → ∃ j : Nat, o = j ∧ ks[j]? = some (kf i)) (mono : ∀ i j, i ≤ j → j < os.length → kf i ≤ kf j) (hhi : HiIs os.length hv hi)
    (h : ∀ r, BsR kf x lo hi r → Q (.int r) lc ow) : Cal c (.con (.ref 74)) [.ref l, .int x, .int lo, hv] (kwK (.ref q)) lc ow Q :=
  cal_dflt (T := 0) (bs := [.ref l, .int x, .int (lo : Nat), hv, .ref q]) A O.bisr fns_bisr rfl O.bisrB.b4 fun c' hw hc A' => body_bisr A' O Ky hs hl hz hk mono hhi h
theorem cal_bisl2 {q l : Addr} {ow₀ : OW} {ks os : List Int} {kf : Nat → Int} {x : Int} {Q : AV → LC → OW → Prop} (A : Act K c (d + 2) env) (O : KOk K) (Ky : KeyOf K d q ow₀ ks) (hs : ∀ p ∈ ow₀, p ∈ ow)
    (hl : (l, AO.list (os.map .int)) ∈ ow) (hz : os.length ≤ 1000) (hk : ∀ (i : Nat) (o : Int), os[i]? = some o → ∃ j : Nat, o = j ∧ ks[j]? = some (kf i)) (mono : ∀ i j, i ≤ j → j < os.length → kf i ≤ kf j)
    (h : ∀ r, BsL kf x 0 os.length r → Q (.int r) lc ow) : Cal c (.con (.ref 83)) [.ref l, .int x] (kwK (.ref q)) lc ow Q :=
  cal_dflt (T := 0) (bs := [.ref l, .int x, .int (0 : Nat), .none, .ref q]) A O.bisl fns_bisl rfl O.bislB.b2 fun c' hw hc A' => body_bisl A' O Ky hs hl hz hk mono HiIs.none h
theorem cal_bisl3 {q l : Addr} {ow₀ : OW} {ks os : List Int} {kf : Nat → Int} {x : Int} {lo : Nat} {Q : AV → LC → OW → Prop} (A : Act K c (d + 2) env) (O : KOk K) (Ky : KeyOf K d q ow₀ ks) (hs : ∀ p ∈ ow₀, p ∈ ow)
    (hl : (l, AO.list (os.map .int)) ∈ ow) (hz : os.length ≤ 1000) (hk : ∀ (i : Nat) (o : Int), os[i]? = some o → ∃ j : Nat, o = j ∧ ks[j]? = some (kf i)) (mono : ∀ i j, i ≤ j → j < os.length → kf i ≤ kf j)
    (h : ∀ r, BsL kf x lo os.length r → Q (.int r) lc ow) : Cal c (.con (.ref 83)) [.ref l, .int x, .int lo] (kwK (.ref q)) lc ow Q :=
  cal_dflt (T := 0) (bs := [.ref l, .int x, .int (lo : Nat), .none, .ref q]) A O.bisl fns_bisl rfl O.bislB.b3 fun c' hw hc A' => body_bisl A' O Ky hs hl hz hk mono HiIs.none h
theorem cal_bisl4 {q l : Addr} {ow₀ : OW} {ks os : List Int} {kf : Nat → Int} {x : Int} {lo hi : Nat} {hv : AV} {Q : AV → LC → OW → Prop} (A : Act K c (d + 2) env) (O : KOk K) (Ky : KeyOf K d q ow₀ ks) (hs : ∀ p ∈ ow₀, p ∈ ow)
    (hl : (l, AO.list (os.map .int)) ∈ ow) (hz : os.length ≤ 1000) (hk : ∀ (i : Nat) (o : Int), os[i]? = some o → ∃ j : Nat, o = j ∧ ks[j]? = some (kf i)) (mono : ∀ i j, i ≤ j → j < os.length → kf i ≤ kf j) (hhi : HiIs os.length hv hi)
    (h : ∀ r, BsL kf x lo hi r → Q (.int r) lc ow) : Cal c (.con (.ref 83)) [.ref l, .int x, .int lo, hv] (kwK (.ref q)) lc ow Q :=
  cal_dflt (T := 0) (bs := [.ref l, .int x, .int (lo : Nat), hv, .ref q]) A O.bisl fns_bisl rfl O.bislB.b4 fun c' hw hc A' => body_bisl A' O Ky hs hl hz hk mono hhi h
theorem cal_insr {q l : Addr} {ow₀ ow' : OW} {ks os : List Int} {kf : Nat → Int} {x : Nat} {k : Int} {Q : AV → LC → OW → Prop} (A : Act K c (d + 3) env) (O : KOk K) (Ky : KeyOf K d q ow₀ ks) (hs : ∀ p ∈ ow₀, p ∈ ow)
    (hl : (l, AO.list (os.map .int)) ∈ ow) (hz : os.length ≤ 1000) (hk : ∀ (i : Nat) (o : Int), os[i]? = some o → ∃ j : Nat, o = j ∧ ks[j]? = some (kf i)) (mono : ∀ i j, i ≤ j → j < os.length → kf i ≤ kf j) (hx : ks[x]? = some k)
    (h : ∀ r, BsR kf k 0 os.length r → ∃ ow', Upd ow l (.list (os.map .int)) (.list ((os.take r ++ (x : Int) :: os.drop r).map .int)) ow' ∧ Q .none lc ow') : Cal c (.con (.ref 65)) [.ref l, .int x] (kwK (.ref q)) lc ow Q := by
  refine cal_dflt (T := 0) (bs := [.ref l, .int x, .int (0 : Nat), .none, .ref q]) A O.insr fns_insr rfl O.insrB.b2 fun c hw hc A => ?_
  show SX c (execs (fBody (stAt 9)) (envX "insort_right" (fScope (stAt 9)) c.L 65 (.ref 64) [])) (bsLc l x (0 : Nat) .none q) ow (retP Q lc)
  have hg := O.g74
  refine sx_cons ?_
  repeat wtm_at "a1"
  refine br_no rfl ?_
  repeat wtm_at "a1"
  refine ev_call_kw ?_
  refine ld_global A hg (a := .con (.ref 74)) rfl ?_
  repeat wtm_at "a1"
  refine ⟨Ky.kpr _ _ _ hs, (Ky.cal _ _ _ _ x _ A.less1 hs hx).mono ?_⟩
  rintro b lc2 ow2 ⟨rfl, rfl, rfl⟩
  repeat wtm_at "a1"
  refine ⟨kpr_fn A O.bisr, cal_bisr4 A O Ky hs hl hz hk mono (hi := os.length) HiIs.none fun r hr => ?_⟩
  refine bc fun hG => ?_
  obtain ⟨ow', U, q⟩ := h r hr
  refine hG ?_
  clear hG
  have U' : Upd ow2 l (.list (os.map .int)) (.list ((os.map AV.int).take ((r : Int)).toNat ++ .int x :: (os.map AV.int).drop ((r : Int)).toNat)) ow' := by
    simpa [List.map_take, List.map_drop] using U
  repeat wtm_at "a1"
  refine sx_expr ?_
  repeat wtm_at "a1"
  refine mth_list hl F.slot_list_insert F.type_list_insert ?_
  repeat wtm_at "a1"
  refine ⟨kb, cal_insert (by wtm_at "om") (by have := hr.2.1; wtm_at "om") U' (by simp; wtm_at "om") ⟨rfl, ?_⟩⟩
  repeat wtm_at "a1"
  exact ret_none (lc' := []) (by wtm_at "pk") q
end
end

section
/-- an exception's record: its trace, no context -/
structure Trc (B : Heap) (e : Addr) (X : String) (fl : Value) (oe : Obj) (vs : Array Value) (T : Addr) (oT : Obj) (ts : Array Value) (h : Heap) : Prop where
  he : h.get? e = some oe
  hc : oe.cls = .type X
  hd : oe.data = .fields vs
  h1 : vs[1]? = some (.ref T)
  h2 : vs[2]? = some .none
  nT : B.get? T = none
  hTe : T ≠ e
  hT : h.get? T = some oT
  hdT : oT.data = .fields ts
  h3 : ts[3]? = some fl
noncomputable def Fly (B : Heap) (l : List Env) (e : Addr) (X : String) (fl : Value) (h : Heap) : Prop :=
  B.StaysIn h ∧ B.get? e = none ∧ h.FunFrames B l ∧ ∃ oe vs T oT ts, Trc B e X fl oe vs T oT ts h
section
variable {M : Model} {A : Around} {E : Value → Shared → Prop} {s : Shared} {B : Heap} {l : List Env} {e : Addr} {X : String} {fl : Value}
theorem notrec {h : Heap} {a b : Addr} {oa o : Obj} {vs : Array Value} (ha : h.get? a = some oa) (hd : oa.data = .fields vs) (hb : h.get? b = some o) (hn : ∀ vs, o.data ≠ .fields vs) : b ≠ a := fun q => by
  subst q; rw [ha] at hb; cases hb; exact hn _ hd
/-- its flight ends -/
theorem fly_set (x : Fly B l e X fl s.heap) {Q : Unit → Shared → Prop} (k : ∀ h', Fly B l e X .none h' → s.heap.UpToSlots h' → Q () { s with heap := h' }) : wpAny M A (setFlight (.ref e) none) Q E s := by
  refine bc fun hG => ?_
  obtain ⟨f1, f2, f3, oe, vs, T, oT, ts, t⟩ := x
  refine hG ?_
  clear hG
  have hz : 3 < ts.size := (Array.getElem?_eq_some_iff.mp t.h3).1
  unfold setFlight
  refine wpAny_bind (wpAny_field t.he t.hd t.h1 ?_)
  rw [if_pos (show (Value.ref T != Value.none) = true from by simp)]
  have oth : ∀ b, b ≠ T → (s.heap.update T (Obj.mapFields (·.setIfInBounds 3 ((none : Option Addr).elim Value.none fun f => rawInt f)))).get? b = s.heap.get? b := fun b hb => Heap.get?_update_other _ _ (Ne.symm hb)
  have hdT := Obj.data_mapFields t.hdT (·.setIfInBounds 3 ((none : Option Addr).elim Value.none fun f => rawInt f))
  have hrec : ∃ oe vs T' oT ts, Trc B e X .none oe vs T' oT ts (s.heap.update T (Obj.mapFields (·.setIfInBounds 3 ((none : Option Addr).elim Value.none fun f => rawInt f)))) :=
    ⟨oe, vs, T, _, _, ⟨(oth e (Ne.symm t.hTe)).trans t.he, t.hc, t.hd, t.h1, t.h2, t.nT, t.hTe, Heap.get?_update_self _ t.hT (Obj.isFreed_of_fields hdT), hdT, by simp [hz]⟩⟩
  refine wpAny_setField t.hT t.hdT hz (k _ ⟨fun b o hb => (oth b fun q => ?_).trans (f1 b o hb), f2, f3.of_keeps fun b o hb hn => ⟨o, (oth b (notrec t.hT t.hdT hb hn)).trans hb, rfl⟩, hrec⟩
    fun b o hb hn => ⟨o.slots, (oth b (notrec t.hT t.hdT hb hn)).trans hb⟩)
  · rw [q, t.nT] at hb; cases hb
/-- a place is noted -/
theorem fly_entry {env : Env} {outer : List Env} {L : Addr} {oe : Obj} {vs : Array Value} {head : Value} {nx : Bool} {Q : Unit → Shared → Prop} (hfr : A.frames = some (env :: outer)) (hl : s.heap.FunFrames B (env :: outer)) (hf : env.frame = some L)
    (he : s.heap.get? e = some oe) (hB : B.StaysIn s.heap) (hen : B.get? e = none) (hc : oe.cls = .type X) (hd : oe.data = .fields vs) (hz : 1 < vs.size) (h2 : vs[2]? = some .none)
    (k : ∀ h', Fly B (env :: outer) e X (rawInt L) h' → s.heap.UpToSlots h' → Q () { s with heap := h' }) :
    wpAny M A (do let a ← frameOf env; let pl ← entryPlaceOf L nx; let b ← EntryCells.newEntry head a .none (rawInt L) .none pl; setField (.ref e) 1 b) Q E s := by
  have hne : e ∉ (env :: outer).filterMap (·.frame) := fun hm => by
    refine bc fun hG => ?_
    obtain ⟨_, o, ho, hn⟩ := hl.mem hm
    refine hG ?_
    clear hG
    rw [he] at ho; cases ho; exact hn vs hd
  refine wpAny_bind (wpAny_frameOf_fun hfr hl hf fun g hg => wpAny_bind (wpAny_entryPlaceOf fun pl hpl => ?_))
  unfold EntryCells.newEntry newFields
  refine wpAny_bind (wpAny_newObj_type ?_ (hpl.sizeOk5 _ _ _ _ _))
  have ge : g.get? e = some oe := (hg.2.1 e hne).trans he
  have gB : B.StaysIn g := fun b o hb => (hg.2.1 b fun hm => by rw [(hl.mem hm).1] at hb; cases hb).trans (hB b o hb)
  have hTe : g.objs.size ≠ e := Nat.ne_of_gt (Heap.lt_size ge)
  obtain ⟨ob, hob, ho5⟩ : ∃ ob : Obj, ({ cls := .type "traceback", dict := none, data := .fields ([head, .ref L, .none, rawInt L, .none] ++ (if pl.isEmpty then List.replicate 6 Value.none else pl)).toArray } : Obj) = ob ∧ (∃ ts, ob.data = .fields ts ∧ ts[3]? = some (rawInt L)) ∧ ob.isFreed = false := by
    refine ⟨_, rfl, ⟨_, rfl, ?_⟩, rfl⟩
    first
      | (simp; done)
      | (rcases hpl with rfl | ⟨_, _, _, _, _, _, _, rfl⟩ <;> simp)
  rw [hob]
  refine bc fun hG => ?_
  obtain ⟨⟨ts, hts, h3⟩, hfree⟩ := ho5
  refine hG ?_
  clear hG
  have g2 := Heap.get?_push_of_some (h := g) ob ge
  have hd3 := Obj.data_mapFields hd (·.setIfInBounds 1 (Value.ref g.objs.size))
  have keep : ∀ b o, b ≠ e → g.get? b = some o → ((g.push ob).update e (Obj.mapFields (·.setIfInBounds 1 (Value.ref g.objs.size)))).get? b = some o := fun b o hbe hb =>
    (Heap.get?_update_other _ _ (Ne.symm hbe)).trans (Heap.get?_push_of_some _ hb)
  have hrec : ∃ oe vs T oT ts, Trc B e X (rawInt L) oe vs T oT ts ((g.push ob).update e (Obj.mapFields (·.setIfInBounds 1 (Value.ref g.objs.size)))) :=
    ⟨_, _, g.objs.size, ob, ts, ⟨Heap.get?_update_self _ g2 (Obj.isFreed_of_fields hd3), (Obj.cls_mapFields _ _).trans hc, hd3, by simp [hz], by rw [Array.getElem?_setIfInBounds_ne (by decide)]; exact h2, gB.fresh, hTe, (Heap.get?_update_other _ _ (Ne.symm hTe)).trans (Heap.get?_push_size g hfree), hts, h3⟩⟩
  refine wpAny_setField g2 hd hz (k _ ⟨fun b o hb => keep b o (fun q => ?_) (gB b o hb), hen, hl.of_keeps fun b o hb hn => ?_, hrec⟩ fun b o hb hn => ?_)
  · rw [q, hen] at hb; cases hb
  · obtain ⟨sl, hs⟩ := hg.2.2 b o hb
    exact ⟨_, keep b _ (notrec he hd hb hn) hs, rfl⟩
  · obtain ⟨sl, hs⟩ := hg.2.2 b o hb
    exact ⟨sl, keep b _ (notrec he hd hb hn) hs⟩
/-- the next function notes it -/
theorem fly_note {env : Env} {outer : List Env} {L : Addr} {Q : Unit → Shared → Prop} (hfr : A.frames = some (env :: outer)) (hf : env.frame = some L) (x : Fly B (env :: outer) e X .none s.heap)
    (k : ∀ h', Fly B (env :: outer) e X (rawInt L) h' → s.heap.UpToSlots h' → Q () { s with heap := h' }) : wpAny M A (noteFrame (.ref e) env) Q E s := by
  refine bc fun hG => ?_
  obtain ⟨f1, f2, f3, oe, vs, T, oT, ts, t⟩ := x
  refine hG ?_
  clear hG
  unfold noteFrame
  simp only [hf]
  refine wpAny_bind (wpAny_field t.he t.hd t.h1 ?_)
  rw [if_pos (show (Value.ref T != Value.none) = true from by simp)]
  refine wpAny_bind (wpAny_field t.hT t.hdT t.h3 ?_)
  rw [if_neg (show ¬ ((Value.none == rawInt L) = true) from by simp [rawInt])]
  refine wpAny_bind (wpAny_setField t.hT t.hdT (Array.getElem?_eq_some_iff.mp t.h3).1 ?_)
  have oth : ∀ b, b ≠ T → (s.heap.update T (Obj.mapFields (·.setIfInBounds 3 Value.none))).get? b = s.heap.get? b := fun b hb => Heap.get?_update_other _ _ (Ne.symm hb)
  refine fly_entry hfr (f3.of_keeps fun b o hb hn => ⟨o, (oth b (notrec t.hT t.hdT hb hn)).trans hb, rfl⟩) hf ((oth e (Ne.symm t.hTe)).trans t.he) (fun b o hb => (oth b fun q => by rw [q, t.nT] at hb; cases hb).trans (f1 b o hb)) f2 t.hc t.hd
    (Array.getElem?_eq_some_iff.mp t.h1).1 t.h2 fun h' y u => k h' y fun b o hb hn => u b o ((oth b (notrec t.hT t.hdT hb hn)).trans hb) hn
/-- the first function leaves -/
theorem fly_first {env : Env} {outer : List Env} {L : Addr} {oe : Obj} {t : Value} {Q : Unit → Shared → Prop} (hfr : A.frames = some (env :: outer)) (hl : s.heap.FunFrames B (env :: outer)) (hf : env.frame = some L)
    (he : s.heap.get? e = some oe) (hB : B.StaysIn s.heap) (hen : B.get? e = none) (hc : oe.cls = .type X) (hd : oe.data = .fields #[t, .none, .none, .none, .bool false, .none])
    (k : ∀ h', Fly B outer e X .none h' → s.heap.UpToSlots h' → Q () { s with heap := h' }) : wpAny M A (leaving env (.ref e)) Q E s := by
  unfold leaving noteFrame
  simp only [hf]
  refine wpAny_bind (wpAny_bind (wpAny_field he hd (x := .none) rfl ?_))
  rw [if_neg (by decide)]
  refine fly_entry hfr hl hf he hB hen hc hd (by show 1 < 6; decide) rfl fun h' y u => ?_
  refine fly_set (s := { s with heap := h' }) y fun h2 y2 u2 => k h2 ⟨y2.1, y2.2.1, ?_, y2.2.2.2⟩ (u.trans u2)
  obtain ⟨_, _, hr⟩ := y2.2.2.1
  exact hr
end

/-- an exception on its way, over a ground -/
noncomputable def Flies (base G : Heap) (l : List Env) (e : Addr) (X : String) (news : List (Addr × Obj)) (h : Heap) : Prop :=
  ∃ B, base.StaysIn B ∧ (∀ b o, G.get? b = some o → b ∉ l.filterMap (·.frame) → B.get? b = some o) ∧ (∀ q ∈ news, B.get? q.1 = some q.2 ∧ G.get? q.1 = none ∧ base.get? q.1 = none) ∧ Fly B l e X .none h

theorem fm_mem {env : Env} {outer : List Env} {L b : Addr} (hf : env.frame = some L) (hm : b ∈ (env :: outer).filterMap (·.frame)) : b = L ∨ b ∈ outer.filterMap (·.frame) := by
  refine bc fun hG => ?_
  obtain ⟨env', he, hf'⟩ := List.mem_filterMap.mp hm
  refine hG ?_
  clear hG
  rcases List.mem_cons.mp he with rfl | he
  · rw [hf] at hf'; exact .inl (Option.some.inj hf').symm
  · exact .inr (List.mem_filterMap.mpr ⟨env', he, hf'⟩)

section
variable {M : Model} {A A₁ : Around} {E : Value → Shared → Prop} {s' : Shared} {base g h : Heap} {outer : List Env} {L e : Addr} {m : Str → Option Value} {env : Env} {Q : Unit → Shared → Prop} {news : List (Addr × Obj)}
theorem leave_flies {X : String} (K : Below A base outer g) (hfr : A₁.frames = some (env :: outer)) (hf : env.frame = some L) (hke : env.scope.kind = .function) (hx : Heap.NewExc h s'.heap e X) (F : Fr g L h m) (N : News g L h news)
    (hQ : ∀ h', Flies base g outer e X news h' → g.UpToSlots h' → Q () { s' with heap := h' }) :
    wpAny M A₁ (leaving env (.ref e)) Q E s' := by
  have K' := pushX K F hf hke
  have hin : ∀ env' ∈ (env :: outer), ∀ b, env'.frame = some b → b ∈ (env :: outer).filterMap (·.frame) := fun env' he b hb => List.mem_filterMap.mpr ⟨env', he, hb⟩
  have st : base.StaysIn (hideAll h ((env :: outer).filterMap (·.frame))) := fun b o q => hideAll_get _ (K'.stays b o q) fun hm => by
    rw [(K'.frames.mem hm).1] at q; cases q
  have sg : ∀ b o, g.get? b = some o → b ∉ outer.filterMap (·.frame) → (hideAll h ((env :: outer).filterMap (·.frame))).get? b = some o := fun b o q nm => hideAll_get _ (F.keep b o q) fun hm => by
    rcases fm_mem hf hm with z | z
    · rw [z, kts_self F] at q
      cases q
    · exact nm z
  have hl : ∀ q ∈ news, (hideAll h ((env :: outer).filterMap (·.frame))).get? q.1 = some q.2 ∧ g.get? q.1 = none ∧ base.get? q.1 = none := fun q hq => by
    refine ⟨hideAll_get _ (N q hq).1 fun hm => ?_, (N q hq).2.2, fresh_of_stays K.stays (N q hq).2.2⟩
    rcases fm_mem hf hm with z | z
    · exact (N q hq).2.1 z
    · refine bc fun hG => ?_
      obtain ⟨o, ho, _⟩ := (K.frames.mem z).2
      refine hG ?_
      clear hG
      rw [(N q hq).2.2] at ho; cases ho
  refine bc fun hG => ?_
  obtain ⟨ob, tp, he, hcls, hd⟩ := hx.there
  refine hG ?_
  clear hG
  have hen : (hideAll h ((env :: outer).filterMap (·.frame))).get? e = none := by
    cases q : (hideAll h ((env :: outer).filterMap (·.frame))).get? e with
    | none => rfl
    | some o => have := of_hideAll _ q; rw [hx.new] at this; cases this
  exact fly_first hfr ((funFrames_hide K'.frames hin).of_keeps fun b o hb _ => ⟨o, hx.keeps b o hb, rfl⟩) hf he (fun b o hb => hx.keeps b o (of_hideAll _ hb)) hen hcls hd fun h' y u =>
    hQ h' ⟨_, st, sg, hl, y⟩ (((Heap.UpToSlots.of_keeps F.keep).trans (Heap.UpToSlots.of_keeps hx.keeps)).trans u)
end

section
variable {A₀ : Around} {base g G B h₅ : Heap} {outer : List Env} {L : Addr} {m : Str → Option Value} {env : Env}
theorem fl_ground (K : Below A₀ base outer g) (F : Fr g L G m) (hf : env.frame = some L) (hBG : ∀ b o, G.get? b = some o → b ∉ (env :: outer).filterMap (·.frame) → B.get? b = some o) (hBh : B.StaysIn h₅) (hsm : G.UpToSlots h₅) :
    ∃ g', KtsTurn (outer.filterMap (·.frame)) g g' ∧ Fr g' L h₅ m ∧ Below A₀ base outer g' := by
  obtain ⟨T, S⟩ := kts_turn_at (h := h₅) (fs := outer.filterMap (·.frame)) (g := g)
    (fun b hb => by
      obtain ⟨_, o, ho, _⟩ := K.frames.mem hb
      exact ⟨o, ho⟩)
    (fun b o e nm => hBh b o (hBG b o (F.keep b o e) (fun hm => by
      rcases fm_mem hf hm with z | z
      · rw [z, kts_self F] at e
        cases e
      · exact nm z)))
    (fun b o e hm => by
      refine bc fun hG => ?_
      obtain ⟨_, o', ho', hd⟩ := K.frames.mem hm
      refine hG ?_
      clear hG
      rw [e] at ho'
      cases ho'
      exact hsm b o (F.keep b o e) hd)
  refine ⟨_, T, ⟨hsm.ns F.ns, S, by rw [T.size]; exact F.above⟩, ⟨K.stack, fun b o e => T.other b o (K.stays b o e) (fun hm => by
    rw [(K.frames.mem hm).1] at e
    cases e), K.frames.of_keeps fun b o e _ => ?_⟩⟩
  obtain ⟨sl, hs⟩ := T.up e
  exact ⟨_, hs, rfl⟩
end

/-- what stands in the function that catches -/
noncomputable def Flung (c : Cx) (env : Env) (X : String) (lc : LC) (ow : OW) (e : Addr) (h : Heap) : Prop :=
  ∃ A₀ base outer G m news, Below A₀ base outer c.g ∧ c.A.frames = some (env :: outer) ∧ Fr c.g c.L G m ∧ LRel lc m ∧ Flies base G (env :: outer) e X news h ∧ G.UpToSlots h ∧ (∀ p ∈ ow, ∃ o, p.2.rep o ∧ (p.1, o) ∈ news) ∧ (ow.map (·.1)).Nodup
/-- t raises a fresh X -/
structure RM {α : Type} (c : Cx) (t : Sem α) (lc : LC) (ow : OW) (X : String) : Prop where
  run : ∀ (s : Shared) (P : α → Shared → Prop) (E : Value → Shared → Prop), Rep c.g c.L lc ow s.heap →
    (∀ lc' h₁ h' tk' e, Rep c.g c.L lc' ow h₁ → Heap.NewExc h₁ h' e X → E (.ref e) { s with heap := h', toks := tk' }) → wpAny (model pw c.w) c.A t P E s
/-- t lets an X through, from a call -/
structure RX {α : Type} (c : Cx) (env : Env) (t : Sem α) (lc : LC) (ow : OW) (X : String) (Q : LC → OW → Prop) : Prop where
  run : ∀ (s : Shared) (P : α → Shared → Prop) (E : Value → Shared → Prop), Rep c.g c.L lc ow s.heap →
    (∀ lc' ow' e h' tk', Q lc' ow' → Flung c env X lc' ow' e h' → E (.ref e) { s with heap := h', toks := tk' }) → wpAny (model pw c.w) c.A t P E s
structure CalR (c : Cx) (env : Env) (f : AV) (as : List AV) (lc : LC) (ow : OW) (X : String) (Q : LC → OW → Prop) : Prop where
  run : ∀ fv vs, f.rep fv → All2 as vs → RX c env (call fv vs []) lc ow X Q
section
variable {K : Frag} {c : Cx} {lc lc' : LC} {ow ow' : OW} {env : Env} {n : Nat} {X : String}
theorem rm_cons {st rest} (h : RM c (exec st env) lc ow X) : RM c (execs (st :: rest) env) lc ow X :=
  ⟨fun s P E R k => wpAny_execs_cons (h.run s _ E R k)⟩
theorem rm_if {test body orelse pos} (h : BX c (isTrue test env (eval test env)) lc ow fun b lc1 ow1 => b = true ∧ ow1 = ow ∧ RM c (execs body env) lc1 ow1 X) : RM c (exec (.If test body orelse pos) env) lc ow X :=
  ⟨fun s P E R k => wpAny_If (AWp.run h s _ E R fun b x lc1 ow1 h1 tk1 q r R1 => by
    refine bc fun hG => ?_
    obtain ⟨rfl, rfl, q⟩ := q
    refine hG ?_
    clear hG
    cases (show x = true from r)
    exact q.run _ _ _ R1 fun lc' h₁ h' tk' e R2 hx => k lc' h₁ h' tk' e R2 hx)⟩
theorem rx_cons {st rest} {Q} (h : RX c env (exec st env) lc ow X Q) : RX c env (execs (st :: rest) env) lc ow X Q :=
  ⟨fun s P E R k => wpAny_execs_cons (h.run s _ E R k)⟩
theorem rx_expr {e pos} {Q} (h : RX c env (eval e env) lc ow X Q) (hi : autoParam (interactive env = false) kr0) (hs : autoParam (swapsWith e none pos.line env = pure false) kr0) : RX c env (exec (.Expr e pos) env) lc ow X Q :=
  ⟨fun s P E R k => wpAny_Expr (h.run s _ E R k) hi hs⟩
theorem rx_call {func : PySem.Expr} {es : List PySem.Expr} {pos} {Q} (h : EV c (eval func env) lc ow fun f lc1 ow1 => Args c env pos es lc1 ow1 fun as lc2 ow2 => (∀ fv, f.rep fv → Kpr c fv lc2 ow2) ∧ CalR c env f as lc2 ow2 X Q)
    (hs : autoParam ((starEach es env).any (·.1) = false) kr0)
    (he : autoParam (eval (.Call func es [] pos) env = (do callWith pos (← eval func env) [] (backTo pos (starEach es env)) [])) kr0) : RX c env (eval (.Call func es [] pos) env) lc ow X Q := by
  refine ⟨fun s P E R kx => ?_⟩
  rw [he]
  refine wpAny_bind (AWp.run h s _ E R fun f fv lc1 ow1 h1 tk1 q rf R1 => ?_)
  unfold callWith
  refine wpAny_bind (wpAny_holding ((evalArgs_aw hs (Q := fun p lc2 ow2 => p.2 = [] ∧ (∀ fv, f.rep fv → Kpr c fv lc2 ow2) ∧ CalR c env f p.1 lc2 ow2 X Q) ⟨q.run.mono fun as lc2 ow2 q2 => ⟨rfl, q2⟩⟩).run _ _ _ R1 fun p x lc2 ow2 h2 tk2 q2 r R2 => wpAny_bind (wpAny_standAt ?_)))
  refine bc fun hG => ?_
  obtain ⟨p1, p2⟩ := p
  obtain ⟨e2, kq, q2⟩ := q2
  obtain ⟨xp, xk⟩ := x
  obtain ⟨r1, r2, r3⟩ := r
  refine hG ?_
  clear hG
  dsimp only at e2 r1 r2 r3 kq q2 ⊢
  subst e2
  cases xk with
  | cons => cases r2
  | nil =>
    rw [any_backTo hs]
    refine wpAny_bind ((kq fv rf).run _ _ _ R2 fun k => ?_)
    have q' : ∀ P : Value → Shared → Prop, wpAny (model pw c.w) c.A (call fv (([] : List Value) ++ xp) []) P E { s with heap := h2, toks := tk2 } := fun P => (q2.run fv xp rf r1).run { s with heap := h2, toks := tk2 } P E R2 fun lc' ow' e h' tk' qq fl => kx lc' ow' e h' tk' qq fl
    have ops : ∀ l (P : Value → Shared → Prop), wpAny (model pw c.w) c.A (operate l (call fv (([] : List Value) ++ xp) [])) P E { s with heap := h2, toks := tk2 } := fun l P Γ p hΓ => by
      rw [Sem.wp_operate]; exact q' _ Γ p hΓ
    have mk : ∀ mk (P : Value → Shared → Prop), wpAny (model pw c.w) c.A (callMarked mk fv (([] : List Value) ++ xp) []) P E { s with heap := h2, toks := tk2 } := fun mk P => by
      unfold callMarked; exact wpAny_keep (q' _)
    generalize ([] : List Value) ++ xp = zs at q' ops mk ⊢
    cases k <;> simp only [Bool.false_or, List.any_nil] <;> first | exact wpAny_bind (q' _) | exact wpAny_bind (ops _ _) | (split <;> first | exact wpAny_bind (q' _) | exact wpAny_bind (mk _ _))
end
end

section
section
variable {K : Frag} {c : Cx} {lc lc' : LC} {ow ow' : OW} {env : Env} {n : Nat} {X : String}
/-- a def of the text's, called, that raises -/
theorem calR_fn {f cd : Addr} {qual : Str} {st : Stmt} {dV kV : Value} {as bs : List AV} {names : List Str} (A : Act K c (n + 1) env) (F : FnK K f cd qual st dV kV) (S : FnS names st) (hn : names.length = bs.length)
    (hbind : ∀ vs, All2 as vs → ∃ us, All2 bs us ∧ ∀ (s : Shared) doc pm an ct, K.In s.heap → BindsTo s (fnX (fName st) qual (fArgs st) (fBody st) (fScope st) [] dV kV doc pm an (.ref cd) ct) ⟨vs, []⟩ (names.zip us))
    (h : ∀ c' : Cx, c'.w = c.w → c'.A.handled = c.A.handled → Act K c' n (envX qual (fScope st) c'.L f (.ref cd) []) →
      RM c' (execs (fBody st) (envX qual (fScope st) c'.L f (.ref cd) [])) (names.zip bs) ow X) : CalR c env (.con (.ref f)) as lc ow X (fun lc' ow' => lc' = lc ∧ ow' = ow) := by
  refine ⟨?_⟩
  rintro _ vs rfl ra
  refine ⟨fun s P E R kx => ?_⟩
  refine bc fun hG => ?_
  obtain ⟨us, rb, hb⟩ := hbind vs ra
  obtain ⟨oc, od, osl, doc, pm, an, ct, hK, hcd⟩ := F
  obtain ⟨A₀, base, outer, B, hfr⟩ := A.below
  obtain ⟨p, loose, mean, mg, mb, T⟩ := A.T
  obtain ⟨m, Fm, hl⟩ := R.fr
  obtain ⟨news, N, hnews⟩ := R.news
  refine hG ?_
  clear hG
  have Xk := A.X.keeps Fm.keep
  have hlen : names.length = us.length := hn.trans rb.length
  have hdep := A.depth
  have hun := A.units
  refine wpAny_call (callX_plain (cl := []) B Fm N T.nolimit hfr A.frame A.kind (Xk _ _ hK) rfl (codeRec_of Xk hcd) (by unfold recursionLimit; wtm_at "om") (hb s doc pm an ct Xk)
    (fun y hy => S.loc y.1 (by rw [← zip_fst hlen]; exact List.mem_map_of_mem hy)) (fun g L' h₁ FG F' N' B' st' lt => ?_) S.cell S.co S.gen S.kind)
  have A' : Act K ⟨c.w, g, L', c.A.deeper (envX qual (fScope st) L' f (.ref cd) [])⟩ n (envX qual (fScope st) L' f (.ref cd) []) :=
    ⟨⟨c.A, base, env :: outer, B', Around.frames_deeper hfr⟩, rfl, S.kind, A.X.keeps st', ⟨p, loose, mean, mg, mb, T.keeps st'⟩, by show c.A.depth + 1 + n ≤ 900; wtm_at "om", by show c.A.units + 3 + 20 * n ≤ 9000; wtm_at "om"⟩
  have R' : Rep g L' (names.zip bs) ow h₁ := by
    refine Rep.ofNews F' (fun x a e => ?_) N' R.nd hnews
    obtain ⟨v, e', r⟩ := zip_lookup S.nd rb x a e
    exact ⟨v, by rw [← lookup_perm (List.reverse_perm _).symm (by rw [zip_fst hlen]; exact S.nd)]; exact e', r⟩
  refine (h ⟨c.w, g, L', c.A.deeper (envX qual (fScope st) L' f (.ref cd) [])⟩ rfl rfl A').run _ _ _ R' fun lc1 h1 h2 tk2 e R1 hx => ?_
  refine bc fun hG => ?_
  obtain ⟨m1, F1, _⟩ := R1.fr
  obtain ⟨news1, N1, hnews1⟩ := R1.news
  refine hG ?_
  clear hG
  refine leave_flies (s' := { s with heap := h2, toks := tk2 }) B' (Around.frames_deeper hfr) rfl S.kind hx F1 N1 fun h3 fl up => ?_
  exact kx _ _ e h3 tk2 ⟨rfl, rfl⟩ ⟨A₀, base, outer, g, m, news1, B, hfr, FG, hl, fl, up, hnews1, R.nd⟩

/-- the activation of the law itself, and of one that it calls -/
structure Act0 (K : Frag) (c : Cx) (n : Nat) (env : Env) : Prop extends Act K c n env where
  b0 : ∃ A₀ base, Below A₀ base [] c.g ∧ c.A.frames = some [env] ∧ K.In base ∧ ∃ p loose mean mg mb, Top p loose mean mg mb base
structure Act1 (K : Frag) (c : Cx) (n : Nat) (env env₀ : Env) : Prop extends Act K c n env where
  b1 : ∃ A₀ base, Below A₀ base [env₀] c.g ∧ c.A.frames = some [env, env₀] ∧ K.In base ∧ ∃ p loose mean mg mb, Top p loose mean mg mb base
noncomputable abbrev fs0 (env₀ : Env) : List Addr := [env₀].filterMap (·.frame)
/-- statements at whose end the ground may have turned -/
structure TX (c : Cx) (fs : List Addr) (t : Sem Flow) (lc : LC) (ow : OW) (Q : AF → LC → OW → Prop) : Prop where
  run : ∀ (s : Shared) (P : Flow → Shared → Prop) (E : Value → Shared → Prop), Rep c.g c.L lc ow s.heap →
    (∀ g' b x lc' ow' h' tk', KtsTurn fs c.g g' → Q b lc' ow' → AF.rep b x → Rep g' c.L lc' ow' h' → P x { s with heap := h', toks := tk' }) → wpAny (model pw c.w) c.A t P E s
noncomputable def nxtT (c : Cx) (fs : List Addr) (rest : List Stmt) (env : Env) (Q : AF → LC → OW → Prop) : AF → LC → OW → Prop
  | .next, lc, ow => TX c fs (execs rest env) lc ow Q
  | f, lc, ow => Q f lc ow
theorem tx_cons {fs} {st rest} {Q : AF → LC → OW → Prop} (h : SX c (exec st env) lc ow (nxtT c fs rest env Q)) : TX c fs (execs (st :: rest) env) lc ow Q :=
  ⟨fun s P E R kp => wpAny_execs_cons (AWp.run h s _ E R fun f x lc1 ow1 h1 tk1 q r R1 => by
    cases f with
    | next => cases (show x = _ from r); exact TX.run q _ P E R1 kp
    | brk => cases (show x = _ from r); exact kp _ _ _ _ _ _ _ .refl q rfl R1
    | cont => cases (show x = _ from r); exact kp _ _ _ _ _ _ _ .refl q rfl R1
    | ret a => obtain ⟨v, rfl, ra⟩ := r; exact kp _ _ _ _ _ _ _ .refl q ⟨v, rfl, ra⟩ R1)⟩
/-- a statement that returns whatever comes -/
noncomputable def retT (Q : AF → LC → OW → Prop) : AF → LC → OW → Prop
  | .ret a, lc, ow => Q (.ret a) lc ow
  | _, _, _ => False
theorem tx_last {fs} {st rest} {Q : AF → LC → OW → Prop} (h : TX c fs (exec st env) lc ow (retT Q)) : TX c fs (execs (st :: rest) env) lc ow Q :=
  ⟨fun s P E R kp => wpAny_execs_cons (h.run s _ E R fun g' f x lc1 ow1 h1 tk1 T q r R1 => by
    cases f with
    | next => exact q.elim
    | brk => exact q.elim
    | cont => exact q.elim
    | ret a => obtain ⟨v, rfl, ra⟩ := r; exact kp _ _ _ _ _ _ _ T q ⟨v, rfl, ra⟩ R1)⟩
theorem nxT {fs rest} {Q : AF → LC → OW → Prop} (h : TX c fs (execs rest env) lc ow Q) : nxtT c fs rest env Q .next lc ow := h
/-- an exception held -/
noncomputable def IsExc (X : String) (o : Obj) : Prop := o.cls = .type X ∧ ∃ vs, o.data = .fields vs ∧ vs[2]? = some .none
structure Catches (X : String) : Prop where
  exc : isSubtype (.type X) (.type "BaseException") = pure true
  tup : isSubtype (.type ((Manifest.find? X).elim "type" fun y => y.metatype)) (.type "tuple") = pure false
  sub : isSubtype (.type X) (.type X) = pure true
theorem tx_try {env₀ : Env} {x : Str} {body suite : List Stmt} {b₀ : Stmt} {np hp pos : Pos} {rest : List ExceptHandler} {Q : AF → LC → OW → Prop} (A : Act1 K c n env env₀) (C : Catches X) (hv : nsIn K mainGlobals x = some none) (hb : bootBuiltins x = some (.type X))
    (h : RX c env (execs body env) lc ow X fun lc1 ow1 => ∀ g' e, Act K ⟨c.w, g', c.L, c.A.mark (some (.ref e))⟩ n env → SX ⟨c.w, g', c.L, c.A.mark (some (.ref e))⟩ (execs (b₀ :: suite) env) lc1 ((e, .any (IsExc X)) :: ow1) (retT Q))
    (hn : x ≠ "__name__" := by decide +kernel)
    (hx : autoParam (env.kindOf x = some .globalImplicit) kr0) (hg : autoParam (env.globals = mainGlobals) kr0) (hbs : autoParam (env.builtins = builtinsNs) kr0) (hd : autoParam ((x == ("__debug__" : Str)) = false) kr0) :
    TX c (fs0 env₀) (exec (.Try body (.ExceptHandler (some (.Name x np)) none (b₀ :: suite) hp :: rest) [] [] pos) env) lc ow (retT Q) := by
  refine ⟨fun s P E R kp => wpAny_Try_except (h.run s _ _ R fun lc1 ow1 e h1 tk1 q fl => ?_)⟩
  refine bc fun hG => ?_
  obtain ⟨A₀, base, outer, G, m, news, Bl, hfr, F, hl, ⟨B, hB, hBG, hnw, fy⟩, hsm, hown, hnd⟩ := fl
  obtain ⟨A₁, base₁, Bl₁, hfr₁, Xb, p, loose, mean, mg, mb, Tb⟩ := A.b1
  refine hG ?_
  clear hG
  have eo : outer = [env₀] := by rw [hfr] at hfr₁; simpa using hfr₁
  subst eo
  have hf := A.frame
  have hL : B.get? c.L = none := by
    refine bc fun hG => ?_
    obtain ⟨_, ⟨L', _, hf', hn', _⟩, _⟩ := fy.2.2.1
    refine hG ?_
    clear hG
    rw [hf] at hf'
    cases hf'
    exact hn'
  refine fly_note (s := { s with heap := h1, toks := tk1 }) hfr hf fy fun h2 y2 u2 => ?_
  refine fly_set (s := { s with heap := h2, toks := tk1 }) y2 fun h3 y3 u3 => ?_
  have u13 := hsm.trans (u2.trans u3)
  have bel : ∀ {h₅ g₅}, KtsTurn ([env₀].filterMap (·.frame)) c.g g₅ → Fr g₅ c.L h₅ m → Below A₁ base₁ [env₀] g₅ := fun {h₅ g₅} T F5 => by
    refine ⟨Bl₁.stack, fun b o e => T.other b o (Bl₁.stays b o e) (fun hm => by
      rw [(Bl₁.frames.mem hm).1] at e
      cases e), Bl₁.frames.of_keeps fun b o e _ => ?_⟩
    obtain ⟨sl, hs⟩ := T.up e
    exact ⟨_, hs, rfl⟩
  refine bc fun hG => ?_
  obtain ⟨g3, T3, F3, _⟩ := fl_ground Bl F hf hBG y3.1 u13
  refine hG ?_
  clear hG
  have B3 := bel T3 F3
  have X3 : K.In g3 := Xb.keeps B3.stays
  have P3 := Tb.keeps B3.stays
  refine bc fun hG => ?_
  obtain ⟨oe, vs, Tr, oT, ts, t⟩ := y3.2.2.2
  refine hG ?_
  clear hG
  refine wpAny_handleBy_builtin (X := X) (T := X) (b := true) C.exc C.tup C.sub ?_
  have hns : h3.Ns env.globals mg := by rw [hg]; exact P3.g.keeps F3.keep
  have hbn : h3.Ns env.builtins mb := by rw [hbs]; exact P3.b.keeps F3.keep
  refine Name_function_global A.kind hx (loadGlobal_builtin hns (mg_none_of X3 P3.g hv) hbn ((P3.builtins x hn).trans hb) ⟨rfl, ⟨oe, t.he, t.hc⟩, ?_⟩) hd
  refine fly_set (s := { s with heap := h3, toks := tk1 }) y3 fun h4 y4 u4 => ?_
  refine bc fun hG => ?_
  obtain ⟨g4, T4, F4, _⟩ := fl_ground Bl F hf hBG y4.1 (u13.trans u4)
  refine hG ?_
  clear hG
  have B4 := bel T4 F4
  have X4 : K.In g4 := Xb.keeps B4.stays
  have P4 := Tb.keeps B4.stays
  refine bc fun hG => ?_
  obtain ⟨oe4, vs4, Tr4, oT4, ts4, t4⟩ := y4.2.2.2
  refine hG ?_
  clear hG
  have ne4 : g4.get? e = none := by
    refine T4.none_ _ ?_
    cases qe : c.g.get? e with
    | none => rfl
    | some o =>
      by_cases hm : e ∈ [env₀].filterMap (·.frame)
      · refine bc fun hG => ?_
        obtain ⟨_, o', ho', hd'⟩ := Bl.frames.mem hm
        refine hG ?_
        clear hG
        rw [qe] at ho'; cases ho'
        obtain ⟨sl, hs⟩ := (u13.trans u4) _ _ (F.keep _ _ qe) hd'
        rw [t4.he] at hs
        cases hs
        exact (hd' _ t4.hd).elim
      · have := hBG e o (F.keep e o qe) (fun hm' => by
          rcases fm_mem hf hm' with z | z
          · rw [z, kts_self F] at qe; cases qe
          · exact hm z)
        rw [y4.2.1] at this; cases this
  have neL : e ≠ c.L := fun z => by
    refine bc fun hG => ?_
    obtain ⟨oL, es, ep, hL', hLd, _⟩ := F4.ns
    refine hG ?_
    clear hG
    rw [← z, t4.he] at hL'
    cases hL'
    rw [t4.hd] at hLd; cases hLd
  have R4 : Rep g4 c.L lc1 ((e, .any (IsExc X)) :: ow1) h4 := by
    refine ⟨⟨m, F4, hl⟩, fun q hq => ?_, ?_⟩
    · rcases List.mem_cons.mp hq with rfl | hq
      · exact ⟨oe4, ⟨⟨t4.hc, vs4, t4.hd, t4.h2⟩, Obj.isFreed_of_fields t4.hd⟩, t4.he, neL, ne4⟩
      · refine bc fun hG => ?_
        obtain ⟨o, ro, hm⟩ := hown q hq
        obtain ⟨h1', h2', h3'⟩ := hnw _ hm
        refine hG ?_
        clear hG
        refine ⟨o, ro, y4.1 _ _ h1', fun z => ?_, T4.none_ _ (kts_none F.keep h2')⟩
        dsimp only at z h1'
        rw [z, hL] at h1'; cases h1'
    · rw [List.map_cons, List.nodup_cons]
      refine ⟨fun hm => ?_, hnd⟩
      refine bc fun hG => ?_
      obtain ⟨q', hq', e'⟩ := List.mem_map.mp hm
      obtain ⟨o, ro, hm'⟩ := hown q' hq'
      refine hG ?_
      clear hG
      have := (hnw _ hm').1
      dsimp only at this
      rw [e', y4.2.1] at this; cases this
  have A4 : Act K ⟨c.w, g4, c.L, c.A.mark (some (.ref e))⟩ n env :=
    ⟨⟨A₁, base₁, [env₀], B4, hfr₁⟩, A.frame, A.kind, X4, ⟨p, loose, mean, mg, mb, P4⟩, A.depth, A.units⟩
  refine AWp.run (q g4 e A4) { s with heap := h4, toks := tk1 } _ _ R4 fun b x lc' ow' h' tk' q' r R' => ?_
  cases b with
  | ret a => exact kp g4 _ _ _ _ _ _ T4 q' r R'
  | next => exact q'.elim
  | brk => exact q'.elim
  | cont => exact q'.elim
/-- back from a turned ground -/
theorem rep_back {g g' h : Heap} {g₀ : Heap} {L₀ L : Addr} {m₀ : Str → Option Value} {lc₀ : LC} (FG : Fr g₀ L₀ g m₀) (hl : LRel lc₀ m₀) (st : g₀.StaysIn g) (T : KtsTurn [L₀] g g') (R : Rep g' L lc ow h) : Rep g₀ L₀ lc₀ ow h := by
  refine bc fun hG => ?_
  obtain ⟨m', F', _⟩ := R.fr
  refine hG ?_
  clear hG
  have up : g.UpToSlots g' := fun b o e _ => T.up e
  have n0 : g₀.get? L₀ = none := kts_self FG
  have nL : ∃ o, g'.get? L₀ = some o := by
    obtain ⟨oL, _, _, e, _⟩ := FG.ns
    obtain ⟨sl, hs⟩ := T.up e
    exact ⟨_, hs⟩
  refine ⟨⟨m₀, ⟨(up.ns FG.ns).keeps F'.keep, fun b o e => F'.keep b o (T.other b o (st b o e) fun hm => ?_), FG.above⟩, hl⟩, fun q hq => ?_, R.nd⟩
  · rw [List.mem_singleton.mp hm, n0] at e; cases e
  · refine bc fun hG => ?_
    obtain ⟨o, ro, e, _, ng⟩ := R.own q hq
    refine hG ?_
    clear hG
    refine ⟨o, ro, e, fun z => ?_, ?_⟩
    · obtain ⟨o', e'⟩ := nL
      rw [z, e'] at ng; cases ng
    · cases z : g₀.get? q.1 with
      | none => rfl
      | some o' =>
        obtain ⟨sl, hs⟩ := T.up (st _ _ z)
        rw [hs] at ng; cases ng
theorem cal_cells1 {f cd : Addr} {qual : Str} {st : Stmt} {dV kV : Value} {as : List AV} {names : List Str} {ls : LC} {cw : Addr → OW} {Q} (A : Act0 K c (n + 1) env) (F : FnK K f cd qual st dV kV)
    (hn : names.length = as.length) (hnd : names.Nodup) (hkinds : ∀ x ∈ names, (fScope st).names.lookup x = some .local ∨ (fScope st).names.lookup x = some .cell)
    (hb : ∀ vs : List Value, vs.length = as.length → ∀ doc pm an ct, bindArgs (fnX (fName st) qual (fArgs st) (fBody st) (fScope st) [] dV kV doc pm an (.ref cd) ct) ⟨vs, []⟩ = pure (names.zip vs))
    (hls : LSub ls (names.zip as)) (hls2 : ∀ p ∈ ls, (fScope st).names.lookup p.1 = some .local)
    (hall : ∀ p ∈ (fScope st).names, p.2 = .cell → (fScope st).names.lookup p.1 = some .cell)
    (hcw : ∀ L', (cellsFrom (L' + 1) (fScope st).names []).map (fun p => (p.2, AO.cell (lget (names.zip as) p.1))) = cw L')
    (hcnd : ((cellsFrom 0 (fScope st).names []).map (·.1)).Nodup) (hco : (fScope st).isCoroutine = false) (hgen : (fScope st).isGenerator = false) (hk : (fScope st).kind = .function)
    (h : ∀ c' : Cx, c'.w = c.w → c'.A.handled = c.A.handled → Act1 K c' n (envOfC qual (fScope st) c'.L f (.ref cd)) env →
      TX c' (fs0 env) (execs (fBody st) (envOfC qual (fScope st) c'.L f (.ref cd))) ls (cw c'.L ++ ow) (retP Q lc)) : Cal c (.con (.ref f)) as [] lc ow Q := by
  refine ⟨?_⟩
  rintro _ vs kvs rfl ra hkn rk
  cases kvs with
  | cons => cases hkn
  | nil =>
    refine ⟨fun s P E R kp => ?_⟩
    refine bc fun hG => ?_
    obtain ⟨oc, od, osl, doc, pm, an, ct, hK, hcd⟩ := F
    obtain ⟨A₀, base, B, hfr, Xb, Tb⟩ := A.b0
    obtain ⟨p, loose, mean, mg, mb, T⟩ := A.T
    obtain ⟨m, Fm, hl⟩ := R.fr
    obtain ⟨news, N, hnews⟩ := R.news
    refine hG ?_
    clear hG
    have X := A.X.keeps Fm.keep
    have hlen : names.length = vs.length := hn.trans ra.length
    have hdep := A.depth
    have hun := A.units
    have hmem : ∀ y ∈ names.zip vs, y.1 ∈ names := fun y hy => by rw [← zip_fst hlen]; exact List.mem_map_of_mem hy
    refine bc fun hG => ?_
    obtain ⟨FG, BG, st', lv⟩ := groundX (R := fun r s' => match r with | .ok (.ret v) => P v s' | .ok _ => False | .error e => E e s') B Fm N hfr A.frame A.kind
    refine hG ?_
    clear hG
    clear lv
    refine wpAny_call (codeAny_call_function (by unfold recursionLimit; wtm_at "om") (X _ _ hK) rfl hco hgen rfl (codeRec_of X hcd) (BindsTo.of_eq (hb vs ra.length.symm doc pm an ct) _ _ _ _ ?_))
    refine wpAny_newFunctionEnv_cells hk (fun y hy => (hkinds y.1 (hmem y hy)).imp id fun e => ⟨e, cells_has _ _ _ _ e⟩) fun env' he s' x => ?_
    subst he
    refine ⟨(T.nolimit.keeps Fm.keep).keeps x.toInCall.keep, codeAny_func ?_⟩
    refine bc fun hG => ?_
    obtain ⟨h₁, tk, rfl, _⟩ := x.done
    refine hG ?_
    clear hG
    have hk₁ := x.toInCall.keep
    refine bc fun hG => ?_
    obtain ⟨cells, NC, CA⟩ := Cl.news (h₀ := s.heap) (Nat.le_refl _) fun n c hm => ⟨x.cell n c (lookup_of_mem_nodup (cellsFrom_names (fScope st).names 0 (s.heap.objs.size + 1) [] [] rfl ▸ hcnd) hm), x.above n c hm⟩
    refine hG ?_
    clear hG
    have F' : Fr (hideAll s.heap (news.map (·.1))) s.heap.objs.size h₁ (bindL (envOfC qual (fScope st) s.heap.objs.size f (.ref cd)).kindOf (names.zip vs) fun _ => none) := ⟨x.toInCall.ns, fun b o e => hk₁ b o (of_hideAll _ e), Nat.le_of_eq (hideAll_size _ _)⟩
    have lt : ∀ p ∈ news, p.1 < s.heap.objs.size := fun p hp => Heap.lt_size (N p hp).1
    have N' : News (hideAll s.heap (news.map (·.1))) s.heap.objs.size h₁ (cells ++ news) := fun p hp => by
      rcases List.mem_append.mp hp with hp | hp
      · refine ⟨(NC p hp).1, (NC p hp).2.1, ?_⟩
        cases q : (hideAll s.heap (news.map (·.1))).get? p.1 with
        | none => rfl
        | some o => have := of_hideAll _ q; rw [(NC p hp).2.2] at this; cases this
      · exact ⟨hk₁ _ _ (N p hp).1, Nat.ne_of_lt (Heap.lt_size (N p hp).1), hideAll_none _ (List.mem_map_of_mem hp)⟩
    generalize hgg : hideAll s.heap (news.map (·.1)) = g at FG BG st' F' N'
    generalize s.heap.objs.size = L' at F' N' lt CA
    have A' : Act K ⟨c.w, g, L', c.A.deeper (envOfC qual (fScope st) L' f (.ref cd))⟩ n (envOfC qual (fScope st) L' f (.ref cd)) :=
      ⟨⟨c.A, base, [env], BG, Around.frames_deeper hfr⟩, rfl, hk, A.X.keeps st', ⟨p, loose, mean, mg, mb, T.keeps st'⟩, by show c.A.depth + 1 + n ≤ 900; wtm_at "om", by show c.A.units + 3 + 20 * n ≤ 9000; wtm_at "om"⟩
    have A1 : Act1 K ⟨c.w, g, L', c.A.deeper (envOfC qual (fScope st) L' f (.ref cd))⟩ n (envOfC qual (fScope st) L' f (.ref cd)) env := ⟨A', ⟨c.A, base, BG, Around.frames_deeper hfr, Xb, Tb⟩⟩
    have cge := cellsFrom_ge (fScope st).names (L' + 1) [] List.nodup_nil (fun p hp => nomatch hp)
    have R' : Rep g L' ls (cw L' ++ ow) h₁ := by
      refine Rep.ofNews F' (fun x a e => ?_) N' ?_ fun q hq => ?_
      · refine bc fun hG => ?_
        obtain ⟨v, e', r⟩ := zip_lookup hnd ra x a (hls x a e)
        refine hG ?_
        clear hG
        refine ⟨v, bindL_get hnd ?_ e', r⟩
        show (fScope st).names.lookup x = _
        have : ∃ p ∈ ls, p.1 = x := lget_mem e
        obtain ⟨p, hp, rfl⟩ := this
        exact hls2 p hp
      · rw [List.map_append]
        refine List.nodup_append.mpr ⟨?_, R.nd, ?_⟩
        · rw [← hcw, List.map_map]; exact cge.1
        · intro a ha b hb e
          rw [← hcw, List.map_map] at ha
          refine bc fun hG => ?_
          obtain ⟨q, hq, rfl⟩ := List.mem_map.mp ha
          obtain ⟨q', hq', rfl⟩ := List.mem_map.mp hb
          refine hG ?_
          clear hG
          have h1 := (cge.2 q hq).resolve_left (fun h => nomatch h)
          refine bc fun hG => ?_
          obtain ⟨o, _, hm⟩ := hnews q' hq'
          refine hG ?_
          clear hG
          have h2 := lt _ hm
          have h3 : q.2 = q'.1 := e
          rw [← h3] at h2
          exact Nat.lt_irrefl _ (Nat.lt_of_lt_of_le (Nat.lt_trans h2 (Nat.lt_succ_self _)) h1.1)
      · rcases List.mem_append.mp hq with hq | hq
        · rw [← hcw] at hq
          obtain ⟨o, r1, m1⟩ := cellsAre_rep hnd ra CA (fun p hp => by
            have h1 := ((cge.2 p hp).resolve_left (fun h => nomatch h)).2
            exact hall _ (List.contains_iff_mem.mp h1) rfl) q hq
          exact ⟨o, r1, List.mem_append_left _ m1⟩
        · obtain ⟨o, r1, m1⟩ := hnews q hq
          exact ⟨o, r1, List.mem_append_right _ m1⟩
    refine (h ⟨c.w, g, L', c.A.deeper (envOfC qual (fScope st) L' f (.ref cd))⟩ rfl rfl A1).run { s with heap := h₁, toks := tk } _ _ R' fun g' fl x lc1 ow1 h2 tk2 Tu q r R2 => ?_
    have done : ∀ ow2, Pick ow1 ow2 → Rep c.g c.L lc ow2 h2 := fun ow2 pk => rep_back FG hl st' (by have e : fs0 env = [c.L] := (by simp [fs0, A.frame]); rw [← e]; exact Tu) (R2.pick pk)
    cases fl with
    | ret a =>
      obtain ⟨v, rfl, rv⟩ := r
      obtain ⟨ow2, pk, q⟩ := q
      exact kp _ _ _ _ _ _ q rv (done _ pk)
    | next => cases (show x = _ from r); obtain ⟨ow2, pk, q⟩ := q; exact kp .none _ _ _ _ _ q rfl (done _ pk)
    | brk => cases (show x = _ from r); obtain ⟨ow2, pk, q⟩ := q; exact kp .none _ _ _ _ _ q rfl (done _ pk)
    | cont => cases (show x = _ from r); obtain ⟨ow2, pk, q⟩ := q; exact kp .none _ _ _ _ _ q rfl (done _ pk)
theorem name_same {x : Str} {v : Value} {pos : Pos} {s : Shared} {E Q} (A : Act K c n env) (R : Rep c.g c.L lc ow s.heap) (e : nsIn K mainGlobals x = some none) (hv : bootBuiltins x = some v) (h : Q v s)
    (hn : x ≠ "__name__" := by decide +kernel)
    (hx : autoParam (env.kindOf x = some .globalImplicit) kr0) (hg : autoParam (env.globals = mainGlobals) kr0) (hb : autoParam (env.builtins = builtinsNs) kr0) (hd : autoParam ((x == ("__debug__" : Str)) = false) kr0) : wpAny (model pw c.w) c.A (eval (.Name x pos) env) Q E s := by
  refine bc fun hG => ?_
  obtain ⟨p, loose, mean, mg, mb, T⟩ := A.T
  obtain ⟨m, F, _⟩ := R.fr
  refine hG ?_
  clear hG
  have hns : s.heap.Ns env.globals mg := by rw [hg]; exact T.g.keeps F.keep
  have hbs : s.heap.Ns env.builtins mb := by rw [hb]; exact T.b.keeps F.keep
  exact Name_function_global A.kind hx (loadGlobal_builtin hns (mg_none_of A.X T.g e) hbs ((T.builtins x hn).trans hv) h) hd
theorem rm_value {np cpos pos ap : Pos} {w : Str} {k : Nat} (A : Act K c n env) (O : KOk K) (hh : c.A.handled = none)
    (hx : autoParam (env.kindOf "ValueError" = some .globalImplicit) kr0) (hg : autoParam (env.globals = mainGlobals) kr0) (hb : autoParam (env.builtins = builtinsNs) kr0)
    (he : autoParam (starEach [.Constant (.str w) k ap] env = (false, eval (.Constant (.str w) k ap) env) :: starEach [] env) kr0) :
    RM c (exec (.Raise (some (.Call (.Name "ValueError" np) [.Constant (.str w) k ap] [] cpos)) none pos) env) lc ow "ValueError" :=
  ⟨fun s P E R kx => Raise_madeB PySem.F.excCall_ValueError PySem.F.excRaise_ValueError hh (name_same A R O.valueError (v := .type "ValueError") (by kernel_rfl) ⟨rfl, by
    have ar : Args c env cpos [.Constant (.str w) k ap] lc ow (fun as lc1 ow1 => as.length = 1 ∧ ow1 = ow) := args_cons (ev_str (args_nil ⟨rfl, rfl⟩)) he
    refine wpAny_mono (AWp.run (Args.run ar) s (fun vs s2 => vs.length ≤ sizeLine ∧ ∀ h' e, Heap.MadeExc s2.heap h' e "ValueError" vs → E (.ref e) { s2 with heap := h' }) E R fun as vs lc1 ow1 h1 tk1 q r R1 => ?_) (fun _ _ h => h) fun _ _ h => h
    obtain ⟨q1, rfl⟩ := q
    refine ⟨by rw [← r.length, q1]; decide, fun h' e hm => kx lc1 h1 h' tk1 e R1 hm.newExc⟩⟩ (by decide +kernel) hx hg hb) he rfl⟩
theorem rm_zero {np pos : Pos} (A : Act K c n env) (O : KOk K) (hh : c.A.handled = none)
    (hx : autoParam (env.kindOf "ZeroDivisionError" = some .globalImplicit) kr0) (hg : autoParam (env.globals = mainGlobals) kr0) (hb : autoParam (env.builtins = builtinsNs) kr0) :
    RM c (exec (.Raise (some (.Name "ZeroDivisionError" np)) none pos) env) lc ow "ZeroDivisionError" :=
  ⟨fun s P E R kx => Raise_classB hh excClass_ZeroDivisionError (by rw [isSubtype_type]; kernel_rfl) (name_same A R O.zeroDiv (v := .type "ZeroDivisionError") (by kernel_rfl) ⟨rfl, rfl⟩ (by decide +kernel) hx hg hb) fun h' e hm => kx lc s.heap h' s.toks e R hm⟩
end
theorem catches_value : Catches "ValueError" := ⟨PySem.F.isExc_ValueError, PySem.F.notTuple_ValueError, by rw [isSubtype_type]; kernel_rfl⟩
theorem catches_zero : Catches "ZeroDivisionError" := ⟨PySem.F.isExc_ZeroDivisionError, PySem.F.notTuple_ZeroDivisionError, by rw [isSubtype_type]; kernel_rfl⟩
section
variable {K : Frag} {c : Cx} {lc : LC} {ow : OW} {env : Env} {d : Nat}
/-- bisect_right from a place below nought -/
theorem calR_bisr {l : Addr} {x : Int} {lo : Int} (A : Act K c (d + 1) env) (O : KOk K) (hh : c.A.handled = none) (hlo : lo < 0) : CalR c env (.con (.ref 74)) [.ref l, .int x, .int lo] lc ow "ValueError" (fun lc' ow' => lc' = lc ∧ ow' = ow) := by
  refine calR_fn (bs := [.ref l, .int x, .int lo, .none, .none]) A O.bisr fns_bisr rfl (fun vs ra => ?_) fun c hw hc A => ?_
  · obtain ⟨v1, v2, v3, rfl, r1, r2, r3⟩ := al3 ra
    exact (O.bisrB.p3 v1 v2 v3).imp fun us q => ⟨amp (al_con r1) (amp (al_con r2) (amp (al_con r3) id)) q.1, fun s doc pm an ct X => kp_binds X fun S => q.2 doc pm an ct S⟩
  · show RM c (execs (fBody (stAt 10)) (envX "bisect_right" (fScope (stAt 10)) c.L 74 (.ref 73) [])) [("a", .ref l), ("x", .int x), ("lo", .int lo), ("hi", .none), ("key", .none)] ow "ValueError"
    rw [← hc] at hh
    refine rm_cons (rm_if ?_)
    repeat wtm_at "a1"
    refine ⟨by simpa using hlo, rfl, rm_cons (rm_value A O hh)⟩
end
end

section
open PySem.Builtin
/-- nothing held, or an exception without a context -/
noncomputable def Held (A : Around) (h : Heap) : Prop := A.handled = none ∨ ∃ e X o, A.handled = some (.ref e) ∧ h.get? e = some o ∧ IsExc X o
theorem entry_unchain : entryFor table "proto.unchain" = some Builtin.«proto.unchain» := entryFor_of_tree (by kernel_rfl)
section
variable {prog : Program} {w : World} {A : Around} {s : Shared} {E : Value → Shared → Prop}
theorem stop_any {α : Type} {Q : α → Shared → Prop} (hh : Held A s.heap)
    (hQ : ∀ e h', (∀ a o, s.heap.get? a = some o → h'.get? a = some o) → (∃ o, h'.get? e = some o ∧ o.cls = .type "StopIteration") → E (.ref e) { s with heap := h' }) :
    wpAny (model prog w) A (SmallTypes.stopIteration : Sem α) Q E s := by
  rcases hh with hh | ⟨e0, X, o0, hh, he0, hc0, vs, hd0, h2⟩
  · exact stop_at hh hQ
  unfold SmallTypes.stopIteration
  refine wpAny_bind ?_
  simp only [newExc, newTuple]
  refine wpAny_bind (wpAny_newObj_type ?_ (by size_fits))
  refine wpAny_bind (m := firstArgMember _ _) (wpAny_of_eq (a := Value.none) (by first | rfl | (simp only [firstArgMember]; rfl)) ?_)
  refine wpAny_newObj_type ?_ (by size_fits)
  simp only [raiseNew]
  refine wpAny_bind (wpAny_handled ?_)
  rw [hh]
  have he1 := Heap.get?_push_of_some (h := s.heap) { cls := .type "tuple", data := .seq ([] : List Value).toArray } he0
  generalize hH : s.heap.push { cls := .type "tuple", data := .seq ([] : List Value).toArray } = H at he1 ⊢
  have kH : ∀ a o, s.heap.get? a = some o → H.get? a = some o := fun a o e => by rw [← hH]; exact Heap.get?_push_of_some _ e
  generalize hob : ({ cls := Value.type "StopIteration", data := Data.fields _ } : Obj) = ob
  have hcls : ob.cls = .type "StopIteration" := by rw [← hob]
  have hfr : ob.isFreed = false := by rw [← hob]; rfl
  have hdat : ∃ ws, ob.data = .fields ws ∧ 2 < ws.size := by rw [← hob]; exact ⟨_, rfl, by simp; wtm_at "om"⟩
  have he2 := Heap.get?_push_of_some (h := H) ob he1
  have hne : e0 ≠ H.objs.size := Nat.ne_of_lt (Heap.lt_size he1)
  have hif : (Value.ref e0 != Value.ref H.objs.size) = true := by simp; exact hne
  dsimp only
  rw [if_pos hif]
  refine wpAny_bind (wpAny_holding (wpAny_runValue (codeAny_builtin entry_unchain ?_)))
  show wpAny _ _ (field (.ref e0) 2 >>= _) _ _ _
  refine wpAny_bind (wpAny_field he2 hd0 h2 ?_)
  rw [if_pos (by decide)]
  refine wpAny_pure ?_
  refine bc fun hG => ?_
  obtain ⟨ws, hws, hsz⟩ := hdat
  refine hG ?_
  clear hG
  show wpAny _ _ (setField (.ref H.objs.size) 2 (.ref e0) >>= fun _ => throw (.ref H.objs.size)) _ _ _
  refine wpAny_bind (wpAny_setField (Heap.get?_push_size H hfr) hws hsz (wpAny_throw (hQ _ _ (fun a o e => ?_) ?_)))
  · have ha : a ≠ H.objs.size := Nat.ne_of_lt (Heap.lt_size (kH _ _ e))
    exact (Heap.get?_update_other _ _ (Ne.symm ha)).trans (Heap.get?_push_of_some _ (kH _ _ e))
  · exact ⟨_, Heap.get?_update_self _ (Heap.get?_push_size H hfr) (Obj.isFreed_of_fields (Obj.data_mapFields hws _)), (Obj.cls_mapFields _ _).trans hcls⟩
theorem list_end_any {it l : Addr} {i : Nat} {items} {Q : Option Value → Shared → Prop} (hh : Held A s.heap) (hne : ∀ e, A.handled = some (.ref e) → e ≠ it)
    (hit : s.heap.IsListIter it l i) (hl : s.heap.IsList l items) (hx : items[i]? = none)
    (hQ : ∀ h', Heap.ExtBut it s.heap h' → Q none { s with heap := h' }) : wpAny (model prog w) A (pyNext (.ref it)) Q E s := by
  refine bc fun hG => ?_
  obtain ⟨o, ho, hc, hd⟩ := id hit
  obtain ⟨ol, hol, _, nl, hdl⟩ := hl
  refine hG ?_
  clear hG
  unfold pyNext
  refine wpAny_bind (wpAny_attempt (wpAny_callSpecial?_slot (name := Str.ofString "__next__") hit.typeIs slot_listiter_next
    (wpAny_call_entry slot_listiter_next hit.typeIs entry_listiter_next ?_ (args_listiter_next _))))
  show wpAny _ _ (field (.ref it) 0 >>= _) _ _ s
  refine wpAny_bind (wpAny_field ho hd (x := .ref l) rfl ?_)
  show wpAny _ _ (if (Value.ref l == Value.none) = true then _ else _) _ _ s
  rw [if_neg (show ¬ ((Value.ref l == Value.none) = true) from Bool.false_ne_true)]
  show wpAny _ _ (field (.ref it) 1 >>= _) _ _ s
  refine wpAny_bind (wpAny_field ho hd (x := .int i 0) rfl ?_)
  show wpAny _ _ (seqItems? (.ref l) >>= _) _ _ s
  refine wpAny_bind (wpAny_seqItems hol hdl ?_)
  simp only [Int.toNat_natCast, hx]
  refine wpAny_bind (wpAny_rule (wpAny_bind (wpAny_setField ho hd (by simp) ?_)))
  have hh' : Held A (s.heap.update it (Obj.mapFields (·.setIfInBounds 0 Value.none))) := by
    rcases hh with x | ⟨e, X, o', x, ho', i'⟩
    · exact .inl x
    · exact .inr ⟨e, X, o', x, (Heap.get?_update_other _ _ (Ne.symm (hne e x))).trans ho', i'⟩
  refine stop_any (A := A.in1) (s := { s with heap := s.heap.update it (Obj.mapFields (·.setIfInBounds 0 Value.none)) }) hh' fun e h' hk he => ?_
  refine bc fun hG => ?_
  obtain ⟨oe, he, hce⟩ := he
  refine hG ?_
  clear hG
  show wpAny _ _ (isInstance (.ref e) (.type "StopIteration") >>= fun b => if b = true then pure none else throw (.ref e)) _ _ _
  refine wpAny_bind (wpAny_isInstance (T := "StopIteration") (b := true) ⟨oe, he, hce⟩ isSubtype_stop ?_)
  exact wpAny_pure (hQ _ fun b o hb e => hk _ _ ((Heap.get?_update_other _ _ (Ne.symm hb)).trans e))
theorem range_end_any {it : Addr} {x left step : Int} {Q : Option Value → Shared → Prop} (hh : Held A s.heap) (hit : IsRangeIter s.heap it x left step) (hleft : left ≤ 0)
    (hQ : ∀ h', Heap.ExtBut it s.heap h' → Q none { s with heap := h' }) : wpAny (model prog w) A (pyNext (.ref it)) Q E s := by
  have hT : s.TypeIs (.ref it) "range_iterator" := ⟨_, hit, rfl⟩
  unfold pyNext
  refine wpAny_bind (wpAny_attempt (wpAny_callSpecial?_slot (name := Str.ofString "__next__") hT F.slot_range_iterator_next
    (wpAny_call_entry F.slot_range_iterator_next hT F.entry_range_iterator_next ?_ (F.args_range_iterator_next_1 _))))
  show wpAny _ _ (field (.ref it) 0 >>= _) _ _ s
  refine wpAny_bind (wpAny_field hit rfl (x := rawInt x) rfl ?_)
  show wpAny _ _ (field (.ref it) 1 >>= _) _ _ s
  refine wpAny_bind (wpAny_field hit rfl (x := rawInt left) rfl ?_)
  show wpAny _ _ (field (.ref it) 2 >>= _) _ _ s
  refine wpAny_bind (wpAny_field hit rfl (x := rawInt step) rfl ?_)
  show wpAny _ _ (if left ≤ 0 then _ else _) _ _ s
  rw [if_pos hleft]
  refine wpAny_bind (wpAny_rule ?_)
  refine wpAny_bind (stop_any (A := A.in1) hh fun e h' hk he => ?_)
  refine bc fun hG => ?_
  obtain ⟨oe, he, hce⟩ := he
  refine hG ?_
  clear hG
  show wpAny _ _ (isInstance (.ref e) (.type "StopIteration") >>= fun b => if b = true then pure none else throw (.ref e)) _ _ _
  refine wpAny_bind (wpAny_isInstance (T := "StopIteration") (b := true) ⟨oe, he, hce⟩ isSubtype_stop ?_)
  exact wpAny_pure (hQ _ fun b o hb e => hk _ _ e)
end
section
variable {K : Frag} {c : Cx} {lc lc' : LC} {ow ow' : OW} {env : Env} {n : Nat}
noncomputable def HeldC (c : Cx) (ow : OW) : Prop := c.A.handled = none ∨ ∃ e X, c.A.handled = some (.ref e) ∧ (e, AO.any (IsExc X)) ∈ ow
theorem HeldC.at (x : HeldC c ow) {h : Heap} (R : Rep c.g c.L lc ow h) : Held c.A h := by
  rcases x with x | ⟨e, X, x, hm⟩
  · exact .inl x
  · obtain ⟨o, ⟨i, _⟩, ho⟩ := R.get hm
    exact .inr ⟨e, X, o, x, ho, i⟩
theorem HeldC.ne (x : HeldC c ow) {h : Heap} (R : Rep c.g c.L lc ow h) {it : Addr} {p : AO} (hm : (it, p) ∈ ow) (hp : ∀ o, p.rep o → ∀ X, ¬ IsExc X o) : ∀ e, c.A.handled = some (.ref e) → e ≠ it := by
  intro e he z
  rcases x with x | ⟨e', X, x, hm'⟩
  · rw [x] at he; cases he
  · rw [x] at he; cases he; subst z
    refine bc fun hG => ?_
    obtain ⟨o, ro, ho⟩ := R.get hm
    obtain ⟨o', ⟨i, _⟩, ho'⟩ := R.get hm'
    refine hG ?_
    clear hG
    rw [ho] at ho'; cases ho'
    exact hp o ro X i
theorem nxt_range_endH {it : Addr} {x left step : Int} {Q} (hh : HeldC c ow) (T : Take (it, rIt x left step) ow ow') (hl : left ≤ 0) (h : Q none lc ow') : Nxt c it lc ow Q := by
  refine ⟨⟨fun s P E R kp => ?_⟩⟩
  have hm : (it, rIt x left step) ∈ ow := T.perm.mem_iff.mpr (.head _)
  refine bc fun hG => ?_
  obtain ⟨o, ⟨rfl, _⟩, ho⟩ := R.get hm
  refine hG ?_
  clear hG
  refine range_end_any (hh.at R) ho hl fun h' he => ?_
  exact kp _ _ _ _ _ _ h rfl (R.lose T he)
theorem nxt_list_endH {it l : Addr} {xs : List AV} {i : Nat} {Q} (hh : HeldC c ow) (T : Take (it, .lit l i) ow ow') (hm : (l, AO.list xs) ∈ ow) (hx : xs[i]? = none) (h : Q none lc ow') : Nxt c it lc ow Q := by
  refine ⟨⟨fun s P E R kp => ?_⟩⟩
  have hm' : (it, AO.lit l i) ∈ ow := T.perm.mem_iff.mpr (.head _)
  refine bc fun hG => ?_
  obtain ⟨o, ⟨vs, n, rfl, r⟩, ho⟩ := R.get hm
  obtain ⟨o', ⟨r1, r2⟩, ho'⟩ := R.get hm'
  refine hG ?_
  clear hG
  have hl' : s.heap.IsList l vs.toArray := ⟨_, ho, rfl, n, rfl⟩
  have hv' : vs.toArray[i]? = none := by rw [List.getElem?_toArray]; rw [List.getElem?_eq_none_iff] at hx ⊢; rw [← r.length]; exact hx
  refine list_end_any (hh.at R) (hh.ne R hm' fun o ro X hi => ?_) ⟨o', ho', r1, r2⟩ hl' hv' fun h' he => ?_
  · refine bc fun hG => ?_
    obtain ⟨_, r2⟩ := ro
    obtain ⟨_, vs, e, h2⟩ := hi
    refine hG ?_
    clear hG
    rw [r2] at e; cases e; cases h2
  · exact kp none _ _ _ _ _ h rfl (R.lose T he)
theorem walks_held {prog : Program} {w : World} {A : Around} {e : Addr} {X : String} {o : Obj} (hh : A.handled = some (.ref e)) (hi : IsExc X o) (I ax : Addr) (hne : ax ≠ I) (heI : e ≠ I) (items : Array Value) :
    Walks prog w A I [I, ax, e] [I] items.size (fun i v => items[i]? = some v) (fun i h => h.IsListIter I ax i ∧ h.IsList ax items ∧ h.get? e = some o) where
  sub := fun b hb => by simp at hb; simp [hb]
  frame := fun _ _ _ st hk => ⟨st.1.at fun o e => hk I (by simp) o e, st.2.1.at fun o e => hk ax (by simp) o e, hk e (by simp) _ st.2.2⟩
  item := fun i s Q E hi' st hQ => by
    refine wpAny_pyNext_list_item st.1 st.2.1 (x := items[i]) (by simp [hi']) fun h' hit' hs' => ?_
    exact hQ _ h' s.toks (by simp [hi']) ⟨hit', st.2.1.extBut hs'.extBut hne, (hs'.2 _ heI).trans st.2.2⟩ fun b o hb e => hs'.extBut b o (fun h => hb (by simp [h])) e
  done := fun s Q E st hQ => list_end_any (.inr ⟨e, X, o, hh, st.2.2, hi⟩) (fun e' h => by rw [hh] at h; cases h; exact heI) st.1 st.2.1 (by simp) fun h' he' => hQ h' s.toks fun b o hb e => he' b o (fun h => hb (by simp [h])) e
  self := fun _ _ _ _ st hQ => wpAny_pyIter_listiter st.1 hQ
theorem cal_sumH {l : Addr} {xs : List AV} {ns : List Int} {Q} (hh : HeldC c ow) (hm : (l, AO.list xs) ∈ ow) (hx : xs = ns.map .int) (h : Q (.int ns.sum) lc ow) : Cal c (.con (.builtin "sum")) [.ref l] [] lc ow Q := by
  rcases hh with hh | ⟨e, X, hh, hme⟩
  · exact cal_sum hh hm hx h
  subst hx
  refine cal_1 ?_
  rintro _ rfl
  refine ⟨fun s P E R kp => ?_⟩
  refine bc fun hG => ?_
  obtain ⟨o, ⟨vs, k, rfl, r⟩, ho⟩ := R.get hm
  obtain ⟨oe, ⟨ie, _⟩, hoe⟩ := R.get hme
  refine hG ?_
  clear hG
  have hl' : s.heap.IsList l vs.toArray := ⟨_, ho, rfl, k, rfl⟩
  have hi := all2_ints r
  refine call_sum_walkG (wpAny_pyIter_list hl' ?_)
  refine ⟨s.heap.objs.size, _, _, _, _, _, fun i => ns.getD i 0, rfl, walks_held (A := c.A.in1) hh ie _ l (Nat.ne_of_lt (Heap.lt_size ho)) (Nat.ne_of_lt (Heap.lt_size hoe)) vs.toArray,
    ⟨⟨_, Heap.get?_push_size _ rfl, rfl, rfl⟩, hl'.push _, Heap.get?_push_of_some _ hoe⟩, fun b hb => ?_, fun i v hv => ?_, fun h' tk t' hk => ?_⟩
  · simp only [List.mem_cons, List.not_mem_nil, or_false] at hb
    rcases hb with rfl | rfl | rfl
    · exact Heap.lt_size (Heap.get?_push_size s.heap (o := { cls := .type "list_iterator", data := .fields #[.ref l, rawInt 0] }) rfl)
    · exact Heap.lt_size (Heap.get?_push_of_some _ ho)
    · exact Heap.lt_size (Heap.get?_push_of_some _ hoe)
  · have hv' : vs[i]? = some v := by simpa using hv
    obtain ⟨k, hk⟩ : ∃ k, ns[i]? = some k := by
      have h1 := (List.getElem?_eq_some_iff.mp hv').1
      have h2 := r.length
      simp at h2
      exact ⟨_, List.getElem?_eq_getElem (by wtm_at "om")⟩
    obtain ⟨v', hv2, t, rfl⟩ := r.get (i := i) (a := .int k) (by rw [List.getElem?_map, hk]; rfl)
    rw [hv'] at hv2
    cases hv2
    exact ⟨t, by dsimp only; rw [List.getD_eq_getElem?_getD, hk]; rfl⟩
  · have e : preSum (fun i => ns.getD i 0) vs.toArray.size = ns.sum := by
      have h2 := r.length
      simp at h2
      rw [preSum_getD, List.take_of_length_le (by simp; wtm_at "om")]
    rw [e]
    exact kp (.int ns.sum) _ _ _ h' tk h ⟨t', rfl⟩ (R.keeps (LSm.kept_iter hk))
end
end


theorem Pick.mem {ow r : OW} (h : Pick ow r) {p : Addr × AO} (hp : p ∈ r) : p ∈ ow := by
  obtain ⟨d, hd⟩ := h.sub
  exact hd.mem_iff.mpr (List.mem_append_left _ hp)
theorem lget_lput : ∀ (d : LC) (x : Str) (a : AV), lget (lput d x a) x = some a
  | [], x, a => if_pos rfl
  | (y, b) :: r, x, a => by
    by_cases h : y = x
    · unfold lput; rw [if_pos h]; exact if_pos h
    · unfold lput; rw [if_neg h]; exact (if_neg h).trans (lget_lput r x a)
theorem put_lput : ∀ (d : LC) (x : Str) (a : AV), Put d x a (lput d x a)
  | [], x, a => .nil
  | (y, b) :: r, x, a => by
    by_cases h : y = x
    · unfold lput; rw [if_pos h]; subst h; exact .head
    · unfold lput; rw [if_neg h]; exact .tail (put_lput r x a) h
section
variable {K : Frag} {c : Cx} {lc lc' : LC} {ow ow' : OW} {env : Env} {n : Nat}
theorem comp_gen {elt iter : PySem.Expr} {x : Str} {px pos p : Pos} {ifs : List PySem.Expr} {scope : Scope} {cl : List (Str × Addr)} {use : Option (Value → Sem Unit)} {Q : AV → LC → OW → Prop}
    (N : Nat) (el : Nat → AV) (itO : Addr → Nat → AO) (J : Addr → Nat → List AV → LC → OW → Prop)
    (hag : ∀ l k it lc ow (Q : Addr → LC → OW → Prop), (it, itO l k) ∈ ow → Q it lc ow → Itr c (.ref it) lc ow Q)
    (hnx : ∀ l k it ys lc ow D C d (Q : Option AV → LC → OW → Prop), k < N → J l k ys lc ow → Q (some (el k)) lc ((D, .list ys) :: (C, .ns d) :: (it, itO l (k + 1)) :: ow) → Nxt c it lc ((D, .list ys) :: (C, .ns d) :: (it, itO l k) :: ow) Q)
    (hend : ∀ l it ys lc ow D C d (Q : Option AV → LC → OW → Prop), J l N ys lc ow → Q none lc ((D, .list ys) :: (C, .ns d) :: ow) → Nxt c it lc ((D, .list ys) :: (C, .ns d) :: (it, itO l N) :: ow) Q)
    (hclos : closureFor scope env = pure cl) (hcell : ∀ y ∈ scope.names, y.2 ≠ .cell) (hkind : scope.kind = .function) (hnames : ∀ y ∈ scope.names, y.2 = .local → scope.names.lookup y.1 = some .local)
    (hlen : ∀ l k ys lc ow, J l k ys lc ow → ys.length < 1000000)
    (step : ∀ l k ys lc ow D C d itx, k < N → J l k ys lc ow → lget d x = some (el k) → BX c (testsOf ifs (compEnvC scope cl C env)) lc ((D, .list ys) :: (C, .ns d) :: itx :: ow) fun ok lc5 ow5 =>
      Br ok (EV c (eval elt (compEnvC scope cl C env)) lc5 ow5 fun y lc6 ow6 => ∃ d' ow7, Pick ow6 ((D, .list ys) :: (C, .ns d') :: itx :: ow7) ∧ J l (k + 1) (ys ++ [y]) lc6 ow7)
        (∃ d' ow7, Pick ow5 ((D, .list ys) :: (C, .ns d') :: itx :: ow7) ∧ J l (k + 1) ys lc5 ow7))
    (fin : ∀ l ys lc ow D C d, J l N ys lc ow → CFin c use Q D C ys d lc ow)
    (h : EV c (eval iter env) lc ow fun xv lc1 ow1 => Itr c xv lc1 ow1 fun it lc2 ow2 => ∃ l ow3, Pick ow2 ((it, itO l 0) :: ow3) ∧ J l 0 [] lc2 ow3)
    (hxk : autoParam (∀ C, (compEnvC scope cl C env).kindOf x = some .local) kr1)
    (hs : autoParam (∀ x, foldedSetIterable iter env x = pure x) kr1) :
    EV c (comprehension (.ListComp elt [⟨.Name x px, iter, ifs, 0⟩] scope pos) scope env p (newList []) false (eval iter env) use) lc ow Q := by
  have pk2 : ∀ {a b : Addr × AO} {r r' : OW}, Pick r r' → Pick (a :: b :: r) (a :: b :: r') := fun P => Pick.cons .head (Pick.cons .head P)
  refine comp_core (fun it n ys lc ow => ∃ l k ow0, k ≤ N ∧ n = N - k ∧ Pick ow ((it, itO l k) :: ow0) ∧ J l k ys lc ow0) hclos hcell hkind hnames ?_ ?_ ?_ hs
  · rintro it n lc ow D C d ⟨l, k, ow0, hk, rfl, P, hJ⟩
    exact hag l k _ _ _ _ (.tail _ (.tail _ (P.mem (.head _)))) ⟨rfl, rfl, rfl⟩
  · rintro it n ys lc ow D C d ⟨l, k, ow0, hk, rfl, P, hJ⟩
    refine ⟨hlen _ _ _ _ _ hJ, ?_⟩
    refine ⟨AWp.weak (pk2 P) ?_⟩
    by_cases hlt : k < N
    · refine (hnx l k it ys lc ow0 D C d _ hlt hJ ?_).run
      refine asg_ns (.tail .head) (put_lput d x (el k)) ?_ hkind (hxk C) rfl
      refine (step l k ys lc ow0 D C _ _ hlt hJ (lget_lput d x (el k))).mono fun ok lc5 ow5 b => ⟨fun e => (b.t e).mono fun y lc6 ow6 ⟨d', ow7, P7, j7⟩ => ?_, fun e => ?_⟩
      · exact ⟨N - (k + 1), d', (it, itO l (k + 1)) :: ow7, by wtm_at "om", P7, l, k + 1, ow7, hlt, rfl, .all, j7⟩
      · obtain ⟨d', ow7, P7, j7⟩ := b.f e
        exact ⟨N - (k + 1), d', (it, itO l (k + 1)) :: ow7, by wtm_at "om", P7, l, k + 1, ow7, hlt, rfl, .all, j7⟩
    · have e : k = N := by wtm_at "om"
      subst e
      exact (hend l it ys lc ow0 D C d _ hJ ⟨d, ow0, .all, fin l ys lc ow0 D C d hJ⟩).run
  · refine h.mono fun xv lc1 ow1 q => ⟨fun v rv => (q.run v rv).mono fun it lc2 ow2 ⟨l, ow3, P, hJ⟩ => ⟨N, l, 0, ow3, Nat.zero_le _, rfl, P, hJ⟩⟩
/-- a comprehension, and how its value is used -/
structure Cmp1 (c : Cx) (elt iter : PySem.Expr) (x : Str) (px : Pos) (ifs : List PySem.Expr) (scope : Scope) (env : Env) (lc : LC) (ow : OW) (fin : Option (Value → Sem Unit) → (AV → LC → OW → Prop) → Prop) : Prop where
  run : ∀ (pos p : Pos) (use : Option (Value → Sem Unit)) Q, fin use Q → EV c (comprehension (.ListComp elt [⟨.Name x px, iter, ifs, 0⟩] scope pos) scope env p (newList []) false (eval iter env) use) lc ow Q
theorem ev_lc {elt iter : PySem.Expr} {x : Str} {px pos : Pos} {ifs : List PySem.Expr} {scope : Scope} {fin Q} (h : Cmp1 c elt iter x px ifs scope env lc ow fin) (hf : fin none Q) : EV c (eval (.ListComp elt [⟨.Name x px, iter, ifs, 0⟩] scope pos) env) lc ow Q := by
  rw [arm_eval_ListComp]
  exact h.run _ _ none Q hf
theorem sx_lc {elt iter : PySem.Expr} {x y : Str} {px py pos spos : Pos} {ifs : List PySem.Expr} {scope : Scope} {fin} {Q : AF → LC → OW → Prop} (h : Cmp1 c elt iter x px ifs scope env lc ow fin) (hf : fin (some (assign (.Name y py) env)) fun _ => Q .next)
    (hsw : autoParam (swapsWith (.ListComp elt [⟨.Name x px, iter, ifs, 0⟩] scope pos) (some (.Name y py)) spos.line env = pure true) kr0) : SX c (exec (.Assign [.Name y py] (.ListComp elt [⟨.Name x px, iter, ifs, 0⟩] scope pos) spos) env) lc ow Q := by
  rw [exec_Assign_Name_used _ _ _ _ hsw]
  refine AWp.standAt (AWp.bind (rp := rU) (β := Unit) ?_)
  rw [arm_evalThenUse_ListComp]
  exact AWp.bind (β := AV) (rp := AV.rep) ((h.run _ _ (some (assign (.Name y py) env)) (fun _ => Q .next) hf).mono fun b lc1 ow1 q v rv => AWp.pure (b := ()) trivial fun u _ => AWp.pure (b := AF.next) rfl q)
/-- where the value just stands -/
theorem cf_none {Q : AV → LC → OW → Prop} {D C : Addr} {ys : List AV} {d : LC} (h : Q (.ref D) lc ((D, .list ys) :: ow)) : CFin c none Q D C ys d lc ow := h
/-- where it is stored at once -/
theorem cf_use {y : Str} {py : Pos} {Q : AV → LC → OW → Prop} {D C : Addr} {ys : List AV} {d : LC} (P : Put lc y (.ref D) lc') (h : Q .none lc' ((D, .list ys) :: ow))
    (hk : autoParam (env.scope.kind = .function) kr0) (hx : autoParam (env.kindOf y = some .local) kr0) (hL : autoParam (env.locals = c.L) kr0) : CFin c (some (assign (.Name y py) env)) Q D C ys d lc ow :=
  (asg_name (sto_local P ⟨d, _, .cons (.tail .head) .all, h⟩ hk hx hL)).run (.ref D) rfl

theorem lc_list {elt iter : PySem.Expr} {x : Str} {px : Pos} {ifs : List PySem.Expr} {scope : Scope} {cl : List (Str × Addr)} (xs : List AV) (J : Addr → Nat → List AV → LC → OW → Prop) (hh : ∀ l k ys lc ow, J l k ys lc ow → HeldC c ow) (hm : ∀ l k ys lc ow, J l k ys lc ow → (l, AO.list xs) ∈ ow)
    (hclos : closureFor scope env = pure cl)
    (step : ∀ l k a ys lc ow D C d itx, xs[k]? = some a → J l k ys lc ow → lget d x = some a → BX c (testsOf ifs (compEnvC scope cl C env)) lc ((D, .list ys) :: (C, .ns d) :: itx :: ow) fun ok lc5 ow5 =>
      Br ok (EV c (eval elt (compEnvC scope cl C env)) lc5 ow5 fun y lc6 ow6 => ∃ d' ow7, Pick ow6 ((D, .list ys) :: (C, .ns d') :: itx :: ow7) ∧ J l (k + 1) (ys ++ [y]) lc6 ow7)
        (∃ d' ow7, Pick ow5 ((D, .list ys) :: (C, .ns d') :: itx :: ow7) ∧ J l (k + 1) ys lc5 ow7))
    (hlen : ∀ l k ys lc ow, J l k ys lc ow → ys.length < 1000000)
    (h : EV c (eval iter env) lc ow fun v lc1 ow1 => ∃ l, v = .ref l ∧ ∃ ow2, Pick ow1 ow2 ∧ J l 0 [] lc1 ow2)
    (hcell : ∀ y ∈ scope.names, y.2 ≠ .cell := by decide +kernel) (hkind : autoParam (scope.kind = .function) kr0) (hnames : ∀ y ∈ scope.names, y.2 = .local → scope.names.lookup y.1 = some .local := by decide +kernel)
    (hxk : autoParam (∀ C, (compEnvC scope cl C env).kindOf x = some .local) kr1)
    (hs : autoParam (∀ x, foldedSetIterable iter env x = pure x) kr1) :
    Cmp1 c elt iter x px ifs scope env lc ow fun use Q => ∀ l ys lc ow D C d, J l xs.length ys lc ow → CFin c use Q D C ys d lc ow := by
  refine ⟨fun pos p use Q fin => comp_gen xs.length (fun k => xs.getD k .none) (fun l k => .lit l k) J (fun l k it lc ow Q hm h => itr_lit hm h) (fun l k it ys lc ow D C d Q hk hJ q => ?_) (fun l it ys lc ow D C d Q hJ q => ?_) hclos hcell hkind hnames hlen (fun l k ys lc ow D C d itx hk hJ hd => ?_) fin (h.mono fun v lc1 ow1 ⟨l, e, ow2, P, hJ⟩ => ?_) hxk hs⟩
  · refine nxt_list (xs := xs) (.tail (.tail .head)) (.tail _ (.tail _ (.tail _ (hm _ _ _ _ _ hJ)))) ?_ q
    rw [List.getD_eq_getElem?_getD, List.getElem?_eq_getElem hk]; rfl
  · have hx := hh _ _ _ _ _ hJ
    refine nxt_list_endH (xs := xs) ?_ (.tail (.tail .head)) (.tail _ (.tail _ (.tail _ (hm _ _ _ _ _ hJ)))) (List.getElem?_eq_none (Nat.le_refl _)) q
    rcases hx with hx | ⟨e, X, hx, hme⟩
    · exact .inl hx
    · exact .inr ⟨e, X, hx, .tail _ (.tail _ (.tail _ hme))⟩
  · refine step l k _ ys lc ow D C d itx ?_ hJ hd
    rw [List.getD_eq_getElem?_getD, List.getElem?_eq_getElem hk]; rfl
  · subst e
    refine ⟨fun v rv => AWp.weak P (Itr.run (itr_list (hm _ _ _ _ _ hJ) fun it => ⟨l, ow2, .all, hJ⟩) v rv)⟩
theorem lc_rng {elt iter : PySem.Expr} {x : Str} {px : Pos} {ifs : List PySem.Expr} {scope : Scope} {cl : List (Str × Addr)} (N : Nat) (J : Nat → List AV → LC → OW → Prop) (hh : ∀ k ys lc ow, J k ys lc ow → HeldC c ow)
    (hclos : closureFor scope env = pure cl)
    (step : ∀ (k : Nat) ys lc ow D C d itx, k < N → J k ys lc ow → lget d x = some (.int k) → BX c (testsOf ifs (compEnvC scope cl C env)) lc ((D, .list ys) :: (C, .ns d) :: itx :: ow) fun ok lc5 ow5 =>
      Br ok (EV c (eval elt (compEnvC scope cl C env)) lc5 ow5 fun y lc6 ow6 => ∃ d' ow7, Pick ow6 ((D, .list ys) :: (C, .ns d') :: itx :: ow7) ∧ J (k + 1) (ys ++ [y]) lc6 ow7)
        (∃ d' ow7, Pick ow5 ((D, .list ys) :: (C, .ns d') :: itx :: ow7) ∧ J (k + 1) ys lc5 ow7))
    (hlen : ∀ k ys lc ow, J k ys lc ow → ys.length < 1000000)
    (h : EV c (eval iter env) lc ow fun v lc1 ow1 => ∃ r ow2, v = .ref r ∧ Pick ow1 ((r, .rng 0 N 1) :: ow2) ∧ N ≤ 1000000 ∧ J 0 [] lc1 ow2)
    (hcell : ∀ y ∈ scope.names, y.2 ≠ .cell := by decide +kernel) (hkind : autoParam (scope.kind = .function) kr0) (hnames : ∀ y ∈ scope.names, y.2 = .local → scope.names.lookup y.1 = some .local := by decide +kernel)
    (hxk : autoParam (∀ C, (compEnvC scope cl C env).kindOf x = some .local) kr1)
    (hs : autoParam (∀ x, foldedSetIterable iter env x = pure x) kr1) :
    Cmp1 c elt iter x px ifs scope env lc ow fun use Q => ∀ ys lc ow D C d, J N ys lc ow → CFin c use Q D C ys d lc ow := by
  refine ⟨fun pos p use Q fin => comp_gen N (fun k => .int k) (fun _ k => rIt k ((N : Int) - k) 1) (fun _ => J) (fun _ k it lc ow Q hm h => ?_) (fun l k it ys lc ow D C d Q hk hJ q => ?_) (fun l it ys lc ow D C d Q hJ q => ?_) hclos hcell hkind hnames (fun _ => hlen) (fun _ => step) (fun _ => fin) (h.mono fun v lc1 ow1 ⟨r, ow2, e, P, hN, hJ⟩ => ?_) hxk hs⟩
  · refine ⟨?_⟩
    rintro _ rfl
    refine ⟨fun s P E R kp => ?_⟩
    obtain ⟨o, ⟨rfl, _⟩, ho⟩ := R.get hm
    exact wpAny_pyIter_rangeiter ho (kp it _ _ _ s.heap s.toks h rfl R)
  · refine nxt_range (.tail (.tail .head)) (by wtm_at "om") ?_
    rw [show (k : Int) + 1 = ((k + 1 : Nat) : Int) by wtm_at "om", show (N : Int) - k - 1 = (N : Int) - ((k + 1 : Nat) : Int) by wtm_at "om"]
    exact q
  · have hx := hh _ _ _ _ hJ
    refine nxt_range_endH ?_ (.tail (.tail .head)) (by wtm_at "om") q
    rcases hx with hx | ⟨e, X, hx, hme⟩
    · exact .inl hx
    · exact .inr ⟨e, X, hx, .tail _ (.tail _ (.tail _ hme))⟩
  · subst e
    refine ⟨fun v rv => AWp.weak P (Itr.run (itr_range mem0 (small_one (by wtm_at "om") (by wtm_at "om") (by wtm_at "om") (by wtm_at "om")) fun it => ⟨0, ow2, ?_, hJ⟩) v rv)⟩
    rw [show Builtin.Range.rangeSize 0 (N : Int) 1 = N by simp [Builtin.Range.rangeSize]; wtm_at "om"]
    simp only [Int.natCast_zero, Int.sub_zero]
    exact Pick.cons .head (.drop .all)
end
section
variable {K : Frag} {c : Cx} {lc lc' : LC} {ow ow' : OW} {env : Env} {n : Nat}
theorem asg_t2 {x y : Str} {px py k tpos} {t : Addr} {a b : AV} {Q} (hh : c.A.handled = none) (ht : (t, AO.tup [a, b]) ∈ ow) (h : Asg c env (.Name x px) a lc ow fun lc1 ow1 => Asg c env (.Name y py) b lc1 ow1 Q) : Asg c env (.Tuple [.Name x px, .Name y py] k tpos) (.ref t) lc ow Q := by
  refine asg_tuple (ts := [assign (.Name x px) env, assign (.Name y py) env]) hh ht (ao_asg ?_)
  refine ⟨fun v ra => (h.run v ra).mono fun _ lc1 ow1 q => ao_asg ⟨fun v rb => (q.run v rb).mono fun _ lc2 ow2 q2 => ao_nil q2⟩⟩
theorem asg_t3 {x y z : Str} {px py pz k tpos} {t : Addr} {a b d : AV} {Q} (hh : c.A.handled = none) (ht : (t, AO.tup [a, b, d]) ∈ ow) (h : Asg c env (.Name x px) a lc ow fun lc1 ow1 => Asg c env (.Name y py) b lc1 ow1 fun lc2 ow2 => Asg c env (.Name z pz) d lc2 ow2 Q) : Asg c env (.Tuple [.Name x px, .Name y py, .Name z pz] k tpos) (.ref t) lc ow Q := by
  refine asg_tuple (ts := [assign (.Name x px) env, assign (.Name y py) env, assign (.Name z pz) env]) hh ht (ao_asg ?_)
  refine ⟨fun v ra => (h.run v ra).mono fun _ lc1 ow1 q => ao_asg ⟨fun v rb => (q.run v rb).mono fun _ lc2 ow2 q2 => ao_asg ⟨fun v rd => (q2.run v rd).mono fun _ lc3 ow3 q3 => ao_nil q3⟩⟩⟩
theorem sx_swap2 {x y : Str} {px py k tpos value pos} {Q : AF → LC → OW → Prop} (hh : c.A.handled = none) (h : EV c (eval value env) lc ow fun a lc1 ow1 => ∃ t x1 x2, a = .ref t ∧ (t, AO.tup [x1, x2]) ∈ ow1 ∧ Sto c env y x2 lc1 ow1 fun lc2 ow2 => Sto c env x x1 lc2 ow2 (Q .next))
    (hs : autoParam (swapsWithSole [.Tuple [.Name x px, .Name y py] k tpos] value pos.line env = pure false) kr0) (hw : autoParam (swappedStores [.Tuple [.Name x px, .Name y py] k tpos] value env = pure (some [x, y])) kr0) : SX c (exec (.Assign [.Tuple [.Name x px, .Name y py] k tpos] value pos) env) lc ow Q := by
  refine sx_swap (names := [x, y]) hh (h.mono fun a lc1 ow1 ⟨t, x1, x2, e, hm, q⟩ => ⟨t, [x1, x2], e, hm, rfl, ?_⟩) hs hw
  refine ao_bind ⟨fun v ra => (q.run v ra).mono fun _ lc1 ow1 q => ao_bind ⟨fun v rb => (q.run v rb).mono fun _ lc2 ow2 q2 => ao_nil q2⟩⟩
theorem sx_swap3 {x y z : Str} {px py pz k tpos value pos} {Q : AF → LC → OW → Prop} (hh : c.A.handled = none) (h : EV c (eval value env) lc ow fun a lc1 ow1 => ∃ t x1 x2 x3, a = .ref t ∧ (t, AO.tup [x1, x2, x3]) ∈ ow1 ∧ Sto c env z x3 lc1 ow1 fun lc2 ow2 => Sto c env y x2 lc2 ow2 fun lc3 ow3 => Sto c env x x1 lc3 ow3 (Q .next))
    (hs : autoParam (swapsWithSole [.Tuple [.Name x px, .Name y py, .Name z pz] k tpos] value pos.line env = pure false) kr0) (hw : autoParam (swappedStores [.Tuple [.Name x px, .Name y py, .Name z pz] k tpos] value env = pure (some [x, y, z])) kr0) : SX c (exec (.Assign [.Tuple [.Name x px, .Name y py, .Name z pz] k tpos] value pos) env) lc ow Q := by
  refine sx_swap (names := [x, y, z]) hh (h.mono fun a lc1 ow1 ⟨t, x1, x2, x3, e, hm, q⟩ => ⟨t, [x1, x2, x3], e, hm, rfl, ?_⟩) hs hw
  refine ao_bind ⟨fun v ra => (q.run v ra).mono fun _ lc1 ow1 q => ao_bind ⟨fun v rb => (q.run v rb).mono fun _ lc2 ow2 q2 => ao_bind ⟨fun v rc => (q2.run v rc).mono fun _ lc3 ow3 q3 => ao_nil q3⟩⟩⟩
end
section
variable {c : Cx} {lc lc' : LC} {ow ow' : OW} {env : Env}
theorem AWp.fgt {α β : Type} {rp : β → α → Prop} {t : Sem α} {Q : β → LC → OW → Prop} (k : LSub lc' lc) (h : AWp c rp t lc' ow Q) : AWp c rp t lc ow Q := AWp.forget k h
theorem Args.weak {pos es} {Q : List AV → LC → OW → Prop} (p : Pick ow ow') (h : Args c env pos es lc ow' Q) : Args c env pos es lc ow Q := ⟨AWp.weak p h.run⟩
theorem Cal.weak {f as kw} {Q} (p : Pick ow ow') (h : Cal c f as kw lc ow' Q) : Cal c f as kw lc ow Q := ⟨fun fv vs kvs a b d e => AWp.weak p (h.run fv vs kvs a b d e)⟩
theorem Sto.weak {x a} {Q} (p : Pick ow ow') (h : Sto c env x a lc ow' Q) : Sto c env x a lc ow Q := ⟨fun v ra => AWp.weak p (h.run v ra)⟩
theorem Asg.weak {t a} {Q} (p : Pick ow ow') (h : Asg c env t a lc ow' Q) : Asg c env t a lc ow Q := ⟨fun v ra => AWp.weak p (h.run v ra)⟩
end
section
variable {c : Cx} {lc lc' : LC} {ow ow' : OW} {env : Env}
/-- for over a range, whatever the target -/
theorem sx_rngA {target : PySem.Expr} {iter body orelse pos} {Q : AF → LC → OW → Prop} (N : Nat) (J : Nat → LC → OW → Prop) (hh : ∀ k lc ow, J k lc ow → HeldC c ow)
    (step : ∀ (k : Nat) lc ow, k < N → J k lc ow → ∀ it o, Asg c env target (.int k) lc ((it, o) :: ow) fun lc2 ow2 => SX c (execs body env) lc2 ow2 (LpQ (fun lc3 ow3 => ∃ lc4 ow4, Pick ow3 ((it, o) :: ow4) ∧ LSub lc4 lc3 ∧ J (k + 1) lc4 ow4) (fun _ _ => False) fun b => Q (.ret b)))
    (fin : ∀ lc ow, J N lc ow → SX c (execs orelse env) lc ow Q)
    (h : EV c (eval iter env) lc ow fun v lc1 ow1 => ∃ r ow2, v = .ref r ∧ Pick ow1 ((r, .rng 0 N 1) :: ow2) ∧ N ≤ 1000000 ∧ J 0 lc1 ow2)
    (hs : autoParam (∀ x, foldedSetIterable iter env x = pure x) kr1) (ht : autoParam (∀ it v, letOwnedTupleGo target it v = pure ()) kr2) : SX c (exec (.For target iter body orelse pos) env) lc ow Q :=
  sx_gen (σ := Unit) N (fun _ k => rIt k ((N : Int) - k) 1) (fun k => .int k) (fun _ => J)
    (fun _ k it lc ow R hk _ h => nxt_range Upd.head (by wtm_at "om") (by rw [show (k : Int) + 1 = ((k + 1 : Nat) : Int) by wtm_at "om", show (N : Int) - k - 1 = (N : Int) - ((k + 1 : Nat) : Int) by wtm_at "om"]; exact h))
    (fun _ it lc ow R hJ h => nxt_range_endH ((hh _ _ _ hJ).imp id fun ⟨e, X, hx, hme⟩ => ⟨e, X, hx, .tail _ hme⟩) Take.head (by wtm_at "om") h)
    (fun _ k lc ow it o hlt hJ => step k lc ow hlt hJ it o) (fun _ => fin)
    (h.mono fun v lc1 ow1 ⟨r, ow2, e, P, hN, hJ⟩ => by
      subst e
      refine ⟨fun v rv => AWp.weak P ((itr_range mem0 (small_one (by wtm_at "om") (by wtm_at "om") (by wtm_at "om") (by wtm_at "om")) fun it => ⟨(), lc1, ow2, ?_, ls_self, hJ⟩).run v rv)⟩
      rw [show Builtin.Range.rangeSize 0 (N : Int) 1 = N by simp [Builtin.Range.rangeSize]; wtm_at "om"]
      simp only [Int.natCast_zero, Int.sub_zero]
      exact Pick.cons Take.head (Pick.drop Pick.all)) hs ht
end
theorem loc_of {ls : LC} {names : List Str} {sc : Scope} (hn : ls.map (·.1) = names) (h : ∀ x ∈ names, sc.names.lookup x = some .local) : ∀ p ∈ ls, sc.names.lookup p.1 = some .local := fun p hp => h _ (by rw [← hn]; exact List.mem_map_of_mem hp)
/-- picks, in the order asked -/
local macro_rules | `(tactic| wtm_at "pks") => `(tactic| first | with_reducible exact Pick.nil | wtm_at "pk" | (with_reducible (show Pick _ (_ :: _); refine Pick.cons (by wtm_at "tk") ?_); wtm_at "pks"))

section
noncomputable def famS (shift : Int) (fam : List Int) (row : Int) : List Int := if Builtin.bitXor shift row ∉ fam then fam ++ fam.map fun x => Builtin.bitXor x row else fam
noncomputable def fam (shift : Int) (rows : List Int) : List Int := rows.foldl (famS shift) [shift]
theorem famS_len (shift : Int) (f : List Int) (row : Int) : (famS shift f row).length ≤ 2 * f.length := by
  unfold famS
  split
  · simp; wtm_at "om"
  · wtm_at "om"
theorem fam_len (shift : Int) (rows : List Int) : ∀ f, (rows.foldl (famS shift) f).length ≤ 2 ^ rows.length * f.length := by
  induction rows with
  | nil => intro f; simp
  | cons r rs ih =>
    intro f
    rw [List.foldl_cons, List.length_cons, Nat.pow_succ, Nat.mul_assoc]
    exact Nat.le_trans (ih _) (Nat.mul_le_mul_left _ (famS_len shift f r))
set_option maxHeartbeats 2000000
theorem cal_family {K : Frag} {c : Cx} {env : Env} {lr : Addr} {rows : List Int} {shift : Int} {d : Nat} {ow} {Q : AV → LC → OW → Prop} {lc : LC} (A : Act K c (d + 1) env) (O : KOk K) (hh : c.A.handled = none) (hr : rows.length ≤ 3)
    (hm : (lr, AO.list (rows.map .int)) ∈ ow) (h : ∀ l, Q (.ref l) lc ((l, .list ((fam shift rows).map .int)) :: ow)) :
    Cal c (.con (.ref 151)) [.ref lr, .int shift] [] lc ow Q := by
  refine cal_cells (names := ["rows", "shift"]) (ls := [("rows", .ref lr), ("shift", .int shift)]) (cw := fun L => [(L + 1, .cell none)]) A O.family rfl (by decide +kernel) (by decide +kernel) (len2 fun u v doc pm an ct => by kernel_rfl) (fun _ _ e => e) (loc_of (names := ["rows", "shift"]) rfl (by decide +kernel)) (by decide +kernel) (fun L' => by kernel_rfl) (by decide +kernel) (by kernel_rfl) (by kernel_rfl) (by kernel_rfl) fun c hw hc A => ?_
  show SX c (execs (fBody (stAt 22)) (envOfC "_law_family" (fScope (stAt 22)) c.L 151 (.ref 150))) [("rows", .ref lr), ("shift", .int shift)] ((c.L + 1, .cell none) :: ow) (retP Q lc)
  rw [← hc] at hh
  refine sx_cons ?_
  repeat wtm_at "a1"
  refine ev_list ?_
  repeat wtm_at "a1"
  refine ⟨by simp, fun l0 => ?_⟩
  repeat wtm_at "a1"
  refine sx_each (rows.map .int) (fun k lc1 ow1 => ∃ l cv, lc1 = ([("rows", .ref lr), ("shift", .int shift), ("family", .ref l)] : LC) ∧ ow1 = (l, .list ((fam shift (rows.take k)).map .int)) :: (c.L + 1, .cell cv) :: ow) hh ?_ ?_ ?_
  · intro k x lc1 ow1 hx
    revert lc1 ow1
    refine el_2EE fun l cv => ?_
    intro it o
    rw [List.getElem?_map] at hx
    refine bc fun hG => ?_
    obtain ⟨r, hr1, rfl⟩ := Option.map_eq_some_iff.mp hx
    refine hG ?_
    clear hG
    refine asg_name (sto_cell (d := c.L + 1) (by kernel_rfl) (.tail (.tail .head)) ?_)
    have e : fam shift (rows.take (k + 1)) = famS shift (fam shift (rows.take k)) r := by
      unfold fam; rw [List.take_add_one, hr1, List.foldl_append]; rfl
    have hk : k < rows.length := (List.getElem?_eq_some_iff.mp hr1).1
    have hl := fam_len shift (rows.take k) [shift]
    have hl' : (fam shift (rows.take k)).length ≤ 8 := by
      unfold fam
      refine Nat.le_trans hl ?_
      have : (rows.take k).length ≤ 3 := by simp; wtm_at "om"
      have := Nat.pow_le_pow_right (n := 2) (by decide) this
      simpa using this
    generalize hf : fam shift (rows.take k) = f at hl' e
    refine sx_cons ?_
    repeat wtm_at "a1"
    refine ev_name (ld_cell (d := c.L + 1) (by kernel_rfl) (by wtm_at "mm") ?_)
    repeat wtm_at "a1"
    refine notin_ints (by wtm_at "mm") rfl ?_
    repeat wtm_at "a1"
    refine br_dec (fun hin => ?_) fun hin => ?_
    · repeat wtm_at "a1"
      refine ev_lc (lc_list (cl := [("row", c.L + 1)]) (f.map .int) (fun l' k' ys lc1 ow1 => l' = l ∧ k' ≤ f.length ∧ lc1 = ([("rows", .ref lr), ("shift", .int shift), ("family", .ref l)] : LC) ∧ ow1 = ((it, o) :: (l, .list (f.map .int)) :: (c.L + 1, .cell (some (.int r))) :: ow) ∧ ys = (f.take k').map fun x => AV.int (Builtin.bitXor x r)) ?_ ?_ ?_ ?_ ?_ ?_) ?_
      · exact fun _ _ _ _ _ _ => .inl hh
      · intro l' k' ys lc1 ow1; revert l' ys lc1 ow1; refine el_c5 fun _ => ?_; wtm_at "mm"
      · kernel_rfl
      · intro l' k' a ys lc1 ow1 D C dd itx ha
        revert l' ys lc1 ow1
        refine el_c5 fun hk' => ?_
        intro hg
        rw [List.getElem?_map] at ha
        refine bc fun hG => ?_
        obtain ⟨x, hx1, rfl⟩ := Option.map_eq_some_iff.mp ha
        refine hG ?_
        clear hG
        refine bt_nil (br_t ?_)
        refine ev_bin ?_
        refine ev_name (ld_ns (.tail _ (.head _)) hg ?_)
        refine ev_name (ld_cell (d := c.L + 1) (by kernel_rfl) (by wtm_at "mm") ?_)
        refine b_xor ⟨dd, _, .all, rfl, ?_, rfl, rfl, ?_⟩
        · have := (List.getElem?_eq_some_iff.mp hx1).1; wtm_at "om"
        · rw [List.take_add_one, hx1, List.map_append]; rfl
      · rintro _ k' ys lc1 ow1 ⟨_, _, rfl, rfl, rfl⟩; simp; wtm_at "om"
      · refine ev_name (ld_local (by wtm_at "lg") ⟨l, rfl, _, .all, rfl, Nat.zero_le _, rfl, rfl, rfl⟩)
      · intro l' ys lc1 ow1 D C dd
        revert l' ys lc1 ow1
        refine el_c5 fun _ => ?_
        refine cf_none ?_
        refine b_addl (xs := f.map .int) (by wtm_at "mm") (by wtm_at "mm") (by simp; wtm_at "om") fun l2 => ?_
        repeat wtm_at "a1"
        rw [show f.map AV.int ++ (f.take (f.map AV.int).length).map (fun x => AV.int (Builtin.bitXor x r)) = (fam shift (rows.take (k + 1))).map AV.int by
          rw [e]; unfold famS; rw [if_pos hin, List.length_map, List.take_of_length_le (Nat.le_refl _)]; simp]
        exact ⟨_, (l2, .list ((fam shift (rows.take (k + 1))).map .int)) :: (c.L + 1, .cell (some (.int r))) :: ow, by wtm_at "pks", by wtm_at "ls", l2, some (.int r), rfl, rfl⟩
    · repeat wtm_at "a1"
      rw [show f.map AV.int = (fam shift (rows.take (k + 1))).map AV.int by rw [e]; unfold famS; rw [if_neg hin]]
      exact ⟨_, (l, .list ((fam shift (rows.take (k + 1))).map .int)) :: (c.L + 1, .cell (some (.int r))) :: ow, by wtm_at "pks", by wtm_at "ls", l, some (.int r), rfl, rfl⟩
  · refine el_2EE fun l cv => ?_
    repeat wtm_at "a1"
    rw [List.length_map, List.take_of_length_le (Nat.le_refl _)]
    exact ret_ok (lc' := []) (ow'' := (l, .list ((fam shift rows).map .int)) :: ow) (by wtm_at "pks") (h l)
  · repeat wtm_at "a1"
    refine ⟨lr, rfl, by wtm_at "mm", ?_, _, .all, l0, none, rfl, rfl⟩
    rintro k _ _ ⟨l, cv, rfl, rfl⟩
    wtm_at "mm"
end

section
noncomputable def oddL : Nat → List Int
  | 0 => [0]
  | k + 1 => oddL k ++ (oddL k).map fun x => 1 - x
noncomputable def onesL : Nat → List Int
  | 0 => [0]
  | k + 1 => onesL k ++ (onesL k).map fun x => x + 1
noncomputable def odd5 (i : Int) : Int := (oddL 5).getD i.toNat 0
noncomputable def ones5 (n : Nat) : Nat := ((onesL 5).getD n 0).toNat
noncomputable def toldS (rows : List Int) (shift : Int) (t : List Int) (n : Nat) : List Int :=
  if rows.filter (fun r => decide (odd5 (Builtin.bitAnd n r) ≠ 0)) = [] then t.set (ones5 n) (t.getD (ones5 n) 0 + (1 - 2 * odd5 (Builtin.bitAnd n shift))) else t
noncomputable def toldM (rows : List Int) (shift : Int) : Nat → List Int
  | 0 => List.replicate 6 0
  | n + 1 => toldS rows shift (toldM rows shift n) n
theorem toldM_len (rows : List Int) (shift : Int) : ∀ n, (toldM rows shift n).length = 6
  | 0 => rfl
  | n + 1 => by
    show (toldS _ _ _ _).length = 6
    unfold toldS
    split
    · rw [List.length_set, toldM_len]
    · exact toldM_len rows shift n
theorem oddL_len : ∀ k, (oddL k).length = 2 ^ k
  | 0 => rfl
  | k + 1 => by rw [oddL, List.length_append, List.length_map, oddL_len k, Nat.pow_succ]; wtm_at "om"
theorem onesL_len : ∀ k, (onesL k).length = 2 ^ k
  | 0 => rfl
  | k + 1 => by rw [onesL, List.length_append, List.length_map, onesL_len k, Nat.pow_succ]; wtm_at "om"
theorem odd5_get {i : Int} (h0 : 0 ≤ i) (h : i < 32) : (oddL 5)[i.toNat]? = some (odd5 i) := by
  unfold odd5
  rw [List.getD_eq_getElem?_getD, List.getElem?_eq_getElem (by rw [oddL_len]; wtm_at "om")]; rfl
theorem ones5_get {n : Nat} (h : n < 32) : (onesL 5)[n]? = some (ones5 n : Int) ∧ ones5 n ≤ 5 := by
  have : ∀ n, n < 32 → (onesL 5)[n]? = some (ones5 n : Int) ∧ ones5 n ≤ 5 := by decide +kernel
  exact this n h
set_option maxHeartbeats 4000000
theorem cal_told {K : Frag} {c : Cx} {env : Env} {lr : Addr} {rows : List Int} {shift : Int} {d : Nat} {ow} {Q : AV → LC → OW → Prop} {lc : LC} (A : Act K c (d + 1) env) (O : KOk K) (hh : c.A.handled = none) (hr : rows.length ≤ 3) (hr2 : ∀ r ∈ rows, 0 ≤ r ∧ r < 32) (hs0 : 0 ≤ shift) (hs1 : shift < 32)
    (hm : (lr, AO.list (rows.map .int)) ∈ ow) (h : ∀ l, Q (.ref l) lc ((l, .list ((toldM rows shift 32).map .int)) :: ow)) :
    Cal c (.con (.ref 182)) [.ref lr, .int shift] [] lc ow Q := by
  refine cal_cells (names := ["rows", "shift"]) (ls := [("rows", .ref lr), ("shift", .int shift)]) (cw := fun L => [(L + 2, .cell none), (L + 1, .cell none)]) A O.told rfl (by decide +kernel) (by decide +kernel) (len2 fun u v doc pm an ct => by kernel_rfl) (fun _ _ e => e) (loc_of (names := ["rows", "shift"]) rfl (by decide +kernel)) (by decide +kernel) (fun L' => by kernel_rfl) (by decide +kernel) (by kernel_rfl) (by kernel_rfl) (by kernel_rfl) fun c hw hc A => ?_
  show SX c (execs (fBody (stAt 27)) (envOfC "_law_told" (fScope (stAt 27)) c.L 182 (.ref 181))) [("rows", .ref lr), ("shift", .int shift)] ((c.L + 2, .cell none) :: (c.L + 1, .cell none) :: ow) (retP Q lc)
  have hrg := O.range
  rw [← hc] at hh
  refine sx_cons ?_
  refine sx_tuple ?_
  refine ev_tup ?_
  repeat wtm_at "a1"
  refine ev_list ?_
  repeat wtm_at "a1"
  refine ⟨by simp, fun l0 => ?_⟩
  repeat wtm_at "a1"
  refine ev_list ?_
  repeat wtm_at "a1"
  refine ⟨by simp, fun l1 => ?_⟩
  repeat wtm_at "a1"
  refine ev_list ?_
  repeat wtm_at "a1"
  refine ⟨by simp, fun l2 => ?_⟩
  repeat wtm_at "a1"
  refine b_mull (xs := [.int 0]) (by wtm_at "mm") (by decide) (by decide) (by decide) fun l3 => ?_
  repeat wtm_at "a1"
  refine ⟨by simp, fun l4 => ?_⟩
  refine asg_t3 hh (by wtm_at "mm") (asg_name (sto_cell (d := c.L + 1) (by kernel_rfl) (by wtm_at "up") ?_))
  repeat wtm_at "a1"
  rw [show (List.replicate (Int.toNat 6) [AV.int 0]).flatten = (List.replicate 6 (0 : Int)).map AV.int from rfl]
  refine AWp.weak (ow' := (c.L + 1, .cell (some (.ref l0))) :: (c.L + 2, .cell none) :: (l0, .list [.int 0]) :: (l1, .list [.int 0]) :: (l3, .list ((List.replicate 6 (0 : Int)).map .int)) :: ow) (by wtm_at "pks") ?_
  refine sx_rng 5 (fun k lc1 ow1 => ∃ a b, lc1 = ([("rows", .ref lr), ("shift", .int shift), ("ones", .ref b), ("told", .ref l3)] : LC) ∧ ow1 = (c.L + 1, .cell (some (.ref a))) :: (c.L + 2, .cell none) :: (a, .list ((oddL k).map .int)) :: (b, .list ((onesL k).map .int)) :: (l3, .list ((List.replicate 6 (0 : Int)).map .int)) :: ow) hh ?_ ?_ ?_
  · intro k lc1 ow1 hk
    revert lc1 ow1
    refine el_2EE fun a b => ?_
    refine ⟨_, by wtm_at "pt", fun it o => ?_⟩
    refine AWp.fgt (lc' := [("rows", .ref lr), ("shift", .int shift), ("ones", .ref b), ("told", .ref l3)]) (by wtm_at "ls") ?_
    have z1 := oddL_len k
    have z2 := onesL_len k
    have z3 : 2 ^ k ≤ 2 ^ 5 := Nat.pow_le_pow_right (by decide) (by wtm_at "om")
    refine sx_cons ?_
    refine sx_tuple ?_
    refine ev_tup ?_
    refine args_cons ?_
    refine ev_bin ?_
    refine ev_name (ld_cell (d := c.L + 1) (by kernel_rfl) (by wtm_at "mm") ?_)
    refine ev_lc (lc_list (cl := []) ((oddL k).map .int) (fun l' k' ys lc1 ow1 => l' = a ∧ k' ≤ (oddL k).length ∧ lc1 = ([("rows", .ref lr), ("shift", .int shift), ("ones", .ref b), ("told", .ref l3)] : LC) ∧ ow1 = ((it, o) :: (c.L + 1, .cell (some (.ref a))) :: (c.L + 2, .cell none) :: (a, .list ((oddL k).map .int)) :: (b, .list ((onesL k).map .int)) :: (l3, .list ((List.replicate 6 (0 : Int)).map .int)) :: ow) ∧ ys = ((oddL k).take k').map fun x => AV.int (1 - x)) ?_ ?_ ?_ ?_ ?_ ?_) ?_
    · exact fun _ _ _ _ _ _ => .inl hh
    · intro l' k' ys lc1 ow1; revert l' ys lc1 ow1; refine el_c5 fun _ => ?_; wtm_at "mm"
    · kernel_rfl
    · intro l' k' v ys lc1 ow1 D C dd itx ha
      revert l' ys lc1 ow1
      refine el_c5 fun hk' => ?_
      intro hg
      rw [List.getElem?_map] at ha
      refine bc fun hG => ?_
      obtain ⟨x, hx1, rfl⟩ := Option.map_eq_some_iff.mp ha
      refine hG ?_
      clear hG
      refine bt_nil (br_t ?_)
      refine ev_bin ?_
      refine ev_int ?_
      refine ev_name (ld_ns (.tail _ (.head _)) hg ?_)
      refine b_sub ⟨dd, _, .all, rfl, ?_, rfl, rfl, ?_⟩
      · have := (List.getElem?_eq_some_iff.mp hx1).1; wtm_at "om"
      · rw [List.take_add_one, hx1, List.map_append]; rfl
    · rintro _ k' ys lc1 ow1 ⟨_, _, rfl, rfl, rfl⟩; simp; wtm_at "om"
    · refine ev_name (ld_cell (d := c.L + 1) (by kernel_rfl) (by wtm_at "mm") ⟨a, rfl, _, .all, rfl, Nat.zero_le _, rfl, rfl, rfl⟩)
    intro l' ys lc1 ow1 D C dd
    revert l' ys lc1 ow1
    refine el_c5 fun _ => ?_
    refine cf_none ?_
    refine b_addl (xs := (oddL k).map .int) (by wtm_at "mm") (by wtm_at "mm") (by simp; wtm_at "om") fun l5 => ?_
    rw [show (oddL k).map AV.int ++ ((oddL k).take ((oddL k).map AV.int).length).map (fun x => AV.int (1 - x)) = (oddL (k + 1)).map AV.int by
      rw [List.length_map, List.take_of_length_le (Nat.le_refl _), oddL]; simp]
    refine Args.weak (ow' := (l5, .list ((oddL (k + 1)).map .int)) :: (it, o) :: (c.L + 1, .cell (some (.ref a))) :: (c.L + 2, .cell none) :: (b, .list ((onesL k).map .int)) :: (l3, .list ((List.replicate 6 (0 : Int)).map .int)) :: ow) (by wtm_at "pks") ?_
    refine args_cons ?_
    refine ev_bin ?_
    repeat wtm_at "a1"
    refine ev_lc (lc_list (cl := []) ((onesL k).map .int) (fun l' k' ys lc1 ow1 => l' = b ∧ k' ≤ (onesL k).length ∧ lc1 = ([("rows", .ref lr), ("shift", .int shift), ("ones", .ref b), ("told", .ref l3)] : LC) ∧ ow1 = ((l5, .list ((oddL (k + 1)).map .int)) :: (it, o) :: (c.L + 1, .cell (some (.ref a))) :: (c.L + 2, .cell none) :: (b, .list ((onesL k).map .int)) :: (l3, .list ((List.replicate 6 (0 : Int)).map .int)) :: ow) ∧ ys = ((onesL k).take k').map fun x => AV.int (x + 1)) ?_ ?_ ?_ ?_ ?_ ?_) ?_
    · exact fun _ _ _ _ _ _ => .inl hh
    · intro l' k' ys lc1 ow1; revert l' ys lc1 ow1; refine el_c5 fun _ => ?_; wtm_at "mm"
    · kernel_rfl
    · intro l' k' v ys lc1 ow1 D C dd itx ha
      revert l' ys lc1 ow1
      refine el_c5 fun hk' => ?_
      intro hg
      rw [List.getElem?_map] at ha
      refine bc fun hG => ?_
      obtain ⟨x, hx1, rfl⟩ := Option.map_eq_some_iff.mp ha
      refine hG ?_
      clear hG
      refine bt_nil (br_t ?_)
      refine ev_bin ?_
      refine ev_name (ld_ns (.tail _ (.head _)) hg ?_)
      refine ev_int ?_
      refine b_add ⟨dd, _, .all, rfl, ?_, rfl, rfl, ?_⟩
      · have := (List.getElem?_eq_some_iff.mp hx1).1; wtm_at "om"
      · rw [List.take_add_one, hx1, List.map_append]; rfl
    · rintro _ k' ys lc1 ow1 ⟨_, _, rfl, rfl, rfl⟩; simp; wtm_at "om"
    · refine ev_name (ld_local (by wtm_at "lg") ⟨b, rfl, _, .all, rfl, Nat.zero_le _, rfl, rfl, rfl⟩)
    intro l' ys lc1 ow1 D C dd
    revert l' ys lc1 ow1
    refine el_c5 fun _ => ?_
    refine cf_none ?_
    refine b_addl (xs := (onesL k).map .int) (by wtm_at "mm") (by wtm_at "mm") (by simp; wtm_at "om") fun l6 => ?_
    rw [show (onesL k).map AV.int ++ ((onesL k).take ((onesL k).map AV.int).length).map (fun x => AV.int (x + 1)) = (onesL (k + 1)).map AV.int by
      rw [List.length_map, List.take_of_length_le (Nat.le_refl _), onesL]; simp]
    refine args_nil ⟨by simp, fun l7 => ?_⟩
    refine asg_t2 hh (by wtm_at "mm") (asg_name (sto_cell (d := c.L + 1) (by kernel_rfl) (by wtm_at "up") ?_))
    repeat wtm_at "a1"
    exact ⟨_, (c.L + 1, .cell (some (.ref l5))) :: (c.L + 2, .cell none) :: (l5, .list ((oddL (k + 1)).map .int)) :: (l6, .list ((onesL (k + 1)).map .int)) :: (l3, .list ((List.replicate 6 (0 : Int)).map .int)) :: ow, by wtm_at "pks", by wtm_at "ls", l5, l6, rfl, rfl⟩
  · refine el_2EE fun a b => ?_
    iterate 3 wtm_at "a0"
    refine sx_rngA 32 (fun k lc1 ow1 => ∃ cv, lc1 = ([("rows", .ref lr), ("shift", .int shift), ("ones", .ref b), ("told", .ref l3)] : LC) ∧ ow1 = (c.L + 1, .cell (some (.ref a))) :: (c.L + 2, .cell cv) :: (a, .list ((oddL 5).map .int)) :: (b, .list ((onesL 5).map .int)) :: (l3, .list ((toldM rows shift k).map .int)) :: ow) (fun _ _ _ _ => .inl hh) ?_ ?_ ?_
    · intro k lc1 ow1 hk
      revert lc1 ow1
      refine el_1EE fun cv => ?_
      intro it o
      refine asg_name (sto_cell (d := c.L + 2) (by kernel_rfl) (by wtm_at "up") ?_)
      refine sx_cons ?_
      repeat wtm_at "a1"
      refine ev_lc (lc_list (cl := [("odd", c.L + 1), ("number", c.L + 2)]) (rows.map .int) (fun l' k' ys lc1 ow1 => l' = lr ∧ lc1 = ([("rows", .ref lr), ("shift", .int shift), ("ones", .ref b), ("told", .ref l3)] : LC) ∧ ow1 = ((it, o) :: (c.L + 1, .cell (some (.ref a))) :: (c.L + 2, .cell (some (.int k))) :: (a, .list ((oddL 5).map .int)) :: (b, .list ((onesL 5).map .int)) :: (l3, .list ((toldM rows shift k).map .int)) :: ow) ∧ ys = ((rows.take k').filter fun r => decide (odd5 (Builtin.bitAnd k r) ≠ 0)).map .int) ?_ ?_ ?_ ?_ ?_ ?_) ?_
      · exact fun _ _ _ _ _ _ => .inl hh
      · intro l' k' ys lc1 ow1; revert l' ys lc1 ow1; refine el_c4 ?_; wtm_at "mm"
      · kernel_rfl
      · intro l' k' v ys lc1 ow1 D C dd itx ha
        revert l' ys lc1 ow1
        refine el_c4 ?_
        intro hg
        rw [List.getElem?_map] at ha
        refine bc fun hG => ?_
        obtain ⟨x, hx1, rfl⟩ := Option.map_eq_some_iff.mp ha
        refine hG ?_
        clear hG
        have hxr := hr2 x (List.mem_of_getElem? hx1)
        have hb := bitAnd_range k hxr.1
        refine bt_one (bx_val ?_)
        refine ev_sub ?_
        refine ev_name (ld_cell (d := c.L + 1) (by kernel_rfl) (by wtm_at "mm") ?_)
        refine ev_bin ?_
        refine ev_name (ld_cell (d := c.L + 2) (by kernel_rfl) (by wtm_at "mm") ?_)
        refine ev_name (ld_ns (.tail _ (.head _)) hg ?_)
        refine b_and ?_
        refine sub_list (xs := (oddL 5).map .int) (x := .int (odd5 (Builtin.bitAnd k x))) (by wtm_at "mm") (by wtm_at "om") (by wtm_at "om") (by rw [List.getElem?_map, odd5_get (by wtm_at "om") (by wtm_at "om")]; rfl) ?_
        refine tru_int ?_
        refine br_dec (fun hne => ?_) fun hne => ?_
        · refine ev_name (ld_ns (.tail _ (.head _)) hg ?_)
          refine ⟨dd, _, .all, rfl, rfl, rfl, ?_⟩
          rw [List.take_add_one, hx1, List.filter_append, List.map_append]
          congr 1
          simp [hne]
        · refine ⟨dd, _, .all, rfl, rfl, rfl, ?_⟩
          rw [List.take_add_one, hx1, List.filter_append, List.map_append]
          have hne' : odd5 (Builtin.bitAnd k x) = 0 := by simpa using hne
          simp [hne']
      · rintro _ k' ys lc1 ow1 ⟨_, rfl, rfl, rfl⟩
        rw [List.length_map]
        have := List.length_filter_le (fun r => decide (odd5 (Builtin.bitAnd k r) ≠ 0)) (rows.take k')
        simp at this ⊢; wtm_at "om"
      · refine ev_name (ld_local (by wtm_at "lg") ⟨lr, rfl, _, .all, rfl, rfl, rfl, rfl⟩)
      intro l' ys lc1 ow1 D C dd
      revert l' ys lc1 ow1
      refine el_c4 ?_
      refine cf_none ?_
      refine ev_list ?_
      repeat wtm_at "a1"
      refine ⟨by simp, fun l8 => ?_⟩
      have hu : c.A.units ≤ 9000 := by have := A.units; wtm_at "om"
      rw [List.length_map, List.take_of_length_le (Nat.le_refl _)]
      refine c_eqli (ys := []) (ns := rows.filter fun r => decide (odd5 (Builtin.bitAnd k r) ≠ 0)) (ms := []) hu (by wtm_at "mm") (by wtm_at "mm") rfl rfl ?_
      repeat wtm_at "a1"
      have h6 := toldM_len rows shift k
      have ho := ones5_get hk
      have hb := bitAnd_range k hs0
      refine br_dec (fun hem => ?_) fun hem => ?_
      · have e : toldM rows shift (k + 1) = (toldM rows shift k).set (ones5 k) ((toldM rows shift k).getD (ones5 k) 0 + (1 - 2 * odd5 (Builtin.bitAnd k shift))) := by
          show toldS _ _ _ _ = _
          unfold toldS; rw [if_pos hem]
        refine sx_cons ?_
        refine sx_augitem ?_
        repeat wtm_at "a1"
        refine ev_name (ld_cell (d := c.L + 2) (by kernel_rfl) (by wtm_at "mm") ?_)
        refine sub_list (xs := (onesL 5).map .int) (k := (k : Int)) (x := .int (ones5 k)) (by wtm_at "mm") (by wtm_at "om") (by wtm_at "om") (by rw [List.getElem?_map, Int.toNat_natCast, ho.1]; rfl) ?_
        refine sub_list (xs := (toldM rows shift k).map .int) (x := .int ((toldM rows shift k).getD (ones5 k) 0)) (by wtm_at "mm") (by wtm_at "om") (by wtm_at "om") (by rw [List.getElem?_map, Int.toNat_natCast, List.getD_eq_getElem?_getD, List.getElem?_eq_getElem (by wtm_at "om")]; rfl) ?_
        repeat wtm_at "a1"
        refine ev_name (ld_cell (d := c.L + 1) (by kernel_rfl) (by wtm_at "mm") ?_)
        repeat wtm_at "a1"
        refine ev_name (ld_cell (d := c.L + 2) (by kernel_rfl) (by wtm_at "mm") ?_)
        repeat wtm_at "a1"
        refine sub_list (xs := (oddL 5).map .int) (x := .int (odd5 (Builtin.bitAnd k shift))) (by wtm_at "mm") (by wtm_at "om") (by wtm_at "om") (by rw [List.getElem?_map, odd5_get (by wtm_at "om") (by wtm_at "om")]; rfl) ?_
        refine b_mul ?_ (.of_left (by decide))
        repeat wtm_at "a1"
        refine set_list (by wtm_at "up") (by wtm_at "om") (by simp; wtm_at "om") (by simp; wtm_at "om") ?_
        rw [Int.toNat_natCast, ← List.map_set, ← e]
        repeat wtm_at "a1"
        exact ⟨_, (c.L + 1, .cell (some (.ref a))) :: (c.L + 2, .cell (some (.int k))) :: (a, .list ((oddL 5).map .int)) :: (b, .list ((onesL 5).map .int)) :: (l3, .list ((toldM rows shift (k + 1)).map .int)) :: ow, by wtm_at "pks", by wtm_at "ls", some (.int k), rfl, rfl⟩
      · repeat wtm_at "a1"
        have e : toldM rows shift (k + 1) = toldM rows shift k := by
          show toldS _ _ _ _ = _
          unfold toldS; rw [if_neg hem]
        rw [← e]
        exact ⟨_, (c.L + 1, .cell (some (.ref a))) :: (c.L + 2, .cell (some (.int k))) :: (a, .list ((oddL 5).map .int)) :: (b, .list ((onesL 5).map .int)) :: (l3, .list ((toldM rows shift (k + 1)).map .int)) :: ow, by wtm_at "pks", by wtm_at "ls", some (.int k), rfl, rfl⟩
    · refine el_1EE fun cv => ?_
      repeat wtm_at "a1"
      exact ret_ok (lc' := []) (ow'' := (l3, .list ((toldM rows shift 32).map .int)) :: ow) (by wtm_at "pks") (h l3)
    · repeat wtm_at "a1"
      refine ld_builtin A hrg (v := .type "range") (by kernel_rfl) (a := .con (.type "range")) rfl ?_
      repeat wtm_at "a1"
      refine ⟨kt, cal_range1 fun r => ?_⟩
      exact ⟨r, _, rfl, by wtm_at "pk", by decide, none, rfl, rfl⟩
  · repeat wtm_at "a1"
    refine ld_builtin A hrg (v := .type "range") (by kernel_rfl) (a := .con (.type "range")) rfl ?_
    repeat wtm_at "a1"
    refine ⟨kt, cal_range1 fun r => ?_⟩
    exact ⟨r, _, rfl, by wtm_at "pk", by decide, l0, l1, rfl, rfl⟩
end

section
theorem n_shr (a n : Nat) : (a : Int).fdiv (2 ^ ((n : Int)).toNat) = ((a / 2 ^ n : Nat) : Int) := by
  rw [Int.toNat_natCast, Int.fdiv_eq_ediv_of_nonneg _ (Int.pow_nonneg (by decide))]
  norm_cast
theorem n_shl (a n : Nat) : (a : Int) * 2 ^ ((n : Int)).toNat = ((a * 2 ^ n : Nat) : Int) := by
  rw [Int.toNat_natCast]; norm_cast
theorem n_mask (n : Nat) : (1 : Int) * 2 ^ ((n : Int)).toNat - 1 = ((2 ^ n - 1 : Nat) : Int) := by
  have : 1 ≤ 2 ^ n := Nat.one_le_two_pow
  rw [Int.toNat_natCast, Int.one_mul, show ((2 : Int) ^ n) = ((2 ^ n : Nat) : Int) by norm_cast]; wtm_at "om"
theorem n_and (a n : Nat) : Builtin.bitAnd (a : Int) ((2 ^ n - 1 : Nat) : Int) = ((a % 2 ^ n : Nat) : Int) := by
  rw [bitAnd_pp (Int.natCast_nonneg _) (Int.natCast_nonneg _), Int.toNat_natCast, Int.toNat_natCast, Nat.and_two_pow_sub_one_eq_mod]
theorem n_or (a b n : Nat) (h : b < 2 ^ n) : Builtin.bitOr ((a * 2 ^ n : Nat) : Int) (b : Int) = ((a * 2 ^ n + b : Nat) : Int) := by
  rw [bitOr_and, bitAnd_pp (Int.natCast_nonneg _) (Int.natCast_nonneg _), Int.toNat_natCast, Int.toNat_natCast]
  have e : a * 2 ^ n &&& b = 0 := by
    apply Nat.eq_of_testBit_eq
    intro j
    rw [Nat.testBit_and, Nat.testBit_mul_two_pow, Nat.zero_testBit]
    by_cases hj : n ≤ j
    · have : b.testBit j = false := Nat.testBit_lt_two_pow (Nat.lt_of_lt_of_le h (Nat.pow_le_pow_right (by decide) hj))
      rw [this, Bool.and_false]
    · simp [hj]
  rw [e]; wtm_at "om"
theorem n_xor (a n : Nat) : Builtin.bitXor (a : Int) ((a / 2 ^ n * 2 ^ n : Nat) : Int) = ((a % 2 ^ n : Nat) : Int) := by
  rw [bitXor_and, bitAnd_pp (Int.natCast_nonneg _) (Int.natCast_nonneg _), Int.toNat_natCast, Int.toNat_natCast]
  have e : a &&& (a / 2 ^ n * 2 ^ n) = a / 2 ^ n * 2 ^ n := by
    apply Nat.eq_of_testBit_eq
    intro j
    rw [Nat.testBit_and, Nat.testBit_mul_two_pow, Nat.testBit_div_two_pow]
    by_cases hj : n ≤ j
    · simp [hj, Nat.sub_add_cancel hj]
    · simp [hj]
  rw [e]
  have := Nat.div_add_mod a (2 ^ n)
  have e2 : 2 ^ n * (a / 2 ^ n) = a / 2 ^ n * 2 ^ n := Nat.mul_comm _ _
  wtm_at "om"
theorem n_div (a b : Nat) : (a : Int).fdiv b = ((a / b : Nat) : Int) := by
  rw [Int.fdiv_eq_ediv_of_nonneg _ (Int.natCast_nonneg _)]; norm_cast
theorem n_mod (a b : Nat) : (a : Int).fmod b = ((a % b : Nat) : Int) := by
  rw [Int.fmod_eq_emod_of_nonneg _ (Int.natCast_nonneg _)]; norm_cast
theorem bits_le {a k : Nat} (h : a < 2 ^ k) : Builtin.Int.intBits (a : Int) ≤ k := by
  unfold Builtin.Int.intBits
  by_cases h0 : (a : Int) = 0
  · simp [h0]
  · have ha : a ≠ 0 := by wtm_at "om"
    rw [if_neg (by simpa using ha), Int.natAbs_natCast]
    exact (Nat.log2_lt ha).mpr h
theorem bits_lt (a : Nat) : a < 2 ^ Builtin.Int.intBits (a : Int) := by
  unfold Builtin.Int.intBits
  by_cases h0 : a = 0
  · simp [h0]
  · rw [if_neg (by simpa using h0), Int.natAbs_natCast]
    exact Nat.lt_log2_self
theorem bits_ge {a : Nat} (h0 : a ≠ 0) : 1 ≤ Builtin.Int.intBits (a : Int) ∧ 2 ^ (Builtin.Int.intBits (a : Int) - 1) ≤ a := by
  unfold Builtin.Int.intBits
  rw [if_neg (by simpa using h0), Int.natAbs_natCast]
  exact ⟨by wtm_at "om", Nat.log2_self_le h0⟩
theorem nopy {b k : Nat} (x : Int) (h : b < 2 ^ k) (hk : k ≤ 9000) : Builtin.divisionGoesByPylong x (b : Int) = false := by
  refine PyProof.noPylong_of_log2 ?_
  rw [Int.natAbs_natCast]
  by_cases h0 : b = 0
  · subst h0; decide
  · exact Nat.lt_of_lt_of_le ((Nat.log2_lt h0).mpr h) hk
theorem mulok {a b : Int} (h : Builtin.Int.intBits a + Builtin.Int.intBits b ≤ 100000000) : IntMulOk a b := by
  unfold IntMulOk Builtin.Int.intTooBig
  have e : (bitsLine : Int) ≥ 100000000 := by decide +kernel
  simp only [Bool.and_eq_true, decide_eq_true_eq]
  intro h'
  have h2 := h'.2
  push_cast at h2
  wtm_at "om"
theorem div_unique {A b : Nat} {q r : Int} (h : q * b + r = A) (h0 : 0 ≤ r) (h1 : r < b) : q = ((A / b : Nat) : Int) ∧ r = ((A % b : Nat) : Int) := by
  have := (Int.ediv_emod_unique (a := (A : Int)) (b := (b : Int)) (r := r) (q := q) (by wtm_at "om")).mpr ⟨by rw [← h, Int.mul_comm]; wtm_at "om", h0, h1⟩
  rw [← this.1, ← this.2]
  constructor <;> norm_cast
end

section
theorem fns_div2 : FnS ["a", "b", "n"] (stAt 2) := ⟨by decide +kernel, by decide +kernel, by decide +kernel, by kernel_rfl, by kernel_rfl, by kernel_rfl⟩
theorem fns_div3 : FnS ["a12", "a3", "b", "b1", "b2", "n"] (stAt 3) := ⟨by decide +kernel, by decide +kernel, by decide +kernel, by kernel_rfl, by kernel_rfl, by kernel_rfl⟩
section
variable {K : Frag} {c : Cx} {lc : LC} {ow : OW} {env : Env} {d : Nat}
/-- where the quotient is short: the builtin's divmod -/
theorem cal_div2_short {a b n : Nat} {Q : AV → LC → OW → Prop} (A : Act K c (d + 1) env) (O : KOk K) (hs : Builtin.Int.intBits (a : Int) ≤ n + 4000) (hb0 : b ≠ 0) (hb : b < 2 ^ 9000)
    (h : ∀ r, Q (.ref r) lc ((r, .tup [.int (a / b : Nat), .int (a % b : Nat)]) :: ow)) : Cal c (.con (.ref 21)) [.int a, .int b, .int n] [] lc ow Q := by
  refine cal_pos A O.div2 fns_div2 rfl (len3 fun u v w doc pm an ct => by kernel_rfl) fun c hw hc A => ?_
  show SX c (execs (fBody (stAt 2)) (envX "_div2n1n" (fScope (stAt 2)) c.L 21 (.ref 20) [])) [("a", .int a), ("b", .int b), ("n", .int n)] ow (retP Q lc)
  obtain ⟨t, ol⟩ := O.divLimit
  have od := O.divmod
  refine sx_cons ?_
  repeat wtm_at "a1"
  refine mth_bitlen ?_
  repeat wtm_at "a1"
  refine ⟨kb, cal_bitlen ?_⟩
  repeat wtm_at "a1"
  refine ld_global A ol (a := .int 4000) ⟨t, rfl⟩ ?_
  repeat wtm_at "a1"
  refine br_pos (by wtm_at "om") ?_
  repeat wtm_at "a1"
  refine ld_builtin A od (v := .builtin "divmod") (by kernel_rfl) (a := .con (.builtin "divmod")) rfl ?_
  repeat wtm_at "a1"
  refine ⟨kb, cal_divmod (by wtm_at "om") (nopy _ hb (by decide)) fun r => ?_⟩
  rw [n_div, n_mod]
  repeat wtm_at "a1"
  exact ret_ok (lc' := []) (by wtm_at "pk") (h r)

theorem lin3 {a12 a3 b b1 b2 q X : Nat} (hb : b = b1 * X + b2) (h3 : a3 < X) (hb1 : 0 < b1) (hq : a12 < (q + 1) * b1) : a12 * X + a3 < (q + 1) * b := by
  subst hb
  have h1 : (a12 + 1) * X ≤ (q + 1) * b1 * X := Nat.mul_le_mul_right X hq
  have h2 : (q + 1) * (b1 * X + b2) = (q + 1) * b1 * X + (q + 1) * b2 := by rw [Nat.mul_add, Nat.mul_assoc]
  have h3' : (a12 + 1) * X = a12 * X + X := Nat.succ_mul _ _
  wtm_at "om"
set_option exponentiation.threshold 10000
set_option maxHeartbeats 4000000
theorem cal_div3 {a12 a3 b1 b2 n : Nat} {Q : AV → LC → OW → Prop} (A : Act K c (d + 2) env) (O : KOk K) (hh : c.A.handled = none) (hn : n ≤ 4000) (hn1 : 1 ≤ n) (h3 : a3 < 2 ^ n) (hb2 : b2 < 2 ^ n) (hb1 : 2 ^ (n - 1) ≤ b1) (hb1' : b1 < 2 ^ n) (ha : a12 < b1 * 2 ^ n + b2)
    (h : ∀ r, Q (.ref r) lc ((r, .tup [.int ((a12 * 2 ^ n + a3) / (b1 * 2 ^ n + b2) : Nat), .int ((a12 * 2 ^ n + a3) % (b1 * 2 ^ n + b2) : Nat)]) :: ow)) :
    Cal c (.con (.ref 28)) [.int a12, .int a3, .int (b1 * 2 ^ n + b2 : Nat), .int b1, .int b2, .int n] [] lc ow Q := by
  refine cal_pos A O.div3 fns_div3 rfl (len6 fun _ _ _ _ _ _ doc pm an ct => by kernel_rfl) fun c hw hc A => ?_
  generalize hB : b1 * 2 ^ n + b2 = b at ha h
  show SX c (execs (fBody (stAt 3)) (envX "_div3n2n" (fScope (stAt 3)) c.L 28 (.ref 27) [])) [("a12", .int a12), ("a3", .int a3), ("b", .int b), ("b1", .int b1), ("b2", .int b2), ("n", .int n)] ow (retP Q lc)
  rw [← hc] at hh
  have og := O.g21
  have hX : 0 < 2 ^ n := Nat.two_pow_pos n
  have hb10 : 0 < b1 := Nat.lt_of_lt_of_le (Nat.two_pow_pos _) hb1
  have hb2n : b < 2 ^ (n + n) := by
    rw [Nat.pow_add, ← hB]
    have : (b1 + 1) * 2 ^ n ≤ 2 ^ n * 2 ^ n := Nat.mul_le_mul_right _ hb1'
    rw [Nat.succ_mul] at this; wtm_at "om"
  have hbig : ∀ {x k : Nat}, x < 2 ^ k → k ≤ 9000 → Builtin.Int.intBits (x : Int) ≤ 9000 := fun {x k} h1 h2 => Nat.le_trans (bits_le h1) h2
  have hbp : 0 < b := by rw [← hB]; exact Nat.lt_of_lt_of_le (Nat.mul_pos hb10 hX) (Nat.le_add_right _ _)
  have rest : ∀ (q r : Nat), a12 = q * b1 + r → (a12 < (q + 1) * b1 ∨ q + 1 = 2 ^ n) → q < 2 ^ (n + n) → SX c (execs ((fBody (stAt 3)).drop 1) (envX "_div3n2n" (fScope (stAt 3)) c.L 28 (.ref 27) [])) [("a12", .int a12), ("a3", .int a3), ("b", .int b), ("b1", .int b1), ("b2", .int b2), ("n", .int n), ("q", .int q), ("r", .int r)] ow (retP Q lc) := by
    rintro q r hq hqr hqb
    have hr : r < 2 ^ (n + n) := by wtm_at "om"
    have hlt : a12 * 2 ^ n + a3 < (q + 1) * b := by
      rcases hqr with hqr | hqr
      · exact lin3 hB.symm h3 hb10 hqr
      · rw [hqr]
        have : (a12 + 1) * 2 ^ n ≤ b * 2 ^ n := Nat.mul_le_mul_right _ ha
        rw [Nat.succ_mul] at this
        rw [Nat.mul_comm (2 ^ n) b]; wtm_at "om"
    have e0 : (q : Int) * b + (((r * 2 ^ n + a3 : Nat) : Int) - q * b2) = ((a12 * 2 ^ n + a3 : Nat) : Int) := by
      rw [hq, ← hB]
      push_cast
      rw [Int.mul_add, Int.add_mul, Int.mul_assoc]
      wtm_at "om"
    have e1 : ((r * 2 ^ n + a3 : Nat) : Int) - q * b2 < b := by
      have : ((a12 * 2 ^ n + a3 : Nat) : Int) < (((q + 1) * b : Nat) : Int) := by exact_mod_cast hlt
      rw [Nat.succ_mul] at this
      push_cast at this e0 ⊢
      wtm_at "om"
    refine sx_cons ?_
    repeat wtm_at "a1"
    refine b_shl ?_ (by wtm_at "om") (by have := hbig hr (by wtm_at "om"); wtm_at "om")
    rw [n_shl]
    repeat wtm_at "a1"
    rw [n_or _ _ _ h3]
    repeat wtm_at "a1"
    refine b_mul ?_ (mulok (by have := hbig hqb (by wtm_at "om"); have := hbig hb2 (by wtm_at "om"); wtm_at "om"))
    repeat wtm_at "a1"
    refine sx_while (fun m lc1 ow2 => ∃ q' r' : Int, lc1 = ([("a12", .int a12), ("a3", .int a3), ("b", .int b), ("b1", .int b1), ("b2", .int b2), ("n", .int n), ("q", .int q'), ("r", .int r')] : LC) ∧ ow2 = ow ∧ q' * b + r' = ((a12 * 2 ^ n + a3 : Nat) : Int) ∧ r' < b ∧ m = (-r').toNat) ?_ _ ⟨q, _, rfl, rfl, e0, e1, rfl⟩
    refine el_6 fun q' r' h1 h2 => ?_
    repeat wtm_at "a1"
    refine br_dec (fun hneg => ?_) fun hneg => ?_
    · repeat wtm_at "a1"
      refine ⟨_, ?_, q' - 1, r' + b, rfl, rfl, ?_, by wtm_at "om", rfl⟩
      · wtm_at "om"
      · rw [Int.sub_mul]; wtm_at "om"
    · repeat wtm_at "a1"
      refine ev_tup ?_
      repeat wtm_at "a1"
      obtain ⟨u1, u2⟩ := div_unique h1 (by wtm_at "om") h2
      refine ⟨by simp, fun l => ?_⟩
      rw [u1, u2]
      repeat wtm_at "a1"
      exact ret_ok (lc' := []) (by wtm_at "pk") (h l)
  refine sx_cons ?_
  repeat wtm_at "a1"
  refine b_shr ?_ (by wtm_at "om")
  rw [n_shr]
  repeat wtm_at "a1"
  refine br_dec (fun he => ?_) fun he => ?_
  · have he' : a12 / 2 ^ n = b1 := by wtm_at "om"
    have hle : b1 * 2 ^ n ≤ a12 := by rw [← he']; exact Nat.div_mul_le_self _ _
    refine sx_cons (sx_swap2 hh ?_)
    refine ev_tup ?_
    repeat wtm_at "a1"
    refine b_shl ?_ (by omega) (by have : Builtin.Int.intBits 1 = 1 := by decide
                                   wtm_at "om")
    repeat wtm_at "a1"
    rw [n_mask]
    repeat wtm_at "a1"
    refine b_shl ?_ (by wtm_at "om") (by have := hbig hb1' (by wtm_at "om"); wtm_at "om")
    rw [n_shl]
    repeat wtm_at "a1"
    refine ⟨by simp, fun l => ⟨l, _, _, rfl, by wtm_at "mm", ?_⟩⟩
    rw [show (a12 : Int) - ((b1 * 2 ^ n : Nat) : Int) + b1 = ((a12 - b1 * 2 ^ n + b1 : Nat) : Int) by rw [Int.natCast_add, Int.natCast_sub hle]]
    refine Sto.weak (ow' := ow) (by wtm_at "pk") ?_
    iterate 5 wtm_at "a0"
    refine AWp.fgt ?_ (rest (2 ^ n - 1) (a12 - b1 * 2 ^ n + b1) ?_ (.inr (by wtm_at "om")) ?_)
    · wtm_at "ls"
    · have : (2 ^ n - 1) * b1 = 2 ^ n * b1 - b1 := by rw [Nat.sub_mul, Nat.one_mul]
      have h2 : b1 ≤ 2 ^ n * b1 := Nat.le_mul_of_pos_left _ hX
      rw [this, Nat.mul_comm (2 ^ n) b1] at *
      rw [Nat.add_comm (a12 - b1 * 2 ^ n) b1, ← Nat.add_assoc, Nat.sub_add_cancel h2, Nat.add_sub_cancel' hle]
    · exact Nat.lt_of_lt_of_le (Nat.sub_lt hX (by decide)) (Nat.pow_le_pow_right (by decide) (by wtm_at "om"))
  · refine sx_cons (sx_tuple ?_)
    repeat wtm_at "a1"
    refine ld_global A og (a := .con (.ref 21)) rfl ?_
    repeat wtm_at "a1"
    refine ⟨kpr_fn A O.div2, cal_div2_short A O ?_ (by wtm_at "om") ?_ fun l => ?_⟩
    · have := bits_le (Nat.lt_trans ha hb2n); wtm_at "om"
    · exact Nat.lt_of_lt_of_le hb1' (Nat.pow_le_pow_right (by decide) (by wtm_at "om"))
    refine asg_t2 hh (by wtm_at "mm") ?_
    iterate 5 wtm_at "a0"
    refine AWp.weak (ow' := ow) (by wtm_at "pk") ?_
    refine rest (a12 / b1) (a12 % b1) ?_ (.inl ?_) ?_
    · rw [Nat.mul_comm]; exact (Nat.div_add_mod a12 b1).symm
    · rw [Nat.mul_comm]; exact Nat.lt_mul_div_succ a12 hb10
    · exact Nat.lt_of_le_of_lt (Nat.div_le_self _ _) (Nat.lt_trans ha hb2n)
end
end

section
section
variable {K : Frag} {c : Cx} {lc : LC} {ow : OW} {env : Env} {d : Nat}
theorem div_two {a b X : Nat} (hX : 0 < X) (hb : 0 < b) : a / b = (a / X / b) * X + ((a / X % b) * X + a % X) / b ∧ a % b = ((a / X % b) * X + a % X) % b := by
  have e : a = ((a / X % b) * X + a % X) + b * (a / X / b * X) := by
    have h1 := Nat.div_add_mod a X
    have h2 := Nat.div_add_mod (a / X) b
    have h3 : X * (a / X) = X * (b * (a / X / b)) + X * (a / X % b) := by rw [← Nat.mul_add, h2]
    have h4 : b * (a / X / b * X) = X * (b * (a / X / b)) := by ac_rfl
    have h5 : (a / X % b) * X = X * (a / X % b) := Nat.mul_comm _ _
    wtm_at "om"
  constructor
  · conv => lhs; rw [e]
    rw [Nat.add_mul_div_left _ _ hb]; wtm_at "om"
  · conv => lhs; rw [e]
    rw [Nat.add_mul_mod_self_left]
theorem cal_div3' {a12 a3 b b1 b2 n A12 : Nat} {Q : AV → LC → OW → Prop} (A : Act K c (d + 2) env) (O : KOk K) (hh : c.A.handled = none) (hB : b1 * 2 ^ n + b2 = b) (hA : a12 * 2 ^ n + a3 = A12) (hn : n ≤ 4000) (hn1 : 1 ≤ n) (h3 : a3 < 2 ^ n) (hb2 : b2 < 2 ^ n) (hb1 : 2 ^ (n - 1) ≤ b1) (hb1' : b1 < 2 ^ n) (ha : a12 < b)
    (h : ∀ r, Q (.ref r) lc ((r, .tup [.int (A12 / b : Nat), .int (A12 % b : Nat)]) :: ow)) :
    Cal c (.con (.ref 28)) [.int a12, .int a3, .int b, .int b1, .int b2, .int n] [] lc ow Q := by
  subst hB hA
  exact cal_div3 A O hh hn hn1 h3 hb2 hb1 hb1' ha h
set_option exponentiation.threshold 10000
set_option maxHeartbeats 4000000
theorem cal_div2 {a b n : Nat} {Q : AV → LC → OW → Prop} (A : Act K c (d + 3) env) (O : KOk K) (hh : c.A.handled = none) (hn : n ≤ 7000) (hn1 : 2 ≤ n) (hb : 2 ^ (n - 1) ≤ b) (hb' : b < 2 ^ n) (ha : a < b * 2 ^ n)
    (h : ∀ r, Q (.ref r) lc ((r, .tup [.int (a / b : Nat), .int (a % b : Nat)]) :: ow)) : Cal c (.con (.ref 21)) [.int a, .int b, .int n] [] lc ow Q := by
  by_cases hs : Builtin.Int.intBits (a : Int) ≤ n + 4000
  · exact cal_div2_short A O hs (by have := Nat.two_pow_pos (n - 1); wtm_at "om") (Nat.lt_of_lt_of_le hb' (Nat.pow_le_pow_right (by decide) (by wtm_at "om"))) h
  have hbp : 0 < b := Nat.lt_of_lt_of_le (Nat.two_pow_pos _) hb
  refine cal_pos A O.div2 fns_div2 rfl (len3 fun u v w doc pm an ct => by kernel_rfl) fun c hw hc A => ?_
  show SX c (execs (fBody (stAt 2)) (envX "_div2n1n" (fScope (stAt 2)) c.L 21 (.ref 20) [])) [("a", .int a), ("b", .int b), ("n", .int n)] ow (retP Q lc)
  rw [← hc] at hh
  obtain ⟨t, ol⟩ := O.divLimit
  have og := O.g28
  have haN : a < 2 ^ (n + n) := by rw [Nat.pow_add]; exact Nat.lt_trans ha (Nat.mul_lt_mul_of_pos_right hb' (Nat.two_pow_pos _))
  have rest : ∀ (p a b k : Nat), k ≤ 4000 → 1 ≤ k → 2 ^ (k + k - 1) ≤ b → b < 2 ^ (k + k) → a < b * 2 ^ (k + k) → (∀ r, Q (.ref r) lc ((r, .tup [.int (a / b : Nat), .int ((if p = 0 then a % b else (a % b) / 2 : Nat))]) :: ow)) →
      SX c (execs ((fBody (stAt 2)).drop 3) (envX "_div2n1n" (fScope (stAt 2)) c.L 21 (.ref 20) [])) [("a", .int a), ("b", .int b), ("n", .int (k + k : Nat)), ("pad", .int p)] ow (retP Q lc) := by
    intro p a b k hk hk1 hb hb' ha h
    have hX : 0 < 2 ^ k := Nat.two_pow_pos k
    have hbp : 0 < b := Nat.lt_of_lt_of_le (Nat.two_pow_pos _) hb
    have hXX : (2 : Nat) ^ (k + k) = 2 ^ k * 2 ^ k := Nat.pow_add _ _ _
    have ha4 : a < 2 ^ (k + k + (k + k)) := by rw [Nat.pow_add]; exact Nat.lt_trans ha (Nat.mul_lt_mul_of_pos_right hb' (Nat.two_pow_pos _))
    have hbig : ∀ {x : Nat}, x ≤ a → Builtin.Int.intBits (x : Int) ≤ 16000 := fun {x} h1 => Nat.le_trans (bits_le (Nat.lt_of_le_of_lt h1 ha4)) (by wtm_at "om")
    have hbB : b / 2 ^ k * 2 ^ k + b % 2 ^ k = b := by rw [Nat.mul_comm]; exact Nat.div_add_mod b (2 ^ k)
    have hb1 : b / 2 ^ k < 2 ^ k := Nat.div_lt_of_lt_mul (by rw [← hXX]; exact hb')
    have hb1' : 2 ^ (k - 1) ≤ b / 2 ^ k := by
      rw [Nat.le_div_iff_mul_le hX, ← Nat.pow_add]
      rw [show k - 1 + k = k + k - 1 by wtm_at "om"]; exact hb
    have ha12 : a / 2 ^ (k + k) < b := Nat.div_lt_of_lt_mul (by rw [Nat.mul_comm]; exact ha)
    have hA1 : a / 2 ^ (k + k) * 2 ^ k + a / 2 ^ k % 2 ^ k = a / 2 ^ k := by
      rw [hXX, ← Nat.div_div_eq_div_mul, Nat.mul_comm]; exact Nat.div_add_mod _ _
    have e2 : ∀ x : Nat, (2 : Int) ^ ((1 : Int)).toNat = 2 := fun _ => rfl
    refine sx_cons ?_
    repeat wtm_at "a1"
    refine b_shr ?_ (by decide)
    rw [show ((k + k : Nat) : Int).fdiv (2 ^ ((1 : Int)).toNat) = (k : Int) by
      rw [show (2 : Int) ^ ((1 : Int)).toNat = ((2 : Nat) : Int) from rfl, n_div]; congr 1; wtm_at "om"]
    repeat wtm_at "a1"
    refine b_shl ?_ (by omega) (by have : Builtin.Int.intBits 1 = 1 := by decide
                                   wtm_at "om")
    repeat wtm_at "a1"
    rw [n_mask]
    repeat wtm_at "a1"
    refine sx_swap2 hh ?_
    refine ev_tup ?_
    repeat wtm_at "a1"
    refine b_shr ?_ (by wtm_at "om")
    rw [n_shr]
    repeat wtm_at "a1"
    rw [n_and]
    repeat wtm_at "a1"
    refine ⟨by simp, fun l => ⟨l, _, _, rfl, by wtm_at "mm", ?_⟩⟩
    refine Sto.weak (ow' := ow) (by wtm_at "pk") ?_
    repeat wtm_at "a1"
    refine sx_tuple ?_
    repeat wtm_at "a1"
    refine ld_global A og (a := .con (.ref 28)) rfl ?_
    repeat wtm_at "a1"
    refine b_shr ?_ (by wtm_at "om")
    rw [n_shr]
    repeat wtm_at "a1"
    refine b_shr ?_ (by wtm_at "om")
    rw [n_shr]
    repeat wtm_at "a1"
    rw [n_and]
    repeat wtm_at "a1"
    refine ⟨kpr_fn A O.div3, cal_div3' A O hh hbB hA1 hk hk1 (Nat.mod_lt _ hX) (Nat.mod_lt _ hX) hb1' hb1 ha12 fun l2 => ?_⟩
    refine asg_t2 hh (by wtm_at "mm") ?_
    refine Asg.weak (ow' := ow) (by wtm_at "pk") ?_
    repeat wtm_at "a1"
    refine sx_tuple ?_
    repeat wtm_at "a1"
    refine ld_global A og (a := .con (.ref 28)) rfl ?_
    repeat wtm_at "a1"
    rw [n_and]
    repeat wtm_at "a1"
    have hr : a / 2 ^ k % b < b := Nat.mod_lt _ hbp
    refine ⟨kpr_fn A O.div3, cal_div3' A O hh hbB rfl hk hk1 (Nat.mod_lt _ hX) (Nat.mod_lt _ hX) hb1' hb1 hr fun l3 => ?_⟩
    obtain ⟨d1, d2⟩ := div_two (a := a) hX hbp
    have hq2 : (a / 2 ^ k % b * 2 ^ k + a % 2 ^ k) / b < 2 ^ k := by
      refine Nat.div_lt_of_lt_mul ?_
      have h1 := Nat.mod_lt a hX
      have h2 : (a / 2 ^ k % b + 1) * 2 ^ k ≤ b * 2 ^ k := Nat.mul_le_mul_right _ hr
      rw [Nat.succ_mul] at h2; wtm_at "om"
    refine asg_t2 hh (by wtm_at "mm") ?_
    refine Asg.weak (ow' := ow) (by wtm_at "pk") ?_
    repeat wtm_at "a1"
    refine bx_val ?_
    repeat wtm_at "a1"
    have fin : ∀ v : Nat, v = (if p = 0 then a % b else a % b / 2) → SX c (execs ((fBody (stAt 2)).drop 9) (envX "_div2n1n" (fScope (stAt 2)) c.L 21 (.ref 20) [])) [("a", .int a), ("half_n", .int k), ("q1", .int (a / 2 ^ k / b : Nat)), ("q2", .int ((a / 2 ^ k % b * 2 ^ k + a % 2 ^ k) / b : Nat)), ("r", .int v)] ow (retP Q lc) := by
      intro v hv
      refine sx_cons ?_
      repeat wtm_at "a1"
      refine ev_tup ?_
      repeat wtm_at "a1"
      refine b_shl ?_ (by wtm_at "om") (by have := hbig (x := a / 2 ^ k / b) (Nat.le_trans (Nat.div_le_self _ _) (Nat.div_le_self _ _)); wtm_at "om")
      rw [n_shl]
      repeat wtm_at "a1"
      rw [n_or _ _ _ hq2, ← d1]
      repeat wtm_at "a1"
      refine ⟨by simp, fun l => ?_⟩
      rw [hv]
      repeat wtm_at "a1"
      exact ret_ok (lc' := []) (by wtm_at "pk") (h l)
    refine br_dec (fun hp => ?_) fun hp => ?_
    · repeat wtm_at "a1"
      refine i_shr ?_ (by decide)
      rw [← d2, show ((a % b : Nat) : Int).fdiv (2 ^ ((1 : Int)).toNat) = ((a % b / 2 : Nat) : Int) by
        rw [show (2 : Int) ^ ((1 : Int)).toNat = ((2 : Nat) : Int) from rfl, n_div]]
      iterate 4 wtm_at "a0"
      refine AWp.fgt ?_ (fin _ (by rw [if_neg (by wtm_at "om")]))
      wtm_at "ls"
    · iterate 2 wtm_at "a0"
      rw [← d2]
      refine AWp.fgt ?_ (fin _ (by rw [if_pos (by wtm_at "om")]))
      wtm_at "ls"
  refine sx_cons ?_
  repeat wtm_at "a1"
  refine mth_bitlen ?_
  repeat wtm_at "a1"
  refine ⟨kb, cal_bitlen ?_⟩
  repeat wtm_at "a1"
  refine ld_global A ol (a := .int 4000) ⟨t, rfl⟩ ?_
  repeat wtm_at "a1"
  refine br_neg (by wtm_at "om") ?_
  repeat wtm_at "a1"
  rw [bitAnd_m1]
  repeat wtm_at "a1"
  refine bx_val ?_
  repeat wtm_at "a1"
  refine br_dec (fun hp => ?_) fun hp => ?_
  · obtain ⟨k, hk⟩ : ∃ k, n + 1 = k + k := ⟨(n + 1) / 2, by wtm_at "om"⟩
    repeat wtm_at "a1"
    refine i_shl ?_ (by decide) (by have := bits_le haN; wtm_at "om")
    rw [show (a : Int) * 2 ^ ((1 : Int)).toNat = ((2 * a : Nat) : Int) by show (a : Int) * 2 = _; wtm_at "om"]
    repeat wtm_at "a1"
    refine i_shl ?_ (by decide) (by have := bits_le hb'; wtm_at "om")
    rw [show (b : Int) * 2 ^ ((1 : Int)).toNat = ((2 * b : Nat) : Int) by show (b : Int) * 2 = _; wtm_at "om"]
    iterate 10 wtm_at "a0"
    rw [show (n : Int) + 1 = ((k + k : Nat) : Int) by wtm_at "om", show (n : Int) % 2 = ((1 : Nat) : Int) by wtm_at "om"]
    iterate 1 wtm_at "a0"
    refine rest 1 (2 * a) (2 * b) k (by wtm_at "om") (by wtm_at "om") ?_ ?_ ?_ fun r => ?_
    · rw [← hk]
      show 2 ^ n ≤ _
      rw [show n = n - 1 + 1 by wtm_at "om", Nat.pow_succ]; wtm_at "om"
    · rw [← hk, Nat.pow_succ]; wtm_at "om"
    · rw [← hk, Nat.pow_succ, Nat.mul_assoc, ← Nat.mul_assoc b]; wtm_at "om"
    · rw [if_neg (by decide), Nat.mul_div_mul_left _ _ (by decide), Nat.mul_mod_mul_left, Nat.mul_div_cancel_left _ (by decide)]
      exact h r
  · obtain ⟨k, hk⟩ : ∃ k, n = k + k := ⟨n / 2, by wtm_at "om"⟩
    rw [show (n : Int) % 2 = ((0 : Nat) : Int) by wtm_at "om"]
    subst hk
    iterate 2 wtm_at "a0"
    exact rest 0 a b k (by wtm_at "om") (by wtm_at "om") hb hb' ha fun r => by rw [if_pos rfl]; exact h r
end
end

section
/-- a code table: nothing made yet, or one def's code -/
noncomputable def TB (P : Addr) (pos : Pos) (q : Str) (tb : OW) : Prop := tb = [(P, .obj (tabObj #[]))] ∨ ∃ c', tb = [(P, .obj (tabObj #[rawInt pos.line, rawInt pos.col, .ref c'])), (c', .code q)]
theorem tb_some {P c' : Addr} {pos : Pos} {q : Str} : TB P pos q [(P, .obj (tabObj #[rawInt pos.line, rawInt pos.col, .ref c'])), (c', .code q)] := .inr ⟨c', rfl⟩
section
variable {K : Frag} {c : Cx} {lc lc' : LC} {ow ow' : OW} {env : Env} {n : Nat}
theorem AWp.pickQ {α β : Type} {rp : β → α → Prop} {t : Sem α} {Q : β → LC → OW → Prop} (h : AWp c rp t lc ow fun b lc' ow' => ∃ ow'', Pick ow' ow'' ∧ Q b lc' ow'') : AWp c rp t lc ow Q :=
  AWp.post (h.mono fun b lc' ow' ⟨ow'', p, q⟩ => ⟨lc', ow'', p, fun _ _ e => e, q⟩)
theorem mk_any {name qual : Str} {params : Arguments} {body : List Stmt} {scope : Scope} {pos : Pos} {fl : Nat} {clos : List (Str × Addr)} {cd P : Addr} {tb : OW} {Q} (A : Act K c n env) {env' : Env} (hC : codeHdIn K cd P = true) (hcl : closureFor scope env' = pure clos)
    (T : TB P pos qual tb)
    (h : ∀ f c' doc pm ctv, Q (.ref f) lc ((f, .obj (fnMade name qual params body scope clos doc pm c' ctv)) :: (P, .obj (tabObj #[rawInt pos.line, rawInt pos.col, .ref c'])) :: (c', .code qual) :: ow))
    (hg : autoParam (env'.globals = mainGlobals) kr0) (hcd : autoParam (env'.code = .ref cd) kr0) : EV c (makeFunction name qual params (.stmts body) scope env' [] [] [] pos fl) lc (tb ++ ow) Q := by
  rcases T with rfl | ⟨c', rfl⟩
  · refine AWp.pickQ (mk_new (ps := #[]) (ow' := fun c' => (P, .obj (tabObj #[rawInt pos.line, rawInt pos.col, .ref c'])) :: ow) A hC hcl (.head _) trivial rfl (fun c' => .head) (fun f c' doc pm ctv => ⟨_, ?_, h f c' doc pm ctv⟩) hg hcd)
    exact .cons .head (.cons (.tail .head) .all)
  · refine mk_hit A hC hcl (.head _) ?_ ?_ (fun f doc pm ctv => h f c' doc pm ctv) hg hcd
    · simp [TriplesOk, rawInt]
    · simp [codeAmong, rawInt]
theorem mkl_any {name qual : Str} {params : Arguments} {body : PySem.Expr} {scope : Scope} {pos : Pos} {fl : Nat} {clos : List (Str × Addr)} {cd P : Addr} {Q} (A : Act K c n env) {env' : Env} (hC : codeHdIn K cd P = true) (hcl : closureFor scope env' = pure clos)
    (h : ∀ f c' pm ctv, Q (.ref f) lc ((f, .obj (kla_obj name qual params body scope clos pm c' ctv)) :: (P, .obj (tabObj #[rawInt pos.line, rawInt pos.col, .ref c'])) :: (c', .code qual) :: ow))
    (hg : autoParam (env'.globals = mainGlobals) kr0) (hcd : autoParam (env'.code = .ref cd) kr0) : EV c (makeFunction name qual params (.expr body) scope env' [] [] [] pos fl) lc ((P, .obj (tabObj #[])) :: ow) Q := by
  refine AWp.pickQ (lam_new (ps := #[]) (ow' := fun c' => (P, .obj (tabObj #[rawInt pos.line, rawInt pos.col, .ref c'])) :: ow) A hC hcl (.head _) trivial rfl (fun c' => .head) (fun f c' pm ctv => ⟨_, ?_, h f c' pm ctv⟩) hg hcd)
  exact .cons .head (.cons (.tail .head) .all)
end
end

section
theorem mid_lo {L R mid p : Nat} (e : mid = (L + R) / 2) (h : R - L ≤ p + p) (hl : L < mid) : mid - L ≤ p := by wtm_at "om"
theorem mid_hi {L R mid p : Nat} (e : mid = (L + R) / 2) (h : R - L ≤ p + p) (hl : L < mid) : R - mid ≤ p := by wtm_at "om"

noncomputable def digs (n : Nat) : Nat → Nat → List Nat
  | _, 0 => []
  | x, k + 1 => x % 2 ^ n :: digs n (x / 2 ^ n) k
theorem digs_len (n : Nat) : ∀ k x, (digs n x k).length = k
  | 0, _ => rfl
  | k + 1, x => by rw [digs, List.length_cons, digs_len n k]
theorem digs_add (n : Nat) : ∀ i j x, digs n x (i + j) = digs n (x % 2 ^ (n * i)) i ++ digs n (x / 2 ^ (n * i)) j
  | 0, j, x => by rw [Nat.zero_add, Nat.mul_zero, Nat.pow_zero, Nat.div_one]; rfl
  | i + 1, j, x => by
    rw [Nat.add_right_comm i 1 j, digs, digs, List.cons_append, digs_add n i j]
    have e : n * (i + 1) = n + n * i := by rw [Nat.mul_succ, Nat.add_comm]
    congr 1
    · rw [e, Nat.pow_add, Nat.mod_mul_right_mod]
    · congr 1
      · rw [e, Nat.pow_add, Nat.mod_mul_right_div_self]
      · rw [e, Nat.pow_add, Nat.div_div_eq_div_mul]
noncomputable abbrev nI (d : Nat) : AV := .int (d : Int)
noncomputable def inS : Stmt := (fBody (stAt 4))[1]?.getD (.Pass ⟨0, 0, 0, 0⟩)
noncomputable abbrev inQ : Str := "_int2digits.<locals>.inner"
noncomputable abbrev inCl (L : Nat) : List (Str × Addr) := [("n", L + 1), ("inner", L + 3), ("a_digits", L + 2)]
section
variable {K : Frag}
set_option exponentiation.threshold 10000
set_option maxHeartbeats 4000000
theorem inner_one {n L₀ m : Nat} (hn1 : 1 ≤ n) : ∀ (c : Cx) (lc : LC) (x L R : Nat) (ds : List Nat) (Q : AV → LC → OW → Prop) (f cd l : Addr) (ow : OW), Act K c m (envX inQ (fScope inS) c.L f (.ref cd) (inCl L₀)) → (L₀ + 2, AO.cell (some (.ref l))) ∈ ow →
    R ≤ ds.length → L + 1 = R → ds.length ≤ 64 → x < 2 ^ (n * (R - L)) →
    Q .none lc ((l, .list ((ds.take L ++ digs n x (R - L) ++ ds.drop R).map nI)) :: ow) → SX c (execs (fBody inS) (envX inQ (fScope inS) c.L f (.ref cd) (inCl L₀))) [("x", .int x), ("L", .int L), ("R", .int R)] ((l, .list (ds.map nI)) :: ow) (retP Q lc) := by
  intro c lc x L R ds Q f cd l ow A m4 hR h1 hz hx h
  refine sx_cons ?_
  repeat wtm_at "a1"
  refine br_pos (by wtm_at "om") ?_
  refine sx_cons ?_
  refine sx_setitem ?_
  repeat wtm_at "a1"
  refine ev_name (ld_free (d := L₀ + 2) (by kernel_rfl) (.tail _ m4) ?_)
  repeat wtm_at "a1"
  refine set_list .head (by wtm_at "om") (by simp; wtm_at "om") (by simp; wtm_at "om") ?_
  repeat wtm_at "a1"
  refine ret_ok (lc' := []) .all ?_
  subst h1
  rw [Nat.add_sub_cancel_left] at h hx
  rw [Nat.mul_one] at hx
  have e : (ds.map nI).set ((L : Int)).toNat (.int x) = (ds.take L ++ digs n x 1 ++ ds.drop (L + 1)).map nI := by
    rw [Int.toNat_natCast, show AV.int (x : Int) = nI x from rfl, ← List.map_set, digs, digs, Nat.mod_eq_of_lt hx, List.set_eq_take_append_cons_drop, if_pos (by wtm_at "om")]
    simp
  rw [e]
  exact h
theorem cal_inner {n L₀ f cd l : Nat} {doc pm ctv : Value} (O : KOk K) (hn1 : 1 ≤ n) (hn : n ≤ 7000) : ∀ (k : Nat) {c : Cx} {env : Env} {lc : LC} {ow : OW} {x L R : Nat} {ds : List Nat} {Q : AV → LC → OW → Prop}, Act K c (k + 1) env →
    (f, AO.obj (fnMade (fName inS) inQ (fArgs inS) (fBody inS) (fScope inS) (inCl L₀) doc pm cd ctv)) ∈ ow → (cd, AO.code inQ) ∈ ow → (L₀ + 1, AO.cell (some (.int n))) ∈ ow → (L₀ + 2, AO.cell (some (.ref l))) ∈ ow → (L₀ + 3, AO.cell (some (.ref f))) ∈ ow →
    L < R → R - L ≤ 2 ^ k → R ≤ ds.length → ds.length ≤ 64 → x < 2 ^ (n * (R - L)) →
    Q .none lc ((l, .list ((ds.take L ++ digs n x (R - L) ++ ds.drop R).map nI)) :: ow) → Cal c (.ref f) [.int x, .int L, .int R] [] lc ((l, .list (ds.map nI)) :: ow) Q := by
  intro k
  induction k with
  | zero =>
    intro c env lc ow x L R ds Q A m1 m2 m3 m4 m5 hLR hk hR hz hx h
    refine cal_clo A (.tail _ m1) (.tail _ m2) (names := ["x", "L", "R"]) rfl (by decide +kernel) (by decide +kernel) (len3 fun _ _ _ => by kernel_rfl) (by decide +kernel) (by kernel_rfl) (by kernel_rfl) (by kernel_rfl) fun c hw hc A => ?_
    show SX c (execs (fBody inS) (envX inQ (fScope inS) c.L f (.ref cd) (inCl L₀))) [("x", .int x), ("L", .int L), ("R", .int R)] _ _
    exact inner_one hn1 c lc x L R ds Q f cd l ow A m4 hR (by wtm_at "om") hz hx h
  | succ k ih =>
    intro c env lc ow x L R ds Q A m1 m2 m3 m4 m5 hLR hk hR hz hx h
    refine cal_clo A (.tail _ m1) (.tail _ m2) (names := ["x", "L", "R"]) rfl (by decide +kernel) (by decide +kernel) (len3 fun _ _ _ => by kernel_rfl) (by decide +kernel) (by kernel_rfl) (by kernel_rfl) (by kernel_rfl) fun c hw hc A => ?_
    show SX c (execs (fBody inS) (envX inQ (fScope inS) c.L f (.ref cd) (inCl L₀))) [("x", .int x), ("L", .int L), ("R", .int R)] _ _
    by_cases h1 : L + 1 = R
    · exact inner_one hn1 c lc x L R ds Q f cd l ow A m4 hR h1 hz hx h
    refine sx_cons ?_
    repeat wtm_at "a1"
    refine br_neg (by wtm_at "om") ?_
    repeat wtm_at "a1"
    obtain ⟨mid, hmid⟩ : ∃ mid, mid = (L + R) / 2 := ⟨_, rfl⟩
    have hLm : L < mid := by wtm_at "om"
    have hmR : mid < R := by wtm_at "om"
    have hsi : R - L = (mid - L) + (R - mid) := by wtm_at "om"
    have hpow : 2 ^ (k + 1) = 2 ^ k + 2 ^ k := by rw [Nat.pow_succ]; wtm_at "om"
    have hR64 : R ≤ 64 := Nat.le_trans hR hz
    have hshb : (mid - L) * n ≤ 64 * 7000 := Nat.mul_le_mul (Nat.le_trans (Nat.sub_le _ _) (Nat.le_trans (Nat.le_of_lt hmR) hR64)) hn
    have hxb : x < 2 ^ 448000 := Nat.lt_of_lt_of_le hx (Nat.pow_le_pow_right (by decide) (by have := Nat.mul_le_mul hn (Nat.le_trans (Nat.sub_le R L) hR64); wtm_at "om"))
    refine b_shr ?_ (by decide)
    rw [show ((L : Int) + R).fdiv (2 ^ ((1 : Int)).toNat) = (mid : Int) by
      rw [show (2 : Int) ^ ((1 : Int)).toNat = ((2 : Nat) : Int) from rfl, show (L : Int) + R = ((L + R : Nat) : Int) by wtm_at "om", n_div, hmid]]
    repeat wtm_at "a1"
    refine ev_name (ld_free (d := L₀ + 1) (by kernel_rfl) (.tail _ m3) ?_)
    refine b_mul ?_ (.of_left (intBits_le_64 (by wtm_at "om") (by wtm_at "om")))
    rw [show ((mid : Int) - L) * n = (((mid - L) * n : Nat) : Int) by rw [Int.natCast_mul, Int.natCast_sub (by wtm_at "om")]]
    repeat wtm_at "a1"
    refine b_shr ?_ (by wtm_at "om")
    rw [n_shr]
    repeat wtm_at "a1"
    refine b_shl ?_ (by wtm_at "om") (by have := bits_le (Nat.lt_of_le_of_lt (Nat.div_le_self x (2 ^ ((mid - L) * n))) hxb); wtm_at "om")
    rw [n_shl]
    repeat wtm_at "a1"
    rw [n_xor]
    repeat wtm_at "a1"
    refine sx_expr ?_
    repeat wtm_at "a1"
    refine ev_name (ld_free (d := L₀ + 3) (by kernel_rfl) (.tail _ m5) ?_)
    repeat wtm_at "a1"
    have hc1 : (mid - L) * n = n * (mid - L) := Nat.mul_comm _ _
    have hx2 : x / 2 ^ ((mid - L) * n) < 2 ^ (n * (R - mid)) := by
      refine Nat.div_lt_of_lt_mul ?_
      rw [← Nat.pow_add, hc1, ← Nat.mul_add, ← hsi]; exact hx
    refine ⟨kpr_clo (.tail _ m1), ih A m1 m2 m3 m4 m5 hLm (mid_lo hmid (hpow ▸ hk) hLm) (by wtm_at "om") hz (by rw [← hc1]; exact Nat.mod_lt _ (Nat.two_pow_pos _)) ⟨rfl, ?_⟩⟩
    repeat wtm_at "a1"
    refine sx_expr ?_
    repeat wtm_at "a1"
    refine ev_name (ld_free (d := L₀ + 3) (by kernel_rfl) (.tail _ m5) ?_)
    repeat wtm_at "a1"
    have hl1 : (ds.take L ++ digs n (x % 2 ^ ((mid - L) * n)) (mid - L)).length = mid := by
      rw [List.length_append, digs_len, List.length_take, Nat.min_eq_left (Nat.le_trans (Nat.le_of_lt hLR) hR), Nat.add_sub_cancel' (Nat.le_of_lt hLm)]
    have hl2 : (ds.take L ++ digs n (x % 2 ^ ((mid - L) * n)) (mid - L) ++ ds.drop mid).length = ds.length := by
      rw [List.length_append, hl1, List.length_drop]; wtm_at "om"
    refine ⟨kpr_clo (.tail _ m1), ih A m1 m2 m3 m4 m5 hmR (mid_hi hmid (hpow ▸ hk) hLm) (by wtm_at "om") (by wtm_at "om") hx2 ⟨rfl, ?_⟩⟩
    repeat wtm_at "a1"
    refine ret_none (lc' := []) .all ?_
    have e : (ds.take L ++ digs n (x % 2 ^ ((mid - L) * n)) (mid - L) ++ ds.drop mid).take mid ++ digs n (x / 2 ^ ((mid - L) * n)) (R - mid) ++ (ds.take L ++ digs n (x % 2 ^ ((mid - L) * n)) (mid - L) ++ ds.drop mid).drop R = ds.take L ++ digs n x (R - L) ++ ds.drop R := by
      rw [List.take_append_of_le_length (by wtm_at "om"), List.take_of_length_le (by wtm_at "om"), List.drop_append, hl1, List.drop_eq_nil_of_le (by wtm_at "om"), List.nil_append, List.drop_drop, hsi, digs_add, hc1]
      simp only [List.append_assoc]
      congr 3
      congr 1
      wtm_at "om"
    rw [e]
    exact h
end
end

section
noncomputable def posS : Stmt → Pos
  | .FunctionDef _ _ _ _ _ _ _ _ _ p => p
  | _ => ⟨0, 0, 0, 0⟩
theorem pick_mid {xs tb ow : OW} : Pick (xs ++ (tb ++ ow)) (tb ++ (xs ++ ow)) := Pick.perm (by
  rw [← List.append_assoc, ← List.append_assoc]
  exact List.Perm.append_right _ List.perm_append_comm)
theorem rep0 (k : Nat) : (List.replicate k [AV.int 0]).flatten = (List.replicate k 0).map nI := by
  induction k with
  | zero => rfl
  | succ k ih => rw [List.replicate_succ, List.flatten_cons, ih, List.replicate_succ]; rfl
noncomputable def dlen (a n : Nat) : Nat := (Builtin.Int.intBits (a : Int) + n - 1) / n
theorem dlen_lt {a n : Nat} (hn : 1 ≤ n) : a < 2 ^ (n * dlen a n) := by
  refine Nat.lt_of_lt_of_le (bits_lt a) (Nat.pow_le_pow_right (by decide) ?_)
  unfold dlen
  have := Nat.div_add_mod (Builtin.Int.intBits (a : Int) + n - 1) n
  have := Nat.mod_lt (Builtin.Int.intBits (a : Int) + n - 1) (show 0 < n by wtm_at "om")
  wtm_at "om"
section
variable {K : Frag} {c : Cx} {lc : LC} {ow tb : OW} {env : Env} {d : Nat}
set_option exponentiation.threshold 10000
set_option maxHeartbeats 4000000
theorem cal_i2d {a n : Nat} {Q : AV → LC → OW → Prop} (A : Act K c (d + 9) env) (O : KOk K) (hn1 : 1 ≤ n) (hn : n ≤ 7000) (hz : dlen a n ≤ 64) (T : TB 30 (posS inS) inQ tb)
    (h : ∀ l tb', TB 30 (posS inS) inQ tb' → Q (.ref l) lc ((l, .list ((digs n a (dlen a n)).map nI)) :: (tb' ++ ow))) : Cal c (.con (.ref 35)) [.int a, .int n] [] lc (tb ++ ow) Q := by
  refine cal_cells (names := ["a", "n"]) (ls := [("a", .int a)]) (cw := fun L => [(L + 3, .cell none), (L + 2, .cell none), (L + 1, .cell (some (.int n)))]) A O.i2d rfl (by decide +kernel) (by decide +kernel) (len2 fun u v doc pm an ct => by kernel_rfl) (by exact ls_cons lget_head ls_nil) (loc_of (names := ["a"]) rfl (by decide +kernel)) (by decide +kernel) (fun L' => by kernel_rfl) (by decide +kernel) (by kernel_rfl) (by kernel_rfl) (by kernel_rfl) fun c hw hc A => ?_
  show SX c (execs (fBody (stAt 4)) (envOfC "_int2digits" (fScope (stAt 4)) c.L 35 (.ref 34))) [("a", .int a)] ((c.L + 3, .cell none) :: (c.L + 2, .cell none) :: (c.L + 1, .cell (some (.int n))) :: (tb ++ ow)) (retP Q lc)
  have ol := O.len
  have oc := O.c34
  refine sx_cons ?_
  refine sx_assign ?_
  repeat wtm_at "a1"
  refine ev_list ?_
  repeat wtm_at "a1"
  refine ⟨by simp, fun l0 => ?_⟩
  repeat wtm_at "a1"
  refine mth_bitlen ?_
  repeat wtm_at "a1"
  refine ⟨kb, cal_bitlen ?_⟩
  refine ev_name (ld_cell (d := c.L + 1) (by kernel_rfl) (by wtm_at "mm") ?_)
  repeat wtm_at "a1"
  refine ev_name (ld_cell (d := c.L + 1) (by kernel_rfl) (by wtm_at "mm") ?_)
  refine b_fdiv ?_ (by wtm_at "om") (PyProof.noPylong_small (by wtm_at "om"))
  rw [show (Builtin.Int.intBits (a : Int) : Int) + n - 1 = ((Builtin.Int.intBits (a : Int) + n - 1 : Nat) : Int) by wtm_at "om", n_div, show (Builtin.Int.intBits (a : Int) + n - 1) / n = dlen a n from rfl]
  refine b_mull (xs := [.int 0]) (by wtm_at "mm") (by wtm_at "om") (by wtm_at "om") (by simp; wtm_at "om") fun l => ?_
  rw [Int.toNat_natCast, rep0]
  refine sto_cell (d := c.L + 2) (by kernel_rfl) (by wtm_at "up") ?_
  repeat wtm_at "a1"
  refine sx_def ?_
  refine AWp.weak (ow' := [(l, .list ((List.replicate (dlen a n) 0).map nI)), (c.L + 3, .cell none), (c.L + 2, .cell (some (.ref l))), (c.L + 1, .cell (some (.int n)))] ++ (tb ++ ow)) (.cons .head (.drop .all)) ?_
  refine AWp.weak pick_mid ?_
  refine mk_any (qual := inQ) A oc (clos := inCl c.L) (by kernel_rfl) T fun f c' doc pm ctv => ?_
  simp only [List.cons_append, List.nil_append]
  refine sto_cell (d := c.L + 3) (by kernel_rfl) (by wtm_at "up") ?_
  repeat wtm_at "a1"
  refine bx_val ?_
  repeat wtm_at "a1"
  have hfin : ∀ ds : List Nat, ds = digs n a (dlen a n) → SX c (execs ((fBody (stAt 4)).drop 3) (envOfC "_int2digits" (fScope (stAt 4)) c.L 35 (.ref 34))) [("a", .int a)] ((l, .list (ds.map nI)) :: (f, .obj (fnMade (fName inS) inQ (fArgs inS) (fBody inS) (fScope inS) (inCl c.L) doc pm c' ctv)) :: (30, .obj (tabObj #[rawInt (posS inS).line, rawInt (posS inS).col, .ref c'])) :: (c', .code inQ) :: (c.L + 3, .cell (some (.ref f))) :: (c.L + 2, .cell (some (.ref l))) :: (c.L + 1, .cell (some (.int n))) :: ow) (retP Q lc) := by
    rintro _ rfl
    refine sx_cons ?_
    repeat wtm_at "a1"
    refine ev_name (ld_cell (d := c.L + 2) (by kernel_rfl) (by wtm_at "mm") ?_)
    repeat wtm_at "a1"
    refine ret_ok (lc' := []) (ow'' := (l, .list ((digs n a (dlen a n)).map nI)) :: ([(30, .obj (tabObj #[rawInt (posS inS).line, rawInt (posS inS).col, .ref c'])), (c', .code inQ)] ++ ow)) ?_ (h l _ tb_some)
    exact .cons .head (.drop (.cons .head (.cons .head (.drop (.drop (.drop .all))))))
  refine br_dec (fun ha => ?_) fun ha => ?_
  · refine AWp.weak (ow' := (l, .list ((List.replicate (dlen a n) 0).map nI)) :: (f, .obj (fnMade (fName inS) inQ (fArgs inS) (fBody inS) (fScope inS) (inCl c.L) doc pm c' ctv)) :: (30, .obj (tabObj #[rawInt (posS inS).line, rawInt (posS inS).col, .ref c'])) :: (c', .code inQ) :: (c.L + 3, .cell (some (.ref f))) :: (c.L + 2, .cell (some (.ref l))) :: (c.L + 1, .cell (some (.int n))) :: ow) (.cons (.tail (.tail (.tail .head))) .all) ?_
    refine sx_cons ?_
    refine sx_expr ?_
    refine ev_call ?_
    refine ev_name (ld_cell (d := c.L + 3) (by kernel_rfl) (by wtm_at "mm") ?_)
    repeat wtm_at "a1"
    refine ld_builtin A ol (v := .builtin "len") (by kernel_rfl) (a := .con (.builtin "len")) rfl ?_
    repeat wtm_at "a1"
    refine ev_name (ld_cell (d := c.L + 2) (by kernel_rfl) (by wtm_at "mm") ?_)
    repeat wtm_at "a1"
    refine ⟨kb, cal_len_list (by wtm_at "mm") (by simp; wtm_at "om") ?_⟩
    rw [List.length_map, List.length_replicate]
    repeat wtm_at "a1"
    have hd1 : 1 ≤ dlen a n := by
      have := (bits_ge (a := a) (by wtm_at "om")).1
      unfold dlen
      exact Nat.div_pos (by wtm_at "om") (by wtm_at "om")
    refine ⟨kpr_clo (.tail _ (.head _)), cal_inner (l := l) (L₀ := c.L) (L := 0) (R := dlen a n) (doc := doc) (pm := pm) (ctv := ctv) (cd := c') O hn1 hn 6 (A.less (by wtm_at "om")) (by wtm_at "mm") (by wtm_at "mm") (by wtm_at "mm") (by wtm_at "mm") (by wtm_at "mm") (by wtm_at "om") (by wtm_at "om") (by simp) (by simp; wtm_at "om") (by rw [Nat.sub_zero]; exact dlen_lt hn1) ⟨rfl, ?_⟩⟩
    iterate 3 wtm_at "a0"
    refine hfin _ ?_
    simp
  · iterate 2 wtm_at "a0"
    refine AWp.weak ?_ (hfin (List.replicate (dlen a n) 0) ?_)
    · exact .cons (.tail (.tail (.tail .head))) .all
    · have ha' : a = 0 := by wtm_at "om"
      subst ha'
      have : dlen 0 n = 0 := by
        unfold dlen
        exact Nat.div_eq_of_lt (by show 0 + n - 1 < n; wtm_at "om")
      rw [this]; rfl
end
end

section
noncomputable def undig (n : Nat) : List Nat → Nat
  | [] => 0
  | d :: ds => d + 2 ^ n * undig n ds
theorem undig_append (n : Nat) : ∀ xs ys : List Nat, undig n (xs ++ ys) = undig n xs + 2 ^ (n * xs.length) * undig n ys
  | [], ys => by simp [undig]
  | x :: xs, ys => by
    rw [List.cons_append, undig, undig, undig_append n xs ys, List.length_cons, Nat.mul_succ, Nat.pow_add, Nat.mul_add, Nat.mul_comm (2 ^ (n * xs.length)) (2 ^ n), Nat.mul_assoc]
    wtm_at "om"
theorem undig_lt (n : Nat) : ∀ xs : List Nat, (∀ d ∈ xs, d < 2 ^ n) → undig n xs < 2 ^ (n * xs.length)
  | [], _ => by simp [undig]
  | x :: xs, h => by
    have h1 := h x (.head _)
    have h2 := undig_lt n xs fun d hd => h d (.tail _ hd)
    rw [undig, List.length_cons, Nat.mul_succ, Nat.add_comm, Nat.add_comm (n * xs.length), Nat.pow_add]
    have h3 : 2 ^ n * (undig n xs + 1) ≤ 2 ^ n * 2 ^ (n * xs.length) := Nat.mul_le_mul_left _ h2
    rw [Nat.mul_succ] at h3
    wtm_at "om"
noncomputable def jnS : Stmt := (fBody (stAt 5))[0]?.getD (.Pass ⟨0, 0, 0, 0⟩)
noncomputable abbrev jnQ : Str := "_digits2int.<locals>.inner"
noncomputable abbrev jnCl (L : Nat) : List (Str × Addr) := [("n", L + 2), ("inner", L + 3), ("digits", L + 1)]
section
variable {K : Frag}
set_option exponentiation.threshold 10000
set_option maxHeartbeats 4000000
theorem cal_jnner {n L₀ f cd l : Nat} {doc pm ctv : Value} {ds : List Nat} (O : KOk K) (hn : n ≤ 7000) (hz : ds.length ≤ 64) (hd : ∀ d ∈ ds, d < 2 ^ n) : ∀ (k : Nat) {c : Cx} {env : Env} {lc : LC} {ow : OW} {L R : Nat} {Q : AV → LC → OW → Prop}, Act K c (k + 1) env →
    (f, AO.obj (fnMade (fName jnS) jnQ (fArgs jnS) (fBody jnS) (fScope jnS) (jnCl L₀) doc pm cd ctv)) ∈ ow → (cd, AO.code jnQ) ∈ ow → (L₀ + 1, AO.cell (some (.ref l))) ∈ ow → (L₀ + 2, AO.cell (some (.int n))) ∈ ow → (L₀ + 3, AO.cell (some (.ref f))) ∈ ow → (l, AO.list (ds.map nI)) ∈ ow →
    L < R → R - L ≤ 2 ^ k → R ≤ ds.length →
    Q (.int (undig n ((ds.drop L).take (R - L)) : Nat)) lc ow → Cal c (.ref f) [.int L, .int R] [] lc ow Q := by
  intro k
  have one : ∀ (m : Nat) (c : Cx) (lc : LC) (ow : OW) (L R : Nat) (Q : AV → LC → OW → Prop), Act K c m (envX jnQ (fScope jnS) c.L f (.ref cd) (jnCl L₀)) → (L₀ + 1, AO.cell (some (.ref l))) ∈ ow → (l, AO.list (ds.map nI)) ∈ ow → R ≤ ds.length → L + 1 = R → Q (.int (undig n ((ds.drop L).take (R - L)) : Nat)) lc ow →
      SX c (execs (fBody jnS) (envX jnQ (fScope jnS) c.L f (.ref cd) (jnCl L₀))) [("L", .int L), ("R", .int R)] ow (retP Q lc) := by
    intro m c lc ow L R Q A m3 m6 hR h1 h
    subst h1
    refine sx_cons ?_
    repeat wtm_at "a1"
    refine br_pos rfl ?_
    repeat wtm_at "a1"
    refine ev_name (ld_free (d := L₀ + 1) (by kernel_rfl) m3 ?_)
    repeat wtm_at "a1"
    refine sub_list (x := .int (ds.getD L 0 : Nat)) m6 (by wtm_at "om") (by wtm_at "om") (by rw [List.getElem?_map, Int.toNat_natCast, List.getD_eq_getElem?_getD, List.getElem?_eq_getElem (by wtm_at "om")]; rfl) ?_
    repeat wtm_at "a1"
    refine ret_ok (lc' := []) .all ?_
    rw [Nat.add_sub_cancel_left, List.drop_eq_getElem_cons (by wtm_at "om"), List.take_succ_cons, List.take_zero] at h
    rw [List.getD_eq_getElem?_getD, List.getElem?_eq_getElem (by wtm_at "om")]
    simpa [undig] using h
  induction k with
  | zero =>
    intro c env lc ow L R Q A m1 m2 m3 m4 m5 m6 hLR hk hR h
    refine cal_clo A m1 m2 (names := ["L", "R"]) rfl (by decide +kernel) (by decide +kernel) (len2 fun _ _ => by kernel_rfl) (by decide +kernel) (by kernel_rfl) (by kernel_rfl) (by kernel_rfl) fun c hw hc A => ?_
    show SX c (execs (fBody jnS) (envX jnQ (fScope jnS) c.L f (.ref cd) (jnCl L₀))) [("L", .int L), ("R", .int R)] _ _
    exact one _ c lc ow L R Q A m3 m6 hR (by wtm_at "om") h
  | succ k ih =>
    intro c env lc ow L R Q A m1 m2 m3 m4 m5 m6 hLR hk hR h
    refine cal_clo A m1 m2 (names := ["L", "R"]) rfl (by decide +kernel) (by decide +kernel) (len2 fun _ _ => by kernel_rfl) (by decide +kernel) (by kernel_rfl) (by kernel_rfl) (by kernel_rfl) fun c hw hc A => ?_
    show SX c (execs (fBody jnS) (envX jnQ (fScope jnS) c.L f (.ref cd) (jnCl L₀))) [("L", .int L), ("R", .int R)] _ _
    by_cases h1 : L + 1 = R
    · exact one _ c lc ow L R Q A m3 m6 hR h1 h
    refine sx_cons ?_
    repeat wtm_at "a1"
    refine br_neg (by wtm_at "om") ?_
    repeat wtm_at "a1"
    obtain ⟨mid, hmid⟩ : ∃ mid, mid = (L + R) / 2 := ⟨_, rfl⟩
    have hLm : L < mid := by wtm_at "om"
    have hmR : mid < R := by wtm_at "om"
    have hpow : 2 ^ (k + 1) = 2 ^ k + 2 ^ k := by rw [Nat.pow_succ]; wtm_at "om"
    have hm64 : mid ≤ 64 := by wtm_at "om"
    have hshb : (mid - L) * n ≤ 64 * 7000 := Nat.mul_le_mul (Nat.le_trans (Nat.sub_le _ _) hm64) hn
    refine b_shr ?_ (by decide)
    rw [show ((L : Int) + R).fdiv (2 ^ ((1 : Int)).toNat) = (mid : Int) by
      rw [show (2 : Int) ^ ((1 : Int)).toNat = ((2 : Nat) : Int) from rfl, show (L : Int) + R = ((L + R : Nat) : Int) by wtm_at "om", n_div, hmid]]
    repeat wtm_at "a1"
    refine ev_name (ld_free (d := L₀ + 2) (by kernel_rfl) m4 ?_)
    refine b_mul ?_ (.of_left (intBits_le_64 (by wtm_at "om") (by wtm_at "om")))
    rw [show ((mid : Int) - L) * n = (((mid - L) * n : Nat) : Int) by rw [Int.natCast_mul, Int.natCast_sub (by wtm_at "om")]]
    repeat wtm_at "a1"
    refine ev_name (ld_free (d := L₀ + 3) (by kernel_rfl) m5 ?_)
    repeat wtm_at "a1"
    refine ⟨kpr_clo m1, ih A m1 m2 m3 m4 m5 m6 hmR (mid_hi hmid (hpow ▸ hk) hLm) (by wtm_at "om") ?_⟩
    repeat wtm_at "a1"
    have hb : undig n ((ds.drop mid).take (R - mid)) < 2 ^ 448000 := by
      refine Nat.lt_of_lt_of_le (undig_lt n _ fun d h => hd d (List.mem_of_mem_drop (List.mem_of_mem_take h))) (Nat.pow_le_pow_right (by decide) ?_)
      have := Nat.mul_le_mul hn (show ((ds.drop mid).take (R - mid)).length ≤ 64 from Nat.le_trans (List.length_take_le _ _) (by wtm_at "om"))
      wtm_at "om"
    refine b_shl ?_ (by wtm_at "om") (by have := bits_le hb; wtm_at "om")
    rw [n_shl]
    repeat wtm_at "a1"
    refine ev_name (ld_free (d := L₀ + 3) (by kernel_rfl) m5 ?_)
    repeat wtm_at "a1"
    refine ⟨kpr_clo m1, ih A m1 m2 m3 m4 m5 m6 hLm (mid_lo hmid (hpow ▸ hk) hLm) (by wtm_at "om") ?_⟩
    repeat wtm_at "a1"
    refine ret_ok (lc' := []) .all ?_
    have e : undig n ((ds.drop L).take (R - L)) = undig n ((ds.drop mid).take (R - mid)) * 2 ^ ((mid - L) * n) + undig n ((ds.drop L).take (mid - L)) := by
      have : (ds.drop L).take (R - L) = (ds.drop L).take (mid - L) ++ (ds.drop mid).take (R - mid) := by
        rw [show R - L = (mid - L) + (R - mid) by wtm_at "om", List.take_add, List.drop_drop, show L + (mid - L) = mid by wtm_at "om"]
      rw [this, undig_append, List.length_take, List.length_drop, Nat.min_eq_left (by wtm_at "om"), Nat.mul_comm n, Nat.mul_comm (2 ^ _)]
      wtm_at "om"
    rw [e, Int.natCast_add] at h
    exact h
end
end

section
section
variable {K : Frag} {c : Cx} {lc : LC} {ow tb : OW} {env : Env} {d : Nat}
set_option exponentiation.threshold 10000
set_option maxHeartbeats 4000000
theorem cal_d2i {l n : Nat} {ds : List Nat} {Q : AV → LC → OW → Prop} (A : Act K c (d + 9) env) (O : KOk K) (hn : n ≤ 7000) (hz : ds.length ≤ 64) (hd : ∀ d ∈ ds, d < 2 ^ n) (T : TB 37 (posS jnS) jnQ tb) (hm : (l, AO.list (ds.map nI)) ∈ ow)
    (h : ∀ tb', TB 37 (posS jnS) jnQ tb' → Q (.int (undig n ds : Nat)) lc (tb' ++ ow)) : Cal c (.con (.ref 42)) [.ref l, .int n] [] lc (tb ++ ow) Q := by
  refine cal_cells (names := ["digits", "n"]) (ls := []) (cw := fun L => [(L + 3, .cell none), (L + 2, .cell (some (.int n))), (L + 1, .cell (some (.ref l)))]) A O.d2i rfl (by decide +kernel) (by decide +kernel) (len2 fun u v doc pm an ct => by kernel_rfl) (by exact ls_nil) (fun p hp => nomatch hp) (by decide +kernel) (fun L' => by kernel_rfl) (by decide +kernel) (by kernel_rfl) (by kernel_rfl) (by kernel_rfl) fun c hw hc A => ?_
  show SX c (execs (fBody (stAt 5)) (envOfC "_digits2int" (fScope (stAt 5)) c.L 42 (.ref 41))) [] ([(c.L + 3, .cell none), (c.L + 2, .cell (some (.int n))), (c.L + 1, .cell (some (.ref l)))] ++ (tb ++ ow)) (retP Q lc)
  have ol := O.len
  have oc := O.c41
  refine sx_cons ?_
  refine sx_def ?_
  refine AWp.weak pick_mid ?_
  refine mk_any (qual := jnQ) A oc (clos := jnCl c.L) (by kernel_rfl) T fun f c' doc pm ctv => ?_
  simp only [List.cons_append, List.nil_append]
  refine sto_cell (d := c.L + 3) (by kernel_rfl) (by wtm_at "up") ?_
  have fin : ∀ v : Nat, v = undig n ds → retP Q lc (.ret (.int v)) [] ((f, .obj (fnMade (fName jnS) jnQ (fArgs jnS) (fBody jnS) (fScope jnS) (jnCl c.L) doc pm c' ctv)) :: (37, .obj (tabObj #[rawInt (posS jnS).line, rawInt (posS jnS).col, .ref c'])) :: (c', .code jnQ) :: (c.L + 3, .cell (some (.ref f))) :: (c.L + 2, .cell (some (.int n))) :: (c.L + 1, .cell (some (.ref l))) :: ow) := by
    rintro _ rfl
    refine ret_ok (lc' := []) (ow'' := [(37, .obj (tabObj #[rawInt (posS jnS).line, rawInt (posS jnS).col, .ref c'])), (c', .code jnQ)] ++ ow) ?_ (h _ tb_some)
    exact .drop (.cons .head (.cons .head (.drop (.drop (.drop .all)))))
  repeat wtm_at "a1"
  refine ev_ifexp (bx_val ?_)
  refine ev_name (ld_cell (d := c.L + 1) (by kernel_rfl) (by wtm_at "mm") ?_)
  refine tru_list (xs := ds.map nI) (by wtm_at "mm") ?_ (by simp; wtm_at "om")
  by_cases he : ds = []
  · subst he
    refine br_no rfl ?_
    repeat wtm_at "a1"
    exact fin 0 rfl
  · refine br_yes (by simpa using he) ?_
    refine ev_call ?_
    refine ev_name (ld_cell (d := c.L + 3) (by kernel_rfl) (by wtm_at "mm") ?_)
    repeat wtm_at "a1"
    refine ld_builtin A ol (v := .builtin "len") (by kernel_rfl) (a := .con (.builtin "len")) rfl ?_
    repeat wtm_at "a1"
    refine ev_name (ld_cell (d := c.L + 1) (by kernel_rfl) (by wtm_at "mm") ?_)
    repeat wtm_at "a1"
    refine ⟨kb, cal_len_list (xs := ds.map nI) (by wtm_at "mm") (by simp; wtm_at "om") ?_⟩
    rw [List.length_map]
    repeat wtm_at "a1"
    have hl : 0 < ds.length := List.length_pos_iff.mpr he
    refine ⟨kpr_clo (name := fName jnS) (qual := jnQ) (params := fArgs jnS) (body := fBody jnS) (scope := fScope jnS) (cl := jnCl c.L) (doc := doc) (pm := pm) (cd := c') (ctv := ctv) (.head _), cal_jnner (l := l) (ds := ds) (L₀ := c.L) (L := 0) (R := ds.length) (doc := doc) (pm := pm) (ctv := ctv) (cd := c') O hn hz hd 6 (A.less (by wtm_at "om")) (.head _) (by wtm_at "mm") (by wtm_at "mm") (by wtm_at "mm") (by wtm_at "mm") (by wtm_at "mm") hl (by wtm_at "om") (Nat.le_refl _) ?_⟩
    repeat wtm_at "a1"
    refine fin _ ?_
    rw [List.drop_zero, Nat.sub_zero, List.take_length]
end
end

section
theorem ls_put {r lc lc' : LC} {x : Str} {a : AV} (h : LSub r lc) (P : Put lc x a lc') (hx : autoParam (lget r x = none) kr0) : LSub ((x, a) :: r) lc' := fun y b e => by
  rw [P.get]
  unfold lget at e
  by_cases hy : x = y
  · rw [if_pos hy] at e; rw [if_pos hy.symm]; exact e
  · rw [if_neg hy] at e; rw [if_neg (fun z => hy z.symm)]; exact h y b e
theorem Pick.of_sub : ∀ {r ow d : OW}, ow.Perm (r ++ d) → Pick ow r
  | [], _, _, _ => .nil
  | p :: r, ow, d, h => by
    have hp : p ∈ ow := h.mem_iff.mpr (.head _)
    have tk : ∀ {ow : OW}, p ∈ ow → ∃ ow', Take p ow ow' := by
      intro ow
      induction ow with
      | nil => intro h; cases h
      | cons q ow ih =>
        intro h
        rcases List.mem_cons.mp h with rfl | h
        · exact ⟨ow, .head⟩
        · obtain ⟨w, t⟩ := ih h; exact ⟨q :: w, .tail t⟩
    obtain ⟨ow', t⟩ := tk hp
    exact .cons t (Pick.of_sub ((t.perm.symm.trans h).cons_inv))
theorem Pick.trans {a b c : OW} (h : Pick a b) (k : Pick b c) : Pick a c := by
  obtain ⟨d, hd⟩ := h.sub
  obtain ⟨e, he⟩ := k.sub
  exact Pick.of_sub (d := e ++ d) (by rw [← List.append_assoc]; exact hd.trans (he.append_right d))
theorem Pick.appl (xs : OW) {r r' : OW} (h : Pick r r') : Pick (xs ++ r) (xs ++ r') := by
  induction xs with
  | nil => exact h
  | cons x xs ih => exact .cons .head ih
theorem Pick.tl {p : Addr × AO} {r r' : OW} (h : Pick r r') : Pick (p :: r) (p :: r') := .cons .head h
noncomputable abbrev rv (l : Addr) (i : Int) : AO := .any fun o => o.cls = .type "list_reverseiterator" ∧ o.data = .fields #[.ref l, rawInt i]
section
variable {c : Cx} {lc lc' : LC} {ow ow' : OW} {env : Env}
theorem cal_reversed {l : Addr} {xs : List AV} {Q} (hm : (l, AO.list xs) ∈ ow) (h : ∀ D, Q (.ref D) lc ((D, rv l ((xs.length : Int) - 1)) :: ow)) : Cal c (.con (.type "reversed")) [.ref l] [] lc ow Q := by
  refine cal_1 ?_
  rintro _ rfl
  refine ⟨fun s P E R kp => ?_⟩
  refine bc fun hG => ?_
  obtain ⟨o, ⟨vs, k, rfl, r⟩, ho⟩ := R.get hm
  refine hG ?_
  clear hG
  refine call_reversed_list (⟨_, ho, rfl, k, rfl⟩ : s.heap.IsList l vs.toArray) ?_
  have e : ((vs.toArray.size : Nat) : Int) - 1 = (xs.length : Int) - 1 := by simp [r.length]
  rw [e]
  exact kp (.ref s.heap.objs.size) _ _ _ _ s.toks (h _) rfl (R.push ⟨⟨rfl, rfl⟩, rfl⟩)
theorem itr_rev {it l : Addr} {i : Int} {Q} (hm : (it, rv l i) ∈ ow) (h : Q it lc ow) : Itr c (.ref it) lc ow Q := by
  refine ⟨?_⟩
  rintro _ rfl
  refine ⟨fun s P E R kp => ?_⟩
  obtain ⟨o, ⟨⟨r1, r2⟩, _⟩, ho⟩ := R.get hm
  exact wpAny_pyIter_revIter ⟨o, ho, r1, r2⟩ (kp it _ _ _ s.heap s.toks h rfl R)
theorem nxt_rev {it l : Addr} {xs : List AV} {i : Nat} {x : AV} {Q} (U : Upd ow it (rv l i) (rv l ((i : Int) - 1)) ow') (hm : (l, AO.list xs) ∈ ow) (hx : xs[i]? = some x) (h : Q (some x) lc ow') : Nxt c it lc ow Q := by
  refine ⟨⟨fun s P E R kp => ?_⟩⟩
  refine bc fun hG => ?_
  obtain ⟨o, ⟨vs, n, rfl, r⟩, ho⟩ := R.get hm
  obtain ⟨o', ⟨⟨r1, r2⟩, _⟩, ho'⟩ := R.get U.mem
  refine hG ?_
  clear hG
  have hl' : s.heap.IsList l vs.toArray := ⟨_, ho, rfl, n, rfl⟩
  refine bc fun hG => ?_
  obtain ⟨v, hv, rv'⟩ := r.get hx
  refine hG ?_
  clear hG
  have hv' : vs.toArray[i]? = some v := by rw [List.getElem?_toArray]; exact hv
  refine wpAny_pyNext_rev_item ⟨o', ho', r1, r2⟩ hl' hv' fun h' hi hs => ?_
  obtain ⟨o2, e2, c2, d2⟩ := hi
  exact kp (some x) _ _ _ _ _ h ⟨v, rfl, rv'⟩ (R.turn U hs e2 ⟨⟨c2, d2⟩, Obj.isFreed_of_fields d2⟩)
theorem nxt_rev_end {it l : Addr} {Q} (hh : c.A.handled = none) (T : Take (it, rv l (-1)) ow ow') (h : Q none lc ow') : Nxt c it lc ow Q := by
  refine ⟨⟨fun s P E R kp => ?_⟩⟩
  refine bc fun hG => ?_
  obtain ⟨o', ⟨⟨r1, r2⟩, _⟩, ho'⟩ := R.get (T.perm.mem_iff.mpr (.head _))
  refine hG ?_
  clear hG
  refine wpAny_pyNext_rev_end hh ⟨o', ho', r1, r2⟩ fun h' he => ?_
  exact kp none _ _ _ _ _ h rfl (R.lose T he)
theorem sx_rev {x : Str} {px : Pos} {iter body orelse pos} {Q : AF → LC → OW → Prop} (xs : List AV) (J : Nat → LC → OW → Prop) (hh : c.A.handled = none)
    (step : ∀ k a lc ow, k < xs.length → xs[xs.length - 1 - k]? = some a → J k lc ow → ∃ lc', Put lc x a lc' ∧ ∀ it o, SX c (execs body env) lc' ((it, o) :: ow) (LpQ (fun lc3 ow3 => ∃ lc4 ow4, Pick ow3 ((it, o) :: ow4) ∧ LSub lc4 lc3 ∧ J (k + 1) lc4 ow4) (fun _ _ => False) fun b => Q (.ret b)))
    (fin : ∀ lc ow, J xs.length lc ow → SX c (execs orelse env) lc ow Q)
    (h : EV c (eval iter env) lc ow fun v lc1 ow1 => ∃ D l ow2, v = .ref D ∧ Pick ow1 ((D, rv l ((xs.length : Int) - 1)) :: ow2) ∧ (∀ k lc ow, J k lc ow → (l, AO.list xs) ∈ ow) ∧ J 0 lc1 ow2)
    (hk : autoParam (env.scope.kind = .function) kr0) (hx : autoParam (env.kindOf x = some .local) kr0) (hL : autoParam (env.locals = c.L) kr0)
    (hs : autoParam (∀ x, foldedSetIterable iter env x = pure x) kr1) : SX c (exec (.For (.Name x px) iter body orelse pos) env) lc ow Q :=
  sx_gen (σ := { l : Addr // ∀ k lc ow, J k lc ow → (l, AO.list xs) ∈ ow }) xs.length (fun l k => rv l.1 ((xs.length : Int) - 1 - k)) (fun k => xs.getD (xs.length - 1 - k) .none) (fun _ => J)
    (fun l k it lc ow R hk hJ h => by
      rw [show (xs.length : Int) - 1 - k = ((xs.length - 1 - k : Nat) : Int) by wtm_at "om"]
      refine nxt_rev .head (.tail _ (l.2 _ _ _ hJ)) (getD_some (by wtm_at "om")) ?_
      rw [show ((xs.length - 1 - k : Nat) : Int) - 1 = (xs.length : Int) - 1 - ((k + 1 : Nat) : Int) by wtm_at "om"]
      exact h)
    (fun l it lc ow R hJ h => by rw [show (xs.length : Int) - 1 - xs.length = -1 by wtm_at "om"]; exact nxt_rev_end hh .head h)
    (fun l k lc ow it o hlt hJ => (step k _ lc ow hlt (getD_some (by wtm_at "om")) hJ).elim fun lc' q => asg_name (sto_local q.1 (q.2 it o) hk hx hL)) (fun _ => fin)
    (h.mono fun v lc1 ow1 ⟨D, l, ow2, e, P, hm, hJ⟩ => by
      subst e
      refine ⟨fun v rv' => AWp.weak P ((itr_rev (.head _) ⟨⟨l, hm⟩, lc1, ow2, ?_, ls_self, hJ⟩).run v rv')⟩
      rw [Int.natCast_zero, Int.sub_zero]
      exact .all) hs (fun _ _ => by kernel_rfl)

end
end

section
theorem digs_get (n : Nat) : ∀ (m x i : Nat), i < m → (digs n x m)[i]? = some (x / 2 ^ (n * i) % 2 ^ n)
  | m + 1, x, 0, _ => by rw [digs, Nat.mul_zero, Nat.pow_zero, Nat.div_one]; rfl
  | m + 1, x, i + 1, h => by
    rw [digs, List.getElem?_cons_succ, digs_get n m _ i (by wtm_at "om"), Nat.div_div_eq_div_mul, ← Nat.pow_add, Nat.mul_succ, Nat.add_comm n]
theorem fns_dmp : FnS ["a", "b"] (stAt 6) := ⟨by decide +kernel, by decide +kernel, by decide +kernel, by kernel_rfl, by kernel_rfl, by kernel_rfl⟩
noncomputable abbrev TB1 (tb : OW) : Prop := TB 30 (posS inS) inQ tb
noncomputable abbrev TB2 (tb : OW) : Prop := TB 37 (posS jnS) jnQ tb
section
variable {K : Frag} {c : Cx} {lc : LC} {ow t1 t2 : OW} {env : Env} {d : Nat}
set_option exponentiation.threshold 10000
set_option maxHeartbeats 4000000
theorem cal_dmp {a b n : Nat} {Q : AV → LC → OW → Prop} (A : Act K c (d + 10) env) (O : KOk K) (hh : c.A.handled = none) (hnb : Builtin.Int.intBits (b : Int) = n) (hn1 : 2 ≤ n) (hn : n ≤ 7000) (hz : dlen a n ≤ 64) (T1 : TB1 t1) (T2 : TB2 t2)
    (h : ∀ r t1' t2', TB1 t1' → TB2 t2' → Q (.ref r) lc ((r, .tup [.int (a / b : Nat), .int (a % b : Nat)]) :: (t1' ++ (t2' ++ ow)))) : Cal c (.con (.ref 49)) [.int a, .int b] [] lc (t1 ++ (t2 ++ ow)) Q := by
  refine cal_pos A O.dmp fns_dmp rfl (len2 fun u v doc pm an ct => by kernel_rfl) fun c hw hc A => ?_
  show SX c (execs (fBody (stAt 6)) (envX "_divmod_pos" (fScope (stAt 6)) c.L 49 (.ref 48) [])) [("a", .int a), ("b", .int b)] _ (retP Q lc)
  rw [← hc] at hh
  have g1 := O.g35
  have g2 := O.g42
  have g3 := O.g21
  have orv := O.reversed
  have hbp : b ≠ 0 := fun e => by subst e; exact absurd hnb (by show ¬ 0 = n; wtm_at "om")
  have hb1 := (bits_ge hbp).2
  have hb2 := bits_lt b
  rw [hnb] at hb1 hb2
  obtain ⟨m, hm⟩ : ∃ m, m = dlen a n := ⟨_, rfl⟩
  have ham : a < 2 ^ (n * m) := by rw [hm]; exact dlen_lt (by wtm_at "om")
  refine sx_cons ?_
  repeat wtm_at "a1"
  refine mth_bitlen ?_
  repeat wtm_at "a1"
  refine ⟨kb, cal_bitlen ?_⟩
  rw [hnb]
  repeat wtm_at "a1"
  refine ld_global A g1 (a := .con (.ref 35)) rfl ?_
  repeat wtm_at "a1"
  refine ⟨kpr_fn A O.i2d, cal_i2d A O (by wtm_at "om") hn hz T1 fun ld t1' T1' => ?_⟩
  rw [← hm]
  repeat wtm_at "a1"
  refine ev_list ?_
  repeat wtm_at "a1"
  refine ⟨by simp, fun lq => ?_⟩
  repeat wtm_at "a1"
  refine sx_rev ((digs n a m).map nI) (fun k lc1 ow1 => ∃ qs : List Nat, LSub [("a", .int a), ("b", .int b), ("n", .int n), ("a_digits", .ref ld), ("r", .int (a / 2 ^ (n * (m - k)) % b : Nat)), ("q_digits", .ref lq)] lc1 ∧ ow1 = (lq, .list (qs.map nI)) :: (ld, .list ((digs n a m).map nI)) :: (t1' ++ (t2 ++ ow)) ∧ qs.length = k ∧ (∀ q ∈ qs, q < 2 ^ n) ∧ undig n qs.reverse = a / 2 ^ (n * (m - k)) / b) hh ?_ ?_ ?_
  · intro k x lc1 ow1 hk hx
    revert ow1
    refine el_12 fun qs hls hql hqd hqu => ?_
    rw [List.length_map, digs_len] at hk hx
    rw [List.getElem?_map, digs_get n m a _ (by wtm_at "om")] at hx
    cases hx
    refine ⟨_, put_lput lc1 "a_digit" _, fun it o => ?_⟩
    obtain ⟨dg, hdg⟩ : ∃ dg, dg = a / 2 ^ (n * (m - 1 - k)) % 2 ^ n := ⟨_, rfl⟩
    obtain ⟨r, hr⟩ : ∃ r, r = a / 2 ^ (n * (m - k)) % b := ⟨_, rfl⟩
    rw [← hr] at hls
    refine AWp.fgt (ls_put hls (put_lput lc1 "a_digit" _)) ?_
    rw [show nI (a / 2 ^ (n * (m - 1 - k)) % 2 ^ n) = .int (dg : Nat) by rw [hdg]]
    have hrb : r < b := by rw [hr]; exact Nat.mod_lt _ (by wtm_at "om")
    have hdgl : dg < 2 ^ n := by rw [hdg]; exact Nat.mod_lt _ (Nat.two_pow_pos _)
    have hX : 0 < 2 ^ n := Nat.two_pow_pos n
    have hrd : r * 2 ^ n + dg < b * 2 ^ n := by
      have h2 : (r + 1) * 2 ^ n ≤ b * 2 ^ n := Nat.mul_le_mul_right _ hrb
      rw [Nat.succ_mul] at h2; wtm_at "om"
    have hk2 : n * (m - k) = n * (m - 1 - k) + n := by rw [show m - k = (m - 1 - k) + 1 by wtm_at "om", Nat.mul_succ]
    obtain ⟨e1, e2⟩ := div_two (a := a / 2 ^ (n * (m - 1 - k))) hX (show 0 < b by wtm_at "om")
    have hdd : a / 2 ^ (n * (m - 1 - k)) / 2 ^ n = a / 2 ^ (n * (m - k)) := by rw [Nat.div_div_eq_div_mul, ← Nat.pow_add, ← hk2]
    rw [hdd, ← hr, ← hdg] at e1 e2
    refine sx_cons (sx_tuple ?_)
    repeat wtm_at "a1"
    refine ld_global A g3 (a := .con (.ref 21)) rfl ?_
    repeat wtm_at "a1"
    refine b_shl ?_ (by wtm_at "om") (by have := bits_le (Nat.lt_trans hrb hb2); wtm_at "om")
    rw [n_shl]
    repeat wtm_at "a1"
    rw [show ((r * 2 ^ n : Nat) : Int) + (dg : Int) = ((r * 2 ^ n + dg : Nat) : Int) by wtm_at "om"]
    repeat wtm_at "a1"
    refine ⟨kpr_fn A O.div2, cal_div2 (d := d + 6) A O hh hn hn1 hb1 hb2 hrd fun tt => ?_⟩
    refine asg_t2 hh (by wtm_at "mm") ?_
    repeat wtm_at "a1"
    refine sx_expr ?_
    repeat wtm_at "a1"
    refine mth_list (xs := qs.map nI) (by wtm_at "mm") F.slot_list_append F.type_list_append ?_
    repeat wtm_at "a1"
    have hz' : qs.length ≤ 64 := by wtm_at "om"
    refine ⟨kb, cal_append (by wtm_at "up") (by simp; wtm_at "om") ⟨rfl, ?_⟩⟩
    repeat wtm_at "a1"
    have hqn : (r * 2 ^ n + dg) / b < 2 ^ n := Nat.div_lt_of_lt_mul hrd
    refine ⟨[("a", .int a), ("b", .int b), ("n", .int n), ("a_digits", .ref ld), ("r", .int (a / 2 ^ (n * (m - (k + 1))) % b : Nat)), ("q_digits", .ref lq)], _, ?_, ?_, qs ++ [(r * 2 ^ n + dg) / b], ls_self, rfl, ?_, ?_, ?_⟩
    · rw [List.map_append]
      exact .cons (.tail .head) (.drop .all)
    · rw [show m - (k + 1) = m - 1 - k by wtm_at "om", e2]; wtm_at "ls"
    · rw [List.length_append, hql]; rfl
    · intro q hq
      rcases List.mem_append.mp hq with hq | hq
      · exact hqd q hq
      · rw [List.mem_singleton.mp hq]; exact hqn
    · rw [List.reverse_append, List.reverse_singleton, List.singleton_append, undig, hqu, show m - (k + 1) = m - 1 - k by wtm_at "om", e1, Nat.mul_comm (2 ^ n)]
      wtm_at "om"
  · intro lc1
    refine el_12 fun qs hls hql hqd hqu => ?_
    rw [List.length_map, digs_len] at hls hql hqu
    rw [Nat.sub_self, Nat.mul_zero, Nat.pow_zero, Nat.div_one] at hls hqu
    refine AWp.fgt hls ?_
    repeat wtm_at "a1"
    refine sx_expr ?_
    repeat wtm_at "a1"
    refine mth_list (xs := qs.map nI) (by wtm_at "mm") F.slot_list_reverse F.type_list_reverse ?_
    repeat wtm_at "a1"
    refine ⟨kb, cal_reverse (xs := qs.map nI) .head (by simp; wtm_at "om") ⟨rfl, ?_⟩⟩
    rw [← List.map_reverse]
    repeat wtm_at "a1"
    refine ld_global A g2 (a := .con (.ref 42)) rfl ?_
    repeat wtm_at "a1"
    refine ⟨kpr_fn A O.d2i, Cal.weak (pick_mid (xs := (lq, .list (qs.reverse.map nI)) :: (ld, .list ((digs n a m).map nI)) :: t1')) (cal_d2i (l := lq) (ds := qs.reverse) A O hn (by simp; wtm_at "om") (by simpa using hqd) T2 (.head _) fun t2' T2' => ?_)⟩
    rw [hqu]
    refine Sto.weak (pick_mid (xs := t2') (tb := (lq, .list (qs.reverse.map nI)) :: (ld, .list ((digs n a m).map nI)) :: t1')) ?_
    repeat wtm_at "a1"
    refine ev_tup ?_
    repeat wtm_at "a1"
    refine ⟨by simp, fun tt => ?_⟩
    repeat wtm_at "a1"
    refine ret_ok (lc' := []) (ow'' := (tt, .tup [.int (a / b : Nat), .int (a % b : Nat)]) :: (t1' ++ (t2' ++ ow))) ?_ (h tt t1' t2' T1' T2')
    exact .tl (.drop (.drop .all))
  · repeat wtm_at "a1"
    refine ld_builtin A orv (v := .type "reversed") (by kernel_rfl) (a := .con (.type "reversed")) rfl ?_
    repeat wtm_at "a1"
    refine ⟨kt, cal_reversed (xs := (digs n a m).map nI) (by wtm_at "mm") fun D => ?_⟩
    have e0 : a / 2 ^ (n * (m - 0)) = 0 := by rw [Nat.sub_zero]; exact Nat.div_eq_of_lt ham
    refine ⟨D, ld, _, rfl, .all, ?_, [], ?_, rfl, rfl, fun _ h => (nomatch h), ?_⟩
    · rintro k lc1 _ ⟨qs, _, rfl, _⟩; wtm_at "mm"
    · rw [e0, Nat.zero_mod, show ((0 : Nat) : Int) = 0 from rfl]; wtm_at "ls"
    · rw [e0, Nat.zero_div]; rfl
end
end

section
theorem fns_idm : FnS ["a", "b"] (stAt 7) := ⟨by decide +kernel, by decide +kernel, by decide +kernel, by kernel_rfl, by kernel_rfl, by kernel_rfl⟩
theorem dlen_ok {x n : Nat} (hn : 1 ≤ n) (h : x < 2 ^ (63 * n)) : dlen x n ≤ 64 := by
  have := bits_le h
  unfold dlen
  have h2 : (Builtin.Int.intBits (x : Int) + n - 1) / n ≤ (64 * n) / n := Nat.div_le_div_right (by wtm_at "om")
  rwa [Nat.mul_div_cancel _ (by wtm_at "om")] at h2
section
variable {K : Frag} {c : Cx} {lc : LC} {ow t1 t2 : OW} {env : Env} {d : Nat}
noncomputable abbrev IQ (Q : AV → LC → OW → Prop) (lc : LC) (ow : OW) (q r : Int) : Prop := ∀ l t1' t2', TB1 t1' → TB2 t2' → Q (.ref l) lc ((l, .tup [.int q, .int r]) :: (t1' ++ (t2' ++ ow)))
set_option maxHeartbeats 4000000
theorem cal_idm_pos {a b n : Nat} {Q : AV → LC → OW → Prop} (A : Act K c (d + 11) env) (O : KOk K) (hh : c.A.handled = none) (hnb : Builtin.Int.intBits (b : Int) = n) (hn1 : 2 ≤ n) (hn : n ≤ 7000) (hz : a < 2 ^ (63 * n)) (T1 : TB1 t1) (T2 : TB2 t2)
    (h : IQ Q lc ow (a / b : Nat) (a % b : Nat)) : Cal c (.con (.ref 56)) [.int a, .int b] [] lc (t1 ++ (t2 ++ ow)) Q := by
  refine cal_pos A O.idm fns_idm rfl (len2 fun u v doc pm an ct => by kernel_rfl) fun c hw hc A => ?_
  show SX c (execs (fBody (stAt 7)) (envX "int_divmod" (fScope (stAt 7)) c.L 56 (.ref 55) [])) [("a", .int a), ("b", .int b)] _ (retP Q lc)
  rw [← hc] at hh
  have g := O.g49
  have hbp : b ≠ 0 := fun e => by subst e; exact absurd hnb (by show ¬ 0 = n; wtm_at "om")
  refine sx_cons ?_
  repeat wtm_at "a1"
  refine br_neg (by wtm_at "om") ?_
  repeat wtm_at "a1"
  refine br_neg (by wtm_at "om") ?_
  repeat wtm_at "a1"
  refine br_neg (by wtm_at "om") ?_
  repeat wtm_at "a1"
  refine ld_global A g (a := .con (.ref 49)) rfl ?_
  repeat wtm_at "a1"
  refine ⟨kpr_fn A O.dmp, cal_dmp A O hh hnb hn1 hn (dlen_ok (by wtm_at "om") hz) T1 T2 fun l t1' t2' T1' T2' => ?_⟩
  repeat wtm_at "a1"
  exact ret_ok (lc' := []) .all (h l t1' t2' T1' T2')
theorem cal_idm_neg {a : Int} {b n : Nat} {Q : AV → LC → OW → Prop} (A : Act K c (d + 12) env) (O : KOk K) (hh : c.A.handled = none) (hnb : Builtin.Int.intBits (b : Int) = n) (hn1 : 2 ≤ n) (hn : n ≤ 7000) (hz : a.natAbs < 2 ^ (63 * n)) (T1 : TB1 t1) (T2 : TB2 t2)
    (h : IQ Q lc ow (a.fdiv b) (a.fmod b)) : Cal c (.con (.ref 56)) [.int a, .int b] [] lc (t1 ++ (t2 ++ ow)) Q := by
  have hbp : b ≠ 0 := fun e => by subst e; exact absurd hnb (by show ¬ 0 = n; wtm_at "om")
  by_cases ha : 0 ≤ a
  · obtain ⟨a, rfl⟩ := Int.eq_ofNat_of_zero_le ha
    rw [n_div, n_mod] at h
    exact cal_idm_pos A.less1 O hh hnb hn1 hn (by simpa using hz) T1 T2 h
  obtain ⟨x, hx⟩ : ∃ x : Nat, Builtin.bitNot a = x := ⟨(-a - 1).toNat, by show -a - 1 = _; wtm_at "om"⟩
  have hx' : -a - 1 = x := hx
  refine cal_pos A O.idm fns_idm rfl (len2 fun u v doc pm an ct => by kernel_rfl) fun c hw hc A => ?_
  show SX c (execs (fBody (stAt 7)) (envX "int_divmod" (fScope (stAt 7)) c.L 56 (.ref 55) [])) [("a", .int a), ("b", .int b)] _ (retP Q lc)
  rw [← hc] at hh
  have g := O.g56
  refine sx_cons ?_
  repeat wtm_at "a1"
  refine br_neg (by wtm_at "om") ?_
  repeat wtm_at "a1"
  refine br_neg (by wtm_at "om") ?_
  repeat wtm_at "a1"
  refine br_pos (by wtm_at "om") ?_
  refine sx_cons (sx_tuple ?_)
  repeat wtm_at "a1"
  refine ld_global A g (a := .con (.ref 56)) rfl ?_
  repeat wtm_at "a1"
  rw [hx]
  repeat wtm_at "a1"
  refine ⟨kpr_fn A O.idm, cal_idm_pos A O hh hnb hn1 hn (by wtm_at "om") T1 T2 fun l t1' t2' T1' T2' => ?_⟩
  refine asg_t2 hh (by wtm_at "mm") ?_
  repeat wtm_at "a1"
  refine ev_tup ?_
  repeat wtm_at "a1"
  refine ⟨by simp, fun l2 => ?_⟩
  repeat wtm_at "a1"
  refine ret_ok (lc' := []) (ow'' := (l2, .tup [.int (a.fdiv b), .int (a.fmod b)]) :: (t1' ++ (t2' ++ ow))) ?_ (h l2 t1' t2' T1' T2')
  have hxd := Nat.div_add_mod x b
  have hxm := Nat.mod_lt x (show 0 < b by wtm_at "om")
  have e1 : Builtin.bitNot ((x / b : Nat) : Int) = a.fdiv b := by
    show -((x / b : Nat) : Int) - 1 = _
    rw [Int.fdiv_eq_ediv_of_nonneg _ (by wtm_at "om")]
    refine (((Int.ediv_emod_unique (a := a) (b := (b : Int)) (r := (b : Int) - 1 - (x % b : Nat)) (q := -((x / b : Nat) : Int) - 1) (by wtm_at "om")).mpr ⟨?_, by wtm_at "om", by wtm_at "om"⟩).1).symm
    have : ((b * (x / b) + x % b : Nat) : Int) = x := by rw [hxd]
    push_cast at this ⊢
    rw [Int.mul_sub, Int.mul_neg]; wtm_at "om"
  have e2 : (b : Int) + Builtin.bitNot ((x % b : Nat) : Int) = a.fmod b := by
    show (b : Int) + (-((x % b : Nat) : Int) - 1) = _
    rw [Int.fmod_eq_emod_of_nonneg _ (by wtm_at "om")]
    refine Eq.trans ?_ (((Int.ediv_emod_unique (a := a) (b := (b : Int)) (r := (b : Int) - 1 - (x % b : Nat)) (q := -((x / b : Nat) : Int) - 1) (by wtm_at "om")).mpr ⟨?_, by wtm_at "om", by wtm_at "om"⟩).2).symm
    · wtm_at "om"
    have : ((b * (x / b) + x % b : Nat) : Int) = x := by rw [hxd]
    push_cast at this ⊢
    rw [Int.mul_sub, Int.mul_neg]; wtm_at "om"
  rw [e1, e2]
  exact .tl (.drop .all)
theorem cal_idm_bneg {a : Int} {b n : Nat} {Q : AV → LC → OW → Prop} (A : Act K c (d + 13) env) (O : KOk K) (hh : c.A.handled = none) (hnb : Builtin.Int.intBits (b : Int) = n) (hn1 : 2 ≤ n) (hn : n ≤ 7000) (hz : a.natAbs < 2 ^ (63 * n)) (T1 : TB1 t1) (T2 : TB2 t2)
    (h : IQ Q lc ow ((-a).fdiv b) (-(-a).fmod b)) : Cal c (.con (.ref 56)) [.int a, .int (-(b : Int))] [] lc (t1 ++ (t2 ++ ow)) Q := by
  have hbp : b ≠ 0 := fun e => by subst e; exact absurd hnb (by show ¬ 0 = n; wtm_at "om")
  refine cal_pos A O.idm fns_idm rfl (len2 fun u v doc pm an ct => by kernel_rfl) fun c hw hc A => ?_
  show SX c (execs (fBody (stAt 7)) (envX "int_divmod" (fScope (stAt 7)) c.L 56 (.ref 55) [])) [("a", .int a), ("b", .int (-(b : Int)))] _ (retP Q lc)
  rw [← hc] at hh
  have g := O.g56
  refine sx_cons ?_
  repeat wtm_at "a1"
  refine br_neg (by wtm_at "om") ?_
  repeat wtm_at "a1"
  refine br_pos (by wtm_at "om") ?_
  refine sx_cons (sx_tuple ?_)
  repeat wtm_at "a1"
  refine ld_global A g (a := .con (.ref 56)) rfl ?_
  repeat wtm_at "a1"
  rw [Int.neg_neg]
  repeat wtm_at "a1"
  refine ⟨kpr_fn A O.idm, cal_idm_neg A O hh hnb hn1 hn (by rw [Int.natAbs_neg]; exact hz) T1 T2 fun l t1' t2' T1' T2' => ?_⟩
  refine asg_t2 hh (by wtm_at "mm") ?_
  repeat wtm_at "a1"
  refine ev_tup ?_
  repeat wtm_at "a1"
  refine ⟨by simp, fun l2 => ?_⟩
  repeat wtm_at "a1"
  refine ret_ok (lc' := []) (ow'' := (l2, .tup [.int ((-a).fdiv b), .int (-(-a).fmod b)]) :: (t1' ++ (t2' ++ ow))) ?_ (h l2 t1' t2' T1' T2')
  exact .tl (.drop .all)
/-- by nought -/
theorem calR_idm {a : Int} (A : Act K c (d + 1) env) (O : KOk K) (hh : c.A.handled = none) : CalR c env (.con (.ref 56)) [.int a, .int 0] lc ow "ZeroDivisionError" (fun lc' ow' => lc' = lc ∧ ow' = ow) := by
  refine calR_fn (bs := [.int a, .int 0]) A O.idm fns_idm rfl (fun vs ra => ?_) fun c hw hc A => ?_
  · obtain ⟨v1, v2, rfl, r1, r2⟩ := al2 ra
    exact ⟨[v1, v2], ⟨r1, r2, trivial⟩, fun s doc pm an ct X => BindsTo.of_eq (by kernel_rfl)⟩
  · show RM c (execs (fBody (stAt 7)) (envX "int_divmod" (fScope (stAt 7)) c.L 56 (.ref 55) [])) [("a", .int a), ("b", .int 0)] ow "ZeroDivisionError"
    rw [← hc] at hh
    refine rm_cons (rm_if ?_)
    repeat wtm_at "a1"
    exact ⟨rfl, rfl, rm_cons (rm_zero A O hh)⟩
end
end

section
theorem bits_leI {x : Int} {k : Nat} (h : x.natAbs < 2 ^ k) : Builtin.Int.intBits x ≤ k := by
  unfold Builtin.Int.intBits
  split
  · exact Nat.zero_le _
  · rename_i h0
    have h0' : x.natAbs ≠ 0 := by simpa using h0
    exact (Nat.log2_lt h0').mpr h
theorem mulokN {a b : Int} {k l : Nat} (ha : a.natAbs < 2 ^ k) (hb : b.natAbs < 2 ^ l) (h : k + l ≤ 100000000) : IntMulOk a b :=
  mulok (by have := bits_leI ha; have := bits_leI hb; wtm_at "om")
theorem abs_pow {x : Int} {k : Nat} (h : x.natAbs < 2 ^ k) (j : Nat) : (x ^ j).natAbs < 2 ^ (k * j + 1) := by
  rw [Int.natAbs_pow, Nat.pow_succ, Nat.pow_mul]
  have h1 : x.natAbs ^ j ≤ (2 ^ k) ^ j := Nat.pow_le_pow_left (by wtm_at "om") j
  have h2 : 0 < (2 ^ k) ^ j := Nat.pow_pos (Nat.two_pow_pos k)
  wtm_at "om"
theorem abs_mul {x y : Int} {k l : Nat} (h : x.natAbs < 2 ^ k) (h' : y.natAbs < 2 ^ l) : (x * y).natAbs < 2 ^ (k + l) := by
  rw [Int.natAbs_mul, Nat.pow_add]
  exact Nat.mul_lt_mul'' h h'
theorem digs_undig (n : Nat) : ∀ es : List Nat, (∀ e ∈ es, e < 2 ^ n) → digs n (undig n es) es.length = es
  | [], _ => rfl
  | e :: es, h => by
    have h1 := h e (.head _)
    rw [List.length_cons, digs, undig, Nat.add_mul_mod_self_left, Nat.mod_eq_of_lt h1, Nat.add_mul_div_left _ _ (Nat.two_pow_pos n), Nat.div_eq_of_lt h1, Nat.zero_add, digs_undig n es fun e he => h e (.tail _ he)]
/-- the sum of the powers, as _law_turned adds them up -/
noncomputable def turnS (B : Int) (cs : List Int) : Int := ((List.range 6).map fun k => cs.getD k 0 * (1 + B) ^ (5 - k) * (1 - B) ^ k).sum
noncomputable def polyS (B : Int) (ds : List Int) : Int := ((List.range 6).map fun k => ds.getD k 0 * B ^ k).sum
theorem poly6 (B d0 d1 d2 d3 d4 d5 : Int) : polyS B [d0, d1, d2, d3, d4, d5] = d0 + d1 * B + d2 * B ^ 2 + d3 * B ^ 3 + d4 * B ^ 4 + d5 * B ^ 5 := by
  unfold polyS
  have : B ^ 1 = B := by rw [Int.pow_succ, Int.pow_zero, Int.one_mul]
  simp [List.range, List.range.loop, this]
  wtm_at "om"
theorem undig6 (n e0 e1 e2 e3 e4 e5 : Nat) (B : Int) (hB : B = ((2 ^ n : Nat) : Int)) : ((undig n [e0, e1, e2, e3, e4, e5] : Nat) : Int) = e0 + e1 * B + e2 * B ^ 2 + e3 * B ^ 3 + e4 * B ^ 4 + e5 * B ^ 5 := by
  unfold undig undig undig undig undig undig undig
  rw [Nat.mul_zero, Nat.add_zero]
  rw [Int.natCast_add, Int.natCast_mul, Int.natCast_add, Int.natCast_mul, Int.natCast_add, Int.natCast_mul, Int.natCast_add, Int.natCast_mul, Int.natCast_add, Int.natCast_mul, ← hB]
  grind
theorem undig_ge (n : Nat) : ∀ (es : List Nat) (k e : Nat), es[k]? = some e → 2 ^ (n * k) * e ≤ undig n es
  | [], k, e, h => by simp at h
  | a :: es, 0, e, h => by
    simp at h
    subst h
    rw [undig, Nat.mul_zero, Nat.pow_zero]; wtm_at "om"
  | a :: es, k + 1, e, h => by
    have := undig_ge n es k e (by simpa using h)
    rw [undig, Nat.mul_succ, Nat.add_comm (n * k), Nat.pow_add, Nat.mul_assoc]
    have := Nat.mul_le_mul_left (2 ^ n) this
    wtm_at "om"
theorem fd_unique {a q r : Int} {b : Nat} (h : a = b * q + r) (h0 : 0 ≤ r) (h1 : r < b) : a.fdiv b = q ∧ a.fmod b = r := by
  have := (Int.ediv_emod_unique (a := a) (b := (b : Int)) (r := r) (q := q) (by wtm_at "om")).mpr ⟨by rw [h]; wtm_at "om", h0, h1⟩
  rw [Int.fdiv_eq_ediv_of_nonneg _ (by wtm_at "om"), Int.fmod_eq_emod_of_nonneg _ (by wtm_at "om")]
  exact this
/-- what the numbers are, ahead of the walk -/
structure TurnN (w s : Nat) (cs ds : List Int) (X U V n : Nat) (B D : Int) : Prop where
  hX : X = 2 ^ w
  hB : B = (X : Int)
  hU : (U : Int) = B * B + B - 1
  hV : V = U * s
  hn : Builtin.Int.intBits (V : Int) = n
  n2 : 2 ≤ n
  n7 : n ≤ 7000
  hD : turnS B cs = s * D
  big : ∀ x : Int, x.natAbs ≤ V * D.natAbs + 1 → x.natAbs < 2 ^ (63 * n)
  dig : ∃ es : List Nat, es.length = 6 ∧ (∀ e ∈ es, e < 2 ^ w) ∧ dlen (undig w es) w = 6 ∧ ((undig w es : Nat) : Int) = D + ((List.range 6).map fun k => ((X / 2 : Nat) : Int) * ((2 ^ (k * w) : Nat) : Int)).sum ∧ es.map (fun (e : Nat) => (e : Int) - ((X / 2 : Nat) : Int)) = ds
theorem na1 {W : Int} {m : Nat} (h : W.natAbs ≤ m) : (1 + W).natAbs ≤ m + 1 := Nat.le_trans (Int.natAbs_add_le 1 W) (Nat.le_trans (Nat.add_le_add_left h 1) (Nat.le_of_eq (Nat.add_comm 1 m)))
theorem na2 {W : Int} {m : Nat} (h : W.natAbs ≤ m) : (-1 - W).natAbs ≤ m + 1 := by rw [show (-1 : Int) - W = -(1 + W) by wtm_at "om", Int.natAbs_neg]; exact na1 h
theorem turnN {w s : Nat} {cs ds : List Int} (hw1 : 5 ≤ w) (hw2 : w ≤ 2003) (hs1 : 1 ≤ s) (hs2 : s ≤ 32) (hds : ds.length = 6) (hdb : ∀ d ∈ ds, -16 < d ∧ d < 16) (hS : turnS ((2 ^ w : Nat) : Int) cs = s * polyS ((2 ^ w : Nat) : Int) ds) :
    ∃ X U V n B, TurnN w s cs ds X U V n B (polyS ((2 ^ w : Nat) : Int) ds) := by
  obtain ⟨X, hX⟩ : ∃ X, X = 2 ^ w := ⟨_, rfl⟩
  have hX32 : 32 ≤ X := by rw [hX]; exact Nat.pow_le_pow_right (n := 2) (by decide) hw1
  have hXX : X * X = 2 ^ (w + w) := by rw [hX, Nat.pow_add]
  rw [← hX] at hS ⊢
  obtain ⟨d0, d1, d2, d3, d4, d5, rfl⟩ := ln6 hds
  · have b0 := hdb d0 (by simp)
    have b1 := hdb d1 (by simp)
    have b2 := hdb d2 (by simp)
    have b3 := hdb d3 (by simp)
    have b4 := hdb d4 (by simp)
    have b5 := hdb d5 (by simp)
    obtain ⟨H, hH⟩ : ∃ H, H = X / 2 := ⟨_, rfl⟩
    have hH16 : 16 ≤ H := by wtm_at "om"
    have ge : ∀ d : Int, -16 < d → d < 16 → ∃ e : Nat, (e : Int) = d + H ∧ e < X ∧ 1 ≤ e := fun d h1 h2 => ⟨(d + H).toNat, by wtm_at "om", by wtm_at "om", by wtm_at "om"⟩
    refine bc fun hG => ?_
    obtain ⟨e0, q0, l0, _⟩ := ge d0 b0.1 b0.2
    obtain ⟨e1, q1, l1, _⟩ := ge d1 b1.1 b1.2
    obtain ⟨e2, q2, l2, _⟩ := ge d2 b2.1 b2.2
    obtain ⟨e3, q3, l3, _⟩ := ge d3 b3.1 b3.2
    obtain ⟨e4, q4, l4, _⟩ := ge d4 b4.1 b4.2
    obtain ⟨e5, q5, l5, p5⟩ := ge d5 b5.1 b5.2
    refine hG ?_
    clear hG
    obtain ⟨B, hB⟩ : ∃ B : Int, B = (X : Int) := ⟨_, rfl⟩
    rw [← hB] at hS ⊢
    have hU1 : 1 ≤ X * X + X := by wtm_at "om"
    have hU : ((X * X + X - 1 : Nat) : Int) = B * B + B - 1 := by
      rw [Int.natCast_sub hU1, Int.natCast_add, Int.natCast_mul, ← hB]; rfl
    obtain ⟨U, hUe⟩ : ∃ U, U = X * X + X - 1 := ⟨_, rfl⟩
    have hUl : X * X ≤ U := by wtm_at "om"
    have hUu : U < 2 ^ (w + w + 1) := by
      rw [Nat.pow_succ, ← hXX, hUe]
      have : 32 * X ≤ X * X := Nat.mul_le_mul_right X hX32
      wtm_at "om"
    obtain ⟨V, hV⟩ : ∃ V, V = U * s := ⟨_, rfl⟩
    have hVl : 2 ^ (w + w) ≤ V := by
      rw [hV, ← hXX]
      exact Nat.le_trans hUl (Nat.le_mul_of_pos_right _ hs1)
    have hVu : V < 2 ^ (w + w + 1 + 6) := by
      rw [hV, Nat.pow_add]
      exact Nat.mul_lt_mul'' hUu (by wtm_at "om")
    obtain ⟨n, hn⟩ : ∃ n, Builtin.Int.intBits (V : Int) = n := ⟨_, rfl⟩
    have hVn := bits_lt V
    rw [hn] at hVn
    have hn7 := bits_le hVu
    rw [hn] at hn7
    have hnw : w + w < n := (Nat.pow_lt_pow_iff_right (a := 2) (by decide)).mp (Nat.lt_of_le_of_lt hVl hVn)
    have hes : ∀ e ∈ [e0, e1, e2, e3, e4, e5], e < 2 ^ w := by
      rw [← hX]
      intro e he
      simp only [List.mem_cons, List.not_mem_nil, or_false] at he
      rcases he with rfl | rfl | rfl | rfl | rfl | rfl <;> assumption
    have hH6 : ∀ e ∈ [H, H, H, H, H, H], e < 2 ^ w := by
      rw [← hX]
      intro e he
      simp only [List.mem_cons, List.not_mem_nil, or_false] at he
      rcases he with rfl | rfl | rfl | rfl | rfl | rfl <;> wtm_at "om"
    have hW := undig6 w e0 e1 e2 e3 e4 e5 B (by rw [hB, hX])
    have hL := undig6 w H H H H H H B (by rw [hB, hX])
    have hWl := undig_lt w _ hes
    have hLl := undig_lt w _ hH6
    have hWg := undig_ge w [e0, e1, e2, e3, e4, e5] 5 e5 rfl
    have hD := poly6 B d0 d1 d2 d3 d4 d5
    have hWD : ((undig w [e0, e1, e2, e3, e4, e5] : Nat) : Int) = polyS B [d0, d1, d2, d3, d4, d5] + (undig w [H, H, H, H, H, H] : Nat) := by
      rw [hW, hL, hD, q0, q1, q2, q3, q4, q5]; grind
    have hlen6 : [e0, e1, e2, e3, e4, e5].length = 6 := rfl
    have hlenH : [H, H, H, H, H, H].length = 6 := rfl
    rw [hlen6] at hWl
    rw [hlenH] at hLl
    generalize undig w [H, H, H, H, H, H] = LL at hL hLl hWD
    obtain ⟨W, hWe⟩ : ∃ W, W = undig w [e0, e1, e2, e3, e4, e5] := ⟨_, rfl⟩
    rw [← hWe] at hW hWl hWg hWD
    generalize polyS B [d0, d1, d2, d3, d4, d5] = D at hS hD hWD
    refine ⟨X, U, V, n, B, hX, hB, by rw [hUe]; exact hU, hV, hn, by wtm_at "om", by wtm_at "om", hS, fun x hx => ?_, [e0, e1, e2, e3, e4, e5], rfl, hes, ?_, ?_, ?_⟩
    · have h1 : D.natAbs < 2 ^ (w * 6) := by wtm_at "om"
      have h2 : V * D.natAbs < 2 ^ n * 2 ^ (w * 6) := Nat.mul_lt_mul'' hVn h1
      rw [← Nat.pow_add] at h2
      have h3 : 2 ^ (n + w * 6) < 2 ^ (63 * n) := Nat.pow_lt_pow_right (by decide) (by wtm_at "om")
      wtm_at "om"
    · rw [← hWe]
      have hb := bits_lt W
      have hb2 := bits_le hWl
      unfold dlen
      generalize Builtin.Int.intBits (W : Int) = b at hb hb2 ⊢
      have h5 : 2 ^ (w * 5) ≤ W := Nat.le_trans (Nat.le_mul_of_pos_right _ p5) hWg
      have hb3 : w * 5 < b := (Nat.pow_lt_pow_iff_right (a := 2) (by decide)).mp (Nat.lt_of_le_of_lt h5 hb)
      exact Nat.div_eq_of_lt_le (by wtm_at "om") (by wtm_at "om")
    · rw [← hWe, hWD, hL, ← hH]
      have hp : ∀ k, ((2 ^ (k * w) : Nat) : Int) = B ^ k := fun k => by
        rw [hB, hX, Nat.mul_comm, Nat.pow_mul]; norm_cast
      simp only [hp]
      have h1 : B ^ 1 = B := by rw [Int.pow_succ, Int.pow_zero, Int.one_mul]
      simp [List.range, List.range.loop, h1]
      wtm_at "om"
    · rw [← hH]
      simp only [List.map_cons, List.map_nil]
      rw [q0, q1, q2, q3, q4, q5]
      simp only [Int.add_sub_cancel]
end

section
theorem CalR.mono {c : Cx} {env : Env} {f : AV} {as : List AV} {lc : LC} {ow : OW} {X : String} {Q Q' : LC → OW → Prop} (h : CalR c env f as lc ow X Q) (k : ∀ lc ow, Q lc ow → Q' lc ow) : CalR c env f as lc ow X Q' :=
  ⟨fun fv vs rf ra => ⟨fun s P E R kx => (h.run fv vs rf ra).run s P E R fun lc' ow' e h' tk' q fl => kx lc' ow' e h' tk' (k _ _ q) fl⟩⟩
theorem pk_in {xs t1 t2 ow : OW} : Pick (xs ++ (t1 ++ (t2 ++ ow))) (t1 ++ (t2 ++ (xs ++ ow))) := pick_mid.trans (Pick.appl t1 pick_mid)
theorem pk_out {xs t1 t2 ow : OW} : Pick (t1 ++ (t2 ++ (xs ++ ow))) (xs ++ (t1 ++ (t2 ++ ow))) := (Pick.appl t1 (pick_mid (xs := t2) (tb := xs))).trans (pick_mid (xs := t1) (tb := xs))
section
variable {K : Frag} {c : Cx} {lc : LC} {ow t1 t2 : OW} {env : Env} {d : Nat}
set_option exponentiation.threshold 10000
set_option maxHeartbeats 8000000
theorem cal_turned {w s : Nat} {lk : Addr} {cs ds : List Int} {Q : AV → LC → OW → Prop} (A : Act0 K c (d + 14) env) (O : KOk K) (hh : c.A.handled = none) (hw1 : 5 ≤ w) (hw2 : w ≤ 2003) (hs1 : 1 ≤ s) (hs2 : s ≤ 32)
    (hcs : cs.length = 6) (hcb : ∀ c ∈ cs, c.natAbs < 2 ^ 6) (hds : ds.length = 6) (hdb : ∀ d ∈ ds, -16 < d ∧ d < 16) (hS : turnS ((2 ^ w : Nat) : Int) cs = s * polyS ((2 ^ w : Nat) : Int) ds) (T1 : TB1 t1) (T2 : TB2 t2)
    (hm : (lk, AO.list (cs.map .int)) ∈ ow) (h : ∀ l t1' t2', TB1 t1' → TB2 t2' → Q (.ref l) lc ((l, .list (ds.map .int)) :: (t1' ++ (t2' ++ ow)))) :
    Cal c (.con (.ref 187)) [.ref lk, .int s, .int w] [] lc (t1 ++ (t2 ++ ow)) Q := by
  refine bc fun hG => ?_
  obtain ⟨X, U, V, n, B, N⟩ := turnN hw1 hw2 hs1 hs2 hds hdb hS
  refine hG ?_
  clear hG
  refine cal_cells1 (names := ["counts", "share", "width"]) (ls := [("share", .int s)]) (cw := fun L => [(L + 3, .cell none), (L + 2, .cell (some (.int w))), (L + 1, .cell (some (.ref lk)))]) A O.turned rfl (by decide +kernel) (by decide +kernel) (len3 fun _ _ _ doc pm an ct => by kernel_rfl) (by exact ls_cons (lget_tail lget_head) ls_nil) (loc_of (names := ["share"]) rfl (by decide +kernel)) (by decide +kernel) (fun L' => by kernel_rfl) (by decide +kernel) (by kernel_rfl) (by kernel_rfl) (by kernel_rfl) fun c hw hc A => ?_
  show TX c (fs0 env) (execs (fBody (stAt 28)) (envOfC "_law_turned" (fScope (stAt 28)) c.L 187 (.ref 186))) [("share", .int s)] ((c.L + 3, .cell none) :: (c.L + 2, .cell (some (.int w))) :: (c.L + 1, .cell (some (.ref lk))) :: (t1 ++ (t2 ++ ow))) (retP Q lc)
  rw [← hc] at hh
  have gs := O.sum
  have gr := O.range
  have g56 := O.g56
  have g35 := O.g35
  have hu : c.A.units ≤ 9000 := by have := A.units; wtm_at "om"
  have hmk : ∀ {x y z : Addr × AO}, (lk, AO.list (cs.map .int)) ∈ x :: y :: z :: (t1 ++ (t2 ++ ow)) := .tail _ (.tail _ (.tail _ (List.mem_append_right _ (List.mem_append_right _ hm))))
  have hXl : X < 2 ^ (w + 1) := by rw [N.hX, Nat.pow_succ]; have := Nat.two_pow_pos w; wtm_at "om"
  have hX1 : 1 ≤ X := by rw [N.hX]; exact Nat.two_pow_pos w
  refine tx_cons ?_
  repeat wtm_at "a1"
  refine ev_name (ld_cell (d := c.L + 2) (by kernel_rfl) (by wtm_at "mm") ?_)
  refine b_shl ?_ (by omega) (by have : Builtin.Int.intBits 1 = 1 := by decide
                                 wtm_at "om")
  rw [show (1 : Int) * 2 ^ ((w : Int)).toNat = B by rw [N.hB, N.hX, Int.one_mul, Int.toNat_natCast]; norm_cast]
  refine sto_cell (d := c.L + 3) (by kernel_rfl) (by wtm_at "up") ?_
  refine nxT ?_
  have hBn : B.natAbs < 2 ^ (w + 1) := by rw [N.hB]; simpa using hXl
  have hB1 : (1 + B).natAbs < 2 ^ (w + 2) := Nat.lt_of_le_of_lt (na1 (Nat.le_refl _)) (Nat.lt_of_le_of_lt hBn (Nat.pow_lt_pow_right (by decide) (Nat.lt_succ_self _)))
  have hB2 : (1 - B).natAbs < 2 ^ (w + 2) := by rw [Int.sub_eq_add_neg]; exact Nat.lt_of_le_of_lt (na1 (Nat.le_of_eq (Int.natAbs_neg B))) (Nat.lt_of_le_of_lt hBn (Nat.pow_lt_pow_right (by decide) (Nat.lt_succ_self _)))
  refine tx_cons ?_
  repeat wtm_at "a1"
  refine ev_name (ld_cell (d := c.L + 3) (by kernel_rfl) (by wtm_at "mm") ?_)
  refine ev_name (ld_cell (d := c.L + 3) (by kernel_rfl) (by wtm_at "mm") ?_)
  refine b_mul ?_ (mulokN hBn hBn (by wtm_at "om"))
  refine ev_name (ld_cell (d := c.L + 3) (by kernel_rfl) (by wtm_at "mm") ?_)
  repeat wtm_at "a1"
  rw [← N.hU]
  repeat wtm_at "a1"
  refine nxT ?_
  refine tx_cons ?_
  repeat wtm_at "a1"
  refine ld_builtin A.toAct gs (v := .builtin "sum") (by kernel_rfl) (a := .con (.builtin "sum")) rfl ?_
  repeat wtm_at "a1"
  have hcl : ∀ k, k < 6 → ∃ ck, cs[k]? = some ck ∧ cs.getD k 0 = ck ∧ ck.natAbs < 2 ^ 6 := fun k hk => by
    have hx : cs[k]? = some cs[k] := List.getElem?_eq_getElem (by wtm_at "om")
    exact ⟨cs[k], hx, by rw [List.getD_eq_getElem?_getD, hx]; rfl, hcb _ (List.getElem_mem ..)⟩
  refine ev_lc (lc_rng (cl := [("counts", c.L + 1), ("base", c.L + 3)]) 6 (fun k' ys lc1 ow1 => lc1 = ([("share", .int s), ("unit", .int U)] : LC) ∧ ow1 = ((c.L + 3, .cell (some (.int B))) :: (c.L + 2, .cell (some (.int w))) :: (c.L + 1, .cell (some (.ref lk))) :: (t1 ++ (t2 ++ ow))) ∧ ys = ((List.range k').map fun k => cs.getD k 0 * (1 + B) ^ (5 - k) * (1 - B) ^ k).map .int ∧ k' ≤ 6) ?_ ?_ ?_ ?_ ?_) ?_
  · rintro k' ys lc1 ow1 ⟨rfl, rfl, _⟩; exact .inl hh
  · kernel_rfl
  · intro k' ys lc1 ow1 D C dd itx hk
    revert ys lc1 ow1
    refine el_r1 fun hk' => ?_
    intro hg
    refine bc fun hG => ?_
    obtain ⟨ck, h1, h2, h3⟩ := hcl k' hk
    refine hG ?_
    clear hG
    refine bt_nil (br_t ?_)
    refine ev_bin (ev_bin ?_)
    refine ev_sub ?_
    refine ev_name (ld_cell (d := c.L + 1) (by kernel_rfl) (by wtm_at "mm") ?_)
    refine ev_name (ld_ns (.tail _ (.head _)) hg ?_)
    refine sub_list (xs := cs.map .int) (x := .int ck) (.tail _ (.tail _ (.tail _ hmk))) (by wtm_at "om") (by wtm_at "om") (by rw [List.getElem?_map, Int.toNat_natCast, h1]; rfl) ?_
    refine ev_bin (ev_bin ?_)
    refine ev_int ?_
    refine ev_name (ld_cell (d := c.L + 3) (by kernel_rfl) (by wtm_at "mm") ?_)
    refine b_add ?_
    refine ev_bin (ev_int ?_)
    refine ev_name (ld_ns (.tail _ (.head _)) hg ?_)
    refine b_sub ?_
    have bp1 := abs_pow hB1 (5 - k')
    have bp2 := abs_pow hB2 k'
    have hk5 : (w + 2) * (5 - k') ≤ 2005 * 5 := Nat.mul_le_mul (by wtm_at "om") (by wtm_at "om")
    have hk6 : (w + 2) * k' ≤ 2005 * 5 := Nat.mul_le_mul (by wtm_at "om") (by wtm_at "om")
    refine b_pow ?_ (by wtm_at "om") ?_
    rotate_left
    · have := bits_leI hB1
      have h5 : ((Builtin.Int.intBits (1 + B) : Nat) : Int) * (5 - (k' : Int)) ≤ (2005 : Int) * 5 := by
        refine Int.mul_le_mul (by wtm_at "om") (by wtm_at "om") (by wtm_at "om") (by wtm_at "om")
      wtm_at "om"
    rw [show ((5 : Int) - (k' : Int)).toNat = 5 - k' by wtm_at "om"]
    refine b_mul ?_ (mulokN h3 bp1 (by wtm_at "om"))
    refine ev_bin (ev_bin ?_)
    refine ev_int ?_
    refine ev_name (ld_cell (d := c.L + 3) (by kernel_rfl) (by wtm_at "mm") ?_)
    refine b_sub ?_
    refine ev_name (ld_ns (.tail _ (.head _)) hg ?_)
    refine b_pow ?_ (by wtm_at "om") ?_
    rotate_left
    · have := bits_leI hB2
      have h5 : ((Builtin.Int.intBits (1 - B) : Nat) : Int) * (k' : Int) ≤ (2005 : Int) * 5 := by
        refine Int.mul_le_mul (by wtm_at "om") (by wtm_at "om") (by wtm_at "om") (by wtm_at "om")
      wtm_at "om"
    rw [Int.toNat_natCast]
    refine b_mul ?_ (mulokN (abs_mul h3 bp1) bp2 (by wtm_at "om"))
    refine ⟨dd, _, .all, rfl, rfl, ?_, hk⟩
    rw [List.range_succ, List.map_append, List.map_append, ← h2]; rfl
  · rintro k' ys lc1 ow1 ⟨rfl, rfl, rfl, hk⟩; simp; wtm_at "om"
  · repeat wtm_at "a1"
    refine ld_builtin A.toAct gr (v := .type "range") (by kernel_rfl) (a := .con (.type "range")) rfl ?_
    repeat wtm_at "a1"
    refine ⟨kt, cal_range1 fun r => ?_⟩
    exact ⟨r, _, rfl, .all, by decide, rfl, rfl, rfl, by wtm_at "om"⟩
  intro ys lc1 ow1 D C dd
  revert ys lc1 ow1
  refine el_r1 fun _ => ?_
  refine cf_none ?_
  repeat wtm_at "a1"
  refine ⟨kb, cal_sum hh (.head _) rfl ?_⟩
  rw [show ((List.range 6).map fun k => cs.getD k 0 * (1 + B) ^ (5 - k) * (1 - B) ^ k).sum = turnS B cs from rfl]
  obtain ⟨W, hW⟩ : ∃ W : Int, W = V * polyS ((2 ^ w : Nat) : Int) ds := ⟨_, rfl⟩
  rw [N.hD]
  generalize hDe : polyS ((2 ^ w : Nat) : Int) ds = D at N hW
  have hVn := bits_lt V
  rw [N.hn] at hVn
  have hU1 : 1 ≤ U := by
    have h1 := N.hU
    have h2 : (0 : Int) ≤ B * B := by rw [N.hB]; exact Int.mul_nonneg (by wtm_at "om") (by wtm_at "om")
    have h3 : (1 : Int) ≤ B := by rw [N.hB]; wtm_at "om"
    have h4 : B * 1 ≤ B * B := Int.mul_le_mul_of_nonneg_left h3 (by wtm_at "om")
    wtm_at "om"
  have hUV : U ≤ V := by rw [N.hV]; exact Nat.le_mul_of_pos_right _ hs1
  have hn7 := N.n7
  have hn2 := N.n2
  have hsV : s ≤ V := by rw [N.hV]; exact Nat.le_mul_of_pos_left _ hU1
  have hWb : W.natAbs ≤ V * D.natAbs := by rw [hW, Int.natAbs_mul, Int.natAbs_natCast]; exact Nat.le_refl _
  refine b_mul ?_ (mulokN (k := n) (l := 63 * n) (by simpa using Nat.lt_of_le_of_lt hUV hVn) (N.big _ (by rw [Int.natAbs_mul, Int.natAbs_natCast]; exact Nat.le_succ_of_le (Nat.mul_le_mul_right _ hsV))) (by wtm_at "om"))
  rw [show (U : Int) * (s * D) = W by rw [hW, N.hV, Int.natCast_mul, Int.mul_assoc]]
  refine Sto.weak (ow' := (c.L + 3, .cell (some (.int B))) :: (c.L + 2, .cell (some (.int w))) :: (c.L + 1, .cell (some (.ref lk))) :: (t1 ++ (t2 ++ ow))) (.drop .all) ?_
  repeat wtm_at "a1"
  refine nxT ?_
  refine tx_cons ?_
  repeat wtm_at "a1"
  refine b_mul ?_ (.of_right (intBits_le_64 (by wtm_at "om") (by wtm_at "om")))
  rw [show (U : Int) * (s : Int) = (V : Int) by rw [N.hV, Int.natCast_mul]]
  repeat wtm_at "a1"
  refine nxT ?_
  refine tx_cons (sx_tuple ?_)
  repeat wtm_at "a1"
  refine ld_global A.toAct g56 (a := .con (.ref 56)) rfl ?_
  repeat wtm_at "a1"
  have fd1 := fd_unique (a := W) (q := D) (r := 0) (b := V) (by rw [hW]; wtm_at "om") (by wtm_at "om") (by wtm_at "om")
  refine ⟨kpr_fn A.toAct O.idm, Cal.weak (pk_in (xs := [(c.L + 3, .cell (some (.int B))), (c.L + 2, .cell (some (.int w))), (c.L + 1, .cell (some (.ref lk)))])) (cal_idm_neg (d := d + 1) A.toAct O hh N.hn hn2 hn7 (N.big W (Nat.le_succ_of_le hWb)) T1 T2 fun l1 t1 t2 T1 T2 => ?_)⟩
  rw [fd1.1, fd1.2]
  refine Asg.weak (.tl (pk_out (xs := [(c.L + 3, .cell (some (.int B))), (c.L + 2, .cell (some (.int w))), (c.L + 1, .cell (some (.ref lk)))]))) ?_
  refine asg_t2 hh (by wtm_at "mm") ?_
  simp only [List.cons_append, List.nil_append]
  repeat wtm_at "a1"
  refine nxT ?_
  refine tx_cons (sx_if (bx_or ?_))
  repeat wtm_at "a1"
  refine br_neg (by decide) ?_
  refine bx_or ?_
  repeat wtm_at "a1"
  refine ld_global A.toAct g56 (a := .con (.ref 56)) rfl ?_
  repeat wtm_at "a1"
  have hVD : (V : Int) * (-1 - D) = -(V : Int) - W := by rw [hW, Int.mul_sub, Int.mul_neg, Int.mul_one]
  have fd2 := fd_unique (a := -1 - W) (q := -1 - D) (r := (V : Int) - 1) (b := V) (by rw [hVD]; wtm_at "om") (by wtm_at "om") (by wtm_at "om")
  refine ⟨kpr_fn A.toAct O.idm, Cal.weak (.drop (pk_in (xs := [(c.L + 3, .cell (some (.int B))), (c.L + 2, .cell (some (.int w))), (c.L + 1, .cell (some (.ref lk)))]))) (cal_idm_neg (d := d + 1) A.toAct O hh N.hn hn2 hn7 (N.big (-1 - W) (na2 hWb)) T1 T2 fun l2 t1 t2 T1 T2 => ?_)⟩
  rw [fd2.1, fd2.2]
  repeat wtm_at "a1"
  refine ev_tup ?_
  repeat wtm_at "a1"
  refine ⟨by simp, fun l3 => ?_⟩
  refine c_neti (ns := [-1 - D, (V : Int) - 1]) (ms := [-1 - D, (V : Int) - 1]) hu (.tail _ (.head _)) (.head _) rfl rfl rfl rfl ?_
  refine tru_bool ?_
  refine br_neg (by simp) ?_
  refine bx_or_nil ?_
  refine br_f ?_
  refine AWp.weak (.drop (.drop (pk_out (xs := [(c.L + 3, .cell (some (.int B))), (c.L + 2, .cell (some (.int w))), (c.L + 1, .cell (some (.ref lk)))])))) ?_
  simp only [List.cons_append, List.nil_append]
  repeat wtm_at "a1"
  refine nxT ?_
  refine tx_cons (sx_if ?_)
  repeat wtm_at "a1"
  refine ld_global A.toAct g56 (a := .con (.ref 56)) rfl ?_
  repeat wtm_at "a1"
  have fd3 := fd_unique (a := -(1 + W)) (q := -1 - D) (r := (V : Int) - 1) (b := V) (by rw [hVD]; wtm_at "om") (by wtm_at "om") (by wtm_at "om")
  refine ⟨kpr_fn A.toAct O.idm, Cal.weak (pk_in (xs := [(c.L + 3, .cell (some (.int B))), (c.L + 2, .cell (some (.int w))), (c.L + 1, .cell (some (.ref lk)))])) (cal_idm_bneg (d := d) A.toAct O hh N.hn hn2 hn7 (N.big (1 + W) (na1 hWb)) T1 T2 fun l4 t1 t2 T1 T2 => ?_)⟩
  rw [fd3.1, fd3.2]
  repeat wtm_at "a1"
  refine ev_tup ?_
  repeat wtm_at "a1"
  refine ⟨by simp, fun l5 => ?_⟩
  refine c_neti (ns := [-1 - D, -((V : Int) - 1)]) (ms := [-1 - D, 1 - (V : Int)]) hu (.tail _ (.head _)) (.head _) rfl rfl rfl rfl ?_
  refine tru_bool ?_
  refine br_neg (by rw [show -((V : Int) - 1) = 1 - V by wtm_at "om"]; simp) ?_
  refine AWp.weak (.drop (.drop (pk_out (xs := [(c.L + 3, .cell (some (.int B))), (c.L + 2, .cell (some (.int w))), (c.L + 1, .cell (some (.ref lk)))])))) ?_
  simp only [List.cons_append, List.nil_append]
  repeat wtm_at "a1"
  refine nxT ?_
  refine tx_last ?_
  refine tx_try A catches_zero O.zeroDiv (by kernel_rfl) ?_
  refine rx_cons (rx_expr (rx_call ?_))
  refine ld_global A.toAct g56 (a := .con (.ref 56)) rfl ?_
  repeat wtm_at "a1"
  refine ⟨kpr_fn A.toAct O.idm, (calR_idm (d := d + 12) A.toAct O hh).mono ?_⟩
  refine el_EE ?_
  intro g' e A4
  refine bc fun hG => ?_
  obtain ⟨es, hes6, hesb, hdl, hWs, hmap⟩ := N.dig
  refine hG ?_
  clear hG
  have hHc : HeldC ⟨c.w, g', c.L, c.A.mark (some (.ref e))⟩ ((e, .any (IsExc "ZeroDivisionError")) :: (c.L + 3, .cell (some (.int B))) :: (c.L + 2, .cell (some (.int w))) :: (c.L + 1, .cell (some (.ref lk))) :: (t1 ++ (t2 ++ ow))) := .inr ⟨e, _, rfl, .head _⟩
  have hX2 : B.fdiv 2 = ((X / 2 : Nat) : Int) := by rw [N.hB, show (2 : Int) = ((2 : Nat) : Int) from rfl, n_div]
  have hX2l : X / 2 < 2 ^ (w + 1) := Nat.lt_of_le_of_lt (Nat.div_le_self _ _) hXl
  refine sx_cons ?_
  repeat wtm_at "a1"
  refine ld_builtin A4 gs (v := .builtin "sum") (by kernel_rfl) (a := .con (.builtin "sum")) rfl ?_
  repeat wtm_at "a1"
  refine ev_lc (lc_rng (cl := [("width", c.L + 2), ("base", c.L + 3)]) 6 (fun k' ys lc1 ow1 => LSub [("quotient", .int D)] lc1 ∧ ow1 = ((e, .any (IsExc "ZeroDivisionError")) :: (c.L + 3, .cell (some (.int B))) :: (c.L + 2, .cell (some (.int w))) :: (c.L + 1, .cell (some (.ref lk))) :: (t1 ++ (t2 ++ ow))) ∧ ys = ((List.range k').map fun k => ((X / 2 : Nat) : Int) * ((2 ^ (k * w) : Nat) : Int)).map .int ∧ k' ≤ 6) ?_ ?_ ?_ ?_ ?_) ?_
  · rintro k' ys lc1 ow1 ⟨_, rfl, _⟩; exact hHc
  · kernel_rfl
  · intro k' ys lc1 ow1 D' C dd itx hk
    revert ys ow1
    refine el_r2 fun hls hk' => ?_
    intro hg
    refine bt_nil (br_t ?_)
    refine ev_bin (ev_bin ?_)
    refine ev_name (ld_cell (d := c.L + 3) (by kernel_rfl) (by wtm_at "mm") ?_)
    refine ev_int ?_
    refine b_fdiv ?_ (by decide) (PyProof.noPylong_small (by decide))
    rw [hX2]
    refine ev_bin ?_
    refine ev_name (ld_ns (.tail _ (.head _)) hg ?_)
    refine ev_name (ld_cell (d := c.L + 2) (by kernel_rfl) (by wtm_at "mm") ?_)
    refine b_mul ?_ (.of_right (intBits_le_64 (by wtm_at "om") (by wtm_at "om")))
    have hkw : k' * w ≤ 6 * 2003 := Nat.mul_le_mul (by wtm_at "om") hw2
    rw [← Int.natCast_mul]
    refine b_shl ?_ (by wtm_at "om") (by have := bits_le hX2l; wtm_at "om")
    rw [n_shl, Int.natCast_mul]
    refine ⟨dd, _, .all, hls, rfl, ?_, hk⟩
    rw [List.range_succ, List.map_append, List.map_append]; rfl
  · rintro k' ys lc1 ow1 ⟨_, rfl, rfl, hk⟩; simp; wtm_at "om"
  · repeat wtm_at "a1"
    refine ld_builtin A4 gr (v := .type "range") (by kernel_rfl) (a := .con (.type "range")) rfl ?_
    repeat wtm_at "a1"
    refine ⟨kt, cal_range1 fun r => ?_⟩
    exact ⟨r, _, rfl, .all, by decide, by wtm_at "ls", rfl, rfl, by wtm_at "om"⟩
  intro ys lc1 ow1 D' C dd
  revert ys ow1
  refine el_r2 fun hls _ => ?_
  refine cf_none ?_
  repeat wtm_at "a1"
  refine ⟨kb, cal_sumH ?_ (.head _) rfl ?_⟩
  · exact .inr ⟨e, _, rfl, .tail _ (.head _)⟩
  generalize hL : ((List.range 6).map fun k => ((X / 2 : Nat) : Int) * ((2 ^ (k * w) : Nat) : Int)).sum = Lf at hWs
  refine ⟨fun v rv => AWp.fgt hls (Sto.run (c := ⟨c.w, g', c.L, c.A.mark (some (.ref e))⟩) (sto_local (by wtm_at "pt") ?_) v rv)⟩
  refine nx ?_
  refine AWp.weak (.drop .all) ?_
  refine sx_cons (sx_ret ?_)
  have hdig : digs w (undig w es) 6 = es := by rw [← hes6]; exact digs_undig w es hesb
  refine ev_lc (lc_list (cl := [("base", c.L + 3)]) (es.map nI) (fun l k' ys lc1 ow1 => ∃ t1', TB1 t1' ∧ k' ≤ 6 ∧ ow1 = (l, .list (es.map nI)) :: (e, .any (IsExc "ZeroDivisionError")) :: (c.L + 3, .cell (some (.int B))) :: (c.L + 2, .cell (some (.int w))) :: (c.L + 1, .cell (some (.ref lk))) :: (t1' ++ (t2 ++ ow)) ∧ ys = ((es.take k').map fun (x : Nat) => (x : Int) - ((X / 2 : Nat) : Int)).map .int) ?_ ?_ ?_ ?_ ?_ ?_) ?_
  · rintro l k' ys lc1 ow1 ⟨t1', T1', _, rfl, _⟩; exact .inr ⟨e, _, rfl, .tail _ (.head _)⟩
  · rintro l k' ys lc1 ow1 ⟨t1', T1', _, rfl, _⟩; exact .head _
  · kernel_rfl
  · intro l k' a ys lc1 ow1 D2 C dd itx ha
    revert ys ow1
    refine el_r3 fun t1' T1' hk' => ?_
    intro hg
    rw [List.getElem?_map] at ha
    refine bc fun hG => ?_
    obtain ⟨x, hx1, rfl⟩ := Option.map_eq_some_iff.mp ha
    refine hG ?_
    clear hG
    refine bt_nil (br_t ?_)
    refine ev_bin ?_
    refine ev_name (ld_ns (.tail _ (.head _)) hg ?_)
    refine ev_bin ?_
    refine ev_name (ld_cell (d := c.L + 3) (by kernel_rfl) (by wtm_at "mm") ?_)
    refine ev_int ?_
    refine b_fdiv ?_ (by decide) (PyProof.noPylong_small (by decide))
    rw [hX2]
    refine b_sub ⟨dd, _, .all, t1', T1', ?_, rfl, ?_⟩
    · have := (List.getElem?_eq_some_iff.mp hx1).1; wtm_at "om"
    · rw [List.take_add_one, hx1, List.map_append, List.map_append]; rfl
  · rintro l k' ys lc1 ow1 ⟨t1', T1', hk', rfl, rfl⟩; simp; wtm_at "om"
  · refine ev_call ?_
    refine ld_global A4 g35 (a := .con (.ref 35)) rfl ?_
    repeat wtm_at "a1"
    rw [← hWs]
    refine ev_name (ld_cell (d := c.L + 2) (by kernel_rfl) (by wtm_at "mm") ?_)
    repeat wtm_at "a1"
    refine ⟨kpr_fn A4 O.i2d, Cal.weak (pick_mid (xs := [(e, .any (IsExc "ZeroDivisionError")), (c.L + 3, .cell (some (.int B))), (c.L + 2, .cell (some (.int w))), (c.L + 1, .cell (some (.ref lk)))])) (cal_i2d (d := d + 4) A4 O (by wtm_at "om") (by wtm_at "om") (by rw [hdl]; decide) T1 fun l t1' T1' => ?_)⟩
    rw [hdl, hdig]
    exact ⟨l, rfl, _, .tl (pick_mid (xs := t1') (tb := [(e, .any (IsExc "ZeroDivisionError")), (c.L + 3, .cell (some (.int B))), (c.L + 2, .cell (some (.int w))), (c.L + 1, .cell (some (.ref lk)))])), t1', T1', by wtm_at "om", rfl, rfl⟩
  intro l ys lc1 ow1 D2 C dd
  revert ys ow1
  refine el_r3 fun t1' T1' _ => ?_
  refine cf_none ?_
  refine nx_ret ?_
  refine ret_ok (lc' := []) (ow'' := (D2, .list (ds.map .int)) :: (t1' ++ (t2 ++ ow))) ?_ (h D2 t1' t2 T1' T2)
  rw [List.length_map, List.take_length, hmap]
  exact .tl (.drop (.drop (.drop (.drop (.drop .all)))))
end
end

section
noncomputable abbrev rangeI (n : Nat) : List Int := (List.range n).map fun (i : Nat) => (i : Int)
/-- k put in: kept in order -/
theorem ins_ord {ks os : List Int} {k r : Nat} (p : os.Perm (rangeI k)) (w : os.Pairwise (LexLt ks)) (h : BsR (fun i => ks.getD (os.getD i 0).toNat 0) (ks.getD k 0) 0 os.length r) :
    (os.take r ++ (k : Int) :: os.drop r).Perm (rangeI (k + 1)) ∧ (os.take r ++ (k : Int) :: os.drop r).Pairwise (LexLt ks) := by
  obtain ⟨_, h2, h3, h4⟩ := h
  have hr : r ≤ os.length := by wtm_at "om"
  constructor
  · refine List.perm_middle.trans ?_
    rw [List.take_append_drop]
    unfold rangeI
    rw [List.range_succ, List.map_append]
    refine (List.Perm.cons _ p).trans ?_
    exact (List.perm_append_comm (l₁ := [(k : Int)]) (l₂ := rangeI k))
  · rw [List.pairwise_append]
    have w1 := w
    rw [← List.take_append_drop r os, List.pairwise_append] at w1
    have mem : ∀ x ∈ os, 0 ≤ x ∧ x < k := fun x hx => by
      have := p.mem_iff.mp hx
      unfold rangeI at this
      simp at this
      obtain ⟨a, ha, rfl⟩ := this
      wtm_at "om"
    have hb : ∀ x ∈ os.take r, LexLt ks x k := fun x hx => by
      obtain ⟨i, hi, rfl⟩ := List.getElem_of_mem hx
      have hi' : i < r := by rw [List.length_take] at hi; wtm_at "om"
      have h5 := h3 i (Nat.zero_le _) hi'
      dsimp only at h5
      rw [List.getElem_take]
      have e : os.getD i 0 = os[i]'(by wtm_at "om") := by rw [List.getD_eq_getElem?_getD, List.getElem?_eq_getElem (by wtm_at "om")]; rfl
      rw [e] at h5
      have h6 := mem _ (List.getElem_mem (l := os) (n := i) (by wtm_at "om"))
      unfold LexLt
      rw [Int.toNat_natCast]
      wtm_at "om"
    have ha : ∀ x ∈ os.drop r, LexLt ks k x := fun x hx => by
      obtain ⟨i, hi, rfl⟩ := List.getElem_of_mem hx
      rw [List.length_drop] at hi
      have h5 := h4 (r + i) (by wtm_at "om") (by wtm_at "om")
      dsimp only at h5
      rw [List.getElem_drop]
      have e : os.getD (r + i) 0 = os[r + i]'(by wtm_at "om") := by rw [List.getD_eq_getElem?_getD, List.getElem?_eq_getElem (by wtm_at "om")]; rfl
      rw [e] at h5
      unfold LexLt
      rw [Int.toNat_natCast]
      exact .inl h5
    refine ⟨w1.1, List.pairwise_cons.mpr ⟨ha, w1.2.1⟩, fun x hx y hy => ?_⟩
    rcases List.mem_cons.mp hy with rfl | hy
    · exact hb x hx
    · exact w1.2.2 x hx y hy
theorem lex_unique {ks a b : List Int} (h : a.Perm b) (wa : a.Pairwise (LexLt ks)) (wb : b.Pairwise (LexLt ks)) : a = b :=
  List.Perm.eq_of_pairwise (le := LexLt ks) (fun x y _ _ h1 h2 => by unfold LexLt at h1 h2; wtm_at "om") wa wb h
theorem lex_mono {ks os : List Int} (w : os.Pairwise (LexLt ks)) : ∀ i j, i ≤ j → j < os.length → ks.getD (os.getD i 0).toNat 0 ≤ ks.getD (os.getD j 0).toNat 0 := fun i j hij hj => by
  by_cases e : i = j
  · subst e; exact Int.le_refl _
  · have := List.pairwise_iff_getElem.mp w i j (by wtm_at "om") hj (by wtm_at "om")
    have e1 : os.getD i 0 = os[i]'(by wtm_at "om") := by rw [List.getD_eq_getElem?_getD, List.getElem?_eq_getElem (by wtm_at "om")]; rfl
    have e2 : os.getD j 0 = os[j] := by rw [List.getD_eq_getElem?_getD, List.getElem?_eq_getElem hj]; rfl
    rw [e1, e2]
    unfold LexLt at this
    wtm_at "om"
theorem bsR_unique {kf : Nat → Int} {x : Int} {lo hi r r' : Nat} (h : BsR kf x lo hi r) (h' : BsR kf x lo hi r') : r = r' := by
  obtain ⟨a1, a2, a3, a4⟩ := h
  obtain ⟨b1, b2, b3, b4⟩ := h'
  rcases Nat.lt_trichotomy r r' with e | e | e
  · have := a4 r (Nat.le_refl _) (by wtm_at "om")
    have := b3 r (by wtm_at "om") e
    wtm_at "om"
  · exact e
  · have := b4 r' (Nat.le_refl _) (by wtm_at "om")
    have := a3 r' (by wtm_at "om") e
    wtm_at "om"
theorem bsL_unique {kf : Nat → Int} {x : Int} {lo hi r r' : Nat} (h : BsL kf x lo hi r) (h' : BsL kf x lo hi r') : r = r' := by
  obtain ⟨a1, a2, a3, a4⟩ := h
  obtain ⟨b1, b2, b3, b4⟩ := h'
  rcases Nat.lt_trichotomy r r' with e | e | e
  · have := a4 r (Nat.le_refl _) (by wtm_at "om")
    have := b3 r (by wtm_at "om") e
    wtm_at "om"
  · exact e
  · have := b4 r' (Nat.le_refl _) (by wtm_at "om")
    have := a3 r' (by wtm_at "om") e
    wtm_at "om"
/-- the places between the two are those of x -/
theorem cnt_places (kf : Nat → Int) (x : Int) : ∀ (n lo hi : Nat), lo ≤ hi → hi ≤ n → (∀ i, i < lo → kf i < x) → (∀ i, lo ≤ i → i < hi → kf i = x) → (∀ i, hi ≤ i → i < n → x < kf i) → ((List.range n).map kf).count x = hi - lo := by
  intro n
  induction n with
  | zero => intro lo hi h1 h2 _ _ _; simp; wtm_at "om"
  | succ n ih =>
    intro lo hi h1 h2 h3 h4 h5
    rw [List.range_succ, List.map_append, List.count_append]
    by_cases e : hi ≤ n
    · rw [ih lo hi h1 e h3 h4 fun i a b => h5 i a (by wtm_at "om")]
      have : kf n ≠ x := by have := h5 n e (by wtm_at "om"); wtm_at "om"
      simp [List.count_cons, this]
    · have e2 : hi = n + 1 := by wtm_at "om"
      subst e2
      by_cases e3 : lo = n + 1
      · subst e3
        have := h3 n (by wtm_at "om")
        rw [ih n n (Nat.le_refl _) (Nat.le_refl _) (fun i a => h3 i (by wtm_at "om")) (fun i a b => by wtm_at "om") fun i a b => by wtm_at "om"]
        have : kf n ≠ x := by wtm_at "om"
        simp [List.count_cons, this]
      · rw [ih lo n (by wtm_at "om") (Nat.le_refl _) h3 (fun i a b => h4 i a (by wtm_at "om")) fun i a b => by wtm_at "om"]
        have := h4 n (by wtm_at "om") (by wtm_at "om")
        simp [List.count_cons, this]; wtm_at "om"
theorem map_getD (l : List Int) : (List.range l.length).map (fun i => l.getD i 0) = l := by
  refine List.ext_getElem (by simp) fun i h1 h2 => ?_
  simp [List.getD_eq_getElem?_getD, List.getElem?_eq_getElem h2]
theorem cnt_keys {ks os : List Int} (p : os.Perm (rangeI ks.length)) (x : Int) : ((List.range os.length).map fun i => ks.getD (os.getD i 0).toNat 0).count x = ks.count x := by
  have e1 : ((List.range os.length).map fun i => ks.getD (os.getD i 0).toNat 0) = ((List.range os.length).map (fun i => os.getD i 0)).map fun o => ks.getD o.toNat 0 := by rw [List.map_map]; rfl
  rw [e1, map_getD]
  have e2 : (os.map fun o => ks.getD o.toNat 0).Perm ((rangeI ks.length).map fun o => ks.getD o.toNat 0) := p.map _
  rw [e2.count_eq]
  congr 1
  unfold rangeI
  rw [List.map_map]
  exact map_getD ks
end

section
theorem TX.weak {c : Cx} {fs} {t : Sem Flow} {lc : LC} {ow ow' : OW} {Q} (p : Pick ow ow') (h : TX c fs t lc ow' Q) : TX c fs t lc ow Q := ⟨fun s P E R k => h.run s P E (R.pick p) k⟩
theorem TX.fgt {c : Cx} {fs} {t : Sem Flow} {lc lc' : LC} {ow : OW} {Q} (p : LSub lc' lc) (h : TX c fs t lc' ow Q) : TX c fs t lc ow Q := ⟨fun s P E R k => h.run s P E (R.lcs p) k⟩
theorem cal_range3 {c : Cx} {lc : LC} {ow : OW} {a b d : Int} {Q} (hd : d ≠ 0) (hp : Builtin.divisionGoesByPylong (b - a) d = false) (h : ∀ r, Q (.ref r) lc ((r, .rng a b d) :: ow)) : Cal c (.con (.type "range")) [.int a, .int b, .int d] [] lc ow Q := by
  refine ⟨?_⟩
  rintro _ vs kvs rfl ra hk -
  obtain ⟨v, w, x, rfl, ⟨t, rfl⟩, ⟨u, rfl⟩, ⟨y, rfl⟩⟩ := al3 ra
  cases kw0 hk
  · refine ⟨fun s P E R kp => call_range_3 hd ?_ (Or.inl hp)⟩
    exact kp (.ref s.heap.objs.size) _ _ _ _ _ (h _) rfl (R.push (p := .rng a b d) ⟨_, _, _, rfl⟩)
noncomputable def asgV : Stmt → PySem.Expr
  | .Assign _ v _ => v
  | _ => .Constant .none 0 ⟨0, 0, 0, 0⟩
noncomputable def third : PySem.Expr → PySem.Expr
  | .Tuple [_, _, e] _ _ => e
  | e => e
noncomputable def tolE : PySem.Expr := third (asgV ((fBody (stAt 26))[0]?.getD (.Pass ⟨0, 0, 0, 0⟩)))
noncomputable def lamArgs : PySem.Expr → Arguments | .Lambda a _ _ _ => a | _ => ⟨[], [], none, [], [], none, []⟩
noncomputable def lamBody : PySem.Expr → PySem.Expr | .Lambda _ b _ _ => b | e => e
noncomputable def lamScope : PySem.Expr → Scope | .Lambda _ _ s _ => s | _ => { kind := .function, names := [], isGenerator := false, isCoroutine := false }
noncomputable def lamPos : PySem.Expr → Pos | .Lambda _ _ _ p => p | _ => ⟨0, 0, 0, 0⟩
noncomputable def cntL (ks : List Int) (n : Nat) : List Int := (List.range n).map fun (j : Nat) => ((ks.count (2 * (j : Int)) : Nat) : Int)
noncomputable abbrev tolQ : Str := "_law_counts.<locals>.<lambda>"
noncomputable abbrev tolO (L₀ : Nat) (pm : Value) (cd : Addr) (ctv : Value) : AO := .obj (kla_obj "<lambda>" tolQ (lamArgs tolE) (lamBody tolE) (lamScope tolE) [("far", L₀ + 1)] pm cd ctv)
section
variable {K : Frag} {d : Nat}
set_option maxHeartbeats 8000000
theorem keyOf_told {L₀ : Nat} {f cd lf : Addr} {pm ctv : Value} {ks : List Int} (hz : ks.length ≤ 1000) : KeyOf K (d + 1) f [(f, tolO L₀ pm cd ctv), (cd, .code tolQ), (L₀ + 1, .cell (some (.ref lf))), (lf, .list (ks.map .int))] ks := by
  constructor
  · intro c env lc ow i k A hs hk
    refine cal_lam A (hs _ (.head _)) (hs _ (.tail _ (.head _))) (names := ["x"]) rfl (by decide +kernel) (by decide +kernel) (len1 fun _ => by kernel_rfl) (by decide +kernel) (by kernel_rfl) (by kernel_rfl) (by kernel_rfl) fun c hw hc A => ?_
    show EV c (eval (lamBody tolE) (envX tolQ (lamScope tolE) c.L f (.ref cd) [("far", L₀ + 1)])) [("x", .int i)] ow _
    refine ev_sub ?_
    refine ev_name (ld_free (d := L₀ + 1) (by kernel_rfl) (hs _ (.tail _ (.tail _ (.head _)))) ?_)
    refine ev_name (ld_local (by wtm_at "lg") ?_)
    have hi := (List.getElem?_eq_some_iff.mp hk).1
    refine sub_list (xs := ks.map .int) (x := .int k) (hs _ (.tail _ (.tail _ (.tail _ (.head _))))) (by wtm_at "om") (by wtm_at "om") (by rw [List.getElem?_map, Int.toNat_natCast, hk]; rfl) ?_
    exact ⟨ow, .all, rfl, rfl, rfl⟩
  · intro c lc ow hs
    exact kpr_lam (hs _ (.head _))
theorem cal_counts {c : Cx} {env : Env} {lc : LC} {ow : OW} {lf : Addr} {ks : List Int} {Q : AV → LC → OW → Prop} (A : Act0 K c (d + 8) env) (O : KOk K) (hh : c.A.handled = none) (hz : ks.length < 64) (hm : (lf, AO.list (ks.map .int)) ∈ ow)
    (h : ∀ l c', Q (.ref l) lc ((l, .list ((cntL ks 6).map .int)) :: (172, .obj (tabObj #[rawInt (lamPos tolE).line, rawInt (lamPos tolE).col, .ref c'])) :: ow)) :
    Cal c (.con (.ref 177)) [.ref lf] [] lc ((172, .obj (tabObj #[])) :: ow) Q := by
  refine cal_cells1 (names := ["far"]) (ls := []) (cw := fun L => [(L + 1, .cell (some (.ref lf)))]) A O.counts rfl (by decide +kernel) (by decide +kernel) (len1 fun _ doc pm an ct => by kernel_rfl) (by exact ls_nil) (fun p hp => nomatch hp) (by decide +kernel) (fun L' => by kernel_rfl) (by decide +kernel) (by kernel_rfl) (by kernel_rfl) (by kernel_rfl) fun c hw hc A => ?_
  show TX c (fs0 env) (execs (fBody (stAt 26)) (envOfC "_law_counts" (fScope (stAt 26)) c.L 177 (.ref 176))) [] ((c.L + 1, .cell (some (.ref lf))) :: (172, .obj (tabObj #[])) :: ow) (retP Q lc)
  rw [← hc] at hh
  have gr := O.range
  have gl := O.len
  have gs := O.sorted
  have gmin := O.min
  have g65 := O.g65
  have g74 := O.g74
  have g83 := O.g83
  have oc := O.c176
  have hu : c.A.units ≤ 9000 := by have := A.units; wtm_at "om"
  refine tx_cons (sx_swap3 hh ?_)
  refine ev_tup ?_
  repeat wtm_at "a1"
  refine ev_list ?_
  repeat wtm_at "a1"
  refine ⟨by simp, fun lo => ?_⟩
  repeat wtm_at "a1"
  refine ev_list ?_
  repeat wtm_at "a1"
  refine ⟨by simp, fun lcs => ?_⟩
  repeat wtm_at "a1"
  refine ev_lam ?_
  refine AWp.weak (ow' := (172, .obj (tabObj #[])) :: (lcs, .list []) :: (lo, .list []) :: (c.L + 1, .cell (some (.ref lf))) :: ow) (by wtm_at "pks") ?_
  refine mkl_any (qual := tolQ) A.toAct oc (clos := [("far", c.L + 1)]) (by kernel_rfl) fun f c' pm ctv => ?_
  repeat wtm_at "a1"
  refine ⟨by simp, fun tt => ⟨tt, _, _, _, rfl, by wtm_at "mm", ?_⟩⟩
  refine Sto.weak (.drop .all) ?_
  repeat wtm_at "a1"
  refine nxT ?_
  have hKy : KeyOf K (d + 1) f [(f, tolO c.L pm c' ctv), (c', .code tolQ), (c.L + 1, .cell (some (.ref lf))), (lf, .list (ks.map .int))] ks := keyOf_told (by wtm_at "om")
  obtain ⟨Lam, hLam⟩ : ∃ Lam, Lam = tolO c.L pm c' ctv := ⟨_, rfl⟩
  obtain ⟨Tab, hTab⟩ : ∃ Tab, Tab = AO.obj (tabObj #[rawInt (lamPos tolE).line, rawInt (lamPos tolE).col, .ref c']) := ⟨_, rfl⟩
  rw [← hLam] at hKy
  refine TX.weak (ow' := (lo, .list (([] : List Int).map .int)) :: (lcs, .list (([] : List Int).map .int)) :: (f, Lam) :: (172, Tab) :: (c', .code tolQ) :: (c.L + 1, .cell (some (.ref lf))) :: ow) (by rw [hLam, hTab]; exact .cons (.tail (.tail (.tail (.tail .head)))) (.cons (.tail (.tail (.tail .head))) .all)) ?_
  refine TX.fgt (lc' := [("order", .ref lo), ("counts", .ref lcs), ("told", .ref f)]) (by wtm_at "ls") ?_
  have hin : ∀ (xs : OW), ∀ p ∈ [(f, Lam), (c', .code tolQ), (c.L + 1, .cell (some (.ref lf))), (lf, .list (ks.map .int))], p ∈ xs ++ ((f, Lam) :: (172, Tab) :: (c', .code tolQ) :: (c.L + 1, .cell (some (.ref lf))) :: ow) := fun xs p hp => by
    refine List.mem_append_right _ ?_
    simp only [List.mem_cons, List.not_mem_nil, or_false] at hp
    rcases hp with rfl | rfl | rfl | rfl
    · exact .head _
    · exact .tail _ (.tail _ (.head _))
    · exact .tail _ (.tail _ (.tail _ (.head _)))
    · exact .tail _ (.tail _ (.tail _ (.tail _ hm)))
  have AA := A.toAct
  refine tx_cons (sx_rng ks.length (fun k lc1 ow1 => ∃ os : List Int, os.Perm (rangeI k) ∧ os.Pairwise (LexLt ks) ∧ lc1 = ([("order", .ref lo), ("counts", .ref lcs), ("told", .ref f)] : LC) ∧ ow1 = (lo, .list (os.map .int)) :: (lcs, .list (([] : List Int).map .int)) :: (f, Lam) :: (172, Tab) :: (c', .code tolQ) :: (c.L + 1, .cell (some (.ref lf))) :: ow) hh ?_ ?_ ?_)
  · intro k lc1 ow1 hk
    revert lc1 ow1
    refine el_s1 fun os hp hw1 => ?_
    refine ⟨_, by wtm_at "pt", fun it o => ?_⟩
    have hol : os.length = k := by have := hp.length_eq; simpa [rangeI] using this
    refine sx_cons (sx_expr (ev_call_kw ?_))
    refine ld_global AA g65 (a := .con (.ref 65)) rfl ?_
    repeat wtm_at "a1"
    refine ⟨kpr_fn AA O.insr, cal_insr (ow' := []) (d := d + 1) (k := ks.getD k 0) (kf := fun i => ks.getD (os.getD i 0).toNat 0) (os := os) (AA.less (by wtm_at "om")) O hKy (hin [(it, o), (lo, _), (lcs, _)]) (by wtm_at "mm") (by wtm_at "om") ?_ (lex_mono hw1) (by rw [List.getD_eq_getElem?_getD, List.getElem?_eq_getElem hk]; rfl) fun r hr => ⟨_, .tail .head, rfl, ?_⟩⟩
    · intro i o' ho
      have hmem := hp.mem_iff.mp (List.mem_of_getElem? ho)
      unfold rangeI at hmem
      simp only [List.mem_map, List.mem_range] at hmem
      obtain ⟨j, hj, rfl⟩ := hmem
      refine ⟨j, rfl, ?_⟩
      rw [List.getD_eq_getElem?_getD (l := os), ho]
      show _ = some (ks.getD ((j : Int)).toNat 0)
      rw [Int.toNat_natCast, List.getD_eq_getElem?_getD, List.getElem?_eq_getElem (by wtm_at "om")]; rfl
    have io := ins_ord hp hw1 hr
    repeat wtm_at "a1"
    exact ⟨_, _, .all, by wtm_at "ls", _, io.1, io.2, rfl, rfl⟩
  · refine el_s1 fun os hp hw1 => ?_
    have hol : os.length = ks.length := by have := hp.length_eq; simpa [rangeI] using this
    repeat wtm_at "a1"
    refine nxT ?_
    refine tx_cons (sx_if ?_)
    repeat wtm_at "a1"
    refine ev_call_kw ?_
    refine ld_builtin AA gs (v := .builtin "sorted") (by kernel_rfl) (a := .con (.builtin "sorted")) rfl ?_
    repeat wtm_at "a1"
    refine ld_builtin AA gr (v := .type "range") (by kernel_rfl) (a := .con (.type "range")) rfl ?_
    repeat wtm_at "a1"
    refine ld_builtin AA gl (v := .builtin "len") (by kernel_rfl) (a := .con (.builtin "len")) rfl ?_
    repeat wtm_at "a1"
    refine ev_name (ld_cell (d := c.L + 1) (by kernel_rfl) (by wtm_at "mm") ?_)
    repeat wtm_at "a1"
    refine ⟨kb, cal_len_list (xs := ks.map .int) (hin [(lo, _), (lcs, _)] _ (.tail _ (.tail _ (.tail _ (.head _))))) (by simp; wtm_at "om") ?_⟩
    rw [List.length_map]
    repeat wtm_at "a1"
    refine ⟨kt, cal_range1 fun rr => ?_⟩
    repeat wtm_at "a1"
    refine ⟨kb, cal_sorted (r := rr) (n := ks.length) hh (.head _) rfl hz (fun i k hk tw => ?_) fun l out hp2 hw2 => ?_⟩
    · have A3 : Act K c ((d + 5) + 1 + 1) (envOfC "_law_counts" (fScope (stAt 26)) c.L 177 (.ref 176)) := AA
      exact hKy.cal c.in1.in1 _ _ _ i k (Act.in1 (Act.in1 A3) |>.less (by wtm_at "om")) (fun p hp' => List.mem_append_right _ (.tail _ (hin [(lo, _), (lcs, _)] p hp'))) hk
    have eo : out = os := lex_unique (hp2.trans hp.symm) hw2 hw1
    subst eo
    refine c_neli (ns := out) (ms := out) hu (by wtm_at "mm") (.head _) rfl rfl ?_
    repeat wtm_at "a1"
    refine br_neg (by simp) ?_
    repeat wtm_at "a1"
    refine nxT ?_
    refine TX.weak (.drop (.drop .all)) ?_
    obtain ⟨kf, hkf⟩ : ∃ kf : Nat → Int, kf = fun i => ks.getD (out.getD i 0).toNat 0 := ⟨_, rfl⟩
    have hkO : ∀ (i : Nat) (o' : Int), out[i]? = some o' → ∃ j : Nat, o' = j ∧ ks[j]? = some (kf i) := by
      intro i o' ho
      have hmem := hp.mem_iff.mp (List.mem_of_getElem? ho)
      unfold rangeI at hmem
      simp only [List.mem_map, List.mem_range] at hmem
      obtain ⟨j, hj, rfl⟩ := hmem
      refine ⟨j, rfl, ?_⟩
      rw [hkf]
      dsimp only
      rw [List.getD_eq_getElem?_getD (l := out), ho]
      show _ = some (ks.getD ((j : Int)).toNat 0)
      rw [Int.toNat_natCast, List.getD_eq_getElem?_getD, List.getElem?_eq_getElem (by wtm_at "om")]; rfl
    have mono : ∀ i j, i ≤ j → j < out.length → kf i ≤ kf j := by rw [hkf]; exact lex_mono hw1
    have hcount : ∀ x, ((List.range out.length).map kf).count x = ks.count x := fun x => by rw [hkf]; exact cnt_keys hp x
    clear hkf
    have Ab : Act K c (d + 1 + 2) (envOfC "_law_counts" (fScope (stAt 26)) c.L 177 (.ref 176)) := AA.less (by wtm_at "om")
    refine tx_cons (sx_range 0 2 6 (fun k lc1 ow1 => LSub [("order", .ref lo), ("counts", .ref lcs), ("told", .ref f)] lc1 ∧ ow1 = (lo, .list (out.map .int)) :: (lcs, .list ((cntL ks k).map .int)) :: (f, Lam) :: (172, Tab) :: (c', .code tolQ) :: (c.L + 1, .cell (some (.ref lf))) :: ow) hh ?_ ?_ ?_)
    · intro k lc1 ow1 hk
      revert ow1
      refine el_PE fun hls => ?_
      refine ⟨_, put_lput lc1 "due" _, fun it o => ?_⟩
      refine AWp.fgt (ls_put hls (put_lput lc1 "due" _)) ?_
      obtain ⟨x, hx⟩ : ∃ x : Int, x = 0 + (k : Int) * 2 := ⟨_, rfl⟩
      rw [← hx]
      refine sx_cons (sx_assign (ev_call_kw ?_))
      refine ld_global AA g83 (a := .con (.ref 83)) rfl ?_
      repeat wtm_at "a1"
      refine ⟨kpr_fn AA O.bisl, cal_bisl2 (kf := kf) Ab O hKy (hin [(it, o), (lo, _), (lcs, _)]) (by wtm_at "mm") (by wtm_at "om") hkO mono fun low hlow => ?_⟩
      repeat wtm_at "a1"
      refine ev_call_kw ?_
      refine ld_global AA g74 (a := .con (.ref 74)) rfl ?_
      repeat wtm_at "a1"
      refine ⟨kpr_fn AA O.bisr, cal_bisr3 (kf := kf) Ab O hKy (hin [(it, o), (lo, _), (lcs, _)]) (by wtm_at "mm") (by wtm_at "om") hkO mono fun high hhigh => ?_⟩
      have hl1 := hlow.2.1
      have hh1 := hhigh.1
      have hh2 := hhigh.2.1
      have hlo : low ≤ out.length := by wtm_at "om"
      have hhi : high ≤ out.length := by wtm_at "om"
      repeat wtm_at "a1"
      refine sx_swap2 hh ?_
      refine ev_tup ?_
      repeat wtm_at "a1"
      refine b_fdiv ?_ (by decide) (PyProof.noPylong_small (by decide))
      repeat wtm_at "a1"
      refine ld_builtin AA gl (v := .builtin "len") (by kernel_rfl) (a := .con (.builtin "len")) rfl ?_
      repeat wtm_at "a1"
      refine ⟨kb, cal_len_list (xs := out.map .int) (by wtm_at "mm") (by simp; wtm_at "om") ?_⟩
      rw [List.length_map]
      repeat wtm_at "a1"
      refine b_fdiv ?_ (by decide) (PyProof.noPylong_small (by decide))
      obtain ⟨half, hhalf⟩ : ∃ half, half = high / 2 := ⟨_, rfl⟩
      obtain ⟨start, hstart⟩ : ∃ start, start = (high + out.length + 1) / 2 := ⟨_, rfl⟩
      rw [show (high : Int).fdiv 2 = (half : Int) by rw [show (2 : Int) = ((2 : Nat) : Int) from rfl, n_div, hhalf], show ((high : Int) + out.length + 1).fdiv 2 = (start : Int) by
        rw [show (2 : Int) = ((2 : Nat) : Int) from rfl, show (high : Int) + out.length + 1 = ((high + out.length + 1 : Nat) : Int) by wtm_at "om", n_div, hstart]]
      repeat wtm_at "a1"
      refine ⟨by simp, fun tt2 => ⟨tt2, _, _, rfl, by wtm_at "mm", ?_⟩⟩
      refine Sto.weak (.drop .all) ?_
      repeat wtm_at "a1"
      refine ev_list ?_
      refine args_cons (ev_call_kw ?_)
      refine ld_global AA g83 (a := .con (.ref 83)) rfl ?_
      repeat wtm_at "a1"
      refine ⟨kpr_fn AA O.bisl, cal_bisl4 (kf := kf) (lo := 0) (hi := half) Ab O hKy (hin [(it, o), (lo, _), (lcs, _)]) (by wtm_at "mm") (by wtm_at "om") hkO mono (.int (by wtm_at "om")) fun r3 h3 => ?_⟩
      refine args_cons (ev_call_kw ?_)
      refine ld_global AA g74 (a := .con (.ref 74)) rfl ?_
      repeat wtm_at "a1"
      refine ⟨kpr_fn AA O.bisr, cal_bisr4 (kf := kf) (lo := 0) (hi := half) Ab O hKy (hin [(it, o), (lo, _), (lcs, _)]) (by wtm_at "mm") (by wtm_at "om") hkO mono (.int (by wtm_at "om")) fun r4 h4 => ?_⟩
      have e3 : (r3 : Int) = min (low : Int) half := by
        have : r3 = min low half := bsL_unique h3 ⟨Nat.zero_le _, by wtm_at "om", fun i _ hi => hlow.2.2.1 i (by wtm_at "om") (by wtm_at "om"), fun i h1 h2 => hlow.2.2.2 i (by wtm_at "om") (by wtm_at "om")⟩
        wtm_at "om"
      have e4 : r4 = half := bsR_unique h4 ⟨Nat.zero_le _, by wtm_at "om", fun i _ hi => (by
        by_cases h5 : i < low
        · have := hlow.2.2.1 i (by wtm_at "om") h5; wtm_at "om"
        · exact hhigh.2.2.1 i (by wtm_at "om") (by wtm_at "om")), fun i h1 h2 => by wtm_at "om"⟩
      rw [e3, e4]
      repeat wtm_at "a1"
      refine ⟨by simp, fun l4 => ?_⟩
      refine ev_list ?_
      repeat wtm_at "a1"
      refine ld_builtin AA gmin (v := .builtin "min") (by kernel_rfl) (a := .con (.builtin "min")) rfl ?_
      repeat wtm_at "a1"
      refine ⟨kb, cal_min hh ?_⟩
      repeat wtm_at "a1"
      refine ⟨by simp, fun l5 => ?_⟩
      refine c_neli (ns := [min (low : Int) half, (half : Int)]) (ms := [min (low : Int) half, (half : Int)]) hu (.tail _ (.head _)) (.head _) rfl rfl ?_
      repeat wtm_at "a1"
      refine br_neg (by simp) ?_
      refine AWp.weak (.drop (.drop .all)) ?_
      repeat wtm_at "a1"
      refine ev_list ?_
      refine args_cons (ev_call_kw ?_)
      refine ld_global AA g83 (a := .con (.ref 83)) rfl ?_
      repeat wtm_at "a1"
      refine ⟨kpr_fn AA O.bisl, cal_bisl3 (kf := kf) (lo := start) Ab O hKy (hin [(it, o), (lo, _), (lcs, _)]) (by wtm_at "mm") (by wtm_at "om") hkO mono fun r5 h5 => ?_⟩
      refine args_cons (ev_call_kw ?_)
      refine ld_global AA g74 (a := .con (.ref 74)) rfl ?_
      repeat wtm_at "a1"
      refine ⟨kpr_fn AA O.bisr, cal_bisr3 (kf := kf) (lo := start) Ab O hKy (hin [(it, o), (lo, _), (lcs, _)]) (by wtm_at "mm") (by wtm_at "om") hkO mono fun r6 h6 => ?_⟩
      have e5 : r5 = start := bsL_unique h5 ⟨Nat.le_refl _, .inr rfl, fun i _ _ => by wtm_at "om", fun i h1 h2 => Int.le_of_lt (hhigh.2.2.2 i (by wtm_at "om") h2)⟩
      have e6 : r6 = start := bsR_unique h6 ⟨Nat.le_refl _, .inr rfl, fun i _ _ => by wtm_at "om", fun i h1 h2 => hhigh.2.2.2 i (by wtm_at "om") h2⟩
      rw [e5, e6]
      repeat wtm_at "a1"
      refine ⟨by simp, fun l6 => ?_⟩
      refine ev_list ?_
      repeat wtm_at "a1"
      refine ⟨by simp, fun l7 => ?_⟩
      refine c_neli (ns := [(start : Int), (start : Int)]) (ms := [(start : Int), (start : Int)]) hu (.tail _ (.head _)) (.head _) rfl rfl ?_
      repeat wtm_at "a1"
      refine br_neg (by simp) ?_
      refine AWp.weak (.drop (.drop .all)) ?_
      repeat wtm_at "a1"
      refine sx_expr ?_
      repeat wtm_at "a1"
      refine mth_list (xs := (cntL ks k).map .int) (by wtm_at "mm") F.slot_list_append F.type_list_append ?_
      repeat wtm_at "a1"
      have hck : (cntL ks k).length = k := by simp [cntL]
      refine ⟨kb, cal_append (by wtm_at "up") (by simp; wtm_at "om") ⟨rfl, ?_⟩⟩
      have eN : (cntL ks k).map AV.int ++ [AV.int ((high : Int) - low)] = (cntL ks (k + 1)).map AV.int := by
        have hc := cnt_places kf x out.length low high hh1 hhi (fun i hi => hlow.2.2.1 i (Nat.zero_le _) hi) (fun i h1 h2 => by
          have := hlow.2.2.2 i h1 (by wtm_at "om")
          have := hhigh.2.2.1 i h1 h2
          wtm_at "om") fun i h1 h2 => hhigh.2.2.2 i h1 h2
        rw [hcount] at hc
        unfold cntL
        rw [List.range_succ, List.map_append, List.map_append]
        congr 1
        simp only [List.map_cons, List.map_nil]
        rw [show 2 * (k : Int) = x by wtm_at "om", hc]
        congr 2
        wtm_at "om"
      rw [eN]
      repeat wtm_at "a1"
      exact ⟨[("order", .ref lo), ("counts", .ref lcs), ("told", .ref f)], _, .all, by wtm_at "ls", ls_self, rfl⟩
    · intro lc1
      refine el_PE fun hls => ?_
      refine AWp.fgt hls ?_
      repeat wtm_at "a1"
      refine nxT ?_
      refine tx_last ?_
      refine tx_try A catches_value O.valueError (by kernel_rfl) ?_
      refine rx_cons (rx_expr (rx_call ?_))
      refine ld_global AA g74 (a := .con (.ref 74)) rfl ?_
      repeat wtm_at "a1"
      refine ⟨kpr_fn AA O.bisr, (calR_bisr (d := d) (AA.less (by wtm_at "om")) O hh (by decide)).mono ?_⟩
      refine el_EE ?_
      intro g' e A4
      refine sx_cons ?_
      repeat wtm_at "a1"
      refine ret_ok (lc' := []) (ow'' := (lcs, .list ((cntL ks 6).map .int)) :: (172, .obj (tabObj #[rawInt (lamPos tolE).line, rawInt (lamPos tolE).col, .ref c'])) :: ow) ?_ (h lcs c')
      rw [hTab]
      exact .drop (.drop (.cons .head (.drop (.cons .head (.drop (.drop .all))))))
    · repeat wtm_at "a1"
      refine ld_builtin AA gr (v := .type "range") (by kernel_rfl) (a := .con (.type "range")) rfl ?_
      repeat wtm_at "a1"
      refine ⟨kt, cal_range3 (by decide) (PyProof.noPylong_small (by decide)) fun r => ?_⟩
      exact ⟨r, 12, _, rfl, .all, by decide, by decide, by wtm_at "ls", rfl⟩
  · repeat wtm_at "a1"
    refine ld_builtin AA gr (v := .type "range") (by kernel_rfl) (a := .con (.type "range")) rfl ?_
    repeat wtm_at "a1"
    refine ld_builtin AA gl (v := .builtin "len") (by kernel_rfl) (a := .con (.builtin "len")) rfl ?_
    repeat wtm_at "a1"
    refine ev_name (ld_cell (d := c.L + 1) (by kernel_rfl) (by wtm_at "mm") ?_)
    repeat wtm_at "a1"
    refine ⟨kb, cal_len_list (xs := ks.map .int) (hin [(lo, _), (lcs, _)] _ (.tail _ (.tail _ (.tail _ (.head _))))) (by simp; wtm_at "om") ?_⟩
    rw [List.length_map]
    repeat wtm_at "a1"
    refine ⟨kt, cal_range1 fun r => ?_⟩
    exact ⟨r, _, rfl, .all, by wtm_at "om", [], .nil, .nil, rfl, rfl⟩
end
end

section
variable {c : Cx} {lc : LC} {ow : OW} {env : Env}
/-- a subscript that is a slice -/
theorem ev_subS {value : PySem.Expr} {l u st sp pos} {Q} (h : EV c (eval value env) lc ow fun a lc1 ow1 => EV c (eval (.Slice l u st sp) env) lc1 ow1 fun i lc2 ow2 => Sub c a i lc2 ow2 Q)
    (hs : autoParam (∀ o i, subscripted (.Slice l u st sp) false o i = operate [i, o] (getItem o i)) kr2) : EV c (eval (.Subscript value (.Slice l u st sp) pos) env) lc ow Q :=
  ev_sub h fun o i => Or.inr (hs o i)
end
local macro_rules | `(tactic| wtm_at "a0") => `(tactic| (with_reducible refine ev_subS ?_))

section
/-- how far two words agree at the head -/
noncomputable def preN : List Nat → List Nat → Nat
  | x :: xs, y :: ys => if x = y then preN xs ys + 1 else 0
  | _, _ => 0
theorem preN_le : ∀ a b : List Nat, preN a b ≤ a.length ∧ preN a b ≤ b.length
  | [], _ => by simp [preN]
  | _ :: _, [] => by simp [preN]
  | x :: xs, y :: ys => by
    have := preN_le xs ys
    unfold preN
    split
    · simp; wtm_at "om"
    · simp
theorem preN_yes : ∀ (a b : List Nat) (p : Nat), p < preN a b → ∃ x, a[p]? = some x ∧ b[p]? = some x
  | [], _, p, h => by simp [preN] at h
  | _ :: _, [], p, h => by simp [preN] at h
  | x :: xs, y :: ys, p, h => by
    unfold preN at h
    split at h
    · rename_i e
      subst e
      match p with
      | 0 => exact ⟨x, rfl, rfl⟩
      | p + 1 => simpa using preN_yes xs ys p (by wtm_at "om")
    · wtm_at "om"
theorem preN_no : ∀ (a b : List Nat) (x y : Nat), a[preN a b]? = some x → b[preN a b]? = some y → x ≠ y
  | [], _, x, y, h, _ => by simp at h
  | _ :: _, [], x, y, _, h => by simp at h
  | a :: xs, b :: ys, x, y, h, h' => by
    unfold preN at h h'
    split at h
    · rename_i e
      rw [if_pos e] at h'
      exact preN_no xs ys x y (by simpa using h) (by simpa using h')
    · rename_i e
      rw [if_neg e] at h'
      simp at h h'
      subst h h'
      exact e
noncomputable def levI (bc : Nat) (a : List Nat) (bi : Int) (row : List Int) : Nat → Int × Int × Int × List Int
  | 0 => (bi * 2, bi * 2, 9223372036854775807, row)
  | i + 1 =>
    let s := levI bc a bi row i
    let d := s.2.2.2.getD i 0
    let r := min (min s.2.1 d + 2) (s.1 + substC [bc] [a.getD i 0])
    (d, r, if r < s.2.2.1 then r else s.2.2.1, s.2.2.2.set i r)
theorem levI_len (bc : Nat) (a : List Nat) (bi : Int) (row : List Int) : ∀ i, (levI bc a bi row i).2.2.2.length = row.length
  | 0 => rfl
  | i + 1 => by show (List.set _ _ _).length = _; rw [List.length_set, levI_len bc a bi row i]
noncomputable def levO (a b : List Nat) (mc : Int) (row : List Int) : Nat → Option (Int × List Int)
  | 0 => some (0, row)
  | k + 1 => match levO a b mc row k with
    | none => none
    | some (_, w) =>
      let s := levI (b.getD k 0) a k w a.length
      if s.2.2.1 > mc then none else some (s.2.1, s.2.2.2)
theorem levO_len {a b : List Nat} {mc : Int} {row : List Int} : ∀ {k r w}, levO a b mc row k = some (r, w) → w.length = row.length
  | 0, r, w, h => by cases h; rfl
  | k + 1, r, w, h => by
    unfold levO at h
    split at h
    · cases h
    · rename_i r' w' e
      dsimp only at h
      split at h
      · cases h
      · cases h; rw [levI_len, levO_len e]
theorem levO_none {a b : List Nat} {mc : Int} {row : List Int} {k : Nat} (h : levO a b mc row k = none) : ∀ n, k ≤ n → levO a b mc row n = none := by
  intro n hn
  induction n with
  | zero => obtain rfl : k = 0 := by wtm_at "om"
            exact h
  | succ n ih =>
    by_cases e : k = n + 1
    · subst e; exact h
    · unfold levO; rw [ih (by wtm_at "om")]
noncomputable def levE (a b : List Nat) (mc : Int) : Int :=
  if ((b.length : Int) - a.length) * 2 > mc then mc + 1
  else match levO a b mc ((List.range a.length).map fun (i : Nat) => (2 : Int) + i * 2) b.length with
    | none => mc + 1
    | some (r, _) => r
noncomputable def levD (a b : List Nat) (mc : Int) : Int :=
  if a = [] ∨ b = [] then 2 * ((a.length : Int) + b.length)
  else if 40 < a.length ∨ 40 < b.length then mc + 1
  else if b.length < a.length then levE b a mc else levE a b mc
noncomputable def levC (a b : List Nat) (mc : Int) : Int :=
  let s := preN a.reverse b.reverse
  levD (a.take (a.length - s)) (b.take (b.length - s)) mc
noncomputable def levM (a b : List Nat) (mc : Int) : Int :=
  if a = b then 0 else levC (a.drop (preN a b)) (b.drop (preN a b)) mc
end

section
theorem fns_lev : FnS ["a", "b", "max_cost"] (stAt 19) := ⟨by decide +kernel, by decide +kernel, by decide +kernel, by kernel_rfl, by kernel_rfl, by kernel_rfl⟩
theorem lsl_from {α : Type} (xs : List α) (p : Nat) (hp : p ≤ xs.length) : lsl xs (some (p : Int)) none none = xs.drop p := by
  rw [lsl_none]
  have e : kms_lo (some (p : Int)) xs.length = p := by unfold kms_lo; simp only; rw [if_neg (by wtm_at "om")]; wtm_at "om"
  rw [e]
  show (xs.drop p).take (xs.length - p) = _
  exact List.take_of_length_le (by simp)
/-- «post or None», post being none or less than none -/
noncomputable def poP (s : Nat) : Option Int := if s = 0 then none else some (-(s : Int))
theorem lsl_to {α : Type} (xs : List α) (s : Nat) : lsl xs none (poP s) none = xs.take (xs.length - s) := by
  rw [lsl_none]
  show (xs.drop 0).take (kms_hi (poP s) xs.length - 0) = _
  unfold poP kms_hi
  by_cases h : s = 0
  · subst h; simp
  · rw [if_neg h]
    simp only
    rw [if_pos (by wtm_at "om"), List.drop_zero, Int.neg_neg, Int.toNat_natCast, Nat.sub_zero]
theorem seq_nn {z : List Nat} {p v : Nat} (hv : z[p]? = some v) : ((seqIndex? (p : Int) z.length).bind fun i => z[i]?) = some v := by
  have := (List.getElem?_eq_some_iff.mp hv).1
  have h0 : ¬ ((p : Int) < 0) := by wtm_at "om"
  unfold seqIndex?
  simp only [h0, if_false]
  rw [if_pos (by simp; wtm_at "om"), Option.bind_some, Int.toNat_natCast, hv]
theorem seq_neg {z : List Nat} {s v : Nat} (hs : s < z.length) (hv : z.reverse[s]? = some v) : ((seqIndex? (-(s : Int) - 1) z.length).bind fun i => z[i]?) = some v := by
  have h0 : -(s : Int) - 1 < 0 := by wtm_at "om"
  unfold seqIndex?
  simp only [h0, if_true]
  rw [if_pos (by simp; wtm_at "om"), Option.bind_some]
  rw [List.getElem?_reverse hs] at hv
  rw [← hv]
  congr 1
  wtm_at "om"
theorem rng2 : ∀ n : Nat, n < 101 → Builtin.Range.rangeSize 2 (2 * ((n : Int) + 1)) 2 = n ∧ Builtin.Range.small 2 (2 * ((n : Int) + 1)) 2 = true := by decide +kernel
section
variable {K : Frag} {c : Cx} {lc : LC} {ow : OW} {env : Env} {d : Nat}
noncomputable abbrev levEnv (L : Addr) : Env := envX "_levenshtein_distance" (fScope (stAt 19)) L 139 (.ref 138) []
set_option maxHeartbeats 8000000
/-- behind the swap -/
theorem lev_rest {a b : List Nat} {mc : Int} {Q' : AF → LC → OW → Prop} (A : Act K c (d + 1) (levEnv c.L)) (O : KOk K) (hh : c.A.handled = none) (ha : a.length ≤ 100) (hb : b.length ≤ 100) (h : ∀ lc1 ow1, Pick ow1 ow → Q' (.ret (.int (levE a b mc))) lc1 ow1) :
    SX c (execs ((fBody (stAt 19)).drop 12) (levEnv c.L)) [("a", .str a), ("b", .str b), ("max_cost", .int mc)] ow Q' := by
  have gl := O.len
  have gr := O.range
  have gli := O.list
  have gmin := O.min
  have g132 := O.g132
  obtain ⟨t2, o2⟩ := O.moveCost
  refine sx_cons ?_
  repeat wtm_at "a1"
  refine ld_builtin A gl (v := .builtin "len") (by kernel_rfl) (a := .con (.builtin "len")) rfl ?_
  repeat wtm_at "a1"
  refine ⟨kb, cal_len_str (by wtm_at "om") ?_⟩
  repeat wtm_at "a1"
  refine ld_builtin A gl (v := .builtin "len") (by kernel_rfl) (a := .con (.builtin "len")) rfl ?_
  repeat wtm_at "a1"
  refine ⟨kb, cal_len_str (by wtm_at "om") ?_⟩
  repeat wtm_at "a1"
  refine ld_global A o2 (a := .int 2) ⟨t2, rfl⟩ ?_
  refine b_mul ?_ (.of_right (by decide))
  repeat wtm_at "a1"
  refine br_dec (fun l1 => ?_) fun l1 => ?_
  · have e : levE a b mc = mc + 1 := by unfold levE; rw [if_pos (by wtm_at "om")]
    rw [e] at h
    repeat wtm_at "a1"
    exact h _ _ .all
  have hE : levE a b mc = (match levO a b mc ((List.range a.length).map fun (i : Nat) => (2 : Int) + i * 2) b.length with
    | none => mc + 1
    | some (r, _) => r) := by unfold levE; rw [if_neg (by wtm_at "om")] <;> rfl
  rw [hE] at h
  clear hE
  repeat wtm_at "a1"
  refine ld_builtin A gli (v := .type "list") (by kernel_rfl) (a := .con (.type "list")) rfl ?_
  repeat wtm_at "a1"
  refine ld_builtin A gr (v := .type "range") (by kernel_rfl) (a := .con (.type "range")) rfl ?_
  repeat wtm_at "a1"
  refine ld_global A o2 (a := .int 2) ⟨t2, rfl⟩ ?_
  repeat wtm_at "a1"
  refine ld_global A o2 (a := .int 2) ⟨t2, rfl⟩ ?_
  repeat wtm_at "a1"
  refine ld_builtin A gl (v := .builtin "len") (by kernel_rfl) (a := .con (.builtin "len")) rfl ?_
  repeat wtm_at "a1"
  refine ⟨kb, cal_len_str (by wtm_at "om") ?_⟩
  repeat wtm_at "a1"
  refine b_mul ?_ (.of_left (by decide))
  repeat wtm_at "a1"
  refine ld_global A o2 (a := .int 2) ⟨t2, rfl⟩ ?_
  repeat wtm_at "a1"
  refine ⟨kt, cal_range3 (by decide) (PyProof.noPylong_small (by decide)) fun rr => ?_⟩
  repeat wtm_at "a1"
  refine ⟨kt, cal_list_rng (n := a.length) hh (.head _) (rng2 _ (by wtm_at "om")).2 (rng2 _ (by wtm_at "om")).1 (by wtm_at "om") fun lrow => ?_⟩
  generalize hrow : (List.range a.length).map (fun (i : Nat) => (2 : Int) + i * 2) = row0 at h
  have hrl : row0.length = a.length := by rw [← hrow]; simp
  rw [show (List.range a.length).map (fun (i : Nat) => AV.int (2 + (i : Int) * 2)) = row0.map .int by rw [← hrow, List.map_map]; rfl]
  repeat wtm_at "a1"
  refine AWp.weak (ow' := (lrow, .list (row0.map .int)) :: ow) (.cons .head (.drop .all)) ?_
  refine sx_rng b.length (fun k lc1 ow1 => ∃ r w, levO a b mc row0 k = some (r, w) ∧ LSub [("a", .str a), ("b", .str b), ("max_cost", .int mc), ("row", .ref lrow), ("result", .int r)] lc1 ∧ ow1 = (lrow, .list (w.map .int)) :: ow) hh ?_ ?_ ?_
  · intro k lc1 ow1 hk
    revert ow1
    refine el_17a fun r w hO hls => ?_
    refine ⟨_, put_lput lc1 "bindex" _, fun it o => ?_⟩
    refine AWp.fgt (ls_put hls (put_lput lc1 "bindex" _)) ?_
    have hwl := (levO_len hO).trans hrl
    have hbk : b[k]? = some (b.getD k 0) := by rw [List.getD_eq_getElem?_getD, List.getElem?_eq_getElem hk]; rfl
    obtain ⟨bc, hbc⟩ : ∃ bc, bc = b.getD k 0 := ⟨_, rfl⟩
    rw [← hbc] at hbk
    refine sx_cons ?_
    repeat wtm_at "a1"
    refine sub_str (d := bc) (by simp; wtm_at "om") (seq_nn hbk) ?_
    repeat wtm_at "a1"
    refine sx_two ?_
    repeat wtm_at "a1"
    refine ld_global A o2 (a := .int 2) ⟨t2, rfl⟩ ?_
    refine b_mul ?_ (.of_right (by decide))
    repeat wtm_at "a1"
    have hstep : levO a b mc row0 (k + 1) = (if (levI bc a k w a.length).2.2.1 > mc then none else some ((levI bc a k w a.length).2.1, (levI bc a k w a.length).2.2.2)) := by
      conv => lhs; unfold levO
      rw [hO, ← hbc]
    refine sx_rng a.length (fun i lc1 ow1 => LSub [("a", .str a), ("b", .str b), ("max_cost", .int mc), ("row", .ref lrow), ("bchar", .str [bc]), ("distance", .int (levI bc a k w i).1), ("result", .int (levI bc a k w i).2.1), ("minimum", .int (levI bc a k w i).2.2.1)] lc1 ∧ ow1 = (it, o) :: (lrow, .list ((levI bc a k w i).2.2.2.map .int)) :: ow) hh ?_ ?_ ?_
    · intro i lc1 ow1 hi
      revert ow1
      refine el_PE fun hls => ?_
      refine ⟨_, put_lput lc1 "index" _, fun it2 o' => ?_⟩
      refine AWp.fgt (ls_put hls (put_lput lc1 "index" _)) ?_
      have hai : a[i]? = some (a.getD i 0) := by rw [List.getD_eq_getElem?_getD, List.getElem?_eq_getElem hi]; rfl
      have hil := (levI_len bc a k w i).trans hwl
      have hst : levI bc a k w (i + 1) = (let s := levI bc a k w i
        let d := s.2.2.2.getD i 0
        let r := min (min s.2.1 d + 2) (s.1 + substC [bc] [a.getD i 0])
        (d, r, if r < s.2.2.1 then r else s.2.2.1, s.2.2.2.set i r)) := rfl
      rw [hst]
      generalize levI bc a k w i = st at hil
      obtain ⟨s1, s2, s3, s4⟩ := st
      dsimp only at hil ⊢
      have hs4 : s4[i]? = some (s4.getD i 0) := by rw [List.getD_eq_getElem?_getD, List.getElem?_eq_getElem (by wtm_at "om")]; rfl
      refine sx_cons ?_
      repeat wtm_at "a1"
      refine ld_global A g132 (a := .con (.ref 132)) rfl ?_
      repeat wtm_at "a1"
      refine sub_str (d := a.getD i 0) (by simp; wtm_at "om") (seq_nn hai) ?_
      repeat wtm_at "a1"
      refine ⟨kpr_fn A O.subst, cal_subst A O (by simp) (by simp) ?_⟩
      repeat wtm_at "a1"
      refine sub_list (xs := s4.map .int) (x := .int (s4.getD i 0)) (by wtm_at "mm") (by wtm_at "om") (by wtm_at "om") (by rw [List.getElem?_map, Int.toNat_natCast, hs4]; rfl) ?_
      repeat wtm_at "a1"
      refine ld_builtin A gmin (v := .builtin "min") (by kernel_rfl) (a := .con (.builtin "min")) rfl ?_
      repeat wtm_at "a1"
      refine ⟨kb, cal_min hh ?_⟩
      refine ld_global A o2 (a := .int 2) ⟨t2, rfl⟩ ?_
      repeat wtm_at "a1"
      refine ld_builtin A gmin (v := .builtin "min") (by kernel_rfl) (a := .con (.builtin "min")) rfl ?_
      repeat wtm_at "a1"
      refine ⟨kb, cal_min hh ?_⟩
      repeat wtm_at "a1"
      refine sx_setitem ?_
      repeat wtm_at "a1"
      refine set_list (by wtm_at "up") (by wtm_at "om") (by simp; wtm_at "om") (by simp; wtm_at "om") ?_
      rw [Int.toNat_natCast, ← List.map_set]
      repeat wtm_at "a1"
      refine br_dec (fun hlt => ?_) fun hlt => ?_
      · rw [if_pos hlt]
        repeat wtm_at "a1"
        exact ⟨_, _, .all, ls_self, by wtm_at "ls", rfl⟩
      · rw [if_neg hlt]
        repeat wtm_at "a1"
        exact ⟨_, _, .all, ls_self, by wtm_at "ls", rfl⟩
    · intro lc1
      refine el_PE fun hls => ?_
      refine AWp.fgt hls ?_
      repeat wtm_at "a1"
      refine br_dec (fun hgt => ?_) fun hgt => ?_
      · repeat wtm_at "a1"
        rw [if_pos hgt] at hstep
        rw [levO_none hstep b.length (by wtm_at "om")] at h
        exact h _ _ (by wtm_at "pk")
      · repeat wtm_at "a1"
        rw [if_neg hgt] at hstep
        exact ⟨_, _, .all, ls_self, _, _, hstep, by wtm_at "ls", rfl⟩
    · repeat wtm_at "a1"
      refine ld_builtin A gr (v := .type "range") (by kernel_rfl) (a := .con (.type "range")) rfl ?_
      repeat wtm_at "a1"
      refine ld_builtin A gl (v := .builtin "len") (by kernel_rfl) (a := .con (.builtin "len")) rfl ?_
      repeat wtm_at "a1"
      refine ⟨kb, cal_len_str (by wtm_at "om") ?_⟩
      repeat wtm_at "a1"
      refine ⟨kt, cal_range1 fun rr => ?_⟩
      refine ⟨rr, _, rfl, .all, by wtm_at "om", ?_, rfl⟩
      show LSub [("a", .str a), ("b", .str b), ("max_cost", .int mc), ("row", .ref lrow), ("bchar", .str [bc]), ("distance", .int ((k : Int) * 2)), ("result", .int ((k : Int) * 2)), ("minimum", .int 9223372036854775807)] _
      wtm_at "ls"
  · intro lc1
    refine el_17a fun r w hO hls => ?_
    rw [hO] at h
    refine AWp.fgt hls ?_
    repeat wtm_at "a1"
    exact h _ _ (by wtm_at "pk")
  · repeat wtm_at "a1"
    refine ld_builtin A gr (v := .type "range") (by kernel_rfl) (a := .con (.type "range")) rfl ?_
    repeat wtm_at "a1"
    refine ld_builtin A gl (v := .builtin "len") (by kernel_rfl) (a := .con (.builtin "len")) rfl ?_
    repeat wtm_at "a1"
    refine ⟨kb, cal_len_str (by wtm_at "om") ?_⟩
    repeat wtm_at "a1"
    refine ⟨kt, cal_range1 fun rr => ?_⟩
    exact ⟨rr, _, rfl, .all, by wtm_at "om", 0, row0, rfl, by wtm_at "ls", rfl⟩
end
end

section
section
variable {K : Frag} {c : Cx} {lc : LC} {ow : OW} {env : Env} {d : Nat}
set_option maxHeartbeats 8000000
theorem ev_po {s : Nat} {p1 p2 pos : Pos} {k : Nat} {Q} (hv : lget lc "post" = some (.int (-(s : Int)))) (h : ∀ a, IsP a (poP s) → Q a lc ow) (hk : autoParam (env.scope.kind = .function) kr0) (hx : autoParam (env.kindOf "post" = some .local) kr0) (hL : autoParam (env.locals = c.L) kr0) : EV c (eval (.BoolOp .Or [.Name "post" p1, .Constant .none k p2] pos) env) lc ow Q := by
  refine ev_or2 (ev_name (ld_local hv ?_ hk hx hL))
  refine tru_int ?_
  by_cases e : s = 0
  · subst e
    exact br_no (by decide) (ev_none (h _ (by unfold poP; rw [if_pos rfl]; exact .none)))
  · refine br_yes (by simp; wtm_at "om") (h _ (by unfold poP; rw [if_neg e]; exact .int))
theorem lev_fin {a b : List Nat} {mc : Int} {Q : AV → LC → OW → Prop} (A : Act K c (d + 1) (levEnv c.L)) (O : KOk K) (hh : c.A.handled = none) (ha : a.length ≤ 100) (hb : b.length ≤ 100) (h : Q (.int (levD a b mc)) lc ow) :
    SX c (execs ((fBody (stAt 19)).drop 9) (levEnv c.L)) [("a", .str a), ("b", .str b), ("max_cost", .int mc)] ow (retP Q lc) := by
  have gl := O.len
  obtain ⟨t2, o2⟩ := O.moveCost
  obtain ⟨t3, o3⟩ := O.maxString
  refine sx_cons (sx_if ?_)
  refine bx_or (bx_not (bx_val ?_))
  repeat wtm_at "a1"
  refine tru_str ?_ (by wtm_at "om")
  by_cases e1 : a = []
  · refine br_yes (by rw [e1]; rfl) ?_
    refine br_t ?_
    repeat wtm_at "a1"
    refine ld_global A o2 (a := .int 2) ⟨t2, rfl⟩ ?_
    repeat wtm_at "a1"
    refine ld_builtin A gl (v := .builtin "len") (by kernel_rfl) (a := .con (.builtin "len")) rfl ?_
    repeat wtm_at "a1"
    refine ⟨kb, cal_len_str (by wtm_at "om") ?_⟩
    repeat wtm_at "a1"
    refine ld_builtin A gl (v := .builtin "len") (by kernel_rfl) (a := .con (.builtin "len")) rfl ?_
    repeat wtm_at "a1"
    refine ⟨kb, cal_len_str (by wtm_at "om") ?_⟩
    repeat wtm_at "a1"
    refine b_mul ?_ (.of_left (by decide))
    refine nx_ret (nx_ret ?_)
    refine ret_ok (lc' := []) .all ?_
    unfold levD at h
    rw [if_pos (.inl e1)] at h
    exact h
  refine br_no (by simpa using e1) ?_
  refine bx_or (bx_not (bx_val ?_))
  repeat wtm_at "a1"
  refine tru_str ?_ (by wtm_at "om")
  by_cases e2 : b = []
  · refine br_yes (by rw [e2]; rfl) ?_
    refine br_t ?_
    repeat wtm_at "a1"
    refine ld_global A o2 (a := .int 2) ⟨t2, rfl⟩ ?_
    repeat wtm_at "a1"
    refine ld_builtin A gl (v := .builtin "len") (by kernel_rfl) (a := .con (.builtin "len")) rfl ?_
    repeat wtm_at "a1"
    refine ⟨kb, cal_len_str (by wtm_at "om") ?_⟩
    repeat wtm_at "a1"
    refine ld_builtin A gl (v := .builtin "len") (by kernel_rfl) (a := .con (.builtin "len")) rfl ?_
    repeat wtm_at "a1"
    refine ⟨kb, cal_len_str (by wtm_at "om") ?_⟩
    repeat wtm_at "a1"
    refine b_mul ?_ (.of_left (by decide))
    refine nx_ret (nx_ret ?_)
    refine ret_ok (lc' := []) .all ?_
    unfold levD at h
    rw [if_pos (.inr e2)] at h
    exact h
  refine br_no (by simpa using e2) ?_
  refine bx_or_nil (br_f ?_)
  unfold levD at h
  rw [if_neg (by rintro (h1 | h1) <;> contradiction)] at h
  repeat wtm_at "a1"
  refine bx_or ?_
  repeat wtm_at "a1"
  refine ld_builtin A gl (v := .builtin "len") (by kernel_rfl) (a := .con (.builtin "len")) rfl ?_
  repeat wtm_at "a1"
  refine ⟨kb, cal_len_str (by wtm_at "om") ?_⟩
  refine ld_global A o3 (a := .int 40) ⟨t3, rfl⟩ ?_
  repeat wtm_at "a1"
  refine br_dec (fun l1 => ?_) fun l1 => ?_
  · refine br_t ?_
    rw [if_pos (.inl (by wtm_at "om"))] at h
    repeat wtm_at "a1"
    exact ret_ok (lc' := []) .all h
  refine bx_or ?_
  repeat wtm_at "a1"
  refine ld_builtin A gl (v := .builtin "len") (by kernel_rfl) (a := .con (.builtin "len")) rfl ?_
  repeat wtm_at "a1"
  refine ⟨kb, cal_len_str (by wtm_at "om") ?_⟩
  refine ld_global A o3 (a := .int 40) ⟨t3, rfl⟩ ?_
  repeat wtm_at "a1"
  refine br_dec (fun l2 => ?_) fun l2 => ?_
  · refine br_t ?_
    rw [if_pos (.inr (by wtm_at "om"))] at h
    repeat wtm_at "a1"
    exact ret_ok (lc' := []) .all h
  rw [if_neg (by wtm_at "om")] at h
  refine bx_or_nil (br_f ?_)
  repeat wtm_at "a1"
  refine ld_builtin A gl (v := .builtin "len") (by kernel_rfl) (a := .con (.builtin "len")) rfl ?_
  repeat wtm_at "a1"
  refine ⟨kb, cal_len_str (by wtm_at "om") ?_⟩
  repeat wtm_at "a1"
  refine ld_builtin A gl (v := .builtin "len") (by kernel_rfl) (a := .con (.builtin "len")) rfl ?_
  repeat wtm_at "a1"
  refine ⟨kb, cal_len_str (by wtm_at "om") ?_⟩
  repeat wtm_at "a1"
  refine br_dec (fun l3 => ?_) fun l3 => ?_
  · rw [if_pos (by wtm_at "om")] at h
    refine sx_cons (sx_swap2 hh ?_)
    refine ev_tup ?_
    repeat wtm_at "a1"
    refine ⟨by simp, fun tt => ⟨tt, _, _, rfl, by wtm_at "mm", ?_⟩⟩
    refine Sto.weak (.drop .all) ?_
    iterate 5 wtm_at "a0"
    exact lev_rest A O hh hb ha (fun lc1 ow1 P => ret_ok (lc' := []) P h)
  · rw [if_neg (by wtm_at "om")] at h
    iterate 2 wtm_at "a0"
    exact lev_rest A O hh ha hb (fun lc1 ow1 P => ret_ok (lc' := []) P h)
theorem lev_post {a b : List Nat} {mc : Int} {Q : AV → LC → OW → Prop} (A : Act K c (d + 1) (levEnv c.L)) (O : KOk K) (hh : c.A.handled = none) (ha : a.length ≤ 100) (hb : b.length ≤ 100) (h : Q (.int (levC a b mc)) lc ow) :
    SX c (execs ((fBody (stAt 19)).drop 6) (levEnv c.L)) [("a", .str a), ("b", .str b), ("max_cost", .int mc), ("post", .int 0)] ow (retP Q lc) := by
  obtain ⟨S, hS⟩ : ∃ S, S = preN a.reverse b.reverse := ⟨_, rfl⟩
  have hpl := preN_le a.reverse b.reverse
  rw [← hS, List.length_reverse, List.length_reverse] at hpl
  refine sx_cons ?_
  refine sx_while (fun m lc1 ow1 => ∃ s : Nat, s ≤ S ∧ m = S - s ∧ lc1 = ([("a", .str a), ("b", .str b), ("max_cost", .int mc), ("post", .int (-(s : Int)))] : LC) ∧ Pick ow1 ow) ?_ _ ⟨0, Nat.zero_le _, rfl, rfl, .all⟩
  intro m lc1 ow1
  revert m lc1
  refine el_17 fun s hs P1 => ?_
  refine AWp.weak P1 ?_
  have exit : ∀ ow1, Pick ow1 ow → s = S → SX c (execs [] (levEnv c.L)) [("a", .str a), ("b", .str b), ("max_cost", .int mc), ("post", .int (-(s : Int)))] ow1 (nxt c ((fBody (stAt 19)).drop 7) (levEnv c.L) (retP Q lc)) := by
    intro ow1 P2 hse
    refine AWp.weak P2 (sx_nil (nx ?_))
    refine sx_cons ?_
    repeat wtm_at "a1"
    refine ev_po (by wtm_at "lg") fun av pa => ?_
    repeat wtm_at "a1"
    intro sl
    refine sub_str_slice (.head _) .none pa (by wtm_at "om") ?_
    rw [lsl_to]
    repeat wtm_at "a1"
    refine ev_po (by wtm_at "lg") fun av2 pa2 => ?_
    repeat wtm_at "a1"
    intro sl2
    refine sub_str_slice (.head _) .none pa2 (by wtm_at "om") ?_
    rw [lsl_to]
    iterate 2 wtm_at "a0"
    refine AWp.weak (.drop (.drop .all)) (AWp.fgt ?_ (lev_fin (mc := mc) A O hh (by simp; wtm_at "om") (by simp; wtm_at "om") (a := a.take (a.length - s)) (b := b.take (b.length - s)) ?_))
    · wtm_at "ls"
    · rw [hse, hS]; exact h
  refine bx_and (bx_val ?_)
  repeat wtm_at "a1"
  refine ev_po (by wtm_at "lg") fun av pa => ?_
  repeat wtm_at "a1"
  intro sl
  refine sub_str_slice (.head _) .none pa (by wtm_at "om") ?_
  rw [lsl_to]
  refine tru_str ?_ (by simp; wtm_at "om")
  by_cases e1 : a.take (a.length - s) = []
  · refine br_no (by rw [e1]; rfl) ?_
    refine br_f (exit _ (by wtm_at "pk") ?_)
    have := congrArg List.length e1
    simp at this; wtm_at "om"
  refine br_yes (by simpa using e1) ?_
  have l1 : s < a.length := by
    rcases Nat.lt_or_ge s a.length with h1 | h1
    · exact h1
    · rw [show a.length - s = 0 by wtm_at "om", List.take_zero] at e1; exact absurd rfl e1
  refine bx_and (bx_val ?_)
  repeat wtm_at "a1"
  refine ev_po (by wtm_at "lg") fun av2 pa2 => ?_
  repeat wtm_at "a1"
  intro sl2
  refine sub_str_slice (.head _) .none pa2 (by wtm_at "om") ?_
  rw [lsl_to]
  refine tru_str ?_ (by simp; wtm_at "om")
  by_cases e2 : b.take (b.length - s) = []
  · refine br_no (by rw [e2]; rfl) ?_
    refine br_f (exit _ (by wtm_at "pk") ?_)
    have := congrArg List.length e2
    simp at this; wtm_at "om"
  refine br_yes (by simpa using e2) ?_
  have l2 : s < b.length := by
    rcases Nat.lt_or_ge s b.length with h1 | h1
    · exact h1
    · rw [show b.length - s = 0 by wtm_at "om", List.take_zero] at e2; exact absurd rfl e2
  obtain ⟨x, hx⟩ : ∃ x, a.reverse[s]? = some x := ⟨_, List.getElem?_eq_getElem (by simpa using l1)⟩
  obtain ⟨y, hy⟩ : ∃ y, b.reverse[s]? = some y := ⟨_, List.getElem?_eq_getElem (by simpa using l2)⟩
  refine bx_and ?_
  repeat wtm_at "a1"
  refine sub_str (d := x) (by simp; wtm_at "om") (seq_neg l1 hx) ?_
  repeat wtm_at "a1"
  refine sub_str (d := y) (by simp; wtm_at "om") (seq_neg l2 hy) ?_
  repeat wtm_at "a1"
  refine br_dec (fun hxy => ?_) fun hxy => ?_
  · refine bx_and_nil (br_t ?_)
    have hxy' : x = y := by simpa using hxy
    have hlt : s < S := by
      rcases Nat.lt_or_ge s S with h1 | h1
      · exact h1
      · have e : s = preN a.reverse b.reverse := by wtm_at "om"
        rw [e] at hx hy
        exact absurd hxy' (preN_no _ _ x y hx hy)
    repeat wtm_at "a1"
    refine ⟨S - (s + 1), by wtm_at "om", s + 1, by wtm_at "om", rfl, ?_, by wtm_at "pk"⟩
    rw [show -(s : Int) - 1 = -((s + 1 : Nat) : Int) by wtm_at "om"]
  · refine br_f (exit _ (by wtm_at "pk") ?_)
    rcases Nat.lt_or_ge s S with h1 | h1
    · obtain ⟨z, h2, h3⟩ := preN_yes a.reverse b.reverse s (by wtm_at "om")
      rw [hx] at h2; rw [hy] at h3
      cases h2; cases h3
      exact absurd rfl hxy
    · wtm_at "om"
theorem cal_lev {a b : List Nat} {mc : Int} {Q : AV → LC → OW → Prop} (A : Act K c (d + 2) env) (O : KOk K) (hh : c.A.handled = none) (ha : a.length ≤ 100) (hb : b.length ≤ 100) (h : Q (.int (levM a b mc)) lc ow) : Cal c (.con (.ref 139)) [.str a, .str b, .int mc] [] lc ow Q := by
  refine cal_pos A O.lev fns_lev rfl (len3 fun u v w doc pm an ct => by kernel_rfl) fun c hw hc A => ?_
  show SX c (execs (fBody (stAt 19)) (levEnv c.L)) [("a", .str a), ("b", .str b), ("max_cost", .int mc)] ow (retP Q lc)
  rw [← hc] at hh
  refine sx_cons ?_
  repeat wtm_at "a1"
  refine br_dec (fun he => ?_) fun he => ?_
  · repeat wtm_at "a1"
    exact ret_ok (lc' := []) .all (by have : levM a b mc = 0 := by unfold levM; rw [if_pos he]
                                      rw [this] at h; exact h)
  rw [show levM a b mc = levC (a.drop (preN a b)) (b.drop (preN a b)) mc by unfold levM; rw [if_neg he]] at h
  repeat wtm_at "a1"
  have hpl := preN_le a b
  refine sx_while (fun m lc1 ow1 => ∃ p, p ≤ preN a b ∧ m = preN a b - p ∧ lc1 = ([("a", .str a), ("b", .str b), ("max_cost", .int mc), ("pre", .int p)] : LC) ∧ Pick ow1 ow) ?_ _ ⟨0, Nat.zero_le _, rfl, rfl, .all⟩
  intro m lc1 ow1
  revert m lc1
  refine el_17 fun p hp P1 => ?_
  refine AWp.weak P1 ?_
  have exit : ∀ ow1, Pick ow1 ow → p = preN a b → SX c (execs [] (levEnv c.L)) [("a", .str a), ("b", .str b), ("max_cost", .int mc), ("pre", .int p)] ow1 (nxt c ((fBody (stAt 19)).drop 3) (levEnv c.L) (retP Q lc)) := by
    intro ow1 P2 hpe
    refine AWp.weak P2 (sx_nil (nx ?_))
    refine sx_cons ?_
    repeat wtm_at "a1"
    intro sl
    refine sub_str_slice (.head _) .int .none (by wtm_at "om") ?_
    rw [lsl_from _ _ (by wtm_at "om")]
    repeat wtm_at "a1"
    intro sl2
    refine sub_str_slice (.head _) .int .none (by wtm_at "om") ?_
    rw [lsl_from _ _ (by wtm_at "om")]
    iterate 7 wtm_at "a0"
    refine AWp.weak (.drop (.drop .all)) (AWp.fgt ?_ (lev_post (mc := mc) A O hh (by simp; wtm_at "om") (by simp; wtm_at "om") (a := a.drop p) (b := b.drop p) ?_))
    · wtm_at "ls"
    · rw [hpe]; exact h
  refine bx_and (bx_val ?_)
  repeat wtm_at "a1"
  intro sl
  refine sub_str_slice (.head _) .int .none (by wtm_at "om") ?_
  rw [lsl_from _ _ (by wtm_at "om")]
  refine tru_str ?_ (by simp; wtm_at "om")
  by_cases e1 : a.drop p = []
  · refine br_no (by rw [e1]; rfl) ?_
    refine br_f (exit _ (by wtm_at "pk") ?_)
    have := List.drop_eq_nil_iff.mp e1
    wtm_at "om"
  refine br_yes (by simpa using e1) ?_
  have l1 : p < a.length := by have := mt List.drop_eq_nil_iff.mpr e1; wtm_at "om"
  refine bx_and (bx_val ?_)
  repeat wtm_at "a1"
  intro sl2
  refine sub_str_slice (.head _) .int .none (by wtm_at "om") ?_
  rw [lsl_from _ _ (by wtm_at "om")]
  refine tru_str ?_ (by simp; wtm_at "om")
  by_cases e2 : b.drop p = []
  · refine br_no (by rw [e2]; rfl) ?_
    refine br_f (exit _ (by wtm_at "pk") ?_)
    have := List.drop_eq_nil_iff.mp e2
    wtm_at "om"
  refine br_yes (by simpa using e2) ?_
  have l2 : p < b.length := by have := mt List.drop_eq_nil_iff.mpr e2; wtm_at "om"
  obtain ⟨x, hx⟩ : ∃ x, a[p]? = some x := ⟨_, List.getElem?_eq_getElem l1⟩
  obtain ⟨y, hy⟩ : ∃ y, b[p]? = some y := ⟨_, List.getElem?_eq_getElem l2⟩
  refine bx_and ?_
  repeat wtm_at "a1"
  refine sub_str (d := x) (by simp; wtm_at "om") (seq_nn hx) ?_
  repeat wtm_at "a1"
  refine sub_str (d := y) (by simp; wtm_at "om") (seq_nn hy) ?_
  repeat wtm_at "a1"
  refine br_dec (fun hxy => ?_) fun hxy => ?_
  · refine bx_and_nil (br_t ?_)
    have hxy' : x = y := by simpa using hxy
    have hlt : p < preN a b := by
      rcases Nat.lt_or_ge p (preN a b) with h1 | h1
      · exact h1
      · have e : p = preN a b := by wtm_at "om"
        subst e
        exact absurd hxy' (preN_no a b x y hx hy)
    repeat wtm_at "a1"
    exact ⟨preN a b - (p + 1), by wtm_at "om", p + 1, by wtm_at "om", rfl, rfl, by wtm_at "pk"⟩
  · refine br_f (exit _ (by wtm_at "pk") ?_)
    rcases Nat.lt_or_ge p (preN a b) with h1 | h1
    · obtain ⟨z, h2, h3⟩ := preN_yes a b p h1
      rw [hx] at h2; rw [hy] at h3
      cases h2; cases h3
      exact absurd rfl hxy
    · wtm_at "om"
end
end

section
noncomputable abbrev aB : List Nat := [97, 66, 99, 68, 101]
theorem hid_facts : ∀ x : Nat, x < 32 → (Txt.count ⟨(hid x 5).toArray⟩ ⟨#[92]⟩ : Int) = ones5 x ∧ levM (hid x 5) aB (2 * (ones5 x : Int) - 1) = 2 * (ones5 x : Int) ∧ levM (65 :: aB.drop 1) (hid x 5) (2 * (ones5 x : Int) + 1) = 2 * (ones5 x : Int) + 1 ∧ (hid x 5).length ≤ 10 := by decide +kernel
theorem fns_far : FnS ["texts", "words"] (stAt 25) := ⟨by decide +kernel, by decide +kernel, by decide +kernel, by kernel_rfl, by kernel_rfl, by kernel_rfl⟩
section
variable {K : Frag} {c : Cx} {lc : LC} {ow : OW} {env : Env} {d : Nat}
set_option maxHeartbeats 8000000
theorem cal_far {lt lw : Addr} {xs : List Nat} {Q : AV → LC → OW → Prop} (A : Act K c (d + 3) env) (O : KOk K) (hh : c.A.handled = none) (hx : ∀ x ∈ xs, x < 32) (hz : xs.length ≤ 60)
    (hm1 : (lt, AO.list (xs.map fun (x : Nat) => .str (hid x 5))) ∈ ow) (hm2 : (lw, AO.list (List.replicate xs.length (.str aB))) ∈ ow)
    (h : ∀ l, Q (.ref l) lc ((l, .list ((xs.map fun x => 2 * (ones5 x : Int)).map .int)) :: ow)) : Cal c (.con (.ref 170)) [.ref lt, .ref lw] [] lc ow Q := by
  refine cal_pos A O.far fns_far rfl (len2 fun u v doc pm an ct => by kernel_rfl) fun c hw hc A => ?_
  show SX c (execs (fBody (stAt 25)) (envX "_law_far" (fScope (stAt 25)) c.L 170 (.ref 169) [])) [("texts", .ref lt), ("words", .ref lw)] ow (retP Q lc)
  rw [← hc] at hh
  have gl := O.len
  have gr := O.range
  have g139 := O.g139
  refine sx_cons ?_
  repeat wtm_at "a1"
  refine ev_list ?_
  repeat wtm_at "a1"
  refine ⟨by simp, fun lf => ?_⟩
  repeat wtm_at "a1"
  refine sx_rng xs.length (fun k lc1 ow1 => LSub [("texts", .ref lt), ("words", .ref lw), ("far", .ref lf)] lc1 ∧ ow1 = (lf, .list (((xs.take k).map fun x => 2 * (ones5 x : Int)).map .int)) :: ow) hh ?_ ?_ ?_
  · intro k lc1 ow1 hk
    revert ow1
    refine el_PE fun hls => ?_
    refine ⟨_, put_lput lc1 "k" _, fun it o => ?_⟩
    refine AWp.fgt (ls_put hls (put_lput lc1 "k" _)) ?_
    obtain ⟨x, hxk⟩ : ∃ x, xs[k]? = some x := ⟨_, List.getElem?_eq_getElem hk⟩
    refine bc fun hG => ?_
    obtain ⟨f1, f2, f3, f4⟩ := hid_facts x (hx x (List.mem_of_getElem? hxk))
    refine hG ?_
    clear hG
    have hxs : (xs.map fun (x : Nat) => AV.str (hid x 5))[((k : Int)).toNat]? = some (.str (hid x 5)) := by rw [Int.toNat_natCast, List.getElem?_map, hxk]; rfl
    have hws : (List.replicate xs.length (AV.str aB))[((k : Int)).toNat]? = some (.str aB) := by rw [Int.toNat_natCast, List.getElem?_replicate, if_pos hk]
    have hnew : ((xs.take (k + 1)).map fun x => 2 * (ones5 x : Int)) = ((xs.take k).map fun x => 2 * (ones5 x : Int)) ++ [2 * (ones5 x : Int)] := by rw [List.take_add_one, hxk, List.map_append]; rfl
    refine sx_cons ?_
    repeat wtm_at "a1"
    refine sub_list (x := .str (hid x 5)) (.tail _ (.tail _ hm1)) (by wtm_at "om") (by wtm_at "om") hxs ?_
    refine mth_str F.slot_str_count F.type_str_count ?_
    repeat wtm_at "a1"
    refine ⟨kb, cal_count ?_⟩
    refine b_mul ?_ (.of_left (by decide))
    rw [show (Txt.count ⟨(hid x 5).toArray⟩ ⟨(cs (Str.ofString "\\")).toArray⟩ : Int) = ones5 x from f1]
    repeat wtm_at "a1"
    refine b_mod ?_ (by decide)
    repeat wtm_at "a1"
    have hzl : (((xs.take k).map fun x => 2 * (ones5 x : Int)).map AV.int).length ≤ 60 := by simp; wtm_at "om"
    refine br_dec (fun he => ?_) fun he => ?_
    · refine sx_cons (sx_expr ?_)
      repeat wtm_at "a1"
      refine mth_list (xs := ((xs.take k).map fun x => 2 * (ones5 x : Int)).map .int) (by wtm_at "mm") F.slot_list_append F.type_list_append ?_
      repeat wtm_at "a1"
      refine ld_global A g139 (a := .con (.ref 139)) rfl ?_
      repeat wtm_at "a1"
      refine sub_list (x := .str (hid x 5)) (.tail _ (.tail _ hm1)) (by wtm_at "om") (by wtm_at "om") hxs ?_
      repeat wtm_at "a1"
      refine sub_list (x := .str aB) (.tail _ (.tail _ hm2)) (by wtm_at "om") (by wtm_at "om") hws ?_
      repeat wtm_at "a1"
      refine ⟨kpr_fn A O.lev, cal_lev A O hh (by wtm_at "om") (by decide) ?_⟩
      rw [f2]
      repeat wtm_at "a1"
      refine ⟨kb, cal_append (by wtm_at "up") (by wtm_at "om") ⟨rfl, ?_⟩⟩
      rw [← List.map_singleton (f := AV.int), ← List.map_append, ← hnew]
      repeat wtm_at "a1"
      refine sub_list (x := .int (2 * (ones5 x : Int))) (by wtm_at "mm") (by wtm_at "om") (by wtm_at "om") ?_ ?_
      · rw [Int.toNat_natCast, List.getElem?_map, List.getElem?_map, List.getElem?_take_of_lt (by wtm_at "om"), hxk]; rfl
      repeat wtm_at "a1"
      refine br_neg (by simp) ?_
      repeat wtm_at "a1"
      exact ⟨_, _, .all, by wtm_at "ls", ls_self, rfl⟩
    · refine sx_cons (sx_expr ?_)
      repeat wtm_at "a1"
      refine mth_list (xs := ((xs.take k).map fun x => 2 * (ones5 x : Int)).map .int) (by wtm_at "mm") F.slot_list_append F.type_list_append ?_
      repeat wtm_at "a1"
      refine ld_global A g139 (a := .con (.ref 139)) rfl ?_
      repeat wtm_at "a1"
      refine sub_list (x := .str aB) (.tail _ (.tail _ hm2)) (by wtm_at "om") (by wtm_at "om") hws ?_
      repeat wtm_at "a1"
      intro sl
      refine sub_str_slice (lo := some 1) (hi := none) (.head _) .int .none (by decide) ?_
      refine b_adds ?_ (by decide)
      repeat wtm_at "a1"
      refine sub_list (x := .str (hid x 5)) (.tail _ (.tail _ (.tail _ hm1))) (by wtm_at "om") (by wtm_at "om") hxs ?_
      repeat wtm_at "a1"
      refine ⟨kpr_fn A O.lev, cal_lev A O hh (by decide) (by wtm_at "om") ?_⟩
      rw [show levM (cs (Str.ofString "A") ++ lsl aB (some 1) none none) (hid x 5) (2 * (ones5 x : Int) + 1) = 2 * (ones5 x : Int) + 1 from f3]
      repeat wtm_at "a1"
      rw [Int.add_sub_cancel]
      refine ⟨kb, cal_append (by wtm_at "up") (by wtm_at "om") ⟨rfl, ?_⟩⟩
      refine nx (AWp.weak (ow' := (it, o) :: (lf, .list (((xs.take k).map fun x => 2 * (ones5 x : Int)).map .int ++ [.int (2 * (ones5 x : Int))])) :: ow) (by wtm_at "pk") ?_)
      rw [← List.map_singleton (f := AV.int), ← List.map_append, ← hnew]
      repeat wtm_at "a1"
      refine sub_list (x := .int (2 * (ones5 x : Int))) (by wtm_at "mm") (by wtm_at "om") (by wtm_at "om") ?_ ?_
      · rw [Int.toNat_natCast, List.getElem?_map, List.getElem?_map, List.getElem?_take_of_lt (by wtm_at "om"), hxk]; rfl
      repeat wtm_at "a1"
      refine br_neg (by simp) ?_
      repeat wtm_at "a1"
      exact ⟨_, _, .all, by wtm_at "ls", ls_self, rfl⟩
  · intro lc1
    refine el_PE fun hls => ?_
    refine AWp.fgt hls ?_
    repeat wtm_at "a1"
    refine ret_ok (lc' := []) .all ?_
    have := h lf
    rwa [List.take_length]
  · repeat wtm_at "a1"
    refine ld_builtin A gr (v := .type "range") (by kernel_rfl) (a := .con (.type "range")) rfl ?_
    repeat wtm_at "a1"
    refine ld_builtin A gl (v := .builtin "len") (by kernel_rfl) (a := .con (.builtin "len")) rfl ?_
    repeat wtm_at "a1"
    refine ⟨kb, cal_len_list (.tail _ hm2) (by simp; wtm_at "om") ?_⟩
    rw [List.length_replicate]
    repeat wtm_at "a1"
    refine ⟨kt, cal_range1 fun rr => ?_⟩
    exact ⟨rr, _, rfl, .all, by wtm_at "om", by wtm_at "ls", rfl⟩
end
end

section
noncomputable def isWs (c : Nat) : Bool := c == 10 || c == 9 || c == 13 || c == 32
noncomputable abbrev wsL : List Nat := [10, 9, 13, 32]
theorem ws_in : ∀ c : Nat, c < 128 → (!(Builtin.Str.occurrences ⟨wsL.toArray⟩ ⟨[c].toArray⟩ 0 4 1).isEmpty) = isWs c := by decide +kernel
noncomputable abbrev sC (d : Nat) : AV := .str [d]
noncomputable abbrev lexD (n : Int) (st pb : Addr) : LC := [("lineno", .int n), ("instream", .ref st), ("whitespace", .str wsL), ("pushback", .ref pb)]
noncomputable def rdS : Stmt := (fBody (stAt 21))[1]?.getD (.Pass ⟨0, 0, 0, 0⟩)
noncomputable abbrev rdQ : Str := "_law_lexer.<locals>.read"
noncomputable abbrev rdO (L₀ : Nat) (doc pm : Value) (cd : Addr) (ctv : Value) : AO := .obj (fnMade (fName rdS) rdQ (fArgs rdS) (fBody rdS) (fScope rdS) [("left", L₀ + 1)] doc pm cd ctv)
/-- what of a lexer does not change -/
structure LexF (x dx pb st lf rd : Addr) (fx : OW) : Prop where
  inst : (x, iO 121 dx) ∈ fx
  str : ∃ o ds fd, (st, AO.obj (withD o ds)) ∈ fx ∧ o.cls = .type "function" ∧ o.data = .func fd ∧ (ds, AO.dct [("read", .ref rd)]) ∈ fx
  read : ∃ L₀ doc pm cd ctv, (rd, rdO L₀ doc pm cd ctv) ∈ fx ∧ (cd, AO.code rdQ) ∈ fx ∧ (L₀ + 1, AO.cell (some (.ref lf))) ∈ fx
/-- what changes -/
noncomputable abbrev lexW (dx pb st lf : Addr) (n : Int) (left : List Nat) (push : List (List Nat)) (fx : OW) : OW := (dx, .dct (lexD n st pb)) :: (lf, .list (left.map sC)) :: (pb, .list (push.map .str)) :: fx
theorem LexF.more {x dx pb st lf rd : Addr} {fx fx' : OW} (h : LexF x dx pb st lf rd fx) (k : ∀ p ∈ fx, p ∈ fx') : LexF x dx pb st lf rd fx' := by
  obtain ⟨i, ⟨o, ds, fd, s1, s2, s3, s4⟩, L₀, doc, pm, cd, ctv, r1, r2, r3⟩ := h
  exact ⟨k _ i, ⟨o, ds, fd, k _ s1, s2, s3, k _ s4⟩, L₀, doc, pm, cd, ctv, k _ r1, k _ r2, k _ r3⟩
section
variable {K : Frag} {c : Cx} {lc : LC} {ow fx : OW} {env : Env} {d : Nat} {x dx pb st lf rd : Addr}
set_option maxHeartbeats 8000000
theorem calC_pos {n : Nat} {f cd : Addr} {qual : Str} {st : Stmt} {dV kV : Value} {as : List AV} {names : List Str} {Q} (A : Act K c (n + 1) env) (F : FnK K f cd qual st dV kV) (S : FnS names st) (hn : names.length = as.length)
    (hb : ∀ vs : List Value, vs.length = as.length → ∀ doc pm an ct, bindArgs (fnX (fName st) qual (fArgs st) (fBody st) (fScope st) [] dV kV doc pm an (.ref cd) ct) ⟨vs, []⟩ = pure (names.zip vs))
    (h : BodyOf K c n f cd qual st names as ow Q lc) : CalC c (.con (.ref f)) as [] lc ow Q :=
  calC_fn A F (fun vs kvs ra hk _ => ⟨vs, ra, fun s doc pm an ct _ => by
    cases kvs with
    | nil => exact BindsTo.of_eq (hb vs ra.length.symm doc pm an ct)
    | cons => cases hk⟩) hn S.nd S.loc S.cell S.co S.gen S.kind fun c' hw hh A' => sx_retQ (h c' hw hh A')
/-- read takes the first, or nothing -/
theorem cal_read {n : Int} {left : List Nat} {push : List (List Nat)} {Q : AV → LC → OW → Prop} (A : Act K c (d + 1) env) (O : KOk K) (LF : LexF x dx pb st lf rd fx) (hz : left.length < 100000)
    (h : Q (.str (left.take 1)) lc (lexW dx pb st lf n left.tail push fx)) : Cal c (.ref rd) [.int 1] [] lc (lexW dx pb st lf n left push fx) Q := by
  refine bc fun hG => ?_
  obtain ⟨L₀, doc, pm, cd, ctv, r1, r2, r3⟩ := LF.read
  refine hG ?_
  clear hG
  refine cal_clo A (.tail _ (.tail _ (.tail _ r1))) (.tail _ (.tail _ (.tail _ r2))) (names := ["size"]) rfl (by decide +kernel) (by decide +kernel) (len1 fun _ => by kernel_rfl) (by decide +kernel) (by kernel_rfl) (by kernel_rfl) (by kernel_rfl) fun c hw hc A => ?_
  show SX c (execs (fBody rdS) (envX rdQ (fScope rdS) c.L rd (.ref cd) [("left", L₀ + 1)])) [("size", .int 1)] _ _
  refine sx_cons (sx_if (bx_val ?_))
  refine ev_name (ld_free (d := L₀ + 1) (by kernel_rfl) (.tail _ (.tail _ (.tail _ r3))) ?_)
  refine tru_list (xs := left.map sC) (by wtm_at "mm") ?_ (by simp; wtm_at "om")
  cases left with
  | nil =>
    refine br_no rfl ?_
    repeat wtm_at "a1"
    exact ret_ok (lc' := []) .all h
  | cons a left =>
    refine br_yes rfl ?_
    repeat wtm_at "a1"
    refine ev_name (ld_free (d := L₀ + 1) (by kernel_rfl) (.tail _ (.tail _ (.tail _ r3))) ?_)
    refine mth_list (xs := (a :: left).map sC) (by wtm_at "mm") F.slot_list_pop F.type_list_pop ?_
    repeat wtm_at "a1"
    refine ⟨kb, cal_pop0 (x := sC a) (xs := left.map sC) (.tail .head) (by simp at hz ⊢; wtm_at "om") ?_⟩
    repeat wtm_at "a1"
    exact ret_ok (lc' := []) .all h
theorem fns_rc : FnS ["self"] (meAt 1) := ⟨by decide +kernel, by decide +kernel, by decide +kernel, by kernel_rfl, by kernel_rfl, by kernel_rfl⟩
noncomputable abbrev linN (C : Int) (left : List Nat) : Int := C - (left.count 10 : Nat)
/-- _read_char -/
theorem calC_rc {C : Int} {left : List Nat} {push : List (List Nat)} {Q : AV → LC → OW → Prop} (A : Act K c (d + 2) env) (O : KOk K) (LF : LexF x dx pb st lf rd fx) (hz : left.length < 100000)
    (h : Q (.str (left.take 1)) lc (lexW dx pb st lf (linN C left.tail) left.tail push fx)) : CalC c (.con (.ref 104)) [.ref x] [] lc (lexW dx pb st lf (linN C left) left push fx) Q := by
  refine calC_pos A O.readc fns_rc rfl (len1 fun u doc pm an ct => by kernel_rfl) fun c hw hc A => ?_
  show SX c (execs (fBody (meAt 1)) (envX "_netrclex._read_char" (fScope (meAt 1)) c.L 104 (.ref 103) [])) [("self", .ref x)] (lexW dx pb st lf (linN C left) left push fx) (retP Q lc)
  have LF' := LF
  refine bc fun hG => ?_
  obtain ⟨o, ds, fd, s1, s2, s3, s4⟩ := LF.str
  obtain ⟨L₀, doc, pm, cd, ctv, r1, r2, r3⟩ := LF.read
  refine hG ?_
  clear hG
  refine sx_cons ?_
  repeat wtm_at "a1"
  refine ev_attr ?_
  repeat wtm_at "a1"
  refine getA_inst A (.tail _ (.tail _ (.tail _ LF.inst))) (.head _) (a := .ref st) (by wtm_at "lg") O.g_instream O.cls_dict O.f_instream ?_
  refine mth_fn (.tail _ (.tail _ (.tail _ s1))) s2 s3 (.tail _ (.tail _ (.tail _ s4))) ?_
  repeat wtm_at "a1"
  refine ⟨kpr_clo (.tail _ (.tail _ (.tail _ r1))), cal_read A O LF hz ?_⟩
  repeat wtm_at "a1"
  by_cases e : left.take 1 = [10]
  · refine br_yes (by rw [show cs (Str.ofString "\n") = [10] from rfl]; simpa using e) ?_
    obtain ⟨r, rfl⟩ : ∃ r, left = 10 :: r := by
      match left, e with
      | a :: r, e => exact ⟨r, by simp at e; rw [e]⟩
    refine sx_cons (sx_augattr ?_)
    repeat wtm_at "a1"
    refine getA_inst A (.tail _ (.tail _ (.tail _ LF.inst))) (.head _) (a := .int (linN C (10 :: r))) (by wtm_at "lg") O.g_lineno O.cls_dict O.f_lineno ?_
    repeat wtm_at "a1"
    refine setA_inst A (.tail _ (.tail _ (.tail _ LF.inst))) .head .head rfl (by simp) O.cls_set O.cls_over O.t_lineno O.cls_dict ?_
    repeat wtm_at "a1"
    refine ret_ok (lc' := []) .all ?_
    have e2 : linN C (10 :: r) + 1 = linN C r := by unfold linN; rw [List.count_cons_self]; wtm_at "om"
    rw [e2]
    exact h
  · refine br_no (by rw [show cs (Str.ofString "\n") = [10] from rfl]; simpa using e) ?_
    repeat wtm_at "a1"
    refine ret_ok (lc' := []) .all ?_
    have e2 : linN C left = linN C left.tail := by
      unfold linN
      match left, e with
      | [], _ => rfl
      | a :: r, e =>
        have : a ≠ 10 := fun z => e (by rw [z]; rfl)
        rw [List.count_cons_of_ne this]; rfl
    rw [e2]
    exact h
end
end

section
noncomputable def qM : List Nat → List Nat → List Nat × List Nat
  | t, [] => (t, [])
  | t, [c] => if c = 34 then (t, []) else if c = 92 then (t, []) else (t ++ [c], [])
  | t, c :: c' :: r => if c = 34 then (t, c' :: r) else if c = 92 then qM (t ++ [c']) r else qM (t ++ [c]) (c' :: r)
noncomputable def uM : List Nat → List Nat → List Nat × List Nat
  | t, [] => (t, [])
  | t, [c] => if isWs c then (t, []) else if c = 92 then (t, []) else (t ++ [c], [])
  | t, c :: c' :: r => if isWs c then (t, c' :: r) else if c = 92 then uM (t ++ [c']) r else uM (t ++ [c]) (c' :: r)
theorem qM_q (t r : List Nat) : qM t (34 :: r) = (t, r) := by cases r <;> simp [qM]
theorem qM_e (t r : List Nat) : qM t (92 :: r) = qM (t ++ r.take 1) r.tail := by cases r <;> simp [qM]
theorem qM_o (t r : List Nat) {c : Nat} (h1 : c ≠ 34) (h2 : c ≠ 92) : qM t (c :: r) = qM (t ++ [c]) r := by cases r <;> simp [qM, h1, h2]
theorem uM_w (t r : List Nat) {c : Nat} (h : isWs c = true) : uM t (c :: r) = (t, r) := by cases r <;> simp [uM, h]
theorem uM_e (t r : List Nat) : uM t (92 :: r) = uM (t ++ r.take 1) r.tail := by
  have : isWs 92 = false := by decide
  cases r <;> simp [uM, this]
theorem uM_o (t r : List Nat) {c : Nat} (h1 : isWs c = false) (h2 : c ≠ 92) : uM t (c :: r) = uM (t ++ [c]) r := by cases r <;> simp [uM, h1, h2]
noncomputable def tokM : List Nat → List Nat × List Nat
  | [] => ([], [])
  | c :: r => if isWs c then tokM r else if c = 34 then qM [] r else if c = 92 then uM (r.take 1) r.tail else uM [c] r
theorem fns_gt : FnS ["self"] (meAt 2) := ⟨by decide +kernel, by decide +kernel, by decide +kernel, by kernel_rfl, by kernel_rfl, by kernel_rfl⟩
section
variable {K : Frag} {c : Cx} {lc : LC} {ow fx : OW} {env : Env} {d : Nat} {x dx pb st lf rd it m : Addr}
noncomputable abbrev mO (x : Addr) : AO := .obj (methodObj (.ref 104) (.ref x))
noncomputable abbrev gAL (x dx pb st lf it m : Addr) (fx : OW) (C : Int) (left : List Nat) : OW := lexW dx pb st lf (linN C left) left [] ((it, cIt m []) :: (m, mO x) :: fx)
noncomputable abbrev gEN (x dx pb st lf it m : Addr) (fx : OW) (C : Int) : OW := lexW dx pb st lf (linN C []) [] [] ((it, cEnd) :: (m, mO x) :: fx)
set_option maxHeartbeats 8000000
theorem nx_lex {C : Int} {left : List Nat} {Q : Option AV → LC → OW → Prop} (A : Act K c (d + 3) env) (O : KOk K) (hh : c.A.handled = none) (LF : LexF x dx pb st lf rd fx) (hz : left.length < 100000)
    (h0 : left = [] → Q none lc (gEN x dx pb st lf it m fx C)) (h1 : ∀ a r, left = a :: r → Q (some (.str [a])) lc (gAL x dx pb st lf it m fx C r)) : Nxt c it lc (gAL x dx pb st lf it m fx C left) Q := by
  have hfn : ∀ (s : Shared) lc ow, Rep c.g c.L lc ow s.heap → ∃ o fd, s.heap.get? 104 = some o ∧ o.data = .func fd := fun s lc ow R => by
    obtain ⟨oc, od, osl, doc, pm, an, ct, hK, hcd⟩ := O.readc
    exact ⟨_, _, R.keep (A.X _ _ hK), rfl⟩
  refine nxt_cit (a := .ref x) (f := 104) (self := .ref x) (x := []) (y := left.take 1) (lc1 := lc) (ow1 := gAL x dx pb st lf it m fx C left.tail) (ow2 := lexW dx pb st lf (linN C left.tail) left.tail [] ((it, cEnd) :: (m, mO x) :: fx)) hh (.tail _ (.tail _ (.tail _ (.head _)))) (.tail _ (.tail _ (.tail _ (.tail _ (.head _))))) hfn rfl ?_ (.tail _ (.tail _ (.tail _ (.head _)))) (.tail _ (.tail _ (.tail _ (.tail _ (.head _))))) (fun hne => ?_) (.tail (.tail (.tail .head))) (fun he => ?_)
  · exact calC_rc (d := d) (Act.in1 A) O (LF.more fun p hp => .tail _ (.tail _ hp)) hz ⟨rfl, rfl, rfl⟩
  · match left, hne with
    | [], hne => exact absurd rfl hne
    | a :: r, _ => exact h1 a r rfl
  · match left, he with
    | [], _ => exact h0 rfl
end
end

section
noncomputable def forB : Stmt → List Stmt
  | .For _ _ b _ _ => b
  | _ => []
noncomputable def ifB : Stmt → List Stmt
  | .If _ b _ _ => b
  | _ => []
noncomputable def ifE : Stmt → List Stmt
  | .If _ _ e _ => e
  | _ => []
noncomputable abbrev pS : Stmt := .Pass ⟨0, 0, 0, 0⟩
noncomputable def outF : Stmt := (fBody (meAt 2))[3]?.getD pS
noncomputable def qF : Stmt := (ifB ((forB outF)[1]?.getD pS))[0]?.getD pS
noncomputable def uF : Stmt := (ifE ((forB outF)[1]?.getD pS))[2]?.getD pS
noncomputable abbrev gtE (L : Addr) : Env := envX "_netrclex.get_token" (fScope (meAt 2)) L 111 (.ref 110) []
section
variable {K : Frag} {c : Cx} {lc : LC} {ow fx : OW} {env : Env} {d : Nat} {x dx pb st lf rd it m : Addr}
noncomputable abbrev gLc (x it : Addr) (t : List Nat) : LC := [("self", .ref x), ("token", .str t), ("fiter", .ref it)]
set_option maxHeartbeats 8000000
theorem loop_q {C : Int} {left t0 : List Nat} {Q' : AF → LC → OW → Prop} (A : Act K c (d + 3) (gtE c.L)) (O : KOk K) (hh : c.A.handled = none) (LF : LexF x dx pb st lf rd fx) (hz : left.length + t0.length < 100000) (hls : LSub (gLc x it t0) lc)
    (hret : ∀ t r lc', qM t0 left = (t, r) → Q' (.ret (.str t)) lc' (gAL x dx pb st lf it m fx C r)) (hend : ∀ t lc', qM t0 left = (t, []) → LSub (gLc x it t) lc' → Q' .next lc' (gEN x dx pb st lf it m fx C)) :
    SX c (exec qF (gtE c.L)) lc (gAL x dx pb st lf it m fx C left) Q' := by
  refine AWp.fgt hls ?_
  refine sx_for (fun it' n lc1 ow1 => ∃ t left', it' = it ∧ n = left'.length ∧ LSub (gLc x it t) lc1 ∧ qM t left' = qM t0 left ∧ left'.length + t.length < 100000 ∧ ow1 = gAL x dx pb st lf it m fx C left') ?_ ?_
  · intro it' n lc1 ow1
    revert it' n ow1
    refine el_21 fun t left' hls1 hq hz1 => ?_
    refine nx_lex A O hh LF (by wtm_at "om") (fun e => ?_) fun a r e => ?_
    · subst e
      exact sx_nil (hend t lc1 (by rw [← hq]; rfl) hls1)
    · subst e
      refine asg_name (sto_local (put_lput lc1 "ch" _) ?_)
      refine AWp.fgt (ls_put hls1 (put_lput lc1 "ch" _)) ?_
      refine sx_cons ?_
      repeat wtm_at "a1"
      by_cases h34 : a = 34
      · subst h34
        refine br_yes rfl ?_
        repeat wtm_at "a1"
        exact hret t r _ (by rw [← hq, qM_q])
      · refine br_no (decide_eq_false fun z => h34 (by have z' : [a] = [34] := z; simpa using z')) ?_
        repeat wtm_at "a1"
        by_cases h92 : a = 92
        · subst h92
          refine br_yes rfl ?_
          repeat wtm_at "a1"
          refine mth_inst A (.tail _ (.tail _ (.tail _ (.tail _ (.tail _ LF.inst))))) (.head _) (by kernel_rfl) O.g_read O.m_read.find O.m_read.isFn ?_
          repeat wtm_at "a1"
          refine ⟨kpr_fn A O.readc, (calC_rc (d := d + 1) A O (LF.more fun p hp => .tail _ (.tail _ hp)) (by simp at hz1; wtm_at "om") ?_).cal⟩
          repeat wtm_at "a1"
          refine i_adds ?_ (by simp at hz1 ⊢; wtm_at "om")
          repeat wtm_at "a1"
          refine ⟨r.tail.length, by simp; wtm_at "om", t ++ r.take 1, r.tail, rfl, rfl, by wtm_at "ls", ?_, ?_, rfl⟩
          · rw [← hq, qM_e]
          · simp at hz1 ⊢; wtm_at "om"
        · refine br_no (decide_eq_false fun z => h92 (by have z' : [a] = [92] := z; simpa using z')) ?_
          repeat wtm_at "a1"
          refine i_adds ?_ (by simp at hz1 ⊢; wtm_at "om")
          repeat wtm_at "a1"
          refine ⟨r.length, by simp, t ++ [a], r, rfl, rfl, by wtm_at "ls", ?_, ?_, rfl⟩
          · rw [← hq, qM_o _ _ h34 h92]
          · simp at hz1 ⊢; wtm_at "om"
  · repeat wtm_at "a1"
    refine itr_cit (.tail _ (.tail _ (.tail _ (.head _)))) ⟨_, t0, left, rfl, rfl, ls_self, rfl, hz, rfl⟩
theorem loop_u {C : Int} {left t0 : List Nat} {Q' : AF → LC → OW → Prop} (A : Act K c (d + 3) (gtE c.L)) (O : KOk K) (hh : c.A.handled = none) (LF : LexF x dx pb st lf rd fx) (hz : left.length + t0.length < 100000) (hls : LSub (gLc x it t0) lc) (h128 : ∀ a ∈ left, a < 128)
    (hret : ∀ t r lc', uM t0 left = (t, r) → Q' (.ret (.str t)) lc' (gAL x dx pb st lf it m fx C r)) (hend : ∀ t lc', uM t0 left = (t, []) → LSub (gLc x it t) lc' → Q' .next lc' (gEN x dx pb st lf it m fx C)) :
    SX c (exec uF (gtE c.L)) lc (gAL x dx pb st lf it m fx C left) Q' := by
  refine AWp.fgt hls ?_
  refine sx_for (fun it' n lc1 ow1 => ∃ t left', (∀ a ∈ left', a < 128) ∧ it' = it ∧ n = left'.length ∧ LSub (gLc x it t) lc1 ∧ uM t left' = uM t0 left ∧ left'.length + t.length < 100000 ∧ ow1 = gAL x dx pb st lf it m fx C left') ?_ ?_
  · intro it' n lc1 ow1
    revert it' n ow1
    refine el_21b fun t left' hb hls1 hq hz1 => ?_
    refine nx_lex A O hh LF (by wtm_at "om") (fun e => ?_) fun a r e => ?_
    · subst e
      exact sx_nil (hend t lc1 (by rw [← hq]; rfl) hls1)
    · subst e
      refine asg_name (sto_local (put_lput lc1 "ch" _) ?_)
      refine AWp.fgt (ls_put hls1 (put_lput lc1 "ch" _)) ?_
      refine sx_cons ?_
      repeat wtm_at "a1"
      refine ev_attr ?_
      repeat wtm_at "a1"
      refine getA_inst A (.tail _ (.tail _ (.tail _ (.tail _ (.tail _ LF.inst))))) (.head _) (a := .str wsL) (by wtm_at "lg") O.g_whitespace O.cls_dict O.f_whitespace ?_
      refine in_str ?_
      rw [show (!(Builtin.Str.occurrences ⟨wsL.toArray⟩ ⟨[a].toArray⟩ 0 wsL.length 1).isEmpty) = isWs a from ws_in a (hb a (.head _))]
      repeat wtm_at "a1"
      have hb' : ∀ a ∈ r, a < 128 := fun z hz => hb z (.tail _ hz)
      by_cases hw : isWs a = true
      · refine br_yes hw ?_
        repeat wtm_at "a1"
        exact hret t r _ (by rw [← hq, uM_w _ _ hw])
      · have hw' : isWs a = false := by simpa using hw
        refine br_no hw' ?_
        repeat wtm_at "a1"
        by_cases h92 : a = 92
        · subst h92
          refine br_yes rfl ?_
          repeat wtm_at "a1"
          refine mth_inst A (.tail _ (.tail _ (.tail _ (.tail _ (.tail _ LF.inst))))) (.head _) (by kernel_rfl) O.g_read O.m_read.find O.m_read.isFn ?_
          repeat wtm_at "a1"
          refine ⟨kpr_fn A O.readc, (calC_rc (d := d + 1) A O (LF.more fun p hp => .tail _ (.tail _ hp)) (by simp at hz1; wtm_at "om") ?_).cal⟩
          repeat wtm_at "a1"
          refine i_adds ?_ (by simp at hz1 ⊢; wtm_at "om")
          repeat wtm_at "a1"
          refine ⟨r.tail.length, by simp; wtm_at "om", t ++ r.take 1, r.tail, fun z hz => hb' z (List.mem_of_mem_tail hz), rfl, rfl, by wtm_at "ls", ?_, ?_, rfl⟩
          · rw [← hq, uM_e]
          · simp at hz1 ⊢; wtm_at "om"
        · refine br_no (decide_eq_false fun z => h92 (by have z' : [a] = [92] := z; simpa using z')) ?_
          repeat wtm_at "a1"
          refine i_adds ?_ (by simp at hz1 ⊢; wtm_at "om")
          repeat wtm_at "a1"
          refine ⟨r.length, by simp, t ++ [a], r, hb', rfl, rfl, by wtm_at "ls", ?_, ?_, rfl⟩
          · rw [← hq, uM_o _ _ hw' h92]
          · simp at hz1 ⊢; wtm_at "om"
  · repeat wtm_at "a1"
    refine itr_cit (.tail _ (.tail _ (.tail _ (.head _)))) ⟨_, t0, left, h128, rfl, rfl, ls_self, rfl, hz, rfl⟩
end
end

section
section
variable {K : Frag} {c : Cx} {lc : LC} {ow fx : OW} {env : Env} {d : Nat} {x dx pb st lf rd it m : Addr}
set_option maxHeartbeats 8000000
theorem loop_out {C : Int} {left : List Nat} {R : List Nat × List Nat} {Q' : AF → LC → OW → Prop} (A : Act K c (d + 3) (gtE c.L)) (O : KOk K) (hh : c.A.handled = none) (LF : LexF x dx pb st lf rd fx) (hz : left.length < 90000) (hls : LSub (gLc x it []) lc) (h128 : ∀ a ∈ left, a < 128) (hR : tokM left = R)
    (hret : ∀ t r lc', R = (t, r) → Q' (.ret (.str t)) lc' (gAL x dx pb st lf it m fx C r)) (hend : ∀ t lc', R = (t, []) → LSub (gLc x it t) lc' → Q' .next lc' (gEN x dx pb st lf it m fx C)) :
    SX c (exec outF (gtE c.L)) lc (gAL x dx pb st lf it m fx C left) Q' := by
  refine AWp.fgt hls ?_
  refine sx_for (fun it' n lc1 ow1 => it' = it ∧ ((∃ left', (∀ a ∈ left', a < 128) ∧ n = left'.length + 1 ∧ LSub (gLc x it []) lc1 ∧ tokM left' = R ∧ left'.length < 90000 ∧ ow1 = gAL x dx pb st lf it m fx C left') ∨ ∃ t, n = 0 ∧ LSub (gLc x it t) lc1 ∧ R = (t, []) ∧ ow1 = gEN x dx pb st lf it m fx C)) ?_ ?_
  · rintro it' n lc1 _ ⟨rfl, ⟨left', hb, rfl, hls1, hq, hz1, rfl⟩ | ⟨t, rfl, hls1, hq, rfl⟩⟩
    · refine nx_lex A O hh LF (by wtm_at "om") (fun e => ?_) fun a r e => ?_
      · subst e
        exact sx_nil (hend [] lc1 (by rw [← hq]; rfl) hls1)
      · subst e
        refine asg_name (sto_local (put_lput lc1 "ch" _) ?_)
        refine AWp.fgt (ls_put hls1 (put_lput lc1 "ch" _)) ?_
        refine sx_cons ?_
        repeat wtm_at "a1"
        refine ev_attr ?_
        repeat wtm_at "a1"
        refine getA_inst A (.tail _ (.tail _ (.tail _ (.tail _ (.tail _ LF.inst))))) (.head _) (a := .str wsL) (by wtm_at "lg") O.g_whitespace O.cls_dict O.f_whitespace ?_
        refine in_str ?_
        rw [show (!(Builtin.Str.occurrences ⟨wsL.toArray⟩ ⟨[a].toArray⟩ 0 wsL.length 1).isEmpty) = isWs a from ws_in a (hb a (.head _))]
        repeat wtm_at "a1"
        have hb' : ∀ a ∈ r, a < 128 := fun z hz => hb z (.tail _ hz)
        unfold tokM at hq
        simp only [List.length_cons] at hz1
        by_cases hw : isWs a = true
        · rw [if_pos hw] at hq
          refine br_yes hw ?_
          refine sx_cons (sx_cont ?_)
          refine nx_cont ?_
          exact ⟨r.length + 1, by simp, rfl, .inl ⟨r, hb', rfl, by wtm_at "ls", hq, by wtm_at "om", rfl⟩⟩
        · rw [if_neg hw] at hq
          refine br_no (by simpa using hw) ?_
          repeat wtm_at "a1"
          by_cases h34 : a = 34
          · subst h34
            rw [if_pos rfl] at hq
            refine br_yes rfl ?_
            refine sx_cons (loop_q (C := C) A O hh LF (t0 := []) (by simp; wtm_at "om") (by wtm_at "ls") (fun t r' lc' e => ?_) fun t lc' e hl => ?_)
            · exact hret t r' lc' (by rw [← hq, e])
            · refine nx (sx_nil (nx (sx_nil ?_)))
              exact ⟨0, by wtm_at "om", rfl, .inr ⟨t, rfl, hl, by rw [← hq, e], rfl⟩⟩
          · rw [if_neg h34] at hq
            refine br_no (decide_eq_false fun z => h34 (by have z' : [a] = [34] := z; simpa using z')) ?_
            have fin : ∀ (t0 r0 : List Nat) (lc2 : LC), uM t0 r0 = R → r0.length + t0.length < 100000 → (∀ a ∈ r0, a < 128) → LSub (gLc x it' t0) lc2 → SX c (exec uF (gtE c.L)) lc2 (gAL x dx pb st lf it' m fx C r0) (nxt c [] (gtE c.L) (nxt c [] (gtE c.L) (fun f lc3 ow3 => match f with
              | .next | .cont => ∃ m_1, m_1 < (a :: r).length + 1 ∧ it' = it' ∧ ((∃ left', (∀ a ∈ left', a < 128) ∧ m_1 = left'.length + 1 ∧ LSub (gLc x it' []) lc3 ∧ tokM left' = R ∧ left'.length < 90000 ∧ ow3 = gAL x dx pb st lf it' m fx C left') ∨ ∃ t, m_1 = 0 ∧ LSub (gLc x it' t) lc3 ∧ R = (t, []) ∧ ow3 = gEN x dx pb st lf it' m fx C)
              | .brk => Q' .next lc3 ow3
              | .ret a => Q' (.ret a) lc3 ow3))) := by
              intro t0 r0 lc2 e h1 h2 h3
              refine loop_u (C := C) A O hh LF h1 h3 h2 (fun t r' lc' e' => ?_) fun t lc' e' hl => ?_
              · exact hret t r' lc' (by rw [← e, e'])
              · refine nx (sx_nil (nx (sx_nil ?_)))
                exact ⟨0, by wtm_at "om", rfl, .inr ⟨t, rfl, hl, by rw [← e, e'], rfl⟩⟩
            repeat wtm_at "a1"
            by_cases h92 : a = 92
            · subst h92
              rw [if_pos rfl] at hq
              refine br_yes rfl ?_
              repeat wtm_at "a1"
              refine mth_inst A (.tail _ (.tail _ (.tail _ (.tail _ (.tail _ LF.inst))))) (.head _) (by kernel_rfl) O.g_read O.m_read.find O.m_read.isFn ?_
              repeat wtm_at "a1"
              refine ⟨kpr_fn A O.readc, (calC_rc (d := d + 1) A O (LF.more fun p hp => .tail _ (.tail _ hp)) (by wtm_at "om") ?_).cal⟩
              repeat wtm_at "a1"
              refine i_adds ?_ (by simp; wtm_at "om")
              repeat wtm_at "a1"
              refine fin (r.take 1) r.tail _ hq (by simp; wtm_at "om") (fun z hz => hb' z (List.mem_of_mem_tail hz)) ?_
              rw [List.nil_append]
              wtm_at "ls"
            · rw [if_neg h92] at hq
              refine br_no (decide_eq_false fun z => h92 (by have z' : [a] = [92] := z; simpa using z')) ?_
              repeat wtm_at "a1"
              refine i_adds ?_ (by simp)
              repeat wtm_at "a1"
              refine fin [a] r _ hq (by simp; wtm_at "om") hb' ?_
              rw [List.nil_append]
              wtm_at "ls"
    · refine nxt_cend hh (.tail _ (.tail _ (.tail _ (.head _)))) (sx_nil ?_)
      exact hend t lc1 hq hls1
  · repeat wtm_at "a1"
    refine itr_cit (.tail _ (.tail _ (.tail _ (.head _)))) ⟨_, rfl, .inl ⟨left, h128, rfl, ls_self, hR, hz, rfl⟩⟩
end
end

section
theorem fns_pt : FnS ["self", "token"] (meAt 3) := ⟨by decide +kernel, by decide +kernel, by decide +kernel, by kernel_rfl, by kernel_rfl, by kernel_rfl⟩
section
variable {K : Frag} {c : Cx} {lc : LC} {ow fx : OW} {env : Env} {d : Nat} {x dx pb st lf rd : Addr}
set_option maxHeartbeats 8000000
/-- get_token, nothing pushed back -/
theorem cal_gt {C : Int} {left : List Nat} {Q : AV → LC → OW → Prop} (A : Act K c (d + 4) env) (O : KOk K) (hh : c.A.handled = none) (LF : LexF x dx pb st lf rd fx) (hz : left.length < 90000) (h128 : ∀ a ∈ left, a < 128)
    (h : Q (.str (tokM left).1) lc (lexW dx pb st lf (linN C (tokM left).2) (tokM left).2 [] fx)) : Cal c (.con (.ref 111)) [.ref x] [] lc (lexW dx pb st lf (linN C left) left [] fx) Q := by
  refine cal_pos A O.token fns_gt rfl (len1 fun u doc pm an ct => by kernel_rfl) fun c hw hc A => ?_
  show SX c (execs (fBody (meAt 2)) (gtE c.L)) [("self", .ref x)] (lexW dx pb st lf (linN C left) left [] fx) (retP Q lc)
  rw [← hc] at hh
  have gi := O.iter
  refine sx_cons (sx_if (bx_val ?_))
  refine ev_attr ?_
  repeat wtm_at "a1"
  refine getA_inst A (.tail _ (.tail _ (.tail _ LF.inst))) (.head _) (a := .ref pb) (by wtm_at "lg") O.g_pushback O.cls_dict O.f_pushback ?_
  refine tru_list (xs := ([] : List (List Nat)).map .str) (by wtm_at "mm") ?_ (by simp)
  refine br_no rfl ?_
  repeat wtm_at "a1"
  refine ld_builtin A gi (v := .builtin "iter") (by kernel_rfl) (a := .con (.builtin "iter")) rfl ?_
  repeat wtm_at "a1"
  refine ev_attr ?_
  repeat wtm_at "a1"
  refine getA_meth A (.tail _ (.tail _ (.tail _ LF.inst))) (.head _) (by kernel_rfl) O.g_read O.cls_dict O.m_read.find O.m_read.get O.m_read.takes O.m_read.type (by decide) fun m => ?_
  repeat wtm_at "a1"
  refine ⟨kb, cal_iter2 (.head _) fun it => ?_⟩
  repeat wtm_at "a1"
  refine AWp.weak (ow' := gAL x dx pb st lf it m fx C left) (.cons (.tail (.tail .head)) (.cons (.tail (.tail .head)) (.cons (.tail (.tail .head)) .all))) ?_
  have back : ∀ (n : Int) (l : List Nat) (p : AO), Pick (lexW dx pb st lf n l [] ((it, p) :: (m, mO x) :: fx)) (lexW dx pb st lf n l [] fx) := fun n l p => .tl (.tl (.tl (.drop (.drop .all))))
  refine loop_out (C := C) (R := tokM left) A O hh LF hz (by show LSub [("self", .ref x), ("token", .str (cs (Str.ofString ""))), ("fiter", .ref it)] _; wtm_at "ls") h128 rfl (fun t r lc' e => ?_) fun t lc' e hl => ?_
  · refine nx_ret (ret_ok (lc' := []) (back _ _ _) ?_)
    rw [e] at h
    exact h
  · refine nx ?_
    refine AWp.fgt hl ?_
    repeat wtm_at "a1"
    refine ret_ok (lc' := []) (back _ _ _) ?_
    rw [e] at h
    exact h
/-- get_token, with some pushed back -/
theorem cal_gtp {n : Int} {left p : List Nat} {ps : List (List Nat)} {Q : AV → LC → OW → Prop} (A : Act K c (d + 1) env) (O : KOk K) (LF : LexF x dx pb st lf rd fx) (hz : ps.length < 1000)
    (h : Q (.str p) lc (lexW dx pb st lf n left ps fx)) : Cal c (.con (.ref 111)) [.ref x] [] lc (lexW dx pb st lf n left (p :: ps) fx) Q := by
  refine cal_pos A O.token fns_gt rfl (len1 fun u doc pm an ct => by kernel_rfl) fun c hw hc A => ?_
  show SX c (execs (fBody (meAt 2)) (gtE c.L)) [("self", .ref x)] (lexW dx pb st lf n left (p :: ps) fx) (retP Q lc)
  refine sx_cons (sx_if (bx_val ?_))
  refine ev_attr ?_
  repeat wtm_at "a1"
  refine getA_inst A (.tail _ (.tail _ (.tail _ LF.inst))) (.head _) (a := .ref pb) (by wtm_at "lg") O.g_pushback O.cls_dict O.f_pushback ?_
  refine tru_list (xs := (p :: ps).map .str) (by wtm_at "mm") ?_ (by simp; wtm_at "om")
  refine br_yes rfl ?_
  repeat wtm_at "a1"
  refine ev_attr ?_
  repeat wtm_at "a1"
  refine getA_inst A (.tail _ (.tail _ (.tail _ LF.inst))) (.head _) (a := .ref pb) (by wtm_at "lg") O.g_pushback O.cls_dict O.f_pushback ?_
  refine mth_list (xs := (p :: ps).map .str) (by wtm_at "mm") F.slot_list_pop F.type_list_pop ?_
  repeat wtm_at "a1"
  refine ⟨kb, cal_pop0 (x := .str p) (xs := ps.map .str) (.tail (.tail .head)) (by simp; wtm_at "om") ?_⟩
  repeat wtm_at "a1"
  exact ret_ok (lc' := []) .all h
/-- push_token -/
theorem cal_push {n : Int} {left t : List Nat} {ps : List (List Nat)} {Q : AV → LC → OW → Prop} (A : Act K c (d + 1) env) (O : KOk K) (LF : LexF x dx pb st lf rd fx) (hz : ps.length < 1000)
    (h : Q .none lc (lexW dx pb st lf n left (ps ++ [t]) fx)) : Cal c (.con (.ref 118)) [.ref x, .str t] [] lc (lexW dx pb st lf n left ps fx) Q := by
  refine cal_pos A O.pusht fns_pt rfl (len2 fun u v doc pm an ct => by kernel_rfl) fun c hw hc A => ?_
  show SX c (execs (fBody (meAt 3)) (envX "_netrclex.push_token" (fScope (meAt 3)) c.L 118 (.ref 117) [])) [("self", .ref x), ("token", .str t)] (lexW dx pb st lf n left ps fx) (retP Q lc)
  refine sx_cons (sx_expr ?_)
  refine ev_meth ?_
  refine ev_attr ?_
  repeat wtm_at "a1"
  refine getA_inst A (.tail _ (.tail _ (.tail _ LF.inst))) (.head _) (a := .ref pb) (by wtm_at "lg") O.g_pushback O.cls_dict O.f_pushback ?_
  refine mth_list (xs := ps.map .str) (by wtm_at "mm") F.slot_list_append F.type_list_append ?_
  repeat wtm_at "a1"
  refine ⟨kb, cal_append (.tail (.tail .head)) (by simp; wtm_at "om") ⟨rfl, ?_⟩⟩
  repeat wtm_at "a1"
  refine ret_none (lc' := []) .all ?_
  rw [← List.map_singleton (f := AV.str), ← List.map_append]
  exact h
end
end

section
theorem fns_init : FnS ["self", "fp"] (meAt 0) := ⟨by decide +kernel, by decide +kernel, by decide +kernel, by kernel_rfl, by kernel_rfl, by kernel_rfl⟩
section
variable {K : Frag} {c : Cx} {lc : LC} {ow fx : OW} {env : Env} {d : Nat} {x dx pb st lf rd : Addr}
set_option maxHeartbeats 8000000
theorem calC_init {Q : AV → LC → OW → Prop} (A : Act K c (d + 1) env) (O : KOk K) (h : ∀ pb, Q .none lc ((pb, .list []) :: (x, iO 121 dx) :: (dx, .dct (lexD 1 st pb)) :: ow)) : CalC c (.con (.ref 97)) [.ref x, .ref st] [] lc ((x, iO 121 dx) :: (dx, .dct []) :: ow) Q := by
  refine calC_pos A O.init fns_init rfl (len2 fun u v doc pm an ct => by kernel_rfl) fun c hw hc A => ?_
  show SX c (execs (fBody (meAt 0)) (envX "_netrclex.__init__" (fScope (meAt 0)) c.L 97 (.ref 96) [])) [("self", .ref x), ("fp", .ref st)] ((x, iO 121 dx) :: (dx, .dct []) :: ow) (retP Q lc)
  refine sx_cons (sx_setattr ?_)
  repeat wtm_at "a1"
  refine setA_inst A (.head _) (.tail .head) (by wtm_at "pt") rfl (by simp) O.cls_set O.cls_over O.t_lineno O.cls_dict ?_
  repeat wtm_at "a1"
  refine sx_setattr ?_
  repeat wtm_at "a1"
  refine setA_inst A (.head _) (.tail .head) (by wtm_at "pt") rfl (by simp) O.cls_set O.cls_over O.t_instream O.cls_dict ?_
  repeat wtm_at "a1"
  refine sx_setattr ?_
  repeat wtm_at "a1"
  refine setA_inst A (.head _) (.tail .head) (by wtm_at "pt") rfl (by simp) O.cls_set O.cls_over O.t_whitespace O.cls_dict ?_
  repeat wtm_at "a1"
  refine sx_setattr ?_
  refine ev_list ?_
  repeat wtm_at "a1"
  refine ⟨by simp, fun pb => ?_⟩
  repeat wtm_at "a1"
  refine setA_inst A (.tail _ (.head _)) (.tail (.tail .head)) (by wtm_at "pt") rfl (by simp) O.cls_set O.cls_over O.t_pushback O.cls_dict ?_
  repeat wtm_at "a1"
  exact ret_none (lc' := []) .all (h pb)
theorem cal_lexer {text : List Nat} {Q : AV → LC → OW → Prop} (A : Act K c (d + 4) env) (O : KOk K) (hh : c.A.handled = none) (hz : text.length ≤ 10000)
    (h : ∀ x dx pb st lf rd fl ps, LexF x dx pb st lf rd fl → Q (.ref x) lc (lexW dx pb st lf 1 text [] (fl ++ ((141, .obj (tabObj ps)) :: ow)))) : Cal c (.con (.ref 146)) [.str text] [] lc ((141, .obj (tabObj #[])) :: ow) Q := by
  refine cal_cells (names := ["text"]) (ls := [("text", .str text)]) (cw := fun L => [(L + 1, .cell none)]) A O.lexer rfl (by decide +kernel) (by decide +kernel) (len1 fun u doc pm an ct => by kernel_rfl) (by exact ls_self) (loc_of (names := ["text"]) rfl (by decide +kernel)) (by decide +kernel) (fun L' => by kernel_rfl) (by decide +kernel) (by kernel_rfl) (by kernel_rfl) (by kernel_rfl) fun c hw hc A => ?_
  show SX c (execs (fBody (stAt 21)) (envOfC "_law_lexer" (fScope (stAt 21)) c.L 146 (.ref 145))) [("text", .str text)] ((c.L + 1, .cell none) :: (141, .obj (tabObj #[])) :: ow) (retP Q lc)
  rw [← hc] at hh
  have gl := O.list
  have gc := O.g121
  have oc := O.c145
  refine sx_cons (sx_assign ?_)
  repeat wtm_at "a1"
  refine ld_builtin A gl (v := .type "list") (by kernel_rfl) (a := .con (.type "list")) rfl ?_
  repeat wtm_at "a1"
  refine ⟨kt, cal_list_str hh (by wtm_at "om") fun lf => ?_⟩
  refine sto_cell (d := c.L + 1) (by kernel_rfl) (by wtm_at "up") ?_
  repeat wtm_at "a1"
  refine sx_def ?_
  refine AWp.weak (ow' := (141, .obj (tabObj #[])) :: (lf, .list (text.map sC)) :: (c.L + 1, .cell (some (.ref lf))) :: ow) (by wtm_at "pks") ?_
  refine mk_new (qual := rdQ) (ps := #[]) A oc (clos := [("left", c.L + 1)]) (by kernel_rfl) (.head _) trivial rfl (fun c' => .head) fun rd crd doc pm ctv => ?_
  repeat wtm_at "a1"
  refine ev_lam ?_
  refine lam_new (cd := 145) (P := 141) A oc (clos := []) (by kernel_rfl) (.tail _ (.tail _ (.head _))) (by simp [TriplesOk, rawInt]) (by kernel_rfl) (fun c' => .tail (.tail .head)) fun st cst pm2 ctv2 => ?_
  generalize hSo : kla_obj _ _ _ _ _ _ pm2 cst ctv2 = So
  have s1 : So.cls = .type "function" := by rw [← hSo]
  have s2 : So.dict = none := by rw [← hSo]
  obtain ⟨fd, s3⟩ : ∃ fd, So.data = .func fd := by rw [← hSo]; exact ⟨_, rfl⟩
  have s4 : So.isFreed = false := by rw [← hSo]; rfl
  clear hSo
  repeat wtm_at "a1"
  refine sx_setattr ?_
  repeat wtm_at "a1"
  refine setA_fn (fun ds => .head) s1 s2 s3 s4 rfl fun ds => ?_
  repeat wtm_at "a1"
  refine ld_global A gc (a := .con (.ref 121)) rfl ?_
  repeat wtm_at "a1"
  refine ⟨kpr_cls A O.cls_keep, cal_cls (n := d + 2) A O.cls_makes O.m_init.find O.m_init.isFn fun x dx A' hA' Act' => ?_⟩
  refine calC_init (d := d + 1) Act' O fun pb => ⟨rfl, ?_⟩
  refine nx_ret ?_
  have key : ∀ {cur r1 : OW} {p1 p2 p3 p4 p5 p6 p7 : Addr × AO} {ps : Array Value}, Pick cur ((dx, .dct (lexD 1 st pb)) :: (lf, .list (text.map sC)) :: (pb, .list []) :: p1 :: p2 :: p3 :: p4 :: p5 :: p6 :: (141, .obj (tabObj ps)) :: p7 :: ow) → LexF x dx pb st lf rd [p1, p2, p3, p4, p5, p6, p7] → retP Q lc (.ret (.ref x)) [] cur := fun {cur r1 p1 p2 p3 p4 p5 p6 p7 ps} P L =>
    ret_ok (P.trans (.tl (.tl (.tl (.tl (.tl (.tl (.tl (.tl (.tl (.cons (.tail .head) .all))))))))))) (h x dx pb st lf rd [p1, p2, p3, p4, p5, p6, p7] ps L)
  exact key (r1 := []) (.cons (.tail (.tail .head)) (.cons (.tail (.tail (.tail (.tail (.tail (.tail (.tail (.tail .head)))))))) (.cons .head .all))) ⟨.head _, ⟨So, ds, fd, .tail _ (.tail _ (.head _)), s1, s3, .tail _ (.head _)⟩, c.L, doc, pm, crd, ctv, .tail _ (.tail _ (.tail _ (.tail _ (.head _)))), .tail _ (.tail _ (.tail _ (.tail _ (.tail _ (.head _))))), .tail _ (.tail _ (.tail _ (.tail _ (.tail _ (.tail _ (.head _))))))⟩
end
end

section
open PySem.StrLaws PySem.Builtin PySem.Builtin.Str
theorem sub_one (xs : List Nat) (a i : Nat) : subAt ⟨xs.toArray⟩ ⟨#[a]⟩ i = true ↔ xs[i]? = some a := by
  rw [← take1_drop]
  unfold subAt
  show (xs.toArray.extract i (i + 1) == #[a]) = true ↔ _
  rw [beq_iff_eq, beq_iff_eq, ← Array.toList_inj]
  simp [List.extract_eq_drop_take']
theorem occ_one (xs : List Nat) (a : Nat) : ∀ (n i : Nat) (f : Array Nat) (fr : Nat), i + n = xs.length + 1 → f.size ≤ i → fr ≤ i →
    (forIn (List.range' i n) (f, fr) (occBody ⟨xs.toArray⟩ ⟨#[a]⟩ xs.length (xs.length + 1))).run.fst.size = f.size + (xs.drop i).count a := by
  intro n
  induction n with
  | zero =>
    intro i f fr h1 h2 h3
    rw [List.drop_eq_nil_of_le (by wtm_at "om")]
    simp
  | succ n ih =>
    intro i f fr h1 h2 h3
    rw [List.range'_succ, List.forIn_cons]
    unfold occBody
    by_cases hi : i < xs.length
    · have hd : xs.drop i = xs[i] :: xs.drop (i + 1) := List.drop_eq_getElem_cons hi
      by_cases he : xs[i] = a
      · rw [if_pos ⟨⟨⟨by show f.size < _; wtm_at "om", h3⟩, by show i + 1 ≤ _; wtm_at "om"⟩, (sub_one xs a i).mpr (by rw [List.getElem?_eq_getElem hi, he])⟩]
        show (forIn (List.range' (i + 1) n) _ (occBody _ _ _ _)).run.fst.size = _
        have := ih (i + 1) (f.push i) (i + 1) (by wtm_at "om") (by rw [Array.size_push]; wtm_at "om") (Nat.le_refl _)
        refine Eq.trans this ?_
        rw [hd, he, List.count_cons_self, Array.size_push]; wtm_at "om"
      · rw [if_neg fun h => he (by have := (sub_one xs a i).mp h.2; rw [List.getElem?_eq_getElem hi] at this; exact Option.some.inj this)]
        show (forIn (List.range' (i + 1) n) _ (occBody _ _ _ _)).run.fst.size = _
        have := ih (i + 1) f fr (by wtm_at "om") (by wtm_at "om") (by wtm_at "om")
        refine Eq.trans this ?_
        rw [hd, List.count_cons_of_ne he]
    · rw [if_neg fun h => by have : i + 1 ≤ xs.length := h.1.2; wtm_at "om"]
      show (forIn (List.range' (i + 1) n) _ (occBody _ _ _ _)).run.fst.size = _
      have := ih (i + 1) f fr (by wtm_at "om") (by wtm_at "om") (by wtm_at "om")
      refine Eq.trans this ?_
      rw [List.drop_eq_nil_of_le (show xs.length ≤ i by wtm_at "om"), List.drop_eq_nil_of_le (by wtm_at "om")]
theorem txt_count (xs : List Nat) (a : Nat) : Txt.count ⟨xs.toArray⟩ ⟨#[a]⟩ = ((xs.count a : Nat) : Int) := by
  unfold Txt.count
  rw [occ_eq, Array.length_toList]
  have := occ_one xs a (xs.length + 1) 0 #[] 0 (by wtm_at "om") (Nat.zero_le _) (Nat.le_refl _)
  show ((Array.size _ : Nat) : Int) = _
  rw [show (⟨xs.toArray⟩ : Str).length = xs.length from by simp [Str.length]]
  rw [show xs.length + 1 - 0 = xs.length + 1 from rfl, this]
  simp
end

section
noncomputable def qRun : List Nat → List Nat → Option (List Nat)
  | t, [] => some t
  | t, [c] => if c = 34 then none else if c = 92 then none else some (t ++ [c])
  | t, c :: c' :: r => if c = 34 then none else if c = 92 then qRun (t ++ [c']) r else qRun (t ++ [c]) (c' :: r)
noncomputable def uRun : List Nat → List Nat → Option (List Nat)
  | t, [] => some t
  | t, [c] => if isWs c then none else if c = 92 then none else some (t ++ [c])
  | t, c :: c' :: r => if isWs c then none else if c = 92 then uRun (t ++ [c']) r else uRun (t ++ [c]) (c' :: r)
theorem qRun_M {r : List Nat} : ∀ (n : Nat) (l t t' : List Nat), l.length ≤ n → qRun t l = some t' → qM t (l ++ r) = qM t' r
  | _, [], t, t', _, h => by cases h; rfl
  | _, [c], t, t', _, h => by
    unfold qRun at h
    split at h
    · cases h
    · split at h
      · cases h
      · cases h; rename_i h1 h2; exact qM_o t r h1 h2
  | n + 1, c :: c' :: l, t, t', hn, h => by
    unfold qRun at h
    split at h
    · cases h
    · rename_i h1
      split at h
      · rename_i h2
        subst h2
        rw [List.cons_append, qM_e]
        exact qRun_M n l _ t' (by simp at hn; wtm_at "om") h
      · rename_i h2
        rw [List.cons_append, qM_o t _ h1 h2]
        exact qRun_M n (c' :: l) _ t' (by simp at hn ⊢; wtm_at "om") h
theorem uRun_M {r : List Nat} : ∀ (n : Nat) (l t t' : List Nat), l.length ≤ n → uRun t l = some t' → uM t (l ++ r) = uM t' r
  | _, [], t, t', _, h => by cases h; rfl
  | _, [c], t, t', _, h => by
    unfold uRun at h
    split at h
    · cases h
    · split at h
      · cases h
      · cases h; rename_i h1 h2; exact uM_o t r (by simpa using h1) h2
  | n + 1, c :: c' :: l, t, t', hn, h => by
    unfold uRun at h
    split at h
    · cases h
    · rename_i h1
      split at h
      · rename_i h2
        subst h2
        rw [List.cons_append, uM_e]
        exact uRun_M n l _ t' (by simp at hn; wtm_at "om") h
      · rename_i h2
        rw [List.cons_append, uM_o t _ (by simpa using h1) h2]
        exact uRun_M n (c' :: l) _ t' (by simp at hn ⊢; wtm_at "om") h
theorem tok_ws : ∀ (w l : List Nat), (∀ c ∈ w, isWs c = true) → tokM (w ++ l) = tokM l
  | [], l, _ => rfl
  | c :: w, l, h => by
    rw [List.cons_append, tokM, if_pos (h c (.head _))]
    exact tok_ws w l fun c hc => h c (.tail _ hc)
theorem tok_q {a t rest : List Nat} (h : qRun [] a = some t) : tokM (34 :: (a ++ 34 :: rest)) = (t, rest) := by
  rw [tokM, if_neg (by decide), if_pos rfl, qRun_M _ a [] t (Nat.le_refl _) h, qM_q]
theorem tok_u {a t rest : List Nat} {c : Nat} {a' : List Nat} (ha : a = c :: a') (hw : isWs c = false) (hc : c ≠ 34) (h : uRun [] a = some t) : tokM (a ++ rest) = uM t rest := by
  rw [← uRun_M _ a [] t (Nat.le_refl _) h]
  subst ha
  rw [List.cons_append, tokM, if_neg (by simp [hw]), if_neg hc]
  by_cases e : c = 92
  · subst e; rw [if_pos rfl, uM_e]; rfl
  · rw [if_neg e, uM_o _ _ hw e]; rfl
noncomputable abbrev aB' : List Nat := [97, 66, 99, 68, 101]
theorem hid_tok : ∀ x : Nat, x < 32 → qRun [] (hid x 5) = some aB' ∧ uRun [] (hid x 5) = some aB' ∧ (∀ c ∈ hid x 5, c < 128) ∧ (hid x 5).head? ≠ none ∧ (∀ c ∈ (hid x 5).head?, isWs c = false ∧ c ≠ 34) := by decide +kernel
noncomputable def markW (k : Nat) : List Nat := if k % 2 = 0 then [34] else []
noncomputable def sepW (k : Nat) : Nat := [32, 9, 13, 10].getD (k % 4) 0
noncomputable def bodW (k x : Nat) : List Nat := markW k ++ hid x 5 ++ markW k ++ [sepW k]
noncomputable def bodsW : Nat → List Nat → List Nat
  | _, [] => []
  | k, x :: xs => bodW k x ++ bodsW (k + 1) xs
noncomputable def remW (k : Nat) (xs : List Nat) : List Nat := (bodsW k xs).dropLast
theorem sep_ws (k : Nat) : isWs (sepW k) = true := by
  have : ∀ j, j < 4 → isWs ([32, 9, 13, 10].getD j 0) = true := by decide
  exact this _ (Nat.mod_lt _ (by decide))
theorem bodsW_ne (k x : Nat) (xs : List Nat) : bodsW k (x :: xs) ≠ [] := by
  unfold bodsW bodW; simp
theorem remW_cons (k x x' : Nat) (xs : List Nat) : remW k (x :: x' :: xs) = bodW k x ++ remW (k + 1) (x' :: xs) := by
  unfold remW
  rw [bodsW, List.dropLast_append_of_ne_nil (bodsW_ne _ _ _)]
theorem remW_one (k x : Nat) : remW k [x] = markW k ++ hid x 5 ++ markW k := by
  unfold remW bodsW bodsW bodW
  rw [List.append_nil, List.dropLast_concat]
/-- one text read -/
theorem tok_text {k x : Nat} {xs W : List Nat} (hx : x < 32) (hW : ∀ c ∈ W, isWs c = true) : ∃ W', (∀ c ∈ W', isWs c = true) ∧ (xs = [] → W' = []) ∧ W'.length ≤ 1 ∧ tokM (W ++ remW k (x :: xs)) = (aB', W' ++ remW (k + 1) xs) := by
  rw [tok_ws _ _ hW]
  refine bc fun hG => ?_
  obtain ⟨h1, h2, _, h3, h4⟩ := hid_tok x hx
  refine hG ?_
  clear hG
  obtain ⟨c, hc⟩ : ∃ c, (hid x 5).head? = some c := by
    cases h : (hid x 5).head? with
    | none => exact absurd h h3
    | some c => exact ⟨c, rfl⟩
  have h5 := h4 c hc
  obtain ⟨a', ha⟩ : ∃ a', hid x 5 = c :: a' := by
    match hid x 5, hc with
    | a :: r, hc => exact ⟨r, by simp at hc; rw [hc]⟩
  by_cases hk : k % 2 = 0
  · have hm : markW k = [34] := by unfold markW; rw [if_pos hk]
    cases xs with
    | nil =>
      refine ⟨[], by simp, fun _ => rfl, by simp, ?_⟩
      rw [remW_one, hm]
      exact tok_q (rest := []) h1
    | cons x' xs =>
      refine ⟨[sepW k], fun c hc => by rw [List.mem_singleton.mp hc]; exact sep_ws k, fun e => (by cases e), by simp, ?_⟩
      rw [remW_cons, bodW, hm]
      refine Eq.trans (congrArg tokM ?_) (tok_q (rest := sepW k :: remW (k + 1) (x' :: xs)) h1)
      simp
  · have hm : markW k = [] := by unfold markW; rw [if_neg hk]
    cases xs with
    | nil =>
      refine ⟨[], by simp, fun _ => rfl, by simp, ?_⟩
      rw [remW_one, hm]
      have := tok_u (rest := []) ha h5.1 h5.2 h2
      simpa [uM, remW, bodsW] using this
    | cons x' xs =>
      refine ⟨[], by simp, fun _ => rfl, by simp, ?_⟩
      rw [remW_cons, bodW, hm]
      have := tok_u (rest := sepW k :: remW (k + 1) (x' :: xs)) ha h5.1 h5.2 h2
      rw [uM_w _ _ (sep_ws k)] at this
      refine Eq.trans (congrArg tokM ?_) this
      simp
noncomputable abbrev tW : List Nat := [32, 34, 92, 10]
noncomputable abbrev preW : List Nat := [34, 32, 92, 34, 92, 92, 10, 34, 92, 32, 92, 34, 92, 92, 92, 10, 32]
theorem tok_p1 (r : List Nat) : tokM (preW ++ r) = (tW, [92, 32, 92, 34, 92, 92, 92, 10, 32] ++ r) := by
  have := tok_q (a := [32, 92, 34, 92, 92, 10]) (t := tW) (rest := [92, 32, 92, 34, 92, 92, 92, 10, 32] ++ r) (by decide)
  exact this
theorem tok_p2 (r : List Nat) : tokM ([92, 32, 92, 34, 92, 92, 92, 10, 32] ++ r) = (tW, r) := by
  have := tok_u (a := [92, 32, 92, 34, 92, 92, 92, 10]) (t := tW) (rest := 32 :: r) rfl (by decide) (by decide) (by decide)
  rw [uM_w _ _ (by decide)] at this
  exact this
theorem ws_128 {c : Nat} (h : isWs c = true) : c < 128 := by
  unfold isWs at h
  simp at h
  wtm_at "om"
theorem bod_128 {k x : Nat} (hx : x < 32) : ∀ c ∈ bodW k x, c < 128 := by
  intro c hc
  unfold bodW at hc
  simp only [List.mem_append, List.mem_singleton] at hc
  have hm : ∀ c ∈ markW k, c < 128 := by intro c hc; unfold markW at hc; split at hc <;> simp at hc; wtm_at "om"
  have hs : sepW k < 128 := by
    have : ∀ j, j < 4 → [32, 9, 13, 10].getD j 0 < 128 := by decide
    exact this _ (Nat.mod_lt _ (by decide))
  rcases hc with ((hc | hc) | hc) | hc
  · exact hm c hc
  · exact (hid_tok x hx).2.2.1 c hc
  · exact hm c hc
  · rw [hc]; exact hs
theorem bods_128 : ∀ (xs : List Nat) (k : Nat), (∀ x ∈ xs, x < 32) → ∀ c ∈ bodsW k xs, c < 128
  | [], _, _, c, hc => by cases hc
  | x :: xs, k, h, c, hc => by
    rw [bodsW] at hc
    rcases List.mem_append.mp hc with hc | hc
    · exact bod_128 (h x (.head _)) c hc
    · exact bods_128 xs (k + 1) (fun x hx => h x (.tail _ hx)) c hc
theorem hid_l10 : ∀ x : Nat, x < 32 → (hid x 5).length ≤ 10 := by decide +kernel
theorem bods_len : ∀ (xs : List Nat) (k : Nat), (∀ x ∈ xs, x < 32) → (bodsW k xs).length ≤ 13 * xs.length
  | [], _, _ => by simp [bodsW]
  | x :: xs, k, h => by
    rw [bodsW, List.length_append, List.length_cons]
    have := bods_len xs (k + 1) fun x hx => h x (.tail _ hx)
    have h2 := hid_l10 x (h x (.head _))
    have hm : (markW k).length ≤ 1 := by unfold markW; split <;> simp
    have : (bodW k x).length ≤ 13 := by unfold bodW; simp; wtm_at "om"
    wtm_at "om"
theorem bods_snoc : ∀ (xs : List Nat) (k x : Nat), bodsW k (xs ++ [x]) = bodsW k xs ++ bodW (k + xs.length) x
  | [], k, x => by simp [bodsW]
  | y :: xs, k, x => by
    rw [List.cons_append, bodsW, bodsW, bods_snoc xs (k + 1) x, List.append_assoc, List.length_cons, Nat.add_right_comm k 1, Nat.add_assoc]
end

section
noncomputable def etW (n k : Nat) : List Nat := if k < 2 then tW else if k < n + 2 then aB else []
noncomputable abbrev allW (n : Nat) : List (List Nat) := (List.replicate 2 [tW]).flatten ++ (List.replicate n [aB]).flatten ++ [[]]
theorem flat_rep {α : Type} (a : α) : ∀ n, (List.replicate n [a]).flatten = List.replicate n a
  | 0 => rfl
  | n + 1 => by rw [List.replicate_succ, List.flatten_cons, flat_rep a n, List.replicate_succ]; rfl
theorem allW_ok {n : Nat} : ∀ x ∈ allW n, PyData.strOk ⟨x.toArray⟩ = true := by
  intro x hx
  unfold allW at hx
  rw [flat_rep tW, flat_rep aB] at hx
  simp only [List.mem_append, List.mem_replicate, List.mem_singleton] at hx
  rcases hx with (⟨_, rfl⟩ | ⟨_, rfl⟩) | rfl <;> decide +kernel
theorem etW_all (n : Nat) : (List.range (n + 3)).map (etW n) = allW n := by
  have h1 : (List.range (n + 2)).map (etW n) = [tW, tW] ++ List.replicate n aB := by
    rw [Nat.add_comm, List.range_add, List.map_append, List.map_map]
    refine congr (congrArg _ rfl) ?_
    rw [List.eq_replicate_iff]
    refine ⟨by simp, fun b hb => ?_⟩
    refine bc fun hG => ?_
    obtain ⟨k, hk, rfl⟩ := List.mem_map.mp hb
    refine hG ?_
    clear hG
    have := List.mem_range.mp hk
    show etW n (2 + k) = aB
    unfold etW; rw [if_neg (by wtm_at "om"), if_pos (by wtm_at "om")]
  rw [List.range_succ, List.map_append, h1]
  unfold allW
  rw [flat_rep tW, flat_rep aB]
  refine congrArg _ ?_
  show [etW n (n + 2)] = [[]]
  unfold etW; rw [if_neg (by wtm_at "om"), if_neg (by wtm_at "om")]

section
variable {K : Frag} {c : Cx} {lc : LC} {ow : OW} {env : Env} {d : Nat}
set_option maxHeartbeats 8000000
/-- for over a list made at the head -/
theorem sx_eachL {target : PySem.Expr} {iter body orelse pos} {Q : AF → LC → OW → Prop} (xs : List AV) (J : Addr → Nat → LC → OW → Prop) (hh : c.A.handled = none)
    (hm : ∀ l k lc ow, J l k lc ow → (l, AO.list xs) ∈ ow)
    (step : ∀ l k x lc ow, xs[k]? = some x → J l k lc ow → ∀ it o, Asg c env target x lc ((it, o) :: ow) fun lc2 ow2 => SX c (execs body env) lc2 ow2 (LpQ (fun lc3 ow3 => ∃ lc4 ow4, Pick ow3 ((it, o) :: ow4) ∧ LSub lc4 lc3 ∧ J l (k + 1) lc4 ow4) (fun _ _ => False) fun b => Q (.ret b)))
    (fin : ∀ l lc ow, J l xs.length lc ow → SX c (execs orelse env) lc ow Q)
    (h : EV c (eval iter env) lc ow fun v lc1 ow1 => ∃ l, v = .ref l ∧ ∃ ow2, Pick ow1 ow2 ∧ J l 0 lc1 ow2)
    (hs : autoParam (∀ x, foldedSetIterable iter env x = pure x) kr1) (ht : autoParam (∀ it v, letOwnedTupleGo target it v = pure ()) kr2) : SX c (exec (.For target iter body orelse pos) env) lc ow Q :=
  sx_gen xs.length (fun l k => .lit l k) (fun k => xs.getD k .none) J
    (fun l k it lc ow R hk hJ h => nxt_list Upd.head (mem1 (hm _ _ _ _ hJ)) (getD_some hk) h) (fun l it lc ow R hJ h => nxt_list_end hh Take.head (mem1 (hm _ _ _ _ hJ)) (List.getElem?_eq_none_iff.mpr (Nat.le_refl _)) h)
    (fun l k lc ow it o hk hJ => step l k _ lc ow (getD_some hk) hJ it o) fin
    (h.mono fun v lc1 ow1 ⟨l, e, ow2, P, hJ⟩ => by subst e; exact ⟨fun v rv => AWp.weak P ((itr_list (hm _ _ _ _ hJ) fun it => ⟨l, lc1, ow2, Pick.all, ls_self, hJ⟩).run v rv)⟩) hs ht

theorem Cal.pickQ {f : AV} {as : List AV} {kw : List (Str × AV)} {Q : AV → LC → OW → Prop} (h : Cal c f as kw lc ow fun b lc' ow' => ∃ ow'', Pick ow' ow'' ∧ Q b lc' ow'') : Cal c f as kw lc ow Q :=
  ⟨fun fv vs kvs a b d e => AWp.pickQ (h.run fv vs kvs a b d e)⟩
variable {fx : OW} {x dx pb st lf rd : Addr}
theorem cal_gt_at {C : Int} {left : List Nat} {Q : AV → LC → OW → Prop} (pre : OW) (A : Act K c (d + 4) env) (O : KOk K) (hh : c.A.handled = none) (LF : LexF x dx pb st lf rd fx) (hz : left.length < 90000) (h128 : ∀ a ∈ left, a < 128)
    (h : Q (.str (tokM left).1) lc (pre ++ lexW dx pb st lf (linN C (tokM left).2) (tokM left).2 [] fx)) : Cal c (.con (.ref 111)) [.ref x] [] lc (pre ++ lexW dx pb st lf (linN C left) left [] fx) Q :=
  Cal.weak (pick_mid (xs := pre) (tb := [_, _, _])) (Cal.pickQ (cal_gt (fx := pre ++ fx) A O hh (LF.more fun p hp => List.mem_append_right _ hp) hz h128 ⟨_, pick_mid (xs := [_, _, _]) (tb := pre), h⟩))
theorem cal_gtp_at {n : Int} {left p : List Nat} {ps : List (List Nat)} {Q : AV → LC → OW → Prop} (pre : OW) (A : Act K c (d + 1) env) (O : KOk K) (LF : LexF x dx pb st lf rd fx) (hz : ps.length < 1000)
    (h : Q (.str p) lc (pre ++ lexW dx pb st lf n left ps fx)) : Cal c (.con (.ref 111)) [.ref x] [] lc (pre ++ lexW dx pb st lf n left (p :: ps) fx) Q :=
  Cal.weak (pick_mid (xs := pre) (tb := [_, _, _])) (Cal.pickQ (cal_gtp (fx := pre ++ fx) A O (LF.more fun p hp => List.mem_append_right _ hp) hz ⟨_, pick_mid (xs := [_, _, _]) (tb := pre), h⟩))
theorem cal_push_at {n : Int} {left t : List Nat} {ps : List (List Nat)} {Q : AV → LC → OW → Prop} (pre : OW) (A : Act K c (d + 1) env) (O : KOk K) (LF : LexF x dx pb st lf rd fx) (hz : ps.length < 1000)
    (h : Q .none lc (pre ++ lexW dx pb st lf n left (ps ++ [t]) fx)) : Cal c (.con (.ref 118)) [.ref x, .str t] [] lc (pre ++ lexW dx pb st lf n left ps fx) Q :=
  Cal.weak (pick_mid (xs := pre) (tb := [_, _, _])) (Cal.pickQ (cal_push (fx := pre ++ fx) A O (LF.more fun p hp => List.mem_append_right _ hp) hz ⟨_, pick_mid (xs := [_, _, _]) (tb := pre), h⟩))
theorem mth_lex {name : Str} {f : Addr} {n : Int} {left : List Nat} {push : List (List Nat)} {Q} (pre : OW) (A : Act K c d env) (O : KOk K) (LF : LexF x dx pb st lf rd fx) (hv : lget (lexD n st pb) name = none) (hg : plainGet K 121 name = true) (M : MeK K name f) (h : Q (.con (.ref f)) [.ref x] lc (pre ++ lexW dx pb st lf n left push fx)) :
    Mth c (.ref x) name lc (pre ++ lexW dx pb st lf n left push fx) Q :=
  mth_inst A (List.mem_append_right _ (.tail _ (.tail _ (.tail _ LF.inst)))) (List.mem_append_right _ (.head _)) hv hg M.find M.isFn h
theorem cal_words {lt : Addr} {xs : List Nat} {Q : AV → LC → OW → Prop} (A : Act K c (d + 6) env) (O : KOk K) (hh : c.A.handled = none) (hx : ∀ x ∈ xs, x < 32) (hne : xs ≠ []) (hz : xs.length ≤ 60)
    (hm : (lt, AO.list (xs.map fun (x : Nat) => .str (hid x 5))) ∈ ow)
    (h : ∀ l ps, Q (.ref l) lc ((l, .list (List.replicate xs.length (.str aB))) :: (141, .obj (tabObj ps)) :: ow)) : Cal c (.con (.ref 163)) [.ref lt] [] lc ((141, .obj (tabObj #[])) :: ow) Q := by
  refine cal_cells (names := ["texts"]) (ls := [("texts", .ref lt)]) (cw := fun L => [(L + 1, .cell none)]) A O.words rfl (by decide +kernel) (by decide +kernel) (len1 fun u doc pm an ct => by kernel_rfl) (by exact ls_self) (loc_of (names := ["texts"]) rfl (by decide +kernel)) (by decide +kernel) (fun L' => by kernel_rfl) (by decide +kernel) (by kernel_rfl) (by kernel_rfl) (by kernel_rfl) fun c hw hc A => ?_
  show SX c (execs (fBody (stAt 24)) (envOfC "_law_words" (fScope (stAt 24)) c.L 163 (.ref 162))) [("texts", .ref lt)] ((c.L + 1, .cell none) :: (141, .obj (tabObj #[])) :: ow) (retP Q lc)
  rw [← hc] at hh
  have gl := O.len
  have gr := O.range
  have g146 := O.g146
  refine sx_cons (sx_assign (ev_str ?_))
  refine sto_local (by wtm_at "pt") (nx ?_)
  show SX c (execs ((fBody (stAt 24)).drop 1) (envOfC "_law_words" (fScope (stAt 24)) c.L 163 (.ref 162))) [("texts", .ref lt), ("text", .str preW)] ((c.L + 1, .cell none) :: (141, .obj (tabObj #[])) :: ow) (retP Q lc)
  refine sx_cons (sx_rng xs.length (fun k lc1 ow1 => LSub [("texts", .ref lt), ("text", .str (preW ++ bodsW 0 (xs.take k)))] lc1 ∧ ow1 = (c.L + 1, .cell none) :: (141, .obj (tabObj #[])) :: ow) hh ?_ ?_ ?_)
  · intro k lc1 ow1 hk
    revert ow1
    refine el_PE fun hls => ?_
    refine ⟨_, put_lput lc1 "k" _, fun it o => ?_⟩
    refine AWp.fgt (ls_put hls (put_lput lc1 "k" _)) ?_
    obtain ⟨x, hxk⟩ : ∃ x, xs[k]? = some x := ⟨_, List.getElem?_eq_getElem hk⟩
    have hx32 := hx x (List.mem_of_getElem? hxk)
    have hxs : (xs.map fun (x : Nat) => AV.str (hid x 5))[((k : Int)).toNat]? = some (.str (hid x 5)) := by rw [Int.toNat_natCast, List.getElem?_map, hxk]; rfl
    have hl1 := bods_len (xs.take k) 0 fun y hy => hx y (List.mem_of_mem_take hy)
    have hl1' : (bodsW 0 (xs.take k)).length ≤ 800 := by simp at hl1; wtm_at "om"
    have hl2 := hid_l10 x hx32
    have hsn : bodsW 0 (xs.take (k + 1)) = bodsW 0 (xs.take k) ++ bodW k x := by
      rw [List.take_add_one, hxk]
      show bodsW 0 (xs.take k ++ [x]) = _
      rw [bods_snoc, Nat.zero_add, List.length_take, Nat.min_eq_left (by wtm_at "om")]
    refine sx_cons ?_
    repeat wtm_at "a1"
    refine ev_list ?_
    repeat wtm_at "a1"
    refine ⟨by simp, fun l1 => ?_⟩
    repeat wtm_at "a1"
    refine b_mod ?_ (by decide)
    have hmk : ([AV.str (cs (Str.ofString "\"")), AV.str (cs (Str.ofString ""))])[(((k : Int)).fmod 2).toNat]? = some (.str (markW k)) := by
      rw [show (k : Int).fmod 2 = ((k % 2 : Nat) : Int) by rw [show (2 : Int) = ((2 : Nat) : Int) from rfl, n_mod], Int.toNat_natCast]
      unfold markW
      by_cases e : k % 2 = 0
      · rw [e, if_pos rfl]; rfl
      · rw [show k % 2 = 1 by wtm_at "om", if_neg (by decide)]; rfl
    refine sub_list (x := .str (markW k)) (.head _) (by rw [show (k : Int).fmod 2 = ((k % 2 : Nat) : Int) by rw [show (2 : Int) = ((2 : Nat) : Int) from rfl, n_mod]]; wtm_at "om") (by rw [show (k : Int).fmod 2 = ((k % 2 : Nat) : Int) by rw [show (2 : Int) = ((2 : Nat) : Int) from rfl, n_mod]]; wtm_at "om") hmk ?_
    have hml : (markW k).length ≤ 1 := by unfold markW; split <;> simp
    repeat wtm_at "a1"
    refine sub_list (x := .str (hid x 5)) (.tail _ (.tail _ (.tail _ (.tail _ hm)))) (by wtm_at "om") (by wtm_at "om") hxs ?_
    refine b_adds ?_ (by wtm_at "om")
    repeat wtm_at "a1"
    refine b_adds ?_ (by simp; wtm_at "om")
    repeat wtm_at "a1"
    refine b_mod ?_ (by decide)
    rw [show (k : Int).fmod 4 = ((k % 4 : Nat) : Int) by rw [show (4 : Int) = ((4 : Nat) : Int) from rfl, n_mod]]
    have hsep : (cs (Str.ofString " \t\r\n"))[k % 4]? = some (sepW k) := by
      show ([32, 9, 13, 10] : List Nat)[k % 4]? = some ([32, 9, 13, 10].getD (k % 4) 0)
      rw [List.getD_eq_getElem?_getD, List.getElem?_eq_getElem (by simp; wtm_at "om")]; rfl
    refine sub_str (d := sepW k) (by simp; wtm_at "om") (seq_nn hsep) ?_
    refine b_adds ?_ (by simp; wtm_at "om")
    refine i_adds ?_ (by simp; wtm_at "om")
    repeat wtm_at "a1"
    refine ⟨[("texts", .ref lt), ("text", .str (preW ++ bodsW 0 (xs.take (k + 1))))], _, .cons (.tail .head) (.drop .all), ?_, ls_self, rfl⟩
    rw [hsn, ← List.append_assoc]
    show LSub [("texts", .ref lt), ("text", .str (preW ++ bodsW 0 (xs.take k) ++ (markW k ++ hid x 5 ++ markW k ++ [sepW k])))] _
    wtm_at "ls"
  · intro lc1
    refine el_PE fun hls => ?_
    rw [List.take_length] at hls
    obtain ⟨TX, hTX⟩ : ∃ TX, TX = preW ++ remW 0 xs := ⟨_, rfl⟩
    have hl0 := bods_len xs 0 hx
    have hb0 : bodsW 0 xs ≠ [] := by
      match xs, hne with
      | x :: xs, _ => exact bodsW_ne 0 x xs
    refine AWp.fgt hls ?_
    iterate 4 wtm_at "a0"
    repeat wtm_at "a1"
    intro sl
    refine sub_str_slice (lo := none) (hi := some (-1)) (.head _) .none .int (by simp; wtm_at "om") ?_
    rw [show lsl (preW ++ bodsW 0 xs) none (some (-1)) none = TX by
      have := lsl_to (preW ++ bodsW 0 xs) 1
      rw [show poP 1 = some (-1) from rfl] at this
      rw [this, hTX, remW, ← List.dropLast_append_of_ne_nil hb0, List.dropLast_eq_take]]
    repeat wtm_at "a1"
    refine ld_global A g146 (a := .con (.ref 146)) rfl ?_
    repeat wtm_at "a1"
    have hrl : (remW 0 xs).length ≤ 800 := by unfold remW; rw [List.length_dropLast]; wtm_at "om"
    refine ⟨kpr_fn A O.lexer, Cal.weak (ow' := (141, .obj (tabObj #[])) :: (c.L + 1, .cell none) :: ow) (by wtm_at "pks") (cal_lexer (d := d + 1) A O hh (by rw [hTX]; simp; wtm_at "om") fun x dx pb st lf rd fl ps LF => ?_)⟩
    obtain ⟨C, hC⟩ : ∃ C : Int, C = 1 + (TX.count 10 : Nat) := ⟨_, rfl⟩
    have hC1 : linN C TX = 1 := by unfold linN; wtm_at "om"
    refine Sto.weak (ow' := lexW dx pb st lf (linN C TX) TX [] ((c.L + 1, .cell none) :: (fl ++ ((141, .obj (tabObj ps)) :: ow)))) (by
      rw [hC1]
      have := pick_mid (xs := (dx, .dct (lexD 1 st pb)) :: (lf, .list (TX.map sC)) :: (pb, .list []) :: (fl ++ [(141, .obj (tabObj ps))])) (tb := [(c.L + 1, .cell none)]) (ow := ow)
      refine Pick.trans ?_ (Pick.cons (.tail .head) (Pick.cons (.tail .head) (Pick.cons (.tail .head) .all)))
      simp only [List.append_assoc, List.cons_append, List.nil_append] at this
      exact this) ?_
    refine sto_cell (d := c.L + 1) (by kernel_rfl) (.tail (.tail (.tail .head))) ?_
    obtain ⟨fx, hfx⟩ : ∃ fx, fx = (c.L + 1, AO.cell (some (.ref x))) :: (fl ++ ((141, .obj (tabObj ps)) :: ow)) := ⟨_, rfl⟩
    have LX : LexF x dx pb st lf rd fx := LF.more fun p hp => by rw [hfx]; exact .tail _ (List.mem_append_left _ hp)
    have hcell : (c.L + 1, AO.cell (some (.ref x))) ∈ fx := by rw [hfx]; exact .head _
    have hmx : (lt, AO.list (xs.map fun (x : Nat) => .str (hid x 5))) ∈ fx := by rw [hfx]; exact .tail _ (List.mem_append_right _ (.tail _ hm))
    rw [← hfx]
    have hTl : TX.length ≤ 900 := by rw [hTX]; simp; wtm_at "om"
    have hT128 : ∀ a ∈ TX, a < 128 := by
      intro a ha
      rw [hTX] at ha
      rcases List.mem_append.mp ha with ha | ha
      · have : ∀ a ∈ preW, a < 128 := by decide
        exact this a ha
      · exact bods_128 xs 0 hx a ((List.dropLast_sublist _).subset ha)
    obtain ⟨x0, xs', hxs0⟩ : ∃ x0 xs', xs = x0 :: xs' := by
      match xs, hne with
      | a :: r, _ => exact ⟨a, r, rfl⟩
    obtain ⟨W1, w1, w2, w3, w4⟩ := tok_text (k := 0) (x := x0) (xs := xs') (W := []) (hx x0 (by rw [hxs0]; exact .head _)) (fun c hc => nomatch hc)
    rw [List.nil_append, ← hxs0] at w4
    have hk1 := tok_p1 (remW 0 xs)
    have hk2 := tok_p2 (remW 0 xs)
    rw [← hTX] at hk1
    have hr128 : ∀ a ∈ remW 0 xs, a < 128 := fun a ha => bods_128 xs 0 hx a ((List.dropLast_sublist _).subset ha)
    have gtk : ∀ (left t r : List Nat) (pre : OW) (lc : LC) (Q : AV → LC → OW → Prop), tokM left = (t, r) → left.length ≤ 2000 → (∀ a ∈ left, a < 128) → Q (.str t) lc (pre ++ lexW dx pb st lf (linN C r) r [] fx) → (∀ fv, AV.rep (.con (.ref 111)) fv → Kpr c fv lc (pre ++ lexW dx pb st lf (linN C left) left [] fx)) ∧ Cal c (.con (.ref 111)) [.ref x] [] lc (pre ++ lexW dx pb st lf (linN C left) left [] fx) Q := by
      intro left t r pre lc Q e h1 h2 hq
      refine ⟨kpr_fn A O.token, cal_gt_at pre (A.less (by wtm_at "om") : Act K c (d + 1 + 4) _) O hh LX (by wtm_at "om") h2 ?_⟩
      rw [e]; exact hq
    repeat wtm_at "a1"
    refine sx_eachL ([tW, tW, aB].map .str) (fun l k lc1 ow1 => LSub [("texts", .ref lt), ("text", .str TX)] lc1 ∧ ow1 = (l, .list ([tW, tW, aB].map .str)) :: lexW dx pb st lf (linN C (W1 ++ remW 1 xs')) (W1 ++ remW 1 xs') ([tW, tW, aB].take k) fx) hh ?_ ?_ ?_ ?_
    · rintro l k lc1 _ ⟨_, rfl⟩; exact .head _
    · intro l k v lc1 ow1 hv
      revert ow1
      refine el_PE fun hls => ?_
      intro it o
      rw [List.getElem?_map] at hv
      refine bc fun hG => ?_
      obtain ⟨t, ht, rfl⟩ := Option.map_eq_some_iff.mp hv
      refine hG ?_
      clear hG
      refine asg_name (sto_local (put_lput lc1 "word" _) ?_)
      refine AWp.fgt (ls_put hls (put_lput lc1 "word" _)) ?_
      have hk3 := (List.getElem?_eq_some_iff.mp ht).1
      refine sx_cons (sx_expr (ev_meth ?_))
      refine ev_name (ld_cell (d := c.L + 1) (by kernel_rfl) (.tail _ (.tail _ (.tail _ (.tail _ (.tail _ hcell))))) ?_)
      refine mth_lex [_, _] A O LX (by kernel_rfl) O.g_push O.m_push ?_
      repeat wtm_at "a1"
      refine ⟨kpr_fn A O.pusht, cal_push_at [_, _] (A.less (by wtm_at "om") : Act K c (d + 1) _) O LX (by simp at hk3 ⊢; wtm_at "om") ⟨rfl, ?_⟩⟩
      repeat wtm_at "a1"
      refine ⟨[("texts", .ref lt), ("text", .str TX)], _, .all, by wtm_at "ls", ls_self, ?_⟩
      rw [List.take_add_one, ht]; rfl
    · intro l lc1
      refine el_PE fun hls => ?_
      refine AWp.weak (.drop .all) (AWp.fgt hls ?_)
      rw [show ([tW, tW, aB].take ([tW, tW, aB].map AV.str).length) = [tW, tW, aB] from rfl]
      have gr' := gr
      have gl' := gl
      have hu : c.A.units ≤ 9000 := by have := A.units; wtm_at "om"
      refine sx_nil ?_
      refine nx ?_
      refine sx_cons (sx_lc (lc_rng (cl := [("lexer", c.L + 1)]) (xs.length + 3) (fun k ys lc1 ow1 => LSub [("texts", .ref lt), ("text", .str TX)] lc1 ∧ k ≤ xs.length + 3 ∧ ys = ((List.range k).map (etW xs.length)).map .str ∧ ∃ W, (∀ c ∈ W, isWs c = true) ∧ W.length ≤ 1 ∧ (xs.drop (max k 3 - 2) = [] → W = []) ∧ ow1 = lexW dx pb st lf (linN C (W ++ remW (max k 3 - 2) (xs.drop (max k 3 - 2)))) (W ++ remW (max k 3 - 2) (xs.drop (max k 3 - 2))) ([tW, tW, aB].drop k) fx) ?_ ?_ ?_ ?_ ?_) ?_)
      · rintro k ys lc1 ow1 _; exact .inl hh
      · kernel_rfl
      · intro k ys lc1 ow1 D Cc dd itx hk
        revert ys ow1
        refine el_25 fun hls hk' W hw1 hw2 hw3 => ?_
        intro hg
        refine bt_nil (br_t ?_)
        refine ev_meth ?_
        refine ev_name (ld_cell (d := c.L + 1) (by kernel_rfl) (.tail _ (.tail _ (.tail _ (.tail _ (.tail _ (.tail _ hcell)))))) ?_)
        refine mth_lex [_, _, _] A O LX (by kernel_rfl) O.g_token O.m_token ?_
        repeat wtm_at "a1"
        have et : ((List.range k).map (etW xs.length)).map AV.str ++ [.str (etW xs.length k)] = ((List.range (k + 1)).map (etW xs.length)).map .str := by
          rw [List.range_succ, List.map_append, List.map_append]; rfl
        by_cases hk3 : k < 3
        · obtain ⟨p, ps, hps, hp⟩ : ∃ p ps, [tW, tW, aB].drop k = p :: ps ∧ ps = [tW, tW, aB].drop (k + 1) ∧ p = etW xs.length k := by
            have hn : 1 ≤ xs.length := by rw [hxs0]; simp
            match k, hk3 with
            | 0, _ => exact ⟨tW, [tW, aB], rfl, rfl, rfl⟩
            | 1, _ => exact ⟨tW, [aB], rfl, rfl, rfl⟩
            | 2, _ => exact ⟨aB, [], rfl, rfl, by unfold etW; rw [if_neg (by decide), if_pos (by wtm_at "om")]⟩
          rw [hps]
          refine ⟨kpr_fn A O.token, cal_gtp_at [_, _, _] (A.less (by wtm_at "om") : Act K c (d + 1 + 1) _) O LX (by rw [hp.1]; simp; wtm_at "om") ?_⟩
          refine ⟨dd, _, .all, hls, by wtm_at "om", ?_, W, hw1, hw2, ?_, ?_⟩
          · rw [hp.2, et]
          · rw [show max (k + 1) 3 = max k 3 by wtm_at "om"]; exact hw3
          · rw [show max (k + 1) 3 = max k 3 by wtm_at "om", hp.1]; rfl
        · rw [show max k 3 = k by wtm_at "om"] at hw3 ⊢
          rw [show [tW, tW, aB].drop k = [] from List.drop_eq_nil_of_le (by simp; wtm_at "om")]
          have hrl2 : (remW (k - 2) (xs.drop (k - 2))).length ≤ 800 := by
            unfold remW
            have := bods_len (xs.drop (k - 2)) (k - 2) fun y hy => hx y (List.mem_of_mem_drop hy)
            rw [List.length_dropLast]
            exact Nat.le_trans (Nat.sub_le _ _) (Nat.le_trans this (Nat.le_trans (Nat.mul_le_mul_left 13 (Nat.le_trans (by rw [List.length_drop]; exact Nat.sub_le _ _) hz)) (by decide)))
          have h128' : ∀ a ∈ W ++ remW (k - 2) (xs.drop (k - 2)), a < 128 := by
            intro a ha
            rcases List.mem_append.mp ha with ha | ha
            · exact ws_128 (hw1 a ha)
            · exact bods_128 _ _ (fun y hy => hx y (List.mem_of_mem_drop hy)) a ((List.dropLast_sublist _).subset ha)
          have next : ∃ W', (∀ c ∈ W', isWs c = true) ∧ W'.length ≤ 1 ∧ (xs.drop (k + 1 - 2) = [] → W' = []) ∧ tokM (W ++ remW (k - 2) (xs.drop (k - 2))) = (etW xs.length k, W' ++ remW (k + 1 - 2) (xs.drop (k + 1 - 2))) := by
            by_cases hkn : k < xs.length + 2
            · have hlt : k - 2 < xs.length := by wtm_at "om"
              have hd : xs.drop (k - 2) = xs[k - 2] :: xs.drop (k + 1 - 2) := by
                rw [show k + 1 - 2 = k - 2 + 1 by wtm_at "om"]; exact List.drop_eq_getElem_cons hlt
              refine bc fun hG => ?_
              obtain ⟨W', q1, q2, q3, q4⟩ := tok_text (k := k - 2) (x := xs[k - 2]) (xs := xs.drop (k + 1 - 2)) (W := W) (hx _ (List.getElem_mem hlt)) hw1
              refine hG ?_
              clear hG
              refine ⟨W', q1, q3, q2, ?_⟩
              rw [hd, q4, show k - 2 + 1 = k + 1 - 2 by wtm_at "om"]
              unfold etW; rw [if_neg (by wtm_at "om"), if_pos hkn]
            · have hd : xs.drop (k - 2) = [] := List.drop_eq_nil_of_le (by wtm_at "om")
              have hd' : xs.drop (k + 1 - 2) = [] := List.drop_eq_nil_of_le (by wtm_at "om")
              refine ⟨[], (fun c hc => nomatch hc), by simp, fun _ => rfl, ?_⟩
              rw [hw3 hd, hd, hd']
              unfold etW; rw [if_neg (by wtm_at "om"), if_neg hkn]; rfl
          refine bc fun hG => ?_
          obtain ⟨W', q1, q2, q3, q4⟩ := next
          refine hG ?_
          clear hG
          refine gtk _ _ _ [_, _, _] _ _ q4 (by simp; wtm_at "om") h128' ?_
          refine ⟨dd, _, .all, hls, by wtm_at "om", ?_, W', q1, q2, ?_, ?_⟩
          · rw [et]
          · rw [show max (k + 1) 3 = k + 1 by wtm_at "om"]; exact q3
          · rw [show max (k + 1) 3 = k + 1 by wtm_at "om", show [tW, tW, aB].drop (k + 1) = [] from List.drop_eq_nil_of_le (by simp; wtm_at "om")]; rfl
      · rintro k ys lc1 _ ⟨_, hk', rfl, _⟩; simp; wtm_at "om"
      · repeat wtm_at "a1"
        refine ld_builtin A gr (v := .type "range") (by kernel_rfl) (a := .con (.type "range")) rfl ?_
        repeat wtm_at "a1"
        refine ld_builtin A gl (v := .builtin "len") (by kernel_rfl) (a := .con (.builtin "len")) rfl ?_
        repeat wtm_at "a1"
        refine ⟨kb, cal_len_list (.tail _ (.tail _ (.tail _ hmx))) (by simp; wtm_at "om") ?_⟩
        rw [List.length_map]
        repeat wtm_at "a1"
        refine ⟨kt, cal_range1 fun rr => ?_⟩
        rw [show (xs.length : Int) + 3 = ((xs.length + 3 : Nat) : Int) by wtm_at "om"]
        refine ⟨rr, _, rfl, .all, by wtm_at "om", by wtm_at "ls", by wtm_at "om", rfl, W1, w1, w3, ?_, ?_⟩
        · rw [show max 0 3 - 2 = 1 from rfl, hxs0]; exact w2
        · rw [show max 0 3 - 2 = 1 from rfl, hxs0]; rfl
      · intro ys lc1 ow1 D Cc dd
        revert ys ow1
        refine el_25 fun hls _ W hw1 hw2 hw3 => ?_
        have hd : xs.drop (max (xs.length + 3) 3 - 2) = [] := List.drop_eq_nil_of_le (by wtm_at "om")
        rw [hw3 hd, hd]
        refine cf_use (put_lput lc1 "words" _) ?_
        refine nx ?_
        refine AWp.fgt (ls_put hls (put_lput lc1 "words" _)) ?_
        rw [etW_all]
        rw [show ([] : List Nat) ++ remW (max (xs.length + 3) 3 - 2) [] = [] from rfl, show linN C [] = C by unfold linN; simp, show [tW, tW, aB].drop (xs.length + 3) = [] from List.drop_eq_nil_of_le (by simp)]
        refine sx_cons (sx_if (bx_or (bx_cmp ?_)))
        refine ev_attr ?_
        refine ev_name (ld_cell (d := c.L + 1) (by kernel_rfl) (.tail _ (.tail _ (.tail _ (.tail _ hcell)))) ?_)
        refine getA_inst A (.tail _ (.tail _ (.tail _ (.tail _ LX.inst)))) (.tail _ (.head _)) (a := .int C) (by wtm_at "lg") O.g_lineno O.cls_dict O.f_lineno ?_
        repeat wtm_at "a1"
        refine mth_str F.slot_str_count F.type_str_count ?_
        repeat wtm_at "a1"
        refine ⟨kb, cal_count ?_⟩
        rw [show Txt.count ⟨TX.toArray⟩ ⟨(cs (Str.ofString "\n")).toArray⟩ = ((TX.count 10 : Nat) : Int) from txt_count TX 10]
        repeat wtm_at "a1"
        refine br_no (by simp [hC]) ?_
        refine bx_or (bx_cmp ?_)
        refine ev_name (ld_local (a := .ref D) (by wtm_at "lg") ?_)
        refine ev_bin (ev_bin ?_)
        repeat wtm_at "a1"
        refine ev_list ?_
        repeat wtm_at "a1"
        refine ⟨by simp, fun l1 => ?_⟩
        repeat wtm_at "a1"
        refine b_mull (xs := [.str tW]) (.head _) (by decide) (by decide) (by decide) fun l2 => ?_
        refine ev_bin ?_
        refine ev_list ?_
        repeat wtm_at "a1"
        refine ⟨by simp, fun l3 => ?_⟩
        repeat wtm_at "a1"
        refine ld_builtin A gl (v := .builtin "len") (by kernel_rfl) (a := .con (.builtin "len")) rfl ?_
        repeat wtm_at "a1"
        refine ⟨kb, cal_len_list (.tail _ (.tail _ (.tail _ (.tail _ (.tail _ (.tail _ (.tail _ hmx))))))) (by simp; wtm_at "om") ?_⟩
        rw [List.length_map]
        refine b_mull (xs := [.str aB]) (.head _) (by wtm_at "om") (by wtm_at "om") (by simp; wtm_at "om") fun l4 => ?_
        rw [Int.toNat_natCast]
        refine b_addl (.tail _ (.tail _ (.head _))) (.head _) (by rw [flat_rep (AV.str aB)]; simp; wtm_at "om") fun l5 => ?_
        refine ev_list ?_
        repeat wtm_at "a1"
        refine ⟨by simp, fun l6 => ?_⟩
        refine b_addl (.tail _ (.head _)) (.head _) (by rw [flat_rep (AV.str aB)]; simp; wtm_at "om") fun l7 => ?_
        have eE : ((List.replicate (Int.toNat 2) [AV.str tW]).flatten ++ (List.replicate xs.length [AV.str aB]).flatten) ++ [AV.str []] = (allW xs.length).map .str := by
          unfold allW
          rw [flat_rep (AV.str aB), flat_rep aB, List.map_append, List.map_append, List.map_replicate]; rfl
        refine c_nels (ss := allW xs.length) (tt := allW xs.length) hu (.tail _ (.tail _ (.tail _ (.tail _ (.tail _ (.tail _ (.tail _ (.head _)))))))) (.head _) rfl eE allW_ok allW_ok ?_
        repeat wtm_at "a1"
        refine br_no (by simp) ?_
        refine bx_or_nil ?_
        refine br_no rfl ?_
        repeat wtm_at "a1"
        intro sl
        refine sub_list_slice (.head _) (.tail _ (.tail _ (.tail _ (.tail _ (.tail _ (.tail _ (.tail _ (.tail _ (.head _))))))))) (.int) (.int) .none (by decide) (by rw [List.length_map]; unfold allW; rw [flat_rep tW, flat_rep aB]; simp; wtm_at "om") fun l8 => ?_
        have hE : lsl ((allW xs.length).map AV.str) (some 2) (some (-1)) none = List.replicate xs.length (.str aB) := by
          have e : (allW xs.length).map AV.str = [AV.str tW, .str tW] ++ (List.replicate xs.length (.str aB) ++ [.str []]) := by
            unfold allW
            rw [flat_rep aB, List.map_append, List.map_append, List.map_replicate, List.append_assoc]; rfl
          rw [e, lsl_none]
          generalize hL : ([AV.str tW, .str tW] ++ (List.replicate xs.length (.str aB) ++ [.str []])) = Z
          have hz1 : Z.length = xs.length + 3 := by rw [← hL]; simp
          have k1 : kms_lo (some 2) Z.length = 2 := by unfold kms_lo; simp only; rw [if_neg (by decide)]; wtm_at "om"
          have k2 : kms_hi (some (-1)) Z.length = xs.length + 2 := by unfold kms_hi; simp only; rw [if_pos (by decide)]; wtm_at "om"
          rw [k1, k2, ← hL]
          show (List.replicate xs.length (AV.str aB) ++ [AV.str []]).take (xs.length + 2 - 2) = _
          rw [Nat.add_sub_cancel, List.take_append_of_le_length (by simp), List.take_of_length_le (by simp)]
        rw [hE]
        refine nx_ret (ret_ok (lc' := []) (.cons .head (.drop (.drop (.drop (.drop (.drop (.drop (.drop (.drop (.drop (.drop (.drop (.drop ?_))))))))))))) (h l8 ps))
        rw [hfx]
        exact .drop (Pick.of_sub (d := fl) List.perm_append_comm)
    · refine ev_list ?_
      refine args_cons ?_
      repeat wtm_at "a1"
      refine ev_name (ld_cell (d := c.L + 1) (by kernel_rfl) (.tail _ (.tail _ (.tail _ hcell))) ?_)
      refine mth_lex [] A O LX (by kernel_rfl) O.g_token O.m_token ?_
      repeat wtm_at "a1"
      refine gtk _ _ _ [] _ _ hk1 (by wtm_at "om") hT128 ?_
      repeat wtm_at "a1"
      refine ev_name (ld_cell (d := c.L + 1) (by kernel_rfl) (.tail _ (.tail _ (.tail _ hcell))) ?_)
      refine mth_lex [] A O LX (by kernel_rfl) O.g_token O.m_token ?_
      repeat wtm_at "a1"
      refine gtk _ _ _ [] _ _ hk2 (by simp; wtm_at "om") ?_ ?_
      · intro a ha
        rcases List.mem_append.mp ha with ha | ha
        · have : ∀ a ∈ ([92, 32, 92, 34, 92, 92, 92, 10, 32] : List Nat), a < 128 := by decide
          exact this a ha
        · exact hr128 a ha
      repeat wtm_at "a1"
      refine ev_name (ld_cell (d := c.L + 1) (by kernel_rfl) (.tail _ (.tail _ (.tail _ hcell))) ?_)
      refine mth_lex [] A O LX (by kernel_rfl) O.g_token O.m_token ?_
      repeat wtm_at "a1"
      refine gtk _ _ _ [] _ _ w4 (by wtm_at "om") hr128 ?_
      repeat wtm_at "a1"
      refine ⟨by simp, fun l => ⟨l, rfl, _, .all, by wtm_at "ls", rfl⟩⟩
  · repeat wtm_at "a1"
    refine ld_builtin A gr (v := .type "range") (by kernel_rfl) (a := .con (.type "range")) rfl ?_
    repeat wtm_at "a1"
    refine ld_builtin A gl (v := .builtin "len") (by kernel_rfl) (a := .con (.builtin "len")) rfl ?_
    repeat wtm_at "a1"
    refine ⟨kb, cal_len_list (.tail _ (.tail _ hm)) (by simp; wtm_at "om") ?_⟩
    rw [List.length_map]
    repeat wtm_at "a1"
    refine ⟨kt, cal_range1 fun rr => ?_⟩
    refine ⟨rr, _, rfl, .all, by wtm_at "om", ?_, rfl⟩
    rw [List.take_zero]
    show LSub [("texts", .ref lt), ("text", .str preW)] _
    wtm_at "ls"
end
end

section
theorem Rep.many {g h h' : Heap} {L : Addr} {lc : LC} {ow xs : OW} (R : Rep g L lc (xs ++ ow) h) (ys : OW)
    (hy : ∀ q ∈ ys, (∃ o, q.2.rep o ∧ h'.get? q.1 = some o) ∧ (q.1 ∈ xs.map (·.1) ∨ h.objs.size ≤ q.1)) (nd : (ys.map (·.1)).Nodup)
    (keep : ∀ b o, b ∉ xs.map (·.1) → h.get? b = some o → h'.get? b = some o) : Rep g L lc (ys ++ ow) h' := by
  refine bc fun hG => ?_
  obtain ⟨m, F, hl⟩ := R.fr
  refine hG ?_
  clear hG
  have nd0 := R.nd
  rw [List.map_append] at nd0
  have hxg : ∀ b ∈ xs.map (·.1), b ≠ L ∧ g.get? b = none := by
    intro b hb
    obtain ⟨q, hq, rfl⟩ := List.mem_map.mp hb
    obtain ⟨_, _, _, n⟩ := R.own q (List.mem_append_left _ hq)
    exact n
  have old : ∀ a, h.objs.size ≤ a → a ≠ L ∧ g.get? a = none := by
    intro a ha
    refine ⟨fun e => absurd F.ns.lt (by rw [← e]; exact Nat.not_lt.mpr ha), ?_⟩
    cases e : g.get? a with
    | none => rfl
    | some o => exact absurd (Heap.lt_size (F.keep a o e)) (Nat.not_lt.mpr ha)
  have F' : Fr g L h' m := ⟨F.ns.at' fun o e => keep _ o (fun hm => (hxg _ hm).1 rfl) e, fun b o e => keep b o (fun hm => by rw [(hxg _ hm).2] at e; cases e) (F.keep b o e), F.above⟩
  refine ⟨⟨m, F', hl⟩, fun q hq => ?_, ?_⟩
  · rcases List.mem_append.mp hq with hq | hq
    · refine bc fun hG => ?_
      obtain ⟨⟨o, r, e⟩, hz⟩ := hy q hq
      refine hG ?_
      clear hG
      refine ⟨o, r, e, ?_⟩
      rcases hz with hz | hz
      · exact hxg _ hz
      · exact old _ hz
    · obtain ⟨o, r, e, n⟩ := R.own q (List.mem_append_right _ hq)
      exact ⟨o, r, keep _ _ (fun hm => (List.nodup_append.mp nd0).2.2 _ hm _ (List.mem_map_of_mem hq) rfl) e, n⟩
  · rw [List.map_append]
    refine List.nodup_append.mpr ⟨nd, (List.nodup_append.mp nd0).2.1, fun a ha b hb e => ?_⟩
    subst e
    refine bc fun hG => ?_
    obtain ⟨q, hq, rfl⟩ := List.mem_map.mp ha
    refine hG ?_
    clear hG
    rcases (hy q hq).2 with hz | hz
    · exact (List.nodup_append.mp nd0).2.2 _ hz _ hb rfl
    · refine bc fun hG => ?_
      obtain ⟨p, hp, e⟩ := List.mem_map.mp hb
      obtain ⟨o, _, e', _⟩ := R.own p (List.mem_append_right _ hp)
      refine hG ?_
      clear hG
      rw [e] at e'
      exact absurd (Heap.lt_size e') (Nat.not_lt.mpr hz)

noncomputable def EnO (it : Addr) (i : Nat) (o : Obj) : Prop := ∃ old, o = { cls := .type "enumerate", dict := none, data := .fields #[.none, .bool false, .ref it, rawInt i, .none, old], slots := #[] }
noncomputable def EnU (it : Addr) (i : Nat) (a : Addr) (o : Obj) : Prop := ∃ item, o = { cls := .type "enumerate", dict := none, data := .fields #[rawInt a, .bool false, .ref it, rawInt i, .none, item], slots := #[] }
section
variable {K : Frag} {c : Cx} {lc lc' : LC} {ow ow' : OW} {env : Env} {n : Nat}
theorem cal_enum {l : Addr} {xs : List AV} {Q} (h : ∀ e it, Q (.ref e) lc ([(e, .any (EnO it 0)), (it, .lit l 0)] ++ (l, .list xs) :: ow)) : Cal c (.con (.type "enumerate")) [.ref l] [] lc ((l, .list xs) :: ow) Q := by
  refine ⟨?_⟩
  rintro _ vs kvs rfl ra hk -
  refine bc fun hG => ?_
  obtain ⟨v, rfl, rfl⟩ := al1 ra
  refine hG ?_
  clear hG
  cases kw0 hk
  · refine ⟨fun s P E R kp => ?_⟩
    refine bc fun hG => ?_
    obtain ⟨o, ⟨vs, n, rfl, r⟩, ho⟩ := R.get (.head _)
    refine hG ?_
    clear hG
    have hl' : s.heap.IsList l vs.toArray := ⟨_, ho, rfl, n, rfl⟩
    with_reducible refine call_enumerate_list hl' fun h' hE hI hz hk => ?_
    refine kp (.ref (s.heap.objs.size + 1)) _ _ _ h' _ (h _ s.heap.objs.size) rfl (Rep.many (xs := []) R [(s.heap.objs.size + 1, .any (EnO s.heap.objs.size 0)), (s.heap.objs.size, .lit l 0)] ?_ ?_ fun b o _ e => hk b o e)
    · intro q hq
      rcases List.mem_cons.mp hq with rfl | hq
      · exact ⟨⟨_, ⟨⟨_, rfl⟩, rfl⟩, hE⟩, .inr (Nat.le_succ _)⟩
      · rcases List.mem_cons.mp hq with rfl | hq
        · obtain ⟨o, e, r1, r2⟩ := hI
          exact ⟨⟨o, ⟨r1, r2⟩, e⟩, .inr (Nat.le_refl _)⟩
        · cases hq
    · simp
theorem itr_enum {e it : Addr} {k : Nat} {Q} (hm : (e, AO.any (EnO it k)) ∈ ow) (h : Q e lc ow) : Itr c (.ref e) lc ow Q := by
  refine ⟨?_⟩
  rintro _ rfl
  refine ⟨fun s P E R kp => ?_⟩
  refine bc fun hG => ?_
  obtain ⟨o, ⟨⟨old, rfl⟩, _⟩, ho⟩ := R.get hm
  refine hG ?_
  clear hG
  refine wpAny_pyIter_enum ho ?_
  exact kp e _ _ _ s.heap s.toks h rfl R
theorem nxt_enum {e it l : Addr} {xs : List AV} {k : Nat} {x : AV} {Q} (hx : xs[k]? = some x) (h : ∀ t, Q (some (.ref t)) lc ((e, .any (EnU it (k + 1) t)) :: (it, .lit l (k + 1)) :: (t, .tup [.int k, x]) :: (l, .list xs) :: ow)) :
    Nxt c e lc ((e, .any (EnO it k)) :: (it, .lit l k) :: (l, .list xs) :: ow) Q := by
  refine ⟨⟨fun s P E R kp => ?_⟩⟩
  refine bc fun hG => ?_
  obtain ⟨o, ⟨vs, n, rfl, r⟩, ho⟩ := R.get (.tail _ (.tail _ (.head _)))
  obtain ⟨o', ⟨r1, r2⟩, ho'⟩ := R.get (.tail _ (.head _))
  obtain ⟨o2, ⟨⟨old, rfl⟩, _⟩, ho2⟩ := R.get (.head _)
  refine hG ?_
  clear hG
  have hl' : s.heap.IsList l vs.toArray := ⟨_, ho, rfl, n, rfl⟩
  refine bc fun hG => ?_
  obtain ⟨v, hv, rv⟩ := r.get hx
  refine hG ?_
  clear hG
  have hv' : vs.toArray[k]? = some v := by rw [List.getElem?_toArray]; exact hv
  have nd := R.nd
  have hne : e ≠ it := by
    simp only [List.map_cons, List.nodup_cons, List.mem_cons, not_or] at nd
    exact nd.1.1
  have hel := Heap.lt_size ho2
  have hil := Heap.lt_size ho'
  refine wpAny_pyNext_enum_item ho2 ⟨o', ho', r1, r2⟩ hl' hv' hne fun h' hE hI hT hz hk => ?_
  refine kp (some (.ref s.heap.objs.size)) _ _ _ h' _ (h _) ⟨_, rfl, rfl⟩ (Rep.many (xs := [(e, .any (EnO it k)), (it, .lit l k)]) R [(e, .any (EnU it (k + 1) s.heap.objs.size)), (it, .lit l (k + 1)), (s.heap.objs.size, .tup [.int k, x])] ?_ ?_ fun b o hb e => ?_)
  · intro q hq
    rcases List.mem_cons.mp hq with rfl | hq
    · exact ⟨⟨_, ⟨⟨_, rfl⟩, rfl⟩, hE⟩, .inl (.head _)⟩
    · rcases List.mem_cons.mp hq with rfl | hq
      · obtain ⟨o, e, r1, r2⟩ := hI
        exact ⟨⟨o, ⟨r1, r2⟩, e⟩, .inl (.tail _ (.head _))⟩
      · rcases List.mem_cons.mp hq with rfl | hq
        · exact ⟨⟨_, ⟨[.int k s.toks, v], 0, rfl, ⟨_, rfl⟩, rv, trivial⟩, hT⟩, .inr (Nat.le_refl _)⟩
        · cases hq
  · simp only [List.map_cons, List.map_nil, List.nodup_cons, List.mem_cons, List.not_mem_nil, or_false, not_or]
    exact ⟨⟨hne, Nat.ne_of_lt hel⟩, Nat.ne_of_lt hil, fun h => h, List.nodup_nil⟩
  · simp only [List.map_cons, List.map_nil, List.mem_cons, List.not_mem_nil, or_false, not_or] at hb
    exact hk b o hb.1 hb.2 e
theorem nxt_enum_end {e it l : Addr} {xs : List AV} {k : Nat} {Q} (hh : c.A.handled = none) (hx : xs[k]? = none) (h : Q none lc ((e, .any (EnO it k)) :: (l, .list xs) :: ow)) :
    Nxt c e lc ((e, .any (EnO it k)) :: (it, .lit l k) :: (l, .list xs) :: ow) Q := by
  refine ⟨⟨fun s P E R kp => ?_⟩⟩
  refine bc fun hG => ?_
  obtain ⟨o, ⟨vs, n, rfl, r⟩, ho⟩ := R.get (.tail _ (.tail _ (.head _)))
  obtain ⟨o', ⟨r1, r2⟩, ho'⟩ := R.get (.tail _ (.head _))
  obtain ⟨o2, ⟨⟨old, rfl⟩, _⟩, ho2⟩ := R.get (.head _)
  refine hG ?_
  clear hG
  have hl' : s.heap.IsList l vs.toArray := ⟨_, ho, rfl, n, rfl⟩
  have hv' : vs.toArray[k]? = none := by rw [List.getElem?_toArray]; rw [List.getElem?_eq_none_iff] at hx ⊢; rw [← r.length]; exact hx
  refine wpAny_pyNext_enum_end hh ho2 ⟨o', ho', r1, r2⟩ hl' hv' fun h' he => ?_
  exact kp none _ _ _ _ _ h rfl (R.lose (.tail .head) he)
theorem let_enum {elts : List PySem.Expr} {x1} {pos : Pos} {e it a : Addr} {k : Nat} {Q : LC → OW → Prop} (h : Q lc ((e, .any (EnO it k)) :: ow)) : UX c (letOwnedTupleGo (.Tuple elts x1 pos) (.ref e) (.ref a)) lc ((e, .any (EnU it k a)) :: ow) Q := by
  refine ⟨fun s P E R kp => ?_⟩
  refine bc fun hG => ?_
  obtain ⟨o2, ⟨⟨old, rfl⟩, _⟩, ho2⟩ := R.get (.head _)
  refine hG ?_
  clear hG
  refine wpAny_letOwnedTupleGo_enum ho2 fun h' he hs => ?_
  exact kp () () _ _ h' _ h trivial (R.turn Upd.head hs he ⟨⟨_, rfl⟩, rfl⟩)
theorem comp_coreT {elt iter target : PySem.Expr} {pos p : Pos} {scope : Scope} {cl : List (Str × Addr)} {use : Option (Value → Sem Unit)} {Q : AV → LC → OW → Prop}
    (J : Addr → Nat → List AV → LC → OW → Prop)
    (hclos : closureFor scope env = pure cl) (hcell : ∀ y ∈ scope.names, y.2 ≠ .cell) (hkind : scope.kind = .function) (hnames : ∀ y ∈ scope.names, y.2 = .local → scope.names.lookup y.1 = some .local)
    (again : ∀ it n lc ow D C d, J it n [] lc ow → Itr c (.ref it) lc ((D, .list []) :: (C, .ns d) :: ow) fun it' lc' ow' => it' = it ∧ lc' = lc ∧ ow' = ((D, .list []) :: (C, .ns d) :: ow))
    (step : ∀ it n ys lc ow D C d, J it n ys lc ow → ys.length < 1000000 ∧ Nxt c it lc ((D, .list ys) :: (C, .ns d) :: ow) fun r lc3 ow3 => match r with
      | none => ∃ d' ow4, Pick ow3 ((D, .list ys) :: (C, .ns d') :: ow4) ∧ CFin c use Q D C ys d' lc3 ow4
      | some a => ∀ v, a.rep v → UX c (letOwnedTupleGo target (.ref it) v) lc3 ow3 fun lc3 ow3 => Asg c (compEnvC scope cl C env) target a lc3 ow3 fun lc4 ow4 =>
          EV c (eval elt (compEnvC scope cl C env)) lc4 ow4 fun y lc6 ow6 => ∃ m d' ow7, m < n ∧ Pick ow6 ((D, .list ys) :: (C, .ns d') :: ow7) ∧ J it m (ys ++ [y]) lc6 ow7)
    (h : EV c (eval iter env) lc ow fun xv lc1 ow1 => Itr c xv lc1 ow1 fun it lc2 ow2 => ∃ n, J it n [] lc2 ow2)
    (hs : autoParam (∀ x, foldedSetIterable iter env x = pure x) kr1) :
    EV c (comprehension (.ListComp elt [⟨target, iter, [], 0⟩] scope pos) scope env p (newList []) false (eval iter env) use) lc ow Q := by
  refine comp_base J hclos hcell hkind hnames again (fun s P E kp it n lc2 ow2 D C h3 tk3 hJ R5 => ?_) h hs
  refine kcp_loop (fun n s' => ∃ ys lc ow d h' tk', s' = { s with heap := h', toks := tk' } ∧ Rep c.g c.L lc ((D, .list ys) :: (C, .ns d) :: ow) h' ∧ J it n ys lc ow) (fun n s' hI => ?_) n ⟨[], lc2, ow2, [], h3, tk3, rfl, R5, hJ⟩
  refine bc fun hG => ?_
  obtain ⟨ys, lc0, ow0, d, h0, tk0, rfl, R0, hJ⟩ := hI
  obtain ⟨hz, st⟩ := step it n ys lc0 ow0 D C d hJ
  refine hG ?_
  clear hG
  refine st.run.run _ _ _ R0 fun b y lc3 ow3 h3 tk3 q rb R3 => ?_
  cases b with
  | none =>
    cases (show y = _ from rb)
    refine bc fun hG => ?_
    obtain ⟨d', ow4, P4, q⟩ := q
    refine hG ?_
    clear hG
    have R4 := R3.pick P4
    cases use with
    | none =>
      refine bc fun hG => ?_
      obtain ⟨oc, ⟨es, nc, hdc, hskc, rc⟩, hoc⟩ := R4.get (mem1 mem0)
      refine hG ?_
      clear hG
      refine ⟨nsFind es, ⟨oc, es, nc, hoc, hdc, hskc, fun _ => rfl⟩, fun h' hs' => ?_⟩
      exact kp (.ref D) _ _ _ h' tk3 q rfl (R4.lose (Take.tail Take.head) hs'.extBut)
    | some u =>
      refine AWp.run q _ _ _ R4 fun _ _ lc5 ow5 h5 tk5 q5 _ R5 => ?_
      refine bc fun hG => ?_
      obtain ⟨d5, ow6, P6, q6⟩ := q5
      refine hG ?_
      clear hG
      have R6 := R5.pick P6
      refine bc fun hG => ?_
      obtain ⟨oc, ⟨es, nc, hdc, hskc, rc⟩, hoc⟩ := R6.get mem0
      refine hG ?_
      clear hG
      refine ⟨nsFind es, ⟨oc, es, nc, hoc, hdc, hskc, fun _ => rfl⟩, fun h' hs' => ?_⟩
      exact kp .none _ _ _ h' tk5 q6 rfl (R6.lose Take.head hs'.extBut)
  | some a =>
    refine bc fun hG => ?_
    obtain ⟨v, rfl, ra⟩ := rb
    refine hG ?_
    clear hG
    refine (q v ra).run _ _ _ R3 fun _ _ lc3' ow3' h3' tk3' q _ R3 => ?_
    refine (Asg.run q v ra).run _ _ _ R3 fun _ _ lc4 ow4 h4 tk4 q4 _ R4 => ?_
    refine AWp.run q4 _ _ _ R4 fun y yv lc6 ow6 h6 tk6 q6 ry R6 => ?_
    refine bc fun hG => ?_
    obtain ⟨m, d', ow7, hm, P7, j7⟩ := q6
    refine hG ?_
    clear hG
    have R7 := R6.pick P7
    have ap : Cal c (.con (.builtin "list.append")) [.ref D, y] [] lc6 ((D, .list ys) :: (C, .ns d') :: ow7) (fun a lc ow => a = .none ∧ lc = lc6 ∧ ow = ((D, .list (ys ++ [y])) :: (C, .ns d') :: ow7)) := cal_append Upd.head (Nat.le_of_lt hz) ⟨rfl, rfl, rfl⟩
    refine (ap.run (.builtin "list.append") [.ref D, yv] [] rfl ⟨rfl, ry, trivial⟩ rfl trivial).run _ _ _ R7 fun _ _ lc8 ow8 h8 tk8 q8 _ R8 => ?_
    obtain ⟨_, rfl, rfl⟩ := q8
    exact ⟨m, hm, ys ++ [y], _, ow7, d', h8, tk8, rfl, R8, j7⟩
/-- «name = [elt for i, x in enumerate(list)]» -/
theorem sx_enum {elt iter : PySem.Expr} {x1 x2 y : Str} {p1 p2 tp py pos spos : Pos} {k0 : Nat} {scope : Scope} {cl : List (Str × Addr)} {Q : AF → LC → OW → Prop} (xs : List AV) (J : Nat → List AV → LC → OW → Prop) (hh : c.A.handled = none)
    (hclos : closureFor scope env = pure cl) (hz : xs.length < 1000)
    (step : ∀ k a ys lc ow D C d I1 I2 I3, xs[k]? = some a → J k ys lc ow → lget d x1 = some (.int k) → lget d x2 = some a → EV c (eval elt (compEnvC scope cl C env)) lc ((D, .list ys) :: (C, .ns d) :: I1 :: I2 :: I3 :: ow) fun v lc6 ow6 =>
        ∃ d' ow7, Pick ow6 ((D, .list ys) :: (C, .ns d') :: I1 :: I2 :: I3 :: ow7) ∧ J (k + 1) (ys ++ [v]) lc6 ow7)
    (hlen : ∀ k ys lc ow, J k ys lc ow → ys.length = k)
    (fin : ∀ ys lc ow D, J xs.length ys lc ow → ∃ lc', Put lc y (.ref D) lc' ∧ Q .next lc' ((D, .list ys) :: ow))
    (h : EV c (eval iter env) lc ow fun v lc1 ow1 => ∃ e it l ow2, v = .ref e ∧ Pick ow1 ((e, .any (EnO it 0)) :: (it, .lit l 0) :: (l, .list xs) :: ow2) ∧ J 0 [] lc1 ow2)
    (hsw : autoParam (swapsWith (.ListComp elt [⟨.Tuple [.Name x1 p1, .Name x2 p2] k0 tp, iter, [], 0⟩] scope pos) (some (.Name y py)) spos.line env = pure true) kr0)
    (hcell : ∀ y ∈ scope.names, y.2 ≠ .cell := by decide +kernel) (hkind : autoParam (scope.kind = .function) kr0) (hnames : ∀ y ∈ scope.names, y.2 = .local → scope.names.lookup y.1 = some .local := by decide +kernel)
    (hx1 : autoParam (∀ C, (compEnvC scope cl C env).kindOf x1 = some .local) kr1)
    (hx2 : autoParam (∀ C, (compEnvC scope cl C env).kindOf x2 = some .local) kr1) (hx12 : autoParam ((x1 == x2) = false) kr0)
    (hk : autoParam (env.scope.kind = .function) kr0) (hx : autoParam (env.kindOf y = some .local) kr0) (hL : autoParam (env.locals = c.L) kr0)
    (hs : autoParam (∀ x, foldedSetIterable iter env x = pure x) kr1) :
    SX c (exec (.Assign [.Name y py] (.ListComp elt [⟨.Tuple [.Name x1 p1, .Name x2 p2] k0 tp, iter, [], 0⟩] scope pos) spos) env) lc ow Q := by
  rw [exec_Assign_Name_used _ _ _ _ hsw]
  refine AWp.standAt (AWp.bind (rp := rU) (β := Unit) ?_)
  rw [arm_evalThenUse_ListComp]
  refine AWp.bind (β := AV) (rp := AV.rep) (AWp.mono (Q := fun _ => Q .next) ?_ fun b lc1 ow1 q v rv => AWp.pure (b := ()) trivial fun u _ => AWp.pure (b := AF.next) rfl q)
  refine comp_coreT (fun e n ys lc ow => ∃ k it l ow0, k ≤ xs.length ∧ n = xs.length - k ∧ Pick ow ((e, .any (EnO it k)) :: (it, .lit l k) :: (l, .list xs) :: ow0) ∧ J k ys lc ow0) hclos hcell hkind hnames ?_ ?_ ?_ hs
  · rintro e n lc ow D C d ⟨k, it, l, ow0, hk, rfl, P, hJ⟩
    exact itr_enum (.tail _ (.tail _ (P.mem (.head _)))) ⟨rfl, rfl, rfl⟩
  · rintro e n ys lc ow D C d ⟨k, it, l, ow0, hk', rfl, P, hJ⟩
    have := hlen _ _ _ _ hJ
    refine ⟨by wtm_at "om", ?_⟩
    have P2 : Pick ((D, .list ys) :: (C, .ns d) :: ow) ((e, .any (EnO it k)) :: (it, .lit l k) :: (l, .list xs) :: (D, .list ys) :: (C, .ns d) :: ow0) :=
      Pick.trans (.tl (.tl P)) (.cons (.tail (.tail .head)) (.cons (.tail (.tail .head)) (.cons (.tail (.tail .head)) .all)))
    refine ⟨AWp.weak P2 ?_⟩
    by_cases hlt : k < xs.length
    · have hx := List.getElem?_eq_getElem hlt
      refine (nxt_enum hx fun t => ?_).run
      rintro _ rfl
      refine let_enum ?_
      refine asg_t2 hh (.tail _ (.tail _ (.head _))) ?_
      refine asg_ns (.tail (.tail (.tail (.tail (.tail .head))))) (put_lput d x1 _) ?_ hkind (hx1 C) rfl
      refine asg_ns (.tail (.tail (.tail (.tail (.tail .head))))) (put_lput _ x2 _) ?_ hkind (hx2 C) rfl
      refine AWp.weak (ow' := (D, .list ys) :: (C, .ns (lput (lput d x1 (.int k)) x2 xs[k])) :: (e, .any (EnO it (k + 1))) :: (it, .lit l (k + 1)) :: (l, .list xs) :: ow0) (.cons (.tail (.tail (.tail (.tail .head)))) (.cons (.tail (.tail (.tail (.tail .head)))) (.tl (.tl (.drop .all))))) ?_
      refine (step k _ ys lc ow0 D C _ _ _ _ hx hJ ?_ (lget_lput _ _ _)).mono fun v lc6 ow6 ⟨d', ow7, P7, j7⟩ => ?_
      · rw [(put_lput (lput d x1 (.int k)) x2 xs[k]).get, if_neg (by exact beq_eq_false_iff_ne.mp hx12)]
        exact lget_lput _ _ _
      · exact ⟨xs.length - (k + 1), d', (e, .any (EnO it (k + 1))) :: (it, .lit l (k + 1)) :: (l, .list xs) :: ow7, by wtm_at "om", P7, k + 1, it, l, ow7, hlt, rfl, .all, j7⟩
    · have e0 : k = xs.length := by wtm_at "om"
      subst e0
      refine (nxt_enum_end hh (List.getElem?_eq_none (Nat.le_refl _)) ?_).run
      refine bc fun hG => ?_
      obtain ⟨lc', Pt, q⟩ := fin ys lc ow0 D hJ
      refine hG ?_
      clear hG
      refine ⟨d, ow0, .drop (.drop .all), ?_⟩
      exact cf_use Pt q hk hx hL
  · refine h.mono fun v lc1 ow1 ⟨e, it, l, ow2, hv, P, hJ⟩ => ?_
    subst hv
    exact itr_enum (P.mem (.head _)) ⟨xs.length, 0, it, l, ow2, Nat.zero_le _, rfl, P, hJ⟩
end
end

section
/-- a list of the ground -/
noncomputable def GL (c : Cx) (l : Addr) (xs : List AV) : Prop := ∃ vs, c.g.IsList l vs.toArray ∧ All2 xs vs
section
variable {c : Cx} {lc : LC} {ow : OW}
theorem cal_len_listG {l : Addr} {xs : List AV} {Q} (hG : GL c l xs) (hz : xs.length ≤ 1000000) (h : Q (.int xs.length) lc ow) : Cal c (.con (.builtin "len")) [.ref l] [] lc ow Q := by
  refine cal_1 ?_
  rintro _ rfl
  refine ⟨fun s P E R kp => ?_⟩
  obtain ⟨vs, hl, r⟩ := hG
  have hlen := r.length
  have hl' : s.heap.IsList l vs.toArray := hl.at fun o e => R.keep e
  have hfit : ((vs.toArray.size : Nat) : Int) < 2 ^ 63 := by rw [List.size_toArray]; wtm_at "om"
  with_reducible refine call_len_list hl' hfit ?_
  exact kp (.int xs.length) _ _ _ s.heap _ h ⟨_, by rw [List.size_toArray, hlen]⟩ R
theorem sub_list_sliceG {l sl : Addr} {xs : List AV} {a b d : AV} {lo hi st : Option Int} {Q} (hs : (sl, AO.flds "slice" [a, b, d]) ∈ ow) (hG : GL c l xs) (pa : IsP a lo) (pb : IsP b hi) (pd : IsP d st) (h0 : st ≠ some 0) (hz : xs.length ≤ 1000000)
    (h : ∀ r, Q (.ref r) lc ((r, .list (lsl xs lo hi st)) :: ow)) : Sub c (.ref l) (.ref sl) lc ow Q := by
  refine ⟨?_⟩
  rintro _ _ rfl rfl
  obtain ⟨vs, hl, r⟩ := hG
  refine ⟨⟨fun s P E R kp => ?_⟩, "list", _, slot_list_getitem.lookup, fun s R => ?_⟩
  · obtain ⟨o', ⟨us, rfl, r'⟩, ho'⟩ := R.get hs
    obtain ⟨u1, u2, u3, rfl, r1, r2, r3⟩ := al3 r'
    · have hl' : s.heap.IsList l vs.toArray := hl.at fun o e => R.keep e
      have hsl : s.heap.IsSliceOf sl u1 u2 u3 := ⟨_, ho', rfl, rfl⟩
      have hlen := r.length
      have hz' : vs.toArray.size ≤ sizeLine := by rw [List.size_toArray, sizeLine_eq]; wtm_at "om"
      refine wpAny_getItem_list_slice hl' hsl (pa.part r1) (pb.part r2) (pd.part r3) h0 ?_ hz'
      rw [lsl_pick]
      exact kp (.ref s.heap.objs.size) _ _ _ _ _ (h _) rfl (R.push (p := .list (lsl xs lo hi st)) ⟨_, 0, rfl, r.lsl lo hi st⟩)
  · have hl' : s.heap.IsList l vs.toArray := hl.at fun o e => R.keep e
    obtain ⟨o, ho, hc, _⟩ := hl'
    exact ⟨o, ho, hc⟩
end
end

section
theorem lsl_map {α β : Type} (f : α → β) (xs : List α) (lo hi st : Option Int) : lsl (xs.map f) lo hi st = (lsl xs lo hi st).map f := by
  unfold lsl
  rw [List.length_map, List.map_filterMap]
  congr 1
  funext i
  rw [List.getElem?_map]
noncomputable def stepS (sc : List Int) (k : Int) : Int := (lsl sc (some k) none (some 4)).sum
noncomputable def rowAt (sc : List Int) (k : Nat) : Int := (([22, 13, 24] : List Int).getD k 0 + stepS sc k).fmod 32
noncomputable abbrev rowsM (sc : List Int) : List Int := (List.range 3).map (rowAt sc)
noncomputable abbrev shiftM (sc : List Int) : Int := (5 + stepS sc 3).fmod 32
structure LawN (rows : List Int) (shift : Int) (xs : List Nat) : Prop where
  fm : Mine.fam shift rows = xs.map fun (x : Nat) => (x : Int)
  lt : ∀ x ∈ xs, x < 32
  ne : xs ≠ []
  len : xs.length ≤ 8
  cb : ∀ c ∈ cntL (xs.map fun x => 2 * (ones5 x : Int)) 6, -16 < c ∧ c < 16
  tb : ∀ c ∈ toldM rows shift 32, -16 < c ∧ c < 16
  S1 : ∀ B, turnS B (cntL (xs.map fun x => 2 * (ones5 x : Int)) 6) = xs.length * polyS B (toldM rows shift 32)
  S2 : ∀ B, turnS B (toldM rows shift 32) = ((32 / xs.length : Nat) : Int) * polyS B (cntL (xs.map fun x => 2 * (ones5 x : Int)) 6)
section
variable {K : Frag} {c : Cx} {lc : LC} {ow fx : OW} {env : Env} {d : Nat}
set_option maxHeartbeats 8000000
noncomputable abbrev lawE (L : Nat) (fa : Addr) (cd : Value) : Env := envOfC "law" (fScope (stAt 29)) L fa cd
theorem law_walk {fa ls : Addr} {cd : Value} {sc : List Int} {xs : List Nat} {Q : AF → LC → OW → Prop} (A : Act0 K c (d + 14) (lawE c.L fa cd)) (O : KOk K) (hh : c.A.handled = none) (hG : GL c ls (sc.map .int)) (hz : sc.length ≤ 63) (N : LawN (rowsM sc) (shiftM sc) xs)
    (h : ∀ lc ow' t1 t2 p1 p2, TB1 t1 → TB2 t2 → Pick ow' (t1 ++ (t2 ++ ((172, .obj (tabObj p1)) :: (141, .obj (tabObj p2)) :: (c.L + 1, .cell (some (.ref ls))) :: ow))) → Q (.ret (.bool true)) lc ow') :
    SX c (execs (fBody (stAt 29)) (lawE c.L fa cd)) [] ((172, .obj (tabObj #[])) :: (141, .obj (tabObj #[])) :: (30, .obj (tabObj #[])) :: (37, .obj (tabObj #[])) :: (c.L + 1, .cell (some (.ref ls))) :: ow) Q := by
  have gs := O.sum
  have ge := O.enumerate
  have gl := O.len
  have g151 := O.g151
  have g158 := O.g158
  have g163 := O.g163
  have g170 := O.g170
  have g177 := O.g177
  have g182 := O.g182
  have g187 := O.g187
  have A1 : Act K c (d + 13 + 1) (lawE c.L fa cd) := A.toAct
  have hu : c.A.units ≤ 9000 := by have := A.units; wtm_at "om"
  refine sx_cons (sx_enum (cl := [("script", c.L + 1)]) (([22, 13, 24] : List Int).map .int) (fun k ys lc1 ow1 => lc1 = [] ∧ k ≤ 3 ∧ ys = ((List.range k).map (rowAt sc)).map .int ∧ ow1 = (172, .obj (tabObj #[])) :: (141, .obj (tabObj #[])) :: (30, .obj (tabObj #[])) :: (37, .obj (tabObj #[])) :: (c.L + 1, .cell (some (.ref ls))) :: ow) hh ?_ (by decide) ?_ ?_ ?_ ?_)
  · kernel_rfl
  · intro k a ys lc1 ow1 D C dd I1 I2 I3 ha
    revert ys lc1 ow1
    refine el_26a fun hk' => ?_
    intro hg1 hg2
    have hk3 : k < 3 := by have := (List.getElem?_eq_some_iff.mp ha).1; simpa using this
    rw [List.getElem?_map] at ha
    refine bc fun hG => ?_
    obtain ⟨x, hx, rfl⟩ := Option.map_eq_some_iff.mp ha
    refine hG ?_
    clear hG
    refine ev_bin (ev_bin ?_)
    refine ev_name (ld_ns (.tail _ (.head _)) hg2 ?_)
    refine ev_call ?_
    refine ld_builtin A.toAct gs (v := .builtin "sum") (by kernel_rfl) (a := .con (.builtin "sum")) rfl ?_
    refine args_cons ?_
    refine ev_sub ?_
    refine ev_name (ld_cell (d := c.L + 1) (by kernel_rfl) (by wtm_at "mm") ?_)
    refine ev_slice ?_
    refine prt_some ?_
    refine ev_name (ld_ns (.tail _ (.head _)) hg1 ?_)
    repeat wtm_at "a1"
    intro sl
    refine sub_list_sliceG (.head _) hG .int .none .int (by decide) (by simp; wtm_at "om") fun l1 => ?_
    repeat wtm_at "a1"
    refine ⟨kb, cal_sum hh (.head _) (lsl_map AV.int sc _ _ _) ?_⟩
    repeat wtm_at "a1"
    refine b_mod ?_ (by decide)
    refine ⟨dd, _, .drop (.drop .all), rfl, by wtm_at "om", ?_, rfl⟩
    rw [List.range_succ, List.map_append, List.map_append]
    show _ ++ [AV.int _] = _ ++ [AV.int (rowAt sc k)]
    unfold rowAt stepS
    rw [List.getD_eq_getElem?_getD, hx]; rfl
  · rintro k ys lc1 _ ⟨rfl, _, rfl, rfl⟩; simp
  · intro ys lc1 ow1 D
    revert ys lc1 ow1
    refine el_26a fun _ => ?_
    rw [show (([22, 13, 24] : List Int).map AV.int).length = 3 from rfl]
    refine ⟨_, .nil, ?_⟩
    refine nx ?_
    refine sx_cons (sx_assign ?_)
    refine ev_bin (ev_bin ?_)
    refine ev_int ?_
    refine ev_call ?_
    refine ld_builtin A.toAct gs (v := .builtin "sum") (by kernel_rfl) (a := .con (.builtin "sum")) rfl ?_
    refine args_cons ?_
    refine ev_sub ?_
    refine ev_name (ld_cell (d := c.L + 1) (by kernel_rfl) (by wtm_at "mm") ?_)
    refine ev_slice ?_
    refine prt_some ?_
    repeat wtm_at "a1"
    intro sl
    refine sub_list_sliceG (.head _) hG .int .none .int (by decide) (by simp; wtm_at "om") fun l1 => ?_
    repeat wtm_at "a1"
    refine ⟨kb, cal_sum hh (.head _) (lsl_map AV.int sc _ _ _) ?_⟩
    repeat wtm_at "a1"
    refine b_mod ?_ (by decide)
    rw [show ((5 : Int) + (lsl sc (some 3) none (some 4)).sum).fmod 32 = shiftM sc from rfl]
    refine sto_local (by wtm_at "pt") (nx ?_)
    obtain ⟨Ro, hRo⟩ : ∃ Ro, Ro = rowsM sc := ⟨_, rfl⟩
    obtain ⟨Sh, hSh⟩ : ∃ Sh, Sh = shiftM sc := ⟨_, rfl⟩
    rw [← hRo, ← hSh] at N
    rw [← hSh]
    have hRl : Ro.length = 3 := by rw [hRo]; rfl
    refine AWp.weak (ow' := (172, .obj (tabObj #[])) :: (141, .obj (tabObj #[])) :: (30, .obj (tabObj #[])) :: (37, .obj (tabObj #[])) :: (D, .list (Ro.map .int)) :: (c.L + 1, .cell (some (.ref ls))) :: ow) (by rw [hRo]; wtm_at "pks") ?_
    have hF := N.fm
    have hxn := N.len
    -- texts
    refine sx_cons (sx_lc (lc_list (cl := []) (xs.map fun (x : Nat) => .int x) (fun l k' ys lc1 ow1 => LSub [("rows", .ref D), ("shift", .int Sh)] lc1 ∧ k' ≤ xs.length ∧ ow1 = (l, .list (xs.map fun (x : Nat) => .int x)) :: (172, .obj (tabObj #[])) :: (141, .obj (tabObj #[])) :: (30, .obj (tabObj #[])) :: (37, .obj (tabObj #[])) :: (D, .list (Ro.map .int)) :: (c.L + 1, .cell (some (.ref ls))) :: ow ∧ ys = (xs.take k').map fun (x : Nat) => .str (hid x 5)) ?_ ?_ ?_ ?_ ?_ ?_) ?_)
    · rintro l k' ys lc1 ow1 _; exact .inl hh
    · rintro l k' ys lc1 ow1 ⟨_, _, rfl, _⟩; exact .head _
    · kernel_rfl
    · intro l k' a ys lc1 ow1 D2 C2 dd itx ha
      revert ys ow1
      refine el_26b fun hls hk' => ?_
      intro hg
      rw [List.getElem?_map] at ha
      refine bc fun hG => ?_
      obtain ⟨x, hx, rfl⟩ := Option.map_eq_some_iff.mp ha
      refine hG ?_
      clear hG
      have hx32 := N.lt x (List.mem_of_getElem? hx)
      refine bt_nil (br_t ?_)
      refine ev_call ?_
      refine ld_global A.toAct g158 (a := .con (.ref 158)) rfl ?_
      refine args_cons ?_
      refine ev_name (ld_ns (.tail _ (.head _)) hg ?_)
      repeat wtm_at "a1"
      refine ⟨kpr_fn A1 O.hidden, cal_hidden (d := d + 12 + 1) A1 O hh (by wtm_at "om") (by wtm_at "om") ?_⟩
      refine ⟨dd, _, .all, hls, ?_, rfl, ?_⟩
      · have := (List.getElem?_eq_some_iff.mp hx).1; wtm_at "om"
      · rw [List.take_add_one, hx, List.map_append]; rfl
    · rintro l k' ys lc1 ow1 ⟨_, hk', rfl, rfl⟩; simp; wtm_at "om"
    · refine ev_call ?_
      refine ld_global A.toAct g151 (a := .con (.ref 151)) rfl ?_
      repeat wtm_at "a1"
      refine ⟨kpr_fn A1 O.family, cal_family (rows := Ro) (d := d + 13) A1 O hh (by wtm_at "om") (by wtm_at "mm") fun l => ?_⟩
      rw [hF, List.map_map]
      exact ⟨l, rfl, _, .all, by wtm_at "ls", by wtm_at "om", rfl, rfl⟩
    intro l ys lc1 ow1 D2 C2 dd
    revert ys ow1
    refine el_26b fun hls _ => ?_
    rw [List.length_map, List.take_length]
    refine cf_use (put_lput lc1 "texts" _) ?_
    refine nx ?_
    refine AWp.fgt (ls_put hls (put_lput lc1 "texts" _)) ?_
    refine AWp.weak (ow' := (141, .obj (tabObj #[])) :: (172, .obj (tabObj #[])) :: (30, .obj (tabObj #[])) :: (37, .obj (tabObj #[])) :: (D2, .list (xs.map fun (x : Nat) => .str (hid x 5))) :: (D, .list (Ro.map .int)) :: (c.L + 1, .cell (some (.ref ls))) :: ow) (by wtm_at "pks") ?_
    obtain ⟨X5, hX5⟩ : ∃ X5, X5 = xs.map fun (x : Nat) => AV.str (hid x 5) := ⟨_, rfl⟩
    refine sx_cons (sx_assign ?_)
    refine ev_call ?_
    refine ld_global A.toAct g163 (a := .con (.ref 163)) rfl ?_
    repeat wtm_at "a1"
    refine ⟨kpr_fn A1 O.words, cal_words (d := d + 8) (xs := xs) A.toAct O hh N.lt N.ne (by wtm_at "om") (by wtm_at "mm") fun l2 ps => ?_⟩
    refine sto_local (by wtm_at "pt") (nx ?_)
    refine AWp.weak (ow' := (172, .obj (tabObj #[])) :: (l2, .list (List.replicate xs.length (.str aB))) :: (141, .obj (tabObj ps)) :: (30, .obj (tabObj #[])) :: (37, .obj (tabObj #[])) :: (D2, .list (xs.map fun (x : Nat) => .str (hid x 5))) :: (D, .list (Ro.map .int)) :: (c.L + 1, .cell (some (.ref ls))) :: ow) (by wtm_at "pks") ?_
    refine sx_cons (sx_assign ?_)
    refine ev_call ?_
    refine ld_global A.toAct g177 (a := .con (.ref 177)) rfl ?_
    refine args_cons ?_
    refine ev_call ?_
    refine ld_global A.toAct g170 (a := .con (.ref 170)) rfl ?_
    repeat wtm_at "a1"
    refine ⟨kpr_fn A1 O.far, cal_far (d := d + 11) (xs := xs) A.toAct O hh N.lt (by wtm_at "om") (by wtm_at "mm") (by wtm_at "mm") fun l3 => ?_⟩
    repeat wtm_at "a1"
    refine ⟨kpr_fn A1 O.counts, Cal.weak (ow' := (172, .obj (tabObj #[])) :: (l3, .list ((xs.map fun x => 2 * (ones5 x : Int)).map .int)) :: (l2, .list (List.replicate xs.length (.str aB))) :: (141, .obj (tabObj ps)) :: (30, .obj (tabObj #[])) :: (37, .obj (tabObj #[])) :: (D2, .list (xs.map fun (x : Nat) => .str (hid x 5))) :: (D, .list (Ro.map .int)) :: (c.L + 1, .cell (some (.ref ls))) :: ow) (by wtm_at "pks") (cal_counts (d := d + 6) (ks := xs.map fun x => 2 * (ones5 x : Int)) A O hh (by rw [List.length_map]; wtm_at "om") (by wtm_at "mm") fun l4 c' => ?_)⟩
    obtain ⟨cs, hcs⟩ : ∃ cs, cs = cntL (xs.map fun x => 2 * (ones5 x : Int)) 6 := ⟨_, rfl⟩
    obtain ⟨ds, hds⟩ : ∃ ds, ds = toldM Ro Sh 32 := ⟨_, rfl⟩
    have hS1 := N.S1
    have hS2 := N.S2
    have hcb := N.cb
    have htb := N.tb
    have hcl : cs.length = 6 := by rw [hcs]; rfl
    have hdl : ds.length = 6 := by rw [hds]; exact toldM_len _ _ _
    rw [← hcs] at hS1 hS2 hcb ⊢
    rw [← hds] at hS1 hS2 htb
    refine sto_local (by wtm_at "pt") (nx ?_)
    generalize #[rawInt (lamPos tolE).line, rawInt (lamPos tolE).col, .ref c'] = p1
    have hxp : 1 ≤ xs.length := by
      have := N.ne
      cases xs with
      | nil => exact absurd rfl this
      | cons => simp
    refine AWp.weak (ow' := (l4, .list (cs.map .int)) :: (172, .obj (tabObj p1)) :: (l2, .list (List.replicate xs.length (.str aB))) :: (141, .obj (tabObj ps)) :: (30, .obj (tabObj #[])) :: (37, .obj (tabObj #[])) :: (D2, .list (xs.map fun (x : Nat) => .str (hid x 5))) :: (D, .list (Ro.map .int)) :: (c.L + 1, .cell (some (.ref ls))) :: ow) (by wtm_at "pks") ?_
    refine sx_cons (sx_if (bx_or (bx_cmp ?_)))
    repeat wtm_at "a1"
    refine ev_list ?_
    repeat wtm_at "a1"
    refine ⟨by simp, fun l5 => ?_⟩
    refine c_eqls0 (ss := List.replicate xs.length aB) hu (by wtm_at "mm") (by wtm_at "mm") (by rw [List.map_replicate]) (fun x hx => by rw [(List.mem_replicate.mp hx).2]; decide +kernel) ?_
    repeat wtm_at "a1"
    refine br_no (decide_eq_false (by intro e; have h2 : xs.length = 0 := by { have := congrArg List.length e; rw [List.length_replicate] at this; exact this }; wtm_at "om")) ?_
    refine bx_or (bx_cmp ?_)
    repeat wtm_at "a1"
    refine ev_list ?_
    repeat wtm_at "a1"
    refine ⟨by simp, fun l6 => ?_⟩
    refine c_eqli (ys := []) (ns := cs) (ms := []) hu (by wtm_at "mm") (.head _) rfl rfl ?_
    repeat wtm_at "a1"
    refine br_no (decide_eq_false (by intro e; rw [e] at hcl; cases hcl)) ?_
    refine bx_or_nil ?_
    refine br_no rfl ?_
    repeat wtm_at "a1"
    refine ld_global A.toAct g182 (a := .con (.ref 182)) rfl ?_
    repeat wtm_at "a1"
    have hmod : ∀ x : Int, 0 ≤ x.fmod 32 ∧ x.fmod 32 < 32 := fun x => by rw [Int.fmod_eq_emod_of_nonneg _ (by decide)]; wtm_at "om"
    refine ⟨kpr_fn A1 O.told, cal_told (rows := Ro) (shift := Sh) (d := d + 13) A1 O hh (by wtm_at "om") ?_ (by rw [hSh]; exact (hmod _).1) (by rw [hSh]; exact (hmod _).2) (by wtm_at "mm") fun l7 => ?_⟩
    · intro r hr
      rw [hRo] at hr
      obtain ⟨k, _, rfl⟩ := List.mem_map.mp hr
      exact hmod _
    rw [← hds]
    refine sto_local (by wtm_at "pt") (nx ?_)
    refine AWp.weak (ow' := (l7, .list (ds.map .int)) :: (l4, .list (cs.map .int)) :: (172, .obj (tabObj p1)) :: (141, .obj (tabObj ps)) :: (30, .obj (tabObj #[])) :: (37, .obj (tabObj #[])) :: (D2, .list (xs.map fun (x : Nat) => .str (hid x 5))) :: (c.L + 1, .cell (some (.ref ls))) :: ow) (by wtm_at "pks") ?_
    refine sx_cons (sx_assign (ev_list ?_))
    refine args_cons ?_
    refine ev_bin (ev_int ?_)
    refine ev_bin ?_
    refine ev_call ?_
    refine ld_builtin A1 gl (v := .builtin "len") (by kernel_rfl) (a := .con (.builtin "len")) rfl ?_
    refine args_cons ?_
    refine ev_name (ld_cell (d := c.L + 1) (by kernel_rfl) (by wtm_at "mm") ?_)
    repeat wtm_at "a1"
    refine ⟨kb, cal_len_listG (xs := sc.map .int) hG (by simp; wtm_at "om") ?_⟩
    rw [List.length_map]
    repeat wtm_at "a1"
    refine b_mod ?_ (by decide)
    repeat wtm_at "a1"
    refine ⟨by simp, fun l8 => ?_⟩
    obtain ⟨n3, hn3⟩ : ∃ n3, n3 = sc.length % 3 := ⟨_, rfl⟩
    rw [show ((sc.length : Nat) : Int).fmod 3 = ((n3 : Nat) : Int) by rw [hn3, show (3 : Int) = ((3 : Nat) : Int) from rfl, n_mod], show (5 : Int) + (n3 : Int) = ((5 + n3 : Nat) : Int) by wtm_at "om"]
    refine sto_local (by wtm_at "pt") (nx ?_)
    have hwid : ∀ k : Nat, k < 2 → ∃ w : Nat, ([AV.int ((5 + n3 : Nat) : Int), .int 2003])[k]? = some (.int w) ∧ 5 ≤ w ∧ w ≤ 2003 := by
      intro k hk
      match k, hk with
      | 0, _ => exact ⟨5 + n3, rfl, by wtm_at "om", by wtm_at "om"⟩
      | 1, _ => exact ⟨2003, rfl, by wtm_at "om", by wtm_at "om"⟩
    obtain ⟨n2, hn2⟩ : ∃ n2, n2 = sc.length % 2 := ⟨_, rfl⟩
    have hn22 : n2 < 2 := by wtm_at "om"
    have hn2e : ((sc.length : Nat) : Int).fmod 2 = ((n2 : Nat) : Int) := by rw [hn2, show (2 : Int) = ((2 : Nat) : Int) from rfl, n_mod]
    refine sx_cons (sx_if (bx_cmp ?_))
    refine ev_call ?_
    refine ld_global A.toAct g187 (a := .con (.ref 187)) rfl ?_
    repeat wtm_at "a1"
    refine ld_builtin A1 gl (v := .builtin "len") (by kernel_rfl) (a := .con (.builtin "len")) rfl ?_
    repeat wtm_at "a1"
    refine ⟨kb, cal_len_list (xs := xs.map fun (x : Nat) => .str (hid x 5)) (by wtm_at "mm") (by simp; wtm_at "om") ?_⟩
    rw [List.length_map]
    repeat wtm_at "a1"
    refine ld_builtin A1 gl (v := .builtin "len") (by kernel_rfl) (a := .con (.builtin "len")) rfl ?_
    refine args_cons ?_
    refine ev_name (ld_cell (d := c.L + 1) (by kernel_rfl) (by wtm_at "mm") ?_)
    repeat wtm_at "a1"
    refine ⟨kb, cal_len_listG (xs := sc.map .int) hG (by simp; wtm_at "om") ?_⟩
    rw [List.length_map]
    repeat wtm_at "a1"
    refine b_mod ?_ (by decide)
    rw [hn2e]
    refine bc fun hG => ?_
    obtain ⟨w1, hw1, hw1a, hw1b⟩ := hwid n2 hn22
    refine hG ?_
    clear hG
    refine sub_list (x := .int w1) (.head _) (by wtm_at "om") (by wtm_at "om") (by rw [Int.toNat_natCast]; exact hw1) ?_
    repeat wtm_at "a1"
    refine ⟨kpr_fn A1 O.turned, Cal.weak (ow' := [(30, .obj (tabObj #[]))] ++ ([(37, .obj (tabObj #[]))] ++ ((l8, .list [.int ((5 + n3 : Nat) : Int), .int 2003]) :: (l7, .list (ds.map .int)) :: (l4, .list (cs.map .int)) :: (172, .obj (tabObj p1)) :: (141, .obj (tabObj ps)) :: (D2, .list (xs.map fun (x : Nat) => .str (hid x 5))) :: (c.L + 1, .cell (some (.ref ls))) :: ow))) (by simp only [List.cons_append, List.nil_append]; wtm_at "pks") (cal_turned (d := d) (w := w1) (s := xs.length) (cs := cs) (ds := ds) A O hh hw1a hw1b hxp (by wtm_at "om") hcl (fun c hc => by have := hcb c hc; wtm_at "om") hdl htb (hS1 _) (.inl rfl) (.inl rfl) (by wtm_at "mm") fun l9 t1 t2 T1 T2 => ?_)⟩
    repeat wtm_at "a1"
    refine c_neli (ns := ds) (ms := ds) hu (.head _) (.tail _ (List.mem_append_right _ (List.mem_append_right _ (.tail _ (.head _))))) rfl rfl ?_
    repeat wtm_at "a1"
    refine br_no (by simp) ?_
    refine AWp.weak (ow' := t1 ++ (t2 ++ ((l8, .list [.int ((5 + n3 : Nat) : Int), .int 2003]) :: (l7, .list (ds.map .int)) :: (l4, .list (cs.map .int)) :: (172, .obj (tabObj p1)) :: (141, .obj (tabObj ps)) :: (D2, .list (xs.map fun (x : Nat) => .str (hid x 5))) :: (c.L + 1, .cell (some (.ref ls))) :: ow))) (.drop .all) ?_
    have mm2 : ∀ {p : Addr × AO} {r : OW}, p ∈ r → p ∈ t1 ++ (t2 ++ r) := fun hp => List.mem_append_right _ (List.mem_append_right _ hp)
    repeat wtm_at "a1"
    refine ld_global A.toAct g187 (a := .con (.ref 187)) rfl ?_
    repeat wtm_at "a1"
    refine ld_builtin A1 gl (v := .builtin "len") (by kernel_rfl) (a := .con (.builtin "len")) rfl ?_
    repeat wtm_at "a1"
    refine ⟨kb, cal_len_list (xs := xs.map fun (x : Nat) => .str (hid x 5)) (mm2 (by wtm_at "mm")) (by simp; wtm_at "om") ?_⟩
    rw [List.length_map]
    repeat wtm_at "a1"
    refine b_fdiv ?_ (by wtm_at "om") (PyProof.noPylong_small (by wtm_at "om"))
    rw [show (32 : Int).fdiv (xs.length : Nat) = ((32 / xs.length : Nat) : Int) by rw [show (32 : Int) = ((32 : Nat) : Int) from rfl, n_div]]
    repeat wtm_at "a1"
    refine ld_builtin A1 gl (v := .builtin "len") (by kernel_rfl) (a := .con (.builtin "len")) rfl ?_
    refine args_cons ?_
    refine ev_name (ld_cell (d := c.L + 1) (by kernel_rfl) (mm2 (by wtm_at "mm")) ?_)
    repeat wtm_at "a1"
    refine ⟨kb, cal_len_listG (xs := sc.map .int) hG (by simp; wtm_at "om") ?_⟩
    rw [List.length_map]
    repeat wtm_at "a1"
    refine b_mod ?_ (by decide)
    rw [hn2e]
    repeat wtm_at "a1"
    rw [show (1 : Int) - (n2 : Nat) = ((1 - n2 : Nat) : Int) by wtm_at "om"]
    refine bc fun hG => ?_
    obtain ⟨w2, hw2, hw2a, hw2b⟩ := hwid (1 - n2) (by wtm_at "om")
    refine hG ?_
    clear hG
    refine sub_list (x := .int w2) (mm2 (.head _)) (by wtm_at "om") (by wtm_at "om") (by rw [Int.toNat_natCast]; exact hw2) ?_
    repeat wtm_at "a1"
    have hdiv : 1 ≤ 32 / xs.length ∧ 32 / xs.length ≤ 32 := ⟨(Nat.le_div_iff_mul_le (by wtm_at "om")).mpr (by wtm_at "om"), Nat.div_le_self _ _⟩
    refine ⟨kpr_fn A1 O.turned, cal_turned (d := d) (w := w2) (s := 32 / xs.length) (cs := ds) (ds := cs) A O hh hw2a hw2b hdiv.1 hdiv.2 hdl (fun c hc => by have := htb c hc; wtm_at "om") hcl hcb (hS2 _) T1 T2 (by wtm_at "mm") fun l10 t1' t2' T1' T2' => ?_⟩
    have mm3 : ∀ {p q : Addr × AO} {r : OW}, p ∈ r → p ∈ q :: (t1' ++ (t2' ++ r)) := fun hp => .tail _ (List.mem_append_right _ (List.mem_append_right _ hp))
    repeat wtm_at "a1"
    refine c_eqli (ns := cs) (ms := cs) hu (.head _) (mm3 (by wtm_at "mm")) rfl rfl ?_
    rw [decide_eq_true rfl]
    refine nx_ret ?_
    refine h _ _ _ _ p1 ps T1' T2' (.drop (.appl t1' (.appl t2' ?_)))
    wtm_at "pks"
  · repeat wtm_at "a1"
    refine ld_builtin A.toAct ge (v := .type "enumerate") (by kernel_rfl) (a := .con (.type "enumerate")) rfl ?_
    repeat wtm_at "a1"
    refine ev_list ?_
    repeat wtm_at "a1"
    refine ⟨by simp, fun l => ?_⟩
    repeat wtm_at "a1"
    refine ⟨kt, cal_enum fun e it => ?_⟩
    exact ⟨e, it, l, _, rfl, .all, rfl, by wtm_at "om", rfl, rfl⟩
end
end

section
noncomputable def par (n : Nat) : Nat := (2523490710 >>> n) % 2
theorem par_lt (n : Nat) : par n < 2 := Nat.mod_lt _ (by decide)
theorem par_odd : ∀ n : Nat, n < 32 → odd5 (n : Int) = (par n : Int) := by decide +kernel
theorem par_xor : ∀ u : Nat, u < 32 → ∀ v : Nat, v < 32 → par (u ^^^ v) = (par u + par v) % 2 := by decide +kernel
theorem xor_sum : ∀ u : Nat, u < 32 → ∀ v : Nat, v < 32 → u + v = (u ^^^ v) + 2 * (u &&& v) := by decide +kernel
theorem xor_lt : ∀ u : Nat, u < 32 → ∀ v : Nat, v < 32 → (u ^^^ v) < 32 := by decide +kernel
noncomputable def chi (x y : Nat) : Int := 1 - 2 * (par (y &&& x) : Int)
theorem chi_cases (x y : Nat) : chi x y = 1 ∨ chi x y = -1 := by
  unfold chi; have := par_lt (y &&& x); wtm_at "om"
theorem and_lt32 {y x : Nat} (h : x < 32) : y &&& x < 32 := Nat.lt_of_le_of_lt Nat.and_le_right h
theorem chi_xor {a b : Nat} (y : Nat) (ha : a < 32) (hb : b < 32) : chi (a ^^^ b) y = chi a y * chi b y := by
  unfold chi
  rw [Nat.and_xor_distrib_left, par_xor _ (and_lt32 ha) _ (and_lt32 hb)]
  have h1 := par_lt (y &&& a)
  have h2 := par_lt (y &&& b)
  have e1 : par (y &&& a) = 0 ∨ par (y &&& a) = 1 := by wtm_at "om"
  have e2 : par (y &&& b) = 0 ∨ par (y &&& b) = 1 := by wtm_at "om"
  rcases e1 with e1 | e1 <;> rcases e2 with e2 | e2 <;> rw [e1, e2] <;> decide
noncomputable def famSN (s : Nat) (F : List Nat) (r : Nat) : List Nat := if s ^^^ r ∉ F then F ++ F.map fun x => x ^^^ r else F
theorem bxor_n {a b : Nat} (ha : a < 32) (hb : b < 32) : Builtin.bitXor (a : Int) (b : Int) = ((a ^^^ b : Nat) : Int) := by
  rw [bitXor_and, bitAnd_pp (Int.natCast_nonneg _) (Int.natCast_nonneg _), Int.toNat_natCast, Int.toNat_natCast]
  have := xor_sum a ha b hb
  wtm_at "om"
noncomputable abbrev nI' (x : Nat) : Int := (x : Int)
theorem famS_n {s r : Nat} {F : List Nat} (hs : s < 32) (hr : r < 32) (hF : ∀ x ∈ F, x < 32) : famS (s : Int) (F.map nI') (r : Int) = (famSN s F r).map nI' := by
  unfold famS famSN
  rw [bxor_n hs hr]
  have hm : (((s ^^^ r : Nat) : Int) ∈ F.map nI') ↔ (s ^^^ r ∈ F) := by
    rw [List.mem_map]
    exact ⟨fun ⟨x, hx, e⟩ => by have : x = s ^^^ r := Int.ofNat.inj e; exact this ▸ hx, fun h => ⟨_, h, rfl⟩⟩
  by_cases h : s ^^^ r ∈ F
  · rw [if_neg (fun k => k (hm.mpr h)), if_neg (fun k => k h)]
  · rw [if_pos (fun k => h (hm.mp k)), if_pos h, List.map_append, List.map_map, List.map_map]
    refine congrArg _ (List.map_congr_left fun x hx => ?_)
    exact bxor_n (hF x hx) hr
noncomputable abbrev Orth (R : List Nat) (y : Nat) : Prop := ∀ r ∈ R, par (y &&& r) = 0
noncomputable def chS (F : List Nat) (y : Nat) : Int := (F.map fun x => chi x y).sum
theorem chS_app (F G : List Nat) (y : Nat) : chS (F ++ G) y = chS F y + chS G y := by unfold chS; rw [List.map_append, List.sum_append]
theorem chS_xor {F : List Nat} {r : Nat} (y : Nat) (hr : r < 32) : (∀ x ∈ F, x < 32) → chS (F.map fun x => x ^^^ r) y = chS F y * chi r y := by
  induction F with
  | nil => intro _; simp [chS]
  | cons x F ih =>
    intro h
    have e1 : chS ((x :: F).map fun x => x ^^^ r) y = chi (x ^^^ r) y + chS (F.map fun x => x ^^^ r) y := by unfold chS; rw [List.map_cons, List.map_cons, List.sum_cons]
    have e2 : chS (x :: F) y = chi x y + chS F y := by unfold chS; rw [List.map_cons, List.sum_cons]
    rw [e1, e2, ih fun x hx => h x (.tail _ hx), chi_xor y (h x (.head _)) hr, Int.add_mul]
structure FInv (s : Nat) (R F : List Nat) : Prop where
  lt : ∀ x ∈ F, x < 32
  pw : ∃ k, k ≤ R.length ∧ F.length = 2 ^ k
  same : ∀ y, Orth R y → ∀ x ∈ F, chi x y = chi s y
  sum1 : ∀ y, Orth R y → chS F y = F.length * chi s y
  sum0 : ∀ y, ¬ Orth R y → chS F y = 0
theorem chi_par {r y : Nat} : chi r y = 1 ↔ par (y &&& r) = 0 := by
  unfold chi; have := par_lt (y &&& r); wtm_at "om"
theorem chi_par' {r y : Nat} (h : ¬ par (y &&& r) = 0) : chi r y = -1 := by
  unfold chi; have := par_lt (y &&& r); wtm_at "om"
theorem orth_snoc {R : List Nat} {r y : Nat} : Orth (R ++ [r]) y ↔ Orth R y ∧ par (y &&& r) = 0 := by
  constructor
  · exact fun h => ⟨fun a ha => h a (List.mem_append_left _ ha), h r (List.mem_append_right _ (.head _))⟩
  · rintro ⟨h1, h2⟩ a ha
    rcases List.mem_append.mp ha with ha | ha
    · exact h1 a ha
    · rw [List.mem_singleton.mp ha]; exact h2
theorem finv_step {s r : Nat} {R F : List Nat} (hs : s < 32) (hr : r < 32) (I : FInv s R F) : FInv s (R ++ [r]) (famSN s F r) := by
  unfold famSN
  by_cases h : s ^^^ r ∈ F
  · rw [if_neg (fun k => k h)]
    have key : ∀ y, Orth R y → par (y &&& r) = 0 := by
      intro y hy
      have h1 := I.same y hy _ h
      rw [chi_xor y hs hr] at h1
      apply chi_par.mp
      rcases chi_cases s y with e | e <;> rw [e] at h1 <;> wtm_at "om"
    refine ⟨I.lt, ?_, fun y hy => I.same y (orth_snoc.mp hy).1, fun y hy => I.sum1 y (orth_snoc.mp hy).1, fun y hy => I.sum0 y fun h => hy (orth_snoc.mpr ⟨h, key y h⟩)⟩
    obtain ⟨k, hk, e⟩ := I.pw
    exact ⟨k, by simp; wtm_at "om", e⟩
  · rw [if_pos h]
    refine ⟨?_, ?_, ?_, ?_, ?_⟩
    · intro x hx
      rcases List.mem_append.mp hx with hx | hx
      · exact I.lt x hx
      · obtain ⟨z, hz, rfl⟩ := List.mem_map.mp hx
        exact xor_lt z (I.lt z hz) r hr
    · obtain ⟨k, hk, e⟩ := I.pw
      exact ⟨k + 1, by simp; wtm_at "om", by rw [List.length_append, List.length_map, e, Nat.pow_succ]; wtm_at "om"⟩
    · intro y hy x hx
      obtain ⟨h1, h2⟩ := orth_snoc.mp hy
      rcases List.mem_append.mp hx with hx | hx
      · exact I.same y h1 x hx
      · obtain ⟨z, hz, rfl⟩ := List.mem_map.mp hx
        rw [chi_xor y (I.lt z hz) hr, chi_par.mpr h2, I.same y h1 z hz, Int.mul_one]
    · intro y hy
      obtain ⟨h1, h2⟩ := orth_snoc.mp hy
      rw [chS_app, chS_xor y hr I.lt, chi_par.mpr h2, I.sum1 y h1, List.length_append, List.length_map]
      rw [Int.mul_one, Int.natCast_add, Int.add_mul]
    · intro y hy
      rw [chS_app, chS_xor y hr I.lt]
      by_cases h2 : par (y &&& r) = 0
      · have h1 : ¬ Orth R y := fun k => hy (orth_snoc.mpr ⟨k, h2⟩)
        rw [I.sum0 y h1, chi_par.mpr h2]; rfl
      · rw [chi_par' h2]; wtm_at "om"
theorem finv_all {s : Nat} (hs : s < 32) : ∀ (R R0 F : List Nat), (∀ r ∈ R, r < 32) → FInv s R0 F → FInv s (R0 ++ R) (R.foldl (famSN s) F) ∧ (R.map nI').foldl (famS (s : Int)) (F.map nI') = (R.foldl (famSN s) F).map nI'
  | [], R0, F, _, I => by rw [List.append_nil]; exact ⟨I, rfl⟩
  | r :: R, R0, F, h, I => by
    have hr := h r (.head _)
    have I' := finv_step hs hr I
    have := finv_all hs R (R0 ++ [r]) _ (fun a ha => h a (.tail _ ha)) I'
    rw [List.append_assoc] at this
    refine ⟨this.1, ?_⟩
    rw [List.map_cons, List.foldl_cons, List.foldl_cons, famS_n hs hr I.lt]
    exact this.2
theorem finv_base {s : Nat} (hs : s < 32) : FInv s [] [s] := by
  refine ⟨fun x hx => by rw [List.mem_singleton.mp hx]; exact hs, ⟨0, Nat.le_refl _, rfl⟩, fun y _ x hx => by rw [List.mem_singleton.mp hx], fun y _ => ?_, fun y hy => absurd (fun r hr => nomatch hr) hy⟩
  unfold chS
  simp
end

section
noncomputable def kraw (k j : Nat) : Int := (([[1, 5, 10, 10, 5, 1], [1, 3, 2, -2, -3, -1], [1, 1, -2, -2, 1, 1], [1, -1, -2, 2, 1, -1], [1, -3, 2, 2, -3, 1], [1, -5, 10, -10, 5, -1]] : List (List Int)).getD k []).getD j 0
noncomputable def wrd (j : Nat) : List Nat := (List.range 32).filter fun y => ones5 y = j
theorem kraw_chi : ∀ x : Nat, x < 32 → ∀ j : Nat, j < 6 → ((wrd j).map fun y => chi x y).sum = kraw (ones5 x) j := by decide +kernel
theorem sum_swap {α β : Type} (f : α → β → Int) (ys : List β) : ∀ xs : List α, (xs.map fun x => (ys.map fun y => f x y).sum).sum = (ys.map fun y => (xs.map fun x => f x y).sum).sum
  | [] => by
    have : ∀ l : List β, (l.map fun _ => (0 : Int)).sum = 0 := by intro l; induction l with | nil => rfl | cons a l ih => rw [List.map_cons, List.sum_cons, ih]; rfl
    exact (this ys).symm
  | x :: xs => by
    rw [List.map_cons, List.sum_cons, sum_swap f ys xs]
    have : ∀ l : List β, (l.map fun y => f x y).sum + (l.map fun y => (xs.map fun x => f x y).sum).sum = (l.map fun y => ((x :: xs).map fun x => f x y).sum).sum := by
      intro l
      induction l with
      | nil => rfl
      | cons a l ih =>
        rw [List.map_cons, List.map_cons, List.map_cons, List.sum_cons, List.sum_cons, List.sum_cons, ← ih, List.map_cons, List.sum_cons]; wtm_at "om"
    exact this ys
noncomputable def cnt (F : List Nat) (k : Nat) : Nat := F.countP fun x => ones5 x = k
theorem ones5_le (x : Nat) (h : x < 32) : ones5 x ≤ 5 := (ones5_get h).2
theorem sum_cnt (f : Nat → Int) : ∀ F : List Nat, (∀ x ∈ F, x < 32) → (F.map fun x => f (ones5 x)).sum = cnt F 0 * f 0 + cnt F 1 * f 1 + cnt F 2 * f 2 + cnt F 3 * f 3 + cnt F 4 * f 4 + cnt F 5 * f 5
  | [], _ => by simp [cnt]
  | x :: F, h => by
    rw [List.map_cons, List.sum_cons, sum_cnt f F fun x hx => h x (.tail _ hx)]
    have hc : ∀ k, cnt (x :: F) k = cnt F k + if ones5 x = k then 1 else 0 := by
      intro k
      unfold cnt
      rw [List.countP_cons]
      simp
    have h5 := ones5_le x (h x (.head _))
    rw [hc, hc, hc, hc, hc, hc]
    have hk : ones5 x = 0 ∨ ones5 x = 1 ∨ ones5 x = 2 ∨ ones5 x = 3 ∨ ones5 x = 4 ∨ ones5 x = 5 := by wtm_at "om"
    rcases hk with e | e | e | e | e | e <;> rw [e] <;> simp only [Nat.reduceEqDiff, if_true, if_false, Nat.add_zero, Int.natCast_add, Int.add_mul, Int.natCast_one, Int.one_mul] <;> wtm_at "om"
/-- what told holds -/
noncomputable def tsum (R : List Nat) (s n j : Nat) : Int := (((List.range n).filter fun y => ones5 y = j ∧ Orth R y).map fun y => chi s y).sum
theorem band_n {a b : Nat} : Builtin.bitAnd (a : Int) (b : Int) = ((a &&& b : Nat) : Int) := by
  rw [bitAnd_pp (Int.natCast_nonneg _) (Int.natCast_nonneg _), Int.toNat_natCast, Int.toNat_natCast]
theorem told_tsum {R : List Nat} {s : Nat} (hs : s < 32) (hR : ∀ r ∈ R, r < 32) : ∀ n, n ≤ 32 → toldM (R.map nI') (s : Int) n = (List.range 6).map fun j => tsum R s n j
  | 0, _ => rfl
  | n + 1, hn => by
    have ih := told_tsum hs hR n (by wtm_at "om")
    have h5 := ones5_le n (by wtm_at "om")
    show toldS _ _ (toldM _ _ n) n = _
    rw [ih]
    unfold toldS
    have hf : ((R.map nI').filter (fun r => decide (odd5 (Builtin.bitAnd n r) ≠ 0)) = []) ↔ Orth R n := by
      rw [List.filter_eq_nil_iff]
      constructor
      · intro h r hr
        have := h (nI' r) (List.mem_map_of_mem hr)
        rw [band_n, par_odd _ (and_lt32 (hR r hr))] at this
        simp at this
        wtm_at "om"
      · intro h a ha
        obtain ⟨r, hr, rfl⟩ := List.mem_map.mp ha
        rw [band_n, par_odd _ (and_lt32 (hR r hr)), h r hr]; simp
    have ho : (1 : Int) - 2 * odd5 (Builtin.bitAnd n s) = chi s n := by rw [band_n, par_odd _ (and_lt32 hs)]; rfl
    have hsum : ∀ j, tsum R s (n + 1) j = tsum R s n j + if ones5 n = j ∧ Orth R n then chi s n else 0 := by
      intro j
      unfold tsum
      rw [List.range_succ, List.filter_append, List.map_append, List.sum_append]
      congr 1
      by_cases e : ones5 n = j ∧ Orth R n
      · rw [if_pos e, List.filter_cons_of_pos (by simpa using e)]; simp
      · rw [if_neg e, List.filter_cons_of_neg (by simpa using e)]; simp
    by_cases hO : Orth R n
    · rw [if_pos (hf.mpr hO), ho]
      refine List.ext_getElem (by simp) fun i h1 h2 => ?_
      have hi : i < 6 := by simpa using h2
      rw [List.getElem_set, List.getElem_map, List.getElem_map, List.getElem_range]
      rw [hsum]
      by_cases e : ones5 n = i
      · rw [if_pos e, if_pos ⟨e, hO⟩, e, List.getD_eq_getElem?_getD, List.getElem?_eq_getElem (by simpa using hi), List.getElem_map, List.getElem_range]; rfl
      · rw [if_neg e, if_neg (fun k => e k.1), Int.add_zero]
    · rw [if_neg (fun k => hO (hf.mp k))]
      refine List.map_congr_left fun j _ => ?_
      rw [hsum, if_neg (fun k => hO k.2), Int.add_zero]
theorem told_bound {R : List Nat} {s : Nat} : ∀ j, j < 6 → -16 < tsum R s 32 j ∧ tsum R s 32 j < 16 := by
  intro j hj
  have hb : ∀ l : List Nat, -(l.length : Int) ≤ (l.map fun y => chi s y).sum ∧ (l.map fun y => chi s y).sum ≤ l.length := by
    intro l
    induction l with
    | nil => exact ⟨Int.le_refl _, Int.le_refl _⟩
    | cons a l ih =>
      rw [List.map_cons, List.sum_cons, List.length_cons]
      have := chi_cases s a
      wtm_at "om"
  have hl : ((List.range 32).filter fun y => ones5 y = j ∧ Orth R y).length ≤ (wrd j).length := by
    unfold wrd
    have : ((List.range 32).filter fun y => ones5 y = j ∧ Orth R y) = ((List.range 32).filter fun y => ones5 y = j).filter fun y => Orth R y := by
      rw [List.filter_filter]
      congr 1
      funext y
      simp [Bool.and_comm]
    rw [this]
    exact List.length_filter_le _ _
  have h10 : ∀ j, j < 6 → (wrd j).length ≤ 10 := by decide +kernel
  have := h10 j hj
  have h := hb ((List.range 32).filter fun y => ones5 y = j ∧ Orth R y)
  unfold tsum
  wtm_at "om"
theorem mac {s : Nat} {R F : List Nat} (I : FInv s R F) (j : Nat) (hj : j < 6) : (cnt F 0 : Int) * kraw 0 j + cnt F 1 * kraw 1 j + cnt F 2 * kraw 2 j + cnt F 3 * kraw 3 j + cnt F 4 * kraw 4 j + cnt F 5 * kraw 5 j = F.length * tsum R s 32 j := by
  rw [← sum_cnt (fun k => kraw k j) F I.lt]
  have e1 : (F.map fun x => kraw (ones5 x) j) = F.map fun x => ((wrd j).map fun y => chi x y).sum := List.map_congr_left fun x hx => (kraw_chi x (I.lt x hx) j hj).symm
  rw [e1, sum_swap]
  have e2 : tsum R s 32 j = (((wrd j).filter fun y => Orth R y).map fun y => chi s y).sum := by
    unfold tsum wrd
    rw [List.filter_filter]
    congr 2
    congr 1
    funext y
    simp [Bool.and_comm]
  rw [e2]
  generalize wrd j = W
  induction W with
  | nil => simp
  | cons y W ih =>
    rw [List.map_cons, List.sum_cons, ih]
    by_cases h : Orth R y
    · rw [List.filter_cons_of_pos (by simpa using h), List.map_cons, List.sum_cons, Int.mul_add]
      rw [show (F.map fun x => chi x y).sum = _ from I.sum1 y h]
    · rw [List.filter_cons_of_neg (by simpa using h), show (F.map fun x => chi x y).sum = _ from I.sum0 y h, Int.zero_add]
theorem turn6 (B c0 c1 c2 c3 c4 c5 : Int) : turnS B [c0, c1, c2, c3, c4, c5] = (c0 + c1 + c2 + c3 + c4 + c5) + (5 * c0 + 3 * c1 + c2 - c3 - 3 * c4 - 5 * c5) * B + (10 * c0 + 2 * c1 - 2 * c2 - 2 * c3 + 2 * c4 + 10 * c5) * B ^ 2 + (10 * c0 - 2 * c1 - 2 * c2 + 2 * c3 + 2 * c4 - 10 * c5) * B ^ 3 + (5 * c0 - 3 * c1 + c2 + c3 - 3 * c4 + 5 * c5) * B ^ 4 + (c0 - c1 + c2 - c3 + c4 - c5) * B ^ 5 := by
  have : turnS B [c0, c1, c2, c3, c4, c5] = c0 * (1 + B) ^ 5 * (1 - B) ^ 0 + c1 * (1 + B) ^ 4 * (1 - B) ^ 1 + c2 * (1 + B) ^ 3 * (1 - B) ^ 2 + c3 * (1 + B) ^ 2 * (1 - B) ^ 3 + c4 * (1 + B) ^ 1 * (1 - B) ^ 4 + c5 * (1 + B) ^ 0 * (1 - B) ^ 5 := by
    unfold turnS
    simp [List.range, List.range.loop]
    wtm_at "om"
  rw [this]
  grind
end

section
theorem cntL_cnt (F : List Nat) : cntL (F.map fun x => 2 * (ones5 x : Int)) 6 = [(cnt F 0 : Int), (cnt F 1 : Int), (cnt F 2 : Int), (cnt F 3 : Int), (cnt F 4 : Int), (cnt F 5 : Int)] := by
  have h : ∀ j : Nat, (F.map fun x => 2 * (ones5 x : Int)).count (2 * (j : Int)) = cnt F j := by
    intro j
    unfold cnt
    rw [List.count_eq_countP, List.countP_map]
    refine List.countP_congr fun x _ => ?_
    simp only [Function.comp, beq_iff_eq, decide_eq_true_eq]
    wtm_at "om"
  unfold cntL
  simp only [h]
  rfl
theorem told_t {R : List Nat} {s : Nat} (hs : s < 32) (hR : ∀ r ∈ R, r < 32) : toldM (R.map nI') (s : Int) 32 = [tsum R s 32 0, tsum R s 32 1, tsum R s 32 2, tsum R s 32 3, tsum R s 32 4, tsum R s 32 5] := by
  rw [told_tsum hs hR 32 (Nat.le_refl _)]; rfl
theorem ring1 (B L c0 c1 c2 c3 c4 c5 t0 t1 t2 t3 t4 t5 : Int) (h0 : c0 + c1 + c2 + c3 + c4 + c5 = L * t0) (h1 : 5 * c0 + 3 * c1 + c2 - c3 - 3 * c4 - 5 * c5 = L * t1) (h2 : 10 * c0 + 2 * c1 - 2 * c2 - 2 * c3 + 2 * c4 + 10 * c5 = L * t2)
    (h3 : 10 * c0 - 2 * c1 - 2 * c2 + 2 * c3 + 2 * c4 - 10 * c5 = L * t3) (h4 : 5 * c0 - 3 * c1 + c2 + c3 - 3 * c4 + 5 * c5 = L * t4) (h5 : c0 - c1 + c2 - c3 + c4 - c5 = L * t5) : turnS B [c0, c1, c2, c3, c4, c5] = L * polyS B [t0, t1, t2, t3, t4, t5] := by
  rw [turn6, poly6, h0, h1, h2, h3, h4, h5]
  grind
theorem ring2 (L c0 c1 c2 c3 c4 c5 t0 t1 t2 t3 t4 t5 : Int) (hL : L = 1 ∨ L = 2 ∨ L = 4 ∨ L = 8) (h0 : c0 + c1 + c2 + c3 + c4 + c5 = L * t0) (h1 : 5 * c0 + 3 * c1 + c2 - c3 - 3 * c4 - 5 * c5 = L * t1) (h2 : 10 * c0 + 2 * c1 - 2 * c2 - 2 * c3 + 2 * c4 + 10 * c5 = L * t2)
    (h3 : 10 * c0 - 2 * c1 - 2 * c2 + 2 * c3 + 2 * c4 - 10 * c5 = L * t3) (h4 : 5 * c0 - 3 * c1 + c2 + c3 - 3 * c4 + 5 * c5 = L * t4) (h5 : c0 - c1 + c2 - c3 + c4 - c5 = L * t5) :
    t0 + t1 + t2 + t3 + t4 + t5 = 32 / L * c0 ∧ 5 * t0 + 3 * t1 + t2 - t3 - 3 * t4 - 5 * t5 = 32 / L * c1 ∧ 10 * t0 + 2 * t1 - 2 * t2 - 2 * t3 + 2 * t4 + 10 * t5 = 32 / L * c2 ∧
      10 * t0 - 2 * t1 - 2 * t2 + 2 * t3 + 2 * t4 - 10 * t5 = 32 / L * c3 ∧ 5 * t0 - 3 * t1 + t2 + t3 - 3 * t4 + 5 * t5 = 32 / L * c4 ∧ t0 - t1 + t2 - t3 + t4 - t5 = 32 / L * c5 := by
  have g : L ≠ 0 ∧ L * (32 / L) = 32 := by rcases hL with e | e | e | e <;> subst e <;> decide
  generalize 32 / L = M at g ⊢
  have k : ∀ c : Int, L * (M * c) = 32 * c := fun c => by rw [← Int.mul_assoc, g.2]
  have z : ∀ {x c : Int}, L * x = 32 * c → x = M * c := fun e => Int.eq_of_mul_eq_mul_left g.1 (e.trans (k _).symm)
  have ml : ∀ n x : Int, L * (n * x) = n * (L * x) := fun n x => Int.mul_left_comm L n x
  refine ⟨z ?_, z ?_, z ?_, z ?_, z ?_, z ?_⟩ <;> simp only [Int.mul_add, Int.mul_sub, ml] <;> rw [← h0, ← h1, ← h2, ← h3, ← h4, ← h5] <;> wtm_at "om"
theorem lawN_of {s : Nat} {R : List Nat} (hs : s < 32) (hR : ∀ r ∈ R, r < 32) (hl : R.length ≤ 3) : ∃ xs, LawN (R.map nI') (s : Int) xs := by
  obtain ⟨I, hf⟩ := finv_all hs R [] [s] hR (finv_base hs)
  rw [List.nil_append] at I
  refine ⟨R.foldl (famSN s) [s], ?_⟩
  generalize R.foldl (famSN s) [s] = F at I hf ⊢
  obtain ⟨k, hk, hFl⟩ := I.pw
  have hL : F.length = 1 ∨ F.length = 2 ∨ F.length = 4 ∨ F.length = 8 := by
    rw [hFl]
    have : k = 0 ∨ k = 1 ∨ k = 2 ∨ k = 3 := by wtm_at "om"
    rcases this with e | e | e | e <;> subst e <;> decide
  have hc : ∀ j, cnt F j ≤ F.length := fun j => List.countP_le_length
  obtain ⟨L, hLe⟩ : ∃ L : Int, L = (F.length : Int) := ⟨_, rfl⟩
  have m0 := mac I 0 (by decide)
  have m1 := mac I 1 (by decide)
  have m2 := mac I 2 (by decide)
  have m3 := mac I 3 (by decide)
  have m4 := mac I 4 (by decide)
  have m5 := mac I 5 (by decide)
  simp only [show kraw 0 0 = 1 from rfl, show kraw 1 0 = 1 from rfl, show kraw 2 0 = 1 from rfl, show kraw 3 0 = 1 from rfl, show kraw 4 0 = 1 from rfl, show kraw 5 0 = 1 from rfl] at m0
  simp only [show kraw 0 1 = 5 from rfl, show kraw 1 1 = 3 from rfl, show kraw 2 1 = 1 from rfl, show kraw 3 1 = -1 from rfl, show kraw 4 1 = -3 from rfl, show kraw 5 1 = -5 from rfl] at m1
  simp only [show kraw 0 2 = 10 from rfl, show kraw 1 2 = 2 from rfl, show kraw 2 2 = -2 from rfl, show kraw 3 2 = -2 from rfl, show kraw 4 2 = 2 from rfl, show kraw 5 2 = 10 from rfl] at m2
  simp only [show kraw 0 3 = 10 from rfl, show kraw 1 3 = -2 from rfl, show kraw 2 3 = -2 from rfl, show kraw 3 3 = 2 from rfl, show kraw 4 3 = 2 from rfl, show kraw 5 3 = -10 from rfl] at m3
  simp only [show kraw 0 4 = 5 from rfl, show kraw 1 4 = -3 from rfl, show kraw 2 4 = 1 from rfl, show kraw 3 4 = 1 from rfl, show kraw 4 4 = -3 from rfl, show kraw 5 4 = 5 from rfl] at m4
  simp only [show kraw 0 5 = 1 from rfl, show kraw 1 5 = -1 from rfl, show kraw 2 5 = 1 from rfl, show kraw 3 5 = -1 from rfl, show kraw 4 5 = 1 from rfl, show kraw 5 5 = -1 from rfl] at m5
  rw [← hLe] at m0 m1 m2 m3 m4 m5
  have b0 := told_bound (R := R) (s := s) 0 (by decide)
  have b1 := told_bound (R := R) (s := s) 1 (by decide)
  have b2 := told_bound (R := R) (s := s) 2 (by decide)
  have b3 := told_bound (R := R) (s := s) 3 (by decide)
  have b4 := told_bound (R := R) (s := s) 4 (by decide)
  have b5 := told_bound (R := R) (s := s) 5 (by decide)
  have c0 := hc 0
  have c1 := hc 1
  have c2 := hc 2
  have c3 := hc 3
  have c4 := hc 4
  have c5 := hc 5
  have g0 : (cnt F 0 : Int) + cnt F 1 + cnt F 2 + cnt F 3 + cnt F 4 + cnt F 5 = L * tsum R s 32 0 := by wtm_at "om"
  have g1 : 5 * (cnt F 0 : Int) + 3 * cnt F 1 + cnt F 2 - cnt F 3 - 3 * cnt F 4 - 5 * cnt F 5 = L * tsum R s 32 1 := by wtm_at "om"
  have g2 : 10 * (cnt F 0 : Int) + 2 * cnt F 1 - 2 * cnt F 2 - 2 * cnt F 3 + 2 * cnt F 4 + 10 * cnt F 5 = L * tsum R s 32 2 := by wtm_at "om"
  have g3 : 10 * (cnt F 0 : Int) - 2 * cnt F 1 - 2 * cnt F 2 + 2 * cnt F 3 + 2 * cnt F 4 - 10 * cnt F 5 = L * tsum R s 32 3 := by wtm_at "om"
  have g4 : 5 * (cnt F 0 : Int) - 3 * cnt F 1 + cnt F 2 + cnt F 3 - 3 * cnt F 4 + 5 * cnt F 5 = L * tsum R s 32 4 := by wtm_at "om"
  have g5 : (cnt F 0 : Int) - cnt F 1 + cnt F 2 - cnt F 3 + cnt F 4 - cnt F 5 = L * tsum R s 32 5 := by wtm_at "om"
  have hLi : L = 1 ∨ L = 2 ∨ L = 4 ∨ L = 8 := by wtm_at "om"
  obtain ⟨s0, s1, s2, s3, s4, s5⟩ := ring2 L _ _ _ _ _ _ _ _ _ _ _ _ hLi g0 g1 g2 g3 g4 g5
  refine ⟨hf, I.lt, ?_, by wtm_at "om", ?_, ?_, fun B => ?_, fun B => ?_⟩
  · intro e; rw [e] at hL; simp at hL
  · rw [cntL_cnt]
    intro a ha
    simp only [List.mem_cons, List.not_mem_nil, or_false] at ha
    rcases ha with e | e | e | e | e | e <;> subst e <;> wtm_at "om"
  · rw [told_t hs hR]
    intro a ha
    simp only [List.mem_cons, List.not_mem_nil, or_false] at ha
    rcases ha with e | e | e | e | e | e <;> subst e <;> assumption
  · rw [cntL_cnt, told_t hs hR, ← hLe]
    exact ring1 B L _ _ _ _ _ _ _ _ _ _ _ _ g0 g1 g2 g3 g4 g5
  · rw [cntL_cnt, told_t hs hR, Int.natCast_ediv, ← hLe]
    exact ring1 B (32 / L) _ _ _ _ _ _ _ _ _ _ _ _ s0 s1 s2 s3 s4 s5
theorem lawN (sc : List Int) : ∃ xs, LawN (rowsM sc) (shiftM sc) xs := by
  have hmod : ∀ x : Int, ∃ n : Nat, n < 32 ∧ x.fmod 32 = (n : Int) := fun x => ⟨(x.fmod 32).toNat, by rw [Int.fmod_eq_emod_of_nonneg _ (by decide)]; wtm_at "om"⟩
  obtain ⟨s, hs, es⟩ := hmod (5 + stepS sc 3)
  obtain ⟨r0, h0, e0⟩ := hmod (([22, 13, 24] : List Int).getD 0 0 + stepS sc (0 : Nat))
  obtain ⟨r1, h1, e1⟩ := hmod (([22, 13, 24] : List Int).getD 1 0 + stepS sc (1 : Nat))
  obtain ⟨r2, h2, e2⟩ := hmod (([22, 13, 24] : List Int).getD 2 0 + stepS sc (2 : Nat))
  have e : rowsM sc = ([r0, r1, r2] : List Nat).map nI' := by
    show [rowAt sc 0, rowAt sc 1, rowAt sc 2] = _
    unfold rowAt
    rw [e0, e1, e2]; rfl
  rw [e, show shiftM sc = (s : Int) from es]
  exact lawN_of hs (by intro r hr; simp only [List.mem_cons, List.not_mem_nil, or_false] at hr; rcases hr with e | e | e <;> subst e <;> assumption) (by simp)
end

section
theorem fnk {K : Frag} {f cd : Addr} {qual : Str} {st : Stmt} {dV kV pm : Value} (h : K.lookup f = some (kF qual st dV kV pm (.ref cd))) (hc : codeIn K (.ref cd) qual = true) : FnK K f cd qual st dV kV := ⟨_, _, _, _, _, _, _, h, hc⟩
set_option maxHeartbeats 4000000
theorem bsk (P : Params) : BsK (KT P) "insort_right" 9 64 (.ref 57) (.ref 58) ∧ BsK (KT P) "bisect_right" 10 73 (.ref 66) (.ref 67) ∧ BsK (KT P) "bisect_left" 11 82 (.ref 75) (.ref 76) := by
  refine ⟨⟨?_, ?_, ?_, ?_⟩, ⟨?_, ?_, ?_, ?_⟩, ⟨?_, ?_, ?_, ?_⟩⟩
  · exact fun a x q => ⟨[a, x, .int 0 271, .none, q], ⟨rfl, rfl, ⟨_, rfl⟩, rfl, rfl, trivial⟩, fun doc pm an ct S => by kernel_rfl⟩
  · exact fun a x l q => ⟨[a, x, l, .none, q], ⟨rfl, rfl, rfl, rfl, rfl, trivial⟩, fun doc pm an ct S => by kernel_rfl⟩
  · exact fun a x l h q => ⟨[a, x, l, h, q], ⟨rfl, rfl, rfl, rfl, rfl, trivial⟩, fun doc pm an ct S => by kernel_rfl⟩
  · exact fun a x l => ⟨[a, x, l, .none, .none], ⟨rfl, rfl, rfl, rfl, rfl, trivial⟩, fun doc pm an ct S => by kernel_rfl⟩
  · exact fun a x q => ⟨[a, x, .int 0 284, .none, q], ⟨rfl, rfl, ⟨_, rfl⟩, rfl, rfl, trivial⟩, fun doc pm an ct S => by kernel_rfl⟩
  · exact fun a x l q => ⟨[a, x, l, .none, q], ⟨rfl, rfl, rfl, rfl, rfl, trivial⟩, fun doc pm an ct S => by kernel_rfl⟩
  · exact fun a x l h q => ⟨[a, x, l, h, q], ⟨rfl, rfl, rfl, rfl, rfl, trivial⟩, fun doc pm an ct S => by kernel_rfl⟩
  · exact fun a x l => ⟨[a, x, l, .none, .none], ⟨rfl, rfl, rfl, rfl, rfl, trivial⟩, fun doc pm an ct S => by kernel_rfl⟩
  · exact fun a x q => ⟨[a, x, .int 0 298, .none, q], ⟨rfl, rfl, ⟨_, rfl⟩, rfl, rfl, trivial⟩, fun doc pm an ct S => by kernel_rfl⟩
  · exact fun a x l q => ⟨[a, x, l, .none, q], ⟨rfl, rfl, rfl, rfl, rfl, trivial⟩, fun doc pm an ct S => by kernel_rfl⟩
  · exact fun a x l h q => ⟨[a, x, l, h, q], ⟨rfl, rfl, rfl, rfl, rfl, trivial⟩, fun doc pm an ct S => by kernel_rfl⟩
  · exact fun a x l => ⟨[a, x, l, .none, .none], ⟨rfl, rfl, rfl, rfl, rfl, trivial⟩, fun doc pm an ct S => by kernel_rfl⟩
theorem kok (P : Params) : KOk (KT P) := by
  have hb := bsk P
  constructor
  case caseCost => exact ⟨_, rfl⟩
  case moveCost => exact ⟨_, rfl⟩
  case maxString => exact ⟨_, rfl⟩
  case divLimit => exact ⟨_, rfl⟩
  case insrB => exact hb.1
  case bisrB => exact hb.2.1
  case bislB => exact hb.2.2
  all_goals first | (show FnK _ _ _ _ _ _ _; exact fnk rfl (by kernel_rfl)) | (show MeK _ _ _; exact ⟨by kernel_rfl, by kernel_rfl, by kernel_rfl, by kernel_rfl, by kernel_rfl⟩) | kernel_rfl
end

section
theorem pw_eq : PySem.Challenge.rw_tx0028_01.row.prog = pw := by unfold pw; rfl
noncomputable abbrev tabsL : List (Addr × Addr) := [(41, 37), (34, 30), (176, 172), (145, 141)]
theorem law_join {pr : Program} {w : World} {s₁ : Shared} {h₁ : Heap} {tk₁ : Nat} {fa ls : Addr} {cd : Value} {sc : List Int} {vs : List Value} {wc : Obj} {p loose mean mg mb} {m : Str → Option Value}
    {cl : Str → Option Addr} {mn : ExcName → Option Value} {E : Value → Shared → Prop}
    (hp : pr = pw) (hg : s₁.gens = #[]) (hz : ¬ (63 : Int) < (sc.length : Int)) (hL : (ghostOf s₁.heap tabsL).IsList ls vs.toArray) (hI : IntsAre vs sc)
    (X : (KT w.params).In (ghostOf s₁.heap tabsL)) (T : Top p loose mean mg mb (ghostOf s₁.heap tabsL)) (B : Below callerA (ghostOf s₁.heap tabsL) [] (ghostOf s₁.heap tabsL))
    (F : Fr (ghostOf s₁.heap tabsL) s₁.heap.objs.size h₁ m) (N : News (ghostOf s₁.heap tabsL) s₁.heap.objs.size h₁ [(s₁.heap.objs.size + 1, wc), (37, tabObj #[]), (30, tabObj #[]), (172, tabObj #[]), (141, tabObj #[])])
    (l0 : 37 < s₁.heap.objs.size ∧ 30 < s₁.heap.objs.size ∧ 172 < s₁.heap.objs.size ∧ 141 < s₁.heap.objs.size) (hc : wc.data = .cell (some (.ref ls))) :
    wpAny (model pr w) (callerA.deeper (lawE s₁.heap.objs.size fa cd)) (execs (fBody (stAt 29)) (lawE s₁.heap.objs.size fa cd))
      (fun f s' => GoodW PySem.Challenge.rw_tx0028_01.row.claim cl mn [ofPy (PyData.list (sc.map PyData.int))] { heap := ghostOf s₁.heap tabsL, gens := s₁.gens, drawn := s₁.drawn, toks := s₁.toks, os := s₁.os }
        (Except.ok (Flow.ret (match f with | Flow.ret v => v | x => Value.none))) s' ∧ GrownAll tabsL s'.heap) E { heap := h₁, gens := s₁.gens, drawn := s₁.drawn, toks := tk₁, os := s₁.os } := by
  subst hp
  obtain ⟨xs, LN⟩ := lawN sc
  let c : Cx := ⟨w, ghostOf s₁.heap tabsL, s₁.heap.objs.size, callerA.deeper (lawE s₁.heap.objs.size fa cd)⟩
  have A : Act0 (KT w.params) c (0 + 14) (lawE c.L fa cd) := 
    { below := ⟨callerA, _, [], B, rfl⟩, frame := rfl, kind := by kernel_rfl, X := X, T := ⟨_, _, _, _, _, T⟩, depth := Nat.le_of_ble_eq_true rfl, units := Nat.le_of_ble_eq_true rfl
      b0 := ⟨callerA, _, B, rfl, X, _, _, _, _, _, T⟩ }
  have hG : GL c ls (sc.map .int) := by
    refine ⟨vs, hL, ?_⟩
    clear LN hL hz
    induction hI with
    | nil => trivial
    | cons n t _ ih => exact ⟨⟨t, rfl⟩, ih⟩
  have hz' : sc.length ≤ 63 := by wtm_at "om"
  have W := law_walk (c := c) (ow := []) (fa := fa) (cd := cd) (Q := fun f lc ow' => f = .ret (.bool true) ∧ (∃ p, (37, AO.obj (tabObj p)) ∈ ow') ∧ (∃ p, (30, AO.obj (tabObj p)) ∈ ow') ∧ (∃ p, (172, AO.obj (tabObj p)) ∈ ow') ∧ (∃ p, (141, AO.obj (tabObj p)) ∈ ow')) A (kok w.params) rfl hG hz' LN ?_
  · have R : Rep c.g c.L [] [(172, .obj (tabObj #[])), (141, .obj (tabObj #[])), (30, .obj (tabObj #[])), (37, .obj (tabObj #[])), (c.L + 1, .cell (some (.ref ls)))] h₁ := by
      refine ⟨⟨m, F, fun x a e => nomatch e⟩, ?_, ?_⟩
      · intro q hq
        have nw : ∀ a o, (a, o) ∈ [(s₁.heap.objs.size + 1, wc), (37, tabObj #[]), (30, tabObj #[]), (172, tabObj #[]), (141, tabObj #[])] → h₁.get? a = some o ∧ a ≠ c.L ∧ c.g.get? a = none := fun a o h => N (a, o) h
        simp only [List.mem_cons, List.not_mem_nil, or_false] at hq
        rcases hq with e | e | e | e | e <;> subst e
        · exact ⟨_, ⟨rfl, rfl⟩, nw _ _ (.tail _ (.tail _ (.tail _ (.head _))))⟩
        · exact ⟨_, ⟨rfl, rfl⟩, nw _ _ (.tail _ (.tail _ (.tail _ (.tail _ (.head _)))))⟩
        · exact ⟨_, ⟨rfl, rfl⟩, nw _ _ (.tail _ (.tail _ (.head _)))⟩
        · exact ⟨_, ⟨rfl, rfl⟩, nw _ _ (.tail _ (.head _))⟩
        · exact ⟨wc, ⟨_, hc, rfl⟩, nw _ _ (.head _)⟩
      · have e : c.L = s₁.heap.objs.size := rfl
        simp only [List.map_cons, List.map_nil, List.nodup_cons, List.mem_cons, List.not_mem_nil, or_false, not_or, e]
        exact ⟨⟨by decide, by decide, by decide, Nat.ne_of_lt (Nat.lt_succ_of_lt l0.2.2.1)⟩, ⟨by decide, by decide, Nat.ne_of_lt (Nat.lt_succ_of_lt l0.2.2.2)⟩, ⟨by decide, Nat.ne_of_lt (Nat.lt_succ_of_lt l0.2.1)⟩, Nat.ne_of_lt (Nat.lt_succ_of_lt l0.1), fun h => h, List.nodup_nil⟩
    refine W.run { heap := h₁, gens := s₁.gens, drawn := s₁.drawn, toks := tk₁, os := s₁.os } _ _ R fun b x lc' ow' h' tk' q rb R' => ?_
    obtain ⟨rfl, m1, m2, m3, m4⟩ := q
    obtain ⟨v, rfl, hv⟩ := rb
    cases (show v = .bool true from hv)
    refine ⟨⟨.inl ⟨.bool true, _, _, rfl, fun _ => by kernel_rfl, ReadsW.bool _, ?_, ?_⟩, fun b o e => R'.keep e, rfl, hg⟩, ?_⟩
    · kernel_rfl
    · exact fun _ => ⟨List.nodup_nil, fun a ha => nomatch ha⟩
    · have gr : ∀ {P : Addr}, (∃ p, (P, AO.obj (tabObj p)) ∈ ow') → GrownAt P h' := fun ⟨p, hm⟩ => by
        obtain ⟨o, ⟨rfl, _⟩, ho⟩ := R'.get hm
        exact ⟨p, ho⟩
      exact ⟨gr m1, gr m2, gr m3, gr m4, trivial⟩
  · intro lc ow' t1 t2 p1 p2 T1 T2 P
    have tb : ∀ {P : Addr} {pos : Pos} {q : Str} {t : OW}, TB P pos q t → ∃ p, (P, AO.obj (tabObj p)) ∈ t := fun T => by
      rcases T with rfl | ⟨c', rfl⟩
      · exact ⟨_, .head _⟩
      · exact ⟨_, .head _⟩
    obtain ⟨q1, h1⟩ := tb T1
    obtain ⟨q2, h2⟩ := tb T2
    exact ⟨rfl, ⟨q2, P.mem (List.mem_append_right _ (List.mem_append_left _ h2))⟩, ⟨q1, P.mem (List.mem_append_left _ h1)⟩, ⟨_, P.mem (List.mem_append_right _ (List.mem_append_right _ (.head _)))⟩, ⟨_, P.mem (List.mem_append_right _ (List.mem_append_right _ (.tail _ (.head _))))⟩⟩
end
end Mine
open PySem PySem.W PyProof.Rows
set_option maxHeartbeats 8000000 in
theorem PySem.Challenge.cw_tx0028_01_holds : PySem.Challenge.rw_tx0028_01.Holds := by
  refine Mine.hd ?_
  w_strict (k_go0; (all_goals try k_fold); exact Mine.law_join Mine.pw_eq (by assumption) (by assumption) (by assumption) (by assumption) (by assumption) (by assumption) (by assumption) (by assumption) (by assumption) (by assumption) (by assumption))
