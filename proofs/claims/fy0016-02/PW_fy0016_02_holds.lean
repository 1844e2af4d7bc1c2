import PyProof.Rows.All
import Wide.All
import OpenK.AllK
import Wide.FinOn
import PySem.Challenge.RW_fy0016_02
section
open PySem PySem.W PySem.W.X PyProof.Rows
set_option Elab.async false
set_option maxRecDepth 100000
namespace Mine

/-- a heap as a plain function -/
abbrev FH := Addr → Option Obj
def FH.le (B B' : FH) : Prop := ∀ a o, B a = some o → B' a = some o
theorem FH.le.refl (B : FH) : B.le B := fun _ _ e => e
theorem FH.le.trans {B B' B'' : FH} (x : B.le B') (y : B'.le B'') : B.le B'' := fun a o e => y a o (x a o e)
/-- one more frozen object -/
def FH.add (B : FH) (a : Addr) (o : Obj) : FH := fun b => if b = a then some o else B b
theorem FH.add_self (B : FH) (a : Addr) (o : Obj) : B.add a o a = some o := if_pos rfl
theorem FH.add_other (B : FH) {a b : Addr} (o : Obj) (h : b ≠ a) : B.add a o b = B b := if_neg h
theorem FH.le_add (B : FH) {a : Addr} {o : Obj} (h : B a = none) : B.le (B.add a o) := fun b ob e => by
  by_cases hb : b = a
  · subst hb; rw [h] at e; cases e
  · rw [FH.add_other B o hb]; exact e

section
variable (tagC tagsC : Addr)
/-- list, or the text's own subclass of it -/
inductive LK where | list | tags
  deriving DecidableEq
/-- values as the law sees them -/
inductive V where
  | none | bool (b : Bool) | int (i : Int) | str (s : Str) | ty (n : String) | bi (id : String)
  | ref (a : Addr)
  | tup (l : List V)
  | lst (k : LK) (l : List V)
  | tag (c v : V)
end

/-- the two classes' addresses -/
structure Cls where
  tag : Addr
  tags : Addr
def LK.cls (C : Cls) : LK → Value
  | .list => .type "list"
  | .tags => .ref C.tags
/-- an instance's own dict, that nothing was put into -/
def DOk (B : FH) (d : Option Addr) : Prop := ∃ dd n, d = some dd ∧ B dd = some ⟨.type "dict", none, .dict #[] n, #[]⟩
theorem DOk.mono {B B' : FH} (h : B.le B') {d : Option Addr} (x : DOk B d) : DOk B' d := let ⟨dd, n, e, f⟩ := x; ⟨dd, n, e, h _ _ f⟩
def LK.dk (B : FH) (d : Option Addr) : LK → Prop
  | .list => d = none
  | .tags => DOk B d
theorem LK.dk.mono {B B' : FH} (h : B.le B') {d : Option Addr} {k : LK} (x : k.dk B d) : k.dk B' d := by
  cases k with
  | list => exact x
  | tags => exact DOk.mono h x

mutual
inductive RV (C : Cls) (B : FH) : Value → V → Prop
  | none : RV C B .none .none
  | bool (b : Bool) : RV C B (.bool b) (.bool b)
  | int (i : Int) (t : Tok) : RV C B (.int i t) (.int i)
  | str (s : Str) (t : Tok) : RV C B (.str s t) (.str s)
  | ty (n : String) : RV C B (.type n) (.ty n)
  | bi (n : String) : RV C B (.builtin n) (.bi n)
  | ref (a : Addr) : RV C B (.ref a) (.ref a)
  | tup {a : Addr} {vs : List Value} {n : Nat} {l : List V} : B a = some ⟨.type "tuple", none, .seq vs.toArray n, #[]⟩ → RVs C B vs l → RV C B (.ref a) (.tup l)
  | lst {k : LK} {a : Addr} {d : Option Addr} {vs : List Value} {n : Nat} {l : List V} : B a = some ⟨k.cls C, d, .seq vs.toArray n, #[]⟩ → k.dk B d → RVs C B vs l → RV C B (.ref a) (.lst k l)
  | tag {a : Addr} {d : Option Addr} {c' v' : Value} {c v : V} : B a = some ⟨.ref C.tag, d, .plain, #[some c', some v']⟩ → DOk B d → RV C B c' c → RV C B v' v → RV C B (.ref a) (.tag c v)
inductive RVs (C : Cls) (B : FH) : List Value → List V → Prop
  | nil : RVs C B [] []
  | cons {v : Value} {x : V} {vs : List Value} {l : List V} : RV C B v x → RVs C B vs l → RVs C B (v :: vs) (x :: l)
end

section
variable {C : Cls}
mutual
theorem RV.mono {B B' : FH} (h : B.le B') : ∀ {v : Value} {x : V}, RV C B v x → RV C B' v x
  | _, _, .none => .none
  | _, _, .bool b => .bool b
  | _, _, .int i t => .int i t
  | _, _, .str s t => .str s t
  | _, _, .ty n => .ty n
  | _, _, .bi n => .bi n
  | _, _, .ref a => .ref a
  | _, _, .tup e r => .tup (h _ _ e) (RVs.mono h r)
  | _, _, .lst e q r => .lst (h _ _ e) (q.mono h) (RVs.mono h r)
  | _, _, .tag e q r r' => .tag (h _ _ e) (q.mono h) (RV.mono h r) (RV.mono h r')
theorem RVs.mono {B B' : FH} (h : B.le B') : ∀ {v : List Value} {x : List V}, RVs C B v x → RVs C B' v x
  | _, _, .nil => .nil
  | _, _, .cons r rs => .cons (RV.mono h r) (RVs.mono h rs)
end
theorem RVs.length {B : FH} : ∀ {v : List Value} {x : List V}, RVs C B v x → v.length = x.length
  | _, _, .nil => rfl
  | _, _, .cons _ r => by simp [RVs.length r]
theorem RVs.append {B : FH} : ∀ {v w : List Value} {x y : List V}, RVs C B v x → RVs C B w y → RVs C B (v ++ w) (x ++ y)
  | _, _, _, _, .nil, h => h
  | _, _, _, _, .cons r rs, h => .cons r (RVs.append rs h)
theorem RVs.get {B : FH} : ∀ {v : List Value} {x : List V}, RVs C B v x → ∀ {i : Nat} {a : V}, x[i]? = some a → ∃ b, v[i]? = some b ∧ RV C B b a
  | _, _, .nil, _, _, e => by simp at e
  | _, _, .cons r rs, 0, _, e => by simp at e; subst e; exact ⟨_, rfl, r⟩
  | _, _, .cons r rs, i+1, _, e => by simpa using RVs.get rs (i := i) (by simpa using e)
end

/-- one entry turned, by its place -/
inductive Upd {α β : Type} (a : α) (o o' : β) : List (α × β) → List (α × β) → Prop
  | head {r : List (α × β)} : Upd a o o' ((a, o) :: r) ((a, o') :: r)
  | tail {p : α × β} {r r' : List (α × β)} : Upd a o o' r r' → Upd a o o' (p :: r) (p :: r')
theorem Upd.keys {α β : Type} {a : α} {o o' : β} {l l' : List (α × β)} (h : Upd a o o' l l') : l'.map Prod.fst = l.map Prod.fst := by
  induction h with
  | head => rfl
  | tail _ ih => simp [ih]
theorem Upd.mem {α β : Type} {a : α} {o o' : β} {l l' : List (α × β)} (h : Upd a o o' l l') : (a, o) ∈ l := by
  induction h with
  | head => exact .head _
  | tail _ ih => exact .tail _ ih
theorem Upd.mem' {α β : Type} {a : α} {o o' : β} {l l' : List (α × β)} (h : Upd a o o' l l') : (a, o') ∈ l' := by
  induction h with
  | head => exact .head _
  | tail _ ih => exact .tail _ ih
theorem Upd.cases {α β : Type} {a : α} {o o' : β} {l l' : List (α × β)} (h : Upd a o o' l l') (nd : (l.map Prod.fst).Nodup) {p : α × β} (hp : p ∈ l') : p = (a, o') ∨ (p ∈ l ∧ p.1 ≠ a) := by
  induction h with
  | head =>
    rcases List.mem_cons.mp hp with e | hp
    · exact .inl e
    · refine .inr ⟨.tail _ hp, fun e => ?_⟩
      simp only [List.map_cons, List.nodup_cons] at nd
      exact nd.1 (e ▸ List.mem_map_of_mem hp)
  | tail h ih =>
    simp only [List.map_cons, List.nodup_cons] at nd
    rcases List.mem_cons.mp hp with e | hp
    · subst e
      refine .inr ⟨.head _, fun e => ?_⟩
      exact nd.1 (e ▸ List.mem_map_of_mem (f := Prod.fst) h.mem)
    · rcases ih nd.2 hp with e | ⟨hm, hn⟩
      · exact .inl e
      · exact .inr ⟨.tail _ hm, hn⟩

/-- a dict: what a frame's names lie in -/
def IsD (o : Obj) : Prop := ∃ es ep, o.data = .dict es ep
abbrev Loc := List (Str × V)
/-- an owned object -/
inductive MO where
  | frame (loc : Loc)
  | lst (k : LK) (xs : List V)
  | inst (c : Addr) (sl : List (Option V))
  | iter (l : Addr) (i : Nat)
  | it (x : V) (i : Nat)
  | cell (v : Option V)
  | p (P : Obj → Prop)
  | obj (o : Obj)
  | exc (cls : Value) (tb : Option Addr)
  | tb (fl : Value)
abbrev Cells := List (Addr × MO)
def RO (C : Cls) (B : FH) : Option Value → Option V → Prop
  | none, none => True
  | some v, some x => RV C B v x
  | _, _ => False
inductive ROs (C : Cls) (B : FH) : List (Option Value) → List (Option V) → Prop
  | nil : ROs C B [] []
  | cons {v : Option Value} {x : Option V} {vs : List (Option Value)} {l : List (Option V)} : RO C B v x → ROs C B vs l → ROs C B (v :: vs) (x :: l)
def MO.At (C : Cls) (B : FH) (h : Heap) (a : Addr) : MO → Prop
  | .frame loc => (loc.map Prod.fst).Nodup ∧ ∃ m, h.Ns a m ∧ ∀ p ∈ loc, ∃ v, m p.1 = some v ∧ RV C B v p.2
  | .lst k xs => ∃ d vs n, h.get? a = some ⟨k.cls C, d, .seq vs.toArray n, #[]⟩ ∧ k.dk B d ∧ RVs C B vs xs
  | .inst c sl => ∃ d vs, h.get? a = some ⟨.ref c, d, .plain, vs⟩ ∧ DOk B d ∧ ROs C B vs.toList sl
  | .iter l i => h.get? a = some ⟨.type "list_iterator", none, .fields #[.ref l, .int i 0], #[]⟩
  | .it x i => ∃ l, RV C B (.ref l) x ∧ h.get? a = some ⟨.type "list_iterator", none, .fields #[.ref l, .int i 0], #[]⟩
  | .cell v => ∃ o v', h.get? a = some o ∧ o.data = .cell v' ∧ RO C B v' v
  | .p P => ∃ o, h.get? a = some o ∧ P o ∧ ¬ IsD o
  | .obj o => h.get? a = some o
  | .exc cls T => ∃ oe vs a0, h.get? a = some oe ∧ oe.cls = cls ∧ oe.data = .fields vs ∧ vs[0]? = some a0 ∧ vs[1]? = some (T.elim .none .ref) ∧ 2 < vs.size ∧ (cls = .type "StopIteration" → vs[2]? = some .none)
  | .tb fl => ∃ oT ts, h.get? a = some oT ∧ oT.cls = .type "traceback" ∧ oT.data = .fields ts ∧ ts[3]? = some fl

theorem RO.mono {C : Cls} {B B' : FH} (h : B.le B') : ∀ {v : Option Value} {x : Option V}, RO C B v x → RO C B' v x
  | none, none, _ => trivial
  | some _, some _, r => RV.mono h r
  | none, some _, r => r.elim
  | some _, none, r => r.elim
theorem ROs.mono {C : Cls} {B B' : FH} (h : B.le B') {v : List (Option Value)} {x : List (Option V)} (r : ROs C B v x) : ROs C B' v x := by
  induction r with
  | nil => exact .nil
  | cons r _ ih => exact .cons (RO.mono h r) ih

/-- an object that may have got its slots turned, if it is a frame -/
def SameSl (h : Heap) (a : Addr) (o : Obj) : Prop := h.get? a = some o ∨ (IsD o ∧ ∃ sl, h.get? a = some { o with slots := sl })
theorem SameSl.trans {h h' : Heap} {a : Addr} {o : Obj} (x : SameSl h a o) (y : ∀ o, h.get? a = some o → SameSl h' a o) : SameSl h' a o := by
  rcases x with e | ⟨hc, sl, e⟩
  · exact y o e
  · rcases y _ e with e' | ⟨hc', sl', e'⟩
    · exact .inr ⟨hc, sl, e'⟩
    · exact .inr ⟨hc, sl', e'⟩
theorem SameSl.ns {h h' : Heap} {a : Addr} {m : Str → Option Value} (hn : h.Ns a m) (y : ∀ o, h.get? a = some o → SameSl h' a o) : h'.Ns a m := by
  obtain ⟨o, es, ep, ho, hd, r⟩ := hn
  rcases y o ho with e | ⟨_, sl, e⟩
  · exact ⟨o, es, ep, e, hd, r⟩
  · exact ⟨_, es, ep, e, hd, r⟩

theorem MO.At.mono {C : Cls} {B B' : FH} {h : Heap} {a : Addr} {o : MO} (hB : B.le B') (x : o.At C B h a) : o.At C B' h a := by
  cases o with
  | frame loc => obtain ⟨nd, m, hn, hl⟩ := x; exact ⟨nd, m, hn, fun p hp => let ⟨v, e, r⟩ := hl p hp; ⟨v, e, r.mono hB⟩⟩
  | lst k xs => obtain ⟨d, vs, n, e, q, r⟩ := x; exact ⟨d, vs, n, e, q.mono hB, r.mono hB⟩
  | inst c sl => obtain ⟨d, vs, e, q, r⟩ := x; exact ⟨d, vs, e, q.mono hB, r.mono hB⟩
  | iter l i => exact x
  | it y i => obtain ⟨l, r, e⟩ := x; exact ⟨l, r.mono hB, e⟩
  | cell y => obtain ⟨o, v', e, hd, r⟩ := x; exact ⟨o, v', e, hd, RO.mono hB r⟩
  | p P => exact x
  | obj o => exact x
  | exc c tb => exact x
  | tb fl => exact x
/-- no owned object is a frame but a frame -/
def MO.NoFrame : MO → Prop
  | .frame _ => True
  | .obj o => ¬ IsD o
  | _ => True
theorem MO.At.same {C : Cls} {B : FH} {h h' : Heap} {a : Addr} {o : MO} (x : o.At C B h a) (y : ∀ o, h.get? a = some o → SameSl h' a o) (hn : o.NoFrame) : o.At C B h' a := by
  cases o with
  | frame loc =>
    obtain ⟨nd, m, hns, hl⟩ := x
    exact ⟨nd, m, SameSl.ns hns y, hl⟩
  | lst k xs =>
    obtain ⟨d, vs, n, e, r⟩ := x
    rcases y _ e with e' | ⟨hc, _⟩
    · exact ⟨d, vs, n, e', r⟩
    · obtain ⟨_, _, q⟩ := hc; cases q
  | inst c sl =>
    obtain ⟨d, vs, e, r⟩ := x
    rcases y _ e with e' | ⟨hc, _⟩
    · exact ⟨d, vs, e', r⟩
    · obtain ⟨_, _, q⟩ := hc; cases q
  | iter l i =>
    rcases y _ x with e' | ⟨hc, _⟩
    · exact e'
    · obtain ⟨_, _, q⟩ := hc; cases q
  | it z i =>
    obtain ⟨l, r, e⟩ := x
    rcases y _ e with e' | ⟨hc, _⟩
    · exact ⟨l, r, e'⟩
    · obtain ⟨_, _, q⟩ := hc; cases q
  | cell z =>
    obtain ⟨o, v', e, hd, r⟩ := x
    rcases y _ e with e' | ⟨hc, _⟩
    · exact ⟨o, v', e', hd, r⟩
    · obtain ⟨_, _, q⟩ := hc; rw [hd] at q; cases q
  | p P =>
    obtain ⟨o, e, hp, hd⟩ := x
    rcases y _ e with e' | ⟨hc, _⟩
    · exact ⟨o, e', hp, hd⟩
    · exact absurd hc hd
  | obj o =>
    rcases y o x with e' | ⟨hc, _⟩
    · exact e'
    · exact absurd hc hn
  | exc c tb =>
    obtain ⟨oe, vs, a0, e, hc, hd, r⟩ := x
    rcases y _ e with e' | ⟨hc', _⟩
    · exact ⟨oe, vs, a0, e', hc, hd, r⟩
    · obtain ⟨_, _, q⟩ := hc'; rw [hd] at q; cases q
  | tb fl =>
    obtain ⟨oT, ts, e, hc, hd, r⟩ := x
    rcases y _ e with e' | ⟨hc', _⟩
    · exact ⟨oT, ts, e', hc, hd, r⟩
    · obtain ⟨_, _, q⟩ := hc'; rw [hd] at q; cases q
theorem MO.At.there {C : Cls} {B : FH} {h : Heap} {a : Addr} {o : MO} (x : o.At C B h a) : ∃ ob, h.get? a = some ob := by
  cases o with
  | frame loc => obtain ⟨_, m, ⟨o, _, _, e, _⟩, _⟩ := x; exact ⟨o, e⟩
  | lst k xs => obtain ⟨d, vs, n, e, r⟩ := x; exact ⟨_, e⟩
  | inst c sl => obtain ⟨d, vs, e, r⟩ := x; exact ⟨_, e⟩
  | iter l i => exact ⟨_, x⟩
  | it y i => obtain ⟨l, r, e⟩ := x; exact ⟨_, e⟩
  | cell y => obtain ⟨o, v', e, hd, r⟩ := x; exact ⟨_, e⟩
  | p P => obtain ⟨o, e, _⟩ := x; exact ⟨o, e⟩
  | obj o => exact ⟨_, x⟩
  | exc c tb => obtain ⟨oe, vs, a0, e, r⟩ := x; exact ⟨_, e⟩
  | tb fl => obtain ⟨oT, ts, e, r⟩ := x; exact ⟨_, e⟩

abbrev Cells.ad (cs : Cells) : List Addr := cs.map Prod.fst

/-- the frames on the stack, as the traceback's makers want them -/
def Frs (B : FH) (h : Heap) (l : List Env) : Prop := ∀ env ∈ l, env.scope.kind ≠ .module ∧ ∃ L o, env.frame = some L ∧ B L = none ∧ h.get? L = some o ∧ IsD o

/-- the state -/
structure St (C : Cls) (S : FH) (A : Around) (B : FH) (cs : Cells) (s : Shared) : Prop where
  keep : ∀ a o, B a = some o → s.heap.get? a = some o
  stat : S.le B
  own : ∀ p ∈ cs, p.2.At C B s.heap p.1
  nf : ∀ p ∈ cs, p.2.NoFrame
  off : ∀ p ∈ cs, B p.1 = none
  nd : cs.ad.Nodup
  frs : ∃ l, A.frames = some l ∧ Frs B s.heap l
  bare : AllBare s.gens

/-- what a run may do to the rest -/
structure Fut (B : FH) (cs : Cells) (s : Shared) (B' : FH) (cs' : Cells) (s' : Shared) : Prop where
  mono : B.le B'
  pres : ∀ a o, s.heap.get? a = some o → a ∉ cs.ad → SameSl s'.heap a o
  newB : ∀ a, B' a ≠ none → B a ≠ none ∨ s.heap.get? a = none ∨ a ∈ cs.ad
  newC : ∀ a ∈ cs'.ad, s.heap.get? a = none ∨ a ∈ cs.ad
  there : ∀ a o, s.heap.get? a = some o → ∃ o', s'.heap.get? a = some o'
  os : s'.os = s.os
  gens : ∀ g, g < s.gens.size → s'.gens[g]? = s.gens[g]?
  gsz : s.gens.size ≤ s'.gens.size

theorem Fut.refl (B : FH) (cs : Cells) (s : Shared) : Fut B cs s B cs s :=
  ⟨.refl _, fun _ _ e _ => .inl e, fun _ h => .inl h, fun _ h => .inr h, fun _ o e => ⟨o, e⟩, rfl, fun _ _ => rfl, Nat.le_refl _⟩
theorem Fut.trans {B B' B'' : FH} {cs cs' cs'' : Cells} {s s' s'' : Shared} (x : Fut B cs s B' cs' s') (y : Fut B' cs' s' B'' cs'' s'') : Fut B cs s B'' cs'' s'' where
  mono := x.mono.trans y.mono
  pres a o e hn := (x.pres a o e hn).trans fun o' e' => y.pres a o' e' fun hm => by
    rcases x.newC a hm with h | h
    · rw [h] at e; cases e
    · exact hn h
  newB a h := by
    rcases y.newB a h with h | h | h
    · exact x.newB a h
    · refine .inr (.inl ?_)
      cases q : s.heap.get? a with
      | none => rfl
      | some o => obtain ⟨o', e⟩ := x.there a o q; rw [h] at e; cases e
    · exact .inr (x.newC a h)
  newC a h := by
    rcases y.newC a h with h | h
    · left
      cases q : s.heap.get? a with
      | none => rfl
      | some o => obtain ⟨o', e⟩ := x.there a o q; rw [h] at e; cases e
    · exact x.newC a h
  there a o e := let ⟨_, e'⟩ := x.there a o e; y.there a _ e'
  os := y.os.trans x.os
  gens g h := (y.gens g (Nat.lt_of_lt_of_le h x.gsz)).trans (x.gens g h)
  gsz := Nat.le_trans x.gsz y.gsz

end Mine

end
section
open PySem PySem.W PySem.W.X PyProof.Rows
set_option Elab.async false
set_option maxRecDepth 100000
namespace Mine

section
variable {C : Cls} {S : FH} {A : Around} {B B' : FH} {cs cs' : Cells} {s s' : Shared}

theorem St.there (h : St C S A B cs s) {a : Addr} (ha : a ∈ cs.ad) : ∃ o, s.heap.get? a = some o := by
  obtain ⟨p, hp, rfl⟩ := List.mem_map.mp ha
  exact (h.own p hp).there
theorem St.B_none (h : St C S A B cs s) {a : Addr} (e : s.heap.get? a = none) : B a = none := by
  cases q : B a with
  | none => rfl
  | some o => rw [h.keep a o q] at e; cases e
theorem St.ne_size (h : St C S A B cs s) {a : Addr} (ha : a ∈ cs.ad) : a ≠ s.heap.objs.size := by
  obtain ⟨o, e⟩ := h.there ha
  exact Nat.ne_of_lt (Heap.lt_size e)
theorem size_none (h : Heap) : h.get? h.objs.size = none := by
  cases q : h.get? h.objs.size with
  | none => rfl
  | some o => exact absurd (Heap.lt_size q) (Nat.lt_irrefl _)

/-- the state does not hang on the units, the mark, the depth -/
theorem St.around {A' : Around} (h : St C S A B cs s) (e : A'.frames = A.frames) : St C S A' B cs s :=
  ⟨h.keep, h.stat, h.own, h.nf, h.off, h.nd, by rw [e]; exact h.frs, h.bare⟩
theorem St.toks (h : St C S A B cs s) (t : Nat) : St C S A B cs { s with toks := t } := ⟨h.keep, h.stat, h.own, h.nf, h.off, h.nd, h.frs, h.bare⟩
theorem Fut.toks (F : Fut B cs s B' cs' s') (t : Nat) : Fut B cs s B' cs' { s' with toks := t } := ⟨F.mono, F.pres, F.newB, F.newC, F.there, F.os, F.gens, F.gsz⟩

theorem St.sub (h : St C S A B cs s) (hs : ∀ p ∈ cs', p ∈ cs) (nd : cs'.ad.Nodup) : St C S A B cs' s :=
  ⟨h.keep, h.stat, fun p hp => h.own p (hs p hp), fun p hp => h.nf p (hs p hp), fun p hp => h.off p (hs p hp), nd, h.frs, h.bare⟩
theorem St.perm (h : St C S A B cs s) (hp : cs.Perm cs') : St C S A B cs' s :=
  h.sub (fun p hq => hp.mem_iff.mpr hq) ((hp.map Prod.fst).nodup_iff.mp h.nd)
theorem Fut.perm {cs₁ cs₁' : Cells} (F : Fut B cs s B' cs' s') (h : ∀ a, a ∈ cs.ad ↔ a ∈ cs₁.ad) (h' : ∀ a ∈ cs₁'.ad, a ∈ cs'.ad) : Fut B cs₁ s B' cs₁' s' :=
  ⟨F.mono, fun a o e hn => F.pres a o e fun hm => hn ((h a).mp hm), fun a e => (F.newB a e).imp id (Or.imp id (h a).mp), fun a e => (F.newC a (h' a e)).imp id (h a).mp, F.there, F.os, F.gens, F.gsz⟩

/-- the frame rule's two halves -/
theorem St.frame {fr : Cells} (h : St C S A B (cs ++ fr) s) (F : Fut B cs s B' cs' s') (h' : St C S A B' cs' s') : St C S A B' (cs' ++ fr) s' := by
  have nd := h.nd
  rw [Cells.ad, List.map_append, List.nodup_append] at nd
  have hfr : ∀ p ∈ fr, p.1 ∉ cs.ad := fun p hp hm => nd.2.2 _ hm _ (List.mem_map_of_mem hp) rfl
  have hth : ∀ p ∈ fr, ∃ o, s.heap.get? p.1 = some o := fun p hp => (h.own p (List.mem_append_right _ hp)).there
  refine ⟨h'.keep, h'.stat, fun p hp => ?_, fun p hp => ?_, fun p hp => ?_, ?_, h'.frs, h'.bare⟩
  · rcases List.mem_append.mp hp with hp | hp
    · exact h'.own p hp
    · exact ((h.own p (List.mem_append_right _ hp)).mono F.mono).same (fun o e => F.pres _ o e (hfr p hp)) (h.nf p (List.mem_append_right _ hp))
  · rcases List.mem_append.mp hp with hp | hp
    · exact h'.nf p hp
    · exact h.nf p (List.mem_append_right _ hp)
  · rcases List.mem_append.mp hp with hp | hp
    · exact h'.off p hp
    · cases q : B' p.1 with
      | none => rfl
      | some o =>
        exfalso
        rcases F.newB p.1 (by rw [q]; simp) with x | x | x
        · exact x (h.off p (List.mem_append_right _ hp))
        · obtain ⟨o, e⟩ := hth p hp; rw [x] at e; cases e
        · exact hfr p hp x
  · rw [Cells.ad, List.map_append, List.nodup_append]
    refine ⟨h'.nd, nd.2.1, fun a ha b hb e => ?_⟩
    subst e
    obtain ⟨p, hp, rfl⟩ := List.mem_map.mp hb
    rcases F.newC _ ha with x | x
    · obtain ⟨o, e⟩ := hth p hp; rw [x] at e; cases e
    · exact hfr p hp x
theorem Fut.frame {fr : Cells} (F : Fut B cs s B' cs' s') : Fut B (cs ++ fr) s B' (cs' ++ fr) s' :=
  ⟨F.mono, fun a o e hn => F.pres a o e fun hm => hn (by rw [Cells.ad, List.map_append]; exact List.mem_append_left _ hm), fun a e => (F.newB a e).imp id (Or.imp id fun hm => by rw [Cells.ad, List.map_append]; exact List.mem_append_left _ hm),
    fun a ha => by
      rw [Cells.ad, List.map_append] at ha ⊢
      rcases List.mem_append.mp ha with ha | ha
      · exact (F.newC a ha).imp id fun x => List.mem_append_left _ x
      · exact .inr (List.mem_append_right _ ha), F.there, F.os, F.gens, F.gsz⟩
end

/-- an exception on its way: its own cells -/
inductive Fly (A : Around) (cls : Value) : Value → Cells → Prop
  | new (ea : Addr) : Fly A cls (.ref ea) [(ea, .exc cls none)]
  | traced (ea T : Addr) : Fly A cls (.ref ea) [(ea, .exc cls (some T)), (T, .tb .none)]
  | held (ea T L : Addr) (env : Env) (l : List Env) : A.frames = some (env :: l) → env.frame = some L → Fly A cls (.ref ea) [(ea, .exc cls (some T)), (T, .tb (rawInt L))]

section
variable (C : Cls) (S : FH) {β γ : Type}
def Po (R : FH → β → γ → Prop) (A : Around) (B : FH) (cs : Cells) (s : Shared) (P : γ → Cells → Prop) : β → Shared → Prop :=
  fun r s' => ∃ B' cs' x, St C S A B' cs' s' ∧ Fut B cs s B' cs' s' ∧ R B' r x ∧ P x cs'
def PoX (A : Around) (B : FH) (cs : Cells) (s : Shared) (X : Value → Cells → Prop) : Value → Shared → Prop :=
  fun e s' => ∃ B' cs' c ex, St C S A B' (ex ++ cs') s' ∧ Fut B cs s B' (ex ++ cs') s' ∧ Fly A c e ex ∧ X c cs'
variable (prog : Program) (w : World)
/-- a triple -/
def Tr (pre : FH → Prop) (R : FH → β → γ → Prop) (A : Around) (t : Sem β) (cs : Cells) (P : γ → Cells → Prop) (X : Value → Cells → Prop) : Prop :=
  ∀ B s, St C S A B cs s → pre B → wpAny (model prog w) A t (Po C S R A B cs s P) (PoX C S A B cs s X) s
end
abbrev RB : FH → Bool → Bool → Prop := fun _ a b => a = b
abbrev RU : FH → Unit → Unit → Prop := fun _ _ _ => True
/-- any relation that hangs on nothing -/
abbrev RE {α : Type} : FH → α → α → Prop := fun _ a b => a = b
def NoX : Value → Cells → Prop := fun _ _ => False
abbrev pT : FH → Prop := fun _ => True
def Mono (pre : FH → Prop) : Prop := ∀ B B', FH.le B B' → pre B → pre B'
theorem mono_T : Mono pT := fun _ _ _ _ => trivial

section
variable {C : Cls} {S : FH} {prog : Program} {w : World} {β γ δ ε : Type} {R : FH → β → γ → Prop} {R' : FH → δ → ε → Prop} {pre : FH → Prop} {A : Around} {cs : Cells} {P : γ → Cells → Prop} {P' : ε → Cells → Prop} {X : Value → Cells → Prop}
  {B B' : FH} {s s' : Shared} {cs' : Cells}

theorem Po.step (F : Fut B cs s B' cs' s') {r : β} {s₁ : Shared} (h : Po C S R A B' cs' s' P r s₁) : Po C S R A B cs s P r s₁ :=
  let ⟨B₂, cs₂, x, a, b, c, d⟩ := h; ⟨B₂, cs₂, x, a, F.trans b, c, d⟩
theorem PoX.step (F : Fut B cs s B' cs' s') {r : Value} {s₁ : Shared} (h : PoX C S A B' cs' s' X r s₁) : PoX C S A B cs s X r s₁ :=
  let ⟨B₂, cs₂, x, ex, a, b, c, d⟩ := h; ⟨B₂, cs₂, x, ex, a, F.trans b, c, d⟩
theorem Po.mono {Q : γ → Cells → Prop} (h : ∀ x cs, P x cs → Q x cs) {r : β} {s₁ : Shared} (hp : Po C S R A B cs s P r s₁) : Po C S R A B cs s Q r s₁ :=
  let ⟨B₂, cs₂, x, a, b, c, d⟩ := hp; ⟨B₂, cs₂, x, a, b, c, h _ _ d⟩
theorem PoX.mono {Y : Value → Cells → Prop} (h : ∀ x cs, X x cs → Y x cs) {r : Value} {s₁ : Shared} (hp : PoX C S A B cs s X r s₁) : PoX C S A B cs s Y r s₁ :=
  let ⟨B₂, cs₂, x, ex, a, b, c, d⟩ := hp; ⟨B₂, cs₂, x, ex, a, b, c, h _ _ d⟩
theorem PoX.none {r : Value} {s₁ : Shared} (hp : PoX C S A B cs s NoX r s₁) : False := let ⟨_, _, _, _, _, _, _, d⟩ := hp; d

theorem Tr.mono {t : Sem β} {Q : γ → Cells → Prop} {Y : Value → Cells → Prop} (h : Tr C S prog w pre R A t cs P X) (hP : ∀ x cs, P x cs → Q x cs) (hX : ∀ c cs, X c cs → Y c cs) : Tr C S prog w pre R A t cs Q Y :=
  fun B s hs hp => wpAny_mono (h B s hs hp) (fun _ _ => Po.mono hP) fun _ _ => PoX.mono hX
theorem Tr.post {t : Sem β} {Q : γ → Cells → Prop} (h : Tr C S prog w pre R A t cs P X) (hP : ∀ x cs, P x cs → Q x cs) : Tr C S prog w pre R A t cs Q X := h.mono hP fun _ _ x => x
theorem Tr.weak {t : Sem β} {pre' : FH → Prop} (h : Tr C S prog w pre R A t cs P X) (hp : ∀ B, pre' B → pre B) : Tr C S prog w pre' R A t cs P X := fun B s hs hq => h B s hs (hp B hq)
theorem Tr.noX {t : Sem β} (h : Tr C S prog w pre R A t cs P NoX) : Tr C S prog w pre R A t cs P X := h.mono (fun _ _ x => x) fun _ _ x => x.elim

theorem Tr.pure {a : β} {x : γ} (hr : ∀ B, pre B → R B a x) (h : P x cs) : Tr C S prog w pre R A (pure a) cs P X :=
  fun B s hs hp => wpAny_pure ⟨B, cs, x, hs, .refl .., hr B hp, h⟩
theorem Tr.bind {m : Sem δ} {f : δ → Sem β} (hm : Mono pre) (h : Tr C S prog w pre R' A m cs (fun x cs' => ∀ r, Tr C S prog w (fun B => pre B ∧ R' B r x) R A (f r) cs' P X) X) :
    Tr C S prog w pre R A (m >>= f) cs P X := fun B s hs hp =>
  wpAny_bind (wpAny_mono (h B s hs hp) (fun r s₁ ⟨B₁, cs₁, x, S₁, F₁, R₁, h₁⟩ => wpAny_mono (h₁ r B₁ s₁ S₁ ⟨hm _ _ F₁.mono hp, R₁⟩) (fun _ _ => Po.step F₁) fun _ _ => PoX.step F₁) fun _ _ x => x)
theorem Tr.holding {vs : List Value} {t : Sem β} (h : Tr C S prog w pre R A t cs P X) : Tr C S prog w pre R A (holding vs t) cs P X := fun B s hs hp => wpAny_holding (h B s hs hp)
theorem Tr.silent {m : Sem Unit} {f : Unit → Sem β} (hq : ∀ {Q : Unit → Shared → Prop} {E : Value → Shared → Prop} {s : Shared}, Q () s → wpAny (model prog w) A m Q E s) (h : Tr C S prog w pre R A (f ()) cs P X) :
    Tr C S prog w pre R A (m >>= f) cs P X := fun B s hs hp => wpAny_bind (hq (h B s hs hp))
theorem Tr.standAt {pos : Pos} {f : Unit → Sem β} (h : Tr C S prog w pre R A (f ()) cs P X) : Tr C S prog w pre R A (standAt pos >>= f) cs P X := Tr.silent (fun h => wpAny_standAt h) h
theorem Tr.rule {n : String} {f : Unit → Sem β} (h : Tr C S prog w pre R A (f ()) cs P X) : Tr C S prog w pre R A (PySem.rule n >>= f) cs P X := Tr.silent (fun h => wpAny_rule h) h
theorem Tr.of_eq {t t' : Sem β} (e : t = t') (h : Tr C S prog w pre R A t' cs P X) : Tr C S prog w pre R A t cs P X := e ▸ h
theorem Tr.wp {t : Sem β} {t' : Sem β} (hq : ∀ {Q : β → Shared → Prop} {E : Value → Shared → Prop} {s : Shared}, wpAny (model prog w) A t' Q E s → wpAny (model prog w) A t Q E s) (h : Tr C S prog w pre R A t' cs P X) :
    Tr C S prog w pre R A t cs P X := fun B s hs hp => hq (h B s hs hp)
theorem Tr.operate {vs : List Value} {t : Sem Value} {R : FH → Value → γ → Prop} (h : Tr C S prog w pre R A t cs P X) : Tr C S prog w pre R A (operate vs t) cs P X :=
  fun B s hs hp Γ p hΓ => by rw [Sem.wp_operate]; exact h B s hs hp Γ p hΓ
theorem Tr.release {vs ks : List Value} {f : Unit → Sem β} (h : Tr C S prog w pre R A (f ()) cs P X) : Tr C S prog w pre R A (release vs ks >>= f) cs P X :=
  Tr.silent (fun h Γ p hΓ => by rw [Sem.wp_release]; exact h) h
/-- the frame rule -/
theorem Tr.frame {t : Sem β} {fr all : Cells} (h : Tr C S prog w pre R A t cs P X) (hp : all.Perm (cs ++ fr)) : Tr C S prog w pre R A t all (fun x cs' => ∃ c, cs' = c ++ fr ∧ P x c) (fun x cs' => ∃ c, cs' = c ++ fr ∧ X x c) := fun B s hs hq => by
  have hs' := hs.perm hp
  have hs₀ : St C S A B cs s := hs'.sub (fun p hp => List.mem_append_left _ hp) (by have := hs'.nd; rw [Cells.ad, List.map_append, List.nodup_append] at this; exact this.1)
  have hall : ∀ a, a ∈ Cells.ad (cs ++ fr) ↔ a ∈ Cells.ad all := fun a => ((hp.map Prod.fst).mem_iff).symm
  refine wpAny_mono (h B s hs₀ hq) (fun r s₁ ⟨B₁, cs₁, x, S₁, F₁, R₁, h₁⟩ => ⟨B₁, cs₁ ++ fr, x, hs'.frame F₁ S₁, F₁.frame.perm hall (fun _ h => h), R₁, _, rfl, h₁⟩) fun r s₁ ⟨B₁, cs₁, x, ex, S₁, F₁, R₁, h₁⟩ => ?_
  refine ⟨B₁, cs₁ ++ fr, x, ex, ?_, ?_, R₁, _, rfl, h₁⟩
  · rw [← List.append_assoc]; exact hs'.frame F₁ S₁
  · rw [← List.append_assoc]; exact F₁.frame.perm hall (fun _ h => h)
end
end Mine

end
section
open PySem PySem.W PySem.W.X PyProof.Rows
set_option Elab.async false
set_option maxRecDepth 100000
set_option linter.unusedVariables false
namespace Mine
inductive Fl where | next | brk | cont | ret (x : V)
inductive RF (C : Cls) (B : FH) : Flow → Fl → Prop
  | next : RF C B .next .next
  | brk : RF C B .brk .brk
  | cont : RF C B .cont .cont
  | ret {v : Value} {x : V} : RV C B v x → RF C B (.ret v) (.ret x)
/-- what all triples of one program share -/
structure Md where
  C : Cls
  S : FH
  prog : Program
  w : World
section
variable (M : Md) (A : Around)
structure EV (env : Env) (e : Expr) (cs : Cells) (P : V → Cells → Prop) (X : Value → Cells → Prop) : Prop where
  it : Tr M.C M.S M.prog M.w pT (RV M.C) A (eval e env) cs P X
structure IT (env : Env) (e : Expr) (cs : Cells) (P : Bool → Cells → Prop) (X : Value → Cells → Prop) : Prop where
  it : Tr M.C M.S M.prog M.w pT RB A (isTrue e env (eval e env)) cs P X
structure EXs (env : Env) (b : List Stmt) (cs : Cells) (P : Fl → Cells → Prop) (X : Value → Cells → Prop) : Prop where
  it : Tr M.C M.S M.prog M.w pT (RF M.C) A (execs b env) cs P X
structure EX (env : Env) (b : Stmt) (cs : Cells) (P : Fl → Cells → Prop) (X : Value → Cells → Prop) : Prop where
  it : Tr M.C M.S M.prog M.w pT (RF M.C) A (exec b env) cs P X
structure AR (env : Env) (pos : Pos) (l : List Expr) (cs : Cells) (P : List V → Cells → Prop) (X : Value → Cells → Prop) : Prop where
  it : Tr M.C M.S M.prog M.w pT (RVs M.C) A (spliced (backTo pos (starEach l env))) cs P X
structure OB (op : Operator) (x y : V) (cs : Cells) (P : V → Cells → Prop) (X : Value → Cells → Prop) : Prop where
  it : ∀ a b, Tr M.C M.S M.prog M.w (fun B => RV M.C B a x ∧ RV M.C B b y) (RV M.C) A (binaryOp op a b) cs P X
structure OC (op : CmpOp) (x y : V) (cs : Cells) (P : V → Cells → Prop) (X : Value → Cells → Prop) : Prop where
  it : ∀ a b, Tr M.C M.S M.prog M.w (fun B => RV M.C B a x ∧ RV M.C B b y) (RV M.C) A (compareOp op a b) cs P X
structure OS (v sl : Expr) (x y : V) (cs : Cells) (P : V → Cells → Prop) (X : Value → Cells → Prop) : Prop where
  it : ∀ a b, Tr M.C M.S M.prog M.w (fun B => RV M.C B a x ∧ RV M.C B b y) (RV M.C) A (subscriptTail v sl a b) cs P X
structure CL (f : Value) (xs : List V) (cs : Cells) (P : V → Cells → Prop) (X : Value → Cells → Prop) : Prop where
  it : ∀ vs, Tr M.C M.S M.prog M.w (fun B => RVs M.C B vs xs) (RV M.C) A (call f vs) cs P X
structure GA (attr : Str) (x : V) (cs : Cells) (P : V → Cells → Prop) (X : Value → Cells → Prop) : Prop where
  it : ∀ o, Tr M.C M.S M.prog M.w (fun B => RV M.C B o x) (RV M.C) A (getAttr o attr true) cs P X
structure TY (x : V) (cs : Cells) (P : Bool → Cells → Prop) (X : Value → Cells → Prop) : Prop where
  it : ∀ v, Tr M.C M.S M.prog M.w (fun B => RV M.C B v x) RB A (truthy v) cs P X
structure SI (x y z : V) (cs : Cells) (P : Unit → Cells → Prop) (X : Value → Cells → Prop) : Prop where
  it : ∀ a b c, Tr M.C M.S M.prog M.w (fun B => RV M.C B a x ∧ RV M.C B b y ∧ RV M.C B c z) RU A (setItem a b c) cs P X
end
end Mine

end
section
open PySem PySem.W PySem.W.X PyProof.Rows
set_option Elab.async false
set_option maxRecDepth 100000
set_option linter.unusedVariables false
namespace Mine

/-- what the top's names are -/
structure Gl (S : FH) (mg mb : Str → Option Value) : Prop where
  g : ∀ h : Heap, (∀ a o, S a = some o → h.get? a = some o) → h.Ns mainGlobals mg
  b : ∀ h : Heap, (∀ a o, S a = some o → h.get? a = some o) → h.Ns builtinsNs mb
  lim : ∀ h : Heap, (∀ a o, S a = some o → h.get? a = some o) → h.NoLimit

section
variable {M : Md} {β γ δ ε : Type} {R : FH → β → γ → Prop} {pre : FH → Prop} {A : Around} {cs : Cells} {X : Value → Cells → Prop} {env : Env} {PV : V → Cells → Prop} {PF : Fl → Cells → Prop} {PB : Bool → Cells → Prop} {PU : Unit → Cells → Prop} {PL : List V → Cells → Prop}

theorem St.keepS {C : Cls} {S : FH} {B : FH} {s : Shared} (h : St C S A B cs s) : ∀ a o, S a = some o → s.heap.get? a = some o := fun a o e => h.keep a o (h.stat a o e)
theorem Po.now {P : γ → Cells → Prop} {B : FH} {s : Shared} (hs : St M.C M.S A B cs s) {r : β} {x : γ} (hr : R B r x) (hp : P x cs) : Po M.C M.S R A B cs s P r s := ⟨B, cs, x, hs, .refl .., hr, hp⟩
theorem Po.tok {P : γ → Cells → Prop} {B : FH} {s : Shared} (hs : St M.C M.S A B cs s) {r : β} {x : γ} (hr : R B r x) (hp : P x cs) {t : Nat} : Po M.C M.S R A B cs s P r { s with toks := t } := ⟨B, cs, x, hs.toks t, (Fut.refl ..).toks t, hr, hp⟩

-- constants
theorem ev_int {i : Int} {k : Nat} {pos : Pos} (h : PV (.int i) cs) : EV M A env (.Constant (.int i) k pos) cs PV X := ⟨fun B s hs _ => wpAny_Constant_int (.tok hs (.int i _) h)⟩
theorem ev_str {i : Str} {k : Nat} {pos : Pos} (h : PV (.str i) cs) : EV M A env (.Constant (.str i) k pos) cs PV X := ⟨fun B s hs _ => Calls.Constant_str (.tok hs (.str i _) h)⟩
theorem ev_none {k : Nat} {pos : Pos} (h : PV .none cs) : EV M A env (.Constant .none k pos) cs PV X := ⟨fun B s hs _ => wpAny_pure (.now hs .none h)⟩
theorem ev_bool {b : Bool} {k : Nat} {pos : Pos} (h : PV (.bool b) cs) : EV M A env (.Constant (.bool b) k pos) cs PV X := ⟨fun B s hs _ => wpAny_pure (.now hs (.bool b) h)⟩
-- names
theorem ev_local {x : Str} {pos : Pos} {v : V} {loc : Loc} {r : Cells} (hx : (x, v) ∈ loc) (h : PV v ((env.locals, .frame loc) :: r))
    (hk : env.scope.kind = .function := by rfl) (hl : env.kindOf x = some .local := by kernel_rfl) (hd : (x == ("__debug__" : Str)) = false := by kernel_rfl) :
    EV M A env (.Name x pos) ((env.locals, .frame loc) :: r) PV X := ⟨fun B s hs _ => by
  obtain ⟨nd, m, hn, hl'⟩ := hs.own _ (.head _)
  obtain ⟨v', e, rv⟩ := hl' _ hx
  exact wpAny_Name (wpAny_loadName_local hk hl hn e (.now hs rv h)) hd⟩
theorem ev_global {x : Str} {pos : Pos} {v : Value} {u : V} {mg mb : Str → Option Value} (G : Gl M.S mg mb) (e : mg x = some v) (hr : ∀ B, RV M.C B v u) (h : PV u cs)
    (hk : env.scope.kind = .function := by rfl) (hl : env.kindOf x = some .globalImplicit := by kernel_rfl) (hg : env.globals = mainGlobals := by rfl) (hd : (x == ("__debug__" : Str)) = false := by kernel_rfl) :
    EV M A env (.Name x pos) cs PV X := ⟨fun B s hs _ =>
  Calls.Name_function_global hk hl (Calls.loadGlobal_global (by rw [hg]; exact G.g _ hs.keepS) e (.now hs (hr B) h)) hd⟩
theorem ev_builtin {x : Str} {pos : Pos} {v : Value} {u : V} {mg mb : Str → Option Value} (G : Gl M.S mg mb) (e : mg x = none) (e' : mb x = some v) (hr : ∀ B, RV M.C B v u) (h : PV u cs)
    (hk : env.scope.kind = .function := by rfl) (hl : env.kindOf x = some .globalImplicit := by kernel_rfl) (hg : env.globals = mainGlobals := by rfl) (hb : env.builtins = builtinsNs := by rfl) (hd : (x == ("__debug__" : Str)) = false := by kernel_rfl) :
    EV M A env (.Name x pos) cs PV X := ⟨fun B s hs _ =>
  Calls.Name_function_global hk hl (Calls.loadGlobal_builtin (by rw [hg]; exact G.g _ hs.keepS) e (by rw [hb]; exact G.b _ hs.keepS) e' (.now hs (hr B) h)) hd⟩
/-- a local name is stored -/
theorem At_store {C : Cls} {S : FH} {B : FH} {h h' : Heap} {L : Addr} {x : Str} {v : Value} {u : V} {loc loc' : Loc} (hA : (MO.frame loc).At C B h L) (hv : RV C B v u) (hU : (∃ u₀, Upd x u₀ u loc loc') ∨ (x ∉ loc.map Prod.fst ∧ loc' = loc ++ [(x, u)]))
    (hn : ∀ m, h.Ns L m → h'.Ns L (fun y => if y = x then some v else m y)) : (MO.frame loc').At C B h' L := by
  obtain ⟨nd, m, hns, hl⟩ := hA
  refine ⟨?_, _, hn m hns, ?_⟩
  · rcases hU with ⟨u₀, hU⟩ | ⟨hx, rfl⟩
    · rw [hU.keys]; exact nd
    · rw [List.map_append, List.nodup_append]
      exact ⟨nd, by simp, fun a ha b hb e => by simp at hb; subst hb; subst e; exact hx ha⟩
  · intro p hp
    rcases hU with ⟨u₀, hU⟩ | ⟨hx, rfl⟩
    · rcases hU.cases nd hp with rfl | ⟨hm, hne⟩
      · exact ⟨v, if_pos rfl, hv⟩
      · obtain ⟨v', e, r⟩ := hl p hm
        exact ⟨v', (if_neg hne).trans e, r⟩
    · rcases List.mem_append.mp hp with hp | hp
      · obtain ⟨v', e, r⟩ := hl p hp
        exact ⟨v', (if_neg fun (e : p.1 = x) => hx (e ▸ List.mem_map_of_mem hp)).trans e, r⟩
      · simp at hp; subst hp
        exact ⟨v, if_pos rfl, hv⟩

/-- an owned object turned in its place, everything else as it was -/
theorem St.turn {C : Cls} {S : FH} {B : FH} {s : Shared} {a : Addr} {o o' : MO} {cs cs' : Cells} {h' : Heap} (hs : St C S A B cs s) (U : Upd a o o' cs cs') (hb : Heap.SameBut a s.heap h') (hA : o'.At C B h' a) (hn : o'.NoFrame)
    (hf : ∀ ob, s.heap.get? a = some ob → ∃ ob', h'.get? a = some ob' ∧ (IsD ob → IsD ob')) (t : Nat) :
    St C S A B cs' { s with heap := h', toks := t } ∧ Fut B cs s B cs' { s with heap := h', toks := t } := by
  have hk := U.keys
  have hin : a ∈ cs.ad := List.mem_map_of_mem (f := Prod.fst) U.mem
  have hB : ∀ b o, B b = some o → b ≠ a := fun b ob e q => by
    subst q
    have := hs.off _ U.mem
    rw [this] at e; cases e
  have oth : ∀ b, b ≠ a → h'.get? b = s.heap.get? b := fun b hne => hb.2 b hne
  refine ⟨⟨fun b o e => (oth b (hB b o e)).trans (hs.keep b o e), hs.stat, fun p hp => ?_, fun p hp => ?_, fun p hp => ?_, by rw [Cells.ad, hk]; exact hs.nd, ?_, hs.bare⟩,
    ⟨.refl _, fun b o e hne => .inl ((oth b fun q => hne (q ▸ hin)).trans e), fun _ h => .inl h, fun b hb' => .inr (by rw [Cells.ad, hk] at hb'; exact hb'), fun b o e => ?_, rfl, fun _ _ => rfl, Nat.le_refl _⟩⟩
  · rcases U.cases hs.nd hp with rfl | ⟨hm, hne⟩
    · exact hA
    · exact (hs.own p hm).same (fun o e => .inl ((oth _ hne).trans e)) (hs.nf p hm)
  · rcases U.cases hs.nd hp with rfl | ⟨hm, hne⟩
    · exact hn
    · exact hs.nf p hm
  · rcases U.cases hs.nd hp with rfl | ⟨hm, hne⟩
    · exact hs.off (a, o) U.mem
    · exact hs.off p hm
  · obtain ⟨l, e, hl⟩ := hs.frs
    refine ⟨l, e, fun en hen => ?_⟩
    obtain ⟨hk', L, oL, h1, h2, h3, h4⟩ := hl en hen
    refine ⟨hk', L, ?_⟩
    by_cases q : L = a
    · subst q
      obtain ⟨ob', e1, e2⟩ := hf oL h3
      exact ⟨ob', h1, h2, e1, e2 h4⟩
    · exact ⟨oL, h1, h2, (oth L q).trans h3, h4⟩
  · by_cases q : b = a
    · subst q; obtain ⟨ob', e1, _⟩ := hf o e; exact ⟨ob', e1⟩
    · exact ⟨o, (oth b q).trans e⟩
theorem isD_ns {h : Heap} {L : Addr} {m : Str → Option Value} (hn : h.Ns L m) : ∃ ob, h.get? L = some ob ∧ IsD ob := by
  obtain ⟨o, es, ep, e, hd, _⟩ := hn
  exact ⟨o, e, es, ep, hd⟩

/-- where a name goes: a new one behind, an old one in its place -/
def LocSet (x : Str) (u : V) (loc loc' : Loc) : Prop := (∃ u₀, Upd x u₀ u loc loc') ∨ (x ∉ loc.map Prod.fst ∧ loc' = loc ++ [(x, u)])

theorem tr_store {x : Str} {v : Value} {u : V} {loc loc' : Loc} {r : Cells} (hv : ∀ B, pre B → RV M.C B v u) (hU : LocSet x u loc loc') (h : PU () ((env.locals, .frame loc') :: r))
    (hl : env.kindOf x = some .local := by kernel_rfl) (hp : (env.scope.kind == .class || (env.scope.kind == .module && env.locals != env.globals)) = false := by rfl) :
    Tr M.C M.S M.prog M.w pre RU A (storeName env x v) ((env.locals, .frame loc) :: r) PU X := fun B s hs hp' => by
  obtain ⟨nd, m, hn, hl'⟩ := id (hs.own _ (.head _))
  refine wpAny_storeName_local hl hn (fun h' hn' hb => ?_) hp
  have hA : (MO.frame loc').At M.C B h' env.locals := by
    refine ⟨?_, _, hn', ?_⟩
    · rcases hU with ⟨u₀, hU⟩ | ⟨hx, rfl⟩
      · rw [hU.keys]; exact nd
      · rw [List.map_append, List.nodup_append]
        exact ⟨nd, by simp, fun a ha b hb e => by simp at hb; subst hb; subst e; exact hx ha⟩
    · intro p hp
      rcases hU with ⟨u₀, hU⟩ | ⟨hx, rfl⟩
      · rcases hU.cases nd hp with rfl | ⟨hm, hne⟩
        · exact ⟨v, if_pos rfl, hv B hp'⟩
        · obtain ⟨v', e, r⟩ := hl' p hm
          exact ⟨v', (if_neg hne).trans e, r⟩
      · rcases List.mem_append.mp hp with hp | hp
        · obtain ⟨v', e, r⟩ := hl' p hp
          exact ⟨v', (if_neg fun (e : p.1 = x) => hx (e ▸ List.mem_map_of_mem hp)).trans e, r⟩
        · simp at hp; subst hp
          exact ⟨v, if_pos rfl, hv B hp'⟩
  obtain ⟨S', F'⟩ := hs.turn (o := .frame loc) (o' := .frame loc') .head hb hA trivial (fun ob e => by
    obtain ⟨ob', e', hd⟩ := isD_ns hn'
    exact ⟨ob', e', fun _ => hd⟩) (s.toks + 1)
  exact ⟨B, _, (), S', F', trivial, h⟩

-- statements
theorem ex_nil (h : PF .next cs) : EXs M A env [] cs PF X := ⟨fun B s hs _ => wpAny_pure (.now hs .next h)⟩
theorem ex_cons {st : Stmt} {rest : List Stmt} (h : EX M A env st cs (fun f cs' => match f with | .next => EXs M A env rest cs' PF X | f => PF f cs') X) :
    EXs M A env (st :: rest) cs PF X := ⟨fun B s hs hp => wpAny_execs_cons (wpAny_mono (h.it B s hs trivial) (fun f s₁ ⟨B₁, cs₁, x, S₁, F₁, R₁, h₁⟩ => by
      cases R₁ with
      | next => exact wpAny_mono (h₁.it B₁ s₁ S₁ trivial) (fun _ _ => Po.step F₁) fun _ _ => PoX.step F₁
      | brk => exact ⟨B₁, cs₁, _, S₁, F₁, .brk, h₁⟩
      | cont => exact ⟨B₁, cs₁, _, S₁, F₁, .cont, h₁⟩
      | ret r => exact ⟨B₁, cs₁, _, S₁, F₁, .ret r, h₁⟩) fun _ _ x => x)⟩
theorem ex_assign {x : Str} {p' pos : Pos} {value : Expr} (h : EV M A env value cs (fun u cs' => ∃ loc loc' r, cs' = (env.locals, .frame loc) :: r ∧ LocSet x u loc loc' ∧ PF .next ((env.locals, .frame loc') :: r)) X)
    (hl : env.kindOf x = some .local := by kernel_rfl) (hs : swapsWith value (some (.Name x p')) pos.line env = pure false := by rfl)
    (hp : (env.scope.kind == .class || (env.scope.kind == .module && env.locals != env.globals)) = false := by rfl) :
    EX M A env (.Assign [.Name x p'] value pos) cs PF X := ⟨fun B s hst hp' =>
  wpAny_Assign_Name (wpAny_mono (h.it B s hst trivial) (fun v s₁ ⟨B₁, cs₁, u, S₁, F₁, R₁, loc, loc', r, e, hU, h₁⟩ => by
    subst e
    refine wpAny_mono (tr_store (M := M) (pre := fun B => RV M.C B v u) (PU := fun _ cs => PF .next cs) (X := X) (fun _ h => h) hU h₁ hl hp B₁ s₁ S₁ R₁) (fun _ s₂ ⟨B₂, cs₂, _, S₂, F₂, _, h₂⟩ => ?_) fun _ _ => PoX.step F₁
    exact ⟨B₂, cs₂, .next, S₂, F₁.trans F₂, .next, h₂⟩) fun _ _ x => x) hs⟩
theorem ex_return {e : Expr} {pos : Pos} (h : EV M A env e cs (fun u cs' => PF (.ret u) cs') X) : EX M A env (.Return (some e) pos) cs PF X := ⟨fun B s hs hp =>
  wpAny_Return_some (wpAny_mono (h.it B s hs trivial) (fun v s₁ ⟨B₁, cs₁, u, S₁, F₁, R₁, h₁⟩ => ⟨B₁, cs₁, _, S₁, F₁, .ret R₁, h₁⟩) fun _ _ x => x)⟩
theorem ex_if {test : Expr} {body orelse : List Stmt} {pos : Pos} (h : IT M A env test cs (fun b cs' => if b then EXs M A env body cs' PF X else EXs M A env orelse cs' PF X) X) :
    EX M A env (.If test body orelse pos) cs PF X := ⟨fun B s hs hp =>
  wpAny_If (wpAny_mono (h.it B s hs trivial) (fun b s₁ ⟨B₁, cs₁, u, S₁, F₁, R₁, h₁⟩ => by
    cases R₁
    cases b with
    | true => exact wpAny_mono (h₁.it B₁ s₁ S₁ trivial) (fun _ _ => Po.step F₁) fun _ _ => PoX.step F₁
    | false => exact wpAny_mono (h₁.it B₁ s₁ S₁ trivial) (fun _ _ => Po.step F₁) fun _ _ => PoX.step F₁) fun _ _ x => x)⟩
end
end Mine

end
section
open PySem PySem.W PySem.W.X PyProof.Rows
set_option Elab.async false
set_option maxRecDepth 100000
set_option linter.unusedVariables false
namespace Mine

/-- behind the first -/
abbrev ins {α : Type} (x : α) : List α → List α
  | [] => [x]
  | h :: t => h :: x :: t
theorem ins_perm {α : Type} (x : α) (l : List α) : (ins x l).Perm (x :: l) := by
  cases l with
  | nil => exact .refl _
  | cons h t => exact .swap ..

section
variable {M : Md} {β γ δ ε : Type} {R : FH → β → γ → Prop} {pre : FH → Prop} {A : Around} {cs : Cells} {X : Value → Cells → Prop} {env : Env} {PV : V → Cells → Prop} {PF : Fl → Cells → Prop} {PB : Bool → Cells → Prop} {PU : Unit → Cells → Prop} {PL : List V → Cells → Prop}

/-- a new object, owned -/
theorem St.alloc {C : Cls} {S : FH} {B : FH} {s : Shared} (hs : St C S A B cs s) {o : Obj} {m : MO} (hf : o.isFreed = false) (hA : m.At C B (s.heap.push o) s.heap.objs.size) (hn : m.NoFrame) (t : Nat) :
    s.heap.objs.size ∉ cs.ad ∧ St C S A B (ins (s.heap.objs.size, m) cs) { s with heap := s.heap.push o, toks := t } ∧ Fut B cs s B (ins (s.heap.objs.size, m) cs) { s with heap := s.heap.push o, toks := t } := by
  have hnew : s.heap.objs.size ∉ cs.ad := fun h => hs.ne_size h rfl
  have up : ∀ b ob, s.heap.get? b = some ob → (s.heap.push o).get? b = some ob := fun b ob e => Heap.get?_push_of_some _ e
  have hs' : St C S A B ((s.heap.objs.size, m) :: cs) { s with heap := s.heap.push o, toks := t } := by
    refine ⟨fun b ob e => up b ob (hs.keep b ob e), hs.stat, fun p hp => ?_, fun p hp => ?_, fun p hp => ?_, ?_, ?_, hs.bare⟩
    · rcases List.mem_cons.mp hp with rfl | hp
      · exact hA
      · exact (hs.own p hp).same (fun ob e => .inl (up _ _ e)) (hs.nf p hp)
    · rcases List.mem_cons.mp hp with rfl | hp
      · exact hn
      · exact hs.nf p hp
    · rcases List.mem_cons.mp hp with rfl | hp
      · exact hs.B_none (size_none _)
      · exact hs.off p hp
    · exact List.nodup_cons.mpr ⟨hnew, hs.nd⟩
    · obtain ⟨l, e, hl⟩ := hs.frs
      exact ⟨l, e, fun en hen => let ⟨hk, L, oL, h1, h2, h3, h4⟩ := hl en hen; ⟨hk, L, oL, h1, h2, up _ _ h3, h4⟩⟩
  refine ⟨hnew, hs'.perm (ins_perm _ _).symm, ⟨.refl _, fun b ob e _ => .inl (up b ob e), fun _ h => .inl h, fun b hb => ?_, fun b ob e => ⟨ob, up b ob e⟩, rfl, fun _ _ => rfl, Nat.le_refl _⟩⟩
  have : b ∈ Cells.ad ((s.heap.objs.size, m) :: cs) := ((ins_perm (s.heap.objs.size, m) cs).map Prod.fst).mem_iff.mp hb
  rcases List.mem_cons.mp this with rfl | h
  · exact .inl (size_none _)
  · exact .inr h
/-- a new object that stays as it is -/
theorem St.freeze {C : Cls} {S : FH} {B : FH} {s : Shared} (hs : St C S A B cs s) {o : Obj} (hf : o.isFreed = false) (t : Nat) :
    St C S A (B.add s.heap.objs.size o) cs { s with heap := s.heap.push o, toks := t } ∧ Fut B cs s (B.add s.heap.objs.size o) cs { s with heap := s.heap.push o, toks := t } ∧ (B.add s.heap.objs.size o) s.heap.objs.size = some o ∧ B.le (B.add s.heap.objs.size o) := by
  have hle : B.le (B.add s.heap.objs.size o) := B.le_add (hs.B_none (size_none _))
  have up : ∀ b ob, s.heap.get? b = some ob → (s.heap.push o).get? b = some ob := fun b ob e => Heap.get?_push_of_some _ e
  refine ⟨⟨fun b ob e => ?_, hs.stat.trans hle, fun p hp => ?_, hs.nf, fun p hp => ?_, hs.nd, ?_, hs.bare⟩, ⟨hle, fun b ob e _ => .inl (up b ob e), fun b hb => ?_, fun b hb => .inr hb, fun b ob e => ⟨ob, up b ob e⟩, rfl, fun _ _ => rfl, Nat.le_refl _⟩, FH.add_self .., hle⟩
  · by_cases q : b = s.heap.objs.size
    · subst q; rw [FH.add_self] at e; cases e; exact Heap.get?_push_size _ hf
    · rw [FH.add_other _ _ q] at e; exact up _ _ (hs.keep b ob e)
  · exact ((hs.own p hp).mono hle).same (fun ob e => .inl (up _ _ e)) (hs.nf p hp)
  · rw [FH.add_other _ _ (hs.ne_size (List.mem_map_of_mem hp))]; exact hs.off p hp
  · obtain ⟨l, e, hl⟩ := hs.frs
    refine ⟨l, e, fun en hen => ?_⟩
    obtain ⟨hk, L, oL, h1, h2, h3, h4⟩ := hl en hen
    exact ⟨hk, L, oL, h1, by rw [FH.add_other _ _ (Nat.ne_of_lt (Heap.lt_size h3))]; exact h2, up _ _ h3, h4⟩
  · by_cases q : b = s.heap.objs.size
    · subst q; exact .inr (.inl (size_none _))
    · rw [FH.add_other _ _ q] at hb; exact .inl hb

-- displays
theorem sp_nil (h : PL [] cs) : Tr M.C M.S M.prog M.w pT (RVs M.C) A (spliced []) cs PL X := fun B s hs _ => Calls.spliced_nil (.now hs .nil h)
theorem sp_cons {t : Sem Value} {rest : List (Bool × Sem Value)} (h : Tr M.C M.S M.prog M.w pT (RV M.C) A t cs (fun x cs₁ => Tr M.C M.S M.prog M.w pT (RVs M.C) A (spliced rest) cs₁ (fun xs cs₂ => PL (x :: xs) cs₂) X) X) :
    Tr M.C M.S M.prog M.w pT (RVs M.C) A (spliced ((false, t) :: rest)) cs PL X := fun B s hs hp =>
  Calls.spliced_cons (wpAny_mono (h B s hs hp) (fun v s₁ ⟨B₁, cs₁, x, S₁, F₁, R₁, h₁⟩ => wpAny_mono (h₁ B₁ s₁ S₁ trivial) (fun vs s₂ ⟨B₂, cs₂, xs, S₂, F₂, R₂, h₂⟩ => ⟨B₂, cs₂, _, S₂, F₁.trans F₂, .cons (R₁.mono F₂.mono) R₂, h₂⟩) fun _ _ => PoX.step F₁) fun _ _ x => x)
theorem ev_tuple {elts : List Expr} {k : Nat} {pos : Pos} (h : AR M A env pos elts cs (fun xs cs₁ => xs.length ≤ 100 ∧ PV (.tup xs) cs₁) X) :
    EV M A env (.Tuple elts k pos) cs PV X := ⟨fun B s hs hp =>
  Tuple_ (wpAny_mono (h.it B s hs trivial) (fun vs s₁ ⟨B₁, cs₁, x, S₁, F₁, R₁, hl, h₁⟩ => by
    obtain ⟨S₂, F₂, e, hle⟩ := S₁.freeze (o := { cls := .type "tuple", data := .seq vs.toArray }) rfl s₁.toks
    refine wpAny_newObj_type ?_ ?_
    · exact ⟨_, _, _, S₂, F₁.trans F₂, .tup e (R₁.mono hle), h₁⟩
    · show vs.toArray.size ≤ sizeLine
      rw [List.size_toArray, R₁.length]; exact Nat.le_trans hl (by decide)) fun _ _ x => x)⟩
theorem ev_list {elts : List Expr} {pos : Pos} (h : AR M A env pos elts cs (fun xs cs₁ => xs.length ≤ 100 ∧ ∀ a, a ∉ cs₁.ad → PV (.ref a) (ins (a, .lst .list xs) cs₁)) X) :
    EV M A env (.List elts pos) cs PV X := ⟨fun B s hs hp =>
  List_ (wpAny_mono (h.it B s hs trivial) (fun vs s₁ ⟨B₁, cs₁, x, S₁, F₁, R₁, hl, h₁⟩ => by
    obtain ⟨hn, S₂, F₂⟩ := S₁.alloc (o := { cls := .type "list", data := .seq vs.toArray }) (m := .lst .list x) rfl ⟨none, vs, 0, Heap.get?_push_size _ rfl, rfl, R₁⟩ trivial s₁.toks
    refine wpAny_newObj_type ?_ ?_
    · exact ⟨_, _, _, S₂, F₁.trans F₂, .ref _, h₁ _ hn⟩
    · show vs.toArray.size ≤ sizeLine
      rw [List.size_toArray, R₁.length]; exact Nat.le_trans hl (by decide)) fun _ _ x => x)⟩
-- operators
theorem ev_binop {l r : Expr} {op : Operator} {pos : Pos} (h : EV M A env l cs (fun x cs₁ => EV M A env r cs₁ (fun y cs₂ => OB M A op x y cs₂ PV X) X) X) :
    EV M A env (.BinOp l op r pos) cs PV X := ⟨fun B s hs hp =>
  wpAny_BinOp (wpAny_mono (h.it B s hs trivial) (fun v s₁ ⟨B₁, cs₁, x, S₁, F₁, R₁, h₁⟩ => wpAny_mono (h₁.it B₁ s₁ S₁ trivial) (fun v' s₂ ⟨B₂, cs₂, y, S₂, F₂, R₂, h₂⟩ =>
    wpAny_mono (h₂.it v v' B₂ s₂ S₂ ⟨R₁.mono F₂.mono, R₂⟩) (fun _ _ => Po.step (F₁.trans F₂)) fun _ _ => PoX.step (F₁.trans F₂)) fun _ _ => PoX.step F₁) fun _ _ x => x)⟩
theorem ev_compare {l r : Expr} {op : CmpOp} {pos : Pos} (h : EV M A env l cs (fun x cs₁ => EV M A env r cs₁ (fun y cs₂ => OC M A op x y cs₂ PV X) X) X)
    (hm : behindInMarks op r = false := by with_unfolding_all rfl) :
    EV M A env (.Compare l [op] [r] pos) cs PV X := ⟨fun B s hs hp =>
  wpAny_Compare1 (wpAny_mono (h.it B s hs trivial) (fun v s₁ ⟨B₁, cs₁, x, S₁, F₁, R₁, h₁⟩ => wpAny_mono (h₁.it B₁ s₁ S₁ trivial) (fun v' s₂ ⟨B₂, cs₂, y, S₂, F₂, R₂, h₂⟩ =>
    wpAny_mono (h₂.it v v' B₂ s₂ S₂ ⟨R₁.mono F₂.mono, R₂⟩) (fun _ _ => Po.step (F₁.trans F₂)) fun _ _ => PoX.step (F₁.trans F₂)) fun _ _ => PoX.step F₁) fun _ _ x => x) hm⟩
/-- tests -/
theorem tr_truthy_bool {b : Bool} (h : PB b cs) : TY M A (.bool b) cs PB X := ⟨fun v B s hs hp => by
  cases hp
  exact wpAny_truthy_bool (.now hs rfl h)⟩
theorem tr_truthy_none (h : PB false cs) : TY M A .none cs PB X := ⟨fun v B s hs hp => by
  cases hp
  exact truthy_none (.now hs rfl h)⟩
theorem it_compare {l r : Expr} {op : CmpOp} {pos : Pos} (h : EV M A env l cs (fun x cs₁ => EV M A env r cs₁ (fun y cs₂ => OC M A op x y cs₂ (fun u cs₃ => ∃ b, u = .bool b ∧ PB b cs₃) X) X) X)
    (hm : behindInMarks op r = false := by with_unfolding_all rfl) :
    IT M A env (.Compare l [op] [r] pos) cs PB X := ⟨fun B s hs hp =>
  wpAny_isTrue_Compare1 (wpAny_mono (h.it B s hs trivial) (fun v s₁ ⟨B₁, cs₁, x, S₁, F₁, R₁, h₁⟩ => wpAny_mono (h₁.it B₁ s₁ S₁ trivial) (fun v' s₂ ⟨B₂, cs₂, y, S₂, F₂, R₂, h₂⟩ =>
    wpAny_mono (h₂.it v v' B₂ s₂ S₂ ⟨R₁.mono F₂.mono, R₂⟩) (fun c s₃ ⟨B₃, cs₃, u, S₃, F₃, R₃, b, e, h₃⟩ => by
      subst e
      cases R₃
      exact wpAny_truthy_bool ⟨B₃, cs₃, b, S₃, (F₁.trans F₂).trans F₃, rfl, h₃⟩) fun _ _ => PoX.step (F₁.trans F₂)) fun _ _ => PoX.step F₁) fun _ _ x => x) hm⟩
theorem it_plain {e : Expr} (h : EV M A env e cs (fun x cs₁ => TY M A x cs₁ PB X) X)
    (he : isTrue e env (eval e env) = (do let v ← eval e env; standAt e.pos; holding [v] (truthy v)) := by rfl) : IT M A env e cs PB X := ⟨fun B s hs hp =>
  isTrue_plain (wpAny_mono (h.it B s hs trivial) (fun v s₁ ⟨B₁, cs₁, x, S₁, F₁, R₁, h₁⟩ => wpAny_mono (h₁.it v B₁ s₁ S₁ R₁) (fun _ _ => Po.step F₁) fun _ _ => PoX.step F₁) fun _ _ x => x) he⟩
theorem it_not {e : Expr} {pos : Pos} (h : IT M A env e cs (fun b cs₁ => PB (!b) cs₁) X) : IT M A env (.UnaryOp .Not e pos) cs PB X := ⟨fun B s hs hp =>
  isTrue_not (wpAny_mono (h.it B s hs trivial) (fun v s₁ ⟨B₁, cs₁, x, S₁, F₁, R₁, h₁⟩ => ⟨B₁, cs₁, _, S₁, F₁, by rw [show v = x from R₁], h₁⟩) fun _ _ x => x)⟩
theorem it_and_nil {pos : Pos} (h : PB true cs) : IT M A env (.BoolOp .And [] pos) cs PB X := ⟨fun B s hs _ => isTrue_and_nil (.now hs rfl h)⟩
theorem it_or_nil {pos : Pos} (h : PB false cs) : IT M A env (.BoolOp .Or [] pos) cs PB X := ⟨fun B s hs _ => isTrue_or_nil (.now hs rfl h)⟩
theorem it_and {e : Expr} {rest : List Expr} {pos : Pos} (h : IT M A env e cs (fun b cs₁ => if b then IT M A env (.BoolOp .And rest pos) cs₁ PB X else PB false cs₁) X) :
    IT M A env (.BoolOp .And (e :: rest) pos) cs PB X := ⟨fun B s hs hp =>
  isTrue_and (wpAny_mono (h.it B s hs trivial) (fun v s₁ ⟨B₁, cs₁, x, S₁, F₁, R₁, h₁⟩ => by
    cases R₁
    cases v with
    | true => exact wpAny_mono (h₁.it B₁ s₁ S₁ trivial) (fun _ _ => Po.step F₁) fun _ _ => PoX.step F₁
    | false => exact ⟨B₁, cs₁, _, S₁, F₁, rfl, h₁⟩) fun _ _ x => x)⟩
theorem it_or {e : Expr} {rest : List Expr} {pos : Pos} (h : IT M A env e cs (fun b cs₁ => if b then PB true cs₁ else IT M A env (.BoolOp .Or rest pos) cs₁ PB X) X) :
    IT M A env (.BoolOp .Or (e :: rest) pos) cs PB X := ⟨fun B s hs hp =>
  isTrue_or (wpAny_mono (h.it B s hs trivial) (fun v s₁ ⟨B₁, cs₁, x, S₁, F₁, R₁, h₁⟩ => by
    cases R₁
    cases v with
    | false => exact wpAny_mono (h₁.it B₁ s₁ S₁ trivial) (fun _ _ => Po.step F₁) fun _ _ => PoX.step F₁
    | true => exact ⟨B₁, cs₁, _, S₁, F₁, rfl, h₁⟩) fun _ _ x => x)⟩
theorem ev_ifexp {test body orelse : Expr} {pos : Pos} (h : IT M A env test cs (fun b cs₁ => if b then EV M A env body cs₁ PV X else EV M A env orelse cs₁ PV X) X) :
    EV M A env (.IfExp test body orelse pos) cs PV X := ⟨fun B s hs hp =>
  wpAny_IfExp (wpAny_mono (h.it B s hs trivial) (fun v s₁ ⟨B₁, cs₁, x, S₁, F₁, R₁, h₁⟩ => by
    cases R₁
    cases v with
    | true => exact wpAny_mono (h₁.it B₁ s₁ S₁ trivial) (fun _ _ => Po.step F₁) fun _ _ => PoX.step F₁
    | false => exact wpAny_mono (h₁.it B₁ s₁ S₁ trivial) (fun _ _ => Po.step F₁) fun _ _ => PoX.step F₁) fun _ _ x => x)⟩
-- ints, strs, none
theorem op_add_int {i j : Int} (h : PV (.int (i + j)) cs) : OB M A .Add (.int i) (.int j) cs PV X := ⟨fun a b B s hs ⟨r, r'⟩ => by
  cases r; cases r'
  exact wpAny_add_int (.tok hs (.int _ _) h)⟩
theorem op_mod_int {i j : Int} (hj : j ≠ 0) (h : PV (.int (i.fmod j)) cs) : OB M A .Mod (.int i) (.int j) cs PV X := ⟨fun a b B s hs ⟨r, r'⟩ => by
  cases r; cases r'
  exact mod_int' hj (.tok hs (.int _ _) h)⟩
theorem op_div_int {i j : Int} (hj : j ≠ 0) (hb : j.natAbs < 1073741824) (h : PV (.int (i.fdiv j)) cs) : OB M A .FloorDiv (.int i) (.int j) cs PV X := ⟨fun a b B s hs ⟨r, r'⟩ => by
  cases r; cases r'
  exact floordiv_int hj (.tok hs (.int _ _) h) (.inl (PyProof.noPylong_small hb))⟩
theorem op_lt_int {i j : Int} (h : PV (.bool (decide (i < j))) cs) : OC M A .Lt (.int i) (.int j) cs PV X := ⟨fun a b B s hs ⟨r, r'⟩ => by
  cases r; cases r'
  exact wpAny_lt_int (.now hs (.bool _) h)⟩
theorem op_eq_int {i j : Int} (h : PV (.bool (i == j)) cs) : OC M A .Eq (.int i) (.int j) cs PV X := ⟨fun a b B s hs ⟨r, r'⟩ => by
  cases r; cases r'
  exact PyProof.Rows.eq_int (.now hs (.bool _) h)⟩
theorem op_ne_int {i j : Int} (h : PV (.bool (i != j)) cs) : OC M A .NotEq (.int i) (.int j) cs PV X := ⟨fun a b B s hs ⟨r, r'⟩ => by
  cases r; cases r'
  exact PyProof.Rows.ne_int (.now hs (.bool _) h)⟩
theorem op_eq_str {i j : Str} (h : PV (.bool (i == j)) cs) : OC M A .Eq (.str i) (.str j) cs PV X := ⟨fun a b B s hs ⟨r, r'⟩ => by
  cases r; cases r'
  exact PyProof.Rows.eq_str (.now hs (.bool _) h)⟩
-- items
theorem ev_subscript {v sl : Expr} {pos : Pos} (h : EV M A env v cs (fun x cs₁ => EV M A env sl cs₁ (fun y cs₂ => OS M A v sl x y cs₂ PV X) X) X) :
    EV M A env (.Subscript v sl pos) cs PV X := ⟨fun B s hs hp =>
  Subscript_ (wpAny_mono (h.it B s hs trivial) (fun v s₁ ⟨B₁, cs₁, x, S₁, F₁, R₁, h₁⟩ => wpAny_mono (h₁.it B₁ s₁ S₁ trivial) (fun v' s₂ ⟨B₂, cs₂, y, S₂, F₂, R₂, h₂⟩ =>
    wpAny_mono (h₂.it v v' B₂ s₂ S₂ ⟨R₁.mono F₂.mono, R₂⟩) (fun _ _ => Po.step (F₁.trans F₂)) fun _ _ => PoX.step (F₁.trans F₂)) fun _ _ => PoX.step F₁) fun _ _ x => x)⟩
end
end Mine

end
section
open PySem PySem.W PySem.W.X PyProof.Rows
set_option Elab.async false
set_option maxRecDepth 100000
set_option linter.unusedVariables false
namespace Mine

theorem lookup_of_mem {β : Type} : ∀ {l : List (Str × β)} {k : Str} {v : β}, (l.map Prod.fst).Nodup → (k, v) ∈ l → l.lookup k = some v
  | (k', v') :: r, k, v, nd, hm => by
    rw [List.lookup_cons]
    rcases List.mem_cons.mp hm with e | hm
    · cases e; simp
    · simp only [List.map_cons, List.nodup_cons] at nd
      have : (k == k') = false := beq_eq_false_iff_ne.mpr fun e => nd.1 (e ▸ List.mem_map_of_mem (f := Prod.fst) hm)
      rw [this]
      exact lookup_of_mem nd.2 hm
theorem zip_rel {C : Cls} {B : FH} : ∀ {names : List Str} {vs : List Value} {args : List V}, RVs C B vs args → ∀ p ∈ names.zip args, ∃ v, (p.1, v) ∈ names.zip vs ∧ RV C B v p.2
  | [], _, _, _, p, hp => by simp at hp
  | _ :: _, [], [], _, p, hp => by simp at hp
  | n :: ns, v :: vs, x :: xs, .cons r rs, p, hp => by
    rcases List.mem_cons.mp hp with rfl | hp
    · exact ⟨v, .head _, r⟩
    · obtain ⟨v', hm, r'⟩ := zip_rel (names := ns) rs p hp
      exact ⟨v', .tail _ hm, r'⟩
theorem zip_keys {α : Type} : ∀ (names : List Str) (l : List α), names.length ≤ l.length → (names.zip l).map Prod.fst = names
  | [], _, _ => rfl
  | _ :: _, [], h => by simp at h
  | n :: ns, x :: xs, h => by simp [zip_keys ns xs (by simpa using h)]

def Fl.val : Fl → V
  | .ret x => x
  | _ => .none

/-- room on the stack -/
structure Fit (n : Nat) (A : Around) : Prop where
  dep : A.depth + 3 * n ≤ 450
  un : A.units + 40 * n ≤ 1800
  hd : A.handled = none
theorem Fit.room {n : Nat} {A : Around} (h : Fit n A) : A.depth < recursionLimit := by have := h.dep; show A.depth < 1000; omega
theorem Fit.units {n : Nat} {A : Around} (h : Fit n A) : A.units < cLine := by have := h.un; show A.units < 9900; omega
theorem Fit.deeper {n : Nat} {A : Around} (h : Fit (n + 1) A) (env : Env) : Fit n (A.deeper env) := ⟨by have := h.dep; show A.depth + 1 + 3 * n ≤ 450; omega, by have := h.un; show A.units + 3 + 40 * n ≤ 1800; omega, h.hd⟩
theorem Fit.le {n m : Nat} {A : Around} (h : Fit n A) (hm : m ≤ n) : Fit m A := ⟨by have := h.dep; omega, by have := h.un; omega, h.hd⟩

section
variable {M : Md} {β γ δ ε : Type} {R : FH → β → γ → Prop} {pre : FH → Prop} {A : Around} {cs : Cells} {X : Value → Cells → Prop} {env : Env} {PV : V → Cells → Prop} {PF : Fl → Cells → Prop} {PB : Bool → Cells → Prop} {PU : Unit → Cells → Prop} {PL : List V → Cells → Prop}

/-- a new frame -/
theorem St.enter {C : Cls} {S : FH} {B : FH} {s : Shared} (hs : St C S A B cs s) {h' : Heap} {vs : List Value} {args : List V} {names : List Str} {L : Addr} {t : Nat} {env : Env} (hr : RVs C B vs args) (nd : names.Nodup) (hlen : names.length ≤ args.length)
    (hL : L = s.heap.objs.size) (hkm : env.scope.kind ≠ .module) (hfr : env.frame = some L)
    (hns : h'.Ns L (fun x => (names.zip vs).reverse.lookup x)) (hsb : Heap.SameBut L (s.heap.push { cls := .type "frame", data := .dict #[] }) h') :
    L ∉ cs.ad ∧ St C S (A.deeper env) B ((L, .frame (names.zip args)) :: cs) { s with heap := h', toks := t } ∧ Fut B cs s B ((L, .frame (names.zip args)) :: cs) { s with heap := h', toks := t } := by
  subst hL
  have hnew : s.heap.objs.size ∉ cs.ad := fun h => hs.ne_size h rfl
  have up : ∀ b ob, s.heap.get? b = some ob → h'.get? b = some ob := fun b ob e => (hsb.2 b (Nat.ne_of_lt (Heap.lt_size e))).trans (Heap.get?_push_of_some _ e)
  have hv : names.length ≤ vs.length := by rw [hr.length]; exact hlen
  refine ⟨hnew, ⟨fun b ob e => up b ob (hs.keep b ob e), hs.stat, fun p hp => ?_, fun p hp => ?_, fun p hp => ?_, List.nodup_cons.mpr ⟨hnew, hs.nd⟩, ?_, hs.bare⟩,
    ⟨.refl _, fun b ob e _ => .inl (up b ob e), fun _ h => .inl h, fun b hb => ?_, fun b ob e => ⟨ob, up b ob e⟩, rfl, fun _ _ => rfl, Nat.le_refl _⟩⟩
  · rcases List.mem_cons.mp hp with rfl | hp
    · refine ⟨by rw [zip_keys _ _ hlen]; exact nd, _, hns, fun p hp => ?_⟩
      obtain ⟨v, hm, r⟩ := zip_rel hr p hp
      refine ⟨v, lookup_of_mem ?_ (List.mem_reverse.mpr hm), r⟩
      rw [List.map_reverse, (List.reverse_perm _).nodup_iff, zip_keys _ _ hv]; exact nd
    · exact (hs.own p hp).same (fun ob e => .inl (up _ _ e)) (hs.nf p hp)
  · rcases List.mem_cons.mp hp with rfl | hp
    · trivial
    · exact hs.nf p hp
  · rcases List.mem_cons.mp hp with rfl | hp
    · exact hs.B_none (size_none _)
    · exact hs.off p hp
  · obtain ⟨l, e, hl⟩ := hs.frs
    refine ⟨env :: l, by show A.frames.map _ = _; rw [e]; rfl, fun en hen => ?_⟩
    rcases List.mem_cons.mp hen with rfl | hen
    · obtain ⟨ob, e', hd⟩ := isD_ns hns
      exact ⟨hkm, _, ob, hfr, hs.B_none (size_none _), e', hd⟩
    · obtain ⟨hk, L, oL, h1, h2, h3, h4⟩ := hl en hen
      exact ⟨hk, L, oL, h1, h2, up _ _ h3, h4⟩
  · rcases List.mem_cons.mp hb with rfl | h
    · exact .inl (size_none _)
    · exact .inr h
/-- back from a frame -/
theorem St.leave {C : Cls} {S : FH} {B : FH} {s : Shared} {env : Env} {p : Addr × MO} (hs : St C S (A.deeper env) B (p :: cs) s) : St C S A B cs s := by
  refine ⟨hs.keep, hs.stat, fun q hq => hs.own q (.tail _ hq), fun q hq => hs.nf q (.tail _ hq), fun q hq => hs.off q (.tail _ hq), (List.nodup_cons.mp hs.nd).2, ?_, hs.bare⟩
  obtain ⟨l, e, hl⟩ := hs.frs
  have e' : A.frames.map (env :: ·) = some l := e
  obtain ⟨l₀, h0, rfl⟩ := Option.map_eq_some_iff.mp e'
  exact ⟨l₀, h0, fun en hen => hl en (.tail _ hen)⟩
theorem Fut.drop {B B' : FH} {cs' : Cells} {s s' : Shared} {p : Addr × MO} (F : Fut B cs s B' (p :: cs') s') : Fut B cs s B' cs' s' :=
  ⟨F.mono, F.pres, F.newB, fun a ha => F.newC a (.tail _ ha), F.there, F.os, F.gens, F.gsz⟩

/-- a function object, by the parts that a call asks for -/
structure FnIs (o : Obj) (q : Str) (par : Arguments) (body : List Stmt) (sc : Scope) (clo : List (Str × Addr)) (cd dfl : Value) : Prop where
  it : ∃ fd : FuncData, o.data = .func fd ∧ fd.qualname = q ∧ fd.params = par ∧ fd.body = .stmts body ∧ fd.scope = sc ∧ fd.closure = clo ∧ fd.code = cd ∧ fd.globals = mainGlobals ∧ fd.builtins = builtinsNs ∧ fd.defaults = dfl ∧ fd.kwdefaults = .none
abbrev bareFn (q : Str) (par : Arguments) (dfl : Value) : FuncData := { (default : FuncData) with qualname := q, params := par, defaults := dfl, kwdefaults := .none }
theorem bindArgs_bare {fd : FuncData} {q : Str} {par : Arguments} {dfl : Value} (h1 : fd.qualname = q) (h2 : fd.params = par) (h3 : fd.defaults = dfl) (h4 : fd.kwdefaults = .none) (a : Args) : bindArgs fd a = bindArgs (bareFn q par dfl) a := by
  obtain ⟨⟩ := fd
  dsimp only at h1 h2 h3 h4
  subst h1 h2 h3 h4
  rfl
/-- the env of a call -/
abbrev envFn (sc : Scope) (L : Addr) (clo : List (Str × Addr)) (q : Str) (f : Addr) (cd : Value) : Env := newEnv sc L mainGlobals clo (q ++ ".<locals>.") (some f) cd none builtinsNs

/-- a def of the text's, no cells of its own, called; nothing is raised -/
theorem fn_defW {n : Nat} {f : Addr} {q : Str} {par : Arguments} {body : List Stmt} {sc : Scope} {clo : List (Str × Addr)} {cd dfl : Value} {vs ws : List Value} {args : List V} {names : List Str} (fit : Fit (n + 1) A)
    (hf : ∀ B : FH, pre B → M.S.le B → ∃ o, B f = some o ∧ FnIs o q par body sc clo cd dfl) (hcd : ∀ B : FH, pre B → M.S.le B → ∀ h : Heap, (∀ a o, B a = some o → h.get? a = some o) → h.CodeRec cd q)
    (hbind : ∀ B : FH, pre B → M.S.le B → ∀ h : Heap, (∀ a o, B a = some o → h.get? a = some o) → Looks (model M.prog M.w) h (bindArgs (bareFn q par dfl) ⟨vs, []⟩) (names.zip ws))
    (lim : ∀ h : Heap, (∀ a o, M.S a = some o → h.get? a = some o) → h.NoLimit)
    (hr : ∀ B, pre B → M.S.le B → RVs M.C B ws args) (nd : names.Nodup) (hlen : names.length ≤ args.length)
    (h : ∀ L, L ∉ cs.ad → EXs M (A.deeper (envFn sc L clo q f cd)) (envFn sc L clo q f cd) body ((L, .frame (names.zip args)) :: cs) (fun fl cs' => ∃ p cs'', cs' = p :: cs'' ∧ PV fl.val cs'') NoX)
    (hco : sc.isCoroutine = false := by kernel_rfl) (hgen : sc.isGenerator = false := by kernel_rfl) (hk : sc.kind = .function := by kernel_rfl)
    (hcell : ∀ x ∈ sc.names, x.2 ≠ .cell := by decide +kernel) (hloc : ∀ x ∈ names, sc.names.lookup x = some .local := by decide +kernel) :
    Tr M.C M.S M.prog M.w pre (RV M.C) A (call (.ref f) vs) cs PV X := fun B s hs hp => by
  obtain ⟨o, ho, ⟨fd, hd, e1, e2, e3, e4, e5, e6, e7, e8, e9, e10⟩⟩ := hf B hp hs.stat
  have hcd' := hcd B hp hs.stat s.heap hs.keep
  have hb' := hbind B hp hs.stat s.heap hs.keep
  refine wpAny_call (codeAny_call_function fit.room (hs.keep _ _ ho) hd (by rw [e4]; exact hco) (by rw [e4]; exact hgen) e3 (by rw [e6, e1]; exact hcd') ?_)
  rw [bindArgs_bare e1 e2 e9 e10, e4, e5, e6, e7, e8, e1]
  refine hb'.here (wpAny_newFunctionEnv hcell (fun x hx => hloc _ (List.of_mem_zip hx).1) (fun h' hns hsb => ?_) hk)
  have lim' : h'.NoLimit := (lim s.heap hs.keepS).fresh _ hsb
  obtain ⟨hn, S₁, F₁⟩ := hs.enter (env := envFn sc s.heap.objs.size clo q f cd) (t := s.toks + (names.zip ws).length) (hr B hp hs.stat) nd hlen rfl (by show sc.kind ≠ _; rw [hk]; decide) rfl hns hsb
  refine ⟨lim', codeAny_func (wpAny_mono ((h _ hn).it B _ S₁ trivial) (fun fl s₂ ⟨B₂, cs₂, x, S₂, F₂, R₂, p, cs₃, e, h₂⟩ => ?_) fun _ _ x => x.none.elim)⟩
  subst e
  refine ⟨B₂, cs₃, x.val, S₂.leave, (F₁.trans F₂).drop, ?_, h₂⟩
  cases R₂ <;> first | exact .none | assumption

/-- a def of the text's, no cells of its own, called; nothing is raised -/
theorem fn_def {n : Nat} {f : Addr} {q : Str} {par : Arguments} {body : List Stmt} {sc : Scope} {clo : List (Str × Addr)} {cd dfl : Value} {vs : List Value} {args : List V} {names : List Str} (fit : Fit (n + 1) A)
    (hf : ∀ B : FH, pre B → M.S.le B → ∃ o, B f = some o ∧ FnIs o q par body sc clo cd dfl) (hcd : ∀ B : FH, pre B → M.S.le B → ∀ h : Heap, (∀ a o, B a = some o → h.get? a = some o) → h.CodeRec cd q)
    (hbind : ∀ B : FH, pre B → M.S.le B → ∀ h : Heap, (∀ a o, B a = some o → h.get? a = some o) → Looks (model M.prog M.w) h (bindArgs (bareFn q par dfl) ⟨vs, []⟩) (names.zip vs))
    (lim : ∀ h : Heap, (∀ a o, M.S a = some o → h.get? a = some o) → h.NoLimit)
    (hr : ∀ B, pre B → RVs M.C B vs args) (nd : names.Nodup) (hlen : names.length ≤ args.length)
    (h : ∀ L, L ∉ cs.ad → EXs M (A.deeper (envFn sc L clo q f cd)) (envFn sc L clo q f cd) body ((L, .frame (names.zip args)) :: cs) (fun fl cs' => ∃ p cs'', cs' = p :: cs'' ∧ PV fl.val cs'') NoX)
    (hco : sc.isCoroutine = false := by kernel_rfl) (hgen : sc.isGenerator = false := by kernel_rfl) (hk : sc.kind = .function := by kernel_rfl)
    (hcell : ∀ x ∈ sc.names, x.2 ≠ .cell := by decide +kernel) (hloc : ∀ x ∈ names, sc.names.lookup x = some .local := by decide +kernel) :
    Tr M.C M.S M.prog M.w pre (RV M.C) A (call (.ref f) vs) cs PV X :=
  fn_defW fit hf hcd hbind lim (fun B hp _ => hr B hp) nd hlen h hco hgen hk hcell hloc

-- calls
theorem args_nil {pos : Pos} (h : PL [] cs) : AR M A env pos [] cs PL X := ⟨sp_nil h⟩
theorem args_cons {e : Expr} {rest : List Expr} {pos : Pos} (h : EV M A env e cs (fun x cs₁ => AR M A env pos rest cs₁ (fun xs cs₂ => PL (x :: xs) cs₂) X) X)
    (he : starEach (e :: rest) env = (false, eval e env) :: starEach rest env := by rfl) : AR M A env pos (e :: rest) cs PL X := ⟨by
  rw [he]; exact sp_cons (h.it.post fun _ _ h => h.it)⟩
theorem AR.post {pos : Pos} {l : List Expr} {Q : List V → Cells → Prop} (h : AR M A env pos l cs PL X) (hp : ∀ x cs, PL x cs → Q x cs) : AR M A env pos l cs Q X := ⟨h.it.post hp⟩
theorem EV.post {e : Expr} {Q : V → Cells → Prop} (h : EV M A env e cs PV X) (hp : ∀ x cs, PV x cs → Q x cs) : EV M A env e cs Q X := ⟨h.it.post hp⟩
theorem CL.post {f : Value} {xs : List V} {Q : V → Cells → Prop} (h : CL M A f xs cs PV X) (hp : ∀ x cs, PV x cs → Q x cs) : CL M A f xs cs Q X := ⟨fun vs => (h.it vs).post hp⟩
theorem CL.noX {f : Value} {xs : List V} (h : CL M A f xs cs PV NoX) : CL M A f xs cs PV X := ⟨fun vs => (h.it vs).noX⟩

/-- who keeps what while f runs: a frame, the machine -/
def KeepOk (M : Md) (f : Value) (pre : FH → Prop) : Prop := ∀ (B : FH) (h : Heap), pre B → M.S.le B → (∀ a o, B a = some o → h.get? a = some o) → ∃ k, (k = Keeper.frame ∨ k = Keeper.machine ∨ k = Keeper.boundFrame) ∧ Looks (model M.prog M.w) h (keeperOf f) k
theorem Looks.now' {α : Type} {M : Model} {h : Heap} {t : Sem α} {r : α} (e : t = pure r) : Looks M h t r := Looks.of_pure e
theorem keep_bi (id : String) : KeepOk M (.builtin id) pre := fun _ _ _ _ _ => ⟨.machine, .inr (.inl rfl), Looks.of_pure rfl⟩
theorem keep_ty (id : String) : KeepOk M (.type id) pre := fun _ _ _ _ _ => ⟨.machine, .inr (.inl rfl), Looks.of_pure rfl⟩
theorem keep_fn {f : Addr} {o : Obj} {fd : FuncData} (hf : ∀ B, pre B → M.S.le B → B f = some o) (hd : o.data = .func fd) : KeepOk M (.ref f) pre := fun B h hp hS hk =>
  ⟨.frame, .inl rfl, (Looks.ld (part := none) (hk _ _ (hf B hp hS))).andThen (by rw [hd]; exact Looks.now)⟩

theorem tr_callWith {pos : Pos} {f : Value} {first : List Value} {e : Expr} {r : List Expr} {fs : List V} (hm : Mono pre) (hk : KeepOk M f pre) (hfs : ∀ B, pre B → RVs M.C B first fs)
    (h : AR M A env pos (e :: r) cs (fun xs cs₁ => CL M A f (fs ++ xs) cs₁ PV X) X)
    (hplain : (backTo pos (starEach (e :: r) env)).any (·.1) = false := by rfl) (he : starEach (e :: r) env = (false, eval e env) :: starEach r env := by rfl) :
    Tr M.C M.S M.prog M.w pre (RV M.C) A (callWith pos f first (backTo pos (starEach (e :: r) env)) []) cs PV X := fun B s hs hp => by
  refine callWith_of (P := fun h => ∃ B', pre B' ∧ M.S.le B' ∧ ∀ a o, B' a = some o → h.get? a = some o) (by rw [hplain]; rfl) (fun h ⟨B', hp', hS', hk'⟩ => hk B' h hp' hS' hk') ?_
  have key : wpAny (model M.prog M.w) A (spliced (backTo pos (starEach (e :: r) env))) (fun vs s₁ => (∃ B', pre B' ∧ M.S.le B' ∧ ∀ a o, B' a = some o → s₁.heap.get? a = some o) ∧ wpAny (model M.prog M.w) A (call f (first ++ vs) []) (Po M.C M.S (RV M.C) A B cs s PV) (PoX M.C M.S A B cs s X) s₁) (PoX M.C M.S A B cs s X) s :=
    wpAny_mono (h.it B s hs trivial) (fun vs s₁ ⟨B₁, cs₁, xs, S₁, F₁, R₁, h₁⟩ => ⟨⟨B₁, hm _ _ F₁.mono hp, S₁.stat, S₁.keep⟩, wpAny_mono (h₁.it (first ++ vs) B₁ s₁ S₁ (((hfs B hp).mono F₁.mono).append R₁)) (fun _ _ => Po.step F₁) fun _ _ => PoX.step F₁⟩) fun _ _ x => x
  rw [he] at key ⊢
  exact Calls.evalArgs_plain key
theorem tr_callWith0 {pos : Pos} {f : Value} {first : List Value} {fs : List V} (hk : KeepOk M f pre) (hfs : ∀ B, pre B → RVs M.C B first fs)
    (h : CL M A f fs cs PV X) :
    Tr M.C M.S M.prog M.w pre (RV M.C) A (callWith pos f first (backTo pos (starEach [] env)) []) cs PV X := fun B s hs hp =>
  callWith_of (P := fun h => ∃ B', pre B' ∧ M.S.le B' ∧ ∀ a o, B' a = some o → h.get? a = some o) rfl (fun h ⟨B', hp', hS', hk'⟩ => hk B' h hp' hS' hk')
    (evalArgs_nil3 ⟨⟨B, hp, hs.stat, hs.keep⟩, by rw [List.append_nil]; exact h.it first B s hs (hfs B hp)⟩)

/-- what may be called by its value -/
inductive IsF : V → Value → Prop
  | ref (a : Addr) : IsF (.ref a) (.ref a)
  | bi (n : String) : IsF (.bi n) (.builtin n)
  | ty (n : String) : IsF (.ty n) (.type n)
theorem IsF.eq {x : V} {f v : Value} {B : FH} (h : IsF x f) (r : RV M.C B v x) : v = f := by cases h <;> cases r <;> rfl

theorem ev_call {func e : Expr} {r : List Expr} {pos : Pos} (h : EV M A env func cs (fun x cs₀ => ∃ f, IsF x f ∧ KeepOk M f pT ∧
      AR M A env pos (e :: r) cs₀ (fun xs cs₁ => CL M A f xs cs₁ PV X) X) X)
    (hplain : (backTo pos (starEach (e :: r) env)).any (·.1) = false := by rfl) (he : starEach (e :: r) env = (false, eval e env) :: starEach r env := by rfl)
    (hc : eval (.Call func (e :: r) [] pos) env = (do callWith pos (← eval func env) [] (backTo pos (starEach (e :: r) env)) (backToKw pos (keywordEach [] env))) := by rfl) :
    EV M A env (.Call func (e :: r) [] pos) cs PV X := ⟨fun B s hs hp =>
  Call_ (wpAny_mono (h.it B s hs trivial) (fun v s₁ ⟨B₁, cs₁, x, S₁, F₁, R₁, f, hf, hk, h₁⟩ => by
    cases hf.eq R₁
    have t := tr_callWith (M := M) (A := A) (env := env) (X := X) (PV := PV) (pos := pos) (first := []) (fs := []) mono_T hk (fun _ _ => .nil) h₁ hplain he
    exact wpAny_mono (t B₁ s₁ S₁ trivial) (fun _ _ => Po.step F₁) fun _ _ => PoX.step F₁) fun _ _ x => x) hc⟩
theorem ev_call0 {func : Expr} {pos : Pos} (h : EV M A env func cs (fun x cs₀ => ∃ f, IsF x f ∧ KeepOk M f pT ∧ CL M A f [] cs₀ PV X) X)
    (hc : eval (.Call func [] [] pos) env = (do callWith pos (← eval func env) [] (backTo pos (starEach [] env)) (backToKw pos (keywordEach [] env))) := by rfl) :
    EV M A env (.Call func [] [] pos) cs PV X := ⟨fun B s hs hp =>
  Call_ (wpAny_mono (h.it B s hs trivial) (fun v s₁ ⟨B₁, cs₁, x, S₁, F₁, R₁, f, hf, hk, h₁⟩ => by
    cases hf.eq R₁
    have t := tr_callWith0 (M := M) (A := A) (env := env) (X := X) (PV := PV) (pos := pos) (pre := pT) (first := []) (fs := []) hk (fun _ _ => .nil) h₁
    exact wpAny_mono (t B₁ s₁ S₁ trivial) (fun _ _ => Po.step F₁) fun _ _ => PoX.step F₁) fun _ _ x => x) hc⟩
/-- a method's road: the value under the name, the object ahead -/
def MethOk (M : Md) (A : Around) (cs : Cells) (x : V) (name : Str) (f : Value) : Prop :=
  ∀ (pl : Sem Bool) (B : FH) (s : Shared) (ov : Value), St M.C M.S A B cs s → RV M.C B ov x → ∀ (Q : Value × List Value → Shared → Prop) (E : Value → Shared → Prop), (∀ t, Q (f, [ov]) { s with toks := t }) → wpAny (model M.prog M.w) A (getMethod ov name pl) Q E s
theorem ev_method {o e : Expr} {r : List Expr} {name : Str} {apos pos : Pos} {pl : Sem Bool}
    (h : EV M A env o cs (fun x cs₁ => ∃ f, MethOk M A cs₁ x name f ∧ KeepOk M f pT ∧
      AR M A env pos (e :: r) cs₁ (fun xs cs₂ => CL M A f (x :: xs) cs₂ PV X) X) X)
    (hplain : (backTo pos (starEach (e :: r) env)).any (·.1) = false := by rfl) (hst : starEach (e :: r) env = (false, eval e env) :: starEach r env := by rfl)
    (he : eval (.Call (.Attribute o name apos) (e :: r) [] pos) env = (do
      let ov ← eval o env
      standAt apos.atName
      let (f, first) ← holding [ov] (getMethod ov name pl)
      callWith pos f first (backTo pos (starEach (e :: r) env)) []) := by rfl) :
    EV M A env (.Call (.Attribute o name apos) (e :: r) [] pos) cs PV X := ⟨fun B s hs hp =>
  MethodCall_ (wpAny_mono (h.it B s hs trivial) (fun v s₁ ⟨B₁, cs₁, x, S₁, F₁, R₁, f, hf, hk, h₁⟩ => hf pl B₁ s₁ v S₁ R₁ _ _ fun tk => by
    have S₁' := S₁.toks tk
    have F₁' := F₁.toks tk
    have t := tr_callWith (M := M) (A := A) (env := env) (X := X) (PV := PV) (pos := pos) (pre := fun B => RV M.C B v x) (first := [v]) (fs := [x]) (fun _ _ hle r => r.mono hle) (fun B h _ hS hk' => hk B h trivial hS hk') (fun _ r => .cons r .nil) h₁ hplain hst
    exact wpAny_mono (t B₁ _ S₁' R₁) (fun _ _ => Po.step F₁') fun _ _ => PoX.step F₁') fun _ _ x => x) he⟩
theorem ev_method0 {o : Expr} {name : Str} {apos pos : Pos} {pl : Sem Bool}
    (h : EV M A env o cs (fun x cs₁ => ∃ f, MethOk M A cs₁ x name f ∧ KeepOk M f pT ∧ CL M A f [x] cs₁ PV X) X)
    (he : eval (.Call (.Attribute o name apos) [] [] pos) env = (do
      let ov ← eval o env
      standAt apos.atName
      let (f, first) ← holding [ov] (getMethod ov name pl)
      callWith pos f first (backTo pos (starEach [] env)) []) := by rfl) :
    EV M A env (.Call (.Attribute o name apos) [] [] pos) cs PV X := ⟨fun B s hs hp =>
  MethodCall_ (wpAny_mono (h.it B s hs trivial) (fun v s₁ ⟨B₁, cs₁, x, S₁, F₁, R₁, f, hf, hk, h₁⟩ => hf pl B₁ s₁ v S₁ R₁ _ _ fun tk => by
    have S₁' := S₁.toks tk
    have F₁' := F₁.toks tk
    have t := tr_callWith0 (M := M) (A := A) (env := env) (X := X) (PV := PV) (pos := pos) (pre := fun B => RV M.C B v x) (first := [v]) (fs := [x]) (fun B h _ hS hk' => hk B h trivial hS hk') (fun _ r => .cons r .nil) h₁
    exact wpAny_mono (t B₁ _ S₁' R₁) (fun _ _ => Po.step F₁') fun _ _ => PoX.step F₁') fun _ _ x => x) he⟩
/-- an attribute read -/
theorem ev_attr {v : Expr} {attr : Str} {pos : Pos} (h : EV M A env v cs (fun x cs₁ => GA M A attr x cs₁ PV X) X)
    (he : eval (.Attribute v attr pos) env = (do
      let o ← eval v env
      standAt pos.atName
      let r ← holding [o] (getAttr o attr true)
      letTemporaryGo v o r
      pure r) := by with_unfolding_all rfl) : EV M A env (.Attribute v attr pos) cs PV X := ⟨fun B s hs hp =>
  Attribute_any_ (wpAny_mono (h.it B s hs trivial) (fun o s₁ ⟨B₁, cs₁, x, S₁, F₁, R₁, h₁⟩ => wpAny_mono (h₁.it o B₁ s₁ S₁ R₁) (fun _ _ => Po.step F₁) fun _ _ => PoX.step F₁) fun _ _ x => x) he⟩
theorem ex_expr {e : Expr} {pos : Pos} (h : EV M A env e cs (fun _ cs' => PF .next cs') X) (hi : interactive env = false := by rfl) (hs : swapsWith e none pos.line env = pure false := by rfl) :
    EX M A env (.Expr e pos) cs PF X := ⟨fun B s hst hp =>
  wpAny_Expr_any (wpAny_mono (h.it B s hst trivial) (fun v s₁ ⟨B₁, cs₁, u, S₁, F₁, R₁, h₁⟩ => ⟨B₁, cs₁, .next, S₁, F₁, .next, h₁⟩) fun _ _ x => x) hi hs⟩
theorem ex_assign_sub {o i value : Expr} {p' pos : Pos} (h : EV M A env value cs (fun x cs₁ => EV M A env o cs₁ (fun y cs₂ => EV M A env i cs₂ (fun z cs₃ =>
      SI M A y z x cs₃ (fun _ cs₄ => PF .next cs₄) X) X) X) X)
    (hs : swapsWith value (some (.Subscript o i p')) pos.line env = pure false := by rfl) :
    EX M A env (.Assign [.Subscript o i p'] value pos) cs PF X := ⟨fun B s hst hp =>
  wpAny_Assign_Subscript (wpAny_mono (h.it B s hst trivial) (fun v s₁ ⟨B₁, cs₁, x, S₁, F₁, R₁, h₁⟩ => wpAny_mono (h₁.it B₁ s₁ S₁ trivial) (fun a s₂ ⟨B₂, cs₂, y, S₂, F₂, R₂, h₂⟩ => wpAny_mono (h₂.it B₂ s₂ S₂ trivial) (fun b s₃ ⟨B₃, cs₃, z, S₃, F₃, R₃, h₃⟩ =>
    wpAny_mono (h₃.it a b v B₃ s₃ S₃ ⟨R₂.mono F₃.mono, R₃, R₁.mono (F₂.mono.trans F₃.mono)⟩) (fun _ s₄ ⟨B₄, cs₄, _, S₄, F₄, _, h₄⟩ => ⟨B₄, cs₄, .next, S₄, (F₁.trans F₂).trans (F₃.trans F₄), .next, h₄⟩)
      fun _ _ => PoX.step ((F₁.trans F₂).trans F₃)) fun _ _ => PoX.step (F₁.trans F₂)) fun _ _ => PoX.step F₁) fun _ _ x => x) hs⟩
-- lists
theorem isList_of {B : FH} {s : Shared} {a : Addr} {vs : List Value} {n : Nat} {d : Option Addr} {sl : Array (Option Value)} (e : s.heap.get? a = some ⟨.type "list", d, .seq vs.toArray n, sl⟩) : s.heap.IsList a vs.toArray := ⟨_, e, rfl, n, rfl⟩
/-- an item of a list that the call owns -/
theorem it_list {v sl : Expr} {a : Addr} {xs : List V} {k : Int} {u : V} (hm : (a, MO.lst .list xs) ∈ cs) (h0 : 0 ≤ k) (hk : k < 2 ^ 62) (hx : xs[k.toNat]? = some u) (h : PV u cs)
    (hsl : ∀ a b, subscripted sl false (.ref a) (.int k b) = operate [.ref a, .int k b] (getItem (.ref a) (.int k b)) := by intro _ _; with_unfolding_all rfl) :
    OS M A v sl (.ref a) (.int k) cs PV X := ⟨fun p q B s hs ⟨r, r'⟩ => by
  cases r; cases r'
  obtain ⟨d, vs, n, e, _, rs⟩ := hs.own _ hm
  obtain ⟨b, hb, rb⟩ := rs.get hx
  exact tail_any (isList_of (B := B) e).typeIs slot_list_getitem.lookup (wpAny_getItem_list (isList_of (B := B) e) h0 (by omega) (by simpa using hb) (.now hs rb h)) (hsl _ _)⟩
/-- an item of a list that stays as it is -/
theorem it_lst {v sl : Expr} {xs : List V} {k : Int} {u : V} (h0 : 0 ≤ k) (hk : k < 2 ^ 62) (hx : xs[k.toNat]? = some u) (h : PV u cs)
    (hsl : ∀ a b, subscripted sl false (.ref a) (.int k b) = operate [.ref a, .int k b] (getItem (.ref a) (.int k b)) := by intro _ _; with_unfolding_all rfl) :
    OS M A v sl (.lst .list xs) (.int k) cs PV X := ⟨fun p q B s hs ⟨r, r'⟩ => by
  cases r' with | int _ t
  cases r with | @lst _ a d vs n _ e hd rs
  obtain ⟨b, hb, rb⟩ := rs.get hx
  have hl : s.heap.IsList a vs.toArray := ⟨_, hs.keep _ _ e, rfl, n, rfl⟩
  exact tail_any hl.typeIs slot_list_getitem.lookup (wpAny_getItem_list hl h0 (by omega) (by simpa using hb) (.now hs rb h)) (hsl _ _)⟩
/-- an item of a tuple -/
theorem it_tup {v sl : Expr} {xs : List V} {k : Int} {j : Nat} {u : V} (hlo : -(2 ^ 62) ≤ k) (hk : k < 2 ^ 62) (hj : seqIndex? k xs.length = some j) (hx : xs[j]? = some u) (h : PV u cs)
    (hsl : ∀ a b, subscripted sl false (.ref a) (.int k b) = operate [.ref a, .int k b] (getItem (.ref a) (.int k b)) := by intro _ _; with_unfolding_all rfl) :
    OS M A v sl (.tup xs) (.int k) cs PV X := ⟨fun p q B s hs ⟨r, r'⟩ => by
  cases r' with | int _ t
  cases r with | @tup a vs n _ e rs
  obtain ⟨b, hb, rb⟩ := rs.get hx
  have hl : IsTup s.heap a vs.toArray := ⟨_, hs.keep _ _ e, rfl, n, rfl⟩
  exact item_tupleT hl (by omega) (by omega) (by rw [rs.length]; exact hj) hb (.now hs rb h) (hsl _ _)⟩
theorem RVs.set {B : FH} {v : Value} {x : V} (r : RV M.C B v x) : ∀ {vs : List Value} {xs : List V}, RVs M.C B vs xs → ∀ i, RVs M.C B (vs.set i v) (xs.set i x)
  | _, _, .nil, _ => .nil
  | _, _, .cons a b, 0 => .cons r b
  | _, _, .cons a b, i + 1 => .cons a (RVs.set r b i)
theorem isD_no_seq {c : Value} {d : Option Addr} {xs : Array Value} {n : Nat} {sl : Array (Option Value)} : ¬ IsD ⟨c, d, .seq xs n, sl⟩ := fun ⟨_, _, q⟩ => nomatch q

theorem tr_list_append {a : Addr} {xs : List V} {u : V} {cs' : Cells} (U : Upd a (.lst .list xs) (.lst .list (xs ++ [u])) cs cs') (hlen : xs.length ≤ 10000) (h : PV .none cs') :
    CL M A (.builtin "list.append") [.ref a, u] cs PV X := ⟨fun vs B s hs r => by
  cases r with | cons ra r
  cases ra with | ref
  cases r with | cons rb r
  cases r with | nil
  obtain ⟨d, ws, n, e, hd, rs⟩ := hs.own _ U.mem
  cases hd
  refine wpAny_list_append_plain (items := ws.toArray) ⟨n, e⟩ (fun h' ⟨n', e'⟩ hsb => ?_) (by rw [List.size_toArray, rs.length]; exact Nat.le_trans hlen (by decide))
  obtain ⟨S', F'⟩ := hs.turn U hsb ⟨none, ws ++ [_], n', by rw [e']; simp [LK.cls], rfl, rs.append (.cons rb .nil)⟩ trivial (fun ob q => ⟨_, e', fun hd => by rw [e] at q; cases q; exact (isD_no_seq hd).elim⟩) s.toks
  exact ⟨B, cs', .none, S', F', .none, h⟩⟩
theorem tr_len_list {a : Addr} {xs : List V} (hm : (a, MO.lst .list xs) ∈ cs) (hlen : xs.length ≤ 10000) (h : PV (.int xs.length) cs) :
    CL M A (.builtin "len") [.ref a] cs PV X := ⟨fun vs B s hs r => by
  cases r with | cons ra r
  cases ra with | ref
  cases r with | nil
  obtain ⟨d, ws, n, e, hd, rs⟩ := hs.own _ hm
  refine len_list (isList_of (B := B) e) (by rw [List.size_toArray, rs.length]; omega) (.tok hs ?_ h)
  rw [List.size_toArray, rs.length]; exact .int _ _⟩
theorem tr_len_lst {xs : List V} (hlen : xs.length ≤ 10000) (h : PV (.int xs.length) cs) :
    CL M A (.builtin "len") [.lst .list xs] cs PV X := ⟨fun vs B s hs r => by
  cases r with | cons ra r
  cases r with | nil
  cases ra with | @lst _ a d ws n _ e hd rs
  have hl : s.heap.IsList a ws.toArray := ⟨_, hs.keep _ _ e, rfl, n, rfl⟩
  refine len_list hl (by rw [List.size_toArray, rs.length]; omega) (.tok hs ?_ h)
  rw [List.size_toArray, rs.length]; exact .int _ _⟩
theorem setItem_exact {A : Around} {E : Value → Shared → Prop} {s : Shared} {l : Addr} {ws : List Value} {n : Nat} {k : Int} {tk : Tok} {v : Value} {Q : Unit → Shared → Prop}
    (ho : s.heap.get? l = some ⟨.type "list", none, .seq ws.toArray n, #[]⟩) (h0 : 0 ≤ k) (hfit : k < 2 ^ 63) (hn : k < ws.length)
    (hQ : ∀ h' n', h'.get? l = some ⟨.type "list", none, .seq (ws.set k.toNat v).toArray n', #[]⟩ → Heap.SameBut l s.heap h' → Q () { s with heap := h' }) :
    wpAny (model M.prog M.w) A (setItem (.ref l) (.int k tk) v) Q E s := by
  have hT : s.TypeIs (.ref l) "list" := ⟨_, ho, rfl⟩
  unfold setItem
  refine wpAny_holding (wpAny_bind (wpAny_sequenceKey hT (by decide) (wpAny_bind (wpAny_callSpecial?_slot (name := Str.ofString "__setitem__") hT slot_list_setitem
    (wpAny_call_entry slot_list_setitem hT entry_list_setitem ?_ (args_list_setitem _ _ _))))))
  show wpAny _ _ (Builtin.List.listSubscript? (.int k tk) >>= _) _ _ s
  refine wpAny_bind (wpAny_listSubscript_int (fitsIndex_of h0 hfit) ?_)
  clear hfit
  obtain ⟨j, rfl⟩ := Int.eq_ofNat_of_zero_le h0
  have hj : j < ws.length := by omega
  show wpAny _ _ ((seqItemAt l j >>= fun r => pure (r.map (j, ·))) >>= _) _ _ s
  refine wpAny_bind (wpAny_bind (wpAny_seqItemAt ho rfl (wpAny_pure ?_)))
  have hx : ws.toArray[j]? = some ws[j] := by simp [hj]
  rw [hx]
  show wpAny _ _ (setSeqItemAt l j v >>= _) _ _ s
  have fin : (s.heap.update l (Obj.mapSeq (·.setIfInBounds j v))).get? l = some ⟨.type "list", none, .seq (ws.set j v).toArray n, #[]⟩ := by
    rw [Heap.get?_update_self _ ho (by simp [Obj.mapSeq, Obj.isFreed])]
    simp [Obj.mapSeq]
  refine wpAny_bind (wpAny_setSeqItemAt ho rfl ?_)
  first
    | exact wpAny_bind (wpAny_pure (wpAny_pure ⟨.none, rfl, wpAny_pure (hQ _ _ fin (Heap.SameBut.update ..))⟩))
    | exact wpAny_pure ⟨.none, rfl, wpAny_pure (hQ _ _ fin (Heap.SameBut.update ..))⟩
theorem tr_setItem_list {a : Addr} {xs : List V} {k : Int} {u : V} {cs' : Cells} (U : Upd a (.lst .list xs) (.lst .list (xs.set k.toNat u)) cs cs') (h0 : 0 ≤ k) (hk : k < xs.length) (hlen : xs.length ≤ 10000) (h : PU () cs') :
    SI M A (.ref a) (.int k) u cs PU X := ⟨fun p q r B s hs ⟨ra, rb, rc⟩ => by
  cases ra; cases rb
  obtain ⟨d, ws, n, e, hd, rs⟩ := hs.own _ U.mem
  cases hd
  have hl := rs.length
  refine setItem_exact (n := n) (ws := ws) e h0 (by omega) (by omega) (fun h' n' e' hsb => ?_)
  obtain ⟨S', F'⟩ := hs.turn U hsb ⟨none, ws.set k.toNat r, n', e', rfl, rs.set rc _⟩ trivial (fun ob q => ⟨_, e', fun hd => by rw [e] at q; cases q; exact (isD_no_seq hd).elim⟩) s.toks
  exact ⟨B, cs', (), S', F', trivial, h⟩⟩
end
theorem iteT {a b : Prop} (h : a) : if (true = true) then a else b := h
theorem iteF {a b : Prop} (h : b) : if (false = true) then a else b := h
theorem exB {b : Bool} {PB : Bool → Cells → Prop} {cs : Cells} (h : PB b cs) : ∃ b', V.bool b = V.bool b' ∧ PB b' cs := ⟨b, rfl, h⟩
theorem call_bi {M : Md} {P : Prop} {n : String} {R : Value → Prop} (h : R (.builtin n)) : ∃ f, IsF (.bi n) f ∧ KeepOk M f pT ∧ R f := ⟨_, .bi _, keep_bi _, h⟩
section
variable {M : Md} {A : Around} {cs : Cells} {X : Value → Cells → Prop} {PV : V → Cells → Prop}
theorem cp_lt_int {i j : Int} (h : i < j → PV (.bool true) cs) (h' : ¬ i < j → PV (.bool false) cs) : OC M A .Lt (.int i) (.int j) cs PV X :=
  op_lt_int (by by_cases q : i < j; rw [decide_eq_true q]; exact h q; rw [decide_eq_false q]; exact h' q)
theorem cp_eq_int {i j : Int} (h : i = j → PV (.bool true) cs) (h' : i ≠ j → PV (.bool false) cs) : OC M A .Eq (.int i) (.int j) cs PV X :=
  op_eq_int (by by_cases q : i = j; rw [beq_iff_eq.mpr q]; exact h q; rw [beq_eq_false_iff_ne.mpr q]; exact h' q)
theorem cp_eq_str {i j : Str} (h : i = j → PV (.bool true) cs) (h' : i ≠ j → PV (.bool false) cs) : OC M A .Eq (.str i) (.str j) cs PV X :=
  op_eq_str (by by_cases q : i = j; rw [beq_iff_eq.mpr q]; exact h q; rw [beq_eq_false_iff_ne.mpr q]; exact h' q)
end
end Mine

end
section
open PySem PySem.W PyProof.Rows
set_option Elab.async false
set_option maxRecDepth 100000
set_option maxHeartbeats 8000000 
namespace Mine
/-- the head's look, with the table that a call may grow -/
abbrev hook3 (K : Params → Frag) (as : List Addr) (e : ∀ P, as = (K P).map (·.1)) : Hook := kmHook K as e [421]
end Mine
local macro_rules | `(tactic| o_head ($_:ident $K $A $e $_)) => `(tactic| o_head (Mine.hook3 $K $A $e))
open_top hd for PySem.Challenge.rw_fy0016_02

end
section
open PySem PySem.W PySem.W.X PyProof.Rows
set_option Elab.async false
set_option maxRecDepth 100000
set_option linter.unusedVariables false
namespace Mine
/-- the tables that a call may grow -/
abbrev TB : List Addr := [421]
noncomputable def K1 (P : Params) : Frag := (hd.heap_39 P).filter fun p => !TB.contains p.1
def CC : Cls := ⟨112, 363⟩
def SS (h0 : Heap) : FH := fun a => if a ∈ TB then none else h0.get? a
def Stmt.bod : Stmt → List Stmt
  | .FunctionDef _ _ b _ _ _ _ _ _ _ => b
  | .ClassDef _ _ _ b _ _ _ _ _ _ _ => b
  | _ => []
def Stmt.scp : Stmt → Scope
  | .FunctionDef _ _ _ _ _ _ sc _ _ _ => sc
  | _ => default
def Stmt.par : Stmt → Arguments
  | .FunctionDef _ a _ _ _ _ _ _ _ _ => a
  | _ => default
def Stmt.nam : Stmt → Str
  | .FunctionDef n _ _ _ _ _ _ _ _ _ => n
  | .ClassDef n _ _ _ _ _ _ _ _ _ _ => n
  | _ => default
def D (i : Nat) : Stmt := (PySem.Challenge.pw_fy0016_02.main.body)[i]?.getD (.Pass ⟨0,0,0,0⟩)


noncomputable def ko (a : Nat) (P : Params) : Obj := ((hd.heap_39 P).lookup a).getD default
def kfd (o : Obj) : FuncData := match o.data with | .func fd => fd | _ => default
def kfields (o : Obj) : Array Value := match o.data with | .fields vs => vs | _ => #[]
def ktok : Option Value → Tok | some (.str _ t) => t | _ => 0
theorem SS_of {w : World} {h0 : Heap} (X : (hd.heap_39 w.params).In h0) {a : Addr} {o : Obj} (e : (hd.heap_39 w.params).lookup a = some o) (ha : a ∉ TB) : SS h0 a = some o := (if_neg ha).trans (X a o e)
theorem codeRec_of {w : World} {h0 : Heap} (X : (hd.heap_39 w.params).In h0) {a : Addr} {q : Str} {B : FH} {h : Heap} (hS : (SS h0).le B) (hk : ∀ a o, B a = some o → h.get? a = some o)
    (e : (hd.heap_39 w.params).lookup a = some (ko a w.params)) (ha : a ∉ TB) (e1 : (ko a w.params).data = .fields (kfields (ko a w.params))) (e2 : (kfields (ko a w.params))[1]? = some (.str q (ktok ((kfields (ko a w.params))[1]?)))) : h.CodeRec (.ref a) q :=
  ⟨a, _, _, _, rfl, hk _ _ (hS _ _ (SS_of X e ha)), e1, e2⟩

end Mine

end
section
open PySem PySem.W PySem.W.X PyProof.Rows
set_option Elab.async false
set_option maxRecDepth 100000
set_option linter.unusedVariables false
namespace Mine

section
variable {prog : Program} {w : World} {A : Around} {E : Value → Shared → Prop} {s : Shared} {T self : Value} {name : Str} {id owner n : String} {b : Builtin} {rest : List Value}
/-- a built-in of another class, found on an own one -/
structure OwnSl (prog : Program) (w : World) (h : Heap) (T : Value) (name : Str) (id owner : String) : Prop where
  lookup : Looks (model prog w) h (typeLookup T name) (some (.builtin id))
  sub : Looks (model prog w) h (isSubtype T (.type owner)) true
  slot : Slot owner name id
  kind : builtinKind id = some .slot ∨ builtinKind id = some .method
  split : ∃ n, splitId id = some (owner, n)
theorem own_check {Q : Unit → Shared → Prop} (O : OwnSl prog w s.heap T name id owner) (hT : Looks (model prog w) s.heap (typeOf self) T) (ha : argsOk id ⟨self :: rest, []⟩) (q : Q () s) : wpAny (model prog w) A (checkBuiltinCall id ⟨self :: rest, []⟩) Q E s := by
  have hi : Looks (model prog w) s.heap (isInstance self (.type owner)) true := hT.andThen O.sub
  obtain ⟨n, hs⟩ := O.split
  rcases O.kind with hk | hk
  · exact check_slot hk hs hi ha q
  · simp only [checkBuiltinCall, hk, hs]
    refine wpAny_bind (hi.here ?_)
    simp only [Bool.not_true, Bool.false_eq_true, if_false]
    cases hsig : Manifest.signature? id with
    | none => exact wpAny_pure q
    | some sig =>
      simp only [argsOk, hsig] at ha
      have h2 : Bind.checkArgs id sig ⟨self :: rest, []⟩ = pure () := ha
      show wpAny _ A (Bind.checkArgs id sig ⟨self :: rest, []⟩) Q E s
      rw [h2]; exact wpAny_pure q
theorem own_call {Q : Value → Shared → Prop} (O : OwnSl prog w s.heap T name id owner) (hT : Looks (model prog w) s.heap (typeOf self) T) (ha : argsOk id ⟨self :: rest, []⟩) (hb : entryFor table id = some b)
    (hc : wpAny (model prog w) A.in1 (b ⟨self :: rest, []⟩) (fun fin s' => ∃ v, fin = .done (.ret v) ∧ Q v s') E s) : wpAny (model prog w) A (call (.builtin id) (self :: rest)) Q E s := by
  refine wpAny_call (codeAny_call_builtin O.slot.plain hb (own_check O hT ha (wpAny_mono hc (fun fin s' h' => ?_) fun _ _ h' => h')))
  obtain ⟨v, rfl, hv⟩ := h'; exact hv
theorem own_special {Q : Option Value → Shared → Prop} {args : List Value} (O : OwnSl prog w s.heap T name id owner) (hT : Looks (model prog w) s.heap (typeOf self) T) (hc : wpAny (model prog w) A (call (.builtin id) (self :: args)) (fun v => Q (some v)) E s) :
    wpAny (model prog w) A (callSpecial? self name args) Q E s := by
  simp only [callSpecial?, specialOf]
  refine wpAny_bind (wpAny_bind (hT.here (O.lookup.here ?_)))
  simp only [O.slot.bind]
  exact wpAny_holding (wpAny_bind (wpAny_pure (wpAny_bind (wpAny_mono hc (fun v s' h' => wpAny_pure h') fun _ _ h' => h'))))
theorem own_iter {v : Value} {Q : Value → Shared → Prop} (O : OwnSl prog w s.heap T "__iter__" id owner) (hT : Looks (model prog w) s.heap (typeOf v) T)
    (hc : wpAny (model prog w) A (call (.builtin id) [v]) (fun it s' => ∃ T' r, s'.TypeIs it T' ∧ typeLookup (.type T') "__next__" = pure (some r) ∧ Q it s') E s) : wpAny (model prog w) A (pyIter v) Q E s := by
  have sp : ∀ {Q : Option Value → Shared → Prop}, Q (some (.builtin id)) s → wpAny (model prog w) A (specialOf v "__iter__") Q E s := fun q => by
    simp only [specialOf]; exact wpAny_bind (hT.here (O.lookup.here q))
  unfold pyIter
  refine wpAny_bind (sp ?_)
  show wpAny _ A (callSpecialIfBoundUnlessNone? v "__iter__" _ >>= _) Q E s
  refine wpAny_bind ?_
  simp only [callSpecialIfBoundUnlessNone?, bindSpecialIfBound?]
  refine wpAny_holding (wpAny_bind (wpAny_bind (sp ?_)))
  simp only [O.slot.bind]
  refine wpAny_bind (wpAny_askSetting (wpAny_ite ?_))
  have fin : wpAny (model prog w) A (call (.builtin id) [v]) (fun it s₁ => wpAny (model prog w) A (do match ← specialOf it "__next__" with
      | none => rule "iter.non-iterator"; raiseError "TypeError" s!"iter() returned non-iterator of type '{← typeNameOf it}'"
      | some _ => pure it) Q E s₁) E s := wpAny_mono hc (fun it s' h' => by
        obtain ⟨T', r, hT', hl, hQ⟩ := h'
        exact wpAny_bind (wpAny_specialOf hT' hl (wpAny_pure hQ))) fun _ _ x => x
  have bn : (Value.builtin id == Value.none) = false := rfl
  split
  · refine wpAny_bind (wpAny_pure (wpAny_pure ?_))
    simp only [bn, Bool.false_eq_true, if_false]
    exact wpAny_bind (wpAny_mono fin (fun it s' h' => wpAny_pure h') fun _ _ x => x)
  · refine wpAny_tryCatch (wpAny_bind (wpAny_pure (wpAny_pure ?_)))
    simp only [bn, Bool.false_eq_true, if_false]
    exact wpAny_bind (wpAny_mono fin (fun it s' h' => wpAny_pure h') fun _ _ x => x)

/-- the next item of a sequence, list or the text's own -/
theorem next_item {it l : Addr} {i : Nat} {items : Array Value} {nl : Nat} {ol : Obj} {x : Value} {Q : Option Value → Shared → Prop} (hit : s.heap.get? it = some ⟨.type "list_iterator", none, .fields #[.ref l, .int i 0], #[]⟩)
    (hol : s.heap.get? l = some ol) (hdl : ol.data = .seq items nl) (hx : items[i]? = some x)
    (hQ : ∀ h', h'.get? it = some ⟨.type "list_iterator", none, .fields #[.ref l, .int (i + 1 : Nat) 0], #[]⟩ → Heap.SameBut it s.heap h' → Q (some x) { s with heap := h' }) :
    wpAny (model prog w) A (pyNext (.ref it)) Q E s := by
  have hT : s.TypeIs (.ref it) "list_iterator" := ⟨_, hit, rfl⟩
  unfold pyNext
  refine wpAny_bind (wpAny_attempt (wpAny_callSpecial?_slot (name := Str.ofString "__next__") hT slot_listiter_next
    (wpAny_call_entry slot_listiter_next hT entry_listiter_next ?_ (args_listiter_next _))))
  show wpAny _ _ (field (.ref it) 0 >>= _) _ _ s
  refine wpAny_bind (wpAny_field hit rfl (x := .ref l) rfl ?_)
  show wpAny _ _ (if (Value.ref l == Value.none) = true then _ else _) _ _ s
  rw [if_neg (show ¬ ((Value.ref l == Value.none) = true) from Bool.false_ne_true)]
  show wpAny _ _ (field (.ref it) 1 >>= _) _ _ s
  refine wpAny_bind (wpAny_field hit rfl (x := .int i 0) rfl ?_)
  show wpAny _ _ (seqItems? (.ref l) >>= _) _ _ s
  refine wpAny_bind (wpAny_seqItems hol hdl ?_)
  simp only [Int.toNat_natCast, hx]
  refine wpAny_bind (wpAny_setField hit rfl (by simp) (wpAny_pure ⟨x, rfl, wpAny_pure (hQ _ ?_ (Heap.SameBut.update ..))⟩))
  rw [Heap.get?_update_self _ hit (by rfl)]
  simp [Obj.mapFields, rawInt]
theorem next_end {it l : Addr} {i : Nat} {items : Array Value} {nl : Nat} {ol : Obj} {Q : Option Value → Shared → Prop} (hh : A.handled = none) (hit : s.heap.get? it = some ⟨.type "list_iterator", none, .fields #[.ref l, .int i 0], #[]⟩)
    (hol : s.heap.get? l = some ol) (hdl : ol.data = .seq items nl) (hx : items[i]? = none)
    (hQ : ∀ h', Heap.ExtBut it s.heap h' → (∃ o, h'.get? it = some o) → Q none { s with heap := h' }) : wpAny (model prog w) A (pyNext (.ref it)) Q E s := by
  have hT : s.TypeIs (.ref it) "list_iterator" := ⟨_, hit, rfl⟩
  unfold pyNext
  refine wpAny_bind (wpAny_attempt (wpAny_callSpecial?_slot (name := Str.ofString "__next__") hT slot_listiter_next
    (wpAny_call_entry slot_listiter_next hT entry_listiter_next ?_ (args_listiter_next _))))
  show wpAny _ _ (field (.ref it) 0 >>= _) _ _ s
  refine wpAny_bind (wpAny_field hit rfl (x := .ref l) rfl ?_)
  show wpAny _ _ (if (Value.ref l == Value.none) = true then _ else _) _ _ s
  rw [if_neg (show ¬ ((Value.ref l == Value.none) = true) from Bool.false_ne_true)]
  show wpAny _ _ (field (.ref it) 1 >>= _) _ _ s
  refine wpAny_bind (wpAny_field hit rfl (x := .int i 0) rfl ?_)
  show wpAny _ _ (seqItems? (.ref l) >>= _) _ _ s
  refine wpAny_bind (wpAny_seqItems hol hdl ?_)
  simp only [Int.toNat_natCast, hx]
  refine wpAny_bind (wpAny_rule (wpAny_bind (wpAny_setField hit rfl (by simp) ?_)))
  show wpAny _ _ (newExc (.type "StopIteration") [] >>= _) _ _ _
  refine wpAny_bind ?_
  simp only [newExc, newTuple]
  refine wpAny_bind (wpAny_newObj_type ?_ (by size_fits))
  refine wpAny_bind (m := firstArgMember _ _) (wpAny_of_eq (a := Value.none) (by first | rfl | (simp only [firstArgMember]; rfl)) ?_)
  refine wpAny_newObj_type ?_ (by size_fits)
  simp only [raiseNew]
  refine wpAny_bind (wpAny_handled ?_)
  rw [show A.in1.handled = none from hh]
  refine wpAny_bind (wpAny_pure (wpAny_throw ?_))
  refine wpAny_bind (wpAny_isInstance (T := "StopIteration") (b := true) ⟨_, Heap.get?_push_size _ rfl, rfl⟩ isSubtype_stop ?_)
  exact wpAny_pure (hQ _ (((Heap.SameBut.update ..).extBut.push _).push _) ⟨_, Heap.get?_push_of_some _ (Heap.get?_push_of_some _ (Heap.get?_update_self _ hit (by rfl)))⟩)
end

/-- what the text's own list class answers -/
structure TagsOk (M : Md) : Prop where
  iter : ∀ h : Heap, (∀ a o, M.S a = some o → h.get? a = some o) → OwnSl M.prog M.w h (.ref M.C.tags) "__iter__" "list.__iter__" "list"
  item : ∀ h : Heap, (∀ a o, M.S a = some o → h.get? a = some o) → OwnSl M.prog M.w h (.ref M.C.tags) "__getitem__" "list.__getitem__" "list"
  append : ∀ h : Heap, (∀ a o, M.S a = some o → h.get? a = some o) → OwnSl M.prog M.w h (.ref M.C.tags) "append" "list.append" "list"
  seq : ∀ h : Heap, (∀ a o, M.S a = some o → h.get? a = some o) → Looks (model M.prog M.w) h (seqItemTypes.anyM fun n => isSubtype (.ref M.C.tags) (.type n)) false
  ga : ∀ h : Heap, (∀ a o, M.S a = some o → h.get? a = some o) → Looks (model M.prog M.w) h (typeLookup (.ref M.C.tags) "__getattribute__") (some (.builtin "list.__getattribute__"))
  noga : ∀ h : Heap, (∀ a o, M.S a = some o → h.get? a = some o) → Looks (model M.prog M.w) h (typeLookup (.ref M.C.tags) "__getattr__") none

section
variable {M : Md} {A : Around} {cs : Cells} {X : Value → Cells → Prop} {env : Env} {PV : V → Cells → Prop} {PF : Fl → Cells → Prop} {PB : Bool → Cells → Prop} {PU : Unit → Cells → Prop} {PL : List V → Cells → Prop}

theorem typeOf_of {prog : Program} {w : World} {h : Heap} {a : Addr} {o : Obj} {T : Value} (e : h.get? a = some o) (hc : o.cls = T) : Looks (model prog w) h (typeOf (.ref a)) T := hc ▸ (Looks.ld (part := none) e).andThen .now

/-- one object turned that nothing knows any more -/
theorem St.forget {C : Cls} {S : FH} {B : FH} {s : Shared} {a : Addr} {m : MO} {h' : Heap} (hs : St C S A B (cs ++ [(a, m)]) s) (hx : Heap.ExtBut a s.heap h') (hd : ∀ o, s.heap.get? a = some o → ¬ IsD o) (hex : ∃ o, h'.get? a = some o) (t : Nat) :
    St C S A B cs { s with heap := h', toks := t } ∧ Fut B (cs ++ [(a, m)]) s B cs { s with heap := h', toks := t } := by
  have hnd := hs.nd
  rw [Cells.ad, List.map_append, List.nodup_append] at hnd
  have hin : (a, m) ∈ cs ++ [(a, m)] := List.mem_append_right _ (.head _)
  have hne : ∀ p ∈ cs, p.1 ≠ a := fun p hp e => hnd.2.2 _ (List.mem_map_of_mem hp) a (by simp) e
  have hB : ∀ b o, B b = some o → b ≠ a := fun b o e q => by subst q; have := hs.off _ hin; rw [this] at e; cases e
  refine ⟨⟨fun b o e => hx b o (hB b o e) (hs.keep b o e), hs.stat, fun p hp => (hs.own p (List.mem_append_left _ hp)).same (fun o e => .inl (hx _ _ (hne p hp) e)) (hs.nf p (List.mem_append_left _ hp)),
    fun p hp => hs.nf p (List.mem_append_left _ hp), fun p hp => hs.off p (List.mem_append_left _ hp), hnd.1, ?_, hs.bare⟩,
    ⟨.refl _, fun b o e hb => .inl (hx b o (fun q => hb (by rw [q]; exact List.mem_map_of_mem (f := Prod.fst) hin)) e), fun _ h => .inl h, fun b hb => .inr (by rw [Cells.ad, List.map_append]; exact List.mem_append_left _ hb), fun b o e => ?_, rfl, fun _ _ => rfl, Nat.le_refl _⟩⟩
  · obtain ⟨l, e, hl⟩ := hs.frs
    refine ⟨l, e, fun en hen => ?_⟩
    obtain ⟨hk, L, oL, h1, h2, h3, h4⟩ := hl en hen
    exact ⟨hk, L, oL, h1, h2, hx _ _ (fun q => hd oL (q ▸ h3) h4) h3, h4⟩
  · by_cases q : b = a
    · subst q; exact hex
    · exact ⟨o, hx b o q e⟩

theorem upd_last {α β : Type} {a : α} {o o' : β} : ∀ l : List (α × β), Upd a o o' (l ++ [(a, o)]) (l ++ [(a, o')])
  | [] => .head
  | _ :: r => .tail (upd_last r)
/-- what a loop goes over: a list that stays, or one that the call owns -/
inductive Src (cs : Cells) : V → List V → Prop
  | lst (k : LK) (xs : List V) : Src cs (.lst k xs) xs
  | own (a : Addr) (k : LK) (xs : List V) : (a, MO.lst k xs) ∈ cs → Src cs (.ref a) xs
theorem src_obj {B : FH} {s : Shared} (hs : St M.C M.S A B cs s) {x : V} {xs : List V} (h : Src cs x xs) {v : Value} (r : RV M.C B v x) : ∃ l k d vs n, v = .ref l ∧ s.heap.get? l = some ⟨LK.cls M.C k, d, .seq vs.toArray n, #[]⟩ ∧ RVs M.C B vs xs := by
  cases h with
  | lst k => cases r with | @lst _ a d vs n _ e hd rs => exact ⟨a, k, d, vs, n, rfl, hs.keep _ _ e, rs⟩
  | own a k _ hm =>
    cases r with | ref
    obtain ⟨d, vs, n, e, hd, rs⟩ := hs.own _ hm
    exact ⟨a, k, d, vs, n, rfl, e, rs⟩
theorem iter_seq {s : Shared} {E : Value → Shared → Prop} (TO : TagsOk M) (hS : ∀ a o, M.S a = some o → s.heap.get? a = some o) {l : Addr} {k : LK} {d : Option Addr} {vs : Array Value} {n : Nat} {Q : Value → Shared → Prop} (e : s.heap.get? l = some ⟨LK.cls M.C k, d, .seq vs n, #[]⟩)
    (hQ : Q (.ref s.heap.objs.size) { s with heap := s.heap.push { cls := .type "list_iterator", data := .fields #[.ref l, .int (0 : Nat) 0] } }) : wpAny (model M.prog M.w) A (pyIter (.ref l)) Q E s := by
  cases k with
  | list => exact wpAny_pyIter_list (items := vs) ⟨_, e, rfl, n, rfl⟩ hQ
  | tags =>
    refine own_iter (TO.iter s.heap hS) (typeOf_of e rfl) (own_call (b := Builtin.«list.__iter__») (TO.iter s.heap hS) (typeOf_of e rfl) (args_list_iter _) entry_list_iter ?_)
    show wpAny _ _ (do ret (← newFields "list_iterator" [.ref l, rawInt 0])) _ _ s
    exact wpAny_bind (wpAny_newObj_type (wpAny_pure ⟨_, rfl, "list_iterator", _, ⟨_, Heap.get?_push_size _ rfl, rfl⟩, slot_listiter_next.lookup, hQ⟩))

/-- a target is given a value -/
structure AS (M : Md) (A : Around) (env : Env) (t : Expr) (x : V) (cs : Cells) (P : Cells → Prop) (X : Value → Cells → Prop) : Prop where
  it : ∀ v, Tr M.C M.S M.prog M.w (fun B => RV M.C B v x) RU A (assign t env v) cs (fun _ cs => P cs) X
theorem as_name {x : Str} {p' : Pos} {u : V} {loc loc' : Loc} {r : Cells} {P : Cells → Prop} (hU : LocSet x u loc loc') (h : P ((env.locals, .frame loc') :: r))
    (hl : env.kindOf x = some .local := by kernel_rfl) (hp : (env.scope.kind == .class || (env.scope.kind == .module && env.locals != env.globals)) = false := by rfl) :
    AS M A env (.Name x p') u ((env.locals, .frame loc) :: r) P X := ⟨fun v B s hs hv =>
  wpAny_assign_Name (tr_store (M := M) (pre := fun B => RV M.C B v u) (PU := fun _ cs => P cs) (X := X) (fun _ h => h) hU h hl hp B s hs hv)⟩

/-- an iterator: its cells by what is left, and what its next gives -/
structure Walk (M : Md) (A : Around) (target : Expr) (it : Value) (J : List V → Cells) (Dep : FH → List V → Cells → Prop) : Prop where
  next : ∀ (B : FH) (s : Shared) (u : V) (rem : List V) (cs' : Cells), St M.C M.S A B (cs' ++ J (u :: rem)) s → Dep B (u :: rem) cs' → ∀ (Q : Value → Shared → Prop) (E : Value → Shared → Prop),
    (∀ v B₁ s₁, St M.C M.S A B₁ (cs' ++ J rem) s₁ → Fut B (cs' ++ J (u :: rem)) s B₁ (cs' ++ J rem) s₁ → RV M.C B₁ v u → Q v s₁) →
    wpAny (model M.prog M.w) A (pyNext it) (fun r s₁ => ∃ v, r = some v ∧ wpAny (model M.prog M.w) A (letOwnedTupleGo target it v) (fun _ s₂ => Q v s₂) E s₁) E s
  stop : ∀ (B : FH) (s : Shared) (cs' : Cells), St M.C M.S A B (cs' ++ J []) s → Dep B [] cs' → ∀ (Q : Option Value → Shared → Prop) (E : Value → Shared → Prop),
    (∀ s₁, St M.C M.S A B cs' s₁ → Fut B (cs' ++ J []) s B cs' s₁ → Q none s₁) → wpAny (model M.prog M.w) A (pyNext it) Q E s

theorem owned_not {prog : Program} {w : World} {A : Around} {E : Value → Shared → Prop} {s : Shared} {target : Expr} {i : Addr} {v : Value} {ob : Obj} {o : Obj} {Q : Unit → Shared → Prop} (ho : s.heap.get? i = some o) (hn : ∀ n, o.cls = .type n → (["enumerate", "zip", "dict_itemiterator", "dict_reverseitemiterator", "odict_iterator", "itertools.zip_longest", "itertools.pairwise"].contains n) = false)
    (h : Q () s) : wpAny (model prog w) A (letOwnedTupleGo target (.ref i) v) Q E s := by
  have key : ∀ a, wpAny (model prog w) A (do
      let o ← load i
      match o.cls, o.data with
      | .type n, .fields vs =>
        if ["enumerate", "zip", "dict_itemiterator", "dict_reverseitemiterator", "odict_iterator", "itertools.zip_longest", "itertools.pairwise"].contains n && vs[0]? == some (rawInt a) then
          rule "for.unpacks-the-owned-tuple"
          updateField i 0 .none
      | _, _ => pure ()) Q E s := fun a => by
    refine wpAny_bind (wpAny_load ho ?_)
    split
    · rename_i n vs hc hd
      rw [hn n hc]
      simp only [Bool.false_and, Bool.false_eq_true, if_false]
      exact wpAny_pure h
    · exact wpAny_pure h
  unfold letOwnedTupleGo
  cases target <;> first
    | exact wpAny_pure h
    | (cases v <;> first | exact wpAny_pure h | exact key _)

theorem walk_list {target : Expr} {l I : Addr} {x : V} {xs : List V} (hd : A.handled = none) :
    Walk M A target (.ref I) (fun rem => [(I, .iter l (xs.length - rem.length))]) (fun B rem cs' => Src cs' x xs ∧ RV M.C B (.ref l) x ∧ ∃ pre, xs = pre ++ rem) where
  next B s u rem cs' S' hD Q E hQ := by
    obtain ⟨hsrc, R', pre, hx⟩ := hD
    have hiter : s.heap.get? I = some ⟨.type "list_iterator", none, .fields #[.ref l, .int (xs.length - (u :: rem).length : Nat) 0], #[]⟩ := S'.own (I, .iter l _) (List.mem_append_right _ (.head _))
    have S'' : St M.C M.S A B cs' s := S'.sub (fun p hp => List.mem_append_left _ hp) (by have := S'.nd; rw [Cells.ad, List.map_append, List.nodup_append] at this; exact this.1)
    obtain ⟨l', k', d', vs', n', hl', e', rs'⟩ := src_obj S'' hsrc R'
    cases hl'
    have hi : xs.length - (u :: rem).length = pre.length := by rw [hx]; simp
    have hi' : xs.length - rem.length = pre.length + 1 := by rw [hx]; simp; omega
    rw [hi] at hiter S'
    have hii : xs[pre.length]? = some u := by rw [hx]; simp
    obtain ⟨b, hb, rb⟩ := rs'.get hii
    refine next_item hiter e' rfl (by simpa using hb) (fun h' hit' hsb => ⟨b, rfl, ?_⟩)
    obtain ⟨S₃, F₃⟩ := S'.turn (o := .iter l pre.length) (o' := .iter l (pre.length + 1)) (upd_last cs') hsb hit' trivial (fun ob q => ⟨_, hit', fun hdd => by rw [hiter] at q; cases q; obtain ⟨_, _, q⟩ := hdd; cases q⟩) s.toks
    refine owned_not (ob := default) hit' (fun n hn => by cases hn; decide) ?_
    refine hQ b B _ ?_ ?_ rb
    · rw [hi']; exact S₃
    · rw [hi', hi]; exact F₃
  stop B s cs' S' hD Q E hQ := by
    obtain ⟨hsrc, R', pre, hx⟩ := hD
    have hiter : s.heap.get? I = some ⟨.type "list_iterator", none, .fields #[.ref l, .int (xs.length - ([] : List V).length : Nat) 0], #[]⟩ := S'.own (I, .iter l _) (List.mem_append_right _ (.head _))
    have S'' : St M.C M.S A B cs' s := S'.sub (fun p hp => List.mem_append_left _ hp) (by have := S'.nd; rw [Cells.ad, List.map_append, List.nodup_append] at this; exact this.1)
    obtain ⟨l', k', d', vs', n', hl', e', rs'⟩ := src_obj S'' hsrc R'
    cases hl'
    refine next_end hd hiter e' rfl (by simp [rs'.length]) (fun h' hx' hex => ?_)
    obtain ⟨S₃, F₃⟩ := S'.forget (h' := h') hx' (fun o q => by rw [hiter] at q; cases q; rintro ⟨_, _, q⟩; cases q) hex s.toks
    exact hQ _ S₃ F₃

end
end Mine

end
section
open PySem PySem.W PySem.W.X PyProof.Rows
set_option Elab.async false
set_option maxRecDepth 100000
set_option linter.unusedVariables false
namespace Mine

/-- the same state, seen otherwise -/
def View (M : Md) (c c' : Cells) : Prop := ∀ (A : Around) (B : FH) (s : Shared), St M.C M.S A B c s → ∃ B', St M.C M.S A B' c' s ∧ Fut B c s B' c' s
theorem View.refl {M : Md} (c : Cells) : View M c c := fun A B s h => ⟨B, h, .refl ..⟩
theorem View.trans {M : Md} {c c' c'' : Cells} (x : View M c c') (y : View M c' c'') : View M c c'' := fun A B s h =>
  let ⟨B', h', F⟩ := x A B s h; let ⟨B'', h'', F'⟩ := y A B' s h'; ⟨B'', h'', F.trans F'⟩
theorem View.perm {M : Md} {c c' : Cells} (p : c.Perm c') : View M c c' := fun A B s h => ⟨B, h.perm p, (Fut.refl ..).perm (fun _ => Iff.rfl) fun a ha => ((p.map Prod.fst).mem_iff).mpr ha⟩
theorem View.drop {M : Md} {c : Cells} {p : Addr × MO} : View M (p :: c) c := fun A B s h => ⟨B, h.sub (fun q hq => .tail _ hq) (List.nodup_cons.mp h.nd).2, (Fut.refl ..).perm (fun _ => Iff.rfl) fun a ha => .tail _ ha⟩
theorem View.frame {M : Md} {c c' : Cells} (x : View M c c') (fr : Cells) : View M (c ++ fr) (c' ++ fr) := fun A B s h => by
  have h0 : St M.C M.S A B c s := h.sub (fun p hp => List.mem_append_left _ hp) (by have := h.nd; rw [Cells.ad, List.map_append, List.nodup_append] at this; exact this.1)
  obtain ⟨B', h', F⟩ := x A B s h0
  exact ⟨B', h.frame F h', F.frame⟩
theorem View.cons {M : Md} {c c' : Cells} (p : Addr × MO) (x : View M c c') : View M (p :: c) (p :: c') :=
  (View.perm (List.perm_append_singleton p c).symm).trans ((x.frame [p]).trans (View.perm (List.perm_append_singleton p c')))
theorem View.frame' {M : Md} {c c' : Cells} (x : View M c c') (fr : Cells) : View M (fr ++ c) (fr ++ c') := by
  induction fr with
  | nil => exact x
  | cons p fr ih => exact ih.cons p
/-- a frame's names forgotten -/
theorem View.loc {M : Md} {L : Addr} {loc loc' : Loc} {r : Cells} (hs : loc'.Sublist loc) : View M ((L, .frame loc) :: r) ((L, .frame loc') :: r) := fun A B s h => by
  refine ⟨B, ⟨h.keep, h.stat, fun p hp => ?_, fun p hp => ?_, fun p hp => ?_, h.nd, h.frs, h.bare⟩, (Fut.refl ..).perm (fun _ => Iff.rfl) fun a ha => ha⟩
  · rcases List.mem_cons.mp hp with rfl | hp
    · obtain ⟨nd, m, hn, hl⟩ := h.own _ (.head _)
      exact ⟨(hs.map Prod.fst).nodup nd, m, hn, fun p hp => hl p (hs.mem hp)⟩
    · exact h.own p (.tail _ hp)
  · rcases List.mem_cons.mp hp with rfl | hp
    · trivial
    · exact h.nf p (.tail _ hp)
  · rcases List.mem_cons.mp hp with rfl | hp
    · exact h.off (L, .frame loc) (.head _)
    · exact h.off p (.tail _ hp)
theorem sub_nil {α : Type} (l : List α) : [].Sublist l := List.nil_sublist l

-- frozen
mutual
/-- an address written out -/
def vsub (a : Addr) (u : V) : V → V
  | .ref b => if b = a then u else .ref b
  | .tup l => .tup (vsubs a u l)
  | .lst k l => .lst k (vsubs a u l)
  | .tag c v => .tag (vsub a u c) (vsub a u v)
  | .none => .none
  | .bool b => .bool b
  | .int i => .int i
  | .str s => .str s
  | .ty n => .ty n
  | .bi n => .bi n
def vsubs (a : Addr) (u : V) : List V → List V
  | [] => []
  | x :: l => vsub a u x :: vsubs a u l
end
section
variable {C : Cls}
mutual
theorem RV.sub {B B' : FH} {a : Addr} {u : V} (h : B.le B') (hu : RV C B' (.ref a) u) : ∀ {v : Value} {x : V}, RV C B v x → RV C B' v (vsub a u x)
  | _, _, .none => by rw [vsub]; exact .none
  | _, _, .bool b => by rw [vsub]; exact .bool b
  | _, _, .int i t => by rw [vsub]; exact .int i t
  | _, _, .str s t => by rw [vsub]; exact .str s t
  | _, _, .ty n => by rw [vsub]; exact .ty n
  | _, _, .bi n => by rw [vsub]; exact .bi n
  | _, _, .ref b => by
    rw [vsub]
    split
    · rename_i e; subst e; exact hu
    · exact RV.ref b
  | _, _, .tup e r => by rw [vsub]; exact .tup (h _ _ e) (RVs.sub h hu r)
  | _, _, .lst e q r => by rw [vsub]; exact .lst (h _ _ e) (q.mono h) (RVs.sub h hu r)
  | _, _, .tag e q r r' => by rw [vsub]; exact .tag (h _ _ e) (q.mono h) (RV.sub h hu r) (RV.sub h hu r')
theorem RVs.sub {B B' : FH} {a : Addr} {u : V} (h : B.le B') (hu : RV C B' (.ref a) u) : ∀ {v : List Value} {x : List V}, RVs C B v x → RVs C B' v (vsubs a u x)
  | _, _, .nil => by rw [vsubs]; exact .nil
  | _, _, .cons r rs => by rw [vsubs]; exact .cons (RV.sub h hu r) (RVs.sub h hu rs)
end
end
def osub (a : Addr) (u : V) : Option V → Option V
  | some x => some (vsub a u x)
  | none => none
def MO.sub (a : Addr) (u : V) : MO → MO
  | .frame loc => .frame (loc.map fun p => (p.1, vsub a u p.2))
  | .lst k xs => .lst k (vsubs a u xs)
  | .inst c sl => .inst c (sl.map (osub a u))
  | .it x i => .it (vsub a u x) i
  | .cell v => .cell (osub a u v)
  | o => o
theorem ROs.sub {C : Cls} {B B' : FH} {a : Addr} {u : V} (hB : B.le B') (hu : RV C B' (.ref a) u) {v : List (Option Value)} {x : List (Option V)} (r : ROs C B v x) : ROs C B' v (x.map (osub a u)) := by
  induction r with
  | nil => exact .nil
  | @cons v x _ _ r _ ih =>
    refine .cons ?_ ih
    cases v <;> cases x <;> first | exact r | exact RV.sub hB hu r
theorem MO.At.sub {C : Cls} {B B' : FH} {h : Heap} {b a : Addr} {u : V} {o : MO} (hB : B.le B') (hu : RV C B' (.ref a) u) (x : o.At C B h b) : (o.sub a u).At C B' h b := by
  cases o with
  | frame loc =>
    obtain ⟨nd, m, hn, hl⟩ := x
    refine ⟨by rw [List.map_map]; exact nd, m, hn, fun p hp => ?_⟩
    obtain ⟨q, hq, rfl⟩ := List.mem_map.mp hp
    obtain ⟨v, e, r⟩ := hl q hq
    exact ⟨v, e, RV.sub hB hu r⟩
  | lst k xs => obtain ⟨d, vs, n, e, q, r⟩ := x; exact ⟨d, vs, n, e, q.mono hB, RVs.sub hB hu r⟩
  | inst c sl =>
    obtain ⟨d, vs, e, q, r⟩ := x
    exact ⟨d, vs, e, q.mono hB, ROs.sub hB hu r⟩
  | iter l i => exact x
  | it y i => obtain ⟨l, r, e⟩ := x; exact ⟨l, RV.sub hB hu r, e⟩
  | cell y =>
    obtain ⟨o, v', e, hd, r⟩ := x
    refine ⟨o, v', e, hd, ?_⟩
    cases v' <;> cases y <;> first | exact r | exact RV.sub hB hu r
  | p P => exact x
  | obj o => exact x
  | exc c t => exact x
  | tb fl => exact x
theorem MO.NoFrame.sub {o : MO} {a : Addr} {u : V} (h : o.NoFrame) : (o.sub a u).NoFrame := by cases o <;> exact h
abbrev Cells.sub (r : Cells) (a : Addr) (u : V) : Cells := r.map fun p => (p.1, p.2.sub a u)
/-- an owned list stays as it is from here on -/
theorem freeze_core {M : Md} {A : Around} {B : FH} {s : Shared} {a : Addr} {k : LK} {xs : List V} {r : Cells} (h : St M.C M.S A B ((a, .lst k xs) :: r) s) : ∃ B', St M.C M.S A B' (Cells.sub r a (.lst k xs)) s ∧ Fut B ((a, .lst k xs) :: r) s B' (Cells.sub r a (.lst k xs)) s ∧ RV M.C B' (.ref a) (.lst k xs) := by
  obtain ⟨d, vs, n, e, hd, rs⟩ := h.own _ (.head _)
  have hBa : B a = none := h.off (a, .lst k xs) (.head _)
  have hle : B.le (B.add a ⟨k.cls M.C, d, .seq vs.toArray n, #[]⟩) := B.le_add hBa
  have nd := List.nodup_cons.mp h.nd
  have hne : ∀ p ∈ r, p.1 ≠ a := fun p hp q => nd.1 (by have := List.mem_map_of_mem (f := Prod.fst) hp; rw [q] at this; exact this)
  have hu : RV M.C (B.add a ⟨k.cls M.C, d, .seq vs.toArray n, #[]⟩) (.ref a) (.lst k xs) := .lst (FH.add_self ..) (hd.mono hle) (rs.mono hle)
  have had : Cells.ad (Cells.sub r a (.lst k xs)) = Cells.ad r := by simp [Cells.ad, List.map_map, Function.comp_def]
  refine ⟨_, ⟨fun b o q => ?_, h.stat.trans hle, fun p hp => ?_, fun p hp => ?_, fun p hp => ?_, by rw [had]; exact nd.2, ?_, h.bare⟩,
    ⟨hle, fun b o q _ => .inl q, fun b q => ?_, fun b q => .inr (.tail _ (by rw [had] at q; exact q)), fun b o q => ⟨o, q⟩, rfl, fun _ _ => rfl, Nat.le_refl _⟩, hu⟩
  · by_cases q' : b = a
    · subst q'; rw [FH.add_self] at q; cases q; exact e
    · rw [FH.add_other _ _ q'] at q; exact h.keep _ _ q
  · obtain ⟨q, hq, rfl⟩ := List.mem_map.mp hp
    exact (h.own q (.tail _ hq)).sub hle hu
  · obtain ⟨q, hq, rfl⟩ := List.mem_map.mp hp
    exact (h.nf q (.tail _ hq)).sub
  · obtain ⟨q, hq, rfl⟩ := List.mem_map.mp hp
    rw [FH.add_other _ _ (hne q hq)]
    exact h.off q (.tail _ hq)
  · obtain ⟨l, e', hl⟩ := h.frs
    refine ⟨l, e', fun en hen => ?_⟩
    obtain ⟨hk, L, oL, h1, h2, h3, h4⟩ := hl en hen
    refine ⟨hk, L, oL, h1, ?_, h3, h4⟩
    rw [FH.add_other _ _ (fun q => by subst q; rw [e] at h3; cases h3; obtain ⟨_, _, q⟩ := h4; cases q)]
    exact h2
  · by_cases q' : b = a
    · subst q'; exact .inr (.inr (.head _))
    · rw [FH.add_other _ _ q'] at q; exact .inl q
theorem View.freeze {M : Md} {a : Addr} {k : LK} {xs : List V} {r : Cells} : View M ((a, .lst k xs) :: r) (Cells.sub r a (.lst k xs)) := fun A B s h => let ⟨B', h', F, _⟩ := freeze_core h; ⟨B', h', F⟩

section
variable {M : Md} {β γ : Type} {R : FH → β → γ → Prop} {A : Around} {cs : Cells} {X : Value → Cells → Prop} {env : Env} {PV : V → Cells → Prop} {PF : Fl → Cells → Prop} {PB : Bool → Cells → Prop} {PU : Unit → Cells → Prop} {PL : List V → Cells → Prop}

theorem Tr.view {pre : FH → Prop} {t : Sem β} {P : γ → Cells → Prop} {cs' : Cells} (hm : Mono pre) (v : View M cs cs') (h : Tr M.C M.S M.prog M.w pre R A t cs' P X) : Tr M.C M.S M.prog M.w pre R A t cs P X := fun B s hs hp => by
  obtain ⟨B', hs', F⟩ := v A B s hs
  exact wpAny_mono (h B' s hs' (hm _ _ F.mono hp)) (fun _ _ => Po.step F) fun _ _ => PoX.step F
theorem EXs.view {b : List Stmt} {cs' : Cells} (v : View M cs cs') (h : EXs M A env b cs' PF X) : EXs M A env b cs PF X := ⟨h.it.view mono_T v⟩
theorem EX.view {b : Stmt} {cs' : Cells} (v : View M cs cs') (h : EX M A env b cs' PF X) : EX M A env b cs PF X := ⟨h.it.view mono_T v⟩
theorem EV.view {b : PySem.Expr} {cs' : Cells} (v : View M cs cs') (h : EV M A env b cs' PV X) : EV M A env b cs PV X := ⟨h.it.view mono_T v⟩
/-- what comes back and its cells, seen otherwise -/
def ViewV (M : Md) (x : V) (c : Cells) (x' : V) (c' : Cells) : Prop := ∀ (A : Around) (B : FH) (s : Shared) (v : Value), St M.C M.S A B c s → RV M.C B v x → ∃ B', St M.C M.S A B' c' s ∧ Fut B c s B' c' s ∧ RV M.C B' v x'
theorem ViewV.of {x : V} {c c' : Cells} (v : View M c c') : ViewV M x c x c' := fun A B s u h r => let ⟨B', h', F⟩ := v A B s h; ⟨B', h', F, r.mono F.mono⟩
theorem ViewV.trans {x x' x'' : V} {c c' c'' : Cells} (y : ViewV M x c x' c') (z : ViewV M x' c' x'' c'') : ViewV M x c x'' c'' := fun A B s u h r =>
  let ⟨B', h', F, r'⟩ := y A B s u h r; let ⟨B'', h'', F', r''⟩ := z A B' s u h' r'; ⟨B'', h'', F.trans F', r''⟩
theorem ViewV.refl {x : V} {c : Cells} : ViewV M x c x c := fun A B s u h r => ⟨B, h, .refl .., r⟩
theorem Tr.viewV {pre : FH → Prop} {t : Sem Value} {P : V → Cells → Prop} (h : Tr M.C M.S M.prog M.w pre (RV M.C) A t cs (fun x c => ∃ x' c', ViewV M x c x' c' ∧ P x' c') X) : Tr M.C M.S M.prog M.w pre (RV M.C) A t cs P X := fun B s hs hp =>
  wpAny_mono (h B s hs hp) (fun v s₁ ⟨B₁, c₁, x, S₁, F₁, R₁, x', c', hv, hP⟩ => let ⟨B₂, S₂, F₂, R₂⟩ := hv A B₁ s₁ v S₁ R₁; ⟨B₂, c', x', S₂, F₁.trans F₂, R₂, hP⟩) fun _ _ x => x
theorem CL.viewV {f : Value} {xs : List V} (h : CL M A f xs cs (fun x c => ∃ x' c', ViewV M x c x' c' ∧ PV x' c') X) : CL M A f xs cs PV X := ⟨fun vs => (h.it vs).viewV⟩
theorem EV.viewV {e : PySem.Expr} (h : EV M A env e cs (fun x c => ∃ x' c', ViewV M x c x' c' ∧ PV x' c') X) : EV M A env e cs PV X := ⟨h.it.viewV⟩
/-- what comes back is frozen -/
theorem ViewV.freeze {a : Addr} {k : LK} {xs : List V} {r : Cells} {x : V} : ViewV M x ((a, .lst k xs) :: r) (vsub a (.lst k xs) x) (Cells.sub r a (.lst k xs)) := fun A B s v h rv =>
  let ⟨B', h', F, hu⟩ := freeze_core h; ⟨B', h', F, RV.sub F.mono hu rv⟩

/-- only new things -/
theorem St.grow {B : FH} {s : Shared} {h' : Heap} (hs : St M.C M.S A B cs s) (hk : ∀ b o, s.heap.get? b = some o → h'.get? b = some o) (t : Nat) :
    St M.C M.S A B cs { s with heap := h', toks := t } ∧ Fut B cs s B cs { s with heap := h', toks := t } := by
  refine ⟨⟨fun b o e => hk _ _ (hs.keep b o e), hs.stat, fun p hp => (hs.own p hp).same (fun o e => .inl (hk _ _ e)) (hs.nf p hp), hs.nf, hs.off, hs.nd, ?_, hs.bare⟩,
    ⟨.refl _, fun b o e _ => .inl (hk _ _ e), fun _ h => .inl h, fun _ h => .inr h, fun b o e => ⟨o, hk _ _ e⟩, rfl, fun _ _ => rfl, Nat.le_refl _⟩⟩
  obtain ⟨l, e, hl⟩ := hs.frs
  exact ⟨l, e, fun en hen => let ⟨hk', L, oL, h1, h2, h3, h4⟩ := hl en hen; ⟨hk', L, oL, h1, h2, hk _ _ h3, h4⟩⟩
theorem grow_of_ext {h h' : Heap} (he : Heap.ExtBut h.objs.size h h') : ∀ b o, h.get? b = some o → h'.get? b = some o := fun b o e => he b o (Nat.ne_of_lt (Heap.lt_size e)) e

-- targets
/-- several targets in order -/
structure ASs (M : Md) (A : Around) (env : Env) (ts : List PySem.Expr) (xs : List V) (cs : Cells) (P : Cells → Prop) (X : Value → Cells → Prop) : Prop where
  it : ∀ vs, Tr M.C M.S M.prog M.w (fun B => RVs M.C B vs xs) RU A (assignInOrder ((assignEach ts env).map (·.2)) vs) cs (fun _ cs => P cs) X
theorem ass_nil {P : Cells → Prop} (h : P cs) : ASs M A env [] [] cs P X := ⟨fun vs B s hs r => assignInOrder_nil ⟨B, cs, (), hs, .refl .., trivial, h⟩⟩
theorem ass_cons {t : PySem.Expr} {ts : List PySem.Expr} {x : V} {xs : List V} {P : Cells → Prop} (h : AS M A env t x cs (fun c => ASs M A env ts xs c P X) X)
    (he : assignEach (t :: ts) env = (false, assign t env) :: assignEach ts env := by rfl) : ASs M A env (t :: ts) (x :: xs) cs P X := ⟨fun vs B s hs r => by
  cases r with | cons r rs
  rw [he]
  refine assignInOrder_cons (wpAny_mono (h.it _ B s hs r) (fun _ s₁ ⟨B₁, c₁, _, S₁, F₁, _, h₁⟩ => ?_) fun _ _ x => x)
  exact wpAny_mono (h₁.it _ B₁ s₁ S₁ (rs.mono F₁.mono)) (fun _ _ => Po.step F₁) fun _ _ => PoX.step F₁⟩
theorem as_tup {ts : List PySem.Expr} {k : Nat} {pos : Pos} {xs : List V} {P : Cells → Prop} (hd : A.handled = none) (hl : (assignEach ts env).length = xs.length) (h : ASs M A env ts xs cs P X)
    (hst : (assignEach ts env).findIdx? (·.1) = none := by rfl) : AS M A env (.Tuple ts k pos) (.tup xs) cs P X := ⟨fun v B s hs r => by
  cases r with | @tup a vs n _ e rs
  have ht : IsTup s.heap a vs.toArray := ⟨_, hs.keep _ _ e, rfl, n, rfl⟩
  refine assign_Tuple_tuple hd ht (by rw [hl, ← rs.length, List.size_toArray]) hst (fun h' he => ?_)
  obtain ⟨S₁, F₁⟩ := hs.grow (grow_of_ext he) s.toks
  exact wpAny_mono (h.it _ B _ S₁ rs) (fun _ _ => Po.step F₁) fun _ _ => PoX.step F₁⟩
theorem as_lst {ts : List PySem.Expr} {k : Nat} {pos : Pos} {x : V} {xs : List V} {P : Cells → Prop} (hd : A.handled = none) (hsrc : (x = .lst .list xs) ∨ ∃ a, x = .ref a ∧ (a, MO.lst .list xs) ∈ cs) (hl : (assignEach ts env).length = xs.length) (h : ASs M A env ts xs cs P X)
    (hst : (assignEach ts env).findIdx? (·.1) = none := by rfl) : AS M A env (.Tuple ts k pos) x cs P X := ⟨fun v B s hs r => by
  have key : ∃ l vs n d, v = .ref l ∧ s.heap.get? l = some ⟨.type "list", d, .seq vs.toArray n, #[]⟩ ∧ RVs M.C B vs xs := by
    rcases hsrc with rfl | ⟨a, rfl, hm⟩
    · cases r with | @lst _ a d vs n _ e hd rs => exact ⟨a, vs, n, d, rfl, hs.keep _ _ e, rs⟩
    · cases r with | ref
      obtain ⟨d, vs, n, e, _, rs⟩ := hs.own _ hm
      exact ⟨a, vs, n, d, rfl, e, rs⟩
  obtain ⟨l, vs, n, d, rfl, e, rs⟩ := key
  have hL : s.heap.IsList l vs.toArray := ⟨_, e, rfl, n, rfl⟩
  rw [assign_Tuple]
  refine wpAny_bind (wpAny_standAt ?_)
  unfold unpack
  rw [show (assignEach ts env).length = vs.toArray.size by rw [hl, ← rs.length, List.size_toArray], hst]
  refine wpAny_bind (wpAny_holding (kun_itemsOf hd hL fun h' he => ?_))
  obtain ⟨S₁, F₁⟩ := hs.grow (grow_of_ext he) s.toks
  exact wpAny_mono (h.it _ B _ S₁ rs) (fun _ _ => Po.step F₁) fun _ _ => PoX.step F₁⟩
theorem ex_assign_t {ts : List PySem.Expr} {k : Nat} {tp pos : Pos} {value : PySem.Expr} (h : EV M A env value cs (fun x c => AS M A env (.Tuple ts k tp) x c (fun c' => PF .next c') X) X)
    (hs : swapsWithSole [.Tuple ts k tp] value pos.line env = pure false := by rfl) (hw : swappedStores [.Tuple ts k tp] value env = pure none := by rfl) :
    EX M A env (.Assign [.Tuple ts k tp] value pos) cs PF X := ⟨fun B s hst _ =>
  Assign_Tuple (wpAny_mono (h.it B s hst trivial) (fun v s₁ ⟨B₁, c₁, x, S₁, F₁, R₁, h₁⟩ => wpAny_mono (h₁.it v B₁ s₁ S₁ R₁) (fun _ s₂ ⟨B₂, c₂, _, S₂, F₂, _, h₂⟩ => ⟨B₂, c₂, .next, S₂, F₁.trans F₂, .next, h₂⟩) fun _ _ => PoX.step F₁) fun _ _ x => x) hs hw⟩
theorem ex_pass {pos : Pos} (h : PF .next cs) : EX M A env (.Pass pos) cs PF X := ⟨fun B s hs _ => wpAny_bind (wpAny_standAt (wpAny_pure ⟨B, cs, .next, hs, .refl .., .next, h⟩))⟩
theorem ex_break {pos : Pos} (h : PF .brk cs) : EX M A env (.Break pos) cs PF X := ⟨fun B s hs _ => wpAny_bind (wpAny_standAt (wpAny_pure ⟨B, cs, .brk, hs, .refl .., .brk, h⟩))⟩
theorem ex_continue {pos : Pos} (h : PF .cont cs) : EX M A env (.Continue pos) cs PF X := ⟨fun B s hs _ => wpAny_bind (wpAny_standAt (wpAny_pure ⟨B, cs, .cont, hs, .refl .., .cont, h⟩))⟩
end
end Mine

end
section
open PySem PySem.W PySem.W.X PyProof.Rows
set_option Elab.async false
set_option maxRecDepth 100000
set_option linter.unusedVariables false
namespace Mine

theorem compLoop_any {prog : Program} {w : World} {A : Around} {R : Result → Shared → Prop} {s : Shared} {elt target iter : PySem.Expr} {scope : Scope} {pos : Pos} {it acc : Value} {env : Env} (I : Nat → Shared → Prop)
    (turn : ∀ n s, I n s → wpAny (model prog w) A (pyNext it) (fun r s₁ => match r with
      | none => R (.ok .next) s₁
      | some v => wpAny (model prog w) A (letOwnedTupleGo target it v) (fun _ s₁' => wpAny (model prog w) A (assign target env v) (fun _ s₂ =>
          wpAny (model prog w) A (eval elt env) (fun x s₄ =>
              wpAny (model prog w) A (call (.builtin "list.append") [acc, x]) (fun _ s₅ => ∃ m, m < n ∧ I m s₅) (notedBy (model prog w) A env fun e s' => R (.error e) s') s₄) (notedBy (model prog w) A env fun e s' => R (.error e) s') s₂)
          (notedBy (model prog w) A env fun e s' => R (.error e) s') s₁') (notedBy (model prog w) A env fun e s' => R (.error e) s') s₁) (notedBy (model prog w) A env fun e s' => R (.error e) s') s)
    (n : Nat) (h : I n s) (hf : (Code.compLoop (.ListComp elt [⟨target, iter, [], 0⟩] scope pos) 0 it acc env).isFrame = false := by rfl) : codeAny (model prog w) A (.compLoop (.ListComp elt [⟨target, iter, [], 0⟩] scope pos) 0 it acc env) R s := by
  refine codeAny_loop rfl I (fun n s hI => ?_) n h
  show wpAny _ A ((compTurn (.ListComp elt [⟨target, iter, [], 0⟩] scope pos) 0 it acc env).onRaise (fun x => do noteFrame x env; theTreesLotGoes x)) _ _ s
  refine wpAny_noted ?_
  rw [compTurn_list1]
  refine wpAny_bind (wpAny_standAt (wpAny_bind (wpAny_mono (turn n s hI) (fun r s₁ h₁ => ?_) fun _ _ h' => h')))
  cases r with
  | none => exact wpAny_pure h₁
  | some v =>
    refine wpAny_bind (wpAny_mono h₁ (fun _ s₁' h₁' => ?_) fun _ _ h' => h')
    refine wpAny_bind (wpAny_mono h₁' (fun _ s₂ h₂ => ?_) fun _ _ h' => h')
    exact wpAny_bind (wpAny_bind (wpAny_mono h₂ (fun x s₄ h₄ => wpAny_bind (wpAny_mono h₄ (fun _ s₅ h₅ => wpAny_pure (wpAny_pure ⟨rfl, h₅⟩)) fun _ _ h' => h')) fun _ _ h' => h'))

section
variable {M : Md} {A : Around} {cs : Cells} {X : Value → Cells → Prop} {env : Env} {PV : V → Cells → Prop} {PF : Fl → Cells → Prop}

theorem St.tail {p : Addr × MO} {B : FH} {s : Shared} (h : St M.C M.S A B (p :: cs) s) : St M.C M.S A B cs s := h.sub (fun q hq => .tail _ hq) (List.nodup_cons.mp h.nd).2
theorem St.left {fr : Cells} {B : FH} {s : Shared} (h : St M.C M.S A B (cs ++ fr) s) : St M.C M.S A B cs s := h.sub (fun p hp => List.mem_append_left _ hp) (by have := h.nd; rw [Cells.ad, List.map_append, List.nodup_append] at this; exact this.1)

/-- a namespace of a comprehension's: no frame of the stack -/
def OffFrames (A : Around) (C : Addr) : Prop := ∀ l, A.frames = some l → ∀ en ∈ l, en.frame ≠ some C
/-- its namespace cleared in the end -/
theorem St.scrub {B B₀ : FH} {s s₀ : Shared} {cs₀ : Cells} {C : Addr} {m : MO} {h' : Heap} (hs : St M.C M.S A B ((C, m) :: cs) s) (F : Fut B₀ cs₀ s₀ B ((C, m) :: cs) s) (h0 : s₀.heap.get? C = none) (hof : OffFrames A C) (hb : Heap.SameBut C s.heap h') :
    St M.C M.S A B cs { s with heap := h' } ∧ Fut B₀ cs₀ s₀ B cs { s with heap := h' } := by
  have nd := List.nodup_cons.mp hs.nd
  have hne : ∀ p ∈ cs, p.1 ≠ C := fun p hp q => nd.1 (by have := List.mem_map_of_mem (f := Prod.fst) hp; rw [q] at this; exact this)
  have hBC : B C = none := hs.off (C, m) (.head _)
  have oth : ∀ b, b ≠ C → h'.get? b = s.heap.get? b := fun b h => hb.2 b h
  refine ⟨⟨fun b o e => (oth b fun q => by subst q; rw [hBC] at e; cases e).trans (hs.keep b o e), hs.stat, fun p hp => (hs.own p (.tail _ hp)).same (fun o e => .inl ((oth _ (hne p hp)).trans e)) (hs.nf p (.tail _ hp)),
    fun p hp => hs.nf p (.tail _ hp), fun p hp => hs.off p (.tail _ hp), nd.2, ?_, hs.bare⟩,
    ⟨F.mono, fun b o e hn => ?_, F.newB, fun b q => F.newC b (.tail _ q), fun b o e => ?_, F.os, F.gens, F.gsz⟩⟩
  · obtain ⟨l, e, hl⟩ := hs.frs
    refine ⟨l, e, fun en hen => ?_⟩
    obtain ⟨hk, L, oL, h1, h2, h3, h4⟩ := hl en hen
    exact ⟨hk, L, oL, h1, h2, (oth L fun q => hof l e en hen (by rw [h1, q])).trans h3, h4⟩
  · have hbC : b ≠ C := fun q => by subst q; rw [h0] at e; cases e
    rcases F.pres b o e hn with q | ⟨hc, sl, q⟩
    · exact .inl ((oth b hbC).trans q)
    · exact .inr ⟨hc, sl, (oth b hbC).trans q⟩
  · have hbC : b ≠ C := fun q => by subst q; rw [h0] at e; cases e
    obtain ⟨o', q⟩ := F.there b o e
    exact ⟨o', (oth b hbC).trans q⟩

/-- a comprehension's own namespace -/
theorem St.enterC {B : FH} {s : Shared} (hs : St M.C M.S A B cs s) {h' : Heap} {c : Addr} {t : Nat} {cl : Value} (hc : c = s.heap.objs.size)
    (hns : h'.Ns c (fun x => ([] : List (Str × Value)).reverse.lookup x)) (hsb : Heap.SameBut c (s.heap.push { cls := cl, data := .dict #[] }) h') :
    c ∉ cs.ad ∧ OffFrames A c ∧ s.heap.get? c = none ∧ St M.C M.S A B ((c, .frame []) :: cs) { s with heap := h', toks := t } ∧ Fut B cs s B ((c, .frame []) :: cs) { s with heap := h', toks := t } := by
  subst hc
  have hnew : s.heap.objs.size ∉ cs.ad := fun h => hs.ne_size h rfl
  have up : ∀ b ob, s.heap.get? b = some ob → h'.get? b = some ob := fun b ob e => (hsb.2 b (Nat.ne_of_lt (Heap.lt_size e))).trans (Heap.get?_push_of_some _ e)
  refine ⟨hnew, fun l e en hen q => ?_, size_none _, ⟨fun b ob e => up b ob (hs.keep b ob e), hs.stat, fun p hp => ?_, fun p hp => ?_, fun p hp => ?_, List.nodup_cons.mpr ⟨hnew, hs.nd⟩, ?_, hs.bare⟩,
    ⟨.refl _, fun b ob e _ => .inl (up b ob e), fun _ h => .inl h, fun b hb => ?_, fun b ob e => ⟨ob, up b ob e⟩, rfl, fun _ _ => rfl, Nat.le_refl _⟩⟩
  · obtain ⟨l', e', hl⟩ := hs.frs
    rw [e] at e'; cases e'
    obtain ⟨hk, L, oL, h1, h2, h3, h4⟩ := hl en hen
    rw [h1] at q; cases q
    rw [size_none] at h3; cases h3
  · rcases List.mem_cons.mp hp with rfl | hp
    · exact ⟨by simp, _, hns, fun p hp => by simp at hp⟩
    · exact (hs.own p hp).same (fun o e => .inl (up _ _ e)) (hs.nf p hp)
  · rcases List.mem_cons.mp hp with rfl | hp
    · trivial
    · exact hs.nf p hp
  · rcases List.mem_cons.mp hp with rfl | hp
    · exact hs.B_none (size_none _)
    · exact hs.off p hp
  · obtain ⟨l, e, hl⟩ := hs.frs
    exact ⟨l, e, fun en hen => let ⟨hk, L, oL, h1, h2, h3, h4⟩ := hl en hen; ⟨hk, L, oL, h1, h2, up _ _ h3, h4⟩⟩
  · rcases List.mem_cons.mp hb with rfl | h
    · exact .inl (size_none _)
    · exact .inr h

theorem noted_none {env : Env} {e : Value} {B : FH} {s s' : Shared} {cs : Cells} {E : Value → Shared → Prop} {prog : Program} {w : World} (h : PoX M.C M.S A B cs s NoX e s') : notedBy (model prog w) A env E e s' := h.none.elim
theorem list_append_own {D : Addr} {done : List V} {v : Value} {y : V} {B : FH} {s : Shared} {cs cs' : Cells} {E : Value → Shared → Prop} {Q : Value → Shared → Prop} (hs : St M.C M.S A B cs s) (U : Upd D (.lst .list done) (.lst .list (done ++ [y])) cs cs') (hl : done.length ≤ 10000) (r : RV M.C B v y)
    (hQ : ∀ s', St M.C M.S A B cs' s' → Fut B cs s B cs' s' → Q .none s') : wpAny (model M.prog M.w) A (call (.builtin "list.append") [.ref D, v]) Q E s := by
  obtain ⟨d, ws, n, e, hd, rs⟩ := hs.own _ U.mem
  cases hd
  refine wpAny_list_append_plain (items := ws.toArray) ⟨n, e⟩ (fun h' ⟨n', e'⟩ hsb => ?_) (by rw [List.size_toArray, rs.length]; exact Nat.le_trans hl (by decide))
  obtain ⟨S', F'⟩ := hs.turn U hsb ⟨none, ws ++ [_], n', by rw [e']; simp [LK.cls], rfl, rs.append (.cons r .nil)⟩ trivial (fun ob q => ⟨_, e', fun hd => by rw [e] at q; cases q; exact (isD_no_seq hd).elim⟩) s.toks
  exact hQ _ S' F'

/-- the heart of a list comprehension -/
theorem comp_core {target elt iter : PySem.Expr} {scope : Scope} {cl : List (Str × Addr)} {pos : Pos} {it : Value} {J : List V → Cells} {Dep : FH → List V → Cells → Prop} {B : FH} {s : Shared} {xs : List V} {B₀ : FH} {s₀ : Shared} {cs₀ cs₁ : Cells} {E : Value → Shared → Prop}
    (W : Walk M A target it J Dep) (Inv : List V → List V → Cells → Prop)
    (hself : ∀ B' s' cs', St M.C M.S A B' (cs' ++ J xs) s' → ∀ (Q : Value → Shared → Prop) (E : Value → Shared → Prop), Q it s' → wpAny (model M.prog M.w) A (pyIter it) Q E s')
    (hdep : ∀ B' rem done cs' C D, B.le B' → Inv rem done cs' → Dep B' rem ((C, .frame []) :: (D, .lst .list done) :: cs'))
    (hlen : ∀ rem done cs', Inv rem done cs' → done.length ≤ 10000)
    (hturn : ∀ C u rem done cs', Inv (u :: rem) done cs' → AS M A (compEnvC scope cl C env) target u ((C, .frame []) :: cs') (fun c => EV M A (compEnvC scope cl C env) elt c (fun y c' => ∃ loc cs'', View M c' ((C, .frame loc) :: cs'') ∧ Inv rem (done ++ [y]) cs'') NoX) NoX)
    (hend : ∀ done cs', Inv [] done cs' → ∀ D, PV (.ref D) ((D, .lst .list done) :: cs')) (i0 : Inv xs [] cs₁) (S₁ : St M.C M.S A B (cs₁ ++ J xs) s) (F₁ : Fut B₀ cs₀ s₀ B (cs₁ ++ J xs) s)
    (hcell : ∀ y ∈ scope.names, y.2 ≠ .cell) (hkind : scope.kind = .function) :
    wpAny (model M.prog M.w) A (newList []) (fun acc s₃ => wpAny (model M.prog M.w) A (newFunctionEnv scope env.globals cl [] env.qual none .none (some env)) (fun cenv s₄ =>
        codeAny (model M.prog M.w) A (.compStart (.ListComp elt [⟨target, iter, [], 0⟩] scope pos) 0 it acc { cenv with scope := relabel scope env }) (compPost (model M.prog M.w) A E none (Po M.C M.S (RV M.C) A B₀ cs₀ s₀ PV) acc cenv.locals) s₄) E s₃) E s := by
  obtain ⟨hnD, S₂, F₂⟩ := S₁.alloc (o := { cls := .type "list", data := .seq ([] : List Value).toArray }) (m := .lst .list []) rfl ⟨none, [], 0, Heap.get?_push_size _ rfl, rfl, .nil⟩ trivial s.toks
  have pm := ins_perm (s.heap.objs.size, MO.lst .list []) (cs₁ ++ J xs)
  have S₂' := S₂.perm pm
  have F₂' := F₁.trans (F₂.perm (cs₁' := (s.heap.objs.size, MO.lst .list []) :: (cs₁ ++ J xs)) (fun _ => Iff.rfl) fun a ha => ((pm.map Prod.fst).mem_iff.mpr ha))
  refine wpAny_newObj_type ?_ (by size_fits)
  generalize hD : s.heap.objs.size = D at *
  have hh2 : ({ s with heap := s.heap.push { cls := .type "list", dict := none, data := .seq ([] : List Value).toArray } } : Shared) = { s with heap := s.heap.push { cls := .type "list", data := .seq ([] : List Value).toArray }, toks := s.toks } := rfl
  rw [hh2] at *
  generalize hs2 : ({ s with heap := s.heap.push { cls := .type "list", data := .seq ([] : List Value).toArray }, toks := s.toks } : Shared) = s₂ at *
  refine wpAny_newFunctionEnv hcell (by intro y hy; simp at hy) (fun h₁ hns₁ hsb₁ => ?_) hkind
  obtain ⟨hnC, hof, hCn, S₃, F₃⟩ := S₂'.enterC (t := s₂.toks + ([] : List (Str × Value)).length) rfl hns₁ hsb₁
  generalize hC : s₂.heap.objs.size = C at *
  have F₃' := F₂'.trans F₃
  have hC0 : s₀.heap.get? C = none := by
    cases q : s₀.heap.get? C with
    | none => rfl
    | some o => obtain ⟨o', e⟩ := F₂'.there C o q; rw [hCn] at e; cases e
  have hle1 : B.le B := .refl _
  show codeAny _ _ (.compStart _ 0 it (.ref D) (compEnvC scope cl C env)) (compPost (model M.prog M.w) A E none (Po M.C M.S (RV M.C) A B₀ cs₀ s₀ PV) (.ref D) C) { s₂ with heap := h₁, toks := s₂.toks + ([] : List (Str × Value)).length }
  generalize ({ s₂ with heap := h₁, toks := s₂.toks + ([] : List (Str × Value)).length } : Shared) = s₃ at S₃ F₃'
  have loop : codeAny (model M.prog M.w) A (.compLoop (.ListComp elt [⟨target, iter, [], 0⟩] scope pos) 0 it (.ref D) (compEnvC scope cl C env)) (compPost (model M.prog M.w) A E none (Po M.C M.S (RV M.C) A B₀ cs₀ s₀ PV) (.ref D) C) s₃ := by
    refine compLoop_any (I := fun m s' => ∃ B' cs' rem done, rem.length = m ∧ Inv rem done cs' ∧ St M.C M.S A B' (((C, .frame []) :: (D, .lst .list done) :: cs') ++ J rem) s' ∧ Fut B₀ cs₀ s₀ B' (((C, .frame []) :: (D, .lst .list done) :: cs') ++ J rem) s' ∧ B.le B') (fun m s' hI' => ?_) xs.length ⟨B, cs₁, xs, [], rfl, i0, S₃, F₃', hle1⟩
    obtain ⟨B', cs', rem, done, hm, inv, S', F', hle⟩ := hI'
    cases rem with
    | nil =>
      refine W.stop B' s' _ S' (hdep _ _ _ _ _ _ hle inv) _ _ fun s₁ S₂ F₂ => ?_
      obtain ⟨nd, mm, hn, hl⟩ := S₂.own (C, .frame []) (.head _)
      refine ⟨mm, hn, fun h' hb => ?_⟩
      obtain ⟨S₅, F₅⟩ := S₂.scrub (F'.trans F₂) hC0 hof hb
      exact ⟨B', _, .ref D, S₅, F₅, .ref D, hend _ _ inv D⟩
    | cons u rem =>
      refine wpAny_mono (W.next B' s' u rem _ S' (hdep _ _ _ _ _ _ hle inv) (fun v s₂ => wpAny (model M.prog M.w) A (assign target (compEnvC scope cl C env) v) (fun _ s₂ =>
          wpAny (model M.prog M.w) A (eval elt (compEnvC scope cl C env)) (fun x s₄ =>
              wpAny (model M.prog M.w) A (call (.builtin "list.append") [.ref D, x]) (fun _ s₅ => ∃ k, k < m ∧ ∃ B' cs' rem done, rem.length = k ∧ Inv rem done cs' ∧ St M.C M.S A B' (((C, .frame []) :: (D, .lst .list done) :: cs') ++ J rem) s₅ ∧ Fut B₀ cs₀ s₀ B' (((C, .frame []) :: (D, .lst .list done) :: cs') ++ J rem) s₅ ∧ B.le B') (notedBy (model M.prog M.w) A (compEnvC scope cl C env) fun e s' => compPost (model M.prog M.w) A E none (Po M.C M.S (RV M.C) A B₀ cs₀ s₀ PV) (.ref D) C (.error e) s') s₄) (notedBy (model M.prog M.w) A (compEnvC scope cl C env) fun e s' => compPost (model M.prog M.w) A E none (Po M.C M.S (RV M.C) A B₀ cs₀ s₀ PV) (.ref D) C (.error e) s') s₂)
          (notedBy (model M.prog M.w) A (compEnvC scope cl C env) fun e s' => compPost (model M.prog M.w) A E none (Po M.C M.S (RV M.C) A B₀ cs₀ s₀ PV) (.ref D) C (.error e) s') s₂) _ (fun v B₁ s₁ S₃ F₃ rb => ?_)) (fun r s₁ ⟨v, hv, hw⟩ => by subst hv; exact hw) fun _ _ x => x
      have tr := ((hturn C u rem done cs' inv).it v).frame (all := ((C, .frame []) :: (D, .lst .list done) :: cs') ++ J rem) (fr := (D, .lst .list done) :: J rem) (by
        simp only [List.cons_append]
        exact .cons _ (List.perm_middle.symm))
      refine wpAny_mono (tr B₁ s₁ S₃ rb) (fun _ s₄ ⟨B₄, cs₄, _, S₄, F₄, _, c₄, hc₄, hbody⟩ => ?_) fun _ _ x => noted_none (x.mono (fun _ _ ⟨_, _, q⟩ => q))
      subst hc₄
      have tr2 := hbody.it.frame (all := c₄ ++ ((D, .lst .list done) :: J rem)) (fr := (D, .lst .list done) :: J rem) (.refl _)
      refine wpAny_mono (tr2 B₄ s₄ S₄ trivial) (fun y' s₅ ⟨B₅, cs₅, y, S₅, F₅, R₅, c₅, hc₅, loc, cs'', hv, hpost⟩ => ?_) fun _ _ x => noted_none (x.mono (fun _ _ ⟨_, _, q⟩ => q))
      subst hc₅
      obtain ⟨B₆, S₆, F₆⟩ := ((hv.trans (View.loc (sub_nil loc))).frame ((D, .lst .list done) :: J rem)) A B₅ s₅ S₅
      have pm2 : (((C, MO.frame []) :: cs'') ++ ((D, .lst .list done) :: J rem)).Perm (((C, .frame []) :: (D, .lst .list done) :: cs'') ++ J rem) := by
        simp only [List.cons_append]
        exact .cons _ List.perm_middle
      have S₇ := S₆.perm pm2
      have F₇ := F₆.perm (cs₁' := ((C, .frame []) :: (D, .lst .list done) :: cs'') ++ J rem) (fun _ => Iff.rfl) fun a ha => ((pm2.map Prod.fst).mem_iff.mpr ha)
      refine list_append_own S₇ (.tail .head) (hlen _ _ _ inv) (R₅.mono F₆.mono) fun s₈ S₈ F₈ => ?_
      have Fall := ((F'.trans F₃).trans (F₄.trans F₅)).trans (F₇.trans F₈)
      exact ⟨rem.length, by simp at hm; omega, B₆, cs'', rem, _, rfl, hpost, S₈, Fall, hle.trans (F₃.mono.trans (F₄.mono.trans (F₅.mono.trans F₆.mono)))⟩
  exact codeAny_compStart_list loop (hself B s₃ ((C, .frame []) :: (D, .lst .list []) :: cs₁) S₃ _ _ loop)

/-- [elt for target in a list] -/
theorem ev_listcomp {elt target iter : PySem.Expr} {scope : Scope} {cl : List (Str × Addr)} {pos : Pos} (TO : TagsOk M) (hd : A.handled = none) (Inv : List V → List V → Cells → Prop)
    (hclos : closureFor scope env = pure cl)
    (h : EV M A env iter cs (fun x cs₁ => ∃ xs, Inv xs [] cs₁ ∧ (∀ rem done cs', Inv rem done cs' → Src cs' x xs ∧ (∃ pre, xs = pre ++ rem) ∧ done.length ≤ 10000) ∧
      (∀ C u rem done cs', Inv (u :: rem) done cs' → AS M A (compEnvC scope cl C env) target u ((C, .frame []) :: cs') (fun c => EV M A (compEnvC scope cl C env) elt c (fun y c' => ∃ loc cs'', View M c' ((C, .frame loc) :: cs'') ∧ Inv rem (done ++ [y]) cs'') NoX) NoX) ∧
      (∀ done cs', Inv [] done cs' → ∀ D, PV (.ref D) ((D, .lst .list done) :: cs'))) X)
    (hcell : ∀ y ∈ scope.names, y.2 ≠ .cell := by decide +kernel) (hkind : scope.kind = .function := by kernel_rfl)
    (hnames : ∀ x ∈ scope.names, x.2 = .local → scope.names.lookup x.1 = some .local := by decide +kernel)
    (hs : ∀ x, foldedSetIterable iter env x = pure x := by intro _; rfl) :
    EV M A env (.ListComp elt [⟨target, iter, [], 0⟩] scope pos) cs PV X := ⟨fun B s hst hp => by
  rw [eval_ListComp]
  refine wpAny_comprehension_free (use := none) rfl hs hclos hkind hnames (wpAny_mono (h.it B s hst trivial) (fun x₀ s₁ ⟨B₁, cs₁, x, S₁, F₁, R₁, xs, i0, hsrc, hturn, hend⟩ => ?_) fun _ _ e => e)
  obtain ⟨l, k, d, vs, n, rfl, e, rs⟩ := src_obj S₁ (hsrc _ _ _ i0).1 R₁
  refine iter_seq TO S₁.keepS e ?_
  have hit0 := Heap.get?_push_size s₁.heap (o := { cls := .type "list_iterator", data := .fields #[.ref l, .int (0 : Nat) 0] }) rfl
  obtain ⟨hn, S₂, F₂⟩ := S₁.alloc (o := { cls := .type "list_iterator", data := .fields #[.ref l, .int (0 : Nat) 0] }) (m := .iter l 0) rfl hit0 trivial s₁.toks
  have pm : (ins (s₁.heap.objs.size, MO.iter l 0) cs₁).Perm (cs₁ ++ [(s₁.heap.objs.size, MO.iter l 0)]) := (ins_perm _ _).trans (List.perm_append_singleton _ _).symm
  generalize hI : s₁.heap.objs.size = I at *
  have S₂' := S₂.perm pm
  have F₂' : Fut B cs s B₁ (cs₁ ++ [(I, MO.iter l 0)]) { s₁ with heap := s₁.heap.push { cls := .type "list_iterator", data := .fields #[.ref l, .int (0 : Nat) 0] } } :=
    F₁.trans (F₂.perm (fun _ => Iff.rfl) fun a ha => ((pm.map Prod.fst).mem_iff.mpr ha))
  have e0 : xs.length - xs.length = 0 := Nat.sub_self _
  refine comp_core (walk_list (M := M) (A := A) (target := target) (l := l) (I := I) (x := x) (xs := xs) hd) (B := B₁) (B₀ := B) (s₀ := s) (cs₀ := cs) Inv
    (fun B' s' cs' S' Q E hQ => ?_) (fun B' rem done cs' C D hle hi => ⟨?_, R₁.mono hle, (hsrc _ _ _ hi).2.1⟩) (fun rem done cs' hi => (hsrc _ _ _ hi).2.2) hturn hend i0 (by rw [e0]; exact S₂') (by rw [e0]; exact F₂') hcell hkind
  · have hit := S'.own (I, .iter l (xs.length - xs.length)) (List.mem_append_right _ (.head _))
    exact wpAny_pyIter_listiter ⟨_, hit, rfl, rfl⟩ hQ
  · cases (hsrc _ _ _ hi).1 with
    | lst k => exact .lst k _
    | own a k _ hm => exact .own a k _ (.tail _ (.tail _ hm))⟩
end
end Mine

end
section
open PySem PySem.W PySem.W.X PyProof.Rows
set_option Elab.async false
set_option maxRecDepth 100000
set_option linter.unusedVariables false
namespace Mine
section
variable {M : Md} {A : Around} {cs : Cells} {X : Value → Cells → Prop} {env : Env} {PV : V → Cells → Prop} {PF : Fl → Cells → Prop}

/-- the heart of a for: the turns -/
theorem for_core {target : Expr} {body : List Stmt} {it : Value} {J : List V → Cells} {Dep : FH → List V → Cells → Prop} {B : FH} {s : Shared} {xs : List V} {B₀ : FH} {s₀ : Shared} {cs₀ cs₁ : Cells} (W : Walk M A target it J Dep) (Inv : List V → Cells → Prop)
    (hdep : ∀ B' rem cs', B.le B' → Inv rem cs' → Dep B' rem cs')
    (hturn : ∀ u rem cs', Inv (u :: rem) cs' → AS M A env target u cs' (fun cs'' => EXs M A env body cs'' (fun fl c => match fl with | .next | .cont => ∃ c', View M c c' ∧ Inv rem c' | .brk => PF .next c | .ret r => PF (.ret r) c) NoX) NoX)
    (hend : ∀ cs', Inv [] cs' → PF .next cs') (i0 : Inv xs cs₁) (S₁ : St M.C M.S A B (cs₁ ++ J xs) s) (F₁ : Fut B₀ cs₀ s₀ B (cs₁ ++ J xs) s) :
    codeAny (model M.prog M.w) A (.forLoop target it body [] env) (fun r s' => match r with | .ok f => Po M.C M.S (RF M.C) A B₀ cs₀ s₀ PF f s' | .error e => False) s := by
  refine codeAny_forLoop_any (I := fun m s' => ∃ B' cs' rem, rem.length = m ∧ Inv rem cs' ∧ St M.C M.S A B' (cs' ++ J rem) s' ∧ Fut B₀ cs₀ s₀ B' (cs' ++ J rem) s' ∧ B.le B') (fun m s' hI' => ?_) xs.length
    ⟨B, cs₁, xs, rfl, i0, S₁, F₁, .refl _⟩
  obtain ⟨B', cs', rem, hm, inv, S', F', hle⟩ := hI'
  cases rem with
  | nil => exact W.stop B' s' cs' S' (hdep _ _ _ hle inv) _ _ fun s₁ S₂ F₂ => wpAny_execs_nil ⟨B', cs', .next, S₂, F'.trans F₂, .next, hend _ inv⟩
  | cons u rem =>
    refine wpAny_mono (W.next B' s' u rem cs' S' (hdep _ _ _ hle inv) (fun v s₂ => wpAny (model M.prog M.w) A (assign target env v) (fun _ s₃ => wpAny (model M.prog M.w) A (execs body env) (fun f s₄ => match f with
            | .next | .cont => ∃ m', m' < m ∧ ∃ B' cs' rem, rem.length = m' ∧ Inv rem cs' ∧ St M.C M.S A B' (cs' ++ J rem) s₄ ∧ Fut B₀ cs₀ s₀ B' (cs' ++ J rem) s₄ ∧ B.le B'
            | .brk => Po M.C M.S (RF M.C) A B₀ cs₀ s₀ PF .next s₄
            | .ret v => Po M.C M.S (RF M.C) A B₀ cs₀ s₀ PF (.ret v) s₄) (notedBy (model M.prog M.w) A env fun e s' => False) s₃) (notedBy (model M.prog M.w) A env fun e s' => False) s₂) _ (fun v B₁ s₁ S₃ F₃ rb => ?_)) (fun r s₁ ⟨v, hv, hw⟩ => by subst hv; exact hw) fun _ _ x => x
    have tr := ((hturn u rem cs' inv).it v).frame (all := cs' ++ J rem) (fr := J rem) (.refl _)
    refine wpAny_mono (tr B₁ s₁ S₃ rb) (fun _ s₄ ⟨B₄, cs₄, _, S₄, F₄, _, c₄, hc₄, hbody⟩ => ?_) fun _ _ x => x.mono (fun _ _ ⟨_, _, q⟩ => q) |>.none.elim
    subst hc₄
    have tr2 := hbody.it.frame (all := c₄ ++ J rem) (fr := J rem) (.refl _)
    refine wpAny_mono (tr2 B₄ s₄ S₄ trivial) (fun f s₅ ⟨B₅, cs₅, fl, S₅, F₅, R₅, c₅, hc₅, hpost⟩ => ?_) fun _ _ x => x.mono (fun _ _ ⟨_, _, q⟩ => q) |>.none.elim
    subst hc₅
    have Fall := (F'.trans F₃).trans (F₄.trans F₅)
    have hle' : B.le B₅ := hle.trans (F₃.mono.trans (F₄.mono.trans F₅.mono))
    have S₆ : St M.C M.S A B₅ c₅ s₅ := S₅.sub (fun p hp => List.mem_append_left _ hp) (by have := S₅.nd; rw [Cells.ad, List.map_append, List.nodup_append] at this; exact this.1)
    have F₆ : Fut B₀ cs₀ s₀ B₅ c₅ s₅ := ⟨Fall.mono, Fall.pres, Fall.newB, fun a ha => Fall.newC a (by rw [Cells.ad, List.map_append]; exact List.mem_append_left _ ha), Fall.there, Fall.os, Fall.gens, Fall.gsz⟩
    cases R₅ with
    | next =>
      obtain ⟨c', hv, hpost⟩ := hpost
      obtain ⟨B₆, S₇, F₇⟩ := (hv.frame (J rem)) A B₅ s₅ S₅
      exact ⟨rem.length, by simp at hm; omega, B₆, c', rem, rfl, hpost, S₇, Fall.trans F₇, hle'.trans F₇.mono⟩
    | cont =>
      obtain ⟨c', hv, hpost⟩ := hpost
      obtain ⟨B₆, S₇, F₇⟩ := (hv.frame (J rem)) A B₅ s₅ S₅
      exact ⟨rem.length, by simp at hm; omega, B₆, c', rem, rfl, hpost, S₇, Fall.trans F₇, hle'.trans F₇.mono⟩
    | brk => exact ⟨B₅, c₅, .next, S₆, F₆, .next, hpost⟩
    | ret r => exact ⟨B₅, c₅, _, S₆, F₆, .ret r, hpost⟩

/-- for target in a list: body; nothing is raised within -/
theorem ex_for {target iter : Expr} {body : List Stmt} {pos : Pos} (TO : TagsOk M) (hd : A.handled = none) (Inv : List V → Cells → Prop)
    (h : EV M A env iter cs (fun x cs₁ => ∃ xs, Inv xs cs₁ ∧ (∀ rem cs', Inv rem cs' → Src cs' x xs ∧ ∃ pre, xs = pre ++ rem) ∧
      (∀ u rem cs', Inv (u :: rem) cs' → AS M A env target u cs' (fun cs'' => EXs M A env body cs'' (fun fl c => match fl with | .next | .cont => ∃ c', View M c c' ∧ Inv rem c' | .brk => PF .next c | .ret r => PF (.ret r) c) NoX) NoX) ∧
      (∀ cs', Inv [] cs' → PF .next cs')) X)
    (hs : ∀ x, foldedSetIterable iter env x = pure x := by intro _; rfl) :
    EX M A env (.For target iter body [] pos) cs PF X := ⟨fun B s hst hp => by
  refine wpAny_For (wpAny_mono (h.it B s hst trivial) (fun x₀ s₁ ⟨B₁, cs₁, x, S₁, F₁, R₁, xs, i0, hsrc, hturn, hend⟩ => ?_) fun _ _ x => x) hs
  obtain ⟨l, k, d, vs, n, rfl, e, rs⟩ := src_obj S₁ (hsrc _ _ i0).1 R₁
  refine iter_seq TO S₁.keepS e ?_
  have hit0 := Heap.get?_push_size s₁.heap (o := { cls := .type "list_iterator", data := .fields #[.ref l, .int (0 : Nat) 0] }) rfl
  obtain ⟨hn, S₂, F₂⟩ := S₁.alloc (o := { cls := .type "list_iterator", data := .fields #[.ref l, .int (0 : Nat) 0] }) (m := .iter l 0) rfl hit0 trivial s₁.toks
  have pm : (ins (s₁.heap.objs.size, MO.iter l 0) cs₁).Perm (cs₁ ++ [(s₁.heap.objs.size, MO.iter l 0)]) := (ins_perm _ _).trans (List.perm_append_singleton _ _).symm
  generalize hI : s₁.heap.objs.size = I at *
  have S₂' := S₂.perm pm
  have F₂' : Fut B cs s B₁ (cs₁ ++ [(I, MO.iter l 0)]) { s₁ with heap := s₁.heap.push { cls := .type "list_iterator", data := .fields #[.ref l, .int (0 : Nat) 0] } } :=
    F₁.trans (F₂.perm (fun _ => Iff.rfl) fun a ha => ((pm.map Prod.fst).mem_iff.mpr ha))
  have e0 : xs.length - xs.length = 0 := Nat.sub_self _
  have core := for_core (walk_list (M := M) (A := A) (target := target) (l := l) (I := I) (x := x) (xs := xs) hd) (env := env) (body := body) (PF := PF) (B := B₁) (B₀ := B) (s₀ := s) (cs₀ := cs) Inv
    (fun B' rem cs' hle hi => ⟨(hsrc _ _ hi).1, R₁.mono hle, (hsrc _ _ hi).2⟩) hturn hend i0 (by rw [e0]; exact S₂') (by rw [e0]; exact F₂')
  exact codeAny_mono core (fun r s' hr => by cases r with | ok f => exact hr | error e => exact hr.elim)⟩

theorem rangeEnd {prog : Program} {w : World} {E : Value → Shared → Prop} {s : Shared} {it : Addr} {x left step : Int} {Q : Option Value → Shared → Prop} (hh : A.handled = none) (hit : IsRangeIter s.heap it x left step) (hleft : left ≤ 0)
    (hQ : ∀ h', (∀ b o, s.heap.get? b = some o → h'.get? b = some o) → Q none { s with heap := h' }) : wpAny (model prog w) A (pyNext (.ref it)) Q E s := by
  have hT : s.TypeIs (.ref it) "range_iterator" := ⟨_, hit, rfl⟩
  unfold pyNext
  refine wpAny_bind (wpAny_attempt (wpAny_callSpecial?_slot (name := Str.ofString "__next__") hT F.slot_range_iterator_next
    (wpAny_call_entry F.slot_range_iterator_next hT F.entry_range_iterator_next ?_ (F.args_range_iterator_next_1 _))))
  show wpAny _ _ (field (.ref it) 0 >>= _) _ _ s
  refine wpAny_bind (wpAny_field hit rfl (x := rawInt x) rfl ?_)
  show wpAny _ _ (field (.ref it) 1 >>= _) _ _ s
  refine wpAny_bind (wpAny_field hit rfl (x := rawInt left) rfl ?_)
  show wpAny _ _ (field (.ref it) 2 >>= _) _ _ s
  refine wpAny_bind (wpAny_field hit rfl (x := rawInt step) rfl ?_)
  show wpAny _ _ (if left ≤ 0 then _ else _) _ _ s
  rw [if_pos hleft]
  refine wpAny_bind (wpAny_rule ?_)
  refine wpAny_bind ?_
  show wpAny _ _ (newExc (.type "StopIteration") [] >>= _) _ _ _
  refine wpAny_bind ?_
  simp only [newExc, newTuple]
  refine wpAny_bind (wpAny_newObj_type ?_ (by size_fits))
  refine wpAny_bind (m := firstArgMember _ _) (wpAny_of_eq (a := Value.none) (by first | rfl | (simp only [firstArgMember]; rfl)) ?_)
  refine wpAny_newObj_type ?_ (by size_fits)
  simp only [raiseNew]
  refine wpAny_bind (wpAny_handled ?_)
  first | rw [show A.in1.handled = none from hh] | rw [hh]
  refine wpAny_bind (wpAny_pure (wpAny_throw ?_))
  refine wpAny_bind (wpAny_isInstance (T := "StopIteration") (b := true) ⟨_, Heap.get?_push_size _ rfl, rfl⟩ isSubtype_stop ?_)
  exact wpAny_pure (hQ _ fun b o e => Heap.get?_push_of_some _ (Heap.get?_push_of_some _ e))

abbrev rangeIt (i left : Nat) : Obj := { cls := .type "range_iterator", data := .fields #[rawInt (i : Int), rawInt (left : Int), rawInt 1] }
abbrev rangeOb (n : Nat) (t u v : Tok) : Obj := { cls := .type "range", data := .fields #[.int 0 t, .int (n : Int) u, .int 1 v] }
theorem isD_no_fields {c : Value} {d : Option Addr} {xs : Array Value} {sl : Array (Option Value)} : ¬ IsD ⟨c, d, .fields xs, sl⟩ := fun ⟨_, _, q⟩ => nomatch q
/-- what a range gives -/
def upto (i : Nat) : Nat → List V
  | 0 => []
  | n + 1 => .int (i : Int) :: upto (i + 1) n
theorem upto_length : ∀ (n i : Nat), (upto i n).length = n
  | 0, _ => rfl
  | n + 1, i => by simp [upto, upto_length n]
theorem walk_range {target : PySem.Expr} {I : Addr} {N : Nat} (hd : A.handled = none) :
    Walk M A target (.ref I) (fun rem => [(I, .obj (rangeIt (N - rem.length) rem.length))]) (fun B rem cs' => rem = upto (N - rem.length) rem.length ∧ rem.length ≤ N) where
  next B s u rem cs' S' hD Q E hQ := by
    obtain ⟨hr, hl⟩ := hD
    have hit : s.heap.get? I = some (rangeIt (N - (u :: rem).length) (u :: rem).length) := S'.own (I, .obj _) (List.mem_append_right _ (.head _))
    have hu : u = .int ((N - (u :: rem).length : Nat) : Int) := by
      have := hr
      rw [List.length_cons, upto] at this
      exact (List.cons.inj this).1
    refine wpAny_pyNext_range_item hit (by simp) (fun h' hit' hsb => ⟨_, rfl, ?_⟩)
    have hit'' : h'.get? I = some (rangeIt (N - rem.length) rem.length) := by
      rw [hit']
      have e1 : ((N - (u :: rem).length : Nat) : Int) + 1 = ((N - rem.length : Nat) : Int) := by simp at hl ⊢; omega
      have e2 : (((u :: rem).length : Nat) : Int) - 1 = (rem.length : Int) := by simp
      rw [e1, e2]
    obtain ⟨S₃, F₃⟩ := S'.turn (o := .obj (rangeIt (N - (u :: rem).length) (u :: rem).length)) (o' := .obj (rangeIt (N - rem.length) rem.length)) (upd_last cs') hsb hit'' isD_no_fields
      (fun ob q => ⟨_, hit'', fun hdd => by rw [hit] at q; cases q; exact (isD_no_fields hdd).elim⟩) (s.toks + 1)
    refine owned_not (ob := default) hit'' (fun n hn => by cases hn; decide) ?_
    exact hQ _ B _ S₃ F₃ (by rw [hu]; exact .int _ _)
  stop B s cs' S' hD Q E hQ := by
    have hit : s.heap.get? I = some (rangeIt (N - ([] : List V).length) ([] : List V).length) := S'.own (I, .obj _) (List.mem_append_right _ (.head _))
    refine rangeEnd hd hit (by simp) (fun h' hk => ?_)
    obtain ⟨S₁, F₁⟩ := S'.grow hk s.toks
    exact hQ _ S₁.left (F₁.perm (fun _ => Iff.rfl) fun a ha => by rw [Cells.ad, List.map_append]; exact List.mem_append_left _ ha)

theorem tr_range {n : Nat} (h : ∀ r t u v, r ∉ cs.ad → PV (.ref r) (ins (r, .obj (rangeOb n t u v)) cs)) : CL M A (.type "range") [.int (n : Int)] cs PV X := ⟨fun vs B s hs r => by
  cases r with | cons r rs
  cases rs with | nil
  cases r with | int _ t
  refine call_range_1 ?_
  obtain ⟨hn, S₂, F₂⟩ := hs.alloc (o := rangeOb n s.toks t (s.toks + 1)) (m := .obj (rangeOb n s.toks t (s.toks + 1))) rfl (Heap.get?_push_size _ rfl) isD_no_fields (s.toks + 1 + 1)
  exact ⟨B, _, _, S₂, F₂, .ref _, h _ _ _ _ hn⟩⟩

/-- for target in range(..): body -/
theorem ex_for_range {target iter : PySem.Expr} {body : List Stmt} {pos : Pos} (hd : A.handled = none) (Inv : List V → Cells → Prop)
    (h : EV M A env iter cs (fun x cs₁ => ∃ n r t u v c₁, x = .ref r ∧ n < 1000 ∧ cs₁.Perm ((r, .obj (rangeOb n t u v)) :: c₁) ∧ Inv (upto 0 n) c₁ ∧
      (∀ i rem cs', Inv (.int i :: rem) cs' → AS M A env target (.int i) cs' (fun cs'' => EXs M A env body cs'' (fun fl c => match fl with | .next | .cont => ∃ c', View M c c' ∧ Inv rem c' | .brk => PF .next c | .ret r => PF (.ret r) c) NoX) NoX) ∧
      (∀ cs', Inv [] cs' → PF .next cs')) X)
    (hs : ∀ x, foldedSetIterable iter env x = pure x := by intro _; rfl) :
    EX M A env (.For target iter body [] pos) cs PF X := ⟨fun B s hst hp => by
  refine wpAny_For (wpAny_mono (h.it B s hst trivial) (fun x₀ s₁ ⟨B₁, cs₁, x, S₁, F₁, R₁, n, r, t, u, v, c₁, hx, hn, hperm, i0, hturn, hend⟩ => ?_) fun _ _ x => x) hs
  subst hx
  cases R₁ with | ref
  have hr : s₁.heap.get? r = some (rangeOb n t u v) := S₁.own (r, .obj _) (hperm.mem_iff.mpr (.head _))
  have S₁' := (S₁.perm hperm).tail
  have F₁' : Fut B cs s B₁ c₁ s₁ := F₁.perm (fun _ => Iff.rfl) fun a ha => ((hperm.map Prod.fst).mem_iff.mpr (List.mem_cons_of_mem _ ha))
  refine wpAny_pyIter_range hr (small_one (by decide) (by decide) (by omega) (by omega)) ?_
  have hsz : Builtin.Range.rangeSize 0 (n : Int) 1 = (n : Int) := by unfold Builtin.Range.rangeSize; simp <;> omega
  rw [hsz]
  have hit0 := Heap.get?_push_size s₁.heap (o := rangeIt 0 n) rfl
  obtain ⟨hn', S₂, F₂⟩ := S₁'.alloc (o := rangeIt 0 n) (m := .obj (rangeIt 0 n)) rfl hit0 isD_no_fields s₁.toks
  have pm : (ins (s₁.heap.objs.size, MO.obj (rangeIt 0 n)) c₁).Perm (c₁ ++ [(s₁.heap.objs.size, MO.obj (rangeIt 0 n))]) := (ins_perm _ _).trans (List.perm_append_singleton _ _).symm
  generalize hI : s₁.heap.objs.size = I at *
  have S₂' := S₂.perm pm
  have F₂' : Fut B cs s B₁ (c₁ ++ [(I, MO.obj (rangeIt 0 n))]) { s₁ with heap := s₁.heap.push (rangeIt 0 n) } :=
    F₁'.trans (F₂.perm (fun _ => Iff.rfl) fun a ha => ((pm.map Prod.fst).mem_iff.mpr ha))
  have e0 : (upto 0 n).length = n := upto_length n 0
  have core := for_core (walk_range (M := M) (A := A) (target := target) (I := I) (N := n) hd) (env := env) (body := body) (PF := PF) (B := B₁) (B₀ := B) (s₀ := s) (cs₀ := cs) (xs := upto 0 n) (cs₁ := c₁)
    (fun rem c => (rem = upto (n - rem.length) rem.length ∧ rem.length ≤ n) ∧ Inv rem c)
    (fun B' rem cs' hle hi => hi.1) (fun u rem cs' hi => ?_) (fun cs' hi => hend _ hi.2) ⟨⟨by rw [e0, Nat.sub_self], by rw [e0]; exact Nat.le_refl _⟩, i0⟩ (by rw [e0, Nat.sub_self]; exact S₂') (by rw [e0, Nat.sub_self]; exact F₂')
  · exact codeAny_mono core (fun r s' hr => by cases r with | ok f => exact hr | error e => exact hr.elim)
  · obtain ⟨⟨hr, hl⟩, hi⟩ := hi
    rw [List.length_cons, upto] at hr
    obtain ⟨h1, h2⟩ := List.cons.inj hr
    have h3 : rem = upto (n - rem.length) rem.length := by
      have e : n - (rem.length + 1) + 1 = n - rem.length := by simp at hl; omega
      rw [e] at h2; exact h2
    subst h1
    refine ⟨fun v => Tr.mono ((hturn _ rem cs' hi).it v) (fun _ c h => ⟨Tr.mono h.it (fun fl c' h' => ?_) fun _ _ x => x⟩) fun _ _ x => x⟩
    cases fl with
    | next => obtain ⟨c'', a, b⟩ := h'; exact ⟨c'', a, ⟨h3, by simp at hl; omega⟩, b⟩
    | cont => obtain ⟨c'', a, b⟩ := h'; exact ⟨c'', a, ⟨h3, by simp at hl; omega⟩, b⟩
    | brk => exact h'
    | ret r => exact h'⟩
end
end Mine

end
section
open PySem PySem.W PySem.W.X PyProof.Rows
set_option Elab.async false
set_option maxRecDepth 100000
set_option linter.unusedVariables false
namespace Mine

-- data
mutual
def vd : V → PyData
  | .bool b => .bool b
  | .int i => .int i
  | .str s => .str s
  | .tup l => .tuple (vds l)
  | .lst _ l => .list (vds l)
  | _ => .none
def vds : List V → List PyData
  | [] => []
  | x :: l => vd x :: vds l
end
mutual
def isD : V → Bool
  | .none => true
  | .bool _ => true
  | .int _ => true
  | .str _ => true
  | .tup l => isDs l
  | .lst .list l => isDs l
  | _ => false
def isDs : List V → Bool
  | [] => true
  | x :: l => isD x && isDs l
end
mutual
theorem reads_of {C : Cls} {B : FH} {h : Heap} (hk : ∀ a o, B a = some o → h.get? a = some o) : ∀ {v : Value} {x : V}, RV C B v x → isD x = true → ∃ as, Reads h v (vd x) as
  | _, _, .none, _ => ⟨_, .none⟩
  | _, _, .bool b, _ => ⟨_, .bool b⟩
  | _, _, .int i t, _ => ⟨_, .int i t⟩
  | _, _, .str s t, _ => ⟨_, .str s t⟩
  | _, _, .ty n, e => by simp [isD] at e
  | _, _, .bi n, e => by simp [isD] at e
  | _, _, .ref a, e => by simp [isD] at e
  | _, _, .tag _ _ _ _, e => by simp [isD] at e
  | _, _, .tup e r, q => by
    rw [isD] at q
    obtain ⟨as, h'⟩ := readsAll_of hk r q
    rw [vd]
    exact ⟨as, .tuple (hk _ _ e) rfl rfl (by simpa using h')⟩
  | _, _, @RV.lst _ _ k _ _ _ _ _ e q' r, q => by
    cases k with
    | tags => simp [isD] at q
    | list =>
      rw [isD] at q
      obtain ⟨as, h'⟩ := readsAll_of hk r q
      rw [vd]
      exact ⟨_, .list (hk _ _ e) rfl rfl (by simpa using h')⟩
theorem readsAll_of {C : Cls} {B : FH} {h : Heap} (hk : ∀ a o, B a = some o → h.get? a = some o) : ∀ {v : List Value} {x : List V}, RVs C B v x → isDs x = true → ∃ as, ReadsAll h v (vds x) as
  | _, _, .nil, _ => ⟨_, .nil⟩
  | _, _, .cons r rs, q => by
    rw [isDs, Bool.and_eq_true] at q
    obtain ⟨as, h1⟩ := reads_of hk r q.1
    obtain ⟨bs, h2⟩ := readsAll_of hk rs q.2
    rw [vds]
    exact ⟨_, .cons h1 h2⟩
end
/-- a value that reads as data, frozen or an owned list -/
inductive RdV (cs : Cells) : V → PyData → Prop
  | fz {x : V} : isD x = true → RdV cs x (vd x)
  | own {a : Addr} {xs : List V} : (a, MO.lst .list xs) ∈ cs → isDs xs = true → RdV cs (.ref a) (.list (vds xs))
theorem RdV.reads {M : Md} {A : Around} {B : FH} {cs : Cells} {s : Shared} (hs : St M.C M.S A B cs s) {v : Value} {x : V} {d : PyData} (h : RdV cs x d) (r : RV M.C B v x) : ∃ as, Reads s.heap v d as := by
  cases h with
  | fz q => exact reads_of hs.keep r q
  | own hm q =>
    cases r
    obtain ⟨dd, vs, n, e, _, rs⟩ := hs.own _ hm
    obtain ⟨as, h'⟩ := readsAll_of hs.keep rs q
    exact ⟨_, .list e rfl rfl (by simpa using h')⟩

section
variable {M : Md} {A : Around} {cs : Cells} {X : Value → Cells → Prop} {env : Env} {PV : V → Cells → Prop} {PF : Fl → Cells → Prop} {PB : Bool → Cells → Prop}

theorem op_eq_data {x y : V} {d e : PyData} (hx : RdV cs x d) (hy : RdV cs y e) (sx : SeqAt.shaped d = true) (sy : SeqAt.shaped e = true) (hu : A.units ≤ 1900) (h : PV (.bool (PyData.eqv d e)) cs) : OC M A .Eq x y cs PV X := ⟨fun a b B s hs ⟨r, r'⟩ => by
  obtain ⟨as, ra⟩ := hx.reads hs r
  obtain ⟨bs, rb⟩ := hy.reads hs r'
  exact eq_dataH ra rb sx sy (by show A.units + 64 < 9900; omega) (.now hs (.bool _) h)⟩
theorem op_ne_data {x y : V} {d e : PyData} (hx : RdV cs x d) (hy : RdV cs y e) (sx : SeqAt.shaped d = true) (sy : SeqAt.shaped e = true) (hu : A.units ≤ 1900) (h : PV (.bool (!PyData.eqv d e)) cs) : OC M A .NotEq x y cs PV X := ⟨fun a b B s hs ⟨r, r'⟩ => by
  obtain ⟨as, ra⟩ := hx.reads hs r
  obtain ⟨bs, rb⟩ := hy.reads hs r'
  exact ne_dataH ra rb sx sy (by show A.units + 64 < 9900; omega) (.now hs (.bool _) h)⟩
theorem op_in_data {x y : V} {d : PyData} {es : List PyData} (hx : RdV cs x d) (hy : RdV cs y (.list es)) (sx : SeqAt.shaped d = true) (sy : SeqAt.shaped (.list es) = true) (hu : A.units ≤ 1900) (h : PV (.bool (es.any fun y => PyData.eqv y d)) cs) : OC M A .In x y cs PV X := ⟨fun a b B s hs ⟨r, r'⟩ => by
  obtain ⟨as, ra⟩ := hx.reads hs r
  obtain ⟨bs, rb⟩ := hy.reads hs r'
  have h1 := SeqAt.canLay_of_shaped sy
  rw [PyData.canLay0] at h1
  have h2 := SeqAt.depth_of_shaped sx
  exact SeqAt.in_list_reads rb ra h1 (SeqAt.canLay_of_shaped sx) (by show A.units + 1 + _ < 9900; omega) (.now hs (.bool _) h)⟩
theorem op_in_tup {x : V} {d : PyData} {xs : List V} (hx : RdV cs x d) (hy : isDs xs = true) (sx : SeqAt.shaped d = true) (sy : SeqAt.shaped (.list (vds xs)) = true) (hu : A.units ≤ 1900) (h : PV (.bool ((vds xs).any fun y => PyData.eqv y d)) cs) : OC M A .In x (.tup xs) cs PV X := ⟨fun a b B s hs ⟨r, r'⟩ => by
  obtain ⟨as, ra⟩ := hx.reads hs r
  obtain ⟨bs, rb⟩ := reads_of hs.keep r' (by rw [isD]; exact hy)
  rw [vd] at rb
  have h1 := SeqAt.canLay_of_shaped sy
  rw [PyData.canLay0] at h1
  have h2 := SeqAt.depth_of_shaped sx
  exact SeqAt.in_tuple_reads rb ra h1 (SeqAt.canLay_of_shaped sx) (by show A.units + 1 + _ < 9900; omega) (.now hs (.bool _) h)⟩
/-- told apart from none -/
def isNone : V → Bool
  | .none => true
  | _ => false
theorem rv_none {B : FH} {v : Value} {x : V} (r : RV M.C B v x) : (v == Value.none) = isNone x ∧ plainIs v .none = (match x with | .bi _ => false | _ => true) := by cases r <;> exact ⟨rfl, rfl⟩
theorem op_is_none {x : V} (hb : ∀ n, x ≠ .bi n) (h : PV (.bool (isNone x)) cs) : OC M A .Is x .none cs PV X := ⟨fun a b B s hs ⟨r, r'⟩ => by
  cases r'
  obtain ⟨e1, e2⟩ := rv_none r
  refine wpAny_is_plain ?_ (by rw [e1]; exact .now hs (.bool _) h)
  rw [e2]; cases x <;> first | rfl | exact absurd rfl (hb _)⟩
theorem op_isnot_none {x : V} (hb : ∀ n, x ≠ .bi n) (h : PV (.bool (!isNone x)) cs) : OC M A .IsNot x .none cs PV X := ⟨fun a b B s hs ⟨r, r'⟩ => by
  cases r'
  obtain ⟨e1, e2⟩ := rv_none r
  refine wpAny_isNot_plain ?_ (by rw [e1]; exact .now hs (.bool _) h)
  rw [e2]; cases x <;> first | rfl | exact absurd rfl (hb _)⟩

-- sums
theorem op_add_list {x y : V} {xs ys : List V} (hx : x = .lst .list xs ∨ ∃ a, x = .ref a ∧ (a, MO.lst .list xs) ∈ cs) (hy : y = .lst .list ys ∨ ∃ a, y = .ref a ∧ (a, MO.lst .list ys) ∈ cs) (hl : xs.length + ys.length ≤ 10000)
    (h : ∀ a, a ∉ cs.ad → PV (.ref a) (ins (a, .lst .list (xs ++ ys)) cs)) : OB M A .Add x y cs PV X := ⟨fun a b B s hs ⟨r, r'⟩ => by
  have key : ∀ {x : V} {xs : List V} {v : Value}, (x = .lst .list xs ∨ ∃ a, x = .ref a ∧ (a, MO.lst .list xs) ∈ cs) → RV M.C B v x → ∃ l vs n d, v = .ref l ∧ s.heap.get? l = some ⟨.type "list", d, .seq vs.toArray n, #[]⟩ ∧ RVs M.C B vs xs := by
    rintro x xs v (rfl | ⟨a, rfl, hm⟩) r
    · cases r with | @lst _ a d vs n _ e hd rs => exact ⟨a, vs, n, d, rfl, hs.keep _ _ e, rs⟩
    · cases r with | ref
      obtain ⟨d, vs, n, e, _, rs⟩ := hs.own _ hm
      exact ⟨a, vs, n, d, rfl, e, rs⟩
  obtain ⟨l, vs, n, d, rfl, e, rs⟩ := key hx r
  obtain ⟨l', vs', n', d', rfl, e', rs'⟩ := key hy r'
  have h1 := rs.length
  have h2 := rs'.length
  have hsz : vs.toArray.size + vs'.toArray.size ≤ sizeLine := by rw [List.size_toArray, List.size_toArray, h1, h2]; exact Nat.le_trans hl (by decide)
  refine concat_meets ⟨_, e, rfl⟩ ⟨_, e', rfl⟩ noFill_list_add seq_list_add PySem.F.slot_list_add PySem.F.entry_list_add (PySem.F.args_list_add_2 _ _) (list_addW l l' vs.toArray vs'.toArray n n' d d' #[] #[] hsz) ⟨e, e', ?_⟩
  rw [show vs.toArray ++ vs'.toArray = (vs ++ vs').toArray by simp]
  obtain ⟨hn, S₂, F₂⟩ := hs.alloc (o := { cls := .type "list", data := .seq (vs ++ vs').toArray }) (m := .lst .list (xs ++ ys)) rfl ⟨none, vs ++ vs', 0, Heap.get?_push_size _ rfl, rfl, rs.append rs'⟩ trivial s.toks
  exact ⟨B, _, _, S₂, F₂, .ref _, h _ hn⟩⟩
theorem op_add_str {x y : Str} (hl : x.length + y.length ≤ 10000) (h : PV (.str (x ++ y)) cs) : OB M A .Add (.str x) (.str y) cs PV X := ⟨fun a b B s hs ⟨r, r'⟩ => by
  cases r; cases r'
  exact PyProof.Rows.add_str (fun t' tk => .tok hs (.str _ _) h) (Nat.le_trans hl (by decide))⟩
end
end Mine

end
section
open PySem PySem.W PySem.W.X PyProof.Rows
set_option Elab.async false
set_option maxRecDepth 100000
set_option linter.unusedVariables false
namespace Mine
section
variable {M : Md} {A : Around} {cs : Cells} {X : Value → Cells → Prop} {env : Env} {PV : V → Cells → Prop} {PF : Fl → Cells → Prop} {PB : Bool → Cells → Prop} {E : Value → Shared → Prop} {s : Shared} {Q : Value → Shared → Prop}

/-- what list.__getitem__ does -/
theorem list_item_body {A : Around} {prog : Program} {w : World} {l : Addr} {ol : Obj} {items : Array Value} {nl : Nat} {k : Int} {t : Tok} {j : Nat} {x : Value} (hol : s.heap.get? l = some ol) (hd : ol.data = .seq items nl) (hlo : -(2 ^ 62) ≤ k) (hhi : k < 2 ^ 62) (hj : seqIndex? k items.size = some j) (hx : items[j]? = some x) (h : Q x s) :
    wpAny (model prog w) A (Builtin.«list.__getitem__» ⟨[.ref l, .int k t], []⟩) (fun fin s' => ∃ v, fin = .done (.ret v) ∧ Q v s') E s := by
  show wpAny _ _ (Builtin.List.listSubscript? (.int k t) >>= _) _ _ s
  by_cases h0 : 0 ≤ k
  · refine wpAny_bind (wpAny_listSubscript_int (fitsIndex_of h0 (by omega)) ?_)
    obtain ⟨i, rfl⟩ := Int.eq_ofNat_of_zero_le h0
    have hi : i = j := by
      unfold seqIndex? at hj
      split at hj <;> first | (split at hj <;> first | (cases hj; simp_all) | cases hj) | (cases hj; simp_all) | skip
      all_goals (simp_all <;> omega)
    subst hi
    show wpAny _ _ ((seqItemAt l i >>= fun r => pure (r.map (i, ·))) >>= _) _ _ s
    refine wpAny_bind (wpAny_bind (wpAny_seqItemAt hol hd (wpAny_pure ?_)))
    rw [hx]
    first
      | exact wpAny_bind (wpAny_pure (wpAny_pure ⟨x, rfl, h⟩))
      | exact wpAny_pure ⟨x, rfl, h⟩
  · refine wpAny_bind (wpAny_listSubscript_int (fitsIndex_neg (by omega) (by omega)) ?_)
    obtain ⟨i, rfl⟩ : ∃ j : Nat, k = Int.negSucc j := by
      cases k with
      | ofNat n => exact absurd (Int.natCast_nonneg n) h0
      | negSucc n => exact ⟨n, rfl⟩
    show wpAny _ _ ((Builtin.List.listItems (.ref l) >>= fun xs => pure ((seqIndex? (Int.negSucc i) xs.size).bind fun i => xs[i]?.map (i, ·))) >>= _) _ _ s
    refine wpAny_bind (wpAny_bind ?_)
    show wpAny _ _ (seqItems? (.ref l) >>= _) _ _ s
    refine wpAny_bind (wpAny_seqItems hol hd (wpAny_pure (wpAny_pure ?_)))
    rw [hj]
    simp only [Option.bind_some, hx, Option.map_some]
    first
      | exact wpAny_bind (wpAny_pure (wpAny_pure ⟨x, rfl, h⟩))
      | exact wpAny_pure ⟨x, rfl, h⟩
theorem list_slice_body {A : Around} {prog : Program} {w : World} {l sl : Addr} {ol : Obj} {items : Array Value} {nl : Nat} {vl vu vs : Value} {lo hi st : Option Int} (hol : s.heap.get? l = some ol) (hd : ol.data = .seq items nl)
    (hs : s.heap.IsSliceOf sl vl vu vs) (pl : IsPart vl lo) (pu : IsPart vu hi) (ps : IsPart vs st) (h0 : st ≠ some 0)
    (h : Q (.ref s.heap.objs.size) { s with heap := s.heap.push { cls := .type "list", data := .seq (slicePick items lo hi st) } }) (hsz : items.size ≤ sizeLine) :
    wpAny (model prog w) A (Builtin.«list.__getitem__» ⟨[.ref l, .ref sl], []⟩) (fun fin s' => ∃ v, fin = .done (.ret v) ∧ Q v s') E s := by
  obtain ⟨os, hos, hcs, hds⟩ := id hs
  have hTs : s.TypeIs (.ref sl) "slice" := ⟨os, hos, hcs⟩
  show wpAny _ _ (Builtin.List.listSubscript? (.ref sl) >>= _) _ _ s
  refine wpAny_bind ?_
  unfold Builtin.List.listSubscript?
  refine wpAny_bind (wpAny_specialOf hTs slice_no_index ?_)
  simp only [Option.isNone_none, if_true]
  refine wpAny_pure ?_
  show wpAny _ _ (typeOf (.ref sl) >>= _) _ _ s
  refine wpAny_bind (wpAny_typeOf hTs ?_)
  rw [if_neg (by decide)]
  rw [listSliceParts_eq]
  have hstep : ¬ ((rawPart st == rawInt 0) = true) := by
    cases st with
    | none => exact Bool.false_ne_true
    | some c =>
      intro hh
      have : c = 0 := by simpa [rawPart, rawInt] using hh
      exact h0 (by rw [this])
  refine wpAny_bind (wpAny_bind (wpAny_field hos hds (x := vs) rfl (wpAny_bind (wpAny_listPart ps ?_))))
  rw [if_neg hstep]
  refine wpAny_bind (wpAny_field hos hds (x := vl) rfl (wpAny_bind (wpAny_listPart pl ?_)))
  refine wpAny_bind (wpAny_field hos hds (x := vu) rfl (wpAny_bind (wpAny_listPart pu (wpAny_pure ?_))))
  refine wpAny_bind (m := Builtin.List.listItems (.ref l)) ?_
  unfold Builtin.List.listItems
  refine wpAny_bind (wpAny_seqItems hol hd (wpAny_pure ?_))
  refine wpAny_bind (wpAny_of_eq (sliceIndices_raw lo hi st items.size h0) ?_)
  exact wpAny_bind (wpAny_newObj_type (wpAny_pure ⟨_, rfl, h⟩) (Nat.le_trans (slicePick_size_le items lo hi st) hsz))

/-- list.__getitem__ reached from o[i] -/
theorem seq_getItem (TO : TagsOk M) (hS : ∀ a o, M.S a = some o → s.heap.get? a = some o) {l : Addr} {k : LK} {d : Option Addr} {vs : Array Value} {n : Nat} {i : Value} (e : s.heap.get? l = some ⟨LK.cls M.C k, d, .seq vs n, #[]⟩)
    (h : wpAny (model M.prog M.w) A.in1 (Builtin.«list.__getitem__» ⟨[.ref l, i], []⟩) (fun fin s' => ∃ v, fin = .done (.ret v) ∧ Q v s') E s) : wpAny (model M.prog M.w) A (getItem (.ref l) i) Q E s := by
  cases k with
  | list =>
    have hT : s.TypeIs (.ref l) "list" := ⟨_, e, rfl⟩
    unfold getItem
    refine wpAny_holding (wpAny_bind (wpAny_sequenceKey hT (by decide) ?_))
    exact wpAny_bind (wpAny_callSpecial?_slot (name := Str.ofString "__getitem__") hT slot_list_getitem
      (wpAny_call_entry slot_list_getitem hT entry_list_getitem (wpAny_mono h (fun fin s' ⟨v, a, b⟩ => ⟨v, a, wpAny_pure b⟩) fun _ _ x => x) (args_list_getitem _ _)))
  | tags =>
    have hT := typeOf_of (prog := M.prog) (w := M.w) e rfl
    unfold getItem sequenceKey
    refine wpAny_holding (wpAny_bind (wpAny_bind (hT.here ?_)))
    dsimp only [LK.cls]
    refine wpAny_bind ((TO.seq s.heap hS).here ?_)
    simp only [Bool.not_false, if_true]
    refine wpAny_pure (wpAny_bind (own_special (TO.item s.heap hS) hT (own_call (b := Builtin.«list.__getitem__») (TO.item s.heap hS) hT (args_list_getitem _ _) entry_list_getitem ?_)))
    exact wpAny_mono h (fun fin s' ⟨v, a, b⟩ => ⟨v, a, wpAny_pure b⟩) fun _ _ x => x
theorem own_getitemInPython (TO : TagsOk M) (hS : ∀ a o, M.S a = some o → s.heap.get? a = some o) {l : Addr} {k : LK} {d : Option Addr} {vs : Array Value} {n : Nat} (e : s.heap.get? l = some ⟨LK.cls M.C k, d, .seq vs n, #[]⟩) {Q : Bool → Shared → Prop} (h : Q false s) :
    wpAny (model M.prog M.w) A (getitemInPython (.ref l)) Q E s := by
  have L : Looks (model M.prog M.w) s.heap (specialOf (.ref l) "__getitem__") (some (.builtin "list.__getitem__")) := by
    cases k with
    | list => exact (typeOf_of e rfl).andThen (Looks.of_pure slot_list_getitem.lookup)
    | tags => exact (typeOf_of e rfl).andThen (TO.item s.heap hS).lookup
  unfold getitemInPython
  exact wpAny_bind (L.here (wpAny_pure h))
/-- the whole tail of o[i] -/
theorem seq_tail (TO : TagsOk M) (hS : ∀ a o, M.S a = some o → s.heap.get? a = some o) {v sl : PySem.Expr} {l : Addr} {k : LK} {d : Option Addr} {vs : Array Value} {n : Nat} {i : Value} {ops : List Value} (e : s.heap.get? l = some ⟨LK.cls M.C k, d, .seq vs n, #[]⟩)
    (hs : subscripted sl false (.ref l) i = operate ops (getItem (.ref l) i))
    (h : wpAny (model M.prog M.w) A.in1 (Builtin.«list.__getitem__» ⟨[.ref l, i], []⟩) (fun fin s' => ∃ v, fin = .done (.ret v) ∧ Q v s') E s) : wpAny (model M.prog M.w) A (subscriptTail v sl (.ref l) i) Q E s := by
  unfold subscriptTail
  refine wpAny_bind (own_getitemInPython TO hS e ?_)
  rw [hs]
  exact wpAny_bind (wpAny_operating (wpAny_mono (seq_getItem TO hS e h) (fun r s₃ h₃ => wpAny_bind (wpAny_letTemporaryGo (wpAny_pure h₃))) fun _ _ x => x))

/-- an item of a list or the text's own list, owned or frozen -/
theorem it_seq (TO : TagsOk M) {v sl : PySem.Expr} {x : V} {xs : List V} {k : Int} {j : Nat} {u : V} (hsrc : Src cs x xs) (hlo : -(2 ^ 62) ≤ k) (hk : k < 2 ^ 62) (hj : seqIndex? k xs.length = some j) (hx : xs[j]? = some u) (h : PV u cs)
    (hsl : ∀ a b, subscripted sl false (.ref a) (.int k b) = operate [.ref a, .int k b] (getItem (.ref a) (.int k b)) := by intro _ _; with_unfolding_all rfl) :
    OS M A v sl x (.int k) cs PV X := ⟨fun p q B s hs ⟨r, r'⟩ => by
  cases r' with | int _ t
  obtain ⟨l, kk, d, vs, n, rfl, e, rs⟩ := src_obj hs hsrc r
  obtain ⟨b, hb, rb⟩ := rs.get hx
  exact seq_tail TO hs.keepS e (hsl _ _) (list_item_body e rfl hlo hk (by rw [List.size_toArray, rs.length]; exact hj) (by simpa using hb) (.now hs rb h))⟩
theorem seqIndex_neg1 {n : Nat} (h : 0 < n) : seqIndex? (-1) n = some (n - 1) := by
  unfold seqIndex?
  have e : ((-1 : Int) + n) = ((n - 1 : Nat) : Int) := by omega
  simp only [show ((-1 : Int) < 0) from by decide, if_true, e]
  first | (simp; omega) | (simp <;> omega)
theorem seqIndex_pos {k : Int} {n : Nat} (h0 : 0 ≤ k) (h : k < n) : seqIndex? k n = some k.toNat := by
  obtain ⟨i, rfl⟩ := Int.eq_ofNat_of_zero_le h0
  unfold seqIndex?
  have e : ¬ ((i : Int) < 0) := by omega
  have : i < n := by omega
  simp [e, this]

-- slices
/-- a part of a slice that may not stand there -/
structure EO (M : Md) (A : Around) (env : Env) (e : Option PySem.Expr) (cs : Cells) (P : Option Int → Cells → Prop) (X : Value → Cells → Prop) : Prop where
  it : Tr M.C M.S M.prog M.w pT (fun _ v k => IsPart v k) A (evalPart e env) cs P X
theorem eo_none {P : Option Int → Cells → Prop} (h : P none cs) : EO M A env none cs P X := ⟨fun B s hs _ => wpAny_pure ⟨B, cs, none, hs, .refl .., .none, h⟩⟩
theorem eo_some {e : PySem.Expr} {P : Option Int → Cells → Prop} (h : EV M A env e cs (fun x c => ∃ i, x = .int i ∧ P (some i) c) X) : EO M A env (some e) cs P X := ⟨fun B s hs hp =>
  wpAny_mono (h.it B s hs trivial) (fun v s₁ ⟨B₁, c₁, x, S₁, F₁, R₁, i, hi, h₁⟩ => by subst hi; cases R₁; exact ⟨B₁, c₁, some i, S₁, F₁, .int _ _, h₁⟩) fun _ _ x => x⟩
abbrev sliceOb (l u : Value) : Obj := { cls := .type "slice", data := .fields #[l, u, .none] }
/-- the tail of o[l:u] -/
structure SL (M : Md) (A : Around) (v sl : PySem.Expr) (x : V) (l u : Option Int) (cs : Cells) (P : V → Cells → Prop) (X : Value → Cells → Prop) : Prop where
  it : ∀ a vl vu B s, St M.C M.S A B cs s → RV M.C B a x → IsPart vl l → IsPart vu u → wpAny (model M.prog M.w) A (subscriptTail v sl a (.ref s.heap.objs.size)) (Po M.C M.S (RV M.C) A B cs s P) (PoX M.C M.S A B cs s X) { s with heap := s.heap.push (sliceOb vl vu) }
theorem ev_subslice {v : PySem.Expr} {lo up : Option PySem.Expr} {p pos : Pos} (h : EV M A env v cs (fun x c₁ => EO M A env lo c₁ (fun l c₂ => EO M A env up c₂ (fun u c₃ => SL M A v (.Slice lo up none p) x l u c₃ PV X) X) X) X) :
    EV M A env (.Subscript v (.Slice lo up none p) pos) cs PV X := ⟨fun B s hs _ =>
  Subscript_ (wpAny_mono (h.it B s hs trivial) (fun a s₁ ⟨B₁, c₁, x, S₁, F₁, R₁, h₁⟩ => wpAny_Slice (wpAny_mono (h₁.it B₁ s₁ S₁ trivial) (fun vl s₂ ⟨B₂, c₂, l, S₂, F₂, R₂, h₂⟩ => wpAny_mono (h₂.it B₂ s₂ S₂ trivial) (fun vu s₃ ⟨B₃, c₃, u, S₃, F₃, R₃, h₃⟩ => by
    rw [evalPart_none]
    refine wpAny_pure ?_
    exact wpAny_mono (h₃.it a vl vu B₃ s₃ S₃ (R₁.mono (F₂.mono.trans F₃.mono)) R₂ R₃) (fun _ _ => Po.step (F₁.trans (F₂.trans F₃))) fun _ _ => PoX.step (F₁.trans (F₂.trans F₃))) fun _ _ => PoX.step (F₁.trans F₂)) fun _ _ => PoX.step F₁)) fun _ _ x => x)⟩
theorem pushed_slice {B : FH} (hs : St M.C M.S A B cs s) (o : Obj) (t : Nat) : St M.C M.S A B cs { s with heap := s.heap.push o, toks := t } ∧ Fut B cs s B cs { s with heap := s.heap.push o, toks := t } :=
  hs.grow (fun b o e => Heap.get?_push_of_some _ e) t
theorem sl_str {v sl : PySem.Expr} {x : Str} {l u : Option Int} (hl : x.length ≤ 10000) (h : PV (.str (Txt.slice x l u)) cs)
    (hsl : ∀ a b, subscripted sl false a b = operate [b, a] (getItem a b) := by intro _ _; rfl) : SL M A v sl (.str x) l u cs PV X := ⟨fun a vl vu B s hs r pl pu => by
  cases r with | str _ t
  have fin : ∀ (l' u' : Option (Int × Tok)), vl = partValue l' → vu = partValue u' → l'.map (·.1) = l → u'.map (·.1) = u → wpAny (model M.prog M.w) A (subscriptTail v sl (.str x t) (.ref s.heap.objs.size)) (Po M.C M.S (RV M.C) A B cs s PV) (PoX M.C M.S A B cs s X) { s with heap := s.heap.push (sliceOb vl vu) } := by
    intro l' u' e1 e2 e3 e4
    refine tail_any (typeIs_str _ x t) F.slot_str_getitem.lookup (wpAny_getItem_str_slice (l := l') (u := u') (st := none) ⟨_, Heap.get?_push_size _ rfl, rfl, by rw [e1, e2]; rfl⟩ rfl ?_) (hsl _ _)
    have key : ∀ t' k, Po M.C M.S (RV M.C) A B cs s PV (.str (Txt.slice x l u) t') { s with heap := s.heap.push (sliceOb vl vu), toks := k } := fun t' k => by
      obtain ⟨S₁, F₁⟩ := pushed_slice hs (sliceOb vl vu) k
      exact ⟨B, cs, _, S₁, F₁, .str _ _, h⟩
    subst e3 e4
    exact post_val_or_str ⟨Nat.le_trans (Txt.slice_le x _ _) (Nat.le_trans hl (by decide)), fun t' k => key t' k⟩
  cases pl <;> cases pu
  · exact fin none none rfl rfl rfl rfl
  · exact fin none (some (_, _)) rfl rfl rfl rfl
  · exact fin (some (_, _)) none rfl rfl rfl rfl
  · exact fin (some (_, _)) (some (_, _)) rfl rfl rfl rfl⟩
/-- a slice of a list of values -/
def pick (xs : List V) (lo hi : Option Int) : List V :=
  (sliceRange (sliceBounds lo hi none xs.length).1 (sliceBounds lo hi none xs.length).2.1 (sliceBounds lo hi none xs.length).2.2).filterMap (xs[·]?)
theorem pick_rel {C : Cls} {B : FH} {vs : List Value} {xs : List V} (r : RVs C B vs xs) (lo hi : Option Int) : RVs C B (slicePick vs.toArray lo hi none).toList (pick xs lo hi) := by
  unfold slicePick pick
  rw [List.size_toArray, r.length]
  generalize sliceRange _ _ _ = l
  induction l with
  | nil => exact .nil
  | cons i l ih =>
    simp only [List.filterMap_cons, List.getElem?_toArray] at ih ⊢
    cases hx : xs[i]? with
    | none =>
      have : vs[i]? = none := by
        rw [List.getElem?_eq_none_iff] at hx ⊢
        rw [r.length]; exact hx
      rw [this]; exact ih
    | some a =>
      obtain ⟨b, hb, rb⟩ := r.get hx
      rw [hb]
      exact .cons rb ih
theorem sl_seq (TO : TagsOk M) {v sl : PySem.Expr} {x : V} {xs : List V} {l u : Option Int} (hsrc : Src cs x xs) (hl : xs.length ≤ 10000) (h : ∀ a, a ∉ cs.ad → PV (.ref a) (ins (a, .lst .list (pick xs l u)) cs))
    (hsl : ∀ a b, subscripted sl false a b = operate [b, a] (getItem a b) := by intro _ _; rfl) : SL M A v sl x l u cs PV X := ⟨fun a vl vu B s hs r pl pu => by
  obtain ⟨l', kk, d, vs, n, rfl, e, rs⟩ := src_obj hs hsrc r
  obtain ⟨S₁, F₁⟩ := pushed_slice hs (sliceOb vl vu) s.toks
  have e' : (s.heap.push (sliceOb vl vu)).get? l' = some ⟨LK.cls M.C kk, d, .seq vs.toArray n, #[]⟩ := Heap.get?_push_of_some _ e
  refine seq_tail TO S₁.keepS e' (hsl _ _) (list_slice_body e' rfl (Heap.IsSliceOf.new ..) pl pu .none (by simp) ?_ (by rw [List.size_toArray, rs.length]; exact Nat.le_trans hl (by decide)))
  obtain ⟨hn, S₂, F₂⟩ := S₁.alloc (o := { cls := .type "list", data := .seq (slicePick vs.toArray l u none) }) (m := .lst .list (pick xs l u)) rfl ⟨none, (slicePick vs.toArray l u none).toList, 0, by rw [show ((slicePick vs.toArray l u none).toList).toArray = slicePick vs.toArray l u none from by simp]; exact Heap.get?_push_size _ rfl, rfl, pick_rel rs l u⟩ trivial s.toks
  exact ⟨B, _, _, S₂, F₁.trans F₂, .ref _, h _ hn⟩⟩
end
end Mine

end
section
open PySem PySem.W PySem.W.X PyProof.Rows
set_option Elab.async false
set_option maxRecDepth 100000
set_option linter.unusedVariables false
namespace Mine

theorem empty_ns {h : Heap} {dd : Addr} {c : Value} {d : Option Addr} {n : Nat} {sl : Array (Option Value)} (e : h.get? dd = some ⟨c, d, .dict #[] n, sl⟩) : h.Ns dd (fun _ => none) :=
  ⟨_, #[], n, e, rfl, fun _ hm => by simp at hm, fun _ => rfl⟩
section
variable {prog : Program} {w : World} {A : Around} {E : Value → Shared → Prop} {s : Shared}
/-- a method found on an own class -/
theorem own_method {a : Addr} {o : Obj} {T : Value} {name : Str} {ga : String} {f tf : Value} {pl : Sem Bool} {Q : Value × List Value → Shared → Prop} (ho : s.heap.get? a = some o) (hc : o.cls = T)
    (hga : Looks (model prog w) s.heap (typeLookup T "__getattribute__") (some (.builtin ga))) (hcan : (Manifest.canonical ga != "object.__getattribute__") = false)
    (hno : Looks (model prog w) s.heap (typeLookup T "__getattr__") none) (hf : Looks (model prog w) s.heap (typeLookup T name) (some f)) (htf : Looks (model prog w) s.heap (typeOf f) tf)
    (hk : tf = .type "function" ∨ tf = .type "method_descriptor") (hd : o.dict = none ∨ ∃ dd, o.dict = some dd ∧ s.heap.Ns dd (fun _ => none)) (h : Q (f, [.ref a]) s) : wpAny (model prog w) A (getMethod (.ref a) name pl) Q E s := by
  have hT := typeOf_of (prog := prog) (w := w) ho hc
  have sp : ∀ {n : Str} {r : Option Value}, Looks (model prog w) s.heap (typeLookup T n) r → Looks (model prog w) s.heap (specialOf (.ref a) n) r := fun x => hT.andThen x
  unfold getMethod
  refine wpAny_bind ((sp hga).here ?_)
  show wpAny _ A (if (Manifest.canonical ga != "object.__getattribute__") = true then _ else _) Q E s
  rw [hcan, if_neg Bool.false_ne_true]
  refine wpAny_bind ((sp hno).here ?_)
  refine wpAny_bind ((sp hf).here ?_)
  refine wpAny_bind (htf.here ?_)
  have hne : (tf != Value.type "function" && tf != Value.type "method_descriptor" && tf != Value.type "wrapper_descriptor") = false := by rcases hk with rfl | rfl <;> rfl
  rw [hne]
  simp only [Bool.false_eq_true, if_false]
  refine wpAny_bind (wpAny_loadPart ho ?_)
  rcases hd with hd | ⟨dd, hd, hn⟩
  · rw [hd]; exact wpAny_bind (wpAny_rule (wpAny_pure h))
  · rw [hd]
    refine wpAny_bind (wpAny_nsGet hn ?_)
    exact wpAny_bind (wpAny_rule (wpAny_pure h))
end

section
variable {M : Md} {A : Around} {cs : Cells} {X : Value → Cells → Prop} {env : Env} {PV : V → Cells → Prop} {PF : Fl → Cells → Prop} {PB : Bool → Cells → Prop}
theorem dk_ns {B : FH} {s : Shared} (hs : St M.C M.S A B cs s) {k : LK} {d : Option Addr} (h : k.dk B d) : d = none ∨ ∃ dd, d = some dd ∧ s.heap.Ns dd (fun _ => none) := by
  cases k with
  | list => exact .inl h
  | tags =>
    obtain ⟨dd, n, e, hb⟩ := h
    exact .inr ⟨dd, e, empty_ns (hs.keep _ _ hb)⟩
theorem src_obj' {B : FH} {s : Shared} (hs : St M.C M.S A B cs s) {x : V} {xs : List V} (h : Src cs x xs) {v : Value} (r : RV M.C B v x) : ∃ l k d vs n, v = .ref l ∧ s.heap.get? l = some ⟨LK.cls M.C k, d, .seq vs.toArray n, #[]⟩ ∧ RVs M.C B vs xs ∧ k.dk B d := by
  cases h with
  | lst k => cases r with | @lst _ a d vs n _ e hd rs => exact ⟨a, k, d, vs, n, rfl, hs.keep _ _ e, rs, hd⟩
  | own a k _ hm =>
    cases r with | ref
    obtain ⟨d, vs, n, e, hd, rs⟩ := hs.own _ hm
    exact ⟨a, k, d, vs, n, rfl, e, rs, hd⟩
/-- a built-in list method of a list or of the text's own list -/
theorem meth_seq (TO : TagsOk M) {x : V} {xs : List V} {name : Str} {id : String} (hsrc : Src cs x xs) (slot : Slot "list" name id) (hty : typeOf (.builtin id) = pure (.type "method_descriptor"))
    (hown : ∀ h : Heap, (∀ a o, M.S a = some o → h.get? a = some o) → Looks (model M.prog M.w) h (typeLookup (.ref M.C.tags) name) (some (.builtin id))) : MethOk M A cs x name (.builtin id) := fun pl B s v hs r Q E hQ => by
  obtain ⟨l, k, d, vs, n, rfl, e, rs, hd⟩ := src_obj' hs hsrc r
  have hd' := dk_ns hs hd
  cases k with
  | list => exact own_method e rfl (Looks.of_pure list_getattribute) canon_list_getattribute (Looks.of_pure list_getattr_none) (Looks.of_pure slot.lookup) (Looks.of_pure hty) (.inr rfl) hd' (hQ s.toks)
  | tags => exact own_method e rfl (TO.ga _ hs.keepS) canon_list_getattribute (TO.noga _ hs.keepS) (hown _ hs.keepS) (Looks.of_pure hty) (.inr rfl) hd' (hQ s.toks)
theorem meth_append (TO : TagsOk M) {x : V} {xs : List V} (hsrc : Src cs x xs) : MethOk M A cs x "append" (.builtin "list.append") :=
  meth_seq TO hsrc slot_list_append type_list_append (fun h hk => (TO.append h hk).lookup)
/-- append to an owned list, of either kind -/
theorem tr_append (TO : TagsOk M) {a : Addr} {k : LK} {xs : List V} {u : V} {cs' : Cells} (U : Upd a (.lst k xs) (.lst k (xs ++ [u])) cs cs') (hlen : xs.length ≤ 10000) (h : PV .none cs') :
    CL M A (.builtin "list.append") [.ref a, u] cs PV X := ⟨fun vs B s hs r => by
  cases r with | cons ra r
  cases ra with | ref
  cases r with | cons rb r
  cases r with | nil
  rename_i y
  obtain ⟨d, ws, n, e, hd, rs⟩ := hs.own _ U.mem
  have hl := rs.length
  have hz : ws.toArray.size ≤ sizeLine := by rw [List.size_toArray, hl]; exact Nat.le_trans hlen (by decide)
  have fin : ∀ h' n', h'.get? a = some ⟨k.cls M.C, d, .seq (ws ++ [y]).toArray n', #[]⟩ → Heap.SameBut a s.heap h' → Po M.C M.S (RV M.C) A B cs s PV .none { s with heap := h' } := fun h' n' e' hsb => by
    obtain ⟨S', F'⟩ := hs.turn U hsb ⟨d, ws ++ [y], n', e', hd, rs.append (.cons rb .nil)⟩ trivial (fun ob q => ⟨_, e', fun hd => by rw [e] at q; cases q; exact (isD_no_seq hd).elim⟩) s.toks
    exact ⟨B, cs', .none, S', F', .none, h⟩
  have body : ∀ A', wpAny (model M.prog M.w) A' (Builtin.«list.append» ⟨[.ref a, y], []⟩) (fun fin s' => ∃ v, fin = .done (.ret v) ∧ Po M.C M.S (RV M.C) A B cs s PV v s') (PoX M.C M.S A B cs s X) s := fun A' => by
    show wpAny _ _ (updateSeq a (·.push y) >>= fun _ => ret .none) _ _ s
    refine wpAny_bind (wpAny_updateSeq e rfl ?_ hz (by rw [Array.size_push]; omega))
    have e0 : Obj.mapSeq (·.push y) ⟨k.cls M.C, d, .seq ws.toArray n, #[]⟩ = (⟨k.cls M.C, d, .seq (ws ++ [y]).toArray (if (ws.toArray.push y).size == ws.toArray.size then n else n + 1), #[]⟩ : Obj) := by
      show (⟨k.cls M.C, d, .seq (ws.toArray.push y) _, #[]⟩ : Obj) = _
      rw [List.push_toArray]
      show (⟨k.cls M.C, d, .seq (ws ++ [y]).toArray (if (ws.toArray.push y).size == ws.toArray.size then n else n + 1), #[]⟩ : Obj) = _
      rw [List.push_toArray]
    have e1 := Heap.get?_update_self (Obj.mapSeq (·.push y)) e (show (Obj.mapSeq (·.push y) ⟨k.cls M.C, d, .seq ws.toArray n, #[]⟩).isFreed = false from rfl)
    rw [e0] at e1
    exact wpAny_pure ⟨_, rfl, fin _ _ e1 (Heap.SameBut.update ..)⟩
  cases k with
  | list => exact wpAny_call_entry slot_list_append ⟨_, e, rfl⟩ entry_list_append (body _) (args_list_append _ _)
  | tags => exact own_call (TO.append _ hs.keepS) (typeOf_of e rfl) (args_list_append _ _) entry_list_append (body _)⟩
theorem keep_fr {f : Addr} {o : Obj} {fd : FuncData} (hf : M.S f = some o) (hd : o.data = .func fd) {pre : FH → Prop} : KeepOk M (.ref f) pre := keep_fn (fun B _ hS => hS _ _ hf) hd

-- strings
theorem meth_str {x : Str} {name : Str} {id : String} (slot : Slot "str" name id) (htf : typeOf (.builtin id) = pure (.type "method_descriptor")) : MethOk M A cs (.str x) name (.builtin id) := fun pl B s v hs r Q E hQ => by
  cases r with | str _ t
  exact getMethod_builtin (typeIs_str _ x t) PySem.F.plainAttrs_str slot htf (fun a e => nomatch e) (hQ s.toks)
theorem tr_startswith {x y : Str} (h : PV (.bool (0 + y.length ≤ x.length && Builtin.Str.subAt x y 0)) cs) : CL M A (.builtin "str.startswith") [.str x, .str y] cs PV X := ⟨fun vs B s hs r => by
  cases r with | cons ra r
  cases r with | cons rb r
  cases r with | nil
  cases ra; cases rb
  exact call_gives F.slot_str_startswith (typeIs_str _ _ _) F.entry_str_startswith (F.args_str_startswith_2 _ _) (gives_str_startswith x y _ _) (.now hs (.bool _) h)⟩
end
end Mine

end
section
open PySem PySem.W PySem.W.X PyProof.Rows
set_option Elab.async false
set_option maxRecDepth 100000
set_option linter.unusedVariables false
namespace Mine
theorem mem_0 {α : Type} {p : α} {r : List α} : p ∈ p :: r := .head _
theorem mem_1 {α : Type} {p : α} {x0 : α} {r : List α} : p ∈ x0 :: p :: r := .tail _ (.head _)
theorem mem_2 {α : Type} {p : α} {x0 x1 : α} {r : List α} : p ∈ x0 :: x1 :: p :: r := .tail _ (.tail _ (.head _))
theorem mem_3 {α : Type} {p : α} {x0 x1 x2 : α} {r : List α} : p ∈ x0 :: x1 :: x2 :: p :: r := .tail _ (.tail _ (.tail _ (.head _)))
theorem mem_4 {α : Type} {p : α} {x0 x1 x2 x3 : α} {r : List α} : p ∈ x0 :: x1 :: x2 :: x3 :: p :: r := .tail _ (.tail _ (.tail _ (.tail _ (.head _))))
theorem mem_5 {α : Type} {p : α} {x0 x1 x2 x3 x4 : α} {r : List α} : p ∈ x0 :: x1 :: x2 :: x3 :: x4 :: p :: r := .tail _ (.tail _ (.tail _ (.tail _ (.tail _ (.head _)))))
theorem mem_6 {α : Type} {p : α} {x0 x1 x2 x3 x4 x5 : α} {r : List α} : p ∈ x0 :: x1 :: x2 :: x3 :: x4 :: x5 :: p :: r := .tail _ (.tail _ (.tail _ (.tail _ (.tail _ (.tail _ (.head _))))))
theorem mem_7 {α : Type} {p : α} {x0 x1 x2 x3 x4 x5 x6 : α} {r : List α} : p ∈ x0 :: x1 :: x2 :: x3 :: x4 :: x5 :: x6 :: p :: r := .tail _ (.tail _ (.tail _ (.tail _ (.tail _ (.tail _ (.tail _ (.head _)))))))
theorem mem_8 {α : Type} {p : α} {x0 x1 x2 x3 x4 x5 x6 x7 : α} {r : List α} : p ∈ x0 :: x1 :: x2 :: x3 :: x4 :: x5 :: x6 :: x7 :: p :: r := .tail _ (.tail _ (.tail _ (.tail _ (.tail _ (.tail _ (.tail _ (.tail _ (.head _))))))))
theorem mem_9 {α : Type} {p : α} {x0 x1 x2 x3 x4 x5 x6 x7 x8 : α} {r : List α} : p ∈ x0 :: x1 :: x2 :: x3 :: x4 :: x5 :: x6 :: x7 :: x8 :: p :: r := .tail _ (.tail _ (.tail _ (.tail _ (.tail _ (.tail _ (.tail _ (.tail _ (.tail _ (.head _)))))))))
theorem mem_10 {α : Type} {p : α} {x0 x1 x2 x3 x4 x5 x6 x7 x8 x9 : α} {r : List α} : p ∈ x0 :: x1 :: x2 :: x3 :: x4 :: x5 :: x6 :: x7 :: x8 :: x9 :: p :: r := .tail _ (.tail _ (.tail _ (.tail _ (.tail _ (.tail _ (.tail _ (.tail _ (.tail _ (.tail _ (.head _))))))))))
theorem mem_11 {α : Type} {p : α} {x0 x1 x2 x3 x4 x5 x6 x7 x8 x9 x10 : α} {r : List α} : p ∈ x0 :: x1 :: x2 :: x3 :: x4 :: x5 :: x6 :: x7 :: x8 :: x9 :: x10 :: p :: r := .tail _ (.tail _ (.tail _ (.tail _ (.tail _ (.tail _ (.tail _ (.tail _ (.tail _ (.tail _ (.tail _ (.head _)))))))))))
theorem mem_12 {α : Type} {p : α} {x0 x1 x2 x3 x4 x5 x6 x7 x8 x9 x10 x11 : α} {r : List α} : p ∈ x0 :: x1 :: x2 :: x3 :: x4 :: x5 :: x6 :: x7 :: x8 :: x9 :: x10 :: x11 :: p :: r := .tail _ (.tail _ (.tail _ (.tail _ (.tail _ (.tail _ (.tail _ (.tail _ (.tail _ (.tail _ (.tail _ (.tail _ (.head _))))))))))))
theorem mem_13 {α : Type} {p : α} {x0 x1 x2 x3 x4 x5 x6 x7 x8 x9 x10 x11 x12 : α} {r : List α} : p ∈ x0 :: x1 :: x2 :: x3 :: x4 :: x5 :: x6 :: x7 :: x8 :: x9 :: x10 :: x11 :: x12 :: p :: r := .tail _ (.tail _ (.tail _ (.tail _ (.tail _ (.tail _ (.tail _ (.tail _ (.tail _ (.tail _ (.tail _ (.tail _ (.tail _ (.head _)))))))))))))
theorem mem_14 {α : Type} {p : α} {x0 x1 x2 x3 x4 x5 x6 x7 x8 x9 x10 x11 x12 x13 : α} {r : List α} : p ∈ x0 :: x1 :: x2 :: x3 :: x4 :: x5 :: x6 :: x7 :: x8 :: x9 :: x10 :: x11 :: x12 :: x13 :: p :: r := .tail _ (.tail _ (.tail _ (.tail _ (.tail _ (.tail _ (.tail _ (.tail _ (.tail _ (.tail _ (.tail _ (.tail _ (.tail _ (.tail _ (.head _))))))))))))))
theorem mem_15 {α : Type} {p : α} {x0 x1 x2 x3 x4 x5 x6 x7 x8 x9 x10 x11 x12 x13 x14 : α} {r : List α} : p ∈ x0 :: x1 :: x2 :: x3 :: x4 :: x5 :: x6 :: x7 :: x8 :: x9 :: x10 :: x11 :: x12 :: x13 :: x14 :: p :: r := .tail _ (.tail _ (.tail _ (.tail _ (.tail _ (.tail _ (.tail _ (.tail _ (.tail _ (.tail _ (.tail _ (.tail _ (.tail _ (.tail _ (.tail _ (.head _)))))))))))))))
theorem mem_16 {α : Type} {p : α} {x0 x1 x2 x3 x4 x5 x6 x7 x8 x9 x10 x11 x12 x13 x14 x15 : α} {r : List α} : p ∈ x0 :: x1 :: x2 :: x3 :: x4 :: x5 :: x6 :: x7 :: x8 :: x9 :: x10 :: x11 :: x12 :: x13 :: x14 :: x15 :: p :: r := .tail _ (.tail _ (.tail _ (.tail _ (.tail _ (.tail _ (.tail _ (.tail _ (.tail _ (.tail _ (.tail _ (.tail _ (.tail _ (.tail _ (.tail _ (.tail _ (.head _))))))))))))))))
theorem mem_17 {α : Type} {p : α} {x0 x1 x2 x3 x4 x5 x6 x7 x8 x9 x10 x11 x12 x13 x14 x15 x16 : α} {r : List α} : p ∈ x0 :: x1 :: x2 :: x3 :: x4 :: x5 :: x6 :: x7 :: x8 :: x9 :: x10 :: x11 :: x12 :: x13 :: x14 :: x15 :: x16 :: p :: r := .tail _ (.tail _ (.tail _ (.tail _ (.tail _ (.tail _ (.tail _ (.tail _ (.tail _ (.tail _ (.tail _ (.tail _ (.tail _ (.tail _ (.tail _ (.tail _ (.tail _ (.head _)))))))))))))))))
theorem mem_18 {α : Type} {p : α} {x0 x1 x2 x3 x4 x5 x6 x7 x8 x9 x10 x11 x12 x13 x14 x15 x16 x17 : α} {r : List α} : p ∈ x0 :: x1 :: x2 :: x3 :: x4 :: x5 :: x6 :: x7 :: x8 :: x9 :: x10 :: x11 :: x12 :: x13 :: x14 :: x15 :: x16 :: x17 :: p :: r := .tail _ (.tail _ (.tail _ (.tail _ (.tail _ (.tail _ (.tail _ (.tail _ (.tail _ (.tail _ (.tail _ (.tail _ (.tail _ (.tail _ (.tail _ (.tail _ (.tail _ (.tail _ (.head _))))))))))))))))))
theorem mem_19 {α : Type} {p : α} {x0 x1 x2 x3 x4 x5 x6 x7 x8 x9 x10 x11 x12 x13 x14 x15 x16 x17 x18 : α} {r : List α} : p ∈ x0 :: x1 :: x2 :: x3 :: x4 :: x5 :: x6 :: x7 :: x8 :: x9 :: x10 :: x11 :: x12 :: x13 :: x14 :: x15 :: x16 :: x17 :: x18 :: p :: r := .tail _ (.tail _ (.tail _ (.tail _ (.tail _ (.tail _ (.tail _ (.tail _ (.tail _ (.tail _ (.tail _ (.tail _ (.tail _ (.tail _ (.tail _ (.tail _ (.tail _ (.tail _ (.tail _ (.head _)))))))))))))))))))
theorem LocSet.old {x : Str} {u u₀ : V} {loc loc' : Loc} (h : Upd x u₀ u loc loc') : LocSet x u loc loc' := .inl ⟨u₀, h⟩
theorem LocSet.new {x : Str} {u : V} {loc : Loc} (h : x ∉ loc.map Prod.fst) : LocSet x u loc (loc ++ [(x, u)]) := .inr ⟨h, rfl⟩
inductive Pick {α : Type} (p : α) : List α → List α → Prop
  | head {r : List α} : Pick p (p :: r) r
  | tail {x : α} {r r' : List α} : Pick p r r' → Pick p (x :: r) (x :: r')
theorem Pick.perm {α : Type} {p : α} {l r : List α} (h : Pick p l r) : l.Perm (p :: r) := by
  induction h with
  | head => exact .refl _
  | tail _ ih => exact (ih.cons _).trans (.swap ..)
inductive Picks {α : Type} : List α → List α → List α → Prop
  | nil {l : List α} : Picks [] l l
  | cons {p : α} {ps l l' r : List α} : Pick p l l' → Picks ps l' r → Picks (p :: ps) l r
theorem Picks.perm {α : Type} {ps l r : List α} (h : Picks ps l r) : l.Perm (ps ++ r) := by
  induction h with
  | nil => exact .refl _
  | cons p _ ih => exact p.perm.trans (ih.cons _)
section
variable {M : Md} {A : Around} {cs : Cells} {X : Value → Cells → Prop} {env : Env} {PV : V → Cells → Prop} {PF : Fl → Cells → Prop} {PB : Bool → Cells → Prop}
/-- a contract used: its cells picked out, the rest behind the frame -/
theorem CL.use {f : Value} {xs : List V} {all r0 : Cells} {p : Addr × MO} {P : V → Cells → Prop} (h : CL M A f xs cs P NoX) (hp : Picks cs all (p :: r0)) (k : ∀ x c0, P x c0 → PV x (p :: (c0 ++ r0))) : CL M A f xs all PV X := ⟨fun vs => by
  have t := (h.it vs).frame (fr := p :: r0) hp.perm
  refine Tr.viewV (Tr.mono t (fun x c ⟨c0, e, h0⟩ => ?_) fun x c ⟨_, _, q⟩ => q.elim)
  subst e
  exact ⟨x, _, .of (View.perm List.perm_middle), k x c0 h0⟩⟩
/-- the same for a contract that may raise -/
theorem CL.useX {f : Value} {xs : List V} {all r0 : Cells} {p : Addr × MO} {P : V → Cells → Prop} {X0 : Value → Cells → Prop} (h : CL M A f xs cs P X0) (hp : Picks cs all (p :: r0)) (k : ∀ x c0, P x c0 → PV x (p :: (c0 ++ r0))) (kx : ∀ c c0, X0 c c0 → X c (c0 ++ p :: r0)) : CL M A f xs all PV X := ⟨fun vs => by
  have t := (h.it vs).frame (fr := p :: r0) hp.perm
  refine Tr.viewV (Tr.mono t (fun x c ⟨c0, e, h0⟩ => ?_) fun x c ⟨c0, e, q⟩ => ?_)
  · subst e
    exact ⟨x, _, .of (View.perm List.perm_middle), k x c0 h0⟩
  · subst e; exact kx x c0 q⟩
theorem keep_is {f : Addr} {o : Obj} {q : Str} {par : Arguments} {body : List Stmt} {sc : Scope} {clo : List (Str × Addr)} {cd dfl : Value} {pre : FH → Prop} (e : M.S f = some o) (h : FnIs o q par body sc clo cd dfl) : KeepOk M (.ref f) pre := by
  obtain ⟨fd, hd, _⟩ := h.it
  exact keep_fr e hd
end
end Mine

end
section
open PySem PySem.W PySem.W.X PyProof.Rows
set_option Elab.async false
set_option maxRecDepth 100000
set_option linter.unusedVariables false
namespace Mine
section
variable {M : Md} {A : Around} {cs : Cells} {X : Value → Cells → Prop} {env : Env} {PV : V → Cells → Prop} {PF : Fl → Cells → Prop} {PB : Bool → Cells → Prop} {B : FH} {s : Shared}

theorem St.slots {l : List Env} {h' : Heap} (hs : St M.C M.S A B cs s) (hfr : A.frames = some l) (hso : Heap.SlotsOnly (l.filterMap (·.frame)) s.heap h') : St M.C M.S A B cs { s with heap := h' } ∧ Fut B cs s B cs { s with heap := h' } := by
  obtain ⟨l', e', hl⟩ := hs.frs
  rw [hfr] at e'; cases e'
  have hin : ∀ b, b ∈ l.filterMap (·.frame) → B b = none ∧ ∃ o, s.heap.get? b = some o ∧ IsD o := fun b hb => by
    obtain ⟨en, hen, e⟩ := List.mem_filterMap.mp hb
    obtain ⟨hk, L, oL, h1, h2, h3, h4⟩ := hl en hen
    rw [h1] at e; cases e
    exact ⟨h2, oL, h3, h4⟩
  have sam : ∀ b o, s.heap.get? b = some o → SameSl h' b o := fun b o e => by
    by_cases hb : b ∈ l.filterMap (·.frame)
    · obtain ⟨_, o', e', hd⟩ := hin b hb
      rw [e] at e'; cases e'
      obtain ⟨sl, q⟩ := hso.2.2 b o e
      exact .inr ⟨hd, sl, q⟩
    · exact .inl ((hso.2.1 b hb).trans e)
  refine ⟨⟨fun b o e => ?_, hs.stat, fun p hp => (hs.own p hp).same (fun o e => sam _ _ e) (hs.nf p hp), hs.nf, hs.off, hs.nd, ⟨l, hfr, fun en hen => ?_⟩, hs.bare⟩,
    ⟨.refl _, fun b o e _ => sam b o e, fun _ h => .inl h, fun _ h => .inr h, fun b o e => ?_, rfl, fun _ _ => rfl, Nat.le_refl _⟩⟩
  · have hb : b ∉ l.filterMap (·.frame) := fun hm => by have := (hin b hm).1; rw [this] at e; cases e
    exact (hso.2.1 b hb).trans (hs.keep b o e)
  · obtain ⟨hk, L, oL, h1, h2, h3, h4⟩ := hl en hen
    obtain ⟨sl, q⟩ := hso.2.2 L oL h3
    exact ⟨hk, L, _, h1, h2, q, h4⟩
  · rcases sam b o e with q | ⟨_, sl, q⟩
    · exact ⟨_, q⟩
    · exact ⟨_, q⟩
theorem funFrames_of {h : Heap} : ∀ {l : List Env}, Frs B h l → h.FunFrames ({ (default : Heap) with objs := #[] }) l
  | [], _ => trivial
  | en :: l, hl => by
    obtain ⟨hk, L, oL, h1, h2, h3, h4⟩ := hl en (.head _)
    obtain ⟨es, ep, hd⟩ := h4
    exact ⟨hk, ⟨L, oL, h1, by simp [Heap.get?], h3, fun vs q => by rw [hd] at q; cases q⟩, funFrames_of fun e he => hl e (.tail _ he)⟩

/-- a field of an owned exception turned -/
theorem St.turnExc {ea : Addr} {cls : Value} {t0 : Option Addr} {T : Addr} {oe : Obj} {vs : Array Value} (hs : St M.C M.S A B ((ea, .exc cls t0) :: cs) s) (he : s.heap.get? ea = some oe) (hd : oe.data = .fields vs) :
    St M.C M.S A B ((ea, .exc cls (some T)) :: cs) { s with heap := s.heap.update ea (Obj.mapFields (·.setIfInBounds 1 (.ref T))) } ∧ Fut B ((ea, .exc cls t0) :: cs) s B ((ea, .exc cls (some T)) :: cs) { s with heap := s.heap.update ea (Obj.mapFields (·.setIfInBounds 1 (.ref T))) } := by
  obtain ⟨oe', vs', a0, e', hc, hd', h0, h1, h2⟩ := hs.own (ea, .exc cls t0) (.head _)
  rw [he] at e'; cases e'
  rw [hd] at hd'; cases hd'
  have hsz : 1 < vs.size := (Array.getElem?_eq_some_iff.mp h1).1
  have hd₃ := Obj.data_mapFields hd (·.setIfInBounds 1 (Value.ref T))
  have he₃ := Heap.get?_update_self (Obj.mapFields (·.setIfInBounds 1 (Value.ref T))) he (Obj.isFreed_of_fields hd₃)
  refine hs.turn (o := .exc cls t0) (o' := .exc cls (some T)) .head (Heap.SameBut.update ..) ⟨_, _, a0, he₃, (Obj.cls_mapFields _ _).trans hc, hd₃, ?_, ?_, by simpa using h2.1, fun q => ?_⟩ trivial (fun ob q => ⟨_, he₃, fun hD => ?_⟩) s.toks
  · rw [Array.getElem?_setIfInBounds_ne (by decide)]; exact h0
  · simp [hsz]
  · rw [Array.getElem?_setIfInBounds_ne (by decide)]; exact h2.2 q
  · rw [he] at q; cases q
    obtain ⟨es, ep, q⟩ := hD
    rw [hd] at q; cases q
theorem St.turnTb {T : Addr} {fl fl' : Value} {oT : Obj} {ts : Array Value} {c1 c2 : Cells} (U : Upd T (.tb fl) (.tb fl') c1 c2) (hs : St M.C M.S A B c1 s) (hT : s.heap.get? T = some oT) (hd : oT.data = .fields ts) :
    St M.C M.S A B c2 { s with heap := s.heap.update T (Obj.mapFields (·.setIfInBounds 3 fl')) } ∧ Fut B c1 s B c2 { s with heap := s.heap.update T (Obj.mapFields (·.setIfInBounds 3 fl')) } := by
  obtain ⟨oT', ts', e', hc, hd', h3⟩ := hs.own (T, .tb fl) U.mem
  rw [hT] at e'; cases e'
  rw [hd] at hd'; cases hd'
  have hsz : 3 < ts.size := (Array.getElem?_eq_some_iff.mp h3).1
  have hd₃ := Obj.data_mapFields hd (·.setIfInBounds 3 fl')
  have he₃ := Heap.get?_update_self (Obj.mapFields (·.setIfInBounds 3 fl')) hT (Obj.isFreed_of_fields hd₃)
  refine hs.turn (o := .tb fl) (o' := .tb fl') U (Heap.SameBut.update ..) ⟨_, _, he₃, (Obj.cls_mapFields _ _).trans hc, hd₃, by simp [hsz]⟩ trivial (fun ob q => ⟨_, he₃, fun hD => ?_⟩) s.toks
  rw [hT] at q; cases q
  obtain ⟨es, ep, q⟩ := hD
  rw [hd] at q; cases q

variable {outer : List Env} {L ea : Addr} {cls : Value}
/-- a new entry of the traceback -/
theorem tr_entry {t0 : Option Addr} {head : Value} {had : Bool} {Q : Unit → Shared → Prop} {E : Value → Shared → Prop} (hfr : A.frames = some (env :: outer)) (hf : env.frame = some L) (hs : St M.C M.S A B ((ea, .exc cls t0) :: cs) s)
    (hQ : ∀ T s', St M.C M.S A B ((ea, .exc cls (some T)) :: (T, .tb (rawInt L)) :: cs) s' → Fut B ((ea, .exc cls t0) :: cs) s B ((ea, .exc cls (some T)) :: (T, .tb (rawInt L)) :: cs) s' → Q () s') :
    wpAny (model M.prog M.w) A (do let a ← frameOf env; let pl ← entryPlaceOf L had; let b ← EntryCells.newEntry head a .none (rawInt L) .none pl; setField (.ref ea) 1 b) Q E s := by
  obtain ⟨l', e', hl⟩ := hs.frs
  rw [hfr] at e'; cases e'
  refine wpAny_bind (wpAny_frameOf_fun hfr (funFrames_of hl) hf fun h₁ hs₁ => ?_)
  obtain ⟨S₁, F₁⟩ := hs.slots hfr hs₁
  refine wpAny_bind (wpAny_entryPlaceOf fun pl hpl => ?_)
  unfold EntryCells.newEntry newFields
  refine wpAny_bind (wpAny_newObj_type ?_ (hpl.sizeOk5 _ _ _ _ _))
  obtain ⟨hn, S₂, F₂⟩ := S₁.alloc (o := { cls := .type "traceback", dict := none, data := .fields ([head, .ref L, .none, rawInt L, .none] ++ (if pl.isEmpty then List.replicate 6 Value.none else pl)).toArray }) (m := .tb (rawInt L)) rfl
    ⟨_, _, Heap.get?_push_size _ rfl, rfl, rfl, by simp⟩ trivial s.toks
  obtain ⟨oe, vs, a0, he, hc, hd, h0, h1, h2⟩ := S₂.own (ea, .exc cls t0) (.head _)
  refine wpAny_setField he hd (Array.getElem?_eq_some_iff.mp h1).1 ?_
  obtain ⟨S₃, F₃⟩ := S₂.turnExc (T := h₁.objs.size) he hd
  exact hQ _ _ S₃ ((F₁.trans F₂).trans F₃)
/-- an exception marked as seen in this frame -/
theorem tr_note {ex : Cells} {Q : Unit → Shared → Prop} {E : Value → Shared → Prop} (hfr : A.frames = some (env :: outer)) (hf : env.frame = some L) (hs : St M.C M.S A B (ex ++ cs) s) (hx : Fly A cls (.ref ea) ex)
    (hQ : ∀ T s', St M.C M.S A B ((ea, .exc cls (some T)) :: (T, .tb (rawInt L)) :: cs) s' → Fut B (ex ++ cs) s B ((ea, .exc cls (some T)) :: (T, .tb (rawInt L)) :: cs) s' → Q () s') :
    wpAny (model M.prog M.w) A (noteFrame (.ref ea) env) Q E s := by
  cases hx with
  | new =>
    obtain ⟨oe, vs, a0, he, hc, hd, h0, h1, h2⟩ := hs.own (ea, .exc cls none) (.head _)
    unfold noteFrame
    simp only [hf]
    refine wpAny_bind (wpAny_field he hd h1 ?_)
    rw [if_neg (by decide)]
    exact tr_entry hfr hf hs hQ
  | traced _ T =>
    obtain ⟨oe, vs, a0, he, hc, hd, h0, h1, h2⟩ := hs.own (ea, .exc cls (some T)) (.head _)
    obtain ⟨oT, ts, hT, hcT, hdT, h3⟩ := hs.own (T, .tb .none) (.tail _ (.head _))
    unfold noteFrame
    simp only [hf]
    refine wpAny_bind (wpAny_field he hd h1 ?_)
    rw [if_pos (show ((some T).elim Value.none Value.ref != Value.none) = true from by simp)]
    refine wpAny_bind (wpAny_field hT hdT h3 ?_)
    rw [if_neg (show ¬ ((Value.none == rawInt L) = true) from by simp [rawInt])]
    refine wpAny_bind (wpAny_setField hT hdT (Array.getElem?_eq_some_iff.mp h3).1 ?_)
    obtain ⟨S₁, F₁⟩ := hs.turnTb (fl' := Value.none) (.tail .head) hT hdT
    have S₂ : St M.C M.S A B ((ea, .exc cls (some T)) :: cs) { s with heap := s.heap.update T (Obj.mapFields (·.setIfInBounds 3 Value.none)) } :=
      (S₁.perm (.swap ..)).tail
    have F₂ : Fut B ([(ea, .exc cls (some T)), (T, .tb .none)] ++ cs) s B ((ea, .exc cls (some T)) :: cs) { s with heap := s.heap.update T (Obj.mapFields (·.setIfInBounds 3 Value.none)) } :=
      F₁.perm (fun _ => Iff.rfl) fun a ha => by
        rcases List.mem_cons.mp ha with rfl | ha
        · exact .head _
        · exact .tail _ (.tail _ ha)
    exact tr_entry hfr hf S₂ fun T' s' S' F' => hQ T' s' S' (F₂.trans F')
  | held _ T L' env' l' hfr' hf' =>
    rw [hfr] at hfr'; cases hfr'
    rw [hf] at hf'; cases hf'
    obtain ⟨oe, vs, a0, he, hc, hd, h0, h1, h2⟩ := hs.own (ea, .exc cls (some T)) (.head _)
    obtain ⟨oT, ts, hT, hcT, hdT, h3⟩ := hs.own (T, .tb (rawInt L)) (.tail _ (.head _))
    unfold noteFrame
    simp only [hf]
    refine wpAny_bind (wpAny_field he hd h1 ?_)
    rw [if_pos (show ((some T).elim Value.none Value.ref != Value.none) = true from by simp)]
    refine wpAny_bind (wpAny_field hT hdT h3 ?_)
    rw [if_pos (show (rawInt L == rawInt L) = true from by simp)]
    exact wpAny_pure (hQ T s hs (.refl ..))
theorem tr_setFlight {T : Addr} {fl : Value} {fr : Option Addr} {Q : Unit → Shared → Prop} {E : Value → Shared → Prop} (hs : St M.C M.S A B ((ea, .exc cls (some T)) :: (T, .tb fl) :: cs) s)
    (hQ : ∀ s', St M.C M.S A B ((ea, .exc cls (some T)) :: (T, .tb (fr.elim .none fun f => rawInt f)) :: cs) s' → Fut B ((ea, .exc cls (some T)) :: (T, .tb fl) :: cs) s B ((ea, .exc cls (some T)) :: (T, .tb (fr.elim .none fun f => rawInt f)) :: cs) s' → Q () s') :
    wpAny (model M.prog M.w) A (setFlight (.ref ea) fr) Q E s := by
  obtain ⟨oe, vs, a0, he, hc, hd, h0, h1, h2⟩ := hs.own (ea, .exc cls (some T)) (.head _)
  obtain ⟨oT, ts, hT, hcT, hdT, h3⟩ := hs.own (T, .tb fl) (.tail _ (.head _))
  unfold setFlight
  refine wpAny_bind (wpAny_field he hd h1 ?_)
  rw [if_pos (show ((some T).elim Value.none Value.ref != Value.none) = true from by simp)]
  refine wpAny_setField hT hdT (Array.getElem?_eq_some_iff.mp h3).1 ?_
  obtain ⟨S₁, F₁⟩ := hs.turnTb (fl' := fr.elim .none fun f => rawInt f) (.tail .head) hT hdT
  exact hQ _ S₁ F₁
/-- the frame that runs here -/
def On (A : Around) (env : Env) : Prop := ∃ (L : Addr) (l : Option (List Env)), A.frames = l.map (env :: ·) ∧ env.frame = some L
theorem On.get {s : Shared} (h : On A env) (hs : St M.C M.S A B cs s) : ∃ L outer, A.frames = some (env :: outer) ∧ env.frame = some L := by
  obtain ⟨L, l, e, hf⟩ := h
  obtain ⟨l', e', _⟩ := hs.frs
  rw [e'] at e
  cases l with
  | none => cases e
  | some l => exact ⟨L, l, by rw [e', e]; rfl, hf⟩
theorem Fly.isRef {e : Value} {ex : Cells} (h : Fly A cls e ex) : ∃ ea, e = .ref ea := by cases h <;> exact ⟨_, rfl⟩
/-- an exception came out of a block of this frame -/
theorem noted_back {B₀ : FH} {s₀ s' : Shared} {e : Value} (hon : On A env) (h : PoX M.C M.S A B₀ cs s₀ X e s') : notedBy (model M.prog M.w) A env (cameBackBy (model M.prog M.w) A env (PoX M.C M.S A B₀ cs s₀ X)) e s' := by
  obtain ⟨B', cs', c, ex, S', F', hx, hX⟩ := h
  obtain ⟨ea, rfl⟩ := hx.isRef
  obtain ⟨L, outer, hfr, hf⟩ := hon.get S'
  refine tr_note hfr hf S' hx fun T s₁ S₁ F₁ => ?_
  obtain ⟨oe, vs, a0, he, hc, hd, h0, h1, h2⟩ := S₁.own (ea, .exc c (some T)) (.head _)
  show wpAny _ _ _ _ _ _
  refine wpAny_bind (wpAny_field he hd h1 ?_)
  rw [if_neg (show ¬ (((some T).elim Value.none Value.ref == Value.none) = true) from by simp)]
  rw [hf]
  refine tr_setFlight S₁ fun s₂ S₂ F₂ => ?_
  exact ⟨B', cs', c, _, S₂, F'.trans (F₁.trans F₂), .held ea T L env outer hfr hf, hX⟩
/-- an exception left the frame -/
theorem left_fn {B₀ : FH} {cs₀ : Cells} {s₀ s' : Shared} {e : Value} {Q : Unit → Shared → Prop} {E : Value → Shared → Prop} (hon : On A env) (h : PoX M.C M.S A B₀ cs₀ s₀ X e s')
    (hQ : ∀ B' cs' c ea T s₁, e = .ref ea → St M.C M.S A B' ([(ea, .exc c (some T)), (T, .tb .none)] ++ cs') s₁ → Fut B₀ cs₀ s₀ B' ([(ea, .exc c (some T)), (T, .tb .none)] ++ cs') s₁ → X c cs' → Q () s₁) :
    wpAny (model M.prog M.w) A (leaving env e) Q E s' := by
  obtain ⟨B', cs', c, ex, S', F', hx, hX⟩ := h
  obtain ⟨ea, rfl⟩ := hx.isRef
  obtain ⟨L, outer, hfr, hf⟩ := hon.get S'
  unfold leaving
  refine wpAny_bind (tr_note hfr hf S' hx fun T s₁ S₁ F₁ => ?_)
  refine tr_setFlight S₁ fun s₂ S₂ F₂ => ?_
  exact hQ B' cs' c ea T s₂ rfl S₂ (F'.trans (F₁.trans F₂)) hX
end
end Mine

end
section
open PySem PySem.W PySem.W.X PyProof.Rows
set_option Elab.async false
set_option maxRecDepth 100000
set_option linter.unusedVariables false
namespace Mine
section
variable {M : Md} {A : Around} {cs : Cells} {X : Value → Cells → Prop} {env : Env} {PV : V → Cells → Prop} {PF : Fl → Cells → Prop} {PB : Bool → Cells → Prop} {B : FH} {s : Shared}

/-- while -/
theorem ex_while {test : PySem.Expr} {body : List Stmt} {pos : Pos} (hon : On A env) (Inv : Nat → Cells → Prop) (n : Nat) (i0 : Inv n cs)
    (h : ∀ n c, Inv n c → IT M A env test c (fun b c₁ => if b then EXs M A env body c₁ (fun fl c₂ => match fl with | .next | .cont => ∃ m c₃, m < n ∧ View M c₂ c₃ ∧ Inv m c₃ | .brk => PF .next c₂ | .ret r => PF (.ret r) c₂) X else PF .next c₁) X) :
    EX M A env (.While test body [] pos) cs PF X := ⟨fun B s hs _ => by
  refine wpAny_While (codeAny_whileLoop (I := fun m s' => ∃ B' c, Inv m c ∧ St M.C M.S A B' c s' ∧ Fut B cs s B' c s') (fun n s' hI => ?_) n ⟨B, cs, i0, hs, .refl ..⟩)
  obtain ⟨B', c, inv, S', F'⟩ := hI
  refine wpAny_mono ((h n c inv).it B' s' S' trivial) (fun b s₁ ⟨B₁, c₁, b', S₁, F₁, R₁, h₁⟩ => ?_) fun e s₁ hx => noted_back hon (PoX.step F' hx)
  cases R₁
  cases b with
  | true =>
    refine wpAny_mono (EXs.it h₁ B₁ s₁ S₁ trivial) (fun f s₂ ⟨B₂, c₂, fl, S₂, F₂, R₂, h₂⟩ => ?_) fun e s₂ hx => noted_back hon (PoX.step (F'.trans F₁) hx)
    have Fa := (F'.trans F₁).trans F₂
    cases R₂ with
    | next =>
      obtain ⟨m, c₃, hm, hv, hi⟩ := h₂
      obtain ⟨B₃, S₃, F₃⟩ := hv A B₂ s₂ S₂
      exact ⟨m, hm, B₃, c₃, hi, S₃, Fa.trans F₃⟩
    | cont =>
      obtain ⟨m, c₃, hm, hv, hi⟩ := h₂
      obtain ⟨B₃, S₃, F₃⟩ := hv A B₂ s₂ S₂
      exact ⟨m, hm, B₃, c₃, hi, S₃, Fa.trans F₃⟩
    | brk => exact ⟨B₂, c₂, .next, S₂, Fa, .next, h₂⟩
    | ret r => exact ⟨B₂, c₂, _, S₂, Fa, .ret r, h₂⟩
  | false => exact wpAny_execs_nil ⟨B₁, c₁, .next, S₁, F'.trans F₁, .next, h₁⟩⟩

theorem on_deeper {e : Env} {L : Addr} (h : e.frame = some L) : On (A.deeper e) e := ⟨L, A.frames, rfl, h⟩
theorem on_mark {h : Option Value} (x : On A env) : On (A.mark h) env := x

/-- a def that may raise -/
theorem fn_defX {pre : FH → Prop} {n : Nat} {f : Addr} {q : Str} {par : Arguments} {body : List Stmt} {sc : Scope} {clo : List (Str × Addr)} {cd dfl : Value} {vs ws : List Value} {args : List V} {names : List Str} (fit : Fit (n + 1) A)
    (hf : ∀ B : FH, pre B → M.S.le B → ∃ o, B f = some o ∧ FnIs o q par body sc clo cd dfl) (hcd : ∀ B : FH, pre B → M.S.le B → ∀ h : Heap, (∀ a o, B a = some o → h.get? a = some o) → h.CodeRec cd q)
    (hbind : ∀ B : FH, pre B → M.S.le B → ∀ h : Heap, (∀ a o, B a = some o → h.get? a = some o) → Looks (model M.prog M.w) h (bindArgs (bareFn q par dfl) ⟨vs, []⟩) (names.zip ws))
    (lim : ∀ h : Heap, (∀ a o, M.S a = some o → h.get? a = some o) → h.NoLimit)
    (hr : ∀ B, pre B → M.S.le B → RVs M.C B ws args) (nd : names.Nodup) (hlen : names.length ≤ args.length)
    (h : ∀ L, L ∉ cs.ad → EXs M (A.deeper (envFn sc L clo q f cd)) (envFn sc L clo q f cd) body ((L, .frame (names.zip args)) :: cs) (fun fl cs' => ∃ p cs'', cs' = p :: cs'' ∧ PV fl.val cs'') (fun c cs' => ∃ p cs'', cs' = p :: cs'' ∧ X c cs''))
    (hco : sc.isCoroutine = false := by kernel_rfl) (hgen : sc.isGenerator = false := by kernel_rfl) (hk : sc.kind = .function := by kernel_rfl)
    (hcell : ∀ x ∈ sc.names, x.2 ≠ .cell := by decide +kernel) (hloc : ∀ x ∈ names, sc.names.lookup x = some .local := by decide +kernel) :
    Tr M.C M.S M.prog M.w pre (RV M.C) A (call (.ref f) vs) cs PV X := fun B s hs hp => by
  obtain ⟨o, ho, ⟨fd, hd, e1, e2, e3, e4, e5, e6, e7, e8, e9, e10⟩⟩ := hf B hp hs.stat
  have hcd' := hcd B hp hs.stat s.heap hs.keep
  have hb' := hbind B hp hs.stat s.heap hs.keep
  refine wpAny_call (codeAny_call_function fit.room (hs.keep _ _ ho) hd (by rw [e4]; exact hco) (by rw [e4]; exact hgen) e3 (by rw [e6, e1]; exact hcd') ?_)
  rw [bindArgs_bare e1 e2 e9 e10, e4, e5, e6, e7, e8, e1]
  refine hb'.here (wpAny_newFunctionEnv hcell (fun x hx => hloc _ (List.of_mem_zip hx).1) (fun h' hns hsb => ?_) hk)
  have lim' : h'.NoLimit := (lim s.heap hs.keepS).fresh _ hsb
  obtain ⟨hn, S₁, F₁⟩ := hs.enter (env := envFn sc s.heap.objs.size clo q f cd) (t := s.toks + (names.zip ws).length) (hr B hp hs.stat) nd hlen rfl (by show sc.kind ≠ _; rw [hk]; decide) rfl hns hsb
  refine ⟨lim', codeAny_func (wpAny_mono ((h _ hn).it B _ S₁ trivial) (fun fl s₂ ⟨B₂, cs₂, x, S₂, F₂, R₂, p, cs₃, e, h₂⟩ => ?_) fun x s₂ hx => ?_)⟩
  · subst e
    refine ⟨B₂, cs₃, x.val, S₂.leave, (F₁.trans F₂).drop, ?_, h₂⟩
    cases R₂ <;> first | exact .none | assumption
  · refine left_fn (on_deeper rfl) (PoX.step F₁ hx) fun B' cs' c ea T s₃ he S₃ F₃ ⟨p, cs'', hcs, hX⟩ => ?_
    subst he hcs
    have pm : ([(ea, MO.exc c (some T)), (T, MO.tb .none)] ++ p :: cs'').Perm (p :: ([(ea, MO.exc c (some T)), (T, MO.tb .none)] ++ cs'')) := List.perm_middle
    exact ⟨B', cs'', c, _, (S₃.perm pm).leave, (F₃.perm (cs₁' := p :: ([(ea, MO.exc c (some T)), (T, MO.tb .none)] ++ cs'')) (fun _ => Iff.rfl) fun a ha => ((pm.map Prod.fst).mem_iff.mpr ha)).drop, .traced ea T, hX⟩

-- handlers
/-- a name's value, told without change -/
def NameIs (M : Md) (env : Env) (t : PySem.Expr) (ct : Value) : Prop := ∀ (A : Around) (h : Heap) (s : Shared) (Q : Value → Shared → Prop) (E : Value → Shared → Prop), (∀ a o, M.S a = some o → s.heap.get? a = some o) → Q ct s → wpAny (model M.prog M.w) A (eval t env) Q E s
theorem name_global {x : Str} {pos : Pos} {v : Value} {mg mb : Str → Option Value} (G : Gl M.S mg mb) (e : mg x = some v)
    (hk : env.scope.kind = .function := by rfl) (hl : env.kindOf x = some .globalImplicit := by kernel_rfl) (hg : env.globals = mainGlobals := by rfl) (hd : (x == ("__debug__" : Str)) = false := by kernel_rfl) : NameIs M env (.Name x pos) v := fun A h s Q E hS q =>
  Calls.Name_function_global hk hl (Calls.loadGlobal_global (by rw [hg]; exact G.g _ hS) e q) hd
theorem name_builtin {x : Str} {pos : Pos} {v : Value} {mg mb : Str → Option Value} (G : Gl M.S mg mb) (e : mg x = none) (e' : mb x = some v)
    (hk : env.scope.kind = .function := by rfl) (hl : env.kindOf x = some .globalImplicit := by kernel_rfl) (hg : env.globals = mainGlobals := by rfl) (hb : env.builtins = builtinsNs := by rfl) (hd : (x == ("__debug__" : Str)) = false := by kernel_rfl) : NameIs M env (.Name x pos) v := fun A h s Q E hS q =>
  Calls.Name_function_global hk hl (Calls.loadGlobal_builtin (by rw [hg]; exact G.g _ hS) e (by rw [hb]; exact G.b _ hS) e' q) hd
/-- whether a handler takes an exception -/
def Mt (M : Md) (cls ct : Value) (b : Bool) : Prop := ∀ (h : Heap) (ea : Addr), (∀ a o, M.S a = some o → h.get? a = some o) → Looks (model M.prog M.w) h (typeOf (.ref ea)) cls → Looks (model M.prog M.w) h (excMatches (.ref ea) ct) b
/-- the handlers' part of a try -/
structure HB (M : Md) (A : Around) (env : Env) (hs : List ExceptHandler) (cls : Value) (cs : Cells) (PF : Fl → Cells → Prop) (X : Value → Cells → Prop) : Prop where
  it : ∀ (B : FH) (s : Shared) (ea T : Addr), St M.C M.S A B ((ea, .exc cls (some T)) :: (T, .tb .none) :: cs) s →
    wpAny (model M.prog M.w) A (handleBy (.ref ea) env hs) (Po M.C M.S (RF M.C) A B ((ea, .exc cls (some T)) :: (T, .tb .none) :: cs) s PF) (PoX M.C M.S A B ((ea, .exc cls (some T)) :: (T, .tb .none) :: cs) s X) s
theorem exc_type {ea T : Addr} {cls : Value} (hs : St M.C M.S A B ((ea, .exc cls (some T)) :: cs) s) : Looks (model M.prog M.w) s.heap (typeOf (.ref ea)) cls := by
  obtain ⟨oe, vs, a0, he, hc, _⟩ := hs.own (ea, .exc cls (some T)) (.head _)
  exact typeOf_of he hc
theorem hb_nil {cls : Value} (hon : On A env) (h : X cls cs) : HB M A env [] cls cs PF X := ⟨fun B s ea T hs => by
  obtain ⟨L, outer, hfr, hf⟩ := hon.get hs
  obtain ⟨oe, vs, a0, he, hc, hd, h0, h1, h2⟩ := hs.own (ea, .exc cls (some T)) (.head _)
  refine wpAny_handleBy_nil ?_
  unfold PySem.passOn
  refine wpAny_bind (wpAny_field he hd h1 ?_)
  rw [if_neg (show ¬ (((some T).elim Value.none Value.ref == Value.none) = true) from by simp)]
  rw [hf]
  refine wpAny_bind (tr_setFlight hs fun s₂ S₂ F₂ => wpAny_throw ?_)
  exact ⟨B, cs, cls, _, S₂, F₂, .held ea T L env outer hfr hf, h⟩⟩
theorem hb_skip {cls ct : Value} {t : PySem.Expr} {name : Option Str} {suite : List Stmt} {pos : Pos} {rest : List ExceptHandler} (hn : NameIs M env t ct) (hm : Mt M cls ct false) (h : HB M A env rest cls cs PF X) :
    HB M A env (.ExceptHandler (some t) name suite pos :: rest) cls cs PF X := ⟨fun B s ea T hs =>
  wpAny_handleBy_cons (codeAny_handlers_test (hn _ s.heap _ _ _ hs.keepS ((hm s.heap ea hs.keepS (exc_type hs)).here (h.it B s ea T hs)))) (by intro q; cases q)⟩
theorem St.mark {h : Option Value} (hs : St M.C M.S A B cs s) : St M.C M.S (A.mark h) B cs s := hs.around rfl
theorem Po.unmark {β γ : Type} {R : FH → β → γ → Prop} {P : γ → Cells → Prop} {h : Option Value} {r : β} {s₁ : Shared} (x : Po M.C M.S R (A.mark h) B cs s P r s₁) : Po M.C M.S R A B cs s P r s₁ :=
  let ⟨B', c', y, S', F', r', h'⟩ := x; ⟨B', c', y, S'.around rfl, F', r', h'⟩
theorem PoX.unmark {h : Option Value} {r : Value} {s₁ : Shared} (x : PoX M.C M.S (A.mark h) B cs s X r s₁) : PoX M.C M.S A B cs s X r s₁ :=
  let ⟨B', c', y, ex, S', F', hx, h'⟩ := x; ⟨B', c', y, ex, S'.around rfl, F', (by cases hx with | new => exact .new _ | traced => exact .traced _ _ | held _ _ L e l a b => exact .held _ _ L e l a b), h'⟩
theorem hb_take {cls ct : Value} {t : PySem.Expr} {b₀ : Stmt} {suite : List Stmt} {pos : Pos} {rest : List ExceptHandler} (hn : NameIs M env t ct) (hm : Mt M cls ct true)
    (h : ∀ ea, EXs M (A.mark (some (.ref ea))) env (b₀ :: suite) cs PF NoX) : HB M A env (.ExceptHandler (some t) none (b₀ :: suite) pos :: rest) cls cs PF X := ⟨fun B s ea T hs => by
  refine wpAny_handleBy_cons (codeAny_handlers_test (hn _ s.heap _ _ _ hs.keepS ((hm s.heap ea hs.keepS (exc_type hs)).here ?_))) (by intro q; cases q)
  refine codeAny_handlers_suite (tr_setFlight (A := A.mark (some (.ref ea))) (fr := none) hs.mark fun s₂ S₂ F₂ => ?_)
  have S₃ : St M.C M.S (A.mark (some (.ref ea))) B cs s₂ := S₂.tail.tail
  refine wpAny_mono ((h ea).it B s₂ S₃ trivial) (fun f s₃ hp => ?_) fun e s₃ hx => hx.none.elim
  have F₃ : Fut B ((ea, .exc cls (some T)) :: (T, .tb .none) :: cs) s B cs s₂ := F₂.perm (fun _ => Iff.rfl) fun a ha => .tail _ (.tail _ ha)
  exact Po.step F₃ hp.unmark⟩
theorem noted_backM {h : Option Value} {B₀ : FH} {s₀ s' : Shared} {e : Value} (hon : On A env) (hx : PoX M.C M.S (A.mark h) B₀ cs s₀ X e s') : notedBy (model M.prog M.w) (A.mark h) env (cameBackBy (model M.prog M.w) A env (PoX M.C M.S A B₀ cs s₀ X)) e s' := by
  obtain ⟨B', cs', c, ex, S', F', hx, hX⟩ := hx
  obtain ⟨ea, rfl⟩ := hx.isRef
  obtain ⟨L, outer, hfr, hf⟩ := (on_mark (h := h) hon).get S'
  refine tr_note hfr hf S' hx fun T s₁ S₁ F₁ => ?_
  obtain ⟨oe, vs, a0, he, hc, hd, h0, h1, h2⟩ := S₁.own (ea, .exc c (some T)) (.head _)
  show wpAny _ _ _ _ _ _
  refine wpAny_bind (wpAny_field he hd h1 ?_)
  rw [if_neg (show ¬ (((some T).elim Value.none Value.ref == Value.none) = true) from by simp)]
  rw [hf]
  refine tr_setFlight (A := A) (S₁.around rfl) fun s₂ S₂ F₂ => ?_
  exact ⟨B', cs', c, _, S₂, F'.trans (F₁.trans F₂), .held ea T L env outer hfr hf, hX⟩
theorem hb_takeX {cls ct : Value} {t : PySem.Expr} {b₀ : Stmt} {suite : List Stmt} {pos : Pos} {rest : List ExceptHandler} (hon : On A env) (hn : NameIs M env t ct) (hm : Mt M cls ct true)
    (h : ∀ ea T, EXs M (A.mark (some (.ref ea))) env (b₀ :: suite) (cs ++ [(ea, .exc cls (some T)), (T, .tb .none)]) PF X) : HB M A env (.ExceptHandler (some t) none (b₀ :: suite) pos :: rest) cls cs PF X := ⟨fun B s ea T hs => by
  refine wpAny_handleBy_cons (codeAny_handlers_test (hn _ s.heap _ _ _ hs.keepS ((hm s.heap ea hs.keepS (exc_type hs)).here ?_))) (by intro q; cases q)
  refine codeAny_handlers_suite (tr_setFlight (A := A.mark (some (.ref ea))) (fr := none) hs.mark fun s₂ S₂ F₂ => ?_)
  have pm : ((ea, MO.exc cls (some T)) :: (T, MO.tb .none) :: cs).Perm (cs ++ [(ea, .exc cls (some T)), (T, .tb .none)]) := List.perm_append_comm (l₁ := [(ea, MO.exc cls (some T)), (T, MO.tb .none)])
  have S₃ : St M.C M.S (A.mark (some (.ref ea))) B (cs ++ [(ea, .exc cls (some T)), (T, .tb .none)]) s₂ := S₂.perm pm
  have F₃ : Fut B ((ea, .exc cls (some T)) :: (T, .tb .none) :: cs) s B (cs ++ [(ea, .exc cls (some T)), (T, .tb .none)]) s₂ := F₂.perm (fun _ => Iff.rfl) fun a ha => ((pm.map Prod.fst).mem_iff.mpr ha)
  refine wpAny_mono ((h ea T).it B s₂ S₃ trivial) (fun f s₃ hp => Po.step F₃ hp.unmark) fun e s₃ hx => ?_
  exact noted_backM hon (PoX.step F₃ hx)⟩
end
end Mine

end
section
open PySem PySem.W PySem.W.X PyProof.Rows
set_option Elab.async false
set_option maxRecDepth 100000
set_option linter.unusedVariables false
namespace Mine
abbrev bmE : List Value := [.type "Exception", .type "BaseException", .type "object"]
/-- an exception class of the text's own -/
def ExcOk (h : Heap) (C : Addr) : Prop := ∃ tl N nm q bs hdct sn sub ab col dd k0 k1 k2 k3 k5 mN, h.get? C = some (excClassObj nm q C N bs tl hdct sn sub ab col dd k0 k1 k2 k3 k5 "Exception.__new__") ∧ h.Ns N mN ∧ mN "__init__" = none ∧ OwnTail h bmE tl
theorem excOk_of {K : Frag} {h : Heap} {C : Addr} (X : K.In h) (q : excIn K C bmE "Exception.__new__" = true) : ExcOk h C := by
  unfold excIn at q
  split at q
  · rename_i dd cd sl ho
    split at q
    · rename_i C' bm k0 k1 k2 k3 n k5 hm hs
      simp only [Bool.and_eq_true, beq_iff_eq, Bool.not_eq_true'] at q
      obtain ⟨⟨⟨⟨⟨rfl, rfl⟩, hdel⟩, ht⟩, hok⟩, hni⟩ := q
      obtain ⟨nm, bs, mro, ns, qn, hd, sn, sub, ab, col, del⟩ := cd
      dsimp only at hm hdel hok hni
      subst hm hdel
      have hsl : sl = #[k0, k1, k2, k3, some (.builtin "Exception.__new__"), k5] := by
        obtain ⟨l⟩ := sl
        simp only at hs
        rw [hs]
      subst hsl
      exact ⟨bm, ns, nm, qn, bs, hd, sn, sub, ab, col, dd, k0, k1, k2, k3, k5, _, X _ _ ho, .of_isNs (isNs_of_in X hok), nsMap_none_of_in X hok hni, tail_of_in X ht⟩
    · cases q
  · cases q
section
variable {M : Md} {A : Around} {cs : Cells} {X : Value → Cells → Prop} {env : Env} {PV : V → Cells → Prop} {PF : Fl → Cells → Prop} {PB : Bool → Cells → Prop} {B : FH} {s : Shared}

/-- something new is taken over -/
theorem St.adopt {e : Addr} {m : MO} (hs : St M.C M.S A B cs s) {s₀ : Shared} {cs₀ : Cells} {B₀ : FH} (F : Fut B₀ cs₀ s₀ B cs s) (hB : B e = none) (hnew : s₀.heap.get? e = none) (hn : e ∉ cs.ad) (hA : m.At M.C B s.heap e) (hnf : m.NoFrame) :
    St M.C M.S A B ((e, m) :: cs) s ∧ Fut B₀ cs₀ s₀ B ((e, m) :: cs) s := by
  refine ⟨⟨hs.keep, hs.stat, fun p hp => ?_, fun p hp => ?_, fun p hp => ?_, List.nodup_cons.mpr ⟨hn, hs.nd⟩, hs.frs, hs.bare⟩,
    ⟨F.mono, F.pres, F.newB, fun b hb => ?_, F.there, F.os, F.gens, F.gsz⟩⟩
  · rcases List.mem_cons.mp hp with rfl | hp
    · exact hA
    · exact hs.own p hp
  · rcases List.mem_cons.mp hp with rfl | hp
    · exact hnf
    · exact hs.nf p hp
  · rcases List.mem_cons.mp hp with rfl | hp
    · exact hB
    · exact hs.off p hp
  · rcases List.mem_cons.mp hb with rfl | hb
    · exact .inl hnew
    · exact F.newC b hb

/-- an own exception is made -/
theorem tr_newexc {C : Addr} {xs : List V} (hC : ∀ h : Heap, (∀ a o, M.S a = some o → h.get? a = some o) → ExcOk h C) (hl : xs.length ≤ 10) (h : ∀ ea, ea ∉ cs.ad → PV (.ref ea) (ins (ea, .exc (.ref C) none) cs)) : CL M A (.ref C) xs cs PV X := ⟨fun vs B s hs r => by
  obtain ⟨tl, N, nm, q, bs, hdct, sn, sub, ab, col, dd, k0, k1, k2, k3, k5, mN, hC, hN, hni, T⟩ := hC s.heap hs.keepS
  have hlen : vs.length ≤ sizeLine := by rw [r.length]; exact Nat.le_trans hl (by decide)
  refine wpAny_call_exc_subU (h := s.heap) (g := s.gens) (d := s.drawn) (t := s.toks) (os := s.os) (Bn := "Exception") (bmB := bmE) (C := C) (nm := nm) (q := q) (N := N) (bs := bs) (bm := tl) (hdct := hdct) (sn := sn) (sub := sub) (ab := ab) (col := col) (dd := dd) (k0 := k0) (k1 := k1) (k2 := k2) (k3 := k3) (k5 := k5)
    PySem.F.excBase_Exception (by decide) PySem.F.excBase_Exception T hC hN hni (fun h' e hm => ?_) hlen
  obtain ⟨S₁, F₁⟩ := hs.grow hm.keeps s.toks
  obtain ⟨t, he, ht, htt⟩ := hm.there
  have hne : e ∉ cs.ad := fun q => by obtain ⟨o, e'⟩ := hs.there q; rw [hm.new] at e'; cases e'
  obtain ⟨S₂, F₂⟩ := S₁.adopt (m := .exc (.ref C) none) F₁ (hs.B_none hm.new) hm.new hne ⟨_, _, _, he, rfl, rfl, rfl, rfl, by simp, fun q => by cases q⟩ trivial
  have pm := (ins_perm (e, MO.exc (.ref C) none) cs).symm
  exact ⟨B, _, _, S₂.perm pm, F₂.perm (fun _ => Iff.rfl) (fun a ha => ((pm.map Prod.fst).mem_iff.mpr ha)), .ref _, h e hne⟩⟩

theorem ex_try {body : List Stmt} {h₀ : ExceptHandler} {hs : List ExceptHandler} {pos : Pos} (hon : On A env) (h : EXs M A env body cs PF (fun cls c => HB M A env (h₀ :: hs) cls c PF X)) : EX M A env (.Try body (h₀ :: hs) [] [] pos) cs PF X := ⟨fun B s hst _ =>
  wpAny_Try_except (wpAny_mono (h.it B s hst trivial) (fun f s₁ ⟨B₁, c₁, fl, S₁, F₁, R₁, h₁⟩ => by
    cases R₁ with
    | next => exact wpAny_execs_nil ⟨B₁, c₁, .next, S₁, F₁, .next, h₁⟩
    | brk => exact ⟨B₁, c₁, .brk, S₁, F₁, .brk, h₁⟩
    | cont => exact ⟨B₁, c₁, .cont, S₁, F₁, .cont, h₁⟩
    | ret r => exact ⟨B₁, c₁, _, S₁, F₁, .ret r, h₁⟩) fun e s₁ ⟨B₁, c₁, cls, ex, S₁, F₁, hx, hb⟩ => by
    obtain ⟨ea, rfl⟩ := hx.isRef
    obtain ⟨L, outer, hfr, hf⟩ := hon.get S₁
    refine tr_note hfr hf S₁ hx fun T s₂ S₂ F₂ => ?_
    refine tr_setFlight (fr := none) S₂ fun s₃ S₃ F₃ => ?_
    exact wpAny_mono (hb.it B₁ s₃ ea T S₃) (fun _ _ => Po.step (F₁.trans (F₂.trans F₃))) fun _ _ => PoX.step (F₁.trans (F₂.trans F₃)))⟩

/-- what a raise asks of a class -/
structure ClsOk (M : Md) (C : Addr) : Prop where
  ty : ∀ h : Heap, (∀ a o, M.S a = some o → h.get? a = some o) → Looks (model M.prog M.w) h (typeOf (.ref C)) (.type "type")
  sub : ∀ h : Heap, (∀ a o, M.S a = some o → h.get? a = some o) → Looks (model M.prog M.w) h (isSubtype (.ref C) (.type "BaseException")) true
/-- what is handled while it is raised -/
inductive Hnd (A : Around) (cs : Cells) : Prop
  | none : A.handled = none → Hnd A cs
  | stop (eb Tb : Addr) : A.handled = some (.ref eb) → (eb, MO.exc (.type "StopIteration") (some Tb)) ∈ cs → Hnd A cs
theorem entry_unchain : entryFor table "proto.unchain" = some Builtin.«proto.unchain» := entryFor_of_tree (by kernel_rfl)
theorem ex_raise {x : PySem.Expr} {pos : Pos} (h : EV M A env x cs (fun u c => ∃ C ea c', u = .ref ea ∧ ClsOk M C ∧ Pick (ea, .exc (.ref C) none) c c' ∧ Hnd A c' ∧ X (.ref C) c') X) : EX M A env (.Raise (some x) none pos) cs PF X := ⟨fun B s hst _ => by
  rw [arm_exec_Raise]
  refine wpAny_bind (wpAny_standAt ?_)
  show wpAny _ _ (raiseStmt env (some (do let v ← eval x env; standAt pos; pure v)) none) _ _ _
  unfold raiseStmt
  refine wpAny_bind (wpAny_bind (wpAny_mono (h.it B s hst trivial) (fun v s₁ ⟨B₁, c₁, u, S₁, F₁, R₁, C, ea, c', hu, hC, hp, hH, hX⟩ => ?_) fun _ _ x => x))
  subst hu
  cases R₁
  refine wpAny_bind (wpAny_standAt (wpAny_pure ?_))
  have pm := hp.perm
  have S₂ := S₁.perm pm
  have F₂ : Fut B cs s B₁ ((ea, .exc (.ref C) none) :: c') s₁ := F₁.perm (fun _ => Iff.rfl) fun a ha => ((pm.map Prod.fst).mem_iff.mpr ha)
  obtain ⟨oe, vs, a0, he, hc, hd, h0, h1, h2⟩ := S₂.own (ea, .exc (.ref C) none) (.head _)
  have nt : ∀ {Q : Bool → Shared → Prop} {E : Value → Shared → Prop}, Q false s₁ → wpAny (model M.prog M.w) A (isType (.ref ea)) Q E s₁ := fun q => by
    unfold PySem.isType
    refine wpAny_bind (wpAny_loadPart he ?_)
    rw [hd]
    exact wpAny_pure q
  have tyE := typeOf_of (prog := M.prog) (w := M.w) he hc
  refine wpAny_bind (wpAny_pure (wpAny_bind (wpAny_holding ?_)))
  have sB := hC.sub s₁.heap S₁.keepS
  have hxc : wpAny (model M.prog M.w) A (excFromValue (.ref ea) "exceptions must derive from BaseException") (fun v s' => v = .ref ea ∧ s' = s₁) (fun _ _ => False) s₁ := by
    unfold excFromValue isExcClass
    refine wpAny_bind (wpAny_bind (nt ?_))
    simp only [Bool.false_eq_true, if_false]
    refine wpAny_pure ?_
    simp only [Bool.false_eq_true, if_false]
    refine wpAny_bind ((tyE.andThen sB : Looks _ _ (isInstance (.ref ea) (.type "BaseException")) true).here ?_)
    simp only [if_true]
    exact wpAny_pure ⟨rfl, rfl⟩
  refine wpAny_mono hxc (fun v s' ⟨hv, hs'⟩ => ?_) fun _ _ x => x.elim
  subst hv hs'
  dsimp only
  refine wpAny_bind (nt ?_)
  simp only [Bool.false_eq_true, if_false]
  refine wpAny_bind (m := raisedInstance (.ref ea)) ?_
  unfold raisedInstance
  refine wpAny_bind (tyE.here (wpAny_bind ((hC.ty _ S₁.keepS).here ?_)))
  simp only [beq_self_eq_true, if_true]
  refine wpAny_pure ?_
  refine wpAny_bind (m := setFlight (.ref ea) none) ?_
  unfold setFlight
  refine wpAny_bind (wpAny_field he hd h1 ?_)
  rw [if_neg (by decide)]
  refine wpAny_pure ?_
  unfold raiseNew
  refine wpAny_bind (wpAny_handled ?_)
  cases hH with
  | none hh =>
    rw [hh]
    exact wpAny_bind (wpAny_pure (wpAny_throw ⟨B₁, c', _, _, S₂, F₂, .new ea, hX⟩))
  | stop eb Tb hh hm =>
    rw [hh]
    dsimp only
    have hne : (Value.ref eb != Value.ref ea) = true := by
      have nd := (List.nodup_cons.mp S₂.nd).1
      have : eb ≠ ea := fun q => nd (by have := List.mem_map_of_mem (f := Prod.fst) hm; rw [q] at this; exact this)
      simpa using this
    rw [hne]
    simp only [if_true]
    obtain ⟨oh, vh, ah, hoh, hch, hdh, hh0, hh1, hh2⟩ := S₂.own (eb, .exc (.type "StopIteration") (some Tb)) (.tail _ hm)
    refine wpAny_bind ?_
    refine wpAny_holding (wpAny_runValue (codeAny_builtin entry_unchain ?_))
    show wpAny _ _ (field (.ref eb) 2 >>= _) _ _ _
    refine wpAny_bind (wpAny_field hoh hdh (hh2.2 rfl) ?_)
    rw [if_pos (by rfl)]
    refine wpAny_pure ?_
    show wpAny _ _ (setField (.ref ea) 2 (.ref eb) >>= fun _ => throw (.ref ea)) _ _ _
    have hsz : 2 < vs.size := h2.1
    refine wpAny_bind (wpAny_setField he hd hsz ?_)
    have hd₃ := Obj.data_mapFields hd (·.setIfInBounds 2 (Value.ref eb))
    have he₃ := Heap.get?_update_self (Obj.mapFields (·.setIfInBounds 2 (Value.ref eb))) he (Obj.isFreed_of_fields hd₃)
    obtain ⟨S₃, F₃⟩ := S₂.turn (o := .exc (.ref C) none) (o' := .exc (.ref C) none) .head (Heap.SameBut.update ..) ⟨_, _, a0, he₃, (Obj.cls_mapFields _ _).trans hc, hd₃, by rw [Array.getElem?_setIfInBounds_ne (by decide)]; exact h0, by rw [Array.getElem?_setIfInBounds_ne (by decide)]; exact h1, by simpa using h2.1, fun q => by cases q⟩ trivial
      (fun ob q => ⟨_, he₃, fun hD => by rw [he] at q; cases q; obtain ⟨es, ep, q⟩ := hD; rw [hd] at q; cases q⟩) s'.toks
    exact wpAny_throw ⟨B₁, c', _, _, S₃, F₂.trans F₃, .new ea, hX⟩⟩
end
end Mine

end
section
open PySem PySem.W PySem.W.X PyProof.Rows
set_option Elab.async false
set_option maxRecDepth 100000
set_option linter.unusedVariables false
namespace Mine
theorem kind_next : builtinKind "next" = none := by decide +kernel
theorem plain_next : plainId "next" = true := by decide +kernel
theorem entry_next : entryFor table "next" = some Builtin.«next» := entryFor_of_tree (by kernel_rfl)
theorem args_next (a : Value) : argsOk "next" ⟨[a], []⟩ := by unfold argsOk; kernel_rfl
theorem kind_iter : builtinKind "iter" = none := by decide +kernel
theorem plain_iter : plainId "iter" = true := by decide +kernel
theorem entry_iter : entryFor table "iter" = some Builtin.«iter» := entryFor_of_tree (by kernel_rfl)
theorem args_iter (a : Value) : argsOk "iter" ⟨[a], []⟩ := by unfold argsOk; kernel_rfl

section
variable {M : Md} {A : Around} {cs : Cells} {X : Value → Cells → Prop} {env : Env} {PV : V → Cells → Prop} {PF : Fl → Cells → Prop} {PB : Bool → Cells → Prop} {B : FH} {s : Shared}
/-- iter of a list that stays -/
theorem tr_iter_lst (TO : TagsOk M) {k : LK} {xs : List V} (h : ∀ I, I ∉ cs.ad → PV (.ref I) (ins (I, .it (.lst k xs) 0) cs)) : CL M A (.builtin "iter") [.lst k xs] cs PV X := ⟨fun vs B s hs r => by
  cases r with | cons r rs
  cases rs with | nil
  cases r with | @lst _ a d ws n _ e hd rs
  refine Calls.call_function_entry kind_iter plain_iter entry_iter (args_iter _) ?_
  show wpAny _ _ (do ret (← pyIter (.ref a))) _ _ s
  refine wpAny_bind (iter_seq TO hs.keepS (hs.keep _ _ e) ?_)
  have hit0 := Heap.get?_push_size s.heap (o := { cls := .type "list_iterator", data := .fields #[.ref a, .int (0 : Nat) 0] }) rfl
  obtain ⟨hn, S₂, F₂⟩ := hs.alloc (o := { cls := .type "list_iterator", data := .fields #[.ref a, .int (0 : Nat) 0] }) (m := .it (.lst k xs) 0) rfl ⟨a, .lst e hd rs, hit0⟩ trivial s.toks
  exact wpAny_pure ⟨_, rfl, B, _, _, S₂, F₂, .ref _, h _ hn⟩⟩
theorem tr_next_item {I : Addr} {k : LK} {xs : List V} {i : Nat} {u : V} {cs' : Cells} (U : Upd I (.it (.lst k xs) i) (.it (.lst k xs) (i + 1)) cs cs') (hx : xs[i]? = some u) (h : PV u cs') : CL M A (.builtin "next") [.ref I] cs PV X := ⟨fun vs B s hs r => by
  cases r with | cons r rs
  cases rs with | nil
  cases r with | ref
  obtain ⟨l, rl, hit⟩ := hs.own (I, .it (.lst k xs) i) U.mem
  cases rl with | @lst _ _ d ws n _ e hd rs
  obtain ⟨b, hb, rb⟩ := rs.get hx
  have hol := hs.keep _ _ e
  have hT : s.TypeIs (.ref I) "list_iterator" := ⟨_, hit, rfl⟩
  refine Calls.call_function_entry kind_next plain_next entry_next (args_next _) ?_
  unfold Builtin.«next»
  refine wpAny_bind (m := someArgs "next" 1 2 _) (wpAny_pure ?_)
  show wpAny _ _ (specialOf (.ref I) "__next__" >>= _) _ _ s
  refine wpAny_bind (wpAny_specialOf hT slot_listiter_next.lookup ?_)
  show wpAny _ _ (callSpecial? (.ref I) "__next__" >>= _) _ _ s
  refine wpAny_bind (wpAny_callSpecial?_slot (name := Str.ofString "__next__") hT slot_listiter_next
    (wpAny_call_entry slot_listiter_next hT entry_listiter_next ?_ (args_listiter_next _)))
  show wpAny _ _ (field (.ref I) 0 >>= _) _ _ s
  refine wpAny_bind (wpAny_field hit rfl (x := .ref l) rfl ?_)
  show wpAny _ _ (if (Value.ref l == Value.none) = true then _ else _) _ _ s
  rw [if_neg (show ¬ ((Value.ref l == Value.none) = true) from Bool.false_ne_true)]
  show wpAny _ _ (field (.ref I) 1 >>= _) _ _ s
  refine wpAny_bind (wpAny_field hit rfl (x := .int i 0) rfl ?_)
  show wpAny _ _ (seqItems? (.ref l) >>= _) _ _ s
  refine wpAny_bind (wpAny_seqItems hol rfl ?_)
  have hb' : ws.toArray[i]? = some b := by simpa using hb
  simp only [Int.toNat_natCast, hb']
  have he₂ : (s.heap.update I (Obj.mapFields (·.setIfInBounds 1 (rawInt ((i : Int) + 1))))).get? I = some ⟨.type "list_iterator", none, .fields #[.ref l, .int (i + 1 : Nat) 0], #[]⟩ := by
    rw [Heap.get?_update_self _ hit (by rfl)]
    simp [Obj.mapFields, rawInt]
  obtain ⟨S₁, F₁⟩ := hs.turn U (Heap.SameBut.update ..) ⟨l, .lst e hd rs, he₂⟩ trivial (fun ob q => ⟨_, he₂, fun hdd => by rw [hit] at q; cases q; obtain ⟨_, _, q⟩ := hdd; cases q⟩) s.toks
  refine wpAny_bind (wpAny_setField hit rfl (by simp) (wpAny_pure ⟨b, rfl, ?_⟩))
  exact wpAny_pure ⟨b, rfl, B, cs', u, S₁, F₁, rb, h⟩⟩
theorem tr_next_end (hh : A.handled = none) {I : Addr} {k : LK} {xs : List V} {i : Nat} {cs' : Cells} (hp : Pick (I, .it (.lst k xs) i) cs cs') (hx : xs[i]? = none) (h : X (.type "StopIteration") cs') : CL M A (.builtin "next") [.ref I] cs PV X := ⟨fun vs B s hs r => by
  cases r with | cons r rs
  cases rs with | nil
  cases r with | ref
  have pm := hp.perm
  have S₀ := hs.perm pm
  obtain ⟨l, rl, hit⟩ := S₀.own (I, .it (.lst k xs) i) (.head _)
  cases rl with | @lst _ _ d ws n _ e hd rs
  have hol := hs.keep _ _ e
  have hT : s.TypeIs (.ref I) "list_iterator" := ⟨_, hit, rfl⟩
  refine Calls.call_function_entry kind_next plain_next entry_next (args_next _) ?_
  unfold Builtin.«next»
  refine wpAny_bind (m := someArgs "next" 1 2 _) (wpAny_pure ?_)
  show wpAny _ _ (specialOf (.ref I) "__next__" >>= _) _ _ s
  refine wpAny_bind (wpAny_specialOf hT slot_listiter_next.lookup ?_)
  show wpAny _ _ (callSpecial? (.ref I) "__next__" >>= _) _ _ s
  refine wpAny_bind (wpAny_callSpecial?_slot (name := Str.ofString "__next__") hT slot_listiter_next
    (wpAny_call_entry slot_listiter_next hT entry_listiter_next ?_ (args_listiter_next _)))
  show wpAny _ _ (field (.ref I) 0 >>= _) _ _ s
  refine wpAny_bind (wpAny_field hit rfl (x := .ref l) rfl ?_)
  show wpAny _ _ (if (Value.ref l == Value.none) = true then _ else _) _ _ s
  rw [if_neg (show ¬ ((Value.ref l == Value.none) = true) from Bool.false_ne_true)]
  show wpAny _ _ (field (.ref I) 1 >>= _) _ _ s
  refine wpAny_bind (wpAny_field hit rfl (x := .int i 0) rfl ?_)
  show wpAny _ _ (seqItems? (.ref l) >>= _) _ _ s
  refine wpAny_bind (wpAny_seqItems hol rfl ?_)
  have hb' : ws.toArray[i]? = none := by
    rw [List.getElem?_toArray, List.getElem?_eq_none_iff, rs.length]
    exact List.getElem?_eq_none_iff.mp hx
  simp only [Int.toNat_natCast, hb']
  refine wpAny_bind (wpAny_rule (wpAny_bind (wpAny_setField hit rfl (by simp) ?_)))
  have he₂ : (s.heap.update I (Obj.mapFields (·.setIfInBounds 0 Value.none))).get? I = some ⟨.type "list_iterator", none, .fields #[.none, .int i 0], #[]⟩ := by
    rw [Heap.get?_update_self _ hit (by rfl)]
    simp [Obj.mapFields]
  obtain ⟨S₁, F₁⟩ := S₀.turn (o := .it (.lst k xs) i) (o' := .obj ⟨.type "list_iterator", none, .fields #[.none, .int i 0], #[]⟩) .head (Heap.SameBut.update ..) he₂ isD_no_fields (fun ob q => ⟨_, he₂, fun hdd => by rw [hit] at q; cases q; exact (isD_no_fields hdd).elim⟩) s.toks
  have F₀ : Fut B cs s B ((I, .obj ⟨.type "list_iterator", none, .fields #[.none, .int i 0], #[]⟩) :: cs') { s with heap := s.heap.update I (Obj.mapFields (·.setIfInBounds 0 Value.none)), toks := s.toks } :=
    F₁.perm (fun a => ((pm.map Prod.fst).mem_iff).symm) fun a ha => ha
  show wpAny _ _ (newExc (.type "StopIteration") [] >>= _) _ _ _
  refine wpAny_bind ?_
  simp only [newExc, newTuple]
  refine wpAny_bind (wpAny_newObj_type ?_ (by size_fits))
  refine wpAny_bind (m := firstArgMember _ _) (wpAny_of_eq (a := Value.none) (by first | rfl | (simp only [firstArgMember]; rfl)) ?_)
  refine wpAny_newObj_type ?_ (by size_fits)
  simp only [raiseNew]
  refine wpAny_bind (wpAny_handled ?_)
  rw [show A.in1.handled = none from hh]
  refine wpAny_bind (wpAny_pure (wpAny_throw ?_))
  generalize hH1 : s.heap.update I (Obj.mapFields (·.setIfInBounds 0 Value.none)) = H1 at *
  refine (?_ : ∀ (H2 : Heap) (e1 : Addr), H2.get? e1 = some { cls := .type "StopIteration", data := .fields (#[.ref H1.objs.size, .none, .none, .none, .bool false, .none] ++ ownMembersOf (.type "StopIteration") []) } → H1.get? e1 = none → (∀ b o, H1.get? b = some o → H2.get? b = some o) → PoX M.C M.S A B cs s X (.ref e1) { s with heap := H2 }) _ _ (Heap.get?_push_size _ rfl) ?_ (fun b o e => Heap.get?_push_of_some _ (Heap.get?_push_of_some _ e))
  · intro H2 e1 he1 hn1 hk
    obtain ⟨S₂, F₂⟩ := S₁.grow hk s.toks
    have hs0 : s.heap.get? e1 = none := by
      cases q : s.heap.get? e1 with
      | none => rfl
      | some o => obtain ⟨o', e'⟩ := F₀.there e1 o q; dsimp only at e'; rw [hn1] at e'; cases e'
    have hne : e1 ∉ Cells.ad ((I, MO.obj ⟨.type "list_iterator", none, .fields #[.none, .int i 0], #[]⟩) :: cs') := fun q => by obtain ⟨o, e'⟩ := S₁.there q; dsimp only at e'; rw [hn1] at e'; cases e'
    obtain ⟨S₃, F₃⟩ := S₂.adopt (e := e1) (m := .exc (.type "StopIteration") none) (F₀.trans F₂) (S₁.B_none hn1) hs0 hne ⟨_, _, _, he1, rfl, rfl, rfl, rfl, by simp [ownMembersOf], fun _ => rfl⟩ trivial
    refine ⟨B, cs', .type "StopIteration", _, (S₃.perm (.swap ..)).tail, F₃.perm (fun _ => Iff.rfl) (fun a ha => ?_), .new e1, h⟩
    rcases List.mem_cons.mp ha with rfl | ha
    · exact .head _
    · exact .tail _ (.tail _ ha)
  · rw [Heap.size_push]
    cases q : H1.get? (H1.objs.size + 1) with
    | none => rfl
    | some o => exact absurd (Heap.lt_size q) (Nat.not_lt.mpr (Nat.le_succ _))⟩
end
end Mine

end
section
open PySem PySem.W PySem.W.X PyProof.Rows
set_option Elab.async false
set_option maxRecDepth 100000
set_option linter.unusedVariables false
namespace Mine
section
variable {M : Md} {A : Around} {cs : Cells} {X : Value → Cells → Prop} {env : Env} {PV : V → Cells → Prop} {PF : Fl → Cells → Prop} {PB : Bool → Cells → Prop} {B : FH} {s : Shared}

/-- [..] that nobody will turn -/
theorem ev_list_fz {elts : List PySem.Expr} {pos : Pos} (h : AR M A env pos elts cs (fun xs cs₁ => xs.length ≤ 100 ∧ PV (.lst .list xs) cs₁) X) : EV M A env (.List elts pos) cs PV X := ⟨fun B s hs hp =>
  List_ (wpAny_mono (h.it B s hs trivial) (fun vs s₁ ⟨B₁, cs₁, x, S₁, F₁, R₁, hl, h₁⟩ => by
    obtain ⟨S₂, F₂, e, hle⟩ := S₁.freeze (o := { cls := .type "list", data := .seq vs.toArray }) rfl s₁.toks
    refine wpAny_newObj_type ?_ ?_
    · exact ⟨_, _, _, S₂, F₁.trans F₂, .lst (k := .list) e rfl (R₁.mono hle), h₁⟩
    · show vs.toArray.size ≤ sizeLine
      rw [List.size_toArray, R₁.length]; exact Nat.le_trans hl (by decide)) fun _ _ x => x)⟩
theorem op_add_list_fz {x y : V} {xs ys : List V} (hx : x = .lst .list xs ∨ ∃ a, x = .ref a ∧ (a, MO.lst .list xs) ∈ cs) (hy : y = .lst .list ys ∨ ∃ a, y = .ref a ∧ (a, MO.lst .list ys) ∈ cs) (hl : xs.length + ys.length ≤ 10000)
    (h : PV (.lst .list (xs ++ ys)) cs) : OB M A .Add x y cs PV X := ⟨fun a b B s hs ⟨r, r'⟩ => by
  have key : ∀ {x : V} {xs : List V} {v : Value}, (x = .lst .list xs ∨ ∃ a, x = .ref a ∧ (a, MO.lst .list xs) ∈ cs) → RV M.C B v x → ∃ l vs n d, v = .ref l ∧ s.heap.get? l = some ⟨.type "list", d, .seq vs.toArray n, #[]⟩ ∧ RVs M.C B vs xs := by
    rintro x xs v (rfl | ⟨a, rfl, hm⟩) r
    · cases r with | @lst _ a d vs n _ e hd rs => exact ⟨a, vs, n, d, rfl, hs.keep _ _ e, rs⟩
    · cases r with | ref
      obtain ⟨d, vs, n, e, _, rs⟩ := hs.own _ hm
      exact ⟨a, vs, n, d, rfl, e, rs⟩
  obtain ⟨l, vs, n, d, rfl, e, rs⟩ := key hx r
  obtain ⟨l', vs', n', d', rfl, e', rs'⟩ := key hy r'
  have h1 := rs.length
  have h2 := rs'.length
  have hsz : vs.toArray.size + vs'.toArray.size ≤ sizeLine := by rw [List.size_toArray, List.size_toArray, h1, h2]; exact Nat.le_trans hl (by decide)
  refine concat_meets ⟨_, e, rfl⟩ ⟨_, e', rfl⟩ noFill_list_add seq_list_add PySem.F.slot_list_add PySem.F.entry_list_add (PySem.F.args_list_add_2 _ _) (list_addW l l' vs.toArray vs'.toArray n n' d d' #[] #[] hsz) ⟨e, e', ?_⟩
  rw [show vs.toArray ++ vs'.toArray = (vs ++ vs').toArray by simp]
  obtain ⟨S₂, F₂, e₂, hle⟩ := hs.freeze (o := { cls := .type "list", data := .seq (vs ++ vs').toArray }) rfl s.toks
  exact ⟨_, _, _, S₂, F₂, .lst (k := .list) e₂ rfl ((rs.append rs').mono hle), h⟩⟩
/-- where a text stands in a list of texts -/
theorem tr_index_str {x : V} {xs : List Str} {y : Str} {j : Nat} (hx : x = .lst .list (xs.map .str) ∨ ∃ a, x = .ref a ∧ (a, MO.lst .list (xs.map .str)) ∈ cs) (hs1 : ∀ z ∈ xs, PyData.strOk z = true) (hs2 : PyData.strOk y = true) (hj : xs[j]? = some y) (hno : ∀ m z, m < j → xs[m]? = some z → z ≠ y) (hsm : j < 1000) (hu : A.units ≤ 1900) (h : PV (.int j) cs) :
    CL M A (.builtin "list.index") [x, .str y] cs PV X := ⟨fun vs B s hs r => by
  cases r with | cons r rs
  cases rs with | cons r' rs
  cases rs with | nil
  cases r' with | str _ t
  rename_i v0
  have key : ∃ l vs n d, v0 = Value.ref l ∧ s.heap.get? l = some ⟨.type "list", d, .seq vs.toArray n, #[]⟩ ∧ RVs M.C B vs (xs.map V.str) := by
    rcases hx with rfl | ⟨a, rfl, hm⟩
    · cases r with | @lst _ a d vs n _ e hd rs => exact ⟨a, vs, n, d, rfl, hs.keep _ _ e, rs⟩
    · cases r with | ref
      obtain ⟨d, vs, n, e, _, rs⟩ := hs.own _ hm
      exact ⟨a, vs, n, d, rfl, e, rs⟩
  obtain ⟨l, vs, n, d, rfl, e, rs⟩ := key
  have hl : vs.length = xs.length := by rw [rs.length]; simp
  have hat : ∀ m (hm : m < vs.toArray.size), ∃ z t', xs[m]? = some z ∧ vs.toArray[m] = .str z t' := fun m hm => by
    have hm' : m < xs.length := by rw [List.size_toArray] at hm; omega
    obtain ⟨b, hb, rb⟩ := rs.get (i := m) (a := .str xs[m]) (by simp [hm'])
    cases rb with | str _ t'
    exact ⟨xs[m], t', by simp, by simpa using (List.getElem?_eq_some_iff.mp hb).2⟩
  have hjl : j < vs.toArray.size := by rw [List.size_toArray, hl]; exact (List.getElem?_eq_some_iff.mp hj).1
  refine call_meets PySem.F.slot_list_index ⟨_, e, rfl⟩ PySem.F.entry_list_index (PySem.F.args_list_index_2 _ _) (SeqAt.list_indexAt l vs.toArray n d #[] (.str y t) (fun v => match v with | .str z _ => z == y | _ => false) j hjl (by omega) ?_ ?_) ⟨e, ?_, ?_⟩
  · obtain ⟨z, t', h1, h2⟩ := hat j hjl
    rw [h2]; rw [hj] at h1; cases h1; simp
  · intro m hm hlt
    obtain ⟨z, t', h1, h2⟩ := hat m hm
    rw [h2]
    simpa using hno m z hlt h1
  · intro v hv
    obtain ⟨m, hm, rfl⟩ := Array.mem_iff_getElem.mp hv
    obtain ⟨z, t', h1, h2⟩ := hat m hm
    rw [h2]
    have := SeqAt.eqAt_reads (.str z) (.str y) A.in1 s (.str z t') (.str y t) _ _ (.str z t') (.str y t) (by simpa [PyData.canLay0] using hs1 z (List.mem_of_getElem? h1)) (by simpa [PyData.canLay0] using hs2) (by show A.units + 1 + _ < 9900; simp [PyData.depth]; omega)
    simpa [PyData.eqv] using this
  · exact .tok hs (.int _ _) h⟩
theorem View.left {c r : Cells} : View M (c ++ r) c := fun A B s h => ⟨B, h.left, (Fut.refl ..).perm (fun _ => Iff.rfl) fun a ha => by rw [Cells.ad, List.map_append]; exact List.mem_append_left _ ha⟩
theorem View.picks {c c' r : Cells} (h : Picks c' c r) : View M c c' := (View.perm h.perm).trans View.left
theorem op_in2 {y a b : Str} (hy : PyData.strOk y = true) (ha : PyData.strOk a = true) (hb : PyData.strOk b = true) (hu : A.units ≤ 1900) (ht : (y = a ∨ y = b) → PV (.bool true) cs) (hf : ¬ (y = a ∨ y = b) → PV (.bool false) cs) :
    OC M A .In (.str y) (.lst .list [.str a, .str b]) cs PV X := by
  refine op_in_data (d := .str y) (es := [.str a, .str b]) (.fz rfl) (.fz (x := .lst .list [.str a, .str b]) rfl) ?_ ?_ hu ?_
  · simp [SeqAt.shaped, PyData.canLay0, PyData.depth, hy]
  · simp [SeqAt.shaped, PyData.canLay0, PyData.canLayAll0, PyData.depth, PyData.depthAll, ha, hb]
  · simp only [List.any_cons, List.any_nil, PyData.eqv, Bool.or_false]
    by_cases q : y = a ∨ y = b
    · have e : (a == y || b == y) = true := by rcases q with rfl | rfl <;> simp
      rw [e]; exact ht q
    · have e : (a == y || b == y) = false := by
        rw [not_or] at q
        rw [Bool.or_eq_false_iff, beq_eq_false_iff_ne, beq_eq_false_iff_ne]
        exact ⟨fun z => q.1 z.symm, fun z => q.2 z.symm⟩
      rw [e]; exact hf q
theorem IT.post {e : PySem.Expr} {Q : Bool → Cells → Prop} (h : IT M A env e cs PB X) (hp : ∀ x cs, PB x cs → Q x cs) : IT M A env e cs Q X := ⟨h.it.post hp⟩
/-- a test that leaves all as it is, told by a condition -/
theorem it_cut {e : PySem.Expr} (Cond : Prop) (h : IT M A env e cs (fun b c => c = cs ∧ (b = true ↔ Cond)) X) (ht : Cond → PB true cs) (hf : ¬ Cond → PB false cs) : IT M A env e cs PB X :=
  h.post fun b c ⟨e, hb⟩ => by
    subst e
    cases b with
    | true => exact ht (hb.mp rfl)
    | false => exact hf fun q => by have := hb.mpr q; cases this
theorem cp_lt_T {i j : Int} (h : i < j) (h' : PV (.bool true) cs) : OC M A .Lt (.int i) (.int j) cs PV X := op_lt_int (by rw [decide_eq_true h]; exact h')
theorem cp_lt_F {i j : Int} (h : ¬ i < j) (h' : PV (.bool false) cs) : OC M A .Lt (.int i) (.int j) cs PV X := op_lt_int (by rw [decide_eq_false h]; exact h')
theorem cp_eqs_T {i j : Str} (h : i = j) (h' : PV (.bool true) cs) : OC M A .Eq (.str i) (.str j) cs PV X := op_eq_str (by rw [beq_iff_eq.mpr h]; exact h')
theorem cp_eqs_F {i j : Str} (h : i ≠ j) (h' : PV (.bool false) cs) : OC M A .Eq (.str i) (.str j) cs PV X := op_eq_str (by rw [beq_eq_false_iff_ne.mpr h]; exact h')
theorem cp_eqi_T {i j : Int} (h : i = j) (h' : PV (.bool true) cs) : OC M A .Eq (.int i) (.int j) cs PV X := op_eq_int (by rw [beq_iff_eq.mpr h]; exact h')
theorem cp_eqi_F {i j : Int} (h : i ≠ j) (h' : PV (.bool false) cs) : OC M A .Eq (.int i) (.int j) cs PV X := op_eq_int (by rw [beq_eq_false_iff_ne.mpr h]; exact h')
theorem op_ne_str {i j : Str} (h : PV (.bool (i != j)) cs) : OC M A .NotEq (.str i) (.str j) cs PV X := ⟨fun a b B s hs ⟨r, r'⟩ => by
  cases r; cases r'
  refine PyProof.Rows.ne_str ?_
  exact .now hs (.bool _) h⟩
theorem cp_ne_str {i j : Str} (h : i = j → PV (.bool false) cs) (h' : i ≠ j → PV (.bool true) cs) : OC M A .NotEq (.str i) (.str j) cs PV X :=
  op_ne_str (by by_cases q : i = j; rw [bne_eq_false_iff_eq.mpr q]; exact h q; rw [bne_iff_ne.mpr q]; exact h' q)
theorem cp_nes_T {i j : Str} (h : i ≠ j) (h' : PV (.bool true) cs) : OC M A .NotEq (.str i) (.str j) cs PV X := op_ne_str (by rw [bne_iff_ne.mpr h]; exact h')
theorem cp_nes_F {i j : Str} (h : i = j) (h' : PV (.bool false) cs) : OC M A .NotEq (.str i) (.str j) cs PV X := op_ne_str (by rw [bne_eq_false_iff_eq.mpr h]; exact h')
theorem cp_ne_int {i j : Int} (h : i = j → PV (.bool false) cs) (h' : i ≠ j → PV (.bool true) cs) : OC M A .NotEq (.int i) (.int j) cs PV X :=
  op_ne_int (by by_cases q : i = j; rw [bne_eq_false_iff_eq.mpr q]; exact h q; rw [bne_iff_ne.mpr q]; exact h' q)
theorem meth_list {a : Addr} {xs : List V} {name : Str} {id : String} (hm : (a, MO.lst .list xs) ∈ cs) (slot : Slot "list" name id) (hty : typeOf (.builtin id) = pure (.type "method_descriptor")) : MethOk M A cs (.ref a) name (.builtin id) := fun pl B s v hs r Q E hQ => by
  cases r
  obtain ⟨d, vs, n, e, hd, rs⟩ := hs.own _ hm
  exact own_method e rfl (Looks.of_pure list_getattribute) canon_list_getattribute (Looks.of_pure list_getattr_none) (Looks.of_pure slot.lookup) (Looks.of_pure hty) (.inr rfl) (dk_ns hs hd) (hQ s.toks)
theorem View.of_eq {c c' : Cells} (e : c = c') : View M c c' := e ▸ View.refl c
theorem no_before {xs : List Str} {j : Nat} {y : Str} (h : (xs.take j).all (fun z => z != y) = true) : ∀ m z, m < j → xs[m]? = some z → z ≠ y := fun m z hm hz e => by
  have h1 : z ∈ xs.take j := List.mem_of_getElem? (i := m) (by rw [List.getElem?_take, if_pos hm]; exact hz)
  have := List.all_eq_true.mp h z h1
  rw [e] at this
  simp at this
end
end Mine

end
section
open PySem PySem.W PySem.W.X PyProof.Rows
set_option Elab.async false
set_option maxRecDepth 100000
set_option linter.unusedVariables false
namespace Mine
/-- the static part, by its parts -/
def KOf (M : Md) (K : Frag) : Prop := ∀ h : Heap, (∀ a o, M.S a = some o → h.get? a = some o) → K.In h
abbrev emptyD (n : Nat) : Obj := ⟨.type "dict", none, .dict #[] n, #[]⟩
section
variable {M : Md} {A : Around} {cs : Cells} {X : Value → Cells → Prop} {env : Env} {PV : V → Cells → Prop} {PF : Fl → Cells → Prop} {PB : Bool → Cells → Prop} {B : FH} {s : Shared} {K : Frag}

/-- a call, as code -/
structure CK (M : Md) (A : Around) (f : Value) (xs : List V) (cs : Cells) (P : V → Cells → Prop) (X : Value → Cells → Prop) : Prop where
  it : ∀ (vs : List Value) (B : FH) (s : Shared), St M.C M.S A B cs s → RVs M.C B vs xs → codeAny (model M.prog M.w) A (.call f ⟨vs, []⟩) (fun r s' => match r with | .ok (.ret v) => Po M.C M.S (RV M.C) A B cs s P v s' | .ok _ => False | .error e => PoX M.C M.S A B cs s X e s') s
theorem CK.cl {f : Value} {xs : List V} (h : CK M A f xs cs PV X) : CL M A f xs cs PV X := ⟨fun vs B s hs r => wpAny_call (h.it vs B s hs r)⟩

theorem cc_def {n : Nat} {f : Addr} {q : Str} {par : Arguments} {body : List Stmt} {sc : Scope} {clo : List (Str × Addr)} {cd dfl : Value} {xs args : List V} {names : List Str} (fit : Fit (n + 1) A)
    (hf : ∀ B : FH, M.S.le B → ∃ o, B f = some o ∧ FnIs o q par body sc clo cd dfl) (hcd : ∀ B : FH, M.S.le B → ∀ h : Heap, (∀ a o, B a = some o → h.get? a = some o) → h.CodeRec cd q)
    (hbind : ∀ (B : FH) (vs : List Value), RVs M.C B vs xs → M.S.le B → ∃ ws, RVs M.C B ws args ∧ ∀ h : Heap, (∀ a o, B a = some o → h.get? a = some o) → Looks (model M.prog M.w) h (bindArgs (bareFn q par dfl) ⟨vs, []⟩) (names.zip ws))
    (lim : ∀ h : Heap, (∀ a o, M.S a = some o → h.get? a = some o) → h.NoLimit)
    (nd : names.Nodup) (hlen : names.length ≤ args.length)
    (h : ∀ L, L ∉ cs.ad → EXs M (A.deeper (envFn sc L clo q f cd)) (envFn sc L clo q f cd) body ((L, .frame (names.zip args)) :: cs) (fun fl cs' => ∃ p cs'', cs' = p :: cs'' ∧ PV fl.val cs'') (fun c cs' => ∃ p cs'', cs' = p :: cs'' ∧ X c cs''))
    (hco : sc.isCoroutine = false := by kernel_rfl) (hgen : sc.isGenerator = false := by kernel_rfl) (hk : sc.kind = .function := by kernel_rfl)
    (hcell : ∀ x ∈ sc.names, x.2 ≠ .cell := by decide +kernel) (hloc : ∀ x ∈ names, sc.names.lookup x = some .local := by decide +kernel) :
    CK M A (.ref f) xs cs PV X := ⟨fun vs B s hs hr => by
  obtain ⟨o, ho, ⟨fd, hd, e1, e2, e3, e4, e5, e6, e7, e8, e9, e10⟩⟩ := hf B hs.stat
  have hcd' := hcd B hs.stat s.heap hs.keep
  obtain ⟨ws, hrw, hb'⟩ := hbind B vs hr hs.stat
  have hb' := hb' s.heap hs.keep
  refine codeAny_call_function fit.room (hs.keep _ _ ho) hd (by rw [e4]; exact hco) (by rw [e4]; exact hgen) e3 (by rw [e6, e1]; exact hcd') ?_
  rw [bindArgs_bare e1 e2 e9 e10, e4, e5, e6, e7, e8, e1]
  refine hb'.here (wpAny_newFunctionEnv hcell (fun x hx => hloc _ (List.of_mem_zip hx).1) (fun h' hns hsb => ?_) hk)
  have lim' : h'.NoLimit := (lim s.heap hs.keepS).fresh _ hsb
  obtain ⟨hn, S₁, F₁⟩ := hs.enter (env := envFn sc s.heap.objs.size clo q f cd) (t := s.toks + (names.zip ws).length) hrw nd hlen rfl (by show sc.kind ≠ _; rw [hk]; decide) rfl hns hsb
  refine ⟨lim', codeAny_func (wpAny_mono ((h _ hn).it B _ S₁ trivial) (fun fl s₂ ⟨B₂, cs₂, x, S₂, F₂, R₂, p, cs₃, e, h₂⟩ => ?_) fun x s₂ hx => ?_)⟩
  · subst e
    refine ⟨B₂, cs₃, x.val, S₂.leave, (F₁.trans F₂).drop, ?_, h₂⟩
    cases R₂ <;> first | exact .none | assumption
  · refine left_fn (on_deeper rfl) (PoX.step F₁ hx) fun B' cs' c ea T s₃ he S₃ F₃ ⟨p, cs'', hcs, hX⟩ => ?_
    subst he hcs
    have pm : ([(ea, MO.exc c (some T)), (T, MO.tb .none)] ++ p :: cs'').Perm (p :: ([(ea, MO.exc c (some T)), (T, MO.tb .none)] ++ cs'')) := List.perm_middle
    exact ⟨B', cs'', c, _, (S₃.perm pm).leave, (F₃.perm (cs₁' := p :: ([(ea, MO.exc c (some T)), (T, MO.tb .none)] ++ cs'')) (fun _ => Iff.rfl) fun a ha => ((pm.map Prod.fst).mem_iff.mpr ha)).drop, .traced ea T, hX⟩⟩

-- attributes
theorem ended_handed {v : Value} {x : V} (r : RV M.C B v x) (hb : ∀ n, x ≠ .bi n) : handedOut v = pure v := by cases r <;> first | rfl | exact absurd rfl (hb _)
/-- an instance, as the library sees it -/
structure Inst (M : Md) (cs : Cells) (x : V) (C : Addr) (sl : List (Option V)) : Prop where
  it : ∀ (A : Around) (B : FH) (s : Shared) (v : Value), St M.C M.S A B cs s → RV M.C B v x → ∃ a dd n vs, v = .ref a ∧ InstAt s.heap a ⟨.ref C, some dd, .plain, vs⟩ C (some (emptyD n)) ∧ ROs M.C B vs.toList sl
theorem inst_tag {c v : V} : Inst M cs (.tag c v) M.C.tag [some c, some v] := ⟨fun A B s v₀ hs r => by
  cases r with | @tag a d c' v' _ _ e hd r1 r2
  obtain ⟨dd, n, rfl, e'⟩ := hd
  exact ⟨a, dd, n, #[some c', some v'], rfl, ⟨hs.keep _ _ e, rfl, rfl, hs.keep _ _ e'⟩, .cons r1 (.cons r2 .nil)⟩⟩
theorem inst_own {a C : Addr} {sl : List (Option V)} (hm : (a, MO.inst C sl) ∈ cs) : Inst M cs (.ref a) C sl := ⟨fun A B s v₀ hs r => by
  cases r
  obtain ⟨d, vs, e, hd, r⟩ := hs.own _ hm
  obtain ⟨dd, n, rfl, e'⟩ := hd
  exact ⟨a, dd, n, vs, rfl, ⟨e, rfl, rfl, hs.keep _ _ e'⟩, r⟩⟩
theorem ROs.get {C : Cls} {vs : List (Option Value)} {sl : List (Option V)} (r : ROs C B vs sl) : ∀ {i : Nat} {u : V}, sl[i]? = some (some u) → ∃ v, vs[i]? = some (some v) ∧ RV C B v u := by
  induction r with
  | nil => intro i u e; simp at e
  | @cons v x _ _ r _ ih =>
    intro i u e
    cases i with
    | zero =>
      simp at e; subst e
      cases v with
      | none => exact r.elim
      | some v => exact ⟨v, rfl, r⟩
    | succ i => simpa using ih (by simpa using e)
/-- what a class says of one of its own fields -/
structure SlotOk (K : Frag) (C : Addr) (name : Str) (p i : Nat) : Prop where
  ga : findIn K (.ref C) "__getattribute__" = some (some (.builtin "object.__getattribute__"))
  find : ∀ n, findObj K C (some (emptyD n)) name = some (.bind (.builtin "member_descriptor.__get__") (.ref p))
  noga : findIn K (.ref C) "__getattr__" = some none
  slot : slotIn K p C = some i
theorem ga_slot (KK : KOf M K) {x : V} {C : Addr} {sl : List (Option V)} {name : Str} {p i : Nat} {u : V} (O : SlotOk K C name p i) (I : Inst M cs x C sl) (hu : sl[i]? = some (some u)) (hb : ∀ n, u ≠ .bi n) (h : PV u cs) : GA M A name x cs PV X := ⟨fun o B s hs r => by
  obtain ⟨a, dd, n, vs, rfl, I, ros⟩ := I.it A B s o hs r
  have X0 := KK s.heap hs.keepS
  obtain ⟨v, hv, rv⟩ := ros.get hu
  refine get_bind X0 I O.ga (O.find n) O.noga ?_
  refine wpAny_call (slot_get (s := { s with toks := s.toks + 1 }) (i := i) (v := v) X0 I O.slot (by rw [show (⟨.ref C, some dd, .plain, vs⟩ : Obj).slots = vs from rfl, ← Array.getElem?_toList, hv]; rfl) ?_)
  show wpAny _ _ (handedOut v) _ _ _
  rw [ended_handed rv hb]
  exact wpAny_pure (.tok hs rv h)⟩
/-- what a class says of a property -/
structure PropOk (K : Frag) (C : Addr) (name : Str) (p fget : Addr) : Prop where
  ga : findIn K (.ref C) "__getattribute__" = some (some (.builtin "object.__getattribute__"))
  find : ∀ n, findObj K C (some (emptyD n)) name = some (.bind (.builtin "property.__get__") (.ref p))
  noga : findIn K (.ref C) "__getattr__" = some none
  prop : ∃ rest, recIn K p "property" = some (.ref fget :: rest)
theorem ga_prop (KK : KOf M K) {x : V} {C : Addr} {sl : List (Option V)} {name : Str} {p fget : Addr} (O : PropOk K C name p fget) (I : Inst M cs x C sl) (hc : CK M A.in1 (.ref fget) [x] cs (fun u c => PV u c ∧ ∀ n, u ≠ .bi n) NoX) : GA M A name x cs PV X := ⟨fun o B s hs r => by
  obtain ⟨a, dd, n, vs, rfl, I, ros⟩ := I.it A B s o hs r
  have X0 := KK s.heap hs.keepS
  obtain ⟨rest, hp⟩ := O.prop
  refine get_bind X0 I O.ga (O.find n) O.noga ?_
  refine wpAny_call (prop_get (s := { s with toks := s.toks + 1 }) X0 hp ?_)
  have hs' : St M.C M.S A.in1 B cs { s with toks := s.toks + 1 } := (hs.toks _).around rfl
  refine codeAny_mono (hc.it [.ref a] B _ hs' (.cons r .nil)) (fun r₁ s₁ hr => ?_)
  match r₁, hr with
  | .ok (.ret v), ⟨B₁, c₁, u, S₁, F₁, R₁, h₁, hb⟩ =>
    show wpAny _ _ (handedOut v) _ _ _
    rw [ended_handed R₁ hb]
    have F₀ : Fut B cs s B₁ c₁ s₁ := ((Fut.refl B cs s).toks (s.toks + 1)).trans F₁
    exact wpAny_pure ⟨B₁, c₁, u, S₁.around rfl, F₀, R₁, h₁⟩
  | .error e, hx => exact hx.none.elim⟩
end
end Mine

end
section
open PySem PySem.W PySem.W.X PyProof.Rows
set_option Elab.async false
set_option maxRecDepth 100000
set_option linter.unusedVariables false
namespace Mine
/-- the room that the library's own line is given -/
def A0 (hd : Option Value) : Around := { handled := hd, depth := 500, frames := none, guards := none, units := 2000 }
theorem at_A0 {α : Type} {M : Model} {A : Around} {t : Sem α} {Q : α → Shared → Prop} {E : Value → Shared → Prop} {s : Shared} (hd : A.depth ≤ 500) (hu : A.units ≤ 2000) (h : wpAny M (A0 A.handled) t Q E s) : wpAny M A t Q E s := fun Γ p hΓ =>
  h Γ p ⟨hΓ.1, Nat.le_trans hΓ.2.1 hd, (fun _ q => by cases q), (fun _ q => by cases q), Nat.le_trans hΓ.2.2.2.2 hu⟩
section
variable {M : Md} {A : Around} {cs : Cells} {X : Value → Cells → Prop} {env : Env} {PV : V → Cells → Prop} {PF : Fl → Cells → Prop} {PB : Bool → Cells → Prop} {B : FH} {s : Shared}
/-- something new is frozen -/
theorem St.adoptB {e : Addr} {o : Obj} (hs : St M.C M.S A B cs s) {s₀ : Shared} {cs₀ : Cells} {B₀ : FH} (F : Fut B₀ cs₀ s₀ B cs s) (hB : B e = none) (hnew : s₀.heap.get? e = none) (hn : e ∉ cs.ad) (hA : s.heap.get? e = some o) (hf : ∀ l, A.frames = some l → ∀ en ∈ l, en.frame ≠ some e) :
    St M.C M.S A (B.add e o) cs s ∧ Fut B₀ cs₀ s₀ (B.add e o) cs s ∧ B.le (B.add e o) ∧ (B.add e o) e = some o := by
  have hle : B.le (B.add e o) := B.le_add hB
  refine ⟨⟨fun b ob q => ?_, hs.stat.trans hle, fun p hp => (hs.own p hp).mono hle, hs.nf, fun p hp => ?_, hs.nd, ?_, hs.bare⟩, ⟨F.mono.trans hle, F.pres, fun b hb => ?_, F.newC, F.there, F.os, F.gens, F.gsz⟩, hle, FH.add_self ..⟩
  · by_cases q' : b = e
    · subst q'; rw [FH.add_self] at q; cases q; exact hA
    · rw [FH.add_other _ _ q'] at q; exact hs.keep _ _ q
  · rw [FH.add_other _ _ (fun q => hn (by have := List.mem_map_of_mem (f := Prod.fst) hp; rw [q] at this; exact this))]
    exact hs.off p hp
  · obtain ⟨l, e', hl⟩ := hs.frs
    refine ⟨l, e', fun en hen => ?_⟩
    obtain ⟨hk, L, oL, h1, h2, h3, h4⟩ := hl en hen
    exact ⟨hk, L, oL, h1, by rw [FH.add_other _ _ (fun q => hf l e' en hen (by rw [h1, q]))]; exact h2, h3, h4⟩
  · by_cases q' : b = e
    · subst q'; exact .inr (.inl hnew)
    · rw [FH.add_other _ _ q'] at hb; exact F.newB b hb
theorem off_frames {e : Addr} (hs : St M.C M.S A B cs s) (h : s.heap.get? e = none) : ∀ l, A.frames = some l → ∀ en ∈ l, en.frame ≠ some e := fun l hl en hen q => by
  obtain ⟨l', e', hl'⟩ := hs.frs
  rw [hl] at e'; cases e'
  obtain ⟨hk, L, oL, h1, h2, h3, h4⟩ := hl' en hen
  rw [h1] at q; cases q
  rw [h] at h3; cases h3
/-- an instance of the text's tag class, made anew -/
theorem tag_new {h' : Heap} {a d : Addr} {n t : Nat} {cv vv : Value} {c v : V} (hs : St M.C M.S A B cs s) (hk : ∀ b o, s.heap.get? b = some o → h'.get? b = some o) (ha : h'.get? a = some ⟨.ref M.C.tag, some d, .plain, #[some cv, some vv]⟩) (hd : h'.get? d = some (emptyD n)) (hna : s.heap.get? a = none) (hnd : s.heap.get? d = none)
    (rc : RV M.C B cv c) (rv : RV M.C B vv v) (hP : PV (.tag c v) cs) : Po M.C M.S (RV M.C) A B cs s PV (.ref a) { s with heap := h', toks := t } := by
  obtain ⟨S₁, F₁⟩ := hs.grow hk t
  have nin : ∀ e, s.heap.get? e = none → e ∉ cs.ad := fun e he q => by obtain ⟨o, e'⟩ := hs.there q; rw [he] at e'; cases e'
  obtain ⟨S₂, F₂, l₂, e₂⟩ := S₁.adoptB F₁ (hs.B_none hnd) hnd (nin _ hnd) hd (off_frames hs hnd)
  have hne : a ≠ d := fun q => by subst q; rw [ha] at hd; cases hd
  obtain ⟨S₃, F₃, l₃, e₃⟩ := S₂.adoptB F₂ (by rw [FH.add_other _ _ hne]; exact hs.B_none hna) hna (nin _ hna) ha (off_frames hs hna)
  exact ⟨_, cs, _, S₃, F₃, .tag e₃ ⟨d, n, rfl, l₃ _ _ e₂⟩ ((rc.mono l₂).mono l₃) ((rv.mono l₂).mono l₃), hP⟩
end
end Mine

end
section
open PySem PySem.W PySem.W.X PyProof.Rows
set_option Elab.async false
set_option maxRecDepth 100000
set_option linter.unusedVariables false
namespace Mine
section
variable {M : Md} {A : Around} {cs : Cells} {X : Value → Cells → Prop} {env : Env} {PV : V → Cells → Prop} {PF : Fl → Cells → Prop} {PB : Bool → Cells → Prop} {B : FH} {s : Shared}
/-- a comprehension that maps -/
theorem ev_map0 {α : Type} (l : List α) (f g : α → V) {elt target iter : PySem.Expr} {scope : Scope} {cl : List (Str × Addr)} {pos : Pos} (TO : TagsOk M) (hd : A.handled = none) (hl : l.length ≤ 1000)
    (hclos : closureFor scope env = pure cl)
    (h : EV M A env iter cs (fun x c => Src c x (l.map f) ∧ (∀ C i, i ∈ l → AS M A (compEnvC scope cl C env) target (f i) ((C, .frame []) :: c) (fun c' => EV M A (compEnvC scope cl C env) elt c' (fun y c'' => y = g i ∧ ∃ loc, View M c'' ((C, .frame loc) :: c)) NoX) NoX) ∧
      (∀ D, PV (.ref D) ((D, .lst .list (l.map g)) :: c))) X)
    (hcell : ∀ y ∈ scope.names, y.2 ≠ .cell := by decide +kernel) (hkind : scope.kind = .function := by kernel_rfl)
    (hnames : ∀ x ∈ scope.names, x.2 = .local → scope.names.lookup x.1 = some .local := by decide +kernel)
    (hs : ∀ x, foldedSetIterable iter env x = pure x := by intro _; rfl) :
    EV M A env (.ListComp elt [⟨target, iter, [], 0⟩] scope pos) cs PV X := by
  refine ⟨fun B s hst hp => ?_⟩
  refine wpAny_mono (Q := fun v s' => Po M.C M.S (RV M.C) A B cs s PV v s') ?_ (fun _ _ x => x) fun _ _ x => x
  rw [eval_ListComp]
  refine wpAny_comprehension_free (use := none) rfl hs hclos hkind hnames (wpAny_mono (h.it B s hst trivial) (fun x₀ s₁ ⟨B₁, cs₁, x, S₁, F₁, R₁, hsrc, hturn, hend⟩ => ?_) fun _ _ e => e)
  obtain ⟨l', k, d, vs, n, rfl, e, rs⟩ := src_obj S₁ hsrc R₁
  refine iter_seq TO S₁.keepS e ?_
  have hit0 := Heap.get?_push_size s₁.heap (o := { cls := .type "list_iterator", data := .fields #[.ref l', .int (0 : Nat) 0] }) rfl
  obtain ⟨hn, S₂, F₂⟩ := S₁.alloc (o := { cls := .type "list_iterator", data := .fields #[.ref l', .int (0 : Nat) 0] }) (m := .iter l' 0) rfl hit0 trivial s₁.toks
  have pm : (ins (s₁.heap.objs.size, MO.iter l' 0) cs₁).Perm (cs₁ ++ [(s₁.heap.objs.size, MO.iter l' 0)]) := (ins_perm _ _).trans (List.perm_append_singleton _ _).symm
  generalize hI : s₁.heap.objs.size = I at *
  have S₂' := S₂.perm pm
  have F₂' : Fut B cs s B₁ (cs₁ ++ [(I, MO.iter l' 0)]) { s₁ with heap := s₁.heap.push { cls := .type "list_iterator", data := .fields #[.ref l', .int (0 : Nat) 0] } } :=
    F₁.trans (F₂.perm (fun _ => Iff.rfl) fun a ha => ((pm.map Prod.fst).mem_iff.mpr ha))
  have e0 : (l.map f).length - (l.map f).length = 0 := Nat.sub_self _
  refine comp_core (walk_list (M := M) (A := A) (target := target) (l := l') (I := I) (x := x) (xs := l.map f) hd) (B := B₁) (B₀ := B) (s₀ := s) (cs₀ := cs) (fun rem done c => c = cs₁ ∧ ∃ a b, l = a ++ b ∧ rem = b.map f ∧ done = a.map g)
    (fun B' s' cs' S' Q E hQ => ?_) (fun B' rem done cs' C D hle hi => ?_) (fun rem done cs' ⟨_, a, b, e1, e2, e3⟩ => by subst e3; rw [e1] at hl; simp at hl ⊢; omega) (fun C u rem done cs' ⟨hc, a, b, e1, e2, e3⟩ => ?_) (fun done cs' ⟨hc, a, b, e1, e2, e3⟩ D => ?_) ⟨rfl, [], l, rfl, rfl, rfl⟩ (by rw [e0]; exact S₂') (by rw [e0]; exact F₂') hcell hkind
  · have hit := S'.own (I, .iter l' ((l.map f).length - (l.map f).length)) (List.mem_append_right _ (.head _))
    exact wpAny_pyIter_listiter ⟨_, hit, rfl, rfl⟩ hQ
  · obtain ⟨rfl, a, b, e1, e2, e3⟩ := hi
    refine ⟨?_, R₁.mono hle, ⟨a.map f, by rw [e1, e2, List.map_append]⟩⟩
    generalize hxs : l.map f = xs at hsrc ⊢
    cases hsrc with
    | lst k => exact .lst k _
    | own a k _ hm => exact .own a k _ (.tail _ (.tail _ hm))
  · subst hc
    cases b with
    | nil => cases e2
    | cons i b =>
      rw [List.map_cons] at e2
      obtain ⟨rfl, rfl⟩ := List.cons.inj e2
      refine ⟨fun v => Tr.mono ((hturn C i (by rw [e1]; simp)).it v) (fun _ c' h => ⟨Tr.mono h.it (fun y c'' ⟨hy, loc, hv⟩ => ?_) fun _ _ x => x⟩) fun _ _ x => x⟩
      exact ⟨loc, _, hv, rfl, a ++ [i], b, by rw [e1]; simp, rfl, by rw [e3, hy]; simp⟩
  · subst hc
    have : b = [] := by cases b with | nil => rfl | cons _ _ => cases e2
    subst this
    rw [List.append_nil] at e1
    subst e1 e3
    exact hend D
theorem ev_map {α : Type} (l : List α) (f g : α → V) {elt target iter : PySem.Expr} {scope : Scope} {cl : List (Str × Addr)} {pos : Pos} (TO : TagsOk M) (hd : A.handled = none) (hl : l.length ≤ 1000)
    (hclos : closureFor scope env = pure cl)
    (h : EV M A env iter cs (fun x c => Src c x (l.map f) ∧ (∀ C i, i ∈ l → AS M A (compEnvC scope cl C env) target (f i) ((C, .frame []) :: c) (fun c' => EV M A (compEnvC scope cl C env) elt c' (fun y c'' => y = g i ∧ ∃ loc, View M c'' ((C, .frame loc) :: c)) NoX) NoX) ∧
      (∀ D, PV (.ref D) (ins (D, .lst .list (l.map g)) c))) X)
    (hcell : ∀ y ∈ scope.names, y.2 ≠ .cell := by decide +kernel) (hkind : scope.kind = .function := by kernel_rfl)
    (hnames : ∀ x ∈ scope.names, x.2 = .local → scope.names.lookup x.1 = some .local := by decide +kernel)
    (hs : ∀ x, foldedSetIterable iter env x = pure x := by intro _; rfl) :
    EV M A env (.ListComp elt [⟨target, iter, [], 0⟩] scope pos) cs PV X :=
  EV.viewV (ev_map0 l f g TO hd hl hclos (h.post fun x c ⟨h1, h2, h3⟩ => ⟨h1, h2, fun D => ⟨_, _, .of (View.perm (ins_perm _ _).symm), h3 D⟩⟩) hcell hkind hnames hs)
end
end Mine

end
section
open PySem PySem.W PySem.W.X PyProof.Rows
set_option Elab.async false
set_option maxRecDepth 100000
set_option linter.unusedVariables false
namespace Mine
section
variable {M : Md} {A : Around} {cs : Cells} {X : Value → Cells → Prop} {env : Env} {PV : V → Cells → Prop} {PF : Fl → Cells → Prop} {PB : Bool → Cells → Prop} {PU : Unit → Cells → Prop} {B : FH} {s : Shared}

theorem cell_some {c : Addr} {u : V} (hs : St M.C M.S A B cs s) (hm : (c, MO.cell (some u)) ∈ cs) : ∃ v, s.heap.IsCell c (some v) ∧ RV M.C B v u := by
  obtain ⟨o, v', e, hd, r⟩ := hs.own _ hm
  cases v' with
  | none => exact r.elim
  | some v => exact ⟨v, ⟨o, e, hd⟩, r⟩
/-- a name that a cell holds -/
theorem ev_cell {x : Str} {pos : Pos} {c : Addr} {u : V} (hc : env.cells.lookup x = some c) (hm : (c, MO.cell (some u)) ∈ cs) (h : PV u cs)
    (hk : env.scope.kind = .function := by rfl) (hl : env.kindOf x = some .cell := by kernel_rfl) (hd : (x == ("__debug__" : Str)) = false := by kernel_rfl) : EV M A env (.Name x pos) cs PV X := ⟨fun B s hs _ => by
  obtain ⟨v, hv, r⟩ := cell_some hs hm
  exact wpAny_Name (wpAny_loadName_cell hk hl hc hv (.now hs r h)) hd⟩
theorem ev_free {x : Str} {pos : Pos} {c : Addr} {u : V} (hc : env.cells.lookup x = some c) (hm : (c, MO.cell (some u)) ∈ cs) (h : PV u cs)
    (hk : env.scope.kind = .function := by rfl) (hl : env.kindOf x = some .free := by kernel_rfl) (hd : (x == ("__debug__" : Str)) = false := by kernel_rfl) (hn : (x == ("__classdict__" : Str)) = false := by kernel_rfl) : EV M A env (.Name x pos) cs PV X := ⟨fun B s hs _ => by
  obtain ⟨v, hv, r⟩ := cell_some hs hm
  exact wpAny_Name (wpAny_loadName_free hk hl hc hv (.now hs r h) hn) hd⟩
theorem tr_store_cell {pre : FH → Prop} {x : Str} {v : Value} {u : V} {c : Addr} {o0 : Option V} {cs' : Cells} (hc : env.cells.lookup x = some c) (U : Upd c (.cell o0) (.cell (some u)) cs cs') (hv : ∀ B, pre B → RV M.C B v u) (h : PU () cs')
    (hk : env.scope.kind = .function := by rfl) (hl : env.kindOf x = some .cell := by kernel_rfl) : Tr M.C M.S M.prog M.w pre RU A (storeName env x v) cs PU X := fun B s hs hp => by
  obtain ⟨o, v', e, hd, r⟩ := hs.own _ U.mem
  refine wpAny_storeName_cell hk hl hc ⟨o, e, hd⟩ fun h' ⟨o', e', hd'⟩ hsb => ?_
  obtain ⟨S', F'⟩ := hs.turn U hsb ⟨o', some v, e', hd', hv B hp⟩ trivial (fun ob q => ⟨o', e', fun hD => by rw [e] at q; cases q; obtain ⟨_, _, q⟩ := hD; rw [hd] at q; cases q⟩) s.toks
  exact ⟨B, cs', (), S', F', trivial, h⟩
/-- a name is given a value -/
structure AN (M : Md) (A : Around) (env : Env) (x : Str) (u : V) (cs : Cells) (P : Cells → Prop) (X : Value → Cells → Prop) : Prop where
  it : ∀ v, Tr M.C M.S M.prog M.w (fun B => RV M.C B v u) RU A (storeName env x v) cs (fun _ cs => P cs) X
theorem an_local {x : Str} {u : V} {loc loc' : Loc} {r : Cells} {P : Cells → Prop} (hU : LocSet x u loc loc') (h : P ((env.locals, .frame loc') :: r))
    (hl : env.kindOf x = some .local := by kernel_rfl) (hp : (env.scope.kind == .class || (env.scope.kind == .module && env.locals != env.globals)) = false := by rfl) :
    AN M A env x u ((env.locals, .frame loc) :: r) P X := ⟨fun v => tr_store (M := M) (pre := fun B => RV M.C B v u) (PU := fun _ cs => P cs) (X := X) (fun _ h => h) hU h hl hp⟩
theorem an_cell {x : Str} {u : V} {c : Addr} {o0 : Option V} {cs' : Cells} {P : Cells → Prop} (hc : env.cells.lookup x = some c) (U : Upd c (.cell o0) (.cell (some u)) cs cs') (h : P cs')
    (hk : env.scope.kind = .function := by rfl) (hl : env.kindOf x = some .cell := by kernel_rfl) : AN M A env x u cs P X := ⟨fun v => tr_store_cell (M := M) (pre := fun B => RV M.C B v u) (PU := fun _ cs => P cs) (X := X) hc U (fun _ h => h) h hk hl⟩
theorem as_name' {x : Str} {p' : Pos} {u : V} {P : Cells → Prop} (h : AN M A env x u cs P X) : AS M A env (.Name x p') u cs P X := ⟨fun v B s hs hv => wpAny_assign_Name (h.it v B s hs hv)⟩
/-- an assignment to a name, by its target -/
theorem ex_assign_n {x : Str} {p' pos : Pos} {value : PySem.Expr} (h : EV M A env value cs (fun u c => AN M A env x u c (fun c' => PF .next c') X) X)
    (hs : swapsWith value (some (.Name x p')) pos.line env = pure false := by rfl) : EX M A env (.Assign [.Name x p'] value pos) cs PF X := ⟨fun B s hst _ =>
  wpAny_Assign_Name (wpAny_mono (h.it B s hst trivial) (fun v s₁ ⟨B₁, c₁, u, S₁, F₁, R₁, h₁⟩ =>
    wpAny_mono (h₁.it v B₁ s₁ S₁ R₁) (fun _ s₂ ⟨B₂, c₂, _, S₂, F₂, _, h₂⟩ => ⟨B₂, c₂, .next, S₂, F₁.trans F₂, .next, h₂⟩) fun _ _ => PoX.step F₁) fun _ _ x => x) hs⟩

/-- the cells of a frame, empty -/
def cellsOf (l : List (Str × Addr)) (cv : Str → Option V) : Cells := l.map fun p => (p.2, .cell (cv p.1))
theorem St.enterCells {B : FH} {s s1 : Shared} (hs : St M.C M.S A B cs s) {L : Addr} {env : Env} {m cm : Str → Option Value} {loc : Loc} {cl : List (Str × Addr)} {cv : Str → Option V} (x : InCallC s L m cl cm s1) (hL : L = s.heap.objs.size) (hkm : env.scope.kind ≠ .module) (hfr : env.frame = some L)
    (nd : (loc.map Prod.fst).Nodup) (hloc : ∀ p ∈ loc, ∃ v, m p.1 = some v ∧ RV M.C B v p.2) (hcn : (cl.map Prod.fst).Nodup) (hcv : ∀ n c, cl.lookup n = some c → RO M.C B (cm n) (cv n)) :
    L ∉ cs.ad ∧ St M.C M.S (A.deeper env) B ((L, .frame loc) :: (cellsOf cl cv ++ cs)) s1 ∧ Fut B cs s B ((L, .frame loc) :: (cellsOf cl cv ++ cs)) s1 := by
  obtain ⟨⟨⟨h1, tk, rfl⟩, hns, hk, hfresh⟩, hcell, hap, hab⟩ := x
  subst hL
  have hnew : s.heap.objs.size ∉ cs.ad := fun h => hs.ne_size h rfl
  have big : ∀ a : Nat, s.heap.objs.size ≤ a → s.heap.get? a = none := fun a ha => by
    cases q : s.heap.get? a with
    | none => rfl
    | some o => exact absurd (Heap.lt_size q) (Nat.not_lt.mpr ha)
  have hcad : Cells.ad (cellsOf cl cv) = cl.map Prod.snd := by simp [Cells.ad, cellsOf, Function.comp_def]
  have hcin : ∀ a ∈ cl.map Prod.snd, s.heap.objs.size < a := fun a ha => by
    obtain ⟨p, hp, rfl⟩ := List.mem_map.mp ha
    exact hab p.1 p.2 hp
  have hfin : ∀ a ∈ Cells.ad ((s.heap.objs.size, MO.frame loc) :: (cellsOf cl cv ++ cs)), s.heap.get? a = none ∨ a ∈ cs.ad := fun a ha => by
    rw [Cells.ad, List.map_cons, List.map_append] at ha
    rcases List.mem_cons.mp ha with rfl | ha
    · exact .inl (size_none _)
    · rcases List.mem_append.mp ha with ha | ha
      · have : a ∈ Cells.ad (cellsOf cl cv) := ha
        rw [hcad] at this
        exact .inl (big a (Nat.le_of_lt (hcin a this)))
      · exact .inr ha
  refine ⟨hnew, ⟨fun b ob e => hk b ob (hs.keep b ob e), hs.stat, fun p hp => ?_, fun p hp => ?_, fun p hp => ?_, ?_, ?_, hs.bare⟩,
    ⟨.refl _, fun b ob e _ => .inl (hk b ob e), fun _ h => .inl h, hfin, fun b ob e => ⟨ob, hk b ob e⟩, rfl, fun _ _ => rfl, Nat.le_refl _⟩⟩
  · rcases List.mem_cons.mp hp with rfl | hp
    · exact ⟨nd, m, hns, hloc⟩
    · rcases List.mem_append.mp hp with hp | hp
      · obtain ⟨⟨n, c⟩, hq, rfl⟩ := List.mem_map.mp hp
        have hlk : cl.lookup n = some c := lookup_of_mem hcn hq
        obtain ⟨o, e, hd⟩ := hcell n c hlk
        exact ⟨o, _, e, hd, hcv n c hlk⟩
      · exact (hs.own p hp).same (fun o e => .inl (hk _ _ e)) (hs.nf p hp)
  · rcases List.mem_cons.mp hp with rfl | hp
    · trivial
    · rcases List.mem_append.mp hp with hp | hp
      · obtain ⟨⟨n, c⟩, hq, rfl⟩ := List.mem_map.mp hp
        trivial
      · exact hs.nf p hp
  · rcases List.mem_cons.mp hp with rfl | hp
    · exact hs.B_none (size_none _)
    · rcases List.mem_append.mp hp with hp | hp
      · obtain ⟨⟨n, c⟩, hq, rfl⟩ := List.mem_map.mp hp
        exact hs.B_none (big _ (Nat.le_of_lt (hab n c hq)))
      · exact hs.off p hp
  · rw [Cells.ad, List.map_cons, List.map_append, List.nodup_cons, List.nodup_append]
    have hc' : List.map Prod.fst (cellsOf cl cv) = cl.map Prod.snd := hcad
    rw [hc']
    refine ⟨fun hm => ?_, ?_, hs.nd, fun a ha b hb e => ?_⟩
    · rcases List.mem_append.mp hm with hm | hm
      · exact Nat.lt_irrefl _ (hcin _ hm)
      · exact hnew hm
    · rw [List.Nodup, List.pairwise_map]; exact hap
    · subst e
      obtain ⟨o, e'⟩ := hs.there hb
      exact Nat.lt_asymm (Heap.lt_size e') (hcin _ ha)
  · obtain ⟨l, e, hl⟩ := hs.frs
    refine ⟨env :: l, by show A.frames.map _ = _; rw [e]; rfl, fun en hen => ?_⟩
    rcases List.mem_cons.mp hen with rfl | hen
    · obtain ⟨ob, e', hd⟩ := isD_ns hns
      exact ⟨hkm, _, ob, hfr, hs.B_none (size_none _), e', hd⟩
    · obtain ⟨hk', L, oL, h1, h2, h3, h4⟩ := hl en hen
      exact ⟨hk', L, oL, h1, h2, hk _ _ h3, h4⟩
end
end Mine

end
section
open PySem PySem.W PySem.W.X PyProof.Rows
set_option Elab.async false
set_option maxRecDepth 100000
set_option linter.unusedVariables false
namespace Mine
/-- a code object, by its name -/
abbrev codeP (q : Str) : Obj → Prop := fun o => ∃ vs t, o.data = .fields vs ∧ vs[1]? = some (.str q t)
section
variable {M : Md} {A : Around} {cs : Cells} {X : Value → Cells → Prop} {env : Env} {PV : V → Cells → Prop} {PF : Fl → Cells → Prop} {PB : Bool → Cells → Prop} {PU : Unit → Cells → Prop} {B : FH} {s : Shared}

/-- an owned object turned, and new things beside -/
theorem St.turnExt {a : Addr} {o o' : MO} {h' : Heap} (hs : St M.C M.S A B ((a, o) :: cs) s) (hx : Heap.ExtBut a s.heap h') (hA : o'.At M.C B h' a) (hn : o'.NoFrame) (hd : ∀ ob, s.heap.get? a = some ob → ¬ IsD ob) (t : Nat) :
    St M.C M.S A B ((a, o') :: cs) { s with heap := h', toks := t } ∧ Fut B ((a, o) :: cs) s B ((a, o') :: cs) { s with heap := h', toks := t } := by
  have nd := List.nodup_cons.mp hs.nd
  have hne : ∀ p ∈ cs, p.1 ≠ a := fun p hp q => nd.1 (by have := List.mem_map_of_mem (f := Prod.fst) hp; rw [q] at this; exact this)
  have hBa : B a = none := hs.off (a, o) (.head _)
  have hB : ∀ b ob, B b = some ob → b ≠ a := fun b ob e q => by subst q; rw [hBa] at e; cases e
  refine ⟨⟨fun b ob e => hx b ob (hB b ob e) (hs.keep b ob e), hs.stat, fun p hp => ?_, fun p hp => ?_, fun p hp => ?_, hs.nd, ?_, hs.bare⟩,
    ⟨.refl _, fun b ob e hb => .inl (hx b ob (fun q => hb (q ▸ .head _)) e), fun _ h => .inl h, fun _ h => .inr h, fun b ob e => ?_, rfl, fun _ _ => rfl, Nat.le_refl _⟩⟩
  · rcases List.mem_cons.mp hp with rfl | hp
    · exact hA
    · exact (hs.own p (.tail _ hp)).same (fun ob e => .inl (hx _ _ (hne p hp) e)) (hs.nf p (.tail _ hp))
  · rcases List.mem_cons.mp hp with rfl | hp
    · exact hn
    · exact hs.nf p (.tail _ hp)
  · rcases List.mem_cons.mp hp with rfl | hp
    · exact hBa
    · exact hs.off p (.tail _ hp)
  · obtain ⟨l, e, hl⟩ := hs.frs
    refine ⟨l, e, fun en hen => ?_⟩
    obtain ⟨hk, L, oL, h1, h2, h3, h4⟩ := hl en hen
    exact ⟨hk, L, oL, h1, h2, hx _ _ (fun q => hd oL (q ▸ h3) h4) h3, h4⟩
  · by_cases q : b = a
    · subst q; exact hA.there
    · exact ⟨ob, hx b ob q e⟩

/-- def within a def -/
theorem ex_def {name : Str} {params : Arguments} {body : List Stmt} {scope : Scope} {pos : Pos} {c P : Addr} {ps : Array Value} {clos : List (Str × Addr)} {mg mb : Str → Option Value} {p0 : Addr × MO} {r0 : Cells} (G : Gl M.S mg mb)
    (BA : ∀ h : Heap, (∀ a o, M.S a = some o → h.get? a = some o) → h.BuiltinsAt mg P) (CH : ∀ h : Heap, (∀ a o, M.S a = some o → h.get? a = some o) → CodeHd h c P)
    (hp : Pick (P, .obj (tabObj ps)) cs (p0 :: r0)) (ht : TriplesOk ps.toList) (hnf : codeAmong pos ps.toList = none) (hgP : mainGlobals ≠ P) (hcl : closureFor scope env = pure clos)
    (h : ∀ c' f, AN M A env name (.ref f) (p0 :: (P, .obj (tabObj (ps ++ #[rawInt pos.line, rawInt pos.col, .ref c']))) :: (c', .p (codeP (qualnameIn env name name))) :: (f, .p (fun o => FnIs o (qualnameIn env name name) params body scope clos (.ref c') .none)) :: r0) (fun cs' => PF .next cs') X)
    (hcode : env.code = .ref c := by rfl) (hge : env.globals = mainGlobals := by rfl) (hd0 : params.defaults = [] := by rfl) (hk0 : params.kw_defaults = [] := by rfl) (ha : annTrees params none env = [] := by rfl) :
    EX M A env (.FunctionDef name params body [] none [] scope none name pos) cs PF X := ⟨fun B s hst _ => by
  refine nestDef_K hd0 hk0 ha ?_
  have pm := hp.perm
  have S₀ := hst.perm pm
  have hP : s.heap.get? P = some (tabObj ps) := S₀.own (P, .obj (tabObj ps)) (.head _)
  refine makeFunction_K hcl hge (G.g _ hst.keepS) hcode (CH _ hst.keepS) hP ht hnf hgP (BA _ hst.keepS) fun c' ctv doc h' tk hx hge' hlt hrec htb => ?_
  obtain ⟨S₁, F₁⟩ := S₀.turnExt (o' := .obj (tabObj (ps ++ #[rawInt pos.line, rawInt pos.col, .ref c']))) hx htb isD_no_fields (fun ob q => by rw [hP] at q; cases q; exact isD_no_fields) tk
  have F₁' : Fut B cs s B ((P, .obj (tabObj (ps ++ #[rawInt pos.line, rawInt pos.col, .ref c']))) :: p0 :: r0) { s with heap := h', toks := tk } := F₁.perm (fun a => ((pm.map Prod.fst).mem_iff).symm) fun a ha => ha
  have big : ∀ a : Nat, s.heap.objs.size ≤ a → s.heap.get? a = none := fun a ha => by
    cases q : s.heap.get? a with
    | none => rfl
    | some o => exact absurd (Heap.lt_size q) (Nat.not_lt.mpr ha)
  have nin : ∀ a, s.heap.get? a = none → a ∉ Cells.ad ((P, MO.obj (tabObj (ps ++ #[rawInt pos.line, rawInt pos.col, .ref c']))) :: p0 :: r0) := fun a ha hm => by
    have : a ∈ Cells.ad ((P, MO.obj (tabObj ps)) :: p0 :: r0) := hm
    obtain ⟨o, e⟩ := S₀.there this
    rw [ha] at e; cases e
  obtain ⟨a0, oc, vs, t, he0, hoc, hd, hv⟩ := hrec
  cases he0
  obtain ⟨S₂, F₂⟩ := S₁.adopt (e := c') (m := .p (codeP (qualnameIn env name name))) F₁' (hst.B_none (big c' hge')) (big c' hge') (nin c' (big c' hge')) ⟨oc, hoc, ⟨vs, t, hd, hv⟩, fun ⟨_, _, q⟩ => by rw [hd] at q; cases q⟩ trivial
  have hsz : s.heap.objs.size ≤ h'.objs.size := Nat.le_of_lt (Nat.lt_of_le_of_lt hge' hlt)
  obtain ⟨S₃, F₃⟩ := S₂.grow (h' := h'.push (fnMade name (qualnameIn env name name) params body scope clos doc ((mg "__name__").getD .none) c' ctv)) (fun b o e => Heap.get?_push_of_some _ e) tk
  have hf0 : s.heap.get? h'.objs.size = none := big _ hsz
  obtain ⟨S₄, F₄⟩ := S₃.adopt (e := h'.objs.size) (m := .p (fun o => FnIs o (qualnameIn env name name) params body scope clos (.ref c') .none)) (F₂.trans F₃) (hst.B_none hf0) hf0 (fun hm => by
      rcases List.mem_cons.mp hm with q | hm
      · exact Nat.lt_irrefl _ (q ▸ hlt)
      · exact nin _ hf0 hm) ⟨_, Heap.get?_push_size _ rfl, ⟨_, rfl, rfl, rfl, rfl, rfl, rfl, rfl, rfl, rfl, rfl, rfl⟩, fun ⟨_, _, q⟩ => by cases q⟩ trivial
  have pm2 : ((h'.objs.size, MO.p (fun o => FnIs o (qualnameIn env name name) params body scope clos (.ref c') .none)) :: (c', MO.p (codeP (qualnameIn env name name))) :: (P, MO.obj (tabObj (ps ++ #[rawInt pos.line, rawInt pos.col, .ref c']))) :: p0 :: r0).Perm (p0 :: (P, MO.obj (tabObj (ps ++ #[rawInt pos.line, rawInt pos.col, .ref c']))) :: (c', MO.p (codeP (qualnameIn env name name))) :: (h'.objs.size, MO.p (fun o => FnIs o (qualnameIn env name name) params body scope clos (.ref c') .none)) :: r0) := by
    refine (Picks.perm (ps := [p0, _, _, _]) (r := r0) (.cons (.tail (.tail (.tail .head))) (.cons (.tail (.tail .head)) (.cons (.tail .head) (.cons .head .nil)))))
  have S₅ := S₄.perm pm2
  have F₅ : Fut B cs s B (p0 :: (P, MO.obj (tabObj (ps ++ #[rawInt pos.line, rawInt pos.col, .ref c']))) :: (c', MO.p (codeP (qualnameIn env name name))) :: (h'.objs.size, MO.p (fun o => FnIs o (qualnameIn env name name) params body scope clos (.ref c') .none)) :: r0) _ := F₄.perm (fun _ => Iff.rfl) fun a ha => ((pm2.map Prod.fst).mem_iff.mpr ha)
  refine wpAny_mono ((h c' h'.objs.size).it _ B _ S₅ (.ref _)) (fun _ s₂ ⟨B₂, c₂, _, S₆, F₆, _, h₂⟩ => ⟨B₂, c₂, .next, S₆, F₅.trans F₆, .next, h₂⟩) fun _ _ => PoX.step F₅⟩
end
end Mine

end
section
open PySem PySem.W PySem.W.X PyProof.Rows
set_option Elab.async false
set_option maxRecDepth 100000
set_option linter.unusedVariables false
namespace Mine
section
variable {M : Md} {A : Around} {cs : Cells} {X : Value → Cells → Prop} {env : Env} {PV : V → Cells → Prop} {PF : Fl → Cells → Prop} {PB : Bool → Cells → Prop} {PU : Unit → Cells → Prop} {B : FH} {s : Shared}

/-- what a body leaves goes to the caller -/
theorem body_out {B : FH} {s s₁ : Shared} {L : Addr} {env : Env} {loc : Loc} {cs1 : Cells} {body : List Stmt} (hon : env.frame = some L) (S₁ : St M.C M.S (A.deeper env) B ((L, .frame loc) :: cs1) s₁) (F₁ : Fut B cs s B ((L, .frame loc) :: cs1) s₁)
    (h : EXs M (A.deeper env) env body ((L, .frame loc) :: cs1) (fun fl cs' => ∃ p cs'', cs' = p :: cs'' ∧ PV fl.val cs'') (fun c cs' => ∃ p cs'', cs' = p :: cs'' ∧ X c cs'')) :
    codeAny (model M.prog M.w) A (.func body env) (fun r s' => match r with | .ok (.ret v) => Po M.C M.S (RV M.C) A B cs s PV v s' | .ok _ => False | .error e => PoX M.C M.S A B cs s X e s') s₁ := by
  refine codeAny_func (wpAny_mono (h.it B _ S₁ trivial) (fun fl s₂ ⟨B₂, cs₂, x, S₂, F₂, R₂, p, cs₃, e, h₂⟩ => ?_) fun x s₂ hx => ?_)
  · subst e
    refine ⟨B₂, cs₃, x.val, S₂.leave, (F₁.trans F₂).drop, ?_, h₂⟩
    cases R₂ <;> first | exact .none | assumption
  · refine left_fn (on_deeper hon) (PoX.step F₁ hx) fun B' cs' c ea T s₃ he S₃ F₃ ⟨p, cs'', hcs, hX⟩ => ?_
    subst he hcs
    have pm : ([(ea, MO.exc c (some T)), (T, MO.tb .none)] ++ p :: cs'').Perm (p :: ([(ea, MO.exc c (some T)), (T, MO.tb .none)] ++ cs'')) := List.perm_middle
    exact ⟨B', cs'', c, _, (S₃.perm pm).leave, (F₃.perm (cs₁' := p :: ([(ea, MO.exc c (some T)), (T, MO.tb .none)] ++ cs'')) (fun _ => Iff.rfl) fun a ha => ((pm.map Prod.fst).mem_iff.mpr ha)).drop, .traced ea T, hX⟩

/-- a def that the call owns -/
theorem cc_defO {n : Nat} {f c' : Addr} {q : Str} {par : Arguments} {body : List Stmt} {sc : Scope} {clo : List (Str × Addr)} {dfl : Value} {xs args : List V} {names : List Str} (fit : Fit (n + 1) A)
    (hf : (f, MO.p (fun o => FnIs o q par body sc clo (.ref c') dfl)) ∈ cs) (hc : (c', MO.p (codeP q)) ∈ cs)
    (hbind : ∀ (B : FH) (vs : List Value), RVs M.C B vs xs → M.S.le B → ∃ ws, RVs M.C B ws args ∧ ∀ h : Heap, (∀ a o, B a = some o → h.get? a = some o) → Looks (model M.prog M.w) h (bindArgs (bareFn q par dfl) ⟨vs, []⟩) (names.zip ws))
    (lim : ∀ h : Heap, (∀ a o, M.S a = some o → h.get? a = some o) → h.NoLimit)
    (nd : names.Nodup) (hlen : names.length ≤ args.length)
    (h : ∀ L, L ∉ cs.ad → EXs M (A.deeper (envFn sc L clo q f (.ref c'))) (envFn sc L clo q f (.ref c')) body ((L, .frame (names.zip args)) :: cs) (fun fl cs' => ∃ p cs'', cs' = p :: cs'' ∧ PV fl.val cs'') (fun c cs' => ∃ p cs'', cs' = p :: cs'' ∧ X c cs''))
    (hco : sc.isCoroutine = false := by kernel_rfl) (hgen : sc.isGenerator = false := by kernel_rfl) (hk : sc.kind = .function := by kernel_rfl)
    (hcell : ∀ x ∈ sc.names, x.2 ≠ .cell := by decide +kernel) (hloc : ∀ x ∈ names, sc.names.lookup x = some .local := by decide +kernel) :
    CK M A (.ref f) xs cs PV X := ⟨fun vs B s hs hr => by
  obtain ⟨o, ho, ⟨fd, hd, e1, e2, e3, e4, e5, e6, e7, e8, e9, e10⟩, _⟩ := hs.own _ hf
  obtain ⟨oc, hoc, ⟨cvs, ct, hcd1, hcd2⟩, _⟩ := hs.own _ hc
  obtain ⟨ws, hrw, hb'⟩ := hbind B vs hr hs.stat
  have hb' := hb' s.heap hs.keep
  refine codeAny_call_function fit.room ho hd (by rw [e4]; exact hco) (by rw [e4]; exact hgen) e3 (by rw [e6, e1]; exact ⟨c', oc, cvs, ct, rfl, hoc, hcd1, hcd2⟩) ?_
  rw [bindArgs_bare e1 e2 e9 e10, e4, e5, e6, e7, e8, e1]
  refine hb'.here (wpAny_newFunctionEnv hcell (fun x hx => hloc _ (List.of_mem_zip hx).1) (fun h' hns hsb => ?_) hk)
  have lim' : h'.NoLimit := (lim s.heap hs.keepS).fresh _ hsb
  obtain ⟨hn, S₁, F₁⟩ := hs.enter (env := envFn sc s.heap.objs.size clo q f (.ref c')) (t := s.toks + (names.zip ws).length) hrw nd hlen rfl (by show sc.kind ≠ _; rw [hk]; decide) rfl hns hsb
  exact ⟨lim', body_out rfl S₁ F₁ (h _ hn)⟩⟩

/-- a def of the text's with cells of its own -/
theorem cc_defC {n : Nat} {f : Addr} {q : Str} {par : Arguments} {body : List Stmt} {sc : Scope} {cd dfl : Value} {xs : List V} {names : List Str} {loc : Loc} {cn : List Str} {cv : Str → Option V} (fit : Fit (n + 1) A)
    (hf : ∀ B : FH, M.S.le B → ∃ o, B f = some o ∧ FnIs o q par body sc [] cd dfl) (hcd : ∀ B : FH, M.S.le B → ∀ h : Heap, (∀ a o, B a = some o → h.get? a = some o) → h.CodeRec cd q)
    (hbind : ∀ (B : FH) (vs : List Value), RVs M.C B vs xs → M.S.le B → ∃ ws, (∀ h : Heap, (∀ a o, B a = some o → h.get? a = some o) → Looks (model M.prog M.w) h (bindArgs (bareFn q par dfl) ⟨vs, []⟩) (names.zip ws)) ∧
      ∀ kindOf : Str → Option NameKind, (∀ x, kindOf x = sc.names.lookup x) → (∀ p ∈ loc, ∃ v, bindL kindOf (names.zip ws) (fun _ => none) p.1 = some v ∧ RV M.C B v p.2) ∧ (∀ n ∈ cn, RO M.C B (bindC kindOf (names.zip ws) (fun _ => none) n) (cv n)))
    (lim : ∀ h : Heap, (∀ a o, M.S a = some o → h.get? a = some o) → h.NoLimit)
    (nd : (loc.map Prod.fst).Nodup) (hcn : ∀ k, (cellsFrom k sc.names []).map Prod.fst = cn) (hcnd : cn.Nodup)
    (hkind : ∀ x ∈ names, sc.names.lookup x = some .local ∨ (sc.names.lookup x = some .cell ∧ x ∈ cn))
    (h : ∀ L cl, cl.map Prod.fst = cn → L ∉ cs.ad → EXs M (A.deeper (envFn sc L cl q f cd)) (envFn sc L cl q f cd) body ((L, .frame loc) :: (cellsOf cl cv ++ cs)) (fun fl cs' => ∃ p cs'', cs' = p :: cs'' ∧ PV fl.val cs'') (fun c cs' => ∃ p cs'', cs' = p :: cs'' ∧ X c cs''))
    (hco : sc.isCoroutine = false := by kernel_rfl) (hgen : sc.isGenerator = false := by kernel_rfl) (hk : sc.kind = .function := by kernel_rfl)  :
    CK M A (.ref f) xs cs PV X := ⟨fun vs B s hs hr => by
  obtain ⟨o, ho, ⟨fd, hd, e1, e2, e3, e4, e5, e6, e7, e8, e9, e10⟩⟩ := hf B hs.stat
  have hcd' := hcd B hs.stat s.heap hs.keep
  obtain ⟨ws, hb', hbb⟩ := hbind B vs hr hs.stat
  have hb' := hb' s.heap hs.keep
  refine codeAny_call_function fit.room (hs.keep _ _ ho) hd (by rw [e4]; exact hco) (by rw [e4]; exact hgen) e3 (by rw [e6, e1]; exact hcd') ?_
  rw [bindArgs_bare e1 e2 e9 e10, e4, e5, e6, e7, e8, e1]
  refine hb'.here (wpAny_newFunctionEnv_cells hk (fun x hx => ?_) fun env he s' x => ?_)
  · rcases hkind _ (List.of_mem_zip hx).1 with q | ⟨q, hm⟩
    · exact .inl q
    · refine .inr ⟨q, ?_⟩
      rw [← hcn (s.heap.objs.size + 1)] at hm
      obtain ⟨⟨k, v⟩, hkv, e⟩ := List.mem_map.mp hm
      have : ((cellsFrom (s.heap.objs.size + 1) sc.names []).lookup k) = some v := lookup_of_mem (by rw [hcn]; exact hcnd) hkv
      dsimp only at e
      rw [← e, this]; rfl
  · subst he
    have hkd : ∀ x, (newEnv sc s.heap.objs.size mainGlobals (cellsFrom (s.heap.objs.size + 1) sc.names []) (q ++ ".<locals>.") (some f) cd none builtinsNs).kindOf x = sc.names.lookup x := fun _ => rfl
    obtain ⟨b1, b2⟩ := hbb _ hkd
    obtain ⟨hn, S₁, F₁⟩ := hs.enterCells (env := envFn sc s.heap.objs.size (cellsFrom (s.heap.objs.size + 1) sc.names []) q f cd) (loc := loc) (cv := cv) x rfl (by show sc.kind ≠ _; rw [hk]; decide) rfl nd b1 (by show ((cellsFrom (s.heap.objs.size + 1) sc.names []).map Prod.fst).Nodup; rw [hcn]; exact hcnd) (fun k c hl => b2 k (by
      have := mem_of_lookup hl
      have := List.mem_map_of_mem (f := Prod.fst) this
      have h2 : (cellsFrom (s.heap.objs.size + 1) sc.names []).map Prod.fst = cn := hcn _
      rw [← h2]; exact this))
    exact ⟨(lim s.heap hs.keepS).keeps x.toInCall.keep, body_out rfl S₁ F₁ (h _ _ (hcn _) hn)⟩⟩

/-- an owned def is called by its name -/
theorem ev_callO {func e : PySem.Expr} {r : List PySem.Expr} {pos : Pos} (h : EV M A env func cs (fun x cs₀ => ∃ f, x = .ref f ∧
      AR M A env pos (e :: r) cs₀ (fun xs cs₁ => (∃ P, (f, MO.p P) ∈ cs₁ ∧ ∀ o, P o → ∃ fd, o.data = .func fd) ∧ CL M A (.ref f) xs cs₁ PV X) X) X)
    (hplain : (backTo pos (starEach (e :: r) env)).any (·.1) = false := by rfl) (he : starEach (e :: r) env = (false, eval e env) :: starEach r env := by rfl)
    (hc : eval (.Call func (e :: r) [] pos) env = (do callWith pos (← eval func env) [] (backTo pos (starEach (e :: r) env)) (backToKw pos (keywordEach [] env))) := by rfl) :
    EV M A env (.Call func (e :: r) [] pos) cs PV X := ⟨fun B s hs hp =>
  Call_ (wpAny_mono (h.it B s hs trivial) (fun v s₁ ⟨B₁, cs₁, x, S₁, F₁, R₁, f, hf, h₁⟩ => by
    subst hf
    cases R₁
    show wpAny _ _ (callWith pos (.ref f) [] (backTo pos (starEach (e :: r) env)) []) _ _ s₁
    refine callWith_of (P := fun h => ∃ o fd, h.get? f = some o ∧ o.data = .func fd) (by rw [hplain]; rfl) (fun h ⟨o, fd, e1, e2⟩ => ⟨.frame, .inl rfl, (Looks.ld (part := none) e1).andThen (by rw [e2]; exact Looks.now)⟩) ?_
    have key : wpAny (model M.prog M.w) A (spliced (backTo pos (starEach (e :: r) env))) (fun vs s₂ => (∃ o fd, s₂.heap.get? f = some o ∧ o.data = .func fd) ∧ wpAny (model M.prog M.w) A (call (.ref f) ([] ++ vs) []) (Po M.C M.S (RV M.C) A B cs s PV) (PoX M.C M.S A B cs s X) s₂) (PoX M.C M.S A B cs s X) s₁ :=
      wpAny_mono (h₁.it B₁ s₁ S₁ trivial) (fun vs s₂ ⟨B₂, cs₂, xs, S₂, F₂, R₂, ⟨P, hm, hP⟩, h₂⟩ => by
        obtain ⟨o, e1, e2, _⟩ := S₂.own _ hm
        obtain ⟨fd, e3⟩ := hP o e2
        exact ⟨⟨o, fd, e1, e3⟩, wpAny_mono (h₂.it vs B₂ s₂ S₂ R₂) (fun _ _ => Po.step (F₁.trans F₂)) fun _ _ => PoX.step (F₁.trans F₂)⟩) fun _ _ => PoX.step F₁
    rw [he] at key ⊢
    exact Calls.evalArgs_plain key) fun _ _ x => x) hc⟩
theorem ev_callO0 {func : PySem.Expr} {pos : Pos} (h : EV M A env func cs (fun x cs₀ => ∃ f, x = .ref f ∧ (∃ P, (f, MO.p P) ∈ cs₀ ∧ ∀ o, P o → ∃ fd, o.data = .func fd) ∧ CL M A (.ref f) [] cs₀ PV X) X)
    (hc : eval (.Call func [] [] pos) env = (do callWith pos (← eval func env) [] (backTo pos (starEach [] env)) (backToKw pos (keywordEach [] env))) := by rfl) :
    EV M A env (.Call func [] [] pos) cs PV X := ⟨fun B s hs hp =>
  Call_ (wpAny_mono (h.it B s hs trivial) (fun v s₁ ⟨B₁, cs₁, x, S₁, F₁, R₁, f, hf, ⟨P, hm, hP⟩, h₁⟩ => by
    subst hf
    cases R₁
    obtain ⟨o, e1, e2, _⟩ := S₁.own _ hm
    obtain ⟨fd, e3⟩ := hP o e2
    show wpAny _ _ (callWith pos (.ref f) [] (backTo pos (starEach [] env)) []) _ _ s₁
    refine callWith_of (P := fun h => ∃ o fd, h.get? f = some o ∧ o.data = .func fd) rfl (fun h ⟨o, fd, e1, e2⟩ => ⟨.frame, .inl rfl, (Looks.ld (part := none) e1).andThen (by rw [e2]; exact Looks.now)⟩) (evalArgs_nil3 ⟨⟨o, fd, e1, e3⟩, ?_⟩)
    exact wpAny_mono (h₁.it [] B₁ s₁ S₁ .nil) (fun _ _ => Po.step F₁) fun _ _ => PoX.step F₁) fun _ _ x => x) hc⟩
end
end Mine

end
section
open PySem PySem.W PySem.W.X PyProof.Rows
set_option Elab.async false
set_option maxRecDepth 100000
set_option linter.unusedVariables false
namespace Mine
section
variable {M : Md} {A : Around} {cs : Cells} {X : Value → Cells → Prop} {env : Env} {PV : V → Cells → Prop} {PF : Fl → Cells → Prop} {PB : Bool → Cells → Prop} {PU : Unit → Cells → Prop} {B : FH} {s : Shared}
/-- a set of ints that the call owns -/
abbrev setP (M : Md) (S : Int → Bool) : Obj → Prop := fun o => ∃ n, n ≤ 10 ∧ o.SetObjOf (PySem.intKind M.prog M.w) S n
theorem set_not_dict {o : Obj} {S : Int → Bool} {n : Nat} (h : o.SetObjOf (PySem.intKind M.prog M.w) S n) : ¬ IsD o := fun ⟨_, _, q⟩ => by
  obtain ⟨_, es, ep, t, hd, _⟩ := h
  rw [hd] at q; cases q
/-- one int put into an owned set -/
theorem set_add {d : Addr} {S : Int → Bool} {n : Nat} {i : Int} {tk : Tok} {Q : Bool → Shared → Prop} {E : Value → Shared → Prop} (hs : St M.C M.S A B ((d, .p (fun o => o.SetObjOf (PySem.intKind M.prog M.w) S n)) :: cs) s) (hn : n ≤ 8)
    (h : ∀ m s', m ≤ n + 1 → St M.C M.S A B ((d, .p (fun o => o.SetObjOf (PySem.intKind M.prog M.w) (fun k => S k || decide (k = i)) m)) :: cs) s' → Fut B ((d, .p (fun o => o.SetObjOf (PySem.intKind M.prog M.w) S n)) :: cs) s B ((d, .p (fun o => o.SetObjOf (PySem.intKind M.prog M.w) (fun k => S k || decide (k = i)) m)) :: cs) s' → ∀ b, Q b s') :
    wpAny (model M.prog M.w) A (setAdd d (.int i tk)) Q E s := by
  obtain ⟨o, ho, hso, hnd⟩ := hs.own (d, .p _) (.head _)
  have hkey : (PySem.intKind M.prog M.w).is i (.int i tk) = true := by simp [PySem.intKind, Value.isInt]
  have h10 : 10 < scanBound := by decide
  have hb : n + 1 < scanBound := by omega
  unfold setAdd
  refine wpAny_holding (wpAny_bind ((PySem.intKind M.prog M.w).pyHash hkey ?_))
  refine wpAny_setAddHashed_of (s := { s with toks := s.toks + 1 }) hkey rfl (hso.setOf ho (by omega)) hb fun h' hsb hS' => ?_
  obtain ⟨so', ho', hso'⟩ := hS'.objOf
  obtain ⟨S₁, F₁⟩ := hs.turn (o := .p (fun o => o.SetObjOf (PySem.intKind M.prog M.w) S n)) (o' := .p (fun o => o.SetObjOf (PySem.intKind M.prog M.w) (fun k => S k || decide (k = i)) (if S i then n else n + 1))) .head hsb ⟨so', ho', hso', set_not_dict hso'⟩ trivial (fun ob q => ⟨so', ho', fun hD => by rw [ho] at q; cases q; exact absurd hD hnd⟩) (s.toks + 1)
  exact h _ _ (by split <;> omega) S₁ F₁ _
theorem set_main {Q : Bool → Shared → Prop} {E : Value → Shared → Prop} (hc : ∃ c o vs, env.code = .ref c ∧ s.heap.get? c = some o ∧ o.data = .fields vs) (h : ∀ b, Q b s) : wpAny (model M.prog M.w) A (inMainModule env) Q E s := by
  obtain ⟨c, o, vs, e, ho, hd⟩ := hc
  unfold inMainModule
  try dsimp only
  rw [e]
  split
  · exact wpAny_pure (h _)
  · refine wpAny_bind (wpAny_fieldsOf ho hd ?_)
    split
    · exact wpAny_bind (wpAny_askSetting (wpAny_pure (h _)))
    · exact wpAny_pure (h _)
/-- {a, b, c} of ints -/
theorem ev_set3 {e1 e2 e3 : PySem.Expr} {k : Nat} {pos : Pos} (hc : ∃ c q, env.code = .ref c ∧ (c, MO.p (codeP q)) ∈ cs) (hroad : (displayRoad k [e1, e2, e3] == .constants) = false) (hun : (displayRoad k [e1, e2, e3] == .unsure) = false) (hp : [e1, e2, e3].all kdsPlain = true)
    (h : EV M A env e1 cs (fun x1 c1 => EV M A env e2 c1 (fun x2 c2 => EV M A env e3 c2 (fun x3 c3 => ∃ i1 i2 i3, x1 = .int i1 ∧ x2 = .int i2 ∧ x3 = .int i3 ∧ ∀ d, d ∉ c3.ad → PV (.ref d) (ins (d, .p (setP M (fun k => ((false || decide (k = i1)) || decide (k = i2)) || decide (k = i3)))) c3)) NoX) NoX) NoX) :
    EV M A env (.Set [e1, e2, e3] k pos) cs PV X := ⟨fun B s hs _ => by
  rw [arm_eval_Set]
  refine wpAny_bind (wpAny_standAt ?_)
  refine wpAny_bind (set_main (by obtain ⟨c, q, e, hm⟩ := hc; obtain ⟨o, ho, ⟨vs, t, hd, _⟩, _⟩ := hs.own _ hm; exact ⟨c, o, vs, e, ho, hd⟩) fun b => ?_)
  rw [kds_star _ hp, List.map_map]
  refine kds_core (ts := (evalEach [e1, e2, e3] env).map fun t => do let v ← t; standAt pos; pure v) hroad ?_ ?_ ?_ fun led => ?_
  · refine List.findIdx?_eq_none_iff.mpr fun x hx => ?_
    obtain ⟨t, _, rfl⟩ := List.mem_map.mp hx
    rfl
  · rw [List.length_map, kds_len]; simp
  · rw [List.map_map]; try rfl
  · refine kds_all pos [e1, e2, e3] _ _ ?_
    have hso : Obj.SetObjOf (PySem.intKind M.prog M.w) { cls := .type "set", dict := none, data := .set #[] 0 (.fresh 0 0 led) } (fun _ => false) 0 := setObjOf_fresh led
    obtain ⟨hnd, S₀, F₀⟩ := hs.alloc (o := { cls := .type "set", dict := none, data := .set #[] 0 (.fresh 0 0 led) }) (m := .p (fun o => o.SetObjOf (PySem.intKind M.prog M.w) (fun _ => false) 0)) rfl ⟨_, Heap.get?_push_size _ rfl, hso, set_not_dict hso⟩ trivial s.toks
    generalize hD : s.heap.objs.size = d at *
    have pm := ins_perm (d, MO.p (fun o => o.SetObjOf (PySem.intKind M.prog M.w) (fun _ => false) 0)) cs
    have S₁ := S₀.perm (pm.trans (List.perm_append_singleton _ _).symm)
    have F₁ : Fut B cs s B (cs ++ [(d, MO.p (fun o => o.SetObjOf (PySem.intKind M.prog M.w) (fun _ => false) 0))]) _ := F₀.perm (fun _ => Iff.rfl) fun a ha => (((pm.trans (List.perm_append_singleton _ _).symm).map Prod.fst).mem_iff.mpr ha)
    have t1 := h.it.frame (fr := [(d, MO.p (fun o => o.SetObjOf (PySem.intKind M.prog M.w) (fun _ => false) 0))]) (.refl _)
    refine wpAny_mono (t1 B _ S₁ trivial) (fun v1 s1 ⟨B1, c1', x1, Sa, Fa, Ra, c1, ec1, h1⟩ => ?_) fun e s1 hx => hx.mono (fun _ _ ⟨_, _, q⟩ => q) |>.none.elim
    subst ec1
    have t2 := h1.it.frame (fr := [(d, MO.p (fun o => o.SetObjOf (PySem.intKind M.prog M.w) (fun _ => false) 0))]) (.refl _)
    refine wpAny_mono (t2 B1 s1 Sa trivial) (fun v2 s2 ⟨B2, c2', x2, Sb, Fb, Rb, c2, ec2, h2⟩ => ?_) fun e s1 hx => hx.mono (fun _ _ ⟨_, _, q⟩ => q) |>.none.elim
    subst ec2
    have t3 := h2.it.frame (fr := [(d, MO.p (fun o => o.SetObjOf (PySem.intKind M.prog M.w) (fun _ => false) 0))]) (.refl _)
    refine wpAny_mono (t3 B2 s2 Sb trivial) (fun v3 s3 ⟨B3, c3', x3, Sc, Fc, Rc, c3, ec3, i1, i2, i3, e1, e2, e3, h3⟩ => ?_) fun e s1 hx => hx.mono (fun _ _ ⟨_, _, q⟩ => q) |>.none.elim
    subst ec3 e1 e2 e3
    cases Ra; cases Rb; cases Rc
    have Fall := F₁.trans (Fa.trans (Fb.trans Fc))
    have pm3 := (List.perm_append_singleton (d, MO.p (fun o => o.SetObjOf (PySem.intKind M.prog M.w) (fun _ => false) 0)) c3)
    have Sd := Sc.perm pm3
    have Fd := Fall.perm (cs₁' := (d, MO.p (fun o => o.SetObjOf (PySem.intKind M.prog M.w) (fun _ => false) 0)) :: c3) (fun _ => Iff.rfl) fun a ha => ((pm3.map Prod.fst).mem_iff.mpr ha)
    refine kds_fill_cons (set_add Sd (by decide) fun m1 s4 hm1 S4 F4 _ => ?_)
    refine kds_fill_cons (set_add S4 (by omega) fun m2 s5 hm2 S5 F5 _ => ?_)
    refine kds_fill_cons (set_add S5 (by omega) fun m3 s6 hm3 S6 F6 _ => ?_)
    refine kds_fill_nil hun ?_
    have S7 : St M.C M.S A B3 ((d, .p (setP M (fun k => ((false || decide (k = i1)) || decide (k = i2)) || decide (k = i3)))) :: c3) s6 := by
      refine ⟨S6.keep, S6.stat, fun p hp => ?_, fun p hp => ?_, fun p hp => ?_, S6.nd, S6.frs, S6.bare⟩
      · rcases List.mem_cons.mp hp with rfl | hp
        · obtain ⟨o, ho, hso, hnd⟩ := S6.own _ (.head _)
          exact ⟨o, ho, ⟨m3, by omega, hso⟩, hnd⟩
        · exact S6.own p (.tail _ hp)
      · rcases List.mem_cons.mp hp with rfl | hp
        · trivial
        · exact S6.nf p (.tail _ hp)
      · rcases List.mem_cons.mp hp with rfl | hp
        · exact S6.off (d, MO.p (fun o => o.SetObjOf (PySem.intKind M.prog M.w) (fun k => ((false || decide (k = i1)) || decide (k = i2)) || decide (k = i3)) m3)) (.head _)
        · exact S6.off p (.tail _ hp)
    have F7 : Fut B cs s B3 ((d, .p (setP M (fun k => ((false || decide (k = i1)) || decide (k = i2)) || decide (k = i3)))) :: c3) s6 := (Fd.trans (F4.trans (F5.trans F6))).perm (fun _ => Iff.rfl) fun a ha => ha
    have pm7 := (ins_perm (d, MO.p (setP M (fun k => ((false || decide (k = i1)) || decide (k = i2)) || decide (k = i3)))) c3).symm
    exact ⟨B3, _, .ref d, S7.perm pm7, F7.perm (fun _ => Iff.rfl) (fun a ha => ((pm7.map Prod.fst).mem_iff.mpr ha)), .ref d, h3 d (List.nodup_cons.mp S7.nd).1⟩⟩
theorem op_notin_set {d : Addr} {S : Int → Bool} {i : Int} (hm : (d, MO.p (setP M S)) ∈ cs) (h : PV (.bool (!S i)) cs) : OC M A .NotIn (.int i) (.ref d) cs PV X := ⟨fun a b B s hs ⟨r, r'⟩ => by
  cases r; cases r'
  obtain ⟨o, ho, ⟨n, hn, hso⟩, _⟩ := hs.own _ hm
  have h10 : 10 < scanBound := by decide
  have hb : n < scanBound := by omega
  exact wpAny_notInSet_of (knd := PySem.intKind M.prog M.w) (k := i) (by simp [PySem.intKind, Value.isInt]) rfl (hso.setOf ho hb) (.tok hs (.bool _) h)⟩
end
end Mine

end
section
open PySem PySem.W PySem.W.X PyProof.Rows
set_option Elab.async false
set_option maxRecDepth 100000
set_option linter.unusedVariables false
namespace Mine
section
variable {M : Md} {A : Around} {cs : Cells} {X : Value → Cells → Prop} {env : Env} {PV : V → Cells → Prop} {PF : Fl → Cells → Prop} {PB : Bool → Cells → Prop} {PU : Unit → Cells → Prop} {B : FH} {s : Shared}
theorem ev_and1 {op : BoolOp} {e : PySem.Expr} {pos : Pos} (h : EV M A env e cs PV X) : EV M A env (.BoolOp op [e] pos) cs PV X := ⟨fun B s hs hp => BoolOp_one (h.it B s hs hp)⟩
theorem ev_and {e e2 : PySem.Expr} {rest : List PySem.Expr} {pos : Pos} (h : EV M A env e cs (fun x c1 => TY M A x c1 (fun b c2 => if b then EV M A env (.BoolOp .And (e2 :: rest) pos) c2 PV X else PV x c2) X) X) :
    EV M A env (.BoolOp .And (e :: e2 :: rest) pos) cs PV X := ⟨fun B s hs hp =>
  BoolOp_and (wpAny_mono (h.it B s hs trivial) (fun v s₁ ⟨B₁, c₁, x, S₁, F₁, R₁, h₁⟩ =>
    wpAny_mono (h₁.it v B₁ s₁ S₁ R₁) (fun b s₂ ⟨B₂, c₂, b', S₂, F₂, R₂, h₂⟩ => by
      cases R₂
      cases b with
      | true => exact wpAny_mono (h₂.it B₂ s₂ S₂ trivial) (fun _ _ => Po.step (F₁.trans F₂)) fun _ _ => PoX.step (F₁.trans F₂)
      | false => exact ⟨B₂, c₂, x, S₂, F₁.trans F₂, R₁.mono F₂.mono, h₂⟩) fun _ _ => PoX.step F₁) fun _ _ x => x)⟩
theorem op_isnot_self {a : Addr} (h : PV (.bool false) cs) : OC M A .IsNot (.ref a) (.ref a) cs PV X := ⟨fun x y B s hs ⟨r, r'⟩ => by
  cases r; cases r'
  exact wpAny_isNot_ref_self (.now hs (.bool _) h)⟩
/-- a thing of the text's own -/
theorem inst_st {a C dd : Addr} {n : Nat} {vs : Array (Option Value)} {sl : List (Option V)} (ha : M.S a = some ⟨.ref C, some dd, .plain, vs⟩) (hd : M.S dd = some (emptyD n)) (hr : ∀ B, ROs M.C B vs.toList sl) : Inst M cs (.ref a) C sl := ⟨fun A B s v₀ hs r => by
  cases r
  exact ⟨a, dd, n, vs, rfl, ⟨hs.keepS _ _ ha, rfl, rfl, hs.keepS _ _ hd⟩, hr B⟩⟩
end
end Mine

end
section
open PySem PySem.W PySem.W.X PyProof.Rows
set_option Elab.async false
set_option maxRecDepth 100000
set_option linter.unusedVariables false
namespace Mine
section
variable {M : Md} {A : Around} {cs : Cells} {X : Value → Cells → Prop} {env : Env} {PV : V → Cells → Prop} {PF : Fl → Cells → Prop} {PB : Bool → Cells → Prop} {B : FH} {s : Shared}
/-- a list of the text's own class, made anew -/
theorem tags_new {h' : Heap} {a d : Addr} {n m t : Nat} {vs : List Value} {xs : List V} (hs : St M.C M.S A B cs s) (hk : ∀ b o, s.heap.get? b = some o → h'.get? b = some o) (ha : h'.get? a = some ⟨.ref M.C.tags, some d, .seq vs.toArray m, #[]⟩) (hd : h'.get? d = some (emptyD n)) (hna : s.heap.get? a = none) (hnd : s.heap.get? d = none)
    (r : RVs M.C B vs xs) (hP : a ∉ cs.ad → PV (.ref a) (ins (a, .lst .tags xs) cs)) : Po M.C M.S (RV M.C) A B cs s PV (.ref a) { s with heap := h', toks := t } := by
  obtain ⟨S₁, F₁⟩ := hs.grow hk t
  have nin : ∀ e, s.heap.get? e = none → e ∉ cs.ad := fun e he q => by obtain ⟨o, e'⟩ := hs.there q; rw [he] at e'; cases e'
  obtain ⟨S₂, F₂, l₂, e₂⟩ := S₁.adoptB F₁ (hs.B_none hnd) hnd (nin _ hnd) hd (off_frames hs hnd)
  have hne : a ≠ d := fun q => by subst q; rw [ha] at hd; cases hd
  obtain ⟨S₃, F₃⟩ := S₂.adopt (e := a) (m := .lst .tags xs) F₂ (by rw [FH.add_other _ _ hne]; exact hs.B_none hna) hna (nin _ hna) ⟨some d, vs, m, ha, ⟨d, n, rfl, e₂⟩, r.mono l₂⟩ trivial
  have pm := (ins_perm (a, MO.lst .tags xs) cs).symm
  exact ⟨_, _, .ref a, S₃.perm pm, F₃.perm (fun _ => Iff.rfl) (fun b hb => ((pm.map Prod.fst).mem_iff.mpr hb)), .ref a, hP (nin _ hna)⟩
theorem list_new {h' : Heap} {a : Addr} {m t : Nat} {vs : List Value} {xs : List V} (hs : St M.C M.S A B cs s) (hk : ∀ b o, s.heap.get? b = some o → h'.get? b = some o) (ha : h'.get? a = some ⟨.type "list", none, .seq vs.toArray m, #[]⟩) (hna : s.heap.get? a = none)
    (r : RVs M.C B vs xs) (hP : a ∉ cs.ad → PV (.ref a) (ins (a, .lst .list xs) cs)) : Po M.C M.S (RV M.C) A B cs s PV (.ref a) { s with heap := h', toks := t } := by
  obtain ⟨S₁, F₁⟩ := hs.grow hk t
  have nin : ∀ e, s.heap.get? e = none → e ∉ cs.ad := fun e he q => by obtain ⟨o, e'⟩ := hs.there q; rw [he] at e'; cases e'
  obtain ⟨S₃, F₃⟩ := S₁.adopt (e := a) (m := .lst .list xs) F₁ (hs.B_none hna) hna (nin _ hna) ⟨none, vs, m, ha, rfl, r⟩ trivial
  have pm := (ins_perm (a, MO.lst .list xs) cs).symm
  exact ⟨_, _, .ref a, S₃.perm pm, F₃.perm (fun _ => Iff.rfl) (fun b hb => ((pm.map Prod.fst).mem_iff.mpr hb)), .ref a, hP (nin _ hna)⟩
end
end Mine

end
section
open PySem PySem.W PySem.W.X PyProof.Rows
set_option Elab.async false
set_option maxRecDepth 100000
set_option linter.unusedVariables false
namespace Mine
section
variable {M : Md} {A : Around} {cs : Cells} {X : Value → Cells → Prop} {env : Env} {PV : V → Cells → Prop} {PF : Fl → Cells → Prop} {PB : Bool → Cells → Prop} {B : FH} {s : Shared} {K : Frag}
theorem mt_K (KK : KOf M K) {cls ct : Value} {b : Bool} (e : exmOne K cls ct = some b) : Mt M cls ct b := fun h ea hS LT => exm_one (KK h hS) LT e
theorem clsOk_K (KK : KOf M K) {C : Addr} (e : typeIn K (.ref C) = some (.type "type")) (e2 : subIn K (.ref C) (.type "BaseException") = some true) : ClsOk M C :=
  ⟨fun h hk => looks_typeIn (KK h hk) e, fun h hk => looks_subIn (KK h hk) e2⟩
/-- a def that the call owns, about to be called -/
theorem callO_at {f : Addr} {q : Str} {par : Arguments} {body : List Stmt} {sc : Scope} {clo : List (Str × Addr)} {cd dfl : Value} {Q : Prop} (hm : (f, MO.p (fun o => FnIs o q par body sc clo cd dfl)) ∈ cs) (h : Q) : (∃ P, (f, MO.p P) ∈ cs ∧ ∀ o, P o → ∃ fd, o.data = .func fd) ∧ Q :=
  ⟨⟨_, hm, fun o ⟨fd, h, _⟩ => ⟨fd, h⟩⟩, h⟩
theorem op_in2t {y a b : Str} (hy : PyData.strOk y = true) (ha : PyData.strOk a = true) (hb : PyData.strOk b = true) (hu : A.units ≤ 1900) (ht : (y = a ∨ y = b) → PV (.bool true) cs) (hf : ¬ (y = a ∨ y = b) → PV (.bool false) cs) :
    OC M A .In (.str y) (.tup [.str a, .str b]) cs PV X := by
  refine op_in_tup (d := .str y) (xs := [.str a, .str b]) (.fz rfl) rfl ?_ ?_ hu ?_
  · simp [SeqAt.shaped, PyData.canLay0, PyData.depth, hy]
  · simp [vds, vd, SeqAt.shaped, PyData.canLay0, PyData.canLayAll0, PyData.depth, PyData.depthAll, ha, hb]
  · simp only [vds, vd, List.any_cons, List.any_nil, PyData.eqv, Bool.or_false]
    by_cases q : y = a ∨ y = b
    · have e : (a == y || b == y) = true := by rcases q with rfl | rfl <;> simp
      rw [e]; exact ht q
    · have e : (a == y || b == y) = false := by
        simp only [Bool.or_eq_false_iff, beq_eq_false_iff_ne]
        exact ⟨fun z => q (.inl z.symm), fun z => q (.inr z.symm)⟩
      rw [e]; exact hf q
end
end Mine

end
section
open PySem PySem.W PySem.W.X PyProof.Rows
set_option Elab.async false
set_option maxRecDepth 100000
namespace Mine
abbrev PP := PySem.Challenge.pw_fy0016_02
abbrev MM (w : World) (h0 : Heap) : Md := ⟨CC, SS h0, PP, w⟩
theorem K1_in {w : World} {h0 h : Heap} (X : (hd.heap_39 w.params).In h0) (hk : ∀ a o, SS h0 a = some o → h.get? a = some o) : (K1 w.params).In h := fun a o e => by
  unfold K1 at e
  have key : ∀ l : Frag, (l.filter fun p => !TB.contains p.1).lookup a = some o → l.lookup a = some o ∧ a ∉ TB := by
    intro l
    induction l with
    | nil => intro e; cases e
    | cons p l ih =>
      intro e
      rw [List.filter_cons] at e
      by_cases hp : p.1 ∈ TB
      · have : (!TB.contains p.1) = false := by rw [List.contains_iff_mem.mpr hp]; rfl
        rw [this] at e
        have r := ih e
        refine ⟨?_, r.2⟩
        obtain ⟨b, ob⟩ := p
        rw [List.lookup_cons, show (a == b) = false from beq_eq_false_iff_ne.mpr fun q => r.2 (q ▸ hp)]
        exact r.1
      · have : (!TB.contains p.1) = true := by simpa using hp
        rw [this] at e
        obtain ⟨b, ob⟩ := p
        simp only [if_true] at e
        rw [List.lookup_cons] at e ⊢
        by_cases q : a = b
        · subst q; simp at e ⊢; exact ⟨e, by simpa using hp⟩
        · have q' : (a == b) = false := beq_eq_false_iff_ne.mpr q
          rw [q'] at e ⊢
          exact ih e
  obtain ⟨e1, e2⟩ := key _ e
  exact hk _ _ (SS_of X e1 e2)
theorem tagsOk {w : World} {h0 : Heap} (X : (hd.heap_39 w.params).In h0) : TagsOk (MM w h0) where
  iter h hk := ⟨looks_findIn (K1_in X hk) (by kernel_rfl), looks_subIn (K1_in X hk) (by kernel_rfl), slot_list_iter, .inl (by decide +kernel), ⟨"__iter__", by decide +kernel⟩⟩
  item h hk := ⟨looks_findIn (K1_in X hk) (by kernel_rfl), looks_subIn (K1_in X hk) (by kernel_rfl), slot_list_getitem, .inr (by decide +kernel), ⟨"__getitem__", by decide +kernel⟩⟩
  append h hk := ⟨looks_findIn (K1_in X hk) (by kernel_rfl), looks_subIn (K1_in X hk) (by kernel_rfl), slot_list_append, .inr (by decide +kernel), ⟨"append", by decide +kernel⟩⟩
  seq h hk := anyM_none (K1_in X hk) (by kernel_rfl)
  ga h hk := looks_findIn (K1_in X hk) (by kernel_rfl)
  noga h hk := looks_findIn (K1_in X hk) (by kernel_rfl)
/-- what all functions of the text see -/
structure Ctx (w : World) (h0 : Heap) (mg mb : Str → Option Value) : Prop where
  X : (hd.heap_39 w.params).In h0
  G : Gl (SS h0) mg mb
  gl : ∀ {x : Str} {r : Option Value}, lookIn x (ko 3 w.params) = some r → mg x = r
  bl : ∀ {x : Str}, x ≠ "__name__" → mb x = bootBuiltins x
  ba : h0.BuiltinsAt mg 421
theorem gl_of {w : World} {h0 : Heap} {mg : Str → Option Value} (X : (hd.heap_39 w.params).In h0) (g : h0.Ns mainGlobals mg) {x : Str} {r : Option Value} (e : lookIn x (ko 3 w.params) = some r) : mg x = r := by
  obtain ⟨o, es, ep, ho, hd', hk, hm⟩ := g
  have h3 : h0.get? 3 = some (ko 3 w.params) := X 3 _ (by kernel_rfl)
  rw [show mainGlobals = 3 from rfl, h3] at ho
  cases ho
  rw [← hm x]
  unfold lookIn at e
  rw [hd'] at e
  dsimp only at e
  unfold nsFind findBy
  rw [← Array.find?_toList]
  split at e
  · rename_i en he; cases e; rw [he]; rfl
  · rename_i he
    rw [he]
    split at e
    · cases e
    · cases e; rfl
section
variable {w : World} {h0 : Heap} {mg mb : Str → Option Value} (K : Ctx w h0 mg mb)
include K
theorem g_take : mg "_law_take" = some (.ref 530) := K.gl (by kernel_rfl)
theorem g_pairs : mg "_law_pairs" = some (.ref 535) := K.gl (by kernel_rfl)
theorem g_some : mg "_law_some" = some (.ref 540) := K.gl (by kernel_rfl)
theorem g_more : mg "_law_more" = some (.ref 545) := K.gl (by kernel_rfl)
theorem g_walked : mg "_law_walked" = some (.ref 552) := K.gl (by kernel_rfl)
theorem g_place : mg "_law_place" = some (.ref 559) := K.gl (by kernel_rfl)
theorem g_plain : mg "_law_plain" = some (.ref 566) := K.gl (by kernel_rfl)
theorem g_done : mg "_law_done" = some (.ref 573) := K.gl (by kernel_rfl)
theorem g_made : mg "_law_made" = some (.ref 580) := K.gl (by kernel_rfl)
theorem g_t2t : mg "tuples_to_tags" = some (.ref 140) := K.gl (by kernel_rfl)
theorem g_DXFTag : mg "DXFTag" = some (.ref 112) := K.gl (by kernel_rfl)
theorem g_NONE : mg "NONE_TAG" = some (.ref 118) := K.gl (by kernel_rfl)
theorem g_Tags : mg "Tags" = some (.ref 363) := K.gl (by kernel_rfl)
theorem g_Ext : mg "ExtendedTags" = some (.ref 517) := K.gl (by kernel_rfl)
theorem g_isapp : mg "is_app_data_marker" = some (.ref 126) := K.gl (by kernel_rfl)
theorem g_isemb : mg "is_embedded_object_marker" = some (.ref 133) := K.gl (by kernel_rfl)
theorem g_DSE : mg "DXFStructureError" = some (.ref 163) := K.gl (by kernel_rfl)
theorem g_DVE : mg "DXFValueError" = some (.ref 175) := K.gl (by kernel_rfl)
theorem g_DKE : mg "DXFKeyError" = some (.ref 187) := K.gl (by kernel_rfl)
theorem n_len : mg "len" = none := K.gl (by kernel_rfl)
theorem b_len : mb "len" = some (.builtin "len") := (K.bl (by decide)).trans (by kernel_rfl)
theorem n_range : mg "range" = none := K.gl (by kernel_rfl)
theorem b_range : mb "range" = some (.type "range") := (K.bl (by decide)).trans (by kernel_rfl)
end
end Mine

end
section
open PySem PySem.W PySem.W.X PyProof.Rows
set_option Elab.async false
set_option maxRecDepth 100000
namespace Mine
noncomputable def isFnK (P : Params) (f : Addr) : Bool := !TB.contains f && (match (hd.heap_39 P).lookup f with | some o => (match o.data with | .func _ => true | _ => false) | none => false)
theorem kp_any {w : World} {h0 : Heap} (X : (hd.heap_39 w.params).In h0) {f : Addr} (e : isFnK w.params f = true) {pre : FH → Prop} : KeepOk (MM w h0) (.ref f) pre := by
  unfold isFnK at e
  rw [Bool.and_eq_true] at e
  obtain ⟨e1, e2⟩ := e
  split at e2
  · rename_i o ho
    split at e2
    · rename_i fd hd
      exact keep_fr (SS_of X ho (fun hm => by rw [List.contains_iff_mem.mpr hm] at e1; cases e1)) hd
    · cases e2
  · cases e2
theorem kp_cls {w : World} {h0 : Heap} (X : (hd.heap_39 w.params).In h0) {f : Addr} (e : (clsIn (K1 w.params) f).isSome = true) (e' : specialIn (K1 w.params) (.ref f) "__call__" = some (some (.builtin "type.__call__"))) {pre : FH → Prop} : KeepOk (MM w h0) (.ref f) pre := fun B h _ hS hk => by
  have X1 := K1_in X fun a o q => hk a o (hS a o q)
  obtain ⟨cd, hc⟩ := Option.isSome_iff_exists.mp e
  unfold clsIn at hc
  split at hc
  · rename_i c d cd' sl ho
    refine ⟨.machine, .inr (.inl rfl), ?_⟩
    refine (Looks.ld (part := none) (X1 _ _ ho)).andThen ?_
    dsimp only
    refine (looks_specialIn X1 e').andThen ?_
    exact Looks.of_pure (by rfl)
  · cases hc
def DD (i j : Nat) : Stmt := (Stmt.bod (D i))[j]?.getD (.Pass ⟨0,0,0,0⟩)
def f_take : Stmt := D 22
theorem is_take (P : Params) : (hd.heap_39 P).lookup 530 = some (ko 530 P) ∧ FnIs (ko 530 P) "_law_take" (Stmt.par f_take) (Stmt.bod f_take) (Stmt.scp f_take) [] (.ref 529) .none :=
  ⟨by kernel_rfl, ⟨kfd (ko 530 P), by kernel_rfl, by kernel_rfl, by kernel_rfl, by kernel_rfl, by kernel_rfl, by kernel_rfl, by kernel_rfl, by kernel_rfl, by kernel_rfl, by kernel_rfl, by kernel_rfl⟩⟩
theorem cr_take {w : World} {h0 : Heap} (X : (hd.heap_39 w.params).In h0) {B : FH} {h : Heap} (hS : (SS h0).le B) (hk : ∀ a o, B a = some o → h.get? a = some o) : h.CodeRec (.ref 529) "_law_take" :=
  codeRec_of X hS hk (by kernel_rfl) (by decide) (by kernel_rfl) (by kernel_rfl)
theorem kp_take {w : World} {h0 : Heap} (X : (hd.heap_39 w.params).In h0) {pre : FH → Prop} : KeepOk (MM w h0) (.ref 530) pre := keep_is (SS_of X (is_take _).1 (by decide)) (is_take _).2
theorem ba_take (v0 v1 : Value) : bindArgs (bareFn "_law_take" (Stmt.par f_take) .none) ⟨[v0, v1], []⟩ = pure ((["c", "many"] : List Str).zip [v0, v1]) := by kernel_rfl
def f_pairs : Stmt := D 23
theorem is_pairs (P : Params) : (hd.heap_39 P).lookup 535 = some (ko 535 P) ∧ FnIs (ko 535 P) "_law_pairs" (Stmt.par f_pairs) (Stmt.bod f_pairs) (Stmt.scp f_pairs) [] (.ref 534) .none :=
  ⟨by kernel_rfl, ⟨kfd (ko 535 P), by kernel_rfl, by kernel_rfl, by kernel_rfl, by kernel_rfl, by kernel_rfl, by kernel_rfl, by kernel_rfl, by kernel_rfl, by kernel_rfl, by kernel_rfl, by kernel_rfl⟩⟩
theorem cr_pairs {w : World} {h0 : Heap} (X : (hd.heap_39 w.params).In h0) {B : FH} {h : Heap} (hS : (SS h0).le B) (hk : ∀ a o, B a = some o → h.get? a = some o) : h.CodeRec (.ref 534) "_law_pairs" :=
  codeRec_of X hS hk (by kernel_rfl) (by decide) (by kernel_rfl) (by kernel_rfl)
theorem kp_pairs {w : World} {h0 : Heap} (X : (hd.heap_39 w.params).In h0) {pre : FH → Prop} : KeepOk (MM w h0) (.ref 535) pre := keep_is (SS_of X (is_pairs _).1 (by decide)) (is_pairs _).2
theorem ba_pairs (v0 : Value) : bindArgs (bareFn "_law_pairs" (Stmt.par f_pairs) .none) ⟨[v0], []⟩ = pure ((["rows"] : List Str).zip [v0]) := by kernel_rfl
def f_some : Stmt := D 24
theorem is_some (P : Params) : (hd.heap_39 P).lookup 540 = some (ko 540 P) ∧ FnIs (ko 540 P) "_law_some" (Stmt.par f_some) (Stmt.bod f_some) (Stmt.scp f_some) [] (.ref 539) .none :=
  ⟨by kernel_rfl, ⟨kfd (ko 540 P), by kernel_rfl, by kernel_rfl, by kernel_rfl, by kernel_rfl, by kernel_rfl, by kernel_rfl, by kernel_rfl, by kernel_rfl, by kernel_rfl, by kernel_rfl, by kernel_rfl⟩⟩
theorem cr_some {w : World} {h0 : Heap} (X : (hd.heap_39 w.params).In h0) {B : FH} {h : Heap} (hS : (SS h0).le B) (hk : ∀ a o, B a = some o → h.get? a = some o) : h.CodeRec (.ref 539) "_law_some" :=
  codeRec_of X hS hk (by kernel_rfl) (by decide) (by kernel_rfl) (by kernel_rfl)
theorem kp_some {w : World} {h0 : Heap} (X : (hd.heap_39 w.params).In h0) {pre : FH → Prop} : KeepOk (MM w h0) (.ref 540) pre := keep_is (SS_of X (is_some _).1 (by decide)) (is_some _).2
theorem ba_some (v0 : Value) : bindArgs (bareFn "_law_some" (Stmt.par f_some) .none) ⟨[v0], []⟩ = pure ((["c"] : List Str).zip [v0]) := by kernel_rfl
def f_more : Stmt := D 25
theorem is_more (P : Params) : (hd.heap_39 P).lookup 545 = some (ko 545 P) ∧ FnIs (ko 545 P) "_law_more" (Stmt.par f_more) (Stmt.bod f_more) (Stmt.scp f_more) [] (.ref 544) .none :=
  ⟨by kernel_rfl, ⟨kfd (ko 545 P), by kernel_rfl, by kernel_rfl, by kernel_rfl, by kernel_rfl, by kernel_rfl, by kernel_rfl, by kernel_rfl, by kernel_rfl, by kernel_rfl, by kernel_rfl, by kernel_rfl⟩⟩
theorem cr_more {w : World} {h0 : Heap} (X : (hd.heap_39 w.params).In h0) {B : FH} {h : Heap} (hS : (SS h0).le B) (hk : ∀ a o, B a = some o → h.get? a = some o) : h.CodeRec (.ref 544) "_law_more" :=
  codeRec_of X hS hk (by kernel_rfl) (by decide) (by kernel_rfl) (by kernel_rfl)
theorem kp_more {w : World} {h0 : Heap} (X : (hd.heap_39 w.params).In h0) {pre : FH → Prop} : KeepOk (MM w h0) (.ref 545) pre := keep_is (SS_of X (is_more _).1 (by decide)) (is_more _).2
theorem ba_more (v0 : Value) : bindArgs (bareFn "_law_more" (Stmt.par f_more) .none) ⟨[v0], []⟩ = pure ((["c"] : List Str).zip [v0]) := by kernel_rfl
def f_walked : Stmt := D 26
theorem is_walked (P : Params) : (hd.heap_39 P).lookup 552 = some (ko 552 P) ∧ FnIs (ko 552 P) "_law_walked" (Stmt.par f_walked) (Stmt.bod f_walked) (Stmt.scp f_walked) [] (.ref 551) .none :=
  ⟨by kernel_rfl, ⟨kfd (ko 552 P), by kernel_rfl, by kernel_rfl, by kernel_rfl, by kernel_rfl, by kernel_rfl, by kernel_rfl, by kernel_rfl, by kernel_rfl, by kernel_rfl, by kernel_rfl, by kernel_rfl⟩⟩
theorem cr_walked {w : World} {h0 : Heap} (X : (hd.heap_39 w.params).In h0) {B : FH} {h : Heap} (hS : (SS h0).le B) (hk : ∀ a o, B a = some o → h.get? a = some o) : h.CodeRec (.ref 551) "_law_walked" :=
  codeRec_of X hS hk (by kernel_rfl) (by decide) (by kernel_rfl) (by kernel_rfl)
theorem kp_walked {w : World} {h0 : Heap} (X : (hd.heap_39 w.params).In h0) {pre : FH → Prop} : KeepOk (MM w h0) (.ref 552) pre := keep_is (SS_of X (is_walked _).1 (by decide)) (is_walked _).2
theorem ba_walked (v0 : Value) : bindArgs (bareFn "_law_walked" (Stmt.par f_walked) .none) ⟨[v0], []⟩ = pure ((["model"] : List Str).zip [v0]) := by kernel_rfl
def f_place : Stmt := D 27
theorem is_place (P : Params) : (hd.heap_39 P).lookup 559 = some (ko 559 P) ∧ FnIs (ko 559 P) "_law_place" (Stmt.par f_place) (Stmt.bod f_place) (Stmt.scp f_place) [] (.ref 558) .none :=
  ⟨by kernel_rfl, ⟨kfd (ko 559 P), by kernel_rfl, by kernel_rfl, by kernel_rfl, by kernel_rfl, by kernel_rfl, by kernel_rfl, by kernel_rfl, by kernel_rfl, by kernel_rfl, by kernel_rfl, by kernel_rfl⟩⟩
theorem cr_place {w : World} {h0 : Heap} (X : (hd.heap_39 w.params).In h0) {B : FH} {h : Heap} (hS : (SS h0).le B) (hk : ∀ a o, B a = some o → h.get? a = some o) : h.CodeRec (.ref 558) "_law_place" :=
  codeRec_of X hS hk (by kernel_rfl) (by decide) (by kernel_rfl) (by kernel_rfl)
theorem kp_place {w : World} {h0 : Heap} (X : (hd.heap_39 w.params).In h0) {pre : FH → Prop} : KeepOk (MM w h0) (.ref 559) pre := keep_is (SS_of X (is_place _).1 (by decide)) (is_place _).2
theorem ba_place (v0 v1 : Value) : bindArgs (bareFn "_law_place" (Stmt.par f_place) .none) ⟨[v0, v1], []⟩ = pure ((["rows", "name"] : List Str).zip [v0, v1]) := by kernel_rfl
def f_plain : Stmt := D 28
theorem is_plain (P : Params) : (hd.heap_39 P).lookup 566 = some (ko 566 P) ∧ FnIs (ko 566 P) "_law_plain" (Stmt.par f_plain) (Stmt.bod f_plain) (Stmt.scp f_plain) [] (.ref 565) .none :=
  ⟨by kernel_rfl, ⟨kfd (ko 566 P), by kernel_rfl, by kernel_rfl, by kernel_rfl, by kernel_rfl, by kernel_rfl, by kernel_rfl, by kernel_rfl, by kernel_rfl, by kernel_rfl, by kernel_rfl, by kernel_rfl⟩⟩
theorem cr_plain {w : World} {h0 : Heap} (X : (hd.heap_39 w.params).In h0) {B : FH} {h : Heap} (hS : (SS h0).le B) (hk : ∀ a o, B a = some o → h.get? a = some o) : h.CodeRec (.ref 565) "_law_plain" :=
  codeRec_of X hS hk (by kernel_rfl) (by decide) (by kernel_rfl) (by kernel_rfl)
theorem kp_plain {w : World} {h0 : Heap} (X : (hd.heap_39 w.params).In h0) {pre : FH → Prop} : KeepOk (MM w h0) (.ref 566) pre := keep_is (SS_of X (is_plain _).1 (by decide)) (is_plain _).2
theorem ba_plain (v0 v1 v2 v3 v4 : Value) : bindArgs (bareFn "_law_plain" (Stmt.par f_plain) .none) ⟨[v0, v1, v2, v3, v4], []⟩ = pure ((["model", "kind", "name", "part", "some"] : List Str).zip [v0, v1, v2, v3, v4]) := by kernel_rfl
def f_done : Stmt := D 29
theorem is_done (P : Params) : (hd.heap_39 P).lookup 573 = some (ko 573 P) ∧ FnIs (ko 573 P) "_law_done" (Stmt.par f_done) (Stmt.bod f_done) (Stmt.scp f_done) [] (.ref 572) .none :=
  ⟨by kernel_rfl, ⟨kfd (ko 573 P), by kernel_rfl, by kernel_rfl, by kernel_rfl, by kernel_rfl, by kernel_rfl, by kernel_rfl, by kernel_rfl, by kernel_rfl, by kernel_rfl, by kernel_rfl, by kernel_rfl⟩⟩
theorem cr_done {w : World} {h0 : Heap} (X : (hd.heap_39 w.params).In h0) {B : FH} {h : Heap} (hS : (SS h0).le B) (hk : ∀ a o, B a = some o → h.get? a = some o) : h.CodeRec (.ref 572) "_law_done" :=
  codeRec_of X hS hk (by kernel_rfl) (by decide) (by kernel_rfl) (by kernel_rfl)
theorem kp_done {w : World} {h0 : Heap} (X : (hd.heap_39 w.params).In h0) {pre : FH → Prop} : KeepOk (MM w h0) (.ref 573) pre := keep_is (SS_of X (is_done _).1 (by decide)) (is_done _).2
theorem ba_done (v0 v1 v2 v3 v4 : Value) : bindArgs (bareFn "_law_done" (Stmt.par f_done) .none) ⟨[v0, v1, v2, v3, v4], []⟩ = pure ((["entity", "kind", "name", "part", "some"] : List Str).zip [v0, v1, v2, v3, v4]) := by kernel_rfl
def f_made : Stmt := D 30
theorem is_made (P : Params) : (hd.heap_39 P).lookup 580 = some (ko 580 P) ∧ FnIs (ko 580 P) "_law_made" (Stmt.par f_made) (Stmt.bod f_made) (Stmt.scp f_made) [] (.ref 579) .none :=
  ⟨by kernel_rfl, ⟨kfd (ko 580 P), by kernel_rfl, by kernel_rfl, by kernel_rfl, by kernel_rfl, by kernel_rfl, by kernel_rfl, by kernel_rfl, by kernel_rfl, by kernel_rfl, by kernel_rfl, by kernel_rfl⟩⟩
theorem cr_made {w : World} {h0 : Heap} (X : (hd.heap_39 w.params).In h0) {B : FH} {h : Heap} (hS : (SS h0).le B) (hk : ∀ a o, B a = some o → h.get? a = some o) : h.CodeRec (.ref 579) "_law_made" :=
  codeRec_of X hS hk (by kernel_rfl) (by decide) (by kernel_rfl) (by kernel_rfl)
theorem kp_made {w : World} {h0 : Heap} (X : (hd.heap_39 w.params).In h0) {pre : FH → Prop} : KeepOk (MM w h0) (.ref 580) pre := keep_is (SS_of X (is_made _).1 (by decide)) (is_made _).2
theorem ba_made (v0 : Value) : bindArgs (bareFn "_law_made" (Stmt.par f_made) .none) ⟨[v0], []⟩ = pure ((["c"] : List Str).zip [v0]) := by kernel_rfl
def f_law : Stmt := D 31
theorem is_law (P : Params) : (hd.heap_39 P).lookup 585 = some (ko 585 P) ∧ FnIs (ko 585 P) "law" (Stmt.par f_law) (Stmt.bod f_law) (Stmt.scp f_law) [] (.ref 584) .none :=
  ⟨by kernel_rfl, ⟨kfd (ko 585 P), by kernel_rfl, by kernel_rfl, by kernel_rfl, by kernel_rfl, by kernel_rfl, by kernel_rfl, by kernel_rfl, by kernel_rfl, by kernel_rfl, by kernel_rfl, by kernel_rfl⟩⟩
theorem cr_law {w : World} {h0 : Heap} (X : (hd.heap_39 w.params).In h0) {B : FH} {h : Heap} (hS : (SS h0).le B) (hk : ∀ a o, B a = some o → h.get? a = some o) : h.CodeRec (.ref 584) "law" :=
  codeRec_of X hS hk (by kernel_rfl) (by decide) (by kernel_rfl) (by kernel_rfl)
theorem kp_law {w : World} {h0 : Heap} (X : (hd.heap_39 w.params).In h0) {pre : FH → Prop} : KeepOk (MM w h0) (.ref 585) pre := keep_is (SS_of X (is_law _).1 (by decide)) (is_law _).2
theorem ba_law (v0 : Value) : bindArgs (bareFn "law" (Stmt.par f_law) .none) ⟨[v0], []⟩ = pure ((["script"] : List Str).zip [v0]) := by kernel_rfl
def f_tcode : Stmt := DD 7 4
theorem is_tcode (P : Params) : (hd.heap_39 P).lookup 57 = some (ko 57 P) ∧ FnIs (ko 57 P) "DXFTag.code" (Stmt.par f_tcode) (Stmt.bod f_tcode) (Stmt.scp f_tcode) [] (.ref 56) .none :=
  ⟨by kernel_rfl, ⟨kfd (ko 57 P), by kernel_rfl, by kernel_rfl, by kernel_rfl, by kernel_rfl, by kernel_rfl, by kernel_rfl, by kernel_rfl, by kernel_rfl, by kernel_rfl, by kernel_rfl, by kernel_rfl⟩⟩
theorem cr_tcode {w : World} {h0 : Heap} (X : (hd.heap_39 w.params).In h0) {B : FH} {h : Heap} (hS : (SS h0).le B) (hk : ∀ a o, B a = some o → h.get? a = some o) : h.CodeRec (.ref 56) "DXFTag.code" :=
  codeRec_of X hS hk (by kernel_rfl) (by decide) (by kernel_rfl) (by kernel_rfl)
theorem kp_tcode {w : World} {h0 : Heap} (X : (hd.heap_39 w.params).In h0) {pre : FH → Prop} : KeepOk (MM w h0) (.ref 57) pre := keep_is (SS_of X (is_tcode _).1 (by decide)) (is_tcode _).2
theorem ba_tcode (v0 : Value) : bindArgs (bareFn "DXFTag.code" (Stmt.par f_tcode) .none) ⟨[v0], []⟩ = pure ((["self"] : List Str).zip [v0]) := by kernel_rfl
def f_tvalue : Stmt := DD 7 5
theorem is_tvalue (P : Params) : (hd.heap_39 P).lookup 65 = some (ko 65 P) ∧ FnIs (ko 65 P) "DXFTag.value" (Stmt.par f_tvalue) (Stmt.bod f_tvalue) (Stmt.scp f_tvalue) [] (.ref 64) .none :=
  ⟨by kernel_rfl, ⟨kfd (ko 65 P), by kernel_rfl, by kernel_rfl, by kernel_rfl, by kernel_rfl, by kernel_rfl, by kernel_rfl, by kernel_rfl, by kernel_rfl, by kernel_rfl, by kernel_rfl, by kernel_rfl⟩⟩
theorem cr_tvalue {w : World} {h0 : Heap} (X : (hd.heap_39 w.params).In h0) {B : FH} {h : Heap} (hS : (SS h0).le B) (hk : ∀ a o, B a = some o → h.get? a = some o) : h.CodeRec (.ref 64) "DXFTag.value" :=
  codeRec_of X hS hk (by kernel_rfl) (by decide) (by kernel_rfl) (by kernel_rfl)
theorem kp_tvalue {w : World} {h0 : Heap} (X : (hd.heap_39 w.params).In h0) {pre : FH → Prop} : KeepOk (MM w h0) (.ref 65) pre := keep_is (SS_of X (is_tvalue _).1 (by decide)) (is_tvalue _).2
theorem ba_tvalue (v0 : Value) : bindArgs (bareFn "DXFTag.value" (Stmt.par f_tvalue) .none) ⟨[v0], []⟩ = pure ((["self"] : List Str).zip [v0]) := by kernel_rfl
def f_tinit : Stmt := DD 7 1
theorem is_tinit (P : Params) : (hd.heap_39 P).lookup 36 = some (ko 36 P) ∧ FnIs (ko 36 P) "DXFTag.__init__" (Stmt.par f_tinit) (Stmt.bod f_tinit) (Stmt.scp f_tinit) [] (.ref 35) .none :=
  ⟨by kernel_rfl, ⟨kfd (ko 36 P), by kernel_rfl, by kernel_rfl, by kernel_rfl, by kernel_rfl, by kernel_rfl, by kernel_rfl, by kernel_rfl, by kernel_rfl, by kernel_rfl, by kernel_rfl, by kernel_rfl⟩⟩
theorem cr_tinit {w : World} {h0 : Heap} (X : (hd.heap_39 w.params).In h0) {B : FH} {h : Heap} (hS : (SS h0).le B) (hk : ∀ a o, B a = some o → h.get? a = some o) : h.CodeRec (.ref 35) "DXFTag.__init__" :=
  codeRec_of X hS hk (by kernel_rfl) (by decide) (by kernel_rfl) (by kernel_rfl)
theorem kp_tinit {w : World} {h0 : Heap} (X : (hd.heap_39 w.params).In h0) {pre : FH → Prop} : KeepOk (MM w h0) (.ref 36) pre := keep_is (SS_of X (is_tinit _).1 (by decide)) (is_tinit _).2
theorem ba_tinit (v0 v1 v2 : Value) : bindArgs (bareFn "DXFTag.__init__" (Stmt.par f_tinit) .none) ⟨[v0, v1, v2], []⟩ = pure ((["self", "code", "value"] : List Str).zip [v0, v1, v2]) := by kernel_rfl
def f_titer : Stmt := DD 7 7
theorem is_titer (P : Params) : (hd.heap_39 P).lookup 80 = some (ko 80 P) ∧ FnIs (ko 80 P) "DXFTag.__iter__" (Stmt.par f_titer) (Stmt.bod f_titer) (Stmt.scp f_titer) [] (.ref 79) .none :=
  ⟨by kernel_rfl, ⟨kfd (ko 80 P), by kernel_rfl, by kernel_rfl, by kernel_rfl, by kernel_rfl, by kernel_rfl, by kernel_rfl, by kernel_rfl, by kernel_rfl, by kernel_rfl, by kernel_rfl, by kernel_rfl⟩⟩
theorem cr_titer {w : World} {h0 : Heap} (X : (hd.heap_39 w.params).In h0) {B : FH} {h : Heap} (hS : (SS h0).le B) (hk : ∀ a o, B a = some o → h.get? a = some o) : h.CodeRec (.ref 79) "DXFTag.__iter__" :=
  codeRec_of X hS hk (by kernel_rfl) (by decide) (by kernel_rfl) (by kernel_rfl)
theorem kp_titer {w : World} {h0 : Heap} (X : (hd.heap_39 w.params).In h0) {pre : FH → Prop} : KeepOk (MM w h0) (.ref 80) pre := keep_is (SS_of X (is_titer _).1 (by decide)) (is_titer _).2
theorem ba_titer (v0 : Value) : bindArgs (bareFn "DXFTag.__iter__" (Stmt.par f_titer) .none) ⟨[v0], []⟩ = pure ((["self"] : List Str).zip [v0]) := by kernel_rfl
def f_isapp : Stmt := D 9
theorem is_isapp (P : Params) : (hd.heap_39 P).lookup 126 = some (ko 126 P) ∧ FnIs (ko 126 P) "is_app_data_marker" (Stmt.par f_isapp) (Stmt.bod f_isapp) (Stmt.scp f_isapp) [] (.ref 125) .none :=
  ⟨by kernel_rfl, ⟨kfd (ko 126 P), by kernel_rfl, by kernel_rfl, by kernel_rfl, by kernel_rfl, by kernel_rfl, by kernel_rfl, by kernel_rfl, by kernel_rfl, by kernel_rfl, by kernel_rfl, by kernel_rfl⟩⟩
theorem cr_isapp {w : World} {h0 : Heap} (X : (hd.heap_39 w.params).In h0) {B : FH} {h : Heap} (hS : (SS h0).le B) (hk : ∀ a o, B a = some o → h.get? a = some o) : h.CodeRec (.ref 125) "is_app_data_marker" :=
  codeRec_of X hS hk (by kernel_rfl) (by decide) (by kernel_rfl) (by kernel_rfl)
theorem kp_isapp {w : World} {h0 : Heap} (X : (hd.heap_39 w.params).In h0) {pre : FH → Prop} : KeepOk (MM w h0) (.ref 126) pre := keep_is (SS_of X (is_isapp _).1 (by decide)) (is_isapp _).2
theorem ba_isapp (v0 : Value) : bindArgs (bareFn "is_app_data_marker" (Stmt.par f_isapp) .none) ⟨[v0], []⟩ = pure ((["tag"] : List Str).zip [v0]) := by kernel_rfl
def f_isemb : Stmt := D 10
theorem is_isemb (P : Params) : (hd.heap_39 P).lookup 133 = some (ko 133 P) ∧ FnIs (ko 133 P) "is_embedded_object_marker" (Stmt.par f_isemb) (Stmt.bod f_isemb) (Stmt.scp f_isemb) [] (.ref 132) .none :=
  ⟨by kernel_rfl, ⟨kfd (ko 133 P), by kernel_rfl, by kernel_rfl, by kernel_rfl, by kernel_rfl, by kernel_rfl, by kernel_rfl, by kernel_rfl, by kernel_rfl, by kernel_rfl, by kernel_rfl, by kernel_rfl⟩⟩
theorem cr_isemb {w : World} {h0 : Heap} (X : (hd.heap_39 w.params).In h0) {B : FH} {h : Heap} (hS : (SS h0).le B) (hk : ∀ a o, B a = some o → h.get? a = some o) : h.CodeRec (.ref 132) "is_embedded_object_marker" :=
  codeRec_of X hS hk (by kernel_rfl) (by decide) (by kernel_rfl) (by kernel_rfl)
theorem kp_isemb {w : World} {h0 : Heap} (X : (hd.heap_39 w.params).In h0) {pre : FH → Prop} : KeepOk (MM w h0) (.ref 133) pre := keep_is (SS_of X (is_isemb _).1 (by decide)) (is_isemb _).2
theorem ba_isemb (v0 : Value) : bindArgs (bareFn "is_embedded_object_marker" (Stmt.par f_isemb) .none) ⟨[v0], []⟩ = pure ((["tag"] : List Str).zip [v0]) := by kernel_rfl
def f_t2t : Stmt := D 11
theorem is_t2t (P : Params) : (hd.heap_39 P).lookup 140 = some (ko 140 P) ∧ FnIs (ko 140 P) "tuples_to_tags" (Stmt.par f_t2t) (Stmt.bod f_t2t) (Stmt.scp f_t2t) [] (.ref 139) .none :=
  ⟨by kernel_rfl, ⟨kfd (ko 140 P), by kernel_rfl, by kernel_rfl, by kernel_rfl, by kernel_rfl, by kernel_rfl, by kernel_rfl, by kernel_rfl, by kernel_rfl, by kernel_rfl, by kernel_rfl, by kernel_rfl⟩⟩
theorem cr_t2t {w : World} {h0 : Heap} (X : (hd.heap_39 w.params).In h0) {B : FH} {h : Heap} (hS : (SS h0).le B) (hk : ∀ a o, B a = some o → h.get? a = some o) : h.CodeRec (.ref 139) "tuples_to_tags" :=
  codeRec_of X hS hk (by kernel_rfl) (by decide) (by kernel_rfl) (by kernel_rfl)
theorem kp_t2t {w : World} {h0 : Heap} (X : (hd.heap_39 w.params).In h0) {pre : FH → Prop} : KeepOk (MM w h0) (.ref 140) pre := keep_is (SS_of X (is_t2t _).1 (by decide)) (is_t2t _).2
theorem ba_t2t (v0 : Value) : bindArgs (bareFn "tuples_to_tags" (Stmt.par f_t2t) .none) ⟨[v0], []⟩ = pure ((["iterable"] : List Str).zip [v0]) := by kernel_rfl
def f_thandle : Stmt := DD 18 3
theorem is_thandle (P : Params) : (hd.heap_39 P).lookup 220 = some (ko 220 P) ∧ FnIs (ko 220 P) "Tags.get_handle" (Stmt.par f_thandle) (Stmt.bod f_thandle) (Stmt.scp f_thandle) [] (.ref 219) .none :=
  ⟨by kernel_rfl, ⟨kfd (ko 220 P), by kernel_rfl, by kernel_rfl, by kernel_rfl, by kernel_rfl, by kernel_rfl, by kernel_rfl, by kernel_rfl, by kernel_rfl, by kernel_rfl, by kernel_rfl, by kernel_rfl⟩⟩
theorem cr_thandle {w : World} {h0 : Heap} (X : (hd.heap_39 w.params).In h0) {B : FH} {h : Heap} (hS : (SS h0).le B) (hk : ∀ a o, B a = some o → h.get? a = some o) : h.CodeRec (.ref 219) "Tags.get_handle" :=
  codeRec_of X hS hk (by kernel_rfl) (by decide) (by kernel_rfl) (by kernel_rfl)
theorem kp_thandle {w : World} {h0 : Heap} (X : (hd.heap_39 w.params).In h0) {pre : FH → Prop} : KeepOk (MM w h0) (.ref 220) pre := keep_is (SS_of X (is_thandle _).1 (by decide)) (is_thandle _).2
theorem ba_thandle (v0 : Value) : bindArgs (bareFn "Tags.get_handle" (Stmt.par f_thandle) .none) ⟨[v0], []⟩ = pure ((["self"] : List Str).zip [v0]) := by kernel_rfl
def f_trep : Stmt := DD 18 4
theorem is_trep (P : Params) : (hd.heap_39 P).lookup 227 = some (ko 227 P) ∧ FnIs (ko 227 P) "Tags.replace_handle" (Stmt.par f_trep) (Stmt.bod f_trep) (Stmt.scp f_trep) [] (.ref 226) .none :=
  ⟨by kernel_rfl, ⟨kfd (ko 227 P), by kernel_rfl, by kernel_rfl, by kernel_rfl, by kernel_rfl, by kernel_rfl, by kernel_rfl, by kernel_rfl, by kernel_rfl, by kernel_rfl, by kernel_rfl, by kernel_rfl⟩⟩
theorem cr_trep {w : World} {h0 : Heap} (X : (hd.heap_39 w.params).In h0) {B : FH} {h : Heap} (hS : (SS h0).le B) (hk : ∀ a o, B a = some o → h.get? a = some o) : h.CodeRec (.ref 226) "Tags.replace_handle" :=
  codeRec_of X hS hk (by kernel_rfl) (by decide) (by kernel_rfl) (by kernel_rfl)
theorem kp_trep {w : World} {h0 : Heap} (X : (hd.heap_39 w.params).In h0) {pre : FH → Prop} : KeepOk (MM w h0) (.ref 227) pre := keep_is (SS_of X (is_trep _).1 (by decide)) (is_trep _).2
theorem ba_trep (v0 v1 : Value) : bindArgs (bareFn "Tags.replace_handle" (Stmt.par f_trep) .none) ⟨[v0, v1], []⟩ = pure ((["self", "new_handle"] : List Str).zip [v0, v1]) := by kernel_rfl
def f_einit : Stmt := DD 20 1
theorem is_einit (P : Params) : (hd.heap_39 P).lookup 383 = some (ko 383 P) ∧ FnIs (ko 383 P) "ExtendedTags.__init__" (Stmt.par f_einit) (Stmt.bod f_einit) (Stmt.scp f_einit) [] (.ref 382) (.ref 376) :=
  ⟨by kernel_rfl, ⟨kfd (ko 383 P), by kernel_rfl, by kernel_rfl, by kernel_rfl, by kernel_rfl, by kernel_rfl, by kernel_rfl, by kernel_rfl, by kernel_rfl, by kernel_rfl, by kernel_rfl, by kernel_rfl⟩⟩
theorem cr_einit {w : World} {h0 : Heap} (X : (hd.heap_39 w.params).In h0) {B : FH} {h : Heap} (hS : (SS h0).le B) (hk : ∀ a o, B a = some o → h.get? a = some o) : h.CodeRec (.ref 382) "ExtendedTags.__init__" :=
  codeRec_of X hS hk (by kernel_rfl) (by decide) (by kernel_rfl) (by kernel_rfl)
theorem kp_einit {w : World} {h0 : Heap} (X : (hd.heap_39 w.params).In h0) {pre : FH → Prop} : KeepOk (MM w h0) (.ref 383) pre := keep_is (SS_of X (is_einit _).1 (by decide)) (is_einit _).2
def f_noclass : Stmt := DD 20 3
theorem is_noclass (P : Params) : (hd.heap_39 P).lookup 397 = some (ko 397 P) ∧ FnIs (ko 397 P) "ExtendedTags.noclass" (Stmt.par f_noclass) (Stmt.bod f_noclass) (Stmt.scp f_noclass) [] (.ref 396) .none :=
  ⟨by kernel_rfl, ⟨kfd (ko 397 P), by kernel_rfl, by kernel_rfl, by kernel_rfl, by kernel_rfl, by kernel_rfl, by kernel_rfl, by kernel_rfl, by kernel_rfl, by kernel_rfl, by kernel_rfl, by kernel_rfl⟩⟩
theorem cr_noclass {w : World} {h0 : Heap} (X : (hd.heap_39 w.params).In h0) {B : FH} {h : Heap} (hS : (SS h0).le B) (hk : ∀ a o, B a = some o → h.get? a = some o) : h.CodeRec (.ref 396) "ExtendedTags.noclass" :=
  codeRec_of X hS hk (by kernel_rfl) (by decide) (by kernel_rfl) (by kernel_rfl)
theorem kp_noclass {w : World} {h0 : Heap} (X : (hd.heap_39 w.params).In h0) {pre : FH → Prop} : KeepOk (MM w h0) (.ref 397) pre := keep_is (SS_of X (is_noclass _).1 (by decide)) (is_noclass _).2
theorem ba_noclass (v0 : Value) : bindArgs (bareFn "ExtendedTags.noclass" (Stmt.par f_noclass) .none) ⟨[v0], []⟩ = pure ((["self"] : List Str).zip [v0]) := by kernel_rfl
def f_ehandle : Stmt := DD 20 4
theorem is_ehandle (P : Params) : (hd.heap_39 P).lookup 405 = some (ko 405 P) ∧ FnIs (ko 405 P) "ExtendedTags.get_handle" (Stmt.par f_ehandle) (Stmt.bod f_ehandle) (Stmt.scp f_ehandle) [] (.ref 404) .none :=
  ⟨by kernel_rfl, ⟨kfd (ko 405 P), by kernel_rfl, by kernel_rfl, by kernel_rfl, by kernel_rfl, by kernel_rfl, by kernel_rfl, by kernel_rfl, by kernel_rfl, by kernel_rfl, by kernel_rfl, by kernel_rfl⟩⟩
theorem cr_ehandle {w : World} {h0 : Heap} (X : (hd.heap_39 w.params).In h0) {B : FH} {h : Heap} (hS : (SS h0).le B) (hk : ∀ a o, B a = some o → h.get? a = some o) : h.CodeRec (.ref 404) "ExtendedTags.get_handle" :=
  codeRec_of X hS hk (by kernel_rfl) (by decide) (by kernel_rfl) (by kernel_rfl)
theorem kp_ehandle {w : World} {h0 : Heap} (X : (hd.heap_39 w.params).In h0) {pre : FH → Prop} : KeepOk (MM w h0) (.ref 405) pre := keep_is (SS_of X (is_ehandle _).1 (by decide)) (is_ehandle _).2
theorem ba_ehandle (v0 : Value) : bindArgs (bareFn "ExtendedTags.get_handle" (Stmt.par f_ehandle) .none) ⟨[v0], []⟩ = pure ((["self"] : List Str).zip [v0]) := by kernel_rfl
def f_erep : Stmt := DD 20 6
theorem is_erep (P : Params) : (hd.heap_39 P).lookup 419 = some (ko 419 P) ∧ FnIs (ko 419 P) "ExtendedTags.replace_handle" (Stmt.par f_erep) (Stmt.bod f_erep) (Stmt.scp f_erep) [] (.ref 418) .none :=
  ⟨by kernel_rfl, ⟨kfd (ko 419 P), by kernel_rfl, by kernel_rfl, by kernel_rfl, by kernel_rfl, by kernel_rfl, by kernel_rfl, by kernel_rfl, by kernel_rfl, by kernel_rfl, by kernel_rfl, by kernel_rfl⟩⟩
theorem cr_erep {w : World} {h0 : Heap} (X : (hd.heap_39 w.params).In h0) {B : FH} {h : Heap} (hS : (SS h0).le B) (hk : ∀ a o, B a = some o → h.get? a = some o) : h.CodeRec (.ref 418) "ExtendedTags.replace_handle" :=
  codeRec_of X hS hk (by kernel_rfl) (by decide) (by kernel_rfl) (by kernel_rfl)
theorem kp_erep {w : World} {h0 : Heap} (X : (hd.heap_39 w.params).In h0) {pre : FH → Prop} : KeepOk (MM w h0) (.ref 419) pre := keep_is (SS_of X (is_erep _).1 (by decide)) (is_erep _).2
theorem ba_erep (v0 v1 : Value) : bindArgs (bareFn "ExtendedTags.replace_handle" (Stmt.par f_erep) .none) ⟨[v0, v1], []⟩ = pure ((["self", "handle"] : List Str).zip [v0, v1]) := by kernel_rfl
def f_setup : Stmt := DD 20 7
theorem is_setup (P : Params) : (hd.heap_39 P).lookup 426 = some (ko 426 P) ∧ FnIs (ko 426 P) "ExtendedTags._setup" (Stmt.par f_setup) (Stmt.bod f_setup) (Stmt.scp f_setup) [] (.ref 425) .none :=
  ⟨by kernel_rfl, ⟨kfd (ko 426 P), by kernel_rfl, by kernel_rfl, by kernel_rfl, by kernel_rfl, by kernel_rfl, by kernel_rfl, by kernel_rfl, by kernel_rfl, by kernel_rfl, by kernel_rfl, by kernel_rfl⟩⟩
theorem cr_setup {w : World} {h0 : Heap} (X : (hd.heap_39 w.params).In h0) {B : FH} {h : Heap} (hS : (SS h0).le B) (hk : ∀ a o, B a = some o → h.get? a = some o) : h.CodeRec (.ref 425) "ExtendedTags._setup" :=
  codeRec_of X hS hk (by kernel_rfl) (by decide) (by kernel_rfl) (by kernel_rfl)
theorem kp_setup {w : World} {h0 : Heap} (X : (hd.heap_39 w.params).In h0) {pre : FH → Prop} : KeepOk (MM w h0) (.ref 426) pre := keep_is (SS_of X (is_setup _).1 (by decide)) (is_setup _).2
theorem ba_setup (v0 v1 : Value) : bindArgs (bareFn "ExtendedTags._setup" (Stmt.par f_setup) .none) ⟨[v0, v1], []⟩ = pure ((["self", "tags"] : List Str).zip [v0, v1]) := by kernel_rfl
def f_eiter : Stmt := DD 20 8
theorem is_eiter (P : Params) : (hd.heap_39 P).lookup 433 = some (ko 433 P) ∧ FnIs (ko 433 P) "ExtendedTags.__iter__" (Stmt.par f_eiter) (Stmt.bod f_eiter) (Stmt.scp f_eiter) [] (.ref 432) .none :=
  ⟨by kernel_rfl, ⟨kfd (ko 433 P), by kernel_rfl, by kernel_rfl, by kernel_rfl, by kernel_rfl, by kernel_rfl, by kernel_rfl, by kernel_rfl, by kernel_rfl, by kernel_rfl, by kernel_rfl, by kernel_rfl⟩⟩
theorem cr_eiter {w : World} {h0 : Heap} (X : (hd.heap_39 w.params).In h0) {B : FH} {h : Heap} (hS : (SS h0).le B) (hk : ∀ a o, B a = some o → h.get? a = some o) : h.CodeRec (.ref 432) "ExtendedTags.__iter__" :=
  codeRec_of X hS hk (by kernel_rfl) (by decide) (by kernel_rfl) (by kernel_rfl)
theorem kp_eiter {w : World} {h0 : Heap} (X : (hd.heap_39 w.params).In h0) {pre : FH → Prop} : KeepOk (MM w h0) (.ref 433) pre := keep_is (SS_of X (is_eiter _).1 (by decide)) (is_eiter _).2
theorem ba_eiter (v0 : Value) : bindArgs (bareFn "ExtendedTags.__iter__" (Stmt.par f_eiter) .none) ⟨[v0], []⟩ = pure ((["self"] : List Str).zip [v0]) := by kernel_rfl
def f_getsub : Stmt := DD 20 9
theorem is_getsub (P : Params) : (hd.heap_39 P).lookup 441 = some (ko 441 P) ∧ FnIs (ko 441 P) "ExtendedTags.get_subclass" (Stmt.par f_getsub) (Stmt.bod f_getsub) (Stmt.scp f_getsub) [] (.ref 440) (.ref 434) :=
  ⟨by kernel_rfl, ⟨kfd (ko 441 P), by kernel_rfl, by kernel_rfl, by kernel_rfl, by kernel_rfl, by kernel_rfl, by kernel_rfl, by kernel_rfl, by kernel_rfl, by kernel_rfl, by kernel_rfl, by kernel_rfl⟩⟩
theorem cr_getsub {w : World} {h0 : Heap} (X : (hd.heap_39 w.params).In h0) {B : FH} {h : Heap} (hS : (SS h0).le B) (hk : ∀ a o, B a = some o → h.get? a = some o) : h.CodeRec (.ref 440) "ExtendedTags.get_subclass" :=
  codeRec_of X hS hk (by kernel_rfl) (by decide) (by kernel_rfl) (by kernel_rfl)
theorem kp_getsub {w : World} {h0 : Heap} (X : (hd.heap_39 w.params).In h0) {pre : FH → Prop} : KeepOk (MM w h0) (.ref 441) pre := keep_is (SS_of X (is_getsub _).1 (by decide)) (is_getsub _).2
def f_getx : Stmt := DD 20 12
theorem is_getx (P : Params) : (hd.heap_39 P).lookup 462 = some (ko 462 P) ∧ FnIs (ko 462 P) "ExtendedTags.get_xdata" (Stmt.par f_getx) (Stmt.bod f_getx) (Stmt.scp f_getx) [] (.ref 461) .none :=
  ⟨by kernel_rfl, ⟨kfd (ko 462 P), by kernel_rfl, by kernel_rfl, by kernel_rfl, by kernel_rfl, by kernel_rfl, by kernel_rfl, by kernel_rfl, by kernel_rfl, by kernel_rfl, by kernel_rfl, by kernel_rfl⟩⟩
theorem cr_getx {w : World} {h0 : Heap} (X : (hd.heap_39 w.params).In h0) {B : FH} {h : Heap} (hS : (SS h0).le B) (hk : ∀ a o, B a = some o → h.get? a = some o) : h.CodeRec (.ref 461) "ExtendedTags.get_xdata" :=
  codeRec_of X hS hk (by kernel_rfl) (by decide) (by kernel_rfl) (by kernel_rfl)
theorem kp_getx {w : World} {h0 : Heap} (X : (hd.heap_39 w.params).In h0) {pre : FH → Prop} : KeepOk (MM w h0) (.ref 462) pre := keep_is (SS_of X (is_getx _).1 (by decide)) (is_getx _).2
theorem ba_getx (v0 v1 : Value) : bindArgs (bareFn "ExtendedTags.get_xdata" (Stmt.par f_getx) .none) ⟨[v0, v1], []⟩ = pure ((["self", "appid"] : List Str).zip [v0, v1]) := by kernel_rfl
def f_setx : Stmt := DD 20 13
theorem is_setx (P : Params) : (hd.heap_39 P).lookup 469 = some (ko 469 P) ∧ FnIs (ko 469 P) "ExtendedTags.set_xdata" (Stmt.par f_setx) (Stmt.bod f_setx) (Stmt.scp f_setx) [] (.ref 468) .none :=
  ⟨by kernel_rfl, ⟨kfd (ko 469 P), by kernel_rfl, by kernel_rfl, by kernel_rfl, by kernel_rfl, by kernel_rfl, by kernel_rfl, by kernel_rfl, by kernel_rfl, by kernel_rfl, by kernel_rfl, by kernel_rfl⟩⟩
theorem cr_setx {w : World} {h0 : Heap} (X : (hd.heap_39 w.params).In h0) {B : FH} {h : Heap} (hS : (SS h0).le B) (hk : ∀ a o, B a = some o → h.get? a = some o) : h.CodeRec (.ref 468) "ExtendedTags.set_xdata" :=
  codeRec_of X hS hk (by kernel_rfl) (by decide) (by kernel_rfl) (by kernel_rfl)
theorem kp_setx {w : World} {h0 : Heap} (X : (hd.heap_39 w.params).In h0) {pre : FH → Prop} : KeepOk (MM w h0) (.ref 469) pre := keep_is (SS_of X (is_setx _).1 (by decide)) (is_setx _).2
theorem ba_setx (v0 v1 v2 : Value) : bindArgs (bareFn "ExtendedTags.set_xdata" (Stmt.par f_setx) .none) ⟨[v0, v1, v2], []⟩ = pure ((["self", "appid", "tags"] : List Str).zip [v0, v1, v2]) := by kernel_rfl
def f_newx : Stmt := DD 20 14
theorem is_newx (P : Params) : (hd.heap_39 P).lookup 477 = some (ko 477 P) ∧ FnIs (ko 477 P) "ExtendedTags.new_xdata" (Stmt.par f_newx) (Stmt.bod f_newx) (Stmt.scp f_newx) [] (.ref 476) (.ref 470) :=
  ⟨by kernel_rfl, ⟨kfd (ko 477 P), by kernel_rfl, by kernel_rfl, by kernel_rfl, by kernel_rfl, by kernel_rfl, by kernel_rfl, by kernel_rfl, by kernel_rfl, by kernel_rfl, by kernel_rfl, by kernel_rfl⟩⟩
theorem cr_newx {w : World} {h0 : Heap} (X : (hd.heap_39 w.params).In h0) {B : FH} {h : Heap} (hS : (SS h0).le B) (hk : ∀ a o, B a = some o → h.get? a = some o) : h.CodeRec (.ref 476) "ExtendedTags.new_xdata" :=
  codeRec_of X hS hk (by kernel_rfl) (by decide) (by kernel_rfl) (by kernel_rfl)
theorem kp_newx {w : World} {h0 : Heap} (X : (hd.heap_39 w.params).In h0) {pre : FH → Prop} : KeepOk (MM w h0) (.ref 477) pre := keep_is (SS_of X (is_newx _).1 (by decide)) (is_newx _).2
def f_getapp : Stmt := DD 20 16
theorem is_getapp (P : Params) : (hd.heap_39 P).lookup 491 = some (ko 491 P) ∧ FnIs (ko 491 P) "ExtendedTags.get_app_data" (Stmt.par f_getapp) (Stmt.bod f_getapp) (Stmt.scp f_getapp) [] (.ref 490) .none :=
  ⟨by kernel_rfl, ⟨kfd (ko 491 P), by kernel_rfl, by kernel_rfl, by kernel_rfl, by kernel_rfl, by kernel_rfl, by kernel_rfl, by kernel_rfl, by kernel_rfl, by kernel_rfl, by kernel_rfl, by kernel_rfl⟩⟩
theorem cr_getapp {w : World} {h0 : Heap} (X : (hd.heap_39 w.params).In h0) {B : FH} {h : Heap} (hS : (SS h0).le B) (hk : ∀ a o, B a = some o → h.get? a = some o) : h.CodeRec (.ref 490) "ExtendedTags.get_app_data" :=
  codeRec_of X hS hk (by kernel_rfl) (by decide) (by kernel_rfl) (by kernel_rfl)
theorem kp_getapp {w : World} {h0 : Heap} (X : (hd.heap_39 w.params).In h0) {pre : FH → Prop} : KeepOk (MM w h0) (.ref 491) pre := keep_is (SS_of X (is_getapp _).1 (by decide)) (is_getapp _).2
theorem ba_getapp (v0 v1 : Value) : bindArgs (bareFn "ExtendedTags.get_app_data" (Stmt.par f_getapp) .none) ⟨[v0, v1], []⟩ = pure ((["self", "appid"] : List Str).zip [v0, v1]) := by kernel_rfl
def f_setapp : Stmt := DD 20 18
theorem is_setapp (P : Params) : (hd.heap_39 P).lookup 505 = some (ko 505 P) ∧ FnIs (ko 505 P) "ExtendedTags.set_app_data_content" (Stmt.par f_setapp) (Stmt.bod f_setapp) (Stmt.scp f_setapp) [] (.ref 504) .none :=
  ⟨by kernel_rfl, ⟨kfd (ko 505 P), by kernel_rfl, by kernel_rfl, by kernel_rfl, by kernel_rfl, by kernel_rfl, by kernel_rfl, by kernel_rfl, by kernel_rfl, by kernel_rfl, by kernel_rfl, by kernel_rfl⟩⟩
theorem cr_setapp {w : World} {h0 : Heap} (X : (hd.heap_39 w.params).In h0) {B : FH} {h : Heap} (hS : (SS h0).le B) (hk : ∀ a o, B a = some o → h.get? a = some o) : h.CodeRec (.ref 504) "ExtendedTags.set_app_data_content" :=
  codeRec_of X hS hk (by kernel_rfl) (by decide) (by kernel_rfl) (by kernel_rfl)
theorem kp_setapp {w : World} {h0 : Heap} (X : (hd.heap_39 w.params).In h0) {pre : FH → Prop} : KeepOk (MM w h0) (.ref 505) pre := keep_is (SS_of X (is_setapp _).1 (by decide)) (is_setapp _).2
theorem ba_setapp (v0 v1 v2 : Value) : bindArgs (bareFn "ExtendedTags.set_app_data_content" (Stmt.par f_setapp) .none) ⟨[v0, v1, v2], []⟩ = pure ((["self", "appid", "tags"] : List Str).zip [v0, v1, v2]) := by kernel_rfl
def f_newapp : Stmt := DD 20 19
theorem is_newapp (P : Params) : (hd.heap_39 P).lookup 513 = some (ko 513 P) ∧ FnIs (ko 513 P) "ExtendedTags.new_app_data" (Stmt.par f_newapp) (Stmt.bod f_newapp) (Stmt.scp f_newapp) [] (.ref 512) (.ref 506) :=
  ⟨by kernel_rfl, ⟨kfd (ko 513 P), by kernel_rfl, by kernel_rfl, by kernel_rfl, by kernel_rfl, by kernel_rfl, by kernel_rfl, by kernel_rfl, by kernel_rfl, by kernel_rfl, by kernel_rfl, by kernel_rfl⟩⟩
theorem cr_newapp {w : World} {h0 : Heap} (X : (hd.heap_39 w.params).In h0) {B : FH} {h : Heap} (hS : (SS h0).le B) (hk : ∀ a o, B a = some o → h.get? a = some o) : h.CodeRec (.ref 512) "ExtendedTags.new_app_data" :=
  codeRec_of X hS hk (by kernel_rfl) (by decide) (by kernel_rfl) (by kernel_rfl)
theorem kp_newapp {w : World} {h0 : Heap} (X : (hd.heap_39 w.params).In h0) {pre : FH → Prop} : KeepOk (MM w h0) (.ref 513) pre := keep_is (SS_of X (is_newapp _).1 (by decide)) (is_newapp _).2
end Mine

end
section
open PySem PySem.W PySem.W.X PySem.Calls PySem.Builtin PySem.Builtin.ObjectAttr PySem.Builtin.Getset_descriptor PyProof.Rows
set_option Elab.async false
set_option maxRecDepth 100000
set_option linter.unusedVariables false
namespace Mine
section
variable {prog : Program} {w : World} {A : Around} {s : Shared} {K : Frag} {x C : Addr} {R : Result → Shared → Prop}
theorem slot_setO {ox : Obj} {od : Option Obj} {v : Value} {p i : Nat} (X : K.In s.heap) (I : InstAt s.heap x ox C od)
    (hp : slotIn K p C = some i) (hi : i < 1000)
    (h : R (.ok (.ret .none)) { s with heap := s.heap.update x (fun o => { o with slots := (o.slots ++ Array.replicate (i + 1 - o.slots.size) none).setIfInBounds i (some v) }) }) :
    codeAny (model prog w) A (.call (.builtin "member_descriptor.__set__") ⟨[.ref p, .ref x, v], []⟩) R s := by
  obtain ⟨n, tn, owner, behind, tb, d, sl, cd, ho, hc, hm, hb, rfl⟩ := slot_of X hp
  obtain ⟨hh, g, dr, t, os⟩ := s
  have L0 := I.type (M := model prog w)
  have L1 := looks_mroIn (M := model prog w) X hm
  have L2 : Looks (model prog w) hh (Slots.slotNamesOf (.ref C)) cd.slotNames := (looks_clsIn X hc).andThen .now
  have hx := I.at_
  dsimp only at ho hx L0 L1
  have f0 := looks_field (M := model prog w) ho 0 (v := .str n tn) rfl
  have f1 := looks_field (M := model prog w) ho 1 (v := owner) rfl
  have f3 := looks_field (M := model prog w) ho 3 (v := .builtin "proto.slot#set") rfl
  have f4 := looks_field (M := model prog w) ho 4 (v := .int behind tb) rfl
  refine codeAny_call_builtin KF.slot_mset.plain KF.entry_mset (KF.slot_mset.check _ _ _ _ _ _ _ _ ⟨_, ho, rfl⟩ (KF.args_mset _ _ _) ?_)
  unfold Builtin.«member_descriptor.__set__» descrSet descrStoreThrough descrCheckInstance descrNameAndClass isInstance
  have f5 : Looks (model prog w) hh (descrItself (.ref p)) [.ref p] := ((Looks.ld (part := none) ho).andThen .now).andThen (Looks.of_pure (by kernel_rfl))
  repeat lk
  refine ⟨Code.quiet_builtin _ (by decide +kernel), codeAny_builtin KF.entry_slotset ?_⟩
  unfold Builtin.«proto.slot#set» Slots.target
  repeat lk
  rw [if_neg hb]
  refine wpAny_pure (wpAny_bind ?_)
  unfold setSlotAt
  dsimp only
  rw [if_neg (by rw [sizeLine_eq]; omega)]
  exact wpAny_updatePart hx (wpAny_pure h)
end
section
variable {M : Md} {A : Around} {cs : Cells} {X : Value → Cells → Prop} {env : Env} {PV : V → Cells → Prop} {PF : Fl → Cells → Prop} {PB : Bool → Cells → Prop} {B : FH} {s : Shared} {K : Frag}
theorem ROs.set {C : Cls} {vs : List (Option Value)} {sl : List (Option V)} {v : Value} {u : V} (r : ROs C B vs sl) (rv : RV C B v u) : ∀ i, ROs C B (vs.set i (some v)) (sl.set i (some u)) := by
  induction r with
  | nil => intro i; exact .nil
  | cons r1 r2 ih => intro i; cases i with
    | zero => exact .cons rv r2
    | succ i => exact .cons r1 (ih i)
theorem ROs.len {C : Cls} {vs : List (Option Value)} {sl : List (Option V)} (r : ROs C B vs sl) : vs.length = sl.length := by
  induction r with
  | nil => rfl
  | cons _ _ ih => simp [ih]
/-- what a class says of storing into one of its own fields -/
structure StoreOk (K : Frag) (C : Addr) (name : Str) (p i : Nat) : Prop where
  sa : findIn K (.ref C) "__setattr__" = some (some (.builtin "object.__setattr__"))
  pl : plainOver K C = true
  tk : takerIn K C name = some (some (.ref p))
  ty : typeIn K (.ref p) = some (.type "member_descriptor")
  slot : slotIn K p C = some i
theorem tr_setattr (KK : KOf M K) {a C : Addr} {sl : List (Option V)} {name : Str} {p i : Nat} {u : V} {v : Value} {cs' : Cells} (O : StoreOk K C name p i) (U : Upd a (.inst C sl) (.inst C (sl.set i (some u))) cs cs') (hi : i < sl.length) (hz : i < 1000) {Q : Unit → Shared → Prop} {E : Value → Shared → Prop} (hs : St M.C M.S A B cs s) (rv : RV M.C B v u)
    (h : ∀ s', St M.C M.S A B cs' s' → Fut B cs s B cs' s' → Q () s') : wpAny (model M.prog M.w) A (setAttr (.ref a) name v) Q E s := by
  obtain ⟨d, vs, e, hd, r⟩ := hs.own _ U.mem
  obtain ⟨dd, n, rfl, e'⟩ := hd
  have X0 := KK s.heap hs.keepS
  have I : InstAt s.heap a ⟨.ref C, some dd, .plain, vs⟩ C (some (emptyD n)) := ⟨e, rfl, rfl, hs.keep _ _ e'⟩
  have hlen : i < vs.size := by rw [← Array.length_toList, r.len]; exact hi
  refine set_plain X0 I O.sa (osa_descr (s := { s with toks := s.toks + 1 }) KF.slot_mset X0 I O.pl O.tk O.ty (slot_setO (s := { s with toks := s.toks + 1 }) X0 I O.slot hz ?_))
  have e2 : (vs ++ Array.replicate (i + 1 - vs.size) none).setIfInBounds i (some v) = (vs.toList.set i (some v)).toArray := by
    apply Array.toList_inj.mp
    rw [show i + 1 - vs.size = 0 by omega]
    simp
  have g := Heap.get?_update_self (h := s.heap) (fun o => { o with slots := (o.slots ++ Array.replicate (i + 1 - o.slots.size) none).setIfInBounds i (some v) }) e rfl
  dsimp only at g
  rw [e2] at g
  obtain ⟨S₁, F₁⟩ := hs.turn (o' := .inst C (sl.set i (some u))) U (Heap.SameBut.update s.heap a _) ⟨some dd, _, g, ⟨dd, n, rfl, e'⟩, r.set rv i⟩ trivial (fun ob q => ⟨_, g, fun hD => by rw [e] at q; cases q; obtain ⟨_, _, q⟩ := hD; cases q⟩) (s.toks + 1)
  exact h _ S₁ F₁
/-- o.name = value, o the call's own -/
theorem ex_assign_attr (KK : KOf M K) {o : PySem.Expr} {name : Str} {p' pos : Pos} {value : PySem.Expr} (h : EV M A env value cs (fun u c => EV M A env o c (fun x c1 => ∃ a C sl p i c2, x = .ref a ∧ StoreOk K C name p i ∧ Upd a (.inst C sl) (.inst C (sl.set i (some u))) c1 c2 ∧ i < sl.length ∧ i < 1000 ∧ PF .next c2) X) X)
    (hs : swapsWith value (some (.Attribute o name p')) pos.line env = pure false := by rfl) : EX M A env (.Assign [.Attribute o name p'] value pos) cs PF X := ⟨fun B s hst _ =>
  plainObj_wpAny_Assign_Attribute (wpAny_mono (h.it B s hst trivial) (fun v s₁ ⟨B₁, c₁, u, S₁, F₁, R₁, h₁⟩ =>
    wpAny_mono (h₁.it B₁ s₁ S₁ trivial) (fun ov s₂ ⟨B₂, c₂, x, S₂, F₂, R₂, a, C, sl, p, i, c3, hx, O, U, hi, hz, h₂⟩ => by
      subst hx
      cases R₂
      exact tr_setattr KK O U hi hz S₂ (R₁.mono F₂.mono) fun s' S₃ F₃ => ⟨B₂, c3, .next, S₃, F₁.trans (F₂.trans F₃), .next, h₂⟩) fun _ _ => PoX.step F₁) fun _ _ x => x) hs⟩
end
end Mine

end
section
open PySem PySem.W PySem.W.X PyProof.Rows
set_option Elab.async false
set_option maxRecDepth 100000
set_option linter.unusedVariables false
namespace Mine
section
variable {M : Md} {A : Around} {cs : Cells} {X : Value → Cells → Prop} {env : Env} {PV : V → Cells → Prop} {PF : Fl → Cells → Prop} {PB : Bool → Cells → Prop} {B : FH} {s : Shared} {K : Frag}
/-- a method of an own class, about to be called -/
theorem meth_inst (KK : KOf M K) {x : V} {C : Addr} {sl : List (Option V)} {name : Str} {f : Addr} (I : Inst M cs x C sl) (hga : findIn K (.ref C) "__getattribute__" = some (some (.builtin "object.__getattribute__"))) (hk : findIn K (.ref C) "__getattr__" = some none)
    (hf : findIn K (.ref C) name = some (some (.ref f))) (ht : typeIn K (.ref f) = some (.type "function")) : MethOk M A cs x name (.ref f) := fun pl B s ov hs r Q E hQ => by
  obtain ⟨a, dd, n, vs, rfl, I, _⟩ := I.it A B s ov hs r
  exact method_fn (KK s.heap hs.keepS) I hga hk hf ht rfl (hQ s.toks)
theorem Fit.under {n : Nat} (f : Fit (n + 1) A) (vs : List Value) {C : Addr} : Fit n (A.under (.builtin "type.__call__" ⟨.ref C :: vs, []⟩)) := by
  refine ⟨?_, ?_, f.hd⟩
  · have := f.dep
    have e : (Code.builtin "type.__call__" ⟨.ref C :: vs, []⟩).weight ≤ 2 := by first | (show (1 : Nat) ≤ 2; decide) | (show (2 : Nat) ≤ 2; decide)
    show A.depth + _ + 3 * n ≤ 450
    omega
  · have := f.un
    have e : (Code.builtin "type.__call__" ⟨.ref C :: vs, []⟩).cUnits ≤ 4 := by first | (show (1 : Nat) ≤ 4; decide) | (show (4 : Nat) ≤ 4; decide)
    show A.units + _ + 40 * n ≤ 1800
    omega
/-- an instance of an own class is made -/
theorem ck_make (KK : KOf M K) {C fI : Addr} {xs : List V} (hm : makesIn K C = true) (hi : findIn K (.ref C) "__init__" = some (some (.ref fI))) (hf : typeIn K (.ref fI) = some (.type "function"))
    (h : ∀ x vs, x ∉ cs.ad → CK M (A.under (.builtin "type.__call__" ⟨.ref C :: vs, []⟩)) (.ref fI) (.ref x :: xs) ((x, .inst C []) :: cs) (fun u c => u = .none ∧ PV (.ref x) c) X) : CK M A (.ref C) xs cs PV X := ⟨fun vs B s hs r => by
  have X0 := KK s.heap hs.keepS
  obtain ⟨hh, g, d, t, os⟩ := s
  refine make_core (makes_of X0 hm) (looks_findIn X0 hi) (fun self => bind_fn X0 self hf) (.inl rfl) ?_
  have hnx : hh.get? (hh.objs.size + 1) = none := by
    cases q : hh.get? (hh.objs.size + 1) with
    | none => rfl
    | some o => exact absurd (Heap.lt_size q) (Nat.not_lt.mpr (Nat.le_succ _))
  have hx : ((hh.push emptyDict).push (instObj C hh.objs.size)).get? (hh.objs.size + 1) = some (instObj C hh.objs.size) := by heap_get
  have hd : ((hh.push emptyDict).push (instObj C hh.objs.size)).get? hh.objs.size = some emptyDict := Heap.get?_push_of_some _ (Heap.get?_push_size _ rfl)
  have nin : ∀ e, hh.get? e = none → e ∉ cs.ad := fun e he q => by obtain ⟨o, e'⟩ := hs.there q; rw [he] at e'; cases e'
  obtain ⟨S₁, F₁⟩ := hs.grow (h' := (hh.push emptyDict).push (instObj C hh.objs.size)) (fun b o e => Heap.get?_push_of_some _ (Heap.get?_push_of_some _ e)) t
  obtain ⟨S₂, F₂, l₂, e₂⟩ := S₁.adoptB F₁ (hs.B_none (size_none _)) (size_none _) (nin _ (size_none _)) hd (off_frames hs (size_none _))
  obtain ⟨S₃, F₃⟩ := S₂.adopt (e := hh.objs.size + 1) (m := .inst C []) F₂ (by rw [FH.add_other _ _ (Nat.succ_ne_self _)]; exact hs.B_none hnx) hnx (nin _ hnx) ⟨some hh.objs.size, #[], hx, ⟨_, _, rfl, e₂⟩, .nil⟩ trivial
  refine codeAny_mono ((h _ vs (nin _ hnx)).it _ _ _ (S₃.around rfl) (.cons (.ref _) (r.mono l₂))) fun r s' hr => ?_
  match r, hr with
  | .ok (.ret v), hr =>
    obtain ⟨B', cs', u, S', F', R', rfl, hP⟩ := hr
    cases R'
    exact ⟨rfl, B', cs', _, S'.around rfl, F₃.trans F', .ref _, hP⟩
  | .error e, hr =>
    obtain ⟨B', cs', c, ex, S', F', hx, hX⟩ := hr
    exact ⟨B', cs', c, ex, S'.around rfl, F₃.trans F', (by cases hx with | new => exact .new _ | traced => exact .traced _ _ | held _ _ L e l a b => exact .held _ _ L e l a b), hX⟩⟩
theorem ROs.grow {C : Cls} {vs : List (Option Value)} {sl : List (Option V)} (r : ROs C B vs sl) : ∀ k, ROs C B (vs ++ List.replicate k none) (sl ++ List.replicate k none) := by
  induction r with
  | nil =>
    intro k
    induction k with
    | zero => exact .nil
    | succ k ih => exact .cons trivial ih
  | cons r1 _ ih => intro k; exact .cons r1 (ih k)
/-- one field stored, the fields grown as need be -/
theorem tr_setattrG (KK : KOf M K) {a C : Addr} {sl sl' : List (Option V)} {name : Str} {p i : Nat} {u : V} {v : Value} {cs' : Cells} (O : StoreOk K C name p i) (U : Upd a (.inst C sl) (.inst C sl') cs cs') (he : sl' = (sl ++ List.replicate (i + 1 - sl.length) none).set i (some u)) (hz : i < 1000) {Q : Unit → Shared → Prop} {E : Value → Shared → Prop} (hs : St M.C M.S A B cs s) (rv : RV M.C B v u)
    (h : ∀ s', St M.C M.S A B cs' s' → Fut B cs s B cs' s' → Q () s') : wpAny (model M.prog M.w) A (setAttr (.ref a) name v) Q E s := by
  subst he
  obtain ⟨d, vs, e, hd, r⟩ := hs.own _ U.mem
  obtain ⟨dd, n, rfl, e'⟩ := hd
  have X0 := KK s.heap hs.keepS
  have I : InstAt s.heap a ⟨.ref C, some dd, .plain, vs⟩ C (some (emptyD n)) := ⟨e, rfl, rfl, hs.keep _ _ e'⟩
  refine set_plain X0 I O.sa (osa_descr (s := { s with toks := s.toks + 1 }) KF.slot_mset X0 I O.pl O.tk O.ty (slot_setO (s := { s with toks := s.toks + 1 }) X0 I O.slot hz ?_))
  have e2 : (vs ++ Array.replicate (i + 1 - vs.size) none).setIfInBounds i (some v) = ((vs.toList ++ List.replicate (i + 1 - sl.length) none).set i (some v)).toArray := by
    apply Array.toList_inj.mp
    rw [← r.len, Array.length_toList]
    simp
  have g := Heap.get?_update_self (h := s.heap) (fun o => { o with slots := (o.slots ++ Array.replicate (i + 1 - o.slots.size) none).setIfInBounds i (some v) }) e rfl
  dsimp only at g
  rw [e2] at g
  obtain ⟨S₁, F₁⟩ := hs.turn (o' := .inst C _) U (Heap.SameBut.update s.heap a _) ⟨some dd, _, g, ⟨dd, n, rfl, e'⟩, (r.grow _).set rv i⟩ trivial (fun ob q => ⟨_, g, fun hD => by rw [e] at q; cases q; obtain ⟨_, _, q⟩ := hD; cases q⟩) (s.toks + 1)
  exact h _ S₁ F₁
theorem ex_assign_attrG (KK : KOf M K) {o : PySem.Expr} {name : Str} {p' pos : Pos} {value : PySem.Expr} (h : EV M A env value cs (fun u c => EV M A env o c (fun x c1 => ∃ a C sl sl' p i c2, x = .ref a ∧ StoreOk K C name p i ∧ Upd a (.inst C sl) (.inst C sl') c1 c2 ∧ sl' = (sl ++ List.replicate (i + 1 - sl.length) none).set i (some u) ∧ i < 1000 ∧ PF .next c2) X) X)
    (hs : swapsWith value (some (.Attribute o name p')) pos.line env = pure false := by rfl) : EX M A env (.Assign [.Attribute o name p'] value pos) cs PF X := ⟨fun B s hst _ =>
  plainObj_wpAny_Assign_Attribute (wpAny_mono (h.it B s hst trivial) (fun v s₁ ⟨B₁, c₁, u, S₁, F₁, R₁, h₁⟩ =>
    wpAny_mono (h₁.it B₁ s₁ S₁ trivial) (fun ov s₂ ⟨B₂, c₂, x, S₂, F₂, R₂, a, C, sl, sl', p, i, c3, hx, O, U, hi, hz, h₂⟩ => by
      subst hx
      cases R₂
      exact tr_setattrG KK O U hi hz S₂ (R₁.mono F₂.mono) fun s' S₃ F₃ => ⟨B₂, c3, .next, S₃, F₁.trans (F₂.trans F₃), .next, h₂⟩) fun _ _ => PoX.step F₁) fun _ _ x => x) hs⟩
end
end Mine

end
section
open PySem PySem.W PySem.W.X PyProof.Rows
set_option Elab.async false
set_option maxRecDepth 100000
set_option linter.unusedVariables false
namespace Mine
section
variable {M : Md} {A : Around} {cs : Cells} {X : Value → Cells → Prop} {env : Env} {PV : V → Cells → Prop} {PF : Fl → Cells → Prop} {PB : Bool → Cells → Prop} {B : FH} {s : Shared} {K : Frag}
theorem isi_int_int {i : Int} (h : PV (.bool true) cs) : CL M A (.builtin "isinstance") [.int i, .ty "int"] cs PV X := ⟨fun vs B s hs r => by
  cases r with | cons r r2
  cases r; cases r2 with | cons r2 r3
  cases r2; cases r3
  exact IsiPair.int_int (.now hs (.bool _) h)⟩
theorem isi_str_int {i : Str} (h : PV (.bool false) cs) : CL M A (.builtin "isinstance") [.str i, .ty "int"] cs PV X := ⟨fun vs B s hs r => by
  cases r with | cons r r2
  cases r; cases r2 with | cons r2 r3
  cases r2; cases r3
  exact IsiPair.str_int (.tok hs (.bool _) h)⟩
theorem isi_int_str {i : Int} (h : PV (.bool false) cs) : CL M A (.builtin "isinstance") [.int i, .ty "str"] cs PV X := ⟨fun vs B s hs r => by
  cases r with | cons r r2
  cases r; cases r2 with | cons r2 r3
  cases r2; cases r3
  exact IsiPair.int_str (.tok hs (.bool _) h)⟩
theorem isi_str_str {i : Str} (h : PV (.bool true) cs) : CL M A (.builtin "isinstance") [.str i, .ty "str"] cs PV X := ⟨fun vs B s hs r => by
  cases r with | cons r r2
  cases r; cases r2 with | cons r2 r3
  cases r2; cases r3
  exact IsiPair.str_str (.now hs (.bool _) h)⟩
theorem isi_lst_str {l : List V} (h : PV (.bool false) cs) : CL M A (.builtin "isinstance") [.lst .list l, .ty "str"] cs PV X := ⟨fun vs B s hs r => by
  cases r with | cons r r2
  cases r with | @lst _ a d ws n _ e hd rs
  cases r2 with | cons r2 r3
  cases r2; cases r3
  exact call_isinstance (isinstance_false_list (by decide +kernel) F.isi_meta_str F.sub_list_str) ⟨⟨_, hs.keep _ _ e, rfl⟩, .tok hs (.bool _) h⟩⟩
end
end Mine

end
section
open PySem PySem.W PySem.W.X PyProof.Rows
set_option Elab.async false
set_option maxRecDepth 100000
set_option linter.unusedVariables false
namespace Mine
/-- what a generator does from here on: what it yields, then its end -/
def SGn (M : Md) (A : Around) (fin : Cells) (mid : Cells → Prop) : List V → FH → Cells → Shared → End → Shared → Prop
  | [], B, cs, s => fun e s₁ => (e = .ret (.ok (.ret .none)) ∨ e = .ret (.ok .next)) ∧ ∃ B', St M.C M.S A B' fin s₁ ∧ Fut B cs s B' fin s₁
  | u :: rem, B, cs, s => fun e s₁ => ∃ v l k c1 p fs1 B' cs', e = .susp v false l k c1 p fs1 ∧ fs1.any Frame.guarded = false ∧ St M.C M.S A B' cs' s₁ ∧ Fut B cs s B' cs' s₁ ∧ RV M.C B' v u ∧ mid cs' ∧
      ∀ B2 s2, St M.C M.S A B2 cs' s2 → SegX (model M.prog M.w) A c1 (k (.send .none)) fs1 s2 (SGn M A fin mid rem B2 cs' s2)
structure SG (M : Md) (A : Around) (fin : Cells) (mid : Cells → Prop) (pre : FH → Prop) (rem : List V) (t : Sem Fin) (c : Code) (fs : List Frame) (cs : Cells) : Prop where
  it : ∀ B s, St M.C M.S A B cs s → pre B → SegX (model M.prog M.w) A c t fs s (SGn M A fin mid rem B cs s)
abbrev tM : Cells → Prop := fun _ => True
/-- how a stretch of a generator lies on its stack -/
structure Lvl (A : Around) (env : Env) (n : Nat) (c : Code) (fs : List Frame) : Prop where
  fr : (A.over c fs).frames = A.frames.map (env :: ·)
  fit : Fit n (A.over c fs)
  sp : splitAtGen fs = none
  ng : fs.any Frame.guarded = false
/-- whose frame is there -/
structure Own (env : Env) (L : Addr) (cs : Cells) : Prop where
  fr : env.frame = some L
  kd : env.scope.kind ≠ .module
  mem : ∃ loc, (L, MO.frame loc) ∈ cs
section
variable {M : Md} {A : Around} {fin : Cells} {mid : Cells → Prop} {cs cs' : Cells} {B B' : FH} {s s' : Shared} {rem : List V} {env : Env} {L : Addr} {n : Nat} {c : Code} {fs : List Frame} {pre : FH → Prop}
theorem SGn.step (F : Fut B cs s B' cs' s') {e : End} {s₁ : Shared} (h : SGn M A fin mid rem B' cs' s' e s₁) : SGn M A fin mid rem B cs s e s₁ := by
  cases rem with
  | nil => obtain ⟨e, B₂, S₂, F₂⟩ := h; exact ⟨e, B₂, S₂, F.trans F₂⟩
  | cons u rem => obtain ⟨v, l, k, c1, p, fs1, B₂, cs₂, e, g, S₂, F₂, r⟩ := h; exact ⟨v, l, k, c1, p, fs1, B₂, cs₂, e, g, S₂, F.trans F₂, r⟩
theorem SG.weak {pre' : FH → Prop} {t : Sem Fin} (h : SG M A fin mid pre rem t c fs cs) (hp : ∀ B, pre' B → pre B) : SG M A fin mid pre' rem t c fs cs := ⟨fun B s hs p => h.it B s hs (hp B p)⟩
theorem SG.view {t : Sem Fin} (v : View M cs cs') (h : SG M A fin mid pT rem t c fs cs') : SG M A fin mid pT rem t c fs cs := ⟨fun B s hs _ => by
  obtain ⟨B', hs', F⟩ := v A B s hs
  exact (h.it B' s hs' trivial).mono fun e s' => SGn.step F⟩
theorem sx_wrap {α : Type} {Mo : Model} {m : Sem α} {K : α → Sem Fin} {H : Value → Sem Fin} {gd : Bool → Bool} {lv : List Value → List Value} {P : End → Shared → Prop}
    (h : wpAny Mo (A.over c fs) m (fun a s' => SegX Mo A c (K a) fs s' P) (fun x s' => SegX Mo A c (H x) fs s' P) s) : SegX Mo A c (m.wrap K H gd lv) fs s P := by
  rintro Γ p rfl hΓ
  obtain ⟨e, s', hr, hq⟩ := runs_wrap_of_wp (Φ := fun e s' => e.quiet = true ∧ P e s') K H gd lv m (h (Γ.over fs) p (hΓ.over fs)) (fun a p' s' h' => h' Γ p' rfl hΓ) (fun x p' s' h' => h' Γ p' rfl hΓ)
  exact ⟨e, s', hr, hq⟩
theorem St.into (hs : St M.C M.S A B cs s) (hl : Lvl A env n c fs) (ho : Own env L cs) : St M.C M.S (A.over c fs) B cs s := by
  refine ⟨hs.keep, hs.stat, hs.own, hs.nf, hs.off, hs.nd, ?_, hs.bare⟩
  obtain ⟨l, e, hf⟩ := hs.frs
  refine ⟨env :: l, by rw [hl.fr, e]; rfl, fun en hen => ?_⟩
  rcases List.mem_cons.mp hen with rfl | hen
  · obtain ⟨loc, hm⟩ := ho.mem
    obtain ⟨nd, m, hns, _⟩ := hs.own _ hm
    obtain ⟨ob, e', hd⟩ := isD_ns hns
    exact ⟨ho.kd, L, ob, ho.fr, hs.off _ hm, e', hd⟩
  · exact hf en hen
theorem St.outof (hs : St M.C M.S (A.over c fs) B cs s) (hl : Lvl A env n c fs) : St M.C M.S A B cs s := by
  refine ⟨hs.keep, hs.stat, hs.own, hs.nf, hs.off, hs.nd, ?_, hs.bare⟩
  obtain ⟨l, e, hf⟩ := hs.frs
  rw [hl.fr] at e
  obtain ⟨l₀, e0, rfl⟩ := Option.map_eq_some_iff.mp e
  exact ⟨l₀, e0, fun en hen => hf en (.tail _ hen)⟩
theorem Lvl.on (hl : Lvl A env n c fs) (hf : env.frame = some L) : On (A.over c fs) env := ⟨L, A.frames, hl.fr, hf⟩
/-- what does not yield, within a generator -/
theorem SG.wrap {β γ : Type} {m : Sem β} {R : FH → β → γ → Prop} {K : β → Sem Fin} {H : Value → Sem Fin} {gd : Bool → Bool} {lv : List Value → List Value} {fr : Cells} (hl : Lvl A env n c fs) (ho : Own env L cs) (hm : Mono pre)
    (h : Tr M.C M.S M.prog M.w pre R (A.over c fs) m cs (fun x cs' => ∀ r, SG M A fin mid (fun B => pre B ∧ R B r x) rem (K r) c fs (cs' ++ fr)) NoX) : SG M A fin mid pre rem (m.wrap K H gd lv) c fs (cs ++ fr) := ⟨fun B s hs hp => by
  have ho' : Own env L (cs ++ fr) := ⟨ho.fr, ho.kd, let ⟨loc, q⟩ := ho.mem; ⟨loc, List.mem_append_left _ q⟩⟩
  have t := h.frame (fr := fr) (all := cs ++ fr) (.refl _)
  refine sx_wrap (wpAny_mono (t B s (hs.into hl ho') hp) (fun r s₁ ⟨B₁, cs₁, x, S₁, F₁, R₁, c₀, e, h₁⟩ => ?_) fun _ _ x => (x.mono fun _ _ ⟨_, _, q⟩ => q).none.elim)
  subst e
  exact ((h₁ r).it B₁ s₁ (S₁.outof hl) ⟨hm _ _ F₁.mono hp, R₁⟩).mono fun e s' => SGn.step F₁⟩
theorem SG.end_ (h : fin = cs) : SG M A fin mid pre [] (.pure (.done (.ret .none))) c [] cs := ⟨fun B s hs hp => by
  subst h
  exact s_end M.prog M.w A c _ s (.ok (.ret .none)) _ rfl ⟨.inl rfl, B, hs, .refl ..⟩⟩
theorem SG.endN (h : fin = cs) : SG M A fin mid pre [] (.pure (.done .next)) c [] cs := ⟨fun B s hs hp => by
  subst h
  exact s_end M.prog M.w A c _ s (.ok .next) _ rfl ⟨.inr rfl, B, hs, .refl ..⟩⟩
theorem SG.yield {v : Value} {u : V} {l : List Value} {k : Resume → Sem Fin} (hl : Lvl A env n c fs) (hv : ∀ B, pre B → RV M.C B v u) (hm : mid cs) (h : SG M A fin mid pT rem (k (.send .none)) c fs cs) : SG M A fin mid pre (u :: rem) (.yield v false l k) c fs cs := ⟨fun B s hs hp =>
  s_yield M.prog M.w A c fs _ s v l k hl.sp hl.ng fun p => ⟨v, l, k, c, p, fs, B, cs, rfl, hl.ng, hs, .refl .., hv B hp, hm, fun B2 s2 hs2 => h.it B2 s2 hs2 trivial⟩⟩
theorem SG.at_ {p : Pos} {k : Unit → Sem Fin} (h : SG M A fin mid pre rem (k ()) c fs cs) : SG M A fin mid pre rem (.at p k) c fs cs := ⟨fun B s hs hp =>
  s_cmd M.prog M.w A c fs _ (m := PySem.standAt p) (k := k) (wpAny_standAt (h.it B s hs hp))⟩
theorem SG.call_ {c' : Code} {h g l} {k : Result → Sem Fin} (hc : ∀ p, SG M A fin mid pre rem (denote table c') c' (.ret k h g l c p [] :: fs) cs) : SG M A fin mid pre rem (.call c' h g l k) c fs cs := ⟨fun B s hs hp =>
  s_call M.prog M.w A c fs _ s c' h g l k fun p => (hc p).it B s hs hp⟩
theorem SG.again_ {c' : Code} (hq : c'.quiet = true) (h : SG M A fin mid pre rem (denote table c') c' fs cs) : SG M A fin mid pre rem (.pure (.again c')) c fs cs := ⟨fun B s hs hp => s_again M.prog M.w A c fs _ s c' hq (h.it B s hs hp)⟩
theorem SG.pop {k : Result → Sem Fin} {h g l c₁ p₁ kp} (r : Result) {t : Sem Fin} (ht : t = leafOf r) (hk : SG M A fin mid pre rem (k r) c₁ fs cs) : SG M A fin mid pre rem t c (.ret k h g l c₁ p₁ kp :: fs) cs := ⟨fun B s hs hp => s_pop M.prog M.w A c fs _ s r t ht k h g l c₁ p₁ kp (hk.it B s hs hp)⟩
end
/-- a block of a generator's: what it yields, and what holds behind it -/
structure YSs (M : Md) (A : Around) (fin : Cells) (env : Env) (n : Nat) (b : List Stmt) (cs : Cells) (ys : List V) (P : Cells → Prop) : Prop where
  it : ∀ rem c fs fr K H gd lv, Lvl A env n c fs → gd false = false → (∀ cs', P cs' → SG M A fin tM pT rem (K .next) c fs (cs' ++ fr)) → SG M A fin tM pT (ys ++ rem) ((execs b env).wrap K H gd lv) c fs (cs ++ fr)
structure YS (M : Md) (A : Around) (fin : Cells) (env : Env) (n : Nat) (b : Stmt) (cs : Cells) (ys : List V) (P : Cells → Prop) : Prop where
  it : ∀ rem c fs fr K H gd lv, Lvl A env n c fs → gd false = false → (∀ cs', P cs' → SG M A fin tM pT rem (K .next) c fs (cs' ++ fr)) → SG M A fin tM pT (ys ++ rem) ((exec b env).wrap K H gd lv) c fs (cs ++ fr)
section
variable {M : Md} {A : Around} {fin : Cells} {cs cs' : Cells} {B B' : FH} {s s' : Shared} {rem ys ys' : List V} {env : Env} {L : Addr} {n : Nat} {c : Code} {fs : List Frame} {pre : FH → Prop} {P P' : Cells → Prop}
theorem ys_nil (h : P cs) : YSs M A fin env n [] cs [] P := ⟨fun rem c fs fr K H gd lv hl hg k => k cs h⟩
theorem ys_cons {st : Stmt} {b : List Stmt} (h : YS M A fin env n st cs ys (fun cs' => YSs M A fin env n b cs' ys' P)) : YSs M A fin env n (st :: b) cs (ys ++ ys') P := ⟨fun rem c fs fr K H gd lv hl hg k => by
  rw [execs_cons_wrap, List.append_assoc]
  exact h.it _ c fs fr _ H gd lv hl hg fun cs' h' => h'.it rem c fs fr K H gd lv hl hg k⟩
theorem YSs.view {b : List Stmt} (v : View M cs cs') (h : YSs M A fin env n b cs' ys P) : YSs M A fin env n b cs ys P := ⟨fun rem c fs fr K H gd lv hl hg k => (h.it rem c fs fr K H gd lv hl hg k).view (v.frame fr)⟩
theorem YS.post {st : Stmt} (h : YS M A fin env n st cs ys P) (hp : ∀ c, P c → P' c) : YS M A fin env n st cs ys P' := ⟨fun rem c fs fr K H gd lv hl hg k => h.it rem c fs fr K H gd lv hl hg fun cs' h' => k cs' (hp _ h')⟩
theorem YSs.post {st : List Stmt} (h : YSs M A fin env n st cs ys P) (hp : ∀ c, P c → P' c) : YSs M A fin env n st cs ys P' := ⟨fun rem c fs fr K H gd lv hl hg k => h.it rem c fs fr K H gd lv hl hg fun cs' h' => k cs' (hp _ h')⟩
theorem ys_if {test : PySem.Expr} {body orelse : List Stmt} {pos : Pos} (ho : Own env L cs) (h : ∀ A', Fit n A' → On A' env → IT M A' env test cs (fun b cs' => if b then YSs M A fin env n body cs' ys P else YSs M A fin env n orelse cs' ys P) NoX) :
    YS M A fin env n (.If test body orelse pos) cs ys P := ⟨fun rem c fs fr K H gd lv hl hg k => by
  rw [exec_If]
  show SG M A fin tM pT (ys ++ rem) (.at pos fun _ => (isTrue test env (eval test env) >>= fun b => if b then execs body env else execs orelse env).wrap K H gd lv) c fs (cs ++ fr)
  refine SG.at_ ?_
  rw [Sem.bind_eq_wrap', Sem.wrap_wrap]
  refine SG.wrap hl ho mono_T (Tr.post (h _ hl.fit (hl.on ho.fr)).it fun b cs' hb => ?_)
  intro r
  refine ⟨fun B s hs hp => ?_⟩
  obtain ⟨_, rfl⟩ := hp
  cases r with
  | true => exact (hb.it rem c fs fr K H gd lv hl hg k).it B s hs trivial
  | false => exact (hb.it rem c fs fr K H gd lv hl hg k).it B s hs trivial⟩
theorem ys_plain {st : Stmt} (ho : Own env L cs) (h : ∀ A', Fit n A' → On A' env → EX M A' env st cs (fun fl cs' => fl = .next ∧ P cs') NoX) : YS M A fin env n st cs [] P := ⟨fun rem c fs fr K H gd lv hl hg k => by
  refine SG.wrap hl ho mono_T (Tr.post (h _ hl.fit (hl.on ho.fr)).it fun fl cs' ⟨e, hb⟩ => ?_)
  subst e
  intro r
  refine ⟨fun B s hs hp => ?_⟩
  obtain ⟨_, hr⟩ := hp
  cases hr
  exact (k cs' hb).it B s hs trivial⟩
theorem ys_yield {e : PySem.Expr} {ypos pos : Pos} {u : V} (ho : Own env L cs) (h : ∀ A', Fit n A' → On A' env → EV M A' env e cs (fun x cs' => x = u ∧ P cs') NoX)
    (hco : env.scope.isCoroutine = false := by rfl) (hi : interactive env = false := by rfl) : YS M A fin env n (.Expr (.Yield (some e) ypos) pos) cs [u] P := ⟨fun rem c fs fr K H gd lv hl hg k => by
  rw [PySem.exec_Expr env _ pos hi rfl]
  show SG M A fin tM pT (u :: rem) (.at pos fun _ => ((eval e env >>= fun v => (PySem.standAt ypos >>= fun _ => yieldOut env v)) >>= fun x => dropValue (.Yield (some e) ypos) pos x).wrap K H gd lv) c fs (cs ++ fr)
  have hy : ∀ v, yieldOut env v = yieldValue v := fun v => by simp only [yieldOut, hco, Bool.false_eq_true, if_false]
  simp only [hy]
  refine SG.at_ ?_
  rw [Sem.bind_eq_wrap', Sem.bind_eq_wrap', Sem.wrap_wrap, Sem.wrap_wrap]
  refine SG.wrap hl ho mono_T (Tr.post (h _ hl.fit (hl.on ho.fr)).it fun x cs' ⟨ex, hb⟩ => ?_)
  subst ex
  intro r
  refine SG.at_ ?_
  show SG M A fin tM _ (x :: rem) (.yield r (gd false) _ _) c fs (cs' ++ fr)
  rw [hg]
  exact SG.yield hl (fun B hp => hp.2) trivial (k cs' hb)⟩
end
end Mine

end
section
open PySem PySem.W PySem.W.X PyProof.Rows
set_option Elab.async false
set_option maxRecDepth 100000
set_option linter.unusedVariables false
namespace Mine
section
variable {M : Md} {A : Around} {fin : Cells} {cs cs' : Cells} {B B' : FH} {s s' : Shared} {rem ys ys' : List V} {env : Env} {L : Addr} {n : Nat} {c : Code} {fs : List Frame} {pre : FH → Prop} {P P' : Cells → Prop}
/-- an iterator that knows its list by its value -/
theorem walk_it {target : PySem.Expr} {I : Addr} {x : V} {xs : List V} (hd : A.handled = none) :
    Walk M A target (.ref I) (fun rem => [(I, .it x (xs.length - rem.length))]) (fun B rem cs' => Src cs' x xs ∧ ∃ pre, xs = pre ++ rem) where
  next B s u rem cs' S' hD Q E hQ := by
    obtain ⟨hsrc, pre, hx⟩ := hD
    obtain ⟨l, R', hiter⟩ := S'.own (I, .it x (xs.length - (u :: rem).length)) (List.mem_append_right _ (.head _))
    have S'' : St M.C M.S A B cs' s := S'.left
    obtain ⟨l', k', d', vs', n', hl', e', rs'⟩ := src_obj S'' hsrc R'
    cases hl'
    have hi : xs.length - (u :: rem).length = pre.length := by rw [hx]; simp
    have hi' : xs.length - rem.length = pre.length + 1 := by rw [hx]; simp; omega
    rw [hi] at hiter S'
    have hii : xs[pre.length]? = some u := by rw [hx]; simp
    obtain ⟨b, hb, rb⟩ := rs'.get hii
    refine next_item hiter e' rfl (by simpa using hb) (fun h' hit' hsb => ⟨b, rfl, ?_⟩)
    obtain ⟨S₃, F₃⟩ := S'.turn (o := .it x pre.length) (o' := .it x (pre.length + 1)) (upd_last cs') hsb ⟨l, R', hit'⟩ trivial (fun ob q => ⟨_, hit', fun hdd => by rw [hiter] at q; cases q; obtain ⟨_, _, q⟩ := hdd; cases q⟩) s.toks
    refine owned_not (ob := default) hit' (fun n hn => by cases hn; decide) ?_
    refine hQ b B _ ?_ ?_ rb
    · rw [hi']; exact S₃
    · rw [hi', hi]; exact F₃
  stop B s cs' S' hD Q E hQ := by
    obtain ⟨hsrc, pre, hx⟩ := hD
    obtain ⟨l, R', hiter⟩ := S'.own (I, .it x (xs.length - ([] : List V).length)) (List.mem_append_right _ (.head _))
    have S'' : St M.C M.S A B cs' s := S'.left
    obtain ⟨l', k', d', vs', n', hl', e', rs'⟩ := src_obj S'' hsrc R'
    cases hl'
    refine next_end hd hiter e' rfl (by simp [rs'.length]) (fun h' hx' hex => ?_)
    obtain ⟨S₃, F₃⟩ := S'.forget (h' := h') hx' (fun o q => by rw [hiter] at q; cases q; rintro ⟨_, _, q⟩; cases q) hex s.toks
    exact hQ _ S₃ F₃

theorem Lvl.loop {target : PySem.Expr} {it : Value} {body : List Stmt} {k : Result → Sem Fin} {l : List Value} {p : Pos} {kept : List Value} (hl : Lvl A env n c fs) : Lvl A env n (.forLoop target it body [] env) (.ret k none false l c p kept :: fs) := by
  have h1 : (A.over (.forLoop target it body [] env) (.ret k none false l c p kept :: fs)).frames = (A.over c fs).frames := by
    show pushEnvs [] (pushEnvs (envsOf ((c, p) :: fs.map Frame.where_)) A.frames) = pushEnvs c.envs (pushEnvs (envsOf (fs.map Frame.where_)) A.frames)
    rw [envsOf_cons, pushEnvs_eq, pushEnvs_eq, pushEnvs_eq, pushEnvs_eq]
    cases A.frames <;> simp
  refine ⟨by rw [h1]; exact hl.fr, ⟨?_, ?_, ?_⟩, by simp [splitAtGen, hl.sp], by simp [List.any_cons, Frame.guarded, hl.ng]⟩
  · have := hl.fit.dep
    have e : (A.over (.forLoop target it body [] env) (.ret k none false l c p kept :: fs)).depth = (A.over c fs).depth := by
      show A.depth + frameCount ((c, p) :: fs.map Frame.where_) + 0 = A.depth + frameCount (fs.map Frame.where_) + c.weight
      rw [frameCount_cons]; omega
    rw [e]; exact this
  · have := hl.fit.un
    have e : (A.over (.forLoop target it body [] env) (.ret k none false l c p kept :: fs)).units = (A.over c fs).units := by
      show A.units + unitsOf ((c, p) :: fs.map Frame.where_) + 0 = A.units + unitsOf (fs.map Frame.where_) + c.cUnits
      rw [show unitsOf ((c, p) :: fs.map Frame.where_) = c.cUnits + unitsOf (fs.map Frame.where_) from unitsOf_cons ..]; omega
    rw [e]; exact this
  · exact hl.fit.hd
theorem SG.stand {mid : Cells → Prop} {p : Pos} {K : Unit → Sem Fin} {H : Value → Sem Fin} {gd : Bool → Bool} {lv : List Value → List Value} (h : SG M A fin mid pre rem (K ()) c fs cs) : SG M A fin mid pre rem ((PySem.standAt p).wrap K H gd lv) c fs cs := SG.at_ h
abbrev loopH (env : Env) : Value → Sem Fin := fun e => (do noteFrame e env; theTreesLotGoes e : Sem Unit).wrap (fun _ => .raise e) .raise id id
/-- the turns of a for within a generator -/
theorem sg_loop {target : PySem.Expr} {it : Value} {body : List Stmt} {J : List V → Cells} {Dep : FH → List V → Cells → Prop} {fr : Cells} {rest : List V} (W : ∀ A' : Around, A'.handled = none → Walk M A' target it J Dep) (Inv : List (V × List V) → Cells → Prop)
    (hdep : ∀ B rem cs', Inv rem cs' → Dep B (rem.map Prod.fst) cs') (hown : ∀ rem cs', Inv rem cs' → Own env L cs')
    (hturn : ∀ u rem cs', Inv (u :: rem) cs' → ∀ A', Fit n A' → On A' env → AS M A' env target u.1 cs' (fun c' => Own env L c' ∧ YSs M A fin env n body c' u.2 (fun c'' => ∃ c3, View M c'' c3 ∧ Inv rem c3)) NoX)
    (hl : Lvl A env n (.forLoop target it body [] env) fs)
    (hend : ∀ cs', Inv [] cs' → SG M A fin tM pT rest (.pure (.done .next)) (.block [] env) fs (cs' ++ fr)) :
    ∀ rem cs', Inv rem cs' → SG M A fin tM pT (rem.flatMap Prod.snd ++ rest) (denote table (.forLoop target it body [] env)) (.forLoop target it body [] env) fs ((cs' ++ J (rem.map Prod.fst)) ++ fr) := by
  intro rem
  induction rem with
  | nil =>
    intro cs' inv
    show SG M A fin tM pT rest ((forTurn target it body [] env).onRaise (fun x => do noteFrame x env; theTreesLotGoes x)) _ fs _
    unfold forTurn
    rw [Sem.onRaise_eq_wrap, Sem.bind_eq_wrap', Sem.wrap_wrap]
    refine SG.stand ?_
    refine ⟨fun B s hs hp => ?_⟩
    have ho := hown _ _ inv
    have hs' := (hs.left).into hl ⟨ho.fr, ho.kd, let ⟨loc, q⟩ := ho.mem; ⟨loc, List.mem_append_left _ q⟩⟩
    rw [Sem.bind_eq_wrap', Sem.wrap_wrap, Sem.onRaise_eq_wrap, Sem.wrap_wrap]
    refine sx_wrap ((W _ hl.fit.hd).stop B s cs' hs' (hdep _ _ _ inv) _ _ fun s₁ S₁ F₁ => ?_)
    have S₂ : St M.C M.S A B (cs' ++ fr) s₁ := hs.frame F₁ (S₁.outof hl)
    have F₂ : Fut B ((cs' ++ J []) ++ fr) s B (cs' ++ fr) s₁ := F₁.frame
    have h2 : SG M A fin tM pT rest (.pure (.again (.block [] env))) (.forLoop target it body [] env) fs (cs' ++ fr) := SG.again_ rfl (hend _ inv)
    exact (h2.it B s₁ S₂ trivial).mono fun e s' => SGn.step F₂
  | cons u rem ih =>
    intro cs' inv
    rw [List.map_cons]
    rw [List.flatMap_cons, List.append_assoc]
    show SG M A fin tM pT (u.2 ++ (rem.flatMap Prod.snd ++ rest)) ((forTurn target it body [] env).onRaise (fun x => do noteFrame x env; theTreesLotGoes x)) _ fs _
    unfold forTurn
    rw [Sem.onRaise_eq_wrap, Sem.bind_eq_wrap', Sem.wrap_wrap]
    refine SG.stand ?_
    refine ⟨fun B s hs hp => ?_⟩
    have ho := hown _ _ inv
    have hs' := (hs.left).into hl ⟨ho.fr, ho.kd, let ⟨loc, q⟩ := ho.mem; ⟨loc, List.mem_append_left _ q⟩⟩
    rw [Sem.bind_eq_wrap', Sem.wrap_wrap, Sem.onRaise_eq_wrap, Sem.wrap_wrap]
    refine sx_wrap (wpAny_mono ((W _ hl.fit.hd).next B s u.1 (rem.map Prod.fst) cs' hs' (hdep _ _ _ inv) (fun v s₁ => SegX (model M.prog M.w) A (.forLoop target it body [] env) ((do
        assign target env v
        match ← execs body env with
        | .next | .cont => again (.forLoop target it body [] env)
        | .brk => pure (.done .next)
        | .ret v => pure (.done (.ret v)) : Sem Fin).wrap .pure (fun e => (do noteFrame e env; theTreesLotGoes e : Sem Unit).bind fun _ => .raise e) id id) fs s₁ (SGn M A fin tM (u.2 ++ (rem.flatMap Prod.snd ++ rest)) B ((cs' ++ J (u.1 :: rem.map Prod.fst)) ++ fr) s)) (fun _ _ => False) (fun v B₁ s₁ S₁ F₁ rb => ?_)) (fun r s₁ ⟨v, hv, hw⟩ => ?_) fun _ _ q => q.elim)
    · -- the turn's body
      have S₂ : St M.C M.S A B₁ ((cs' ++ J (rem.map Prod.fst)) ++ fr) s₁ := hs.frame F₁ (S₁.outof hl)
      have F₂ : Fut B ((cs' ++ J (u.1 :: rem.map Prod.fst)) ++ fr) s B₁ ((cs' ++ J (rem.map Prod.fst)) ++ fr) s₁ := F₁.frame
      have key : SG M A fin tM (fun B => RV M.C B v u.1) (u.2 ++ (rem.flatMap Prod.snd ++ rest)) ((do
        assign target env v
        match ← execs body env with
        | .next | .cont => again (.forLoop target it body [] env)
        | .brk => pure (.done .next)
        | .ret v => pure (.done (.ret v)) : Sem Fin).wrap .pure (fun e => (do noteFrame e env; theTreesLotGoes e : Sem Unit).bind fun _ => .raise e) id id) (.forLoop target it body [] env) fs (cs' ++ (J (rem.map Prod.fst) ++ fr)) := by
        rw [Sem.bind_eq_wrap', Sem.wrap_wrap]
        refine SG.wrap hl ho (fun _ _ hle r => r.mono hle) (Tr.post ((hturn u rem cs' inv _ hl.fit (hl.on ho.fr)).it v) fun _ c' ⟨ho', hb⟩ r => ?_)
        refine SG.weak (pre := pT) ?_ fun _ _ => trivial
        rw [Sem.bind_eq_wrap', Sem.wrap_wrap]
        refine hb.it _ _ fs (J (rem.map Prod.fst) ++ fr) _ _ _ _ hl rfl fun c'' ⟨c3, hv3, inv3⟩ => ?_
        refine SG.view (hv3.frame _) ?_
        rw [← List.append_assoc]
        exact SG.again_ rfl (ih c3 inv3)
      rw [List.append_assoc] at S₂
      rw [List.append_assoc (as := cs') (bs := J (rem.map Prod.fst))] at F₂
      exact (key.it B₁ s₁ S₂ rb).mono fun e s' => SGn.step F₂
    · subst hv
      show SegX _ _ _ (Sem.wrap .pure _ id id (letOwnedTupleGo target it v >>= _)) _ _ _
      rw [Sem.bind_eq_wrap', Sem.wrap_wrap]
      exact sx_wrap (wpAny_mono hw (fun _ s₂ h => h) fun _ _ q => q.elim)
/-- a for within a generator, over a list -/
theorem ys_for {target iter : PySem.Expr} {body : List Stmt} {pos : Pos} {xs : List (V × List V)} (TO : TagsOk M) (ho : Own env L cs) (Inv : List (V × List V) → Cells → Prop)
    (hown : ∀ rem cs', Inv rem cs' → Own env L cs')
    (h : ∀ A', Fit n A' → On A' env → EV M A' env iter cs (fun x c₁ => Inv xs c₁ ∧ (∀ rem cs', Inv rem cs' → Src cs' x (xs.map Prod.fst) ∧ ∃ pre, xs = pre ++ rem)) NoX)
    (hturn : ∀ u rem cs', Inv (u :: rem) cs' → ∀ A', Fit n A' → On A' env → AS M A' env target u.1 cs' (fun c' => Own env L c' ∧ YSs M A fin env n body c' u.2 (fun c'' => ∃ c3, View M c'' c3 ∧ Inv rem c3)) NoX)
    (hend : ∀ cs', Inv [] cs' → P cs') (hs : ∀ x, foldedSetIterable iter env x = pure x := by intro _; rfl) : YS M A fin env n (.For target iter body [] pos) cs (xs.flatMap Prod.snd) P := ⟨fun rem c fs fr K H gd lv hl hg k => by
  rw [exec_For, Sem.bind_eq_wrap', Sem.wrap_wrap]
  refine SG.stand ?_
  rw [Sem.bind_eq_wrap', Sem.wrap_wrap]
  refine SG.wrap hl ho mono_T (Tr.post (h _ hl.fit (hl.on ho.fr)).it fun x c₁ ⟨i0, hsrc⟩ r => ?_)
  rw [hs r]
  have e1 : ∀ (f : Value → Sem Flow), ((pure r : Sem Value) >>= f) = f r := fun f => rfl
  rw [e1, Sem.bind_eq_wrap', Sem.wrap_wrap]
  refine SG.stand ?_
  refine ⟨fun B s hs' hp => ?_⟩
  have ho₁ := hown _ _ i0
  have hs₁ := hs'.into hl ⟨ho₁.fr, ho₁.kd, let ⟨loc, q⟩ := ho₁.mem; ⟨loc, List.mem_append_left _ q⟩⟩
  obtain ⟨l, kk, d, vs, nn, rfl, e, rs⟩ := src_obj hs'.left (hsrc _ _ i0).1 hp.2
  rw [Sem.bind_eq_wrap', Sem.wrap_wrap]
  refine sx_wrap (wpAny_holding (iter_seq TO hs'.keepS e ?_))
  have hit0 := Heap.get?_push_size s.heap (o := { cls := .type "list_iterator", data := .fields #[.ref l, .int (0 : Nat) 0] }) rfl
  obtain ⟨hn, S₂, F₂⟩ := hs'.alloc (o := { cls := .type "list_iterator", data := .fields #[.ref l, .int (0 : Nat) 0] }) (m := .it x 0) rfl ⟨l, hp.2, hit0⟩ trivial s.toks
  generalize hI : s.heap.objs.size = I at *
  have pm : (ins (I, MO.it x 0) (c₁ ++ fr)).Perm ((c₁ ++ [(I, MO.it x 0)]) ++ fr) := by
    refine (ins_perm _ _).trans ?_
    rw [List.append_assoc]
    exact List.perm_middle.symm
  have S₂' := S₂.perm pm
  have F₂' : Fut B (c₁ ++ fr) s B ((c₁ ++ [(I, MO.it x 0)]) ++ fr) { s with heap := s.heap.push { cls := .type "list_iterator", data := .fields #[.ref l, .int (0 : Nat) 0] } } :=
    F₂.perm (fun _ => Iff.rfl) fun a ha => ((pm.map Prod.fst).mem_iff.mpr ha)
  have key : SG M A fin tM pT (xs.flatMap Prod.snd ++ rem) ((runOwn (.forLoop target (.ref I) body [] env) env).wrap K H gd lv) c fs ((c₁ ++ [(I, MO.it x 0)]) ++ fr) := by
    refine SG.call_ (c' := .forLoop target (.ref I) body [] env) (h := none) (g := gd false) (l := lv []) (k := fun r => (((match r with | .ok f => (.pure f : Sem Flow) | .error e => .raise e).onRaise fun (x : Value) => do
        if (← field x 1) == Value.none then unsupported "frame.own-activation:exception-without-traceback"
        setFlight x env.frame).wrap K H gd lv)) fun p => ?_
    rw [hg]
    have e0 : (xs.map Prod.fst).length - (xs.map Prod.fst).length = 0 := Nat.sub_self _
    have := sg_loop (M := M) (A := A) (fin := fin) (env := env) (L := L) (n := n) (rest := rem) (fr := fr) (J := fun rem => [(I, MO.it x ((xs.map Prod.fst).length - rem.length))]) (fun A' hh => walk_it (xs := xs.map Prod.fst) hh) Inv
      (fun B rem cs' hi => ⟨(hsrc _ _ hi).1, let ⟨pre, e⟩ := (hsrc _ _ hi).2; ⟨pre.map Prod.fst, by rw [e, List.map_append]⟩⟩) hown hturn (Lvl.loop (target := target) (it := .ref I) (body := body) (k := fun r => (((match r with | .ok f => (.pure f : Sem Flow) | .error e => .raise e).onRaise fun (x : Value) => do
        if (← field x 1) == Value.none then unsupported "frame.own-activation:exception-without-traceback"
        setFlight x env.frame).wrap K H gd lv)) (l := lv []) (p := p) (kept := []) hl) (fun cs' hi => SG.pop (.ok .next) rfl (k cs' (hend _ hi))) xs c₁ i0
    rw [e0] at this
    exact this
  exact (key.it B _ S₂' trivial).mono fun e s' => SGn.step F₂'⟩
end
end Mine

end
section
open PySem PySem.W PySem.W.X PyProof.Rows
set_option Elab.async false
set_option maxRecDepth 100000
set_option linter.unusedVariables false
set_option linter.unusedSimpArgs false
namespace Mine
/-- as Fut, but one generator went on -/
structure FutG (g : Nat) (B : FH) (cs : Cells) (s : Shared) (B' : FH) (cs' : Cells) (s' : Shared) : Prop where
  mono : B.le B'
  pres : ∀ a o, s.heap.get? a = some o → a ∉ cs.ad → SameSl s'.heap a o
  newB : ∀ a, B' a ≠ none → B a ≠ none ∨ s.heap.get? a = none ∨ a ∈ cs.ad
  newC : ∀ a ∈ cs'.ad, s.heap.get? a = none ∨ a ∈ cs.ad
  there : ∀ a o, s.heap.get? a = some o → ∃ o', s'.heap.get? a = some o'
  os : s'.os = s.os
  gens : ∀ k, k < s.gens.size → k ≠ g → s'.gens[k]? = s.gens[k]?
  gsz : s.gens.size ≤ s'.gens.size
theorem Fut.thenG {g : Nat} {B B' B'' : FH} {cs cs' cs'' : Cells} {s s' s'' : Shared} (x : Fut B cs s B' cs' s') (hg : s.gens.size ≤ g) (y : FutG g B' cs' s' B'' cs'' s'') : Fut B cs s B'' cs'' s'' where
  mono := x.mono.trans y.mono
  pres a o e hn := (x.pres a o e hn).trans fun o' e' => y.pres a o' e' fun hm => by
    rcases x.newC a hm with h | h
    · rw [h] at e; cases e
    · exact hn h
  newB a h := by
    rcases y.newB a h with h | h | h
    · exact x.newB a h
    · refine .inr (.inl ?_)
      cases q : s.heap.get? a with
      | none => rfl
      | some o => obtain ⟨o', e⟩ := x.there a o q; rw [h] at e; cases e
    · exact .inr (x.newC a h)
  newC a h := by
    rcases y.newC a h with h | h
    · left
      cases q : s.heap.get? a with
      | none => rfl
      | some o => obtain ⟨o', e⟩ := x.there a o q; rw [h] at e; cases e
    · exact x.newC a h
  there a o e := let ⟨_, e'⟩ := x.there a o e; y.there a _ e'
  os := y.os.trans x.os
  gens k h := (y.gens k (Nat.lt_of_lt_of_le h x.gsz) (by omega)).trans (x.gens k h)
  gsz := Nat.le_trans x.gsz y.gsz
section
variable {M : Md} {A : Around} {fin gc gc' cs cs' : Cells} {B B' : FH} {s s' : Shared} {rem : List V} {g : Nat} {gs : GenState} {mid : Cells → Prop}
theorem St.setGen (hs : St M.C M.S A B cs s) (hb : gs.bare = true) : St M.C M.S A B cs (s.setGen g gs) := ⟨hs.keep, hs.stat, hs.own, hs.nf, hs.off, hs.nd, hs.frs, fun y hy => by
  have hy' : y ∈ s.gens.setIfInBounds g gs := hy
  rcases Array.mem_or_eq_of_mem_setIfInBounds hy' with h | rfl
  · exact hs.bare y h
  · exact hb⟩
theorem Fut.asG {gs2 : GenState} (F : Fut B cs (s.setGen g gs) B' cs' s') : FutG g B cs s B' cs' (s'.setGen g gs2) := ⟨F.mono, F.pres, F.newB, F.newC, F.there, F.os, fun k h hk => by
    have h1 : k < (s.setGen g gs).gens.size := by show k < (s.gens.setIfInBounds g gs).size; simpa using h
    have h2 := F.gens k h1
    have h3 : (s.setGen g gs).gens[k]? = s.gens[k]? := by show (s.gens.setIfInBounds g gs)[k]? = _; simp [Array.getElem?_setIfInBounds, Ne.symm hk]
    have h4 : (s'.setGen g gs2).gens[k]? = s'.gens[k]? := by show (s'.gens.setIfInBounds g gs2)[k]? = _; simp [Array.getElem?_setIfInBounds, Ne.symm hk]
    rw [h4, h2, h3], by
    have := F.gsz
    show s.gens.size ≤ (s'.gens.setIfInBounds g gs2).size
    have h1 : (s.setGen g gs).gens.size = s.gens.size := by show (s.gens.setIfInBounds g gs).size = _; simp
    rw [h1] at this
    simpa using this⟩
theorem setGen_get (h : g < s.gens.size) : (s.setGen g gs).gens[g]? = some gs := by show (s.gens.setIfInBounds g gs)[g]? = _; simp [Array.getElem?_setIfInBounds, h]
/-- a generator that lies waiting -/
def GenIs (M : Md) (A : Around) (fin : Cells) (mid : Cells → Prop) (gs : GenState) (rem : List V) (gc : Cells) : Prop := match gs with
  | .fresh c₀ => SG M A fin mid pT rem (denote table c₀) c₀ [] gc
  | .suspended k _ c _ fs _ => SG M A fin mid pT rem (k (.send .none)) c fs gc
  | _ => False
/-- what a generator gives next, or that it ends -/
theorem gen_wake {G : Addr} {Q : Option Value → Shared → Prop} {E : Value → Shared → Prop} (hs : St M.C M.S A B (gc ++ cs) s) (hh : A.handled = none) (hl : s.heap.NoLimit) (hroom : A.depth < recursionLimit)
    (hg : s.heap.IsGen G g) (hgs : s.gens[g]? = some gs) (hgo : GenIs M A.in1 fin mid gs rem gc)
    (hQ : ∀ v B₁ s₁ gc' gs' u r, rem = u :: r → St M.C M.S A B₁ (gc' ++ cs) s₁ → FutG g B (gc ++ cs) s B₁ (gc' ++ cs) s₁ → RV M.C B₁ v u → s₁.gens[g]? = some gs' → GenIs M A.in1 fin mid gs' r gc' → mid gc' → Q (some v) s₁)
    (hE : ∀ B₁ s₁, rem = [] → St M.C M.S A B₁ (fin ++ cs) s₁ → FutG g B (gc ++ cs) s B₁ (fin ++ cs) s₁ → Q none s₁) :
    wpAny (model M.prog M.w) A (pyNext (.ref G)) Q E s := by
  have hsz : g < s.gens.size := (Array.getElem?_eq_some_iff.mp hgs).1
  have S₀ : St M.C M.S A.in1 B (gc ++ cs) (s.setGen g .running) := (hs.setGen rfl).around rfl
  unfold pyNext
  refine wpAny_bind (wpAny_attempt (wpAny_callSpecial?_slot (name := Str.ofString "__next__") hg.typeIs slot_gen_next
    (wpAny_call_entry slot_gen_next hg.typeIs entry_gen_next ?_ (args_gen_next _))))
  show wpAny _ _ (Builtin.Generator.genWake (.ref G) (.send .none)) _ _ s
  unfold Builtin.Generator.genWake
  refine wpAny_bind (wpAny_holding (wpAny_genNumber hg (wpAny_bind (wpAny_genState hgs ?_))))
  have fin' : ∀ (k : GenResult → Sem PySem.Fin) (Q' : PySem.Fin → Shared → Prop) (E' : Value → Shared → Prop) (c₀ : Code) (t₀ : Sem PySem.Fin) (fs₀ : List Frame) (l : List Value), ((gs = .fresh c₀ ∧ t₀ = denote table c₀ ∧ fs₀ = []) ∨ (∃ k₀ l₀ p₀ cl, gs = .suspended k₀ l₀ c₀ p₀ fs₀ cl ∧ t₀ = k₀ (.send .none))) →
      (∀ v s₁, Q (some v) s₁ → wpAny (model M.prog M.w) A.in1 (k (.yielded v)) Q' E' s₁) → (∀ s₁, (∀ h', (∀ b o, s₁.heap.get? b = some o → h'.get? b = some o) → Q none { s₁ with heap := h' }) → wpAny (model M.prog M.w) A.in1 (k (.returned .none)) Q' E' s₁) →
      wpAny (model M.prog M.w) A.in1 (.resume g (.send .none) l k) Q' E' s := fun k Q' E' c₀ t₀ fs₀ l hcase h1 h2 => by
    have hseg : SegX (model M.prog M.w) A.in1 c₀ t₀ fs₀ (s.setGen g .running) (SGn M A.in1 fin mid rem B gc (s.setGen g .running)) := by
      rcases hcase with ⟨rfl, rfl, rfl⟩ | ⟨k₀, l₀, p₀, cl, rfl, rfl⟩
      · exact hgo.it B _ S₀.left trivial
      · exact hgo.it B _ S₀.left trivial
    have hcase' : (gs = .fresh c₀ ∧ (Resume.send .none) = .send .none ∧ t₀ = denote table c₀ ∧ fs₀ = []) ∨ (∃ k₀ l₀ p₀ cl, gs = .suspended k₀ l₀ c₀ p₀ fs₀ cl ∧ t₀ = k₀ (.send .none)) := by
      rcases hcase with ⟨a, b, c⟩ | h
      · exact .inl ⟨a, rfl, b, c⟩
      · exact .inr h
    intro Γ p hΓ
    refine wake_any _ M.prog M.w hgs hcase' (fun Γ => Γ.In A.in1) (fun _ h => h) (hseg.mono fun e s₁ he Γ p hΓ => ?_) Γ p hΓ
    cases rem with
    | nil =>
      obtain ⟨he, B₁, S₁, F₁⟩ := he
      have S₂ := (S₀.frame F₁ S₁)
      have F₂ : Fut B (gc ++ cs) (s.setGen g .running) B₁ (fin ++ cs) s₁ := F₁.frame
      have h3 : wpAny (model M.prog M.w) A.in1 (k (.returned .none)) Q' E' (s₁.setGen g .finished) := ?_
      · rcases he with rfl | rfl
        · exact h3 Γ p hΓ
        · exact h3 Γ p hΓ
      refine h2 _ (fun h' hk => ?_)
      have S₃ : St M.C M.S A B₁ (fin ++ cs) (s₁.setGen g .finished) := (S₂.setGen rfl).around rfl
      obtain ⟨S₄, F₄⟩ := S₃.grow hk (s₁.setGen g .finished).toks
      refine hE B₁ _ rfl S₄ ?_
      have F₃ := F₂.asG (gs2 := .finished)
      exact ⟨F₃.mono.trans F₄.mono, fun a o e hn => (F₃.pres a o e hn).trans fun o' e' => .inl (hk _ _ e'), F₃.newB, F₃.newC, fun a o e => let ⟨o', e'⟩ := F₃.there a o e; ⟨o', hk _ _ e'⟩, F₃.os, F₃.gens, F₃.gsz⟩
    | cons u r =>
      obtain ⟨v, l', k', c1, p', fs1, B₁, gc₁, rfl, hng, S₁, F₁, rv, hmid, hrest⟩ := he
      have S₂ := (S₀.frame F₁ S₁)
      have F₂ : Fut B (gc ++ cs) (s.setGen g .running) B₁ (gc₁ ++ cs) s₁ := F₁.frame
      have hst : End.genState (.susp v false l' k' c1 p' fs1) = .suspended k' l' c1 p' fs1 false := by show GenState.suspended k' l' c1 p' fs1 (false || fs1.any Frame.guarded) = _; rw [hng]; rfl
      rw [hst]
      refine h1 v _ ?_ Γ p hΓ
      have hsz2 : g < s₁.gens.size := by
        have := F₁.gsz
        have h3 : (s.setGen g .running).gens.size = s.gens.size := by show (s.gens.setIfInBounds g .running).size = _; simp
        omega
      exact hQ v B₁ _ gc₁ (.suspended k' l' c1 p' fs1 false) u r rfl ((S₂.setGen rfl).around rfl) F₂.asG rv (setGen_get hsz2) ⟨fun B2 s2 hs2 _ => hrest B2 s2 hs2⟩ hmid
  cases gs with
  | running => exact hgo.elim
  | finished => exact hgo.elim
  | fresh c₀ =>
    refine wpAny_bind (wpAny_roomToWake hl hroom ?_)
    refine fin' _ _ _ c₀ _ [] _ (.inl ⟨rfl, rfl, rfl⟩) (fun v s₁ hq => wpAny_pure ⟨v, rfl, wpAny_pure hq⟩) (fun s₁ hq => ?_)
    show wpAny _ _ (newExc (.type "StopIteration") [] >>= _) _ _ _
    refine wpAny_bind ?_
    simp only [newExc, newTuple]
    refine wpAny_bind (wpAny_newObj_type ?_ (by size_fits))
    refine wpAny_bind (m := firstArgMember _ _) (wpAny_of_eq (a := Value.none) (by first | rfl | (simp only [firstArgMember]; rfl)) ?_)
    refine wpAny_newObj_type ?_ (by size_fits)
    simp only [raiseNew]
    refine wpAny_bind (wpAny_bind (wpAny_handled ?_))
    rw [show A.in1.handled = none from hh]
    refine wpAny_throw ?_
    refine wpAny_bind (wpAny_isInstance (T := "StopIteration") (b := true) ⟨_, Heap.get?_push_size _ rfl, rfl⟩ isSubtype_stop ?_)
    exact wpAny_pure (hq _ fun b o hb => Heap.get?_push_of_some _ (Heap.get?_push_of_some _ hb))
  | suspended k₀ l₀ c₀ p₀ fs₀ cl =>
    refine wpAny_bind (wpAny_roomToWake hl hroom ?_)
    refine fin' _ _ _ c₀ _ fs₀ _ (.inr ⟨_, _, _, _, rfl, rfl⟩) (fun v s₁ hq => wpAny_pure ⟨v, rfl, wpAny_pure hq⟩) (fun s₁ hq => ?_)
    show wpAny _ _ (newExc (.type "StopIteration") [] >>= _) _ _ _
    refine wpAny_bind ?_
    simp only [newExc, newTuple]
    refine wpAny_bind (wpAny_newObj_type ?_ (by size_fits))
    refine wpAny_bind (m := firstArgMember _ _) (wpAny_of_eq (a := Value.none) (by first | rfl | (simp only [firstArgMember]; rfl)) ?_)
    refine wpAny_newObj_type ?_ (by size_fits)
    simp only [raiseNew]
    refine wpAny_bind (wpAny_bind (wpAny_handled ?_))
    rw [show A.in1.handled = none from hh]
    refine wpAny_throw ?_
    refine wpAny_bind (wpAny_isInstance (T := "StopIteration") (b := true) ⟨_, Heap.get?_push_size _ rfl, rfl⟩ isSubtype_stop ?_)
    exact wpAny_pure (hq _ fun b o hb => Heap.get?_push_of_some _ (Heap.get?_push_of_some _ hb))
end
end Mine

end
section
open PySem PySem.W PySem.W.X PyProof.Rows
set_option Elab.async false
set_option maxRecDepth 100000
set_option linter.unusedVariables false
set_option linter.unusedSimpArgs false
namespace Mine
/-- a generator's own object -/
def GenO (o : Obj) (g : Nat) : Prop := ∃ nm qn, o.cls = .type "generator" ∧ o.data = .fields #[.int g 0, nm, qn] ∧ o.slots = #[]
theorem GenO.notD {o : Obj} {g : Nat} (h : GenO o g) : ¬ IsD o := fun ⟨_, _, q⟩ => by obtain ⟨nm, qn, hc, hd, _⟩ := h; rw [hd] at q; cases q
theorem GenO.is {h : Heap} {G : Addr} {o : Obj} {g : Nat} (x : GenO o g) (e : h.get? G = some o) : h.IsGen G g := let ⟨nm, qn, a, b, c⟩ := x; ⟨o, nm, qn, e, a, b, c⟩
section
variable {M : Md} {A : Around} {fin gc gc' cs cs' : Cells} {B B' : FH} {s s' : Shared} {rem : List V} {g : Nat} {gs : GenState} {K : Frag}
theorem St.undeep {env : Env} (hs : St M.C M.S (A.deeper env) B cs s) : St M.C M.S A B cs s := by
  refine ⟨hs.keep, hs.stat, hs.own, hs.nf, hs.off, hs.nd, ?_, hs.bare⟩
  obtain ⟨l, e, hl⟩ := hs.frs
  have e' : A.frames.map (env :: ·) = some l := e
  obtain ⟨l₀, h0, rfl⟩ := Option.map_eq_some_iff.mp e'
  exact ⟨l₀, h0, fun en hen => hl en (.tail _ hen)⟩
theorem St.newGen (hs : St M.C M.S A B cs s) (hb : gs.bare = true) : St M.C M.S A B cs { s with gens := s.gens.push gs } := ⟨hs.keep, hs.stat, hs.own, hs.nf, hs.off, hs.nd, hs.frs, AllBare.push hs.bare hb⟩
theorem Fut.newGen (F : Fut B cs s B' cs' s') : Fut B cs s B' cs' { s' with gens := s'.gens.push gs } := ⟨F.mono, F.pres, F.newB, F.newC, F.there, F.os, fun k hk => by
    have h1 : k < s'.gens.size := Nat.lt_of_lt_of_le hk F.gsz
    have := F.gens k hk
    show (s'.gens.push gs)[k]? = _
    rw [Array.getElem?_push_lt h1, ← this, Array.getElem?_eq_getElem h1], by
    have := F.gsz
    show s.gens.size ≤ (s'.gens.push gs).size
    rw [Array.size_push]; omega⟩
theorem inst_iter {a C f : Addr} {ox : Obj} {od : Option Obj} {Q : Value → Shared → Prop} {E : Value → Shared → Prop} (X : K.In s.heap) (I : InstAt s.heap a ox C od) (hf : findIn K (.ref C) "__iter__" = some (some (.ref f))) (ht : typeIn K (.ref f) = some (.type "function"))
    (hc : wpAny (model M.prog M.w) A (call (.ref f) [.ref a]) (fun it s' => ∃ G g, it = .ref G ∧ s'.heap.IsGen G g ∧ Q it s') E s) : wpAny (model M.prog M.w) A (pyIter (.ref a)) Q E s := by
  have sp : ∀ {A' : Around} {E' : Value → Shared → Prop} {Q : Option Value → Shared → Prop}, Q (some (.ref f)) s → wpAny (model M.prog M.w) A' (specialOf (.ref a) "__iter__") Q E' s := fun q => by
    simp only [specialOf]; exact wpAny_bind (I.type.here ((looks_findIn X hf).here q))
  have bd := bind_fn (M := model M.prog M.w) X (f := f) (.ref a) ht
  unfold pyIter
  refine wpAny_bind (sp ?_)
  show wpAny _ A (callSpecialIfBoundUnlessNone? (.ref a) "__iter__" _ >>= _) Q E s
  refine wpAny_bind ?_
  simp only [callSpecialIfBoundUnlessNone?, bindSpecialIfBound?]
  refine wpAny_holding (wpAny_bind (wpAny_bind (sp ?_)))
  refine wpAny_bind (wpAny_askSetting (wpAny_ite ?_))
  have fin : wpAny (model M.prog M.w) A (call (.ref f) [.ref a]) (fun it s₁ => wpAny (model M.prog M.w) A (do match ← specialOf it "__next__" with
      | none => rule "iter.non-iterator"; raiseError "TypeError" s!"iter() returned non-iterator of type '{← typeNameOf it}'"
      | some _ => pure it) Q E s₁) E s := wpAny_mono hc (fun it s' h' => by
        obtain ⟨G, g, rfl, hG, hQ⟩ := h'
        exact wpAny_bind (wpAny_specialOf hG.typeIs slot_gen_next.lookup (wpAny_pure hQ))) fun _ _ x => x
  have bn : (Value.ref f == Value.none) = false := rfl
  split
  · refine wpAny_bind (bd.here (wpAny_pure ?_))
    simp only [bn, Bool.false_eq_true, if_false]
    exact wpAny_bind (wpAny_mono fin (fun it s' h' => wpAny_pure h') fun _ _ x => x)
  · refine wpAny_tryCatch (wpAny_bind (bd.here (wpAny_pure ?_)))
    simp only [bn, Bool.false_eq_true, if_false]
    exact wpAny_bind (wpAny_mono fin (fun it s' h' => wpAny_pure h') fun _ _ x => x)
/-- a generator's def, called -/
theorem gen_call {n : Nat} {f : Addr} {q : Str} {par : Arguments} {body : List Stmt} {sc : Scope} {cd dfl : Value} {vs ws : List Value} {args : List V} {names : List Str} {Q : Value → Shared → Prop} {E : Value → Shared → Prop} (fit : Fit (n + 1) A)
    (hf : ∃ o, B f = some o ∧ FnIs o q par body sc [] cd dfl) (hcd : s.heap.CodeRec cd q) (hbind : Looks (model M.prog M.w) s.heap (bindArgs (bareFn q par dfl) ⟨vs, []⟩) (names.zip ws)) (lim : s.heap.NoLimit)
    (hr : RVs M.C B ws args) (nd : names.Nodup) (hlen : names.length ≤ args.length) (hs : St M.C M.S A B cs s)
    (hQ : ∀ L G og s', L ∉ cs.ad → St M.C M.S A B ((L, .frame (names.zip args)) :: (G, .obj og) :: cs) s' → Fut B cs s B ((L, .frame (names.zip args)) :: (G, .obj og) :: cs) s' → GenO og s.gens.size →
      s'.gens[s.gens.size]? = some (.fresh (.func body (envFn sc L [] q f cd))) → Q (.ref G) s')
    (hco : sc.isCoroutine = false := by kernel_rfl) (hgen : sc.isGenerator = true := by kernel_rfl) (hk : sc.kind = .function := by kernel_rfl)
    (hcell : ∀ x ∈ sc.names, x.2 ≠ .cell := by decide +kernel) (hloc : ∀ x ∈ names, sc.names.lookup x = some .local := by decide +kernel) : wpAny (model M.prog M.w) A (call (.ref f) vs) Q E s := by
  obtain ⟨o, ho, ⟨fd, hd, e1, e2, e3, e4, e5, e6, e7, e8, e9, e10⟩⟩ := hf
  refine wpAny_call (codeAny_call_generator fit.room (hs.keep _ _ ho) hd (by rw [e4]; exact hco) (by rw [e4]; exact hgen) e3 (by rw [e6, e1]; exact hcd) ?_)
  rw [bindArgs_bare e1 e2 e9 e10, e4, e5, e6, e7, e8, e1]
  refine hbind.here (wpAny_newFunctionEnv hcell (fun x hx => hloc _ (List.of_mem_zip hx).1) (fun h' hns hsb => ?_) hk)
  have lim' : h'.NoLimit := lim.fresh _ hsb
  obtain ⟨hn, S₁, F₁⟩ := hs.enter (env := envFn sc s.heap.objs.size [] q f cd) (t := s.toks + (names.zip ws).length) hr nd hlen rfl (by show sc.kind ≠ _; rw [hk]; decide) rfl hns hsb
  refine ⟨lim', ?_⟩
  have S₂ := S₁.undeep
  generalize hL : s.heap.objs.size = L at *
  obtain ⟨hnG, S₃, F₃⟩ := S₂.alloc (o := { cls := .type "generator", data := .fields #[.int s.gens.size 0, .str fd.name (s.toks + (names.zip ws).length), .str q (s.toks + (names.zip ws).length + 1)] }) (m := .obj _) rfl (Heap.get?_push_size _ rfl) isD_no_fields (s.toks + (names.zip ws).length + 1 + 1)
  have S₄ := St.newGen (gs := .fresh (.func body (envFn sc L [] q f cd))) S₃ rfl
  have F₄ := Fut.newGen (gs := .fresh (.func body (envFn sc L [] q f cd))) (F₁.trans F₃)
  refine hQ L _ _ _ hn S₄ F₄ ⟨_, _, rfl, rfl, rfl⟩ ?_
  show (s.gens.push _)[s.gens.size]? = _
  simp
end
end Mine

end
section
open PySem PySem.W PySem.W.X PyProof.Rows
set_option Elab.async false
set_option maxRecDepth 100000
set_option linter.unusedVariables false
set_option linter.unusedSimpArgs false
namespace Mine
/-- iter(x) is a generator that gives xs -/
structure IG (M : Md) (A : Around) (x : V) (cs : Cells) (xs : List V) (c₂ fin : Cells) : Prop where
  it : ∀ (B : FH) (s : Shared) (v : Value), St M.C M.S A B cs s → RV M.C B v x → ∀ (Q : Value → Shared → Prop) (E : Value → Shared → Prop),
    (∀ G og gc gs s', St M.C M.S A B ((G, .obj og) :: (gc ++ c₂)) s' → Fut B cs s B ((G, .obj og) :: (gc ++ c₂)) s' → GenO og s.gens.size → s'.gens[s.gens.size]? = some gs → GenIs M A.in1 fin tM gs xs gc → Q (.ref G) s') →
    wpAny (model M.prog M.w) A (pyIter v) Q E s
section
variable {M : Md} {A : Around} {fin cs : Cells} {X : Value → Cells → Prop} {env : Env} {PV : V → Cells → Prop}
/-- [elt for target in an instance that walks by a generator] -/
theorem ev_compgen {n : Nat} {elt target iter : PySem.Expr} {scope : Scope} {cl : List (Str × Addr)} {pos : Pos} (fit : Fit n A) (lim : ∀ h : Heap, (∀ a o, M.S a = some o → h.get? a = some o) → h.NoLimit) (Inv : List V → List V → Cells → Prop)
    (hclos : closureFor scope env = pure cl)
    (h : EV M A env iter cs (fun x cs₁ => ∃ xs c₂, Inv xs [] c₂ ∧ IG M A x cs₁ xs c₂ fin ∧ (∀ rem done cs', Inv rem done cs' → done.length ≤ 10000) ∧
      (∀ C u rem done cs', Inv (u :: rem) done cs' → AS M A (compEnvC scope cl C env) target u ((C, .frame []) :: cs') (fun c => EV M A (compEnvC scope cl C env) elt c (fun y c' => ∃ loc cs'', View M c' ((C, .frame loc) :: cs'') ∧ Inv rem (done ++ [y]) cs'') NoX) NoX) ∧
      (∀ done cs', Inv [] done cs' → ∀ D, PV (.ref D) ((D, .lst .list done) :: (fin ++ cs')))) X)
    (hcell : ∀ y ∈ scope.names, y.2 ≠ .cell := by decide +kernel) (hkind : scope.kind = .function := by kernel_rfl)
    (hnames : ∀ x ∈ scope.names, x.2 = .local → scope.names.lookup x.1 = some .local := by decide +kernel)
    (hs : ∀ x, foldedSetIterable iter env x = pure x := by intro _; rfl) :
    EV M A env (.ListComp elt [⟨target, iter, [], 0⟩] scope pos) cs PV X := ⟨fun B₀ s₀ hst hp => by
  rw [eval_ListComp]
  refine wpAny_comprehension_free (use := none) rfl hs hclos hkind hnames (wpAny_mono (h.it B₀ s₀ hst trivial) (fun x₀ s₁ ⟨B, cs₁, x, S₁, F₁, R₁, xs, c₂, i0, ig, hlen, hturn, hend⟩ => ?_) fun _ _ e => e)
  refine ig.it B s₁ x₀ S₁ R₁ _ _ fun G og gc gs s S₂ F₂ hgo hgs hgi => ?_
  have F₂' := F₁.trans F₂
  have hg0 : s₀.gens.size ≤ s₁.gens.size := F₁.gsz
  generalize hg : s₁.gens.size = g at *
  -- the new list
  obtain ⟨hnD, S₃, F₃⟩ := S₂.alloc (o := { cls := .type "list", data := .seq ([] : List Value).toArray }) (m := .lst .list []) rfl ⟨none, [], 0, Heap.get?_push_size _ rfl, rfl, .nil⟩ trivial s.toks
  have pm := ins_perm (s.heap.objs.size, MO.lst .list []) ((G, .obj og) :: (gc ++ c₂))
  have S₃' := S₃.perm pm
  have F₃' := F₂'.trans (F₃.perm (cs₁' := (s.heap.objs.size, MO.lst .list []) :: ((G, .obj og) :: (gc ++ c₂))) (fun _ => Iff.rfl) fun a ha => ((pm.map Prod.fst).mem_iff.mpr ha))
  refine wpAny_newObj_type ?_ (by size_fits)
  generalize hD : s.heap.objs.size = D at *
  have hh2 : ({ s with heap := s.heap.push { cls := .type "list", dict := none, data := .seq ([] : List Value).toArray } } : Shared) = { s with heap := s.heap.push { cls := .type "list", data := .seq ([] : List Value).toArray }, toks := s.toks } := rfl
  rw [hh2] at *
  have hgs3 : ({ s with heap := s.heap.push { cls := .type "list", data := .seq ([] : List Value).toArray }, toks := s.toks } : Shared).gens[g]? = some gs := hgs
  generalize hs2 : ({ s with heap := s.heap.push { cls := .type "list", data := .seq ([] : List Value).toArray }, toks := s.toks } : Shared) = s₂ at *
  refine wpAny_newFunctionEnv hcell (by intro y hy; simp at hy) (fun h₁ hns₁ hsb₁ => ?_) hkind
  obtain ⟨hnC, hof, hCn, S₄, F₄⟩ := S₃'.enterC (t := s₂.toks + ([] : List (Str × Value)).length) rfl hns₁ hsb₁
  generalize hC : s₂.heap.objs.size = C at *
  have F₄' := F₃'.trans F₄
  have hC0 : s₀.heap.get? C = none := by
    cases q : s₀.heap.get? C with
    | none => rfl
    | some o => obtain ⟨o', e⟩ := F₃'.there C o q; rw [hCn] at e; cases e
  have hgs4 : ({ s₂ with heap := h₁, toks := s₂.toks + ([] : List (Str × Value)).length } : Shared).gens[g]? = some gs := hgs3
  show codeAny _ _ (.compStart _ 0 (.ref G) (.ref D) (compEnvC scope cl C env)) (compPost (model M.prog M.w) A (PoX M.C M.S A B₀ cs s₀ X) none (Po M.C M.S (RV M.C) A B₀ cs s₀ PV) (.ref D) C) { s₂ with heap := h₁, toks := s₂.toks + ([] : List (Str × Value)).length }
  generalize ({ s₂ with heap := h₁, toks := s₂.toks + ([] : List (Str × Value)).length } : Shared) = s₃ at S₄ F₄' hgs4
  have pm3 : (((C, MO.frame []) :: (D, .lst .list []) :: (G, .obj og) :: (gc ++ c₂))).Perm (gc ++ ((C, .frame []) :: (D, .lst .list []) :: (G, .obj og) :: c₂)) := by
    have : (((C, MO.frame []) :: (D, .lst .list []) :: (G, .obj og) :: (gc ++ c₂))) = [(C, MO.frame []), (D, .lst .list []), (G, .obj og)] ++ (gc ++ c₂) := rfl
    rw [this, ← List.append_assoc]
    refine (List.perm_append_comm.append_right c₂).trans ?_
    rw [List.append_assoc]; exact .refl _
  have S₅ := S₄.perm pm3
  have F₅ := F₄'.perm (cs₁' := gc ++ ((C, .frame []) :: (D, .lst .list []) :: (G, .obj og) :: c₂)) (fun _ => Iff.rfl) fun a ha => ((pm3.map Prod.fst).mem_iff.mpr ha)
  have loop : codeAny (model M.prog M.w) A (.compLoop (.ListComp elt [⟨target, iter, [], 0⟩] scope pos) 0 (.ref G) (.ref D) (compEnvC scope cl C env)) (compPost (model M.prog M.w) A (PoX M.C M.S A B₀ cs s₀ X) none (Po M.C M.S (RV M.C) A B₀ cs s₀ PV) (.ref D) C) s₃ := by
    refine compLoop_any (I := fun m s' => ∃ B' cs' rem done gc gs, rem.length = m ∧ Inv rem done cs' ∧ St M.C M.S A B' (gc ++ ((C, .frame []) :: (D, .lst .list done) :: (G, .obj og) :: cs')) s' ∧ Fut B₀ cs s₀ B' (gc ++ ((C, .frame []) :: (D, .lst .list done) :: (G, .obj og) :: cs')) s' ∧ s'.gens[g]? = some gs ∧ GenIs M A.in1 fin tM gs rem gc) (fun m s' hI' => ?_) xs.length ⟨B, c₂, xs, [], gc, gs, rfl, i0, S₅, F₅, hgs4, hgi⟩
    obtain ⟨B', cs', rem, done, gc, gs, hm, inv, S', F', hgs', hgi'⟩ := hI'
    have hGo : s'.heap.get? G = some og := S'.own (G, .obj og) (List.mem_append_right _ (.tail _ (.tail _ (.head _))))
    refine gen_wake S' fit.hd (lim _ S'.keepS) fit.room (hgo.is hGo) hgs' hgi' (fun v B₁ s₁ gc₁ gs₁ u r hr S₁ F₁ rv hgs₁ hgi₁ _ => ?_) (fun B₁ s₁ hr S₁ F₁ => ?_)
    · subst hr
      have hGo₁ : s₁.heap.get? G = some og := S₁.own (G, .obj og) (List.mem_append_right _ (.tail _ (.tail _ (.head _))))
      have F₆ := F'.thenG hg0 F₁
      refine owned_not (ob := default) hGo₁ (fun n hn => by obtain ⟨nm, qn, hc, _⟩ := hgo; rw [hc] at hn; cases hn; decide) ?_
      have hsz1 : g < s₁.gens.size := (Array.getElem?_eq_some_iff.mp hgs₁).1
      have tr := ((hturn C u r done cs' inv).it v).frame (all := gc₁ ++ ((C, .frame []) :: (D, .lst .list done) :: (G, .obj og) :: cs')) (fr := (D, .lst .list done) :: (G, .obj og) :: gc₁) (by
        refine List.perm_append_comm.trans ?_
        simp only [List.cons_append]
        refine .cons _ ?_
        refine (List.Perm.cons _ (List.Perm.cons _ List.perm_append_comm)).trans ?_
        have e : (D, MO.lst .list done) :: (G, .obj og) :: (gc₁ ++ cs') = ((D, MO.lst .list done) :: (G, .obj og) :: gc₁) ++ cs' := rfl
        rw [e]
        exact List.perm_append_comm)
      refine wpAny_mono (tr B₁ s₁ S₁ rv) (fun _ s₄ ⟨B₄, cs₄, _, S₄, F₄, _, c₄, hc₄, hbody⟩ => ?_) fun _ _ x => noted_none (x.mono (fun _ _ ⟨_, _, q⟩ => q))
      subst hc₄
      have tr2 := hbody.it.frame (all := c₄ ++ ((D, .lst .list done) :: (G, .obj og) :: gc₁)) (fr := (D, .lst .list done) :: (G, .obj og) :: gc₁) (.refl _)
      refine wpAny_mono (tr2 B₄ s₄ S₄ trivial) (fun y' s₅ ⟨B₅, cs₅, y, S₅, F₅, R₅, c₅, hc₅, loc, cs'', hv, hpost⟩ => ?_) fun _ _ x => noted_none (x.mono (fun _ _ ⟨_, _, q⟩ => q))
      subst hc₅
      obtain ⟨B₆, S₆, F₆'⟩ := ((hv.trans (View.loc (sub_nil loc))).frame ((D, .lst .list done) :: (G, .obj og) :: gc₁)) A B₅ s₅ S₅
      have pm2 : (((C, MO.frame []) :: cs'') ++ ((D, .lst .list done) :: (G, .obj og) :: gc₁)).Perm ((D, .lst .list done) :: (gc₁ ++ ((C, .frame []) :: (G, .obj og) :: cs''))) := by
        refine List.perm_append_comm.trans ?_
        simp only [List.cons_append]
        refine .cons _ ?_
        refine List.Perm.trans ?_ List.perm_middle.symm
        refine List.Perm.trans (List.Perm.cons _ List.perm_middle) ?_
        refine List.Perm.trans (.swap ..) ?_
        exact .cons _ List.perm_middle.symm
      have S₇ := S₆.perm pm2
      have F₇ := F₆'.perm (cs₁' := (D, .lst .list done) :: (gc₁ ++ ((C, .frame []) :: (G, .obj og) :: cs''))) (fun _ => Iff.rfl) fun a ha => ((pm2.map Prod.fst).mem_iff.mpr ha)
      refine list_append_own S₇ .head (hlen _ _ _ inv) (R₅.mono F₆'.mono) fun s₈ S₈ F₈ => ?_
      have pm4 : ((D, MO.lst .list (done ++ [y])) :: (gc₁ ++ ((C, .frame []) :: (G, .obj og) :: cs''))).Perm (gc₁ ++ ((C, .frame []) :: (D, .lst .list (done ++ [y])) :: (G, .obj og) :: cs'')) := by
        refine List.Perm.trans List.perm_middle.symm ?_
        exact List.Perm.append_left _ (.swap ..)
      have S₉ := S₈.perm pm4
      have F₉ := F₈.perm (cs₁' := gc₁ ++ ((C, .frame []) :: (D, .lst .list (done ++ [y])) :: (G, .obj og) :: cs'')) (fun _ => Iff.rfl) fun a ha => ((pm4.map Prod.fst).mem_iff.mpr ha)
      have F18 := (F₄.trans F₅).trans (F₇.trans F₉)
      exact ⟨r.length, by simp at hm; omega, B₆, cs'', r, _, gc₁, gs₁, rfl, hpost, S₉, F₆.trans F18, (F18.gens g hsz1).trans hgs₁, hgi₁⟩
    · subst hr
      have F₆ := F'.thenG hg0 F₁
      have pm5 : (fin ++ ((C, MO.frame []) :: (D, .lst .list done) :: (G, .obj og) :: cs')).Perm ((C, .frame []) :: (((D, .lst .list done) :: (fin ++ cs')) ++ [(G, .obj og)])) := by
        refine List.Perm.trans List.perm_middle ?_
        refine .cons _ ?_
        refine List.Perm.trans List.perm_middle ?_
        refine .cons _ ?_
        refine List.Perm.trans List.perm_middle ?_
        exact (List.perm_append_singleton _ _).symm
      have S₂ := S₁.perm pm5
      have F₇ := F₆.perm (cs₁' := (C, .frame []) :: (((D, .lst .list done) :: (fin ++ cs')) ++ [(G, .obj og)])) (fun _ => Iff.rfl) fun a ha => ((pm5.map Prod.fst).mem_iff.mpr ha)
      obtain ⟨nd, mm, hn, hl⟩ := S₂.own (C, .frame []) (.head _)
      refine ⟨mm, hn, fun h' hb => ?_⟩
      obtain ⟨S₅, F₅⟩ := S₂.scrub F₇ hC0 hof hb
      refine ⟨B₁, _, .ref D, S₅.left, ?_, .ref D, hend _ _ inv D⟩
      exact F₅.perm (fun _ => Iff.rfl) fun a ha => by rw [Cells.ad, List.map_append]; exact List.mem_append_left _ ha
  exact codeAny_compStart_list loop (by
    have hGo : s₃.heap.get? G = some og := S₄.own (G, .obj og) (.tail _ (.tail _ (.head _)))
    exact wpAny_pyIter_gen (hgo.is hGo) loop)⟩
end
end Mine

end
section
open PySem PySem.W PySem.W.X PyProof.Rows
set_option Elab.async false
set_option maxRecDepth 100000
set_option linter.unusedVariables false
set_option linter.unusedSimpArgs false
namespace Mine
theorem FutG.trans {g : Nat} {B B' B'' : FH} {cs cs' cs'' : Cells} {s s' s'' : Shared} (x : FutG g B cs s B' cs' s') (y : FutG g B' cs' s' B'' cs'' s'') : FutG g B cs s B'' cs'' s'' where
  mono := x.mono.trans y.mono
  pres a o e hn := (x.pres a o e hn).trans fun o' e' => y.pres a o' e' fun hm => by
    rcases x.newC a hm with h | h
    · rw [h] at e; cases e
    · exact hn h
  newB a h := by
    rcases y.newB a h with h | h | h
    · exact x.newB a h
    · refine .inr (.inl ?_)
      cases q : s.heap.get? a with
      | none => rfl
      | some o => obtain ⟨o', e⟩ := x.there a o q; rw [h] at e; cases e
    · exact .inr (x.newC a h)
  newC a h := by
    rcases y.newC a h with h | h
    · left
      cases q : s.heap.get? a with
      | none => rfl
      | some o => obtain ⟨o', e⟩ := x.there a o q; rw [h] at e; cases e
    · exact x.newC a h
  there a o e := let ⟨_, e'⟩ := x.there a o e; y.there a _ e'
  os := y.os.trans x.os
  gens k h hk := (y.gens k (Nat.lt_of_lt_of_le h x.gsz) hk).trans (x.gens k h hk)
  gsz := Nat.le_trans x.gsz y.gsz
theorem Fut.toG {g : Nat} {B B' : FH} {cs cs' : Cells} {s s' : Shared} (x : Fut B cs s B' cs' s') : FutG g B cs s B' cs' s' := ⟨x.mono, x.pres, x.newB, x.newC, x.there, x.os, fun k h _ => x.gens k h, x.gsz⟩
theorem FutG.perm {g : Nat} {B B' : FH} {cs cs' cs₁ cs₁' : Cells} {s s' : Shared} (F : FutG g B cs s B' cs' s') (h : ∀ a, a ∈ cs.ad ↔ a ∈ cs₁.ad) (h' : ∀ a ∈ cs₁'.ad, a ∈ cs'.ad) : FutG g B cs₁ s B' cs₁' s' :=
  ⟨F.mono, fun a o e hn => F.pres a o e fun hm => hn ((h a).mp hm), fun a e => (F.newB a e).imp id (Or.imp id (h a).mp), fun a e => (F.newC a (h' a e)).imp id (h a).mp, F.there, F.os, F.gens, F.gsz⟩
section
variable {M : Md} {A : Around} {fin : Cells} {mid : Cells → Prop} {cs cs' : Cells} {B B' : FH} {s s' : Shared} {rem ys ys' : List V} {env : Env} {L : Addr} {n : Nat} {c : Code} {fs : List Frame} {pre : FH → Prop} {P P' : Cells → Prop}
abbrev gxp (elt target iter : PySem.Expr) (scope : Scope) (pos : Pos) : PySem.Expr := .GeneratorExp elt [⟨target, iter, [], 0⟩] scope pos
theorem Lvl.gx {e : PySem.Expr} {elt target iter : PySem.Expr} {scope : Scope} {pos : Pos} {it acc : Value} (fit : Fit (n + 1) A) : Lvl A env n (.compLoop (gxp elt target iter scope pos) 0 it acc env) [] := by
  refine ⟨?_, ⟨?_, ?_, fit.hd⟩, rfl, rfl⟩
  · show pushEnvs [env] (pushEnvs [] A.frames) = _
    cases A.frames <;> rfl
  · have := fit.dep
    show A.depth + 0 + 1 + 3 * n ≤ 450
    omega
  · have := fit.un
    show A.units + 0 + 3 + 40 * n ≤ 1800
    omega
/-- the turns of a generator expression -/
theorem sg_gexp {elt target iter : PySem.Expr} {scope : Scope} {pos : Pos} {it acc : Value} {J : List V → Cells} {Dep : FH → List V → Cells → Prop} (fit : Fit (n + 1) A) (hf : env.frame = some L) (W : ∀ A' : Around, A'.handled = none → Walk M A' target it J Dep) (Inv : List (V × V) → Cells → Prop)
    (hdep : ∀ B rem cs', Inv rem cs' → Dep B (rem.map Prod.fst) cs') (hown : ∀ rem cs', Inv rem cs' → Own env L cs') (hmid : ∀ rem cs', Inv rem cs' → mid (cs' ++ J (rem.map Prod.fst)))
    (hturn : ∀ u rem cs', Inv (u :: rem) cs' → ∀ A', Fit n A' → On A' env → AS M A' env target u.1 cs' (fun c' => Own env L c' ∧ EV M A' env elt c' (fun y c'' => y = u.2 ∧ ∃ c3, View M c'' c3 ∧ Inv rem c3) NoX) NoX)
    (hend : ∀ cs', Inv [] cs' → View M cs' fin) (hco : env.scope.isCoroutine = false := by rfl) :
    ∀ rem cs', Inv rem cs' → SG M A fin mid pT (rem.map Prod.snd) (denote table (.compLoop (gxp elt target iter scope pos) 0 it acc env)) (.compLoop (gxp elt target iter scope pos) 0 it acc env) [] (cs' ++ J (rem.map Prod.fst)) := by
  intro rem
  have hl : Lvl A env n (.compLoop (gxp elt target iter scope pos) 0 it acc env) [] := Lvl.gx (e := elt) fit
  have hy : ∀ v, yieldOut env v = yieldValue v := fun v => by simp only [yieldOut, hco, Bool.false_eq_true, if_false]
  induction rem with
  | nil =>
    intro cs' inv
    show SG M A fin mid pT [] ((compTurn (gxp elt target iter scope pos) 0 it acc env).onRaise (leaving env)) _ [] _
    rw [compTurn_gen, Sem.onRaise_eq_wrap, Sem.bind_eq_wrap', Sem.wrap_wrap]
    refine SG.stand ?_
    refine ⟨fun B s hs hp => ?_⟩
    have ho := hown _ _ inv
    have hs' := hs.into hl ⟨ho.fr, ho.kd, let ⟨loc, q⟩ := ho.mem; ⟨loc, List.mem_append_left _ q⟩⟩
    rw [Sem.bind_eq_wrap', Sem.wrap_wrap]
    refine sx_wrap ((W _ hl.fit.hd).stop B s cs' hs' (hdep _ _ _ inv) _ _ fun s₁ S₁ F₁ => ?_)
    have h2 : SG M A fin mid pT [] (.pure (.done .next)) (.compLoop (gxp elt target iter scope pos) 0 it acc env) [] cs' := SG.view (hend _ inv) (SG.endN rfl)
    exact (h2.it B s₁ (S₁.outof hl) trivial).mono fun e s' => SGn.step F₁
  | cons u rem ih =>
    intro cs' inv
    rw [List.map_cons, List.map_cons]
    show SG M A fin mid pT _ ((compTurn (gxp elt target iter scope pos) 0 it acc env).onRaise (leaving env)) _ [] _
    rw [compTurn_gen, Sem.onRaise_eq_wrap, Sem.bind_eq_wrap', Sem.wrap_wrap]
    refine SG.stand ?_
    refine ⟨fun B s hs hp => ?_⟩
    have ho := hown _ _ inv
    have hs' := hs.into hl ⟨ho.fr, ho.kd, let ⟨loc, q⟩ := ho.mem; ⟨loc, List.mem_append_left _ q⟩⟩
    rw [Sem.bind_eq_wrap', Sem.wrap_wrap]
    refine sx_wrap (wpAny_mono ((W _ hl.fit.hd).next B s u.1 (rem.map Prod.fst) cs' hs' (hdep _ _ _ inv) (fun v s₁ => SegX (model M.prog M.w) A (.compLoop (gxp elt target iter scope pos) 0 it acc env) ((do
        assign target env v
        let v ← eval elt env
        PySem.standAt elt.pos
        let _ ← yieldValue v
        again (.compLoop (gxp elt target iter scope pos) 0 it acc env) : Sem Fin).wrap .pure (fun e => (leaving env e).bind fun _ => .raise e) id id) [] s₁ (SGn M A fin mid (u.2 :: rem.map Prod.snd) B (cs' ++ J (u.1 :: rem.map Prod.fst)) s)) (fun _ _ => False) (fun v B₁ s₁ S₁ F₁ rb => ?_)) (fun r s₁ ⟨v, hv, hw⟩ => ?_) fun _ _ q => q.elim)
    · have S₂ : St M.C M.S A B₁ (cs' ++ J (rem.map Prod.fst)) s₁ := S₁.outof hl
      have key : SG M A fin mid (fun B => RV M.C B v u.1) (u.2 :: rem.map Prod.snd) ((do
        assign target env v
        let v ← eval elt env
        PySem.standAt elt.pos
        let _ ← yieldValue v
        again (.compLoop (gxp elt target iter scope pos) 0 it acc env) : Sem Fin).wrap .pure (fun e => (leaving env e).bind fun _ => .raise e) id id) (.compLoop (gxp elt target iter scope pos) 0 it acc env) [] (cs' ++ J (rem.map Prod.fst)) := by
        rw [Sem.bind_eq_wrap', Sem.wrap_wrap]
        refine SG.wrap hl ho (fun _ _ hle r => r.mono hle) (Tr.post ((hturn u rem cs' inv _ hl.fit (hl.on hf)).it v) fun _ c' ⟨ho', hb⟩ r => ?_)
        refine SG.weak (pre := pT) ?_ fun _ _ => trivial
        rw [Sem.bind_eq_wrap', Sem.wrap_wrap]
        refine SG.wrap hl ho' mono_T (Tr.post hb.it fun y c'' ⟨hy', c3, hv3, inv3⟩ r => ?_)
        subst hy'
        rw [Sem.bind_eq_wrap', Sem.wrap_wrap]
        refine SG.stand ?_
        rw [Sem.bind_eq_wrap', Sem.wrap_wrap]
        refine ⟨fun B s hs hp => ?_⟩
        obtain ⟨B', hs₂, F⟩ := (hv3.frame (J (rem.map Prod.fst))) A B s hs
        have : SG M A fin mid (fun B => RV M.C B r u.2) (u.2 :: rem.map Prod.snd) (.yield r false _ _) (.compLoop (gxp elt target iter scope pos) 0 it acc env) [] (c3 ++ J (rem.map Prod.fst)) :=
          SG.yield (l := []) (k := fun x => (match x with | .send x => (.pure x : Sem Value) | .throw e => raiseThrown e).wrap (fun _ => (again (.compLoop (gxp elt target iter scope pos) 0 it acc env) : Sem Fin).wrap .pure (fun e => (leaving env e).bind fun _ => .raise e) id id) (fun e => (leaving env e).bind fun _ => .raise e) id id) hl (fun B hp => hp) (hmid _ _ inv3) (SG.again_ rfl (ih c3 inv3))
        exact (this.it B' s hs₂ (hp.2.mono F.mono)).mono fun e s' => SGn.step F
      exact (key.it B₁ s₁ S₂ rb).mono fun e s' => SGn.step F₁
    · subst hv
      show SegX _ _ _ (Sem.wrap .pure _ id id (letOwnedTupleGo target it v >>= _)) _ _ _
      rw [Sem.bind_eq_wrap', Sem.wrap_wrap]
      refine sx_wrap (wpAny_mono hw (fun _ s₂ h => ?_) fun _ _ q => q.elim)
      simp only [← hy] at h
      simp only [List.forIn_nil, pure_bind, if_true, bind_assoc]
      exact h
end
end Mine

end
section
open PySem PySem.W PySem.W.X PyProof.Rows
set_option Elab.async false
set_option maxRecDepth 100000
set_option linter.unusedVariables false
set_option linter.unusedSimpArgs false
namespace Mine
/-- the table of a def's own codes -/
abbrev tabP : Obj → Prop := fun o => ∃ ps, o = ({ cls := .none, data := .fields ps } : Obj) ∧ TriplesOk ps.toList
section
variable {M : Md} {A : Around} {fin : Cells} {mid : Cells → Prop} {cs cs' : Cells} {B B' : FH} {s s' : Shared} {rem ys ys' : List V} {env : Env} {L : Addr} {n : Nat} {c : Code} {fs : List Frame} {pre : FH → Prop} {P P' : Cells → Prop} {X : Value → Cells → Prop} {PV : V → Cells → Prop}
/-- any's own loop over a generator -/
theorem any_loop {G : Addr} {og : Obj} {g : Nat} (fit : Fit (n + 1) A) (lim : ∀ h : Heap, (∀ a o, M.S a = some o → h.get? a = some o) → h.NoLimit) (hgo : GenO og g) (hG : (G, MO.obj og) ∈ cs) (hmid : ∀ c, mid c → View M c fin) :
    ∀ (rem : List Bool) (gc : Cells) (gs : GenState) (B : FH) (s : Shared), St M.C M.S A B (gc ++ cs) s → s.gens[g]? = some gs → GenIs M A.in1.in1 fin mid gs (rem.map .bool) gc →
      ∀ R : Result → Shared → Prop, (∀ B' s', St M.C M.S A B' (fin ++ cs) s' → FutG g B (gc ++ cs) s B' (fin ++ cs) s' → R (.ok (.ret (.bool (rem.any id)))) s') → codeAny (model M.prog M.w) A (.builtin "any.loop" ⟨[.ref G], []⟩) R s := by
  have hd : A.in1.handled = none := fit.hd
  have room : A.in1.depth < recursionLimit := fit.room
  intro rem
  induction rem with
  | nil =>
    intro gc gs B s hs hgs hgi R hR
    refine codeAny_builtin F.entry_any_loop ?_
    rw [Around.under_plainId F.plain_any_loop _]
    show wpAny _ A.in1 (pyNext (.ref G) >>= _) _ _ s
    have hGo : s.heap.get? G = some og := hs.own (G, .obj og) (List.mem_append_right _ hG)
    refine wpAny_bind (gen_wake (hs.around (A' := A.in1) rfl) hd (lim _ hs.keepS) room (hgo.is hGo) hgs hgi (fun v B₁ s₁ gc' gs' u r hr _ _ _ _ _ _ => by cases hr) (fun B₁ s₁ _ S₁ F₁ => ?_))
    exact wpAny_bind (wpAny_rule (wpAny_pure (hR B₁ s₁ (S₁.around rfl) F₁)))
  | cons b rem ih =>
    intro gc gs B s hs hgs hgi R hR
    refine codeAny_builtin F.entry_any_loop ?_
    rw [Around.under_plainId F.plain_any_loop _]
    show wpAny _ A.in1 (pyNext (.ref G) >>= _) _ _ s
    have hGo : s.heap.get? G = some og := hs.own (G, .obj og) (List.mem_append_right _ hG)
    refine wpAny_bind (gen_wake (hs.around (A' := A.in1) rfl) hd (lim _ hs.keepS) room (hgo.is hGo) hgs hgi (fun v B₁ s₁ gc' gs' u r hr S₁ F₁ rv hgs₁ hgi₁ hm => ?_) (fun B₁ s₁ hr _ _ => by cases hr))
    rw [List.map_cons] at hr
    obtain ⟨rfl, rfl⟩ := List.cons.inj hr
    cases rv
    refine wpAny_bind (wpAny_holding (wpAny_truthy_bool ?_))
    refine wpAny_bind (wpAny_letGo ?_)
    cases b with
    | false =>
      simp only [Bool.false_eq_true, if_false]
      refine wpAny_pure ⟨plainId_quiet F.plain_any_loop _, ih gc' gs' B₁ s₁ (S₁.around rfl) hgs₁ hgi₁ R fun B' s' S' F' => ?_⟩
      have := hR B' s' S' (F₁.trans F')
      simpa using this
    | true =>
      simp only [if_true]
      refine wpAny_bind (wpAny_rule (wpAny_pure ?_))
      obtain ⟨B₂, S₂, F₂⟩ := ((hmid _ hm).frame cs) A B₁ s₁ (S₁.around rfl)
      have := hR B₂ s₁ S₂ (F₁.trans F₂.toG)
      simpa using this
/-- a generator expression begins -/
theorem sg_gstart {elt target iter : PySem.Expr} {scope : Scope} {pos : Pos} {I : Addr} {acc : Value} {x : V} {i : Nat} (fit : Fit (n + 1) A) (ho : Own env L cs) (hm : (I, MO.it x i) ∈ cs)
    (h : SG M A fin mid pT rem (denote table (.compLoop (gxp elt target iter scope pos) 0 (.ref I) acc env)) (.compLoop (gxp elt target iter scope pos) 0 (.ref I) acc env) [] cs) :
    SG M A fin mid pT rem (denote table (.compStart (gxp elt target iter scope pos) 0 (.ref I) acc env)) (.compStart (gxp elt target iter scope pos) 0 (.ref I) acc env) [] cs := by
  show SG M A fin mid pT rem ((compStart (gxp elt target iter scope pos) 0 (.ref I) acc env).onRaise (leaving env)) _ [] _
  rw [Sem.onRaise_eq_wrap]
  refine ⟨fun B s hs hp => ?_⟩
  have key : SG M A fin mid pT rem (.pure (.again (.compLoop (gxp elt target iter scope pos) 0 (.ref I) acc env))) (.compStart (gxp elt target iter scope pos) 0 (.ref I) acc env) [] cs := SG.again_ rfl h
  obtain ⟨l, rl, hit⟩ := hs.own (I, .it x i) hm
  refine sx_wrap ?_
  unfold compStart
  show wpAny _ _ (ask >>= _) _ _ s
  refine wpAny_bind (wpAny_askSetting (wpAny_ite ?_))
  split
  · first
      | exact wpAny_bind (wpAny_pure (wpAny_pure (key.it B s hs trivial)))
      | exact wpAny_pure (key.it B s hs trivial)
  · have h2 : wpAny (model M.prog M.w) (A.over (.compStart (gxp elt target iter scope pos) 0 (.ref I) acc env) []) (pyIter (.ref I)) (fun it' s' => SegX (model M.prog M.w) A (.compStart (gxp elt target iter scope pos) 0 (.ref I) acc env) (.pure (.again (.compLoop (gxp elt target iter scope pos) 0 it' acc env))) [] s' (SGn M A fin mid rem B cs s)) (fun _ _ => False) s :=
      wpAny_pyIter_listiter ⟨_, hit, rfl, rfl⟩ (key.it B s hs trivial)
    first
      | exact wpAny_bind (wpAny_rule (wpAny_bind (wpAny_standAt (wpAny_bind (wpAny_mono h2 (fun it' s' h' => wpAny_pure h') fun _ _ x => x.elim)))))
      | (refine wpAny_bind (wpAny_rule ?_); show wpAny _ _ (PySem.standAt iter.pos >>= _) _ _ s; exact wpAny_bind (wpAny_standAt (wpAny_bind (wpAny_mono h2 (fun it' s' h' => wpAny_pure h') fun _ _ x => x.elim))))
theorem ev_neg {i : Int} {k : Nat} {p pos : Pos} (h : PV (.int (-i)) cs) : EV M A env (.UnaryOp .USub (.Constant (.int i) k p) pos) cs PV X := ⟨fun B s hs _ =>
  UnaryOp_ (wpAny_Constant_int (neg_int (.tok hs (.int _ _) h)))⟩
theorem seq_last (l : List V) (x : V) : seqIndex? (-1) (l ++ [x]).length = some l.length ∧ (l ++ [x])[l.length]? = some x := by
  refine ⟨?_, by simp⟩
  rw [seqIndex_neg1 (by simp)]
  simp
end
end Mine

end
section
open PySem PySem.W PySem.W.X PyProof.Rows
set_option Elab.async false
set_option maxRecDepth 100000
set_option linter.unusedVariables false
set_option linter.unusedSimpArgs false
namespace Mine
section
variable {M : Md} {A : Around} {cs cs' r0 : Cells} {B B' : FH} {s s' : Shared} {env : Env} {n : Nat} {X : Value → Cells → Prop} {PV : V → Cells → Prop}
theorem isCode_of {h : Heap} {c P : Addr} (C : CodeHd h c P) {o : Obj} (e : h.get? P = some o) (t : tabP o) : ∃ ps, h.IsCode c P ps ∧ h.TableAt c P ps := by
  obtain ⟨o', vs, file, tf, flags, tg, inF, text, tt, f1, f2, f3, f4, f5, f6, f7, f8, f9, f10⟩ := C
  obtain ⟨ps, rfl, ht⟩ := t
  exact ⟨ps, ⟨o', vs, file, tf, flags, tg, inF, text, tt, _, f1, f3, f5, f6, f7, f8, f9, e, rfl, ht, f10⟩, ⟨o', vs, f1, f2, f3, f4⟩, e⟩
theorem genexprCode_tab {M : Model} {A : Around} {E : Value → Shared → Prop} {s : Shared} {env : Env} {c P : Addr} {ps : Array Value} {pos : Pos} {qualname : Str} {scope : Scope} {Q : Value → Shared → Prop} (hc : env.code = .ref c) (hok : s.heap.IsCode c P ps) (htab : s.heap.TableAt c P ps)
    (hQ : ∀ code h' tk ps', Heap.ExtBut P s.heap h' → h'.IsCode c P ps' → h'.TableAt c P ps' → Q code { s with heap := h', toks := tk }) : wpAny M A (genexprCode env pos qualname scope) Q E s := by
  cases hnf : codeAmong pos ps.toList with
  | some cv => exact wpAny_genexprCode_hit hc hok hnf (hQ cv s.heap s.toks ps (Heap.ExtBut.refl _ _) hok htab)
  | none => exact wpAny_genexprCodeX hc hok htab hnf fun c' h' tk hx _ _ hcode _ htab' _ => hQ _ _ _ _ hx hcode htab'
/-- any(elt for target in a list) -/
theorem ev_any {α : Type} (l : List α) (f : α → V) (b : α → Bool) {func elt target iter : PySem.Expr} {scope : Scope} {cl : List (Str × Addr)} {posG pos : Pos} {Pt ct : Addr} {x0 : V} {mg mb : Str → Option Value} (TO : TagsOk M) (G : Gl M.S mg mb) (fit : Fit (n + 4) A)
    (hpt : Pick (Pt, .p tabP) cs r0) (CH : ∀ h : Heap, (∀ a o, M.S a = some o → h.get? a = some o) → CodeHd h ct Pt) (BA : ∀ h : Heap, (∀ a o, M.S a = some o → h.get? a = some o) → h.BuiltinsAt mg Pt)
    (hclos : closureFor scope env = pure cl)
    (hfunc : EV M A env func cs (fun x c => x = .bi "any" ∧ c = cs) X)
    (hiter : EV M A env iter cs (fun x c => x = x0 ∧ c = cs ∧ Src cs x0 (l.map f)) X)
    (hturn : ∀ C code u I A', u ∈ l → C ∉ cs.ad → Fit n A' → On A' (genEnv scope cl C code builtinsNs env) → AS M A' (genEnv scope cl C code builtinsNs env) target (f u) ((C, .frame [(".0", .ref I)]) :: cs) (fun c' => Own (genEnv scope cl C code builtinsNs env) C c' ∧
      EV M A' (genEnv scope cl C code builtinsNs env) elt c' (fun y c'' => y = .bool (b u) ∧ View M c'' ((C, .frame [(".0", .ref I)]) :: cs)) NoX) NoX)
    (hend : PV (.bool (l.any b)) cs)
    (hcode : env.code = .ref ct := by rfl) (hge : env.globals = mainGlobals := by rfl)
    (hco : scope.isCoroutine = false := by kernel_rfl) (hcell : ∀ y ∈ scope.names, y.2 ≠ .cell := by decide +kernel) (h0 : scope.names.lookup (".0" : Str) = some NameKind.local := by kernel_rfl) (hkind : scope.kind = .function := by kernel_rfl)
    (hs : ∀ x, genFold iter env x = pure x := by intro _; rfl)
    (hplain : (backTo pos (starEach [.GeneratorExp elt [⟨target, iter, [], 0⟩] scope posG] env)).any (·.1) = false := by rfl) (he : starEach [.GeneratorExp elt [⟨target, iter, [], 0⟩] scope posG] env = (false, eval (.GeneratorExp elt [⟨target, iter, [], 0⟩] scope posG) env) :: starEach [] env := by rfl)
    (hc : eval (.Call func [.GeneratorExp elt [⟨target, iter, [], 0⟩] scope posG] [] pos) env = (do callWith pos (← eval func env) [] (backTo pos (starEach [.GeneratorExp elt [⟨target, iter, [], 0⟩] scope posG] env)) (backToKw pos (keywordEach [] env))) := by rfl) :
    EV M A env (.Call func [.GeneratorExp elt [⟨target, iter, [], 0⟩] scope posG] [] pos) cs PV X := ⟨fun B s hst hp =>
  Call_ (wpAny_mono (hfunc.it B s hst trivial) (fun v s₁ ⟨B₁, cs₁, x, S₁, F₁, R₁, hx, hcs⟩ => by
    subst hx hcs
    cases R₁
    refine callWith_of (P := fun h => ∃ B', pT B' ∧ M.S.le B' ∧ ∀ a o, B' a = some o → h.get? a = some o) (by rw [hplain]; rfl) (fun h ⟨B', hp', hS', hk'⟩ => keep_bi "any" B' h hp' hS' hk') ?_
    have key : wpAny (model M.prog M.w) A (spliced (backTo pos (starEach [.GeneratorExp elt [⟨target, iter, [], 0⟩] scope posG] env))) (fun vs s₁ => (∃ B', pT B' ∧ M.S.le B' ∧ ∀ a o, B' a = some o → s₁.heap.get? a = some o) ∧ wpAny (model M.prog M.w) A (call (.builtin "any") ([] ++ vs) []) (Po M.C M.S (RV M.C) A B cs₁ s PV) (PoX M.C M.S A B cs₁ s X) s₁) (PoX M.C M.S A B cs₁ s X) s₁ := by
      rw [he]
      refine Calls.spliced_cons ?_
      refine wpAny_GeneratorExp_make hco hclos hcell h0 hkind fit.room ?_ hs
      refine wpAny_mono (hiter.it B₁ s₁ S₁ trivial) (fun xv s₂ ⟨B₂, c₂, y, S₂, F₂, R₂, e1, e2, hsrc⟩ => ?_) fun _ _ => PoX.step F₁
      subst e1 e2
      obtain ⟨ll, kk, d, vs, nn, rfl, e, rs⟩ := src_obj S₂ hsrc R₂
      refine iter_seq TO S₂.keepS e ?_
      have hit0 := Heap.get?_push_size s₂.heap (o := { cls := .type "list_iterator", data := .fields #[.ref ll, .int (0 : Nat) 0] }) rfl
      obtain ⟨hnI, S₃, F₃⟩ := S₂.alloc (o := { cls := .type "list_iterator", data := .fields #[.ref ll, .int (0 : Nat) 0] }) (m := .it y 0) rfl ⟨ll, R₂, hit0⟩ trivial s₂.toks
      generalize hI : s₂.heap.objs.size = I at *
      have pm : (ins (I, MO.it y 0) c₂).Perm ((Pt, .p tabP) :: (I, .it y 0) :: r0) := (ins_perm _ _).trans ((hpt.perm.cons _).trans (.swap ..))
      have S₄ := S₃.perm pm
      have F₄ : Fut B c₂ s B₂ ((Pt, .p tabP) :: (I, .it y 0) :: r0) { s₂ with heap := s₂.heap.push { cls := .type "list_iterator", data := .fields #[.ref ll, .int (0 : Nat) 0] } } :=
        (F₁.trans F₂).trans (F₃.perm (fun _ => Iff.rfl) fun a ha => ((pm.map Prod.fst).mem_iff.mpr ha))
      refine ⟨G.lim _ S₄.keepS, ?_⟩
      obtain ⟨oP, hoP, htP, hnd⟩ := S₄.own (Pt, .p tabP) (.head _)
      obtain ⟨ps, hic, htb⟩ := isCode_of (CH _ S₄.keepS) hoP htP
      refine genexprCode_tab hcode hic htb fun code h' tk ps' hx hic' htb' => ?_
      obtain ⟨o1, vs1, file1, tf1, flags1, tg1, inF1, text1, tt1, op1, g1, g2, g3, g4, g5, g6, g7, g8, g9, g10, g11⟩ := hic'
      obtain ⟨S₅, F₅⟩ := S₄.turnExt (o' := .p tabP) hx ⟨_, htb'.2, ⟨ps', rfl, g10⟩, fun ⟨_, _, q⟩ => by cases q⟩ trivial (fun ob q => by rw [hoP] at q; cases q; exact hnd) tk
      have F₅' := F₄.trans F₅
      obtain ⟨bm, o, h1, h2, h3, h4, h5, h6, h7, h8⟩ := BA _ S₅.keepS
      rw [hge]
      refine wpAny_builtinsFor (G.g _ S₅.keepS) h1 h2 h5 h6 h7 h8 ?_
      intro h'' hns hsb
      -- the new frame, the generator
      generalize hss : ({ s₂ with heap := h', toks := tk } : Shared) = s₃ at *
      have S₅' : St M.C M.S A B₂ ((Pt, .p tabP) :: (I, .it y 0) :: r0) s₃ := hss ▸ S₅
      have F₅'' : Fut B c₂ s B₂ ((Pt, .p tabP) :: (I, .it y 0) :: r0) s₃ := hss ▸ F₅'
      clear S₅ F₅'
      have hsz : s₃.heap.objs.size ∉ Cells.ad ((Pt, MO.p tabP) :: (I, .it y 0) :: r0) := fun h => S₅'.ne_size h rfl
      have up : ∀ b ob, s₃.heap.get? b = some ob → h''.get? b = some ob := fun b ob e => (hsb.2 b (Nat.ne_of_lt (Heap.lt_size e))).trans (Heap.get?_push_of_some _ e)
      obtain ⟨S₆, F₆⟩ := S₅'.grow up s₃.toks
      obtain ⟨S₇, F₇⟩ := S₆.adopt (e := s₃.heap.objs.size) (m := .frame [(".0", .ref I)]) F₆ (S₅'.B_none (size_none _)) (size_none _) hsz ⟨by simp, _, hns, fun p hp => by
        simp only [List.mem_cons, List.not_mem_nil, or_false] at hp; subst hp; exact ⟨.ref I, by simp, .ref I⟩⟩ trivial
      generalize hC : s₃.heap.objs.size = C at *
      have F₇' := F₅''.trans F₇
      obtain ⟨hnG, S₈, F₈⟩ := S₇.alloc (o := { cls := .type "generator", data := .fields #[.int s₃.gens.size 0, .str "<genexpr>" (s₃.toks + 1), .str (env.qual ++ "<genexpr>") (s₃.toks + 1 + 1)] }) (m := .obj _) rfl (Heap.get?_push_size _ rfl) isD_no_fields (s₃.toks + 1 + 1 + 1)
      have S₉ := St.newGen (gs := .fresh (.compStart (.GeneratorExp elt [⟨target, iter, [], 0⟩] scope posG) 0 (.ref I) .none (genEnv scope cl C code builtinsNs env))) S₈ rfl
      have F₉ := Fut.newGen (gs := .fresh (.compStart (.GeneratorExp elt [⟨target, iter, [], 0⟩] scope posG) 0 (.ref I) .none (genEnv scope cl C code builtinsNs env))) (F₇'.trans F₈)
      generalize hGa : h''.objs.size = Ga at *
      have hgo : GenO ({ cls := .type "generator", data := .fields #[.int s₃.gens.size 0, .str "<genexpr>" (s₃.toks + 1), .str (env.qual ++ "<genexpr>") (s₃.toks + 1 + 1)] } : Obj) s₃.gens.size := ⟨_, _, rfl, rfl, rfl⟩
      generalize hog : ({ cls := .type "generator", data := .fields #[.int s₃.gens.size 0, .str "<genexpr>" (s₃.toks + 1), .str (env.qual ++ "<genexpr>") (s₃.toks + 1 + 1)] } : Obj) = og at *
      have hg0 : s.gens.size ≤ s₃.gens.size := F₅''.gsz
      have pmG : (ins (Ga, MO.obj og) ((C, MO.frame [(".0", .ref I)]) :: (Pt, .p tabP) :: (I, .it y 0) :: r0)).Perm ((((C, .frame [(".0", .ref I)]) :: c₂) ++ [(I, .it y 0)]) ++ [(Ga, .obj og)]) := by
        refine (ins_perm _ _).trans ?_
        refine List.Perm.trans ?_ (List.perm_append_singleton _ _).symm
        refine .cons _ ?_
        rw [List.cons_append]
        refine .cons _ ?_
        refine List.Perm.trans ?_ (List.perm_append_singleton _ _).symm
        refine (List.Perm.swap ..).trans (.cons _ hpt.perm.symm)
      have S10 := S₉.perm pmG
      have F10 := F₉.perm (cs₁' := (((C, .frame [(".0", .ref I)]) :: c₂) ++ [(I, .it y 0)]) ++ [(Ga, .obj og)]) (fun _ => Iff.rfl) fun a ha => ((pmG.map Prod.fst).mem_iff.mpr ha)
      refine Calls.spliced_nil ⟨⟨B₂, trivial, S10.stat, S10.keep⟩, ?_⟩
      show wpAny _ _ (call (.builtin "any") [.ref Ga] []) _ _ _
      have hGo := S10.own (Ga, .obj og) (List.mem_append_right _ (.head _))
      refine call_function_tree F.kind_any F.plain_any F.entry_any (F.args_any1 _) ?_
      unfold Builtin.«any»
      refine wpAny_bind (m := oneArg "any" _) (wpAny_pure ?_)
      refine wpAny_bind (wpAny_pyIter_gen (hgo.is hGo) ?_)
      refine wpAny_pure ⟨plainId_quiet F.plain_any_loop _, ?_⟩
      have hbs : (l.map b).any id = l.any b := by simp [Function.comp_def]
      have hCn : C ∉ c₂.ad := fun hm => by
        have h1 := S₇.nd
        rw [Cells.ad, List.map_cons, List.nodup_cons] at h1
        refine h1.1 ?_
        have h2 : C ∈ Cells.ad ((Pt, MO.p tabP) :: r0) := (hpt.perm.map Prod.fst).mem_iff.mp hm
        rcases List.mem_cons.mp h2 with q | q
        · rw [q]; exact .head _
        · exact .tail _ (.tail _ q)
      have ownC : ∀ loc r, Own (genEnv scope cl C code builtinsNs env) C ((C, .frame loc) :: r) := fun loc r => ⟨rfl, by show scope.kind ≠ _; rw [hkind]; decide, loc, .head _⟩
      have e0 : (l.map f).length - (l.map f).length = 0 := Nat.sub_self _
      have hsg : SG M A.in1.in1 c₂ (fun c => View M c c₂) pT ((l.map b).map .bool) (denote table (.compStart (gxp elt target iter scope posG) 0 (.ref I) .none (genEnv scope cl C code builtinsNs env))) (.compStart (gxp elt target iter scope posG) 0 (.ref I) .none (genEnv scope cl C code builtinsNs env)) [] (((C, .frame [(".0", .ref I)]) :: c₂) ++ [(I, .it y 0)]) := by
        have fit2 : Fit (n + 1) A.in1.in1 := ⟨by have := fit.dep; show A.depth + 3 * (n + 1) ≤ 450; omega, by have := fit.un; show A.units + 1 + 1 + 40 * (n + 1) ≤ 1800; omega, fit.hd⟩
        refine sg_gstart (L := C) fit2 (ownC _ _) (x := y) (i := 0) (List.mem_append_right _ (.head _)) ?_
        have key2 := sg_gexp (M := M) (A := A.in1.in1) (fin := c₂) (mid := fun c => View M c c₂) (elt := elt) (target := target) (iter := iter) (scope := scope) (pos := posG) (it := .ref I) (acc := .none) (env := genEnv scope cl C code builtinsNs env) (L := C) (n := n)
          (J := fun rem => [(I, MO.it y ((l.map f).length - rem.length))]) fit2 rfl (fun A' hh => walk_it (xs := l.map f) hh) (fun rem cs' => (∃ pre, (l.map fun u => (f u, V.bool (b u))) = pre ++ rem) ∧ cs' = (C, .frame [(".0", .ref I)]) :: c₂)
          (fun B rem cs' ⟨⟨pre, e⟩, ec⟩ => ?_) (fun rem cs' ⟨_, ec⟩ => ec ▸ ownC _ _) (fun rem cs' ⟨_, ec⟩ => ec ▸ View.left.trans View.drop) (fun u rem cs' ⟨⟨pre, e⟩, ec⟩ A' fitA onA => ?_) (fun cs' ⟨_, ec⟩ => ec ▸ View.drop) hco (l.map fun u => (f u, V.bool (b u))) _ ⟨⟨[], rfl⟩, rfl⟩
        · have q1 : (l.map fun u => (f u, V.bool (b u))).map Prod.snd = (l.map b).map .bool := by simp [Function.comp_def]
          have q2 : (l.map fun u => (f u, V.bool (b u))).map Prod.fst = l.map f := by simp [Function.comp_def]
          rw [q1, q2, e0] at key2
          exact key2
        · subst ec
          refine ⟨?_, pre.map Prod.fst, ?_⟩
          · generalize hxs : l.map f = xs at hsrc ⊢
            cases hsrc with
            | lst k => exact .lst k _
            | own a k _ hm => exact .own a k _ (.tail _ hm)
          · rw [← List.map_append, ← e]; simp [Function.comp_def]
        · subst ec
          have hu : ∃ a ∈ l, (f a, V.bool (b a)) = u := by
            have : u ∈ l.map fun u => (f u, V.bool (b u)) := by rw [e]; simp
            obtain ⟨a, ha, q⟩ := List.mem_map.mp this
            exact ⟨a, ha, q⟩
          obtain ⟨a, ha, rfl⟩ := hu
          have h1 := hturn C code a I A' ha hCn fitA onA
          refine ⟨fun v => Tr.mono (h1.it v) (fun _ c' ⟨o', h2⟩ => ⟨o', ⟨Tr.mono h2.it (fun y c'' ⟨e1, hv⟩ => ⟨e1, _, hv, ⟨pre ++ [(f a, V.bool (b a))], by rw [e]; simp⟩, rfl⟩) fun _ _ x => x⟩⟩) fun _ _ x => x⟩
      refine any_loop (n := n) (og := og) (G := Ga) (g := s₃.gens.size) (cs := [(Ga, .obj og)]) (fin := c₂) (mid := fun c => View M c c₂) (fit.le (by omega)) G.lim hgo (.head _) (fun _ h => h) (l.map b) _ (.fresh (.compStart (gxp elt target iter scope posG) 0 (.ref I) .none (genEnv scope cl C code builtinsNs env))) B₂ _ S10 ?_ hsg _ (fun B' s' S' F' => ?_)
      · show (s₃.gens.push _)[s₃.gens.size]? = _
        simp
      · rw [hbs]
        exact ⟨B', c₂, _, S'.left, (F10.thenG hg0 F').perm (fun _ => Iff.rfl) (fun a ha => by rw [Cells.ad, List.map_append]; exact List.mem_append_left _ ha), .bool _, hend⟩
    rw [he] at key ⊢
    exact Calls.evalArgs_plain key) fun _ _ x => x) hc⟩
end
end Mine

end
section
open PySem PySem.W PySem.W.X PyProof.Rows
set_option Elab.async false
set_option maxRecDepth 100000
set_option linter.unusedVariables false
set_option linter.unusedSimpArgs false
namespace Mine
section
variable {M : Md} {A : Around} {fin cs c₂ : Cells} {mid : Cells → Prop} {X : Value → Cells → Prop} {env : Env} {PV : V → Cells → Prop} {n : Nat}
/-- as many items as a generator still gives -/
theorem draw_gen {G : Addr} {og : Obj} {g : Nat} {E : Value → Shared → Prop} (fit : Fit n A) (lim : ∀ h : Heap, (∀ a o, M.S a = some o → h.get? a = some o) → h.NoLimit) (hgo : GenO og g) (hG : (G, MO.obj og) ∈ cs) :
    ∀ (rem : List V) (gc : Cells) (gs : GenState) (B : FH) (s : Shared), St M.C M.S A B (gc ++ cs) s → s.gens[g]? = some gs → GenIs M A.in1 fin mid gs rem gc →
      ∀ Q : List Value → Shared → Prop, (∀ vs gc' gs' B' s', RVs M.C B' vs rem → St M.C M.S A B' (gc' ++ cs) s' → FutG g B (gc ++ cs) s B' (gc' ++ cs) s' → s'.gens[g]? = some gs' → GenIs M A.in1 fin mid gs' [] gc' → Q vs s') →
      wpAny (model M.prog M.w) A (draw (.ref G) rem.length) Q E s := by
  intro rem
  induction rem with
  | nil =>
    intro gc gs B s hs hgs hgi Q hQ
    exact wpAny_pure (hQ [] gc gs B s .nil hs (Fut.refl ..).toG hgs hgi)
  | cons u rem ih =>
    intro gc gs B s hs hgs hgi Q hQ
    have hGo : s.heap.get? G = some og := hs.own (G, .obj og) (List.mem_append_right _ hG)
    show wpAny _ A (pyNext (.ref G) >>= _) Q E s
    refine wpAny_bind (gen_wake hs fit.hd (lim _ hs.keepS) fit.room (hgo.is hGo) hgs hgi (fun v B₁ s₁ gc' gs' u' r hr S₁ F₁ rv hgs₁ hgi₁ hm => ?_) (fun B₁ s₁ hr _ _ => by cases hr))
    obtain ⟨rfl, rfl⟩ := List.cons.inj hr
    refine wpAny_bind (wpAny_holding (ih gc' gs' B₁ s₁ S₁ hgs₁ hgi₁ _ fun vs gc'' gs'' B₂ s₂ rs S₂ F₂ hgs₂ hgi₂ => ?_))
    exact wpAny_pure (hQ _ gc'' gs'' B₂ s₂ (.cons (rv.mono F₂.mono) rs) S₂ (F₁.trans F₂) hgs₂ hgi₂)
/-- a, b = an instance that walks by a generator -/
theorem as_ig {ts : List PySem.Expr} {k : Nat} {pos : Pos} {x : V} {xs : List V} {P : Cells → Prop} (fit : Fit n A) (lim : ∀ h : Heap, (∀ a o, M.S a = some o → h.get? a = some o) → h.NoLimit)
    (ig : IG M A x cs xs c₂ fin) (hni : ∀ B s v, St M.C M.S A B cs s → RV M.C B v x → ∀ (Q : Bool → Shared → Prop) (E : Value → Shared → Prop), Q false s → wpAny (model M.prog M.w) A (notIterableAtAll v) Q E s)
    (hl : (assignEach ts env).length = xs.length) (h : ASs M A env ts xs (fin ++ c₂) P X)
    (hst : (assignEach ts env).findIdx? (·.1) = none := by rfl) : AS M A env (.Tuple ts k pos) x cs P X := ⟨fun v B s hs r => by
  rw [assign_Tuple]
  refine wpAny_bind (wpAny_standAt ?_)
  unfold unpack
  rw [hst, hl]
  refine wpAny_bind (wpAny_holding ?_)
  unfold unpackItems
  refine wpAny_bind (hni B s v hs r _ _ ?_)
  simp only [Bool.false_eq_true, if_false]
  refine wpAny_bind (wpAny_holding (ig.it B s v hs r _ _ fun G og gc gs s₁ S₁ F₁ hgo hgs hgi => ?_))
  have pm : ((G, MO.obj og) :: (gc ++ c₂)).Perm (gc ++ ((G, .obj og) :: c₂)) := List.perm_middle.symm
  have S₂ := S₁.perm pm
  have F₂ := F₁.perm (cs₁' := gc ++ ((G, .obj og) :: c₂)) (fun _ => Iff.rfl) fun a ha => ((pm.map Prod.fst).mem_iff.mpr ha)
  refine wpAny_bind (wpAny_holding (draw_gen fit lim hgo (.head _) xs gc gs B s₁ S₂ hgs hgi _ fun vs gc' gs' B₂ s₂ rs S₃ F₃ hgs' hgi' => ?_))
  rw [if_neg (by rw [rs.length]; omega)]
  have hGo : s₂.heap.get? G = some og := S₃.own (G, .obj og) (List.mem_append_right _ (.head _))
  refine wpAny_bind (wpAny_holding (gen_wake S₃ fit.hd (lim _ S₃.keepS) fit.room (hgo.is hGo) hgs' hgi' (fun v B₁ s₁ gc' gs' u' r hr S₁ F₁ rv hgs₁ hgi₁ hm => by cases hr) (fun B₄ s₄ hr S₄ F₄ => ?_)))
  simp only [Option.isSome_none, Bool.false_eq_true, if_false]
  refine wpAny_pure ?_
  have F₅ := F₂.thenG (Nat.le_refl _) (F₃.trans F₄)
  have pm2 : (fin ++ ((G, MO.obj og) :: c₂)).Perm ((fin ++ c₂) ++ [(G, .obj og)]) := List.perm_middle.trans (List.perm_append_singleton _ _).symm
  have S₆ := (S₄.perm pm2).left
  have F₆ := F₅.perm (cs₁' := fin ++ c₂) (fun _ => Iff.rfl) fun a ha => ((pm2.map Prod.fst).mem_iff.mpr (by rw [List.map_append]; exact List.mem_append_left _ ha))
  exact wpAny_mono (h.it vs B₄ s₄ S₆ (rs.mono F₄.mono)) (fun _ _ => Po.step F₆) fun _ _ => PoX.step F₆⟩
/-- a def of the text's own list class, as a method -/
theorem meth_tags {K : Frag} (KK : KOf M K) (TO : TagsOk M) {xs : List V} {name : Str} {f : Addr} (hf : findIn K (.ref M.C.tags) name = some (some (.ref f))) (ht : typeIn K (.ref f) = some (.type "function")) : MethOk M A cs (.lst .tags xs) name (.ref f) := fun pl B s v hs r Q E hQ => by
  obtain ⟨l, k, d, vs, n, rfl, e, rs, hd⟩ := src_obj' hs (.lst .tags xs) r
  have X0 := KK s.heap hs.keepS
  cases r with | @lst _ a d' vs' n' _ e' hd2 rs' =>
  have e2 := hs.keep _ _ e'
  exact own_method e2 rfl (TO.ga _ hs.keepS) canon_list_getattribute (TO.noga _ hs.keepS) (looks_findIn X0 hf) (looks_typeIn X0 ht) (.inl rfl) (dk_ns hs hd2) (hQ s.toks)
end
end Mine

end
section
open PySem PySem.W PySem.W.X PyProof.Rows
set_option Elab.async false
set_option maxRecDepth 100000
set_option linter.unusedVariables false
set_option linter.unusedSimpArgs false
namespace Mine
section
variable {M : Md} {A : Around} {cs T : Cells} {X : Value → Cells → Prop} {env : Env} {PV : V → Cells → Prop} {PF : Fl → Cells → Prop} {PB : Bool → Cells → Prop}
theorem perm_tailF {α : Type} {ps fr r T : List α} (h : Picks ps fr r) : (fr ++ T).Perm ((ps ++ T) ++ r) := by
  refine (h.perm.append_right T).trans ?_
  rw [List.append_assoc, List.append_assoc]
  exact List.Perm.append_left _ List.perm_append_comm
/-- a contract used: its cells picked out of the front, a common tail -/
theorem CL.useF {f : Value} {xs : List V} {ps fr r : Cells} {P : V → Cells → Prop} {X0 : Value → Cells → Prop} (h : CL M A f xs (ps ++ T) P X0) (hp : Picks ps fr r) (k : ∀ x c0, P x c0 → PV x (r ++ c0)) (kx : ∀ c c0, X0 c c0 → X c (c0 ++ r)) : CL M A f xs (fr ++ T) PV X := ⟨fun vs => by
  have t := (h.it vs).frame (fr := r) (perm_tailF hp)
  refine Tr.viewV (Tr.mono t (fun x c ⟨c0, e, h0⟩ => ?_) fun x c ⟨c0, e, q⟩ => ?_)
  · subst e
    exact ⟨x, _, .of (View.perm List.perm_append_comm), k x c0 h0⟩
  · subst e; exact kx x c0 q⟩
/-- the same, with only one more cell in front -/
theorem CL.use1 {f : Value} {xs : List V} {p : Addr × MO} {P : V → Cells → Prop} {X0 : Value → Cells → Prop} (h : CL M A f xs T P X0) (k : ∀ x c0, P x c0 → PV x (p :: c0)) (kx : ∀ c c0, X0 c c0 → X c (c0 ++ [p])) : CL M A f xs (p :: T) PV X :=
  CL.useF (ps := []) (fr := [p]) (r := [p]) h .nil k kx
theorem Tr.permX {β γ : Type} {R : FH → β → γ → Prop} {pre : FH → Prop} {t : Sem β} {P : γ → Cells → Prop} {X X' : Value → Cells → Prop} (h : Tr M.C M.S M.prog M.w pre R A t cs P X) (k : ∀ c c', X c c' → ∃ c'', c'.Perm c'' ∧ X' c c'') : Tr M.C M.S M.prog M.w pre R A t cs P X' := fun B s hs hp =>
  wpAny_mono (h B s hs hp) (fun _ _ q => q) fun e s' ⟨B', c', c, ex, S, F, fl, hx⟩ => by
    obtain ⟨c'', p, hx'⟩ := k _ _ hx
    exact ⟨B', c'', c, ex, S.perm (p.append_left ex), F.perm (fun _ => Iff.rfl) (fun a ha => (((p.append_left ex).map Prod.fst).mem_iff.mpr ha)), fl, hx'⟩
/-- a contract that may raise; what it raises with stands behind the caller's first cell -/
theorem CL.useXP {f : Value} {xs : List V} {all r0 : Cells} {p : Addr × MO} {P : V → Cells → Prop} {X0 : Value → Cells → Prop} (h : CL M A f xs cs P X0) (hp : Picks cs all (p :: r0)) (k : ∀ x c0, P x c0 → PV x (p :: (c0 ++ r0))) (kx : ∀ c c0, X0 c c0 → X c (p :: (c0 ++ r0))) : CL M A f xs all PV X := ⟨fun vs => by
  have t := (h.it vs).frame (fr := p :: r0) hp.perm
  refine Tr.permX (Tr.viewV (Tr.mono t (fun x c ⟨c0, e, h0⟩ => ?_) fun x c q => q)) fun c c' ⟨c0, e, q⟩ => ?_
  · subst e
    exact ⟨x, _, .of (View.perm List.perm_middle), k x c0 h0⟩
  · subst e; exact ⟨_, List.perm_middle, kx c c0 q⟩⟩
/-- a block, with cells that it does not see -/
theorem EXs.framed {b : List Stmt} {all fr : Cells} {PF PF' : Fl → Cells → Prop} {X X' : Value → Cells → Prop} (hp : all.Perm (cs ++ fr)) (h : EXs M A env b cs PF X) (k : ∀ fl c, PF fl c → PF' fl (c ++ fr)) (kx : ∀ x c, X x c → X' x (c ++ fr)) : EXs M A env b all PF' X' := ⟨
  (Tr.frame h.it hp).mono (fun fl c ⟨c0, e, q⟩ => e ▸ k fl c0 q) fun x c ⟨c0, e, q⟩ => e ▸ kx x c0 q⟩
end
end Mine

end
section
open PySem PySem.W PySem.W.X PyProof.Rows
set_option Elab.async false
set_option maxRecDepth 100000
set_option linter.unusedVariables false
set_option linter.unusedSimpArgs false
namespace Mine
section
variable {M : Md} {A : Around} {cs T : Cells} {X : Value → Cells → Prop} {env : Env} {PV : V → Cells → Prop} {PF : Fl → Cells → Prop} {PB : Bool → Cells → Prop}
/-- a built-in list as a test -/
theorem tr_truthy_lst {xs : List V} {b : Bool} (hb : (!xs.isEmpty) = b) (hl : xs.length ≤ 10000) (h : PB b cs) : TY M A (.lst .list xs) cs PB X := ⟨fun v B s hs r => by
  cases r with | @lst _ a d vs n _ e hd rs =>
  cases hd
  have hL : s.heap.IsList a vs.toArray := ⟨_, hs.keep _ _ e, rfl, n, rfl⟩
  have hlen := rs.length
  have hbb : (!vs.toArray.isEmpty) = b := by
    rw [← hb]
    cases vs <;> cases xs <;> simp_all
  refine wpAny_truthy_list hL (by rw [List.size_toArray, hlen]; omega) ?_
  rw [hbb]
  exact ⟨B, cs, b, hs.toks _, (Fut.refl ..).toks _, rfl, h⟩⟩
end
end Mine

end
section
open PySem PySem.W PySem.W.X PyProof.Rows
set_option Elab.async false
set_option maxRecDepth 100000
set_option linter.unusedVariables false
namespace Mine
inductive Val where
  | s (x : Str)
  | n (k : Nat)
  deriving DecidableEq
abbrev Item := Int × Val
abbrev Row := Int × Str
def Val.v : Val → V
  | .s x => .str x
  | .n k => .int k
def itemV (i : Item) : V := .tup [.int i.1, i.2.v]
def rowI (r : Row) : Item := (r.1, .s r.2)
def rowV (r : Row) : V := .tup [.int r.1, .str r.2]
theorem rowV_item (r : Row) : rowV r = itemV (rowI r) := rfl
def rowsV (l : List Row) : V := .lst .list (l.map rowV)
def itemsV (l : List Item) : V := .lst .list (l.map itemV)
def listsV (l : List (List Item)) : List V := l.map itemsV
def menu : List Row := [(8, "L1"), (40, "2.5"), (102, "{APP"), (102, "}"), (102, "APP}"), (102, "{B"), (102, "other"), (100, "AcDbEntity"), (100, "AcDbLine"), (101, "Embedded Object"), (101, "plain"), (1001, "APP"), (1001, "B"), (1000, "text"), (70, "1"), (102, "B}")]
def base : List Row := [(0, "LINE"), (5, "FF")]
abbrev s1 (x : Str) : Str := Txt.slice x none (some 1)
abbrev tl (x : Str) : Str := Txt.slice x (some 1) none
/-- the plain reading -/
structure PS where
  st : Nat
  cl : List (List Item)
  da : List (List Item)
  ex : List (List Item)
  inn : List (List Item)
  cur : List Item
  op : Option (Str × List Item)
def PS.init : PS := ⟨0, [], [], [], [], [], none⟩
def opens (r : Row) : Bool := r.1 == 102 && s1 r.2 == "{"
def closes (x : Str) (r : Row) : Bool := r.1 == 102 && (r.2 == "}" || r.2 == tl x ++ "}")
/-- what was read last put away, another begun -/
def PS.turn (p : PS) (st' : Nat) (r : Row) : PS :=
  { p with st := st', cl := if p.st = 0 then p.cl ++ [p.cur] else p.cl, ex := if p.st = 1 then p.ex ++ [p.cur] else p.ex, inn := if p.st = 2 then p.inn ++ [p.cur] else p.inn, cur := [rowI r] }
def PS.step (p : PS) (r : Row) : PS :=
  match p.op with
  | some (x, blk) => if closes x r then { p with da := p.da ++ [blk ++ [rowI r]], cur := p.cur ++ [(102, .n p.da.length)], op := none } else { p with op := some (x, blk ++ [rowI r]) }
  | none =>
    if p.st = 0 ∧ p.cl = [] ∧ opens r = true then { p with op := some (r.2, [rowI r]) }
    else if r.1 = 1001 then p.turn 1 r
    else if p.st ≠ 1 ∧ r.1 = 101 ∧ r.2 = "Embedded Object" then p.turn 2 r
    else if p.st = 0 ∧ r.1 = 100 then p.turn 0 r
    else { p with cur := p.cur ++ [rowI r] }
def PS.run (rows : List Row) : PS := rows.foldl PS.step PS.init
theorem run_take {rows : List Row} {i : Nat} {r : Row} (h : rows[i]? = some r) : PS.run (rows.take (i + 1)) = (PS.run (rows.take i)).step r := by
  unfold PS.run
  rw [List.take_add_one, h]
  simp
def PS.classes (p : PS) : List (List Item) := if p.st = 0 then p.cl ++ [p.cur] else p.cl
def PS.extra (p : PS) : List (List Item) := if p.st = 1 then p.ex ++ [p.cur] else p.ex
def PS.inner (p : PS) : List (List Item) := if p.st = 2 then p.inn ++ [p.cur] else p.inn
/-- x opens with a brace, as startswith says it -/
abbrev sw (x : Str) : Bool := decide (0 + ("{" : Str).length ≤ x.length) && Builtin.Str.subAt x "{" 0
def rowOk (r : Row) : Bool := (sw r.2 == (s1 r.2 == "{")) && PyData.strOk r.2 && decide (r.2.length ≤ 100) && PyData.strOk (tl r.2 ++ "}") && decide ((tl r.2).length ≤ 100) && decide (0 ≤ r.1 ∧ r.1 < 2000)
theorem menu_ok : ∀ r ∈ base ++ menu, rowOk r = true := by decide +kernel
structure RowOk (r : Row) : Prop where
  ok : PyData.strOk r.2 = true
  len : r.2.length ≤ 100
  okt : PyData.strOk (tl r.2 ++ "}") = true
  lent : (tl r.2).length ≤ 100
  lo : 0 ≤ r.1
  hi : r.1 < 2000
  sw : sw r.2 = (s1 r.2 == "{")
theorem RowOk.of {r : Row} (h : rowOk r = true) : RowOk r := by
  simp only [rowOk, Bool.and_eq_true, decide_eq_true_eq] at h
  obtain ⟨⟨⟨⟨⟨g, a⟩, b⟩, c⟩, d⟩, e, f⟩ := h
  exact ⟨a, b, c, d, e, f, by simpa using g⟩
/-- how much the reading may hold -/
structure PS.Bd (p : PS) (i : Nat) : Prop where
  cl : p.cl.length ≤ i
  da : p.da.length ≤ i
  ex : p.ex.length ≤ i
  inn : p.inn.length ≤ i
  cur : p.cur.length ≤ i
  op : ∀ x blk, p.op = some (x, blk) → blk.length ≤ i
  st : p.st ≤ 2
theorem PS.step_bd {p : PS} {i : Nat} (h : p.Bd i) (r : Row) : (p.step r).Bd (i + 1) := by
  obtain ⟨a, b, c, d, e, f, g⟩ := h
  obtain ⟨st, cl, da, ex, inn, cur, op⟩ := p
  dsimp only at a b c d e f g
  have tn : ∀ st', st' ≤ 2 → (PS.turn ⟨st, cl, da, ex, inn, cur, none⟩ st' r).Bd (i + 1) := fun st' hs => by
    unfold PS.turn
    refine ⟨?_, ?_, ?_, ?_, ?_, ?_, ?_⟩ <;> dsimp only
    · split <;> (try rw [List.length_append, List.length_singleton]) <;> omega
    · omega
    · split <;> (try rw [List.length_append, List.length_singleton]) <;> omega
    · split <;> (try rw [List.length_append, List.length_singleton]) <;> omega
    · simp
    · intro x blk q; cases q
    · exact hs
  unfold PS.step
  cases op with
  | some xb =>
    obtain ⟨x, blk⟩ := xb
    have f' := f x blk rfl
    dsimp only
    split
    · exact ⟨by dsimp only; omega, by simp; omega, by dsimp only; omega, by dsimp only; omega, by simp; omega, (fun _ _ q => by cases q), g⟩
    · exact ⟨by dsimp only; omega, by dsimp only; omega, by dsimp only; omega, by dsimp only; omega, by dsimp only; omega, (fun _ _ q => by cases q; simp; omega), g⟩
  | none =>
    dsimp only
    split
    · exact ⟨by dsimp only; omega, by dsimp only; omega, by dsimp only; omega, by dsimp only; omega, by dsimp only; omega, (fun _ _ q => by cases q; simp), g⟩
    · split
      · exact tn 1 (by decide)
      · split
        · exact tn 2 (by decide)
        · split
          · exact tn 0 (by decide)
          · exact ⟨by dsimp only; omega, by dsimp only; omega, by dsimp only; omega, by dsimp only; omega, by simp; omega, (fun _ _ q => by cases q), g⟩
theorem PS.run_bd : ∀ (rows : List Row) (p : PS) (i : Nat), p.Bd i → (rows.foldl PS.step p).Bd (i + rows.length)
  | [], p, i, h => h
  | r :: rs, p, i, h => by
    have := PS.run_bd rs (p.step r) (i + 1) (PS.step_bd h r)
    rw [List.length_cons, show i + (rs.length + 1) = i + 1 + rs.length by omega]
    exact this
theorem run_bd (rows : List Row) : (PS.run rows).Bd rows.length := by
  have := PS.run_bd rows PS.init 0 ⟨by decide, by decide, by decide, by decide, by decide, (fun _ _ q => by cases q), by decide⟩
  rw [Nat.zero_add] at this
  exact this
theorem lists_len (l : List (List Item)) : (listsV l).length = l.length := by simp [listsV]
section
variable {p : PS} {r : Row} (hop : p.op = none)
include hop
theorem step_o (h : p.st = 0 ∧ p.cl = [] ∧ opens r = true) : p.step r = { p with op := some (r.2, [rowI r]) } := by unfold PS.step; rw [hop]; exact if_pos h
theorem step_x (h : ¬ (p.st = 0 ∧ p.cl = [] ∧ opens r = true)) (h1 : r.1 = 1001) : p.step r = p.turn 1 r := by unfold PS.step; rw [hop]; dsimp only; rw [if_neg h, if_pos h1]
theorem step_i (h : ¬ (p.st = 0 ∧ p.cl = [] ∧ opens r = true)) (h1 : r.1 ≠ 1001) (h2 : p.st ≠ 1 ∧ r.1 = 101 ∧ r.2 = "Embedded Object") : p.step r = p.turn 2 r := by unfold PS.step; rw [hop]; dsimp only; rw [if_neg h, if_neg h1, if_pos h2]
theorem step_c (h : ¬ (p.st = 0 ∧ p.cl = [] ∧ opens r = true)) (h1 : r.1 ≠ 1001) (h2 : ¬ (p.st ≠ 1 ∧ r.1 = 101 ∧ r.2 = "Embedded Object")) (h3 : p.st = 0 ∧ r.1 = 100) : p.step r = p.turn 0 r := by unfold PS.step; rw [hop]; dsimp only; rw [if_neg h, if_neg h1, if_neg h2, if_pos h3]
theorem step_a (h : ¬ (p.st = 0 ∧ p.cl = [] ∧ opens r = true)) (h1 : r.1 ≠ 1001) (h2 : ¬ (p.st ≠ 1 ∧ r.1 = 101 ∧ r.2 = "Embedded Object")) (h3 : ¬ (p.st = 0 ∧ r.1 = 100)) : p.step r = { p with cur := p.cur ++ [rowI r] } := by unfold PS.step; rw [hop]; dsimp only; rw [if_neg h, if_neg h1, if_neg h2, if_neg h3]
end
theorem step_z {p : PS} {r : Row} {x : Str} {blk : List Item} (hop : p.op = some (x, blk)) (h : closes x r = true) : p.step r = { p with da := p.da ++ [blk ++ [rowI r]], cur := p.cur ++ [(102, .n p.da.length)], op := none } := by unfold PS.step; rw [hop]; exact if_pos h
theorem step_b {p : PS} {r : Row} {x : Str} {blk : List Item} (hop : p.op = some (x, blk)) (h : closes x r = false) : p.step r = { p with op := some (x, blk ++ [rowI r]) } := by unfold PS.step; rw [hop]; exact if_neg (by rw [h]; exact Bool.false_ne_true)
end Mine

end
section
open PySem PySem.W PySem.W.X PyProof.Rows
set_option Elab.async false
set_option maxRecDepth 100000
set_option linter.unusedVariables false
namespace Mine
mutual
/-- no address stands in it -/
def clo : V → Bool
  | .ref _ => false
  | .tup l => clos l
  | .lst _ l => clos l
  | .tag c v => clo c && clo v
  | _ => true
def clos : List V → Bool
  | [] => true
  | x :: l => clo x && clos l
end
mutual
theorem vsub_clo (a : Addr) (u : V) : ∀ x : V, clo x = true → vsub a u x = x
  | .ref _, h => by simp [clo] at h
  | .tup l, h => by rw [vsub, vsubs_clo a u l (by simpa [clo] using h)]
  | .lst _ l, h => by rw [vsub, vsubs_clo a u l (by simpa [clo] using h)]
  | .tag c v, h => by
    rw [clo, Bool.and_eq_true] at h
    rw [vsub, vsub_clo a u c h.1, vsub_clo a u v h.2]
  | .none, _ => by rw [vsub]
  | .bool _, _ => by rw [vsub]
  | .int _, _ => by rw [vsub]
  | .str _, _ => by rw [vsub]
  | .ty _, _ => by rw [vsub]
  | .bi _, _ => by rw [vsub]
theorem vsubs_clo (a : Addr) (u : V) : ∀ l : List V, clos l = true → vsubs a u l = l
  | [], _ => by rw [vsubs]
  | x :: l, h => by
    rw [clos, Bool.and_eq_true] at h
    rw [vsubs, vsub_clo a u x h.1, vsubs_clo a u l h.2]
end
theorem vsubs_append (a : Addr) (u : V) : ∀ l l' : List V, vsubs a u (l ++ l') = vsubs a u l ++ vsubs a u l'
  | [], _ => by simp [vsubs]
  | x :: l, l' => by simp [vsubs, vsubs_append a u l l']
theorem clos_map {α : Type} {f : α → V} (h : ∀ x, clo (f x) = true) : ∀ l : List α, clos (l.map f) = true
  | [] => rfl
  | x :: l => by simp [clos, h, clos_map h l]
theorem clo_item (i : Item) : clo (itemV i) = true := by
  obtain ⟨c, v⟩ := i
  cases v <;> rfl
theorem clo_items (l : List Item) : clo (itemsV l) = true := clos_map clo_item l
theorem clos_items (l : List Item) : clos (l.map itemV) = true := clos_map clo_item l
theorem clos_lists (l : List (List Item)) : clos (listsV l) = true := clos_map clo_items l
theorem clo_row (r : Row) : clo (rowV r) = true := rfl
theorem clo_rows (l : List Row) : clo (rowsV l) = true := clos_map clo_row l
section
variable {M : Md}
theorem ViewV.nodup {x x' : V} {c c' : Cells} (h : c.ad.Nodup → ViewV M x c x' c') : ViewV M x c x' c' := fun A B s v hs r => h hs.nd A B s v hs r
theorem View.nodup {c c' : Cells} (h : c.ad.Nodup → View M c c') : View M c c' := fun A B s hs => h hs.nd A B s hs
theorem ViewV.fz {a : Addr} {k : LK} {xs : List V} {r c r0 r' : Cells} {x x' y : V} (hp : Pick (a, .lst k xs) r0 r) (hx : vsub a (.lst k xs) x = x') (hr : Cells.sub r a (.lst k xs) = r') (h : ViewV M x' r' y c) : ViewV M x r0 y c := by
  refine .trans (.of (View.perm hp.perm)) (.trans .freeze ?_)
  rw [hx, hr]; exact h
theorem View.fz {a : Addr} {k : LK} {xs : List V} {r c r0 r' : Cells} (hp : Pick (a, .lst k xs) r0 r) (hr : Cells.sub r a (.lst k xs) = r') (h : View M r' c) : View M r0 c := by
  refine .trans (View.perm hp.perm) (.trans .freeze ?_)
  rw [hr]; exact h
theorem vsub_ref (a : Addr) (u : V) : vsub a u (.ref a) = u := by rw [vsub, if_pos rfl]
theorem vsub_ne {a b : Addr} (u : V) (h : b ≠ a) : vsub a u (.ref b) = .ref b := by rw [vsub, if_neg h]
theorem parts_end {R C D E I cur : Addr} {p : PS} (hop : p.op = none) (hst : p.st ≤ 2) : ViewV M (.ref R) [(R, .lst .list [.ref C, .ref D, .ref E, .ref I]), (C, .lst .list (listsV p.cl ++ if p.st = 0 then [.ref cur] else [])), (D, .lst .list (listsV p.da)), (E, .lst .list (listsV p.ex ++ if p.st = 1 then [.ref cur] else [])), (I, .lst .list (listsV p.inn ++ if p.st = 2 then [.ref cur] else [])),
   (cur, .lst .list (p.cur.map itemV))] (.lst .list [.lst .list (listsV p.classes), .lst .list (listsV p.da), .lst .list (listsV p.extra), .lst .list (listsV p.inner)]) [] := by
  refine .nodup fun nd => ?_
  simp only [Cells.ad, List.map_cons, List.map_nil, List.nodup_cons, List.mem_cons, List.not_mem_nil, or_false, not_or, List.nodup_nil, and_true, not_false_eq_true] at nd
  obtain ⟨⟨nC, nD, nE, nI, nR⟩, ⟨cD, cE, cI, cc⟩, ⟨dE, dI, dc⟩, ⟨eI, ec⟩, ic⟩ := nd
  have key : ∀ (l : List (List Item)) (b : Prop) [Decidable b], vsubs cur (itemsV p.cur) (listsV l ++ if b then [.ref cur] else []) = listsV (if b then l ++ [p.cur] else l) := fun l b _ => by
    rw [vsubs_append, vsubs_clo _ _ _ (clos_lists l)]
    split
    · simp [vsubs, vsub_ref, listsV]
    · simp [vsubs]
  refine .fz (a := cur) (.tail (.tail (.tail (.tail (.tail .head))))) (vsub_ne _ nR) (r' := [(R, .lst .list [.ref C, .ref D, .ref E, .ref I]), (C, .lst .list (listsV p.classes)), (D, .lst .list (listsV p.da)), (E, .lst .list (listsV p.extra)), (I, .lst .list (listsV p.inner))]) ?_ ?_
  · have := key p.cl (p.st = 0)
    have k2 := key p.ex (p.st = 1)
    have k3 := key p.inn (p.st = 2)
    simp only [Cells.sub, List.map_cons, List.map_nil, MO.sub, vsubs, vsub_ne _ cc, vsub_ne _ dc, vsub_ne _ ec, vsub_ne _ ic]
    change vsubs cur (.lst .list (p.cur.map itemV)) _ = _ at this k2 k3
    rw [this, k2, k3, vsubs_clo _ _ _ (clos_lists _)]
    rfl
  refine .fz (a := C) (.tail .head) (vsub_ne _ nC) (r' := [(R, .lst .list [.lst .list (listsV p.classes), .ref D, .ref E, .ref I]), (D, .lst .list (listsV p.da)), (E, .lst .list (listsV p.extra)), (I, .lst .list (listsV p.inner))]) ?_ ?_
  · simp only [Cells.sub, List.map_cons, List.map_nil, MO.sub, vsubs, vsub_ref, vsub_ne _ (Ne.symm cD), vsub_ne _ (Ne.symm cE), vsub_ne _ (Ne.symm cI), vsubs_clo _ _ _ (clos_lists _)]
  refine .fz (a := D) (.tail .head) (vsub_ne _ nD) (r' := [(R, .lst .list [.lst .list (listsV p.classes), .lst .list (listsV p.da), .ref E, .ref I]), (E, .lst .list (listsV p.extra)), (I, .lst .list (listsV p.inner))]) ?_ ?_
  · simp only [Cells.sub, List.map_cons, List.map_nil, MO.sub, vsubs, vsub_ref, vsub_ne _ (Ne.symm dE), vsub_ne _ (Ne.symm dI), vsubs_clo _ _ _ (clos_lists _), vsub_clo _ _ (.lst .list (listsV p.classes)) (clos_lists _)]
  refine .fz (a := E) (.tail .head) (vsub_ne _ nE) (r' := [(R, .lst .list [.lst .list (listsV p.classes), .lst .list (listsV p.da), .lst .list (listsV p.extra), .ref I]), (I, .lst .list (listsV p.inner))]) ?_ ?_
  · simp only [Cells.sub, List.map_cons, List.map_nil, MO.sub, vsubs, vsub_ref, vsub_ne _ (Ne.symm eI), vsubs_clo _ _ _ (clos_lists _), vsub_clo _ _ (.lst .list (listsV _)) (clos_lists _)]
  refine .fz (a := I) (.tail .head) (vsub_ne _ nI) (r' := [(R, .lst .list [.lst .list (listsV p.classes), .lst .list (listsV p.da), .lst .list (listsV p.extra), .lst .list (listsV p.inner)])]) ?_ ?_
  · simp only [Cells.sub, List.map_cons, List.map_nil, MO.sub, vsubs, vsub_ref, vsubs_clo _ _ _ (clos_lists _), vsub_clo _ _ (.lst .list (listsV _)) (clos_lists _)]
  exact .fz (a := R) .head (vsub_ref ..) rfl .refl
end
theorem val_nbi (v : Val) : ∀ n, v.v ≠ .bi n := fun n h => by cases v <;> cases h
def tagV (i : Item) : V := .tag (.int i.1) i.2.v
def tagsV (l : List Item) : V := .lst .tags (l.map tagV)
theorem clo_tag (i : Item) : clo (tagV i) = true := by
  obtain ⟨c, v⟩ := i
  cases v <;> rfl
theorem clos_tags (l : List Item) : clos (l.map tagV) = true := clos_map clo_tag l
theorem clo_tags (l : List Item) : clo (tagsV l) = true := clos_tags l
end Mine

end
section
open PySem PySem.W PySem.W.X PyProof.Rows
set_option Elab.async false
set_option maxRecDepth 100000
namespace Mine
/-- the token of a text's own number -/
noncomputable def gtk (P : Params) (x : Str) : Tok := match lookIn x (ko 3 P) with | some (some (.int _ t)) => t | some (some (.str _ t)) => t | _ => default
section
variable {w : World} {h0 : Heap} {mg mb : Str → Option Value} (K : Ctx w h0 mg mb)
include K
theorem g_SUB : mg "SUBCLASS_MARKER" = some (.int 100 (gtk w.params "SUBCLASS_MARKER")) := K.gl (by kernel_rfl)
theorem g_XD : mg "XDATA_MARKER" = some (.int 1001 (gtk w.params "XDATA_MARKER")) := K.gl (by kernel_rfl)
theorem g_EMB : mg "EMBEDDED_OBJ_MARKER" = some (.int 101 (gtk w.params "EMBEDDED_OBJ_MARKER")) := K.gl (by kernel_rfl)
theorem g_APP : mg "APP_DATA_MARKER" = some (.int 102 (gtk w.params "APP_DATA_MARKER")) := K.gl (by kernel_rfl)
theorem g_EMBS : mg "EMBEDDED_OBJ_STR" = some (.str "Embedded Object" (gtk w.params "EMBEDDED_OBJ_STR")) := K.gl (by kernel_rfl)
theorem n_iter : mg "iter" = none := K.gl (by kernel_rfl)
theorem b_iter : mb "iter" = some (.builtin "iter") := (K.bl (by decide)).trans (by kernel_rfl)
theorem n_next : mg "next" = none := K.gl (by kernel_rfl)
theorem b_next : mb "next" = some (.builtin "next") := (K.bl (by decide)).trans (by kernel_rfl)
theorem n_list : mg "list" = none := K.gl (by kernel_rfl)
theorem b_list : mb "list" = some (.type "list") := (K.bl (by decide)).trans (by kernel_rfl)
theorem n_str : mg "str" = none := K.gl (by kernel_rfl)
theorem b_str : mb "str" = some (.type "str") := (K.bl (by decide)).trans (by kernel_rfl)
theorem n_intT : mg "int" = none := K.gl (by kernel_rfl)
theorem b_intT : mb "int" = some (.type "int") := (K.bl (by decide)).trans (by kernel_rfl)
theorem n_isinst : mg "isinstance" = none := K.gl (by kernel_rfl)
theorem b_isinst : mb "isinstance" = some (.builtin "isinstance") := (K.bl (by decide)).trans (by kernel_rfl)
theorem n_any : mg "any" = none := K.gl (by kernel_rfl)
theorem b_any : mb "any" = some (.builtin "any") := (K.bl (by decide)).trans (by kernel_rfl)
theorem n_all : mg "all" = none := K.gl (by kernel_rfl)
theorem b_all : mb "all" = some (.builtin "all") := (K.bl (by decide)).trans (by kernel_rfl)
theorem n_enum : mg "enumerate" = none := K.gl (by kernel_rfl)
theorem b_enum : mb "enumerate" = some (.type "enumerate") := (K.bl (by decide)).trans (by kernel_rfl)
theorem n_stop : mg "StopIteration" = none := K.gl (by kernel_rfl)
theorem b_stop : mb "StopIteration" = some (.type "StopIteration") := (K.bl (by decide)).trans (by kernel_rfl)
theorem n_ixe : mg "IndexError" = none := K.gl (by kernel_rfl)
theorem b_ixe : mb "IndexError" = some (.type "IndexError") := (K.bl (by decide)).trans (by kernel_rfl)
/-- the tag that stands for none -/
theorem inst_none {cs : Cells} : Inst (MM w h0) cs (.ref 118) 112 [some (.int 0), some (.int 0)] := by
  have h : ∃ t1 t2, ko 118 w.params = ⟨.ref 112, some 117, .plain, #[some (.int 0 t1), some (.int 0 t2)]⟩ := ⟨(match (ko 118 w.params).slots with | #[some (.int _ t), _] => t | _ => default), (match (ko 118 w.params).slots with | #[_, some (.int _ t)] => t | _ => default), by kernel_rfl⟩
  obtain ⟨t1, t2, h⟩ := h
  have h118 : (hd.heap_39 w.params).lookup 118 = some (ko 118 w.params) := by kernel_rfl
  have h117 : (hd.heap_39 w.params).lookup 117 = some (emptyD 0) := by kernel_rfl
  exact inst_st (M := MM w h0) (n := 0) (by rw [← h]; exact SS_of K.X h118 (by decide)) (SS_of K.X h117 (by decide)) fun B => .cons (show RO _ _ (some _) (some _) from RV.int _ _) (.cons (show RO _ _ (some _) (some _) from RV.int _ _) .nil)
theorem mt_st : Mt (MM w h0) (.type "StopIteration") (.type "StopIteration") true := mt_K (K := K1 w.params) (fun h hk => K1_in K.X hk) (by kernel_rfl)
theorem mt_dse_st : Mt (MM w h0) (.ref 163) (.type "StopIteration") false := mt_K (K := K1 w.params) (fun h hk => K1_in K.X hk) (by kernel_rfl)
theorem ck_dse : ClsOk (MM w h0) 163 := clsOk_K (K := K1 w.params) (fun h hk => K1_in K.X hk) (by kernel_rfl) (by kernel_rfl)
theorem ck_dve : ClsOk (MM w h0) 175 := clsOk_K (K := K1 w.params) (fun h hk => K1_in K.X hk) (by kernel_rfl) (by kernel_rfl)
theorem ck_dke : ClsOk (MM w h0) 187 := clsOk_K (K := K1 w.params) (fun h hk => K1_in K.X hk) (by kernel_rfl) (by kernel_rfl)
theorem xo_dse (h : Heap) (hk : ∀ a o, (MM w h0).S a = some o → h.get? a = some o) : ExcOk h 163 := excOk_of (K1_in K.X hk) (by kernel_rfl)
theorem xo_dve (h : Heap) (hk : ∀ a o, (MM w h0).S a = some o → h.get? a = some o) : ExcOk h 175 := excOk_of (K1_in K.X hk) (by kernel_rfl)
theorem xo_dke (h : Heap) (hk : ∀ a o, (MM w h0).S a = some o → h.get? a = some o) : ExcOk h 187 := excOk_of (K1_in K.X hk) (by kernel_rfl)
end
end Mine

end
section
open PySem PySem.W PySem.W.X PyProof.Rows
set_option Elab.async false
set_option maxRecDepth 100000
namespace Mine
section
variable {w : World} {h0 : Heap} {mg mb : Str → Option Value} (K : Ctx w h0 mg mb)
include K
theorem bat {P : Addr} (hP : (4 : Addr) ≠ P) (h : Heap) (hk : ∀ a o, (MM w h0).S a = some o → h.get? a = some o) : h.BuiltinsAt mg P := by
  obtain ⟨bm, o, e1, e2, e3, e4, e5, e6⟩ := K.ba
  have q : mg "__builtins__" = some (.ref 4) := K.gl (by kernel_rfl)
  rw [q] at e1
  cases e1
  exact ⟨4, o, q, e2, e3, hP, hk 4 o ((if_neg (show (4 : Addr) ∉ TB by decide)).trans e5 : SS h0 4 = some o), e6⟩
theorem chd_setup (h : Heap) (hk : ∀ a o, (MM w h0).S a = some o → h.get? a = some o) : CodeHd h 425 421 := codeHd_of_K (K1_in K.X hk) (by kernel_rfl)
theorem mt_dke : Mt (MM w h0) (.ref 187) (.ref 187) true := mt_K (K := K1 w.params) (fun h hk => K1_in K.X hk) (by kernel_rfl)
theorem mt_dve_dke : Mt (MM w h0) (.ref 175) (.ref 187) false := mt_K (K := K1 w.params) (fun h hk => K1_in K.X hk) (by kernel_rfl)
theorem mt_dve : Mt (MM w h0) (.ref 175) (.ref 175) true := mt_K (K := K1 w.params) (fun h hk => K1_in K.X hk) (by kernel_rfl)
theorem mt_dse : Mt (MM w h0) (.ref 163) (.ref 163) true := mt_K (K := K1 w.params) (fun h hk => K1_in K.X hk) (by kernel_rfl)
end
end Mine

end
section
open PySem PySem.W PySem.W.X PyProof.Rows
set_option Elab.async false
set_option maxRecDepth 100000
set_option linter.unusedVariables false
set_option linter.unusedSimpArgs false
namespace Mine
section
variable {M : Md} {A : Around} {cs T : Cells} {X : Value → Cells → Prop} {env : Env} {PV : V → Cells → Prop} {PF : Fl → Cells → Prop} {PB : Bool → Cells → Prop}
theorem op_eq_same {x y : V} {d : PyData} (hx : RdV cs x d) (hy : RdV cs y d) (sx : SeqAt.shaped d = true) (hu : A.units ≤ 1900) (h : PV (.bool true) cs) : OC M A .Eq x y cs PV X :=
  op_eq_data hx hy sx sx hu (by rw [SeqAt.eqv_refl d (SeqAt.canLay_of_shaped sx)]; exact h)
theorem op_ne_same {x y : V} {d : PyData} (hx : RdV cs x d) (hy : RdV cs y d) (sx : SeqAt.shaped d = true) (hu : A.units ≤ 1900) (h : PV (.bool false) cs) : OC M A .NotEq x y cs PV X :=
  op_ne_data hx hy sx sx hu (by rw [SeqAt.eqv_refl d (SeqAt.canLay_of_shaped sx)]; exact h)
end
/-- data that may be laid out, no deeper than n -/
def Sh (n : Nat) (x : V) : Prop := isD x = true ∧ (vd x).canLay0 = true ∧ (vd x).depth ≤ n
theorem Sh.shaped {n : Nat} {x : V} (h : Sh n x) (hn : n ≤ 64) : SeqAt.shaped (vd x) = true := by
  unfold SeqAt.shaped
  rw [h.2.1, decide_eq_true (Nat.le_trans h.2.2 hn)]; rfl
theorem Sh.int {n : Nat} (i : Int) : Sh n (.int i) := ⟨rfl, rfl, Nat.zero_le _⟩
theorem Sh.bool {n : Nat} (i : Bool) : Sh n (.bool i) := ⟨rfl, rfl, Nat.zero_le _⟩
theorem Sh.str {n : Nat} {x : Str} (h : PyData.strOk x = true) : Sh n (.str x) := ⟨rfl, h, Nat.zero_le _⟩
theorem Shs {n : Nat} : ∀ l : List V, (∀ x ∈ l, Sh n x) → isDs l = true ∧ PyData.canLayAll0 (vds l) = true ∧ PyData.depthAll (vds l) ≤ n
  | [], _ => ⟨rfl, rfl, Nat.zero_le _⟩
  | x :: l, h => by
    obtain ⟨a, b, c⟩ := h x (.head _)
    obtain ⟨d, e, f⟩ := Shs l fun y hy => h y (.tail _ hy)
    refine ⟨by rw [isDs, a, d]; rfl, by rw [vds, PyData.canLayAll0, b, e]; rfl, ?_⟩
    rw [vds, PyData.depthAll]
    exact Nat.max_le.mpr ⟨c, f⟩
theorem Sh.tup {n : Nat} {l : List V} (h : ∀ x ∈ l, Sh n x) : Sh (n + 1) (.tup l) := by
  obtain ⟨a, b, c⟩ := Shs l h
  refine ⟨by rw [isD]; exact a, by rw [vd, PyData.canLay0]; exact b, ?_⟩
  rw [vd, PyData.depth]; omega
theorem Sh.lst {n : Nat} {l : List V} (h : ∀ x ∈ l, Sh n x) : Sh (n + 1) (.lst .list l) := by
  obtain ⟨a, b, c⟩ := Shs l h
  refine ⟨by rw [isD]; exact a, by rw [vd, PyData.canLay0]; exact b, ?_⟩
  rw [vd, PyData.depth]; omega
theorem Sh.mem {n : Nat} {l : List V} (h : ∀ x ∈ l, Sh n x) (hn : n + 1 ≤ 64) : isDs l = true ∧ SeqAt.shaped (.list (vds l)) = true := by
  have := Sh.shaped (Sh.lst h) hn
  rw [vd] at this
  exact ⟨(Shs l h).1, this⟩
def ItSh (it : Item) : Prop := (∃ k, it.2 = .n k) ∨ ∃ v, it.2 = .s v ∧ PyData.strOk v = true
theorem sh_item {it : Item} (h : ItSh it) : Sh 1 (itemV it) := by
  obtain ⟨c, v⟩ := it
  refine Sh.tup fun x hx => ?_
  simp only [List.mem_cons, List.not_mem_nil, or_false] at hx
  rcases hx with rfl | rfl
  · exact .int _
  · rcases h with ⟨k, rfl⟩ | ⟨v, rfl, hv⟩
    · exact .int _
    · exact .str hv
theorem sh_items {l : List Item} (h : ∀ it ∈ l, ItSh it) : Sh 2 (itemsV l) := Sh.lst fun x hx => by
  obtain ⟨it, hi, rfl⟩ := List.mem_map.mp hx
  exact sh_item (h it hi)
theorem sh_lists {ls : List (List Item)} (h : ∀ l ∈ ls, ∀ it ∈ l, ItSh it) : ∀ x ∈ listsV ls, Sh 2 x := fun x hx => by
  obtain ⟨l, hl, rfl⟩ := List.mem_map.mp hx
  exact sh_items (h l hl)
end Mine

end
section
open PySem PySem.W PySem.W.X PyProof.Rows
set_option Elab.async false
set_option maxRecDepth 100000
set_option linter.unusedVariables false
set_option linter.unusedSimpArgs false
namespace Mine
theorem Upd.app {α β : Type} {a : α} {o o' : β} {l l' : List (α × β)} (h : Upd a o o' l l') : ∀ r : List (α × β), Upd a o o' (r ++ l) (r ++ l')
  | [] => h
  | _ :: r => .tail (h.app r)
theorem Upd.appR {α β : Type} {a : α} {o o' : β} {l l' : List (α × β)} (h : Upd a o o' l l') (r : List (α × β)) : Upd a o o' (l ++ r) (l' ++ r) := by
  induction h with
  | head => exact .head
  | tail _ ih => exact .tail ih
section
variable {M : Md} {A : Around} {fin cs c₂ : Cells} {mid : Cells → Prop} {X : Value → Cells → Prop} {env : Env} {PV : V → Cells → Prop} {n : Nat}
/-- one item more at a list's end -/
theorem push_own {S : Addr} {k : LK} {done : List V} {v : Value} {u : V} {cs' : Cells} {A' : Around} {B : FH} {s : Shared} {Q : Unit → Shared → Prop} {E : Value → Shared → Prop} (hs : St M.C M.S A B cs s) (U : Upd S (.lst k done) (.lst k (done ++ [u])) cs cs') (hl : done.length ≤ 10000) (rv : RV M.C B v u)
    (hQ : ∀ s', s'.gens = s.gens → St M.C M.S A B cs' s' → Fut B cs s B cs' s' → Q () s') : wpAny (model M.prog M.w) A' (updateSeq S (·.push v)) Q E s := by
  obtain ⟨d, ws, m, e, hd, rs⟩ := hs.own _ U.mem
  have hlen := rs.length
  have hz : ws.toArray.size ≤ sizeLine := by rw [List.size_toArray, hlen]; exact Nat.le_trans hl (by decide)
  refine wpAny_updateSeq e rfl ?_ hz (by rw [Array.size_push]; omega)
  have e0 : Obj.mapSeq (·.push v) ⟨k.cls M.C, d, .seq ws.toArray m, #[]⟩ = (⟨k.cls M.C, d, .seq (ws ++ [v]).toArray (if (ws.toArray.push v).size == ws.toArray.size then m else m + 1), #[]⟩ : Obj) := by
    show (⟨k.cls M.C, d, .seq (ws.toArray.push v) _, #[]⟩ : Obj) = _
    rw [List.push_toArray]
    show (⟨k.cls M.C, d, .seq (ws ++ [v]).toArray (if (ws.toArray.push v).size == ws.toArray.size then m else m + 1), #[]⟩ : Obj) = _
    rw [List.push_toArray]
  have e1 := Heap.get?_update_self (Obj.mapSeq (·.push v)) e (show (Obj.mapSeq (·.push v) ⟨k.cls M.C, d, .seq ws.toArray m, #[]⟩).isFreed = false from rfl)
  rw [e0] at e1
  obtain ⟨S', F'⟩ := hs.turn U (Heap.SameBut.update ..) ⟨d, ws ++ [v], _, e1, hd, rs.append (.cons rv .nil)⟩ trivial (fun ob q => ⟨_, e1, fun hd => by rw [e] at q; cases q; exact (isD_no_seq hd).elim⟩) s.toks
  exact hQ _ rfl S' F'
theorem ext_loop {G S : Addr} {k : LK} {og : Obj} {g : Nat} {res : Value} (fit : Fit (n + 1) A) (lim : ∀ h : Heap, (∀ a o, M.S a = some o → h.get? a = some o) → h.NoLimit) (hgo : GenO og g) (hG : (G, MO.obj og) ∈ cs) :
    ∀ (rem done : List V) (gc : Cells) (gs : GenState) (B : FH) (s : Shared), St M.C M.S A B (gc ++ ((S, .lst k done) :: cs)) s → s.gens[g]? = some gs → GenIs M A.in1.in1 fin mid gs rem gc → done.length + rem.length ≤ 1000 →
      ∀ R : Result → Shared → Prop, (∀ B' s', St M.C M.S A B' (fin ++ ((S, .lst k (done ++ rem)) :: cs)) s' → FutG g B (gc ++ ((S, .lst k done) :: cs)) s B' (fin ++ ((S, .lst k (done ++ rem)) :: cs)) s' → R (.ok (.ret res)) s') → codeAny (model M.prog M.w) A (.builtin "list.extend.loop" ⟨[.ref S, .ref G, res], []⟩) R s := by
  have hd : A.in1.handled = none := fit.hd
  have room : A.in1.depth < recursionLimit := fit.room
  intro rem
  induction rem with
  | nil =>
    intro done gc gs B s hs hgs hgi hl R hR
    refine codeAny_builtin F.entry_extend_loop ?_
    rw [Around.under_plainId F.plain_extend_loop _]
    show wpAny _ A.in1 (pyNext (.ref G) >>= _) _ _ s
    have hGo : s.heap.get? G = some og := hs.own (G, .obj og) (List.mem_append_right _ (.tail _ hG))
    refine wpAny_bind (gen_wake (hs.around (A' := A.in1) rfl) hd (lim _ hs.keepS) room (hgo.is hGo) hgs hgi (fun v B₁ s₁ gc' gs' u r hr _ _ _ _ _ _ => by cases hr) (fun B₁ s₁ _ S₁ F₁ => ?_))
    rw [List.append_nil] at hR
    exact wpAny_pure (hR B₁ s₁ (S₁.around rfl) F₁)
  | cons b rem ih =>
    intro done gc gs B s hs hgs hgi hl R hR
    refine codeAny_builtin F.entry_extend_loop ?_
    rw [Around.under_plainId F.plain_extend_loop _]
    show wpAny _ A.in1 (pyNext (.ref G) >>= _) _ _ s
    have hGo : s.heap.get? G = some og := hs.own (G, .obj og) (List.mem_append_right _ (.tail _ hG))
    refine wpAny_bind (gen_wake (hs.around (A' := A.in1) rfl) hd (lim _ hs.keepS) room (hgo.is hGo) hgs hgi (fun v B₁ s₁ gc' gs' u r hr S₁ F₁ rv hgs₁ hgi₁ hm => ?_) (fun B₁ s₁ hr _ _ => by cases hr))
    obtain ⟨rfl, rfl⟩ := List.cons.inj hr
    show wpAny _ A.in1 (updateSeq S (·.push v) >>= _) _ _ _
    simp only [List.length_cons] at hl
    refine wpAny_bind (push_own (S₁.around (A' := A) rfl) (Upd.app (.head (o' := .lst k (done ++ [b]))) gc') (by omega) rv fun s₂ hg2 S₂ F₂ => ?_)
    refine wpAny_pure ⟨plainId_quiet F.plain_extend_loop _, ih (done ++ [b]) gc' gs' B₁ s₂ S₂ (by rw [hg2]; exact hgs₁) hgi₁ (by simp; omega) R fun B' s' S' F' => ?_⟩
    have e : done ++ [b] ++ rem = done ++ b :: rem := by simp
    rw [e] at S' F'
    exact hR B' s' S' ((F₁.trans F₂.toG).trans F')
/-- a list made longer by all that a generator gives -/
theorem ext_with {G S : Addr} {k : LK} {og : Obj} {g : Nat} {res : Value} {R : Result → Shared → Prop} {done rem : List V} {gc : Cells} {gs : GenState} {B : FH} {s : Shared} (fit : Fit (n + 1) A) (lim : ∀ h : Heap, (∀ a o, M.S a = some o → h.get? a = some o) → h.NoLimit) (hgo : GenO og g) (hG : (G, MO.obj og) ∈ cs)
    (hs : St M.C M.S A B (gc ++ ((S, .lst k done) :: cs)) s) (hgs : s.gens[g]? = some gs) (hgi : GenIs M A.in1.in1 fin mid gs rem gc) (hl : done.length + rem.length ≤ 1000)
    (hR : ∀ B' s', St M.C M.S A B' (fin ++ ((S, .lst k (done ++ rem)) :: cs)) s' → FutG g B (gc ++ ((S, .lst k done) :: cs)) s B' (fin ++ ((S, .lst k (done ++ rem)) :: cs)) s' → R (.ok (.ret res)) s') :
    wpAny (model M.prog M.w) A.in1 (Builtin.List.listExtendWith (.ref S) (.ref G) res)
      (fun fin s' => match fin with | .done f => R (.ok f) s' | .again c' => c'.quiet = true ∧ codeAny (model M.prog M.w) A c' R s') (fun e s' => R (.error e) s') s := by
  have hGo : s.heap.get? G = some og := hs.own (G, .obj og) (List.mem_append_right _ (.tail _ hG))
  have hT : s.TypeIs (.ref G) "generator" := (hgo.is hGo).typeIs
  have hSG : S ≠ G := fun q => by
    obtain ⟨d, ws, m, e, _, _⟩ := hs.own (S, .lst k done) (List.mem_append_right _ (.head _))
    obtain ⟨nm, qn, hc, hdat, _⟩ := hgo
    rw [q, hGo] at e
    cases e
    cases hdat
  unfold Builtin.List.listExtendWith
  refine wpAny_bind (wpAny_typeOf hT ?_)
  have h1 : Builtin.List.listSameRef (.ref S) (.ref G) = false := by simp [Builtin.List.listSameRef, hSG]
  have h2 : (Value.type "generator" == Value.type "list") = false := by decide
  have h3 : (Value.type "generator" == Value.type "tuple") = false := by decide
  simp only [h1, h2, h3, Bool.or_false, Bool.false_eq_true, if_false]
  refine wpAny_bind (wpAny_pyIter_gen (hgo.is hGo) ?_)
  refine wpAny_bind (wpAny_holding ?_)
  unfold Builtin.List.listLengthHint
  refine wpAny_bind (wpAny_specialOf hT F.gen_no_len ?_)
  show wpAny _ A.in1 (specialOf (Value.ref G) (Str.ofString "__length_hint__") >>= _) _ _ _
  refine wpAny_bind (wpAny_specialOf hT F.gen_no_hint ?_)
  refine wpAny_pure ?_
  show wpAny _ A.in1 (rule "list.extend.makes-room" >>= fun _ => Builtin.List.listTouch (.ref S) >>= fun _ =>
    again (.builtin "list.extend.loop" ⟨[.ref S, .ref G, res], []⟩)) _ _ _
  refine wpAny_bind (wpAny_rule ?_)
  refine wpAny_bind ?_
  show wpAny _ A.in1 (updateSeq S (·.push .none) >>= fun _ => updateSeq S (·.pop)) _ _ _
  have U := Upd.app (Upd.head (a := S) (o := MO.lst k done) (o' := .lst k (done ++ [.none])) (r := cs)) gc
  have U2 := Upd.app (Upd.head (a := S) (o := MO.lst k (done ++ [.none])) (o' := .lst k done) (r := cs)) gc
  refine wpAny_bind (push_own hs U (by omega) .none fun s₂ hg2 S₂ F₂ => ?_)
  obtain ⟨d, ws, m, e, hd, rs⟩ := S₂.own _ U2.mem
  have hlen := rs.length
  simp only [List.length_append, List.length_singleton] at hlen
  have hz : ws.toArray.size ≤ sizeLine := by rw [List.size_toArray, hlen]; exact Nat.le_trans (show done.length + 1 ≤ 1001 by omega) (by decide)
  refine wpAny_updateSeq e rfl ?_ hz (by rw [Array.size_pop]; omega)
  have hws : ∃ ws' v, ws = ws' ++ [v] ∧ RVs M.C B ws' done := by
    have hne : ws ≠ [] := fun q => by rw [q] at hlen; simp at hlen
    refine ⟨ws.dropLast, ws.getLast hne, (List.dropLast_concat_getLast hne).symm, ?_⟩
    have key : ∀ {a : List Value} {b : List V}, RVs M.C B a b → RVs M.C B a.dropLast b.dropLast := by
      intro a b h
      induction a generalizing b with
      | nil => cases h; exact .nil
      | cons x a ih =>
        cases h with | cons r rs =>
        cases a with
        | nil => cases rs; exact .nil
        | cons y a =>
          cases rs with | cons r2 rs2 =>
          exact .cons r (ih (.cons r2 rs2))
    have := key rs
    rwa [List.dropLast_concat] at this
  obtain ⟨ws', v, rfl, rs'⟩ := hws
  have e0 : Obj.mapSeq (·.pop) ⟨k.cls M.C, d, .seq (ws' ++ [v]).toArray m, #[]⟩ = (⟨k.cls M.C, d, .seq ws'.toArray (if ((ws' ++ [v]).toArray.pop).size == (ws' ++ [v]).toArray.size then m else m + 1), #[]⟩ : Obj) := by
    show (⟨k.cls M.C, d, .seq ((ws' ++ [v]).toArray.pop) _, #[]⟩ : Obj) = _
    congr 2
    simp
  have e1 := Heap.get?_update_self (Obj.mapSeq (·.pop)) e (show (Obj.mapSeq (·.pop) ⟨k.cls M.C, d, .seq (ws' ++ [v]).toArray m, #[]⟩).isFreed = false from rfl)
  rw [e0] at e1
  obtain ⟨S₃, F₃⟩ := S₂.turn U2 (Heap.SameBut.update ..) ⟨d, ws', _, e1, hd, rs'⟩ trivial (fun ob q => ⟨_, e1, fun hd => by rw [e] at q; cases q; exact (isD_no_seq hd).elim⟩) s₂.toks
  refine wpAny_pure ⟨plainId_quiet F.plain_extend_loop _, ext_loop fit lim hgo hG rem done gc gs B _ S₃ ?_ hgi hl R fun B' s' S' F' => ?_⟩
  · show s₂.gens[g]? = _
    rw [hg2]; exact hgs
  · exact hR B' s' S' ((F₂.toG.trans F₃.toG).trans F')
end
end Mine

end
section
open PySem PySem.W PySem.W.X PyProof.Rows
set_option Elab.async false
set_option maxRecDepth 100000
set_option linter.unusedVariables false
set_option linter.unusedSimpArgs false
namespace Mine
section
variable {M : Md} {A : Around} {fin cs c₂ : Cells} {mid : Cells → Prop} {X : Value → Cells → Prop} {env : Env} {PV : V → Cells → Prop} {n : Nat}
theorem Fit.inO (f : Fit (n + 1) A) : Fit n A.in1 := ⟨by have := f.dep; show A.depth + 3 * n ≤ 450; omega, by have := f.un; show A.units + 1 + 40 * n ≤ 1800; omega, f.hd⟩
/-- all that a generator gives, as a list -/
theorem collect_own {G : Addr} {og : Obj} {g : Nat} {rem : List V} {gc : Cells} {gs : GenState} {B : FH} {s : Shared} {Q : List Value → Shared → Prop} {E : Value → Shared → Prop} (fit : Fit (n + 1) A) (lim : ∀ h : Heap, (∀ a o, M.S a = some o → h.get? a = some o) → h.NoLimit) (hgo : GenO og g) (hG : (G, MO.obj og) ∈ cs)
    (hs : St M.C M.S A B (gc ++ cs) s) (hgs : s.gens[g]? = some gs) (hgi : GenIs M A.in1.in1 fin mid gs rem gc) (hl : rem.length ≤ 1000)
    (hQ : ∀ vs B' s', RVs M.C B' vs rem → St M.C M.S A B' (fin ++ cs) s' → FutG g B (gc ++ cs) s B' (fin ++ cs) s' → Q vs s') : wpAny (model M.prog M.w) A (collect (.ref G)) Q E s := by
  unfold collect
  refine wpAny_bind (wpAny_runValue (codeAny_builtin F.entry_proto_collect ?_))
  rw [Around.under_plainId F.plain_proto_collect _]
  show wpAny _ A.in1 (newList [] >>= fun l => again (.builtin "list.__iadd__" ⟨[l, .ref G], []⟩)) _ _ s
  refine wpAny_bind (wpAny_newObj_type ?_ (by size_fits))
  refine wpAny_pure ⟨plainId_quiet F.plain_list_iadd _, codeAny_builtin F.entry_list_iadd ?_⟩
  rw [Around.under_plainId F.plain_list_iadd _]
  show wpAny _ A.in1 (Builtin.List.listExtendWith (.ref s.heap.objs.size) (.ref G) (.ref s.heap.objs.size)) _ _ _
  obtain ⟨hnD, S₃, F₃⟩ := hs.alloc (o := { cls := .type "list", data := .seq ([] : List Value).toArray }) (m := .lst .list []) rfl ⟨none, [], 0, Heap.get?_push_size _ rfl, rfl, .nil⟩ trivial s.toks
  have hh2 : ({ s with heap := s.heap.push { cls := .type "list", dict := none, data := .seq ([] : List Value).toArray } } : Shared) = { s with heap := s.heap.push { cls := .type "list", data := .seq ([] : List Value).toArray }, toks := s.toks } := rfl
  have pm : (ins (s.heap.objs.size, MO.lst .list []) (gc ++ cs)).Perm (gc ++ ((s.heap.objs.size, MO.lst .list []) :: cs)) := (ins_perm _ _).trans List.perm_middle.symm
  have S₄ := S₃.perm pm
  have F₄ := F₃.perm (cs₁' := gc ++ ((s.heap.objs.size, MO.lst .list []) :: cs)) (fun _ => Iff.rfl) fun a ha => ((pm.map Prod.fst).mem_iff.mpr ha)
  refine ext_with (R := fun r s' => match r with
    | .ok (.ret v) => wpAny (model M.prog M.w) A (match v with
        | .ref a => do
          match (← load a).data with
            | .seq xs _ => pure xs.toList
            | _ => unsupported "internal:collect"
        | _ => unsupported "internal:collect") Q E s'
    | .ok _ => False
    | .error e => E e s') (k := .list) (done := []) (res := .ref s.heap.objs.size) fit lim hgo hG S₄ hgs hgi (by simpa using hl) fun B' s' S' F' => ?_
  rw [List.nil_append] at S' F'
  obtain ⟨d, ws, m, e, hd, rs⟩ := S'.own (s.heap.objs.size, .lst .list rem) (List.mem_append_right _ (.head _))
  show wpAny _ A (load s.heap.objs.size >>= _) _ _ s'
  refine wpAny_bind (wpAny_load e ?_)
  refine wpAny_pure ?_
  have pm2 : (fin ++ ((s.heap.objs.size, MO.lst .list rem) :: cs)).Perm ((s.heap.objs.size, MO.lst .list rem) :: (fin ++ cs)) := List.perm_middle
  have F₅ := F₄.toG.trans F'
  exact hQ ws B' s' rs (S'.perm pm2).tail (F₅.perm (fun _ => Iff.rfl) fun a ha => ((pm2.map Prod.fst).mem_iff.mpr (List.mem_cons_of_mem _ ha)))
theorem rvs_take {C : Cls} {B : FH} : ∀ {vs : List Value} {xs : List V}, RVs C B vs xs → ∀ k, RVs C B (vs.take k) (xs.take k)
  | _, _, .nil, _ => by simp; exact .nil
  | _, _, .cons r rs, 0 => by simp; exact .nil
  | _, _, .cons r rs, k + 1 => by simp only [List.take_succ_cons]; exact .cons r (rvs_take rs k)
theorem rvs_drop {C : Cls} {B : FH} : ∀ {vs : List Value} {xs : List V}, RVs C B vs xs → ∀ k, RVs C B (vs.drop k) (xs.drop k)
  | _, _, .nil, _ => by simp; exact .nil
  | _, _, .cons r rs, 0 => .cons r rs
  | _, _, .cons r rs, k + 1 => by simp only [List.drop_succ_cons]; exact rvs_drop rs k
/-- a part of the text's own list set to what a generator gives -/
theorem set_slice (TO : TagsOk M) (OS : ∀ h : Heap, (∀ a o, M.S a = some o → h.get? a = some o) → OwnSl M.prog M.w h (.ref M.C.tags) "__setitem__" "list.__setitem__" "list") {S G sl : Addr} {vl vu : Value} {lo hi : Option Int} {st sp : Int} {og : Obj} {g : Nat} {xs ys : List V} {gc : Cells} {gs : GenState} {B : FH} {s : Shared} {Q : Unit → Shared → Prop} {E : Value → Shared → Prop}
    (fit : Fit (n + 2) A) (lim : ∀ h : Heap, (∀ a o, M.S a = some o → h.get? a = some o) → h.NoLimit) (hgo : GenO og g) (hG : (G, MO.obj og) ∈ cs)
    (hs : St M.C M.S A B (gc ++ ((S, .lst .tags xs) :: cs)) s) (hgs : s.gens[g]? = some gs) (hgi : GenIs M A.in1.in1.in1 fin mid gs ys gc)
    (hsl : s.heap.IsSliceOf sl vl vu .none) (pl : IsPart vl lo) (pu : IsPart vu hi) (hb : sliceBounds lo hi none xs.length = (st, sp, 1)) (hl : xs.length + ys.length ≤ 1000)
    (hQ : ∀ B' s', St M.C M.S A B' (fin ++ ((S, .lst .tags (xs.take st.toNat ++ ys ++ xs.drop (max st sp).toNat)) :: cs)) s' → FutG g B (gc ++ ((S, .lst .tags xs) :: cs)) s B' (fin ++ ((S, .lst .tags (xs.take st.toNat ++ ys ++ xs.drop (max st sp).toNat)) :: cs)) s' → Q () s') :
    wpAny (model M.prog M.w) A (setItem (.ref S) (.ref sl) (.ref G)) Q E s := by
  have hGo : s.heap.get? G = some og := hs.own (G, .obj og) (List.mem_append_right _ (.tail _ hG))
  have hTG : s.TypeIs (.ref G) "generator" := (hgo.is hGo).typeIs
  obtain ⟨d, ws, m, e, hdk, rs⟩ := hs.own (S, .lst .tags xs) (List.mem_append_right _ (.head _))
  have hSG : S ≠ G := fun q => by
    obtain ⟨nm, qn, hc, hdat, _⟩ := hgo
    rw [q, hGo] at e
    cases e
    cases hdat
  have hT := typeOf_of (prog := M.prog) (w := M.w) e rfl
  unfold setItem sequenceKey
  refine wpAny_holding (wpAny_bind (wpAny_bind (hT.here ?_)))
  dsimp only [LK.cls]
  refine wpAny_bind ((TO.seq s.heap hs.keepS).here ?_)
  simp only [Bool.not_false, if_true]
  refine wpAny_pure (wpAny_bind (own_special (OS s.heap hs.keepS) hT (own_call (b := Builtin.«list.__setitem__») (OS s.heap hs.keepS) hT (args_list_setitem _ _ _) entry_list_setitem ?_)))
  obtain ⟨os, hos, hcs, hds⟩ := id hsl
  have hTs : s.TypeIs (.ref sl) "slice" := ⟨os, hos, hcs⟩
  show wpAny _ _ (Builtin.List.listSubscript? (.ref sl) >>= _) _ _ s
  refine wpAny_bind ?_
  unfold Builtin.List.listSubscript?
  refine wpAny_bind (wpAny_specialOf hTs slice_no_index ?_)
  simp only [Option.isNone_none, if_true]
  refine wpAny_pure ?_
  show wpAny _ _ (typeOf (.ref sl) >>= _) _ _ s
  refine wpAny_bind (wpAny_typeOf hTs ?_)
  rw [if_neg (by decide)]
  rw [listSliceParts_eq]
  refine wpAny_bind (wpAny_bind (wpAny_field hos hds (x := .none) rfl (wpAny_bind (wpAny_listPart .none ?_))))
  rw [if_neg (by exact Bool.false_ne_true)]
  refine wpAny_bind (wpAny_field hos hds (x := vl) rfl (wpAny_bind (wpAny_listPart pl ?_)))
  refine wpAny_bind (wpAny_field hos hds (x := vu) rfl (wpAny_bind (wpAny_listPart pu (wpAny_pure ?_))))
  have h1 : Builtin.List.listSameRef (.ref S) (.ref G) = false := by simp [Builtin.List.listSameRef, hSG]
  simp only [h1, Bool.false_eq_true, if_false]
  unfold Builtin.List.listAllItems
  refine wpAny_bind (wpAny_bind (wpAny_typeOf hTG ?_))
  have h2 : (Value.type "generator" == Value.type "list") = false := by decide
  have h3 : (Value.type "generator" == Value.type "tuple") = false := by decide
  simp only [h2, h3, Bool.or_false, Bool.false_eq_true, if_false]
  refine wpAny_bind (wpAny_tryCatch (wpAny_pyIter_gen (hgo.is hGo) ?_))
  refine wpAny_bind (wpAny_holding (collect_own (A := A.in1) (n := n) (cs := (S, .lst .tags xs) :: cs) (Fit.inO fit) lim hgo (.tail _ hG) (hs.around rfl) hgs hgi (by omega) fun vs B' s' rv S' F' => ?_))
  refine wpAny_bind (wpAny_letGo (wpAny_pure ?_))
  obtain ⟨d', ws', m', e', hdk', rs'⟩ := S'.own (S, .lst .tags xs) (List.mem_append_right _ (.head _))
  have hlen := rs'.length
  have hlen2 := rv.length
  refine wpAny_bind (m := Builtin.List.listItems (.ref S)) ?_
  unfold Builtin.List.listItems
  refine wpAny_bind (wpAny_seqItems e' rfl (wpAny_pure ?_))
  refine wpAny_bind (wpAny_of_eq (sliceIndices_raw lo hi none ws'.toArray.size (by simp)) ?_)
  rw [List.size_toArray, hlen, hb]
  dsimp only
  rw [if_pos (by decide)]
  refine wpAny_bind (wpAny_rule ?_)
  have hlong : Builtin.List.listTooLong (xs.length + vs.toArray.size) = false := by
    unfold Builtin.List.listTooLong
    exact decide_eq_false (by rw [List.size_toArray, hlen2]; have : 1000 ≤ sizeLine := by decide
                              omega)
  rw [hlong]
  simp only [Bool.false_eq_true, if_false]
  show wpAny _ _ (updateSeq S (fun xs => xs.extract 0 st.toNat ++ vs.toArray ++ xs.extract (max st sp).toNat xs.size) >>= _) _ _ _
  have e0 : Obj.mapSeq (fun xs => xs.extract 0 st.toNat ++ vs.toArray ++ xs.extract (max st sp).toNat xs.size) ⟨LK.tags.cls M.C, d', .seq ws'.toArray m', #[]⟩ = (⟨LK.tags.cls M.C, d', .seq (ws'.take st.toNat ++ vs ++ ws'.drop (max st sp).toNat).toArray (if (ws'.toArray.extract 0 st.toNat ++ vs.toArray ++ ws'.toArray.extract (max st sp).toNat ws'.toArray.size).size == ws'.toArray.size then m' else m' + 1), #[]⟩ : Obj) := by
    show (⟨LK.tags.cls M.C, d', .seq (ws'.toArray.extract 0 st.toNat ++ vs.toArray ++ ws'.toArray.extract (max st sp).toNat ws'.toArray.size) _, #[]⟩ : Obj) = _
    congr 2
    rw [List.extract_toArray, List.extract_toArray, List.append_toArray, List.append_toArray]
    congr 1
    simp [List.extract]
    exact List.take_of_length_le (by simp)
  have e1 := Heap.get?_update_self (Obj.mapSeq (fun xs => xs.extract 0 st.toNat ++ vs.toArray ++ xs.extract (max st sp).toNat xs.size)) e' (show (Obj.mapSeq (fun xs => xs.extract 0 st.toNat ++ vs.toArray ++ xs.extract (max st sp).toNat xs.size) ⟨LK.tags.cls M.C, d', .seq ws'.toArray m', #[]⟩).isFreed = false from rfl)
  rw [e0] at e1
  have hz : ws'.toArray.size ≤ sizeLine := by rw [List.size_toArray, hlen]; exact Nat.le_trans (show xs.length ≤ 1000 by omega) (by decide)
  refine wpAny_bind (wpAny_updateSeq e' rfl ?_ hz ?_)
  · have U : Upd S (.lst .tags xs) (.lst .tags (xs.take st.toNat ++ ys ++ xs.drop (max st sp).toNat)) (fin ++ ((S, MO.lst .tags xs) :: cs)) (fin ++ ((S, MO.lst .tags (xs.take st.toNat ++ ys ++ xs.drop (max st sp).toNat)) :: cs)) := Upd.app .head fin
    obtain ⟨S₄, F₄⟩ := (S'.around (A' := A) rfl).turn U (Heap.SameBut.update ..)
      ⟨d', ws'.take st.toNat ++ vs ++ ws'.drop (max st sp).toNat, _, e1, hdk', ((rvs_take rs' _).append rv).append (rvs_drop rs' _)⟩ trivial (fun ob q => ⟨_, e1, fun hd => by rw [e'] at q; cases q; exact (isD_no_seq hd).elim⟩) s'.toks
    exact wpAny_bind (wpAny_letGo (wpAny_pure ⟨.none, rfl, wpAny_pure (hQ B' _ S₄ (F'.trans F₄.toG))⟩))
  · rw [List.extract_toArray, List.extract_toArray, List.append_toArray, List.append_toArray, List.size_toArray]
    have : 1000 ≤ sizeLine := by decide
    have h5 : (ws'.extract 0 st.toNat).length ≤ ws'.length := by simp [List.extract]; omega
    have h6 : (ws'.extract (max st sp).toNat ws'.toArray.size).length ≤ ws'.length := by simp [List.extract]
    simp only [List.length_append]
    have : 3000 ≤ sizeLine := by decide
    omega
end
end Mine

end
section
open PySem PySem.W PySem.W.X PyProof.Rows
set_option Elab.async false
set_option maxRecDepth 100000
set_option linter.unusedVariables false
set_option linter.unusedSimpArgs false
namespace Mine
/-- a generator of ys made out of cs, c₂ left; it may be drawn from wherever there is room -/
def GM (M : Md) (A : Around) (t : Sem Value) (B : FH) (cs : Cells) (s : Shared) (ys : List V) (c₂ : Cells) (n : Nat) : Prop :=
  ∀ (Q : Value → Shared → Prop) (E : Value → Shared → Prop),
    (∀ B' G og gc gs g s', St M.C M.S A B' ((G, .obj og) :: (gc ++ c₂)) s' → Fut B cs s B' ((G, .obj og) :: (gc ++ c₂)) s' → GenO og g → s'.gens[g]? = some gs → s.gens.size ≤ g → (∀ A' : Around, Fit n A' → GenIs M A' [] tM gs ys gc) → Q (.ref G) s') →
    wpAny (model M.prog M.w) A t Q E s
structure EG (M : Md) (A : Around) (env : Env) (e : PySem.Expr) (cs : Cells) (ys : List V) (c₂ : Cells) (n : Nat) : Prop where
  it : ∀ (B : FH) (s : Shared), St M.C M.S A B cs s → GM M A (eval e env) B cs s ys c₂ n
section
variable {M : Md} {A : Around} {fin cs c₂ : Cells} {mid : Cells → Prop} {X : Value → Cells → Prop} {env : Env} {PV : V → Cells → Prop} {PF : Fl → Cells → Prop} {n : Nat}
/-- f(x): f a generator's def, x a local name -/
theorem eg_call {fn a : Str} {p1 p2 pos : Pos} {f : Addr} {u : V} {loc : Loc} {r : Cells} {ys : List V} {m : Nat} {mg mb : Str → Option Value} (G : Gl M.S mg mb) (e : mg fn = some (.ref f)) (hx : (a, u) ∈ loc) (hk : KeepOk M (.ref f) pT)
    (hcall : ∀ (B : FH) (s : Shared) (v : Value), St M.C M.S A B ((env.locals, .frame loc) :: r) s → RV M.C B v u → GM M A (call (.ref f) [v]) B ((env.locals, .frame loc) :: r) s ys ((env.locals, .frame loc) :: r) m)
    (hk1 : env.scope.kind = .function := by rfl) (hl1 : env.kindOf fn = some .globalImplicit := by kernel_rfl) (hg1 : env.globals = mainGlobals := by rfl) (hd1 : (fn == ("__debug__" : Str)) = false := by kernel_rfl)
    (hl2 : env.kindOf a = some .local := by kernel_rfl) (hd2 : (a == ("__debug__" : Str)) = false := by kernel_rfl)
    (he : starEach [.Name a p2] env = [(false, eval (.Name a p2) env)] := by rfl)
    (hc : eval (.Call (.Name fn p1) [.Name a p2] [] pos) env = (do callWith pos (← eval (.Name fn p1) env) [] (backTo pos (starEach [.Name a p2] env)) (backToKw pos (keywordEach [] env))) := by rfl) :
    EG M A env (.Call (.Name fn p1) [.Name a p2] [] pos) ((env.locals, .frame loc) :: r) ys ((env.locals, .frame loc) :: r) m := ⟨fun B s hs Q E hQ => by
  have h1 := (ev_global (M := M) (A := A) (env := env) (pos := p1) (X := NoX) (cs := (env.locals, .frame loc) :: r) (u := .ref f) (PV := fun x c => x = .ref f ∧ c = (env.locals, .frame loc) :: r) G e (fun _ => .ref _) ⟨rfl, rfl⟩ hk1 hl1 hg1 hd1).it B s hs trivial
  have h2 := ev_local (M := M) (A := A) (env := env) (pos := p2) (X := NoX) (r := r) (PV := fun x c => x = u ∧ c = (env.locals, .frame loc) :: r) hx ⟨rfl, rfl⟩ hk1 hl2 hd2
  refine Call_ (wpAny_mono h1 (fun v s₁ ⟨B₁, cs₁, x, S₁, F₁, R₁, hx₁, hc₁⟩ => ?_) fun _ _ x => x.none.elim) hc
  subst hx₁ hc₁
  cases R₁
  refine callWith_of (P := fun h => ∃ B', M.S.le B' ∧ ∀ a o, B' a = some o → h.get? a = some o) (by rw [he]; rfl) (fun h ⟨B', hS', hk'⟩ => hk B' h trivial hS' hk') ?_
  rw [he]
  refine Calls.evalArgs_plain (Calls.spliced_cons (wpAny_mono (h2.it B₁ s₁ S₁ trivial) (fun v s₂ ⟨B₂, cs₂, y, S₂, F₂, R₂, hy, hc₂⟩ => ?_) fun _ _ x => x.none.elim))
  subst hy hc₂
  refine Calls.spliced_nil ⟨⟨B₂, S₂.stat, S₂.keep⟩, ?_⟩
  exact hcall B₂ s₂ v S₂ R₂ Q E fun B' G og gc gs g s' S' F' a b c d => hQ B' G og gc gs g s' S' ((F₁.trans F₂).trans F') a b (Nat.le_trans (F₁.trans F₂).gsz c) d⟩
theorem PoX.fr {fr : Cells} {B : FH} {s s' : Shared} {e : Value} {E : Value → Shared → Prop} (h : PoX M.C M.S A B cs s (fun _ cs' => ∃ c, cs' = c ++ fr ∧ NoX e c) e s') : E e s' := by
  obtain ⟨_, _, _, _, _, _, _, _, _, q⟩ := h; exact q.elim
/-- x[lo:up] = a generator's call -/
theorem ex_setslice (TO : TagsOk M) (OS : ∀ h : Heap, (∀ a o, M.S a = some o → h.get? a = some o) → OwnSl M.prog M.w h (.ref M.C.tags) "__setitem__" "list.__setitem__" "list") (fit : Fit (n + 3) A) (lim : ∀ h : Heap, (∀ a o, M.S a = some o → h.get? a = some o) → h.NoLimit)
    {x : Str} {px p p' pos : Pos} {lo up : Option PySem.Expr} {l u : Option Int} {st sp : Int} {value : PySem.Expr} {S : Addr} {loc : Loc} {r r' : Cells} {xs ys : List V} {m : Nat} (hm : m ≤ n)
    (hg : EG M A env value ((env.locals, .frame loc) :: r) ys ((env.locals, .frame loc) :: r) m) (hx : (x, .ref S) ∈ loc) (hp : Pick (S, .lst .tags xs) r r')
    (hlo : EO M A env lo ((env.locals, .frame loc) :: r) (fun k c => k = l ∧ c = (env.locals, .frame loc) :: r) NoX) (hup : EO M A env up ((env.locals, .frame loc) :: r) (fun k c => k = u ∧ c = (env.locals, .frame loc) :: r) NoX)
    (hb : sliceBounds l u none xs.length = (st, sp, 1)) (hl : xs.length + ys.length ≤ 1000)
    (h : PF .next ((env.locals, .frame loc) :: (S, .lst .tags (xs.take st.toNat ++ ys ++ xs.drop (max st sp).toNat)) :: r'))
    (hk1 : env.scope.kind = .function := by rfl) (hl2 : env.kindOf x = some .local := by kernel_rfl) (hd2 : (x == ("__debug__" : Str)) = false := by kernel_rfl)
    (hs : swapsWith value (some (.Subscript (.Name x px) (.Slice lo up none p) p')) pos.line env = pure false := by rfl) :
    EX M A env (.Assign [.Subscript (.Name x px) (.Slice lo up none p) p'] value pos) ((env.locals, .frame loc) :: r) PF X := ⟨fun B s hst _ => by
  refine wpAny_Assign_Subscript (hg.it B s hst _ _ fun B₁ G og gc gs g s₁ S₁ F₁ hgo hgs hge hgi => ?_) hs
  have pm : ((G, MO.obj og) :: (gc ++ ((env.locals, .frame loc) :: r))).Perm (((env.locals, .frame loc) :: r) ++ ((G, .obj og) :: gc)) :=
    ((List.Perm.cons _ List.perm_append_comm).trans List.perm_middle.symm)
  have h1 := (ev_local (M := M) (A := A) (env := env) (pos := px) (X := NoX) (r := r) (PV := fun y c => y = .ref S ∧ c = (env.locals, .frame loc) :: r) hx ⟨rfl, rfl⟩ hk1 hl2 hd2).it.frame pm
  refine wpAny_mono (h1 B₁ s₁ S₁ trivial) (fun v s₂ ⟨B₂, cs₂, y, S₂, F₂, R₂, c, hc, hy, hc'⟩ => ?_) fun _ _ x => x.fr
  subst hc' hc hy
  cases R₂
  refine wpAny_Slice (wpAny_mono ((hlo.it.frame (List.Perm.refl _)) B₂ s₂ S₂ trivial) (fun vl s₃ ⟨B₃, cs₃, k, S₃, F₃, R₃, c, hc, hy, hc'⟩ => ?_) fun _ _ x => x.fr)
  subst hc' hc hy
  refine wpAny_mono ((hup.it.frame (List.Perm.refl _)) B₃ s₃ S₃ trivial) (fun vu s₄ ⟨B₄, cs₄, k, S₄, F₄, R₄, c, hc, hy, hc'⟩ => ?_) fun _ _ x => x.fr
  subst hc' hc hy
  rw [evalPart_none]
  refine wpAny_pure ?_
  obtain ⟨S₅, F₅⟩ := pushed_slice S₄ (sliceOb vl vu) s₄.toks
  have F15 := F₁.trans ((F₂.trans F₃).trans (F₄.trans F₅))
  have pm2 : (((env.locals, MO.frame loc) :: r) ++ ((G, .obj og) :: gc)).Perm (gc ++ ((S, .lst .tags xs) :: ((env.locals, .frame loc) :: r' ++ [(G, .obj og)]))) := by
    have e1 : (((env.locals, MO.frame loc) :: r) ++ ((G, .obj og) :: gc)).Perm (((env.locals, MO.frame loc) :: (S, .lst .tags xs) :: r') ++ ((G, .obj og) :: gc)) := (List.Perm.cons _ hp.perm).append_right _
    refine e1.trans ?_
    have e2 : (((env.locals, MO.frame loc) :: (S, .lst .tags xs) :: r') ++ ((G, .obj og) :: gc)).Perm (((S, .lst .tags xs) :: ((env.locals, MO.frame loc) :: r')) ++ ((G, .obj og) :: gc)) := (List.Perm.swap ..).append_right _
    refine e2.trans ?_
    have e3 : ((G, MO.obj og) :: gc) = [(G, .obj og)] ++ gc := rfl
    rw [e3, ← List.append_assoc]
    exact List.perm_append_comm
  have S₆ := S₅.perm pm2
  have F₆ := F15.perm (cs₁' := gc ++ ((S, .lst .tags xs) :: ((env.locals, .frame loc) :: r' ++ [(G, .obj og)]))) (fun _ => Iff.rfl) fun a ha => ((pm2.map Prod.fst).mem_iff.mpr ha)
  have hgs' : ({ s₄ with heap := s₄.heap.push (sliceOb vl vu), toks := s₄.toks } : Shared).gens[g]? = some gs := by
    have hsz := (Array.getElem?_eq_some_iff.mp hgs).1
    rw [((F₂.trans F₃).trans (F₄.trans F₅)).gens g hsz]; exact hgs
  refine set_slice (n := n + 1) TO OS fit lim hgo (List.mem_append_right _ (.head _)) S₆ hgs' (hgi _ ((Fit.inO (Fit.inO (Fit.inO fit))).le hm)) (Heap.IsSliceOf.new ..) R₃ R₄ hb hl fun B' s' S' F' => ?_
  rw [List.nil_append] at S' F'
  have pm3 : ((S, MO.lst .tags (xs.take st.toNat ++ ys ++ xs.drop (max st sp).toNat)) :: ((env.locals, .frame loc) :: r' ++ [(G, .obj og)])).Perm (((env.locals, .frame loc) :: (S, .lst .tags (xs.take st.toNat ++ ys ++ xs.drop (max st sp).toNat)) :: r') ++ [(G, .obj og)]) := by
    rw [List.cons_append, List.cons_append, List.cons_append]; exact .swap ..
  have S₇ := (S'.perm pm3).left
  have F₇ := (F₆.thenG hge F').perm (cs₁' := (env.locals, .frame loc) :: (S, .lst .tags (xs.take st.toNat ++ ys ++ xs.drop (max st sp).toNat)) :: r') (fun _ => Iff.rfl) fun a ha => ((pm3.map Prod.fst).mem_iff.mpr (by rw [List.map_append]; exact List.mem_append_left _ ha))
  exact ⟨B', _, .next, S₇, F₇, .next, h⟩⟩
/-- x.extend(a generator's call) -/
theorem ex_extend (TO : TagsOk M) (OE : ∀ h : Heap, (∀ a o, M.S a = some o → h.get? a = some o) → OwnSl M.prog M.w h (.ref M.C.tags) "extend" "list.extend" "list") (fit : Fit (n + 3) A) (lim : ∀ h : Heap, (∀ a o, M.S a = some o → h.get? a = some o) → h.NoLimit)
    {x : Str} {px apos pos0 pos : Pos} {value : PySem.Expr} {S : Addr} {loc : Loc} {r r' : Cells} {xs ys : List V} {m : Nat} {pl : Sem Bool} (hm : m ≤ n)
    (hg : EG M A env value ((env.locals, .frame loc) :: r) ys ((env.locals, .frame loc) :: r) m) (hx : (x, .ref S) ∈ loc) (hp : Pick (S, .lst .tags xs) r r') (hl : xs.length + ys.length ≤ 1000)
    (h : PF .next ((env.locals, .frame loc) :: (S, .lst .tags (xs ++ ys)) :: r'))
    (hk1 : env.scope.kind = .function := by rfl) (hl2 : env.kindOf x = some .local := by kernel_rfl) (hd2 : (x == ("__debug__" : Str)) = false := by kernel_rfl)
    (hi : interactive env = false := by rfl) (hs : swapsWith (.Call (.Attribute (.Name x px) "extend" apos) [value] [] pos0) none pos.line env = pure false := by rfl)
    (hst : starEach [value] env = [(false, eval value env)] := by rfl)
    (he : eval (.Call (.Attribute (.Name x px) "extend" apos) [value] [] pos0) env = (do
      let ov ← eval (.Name x px) env
      standAt apos.atName
      let (f, first) ← holding [ov] (getMethod ov "extend" pl)
      callWith pos0 f first (backTo pos0 (starEach [value] env)) []) := by rfl) :
    EX M A env (.Expr (.Call (.Attribute (.Name x px) "extend" apos) [value] [] pos0) pos) ((env.locals, .frame loc) :: r) PF X := ⟨fun B s hst' _ => by
  have h1 := (ev_local (M := M) (A := A) (env := env) (pos := px) (X := NoX) (r := r) (PV := fun y c => y = .ref S ∧ c = (env.locals, .frame loc) :: r) hx ⟨rfl, rfl⟩ hk1 hl2 hd2).it B s hst' trivial
  refine wpAny_Expr_any (MethodCall_ (wpAny_mono h1 (fun v s₁ ⟨B₁, cs₁, y, S₁, F₁, R₁, hy, hc⟩ => ?_) fun _ _ x => x.none.elim) he) hi hs
  subst hc hy
  cases R₁
  refine meth_seq TO (.own S .tags xs (.tail _ (hp.perm.mem_iff.mpr (.head _)))) PySem.F.slot_list_extend PySem.F.type_list_extend (fun h hk => (OE h hk).lookup) pl B₁ s₁ (.ref S) S₁ (.ref _) _ _ fun tk => ?_
  have S₁' := S₁.toks tk
  have F₁' := F₁.toks tk
  dsimp only
  refine callWith_of (P := fun h => True) (by rw [hst]; rfl) (fun h _ => ⟨.machine, .inr (.inl rfl), Looks.of_pure rfl⟩) ?_
  rw [hst]
  refine Calls.evalArgs_plain (Calls.spliced_cons (hg.it B₁ _ S₁' _ _ fun B₂ G og gc gs g s₂ S₂ F₂ hgo hgs hge hgi => ?_))
  refine Calls.spliced_nil ⟨trivial, ?_⟩
  have pm : ((G, MO.obj og) :: (gc ++ ((env.locals, .frame loc) :: r))).Perm (gc ++ ((S, .lst .tags xs) :: ((env.locals, .frame loc) :: r' ++ [(G, .obj og)]))) := by
    have e1 : ((G, MO.obj og) :: (gc ++ ((env.locals, .frame loc) :: r))).Perm ((G, MO.obj og) :: (gc ++ ((S, .lst .tags xs) :: (env.locals, .frame loc) :: r'))) := .cons _ (List.Perm.append_left _ ((List.Perm.cons _ hp.perm).trans (.swap ..)))
    refine e1.trans ?_
    refine List.Perm.trans (List.perm_append_singleton _ _).symm ?_
    rw [List.append_assoc]
    exact .refl _
  have S₃ := S₂.perm pm
  have F₃ := (F₁'.trans F₂).perm (cs₁' := gc ++ ((S, .lst .tags xs) :: ((env.locals, .frame loc) :: r' ++ [(G, .obj og)]))) (fun _ => Iff.rfl) fun a ha => ((pm.map Prod.fst).mem_iff.mpr ha)
  obtain ⟨d, ws, k, e, hdk, rs⟩ := S₃.own (S, .lst .tags xs) (List.mem_append_right _ (.head _))
  have hT := typeOf_of (prog := M.prog) (w := M.w) e rfl
  have O := OE s₂.heap S₃.keepS
  refine wpAny_call (codeAny_call_builtin O.slot.plain PySem.F.entry_list_extend (own_check O hT (PySem.F.args_list_extend_2 _ _) ?_))
  show wpAny _ A.in1 (Builtin.List.listExtendWith (.ref S) (.ref G) .none) _ _ s₂
  refine ext_with (n := n + 2) (R := fun rr s' => match rr with | .ok (.ret v) => Po M.C M.S (RF M.C) A B ((env.locals, .frame loc) :: r) s PF .next s' | .ok _ => False | .error e => PoX M.C M.S A B ((env.locals, .frame loc) :: r) s X e s') fit lim hgo (List.mem_append_right _ (.head _)) S₃ hgs (hgi _ ((Fit.inO (Fit.inO fit)).le (by omega))) hl fun B' s' S' F' => ?_
  rw [List.nil_append] at S' F'
  have pm3 : ((S, MO.lst .tags (xs ++ ys)) :: ((env.locals, .frame loc) :: r' ++ [(G, .obj og)])).Perm (((env.locals, .frame loc) :: (S, .lst .tags (xs ++ ys)) :: r') ++ [(G, .obj og)]) := by
    rw [List.cons_append, List.cons_append, List.cons_append]; exact .swap ..
  have S₇ := (S'.perm pm3).left
  have F₇ := (F₃.thenG (Nat.le_trans F₁'.gsz hge) F').perm (cs₁' := (env.locals, .frame loc) :: (S, .lst .tags (xs ++ ys)) :: r') (fun _ => Iff.rfl) fun a ha => ((pm3.map Prod.fst).mem_iff.mpr (by rw [List.map_append]; exact List.mem_append_left _ ha))
  exact ⟨B', _, .next, S₇, F₇, .next, h⟩⟩
end
end Mine

end
section
open PySem PySem.W PySem.W.X PyProof.Rows
set_option Elab.async false
set_option maxRecDepth 100000
set_option linter.unusedVariables false
set_option linter.unusedSimpArgs false
namespace Mine
section
variable {M : Md} {A : Around} {cs cs' r0 : Cells} {B B' : FH} {s s' : Shared} {env : Env} {n : Nat} {X : Value → Cells → Prop} {PV : V → Cells → Prop}
/-- f"..{v}.." of a text -/
theorem ev_fstr3 {s1 s2 : Str} {v : PySem.Expr} {k k2 : Nat} {p p2 p3 pos : Pos} (h1 : s1.length ≤ 1000) (h2 : s2.length ≤ 1000) (h : EV M A env v cs (fun x c => ∃ y : Str, x = .str y ∧ y.length ≤ 1000 ∧ PV (.str (Str.empty ++ s1 ++ y ++ s2)) c) X) :
    EV M A env (.JoinedStr [.Constant (.str s1) k p, .FormattedValue v (-1) none p2, .Constant (.str s2) k2 p3] pos) cs PV X := ⟨fun B s hs hp => by
  have l1 : ∀ a b : Str, (a ++ b).length = a.length + b.length := fun a b => strLen_append a b
  have l0 : Str.empty.length = 0 := rfl
  refine JoinedStr_many (joinParts_cons (Calls.Constant_str ⟨?_, joinParts_cons (FormattedValue_plain ?_)⟩))
  · rw [l1, l0]; exact Nat.le_trans (by omega) (show 1000 ≤ sizeLine by decide)
  refine wpAny_mono (h.it B _ (hs.toks _) trivial) (fun v s₁ ⟨B₁, c₁, x, S₁, F₁, R₁, y, hx, hy, hP⟩ => ?_) fun _ _ x => PoX.step ((Fut.refl ..).toks _) x
  subst hx
  cases R₁
  have hz : (1000 : Nat) + 1000 + 1000 ≤ sizeLine := by decide
  refine formatField_str (fun t' tk => ?_) (by omega)
  dsimp only
  have b1 := l1 (Str.empty ++ s1) y
  have b2 := l1 Str.empty s1
  have b3 := l1 (Str.empty ++ s1 ++ y) s2
  refine ⟨by omega, joinParts_cons (Calls.Constant_str ⟨by omega, joinParts_nil ?_ (by omega)⟩)⟩
  have S₂ := ((S₁.toks tk).toks (tk + 1)).toks (tk + 1 + 1)
  exact ⟨B₁, c₁, _, S₂, (((Fut.refl ..).toks _).trans F₁).toks _, .str _ _, hP⟩⟩
/-- two owned objects turned, new things beside -/
theorem St.two {a b : Addr} {m m' k k' : MO} {h' : Heap} (hs : St M.C M.S A B (cs ++ [(a, m), (b, k)]) s) (hx : ∀ c o, c ≠ a → c ≠ b → s.heap.get? c = some o → h'.get? c = some o) (ha : m'.At M.C B h' a) (hb : k'.At M.C B h' b) (na : m'.NoFrame) (nb : k'.NoFrame)
    (hda : ∀ o, s.heap.get? a = some o → ¬ IsD o) (hdb : ∀ o, s.heap.get? b = some o → ¬ IsD o) (t : Nat) :
    St M.C M.S A B (cs ++ [(a, m'), (b, k')]) { s with heap := h', toks := t } ∧ Fut B (cs ++ [(a, m), (b, k)]) s B (cs ++ [(a, m'), (b, k')]) { s with heap := h', toks := t } := by
  have nd := hs.nd
  have had : Cells.ad (cs ++ [(a, m'), (b, k')]) = Cells.ad (cs ++ [(a, m), (b, k)]) := by simp [Cells.ad]
  have hin : a ∈ Cells.ad (cs ++ [(a, m), (b, k)]) := by simp [Cells.ad]
  have hin2 : b ∈ Cells.ad (cs ++ [(a, m), (b, k)]) := by simp [Cells.ad]
  have hBa : B a = none := hs.off (a, m) (by simp)
  have hBb : B b = none := hs.off (b, k) (by simp)
  have hne : ∀ p ∈ cs, p.1 ≠ a ∧ p.1 ≠ b := fun p hp => by
    have h2 := nd
    rw [Cells.ad, List.map_append, List.nodup_append] at h2
    exact ⟨h2.2.2 _ (List.mem_map_of_mem hp) a (by simp), h2.2.2 _ (List.mem_map_of_mem hp) b (by simp)⟩
  refine ⟨⟨fun c o e => hx c o (fun q => by subst q; rw [hBa] at e; cases e) (fun q => by subst q; rw [hBb] at e; cases e) (hs.keep c o e), hs.stat, fun p hp => ?_, fun p hp => ?_, fun p hp => ?_, by rw [had]; exact nd, ?_, hs.bare⟩,
    ⟨.refl _, fun c o e hn => .inl (hx c o (fun q => hn (q ▸ hin)) (fun q => hn (q ▸ hin2)) e), fun _ h => .inl h, fun c hc => .inr (by rw [had] at hc; exact hc), fun c o e => ?_, rfl, fun _ _ => rfl, Nat.le_refl _⟩⟩
  · rcases List.mem_append.mp hp with hp | hp
    · exact (hs.own p (List.mem_append_left _ hp)).same (fun o e => .inl (hx _ _ (hne p hp).1 (hne p hp).2 e)) (hs.nf p (List.mem_append_left _ hp))
    · simp only [List.mem_cons, List.not_mem_nil, or_false] at hp
      rcases hp with rfl | rfl
      · exact ha
      · exact hb
  · rcases List.mem_append.mp hp with hp | hp
    · exact hs.nf p (List.mem_append_left _ hp)
    · simp only [List.mem_cons, List.not_mem_nil, or_false] at hp
      rcases hp with rfl | rfl
      · exact na
      · exact nb
  · rcases List.mem_append.mp hp with hp | hp
    · exact hs.off p (List.mem_append_left _ hp)
    · simp only [List.mem_cons, List.not_mem_nil, or_false] at hp
      rcases hp with rfl | rfl
      · exact hBa
      · exact hBb
  · obtain ⟨l, e, hl⟩ := hs.frs
    refine ⟨l, e, fun en hen => ?_⟩
    obtain ⟨hk, L, oL, h1, h2, h3, h4⟩ := hl en hen
    exact ⟨hk, L, oL, h1, h2, hx _ _ (fun q => hda oL (q ▸ h3) h4) (fun q => hdb oL (q ▸ h3) h4) h3, h4⟩
  · by_cases q : c = a
    · subst q; exact ha.there
    · by_cases q2 : c = b
      · subst q2; exact hb.there
      · exact ⟨o, hx c o q q2 e⟩
def enumP (it : Addr) (i : Nat) : Obj → Prop := fun o => ∃ old, o = { cls := .type "enumerate", dict := none, data := .fields #[.none, .bool false, .ref it, rawInt i, .none, old], slots := #[] }
def liP (l : Addr) (i : Nat) : Obj → Prop := fun o => o.cls = .type "list_iterator" ∧ o.data = .fields #[.ref l, .int i 0]
/-- what enumerate gives -/
def enumV : Nat → List V → List V
  | _, [] => []
  | i, x :: l => .tup [.int i, x] :: enumV (i + 1) l
theorem enumV_length : ∀ (l : List V) (i : Nat), (enumV i l).length = l.length
  | [], _ => rfl
  | _ :: l, i => by simp [enumV, enumV_length l]
theorem enumV_get : ∀ (l : List V) (i j : Nat) (u : V), (enumV i l)[j]? = some u → ∃ x, l[j]? = some x ∧ u = .tup [.int ((i + j : Nat) : Int), x]
  | [], _, _, _, h => by simp [enumV] at h
  | x :: l, i, 0, u, h => by simp [enumV] at h; exact ⟨x, rfl, h.symm⟩
  | x :: l, i, j + 1, u, h => by
    simp only [enumV, List.getElem?_cons_succ] at h
    obtain ⟨y, h1, h2⟩ := enumV_get l (i + 1) j u h
    exact ⟨y, by simpa using h1, by rw [h2]; congr 3; omega⟩
theorem enum_end {e it l : Addr} {i : Nat} {items : Array Value} {old : Value} {oi ol : Obj} {nl : Nat} {Q : Option Value → Shared → Prop} {E : Value → Shared → Prop} (hh : A.handled = none)
    (he : IsEnum s.heap e it i old) (hit : s.heap.get? it = some oi) (hc : oi.cls = .type "list_iterator") (hd : oi.data = .fields #[.ref l, .int i 0]) (hol : s.heap.get? l = some ol) (hdl : ol.data = .seq items nl) (hx : items[i]? = none)
    (hQ : ∀ h', Heap.ExtBut it s.heap h' → (∃ o, h'.get? it = some o) → Q none { s with heap := h' }) : wpAny (model M.prog M.w) A (pyNext (.ref e)) Q E s := by
  have hT : s.TypeIs (.ref e) "enumerate" := ⟨_, he, rfl⟩
  have hTi : s.TypeIs (.ref it) "list_iterator" := ⟨_, hit, hc⟩
  unfold pyNext
  refine wpAny_bind (wpAny_attempt (wpAny_callSpecial?_slot (name := Str.ofString "__next__") hT F.slot_enumerate_next
    (wpAny_call_entry F.slot_enumerate_next hT F.entry_enumerate_next ?_ (F.args_enumerate_next_1 _))))
  show wpAny _ _ (field (.ref e) 2 >>= _) _ _ _
  refine wpAny_bind (wpAny_field he rfl (x := .ref it) rfl ?_)
  refine wpAny_bind ?_
  unfold Builtin.SmallTypes.nextOf
  refine wpAny_bind (wpAny_callSpecial?_slot (name := Str.ofString "__next__") hTi slot_listiter_next
    (wpAny_call_entry slot_listiter_next hTi entry_listiter_next ?_ (args_listiter_next _)))
  show wpAny _ _ (field (.ref it) 0 >>= _) _ _ s
  refine wpAny_bind (wpAny_field hit hd (x := .ref l) rfl ?_)
  show wpAny _ _ (if (Value.ref l == Value.none) = true then _ else _) _ _ s
  rw [if_neg (show ¬ ((Value.ref l == Value.none) = true) from Bool.false_ne_true)]
  show wpAny _ _ (field (.ref it) 1 >>= _) _ _ s
  refine wpAny_bind (wpAny_field hit hd (x := .int i 0) rfl ?_)
  show wpAny _ _ (seqItems? (.ref l) >>= _) _ _ s
  refine wpAny_bind (wpAny_seqItems hol hdl ?_)
  simp only [Int.toNat_natCast, hx]
  refine wpAny_bind (wpAny_rule (wpAny_bind (wpAny_setField hit hd (by simp) ?_)))
  show wpAny _ _ (newExc (.type "StopIteration") [] >>= _) _ _ _
  refine wpAny_bind ?_
  simp only [newExc, newTuple]
  refine wpAny_bind (wpAny_newObj_type ?_ (by size_fits))
  refine wpAny_bind (m := firstArgMember _ _) (wpAny_of_eq (a := Value.none) (by first | rfl | (simp only [firstArgMember]; rfl)) ?_)
  refine wpAny_newObj_type ?_ (by size_fits)
  simp only [raiseNew]
  refine wpAny_bind (wpAny_handled ?_)
  rw [show A.in1.in1.handled = none from hh]
  refine wpAny_bind (wpAny_pure (wpAny_throw ?_))
  refine wpAny_bind (wpAny_isInstance (T := "StopIteration") (b := true) ⟨_, Heap.get?_push_size _ rfl, rfl⟩ isSubtype_stop ?_)
  exact wpAny_pure (hQ _ (((Heap.SameBut.update ..).extBut.push _).push _) ⟨_, Heap.get?_push_of_some _ (Heap.get?_push_of_some _ (Heap.get?_update_self _ hit (Obj.isFreed_of_fields (Obj.data_mapFields hd _))))⟩)
theorem walk_enum {ts : List PySem.Expr} {kk : Nat} {tp : Pos} {e it l : Addr} {xs : List V} (hd : A.handled = none) :
    Walk M A (.Tuple ts kk tp) (.ref e) (fun rem => [(e, .p (enumP it (xs.length - rem.length))), (it, .p (liP l (xs.length - rem.length)))]) (fun B rem cs' => (l, MO.lst .list xs) ∈ cs' ∧ ∃ pre, enumV 0 xs = pre ++ rem) where
  next B s u rem cs' S' hD Q E hQ := by
    obtain ⟨hsrc, pre, hx⟩ := hD
    have hlen : xs.length = pre.length + (rem.length + 1) := by have := congrArg List.length hx; rw [enumV_length] at this; simpa using this
    have hi : xs.length - (u :: rem).length = pre.length := by simp; omega
    have hi' : xs.length - rem.length = pre.length + 1 := by omega
    rw [hi] at S' hQ
    rw [hi'] at hQ
    obtain ⟨oe, hoe, ⟨old, rfl⟩, hde⟩ := S'.own (e, .p (enumP it pre.length)) (List.mem_append_right _ (.head _))
    obtain ⟨oi, hoi, ⟨hic, hid⟩, hdi⟩ := S'.own (it, .p (liP l pre.length)) (List.mem_append_right _ (.tail _ (.head _)))
    have S0 : St M.C M.S A B cs' s := S'.left
    have hne : e ≠ it := fun q => by
      have h2 := S'.nd
      rw [Cells.ad, List.map_append, List.nodup_append] at h2
      have h3 := h2.2.1
      simp only [List.map_cons, List.map_nil, List.nodup_cons, List.mem_singleton] at h3
      exact h3.1 q
    obtain ⟨d', vs', n', e', hdk, rs'⟩ := S0.own _ hsrc
    have hu : (enumV 0 xs)[pre.length]? = some u := by rw [hx]; simp
    obtain ⟨y, hy, hu2⟩ := enumV_get xs 0 pre.length u hu
    rw [show 0 + pre.length = pre.length by omega] at hu2
    subst hu2
    obtain ⟨b, hb, rb⟩ := rs'.get hy
    refine wpAny_pyNext_enum_item (items := vs'.toArray) hoe ⟨oi, hoi, hic, hid⟩ ⟨_, e', rfl, n', rfl⟩ (by simpa using hb) hne fun h' he' hit' ht' hsz hk' => ?_
    refine ⟨_, rfl, ?_⟩
    refine wpAny_letOwnedTupleGo_enum he' fun h'' he'' hsb => ?_
    have hk'' : ∀ c o, c ≠ e → c ≠ it → s.heap.get? c = some o → h''.get? c = some o := fun c o h1 h2 e => hsb.extBut c o h1 (hk' c o h1 h2 e)
    obtain ⟨oi', hoi', hic', hid'⟩ := hit'
    obtain ⟨S₁, F₁⟩ := S'.two (m' := .p (enumP it (pre.length + 1))) (k' := .p (liP l (pre.length + 1))) hk'' ⟨_, he'', ⟨b, rfl⟩, isD_no_fields⟩ ⟨oi', hsb.extBut _ _ (Ne.symm hne) hoi', ⟨hic', hid'⟩, fun ⟨_, _, q⟩ => by rw [hid'] at q; cases q⟩ trivial trivial
      (fun o q => by rw [hoe] at q; cases q; exact hde) (fun o q => by rw [hoi] at q; cases q; exact hdi) (s.toks + 1)
    have hT0 : s.heap.get? s.heap.objs.size = none := size_none _
    have hTe : s.heap.objs.size ≠ e := Ne.symm (Nat.ne_of_lt (Heap.lt_size hoe))
    have hT2 : h''.get? s.heap.objs.size = some { cls := .type "tuple", data := .seq #[.int pre.length s.toks, b] } := hsb.extBut _ _ hTe ht'
    obtain ⟨S₂, F₂, l₂, e₂⟩ := S₁.adoptB F₁ (S'.B_none hT0) hT0 (fun hm => S'.ne_size (by simpa [Cells.ad] using hm) rfl) hT2 (off_frames S' hT0)
    exact hQ _ _ _ S₂ F₂ (.tup (vs := [.int pre.length s.toks, b]) (n := 0) e₂ (.cons (.int _ _) (.cons (rb.mono l₂) .nil)))
  stop B s cs' S' hD Q E hQ := by
    obtain ⟨hsrc, pre, hx⟩ := hD
    have hlen : xs.length = pre.length := by have := congrArg List.length hx; rw [enumV_length] at this; simpa using this
    rw [show xs.length - ([] : List V).length = pre.length by simp; omega] at S' hQ
    obtain ⟨oe, hoe, ⟨old, rfl⟩, hde⟩ := S'.own (e, .p (enumP it pre.length)) (List.mem_append_right _ (.head _))
    obtain ⟨oi, hoi, ⟨hic, hid⟩, hdi⟩ := S'.own (it, .p (liP l pre.length)) (List.mem_append_right _ (.tail _ (.head _)))
    obtain ⟨d', vs', n', e', hdk, rs'⟩ := S'.left.own _ hsrc
    refine enum_end (items := vs'.toArray) hd hoe hoi hic hid e' rfl (by simp [rs'.length, hlen]) fun h' hx' hex => ?_
    have S1 : St M.C M.S A B ((cs' ++ [(e, .p (enumP it pre.length))]) ++ [(it, .p (liP l pre.length))]) s := by rw [List.append_assoc]; exact S'
    obtain ⟨S₃, F₃⟩ := S1.forget (h' := h') hx' (fun o q => by rw [hoi] at q; cases q; exact hdi) hex s.toks
    refine hQ _ S₃.left ?_
    exact F₃.perm (fun a => by rw [List.append_assoc]; exact Iff.rfl) fun a ha => by rw [Cells.ad, List.map_append]; exact List.mem_append_left _ ha
/-- for i, x in enumerate(a list of its own): body -/
theorem ex_for_enum {ts : List PySem.Expr} {kk : Nat} {tp : Pos} {iter : PySem.Expr} {body : List Stmt} {pos : Pos} {PF : Fl → Cells → Prop} (hd : A.handled = none) (Inv : List V → Cells → Prop)
    (h : EV M A env iter cs (fun x c => ∃ e it l xs c₁, x = .ref e ∧ c.Perm (c₁ ++ [(e, .p (enumP it 0)), (it, .p (liP l 0))]) ∧ Inv (enumV 0 xs) c₁ ∧ (∀ rem cs', Inv rem cs' → (l, MO.lst .list xs) ∈ cs' ∧ ∃ pre, enumV 0 xs = pre ++ rem) ∧
      (∀ u rem cs', Inv (u :: rem) cs' → AS M A env (.Tuple ts kk tp) u cs' (fun cs'' => EXs M A env body cs'' (fun fl c => match fl with | .next | .cont => ∃ c', View M c c' ∧ Inv rem c' | .brk => PF .next c | .ret r => PF (.ret r) c) NoX) NoX) ∧
      (∀ cs', Inv [] cs' → PF .next cs')) X)
    (hs : ∀ x, foldedSetIterable iter env x = pure x := by intro _; rfl) :
    EX M A env (.For (.Tuple ts kk tp) iter body [] pos) cs PF X := ⟨fun B s hst hp => by
  refine wpAny_For (wpAny_mono (h.it B s hst trivial) (fun x₀ s₁ ⟨B₁, cs₁, x, S₁, F₁, R₁, e, it, l, xs, c₁, hx, hpm, i0, hsrc, hturn, hend⟩ => ?_) fun _ _ x => x) hs
  subst hx
  cases R₁
  have S₂ := S₁.perm hpm
  have F₂ := F₁.perm (cs₁' := c₁ ++ [(e, .p (enumP it 0)), (it, .p (liP l 0))]) (fun _ => Iff.rfl) fun a ha => ((hpm.map Prod.fst).mem_iff.mpr ha)
  obtain ⟨oe, hoe, ⟨old, rfl⟩, hde⟩ := S₂.own (e, .p (enumP it 0)) (List.mem_append_right _ (.head _))
  refine wpAny_pyIter_enum hoe ?_
  have e0 : xs.length - (enumV 0 xs).length = 0 := by rw [enumV_length]; exact Nat.sub_self _
  have core := for_core (walk_enum (M := M) (A := A) (ts := ts) (kk := kk) (tp := tp) (e := e) (it := it) (l := l) (xs := xs) hd) (env := env) (body := body) (PF := PF) (B := B₁) (B₀ := B) (s₀ := s) (cs₀ := cs) Inv
    (fun B' rem cs' hle hi => hsrc _ _ hi) hturn hend i0 (by rw [e0]; exact S₂) (by rw [e0]; exact F₂)
  exact codeAny_mono core (fun r s' hr => by cases r with | ok f => exact hr | error e => exact hr.elim)⟩
/-- enumerate of a list of its own -/
theorem cl_enum {l : Addr} {xs : List V} (hm : (l, MO.lst .list xs) ∈ cs) (h : ∀ e it, PV (.ref e) ((e, .p (enumP it 0)) :: (it, .p (liP l 0)) :: cs)) : CL M A (.type "enumerate") [.ref l] cs PV X := ⟨fun vs B s hs r => by
  cases r with | cons r rs
  cases rs with | nil
  cases r
  obtain ⟨d, ws, n, e, hd, rs⟩ := hs.own _ hm
  refine call_enumerate_list (items := ws.toArray) ⟨_, e, rfl, n, rfl⟩ fun h' he hit hsz hk => ?_
  obtain ⟨oi, hoi, hic, hid⟩ := hit
  have hn1 : s.heap.get? (s.heap.objs.size + 1) = none := by
    cases q : s.heap.get? (s.heap.objs.size + 1) with
    | none => rfl
    | some o => exact absurd (Heap.lt_size q) (Nat.not_lt.mpr (Nat.le_succ _))
  have nin : ∀ a, s.heap.get? a = none → a ∉ cs.ad := fun a he q => by obtain ⟨o, e'⟩ := hs.there q; rw [he] at e'; cases e'
  obtain ⟨S₁, F₁⟩ := hs.grow hk s.toks
  obtain ⟨S₂, F₂⟩ := S₁.adopt (e := s.heap.objs.size) (m := .p (liP l 0)) F₁ (hs.B_none (size_none _)) (size_none _) (nin _ (size_none _)) ⟨oi, hoi, ⟨hic, hid⟩, fun ⟨_, _, q⟩ => by rw [hid] at q; cases q⟩ trivial
  obtain ⟨S₃, F₃⟩ := S₂.adopt (e := s.heap.objs.size + 1) (m := .p (enumP s.heap.objs.size 0)) F₂ (hs.B_none hn1) hn1 (fun hm => by
    rcases List.mem_cons.mp hm with q | q
    · exact Nat.succ_ne_self _ q
    · exact nin _ hn1 q) ⟨_, he, ⟨.none, rfl⟩, isD_no_fields⟩ trivial
  exact ⟨B, _, _, S₃, F₃, .ref _, h _ _⟩⟩
end
end Mine

end
section
open PySem PySem.W PySem.W.X PyProof.Rows
open PySem.AutoSeq1 (wpAny_loadPart')
set_option Elab.async false
set_option maxRecDepth 100000
set_option linter.unusedVariables false
set_option linter.unusedSimpArgs false
namespace Mine
abbrev liOb (l : Addr) : Obj := { cls := .type "list_iterator", data := .fields #[.ref l, .int 0 0] }
set_option maxHeartbeats 1000000 in
theorem meets_enum_seq {prog : Program} {w : World} (l : Addr) (o : Obj) :
    MeetsIn prog w (Builtin.«enumerate.__new__» ⟨[.type "enumerate", .ref l], []⟩) (fun _ R s => s.heap.get? l = some o ∧ (∀ (A' : Around) (Q : Value → Shared → Prop) (E : Value → Shared → Prop), Q (.ref s.heap.objs.size) { s with heap := s.heap.push (liOb l) } → wpAny (model prog w) A' (pyIter (.ref l)) Q E s) ∧
      R (.ok (.ret (.ref (s.heap.push (liOb l)).objs.size)))
        { s with heap := (s.heap.push (liOb l)).push { cls := .type "enumerate", data := .fields #[.none, .bool false, .ref s.heap.objs.size, rawInt 0, .none, .none] } }) :=
  .of_wp fun A R s h => by
    obtain ⟨hp, g, d, tk, os⟩ := s; obtain ⟨hl, hi, h⟩ := h
    have hsub := sub_enumerate
    have hi' : ∀ {A' : Around} {Q : Value → Shared → Prop} {E : Value → Shared → Prop}, Q (.ref hp.objs.size) ⟨hp.push (liOb l), g, d, tk, os⟩ → wpAny (model prog w) A' (pyIter (.ref l)) Q E ⟨hp, g, d, tk, os⟩ := fun q => hi _ _ _ q
    wp_walk using wpAny_loadPart' hl, hi'
    refine wpAny_stack_any fun st => wpAny_pure ?_
    split
    · rename_i c _ _ _ _ _
      cases (c == Value.type "enumerate")
      · wp_walk using wpAny_loadPart' hl, hi'
        exact ⟨_, rfl, h⟩
      · wp_walk using wpAny_loadPart' hl, hi'
        exact ⟨_, rfl, h⟩
    · wp_walk using wpAny_loadPart' hl, hi'
      exact ⟨_, rfl, h⟩
theorem call_enum_seq {prog : Program} {w : World} {A : Around} {E : Value → Shared → Prop} {s : Shared} {l : Addr} {o : Obj} {Q : Value → Shared → Prop} (hl : s.heap.get? l = some o) (hi : ∀ (A' : Around) (Q : Value → Shared → Prop) (E : Value → Shared → Prop), Q (.ref s.heap.objs.size) { s with heap := s.heap.push (liOb l) } → wpAny (model prog w) A' (pyIter (.ref l)) Q E s)
    (h : ∀ h', IsEnum h' (s.heap.objs.size + 1) s.heap.objs.size 0 .none → h'.IsListIter s.heap.objs.size l 0 → h'.objs.size = s.heap.objs.size + 2 →
      (∀ b o, s.heap.get? b = some o → h'.get? b = some o) → Q (.ref (s.heap.objs.size + 1)) { s with heap := h' }) :
    wpAny (model prog w) A (call (.type "enumerate") [.ref l]) Q E s := by
  refine callType_newIn F.called_enumerate (by decide) (F.typeCall_enumerate_1 _) (F.newCall_enumerate_1 _) (fun obj => F.args_object_init_2 obj _) F.entry_enumerate_new
    (meets_enum_seq l o) ⟨hl, hi, ?_⟩
  have hz : (s.heap.push { cls := .type "list_iterator", data := .fields #[.ref l, .int 0 0] }).objs.size = s.heap.objs.size + 1 := Heap.size_push ..
  show _ ∧ _
  rw [hz]
  have he : IsEnum ((s.heap.push { cls := .type "list_iterator", data := .fields #[.ref l, .int 0 0] }).push
      { cls := .type "enumerate", data := .fields #[.none, .bool false, .ref s.heap.objs.size, rawInt 0, .none, .none] }) (s.heap.objs.size + 1) s.heap.objs.size 0 .none := by
    have := Heap.get?_push_size (s.heap.push { cls := .type "list_iterator", data := .fields #[.ref l, .int 0 0] })
      (o := { cls := .type "enumerate", data := .fields #[.none, .bool false, .ref s.heap.objs.size, rawInt 0, .none, .none] }) rfl
    rw [hz] at this; exact this
  exact ⟨⟨_, he, rfl⟩, h _ he ⟨_, Heap.get?_push_of_some _ (Heap.get?_push_size _ rfl), rfl, rfl⟩ (by rw [Heap.size_push, hz]) fun b o x => Heap.get?_push_of_some _ (Heap.get?_push_of_some _ x)⟩
/-- what an iterator over any sequence gives -/
theorem draws_seq {prog : Program} {w : World} {A : Around} (hh : A.handled = none) (it l : Addr) (ol : Obj) (items : Array Value) (nl : Nat) (hd : ol.data = .seq items nl) :
    Draws prog w A it [it, l] items.size (fun i v => items[i]? = some v) (fun i h => h.IsListIter it l i ∧ h.get? l = some ol) where
  live := fun _ _ ⟨⟨o, ho, _⟩, _⟩ => ⟨o, ho⟩
  frame := fun _ _ _ ⟨⟨o, ho, r⟩, hl⟩ hk => ⟨⟨o, hk it (by simp) o ho, r⟩, hk l (by simp) _ hl⟩
  item := fun i s Q E hi ⟨hit, hl⟩ hQ => by
    obtain ⟨o, ho, hc, hdt⟩ := id hit
    have hx : items[i]? = some items[i] := Array.getElem?_eq_getElem hi
    have hne : it ≠ l := fun q => by rw [q, hl] at ho; cases ho; rw [hd] at hdt; cases hdt
    unfold Builtin.SmallTypes.nextOf
    refine wpAny_bind (wpAny_callSpecial?_slot (name := Str.ofString "__next__") hit.typeIs slot_listiter_next
      (wpAny_call_entry slot_listiter_next hit.typeIs entry_listiter_next ?_ (args_listiter_next _)))
    show wpAny _ _ (field (.ref it) 0 >>= _) _ _ s
    refine wpAny_bind (wpAny_field ho hdt (x := .ref l) rfl ?_)
    show wpAny _ _ (if (Value.ref l == Value.none) = true then _ else _) _ _ s
    rw [if_neg (show ¬ ((Value.ref l == Value.none) = true) from Bool.false_ne_true)]
    show wpAny _ _ (field (.ref it) 1 >>= _) _ _ s
    refine wpAny_bind (wpAny_field ho hdt (x := .int i 0) rfl ?_)
    show wpAny _ _ (seqItems? (.ref l) >>= _) _ _ s
    refine wpAny_bind (wpAny_seqItems hl hd ?_)
    simp only [Int.toNat_natCast, hx]
    refine wpAny_bind (wpAny_setField ho hdt (by simp) (wpAny_pure ⟨items[i], rfl, wpAny_pure (hQ items[i] _ s.toks hx ⟨?_, (Heap.get?_update_other _ _ hne).trans hl⟩ (Heap.SameBut.update ..))⟩))
    exact ⟨_, Heap.get?_update_self _ ho (Obj.isFreed_of_fields (Obj.data_mapFields hdt _)), (Obj.cls_mapFields ..).trans hc, by
      rw [Obj.data_mapFields hdt]; simp [rawInt]⟩
  done := fun s Q E ⟨hit, hl⟩ hE => by
    obtain ⟨o, ho, hc, hdt⟩ := id hit
    unfold Builtin.SmallTypes.nextOf
    refine wpAny_bind (wpAny_callSpecial?_slot (name := Str.ofString "__next__") hit.typeIs slot_listiter_next
      (wpAny_call_entry slot_listiter_next hit.typeIs entry_listiter_next ?_ (args_listiter_next _)))
    show wpAny _ _ (field (.ref it) 0 >>= _) _ _ s
    refine wpAny_bind (wpAny_field ho hdt (x := .ref l) rfl ?_)
    show wpAny _ _ (if (Value.ref l == Value.none) = true then _ else _) _ _ s
    rw [if_neg (show ¬ ((Value.ref l == Value.none) = true) from Bool.false_ne_true)]
    show wpAny _ _ (field (.ref it) 1 >>= _) _ _ s
    refine wpAny_bind (wpAny_field ho hdt (x := .int items.size 0) rfl ?_)
    show wpAny _ _ (seqItems? (.ref l) >>= _) _ _ s
    refine wpAny_bind (wpAny_seqItems hl hd ?_)
    have hx : items[items.size]? = none := Array.getElem?_eq_none (Nat.le_refl _)
    simp only [Int.toNat_natCast, hx]
    refine wpAny_bind (wpAny_rule (wpAny_bind (wpAny_setField ho hdt (by simp) ?_)))
    show wpAny _ _ (newExc (.type "StopIteration") [] >>= _) _ _ _
    refine wpAny_bind ?_
    simp only [newExc, newTuple]
    refine wpAny_bind (wpAny_newObj_type ?_ (by size_fits))
    refine wpAny_bind (m := firstArgMember _ _) (wpAny_of_eq (a := Value.none) (by first | rfl | (simp only [firstArgMember]; rfl)) ?_)
    refine wpAny_newObj_type ?_ (by size_fits)
    simp only [raiseNew]
    refine wpAny_bind (wpAny_handled ?_)
    first | rw [show A.in1.handled = none from hh] | rw [hh]
    refine wpAny_bind (wpAny_pure (wpAny_throw ?_))
    exact hE _ _ (((Heap.SameBut.update ..).extBut.push _).push _) ⟨_, Heap.get?_push_size _ rfl, rfl⟩
section
variable {M : Md} {A : Around} {fin cs c₂ : Cells} {X : Value → Cells → Prop} {env : Env} {PV : V → Cells → Prop} {PF : Fl → Cells → Prop} {PU : Unit → Cells → Prop}
theorem cl_enum_t (TO : TagsOk M) {l : Addr} {k : LK} {xs : List V} (hm : (l, MO.lst k xs) ∈ cs) (h : ∀ e it, PV (.ref e) ((e, .p (enumP it 0)) :: (it, .p (liP l 0)) :: cs)) : CL M A (.type "enumerate") [.ref l] cs PV X := ⟨fun vs B s hs r => by
  cases r with | cons r rs
  cases rs with | nil
  cases r
  obtain ⟨d, ws, n, e, hd, rs⟩ := hs.own _ hm
  refine call_enum_seq e (fun A' Q E q => iter_seq TO hs.keepS e q) fun h' he hit hsz hk => ?_
  obtain ⟨oi, hoi, hic, hid⟩ := hit
  have hn1 : s.heap.get? (s.heap.objs.size + 1) = none := by
    cases q : s.heap.get? (s.heap.objs.size + 1) with
    | none => rfl
    | some o => exact absurd (Heap.lt_size q) (Nat.not_lt.mpr (Nat.le_succ _))
  have nin : ∀ a, s.heap.get? a = none → a ∉ cs.ad := fun a he q => by obtain ⟨o, e'⟩ := hs.there q; rw [he] at e'; cases e'
  obtain ⟨S₁, F₁⟩ := hs.grow hk s.toks
  obtain ⟨S₂, F₂⟩ := S₁.adopt (e := s.heap.objs.size) (m := .p (liP l 0)) F₁ (hs.B_none (size_none _)) (size_none _) (nin _ (size_none _)) ⟨oi, hoi, ⟨hic, hid⟩, fun ⟨_, _, q⟩ => by rw [hid] at q; cases q⟩ trivial
  obtain ⟨S₃, F₃⟩ := S₂.adopt (e := s.heap.objs.size + 1) (m := .p (enumP s.heap.objs.size 0)) F₂ (hs.B_none hn1) hn1 (fun hm => by
    rcases List.mem_cons.mp hm with q | q
    · exact Nat.succ_ne_self _ q
    · exact nin _ hn1 q) ⟨_, he, ⟨.none, rfl⟩, isD_no_fields⟩ trivial
  exact ⟨B, _, _, S₃, F₃, .ref _, h _ _⟩⟩
theorem walk_enum_t {ts : List PySem.Expr} {kk : Nat} {tp : Pos} {e it l : Addr} {k : LK} {xs : List V} (hd : A.handled = none) :
    Walk M A (.Tuple ts kk tp) (.ref e) (fun rem => [(e, .p (enumP it (xs.length - rem.length))), (it, .p (liP l (xs.length - rem.length)))]) (fun B rem cs' => (l, MO.lst k xs) ∈ cs' ∧ ∃ pre, enumV 0 xs = pre ++ rem) where
  next B s u rem cs' S' hD Q E hQ := by
    obtain ⟨hsrc, pre, hx⟩ := hD
    have hlen : xs.length = pre.length + (rem.length + 1) := by have := congrArg List.length hx; rw [enumV_length] at this; simpa using this
    have hi : xs.length - (u :: rem).length = pre.length := by simp; omega
    have hi' : xs.length - rem.length = pre.length + 1 := by omega
    rw [hi] at S' hQ
    rw [hi'] at hQ
    obtain ⟨oe, hoe, ⟨old, rfl⟩, hde⟩ := S'.own (e, .p (enumP it pre.length)) (List.mem_append_right _ (.head _))
    obtain ⟨oi, hoi, ⟨hic, hid⟩, hdi⟩ := S'.own (it, .p (liP l pre.length)) (List.mem_append_right _ (.tail _ (.head _)))
    have S0 : St M.C M.S A B cs' s := S'.left
    have hne : e ≠ it := fun q => by
      have h2 := S'.nd
      rw [Cells.ad, List.map_append, List.nodup_append] at h2
      have h3 := h2.2.1
      simp only [List.map_cons, List.map_nil, List.nodup_cons, List.mem_singleton] at h3
      exact h3.1 q
    obtain ⟨d', vs', n', e', hdk, rs'⟩ := S0.own _ hsrc
    have hel : e ≠ l := fun q => by
      subst q
      rw [hoe] at e'
      injection e' with e1
      have e2 := congrArg Obj.data e1
      cases e2
    have hu : (enumV 0 xs)[pre.length]? = some u := by rw [hx]; simp
    obtain ⟨y, hy, hu2⟩ := enumV_get xs 0 pre.length u hu
    rw [show 0 + pre.length = pre.length by omega] at hu2
    subst hu2
    obtain ⟨b, hb, rb⟩ := rs'.get hy
    refine wpAny_pyNext_enum_itemD (draws_seq (A := A.in1) hd it l _ vs'.toArray n' rfl) hoe ⟨⟨oi, hoi, hic, hid⟩, e'⟩ (by rw [List.size_toArray, rs'.length]; omega) hne (by simp [hne, hel]) fun x h' tk hP he' ⟨hit', _⟩ ht' hsz hk' => ?_
    have hxb : x = b := by
      have h1 : vs'.toArray[pre.length]? = some b := by simpa using hb
      have hP' : vs'.toArray[pre.length]? = some x := hP
      rw [h1] at hP'
      exact (Option.some.inj hP').symm
    subst hxb
    refine ⟨_, rfl, ?_⟩
    refine wpAny_letOwnedTupleGo_enum he' fun h'' he'' hsb => ?_
    have hk'' : ∀ c o, c ≠ e → c ≠ it → s.heap.get? c = some o → h''.get? c = some o := fun c o h1 h2 e => hsb.extBut c o h1 (hk' c o h1 h2 e)
    obtain ⟨oi', hoi', hic', hid'⟩ := hit'
    obtain ⟨S₁, F₁⟩ := S'.two (m' := .p (enumP it (pre.length + 1))) (k' := .p (liP l (pre.length + 1))) hk'' ⟨_, he'', ⟨x, rfl⟩, isD_no_fields⟩ ⟨oi', hsb.extBut _ _ (Ne.symm hne) hoi', ⟨hic', hid'⟩, fun ⟨_, _, q⟩ => by rw [hid'] at q; cases q⟩ trivial trivial
      (fun o q => by rw [hoe] at q; cases q; exact hde) (fun o q => by rw [hoi] at q; cases q; exact hdi) (tk + 1)
    have hT0 : s.heap.get? s.heap.objs.size = none := size_none _
    have hTe : s.heap.objs.size ≠ e := Ne.symm (Nat.ne_of_lt (Heap.lt_size hoe))
    have hT2 : h''.get? s.heap.objs.size = some { cls := .type "tuple", data := .seq #[.int pre.length tk, x] } := hsb.extBut _ _ hTe ht'
    obtain ⟨S₂, F₂, l₂, e₂⟩ := S₁.adoptB F₁ (S'.B_none hT0) hT0 (fun hm => S'.ne_size (by simpa [Cells.ad] using hm) rfl) hT2 (off_frames S' hT0)
    exact hQ _ _ _ S₂ F₂ (.tup (vs := [.int pre.length tk, x]) (n := 0) e₂ (.cons (.int _ _) (.cons (rb.mono l₂) .nil)))
  stop B s cs' S' hD Q E hQ := by
    obtain ⟨hsrc, pre, hx⟩ := hD
    have hlen : xs.length = pre.length := by have := congrArg List.length hx; rw [enumV_length] at this; simpa using this
    rw [show xs.length - ([] : List V).length = pre.length by simp; omega] at S' hQ
    obtain ⟨oe, hoe, ⟨old, rfl⟩, hde⟩ := S'.own (e, .p (enumP it pre.length)) (List.mem_append_right _ (.head _))
    obtain ⟨oi, hoi, ⟨hic, hid⟩, hdi⟩ := S'.own (it, .p (liP l pre.length)) (List.mem_append_right _ (.tail _ (.head _)))
    obtain ⟨d', vs', n', e', hdk, rs'⟩ := S'.left.own _ hsrc
    refine enum_end (items := vs'.toArray) hd hoe hoi hic hid e' rfl (by simp [rs'.length, hlen]) fun h' hx' hex => ?_
    have S1 : St M.C M.S A B ((cs' ++ [(e, .p (enumP it pre.length))]) ++ [(it, .p (liP l pre.length))]) s := by rw [List.append_assoc]; exact S'
    obtain ⟨S₃, F₃⟩ := S1.forget (h' := h') hx' (fun o q => by rw [hoi] at q; cases q; exact hdi) hex s.toks
    refine hQ _ S₃.left ?_
    exact F₃.perm (fun a => by rw [List.append_assoc]; exact Iff.rfl) fun a ha => by rw [Cells.ad, List.map_append]; exact List.mem_append_left _ ha
/-- for i, x in enumerate(a list of its own, of either kind): body -/
theorem ex_for_enum_t {ts : List PySem.Expr} {kk : Nat} {tp : Pos} {iter : PySem.Expr} {body : List Stmt} {pos : Pos} {k : LK} (hd : A.handled = none) (Inv : List V → Cells → Prop)
    (h : EV M A env iter cs (fun x c => ∃ e it l xs c₁, x = .ref e ∧ c.Perm (c₁ ++ [(e, .p (enumP it 0)), (it, .p (liP l 0))]) ∧ Inv (enumV 0 xs) c₁ ∧ (∀ rem cs', Inv rem cs' → (l, MO.lst k xs) ∈ cs' ∧ ∃ pre, enumV 0 xs = pre ++ rem) ∧
      (∀ u rem cs', Inv (u :: rem) cs' → AS M A env (.Tuple ts kk tp) u cs' (fun cs'' => EXs M A env body cs'' (fun fl c => match fl with | .next | .cont => ∃ c', View M c c' ∧ Inv rem c' | .brk => PF .next c | .ret r => PF (.ret r) c) NoX) NoX) ∧
      (∀ cs', Inv [] cs' → PF .next cs')) X)
    (hs : ∀ x, foldedSetIterable iter env x = pure x := by intro _; rfl) :
    EX M A env (.For (.Tuple ts kk tp) iter body [] pos) cs PF X := ⟨fun B s hst hp => by
  refine wpAny_For (wpAny_mono (h.it B s hst trivial) (fun x₀ s₁ ⟨B₁, cs₁, x, S₁, F₁, R₁, e, it, l, xs, c₁, hx, hpm, i0, hsrc, hturn, hend⟩ => ?_) fun _ _ x => x) hs
  subst hx
  cases R₁
  have S₂ := S₁.perm hpm
  have F₂ := F₁.perm (cs₁' := c₁ ++ [(e, .p (enumP it 0)), (it, .p (liP l 0))]) (fun _ => Iff.rfl) fun a ha => ((hpm.map Prod.fst).mem_iff.mpr ha)
  obtain ⟨oe, hoe, ⟨old, rfl⟩, hde⟩ := S₂.own (e, .p (enumP it 0)) (List.mem_append_right _ (.head _))
  refine wpAny_pyIter_enum hoe ?_
  have e0 : xs.length - (enumV 0 xs).length = 0 := by rw [enumV_length]; exact Nat.sub_self _
  have core := for_core (walk_enum_t (M := M) (A := A) (ts := ts) (kk := kk) (tp := tp) (e := e) (it := it) (l := l) (k := k) (xs := xs) hd) (env := env) (body := body) (PF := PF) (B := B₁) (B₀ := B) (s₀ := s) (cs₀ := cs) Inv
    (fun B' rem cs' hle hi => hsrc _ _ hi) hturn hend i0 (by rw [e0]; exact S₂) (by rw [e0]; exact F₂)
  exact codeAny_mono core (fun r s' hr => by cases r with | ok f => exact hr | error e => exact hr.elim)⟩
end
end Mine

end
section
open PySem PySem.W PySem.W.X PyProof.Rows
set_option Elab.async false
set_option maxRecDepth 100000
set_option linter.unusedVariables false
set_option linter.unusedSimpArgs false
namespace Mine
abbrev rangeOb2 (a b : Int) (t u v : Tok) : Obj := { cls := .type "range", data := .fields #[.int a t, .int b u, .int 1 v] }
theorem upto_cons {i k : Nat} {u : V} {rem : List V} (h : u :: rem = upto i k) : k = rem.length + 1 ∧ u = .int (i : Int) ∧ rem = upto (i + 1) rem.length := by
  cases k with
  | zero => cases h
  | succ k =>
    rw [upto] at h
    obtain ⟨h1, h2⟩ := List.cons.inj h
    have : k = rem.length := by rw [h2, upto_length]
    subst this
    exact ⟨rfl, h1, h2⟩
theorem walk_range2 {M : Md} {A : Around} {target : PySem.Expr} {I : Addr} {N : Nat} (hd : A.handled = none) :
    Walk M A target (.ref I) (fun rem => [(I, .obj (rangeIt (N - rem.length) rem.length))]) (fun B rem cs' => rem = upto (N - rem.length) rem.length ∧ rem.length ≤ N) := walk_range hd
section
variable {M : Md} {A : Around} {fin cs c₂ : Cells} {X : Value → Cells → Prop} {env : Env} {PV : V → Cells → Prop} {PF : Fl → Cells → Prop} {PU : Unit → Cells → Prop}
/-- a def whose code was made before -/
theorem ex_def_hit {name : Str} {params : Arguments} {body : List Stmt} {scope : Scope} {pos : Pos} {c P c' : Addr} {ps : Array Value} {clos : List (Str × Addr)} {mg mb : Str → Option Value} {p0 : Addr × MO} {r0 : Cells} (G : Gl M.S mg mb)
    (BA : ∀ h : Heap, (∀ a o, M.S a = some o → h.get? a = some o) → h.BuiltinsAt mg P) (CH : ∀ h : Heap, (∀ a o, M.S a = some o → h.get? a = some o) → CodeHd h c P)
    (hP : (P, MO.obj (tabObj ps)) ∈ p0 :: r0) (ht : TriplesOk ps.toList) (hf : codeAmong pos ps.toList = some (.ref c')) (hcl : closureFor scope env = pure clos)
    (h : ∀ f, AN M A env name (.ref f) (p0 :: (f, .p (fun o => FnIs o (qualnameIn env name name) params body scope clos (.ref c') .none)) :: r0) (fun cs' => PF .next cs') X)
    (hcode : env.code = .ref c := by rfl) (hge : env.globals = mainGlobals := by rfl) (hd0 : params.defaults = [] := by rfl) (hk0 : params.kw_defaults = [] := by rfl) (ha : annTrees params none env = [] := by rfl) :
    EX M A env (.FunctionDef name params body [] none [] scope none name pos) (p0 :: r0) PF X := ⟨fun B s hst _ => by
  refine nestDef_K hd0 hk0 ha ?_
  have hPo : s.heap.get? P = some (tabObj ps) := hst.own _ hP
  refine makeFunction_hit hcl hge (G.g _ hst.keepS) hcode (CH _ hst.keepS) hPo ht hf (BA _ hst.keepS) fun ctv doc h' tk hk hsz => ?_
  obtain ⟨S₁, F₁⟩ := hst.grow (h' := h'.push (fnMade name (qualnameIn env name name) params body scope clos doc ((mg "__name__").getD .none) c' ctv)) (fun b o e => Heap.get?_push_of_some _ (hk b o e)) tk
  have hf0 : s.heap.get? h'.objs.size = none := by
    cases q : s.heap.get? h'.objs.size with
    | none => rfl
    | some o => exact absurd (Heap.lt_size q) (Nat.not_lt.mpr hsz)
  have nin : h'.objs.size ∉ Cells.ad (p0 :: r0) := fun hm => by
    obtain ⟨o, e⟩ := hst.there hm
    rw [hf0] at e; cases e
  obtain ⟨S₄, F₄⟩ := S₁.adopt (e := h'.objs.size) (m := .p (fun o => FnIs o (qualnameIn env name name) params body scope clos (.ref c') .none)) F₁ (hst.B_none hf0) hf0 nin ⟨_, Heap.get?_push_size _ rfl, ⟨_, rfl, rfl, rfl, rfl, rfl, rfl, rfl, rfl, rfl, rfl, rfl⟩, fun ⟨_, _, q⟩ => by cases q⟩ trivial
  have pm2 : ((h'.objs.size, MO.p (fun o => FnIs o (qualnameIn env name name) params body scope clos (.ref c') .none)) :: p0 :: r0).Perm (p0 :: (h'.objs.size, MO.p (fun o => FnIs o (qualnameIn env name name) params body scope clos (.ref c') .none)) :: r0) := .swap ..
  have S₅ := S₄.perm pm2
  have F₅ : Fut B (p0 :: r0) s B (p0 :: (h'.objs.size, MO.p (fun o => FnIs o (qualnameIn env name name) params body scope clos (.ref c') .none)) :: r0) _ := F₄.perm (fun _ => Iff.rfl) fun a ha => ((pm2.map Prod.fst).mem_iff.mpr ha)
  refine wpAny_mono ((h h'.objs.size).it _ B _ S₅ (.ref _)) (fun _ s₂ ⟨B₂, c₂, _, S₆, F₆, _, h₂⟩ => ⟨B₂, c₂, .next, S₆, F₅.trans F₆, .next, h₂⟩) fun _ _ => PoX.step F₅⟩
/-- [elt for target in range(n)] -/
theorem ev_comprange {elt target iter : PySem.Expr} {scope : Scope} {cl : List (Str × Addr)} {pos : Pos} (hd : A.handled = none) (Inv : List V → List V → Cells → Prop)
    (hclos : closureFor scope env = pure cl)
    (h : EV M A env iter cs (fun x cs₁ => ∃ n r t u v c₁, x = .ref r ∧ n < 1000 ∧ cs₁.Perm ((r, .obj (rangeOb n t u v)) :: c₁) ∧ Inv (upto 0 n) [] c₁ ∧ (∀ rem done cs', Inv rem done cs' → done.length ≤ 10000) ∧
      (∀ C u rem done cs', Inv (u :: rem) done cs' → AS M A (compEnvC scope cl C env) target u ((C, .frame []) :: cs') (fun c => EV M A (compEnvC scope cl C env) elt c (fun y c' => ∃ loc cs'', View M c' ((C, .frame loc) :: cs'') ∧ Inv rem (done ++ [y]) cs'') NoX) NoX) ∧
      (∀ done cs', Inv [] done cs' → ∀ D, PV (.ref D) ((D, .lst .list done) :: cs'))) X)
    (hcell : ∀ y ∈ scope.names, y.2 ≠ .cell := by decide +kernel) (hkind : scope.kind = .function := by kernel_rfl)
    (hnames : ∀ x ∈ scope.names, x.2 = .local → scope.names.lookup x.1 = some .local := by decide +kernel)
    (hs : ∀ x, foldedSetIterable iter env x = pure x := by intro _; rfl) :
    EV M A env (.ListComp elt [⟨target, iter, [], 0⟩] scope pos) cs PV X := ⟨fun B s hst hp => by
  rw [eval_ListComp]
  refine wpAny_comprehension_free (use := none) rfl hs hclos hkind hnames (wpAny_mono (h.it B s hst trivial) (fun x₀ s₁ ⟨B₁, cs₁, x, S₁, F₁, R₁, n, r, t, u, v, c₁, hx, hn, hperm, i0, hlen, hturn, hend⟩ => ?_) fun _ _ e => e)
  subst hx
  cases R₁ with | ref
  have hr : s₁.heap.get? r = some (rangeOb n t u v) := S₁.own (r, .obj _) (hperm.mem_iff.mpr (.head _))
  have S₁' := (S₁.perm hperm).tail
  have F₁' : Fut B cs s B₁ c₁ s₁ := F₁.perm (fun _ => Iff.rfl) fun a ha => ((hperm.map Prod.fst).mem_iff.mpr (List.mem_cons_of_mem _ ha))
  refine wpAny_pyIter_range hr (small_one (by decide) (by decide) (by omega) (by omega)) ?_
  have hsz : Builtin.Range.rangeSize 0 (n : Int) 1 = (n : Int) := by unfold Builtin.Range.rangeSize; simp <;> omega
  rw [hsz]
  have hit0 := Heap.get?_push_size s₁.heap (o := rangeIt 0 n) rfl
  obtain ⟨hn', S₂, F₂⟩ := S₁'.alloc (o := rangeIt 0 n) (m := .obj (rangeIt 0 n)) rfl hit0 isD_no_fields s₁.toks
  have pm : (ins (s₁.heap.objs.size, MO.obj (rangeIt 0 n)) c₁).Perm (c₁ ++ [(s₁.heap.objs.size, MO.obj (rangeIt 0 n))]) := (ins_perm _ _).trans (List.perm_append_singleton _ _).symm
  generalize hI : s₁.heap.objs.size = I at *
  have S₂' := S₂.perm pm
  have F₂' : Fut B cs s B₁ (c₁ ++ [(I, MO.obj (rangeIt 0 n))]) { s₁ with heap := s₁.heap.push (rangeIt 0 n) } :=
    F₁'.trans (F₂.perm (fun _ => Iff.rfl) fun a ha => ((pm.map Prod.fst).mem_iff.mpr ha))
  have e0 : (upto 0 n).length = n := upto_length n 0
  refine comp_core (walk_range (M := M) (A := A) (target := target) (I := I) (N := n) hd) (B := B₁) (B₀ := B) (s₀ := s) (cs₀ := cs) (xs := upto 0 n) (cs₁ := c₁)
    (fun rem done c => (rem = upto (n - rem.length) rem.length ∧ rem.length ≤ n) ∧ Inv rem done c)
    (fun B' s' cs' S' Q E hQ => ?_) (fun B' rem done cs' C D hle hi => hi.1) (fun rem done cs' hi => hlen _ _ _ hi.2) (fun C u rem done cs' hi => ?_) (fun done cs' hi => hend _ _ hi.2) ⟨⟨by rw [e0, Nat.sub_self], by rw [e0]; exact Nat.le_refl _⟩, i0⟩ (by rw [e0, Nat.sub_self]; exact S₂') (by rw [e0, Nat.sub_self]; exact F₂') hcell hkind
  · have hit := S'.own (I, .obj (rangeIt (n - (upto 0 n).length) (upto 0 n).length)) (List.mem_append_right _ (.head _))
    exact wpAny_pyIter_rangeiter hit hQ
  · obtain ⟨⟨hr, hl⟩, hi⟩ := hi
    rw [List.length_cons] at hr hl
    obtain ⟨_, h1, h2⟩ := upto_cons hr
    have h3 : rem = upto (n - rem.length) rem.length := by
      have e : n - (rem.length + 1) + 1 = n - rem.length := by omega
      rw [e] at h2; exact h2
    refine ⟨fun v => Tr.mono ((hturn C u rem done cs' hi).it v) (fun _ c h => ⟨Tr.mono h.it (fun y c' ⟨loc, cs'', hv, hi'⟩ => ⟨loc, cs'', hv, ⟨h3, by omega⟩, hi'⟩) fun _ _ x => x⟩) fun _ _ x => x⟩⟩
theorem tr_range2 {a b : Int} (h : ∀ r t u v, r ∉ cs.ad → PV (.ref r) (ins (r, .obj (rangeOb2 a b t u v)) cs)) : CL M A (.type "range") [.int a, .int b] cs PV X := ⟨fun vs B s hs r => by
  cases r with | cons r rs
  cases rs with | cons r2 rs
  cases rs with | nil
  cases r with | int _ t
  cases r2 with | int _ u
  refine call_range_2 ?_
  obtain ⟨hn, S₂, F₂⟩ := hs.alloc (o := rangeOb2 a b t u s.toks) (m := .obj (rangeOb2 a b t u s.toks)) rfl (Heap.get?_push_size _ rfl) isD_no_fields (s.toks + 1)
  exact ⟨B, _, _, S₂, F₂, .ref _, h _ _ _ _ hn⟩⟩
/-- for target in range(a, b): body -/
theorem ex_for_range2 {target iter : PySem.Expr} {body : List Stmt} {pos : Pos} (hd : A.handled = none) (Inv : List V → Cells → Prop)
    (h : EV M A env iter cs (fun x cs₁ => ∃ (a n : Nat) (r : Addr) (t u v : Tok) (c₁ : Cells), x = .ref r ∧ a + n < 1000 ∧ cs₁.Perm ((r, .obj (rangeOb2 a (a + n : Nat) t u v)) :: c₁) ∧ Inv (upto a n) c₁ ∧
      (∀ i rem cs', Inv (.int i :: rem) cs' → AS M A env target (.int i) cs' (fun cs'' => EXs M A env body cs'' (fun fl c => match fl with | .next | .cont => ∃ c', View M c c' ∧ Inv rem c' | .brk => PF .next c | .ret r => PF (.ret r) c) NoX) NoX) ∧
      (∀ cs', Inv [] cs' → PF .next cs')) X)
    (hs : ∀ x, foldedSetIterable iter env x = pure x := by intro _; rfl) :
    EX M A env (.For target iter body [] pos) cs PF X := ⟨fun B s hst hp => by
  refine wpAny_For (wpAny_mono (h.it B s hst trivial) (fun x₀ s₁ ⟨B₁, cs₁, x, S₁, F₁, R₁, a, n, r, t, u, v, c₁, hx, hn, hperm, i0, hturn, hend⟩ => ?_) fun _ _ x => x) hs
  subst hx
  cases R₁ with | ref
  have hr : s₁.heap.get? r = some (rangeOb2 a (a + n : Nat) t u v) := S₁.own (r, .obj _) (hperm.mem_iff.mpr (.head _))
  have S₁' := (S₁.perm hperm).tail
  have F₁' : Fut B cs s B₁ c₁ s₁ := F₁.perm (fun _ => Iff.rfl) fun a ha => ((hperm.map Prod.fst).mem_iff.mpr (List.mem_cons_of_mem _ ha))
  refine wpAny_pyIter_range hr (small_one (by omega) (by omega) (by omega) (by omega)) ?_
  have hsz : Builtin.Range.rangeSize (a : Int) ((a + n : Nat) : Int) 1 = (n : Int) := by rw [rangeSize_one]; split <;> omega
  rw [hsz]
  have hit0 := Heap.get?_push_size s₁.heap (o := rangeIt a n) rfl
  obtain ⟨hn', S₂, F₂⟩ := S₁'.alloc (o := rangeIt a n) (m := .obj (rangeIt a n)) rfl hit0 isD_no_fields s₁.toks
  have pm : (ins (s₁.heap.objs.size, MO.obj (rangeIt a n)) c₁).Perm (c₁ ++ [(s₁.heap.objs.size, MO.obj (rangeIt a n))]) := (ins_perm _ _).trans (List.perm_append_singleton _ _).symm
  generalize hI : s₁.heap.objs.size = I at *
  have S₂' := S₂.perm pm
  have F₂' : Fut B cs s B₁ (c₁ ++ [(I, MO.obj (rangeIt a n))]) { s₁ with heap := s₁.heap.push (rangeIt a n) } :=
    F₁'.trans (F₂.perm (fun _ => Iff.rfl) fun a ha => ((pm.map Prod.fst).mem_iff.mpr ha))
  have e0 : (upto a n).length = n := upto_length n a
  have e1 : a + n - n = a := by omega
  have core := for_core (walk_range (M := M) (A := A) (target := target) (I := I) (N := a + n) hd) (env := env) (body := body) (PF := PF) (B := B₁) (B₀ := B) (s₀ := s) (cs₀ := cs) (xs := upto a n) (cs₁ := c₁)
    (fun rem c => (rem = upto (a + n - rem.length) rem.length ∧ rem.length ≤ a + n) ∧ Inv rem c)
    (fun B' rem cs' hle hi => hi.1) (fun u rem cs' hi => ?_) (fun cs' hi => hend _ hi.2) ⟨⟨by rw [e0, e1], by rw [e0]; omega⟩, i0⟩ (by rw [e0, e1]; exact S₂') (by rw [e0, e1]; exact F₂')
  · exact codeAny_mono core (fun r s' hr => by cases r with | ok f => exact hr | error e => exact hr.elim)
  · obtain ⟨⟨hr, hl⟩, hi⟩ := hi
    rw [List.length_cons] at hr hl
    obtain ⟨_, h1, h2⟩ := upto_cons hr
    have h3 : rem = upto (a + n - rem.length) rem.length := by
      have e : a + n - (rem.length + 1) + 1 = a + n - rem.length := by omega
      rw [e] at h2; exact h2
    subst h1
    refine ⟨fun v => Tr.mono ((hturn _ rem cs' hi).it v) (fun _ c h => ⟨Tr.mono h.it (fun fl c' h' => ?_) fun _ _ x => x⟩) fun _ _ x => x⟩
    cases fl with
    | next => obtain ⟨c'', a, b⟩ := h'; exact ⟨c'', a, ⟨h3, by omega⟩, b⟩
    | cont => obtain ⟨c'', a, b⟩ := h'; exact ⟨c'', a, ⟨h3, by omega⟩, b⟩
    | brk => exact h'
    | ret r => exact h'⟩
/-- an item of the text's own list set -/
theorem tr_setItem_t (TO : TagsOk M) (OS : ∀ h : Heap, (∀ a o, M.S a = some o → h.get? a = some o) → OwnSl M.prog M.w h (.ref M.C.tags) "__setitem__" "list.__setitem__" "list") {a : Addr} {xs : List V} {k : Int} {u : V} {cs' : Cells} (U : Upd a (.lst .tags xs) (.lst .tags (xs.set k.toNat u)) cs cs') (h0 : 0 ≤ k) (hk : k < xs.length) (hlen : xs.length ≤ 10000) (h : PU () cs') :
    SI M A (.ref a) (.int k) u cs PU X := ⟨fun p q r B s hs ⟨ra, rb, rc⟩ => by
  cases ra
  cases rb with | int _ tk
  obtain ⟨d, ws, n, e, hd, rs⟩ := hs.own _ U.mem
  have hl := rs.length
  have hT := typeOf_of (prog := M.prog) (w := M.w) e rfl
  unfold setItem sequenceKey
  refine wpAny_holding (wpAny_bind (wpAny_bind (hT.here ?_)))
  dsimp only [LK.cls]
  refine wpAny_bind ((TO.seq s.heap hs.keepS).here ?_)
  simp only [Bool.not_false, if_true]
  refine wpAny_pure (wpAny_bind (own_special (OS s.heap hs.keepS) hT (own_call (b := Builtin.«list.__setitem__») (OS s.heap hs.keepS) hT (args_list_setitem _ _ _) entry_list_setitem ?_)))
  show wpAny _ _ (Builtin.List.listSubscript? (.int k tk) >>= _) _ _ s
  refine wpAny_bind (wpAny_listSubscript_int (fitsIndex_of h0 (by omega)) ?_)
  obtain ⟨j, rfl⟩ := Int.eq_ofNat_of_zero_le h0
  have hj : j < ws.length := by omega
  show wpAny _ _ ((seqItemAt a j >>= fun r => pure (r.map (j, ·))) >>= _) _ _ s
  refine wpAny_bind (wpAny_bind (wpAny_seqItemAt e rfl (wpAny_pure ?_)))
  have hx : ws.toArray[j]? = some ws[j] := by simp [hj]
  rw [hx]
  show wpAny _ _ (setSeqItemAt a j r >>= _) _ _ s
  have fin : (s.heap.update a (Obj.mapSeq (·.setIfInBounds j r))).get? a = some ⟨LK.tags.cls M.C, d, .seq (ws.set j r).toArray n, #[]⟩ := by
    rw [Heap.get?_update_self _ e (by simp [Obj.mapSeq, Obj.isFreed])]
    simp [Obj.mapSeq]
  refine wpAny_bind (wpAny_setSeqItemAt e rfl ?_)
  obtain ⟨S', F'⟩ := hs.turn U (Heap.SameBut.update ..) ⟨d, ws.set j r, n, fin, hd, rs.set rc _⟩ trivial (fun ob q => ⟨_, fin, fun hd => by rw [e] at q; cases q; exact (isD_no_seq hd).elim⟩) s.toks
  first
    | exact wpAny_bind (wpAny_pure (wpAny_pure ⟨.none, rfl, wpAny_pure ⟨B, cs', (), S', F', trivial, h⟩⟩))
    | exact wpAny_pure ⟨.none, rfl, wpAny_pure ⟨B, cs', (), S', F', trivial, h⟩⟩⟩
end
end Mine

end
section
open PySem PySem.W PySem.W.X PyProof.Rows
set_option Elab.async false
set_option maxRecDepth 100000
set_option linter.unusedVariables false
set_option linter.unusedSimpArgs false
namespace Mine
section
variable {M : Md}
theorem ViewV.frame {x x' : V} {c c' : Cells} (h : ViewV M x c x' c') (fr : Cells) : ViewV M x (c ++ fr) x' (c' ++ fr) := fun A B s v hs r => by
  obtain ⟨B', S', F', R'⟩ := h A B s v hs.left r
  exact ⟨B', hs.frame F' S', F'.frame, R'⟩
/-- a list of one's own handed over, frozen; the rest stays as it is -/
theorem ViewV.fzF {a : Addr} {k : LK} {xs : List V} {fr : Cells} : ViewV M (.ref a) ((a, .lst k xs) :: fr) (.lst k xs) fr := by
  have h : ViewV M (.ref a) [(a, .lst k xs)] (.lst k xs) [] := fun A B s v hs r => by
    cases r
    obtain ⟨B', S', F', R'⟩ := freeze_core (r := []) hs
    exact ⟨B', S', F', R'⟩
  exact h.frame fr
end
end Mine

end
section
open PySem PySem.W PySem.W.X PyProof.Rows
set_option Elab.async false
set_option maxRecDepth 100000
namespace Mine
section
variable {w : World} {h0 : Heap}
theorem ownSet (X : (hd.heap_39 w.params).In h0) (h : Heap) (hk : ∀ a o, (MM w h0).S a = some o → h.get? a = some o) : OwnSl (MM w h0).prog (MM w h0).w h (.ref (MM w h0).C.tags) "__setitem__" "list.__setitem__" "list" :=
  ⟨looks_findIn (K1_in X hk) (by kernel_rfl), looks_subIn (K1_in X hk) (by kernel_rfl), slot_list_setitem, by first | exact .inl (by decide +kernel) | exact .inr (by decide +kernel), ⟨"__setitem__", by decide +kernel⟩⟩
theorem ownExt (X : (hd.heap_39 w.params).In h0) (h : Heap) (hk : ∀ a o, (MM w h0).S a = some o → h.get? a = some o) : OwnSl (MM w h0).prog (MM w h0).w h (.ref (MM w h0).C.tags) "extend" "list.extend" "list" :=
  ⟨looks_findIn (K1_in X hk) (by kernel_rfl), looks_subIn (K1_in X hk) (by kernel_rfl), PySem.F.slot_list_extend, by first | exact .inl (by decide +kernel) | exact .inr (by decide +kernel), ⟨"extend", by decide +kernel⟩⟩
end
end Mine

end
open PySem PySem.W PySem.W.X PyProof.Rows
set_option Elab.async false
set_option maxRecDepth 100000
set_option linter.unusedVariables false
set_option linter.unusedSimpArgs false
namespace Mine
local macro_rules | `(tactic| walk_at "mem") => `(tactic| first | (with_reducible first | exact mem_0 | exact mem_1 | exact mem_2 | exact mem_3 | exact mem_4 | exact mem_5 | exact mem_6 | exact mem_7 | exact mem_8 | exact mem_9 | exact mem_10 | exact mem_11 | exact mem_12 | exact mem_13 | exact mem_14 | exact mem_15 | exact mem_16 | exact mem_17 | exact mem_18 | exact mem_19) | (first | exact .head _ | exact .tail _ (.head _) | exact .tail _ (.tail _ (.head _)) | exact .tail _ (.tail _ (.tail _ (.head _))) | exact .tail _ (.tail _ (.tail _ (.tail _ (.head _)))) | exact .tail _ (.tail _ (.tail _ (.tail _ (.tail _ (.head _))))) | exact .tail _ (.tail _ (.tail _ (.tail _ (.tail _ (.tail _ (.head _)))))) | exact .tail _ (.tail _ (.tail _ (.tail _ (.tail _ (.tail _ (.tail _ (.head _))))))) | exact .tail _ (.tail _ (.tail _ (.tail _ (.tail _ (.tail _ (.tail _ (.tail _ (.head _)))))))) | exact .tail _ (.tail _ (.tail _ (.tail _ (.tail _ (.tail _ (.tail _ (.tail _ (.tail _ (.head _))))))))) | exact .tail _ (.tail _ (.tail _ (.tail _ (.tail _ (.tail _ (.tail _ (.tail _ (.tail _ (.tail _ (.head _)))))))))) | exact .tail _ (.tail _ (.tail _ (.tail _ (.tail _ (.tail _ (.tail _ (.tail _ (.tail _ (.tail _ (.tail _ (.head _))))))))))) | exact .tail _ (.tail _ (.tail _ (.tail _ (.tail _ (.tail _ (.tail _ (.tail _ (.tail _ (.tail _ (.tail _ (.tail _ (.head _)))))))))))) | exact .tail _ (.tail _ (.tail _ (.tail _ (.tail _ (.tail _ (.tail _ (.tail _ (.tail _ (.tail _ (.tail _ (.tail _ (.tail _ (.head _))))))))))))) | exact .tail _ (.tail _ (.tail _ (.tail _ (.tail _ (.tail _ (.tail _ (.tail _ (.tail _ (.tail _ (.tail _ (.tail _ (.tail _ (.tail _ (.head _)))))))))))))) | exact .tail _ (.tail _ (.tail _ (.tail _ (.tail _ (.tail _ (.tail _ (.tail _ (.tail _ (.tail _ (.tail _ (.tail _ (.tail _ (.tail _ (.tail _ (.head _))))))))))))))) | exact .tail _ (.tail _ (.tail _ (.tail _ (.tail _ (.tail _ (.tail _ (.tail _ (.tail _ (.tail _ (.tail _ (.tail _ (.tail _ (.tail _ (.tail _ (.tail _ (.head _)))))))))))))))) | exact .tail _ (.tail _ (.tail _ (.tail _ (.tail _ (.tail _ (.tail _ (.tail _ (.tail _ (.tail _ (.tail _ (.tail _ (.tail _ (.tail _ (.tail _ (.tail _ (.tail _ (.head _))))))))))))))))) | exact .tail _ (.tail _ (.tail _ (.tail _ (.tail _ (.tail _ (.tail _ (.tail _ (.tail _ (.tail _ (.tail _ (.tail _ (.tail _ (.tail _ (.tail _ (.tail _ (.tail _ (.tail _ (.head _)))))))))))))))))) | exact .tail _ (.tail _ (.tail _ (.tail _ (.tail _ (.tail _ (.tail _ (.tail _ (.tail _ (.tail _ (.tail _ (.tail _ (.tail _ (.tail _ (.tail _ (.tail _ (.tail _ (.tail _ (.tail _ (.head _)))))))))))))))))))))
local macro_rules | `(tactic| walk_at "memR") => `(tactic| with_reducible first | exact mem_0 | exact mem_1 | exact mem_2 | exact mem_3 | exact mem_4 | exact mem_5 | exact mem_6 | exact mem_7 | exact mem_8 | exact mem_9 | exact mem_10 | exact mem_11 | exact mem_12 | exact mem_13 | exact mem_14 | exact mem_15 | exact mem_16 | exact mem_17 | exact mem_18 | exact mem_19)
local macro_rules | `(tactic| walk_at "upd") => `(tactic| first | (with_reducible first | exact .head | exact .tail (.head) | exact .tail (.tail (.head)) | exact .tail (.tail (.tail (.head))) | exact .tail (.tail (.tail (.tail (.head)))) | exact .tail (.tail (.tail (.tail (.tail (.head))))) | exact .tail (.tail (.tail (.tail (.tail (.tail (.head)))))) | exact .tail (.tail (.tail (.tail (.tail (.tail (.tail (.head))))))) | exact .tail (.tail (.tail (.tail (.tail (.tail (.tail (.tail (.head)))))))) | exact .tail (.tail (.tail (.tail (.tail (.tail (.tail (.tail (.tail (.head))))))))) | exact .tail (.tail (.tail (.tail (.tail (.tail (.tail (.tail (.tail (.tail (.head)))))))))) | exact .tail (.tail (.tail (.tail (.tail (.tail (.tail (.tail (.tail (.tail (.tail (.head))))))))))) | exact .tail (.tail (.tail (.tail (.tail (.tail (.tail (.tail (.tail (.tail (.tail (.tail (.head)))))))))))) | exact .tail (.tail (.tail (.tail (.tail (.tail (.tail (.tail (.tail (.tail (.tail (.tail (.tail (.head))))))))))))) | exact .tail (.tail (.tail (.tail (.tail (.tail (.tail (.tail (.tail (.tail (.tail (.tail (.tail (.tail (.head)))))))))))))) | exact .tail (.tail (.tail (.tail (.tail (.tail (.tail (.tail (.tail (.tail (.tail (.tail (.tail (.tail (.tail (.head))))))))))))))) | exact .tail (.tail (.tail (.tail (.tail (.tail (.tail (.tail (.tail (.tail (.tail (.tail (.tail (.tail (.tail (.tail (.head)))))))))))))))) | exact .tail (.tail (.tail (.tail (.tail (.tail (.tail (.tail (.tail (.tail (.tail (.tail (.tail (.tail (.tail (.tail (.tail (.head))))))))))))))))) | exact .tail (.tail (.tail (.tail (.tail (.tail (.tail (.tail (.tail (.tail (.tail (.tail (.tail (.tail (.tail (.tail (.tail (.tail (.head)))))))))))))))))) | exact .tail (.tail (.tail (.tail (.tail (.tail (.tail (.tail (.tail (.tail (.tail (.tail (.tail (.tail (.tail (.tail (.tail (.tail (.tail (.head)))))))))))))))))))) | (first | exact .head | exact .tail (.head) | exact .tail (.tail (.head)) | exact .tail (.tail (.tail (.head))) | exact .tail (.tail (.tail (.tail (.head)))) | exact .tail (.tail (.tail (.tail (.tail (.head))))) | exact .tail (.tail (.tail (.tail (.tail (.tail (.head)))))) | exact .tail (.tail (.tail (.tail (.tail (.tail (.tail (.head))))))) | exact .tail (.tail (.tail (.tail (.tail (.tail (.tail (.tail (.head)))))))) | exact .tail (.tail (.tail (.tail (.tail (.tail (.tail (.tail (.tail (.head))))))))) | exact .tail (.tail (.tail (.tail (.tail (.tail (.tail (.tail (.tail (.tail (.head)))))))))) | exact .tail (.tail (.tail (.tail (.tail (.tail (.tail (.tail (.tail (.tail (.tail (.head))))))))))) | exact .tail (.tail (.tail (.tail (.tail (.tail (.tail (.tail (.tail (.tail (.tail (.tail (.head)))))))))))) | exact .tail (.tail (.tail (.tail (.tail (.tail (.tail (.tail (.tail (.tail (.tail (.tail (.tail (.head))))))))))))) | exact .tail (.tail (.tail (.tail (.tail (.tail (.tail (.tail (.tail (.tail (.tail (.tail (.tail (.tail (.head)))))))))))))) | exact .tail (.tail (.tail (.tail (.tail (.tail (.tail (.tail (.tail (.tail (.tail (.tail (.tail (.tail (.tail (.head))))))))))))))) | exact .tail (.tail (.tail (.tail (.tail (.tail (.tail (.tail (.tail (.tail (.tail (.tail (.tail (.tail (.tail (.tail (.head)))))))))))))))) | exact .tail (.tail (.tail (.tail (.tail (.tail (.tail (.tail (.tail (.tail (.tail (.tail (.tail (.tail (.tail (.tail (.tail (.head))))))))))))))))) | exact .tail (.tail (.tail (.tail (.tail (.tail (.tail (.tail (.tail (.tail (.tail (.tail (.tail (.tail (.tail (.tail (.tail (.tail (.head)))))))))))))))))) | exact .tail (.tail (.tail (.tail (.tail (.tail (.tail (.tail (.tail (.tail (.tail (.tail (.tail (.tail (.tail (.tail (.tail (.tail (.tail (.head)))))))))))))))))))))
local macro_rules | `(tactic| walk_at "loc") => `(tactic| first | (refine LocSet.old ?_; with_reducible first | exact .head | exact .tail (.head) | exact .tail (.tail (.head)) | exact .tail (.tail (.tail (.head))) | exact .tail (.tail (.tail (.tail (.head)))) | exact .tail (.tail (.tail (.tail (.tail (.head))))) | exact .tail (.tail (.tail (.tail (.tail (.tail (.head)))))) | exact .tail (.tail (.tail (.tail (.tail (.tail (.tail (.head))))))) | exact .tail (.tail (.tail (.tail (.tail (.tail (.tail (.tail (.head)))))))) | exact .tail (.tail (.tail (.tail (.tail (.tail (.tail (.tail (.tail (.head))))))))) | exact .tail (.tail (.tail (.tail (.tail (.tail (.tail (.tail (.tail (.tail (.head)))))))))) | exact .tail (.tail (.tail (.tail (.tail (.tail (.tail (.tail (.tail (.tail (.tail (.head))))))))))) | exact .tail (.tail (.tail (.tail (.tail (.tail (.tail (.tail (.tail (.tail (.tail (.tail (.head)))))))))))) | exact .tail (.tail (.tail (.tail (.tail (.tail (.tail (.tail (.tail (.tail (.tail (.tail (.tail (.head))))))))))))) | exact .tail (.tail (.tail (.tail (.tail (.tail (.tail (.tail (.tail (.tail (.tail (.tail (.tail (.tail (.head)))))))))))))) | exact .tail (.tail (.tail (.tail (.tail (.tail (.tail (.tail (.tail (.tail (.tail (.tail (.tail (.tail (.tail (.head))))))))))))))) | exact .tail (.tail (.tail (.tail (.tail (.tail (.tail (.tail (.tail (.tail (.tail (.tail (.tail (.tail (.tail (.tail (.head)))))))))))))))) | exact .tail (.tail (.tail (.tail (.tail (.tail (.tail (.tail (.tail (.tail (.tail (.tail (.tail (.tail (.tail (.tail (.tail (.head))))))))))))))))) | exact .tail (.tail (.tail (.tail (.tail (.tail (.tail (.tail (.tail (.tail (.tail (.tail (.tail (.tail (.tail (.tail (.tail (.tail (.head)))))))))))))))))) | exact .tail (.tail (.tail (.tail (.tail (.tail (.tail (.tail (.tail (.tail (.tail (.tail (.tail (.tail (.tail (.tail (.tail (.tail (.tail (.head)))))))))))))))))))) | exact LocSet.new (by (try simp only [List.map_cons, List.map_nil, List.map_append, List.cons_append, List.nil_append]); decide +kernel) | exact .inl ⟨_, by walk_at "upd"⟩ | exact .inr ⟨by (try simp only [List.map_cons, List.map_nil, List.map_append, List.cons_append, List.nil_append]); decide +kernel, rfl⟩)
local macro_rules | `(tactic| walk_at "asm") => `(tactic| first | with_reducible assumption | assumption)
local macro_rules | `(tactic| walk_at "name") => `(tactic| first
  | refine ev_local (by walk_at "memR") ?_
  | refine ev_global (by assumption) (by with_reducible assumption) (fun _ => .ref _) ?_
  | refine ev_global (by assumption) (by with_reducible assumption) (fun _ => .int _ _) ?_
  | refine ev_global (by assumption) (by with_reducible assumption) (fun _ => .str _ _) ?_
  | refine ev_builtin (by assumption) (by with_reducible assumption) (by with_reducible assumption) (fun _ => .bi _) ?_
  | refine ev_builtin (by assumption) (by with_reducible assumption) (by with_reducible assumption) (fun _ => .ty _) ?_
  | refine ev_local (by walk_at "mem") ?_)
local macro_rules | `(tactic| walk_at "call") => `(tactic| first
  | refine ev_method ?_
  | refine ev_method0 ?_
  | refine ev_call ?_
  | refine ev_call0 ?_)
local macro_rules | `(tactic| walk_at "ev") => `(tactic| first
  | (show EV _ _ _ (.Name _ _) _ _ _; walk_at "name")
  | refine ev_int ?_
  | refine ev_str ?_
  | refine ev_none ?_
  | refine ev_bool ?_
  | refine ev_neg ?_
  | refine ev_binop ?_
  | (show EV _ _ _ (.Subscript _ (.Slice _ _ _ _) _) _ _ _; refine ev_subslice ?_)
  | refine ev_subscript ?_
  | (show EV _ _ _ (.Call _ _ _ _) _ _ _; walk_at "call")
  | (show EV _ _ _ (.Compare _ _ _ _) _ _ _; refine ev_compare ?_)
  | (show EV _ _ _ (.BoolOp _ [_] _) _ _ _; refine ev_and1 ?_)
  | (show EV _ _ _ (.BoolOp .And _ _) _ _ _; refine ev_and ?_)
  | refine ev_ifexp ?_
  | refine ev_tuple ?_
  | refine ev_list ?_
  | (show EV _ _ _ (.Attribute _ _ _) _ _ _; refine ev_attr ?_))
local macro_rules | `(tactic| walk_at "ex") => `(tactic| first
  | (show EX _ _ _ (.If (.Compare _ _ _ _) _ _ _) _ _ _; refine ex_if ?_)
  | refine ex_return ?_
  | (show EX _ _ _ (.Assign [.Name _ _] _ _) _ _ _; refine ex_assign ?_)
  | (show EX _ _ _ (.Assign [.Subscript _ _ _] _ _) _ _ _; refine ex_assign_sub ?_)
  | (show EX _ _ _ (.Assign [.Tuple _ _ _] _ _) _ _ _; refine ex_assign_t ?_)
  | (show EX _ _ _ (.Expr _ _) _ _ _; refine ex_expr ?_)
  | refine ex_pass ?_
  | refine ex_break ?_
  | refine ex_continue ?_)
local macro_rules | `(tactic| walk_at "it") => `(tactic| first
  | (show IT _ _ _ (.Compare _ _ _ _) _ _ _; refine it_compare ?_)
  | refine it_not ?_
  | refine it_and ?_
  | refine it_and_nil ?_
  | refine it_or ?_
  | refine it_or_nil ?_
  | refine it_plain ?_)
local macro_rules | `(tactic| walk_at "os") => `(tactic| first
  | (show OS _ _ _ _ (.tup _) (.int _) _ _ _; refine it_tup (by decide) (by decide) rfl rfl ?_)
  | (show OS _ _ _ _ (.ref _) (.int (-1)) _ _ _; refine it_seq (by assumption) (.own _ _ _ (by walk_at "mem")) (by decide) (by decide) (seq_last _ _).1 (seq_last _ _).2 ?_)
  | (show OS _ _ _ _ (.ref _) (.int _) _ _ _; refine it_list (by walk_at "mem") (by omega) (by omega) rfl ?_)
  | (show OS _ _ _ _ (.lst .list _) (.int _) _ _ _; refine it_lst (by omega) (by omega) (by assumption) ?_))
local macro_rules | `(tactic| walk_at "ob") => `(tactic| first
  | (show OB _ _ .Add (.str _) (.str _) _ _ _; refine op_add_str (by first | assumption | omega | (simp; omega)) ?_)
  | (show OB _ _ .Mod (.int _) (.int _) _ _ _; refine op_mod_int (by omega) ?_)
  | (show OB _ _ .FloorDiv (.int _) (.int _) _ _ _; refine op_div_int (by omega) (by omega) ?_)
  | refine op_add_int ?_)
local macro_rules | `(tactic| walk_at "oc") => `(tactic| first
  | (show OC _ _ .Is _ .none _ _ _; refine op_is_none (fun _ h => nomatch h) ?_)
  | (show OC _ _ .IsNot _ .none _ _ _; refine op_isnot_none (fun _ h => nomatch h) ?_)
  | (show OC _ _ .IsNot (.ref _) (.ref _) _ _ _; refine op_isnot_self ?_)
  | (show OC _ _ .Lt (.int _) (.int _) _ _ _; first | refine cp_lt_T (by omega) ?_ | refine cp_lt_F (by omega) ?_ | refine cp_lt_int (fun _ => ?_) (fun _ => ?_))
  | (show OC _ _ .Eq (.int _) (.int _) _ _ _; first | refine cp_eqi_T (by omega) ?_ | refine cp_eqi_F (by omega) ?_ | refine cp_eq_int (fun _ => ?_) (fun _ => ?_))
  | (show OC _ _ .Eq (.str _) (.str _) _ _ _; first | refine cp_eqs_T (by decide +kernel) ?_ | refine cp_eqs_F (by decide +kernel) ?_ | refine cp_eq_str (fun _ => ?_) (fun _ => ?_))
  | (show OC _ _ .NotEq (.str _) (.str _) _ _ _; first | refine cp_nes_T (by decide +kernel) ?_ | refine cp_nes_F (by decide +kernel) ?_ | refine cp_ne_str (fun _ => ?_) (fun _ => ?_))
  | (show OC _ _ .NotEq (.int _) (.int _) _ _ _; refine cp_ne_int (fun _ => ?_) (fun _ => ?_)))
local macro_rules | `(tactic| walk_at "cl") => `(tactic| first
  | (show CL _ _ (.builtin "len") _ _ _ _; first | refine tr_len_lst (by first | omega | (simp; omega) | (simp [rowsV, listsV]; omega)) ?_ | refine tr_len_list (by walk_at "mem") (by first | omega | (simp; omega) | (simp [listsV]; omega)) ?_)
  | (show CL _ _ (.builtin "str.startswith") _ _ _ _; refine tr_startswith ?_)
  | (show CL _ _ (.builtin "list.append") _ _ _ _; refine tr_append (by assumption) (by walk_at "upd") (by first | omega | (simp; done) | (simp; omega) | (simp [listsV]; omega)) ?_))
local macro_rules | `(tactic| walk_at "as") => `(tactic| first
  | (show AS _ _ _ (.Name _ _) _ _ _ _; refine as_name (by walk_at "loc") ?_)
  | (show AS _ _ _ (.Tuple _ _ _) (.tup _) _ _ _; refine as_tup (by assumption) (by rfl) ?_)
  | (show AS _ _ _ (.Tuple _ _ _) (.ref _) _ _ _; refine as_lst (by assumption) (.inr ⟨_, rfl, by walk_at "mem"⟩) (by rfl) ?_)
  | (show AS _ _ _ (.Tuple _ _ _) (.lst .list _) _ _ _; refine as_lst (by assumption) (.inl rfl) (by rfl) ?_))
local macro_rules | `(tactic| walk_at "fit") => `(tactic| first | assumption | exact Fit.le (by assumption) (by decide))
local macro_rules | `(tactic| walk_at "nbi") => `(tactic| first | exact val_nbi _ | exact fun _ h => nomatch h)
local macro_rules | `(tactic| walk_at "ga") => `(tactic| first
  | (show GA _ _ "code" (.tag _ _) _ _ _; refine ga_code (by assumption) (by walk_at "nbi") (by walk_at "fit") ?_)
  | (show GA _ _ "value" (.tag _ _) _ _ _; refine ga_value (by assumption) (by walk_at "nbi") (by walk_at "fit") ?_))
local macro_rules | `(tactic| walk_at "st") => `(tactic| first
  | (show EV _ _ _ _ _ _ _; walk_at "ev")
  | (show EXs _ _ _ _ _ _ _; first | refine ex_cons ?_ | refine ex_nil ?_)
  | (show EX _ _ _ _ _ _ _; walk_at "ex")
  | (show IT _ _ _ _ _ _ _; walk_at "it")
  | (show AR _ _ _ _ _ _ _ _; first | refine args_cons ?_ | refine args_nil ?_)
  | (show OS _ _ _ _ _ _ _ _ _; walk_at "os")
  | (show OB _ _ _ _ _ _ _ _; walk_at "ob")
  | (show OC _ _ _ _ _ _ _ _; walk_at "oc")
  | (show CL _ _ _ _ _ _ _; walk_at "cl")
  | (show GA _ _ _ _ _ _ _; walk_at "ga")
  | (show TY _ _ (.bool _) _ _ _; refine tr_truthy_bool ?_)
  | (show TY _ _ .none _ _ _; refine tr_truthy_none ?_)
  | (show AS _ _ _ _ _ _ _ _; walk_at "as")
  | (show ASs _ _ _ _ _ _ _ _; first | refine ass_cons ?_ | refine ass_nil ?_)
  | (show EO _ _ _ _ _ _ _; first | refine eo_none ?_ | refine eo_some ?_)
  | (show SL _ _ _ _ (.str _) _ _ _ _ _; refine sl_str (by omega) ?_)
  | (show SI _ _ _ _ _ _ _ _; refine tr_setItem_list (by walk_at "upd") (by omega) (by simp) (by simp) ?_)
  | (show @ite Prop _ _ _ _; first | refine iteT ?_ | refine iteF ?_)
  | (show List.length _ ≤ 100 ∧ _; refine ⟨by simp only [List.length_cons, List.length_nil]; decide, ?_⟩)
  | (show ∀ a : Addr, ¬ (a ∈ _) → _; intro _ _)
  | (show Exists _; first
    | refine ⟨_, (rfl : V.int _ = V.int _), ?_⟩
    | refine ⟨_, meth_list (by walk_at "mem") PySem.F.slot_list_index PySem.F.type_list_index, keep_bi _, ?_⟩
    | refine ⟨_, meth_append (by assumption) (.own _ _ _ (by walk_at "mem")), keep_bi _, ?_⟩
    | refine ⟨_, meth_str PySem.F.slot_str_startswith PySem.F.type_str_startswith, keep_bi _, ?_⟩
    | refine ⟨_, (rfl : V.bool _ = V.bool _), ?_⟩
    | refine ⟨_, .bi _, keep_bi _, ?_⟩
    | refine ⟨_, .ty _, keep_ty _, ?_⟩
    | (first | show ∃ f, IsF (.ref 112) f ∧ _ | show ∃ f, IsF (.ref 363) f ∧ _ | show ∃ f, IsF (.ref 517) f ∧ _ | show ∃ f, IsF (.ref 163) f ∧ _ | show ∃ f, IsF (.ref 175) f ∧ _ | show ∃ f, IsF (.ref 187) f ∧ _); refine ⟨_, .ref _, kp_cls (by assumption) (by kernel_rfl) (by kernel_rfl), ?_⟩
    | refine ⟨_, .ref _, kp_any (by assumption) (by kernel_rfl), ?_⟩
    | refine ⟨_, _, _, rfl, by walk_at "loc", ?_⟩))
local macro_rules | `(tactic| walk_at "pick") => `(tactic| first | (with_reducible first | exact .head | exact .tail (.head) | exact .tail (.tail (.head)) | exact .tail (.tail (.tail (.head))) | exact .tail (.tail (.tail (.tail (.head)))) | exact .tail (.tail (.tail (.tail (.tail (.head))))) | exact .tail (.tail (.tail (.tail (.tail (.tail (.head)))))) | exact .tail (.tail (.tail (.tail (.tail (.tail (.tail (.head))))))) | exact .tail (.tail (.tail (.tail (.tail (.tail (.tail (.tail (.head)))))))) | exact .tail (.tail (.tail (.tail (.tail (.tail (.tail (.tail (.tail (.head))))))))) | exact .tail (.tail (.tail (.tail (.tail (.tail (.tail (.tail (.tail (.tail (.head)))))))))) | exact .tail (.tail (.tail (.tail (.tail (.tail (.tail (.tail (.tail (.tail (.tail (.head))))))))))) | exact .tail (.tail (.tail (.tail (.tail (.tail (.tail (.tail (.tail (.tail (.tail (.tail (.head)))))))))))) | exact .tail (.tail (.tail (.tail (.tail (.tail (.tail (.tail (.tail (.tail (.tail (.tail (.tail (.head))))))))))))) | exact .tail (.tail (.tail (.tail (.tail (.tail (.tail (.tail (.tail (.tail (.tail (.tail (.tail (.tail (.head)))))))))))))) | exact .tail (.tail (.tail (.tail (.tail (.tail (.tail (.tail (.tail (.tail (.tail (.tail (.tail (.tail (.tail (.head))))))))))))))) | exact .tail (.tail (.tail (.tail (.tail (.tail (.tail (.tail (.tail (.tail (.tail (.tail (.tail (.tail (.tail (.tail (.head)))))))))))))))) | exact .tail (.tail (.tail (.tail (.tail (.tail (.tail (.tail (.tail (.tail (.tail (.tail (.tail (.tail (.tail (.tail (.tail (.head))))))))))))))))) | exact .tail (.tail (.tail (.tail (.tail (.tail (.tail (.tail (.tail (.tail (.tail (.tail (.tail (.tail (.tail (.tail (.tail (.tail (.head)))))))))))))))))) | exact .tail (.tail (.tail (.tail (.tail (.tail (.tail (.tail (.tail (.tail (.tail (.tail (.tail (.tail (.tail (.tail (.tail (.tail (.tail (.head)))))))))))))))))))) | (first | exact .head | exact .tail (.head) | exact .tail (.tail (.head)) | exact .tail (.tail (.tail (.head))) | exact .tail (.tail (.tail (.tail (.head)))) | exact .tail (.tail (.tail (.tail (.tail (.head))))) | exact .tail (.tail (.tail (.tail (.tail (.tail (.head)))))) | exact .tail (.tail (.tail (.tail (.tail (.tail (.tail (.head))))))) | exact .tail (.tail (.tail (.tail (.tail (.tail (.tail (.tail (.head)))))))) | exact .tail (.tail (.tail (.tail (.tail (.tail (.tail (.tail (.tail (.head))))))))) | exact .tail (.tail (.tail (.tail (.tail (.tail (.tail (.tail (.tail (.tail (.head)))))))))) | exact .tail (.tail (.tail (.tail (.tail (.tail (.tail (.tail (.tail (.tail (.tail (.head))))))))))) | exact .tail (.tail (.tail (.tail (.tail (.tail (.tail (.tail (.tail (.tail (.tail (.tail (.head)))))))))))) | exact .tail (.tail (.tail (.tail (.tail (.tail (.tail (.tail (.tail (.tail (.tail (.tail (.tail (.head))))))))))))) | exact .tail (.tail (.tail (.tail (.tail (.tail (.tail (.tail (.tail (.tail (.tail (.tail (.tail (.tail (.head)))))))))))))) | exact .tail (.tail (.tail (.tail (.tail (.tail (.tail (.tail (.tail (.tail (.tail (.tail (.tail (.tail (.tail (.head))))))))))))))) | exact .tail (.tail (.tail (.tail (.tail (.tail (.tail (.tail (.tail (.tail (.tail (.tail (.tail (.tail (.tail (.tail (.head)))))))))))))))) | exact .tail (.tail (.tail (.tail (.tail (.tail (.tail (.tail (.tail (.tail (.tail (.tail (.tail (.tail (.tail (.tail (.tail (.head))))))))))))))))) | exact .tail (.tail (.tail (.tail (.tail (.tail (.tail (.tail (.tail (.tail (.tail (.tail (.tail (.tail (.tail (.tail (.tail (.tail (.head)))))))))))))))))) | exact .tail (.tail (.tail (.tail (.tail (.tail (.tail (.tail (.tail (.tail (.tail (.tail (.tail (.tail (.tail (.tail (.tail (.tail (.tail (.head)))))))))))))))))))))
local macro_rules | `(tactic| walk_at "picks") => `(tactic| repeat (first | exact .nil | refine .cons (by walk_at "pick") ?_))
local macro_rules | `(tactic| walk_at "sub") => `(tactic| repeat (first | exact .slnil | refine .cons_cons _ ?_ | refine .cons _ ?_))

section
open PySem PySem.W PySem.W.X PyProof.Rows
set_option Elab.async false
set_option maxRecDepth 100000
set_option linter.unusedVariables false
section
variable {w : World} {h0 : Heap} {A : Around} {mg mb : Str → Option Value} {X : Value → Cells → Prop}
set_option maxHeartbeats 4000000 in
theorem take_spec (K : Ctx w h0 mg mb) (fit : Fit 2 A) (c : Addr) (ns : List Int) (i v m : Int) (hi : 0 ≤ i) (hi' : i < 10000) (hv : 0 ≤ v) (hv' : v < 999983) (hm : 0 < m) (hm' : m < 1000) (hns : ns.length ≤ 63) :
    CL (MM w h0) A (.ref 530) [.ref c, .int m] [(c, .lst .list [.lst .list (ns.map .int), .int i, .int v])]
      (fun u cs => ∃ d i' v', u = .int d ∧ 0 ≤ d ∧ d < m ∧ 0 ≤ i' ∧ i' ≤ i + 1 ∧ 0 ≤ v' ∧ v' < 999983 ∧ cs = [(c, .lst .list [.lst .list (ns.map .int), .int i', .int v'])]) X := by
  have X0 := K.X
  have G := K.G
  have hl := n_len K
  have hl' := b_len K
  refine ⟨fun vs B s hs hp => ?_⟩
  have hvs := hp
  cases hp with | cons r1 hp
  cases hp with | cons r2 hp
  cases hp with | nil
  refine (fn_def (M := (MM w h0)) (names := ["c", "many"]) (args := [.ref c, .int m]) fit (fun B _ hS => ⟨_, hS _ _ (SS_of X0 (is_take _).1 (by decide)), (is_take _).2⟩) (fun B _ hS h hk => cr_take X0 hS hk)
    (fun _ _ _ h _ => Looks.of_pure (ba_take _ _)) G.lim (fun _ h => h) (by decide +kernel) (by simp) ?_) B s hs hvs
  clear hvs r1 r2 hs B s
  intro L hL
  show EXs _ _ _ _ [(L, .frame [("c", .ref c), ("many", .int m)]), (c, .lst .list [.lst .list (ns.map .int), .int i, .int v])] _ _
  have hx : i < ((ns.map V.int).length : Int) → (ns.map V.int)[i.toNat]? = some (.int (ns.getD i.toNat 0)) := fun h => by
    have h' : i.toNat < ns.length := by simp at h; omega
    simp [h']
  have key : ∀ x : Int, 0 ≤ x → x < 999983 → 0 ≤ x.fmod m ∧ x.fmod m < m ∧ 0 ≤ x.fdiv m ∧ x.fdiv m < 999983 := fun x h h' => by
    rw [Int.fmod_eq_emod_of_nonneg _ (by omega), Int.fdiv_eq_ediv_of_nonneg _ (by omega)]
    exact ⟨Int.emod_nonneg _ (by omega), Int.emod_lt_of_pos _ hm, Int.ediv_nonneg h (by omega), Int.lt_of_le_of_lt (Int.ediv_le_self _ h) h'⟩
  have hq : ∀ x : Int, 0 ≤ x.fmod 999983 ∧ x.fmod 999983 < 999983 := fun x => by
    rw [Int.fmod_eq_emod_of_nonneg _ (by omega)]; exact ⟨Int.emod_nonneg _ (by omega), Int.emod_lt_of_pos _ (by omega)⟩
  repeat' (first | walk_at "st" | refine it_lst (by omega) (by omega) (hx (by assumption)) ?_)
  · obtain ⟨a, b⟩ := hq (ns.getD i.toNat 0)
    obtain ⟨k1, k2, k3, k4⟩ := key _ a b
    exact ⟨_, _, rfl, _, _, _, rfl, k1, k2, by omega, by omega, k3, k4, rfl⟩
  · obtain ⟨k1, k2, k3, k4⟩ := key 0 (by omega) (by omega)
    exact ⟨_, _, rfl, _, _, _, rfl, k1, k2, by omega, by omega, k3, k4, rfl⟩
  · obtain ⟨k1, k2, k3, k4⟩ := key v hv hv'
    exact ⟨_, _, rfl, _, _, _, rfl, k1, k2, by omega, by omega, k3, k4, rfl⟩
end

end
section
open PySem PySem.W PySem.W.X PyProof.Rows
set_option Elab.async false
set_option maxRecDepth 100000
set_option linter.unusedVariables false
section
variable {w : World} {h0 : Heap} {A : Around} {mg mb : Str → Option Value} {X : Value → Cells → Prop} {cs : Cells} {PV : V → Cells → Prop}
theorem KK1 (K : Ctx w h0 mg mb) : KOf (MM w h0) (K1 w.params) := fun h hk => K1_in K.X hk
theorem so_code (P : Params) : SlotOk (K1 P) 112 "_code" 113 0 := ⟨by kernel_rfl, fun _ => by kernel_rfl, by kernel_rfl, by kernel_rfl⟩
theorem so_value (P : Params) : SlotOk (K1 P) 112 "_value" 114 1 := ⟨by kernel_rfl, fun _ => by kernel_rfl, by kernel_rfl, by kernel_rfl⟩
theorem po_code (P : Params) : PropOk (K1 P) 112 "code" 58 57 := ⟨by kernel_rfl, fun _ => by kernel_rfl, by kernel_rfl, ⟨((recIn (K1 P) 58 "property").getD []).tail, by kernel_rfl⟩⟩
theorem po_value (P : Params) : PropOk (K1 P) 112 "value" 66 65 := ⟨by kernel_rfl, fun _ => by kernel_rfl, by kernel_rfl, ⟨((recIn (K1 P) 66 "property").getD []).tail, by kernel_rfl⟩⟩
theorem so_app (P : Params) : SlotOk (K1 P) 517 "appdata" 518 0 := ⟨by kernel_rfl, fun _ => by kernel_rfl, by kernel_rfl, by kernel_rfl⟩
theorem so_emb (P : Params) : SlotOk (K1 P) 517 "embedded_objects" 519 1 := ⟨by kernel_rfl, fun _ => by kernel_rfl, by kernel_rfl, by kernel_rfl⟩
theorem so_sub (P : Params) : SlotOk (K1 P) 517 "subclasses" 520 2 := ⟨by kernel_rfl, fun _ => by kernel_rfl, by kernel_rfl, by kernel_rfl⟩
theorem so_xd (P : Params) : SlotOk (K1 P) 517 "xdata" 521 3 := ⟨by kernel_rfl, fun _ => by kernel_rfl, by kernel_rfl, by kernel_rfl⟩
theorem po_noc (P : Params) : PropOk (K1 P) 517 "noclass" 398 397 := ⟨by kernel_rfl, fun _ => by kernel_rfl, by kernel_rfl, ⟨((recIn (K1 P) 398 "property").getD []).tail, by kernel_rfl⟩⟩

/-- one name, its own value: how a def without defaults binds -/
theorem bind1 {q : Str} {par : Arguments} {names : List Str} {xs : List V} {M : Md} (h : ∀ vs : List Value, vs.length = names.length → bindArgs (bareFn q par .none) ⟨vs, []⟩ = pure (names.zip vs)) (hl : xs.length = names.length) :
    ∀ (B : FH) (vs : List Value), RVs M.C B vs xs → M.S.le B → ∃ ws, RVs M.C B ws xs ∧ ∀ h : Heap, (∀ a o, B a = some o → h.get? a = some o) → Looks (model M.prog M.w) h (bindArgs (bareFn q par .none) ⟨vs, []⟩) (names.zip ws) :=
  fun B vs r _ => ⟨vs, r, fun _ _ => Looks.of_pure (h vs (r.length.trans hl))⟩
theorem len1 {α : Type} {p : List α → Prop} (h : ∀ a, p [a]) : ∀ l, l.length = 1 → p l
  | [a], _ => h a
theorem len2 {α : Type} {p : List α → Prop} (h : ∀ a b, p [a, b]) : ∀ l, l.length = 2 → p l
  | [a, b], _ => h a b
theorem len3 {α : Type} {p : List α → Prop} (h : ∀ a b c, p [a, b, c]) : ∀ l, l.length = 3 → p l
  | [a, b, c], _ => h a b c

theorem tcode_spec (K : Ctx w h0 mg mb) {x : V} {c v : V} {sl : List (Option V)} (I : ∀ cs, (∃ p, cs = p :: cs.tail) → Inst (MM w h0) cs x 112 (some c :: sl)) (hb : ∀ n, c ≠ .bi n) (fit : Fit 1 A) : CK (MM w h0) A (.ref 57) [x] cs (fun u cs' => u = c ∧ cs' = cs) NoX := by
  refine cc_def (names := ["self"]) (args := [x]) fit (fun B hS => ⟨_, hS _ _ (SS_of K.X (is_tcode _).1 (by decide)), (is_tcode _).2⟩) (fun B hS h hk => cr_tcode K.X hS hk) (bind1 (len1 fun a => ba_tcode a) rfl) K.G.lim (by decide +kernel) (by simp) ?_
  intro L hL
  show EXs _ _ _ _ ((L, .frame [("self", x)]) :: cs) _ _
  repeat' (first | walk_at "st" )
  exact ga_slot (KK1 K) (so_code _) (I _ ⟨_, rfl⟩) rfl hb ⟨_, _, rfl, rfl, rfl⟩
theorem tvalue_spec (K : Ctx w h0 mg mb) {x : V} {c v : V} {sl : List (Option V)} (I : ∀ cs, (∃ p, cs = p :: cs.tail) → Inst (MM w h0) cs x 112 (some c :: some v :: sl)) (hb : ∀ n, v ≠ .bi n) (fit : Fit 1 A) : CK (MM w h0) A (.ref 65) [x] cs (fun u cs' => u = v ∧ cs' = cs) NoX := by
  refine cc_def (names := ["self"]) (args := [x]) fit (fun B hS => ⟨_, hS _ _ (SS_of K.X (is_tvalue _).1 (by decide)), (is_tvalue _).2⟩) (fun B hS h hk => cr_tvalue K.X hS hk) (bind1 (len1 fun a => ba_tvalue a) rfl) K.G.lim (by decide +kernel) (by simp) ?_
  intro L hL
  show EXs _ _ _ _ ((L, .frame [("self", x)]) :: cs) _ _
  repeat' (first | walk_at "st" )
  exact ga_slot (KK1 K) (so_value _) (I _ ⟨_, rfl⟩) rfl hb ⟨_, _, rfl, rfl, rfl⟩
theorem Fit.in1 {n : Nat} (f : Fit (n + 1) A) : Fit n A.in1 := ⟨by have := f.dep; show A.depth + 3 * n ≤ 450; omega, by have := f.un; show A.units + 1 + 40 * n ≤ 1800; omega, f.hd⟩
theorem ga_code (K : Ctx w h0 mg mb) {c v : V} (hb : ∀ n, c ≠ .bi n) (fit : Fit 2 A) (h : PV c cs) : GA (MM w h0) A "code" (.tag c v) cs PV X :=
  ga_prop (KK1 K) (po_code _) inst_tag ⟨fun vs B s hs r => codeAny_mono ((tcode_spec K (v := v) (fun _ _ => inst_tag) hb fit.in1).it vs B s hs r) fun r s' hr => match r, hr with
    | .ok (.ret v), hr => hr.mono fun u c ⟨e1, e2⟩ => ⟨by rw [e1, e2]; exact h, by rw [e1]; exact hb⟩
    | .error e, hr => hr⟩
theorem ga_value (K : Ctx w h0 mg mb) {c v : V} (hb : ∀ n, v ≠ .bi n) (fit : Fit 2 A) (h : PV v cs) : GA (MM w h0) A "value" (.tag c v) cs PV X :=
  ga_prop (KK1 K) (po_value _) inst_tag ⟨fun vs B s hs r => codeAny_mono ((tvalue_spec K (fun _ _ => inst_tag) hb fit.in1).it vs B s hs r) fun r s' hr => match r, hr with
    | .ok (.ret v), hr => hr.mono fun u c ⟨e1, e2⟩ => ⟨by rw [e1, e2]; exact h, by rw [e1]; exact hb⟩
    | .error e, hr => hr⟩
end

end
end Mine
namespace Mine
local macro_rules | `(tactic| walk_at "mem") => `(tactic| first | (with_reducible first | exact mem_0 | exact mem_1 | exact mem_2 | exact mem_3 | exact mem_4 | exact mem_5 | exact mem_6 | exact mem_7 | exact mem_8 | exact mem_9 | exact mem_10 | exact mem_11 | exact mem_12 | exact mem_13 | exact mem_14 | exact mem_15 | exact mem_16 | exact mem_17 | exact mem_18 | exact mem_19) | (first | exact .head _ | exact .tail _ (.head _) | exact .tail _ (.tail _ (.head _)) | exact .tail _ (.tail _ (.tail _ (.head _))) | exact .tail _ (.tail _ (.tail _ (.tail _ (.head _)))) | exact .tail _ (.tail _ (.tail _ (.tail _ (.tail _ (.head _))))) | exact .tail _ (.tail _ (.tail _ (.tail _ (.tail _ (.tail _ (.head _)))))) | exact .tail _ (.tail _ (.tail _ (.tail _ (.tail _ (.tail _ (.tail _ (.head _))))))) | exact .tail _ (.tail _ (.tail _ (.tail _ (.tail _ (.tail _ (.tail _ (.tail _ (.head _)))))))) | exact .tail _ (.tail _ (.tail _ (.tail _ (.tail _ (.tail _ (.tail _ (.tail _ (.tail _ (.head _))))))))) | exact .tail _ (.tail _ (.tail _ (.tail _ (.tail _ (.tail _ (.tail _ (.tail _ (.tail _ (.tail _ (.head _)))))))))) | exact .tail _ (.tail _ (.tail _ (.tail _ (.tail _ (.tail _ (.tail _ (.tail _ (.tail _ (.tail _ (.tail _ (.head _))))))))))) | exact .tail _ (.tail _ (.tail _ (.tail _ (.tail _ (.tail _ (.tail _ (.tail _ (.tail _ (.tail _ (.tail _ (.tail _ (.head _)))))))))))) | exact .tail _ (.tail _ (.tail _ (.tail _ (.tail _ (.tail _ (.tail _ (.tail _ (.tail _ (.tail _ (.tail _ (.tail _ (.tail _ (.head _))))))))))))) | exact .tail _ (.tail _ (.tail _ (.tail _ (.tail _ (.tail _ (.tail _ (.tail _ (.tail _ (.tail _ (.tail _ (.tail _ (.tail _ (.tail _ (.head _)))))))))))))) | exact .tail _ (.tail _ (.tail _ (.tail _ (.tail _ (.tail _ (.tail _ (.tail _ (.tail _ (.tail _ (.tail _ (.tail _ (.tail _ (.tail _ (.tail _ (.head _))))))))))))))) | exact .tail _ (.tail _ (.tail _ (.tail _ (.tail _ (.tail _ (.tail _ (.tail _ (.tail _ (.tail _ (.tail _ (.tail _ (.tail _ (.tail _ (.tail _ (.tail _ (.head _)))))))))))))))) | exact .tail _ (.tail _ (.tail _ (.tail _ (.tail _ (.tail _ (.tail _ (.tail _ (.tail _ (.tail _ (.tail _ (.tail _ (.tail _ (.tail _ (.tail _ (.tail _ (.tail _ (.head _))))))))))))))))) | exact .tail _ (.tail _ (.tail _ (.tail _ (.tail _ (.tail _ (.tail _ (.tail _ (.tail _ (.tail _ (.tail _ (.tail _ (.tail _ (.tail _ (.tail _ (.tail _ (.tail _ (.tail _ (.head _)))))))))))))))))) | exact .tail _ (.tail _ (.tail _ (.tail _ (.tail _ (.tail _ (.tail _ (.tail _ (.tail _ (.tail _ (.tail _ (.tail _ (.tail _ (.tail _ (.tail _ (.tail _ (.tail _ (.tail _ (.tail _ (.head _)))))))))))))))))))))
local macro_rules | `(tactic| walk_at "memR") => `(tactic| with_reducible first | exact mem_0 | exact mem_1 | exact mem_2 | exact mem_3 | exact mem_4 | exact mem_5 | exact mem_6 | exact mem_7 | exact mem_8 | exact mem_9 | exact mem_10 | exact mem_11 | exact mem_12 | exact mem_13 | exact mem_14 | exact mem_15 | exact mem_16 | exact mem_17 | exact mem_18 | exact mem_19)
local macro_rules | `(tactic| walk_at "upd") => `(tactic| first | (with_reducible first | exact .head | exact .tail (.head) | exact .tail (.tail (.head)) | exact .tail (.tail (.tail (.head))) | exact .tail (.tail (.tail (.tail (.head)))) | exact .tail (.tail (.tail (.tail (.tail (.head))))) | exact .tail (.tail (.tail (.tail (.tail (.tail (.head)))))) | exact .tail (.tail (.tail (.tail (.tail (.tail (.tail (.head))))))) | exact .tail (.tail (.tail (.tail (.tail (.tail (.tail (.tail (.head)))))))) | exact .tail (.tail (.tail (.tail (.tail (.tail (.tail (.tail (.tail (.head))))))))) | exact .tail (.tail (.tail (.tail (.tail (.tail (.tail (.tail (.tail (.tail (.head)))))))))) | exact .tail (.tail (.tail (.tail (.tail (.tail (.tail (.tail (.tail (.tail (.tail (.head))))))))))) | exact .tail (.tail (.tail (.tail (.tail (.tail (.tail (.tail (.tail (.tail (.tail (.tail (.head)))))))))))) | exact .tail (.tail (.tail (.tail (.tail (.tail (.tail (.tail (.tail (.tail (.tail (.tail (.tail (.head))))))))))))) | exact .tail (.tail (.tail (.tail (.tail (.tail (.tail (.tail (.tail (.tail (.tail (.tail (.tail (.tail (.head)))))))))))))) | exact .tail (.tail (.tail (.tail (.tail (.tail (.tail (.tail (.tail (.tail (.tail (.tail (.tail (.tail (.tail (.head))))))))))))))) | exact .tail (.tail (.tail (.tail (.tail (.tail (.tail (.tail (.tail (.tail (.tail (.tail (.tail (.tail (.tail (.tail (.head)))))))))))))))) | exact .tail (.tail (.tail (.tail (.tail (.tail (.tail (.tail (.tail (.tail (.tail (.tail (.tail (.tail (.tail (.tail (.tail (.head))))))))))))))))) | exact .tail (.tail (.tail (.tail (.tail (.tail (.tail (.tail (.tail (.tail (.tail (.tail (.tail (.tail (.tail (.tail (.tail (.tail (.head)))))))))))))))))) | exact .tail (.tail (.tail (.tail (.tail (.tail (.tail (.tail (.tail (.tail (.tail (.tail (.tail (.tail (.tail (.tail (.tail (.tail (.tail (.head)))))))))))))))))))) | (first | exact .head | exact .tail (.head) | exact .tail (.tail (.head)) | exact .tail (.tail (.tail (.head))) | exact .tail (.tail (.tail (.tail (.head)))) | exact .tail (.tail (.tail (.tail (.tail (.head))))) | exact .tail (.tail (.tail (.tail (.tail (.tail (.head)))))) | exact .tail (.tail (.tail (.tail (.tail (.tail (.tail (.head))))))) | exact .tail (.tail (.tail (.tail (.tail (.tail (.tail (.tail (.head)))))))) | exact .tail (.tail (.tail (.tail (.tail (.tail (.tail (.tail (.tail (.head))))))))) | exact .tail (.tail (.tail (.tail (.tail (.tail (.tail (.tail (.tail (.tail (.head)))))))))) | exact .tail (.tail (.tail (.tail (.tail (.tail (.tail (.tail (.tail (.tail (.tail (.head))))))))))) | exact .tail (.tail (.tail (.tail (.tail (.tail (.tail (.tail (.tail (.tail (.tail (.tail (.head)))))))))))) | exact .tail (.tail (.tail (.tail (.tail (.tail (.tail (.tail (.tail (.tail (.tail (.tail (.tail (.head))))))))))))) | exact .tail (.tail (.tail (.tail (.tail (.tail (.tail (.tail (.tail (.tail (.tail (.tail (.tail (.tail (.head)))))))))))))) | exact .tail (.tail (.tail (.tail (.tail (.tail (.tail (.tail (.tail (.tail (.tail (.tail (.tail (.tail (.tail (.head))))))))))))))) | exact .tail (.tail (.tail (.tail (.tail (.tail (.tail (.tail (.tail (.tail (.tail (.tail (.tail (.tail (.tail (.tail (.head)))))))))))))))) | exact .tail (.tail (.tail (.tail (.tail (.tail (.tail (.tail (.tail (.tail (.tail (.tail (.tail (.tail (.tail (.tail (.tail (.head))))))))))))))))) | exact .tail (.tail (.tail (.tail (.tail (.tail (.tail (.tail (.tail (.tail (.tail (.tail (.tail (.tail (.tail (.tail (.tail (.tail (.head)))))))))))))))))) | exact .tail (.tail (.tail (.tail (.tail (.tail (.tail (.tail (.tail (.tail (.tail (.tail (.tail (.tail (.tail (.tail (.tail (.tail (.tail (.head)))))))))))))))))))))
local macro_rules | `(tactic| walk_at "loc") => `(tactic| first | (refine LocSet.old ?_; with_reducible first | exact .head | exact .tail (.head) | exact .tail (.tail (.head)) | exact .tail (.tail (.tail (.head))) | exact .tail (.tail (.tail (.tail (.head)))) | exact .tail (.tail (.tail (.tail (.tail (.head))))) | exact .tail (.tail (.tail (.tail (.tail (.tail (.head)))))) | exact .tail (.tail (.tail (.tail (.tail (.tail (.tail (.head))))))) | exact .tail (.tail (.tail (.tail (.tail (.tail (.tail (.tail (.head)))))))) | exact .tail (.tail (.tail (.tail (.tail (.tail (.tail (.tail (.tail (.head))))))))) | exact .tail (.tail (.tail (.tail (.tail (.tail (.tail (.tail (.tail (.tail (.head)))))))))) | exact .tail (.tail (.tail (.tail (.tail (.tail (.tail (.tail (.tail (.tail (.tail (.head))))))))))) | exact .tail (.tail (.tail (.tail (.tail (.tail (.tail (.tail (.tail (.tail (.tail (.tail (.head)))))))))))) | exact .tail (.tail (.tail (.tail (.tail (.tail (.tail (.tail (.tail (.tail (.tail (.tail (.tail (.head))))))))))))) | exact .tail (.tail (.tail (.tail (.tail (.tail (.tail (.tail (.tail (.tail (.tail (.tail (.tail (.tail (.head)))))))))))))) | exact .tail (.tail (.tail (.tail (.tail (.tail (.tail (.tail (.tail (.tail (.tail (.tail (.tail (.tail (.tail (.head))))))))))))))) | exact .tail (.tail (.tail (.tail (.tail (.tail (.tail (.tail (.tail (.tail (.tail (.tail (.tail (.tail (.tail (.tail (.head)))))))))))))))) | exact .tail (.tail (.tail (.tail (.tail (.tail (.tail (.tail (.tail (.tail (.tail (.tail (.tail (.tail (.tail (.tail (.tail (.head))))))))))))))))) | exact .tail (.tail (.tail (.tail (.tail (.tail (.tail (.tail (.tail (.tail (.tail (.tail (.tail (.tail (.tail (.tail (.tail (.tail (.head)))))))))))))))))) | exact .tail (.tail (.tail (.tail (.tail (.tail (.tail (.tail (.tail (.tail (.tail (.tail (.tail (.tail (.tail (.tail (.tail (.tail (.tail (.head)))))))))))))))))))) | exact LocSet.new (by (try simp only [List.map_cons, List.map_nil, List.map_append, List.cons_append, List.nil_append]); decide +kernel) | exact .inl ⟨_, by walk_at "upd"⟩ | exact .inr ⟨by (try simp only [List.map_cons, List.map_nil, List.map_append, List.cons_append, List.nil_append]); decide +kernel, rfl⟩)
local macro_rules | `(tactic| walk_at "asm") => `(tactic| first | with_reducible assumption | assumption)
local macro_rules | `(tactic| walk_at "name") => `(tactic| first
  | refine ev_local (by walk_at "memR") ?_
  | refine ev_global (by assumption) (by with_reducible assumption) (fun _ => .ref _) ?_
  | refine ev_global (by assumption) (by with_reducible assumption) (fun _ => .int _ _) ?_
  | refine ev_global (by assumption) (by with_reducible assumption) (fun _ => .str _ _) ?_
  | refine ev_builtin (by assumption) (by with_reducible assumption) (by with_reducible assumption) (fun _ => .bi _) ?_
  | refine ev_builtin (by assumption) (by with_reducible assumption) (by with_reducible assumption) (fun _ => .ty _) ?_
  | refine ev_local (by walk_at "mem") ?_)
local macro_rules | `(tactic| walk_at "call") => `(tactic| first
  | refine ev_method ?_
  | refine ev_method0 ?_
  | refine ev_call ?_
  | refine ev_call0 ?_)
local macro_rules | `(tactic| walk_at "ev") => `(tactic| first
  | (show EV _ _ _ (.Name _ _) _ _ _; walk_at "name")
  | refine ev_int ?_
  | refine ev_str ?_
  | refine ev_none ?_
  | refine ev_bool ?_
  | refine ev_neg ?_
  | refine ev_binop ?_
  | (show EV _ _ _ (.Subscript _ (.Slice _ _ _ _) _) _ _ _; refine ev_subslice ?_)
  | refine ev_subscript ?_
  | (show EV _ _ _ (.Call _ _ _ _) _ _ _; walk_at "call")
  | (show EV _ _ _ (.Compare _ _ _ _) _ _ _; refine ev_compare ?_)
  | (show EV _ _ _ (.BoolOp _ [_] _) _ _ _; refine ev_and1 ?_)
  | (show EV _ _ _ (.BoolOp .And _ _) _ _ _; refine ev_and ?_)
  | refine ev_ifexp ?_
  | refine ev_tuple ?_
  | refine ev_list ?_
  | (show EV _ _ _ (.Attribute _ _ _) _ _ _; refine ev_attr ?_))
local macro_rules | `(tactic| walk_at "ex") => `(tactic| first
  | (show EX _ _ _ (.If (.Compare _ _ _ _) _ _ _) _ _ _; refine ex_if ?_)
  | refine ex_return ?_
  | (show EX _ _ _ (.Assign [.Name _ _] _ _) _ _ _; refine ex_assign ?_)
  | (show EX _ _ _ (.Assign [.Subscript _ _ _] _ _) _ _ _; refine ex_assign_sub ?_)
  | (show EX _ _ _ (.Assign [.Tuple _ _ _] _ _) _ _ _; refine ex_assign_t ?_)
  | (show EX _ _ _ (.Expr _ _) _ _ _; refine ex_expr ?_)
  | refine ex_pass ?_
  | refine ex_break ?_
  | refine ex_continue ?_)
local macro_rules | `(tactic| walk_at "it") => `(tactic| first
  | (show IT _ _ _ (.Compare _ _ _ _) _ _ _; refine it_compare ?_)
  | refine it_not ?_
  | refine it_and ?_
  | refine it_and_nil ?_
  | refine it_or ?_
  | refine it_or_nil ?_
  | refine it_plain ?_)
local macro_rules | `(tactic| walk_at "os") => `(tactic| first
  | (show OS _ _ _ _ (.tup _) (.int _) _ _ _; refine it_tup (by decide) (by decide) rfl rfl ?_)
  | (show OS _ _ _ _ (.ref _) (.int (-1)) _ _ _; refine it_seq (by assumption) (.own _ _ _ (by walk_at "mem")) (by decide) (by decide) (seq_last _ _).1 (seq_last _ _).2 ?_)
  | (show OS _ _ _ _ (.ref _) (.int _) _ _ _; refine it_list (by walk_at "mem") (by omega) (by omega) rfl ?_)
  | (show OS _ _ _ _ (.lst .list _) (.int _) _ _ _; refine it_lst (by omega) (by omega) (by assumption) ?_))
local macro_rules | `(tactic| walk_at "ob") => `(tactic| first
  | (show OB _ _ .Add (.str _) (.str _) _ _ _; refine op_add_str (by first | assumption | omega | (simp; omega)) ?_)
  | (show OB _ _ .Mod (.int _) (.int _) _ _ _; refine op_mod_int (by omega) ?_)
  | (show OB _ _ .FloorDiv (.int _) (.int _) _ _ _; refine op_div_int (by omega) (by omega) ?_)
  | refine op_add_int ?_)
local macro_rules | `(tactic| walk_at "oc") => `(tactic| first
  | (show OC _ _ .Is _ .none _ _ _; refine op_is_none (fun _ h => nomatch h) ?_)
  | (show OC _ _ .IsNot _ .none _ _ _; refine op_isnot_none (fun _ h => nomatch h) ?_)
  | (show OC _ _ .IsNot (.ref _) (.ref _) _ _ _; refine op_isnot_self ?_)
  | (show OC _ _ .Lt (.int _) (.int _) _ _ _; first | refine cp_lt_T (by omega) ?_ | refine cp_lt_F (by omega) ?_ | refine cp_lt_int (fun _ => ?_) (fun _ => ?_))
  | (show OC _ _ .Eq (.int _) (.int _) _ _ _; first | refine cp_eqi_T (by omega) ?_ | refine cp_eqi_F (by omega) ?_ | refine cp_eq_int (fun _ => ?_) (fun _ => ?_))
  | (show OC _ _ .Eq (.str _) (.str _) _ _ _; first | refine cp_eqs_T (by decide +kernel) ?_ | refine cp_eqs_F (by decide +kernel) ?_ | refine cp_eq_str (fun _ => ?_) (fun _ => ?_))
  | (show OC _ _ .NotEq (.str _) (.str _) _ _ _; first | refine cp_nes_T (by decide +kernel) ?_ | refine cp_nes_F (by decide +kernel) ?_ | refine cp_ne_str (fun _ => ?_) (fun _ => ?_))
  | (show OC _ _ .NotEq (.int _) (.int _) _ _ _; refine cp_ne_int (fun _ => ?_) (fun _ => ?_)))
local macro_rules | `(tactic| walk_at "cl") => `(tactic| first
  | (show CL _ _ (.builtin "len") _ _ _ _; first | refine tr_len_lst (by first | omega | (simp; omega) | (simp [rowsV, listsV]; omega)) ?_ | refine tr_len_list (by walk_at "mem") (by first | omega | (simp; omega) | (simp [listsV]; omega)) ?_)
  | (show CL _ _ (.builtin "str.startswith") _ _ _ _; refine tr_startswith ?_)
  | (show CL _ _ (.builtin "list.append") _ _ _ _; refine tr_append (by assumption) (by walk_at "upd") (by first | omega | (simp; done) | (simp; omega) | (simp [listsV]; omega)) ?_))
local macro_rules | `(tactic| walk_at "as") => `(tactic| first
  | (show AS _ _ _ (.Name _ _) _ _ _ _; refine as_name (by walk_at "loc") ?_)
  | (show AS _ _ _ (.Tuple _ _ _) (.tup _) _ _ _; refine as_tup (by assumption) (by rfl) ?_)
  | (show AS _ _ _ (.Tuple _ _ _) (.ref _) _ _ _; refine as_lst (by assumption) (.inr ⟨_, rfl, by walk_at "mem"⟩) (by rfl) ?_)
  | (show AS _ _ _ (.Tuple _ _ _) (.lst .list _) _ _ _; refine as_lst (by assumption) (.inl rfl) (by rfl) ?_))
local macro_rules | `(tactic| walk_at "fit") => `(tactic| first | assumption | exact Fit.le (by assumption) (by decide))
local macro_rules | `(tactic| walk_at "nbi") => `(tactic| first | exact val_nbi _ | exact fun _ h => nomatch h)
local macro_rules | `(tactic| walk_at "ga") => `(tactic| first
  | (show GA _ _ "code" (.tag _ _) _ _ _; refine ga_code (by assumption) (by walk_at "nbi") (by walk_at "fit") ?_)
  | (show GA _ _ "value" (.tag _ _) _ _ _; refine ga_value (by assumption) (by walk_at "nbi") (by walk_at "fit") ?_))
local macro_rules | `(tactic| walk_at "st") => `(tactic| first
  | (show EV _ _ _ _ _ _ _; walk_at "ev")
  | (show EXs _ _ _ _ _ _ _; first | refine ex_cons ?_ | refine ex_nil ?_)
  | (show EX _ _ _ _ _ _ _; walk_at "ex")
  | (show IT _ _ _ _ _ _ _; walk_at "it")
  | (show AR _ _ _ _ _ _ _ _; first | refine args_cons ?_ | refine args_nil ?_)
  | (show OS _ _ _ _ _ _ _ _ _; walk_at "os")
  | (show OB _ _ _ _ _ _ _ _; walk_at "ob")
  | (show OC _ _ _ _ _ _ _ _; walk_at "oc")
  | (show CL _ _ _ _ _ _ _; walk_at "cl")
  | (show GA _ _ _ _ _ _ _; walk_at "ga")
  | (show TY _ _ (.bool _) _ _ _; refine tr_truthy_bool ?_)
  | (show TY _ _ .none _ _ _; refine tr_truthy_none ?_)
  | (show AS _ _ _ _ _ _ _ _; walk_at "as")
  | (show ASs _ _ _ _ _ _ _ _; first | refine ass_cons ?_ | refine ass_nil ?_)
  | (show EO _ _ _ _ _ _ _; first | refine eo_none ?_ | refine eo_some ?_)
  | (show SL _ _ _ _ (.str _) _ _ _ _ _; refine sl_str (by omega) ?_)
  | (show SI _ _ _ _ _ _ _ _; refine tr_setItem_list (by walk_at "upd") (by omega) (by simp) (by simp) ?_)
  | (show @ite Prop _ _ _ _; first | refine iteT ?_ | refine iteF ?_)
  | (show List.length _ ≤ 100 ∧ _; refine ⟨by simp only [List.length_cons, List.length_nil]; decide, ?_⟩)
  | (show ∀ a : Addr, ¬ (a ∈ _) → _; intro _ _)
  | (show Exists _; first
    | refine ⟨_, (rfl : V.int _ = V.int _), ?_⟩
    | refine ⟨_, meth_list (by walk_at "mem") PySem.F.slot_list_index PySem.F.type_list_index, keep_bi _, ?_⟩
    | refine ⟨_, meth_append (by assumption) (.own _ _ _ (by walk_at "mem")), keep_bi _, ?_⟩
    | refine ⟨_, meth_str PySem.F.slot_str_startswith PySem.F.type_str_startswith, keep_bi _, ?_⟩
    | refine ⟨_, (rfl : V.bool _ = V.bool _), ?_⟩
    | refine ⟨_, .bi _, keep_bi _, ?_⟩
    | refine ⟨_, .ty _, keep_ty _, ?_⟩
    | (first | show ∃ f, IsF (.ref 112) f ∧ _ | show ∃ f, IsF (.ref 363) f ∧ _ | show ∃ f, IsF (.ref 517) f ∧ _ | show ∃ f, IsF (.ref 163) f ∧ _ | show ∃ f, IsF (.ref 175) f ∧ _ | show ∃ f, IsF (.ref 187) f ∧ _); refine ⟨_, .ref _, kp_cls (by assumption) (by kernel_rfl) (by kernel_rfl), ?_⟩
    | refine ⟨_, .ref _, kp_any (by assumption) (by kernel_rfl), ?_⟩
    | refine ⟨_, _, _, rfl, by walk_at "loc", ?_⟩))
local macro_rules | `(tactic| walk_at "pick") => `(tactic| first | (with_reducible first | exact .head | exact .tail (.head) | exact .tail (.tail (.head)) | exact .tail (.tail (.tail (.head))) | exact .tail (.tail (.tail (.tail (.head)))) | exact .tail (.tail (.tail (.tail (.tail (.head))))) | exact .tail (.tail (.tail (.tail (.tail (.tail (.head)))))) | exact .tail (.tail (.tail (.tail (.tail (.tail (.tail (.head))))))) | exact .tail (.tail (.tail (.tail (.tail (.tail (.tail (.tail (.head)))))))) | exact .tail (.tail (.tail (.tail (.tail (.tail (.tail (.tail (.tail (.head))))))))) | exact .tail (.tail (.tail (.tail (.tail (.tail (.tail (.tail (.tail (.tail (.head)))))))))) | exact .tail (.tail (.tail (.tail (.tail (.tail (.tail (.tail (.tail (.tail (.tail (.head))))))))))) | exact .tail (.tail (.tail (.tail (.tail (.tail (.tail (.tail (.tail (.tail (.tail (.tail (.head)))))))))))) | exact .tail (.tail (.tail (.tail (.tail (.tail (.tail (.tail (.tail (.tail (.tail (.tail (.tail (.head))))))))))))) | exact .tail (.tail (.tail (.tail (.tail (.tail (.tail (.tail (.tail (.tail (.tail (.tail (.tail (.tail (.head)))))))))))))) | exact .tail (.tail (.tail (.tail (.tail (.tail (.tail (.tail (.tail (.tail (.tail (.tail (.tail (.tail (.tail (.head))))))))))))))) | exact .tail (.tail (.tail (.tail (.tail (.tail (.tail (.tail (.tail (.tail (.tail (.tail (.tail (.tail (.tail (.tail (.head)))))))))))))))) | exact .tail (.tail (.tail (.tail (.tail (.tail (.tail (.tail (.tail (.tail (.tail (.tail (.tail (.tail (.tail (.tail (.tail (.head))))))))))))))))) | exact .tail (.tail (.tail (.tail (.tail (.tail (.tail (.tail (.tail (.tail (.tail (.tail (.tail (.tail (.tail (.tail (.tail (.tail (.head)))))))))))))))))) | exact .tail (.tail (.tail (.tail (.tail (.tail (.tail (.tail (.tail (.tail (.tail (.tail (.tail (.tail (.tail (.tail (.tail (.tail (.tail (.head)))))))))))))))))))) | (first | exact .head | exact .tail (.head) | exact .tail (.tail (.head)) | exact .tail (.tail (.tail (.head))) | exact .tail (.tail (.tail (.tail (.head)))) | exact .tail (.tail (.tail (.tail (.tail (.head))))) | exact .tail (.tail (.tail (.tail (.tail (.tail (.head)))))) | exact .tail (.tail (.tail (.tail (.tail (.tail (.tail (.head))))))) | exact .tail (.tail (.tail (.tail (.tail (.tail (.tail (.tail (.head)))))))) | exact .tail (.tail (.tail (.tail (.tail (.tail (.tail (.tail (.tail (.head))))))))) | exact .tail (.tail (.tail (.tail (.tail (.tail (.tail (.tail (.tail (.tail (.head)))))))))) | exact .tail (.tail (.tail (.tail (.tail (.tail (.tail (.tail (.tail (.tail (.tail (.head))))))))))) | exact .tail (.tail (.tail (.tail (.tail (.tail (.tail (.tail (.tail (.tail (.tail (.tail (.head)))))))))))) | exact .tail (.tail (.tail (.tail (.tail (.tail (.tail (.tail (.tail (.tail (.tail (.tail (.tail (.head))))))))))))) | exact .tail (.tail (.tail (.tail (.tail (.tail (.tail (.tail (.tail (.tail (.tail (.tail (.tail (.tail (.head)))))))))))))) | exact .tail (.tail (.tail (.tail (.tail (.tail (.tail (.tail (.tail (.tail (.tail (.tail (.tail (.tail (.tail (.head))))))))))))))) | exact .tail (.tail (.tail (.tail (.tail (.tail (.tail (.tail (.tail (.tail (.tail (.tail (.tail (.tail (.tail (.tail (.head)))))))))))))))) | exact .tail (.tail (.tail (.tail (.tail (.tail (.tail (.tail (.tail (.tail (.tail (.tail (.tail (.tail (.tail (.tail (.tail (.head))))))))))))))))) | exact .tail (.tail (.tail (.tail (.tail (.tail (.tail (.tail (.tail (.tail (.tail (.tail (.tail (.tail (.tail (.tail (.tail (.tail (.head)))))))))))))))))) | exact .tail (.tail (.tail (.tail (.tail (.tail (.tail (.tail (.tail (.tail (.tail (.tail (.tail (.tail (.tail (.tail (.tail (.tail (.tail (.head)))))))))))))))))))))
local macro_rules | `(tactic| walk_at "picks") => `(tactic| repeat (first | exact .nil | refine .cons (by walk_at "pick") ?_))
local macro_rules | `(tactic| walk_at "sub") => `(tactic| repeat (first | exact .slnil | refine .cons_cons _ ?_ | refine .cons _ ?_))

section
open PySem PySem.W PySem.W.X PyProof.Rows
set_option Elab.async false
set_option maxRecDepth 100000
set_option linter.unusedVariables false
theorem tag_end {h0 h : Heap} {f : Addr × Obj} {x d : Addr} {a b : Value} {g : Array GenState} {dr : Drawn} {t : Nat} {os : OsState} {Q : Value → Shared → Prop} {P : Prop} (D : Mem h0 h [] [f, (x, ⟨.ref 112, some d, .plain, #[some a, some b]⟩), (d, emptyD 0)])
    (hQ : ∀ h' t x d n, (∀ b o, h0.get? b = some o → h'.get? b = some o) → h'.get? x = some ⟨.ref 112, some d, .plain, #[some a, some b]⟩ → h'.get? d = some (emptyD n) → h0.get? x = none → h0.get? d = none → Q (.ref x) ⟨h', g, dr, t, os⟩) : Q (.ref x) ⟨h, g, dr, t, os⟩ :=
  hQ _ _ _ _ _ (fun b o e => D.keep b o e (by simp [away])) (D.nw _ (.tail _ (.head _))).1 (D.nw _ (.tail _ (.tail _ (.head _)))).1 (D.nw _ (.tail _ (.head _))).2 (D.nw _ (.tail _ (.tail _ (.head _)))).2
local macro_rules | `(tactic| x_close) => `(tactic| exact tag_end (P := True) (by assumption) (by assumption))
section
variable {w : World} {h0 : Heap} {A : Around} {mg mb : Str → Option Value} {X : Value → Cells → Prop} {cs : Cells} {PV : V → Cells → Prop}
set_option maxHeartbeats 8000000 in
theorem tag_run {s : Shared} {Q : Value → Shared → Prop} {E : Value → Shared → Prop} (X : (K1 w.params).In s.heap) (a b : Value)
    (hQ : ∀ h' t x d n, (∀ b o, s.heap.get? b = some o → h'.get? b = some o) → h'.get? x = some ⟨.ref 112, some d, .plain, #[some a, some b]⟩ → h'.get? d = some (emptyD n) → s.heap.get? x = none → s.heap.get? d = none → Q (.ref x) ⟨h', s.gens, s.drawn, t, s.os⟩) :
    wpAny (model PP w) (A0 none) (call (.ref 112) [a, b]) Q E s := by
  x_run
theorem cl_tag (K : Ctx w h0 mg mb) {n : Nat} (fit : Fit n A) {c v : V} (h : PV (.tag c v) cs) : CL (MM w h0) A (.ref 112) [c, v] cs PV X := ⟨fun vs B s hs r => by
  cases r with | cons rc r
  cases r with | cons rv r
  cases r with | nil
  refine at_A0 (by have := fit.dep; omega) (by have := fit.un; omega) ?_
  rw [fit.hd]
  exact tag_run (K1_in K.X hs.keepS) _ _ fun h' t x d n hk hx hd hnx hnd => tag_new hs hk hx hd hnx hnd rc rv h⟩
end

end
section
open PySem PySem.W PySem.W.X PyProof.Rows
set_option Elab.async false
set_option maxRecDepth 100000
set_option linter.unusedVariables false
section
variable {w : World} {h0 : Heap} {A : Around} {mg mb : Str → Option Value} {X : Value → Cells → Prop} {cs : Cells} {PV : V → Cells → Prop}
/-- the tag that a row makes -/
abbrev rtag (r : Row) : V := tagV (rowI r)
theorem rtag_eq (r : Row) : rtag r = .tag (.int r.1) (.str r.2) := rfl
theorem ga_code0 (K : Ctx w h0 mg mb) (fit : Fit 2 A) (h : PV (.int 0) cs) : GA (MM w h0) A "code" (.ref 118) cs PV X :=
  ga_prop (KK1 K) (po_code _) (inst_none K) ⟨fun vs B s hs r => codeAny_mono ((tcode_spec K (v := .int 0) (fun _ _ => inst_none K) (fun _ h => nomatch h) fit.in1).it vs B s hs r) fun r s' hr => match r, hr with
    | .ok (.ret v), hr => hr.mono fun u c ⟨e1, e2⟩ => ⟨by rw [e1, e2]; exact h, by rw [e1]; exact fun _ h => nomatch h⟩
    | .error e, hr => hr⟩
set_option maxHeartbeats 4000000 in
theorem isapp_spec (K : Ctx w h0 mg mb) (fit : Fit 3 A) {r : Row} (ok : RowOk r) : CL (MM w h0) A (.ref 126) [rtag r] cs (fun u cs' => u = .bool (opens r) ∧ cs' = cs) NoX := by
  have X0 := K.X
  have G := K.G
  have ga := g_APP K
  refine CK.cl (cc_def (names := ["tag"]) (args := [rtag r]) fit (fun B hS => ⟨_, hS _ _ (SS_of K.X (is_isapp _).1 (by decide)), (is_isapp _).2⟩) (fun B hS h hk => cr_isapp K.X hS hk) (bind1 (len1 fun a => ba_isapp a) rfl) K.G.lim (by decide +kernel) (by simp) ?_)
  intro L hL
  show EXs _ _ _ _ ((L, .frame [("tag", rtag r)]) :: cs) _ _
  have fit' := fit.deeper (envFn (Stmt.scp f_isapp) L [] "is_app_data_marker" 126 (.ref 125))
  rw [rtag_eq]
  repeat' (first | walk_at "st" )
  · rename_i h
    exact ⟨_, _, rfl, by show V.bool _ = V.bool _; unfold opens; rw [← ok.sw, h]; rfl, rfl⟩
  · rename_i h
    exact ⟨_, _, rfl, by show V.bool _ = V.bool _; unfold opens; rw [beq_eq_false_iff_ne.mpr h]; rfl, rfl⟩
/-- the row marks an embedded object -/
def isEmb (r : Row) : Bool := r.1 == 101 && r.2 == "Embedded Object"
set_option maxHeartbeats 4000000 in
theorem isemb_spec (K : Ctx w h0 mg mb) (fit : Fit 3 A) (r : Row) : CL (MM w h0) A (.ref 133) [rtag r] cs (fun u cs' => u = .bool (isEmb r) ∧ cs' = cs) NoX := by
  have X0 := K.X
  have G := K.G
  have ga := g_EMB K
  have gb := g_EMBS K
  refine CK.cl (cc_def (names := ["tag"]) (args := [rtag r]) fit (fun B hS => ⟨_, hS _ _ (SS_of K.X (is_isemb _).1 (by decide)), (is_isemb _).2⟩) (fun B hS h hk => cr_isemb K.X hS hk) (bind1 (len1 fun a => ba_isemb a) rfl) K.G.lim (by decide +kernel) (by simp) ?_)
  intro L hL
  show EXs _ _ _ _ ((L, .frame [("tag", rtag r)]) :: cs) _ _
  have fit' := fit.deeper (envFn (Stmt.scp f_isemb) L [] "is_embedded_object_marker" 133 (.ref 132))
  rw [rtag_eq]
  repeat' (first | walk_at "st" )
  · rename_i h h'
    exact ⟨_, _, rfl, by show V.bool _ = V.bool _; unfold isEmb; rw [h, h']; rfl, rfl⟩
  · rename_i h h'
    exact ⟨_, _, rfl, by show V.bool _ = V.bool _; unfold isEmb; rw [h, beq_eq_false_iff_ne.mpr h']; rfl, rfl⟩
  · rename_i h
    exact ⟨_, _, rfl, by show V.bool _ = V.bool _; unfold isEmb; rw [beq_eq_false_iff_ne.mpr h]; rfl, rfl⟩
set_option maxHeartbeats 4000000 in
theorem isemb_none (K : Ctx w h0 mg mb) (fit : Fit 3 A) : CL (MM w h0) A (.ref 133) [.ref 118] cs (fun u cs' => u = .bool false ∧ cs' = cs) NoX := by
  have X0 := K.X
  have G := K.G
  have ga := g_EMB K
  refine CK.cl (cc_def (names := ["tag"]) (args := [.ref 118]) fit (fun B hS => ⟨_, hS _ _ (SS_of K.X (is_isemb _).1 (by decide)), (is_isemb _).2⟩) (fun B hS h hk => cr_isemb K.X hS hk) (bind1 (len1 fun a => ba_isemb a) rfl) K.G.lim (by decide +kernel) (by simp) ?_)
  intro L hL
  show EXs _ _ _ _ ((L, .frame [("tag", .ref 118)]) :: cs) _ _
  have fit' := fit.deeper (envFn (Stmt.scp f_isemb) L [] "is_embedded_object_marker" 133 (.ref 132))
  repeat' (first | walk_at "st" )
  refine ga_code0 K fit' ?_
  repeat' (first | walk_at "st" )
  exact ⟨_, _, rfl, rfl, rfl⟩
end

end
section
open PySem PySem.W PySem.W.X PyProof.Rows
set_option Elab.async false
set_option maxRecDepth 100000
set_option linter.unusedVariables false
theorem tags_end {h0 h : Heap} {x d : Addr} {vs : Array Value} {n m : Nat} {g : Array GenState} {dr : Drawn} {t : Nat} {os : OsState} {Q : Value → Shared → Prop} {P : Prop} (D : Mem h0 h [] [(x, ⟨.ref 363, some d, .seq vs n, #[]⟩), (d, emptyD m)])
    (hQ : ∀ h' t x d n, (∀ b o, h0.get? b = some o → h'.get? b = some o) → h'.get? x = some ⟨.ref 363, some d, .seq vs n, #[]⟩ → h'.get? d = some (emptyD m) → h0.get? x = none → h0.get? d = none → Q (.ref x) ⟨h', g, dr, t, os⟩) : Q (.ref x) ⟨h, g, dr, t, os⟩ :=
  hQ _ _ _ _ _ (fun b o e => D.keep b o e (by simp [away])) (D.nw _ (.head _)).1 (D.nw _ (.tail _ (.head _))).1 (D.nw _ (.head _)).2 (D.nw _ (.tail _ (.head _))).2
theorem list_end {h0 h : Heap} {x : Addr} {vs : Array Value} {n : Nat} {g : Array GenState} {dr : Drawn} {t : Nat} {os : OsState} {Q : Value → Shared → Prop} {P : Prop} (D : Mem h0 h [] [(x, ⟨.type "list", none, .seq vs n, #[]⟩)])
    (hQ : ∀ h' t x n, (∀ b o, h0.get? b = some o → h'.get? b = some o) → h'.get? x = some ⟨.type "list", none, .seq vs n, #[]⟩ → h0.get? x = none → Q (.ref x) ⟨h', g, dr, t, os⟩) : Q (.ref x) ⟨h, g, dr, t, os⟩ :=
  hQ _ _ _ _ (fun b o e => D.keep b o e (by simp [away])) (D.nw _ (.head _)).1 (D.nw _ (.head _)).2
local macro_rules | `(tactic| x_close) => `(tactic| first | exact tags_end (P := True) (by assumption) (by assumption) | exact list_end (P := True) (by assumption) (by assumption))
section
variable {w : World} {h0 : Heap} {A : Around} {mg mb : Str → Option Value} {X : Value → Cells → Prop} {cs : Cells} {PV : V → Cells → Prop}
set_option maxHeartbeats 8000000 in
theorem tags_run0 {s : Shared} {Q : Value → Shared → Prop} {E : Value → Shared → Prop} (X : (K1 w.params).In s.heap)
    (hQ : ∀ h' t x d n, (∀ b o, s.heap.get? b = some o → h'.get? b = some o) → h'.get? x = some ⟨.ref 363, some d, .seq #[] n, #[]⟩ → h'.get? d = some (emptyD 0) → s.heap.get? x = none → s.heap.get? d = none → Q (.ref x) ⟨h', s.gens, s.drawn, t, s.os⟩) :
    wpAny (model PP w) (A0 none) (call (.ref 363) []) Q E s := by
  x_run
set_option maxHeartbeats 8000000 in
theorem tags_run1 {s : Shared} {Q : Value → Shared → Prop} {E : Value → Shared → Prop} (X : (K1 w.params).In s.heap) {l : Addr} {v : Value} {m : Nat} (hl : s.heap.get? l = some ⟨.type "list", none, .seq #[v] m, #[]⟩)
    (hQ : ∀ h' t x d n, (∀ b o, s.heap.get? b = some o → h'.get? b = some o) → h'.get? x = some ⟨.ref 363, some d, .seq #[v] n, #[]⟩ → h'.get? d = some (emptyD 0) → s.heap.get? x = none → s.heap.get? d = none → Q (.ref x) ⟨h', s.gens, s.drawn, t, s.os⟩) :
    wpAny (model PP w) (A0 none) (call (.ref 363) [.ref l]) Q E s := by
  x_run
set_option maxHeartbeats 8000000 in
theorem list_run0 {s : Shared} {Q : Value → Shared → Prop} {E : Value → Shared → Prop} (X : (K1 w.params).In s.heap)
    (hQ : ∀ h' t x n, (∀ b o, s.heap.get? b = some o → h'.get? b = some o) → h'.get? x = some ⟨.type "list", none, .seq #[] n, #[]⟩ → s.heap.get? x = none → Q (.ref x) ⟨h', s.gens, s.drawn, t, s.os⟩) :
    wpAny (model PP w) (A0 none) (call (.type "list") []) Q E s := by
  x_run
theorem cl_tags0 (K : Ctx w h0 mg mb) {n : Nat} (fit : Fit n A) (h : ∀ a, a ∉ cs.ad → PV (.ref a) (ins (a, .lst .tags []) cs)) : CL (MM w h0) A (.ref 363) [] cs PV X := ⟨fun vs B s hs r => by
  cases r
  refine at_A0 (by have := fit.dep; omega) (by have := fit.un; omega) ?_
  rw [fit.hd]
  exact tags_run0 (K1_in K.X hs.keepS) fun h' t x d n hk hx hd hnx hnd => tags_new (vs := []) hs hk hx hd hnx hnd .nil (h x)⟩
theorem cl_tags1 (K : Ctx w h0 mg mb) {n : Nat} (fit : Fit n A) {l : Addr} {u : V} (hm : (l, MO.lst .list [u]) ∈ cs) (h : ∀ a, a ∉ cs.ad → PV (.ref a) (ins (a, .lst .tags [u]) cs)) : CL (MM w h0) A (.ref 363) [.ref l] cs PV X := ⟨fun vs B s hs r => by
  cases r with | cons ra r
  cases r with | nil
  cases ra
  obtain ⟨d, ws, m, e, hd, rs⟩ := hs.own _ hm
  cases hd
  cases rs with | cons ru rs
  cases rs with | nil
  refine at_A0 (by have := fit.dep; omega) (by have := fit.un; omega) ?_
  rw [fit.hd]
  exact tags_run1 (K1_in K.X hs.keepS) e fun h' t x d n hk hx hd hnx hnd => tags_new (vs := [_]) hs hk hx hd hnx hnd (.cons ru .nil) (h x)⟩
theorem cl_list0 (K : Ctx w h0 mg mb) {n : Nat} (fit : Fit n A) (h : ∀ a, a ∉ cs.ad → PV (.ref a) (ins (a, .lst .list []) cs)) : CL (MM w h0) A (.type "list") [] cs PV X := ⟨fun vs B s hs r => by
  cases r
  refine at_A0 (by have := fit.dep; omega) (by have := fit.un; omega) ?_
  rw [fit.hd]
  exact list_run0 (K1_in K.X hs.keepS) fun h' t x n hk hx hnx => list_new (vs := []) hs hk hx hnx .nil (h x)⟩
end

end
section
open PySem PySem.W PySem.W.X PyProof.Rows
set_option Elab.async false
set_option maxRecDepth 100000
set_option linter.unusedVariables false
local macro_rules | `(tactic| walk_at "ev") => `(tactic| (show EV _ _ _ (.Set [_, _, _] _ _) _ _ _; refine ev_set3 ⟨_, _, rfl, .tail _ (by assumption)⟩ (by kernel_rfl) (by kernel_rfl) (by kernel_rfl) ?_))
local macro_rules | `(tactic| walk_at "oc") => `(tactic| (show OC _ _ .NotIn (.int _) (.ref _) _ _ _; refine op_notin_set (by walk_at "mem") ?_))
/-- the row ends a class -/
def isEnd (r : Row) : Bool := (r.1 == 100 || r.1 == 101 || r.1 == 1001) && !(r.1 == 101 && r.2 != "Embedded Object")
/-- the defs within _setup -/
def nst (i : Nat) : Stmt := (Stmt.bod f_setup)[i]?.getD (.Pass ⟨0,0,0,0⟩)
abbrev fnP (q : Str) (i : Nat) (clo : List (Str × Addr)) (c' : Addr) : MO := .p (fun o => FnIs o q (Stmt.par (nst i)) (Stmt.bod (nst i)) (Stmt.scp (nst i)) clo (.ref c') .none)
abbrev q_isend : Str := "ExtendedTags._setup.<locals>.is_end_of_class"
section
variable {w : World} {h0 : Heap} {A : Around} {mg mb : Str → Option Value} {X : Value → Cells → Prop} {cs : Cells} {PV : V → Cells → Prop}
theorem ba_isend (v0 : Value) : bindArgs (bareFn q_isend (Stmt.par (nst 0)) .none) ⟨[v0], []⟩ = pure ((["tag"] : List Str).zip [v0]) := by kernel_rfl
set_option maxHeartbeats 4000000 in
theorem isend_spec (K : Ctx w h0 mg mb) (fit : Fit 3 A) {r : Row} {f c' : Addr} (hf : (f, fnP q_isend 0 [] c') ∈ cs) (hc : (c', MO.p (codeP q_isend)) ∈ cs) : CL (MM w h0) A (.ref f) [rtag r] cs (fun u cs' => u = .bool (isEnd r) ∧ cs' = cs) NoX := by
  have X0 := K.X
  have G := K.G
  have ga := g_SUB K
  have gb := g_EMB K
  have gc := g_XD K
  have gd := g_EMBS K
  refine CL.viewV (CK.cl (cc_defO (names := ["tag"]) (args := [rtag r]) fit hf hc (bind1 (len1 fun a => ba_isend a) rfl) K.G.lim (by decide +kernel) (by simp) ?_))
  intro L hL
  show EXs _ _ _ _ ((L, .frame [("tag", rtag r)]) :: cs) _ _
  have fit' := fit.deeper (envFn (Stmt.scp (nst 0)) L [] q_isend f (.ref c'))
  rw [rtag_eq]
  repeat' (first | walk_at "st" )
  refine ⟨_, _, _, rfl, rfl, rfl, fun d _ => ?_⟩
  walk_at "st"
  refine ⟨_, rfl, ?_⟩
  split
  · rename_i h
    repeat' (first | walk_at "st" )
    refine ⟨_, _, rfl, _, _, .of .drop, ?_, rfl⟩
    simp only [Bool.not_eq_true', Bool.or_eq_false_iff, decide_eq_false_iff_not, Bool.false_or] at h
    obtain ⟨⟨h1, h2⟩, h3⟩ := h
    show V.bool _ = V.bool _
    unfold isEnd
    rw [beq_eq_false_iff_ne.mpr h1, beq_eq_false_iff_ne.mpr h2, beq_eq_false_iff_ne.mpr h3]; rfl
  · rename_i h
    have h' : (r.1 == 100 || r.1 == 101 || r.1 == 1001) = true := by
      simp only [Bool.not_eq_true', Bool.not_eq_false, Bool.or_eq_true, decide_eq_true_eq, Bool.false_or, beq_iff_eq] at h ⊢
      exact h
    refine ex_cons (ex_if ?_)
    repeat' (first | walk_at "st" )
    · rename_i h1 h2
      refine ⟨_, _, rfl, _, _, .of .drop, ?_, rfl⟩
      show V.bool _ = V.bool _
      unfold isEnd
      rw [h', h1, h2]; rfl
    · rename_i h1 h2
      refine ⟨_, _, rfl, _, _, .of .drop, ?_, rfl⟩
      show V.bool _ = V.bool _
      unfold isEnd
      rw [h', h1, bne_iff_ne.mpr h2]; rfl
    · rename_i h1
      refine ⟨_, _, rfl, _, _, .of .drop, ?_, rfl⟩
      show V.bool _ = V.bool _
      unfold isEnd
      rw [h', beq_eq_false_iff_ne.mpr h1]; rfl
end

end
local macro_rules | `(tactic| walk_at "name") => `(tactic| refine ev_free (by rfl) (by walk_at "mem") ?_)
local macro_rules | `(tactic| walk_at "cl") => `(tactic| (show CL _ _ (.ref 363) [.ref _] _ _ _; refine cl_tags1 (by assumption) (by assumption) (by walk_at "mem") ?_))
local macro_rules | `(tactic| walk_at "ga") => `(tactic| first
  | (show GA _ _ "appdata" (.ref _) _ _ _; refine ga_slot (by assumption) (so_app _) (inst_own (by walk_at "mem")) rfl (by walk_at "nbi") ?_)
  | (show GA _ _ "subclasses" (.ref _) _ _ _; refine ga_slot (by assumption) (so_sub _) (inst_own (by walk_at "mem")) rfl (by walk_at "nbi") ?_)
  | (show GA _ _ "xdata" (.ref _) _ _ _; refine ga_slot (by assumption) (so_xd _) (inst_own (by walk_at "mem")) rfl (by walk_at "nbi") ?_))
local macro_rules | `(tactic| walk_at "cl") => `(tactic| (show CL _ _ (.ref 363) [] _ _ _; refine cl_tags0 (by assumption) (by assumption) ?_))

section
open PySem PySem.W PySem.W.X PyProof.Rows
set_option Elab.async false
set_option maxRecDepth 100000
set_option linter.unusedVariables false
abbrev q_capp : Str := "ExtendedTags._setup.<locals>.collect_app_data"
/-- lists of tags, each in a cell of its own -/
abbrev TL := List (Addr × List Item)
def refs (l : TL) : List V := l.map fun p => .ref p.1
def tcs (l : TL) : Cells := l.map fun p => (p.1, .lst .tags (p.2.map tagV))
def its (l : TL) : List (List Item) := l.map Prod.snd
theorem nodup_ne {D b : Addr} {m : MO} {c : Cells} (nd : Cells.ad ((D, m) :: c) |>.Nodup) (h : b ∈ Cells.ad c) : b ≠ D := fun e => (List.nodup_cons.mp nd).1 (e ▸ h)
abbrev sl4 (AL SL XL : Addr) : List (Option V) := [some (.ref AL), some .none, some (.ref SL), some (.ref XL)]
abbrev tagL (rows : List Row) : V := .lst .list (rows.map rtag)
def appCells (f c' cS cT I E AL SL XL : Addr) (rows : List Row) (i : Nat) (al sl xl : List V) : Cells :=
  [(f, fnP q_capp 3 [("tags", cT), ("self", cS)] c'), (c', .p (codeP q_capp)), (cS, .cell (some (.ref E))), (cT, .cell (some (.ref I))), (I, .it (tagL rows) i), (E, .inst 517 (sl4 AL SL XL)), (AL, .lst .list al), (SL, .lst .list sl), (XL, .lst .list xl)]
def loopC (L D c' f cS cT I E AL SL XL : Addr) (rows : List Row) (j : Nat) (al sl xl : List V) (code0 : Int) (val0 : Str) (blk : List Item) : Cells :=
  (L, .frame [("starttag", .tag (.int code0) (.str val0)), ("data", .ref D), ("closing_strings", .tup [.str "}", .str (tl val0 ++ "}")])]) :: (D, .lst .tags (blk.map tagV)) :: appCells f c' cS cT I E AL SL XL rows j al sl xl
section
variable {w : World} {h0 : Heap} {A : Around} {mg mb : Str → Option Value} {X : Value → Cells → Prop} {cs : Cells} {PV : V → Cells → Prop}
theorem ba_capp (v0 : Value) : bindArgs (bareFn q_capp (Stmt.par (nst 3)) .none) ⟨[v0], []⟩ = pure ((["starttag"] : List Str).zip [v0]) := by kernel_rfl
set_option maxHeartbeats 4000000 in
theorem capp_spec (K : Ctx w h0 mg mb) (fit : Fit 4 A) {f c' cS cT I E AL SL XL : Addr} {rows : List Row} {i : Nat} {r0 : Row} {cl da ex inn : List (List Item)} {al sl xl : List V} {cu : List Item} {st : Nat}
    (hlen : rows.length ≤ 300) (hok : ∀ r ∈ rows, RowOk r) (ok0 : RowOk r0) (hal : al.length = da.length) (hi : i ≤ rows.length) (hrun : PS.run (rows.take i) = ⟨st, cl, da, ex, inn, cu, some (r0.2, [rowI r0])⟩) :
    CL (MM w h0) A (.ref f) [rtag r0] (appCells f c' cS cT I E AL SL XL rows i al sl xl)
      (fun u cs' => u = .none ∧ ∃ j blk D, i < j ∧ j ≤ rows.length ∧ PS.run (rows.take j) = ⟨st, cl, da ++ [blk], ex, inn, cu ++ [(102, .n da.length)], none⟩ ∧ cs' = (D, .lst .tags (blk.map tagV)) :: appCells f c' cS cT I E AL SL XL rows j (al ++ [.ref D]) sl xl)
      (fun c cs' => c = .ref 163 ∧ (PS.run rows).op ≠ none) := by
  have X0 := K.X
  have G := K.G
  have TO := tagsOk K.X
  have KK := KK1 K
  have ga := g_Tags K
  have gb := g_APP K
  have n1 := n_next K
  have n2 := b_next K
  have s1' := n_stop K
  have s2' := b_stop K
  have gx := g_DSE K
  unfold appCells
  refine CL.viewV (CK.cl (cc_defO (names := ["starttag"]) (args := [rtag r0]) fit (by walk_at "mem") (by walk_at "mem") (bind1 (len1 fun a => ba_capp a) rfl) K.G.lim (by decide +kernel) (by simp) ?_))
  intro L hL
  show EXs _ _ _ _ ((L, .frame [("starttag", rtag r0)]) :: _) _ _
  have fit' := fit.deeper (envFn (Stmt.scp (nst 3)) L [("tags", cT), ("self", cS)] q_capp f (.ref c'))
  obtain ⟨code0, val0⟩ := r0
  obtain ⟨o1, o2, o3, o4, o5, o6, o7⟩ := ok0
  dsimp only at o1 o2 o3 o4 o5 o6 o7 hrun
  rw [rtag_eq]
  dsimp only
  have o8 : (Txt.slice val0 (some 1) none).length + ("}" : Str).length ≤ 10000 := by
    have h1 : ("}" : Str).length = 1 := by decide
    have h2 : (Txt.slice val0 (some 1) none).length ≤ 100 := o4
    omega
  repeat' (first | walk_at "st" )
  rename_i T1 _ D _
  refine EX.view (View.picks (c' := loopC L D c' f cS cT I E AL SL XL rows i al sl xl code0 val0 [(code0, .s val0)]) (r := [(T1, _)]) (by unfold loopC appCells; walk_at "picks")) ?_
  refine ex_while (on_deeper rfl) (fun n c => ∃ j blk, n = rows.length - j ∧ i ≤ j ∧ j ≤ rows.length ∧ PS.run (rows.take j) = ⟨st, cl, da, ex, inn, cu, some (val0, blk)⟩ ∧ c = loopC L D c' f cS cT I E AL SL XL rows j al sl xl code0 val0 blk)
    (rows.length - i) ⟨i, _, rfl, Nat.le_refl _, hi, hrun, rfl⟩ ?_
  rintro n c ⟨j, blk, rfl, hij, hj, hp, rfl⟩
  have hbd := run_bd (rows.take j)
  rw [hp, List.length_take, Nat.min_eq_left hj] at hbd
  have hbl : blk.length ≤ j := hbd.op _ _ rfl
  have hda : da.length ≤ j := hbd.da
  have hrun2 : ∀ r, rows[j]? = some r → PS.run (rows.take (j + 1)) = (PS.run (rows.take j)).step r := fun r h => run_take h
  rw [hp] at hrun2
  have hmap : (rows.map rtag)[j]? = (rows[j]?).map rtag := List.getElem?_map ..
  unfold loopC appCells
  repeat' (first | walk_at "st" )
  refine ex_try (on_deeper rfl) ?_
  by_cases hjl : j < rows.length
  · have hr : rows[j]? = some rows[j] := List.getElem?_eq_getElem hjl
    have ro := hok _ (List.getElem_mem hjl)
    generalize rows[j] = r at hr ro
    obtain ⟨c2, v2⟩ := r
    have hrun2 := hrun2 _ hr
    rw [hr] at hmap
    obtain ⟨q1, q2, q3, q4, q5, q6, q7⟩ := ro
    dsimp only at q1 q2 q3 q4 q5 q6 q7
    repeat' (first | walk_at "st" )
    refine tr_next_item (by walk_at "upd") hmap ?_
    have hcl : closes val0 (c2, v2) = true ↔ (c2 = 102 ∧ (v2 = "}" ∨ v2 = tl val0 ++ "}")) := by simp [closes]
    have e2 : rtag (c2, v2) = .tag (.int c2) (.str v2) := rfl
    have hu : 16 ≤ 1900 := by decide
    repeat' (first | walk_at "st" )
    refine ex_if (it_cut (closes val0 (c2, v2) = true) ?_ (fun hc => iteT ?_) (fun hc => iteF ?_))
    · repeat' (first | (show OC _ _ .In _ _ _ _ _; refine op_in2t (by assumption) (by decide +kernel) (by assumption) (by have := fit'.un; omega) (fun _ => ?_) (fun _ => ?_)) | walk_at "st")
      all_goals (refine ⟨rfl, ?_⟩; rw [hcl])
      all_goals first
        | exact ⟨fun _ => ⟨by assumption, by assumption⟩, fun _ => rfl⟩
        | exact ⟨fun q => (by cases q), fun ⟨q1, q2⟩ => (by first | exact absurd q1 (by assumption) | exact absurd q2 (by assumption))⟩
    · repeat' (first | walk_at "st")
      refine ⟨_, _, rfl, .none, _, .refl, rfl, j + 1, blk ++ [rowI (c2, v2)], D, by omega, by omega, hrun2.trans (step_z rfl hc), ?_⟩
      first | (simp only [List.map_append, List.map_cons, List.map_nil]; done) | (simp only [List.map_append, List.map_cons, List.map_nil]; rfl)
    · repeat' (first | walk_at "st")
      refine ⟨rows.length - (j + 1), _, by omega, View.loc (loc' := [("starttag", .tag (.int code0) (.str val0)), ("data", .ref D), ("closing_strings", .tup [.str "}", .str (tl val0 ++ "}")])]) (by walk_at "sub"), j + 1, blk ++ [rowI (c2, v2)], rfl, by omega, by omega, hrun2.trans (step_b rfl (by simpa using hc)), ?_⟩
      simp only [List.map_append, List.map_cons, List.map_nil]
      rfl
  · rw [List.getElem?_eq_none (Nat.not_lt.mp hjl)] at hmap
    repeat' (first | walk_at "st" )
    refine tr_next_end fit'.hd (by walk_at "pick") hmap ?_
    refine hb_takeX (on_deeper rfl) (name_builtin G s1' s2') (mt_st K) fun ea T => ?_
    repeat' (first | (show EX _ _ _ (.Raise _ _ _) _ _ _; refine ex_raise ?_) | walk_at "st" )
    refine tr_newexc (xo_dse K) (by simp) fun ea' _ => ⟨163, ea', _, rfl, ck_dse K, .tail .head, .stop ea T rfl (by simp), _, _, rfl, rfl, ?_⟩
    obtain rfl : j = rows.length := by omega
    rw [List.take_length] at hp
    rw [hp]
    exact Option.some_ne_none _
end

end
section
open PySem PySem.W PySem.W.X PyProof.Rows
set_option Elab.async false
set_option maxRecDepth 100000
set_option linter.unusedVariables false
/-- what a collector gives back -/
inductive Ret (rows : List Row) (E : Row → Bool) (I : Addr) (j : Nat) : V → Cells → Prop
  | stop : j = rows.length → Ret rows E I j (.ref 118) []
  | row (r : Row) : rows[j]? = some r → E r = true → Ret rows E I j (rtag r) [(I, .it (tagL rows) (j + 1))]
theorem end_F {r : Row} (h : isEnd r = false) : r.1 ≠ 1001 ∧ ¬ (r.1 = 101 ∧ r.2 = "Embedded Object") ∧ r.1 ≠ 100 := by
  obtain ⟨c, v⟩ := r
  unfold isEnd at h
  dsimp only at h ⊢
  refine ⟨?_, ?_, ?_⟩
  · rintro rfl; simp at h
  · rintro ⟨rfl, rfl⟩; simp at h
  · rintro rfl; simp at h
abbrev q_csub : Str := "ExtendedTags._setup.<locals>.collect_subclass"
/-- the entity that is being built -/
def entC (E AL SL XL : Addr) (al sl xl : List V) : Cells :=
  [(E, .inst 517 (sl4 AL SL XL)), (AL, .lst .list al), (SL, .lst .list sl), (XL, .lst .list xl)]
def subCells (f c' cE fe ce cS cT : Addr) : Cells :=
  [(f, fnP q_csub 2 [("tags", cT), ("self", cS), ("is_end_of_class", cE)] c'), (c', .p (codeP q_csub)), (cE, .cell (some (.ref fe))), (fe, fnP q_isend 0 [] ce), (ce, .p (codeP q_isend))]
section
variable {M : Md} {w : World} {h0 : Heap} {A : Around} {mg mb : Str → Option Value} {X : Value → Cells → Prop} {cs : Cells} {PV : V → Cells → Prop}
theorem ViewV.st {x x' : V} {c c' : Cells} (h : c.ad.Nodup → (∀ p ∈ c, M.S p.1 = none) → ViewV M x c x' c') : ViewV M x c x' c' := fun A B s v hs r => h hs.nd (fun p hp => by
  cases q : M.S p.1 with
  | none => rfl
  | some o => have := hs.stat _ _ q; rw [hs.off p hp] at this; cases this) A B s v hs r
theorem none_ne (K : Ctx w h0 mg mb) {D : Addr} {m : MO} {c : Cells} (h : ∀ p ∈ (D, m) :: c, (MM w h0).S p.1 = none) : (118 : Addr) ≠ D := fun q => by
  have h1 := h (D, m) (.head _)
  have h118 : (hd.heap_39 w.params).lookup 118 = some (ko 118 w.params) := by kernel_rfl
  have h2 : (MM w h0).S 118 = some (ko 118 w.params) := SS_of K.X h118 (by decide)
  rw [← q, h2] at h1
  cases h1
theorem cl_same {f : Value} {xs : List V} {x : V} (h : CL M A f xs cs (fun u c => u = x ∧ c = cs) NoX) (k : PV x cs) : CL M A f xs cs PV X := h.noX.post fun u c ⟨e1, e2⟩ => by rw [e1, e2]; exact k
theorem ba_csub (v0 : Value) : bindArgs (bareFn q_csub (Stmt.par (nst 2)) .none) ⟨[v0], []⟩ = pure ((["starttag"] : List Str).zip [v0]) := by kernel_rfl
set_option maxHeartbeats 4000000 in
theorem csub_spec (K : Ctx w h0 mg mb) (fit : Fit 4 A) {f c' cE fe ce cS cT I E AL SL XL : Addr} {rows : List Row} {i : Nat} {r0 : Row} {cl da ex inn : List (List Item)} {al sl xl : List V} (hsl : sl.length = cl.length)
    (hlen : rows.length ≤ 300) (hok : ∀ r ∈ rows, RowOk r) (hi : i ≤ rows.length) (hcl : cl ≠ []) (hrun : PS.run (rows.take i) = ⟨0, cl, da, ex, inn, [rowI r0], none⟩) :
    CL (MM w h0) A (.ref f) [rtag r0] (subCells f c' cE fe ce cS cT ++ ((cS, .cell (some (.ref E))) :: (cT, .cell (some (.ref I))) :: (I, .it (tagL rows) i) :: entC E AL SL XL al sl xl))
      (fun u cs' => ∃ j cu rest D, i ≤ j ∧ PS.run (rows.take j) = ⟨0, cl, da, ex, inn, cu, none⟩ ∧ Ret rows isEnd I j u rest ∧ cs' = subCells f c' cE fe ce cS cT ++ ((cS, .cell (some (.ref E))) :: (cT, .cell (some (.ref I))) :: (rest ++ ((D, .lst .tags (cu.map tagV)) :: entC E AL SL XL al (sl ++ [.ref D]) xl)))) NoX := by
  have X0 := K.X
  have G := K.G
  have TO := tagsOk K.X
  have KK := KK1 K
  have ga := g_Tags K
  have gn := g_NONE K
  have n1 := n_next K
  have n2 := b_next K
  have s1' := n_stop K
  have s2' := b_stop K
  unfold subCells entC
  refine CL.viewV (CK.cl (cc_defO (names := ["starttag"]) (args := [rtag r0]) fit (by walk_at "mem") (by walk_at "mem") (bind1 (len1 fun a => ba_csub a) rfl) K.G.lim (by decide +kernel) (by simp) ?_))
  intro L hL
  show EXs _ _ _ _ ((L, .frame [("starttag", rtag r0)]) :: _) _ _
  have fit' := fit.deeper (envFn (Stmt.scp (nst 2)) L [("tags", cT), ("self", cS), ("is_end_of_class", cE)] q_csub f (.ref c'))
  repeat' (first | walk_at "st" )
  rename_i T1 _ D hD
  have hID : I ≠ D := fun q => hD (by subst q; simp [Cells.ad, ins])
  refine EX.view ((View.drop.cons _).cons _) ?_
  refine ex_try (on_deeper rfl) ?_
  refine ex_cons ?_
  refine ex_while (on_deeper rfl) (fun n c => ∃ j cu, n = rows.length - j ∧ i ≤ j ∧ j ≤ rows.length ∧ PS.run (rows.take j) = ⟨0, cl, da, ex, inn, cu, none⟩ ∧ c = (L, .frame [("starttag", rtag r0), ("data", .ref D)]) :: (D, .lst .tags (cu.map tagV)) :: (subCells f c' cE fe ce cS cT ++ ((cS, .cell (some (.ref E))) :: (cT, .cell (some (.ref I))) :: (I, .it (tagL rows) j) :: entC E AL SL XL al sl xl)))
    (rows.length - i) ⟨i, _, rfl, Nat.le_refl _, hi, hrun, rfl⟩ ?_
  rintro n c ⟨j, cu, rfl, hij, hj, hp, rfl⟩
  have hbd := run_bd (rows.take j)
  rw [hp, List.length_take, Nat.min_eq_left hj] at hbd
  have hcu : cu.length ≤ j := hbd.cur
  have hcll : cl.length ≤ j := hbd.cl
  have hrun2 : ∀ r, rows[j]? = some r → PS.run (rows.take (j + 1)) = (PS.run (rows.take j)).step r := fun r h => run_take h
  rw [hp] at hrun2
  have hmap : (rows.map rtag)[j]? = (rows[j]?).map rtag := List.getElem?_map ..
  unfold subCells entC
  repeat' (first | walk_at "st" )
  by_cases hjl : j < rows.length
  · have hr : rows[j]? = some rows[j] := List.getElem?_eq_getElem hjl
    generalize rows[j] = r at hr
    have hrun2 := hrun2 _ hr
    rw [hr] at hmap
    refine tr_next_item (by walk_at "upd") hmap ?_
    repeat' (first | walk_at "st" )
    refine ex_if (it_plain (ev_callO ?_))
    repeat' (first | walk_at "st" )
    refine ⟨_, rfl, ?_⟩
    repeat' (first | walk_at "st" )
    refine callO_at (by walk_at "mem") (cl_same (isend_spec K fit' (by walk_at "mem") (by walk_at "mem")) (tr_truthy_bool ?_))
    by_cases hend : isEnd r = true
    · rw [hend]
      refine iteT ?_
      repeat' (first | walk_at "st" )
      refine ⟨_, _, rfl, _, _, .of (View.picks (c' := subCells f c' cE fe ce cS cT ++ ((cS, .cell (some (.ref E))) :: (cT, .cell (some (.ref I))) :: ([(I, .it (tagL rows) (j + 1))] ++ ((D, .lst .tags (cu.map tagV)) :: entC E AL SL XL al (sl ++ [.ref D]) xl)))) (r := []) ?_), j, cu, _, D, hij, hp, .row r hr hend, rfl⟩
      unfold subCells entC
      walk_at "picks"
    · rw [Bool.not_eq_true] at hend
      rw [hend]
      refine iteF ?_
      repeat' (first | walk_at "st" )
      have hs : ¬ ((0 : Nat) = 0 ∧ cl = [] ∧ opens r = true) := fun q => hcl q.2.1
      obtain ⟨h1, h2, h3⟩ := end_F hend
      refine ⟨rows.length - (j + 1), _, by omega, View.loc (loc' := [("starttag", rtag r0), ("data", .ref D)]) (by walk_at "sub"), j + 1, cu ++ [rowI r], rfl, by omega, by omega, hrun2.trans (step_a rfl hs h1 (fun q => h2 q.2) (fun q => h3 q.2)), ?_⟩
      simp only [List.map_append, List.map_cons, List.map_nil]
      rfl
  · rw [List.getElem?_eq_none (Nat.not_lt.mp hjl)] at hmap
    refine tr_next_end fit'.hd (by walk_at "pick") hmap ?_
    show HB _ _ _ _ _ _ _ _
    refine hb_take (name_builtin G s1' s2') (mt_st K) fun ea => ?_
    repeat' (first | walk_at "st" )
    refine ⟨_, _, rfl, _, _, .of (View.picks (c' := subCells f c' cE fe ce cS cT ++ ((cS, .cell (some (.ref E))) :: (cT, .cell (some (.ref I))) :: ([] ++ ((D, .lst .tags (cu.map tagV)) :: entC E AL SL XL al (sl ++ [.ref D]) xl)))) (r := []) ?_), j, cu, _, D, hij, hp, .stop (by omega), rfl⟩
    unfold subCells entC
    walk_at "picks"
end

end
section
open PySem PySem.W PySem.W.X PyProof.Rows
set_option Elab.async false
set_option maxRecDepth 100000
set_option linter.unusedVariables false
abbrev q_cx : Str := "ExtendedTags._setup.<locals>.collect_xdata"
def isX (r : Row) : Bool := r.1 == 1001
def xCells (f c' cS cT : Addr) : Cells := [(f, fnP q_cx 4 [("tags", cT), ("self", cS)] c'), (c', .p (codeP q_cx))]
section
variable {M : Md} {w : World} {h0 : Heap} {A : Around} {mg mb : Str → Option Value} {X : Value → Cells → Prop} {cs : Cells} {PV : V → Cells → Prop}
theorem ba_cx (v0 : Value) : bindArgs (bareFn q_cx (Stmt.par (nst 4)) .none) ⟨[v0], []⟩ = pure ((["starttag"] : List Str).zip [v0]) := by kernel_rfl
set_option maxHeartbeats 4000000 in
theorem cx_spec (K : Ctx w h0 mg mb) (fit : Fit 4 A) {f c' cS cT I E AL SL XL : Addr} {rows : List Row} {i : Nat} {r0 : Row} {cl da ex inn : List (List Item)} {al sl xl : List V} (hxl : xl.length = ex.length)
    (hlen : rows.length ≤ 300) (hok : ∀ r ∈ rows, RowOk r) (hi : i ≤ rows.length) (hrun : PS.run (rows.take i) = ⟨1, cl, da, ex, inn, [rowI r0], none⟩) :
    CL (MM w h0) A (.ref f) [rtag r0] (xCells f c' cS cT ++ ((cS, .cell (some (.ref E))) :: (cT, .cell (some (.ref I))) :: (I, .it (tagL rows) i) :: entC E AL SL XL al sl xl))
      (fun u cs' => ∃ j cu rest D, i ≤ j ∧ PS.run (rows.take j) = ⟨1, cl, da, ex, inn, cu, none⟩ ∧ Ret rows isX I j u rest ∧ cs' = xCells f c' cS cT ++ ((cS, .cell (some (.ref E))) :: (cT, .cell (some (.ref I))) :: (rest ++ ((D, .lst .tags (cu.map tagV)) :: entC E AL SL XL al sl (xl ++ [.ref D]))))) NoX := by
  have X0 := K.X
  have G := K.G
  have TO := tagsOk K.X
  have KK := KK1 K
  have ga := g_Tags K
  have gn := g_NONE K
  have gxd := g_XD K
  have n1 := n_next K
  have n2 := b_next K
  have s1' := n_stop K
  have s2' := b_stop K
  unfold xCells entC
  refine CL.viewV (CK.cl (cc_defO (names := ["starttag"]) (args := [rtag r0]) fit (by walk_at "mem") (by walk_at "mem") (bind1 (len1 fun a => ba_cx a) rfl) K.G.lim (by decide +kernel) (by simp) ?_))
  intro L hL
  show EXs _ _ _ _ ((L, .frame [("starttag", rtag r0)]) :: _) _ _
  have fit' := fit.deeper (envFn (Stmt.scp (nst 4)) L [("tags", cT), ("self", cS)] q_cx f (.ref c'))
  repeat' (first | walk_at "st" )
  rename_i T1 _ D hD
  have hID : I ≠ D := fun q => hD (by subst q; simp [Cells.ad, ins])
  refine EX.view ((View.drop.cons _).cons _) ?_
  refine ex_try (on_deeper rfl) ?_
  refine ex_cons ?_
  refine ex_while (on_deeper rfl) (fun n c => ∃ j cu, n = rows.length - j ∧ i ≤ j ∧ j ≤ rows.length ∧ PS.run (rows.take j) = ⟨1, cl, da, ex, inn, cu, none⟩ ∧ c = (L, .frame [("starttag", rtag r0), ("data", .ref D)]) :: (D, .lst .tags (cu.map tagV)) :: (xCells f c' cS cT ++ ((cS, .cell (some (.ref E))) :: (cT, .cell (some (.ref I))) :: (I, .it (tagL rows) j) :: entC E AL SL XL al sl xl)))
    (rows.length - i) ⟨i, _, rfl, Nat.le_refl _, hi, hrun, rfl⟩ ?_
  rintro n c ⟨j, cu, rfl, hij, hj, hp, rfl⟩
  have hbd := run_bd (rows.take j)
  rw [hp, List.length_take, Nat.min_eq_left hj] at hbd
  have hcu : cu.length ≤ j := hbd.cur
  have hcll : ex.length ≤ j := hbd.ex
  have hrun2 : ∀ r, rows[j]? = some r → PS.run (rows.take (j + 1)) = (PS.run (rows.take j)).step r := fun r h => run_take h
  rw [hp] at hrun2
  have hmap : (rows.map rtag)[j]? = (rows[j]?).map rtag := List.getElem?_map ..
  unfold xCells entC
  repeat' (first | walk_at "st" )
  by_cases hjl : j < rows.length
  · have hr : rows[j]? = some rows[j] := List.getElem?_eq_getElem hjl
    generalize rows[j] = r at hr
    have hrun2 := hrun2 _ hr
    rw [hr] at hmap
    refine tr_next_item (by walk_at "upd") hmap ?_
    repeat' (first | walk_at "st" )
    · rename_i hend0
      have hend : isX r = true := by unfold isX; exact beq_iff_eq.mpr hend0
      refine ⟨_, _, rfl, _, _, .of (View.picks (c' := xCells f c' cS cT ++ ((cS, .cell (some (.ref E))) :: (cT, .cell (some (.ref I))) :: ([(I, .it (tagL rows) (j + 1))] ++ ((D, .lst .tags (cu.map tagV)) :: entC E AL SL XL al sl (xl ++ [.ref D]))))) (r := []) ?_), j, cu, _, D, hij, hp, .row r hr hend, rfl⟩
      unfold xCells entC
      walk_at "picks"
    · rename_i hend0
      have hs : ¬ ((1 : Nat) = 0 ∧ cl = [] ∧ opens r = true) := fun q => nomatch q.1
      refine ⟨rows.length - (j + 1), _, by omega, View.loc (loc' := [("starttag", rtag r0), ("data", .ref D)]) (by walk_at "sub"), j + 1, cu ++ [rowI r], rfl, by omega, by omega, hrun2.trans (step_a rfl hs hend0 (fun q => q.1 rfl) (fun q => nomatch q.1)), ?_⟩
      simp only [List.map_append, List.map_cons, List.map_nil]
      rfl
  · rw [List.getElem?_eq_none (Nat.not_lt.mp hjl)] at hmap
    refine tr_next_end fit'.hd (by walk_at "pick") hmap ?_
    show HB _ _ _ _ _ _ _ _
    refine hb_take (name_builtin G s1' s2') (mt_st K) fun ea => ?_
    repeat' (first | walk_at "st" )
    refine ⟨_, _, rfl, _, _, .of (View.picks (c' := xCells f c' cS cT ++ ((cS, .cell (some (.ref E))) :: (cT, .cell (some (.ref I))) :: ([] ++ ((D, .lst .tags (cu.map tagV)) :: entC E AL SL XL al sl (xl ++ [.ref D]))))) (r := []) ?_), j, cu, _, D, hij, hp, .stop (by omega), rfl⟩
    unfold xCells entC
    walk_at "picks"
end

end
section
open PySem PySem.W PySem.W.X PyProof.Rows
set_option Elab.async false
set_option maxRecDepth 100000
set_option linter.unusedVariables false
set_option linter.unusedSimpArgs false
local macro_rules | `(tactic| walk_at "cl") => `(tactic| first | (show CL _ _ (.ref 112) [_, _] _ _ _; refine cl_tag (by assumption) (by assumption) ?_) | (show CL _ _ (.ref 126) [rtag _] _ _ _; refine cl_same (isapp_spec (by assumption) (by walk_at "fit") (by assumption)) ?_))
local macro_rules | `(tactic| walk_at "call") => `(tactic| first | (show EV _ _ _ (.Call (.Name "collect_app_data" _) _ _ _) _ _ _; refine ev_callO ?_) | (show EV _ _ _ (.Call (.Name "is_end_of_class" _) _ _ _) _ _ _; refine ev_callO ?_))
local macro_rules | `(tactic| walk_at "st") => `(tactic| first | (show ∃ f, V.ref _ = V.ref f ∧ _; refine ⟨_, rfl, ?_⟩) | (show (∃ P, (_, MO.p P) ∈ _ ∧ _) ∧ _; refine callO_at (by walk_at "mem") ?_))
abbrev q_cb : Str := "ExtendedTags._setup.<locals>.collect_base_class"
def bCells (f c' cA fa ca cE fe ce cS cT : Addr) : Cells :=
  [(f, fnP q_cb 1 [("tags", cT), ("self", cS), ("is_end_of_class", cE), ("collect_app_data", cA)] c'), (c', .p (codeP q_cb)), (cA, .cell (some (.ref fa))), (fa, fnP q_capp 3 [("tags", cT), ("self", cS)] ca), (ca, .p (codeP q_capp)), (cE, .cell (some (.ref fe))), (fe, fnP q_isend 0 [] ce), (ce, .p (codeP q_isend))]
/-- the entity, with cells behind -/
def entT (E AL SL XL : Addr) (al sl xl : List V) (T : Cells) : Cells :=
  (E, .inst 517 (sl4 AL SL XL)) :: (AL, .lst .list al) :: (SL, .lst .list sl) :: (XL, .lst .list xl) :: T
theorem refs_snoc (l : TL) (D : Addr) (x : List Item) : refs (l ++ [(D, x)]) = refs l ++ [.ref D] := by simp [refs]
theorem its_snoc (l : TL) (D : Addr) (x : List Item) : its (l ++ [(D, x)]) = its l ++ [x] := by simp [its]
theorem tcs_snoc (l : TL) (D : Addr) (x : List Item) : tcs (l ++ [(D, x)]) = tcs l ++ [(D, .lst .tags (x.map tagV))] := by simp [tcs]
theorem refs_len (l : TL) : (refs l).length = l.length := by simp [refs]
theorem its_len (l : TL) : (its l).length = l.length := by simp [its]
section
variable {M : Md} {w : World} {h0 : Heap} {A : Around} {mg mb : Str → Option Value} {X : Value → Cells → Prop} {cs : Cells} {PV : V → Cells → Prop}
theorem View.picksT {ps l T : Cells} (h : Picks ps l T) : View M l (ps ++ T) := View.perm h.perm
set_option maxHeartbeats 4000000 in
theorem cb_spec (K : Ctx w h0 mg mb) (fit : Fit 5 A) {f c' cA fa ca cE fe ce cS cT I E AL SL XL : Addr} {rows : List Row}
    (hlen : rows.length ≤ 300) (hok : ∀ r ∈ rows, RowOk r) :
    CL (MM w h0) A (.ref f) [] (bCells f c' cA fa ca cE fe ce cS cT ++ ((cS, .cell (some (.ref E))) :: (cT, .cell (some (.ref I))) :: (I, .it (tagL rows) 0) :: entC E AL SL XL [] [] []))
      (fun u cs' => ∃ j cu ds rest D T, PS.run (rows.take j) = ⟨0, [], its ds, [], [], cu, none⟩ ∧ Ret rows isEnd I j u rest ∧ T.Perm (tcs ds) ∧ cs' = bCells f c' cA fa ca cE fe ce cS cT ++ ((cS, .cell (some (.ref E))) :: (cT, .cell (some (.ref I))) :: (rest ++ ((D, .lst .tags (cu.map tagV)) :: entT E AL SL XL (refs ds) [.ref D] [] T)))) (fun c cs' => c = .ref 163 ∧ (PS.run rows).op ≠ none) := by
  have X0 := K.X
  have G := K.G
  have TO := tagsOk K.X
  have KK := KK1 K
  have ga := g_Tags K
  have gn := g_NONE K
  have gi := g_isapp K
  have gt := g_DXFTag K
  have n1 := n_next K
  have n2 := b_next K
  have n3 := n_len K
  have n4 := b_len K
  have s1' := n_stop K
  have s2' := b_stop K
  unfold bCells entC
  refine CL.viewV (CK.cl (cc_defO (names := []) (args := []) fit (by walk_at "mem") (by walk_at "mem") (fun B vs r _ => (by cases r; exact ⟨[], .nil, fun _ _ => Looks.of_pure (by kernel_rfl)⟩)) K.G.lim (by decide +kernel) (by simp) ?_))
  intro L hL
  show EXs _ _ _ _ ((L, .frame []) :: _) _ _
  have fit' := fit.deeper (envFn (Stmt.scp (nst 1)) L [("tags", cT), ("self", cS), ("is_end_of_class", cE), ("collect_app_data", cA)] q_cb f (.ref c'))
  repeat' (first | walk_at "st" )
  rename_i D hD
  have hID : I ≠ D := fun q => hD (by subst q; simp [Cells.ad, ins])
  refine ex_try (on_deeper rfl) ?_
  refine ex_cons ?_
  refine ex_while (on_deeper rfl) (fun n c => ∃ j cu ds T, n = rows.length - j ∧ j ≤ rows.length ∧ PS.run (rows.take j) = ⟨0, [], its ds, [], [], cu, none⟩ ∧ T.Perm (tcs ds) ∧ c = (L, .frame [("data", .ref D)]) :: (D, .lst .tags (cu.map tagV)) :: (bCells f c' cA fa ca cE fe ce cS cT ++ ((cS, .cell (some (.ref E))) :: (cT, .cell (some (.ref I))) :: (I, .it (tagL rows) j) :: entT E AL SL XL (refs ds) [] [] T)))
    (rows.length - 0) ⟨0, [], [], [], rfl, Nat.zero_le _, rfl, .refl _, rfl⟩ ?_
  rintro n c ⟨j, cu, ds, T, rfl, hj, hp, hT, rfl⟩
  have hbd := run_bd (rows.take j)
  rw [hp, List.length_take, Nat.min_eq_left hj] at hbd
  have hcu : cu.length ≤ j := hbd.cur
  have hda : (its ds).length ≤ j := hbd.da
  have hdl := its_len ds
  have hrl := refs_len ds
  have hrun2 : ∀ r, rows[j]? = some r → PS.run (rows.take (j + 1)) = (PS.run (rows.take j)).step r := fun r h => run_take h
  rw [hp] at hrun2
  have hmap : (rows.map rtag)[j]? = (rows[j]?).map rtag := List.getElem?_map ..
  unfold bCells entT
  repeat' (first | walk_at "st" )
  by_cases hjl : j < rows.length
  · have hr : rows[j]? = some rows[j] := List.getElem?_eq_getElem hjl
    have ro := hok _ (List.getElem_mem hjl)
    generalize rows[j] = r at hr ro
    have hrun2 := hrun2 _ hr
    rw [hr] at hmap
    refine tr_next_item (by walk_at "upd") hmap ?_
    repeat' (first | walk_at "st" )
    refine ex_if ?_
    repeat' (first | walk_at "st" )
    cases ho : opens r
    · refine iteF ?_
      refine ex_cons (ex_if (it_plain ?_))
      repeat' (first | walk_at "st" )
      refine cl_same (isend_spec K (fit'.le (by decide)) (by walk_at "mem") (by walk_at "mem")) (tr_truthy_bool ?_)
      cases hend : isEnd r
      · refine iteF ?_
        repeat' (first | walk_at "st" )
        have hs : ¬ ((0 : Nat) = 0 ∧ ([] : List (List Item)) = [] ∧ opens r = true) := fun q => by rw [ho] at q; cases q.2.2
        obtain ⟨h1, h2, h3⟩ := end_F hend
        refine ⟨rows.length - (j + 1), _, by omega, View.loc (loc' := [("data", .ref D)]) (by walk_at "sub"), j + 1, cu ++ [rowI r], ds, T, rfl, by omega, hrun2.trans (step_a rfl hs h1 (fun q => h2 q.2) (fun q => h3 q.2)), hT, ?_⟩
        simp only [List.map_append, List.map_cons, List.map_nil]
        rfl
      · refine iteT ?_
        repeat' (first | walk_at "st" )
        refine ⟨_, _, rfl, _, _, .of (View.picksT (T := T) (ps := bCells f c' cA fa ca cE fe ce cS cT ++ [(cS, .cell (some (.ref E))), (cT, .cell (some (.ref I))), (I, .it (tagL rows) (j + 1)), (D, .lst .tags (cu.map tagV)), (E, .inst 517 (sl4 AL SL XL)), (AL, .lst .list (refs ds)), (SL, .lst .list [.ref D]), (XL, .lst .list [])]) ?_), j, cu, ds, _, D, T, hp, .row r hr hend, hT, rfl⟩
        unfold bCells
        walk_at "picks"
    · refine iteT ?_
      repeat' (first | walk_at "st" )
      have h102 : r.1 = 102 := by have := ho; unfold opens at this; simp only [Bool.and_eq_true, beq_iff_eq] at this; exact this.1
      have hrun3 := hrun2.trans (step_o rfl ⟨rfl, rfl, ho⟩)
      refine CL.useX (capp_spec (SL := SL) (XL := XL) (al := refs ds) (sl := []) (xl := []) K (fit'.le (by decide)) hlen hok ro (hrl.trans hdl.symm) (by omega) hrun3) (p := (L, _)) (r0 := (D, _) :: (f, _) :: (c', _) :: (cA, _) :: (cE, _) :: (fe, _) :: (ce, _) :: T) (by unfold appCells; walk_at "picks") ?_ ?_
      · rintro x c0 ⟨_, j', blk, D', hjj, hj', hp', rfl⟩
        repeat' (first | walk_at "st" )
        refine ⟨rows.length - j', _, by omega, (View.loc (loc' := [("data", .ref D)]) (by walk_at "sub")).trans (View.picksT (T := T) (ps := (L, .frame [("data", .ref D)]) :: (D, .lst .tags ((cu ++ [((102 : Int), Val.n (its ds).length)]).map tagV)) :: (bCells f c' cA fa ca cE fe ce cS cT ++ [(cS, .cell (some (.ref E))), (cT, .cell (some (.ref I))), (I, .it (tagL rows) j'), (E, .inst 517 (sl4 AL SL XL)), (AL, .lst .list (refs (ds ++ [(D', blk)]))), (SL, .lst .list []), (XL, .lst .list []), (D', .lst .tags (blk.map tagV))])) ?_), j', cu ++ [((102 : Int), Val.n (its ds).length)], ds ++ [(D', blk)], (D', .lst .tags (blk.map tagV)) :: T, rfl, hj', by rw [its_snoc]; exact hp', by rw [tcs_snoc]; exact (hT.cons _).trans (List.perm_append_singleton _ _).symm, rfl⟩
        have e1 : (cu ++ [((102 : Int), Val.n (its ds).length)]).map tagV = List.map tagV cu ++ [V.tag (.int (rowI r).fst) (.int ((refs ds).length : Int))] := by
          rw [List.map_append, hrl, hdl, show (rowI r).fst = 102 from h102]; rfl
        rw [e1, refs_snoc]
        unfold appCells bCells
        walk_at "picks"
      · rintro c c0 ⟨rfl, hne⟩
        show HB _ _ _ _ _ _ _ _
        refine hb_skip (name_builtin G s1' s2') (mt_dse_st K) (hb_nil (on_deeper rfl) ?_)
        cases c0 with
        | nil => exact ⟨_, _, rfl, rfl, hne⟩
        | cons p c0 => exact ⟨_, _, rfl, rfl, hne⟩
  · rw [List.getElem?_eq_none (Nat.not_lt.mp hjl)] at hmap
    refine tr_next_end fit'.hd (by walk_at "pick") hmap ?_
    show HB _ _ _ _ _ _ _ _
    refine hb_take (name_builtin G s1' s2') (mt_st K) fun ea => ?_
    repeat' (first | walk_at "st" )
    refine ⟨_, _, rfl, _, _, .of (View.picksT (T := T) (ps := bCells f c' cA fa ca cE fe ce cS cT ++ [(cS, .cell (some (.ref E))), (cT, .cell (some (.ref I))), (D, .lst .tags (cu.map tagV)), (E, .inst 517 (sl4 AL SL XL)), (AL, .lst .list (refs ds)), (SL, .lst .list [.ref D]), (XL, .lst .list [])]) ?_), j, cu, ds, _, D, T, hp, .stop (by omega), hT, rfl⟩
    unfold bCells
    walk_at "picks"
end

end
section
open PySem PySem.W PySem.W.X PyProof.Rows
set_option Elab.async false
set_option maxRecDepth 100000
set_option linter.unusedVariables false
set_option linter.unusedSimpArgs false
local macro_rules | `(tactic| walk_at "call") => `(tactic| first | (show EV _ _ _ (.Call (.Name "collect_base_class" _) [] _ _) _ _ _; refine ev_callO0 ?_) | (show EV _ _ _ (.Call (.Name "collect_subclass" _) _ _ _) _ _ _; refine ev_callO ?_) | (show EV _ _ _ (.Call (.Name "collect_xdata" _) _ _ _) _ _ _; refine ev_callO ?_) | (show EV _ _ _ (.Call (.Name "collect_embedded_object" _) _ _ _) _ _ _; refine ev_callO ?_))
local macro_rules | `(tactic| walk_at "st") => `(tactic| first | (show ∃ f, V.ref _ = V.ref f ∧ _; refine ⟨_, rfl, ?_⟩) | (show (∃ P, (_, MO.p P) ∈ _ ∧ _) ∧ _; refine callO_at (by walk_at "mem") ?_))
section
variable {M : Md} {w : World} {h0 : Heap} {A : Around} {mg mb : Str → Option Value} {X : Value → Cells → Prop} {cs : Cells} {PV : V → Cells → Prop}
def cvS (E I : Addr) : Str → Option V := fun x => if x = "self" then some (.ref E) else if x = "tags" then some (.ref I) else none
theorem trip_snoc {ps : Array Value} {a b : Int} {c : Value} (h : TriplesOk ps.toList) : TriplesOk (ps ++ #[rawInt a, rawInt b, c]).toList := by rw [Array.toList_append]; exact TriplesOk_snoc _ _ _ _ h
theorem trip_nil : TriplesOk (#[] : Array Value).toList := trivial
local macro_rules | `(tactic| walk_at "trip") => `(tactic| repeat (with_reducible first | refine trip_snoc ?_ | exact trip_nil))
/-- the addresses of a call of _setup -/
abbrev q_cemb : Str := "ExtendedTags._setup.<locals>.collect_embedded_object"
structure SA where
  (L cE cA cT cS f0 c0 f1 c1 f2 c2 f3 c3 f4 c4 f5 c5 I E AL SL XL : Addr)
def SA.cells (a : SA) : Cells := [(a.cE, .cell (some (.ref a.f0))), (a.cA, .cell (some (.ref a.f3))), (a.cT, .cell (some (.ref a.I))), (a.cS, .cell (some (.ref a.E))), (a.f0, fnP q_isend 0 [] a.c0), (a.c0, .p (codeP q_isend)),
  (a.f1, fnP q_cb 1 [("tags", a.cT), ("self", a.cS), ("is_end_of_class", a.cE), ("collect_app_data", a.cA)] a.c1), (a.c1, .p (codeP q_cb)), (a.f2, fnP q_csub 2 [("tags", a.cT), ("self", a.cS), ("is_end_of_class", a.cE)] a.c2), (a.c2, .p (codeP q_csub)),
  (a.f3, fnP q_capp 3 [("tags", a.cT), ("self", a.cS)] a.c3), (a.c3, .p (codeP q_capp)), (a.f4, fnP q_cx 4 [("tags", a.cT), ("self", a.cS)] a.c4), (a.c4, .p (codeP q_cx)), (a.f5, fnP q_cemb 5 [("tags", a.cT), ("self", a.cS)] a.c5), (a.c5, .p (codeP q_cemb))]
def SA.loc (a : SA) : Loc := [("collect_base_class", .ref a.f1), ("collect_subclass", .ref a.f2), ("collect_xdata", .ref a.f4), ("collect_embedded_object", .ref a.f5)]
def SA.st (a : SA) (u : V) (rest ent : Cells) : Cells := (a.L, .frame [("collect_base_class", .ref a.f1), ("collect_subclass", .ref a.f2), ("collect_xdata", .ref a.f4), ("collect_embedded_object", .ref a.f5), ("tag", u)]) :: (a.cells ++ (rest ++ ent))
abbrev SA.env (a : SA) : Env := envFn (Stmt.scp f_setup) a.L [("is_end_of_class", a.cE), ("collect_app_data", a.cA), ("tags", a.cT), ("self", a.cS)] "ExtendedTags._setup" 426 (.ref 425)
/-- a def within _setup -/
theorem def_step (K : Ctx w h0 mg mb) (i : Nat) (q : Str) (clos : List (Str × Addr)) {env : Env} {PF : Fl → Cells → Prop} {name : Str} {params : Arguments} {body : List Stmt} {scope : Scope} {pos : Pos} {ps : Array Value} {p0 : Addr × MO} {r0 : Cells}
    (hp : Pick (421, .obj (tabObj ps)) cs (p0 :: r0)) (ht : TriplesOk ps.toList) (hnf : codeAmong pos ps.toList = none) (hcl : closureFor scope env = pure clos) (hq : qualnameIn env name name = q)
    (e1 : params = Stmt.par (nst i)) (e2 : body = Stmt.bod (nst i)) (e3 : scope = Stmt.scp (nst i))
    (h : ∀ c f, AN (MM w h0) A env name (.ref f) (p0 :: (421, .obj (tabObj (ps ++ #[rawInt pos.line, rawInt pos.col, .ref c]))) :: (c, .p (codeP q)) :: (f, fnP q i clos c) :: r0) (fun cs' => PF .next cs') X)
    (hcode : env.code = .ref 425 := by rfl) (hge : env.globals = mainGlobals := by rfl) (hd0 : params.defaults = [] := by rfl) (hk0 : params.kw_defaults = [] := by rfl) (ha : annTrees params none env = [] := by rfl) :
    EX (MM w h0) A env (.FunctionDef name params body [] none [] scope none name pos) cs PF X := by
  subst e1 e2 e3 hq
  exact ex_def K.G (bat K (by decide)) (chd_setup K) hp ht hnf (by decide) hcl h hcode hge hd0 hk0 ha
abbrev clS (cE cA cT cS : Addr) : List (Str × Addr) := [("is_end_of_class", cE), ("collect_app_data", cA), ("tags", cT), ("self", cS)]
theorem bc_setup (v1 v2 : Value) : bindC (fun x => (Stmt.scp f_setup).names.lookup x) ((["self", "tags"] : List Str).zip [v1, v2]) (fun _ => none) "is_end_of_class" = none ∧ bindC (fun x => (Stmt.scp f_setup).names.lookup x) ((["self", "tags"] : List Str).zip [v1, v2]) (fun _ => none) "collect_app_data" = none ∧
    bindC (fun x => (Stmt.scp f_setup).names.lookup x) ((["self", "tags"] : List Str).zip [v1, v2]) (fun _ => none) "tags" = some v2 ∧ bindC (fun x => (Stmt.scp f_setup).names.lookup x) ((["self", "tags"] : List Str).zip [v1, v2]) (fun _ => none) "self" = some v1 := ⟨by kernel_rfl, by kernel_rfl, by kernel_rfl, by kernel_rfl⟩
theorem EXs.mono {b : List Stmt} {PF Q : Fl → Cells → Prop} {Y : Value → Cells → Prop} {env : Env} (h : EXs M A env b cs PF X) (hp : ∀ x c, PF x c → Q x c) (hx : ∀ x c, X x c → Y x c) : EXs M A env b cs Q Y := ⟨h.it.mono hp hx⟩
theorem st_mid (a : SA) {P1 T r0 : Cells} {q : Addr × MO} (h : Picks a.cells (P1 ++ r0) []) : View M (q :: ((P1 ++ T) ++ r0)) (q :: (a.cells ++ T)) := by
  refine View.perm (.cons _ ?_)
  have h1 := h.perm
  rw [List.append_nil] at h1
  refine List.Perm.trans ?_ (h1.append_right T)
  rw [List.append_assoc, List.append_assoc]
  exact List.perm_append_comm.append_left P1
theorem ret_len {rows : List Row} {F : Row → Bool} {I : Addr} {j : Nat} {u : V} {rest : Cells} (h : Ret rows F I j u rest) : j ≤ rows.length := by
  cases h with
  | stop e => exact Nat.le_of_eq e
  | row r hr _ => exact Nat.le_of_lt (List.getElem?_eq_some_iff.mp hr).1
theorem PS.turn_eq (p : PS) (k : Nat) (r : Row) (h : p.op = none) : p.turn k r = ⟨k, p.classes, p.da, p.extra, p.inner, [rowI r], none⟩ := by unfold PS.turn; rw [h]; rfl
theorem cls2 (cl da ex inn : List (List Item)) (cu : List Item) : PS.classes ⟨2, cl, da, ex, inn, cu, none⟩ = cl ∧ PS.extra ⟨2, cl, da, ex, inn, cu, none⟩ = ex ∧ PS.inner ⟨2, cl, da, ex, inn, cu, none⟩ = inn ++ [cu] := ⟨rfl, rfl, rfl⟩
theorem CL.useT {f : Value} {xs : List V} {P1 T Pall r0 : Cells} {q : Addr × MO} {P : V → Cells → Prop} (h : CL M A f xs (P1 ++ T) P NoX) (hp : Picks P1 Pall r0) (k : ∀ x c0, P x c0 → PV x (q :: (c0 ++ r0))) : CL M A f xs (q :: (Pall ++ T)) PV X := ⟨fun vs => by
  have pm : (q :: (Pall ++ T)).Perm ((P1 ++ T) ++ (q :: r0)) := by
    refine List.Perm.trans (.cons _ (hp.perm.append_right T)) ?_
    refine List.Perm.trans ?_ List.perm_middle.symm
    refine .cons _ ?_
    rw [List.append_assoc, List.append_assoc]
    exact List.perm_append_comm.append_left P1
  have t := (h.it vs).frame (fr := q :: r0) pm
  refine Tr.viewV (Tr.mono t (fun x c ⟨c0, e, h0⟩ => ?_) fun x c ⟨_, _, q⟩ => q.elim)
  subst e
  exact ⟨x, _, .of (View.perm List.perm_middle), k x c0 h0⟩⟩
theorem View.right {c r : Cells} : View M (c ++ r) r := (View.perm List.perm_append_comm).trans View.left
theorem CL.tail {f : Value} {xs : List V} {T : Cells} {P : V → Cells → Prop} {X0 : Value → Cells → Prop} (h : CL M A f xs cs P X0) : CL M A f xs (cs ++ T) (fun u c => ∃ c0, c = c0 ++ T ∧ P u c0) (fun c c' => ∃ c0, c' = c0 ++ T ∧ X0 c c0) := ⟨fun vs => (h.it vs).frame (.refl _)⟩
theorem CL.tailN {f : Value} {xs : List V} {T : Cells} {P : V → Cells → Prop} (h : CL M A f xs cs P NoX) : CL M A f xs (cs ++ T) (fun u c => ∃ c0, c = c0 ++ T ∧ P u c0) NoX := ⟨fun vs => ((h.it vs).frame (.refl _)).mono (fun _ _ x => x) fun _ _ ⟨_, _, q⟩ => q⟩
/-- what the collectors have put away so far -/
structure Got (p : PS) (ds su xd : TL) (T : Cells) : Prop where
  op : p.op = none
  da : p.da = its ds
  cl : p.classes = its su
  ex : p.extra = its xd
  pm : T.Perm (tcs ds ++ (tcs su ++ tcs xd))
abbrev SA.ent (a : SA) (ds su xd : TL) (T : Cells) : Cells := entT a.E a.AL a.SL a.XL (refs ds) (refs su) (refs xd) T
def Inv3 (a : SA) (rows : List Row) (n : Nat) (c : Cells) : Prop := ∃ j u rest ds su xd T, n = rows.length - j ∧ Got (PS.run (rows.take j)) ds su xd T ∧ Ret rows isX a.I j u rest ∧ c = a.st u rest (a.ent ds su xd T)
theorem ent_mid (a : SA) {P1 r0 rest T : Cells} {al sl xl : List V} {q d : Addr × MO} (h : Picks a.cells (P1 ++ r0) []) : View M (q :: (((P1 ++ (rest ++ (d :: entC a.E a.AL a.SL a.XL al sl xl))) ++ T) ++ r0)) (q :: (a.cells ++ (rest ++ entT a.E a.AL a.SL a.XL al sl xl (d :: T)))) := by
  have e : (P1 ++ (rest ++ (d :: entC a.E a.AL a.SL a.XL al sl xl))) ++ T = P1 ++ (rest ++ (d :: (entC a.E a.AL a.SL a.XL al sl xl ++ T))) := by simp
  rw [e]
  refine (st_mid a h).trans (View.perm (.cons _ (List.Perm.append_left _ (List.Perm.append_left _ ?_))))
  have e2 : entT a.E a.AL a.SL a.XL al sl xl (d :: T) = entC a.E a.AL a.SL a.XL al sl xl ++ (d :: T) := rfl
  rw [e2]
  exact List.perm_middle.symm
theorem Got.xd {p : PS} {ds su xd : TL} {T : Cells} (h : Got p ds su xd T) {D : Addr} {cu : List Item} {p' : PS} (hp : p' = ⟨1, p.classes, p.da, p.extra, p.inner, cu, none⟩) : Got p' ds su (xd ++ [(D, cu)]) ((D, .lst .tags (cu.map tagV)) :: T) := by
  subst hp
  refine ⟨rfl, h.da, ?_, ?_, ?_⟩
  · show (PS.classes _) = _
    rw [← h.cl]; unfold PS.classes; rfl
  · rw [its_snoc, ← h.ex]; rfl
  · rw [tcs_snoc, ← List.append_assoc, ← List.append_assoc]
    refine (h.pm.cons _).trans ?_
    rw [← List.append_assoc]
    exact (List.perm_append_singleton _ _).symm
set_option maxHeartbeats 4000000 in
theorem setup_t3 (K : Ctx w h0 mg mb) (fit : Fit 6 A) {rows : List Row} (hlen : rows.length ≤ 300) (hok : ∀ r ∈ rows, RowOk r) (a : SA) (hon : On A a.env) {n : Nat} {c : Cells} (hI : Inv3 a rows n c) :
    EXs (MM w h0) A a.env ((Stmt.bod f_setup).drop 9) c
      (fun fl cs' => fl = .next ∧ ∃ ds su xd T q, Got (PS.run rows) ds su xd T ∧ cs' = q :: (a.cells ++ a.ent ds su xd T))
      (fun c cs' => ∃ p cs'', cs' = p :: cs'' ∧ c = .ref 163 ∧ (PS.run rows).op ≠ none) := by
  have X0 := K.X
  have G := K.G
  have TO := tagsOk K.X
  have KK := KK1 K
  have ga := g_SUB K
  have gb := g_XD K
  have gn := g_NONE K
  have gi := g_isemb K
  refine ex_cons ?_
  refine ex_while hon (Inv3 a rows) n hI ?_
  rintro n c ⟨j, u, rest, ds, su, xd, T, rfl, hgot, hret, rfl⟩
  cases hret with
  | stop hj =>
    subst hj
    rw [List.take_length] at hgot
    unfold SA.st SA.ent entT
    repeat' (first | walk_at "st" )
    refine ga_code0 K (fit.le (by decide)) ?_
    repeat' (first | walk_at "st" )
    exact ⟨rfl, ds, su, xd, T, _, hgot, rfl⟩
  | row r hr hE =>
    have hl := (List.getElem?_eq_some_iff.mp hr).1
    have h1 : r.1 = 1001 := by simpa [isX] using hE
    have hs : PS.run (rows.take (j + 1)) = ⟨1, (PS.run (rows.take j)).classes, (PS.run (rows.take j)).da, (PS.run (rows.take j)).extra, (PS.run (rows.take j)).inner, [rowI r], none⟩ := by
      rw [run_take hr, step_x hgot.op (fun q => by have := q.2.2; unfold opens at this; rw [h1] at this; cases this) h1, PS.turn_eq _ _ _ hgot.op]
    have hxl : (refs xd).length = (PS.run (rows.take j)).extra.length := by rw [refs_len, hgot.ex, its_len]
    unfold SA.st SA.ent entT
    repeat' (first | walk_at "st" )
    rotate_left
    · rename_i hx
      exact absurd h1 hx
    refine CL.useT (q := (a.L, _)) (P1 := xCells a.f4 a.c4 a.cS a.cT ++ [(a.cS, .cell (some (.ref a.E))), (a.cT, .cell (some (.ref a.I)))]) (Pall := a.cells) (r0 := [(a.cE, _), (a.cA, _), (a.f0, _), (a.c0, _), (a.f1, _), (a.c1, _), (a.f2, _), (a.c2, _), (a.f3, _), (a.c3, _), (a.f5, _), (a.c5, _)])
      (CL.tailN (T := T) (cx_spec (f := a.f4) (c' := a.c4) (cS := a.cS) (cT := a.cT) (I := a.I) (E := a.E) (AL := a.AL) (SL := a.SL) (XL := a.XL) (al := refs ds) (sl := refs su) (xl := refs xd) K (fit.le (by decide)) hxl hlen hok (i := j + 1) hl hs)) (by unfold xCells SA.cells; walk_at "picks") ?_
    rintro u _ ⟨_, rfl, j', cu, rest, D, hjj, hp, hret, rfl⟩
    refine ⟨_, _, _, rfl, by walk_at "loc", ?_⟩
    repeat' (first | walk_at "st" )
    refine ⟨rows.length - j', _, by omega, ent_mid (P1 := xCells a.f4 a.c4 a.cS a.cT ++ [(a.cS, .cell (some (.ref a.E))), (a.cT, .cell (some (.ref a.I)))]) (rest := rest) (T := T) (a := a) (by unfold SA.cells xCells; walk_at "picks"), j', u, rest, ds, su, xd ++ [(D, cu)], _, rfl, hgot.xd hp, hret, ?_⟩
    rw [SA.ent, refs_snoc]
    rfl
set_option maxHeartbeats 4000000 in
theorem setup_t2 (K : Ctx w h0 mg mb) (fit : Fit 6 A) {rows : List Row} (hlen : rows.length ≤ 300) (hok : ∀ r ∈ rows, RowOk r) (hno : ∀ r ∈ rows, isEmb r = false) (a : SA) (hon : On A a.env) {n : Nat} {c : Cells} (hI : Inv3 a rows n c) :
    EXs (MM w h0) A a.env ((Stmt.bod f_setup).drop 8) c
      (fun fl cs' => fl = .next ∧ ∃ ds su xd T q, Got (PS.run rows) ds su xd T ∧ cs' = q :: (a.cells ++ a.ent ds su xd T))
      (fun c cs' => ∃ p cs'', cs' = p :: cs'' ∧ c = .ref 163 ∧ (PS.run rows).op ≠ none) := by
  have X0 := K.X
  have G := K.G
  have TO := tagsOk K.X
  have KK := KK1 K
  have ga := g_SUB K
  have gb := g_XD K
  have gn := g_NONE K
  have gi := g_isemb K
  refine ex_cons ?_
  refine ex_while hon (Inv3 a rows) n hI ?_
  rintro n c ⟨j, u, rest, ds, su, xd, T, rfl, hgot, hret, rfl⟩
  have hI3 : Inv3 a rows (rows.length - j) (a.st u rest (a.ent ds su xd T)) := ⟨j, u, rest, ds, su, xd, T, rfl, hgot, hret, rfl⟩
  cases hret with
  | stop hj =>
    unfold SA.st SA.ent entT
    repeat' (first | walk_at "st" )
    refine cl_same (isemb_none K (fit.le (by decide))) (tr_truthy_bool (iteF ?_))
    exact setup_t3 K fit hlen hok a hon hI3
  | row r hr hE =>
    unfold SA.st SA.ent entT
    refine it_plain ?_
    repeat' (first | walk_at "st" )
    refine cl_same (isemb_spec K (fit.le (by decide)) _) (tr_truthy_bool ?_)
    rw [hno r (List.mem_of_getElem? hr)]
    refine iteF ?_
    exact setup_t3 K fit hlen hok a hon hI3
def Inv1 (a : SA) (rows : List Row) (n : Nat) (c : Cells) : Prop := ∃ j u rest cl ds su T cu, n = rows.length - j ∧ PS.run (rows.take j) = ⟨0, cl, its ds, [], [], cu, none⟩ ∧ its su = cl ++ [cu] ∧ T.Perm (tcs ds ++ tcs su) ∧ Ret rows isEnd a.I j u rest ∧
  c = a.st u rest (a.ent ds su [] T)
theorem got_of {p : PS} {cl : List (List Item)} {ds su : TL} {T : Cells} {cu : List Item} (hp : p = ⟨0, cl, its ds, [], [], cu, none⟩) (hsu : its su = cl ++ [cu]) (hT : T.Perm (tcs ds ++ tcs su)) : Got p ds su [] T := by
  subst hp
  exact ⟨rfl, rfl, hsu.symm, rfl, by show T.Perm (tcs ds ++ (tcs su ++ [])); rw [List.append_nil]; exact hT⟩
set_option maxHeartbeats 4000000 in
theorem setup_t1 (K : Ctx w h0 mg mb) (fit : Fit 6 A) {rows : List Row} (hlen : rows.length ≤ 300) (hok : ∀ r ∈ rows, RowOk r) (hno : ∀ r ∈ rows, isEmb r = false) (a : SA) (hon : On A a.env) {n : Nat} {c : Cells} (hI : Inv1 a rows n c) :
    EXs (MM w h0) A a.env ((Stmt.bod f_setup).drop 7) c
      (fun fl cs' => fl = .next ∧ ∃ ds su xd T q, Got (PS.run rows) ds su xd T ∧ cs' = q :: (a.cells ++ a.ent ds su xd T))
      (fun c cs' => ∃ p cs'', cs' = p :: cs'' ∧ c = .ref 163 ∧ (PS.run rows).op ≠ none) := by
  have X0 := K.X
  have G := K.G
  have TO := tagsOk K.X
  have KK := KK1 K
  have ga := g_SUB K
  have gb := g_XD K
  have gn := g_NONE K
  have gi := g_isemb K
  refine ex_cons ?_
  refine ex_while hon (Inv1 a rows) n hI ?_
  rintro n c ⟨j, u, rest, cl, ds, su, T, cu, rfl, hp, hsu, hT, hret, rfl⟩
  cases hret with
  | stop hj =>
    have hI2 : Inv3 a rows (rows.length - j) (a.st (.ref 118) [] (a.ent ds su [] T)) := ⟨j, _, [], ds, su, [], T, rfl, got_of hp hsu hT, .stop hj, rfl⟩
    unfold SA.st SA.ent entT
    repeat' (first | walk_at "st" )
    refine ga_code0 K (fit.le (by decide)) ?_
    repeat' ((fail_if_success show EXs _ _ _ (.While _ _ _ _ :: _) _ _ _); walk_at "st")
    exact setup_t2 K fit hlen hok hno a hon hI2
  | row r hr hE =>
    have hl := (List.getElem?_eq_some_iff.mp hr).1
    have hsl : (refs su).length = (cl ++ [cu]).length := by rw [refs_len, ← hsu, its_len]
    unfold SA.st SA.ent entT
    repeat' ((fail_if_success show EXs _ _ _ (.While _ _ _ _ :: _) _ _ _); walk_at "st")
    · rename_i h1
      replace h1 : r.1 = 100 := h1
      have hs : PS.run (rows.take (j + 1)) = ⟨0, cl ++ [cu], its ds, [], [], [rowI r], none⟩ := by
        rw [run_take hr, hp, step_c rfl (fun q => by have := q.2.2; unfold opens at this; rw [h1] at this; cases this) (by rw [h1]; decide) (fun q => by rw [h1] at q; exact absurd q.2.1 (by decide)) ⟨rfl, h1⟩, PS.turn_eq _ _ _ rfl]
        rfl
      refine CL.useT (q := (a.L, _)) (P1 := subCells a.f2 a.c2 a.cE a.f0 a.c0 a.cS a.cT ++ [(a.cS, .cell (some (.ref a.E))), (a.cT, .cell (some (.ref a.I)))]) (Pall := a.cells) (r0 := [(a.cA, _), (a.f1, _), (a.c1, _), (a.f3, _), (a.c3, _), (a.f4, _), (a.c4, _), (a.f5, _), (a.c5, _)])
        (CL.tailN (T := T) (csub_spec (xl := []) (al := refs ds) (sl := refs su) (f := a.f2) (c' := a.c2) (cE := a.cE) (fe := a.f0) (ce := a.c0) (cS := a.cS) (cT := a.cT) (I := a.I) (E := a.E) (AL := a.AL) (SL := a.SL) (XL := a.XL) K (fit.le (by decide)) hsl hlen hok (i := j + 1) hl (by simp) hs)) (by unfold subCells SA.cells; walk_at "picks") ?_
      rintro u _ ⟨_, rfl, j', cu', rest, D, hjj, hp', hret, rfl⟩
      refine ⟨_, _, _, rfl, by walk_at "loc", ?_⟩
      repeat' (first | walk_at "st" )
      refine ⟨rows.length - j', _, by omega, ent_mid (P1 := subCells a.f2 a.c2 a.cE a.f0 a.c0 a.cS a.cT ++ [(a.cS, .cell (some (.ref a.E))), (a.cT, .cell (some (.ref a.I)))]) (rest := rest) (T := T) (a := a) (by unfold SA.cells subCells; walk_at "picks"), j', u, rest, cl ++ [cu], ds, su ++ [(D, cu')], (D, .lst .tags (cu'.map tagV)) :: T, cu', rfl, hp', by rw [its_snoc, hsu], by rw [tcs_snoc, ← List.append_assoc]; exact (hT.cons _).trans (List.perm_append_singleton _ _).symm, hret, ?_⟩
      rw [SA.ent, refs_snoc]
      rfl
    · rename_i h1
      refine setup_t2 K fit hlen hok hno a hon (n := rows.length - j) ⟨j, _, [(a.I, .it (tagL rows) (j + 1))], ds, su, [], T, rfl, got_of hp hsu hT, .row r hr ?_, rfl⟩
      have h2 : r.1 ≠ 100 := h1
      have h3 := hno r (List.mem_of_getElem? hr)
      obtain ⟨c, v⟩ := r
      unfold isEnd at hE
      unfold isEmb at h3
      unfold isX
      dsimp only at h2 h3 hE ⊢
      simp only [Bool.and_eq_true, Bool.or_eq_true, beq_iff_eq, Bool.not_eq_true', Bool.and_eq_false_imp, bne_eq_false_iff_eq] at hE h3 ⊢
      obtain ⟨hE1, hE2⟩ := hE
      rcases hE1 with (q | q) | q
      · exact absurd q h2
      · have := h3 q
        rw [hE2 q] at this
        exact absurd this (by decide)
      · exact q
set_option maxHeartbeats 4000000 in
theorem setup_tail (K : Ctx w h0 mg mb) (fit : Fit 6 A) {rows : List Row} (hlen : rows.length ≤ 300) (hok : ∀ r ∈ rows, RowOk r) (hno : ∀ r ∈ rows, isEmb r = false) (a : SA) (hon : On A a.env) :
    EXs (MM w h0) A a.env ((Stmt.bod f_setup).drop 6) ((a.L, .frame a.loc) :: (a.cells ++ ((a.I, .it (tagL rows) 0) :: entC a.E a.AL a.SL a.XL [] [] [])))
      (fun fl cs' => fl = .next ∧ ∃ ds su xd T q, Got (PS.run rows) ds su xd T ∧ cs' = q :: (a.cells ++ a.ent ds su xd T))
      (fun c cs' => ∃ p cs'', cs' = p :: cs'' ∧ c = .ref 163 ∧ (PS.run rows).op ≠ none) := by
  have X0 := K.X
  have G := K.G
  have TO := tagsOk K.X
  have KK := KK1 K
  have ga := g_SUB K
  have gb := g_XD K
  have gn := g_NONE K
  have gi := g_isemb K
  unfold SA.cells SA.loc entC
  refine ex_cons ?_
  repeat' (first | walk_at "st" )
  refine CL.useX (cb_spec (f := a.f1) (c' := a.c1) (cA := a.cA) (fa := a.f3) (ca := a.c3) (cE := a.cE) (fe := a.f0) (ce := a.c0) (cS := a.cS) (cT := a.cT) (I := a.I) (E := a.E) (AL := a.AL) (SL := a.SL) (XL := a.XL) K (fit.le (by decide)) hlen hok) (p := (a.L, _)) (r0 := [(a.f2, _), (a.c2, _), (a.f4, _), (a.c4, _), (a.f5, _), (a.c5, _)]) (by unfold bCells entC; walk_at "picks") ?_ ?_
  rotate_left
  · rintro c c0 ⟨rfl, hne⟩
    cases c0 with
    | nil => exact ⟨_, _, rfl, rfl, hne⟩
    | cons p c0 => exact ⟨_, _, rfl, rfl, hne⟩
  rintro u _ ⟨j, cu, ds, rest, D, T, hp, hret, hT, rfl⟩
  refine ⟨_, _, _, rfl, by walk_at "loc", ?_⟩
  refine EXs.view ((st_mid (P1 := bCells a.f1 a.c1 a.cA a.f3 a.c3 a.cE a.f0 a.c0 a.cS a.cT ++ [(a.cS, .cell (some (.ref a.E))), (a.cT, .cell (some (.ref a.I)))]) (T := rest ++ ((D, .lst .tags (cu.map tagV)) :: entT a.E a.AL a.SL a.XL (refs ds) [.ref D] [] T)) (a := a) (by unfold SA.cells bCells; walk_at "picks")).trans
    (View.perm (c' := _ :: (a.cells ++ (rest ++ entT a.E a.AL a.SL a.XL (refs ds) [.ref D] [] ((D, .lst .tags (cu.map tagV)) :: T)))) (.cons _ (List.Perm.append_left _ (List.Perm.append_left _ (List.perm_middle (l₁ := entC a.E a.AL a.SL a.XL (refs ds) [.ref D] [])).symm))))) ?_
  exact setup_t1 K fit hlen hok hno a hon (n := rows.length - j) ⟨j, u, rest, [], ds, [(D, cu)], (D, .lst .tags (cu.map tagV)) :: T, cu, rfl, hp, rfl, (hT.cons _).trans (List.perm_append_singleton _ _).symm, hret, rfl⟩
end

end
section
open PySem PySem.W PySem.W.X PyProof.Rows
set_option Elab.async false
set_option maxRecDepth 100000
set_option linter.unusedVariables false
set_option linter.unusedSimpArgs false
local macro_rules | `(tactic| walk_at "trip") => `(tactic| repeat (with_reducible first | refine trip_snoc ?_ | exact trip_nil))
def npos (i : Nat) : Pos := match nst i with
  | .FunctionDef _ _ _ _ _ _ _ _ _ p => p
  | _ => default
/-- the table of codes, filled -/
def tab6 (c0 c1 c2 c3 c4 c5 : Addr) : Array Value := ((((((#[] ++ #[rawInt (npos 0).line, rawInt (npos 0).col, .ref c0]) ++ #[rawInt (npos 1).line, rawInt (npos 1).col, .ref c1]) ++ #[rawInt (npos 2).line, rawInt (npos 2).col, .ref c2]) ++ #[rawInt (npos 3).line, rawInt (npos 3).col, .ref c3]) ++ #[rawInt (npos 4).line, rawInt (npos 4).col, .ref c4]) ++ #[rawInt (npos 5).line, rawInt (npos 5).col, .ref c5])
def codes (c0 c1 c2 c3 c4 c5 : Addr) : Cells := [(c0, .p (codeP q_isend)), (c1, .p (codeP q_cb)), (c2, .p (codeP q_csub)), (c3, .p (codeP q_capp)), (c4, .p (codeP q_cx)), (c5, .p (codeP q_cemb))]
/-- wrapped: what is wrapped is not unfolded on the way -/
structure TOk (ps : Array Value) : Prop where
  it : TriplesOk ps.toList
theorem tok_nil : TOk #[] := ⟨trip_nil⟩
theorem tok_snoc {ps : Array Value} {a b : Int} {c : Value} (h : TOk ps) : TOk (ps ++ #[rawInt a, rawInt b, c]) := ⟨trip_snoc h.it⟩
theorem tab6_ok (c0 c1 c2 c3 c4 c5 : Addr) : TOk (tab6 c0 c1 c2 c3 c4 c5) := by
  unfold tab6
  exact tok_snoc (tok_snoc (tok_snoc (tok_snoc (tok_snoc (tok_snoc tok_nil)))))
structure TabOk (ps : Array Value) (c0 c1 c2 c3 c4 c5 : Addr) : Prop where
  ok : TOk ps
  h0 : codeAmong (npos 0) ps.toList = some (.ref c0)
  h1 : codeAmong (npos 1) ps.toList = some (.ref c1)
  h2 : codeAmong (npos 2) ps.toList = some (.ref c2)
  h3 : codeAmong (npos 3) ps.toList = some (.ref c3)
  h4 : codeAmong (npos 4) ps.toList = some (.ref c4)
  h5 : codeAmong (npos 5) ps.toList = some (.ref c5)
theorem tab6_h0 (c0 c1 c2 c3 c4 c5 : Addr) : codeAmong (npos 0) (tab6 c0 c1 c2 c3 c4 c5).toList = some (.ref c0) := by kernel_rfl
theorem tab6_h1 (c0 c1 c2 c3 c4 c5 : Addr) : codeAmong (npos 1) (tab6 c0 c1 c2 c3 c4 c5).toList = some (.ref c1) := by kernel_rfl
theorem tab6_h2 (c0 c1 c2 c3 c4 c5 : Addr) : codeAmong (npos 2) (tab6 c0 c1 c2 c3 c4 c5).toList = some (.ref c2) := by kernel_rfl
theorem tab6_h3 (c0 c1 c2 c3 c4 c5 : Addr) : codeAmong (npos 3) (tab6 c0 c1 c2 c3 c4 c5).toList = some (.ref c3) := by kernel_rfl
theorem tab6_h4 (c0 c1 c2 c3 c4 c5 : Addr) : codeAmong (npos 4) (tab6 c0 c1 c2 c3 c4 c5).toList = some (.ref c4) := by kernel_rfl
theorem tab6_h5 (c0 c1 c2 c3 c4 c5 : Addr) : codeAmong (npos 5) (tab6 c0 c1 c2 c3 c4 c5).toList = some (.ref c5) := by kernel_rfl
theorem tab6_tab (c0 c1 c2 c3 c4 c5 : Addr) : TabOk (tab6 c0 c1 c2 c3 c4 c5) c0 c1 c2 c3 c4 c5 := .mk (tab6_ok c0 c1 c2 c3 c4 c5) (tab6_h0 c0 c1 c2 c3 c4 c5) (tab6_h1 c0 c1 c2 c3 c4 c5) (tab6_h2 c0 c1 c2 c3 c4 c5) (tab6_h3 c0 c1 c2 c3 c4 c5) (tab6_h4 c0 c1 c2 c3 c4 c5) (tab6_h5 c0 c1 c2 c3 c4 c5)
section
variable {M : Md} {w : World} {h0 : Heap} {A : Around} {mg mb : Str → Option Value} {X : Value → Cells → Prop} {cs : Cells} {PV : V → Cells → Prop}
/-- a def within _setup, made before -/
theorem def_step_hit (K : Ctx w h0 mg mb) (i : Nat) (q : Str) (clos : List (Str × Addr)) {env : Env} {PF : Fl → Cells → Prop} {name : Str} {params : Arguments} {body : List Stmt} {scope : Scope} {pos : Pos} {ps : Array Value} {p0 : Addr × MO} {r0 : Cells} {c' : Addr}
    (hp : (421, MO.obj (tabObj ps)) ∈ p0 :: r0) (ht : TOk ps) (hf : codeAmong (npos i) ps.toList = some (.ref c')) (e0 : pos = npos i) (hcl : closureFor scope env = pure clos) (hq : qualnameIn env name name = q)
    (e1 : params = Stmt.par (nst i)) (e2 : body = Stmt.bod (nst i)) (e3 : scope = Stmt.scp (nst i))
    (h : ∀ f, AN (MM w h0) A env name (.ref f) (p0 :: (f, fnP q i clos c') :: r0) (fun cs' => PF .next cs') X)
    (hcode : env.code = .ref 425 := by rfl) (hge : env.globals = mainGlobals := by rfl) (hd0 : params.defaults = [] := by rfl) (hk0 : params.kw_defaults = [] := by rfl) (ha : annTrees params none env = [] := by rfl) :
    EX (MM w h0) A env (.FunctionDef name params body [] none [] scope none name pos) (p0 :: r0) PF X := by
  rw [← e0] at hf
  subst e1 e2 e3 hq
  exact ex_def_hit K.G (bat K (by decide)) (chd_setup K) hp ht.it hf hcl h hcode hge hd0 hk0 ha
abbrev SPost (E AL SL XL : Addr) (rows : List Row) : V → Cells → Prop := fun u cs' => u = .none ∧ ∃ ps c0 c1 c2 c3 c4 c5 ds su xd T, TabOk ps c0 c1 c2 c3 c4 c5 ∧ Got (PS.run rows) ds su xd T ∧ cs' = (421, .obj (tabObj ps)) :: (codes c0 c1 c2 c3 c4 c5 ++ entT E AL SL XL (refs ds) (refs su) (refs xd) T)
abbrev SX (rows : List Row) : Value → Cells → Prop := fun _ _ => (PS.run rows).op ≠ none
theorem sa_codes (a : SA) {T : Cells} {t : Addr × MO} : View M ((a.cells ++ T) ++ [t]) (t :: (codes a.c0 a.c1 a.c2 a.c3 a.c4 a.c5 ++ T)) := by
  have h : ∃ r, Picks (codes a.c0 a.c1 a.c2 a.c3 a.c4 a.c5) a.cells r := by
    refine ⟨?r, ?h⟩
    case h =>
      unfold SA.cells codes
      walk_at "picks"
  obtain ⟨r, h⟩ := h
  exact (View.perm (List.perm_append_singleton _ _)).trans (View.cons _ (View.frame (View.picks h) _))
set_option maxHeartbeats 4000000 in
theorem setup_spec (K : Ctx w h0 mg mb) (fit : Fit 7 A) {I E AL SL XL : Addr} {rows : List Row}
    (hlen : rows.length ≤ 300) (hok : ∀ r ∈ rows, RowOk r) (hno : ∀ r ∈ rows, isEmb r = false) :
    CL (MM w h0) A (.ref 426) [.ref E, .ref I] ((421, .obj (tabObj #[])) :: (I, .it (tagL rows) 0) :: entC E AL SL XL [] [] []) (SPost E AL SL XL rows) (SX rows) := by
  have X0 := K.X
  have G := K.G
  have TO := tagsOk K.X
  have KK := KK1 K
  have ga := g_SUB K
  have gb := g_XD K
  have gn := g_NONE K
  have gi := g_isemb K
  refine CL.viewV (CK.cl (cc_defC (loc := []) (cn := ["is_end_of_class", "collect_app_data", "tags", "self"]) (cv := cvS E I) (names := ["self", "tags"]) fit (fun B hS => ⟨_, hS _ _ (SS_of K.X (is_setup _).1 (by decide)), (is_setup _).2⟩) (fun B hS h hk => cr_setup K.X hS hk) ?_ K.G.lim (by decide +kernel) ?_ (by decide +kernel) (by decide +kernel) ?_))
  · intro B vs r hS
    cases r with | cons r1 r
    cases r with | cons r2 r
    cases r
    refine ⟨[_, _], fun h hk => Looks.of_pure (ba_setup _ _), fun kindOf hkd => ⟨(fun p hp => by cases hp), fun n hn => ?_⟩⟩
    have hkk : kindOf = fun x => (Stmt.scp f_setup).names.lookup x := funext hkd
    subst hkk
    simp only [List.mem_cons, List.not_mem_nil, or_false] at hn
    rcases hn with rfl | rfl | rfl | rfl
    · rw [(bc_setup _ _).1]
      exact trivial
    · rw [(bc_setup _ _).2.1]
      exact trivial
    · rw [(bc_setup _ _).2.2.1]
      exact r2
    · rw [(bc_setup _ _).2.2.2]
      exact r1
  · intro k
    kernel_rfl
  intro L cl hcl hL
  obtain ⟨cE, cA, cT, cS, rfl⟩ : ∃ cE cA cT cS, cl = clS cE cA cT cS := by
    match cl, hcl with
    | [(_, a), (_, b), (_, c), (_, d)], h =>
      simp only [List.map_cons, List.map_nil, List.cons.injEq, and_true] at h
      obtain ⟨rfl, rfl, rfl, rfl⟩ := h
      exact ⟨a, b, c, d, rfl⟩
  have hcc : cellsOf (clS cE cA cT cS) (cvS E I) = [(cE, MO.cell none), (cA, MO.cell none), (cT, MO.cell (some (.ref I))), (cS, MO.cell (some (.ref E)))] := by
    unfold cellsOf cvS
    simp only [List.map_cons, List.map_nil]
    rfl
  rw [hcc]
  have fit' := fit.deeper (envFn (Stmt.scp f_setup) L (clS cE cA cT cS) "ExtendedTags._setup" 426 (.ref 425))
  unfold entC
  refine ex_cons (def_step K 0 q_isend [] (by walk_at "pick") (by walk_at "trip") (by kernel_rfl) (by kernel_rfl) (by kernel_rfl) (by kernel_rfl) (by kernel_rfl) (by kernel_rfl) ?_)
  intro c0 f0
  refine an_cell (by rfl) (by walk_at "upd") ?_
  refine ex_cons (def_step K 1 q_cb [("tags", cT), ("self", cS), ("is_end_of_class", cE), ("collect_app_data", cA)] (by walk_at "pick") (by walk_at "trip") (by kernel_rfl) (by kernel_rfl) (by kernel_rfl) (by kernel_rfl) (by kernel_rfl) (by kernel_rfl) ?_)
  intro c1 f1
  refine an_local (by walk_at "loc") ?_
  refine ex_cons (def_step K 2 q_csub [("tags", cT), ("self", cS), ("is_end_of_class", cE)] (by walk_at "pick") (by walk_at "trip") (by kernel_rfl) (by kernel_rfl) (by kernel_rfl) (by kernel_rfl) (by kernel_rfl) (by kernel_rfl) ?_)
  intro c2 f2
  refine an_local (by walk_at "loc") ?_
  refine ex_cons (def_step K 3 q_capp [("tags", cT), ("self", cS)] (by walk_at "pick") (by walk_at "trip") (by kernel_rfl) (by kernel_rfl) (by kernel_rfl) (by kernel_rfl) (by kernel_rfl) (by kernel_rfl) ?_)
  intro c3 f3
  refine an_cell (by rfl) (by walk_at "upd") ?_
  refine ex_cons (def_step K 4 q_cx [("tags", cT), ("self", cS)] (by walk_at "pick") (by walk_at "trip") (by kernel_rfl) (by kernel_rfl) (by kernel_rfl) (by kernel_rfl) (by kernel_rfl) (by kernel_rfl) ?_)
  intro c4 f4
  refine an_local (by walk_at "loc") ?_
  refine ex_cons (def_step K 5 q_cemb [("tags", cT), ("self", cS)] (by walk_at "pick") (by walk_at "trip") (by kernel_rfl) (by kernel_rfl) (by kernel_rfl) (by kernel_rfl) (by kernel_rfl) (by kernel_rfl) ?_)
  intro c5 f5
  refine an_local (by walk_at "loc") ?_
  refine EXs.framed (cs := (L, .frame (SA.loc ⟨L, cE, cA, cT, cS, f0, c0, f1, c1, f2, c2, f3, c3, f4, c4, f5, c5, I, E, AL, SL, XL⟩)) :: (SA.cells ⟨L, cE, cA, cT, cS, f0, c0, f1, c1, f2, c2, f3, c3, f4, c4, f5, c5, I, E, AL, SL, XL⟩ ++ ((I, .it (tagL rows) 0) :: entC E AL SL XL [] [] []))) (fr := [(421, .obj (tabObj ?ps))]) (Picks.perm ?h) (setup_tail K fit' hlen hok hno ⟨L, cE, cA, cT, cS, f0, c0, f1, c1, f2, c2, f3, c3, f4, c4, f5, c5, I, E, AL, SL, XL⟩ (on_deeper rfl)) ?k ?kx
  case h =>
    unfold SA.cells SA.loc entC
    walk_at "picks"
  case k =>
    rintro fl cs' ⟨rfl, ds, su, xd, T, q, hgot, rfl⟩
    refine ⟨_, _, rfl, _, _, .of (sa_codes _), rfl, tab6 c0 c1 c2 c3 c4 c5, c0, c1, c2, c3, c4, c5, ds, su, xd, T, tab6_tab c0 c1 c2 c3 c4 c5, hgot, ?_⟩
    show (421, MO.obj (tabObj _)) :: _ = _
    congr 1
  case kx =>
    rintro c cs' ⟨p, cs'', rfl, rfl, hne⟩
    exact ⟨p, cs'' ++ _, rfl, hne⟩
end

end
section
open PySem PySem.W PySem.W.X PyProof.Rows
set_option Elab.async false
set_option maxRecDepth 100000
set_option linter.unusedVariables false
set_option linter.unusedSimpArgs false
local macro_rules | `(tactic| walk_at "trip") => `(tactic| repeat (with_reducible first | refine trip_snoc ?_ | exact trip_nil))
section
variable {M : Md} {w : World} {h0 : Heap} {A : Around} {mg mb : Str → Option Value} {X : Value → Cells → Prop} {cs : Cells} {PV : V → Cells → Prop}
set_option maxHeartbeats 1000000 in
theorem setup_again (K : Ctx w h0 mg mb) (fit : Fit 7 A) {I E AL SL XL c0 c1 c2 c3 c4 c5 : Addr} {ps : Array Value} (TK : TabOk ps c0 c1 c2 c3 c4 c5) {rows : List Row}
    (hlen : rows.length ≤ 300) (hok : ∀ r ∈ rows, RowOk r) (hno : ∀ r ∈ rows, isEmb r = false) :
    CL (MM w h0) A (.ref 426) [.ref E, .ref I] ((421, .obj (tabObj ps)) :: (codes c0 c1 c2 c3 c4 c5 ++ ((I, .it (tagL rows) 0) :: entC E AL SL XL [] [] []))) (SPost E AL SL XL rows) (SX rows) := by
  have X0 := K.X
  have G := K.G
  have TO := tagsOk K.X
  have KK := KK1 K
  have ga := g_SUB K
  have gb := g_XD K
  have gn := g_NONE K
  have gi := g_isemb K
  refine CL.viewV (CK.cl (cc_defC (loc := []) (cn := ["is_end_of_class", "collect_app_data", "tags", "self"]) (cv := cvS E I) (names := ["self", "tags"]) fit (fun B hS => ⟨_, hS _ _ (SS_of K.X (is_setup _).1 (by decide)), (is_setup _).2⟩) (fun B hS h hk => cr_setup K.X hS hk) ?_ K.G.lim (by decide +kernel) ?_ (by decide +kernel) (by decide +kernel) ?_))
  · intro B vs r hS
    cases r with | cons r1 r
    cases r with | cons r2 r
    cases r
    refine ⟨[_, _], fun h hk => Looks.of_pure (ba_setup _ _), fun kindOf hkd => ⟨(fun p hp => by cases hp), fun n hn => ?_⟩⟩
    have hkk : kindOf = fun x => (Stmt.scp f_setup).names.lookup x := funext hkd
    subst hkk
    simp only [List.mem_cons, List.not_mem_nil, or_false] at hn
    rcases hn with rfl | rfl | rfl | rfl
    · rw [(bc_setup _ _).1]
      exact trivial
    · rw [(bc_setup _ _).2.1]
      exact trivial
    · rw [(bc_setup _ _).2.2.1]
      exact r2
    · rw [(bc_setup _ _).2.2.2]
      exact r1
  · intro k
    kernel_rfl
  intro L cl hcl hL
  obtain ⟨cE, cA, cT, cS, rfl⟩ : ∃ cE cA cT cS, cl = clS cE cA cT cS := by
    match cl, hcl with
    | [(_, a), (_, b), (_, c), (_, d)], h =>
      simp only [List.map_cons, List.map_nil, List.cons.injEq, and_true] at h
      obtain ⟨rfl, rfl, rfl, rfl⟩ := h
      exact ⟨a, b, c, d, rfl⟩
  have hcc : cellsOf (clS cE cA cT cS) (cvS E I) = [(cE, MO.cell none), (cA, MO.cell none), (cT, MO.cell (some (.ref I))), (cS, MO.cell (some (.ref E)))] := by
    unfold cellsOf cvS
    simp only [List.map_cons, List.map_nil]
    rfl
  refine EXs.view (View.of_eq (c' := (L, .frame []) :: ([(cE, MO.cell none), (cA, MO.cell none), (cT, MO.cell (some (.ref I))), (cS, MO.cell (some (.ref E)))] ++ ((421, .obj (tabObj ps)) :: (codes c0 c1 c2 c3 c4 c5 ++ ((I, MO.it (tagL rows) 0) :: entC E AL SL XL [] [] []))))) (congrArg (fun x => (L, MO.frame []) :: (x ++ ((421, .obj (tabObj ps)) :: (codes c0 c1 c2 c3 c4 c5 ++ ((I, MO.it (tagL rows) 0) :: entC E AL SL XL [] [] []))))) hcc)) ?_
  have fit' := fit.deeper (envFn (Stmt.scp f_setup) L (clS cE cA cT cS) "ExtendedTags._setup" 426 (.ref 425))
  unfold entC codes
  simp only [List.cons_append, List.nil_append]
  refine ex_cons (def_step_hit (c' := c0) K 0 q_isend [] (by walk_at "mem") TK.ok TK.h0 (by kernel_rfl) (by kernel_rfl) (by kernel_rfl) (by kernel_rfl) (by kernel_rfl) (by kernel_rfl) ?_)
  intro f0
  refine an_cell (by rfl) (by walk_at "upd") ?_
  refine ex_cons (def_step_hit (c' := c1) K 1 q_cb [("tags", cT), ("self", cS), ("is_end_of_class", cE), ("collect_app_data", cA)] (by walk_at "mem") TK.ok TK.h1 (by kernel_rfl) (by kernel_rfl) (by kernel_rfl) (by kernel_rfl) (by kernel_rfl) (by kernel_rfl) ?_)
  intro f1
  refine an_local (by walk_at "loc") ?_
  refine ex_cons (def_step_hit (c' := c2) K 2 q_csub [("tags", cT), ("self", cS), ("is_end_of_class", cE)] (by walk_at "mem") TK.ok TK.h2 (by kernel_rfl) (by kernel_rfl) (by kernel_rfl) (by kernel_rfl) (by kernel_rfl) (by kernel_rfl) ?_)
  intro f2
  refine an_local (by walk_at "loc") ?_
  refine ex_cons (def_step_hit (c' := c3) K 3 q_capp [("tags", cT), ("self", cS)] (by walk_at "mem") TK.ok TK.h3 (by kernel_rfl) (by kernel_rfl) (by kernel_rfl) (by kernel_rfl) (by kernel_rfl) (by kernel_rfl) ?_)
  intro f3
  refine an_cell (by rfl) (by walk_at "upd") ?_
  refine ex_cons (def_step_hit (c' := c4) K 4 q_cx [("tags", cT), ("self", cS)] (by walk_at "mem") TK.ok TK.h4 (by kernel_rfl) (by kernel_rfl) (by kernel_rfl) (by kernel_rfl) (by kernel_rfl) (by kernel_rfl) ?_)
  intro f4
  refine an_local (by walk_at "loc") ?_
  refine ex_cons (def_step_hit (c' := c5) K 5 q_cemb [("tags", cT), ("self", cS)] (by walk_at "mem") TK.ok TK.h5 (by kernel_rfl) (by kernel_rfl) (by kernel_rfl) (by kernel_rfl) (by kernel_rfl) (by kernel_rfl) ?_)
  intro f5
  refine an_local (by walk_at "loc") ?_
  refine EXs.framed (cs := (L, .frame (SA.loc ⟨L, cE, cA, cT, cS, f0, c0, f1, c1, f2, c2, f3, c3, f4, c4, f5, c5, I, E, AL, SL, XL⟩)) :: (SA.cells ⟨L, cE, cA, cT, cS, f0, c0, f1, c1, f2, c2, f3, c3, f4, c4, f5, c5, I, E, AL, SL, XL⟩ ++ ((I, .it (tagL rows) 0) :: entC E AL SL XL [] [] []))) (fr := [(421, .obj (tabObj ps))]) (Picks.perm ?h) (setup_tail K fit' hlen hok hno ⟨L, cE, cA, cT, cS, f0, c0, f1, c1, f2, c2, f3, c3, f4, c4, f5, c5, I, E, AL, SL, XL⟩ (on_deeper rfl)) ?k ?kx
  case h =>
    unfold SA.cells SA.loc entC
    walk_at "picks"
  case k =>
    rintro fl cs' ⟨rfl, ds, su, xd, T, q, hgot, rfl⟩
    exact ⟨_, _, rfl, _, _, .of (sa_codes _), rfl, ps, c0, c1, c2, c3, c4, c5, ds, su, xd, T, TK, hgot, rfl⟩
  case kx =>
    rintro c cs' ⟨p, cs'', rfl, rfl, hne⟩
    exact ⟨p, cs'' ++ _, rfl, hne⟩
end

end
section
open PySem PySem.W PySem.W.X PyProof.Rows
set_option Elab.async false
set_option maxRecDepth 100000
set_option linter.unusedVariables false
set_option linter.unusedSimpArgs false
theorem to_app (P : Params) : StoreOk (K1 P) 517 "appdata" 518 0 := ⟨by kernel_rfl, by kernel_rfl, by kernel_rfl, by kernel_rfl, by kernel_rfl⟩
theorem to_emb (P : Params) : StoreOk (K1 P) 517 "embedded_objects" 519 1 := ⟨by kernel_rfl, by kernel_rfl, by kernel_rfl, by kernel_rfl, by kernel_rfl⟩
theorem to_sub (P : Params) : StoreOk (K1 P) 517 "subclasses" 520 2 := ⟨by kernel_rfl, by kernel_rfl, by kernel_rfl, by kernel_rfl, by kernel_rfl⟩
theorem to_xd (P : Params) : StoreOk (K1 P) 517 "xdata" 521 3 := ⟨by kernel_rfl, by kernel_rfl, by kernel_rfl, by kernel_rfl, by kernel_rfl⟩
local macro_rules | `(tactic| walk_at "cl") => `(tactic| first | (show CL _ _ (.type "list") [] _ _ _; refine cl_list0 (by assumption) (by assumption) ?_) | (show CL _ _ (.builtin "isinstance") [.lst .list _, .ty "str"] _ _ _; refine isi_lst_str ?_) | (show CL _ _ (.builtin "iter") [.lst _ _] _ _ _; refine tr_iter_lst (by assumption) ?_))
local macro_rules | `(tactic| walk_at "ex") => `(tactic| first | (show EX _ _ _ (.Assign [.Attribute _ _ _] _ _) _ _ _; refine ex_assign_attrG (by assumption) ?_) | (show EX _ _ _ (.If _ _ _ _) _ _ _; refine ex_if ?_))
local macro_rules | `(tactic| walk_at "st") => `(tactic| first
  | (show ∃ a C sl sl' p i c2, V.ref _ = V.ref a ∧ StoreOk _ C "appdata" p i ∧ _; refine ⟨_, 517, _, _, 518, 0, _, rfl, to_app _, by walk_at "upd", rfl, by decide, ?_⟩)
  | (show ∃ a C sl sl' p i c2, V.ref _ = V.ref a ∧ StoreOk _ C "subclasses" p i ∧ _; refine ⟨_, 517, _, _, 520, 2, _, rfl, to_sub _, by walk_at "upd", rfl, by decide, ?_⟩)
  | (show ∃ a C sl sl' p i c2, V.ref _ = V.ref a ∧ StoreOk _ C "xdata" p i ∧ _; refine ⟨_, 517, _, _, 521, 3, _, rfl, to_xd _, by walk_at "upd", rfl, by decide, ?_⟩)
  | (show ∃ a C sl sl' p i c2, V.ref _ = V.ref a ∧ StoreOk _ C "embedded_objects" p i ∧ _; refine ⟨_, 517, _, _, 519, 1, _, rfl, to_emb _, by walk_at "upd", rfl, by decide, ?_⟩))
section
variable {M : Md} {w : World} {h0 : Heap} {A : Around} {mg mb : Str → Option Value} {X : Value → Cells → Prop} {cs : Cells} {PV : V → Cells → Prop}
theorem ba_einit (v0 v1 : Value) (h : Heap) (hX : (K1 w.params).In h) : Looks (model PP w) h (bindArgs (bareFn "ExtendedTags.__init__" (Stmt.par f_einit) (.ref 376)) ⟨[v0, v1], []⟩) ((["self", "tags", "legacy"] : List Str).zip [v0, v1, .bool false]) :=
  Looks.of_peek hX (by kernel_rfl)
theorem CL.permL {all : Cells} {f : Value} {xs : List V} {P : V → Cells → Prop} (h : CL M A f xs cs P X) (hp : all.Perm cs) : CL M A f xs all P X := ⟨fun vs B s hs hq => by
  have F : Fut B all s B cs s := (Fut.refl B all s).perm (fun _ => Iff.rfl) fun a ha => ((hp.map Prod.fst).mem_iff.mpr ha)
  exact wpAny_mono ((h.it vs) B s (hs.perm hp) hq) (fun _ _ => Po.step F) fun _ _ => PoX.step F⟩
/-- what a new entity comes with -/
abbrev NPost (rows : List Row) (E : Addr) (cs' : Cells) : Prop := ∃ AL SL XL ps c0 c1 c2 c3 c4 c5 ds su xd T, TabOk ps c0 c1 c2 c3 c4 c5 ∧ Got (PS.run rows) ds su xd T ∧ View (MM w h0) cs' ((421, .obj (tabObj ps)) :: (codes c0 c1 c2 c3 c4 c5 ++ entT E AL SL XL (refs ds) (refs su) (refs xd) T))
set_option maxHeartbeats 4000000 in
theorem init_gen (K : Ctx w h0 mg mb) (fit : Fit 8 A) {E : Addr} {rows : List Row} {P0 : Cells}
    (hset : ∀ (A' : Around) (I AL SL XL : Addr), Fit 7 A' → CL (MM w h0) A' (.ref 426) [.ref E, .ref I] (((I, .it (tagL rows) 0) :: entC E AL SL XL [] [] []) ++ P0) (SPost E AL SL XL rows) (SX rows)) :
    CK (MM w h0) A (.ref 383) [.ref E, tagL rows] ((E, .inst 517 []) :: P0) (fun u cs' => u = .none ∧ NPost (w := w) (h0 := h0) rows E cs') (SX rows) := by
  have X0 := K.X
  have G := K.G
  have TO := tagsOk K.X
  have KK := KK1 K
  have n1 := n_isinst K
  have n2 := b_isinst K
  have n3 := n_str K
  have n4 := b_str K
  have n5 := n_list K
  have n6 := b_list K
  have n7 := n_iter K
  have n8 := b_iter K
  refine (cc_def (names := ["self", "tags", "legacy"]) (args := [.ref E, tagL rows, .bool false]) fit (fun B hS => ⟨_, hS _ _ (SS_of K.X (is_einit _).1 (by decide)), (is_einit _).2⟩) (fun B hS h hk => cr_einit K.X hS hk) ?_ K.G.lim (by decide +kernel) (by simp) ?_)
  · intro B vs r hS
    cases r with | cons r1 r
    cases r with | cons r2 r
    cases r
    exact ⟨[_, _, .bool false], .cons r1 (.cons r2 (.cons (.bool _) .nil)), fun h hk => ba_einit _ _ h (K1_in K.X fun a o e => hk _ _ (hS _ _ e))⟩
  intro L hL
  have fit' := fit.deeper (envFn (Stmt.scp f_einit) L [] "ExtendedTags.__init__" 383 (.ref 382))
  show EXs _ _ _ _ ((L, .frame [("self", .ref E), ("tags", tagL rows), ("legacy", .bool false)]) :: _) _ _
  repeat' (first | walk_at "st" )
  rename_i AL _ SL _ XL _
  refine ⟨.ref 426, meth_inst KK (inst_own (by walk_at "mem")) (by kernel_rfl) (by kernel_rfl) (by kernel_rfl) (by kernel_rfl), kp_setup K.X, ?_⟩
  repeat' (first | walk_at "st" )
  rename_i I hI
  refine CL.useF (T := P0) (fr := [(L, .frame [("self", .ref E), ("tags", tagL rows), ("legacy", .bool false)]), (I, _), (XL, _), (SL, _), (AL, _), (E, _)]) (ps := (I, .it (tagL rows) 0) :: entC E AL SL XL [] [] []) (r := [(L, _)]) (hset _ I AL SL XL fit') (by unfold entC; walk_at "picks") ?_ ?_
  · rintro u c0 ⟨rfl, ps, c0, c1, c2, c3, c4, c5, ds, su, xd, T, hT, hgot, rfl⟩
    repeat' (first | walk_at "st" )
    exact ⟨_, _, rfl, rfl, AL, SL, XL, ps, c0, c1, c2, c3, c4, c5, ds, su, xd, T, hT, hgot, View.refl _⟩
  · rintro c c0 hne
    cases c0 with
    | nil => exact ⟨_, _, rfl, hne⟩
    | cons p c0 => exact ⟨_, _, rfl, hne⟩
end

end
section
open PySem PySem.W PySem.W.X PyProof.Rows
set_option Elab.async false
set_option maxRecDepth 100000
set_option linter.unusedVariables false
set_option linter.unusedSimpArgs false
section
variable {M : Md} {w : World} {h0 : Heap} {A : Around} {mg mb : Str → Option Value} {X : Value → Cells → Prop} {cs : Cells} {PV : V → Cells → Prop}
abbrev EPost (rows : List Row) : V → Cells → Prop := fun u cs' => ∃ E AL SL XL ps c0 c1 c2 c3 c4 c5 ds su xd T, u = .ref E ∧ TabOk ps c0 c1 c2 c3 c4 c5 ∧ Got (PS.run rows) ds su xd T ∧ cs' = (421, .obj (tabObj ps)) :: (codes c0 c1 c2 c3 c4 c5 ++ entT E AL SL XL (refs ds) (refs su) (refs xd) T)
theorem ext_gen (K : Ctx w h0 mg mb) (fit : Fit 10 A) {rows : List Row} (hop : (PS.run rows).op = none) {P0 : Cells}
    (hset : ∀ (A' : Around) (E I AL SL XL : Addr), Fit 7 A' → CL (MM w h0) A' (.ref 426) [.ref E, .ref I] (((I, .it (tagL rows) 0) :: entC E AL SL XL [] [] []) ++ P0) (SPost E AL SL XL rows) (SX rows)) :
    CL (MM w h0) A (.ref 517) [tagL rows] P0 (EPost rows) X := by
  refine CL.viewV (CK.cl (ck_make (KK1 K) (fI := 383) (by kernel_rfl) (by kernel_rfl) (by kernel_rfl) fun E vs hE => ?_))
  have h := init_gen K (A := A.under (.builtin "type.__call__" ⟨.ref 517 :: vs, []⟩)) ((Fit.under (n := 9) fit vs).le (by decide)) (E := E) (rows := rows) (P0 := P0) (fun A' I AL SL XL f => hset A' E I AL SL XL f)
  refine ⟨fun vs' B s hs r => codeAny_mono (h.it vs' B s hs r) fun r s' hr => ?_⟩
  match r, hr with
  | .ok (.ret v), hr => exact hr.mono fun u c ⟨e, AL, SL, XL, ps, c0, c1, c2, c3, c4, c5, ds, su, xd, T, hT, hg, hv⟩ => ⟨e, _, _, .of hv, E, AL, SL, XL, ps, c0, c1, c2, c3, c4, c5, ds, su, xd, T, rfl, hT, hg, rfl⟩
  | .error e, hr => exact hr.mono fun _ _ q => absurd hop q
theorem ext_first (K : Ctx w h0 mg mb) (fit : Fit 10 A) {rows : List Row} (hop : (PS.run rows).op = none) (hlen : rows.length ≤ 300) (hok : ∀ r ∈ rows, RowOk r) (hno : ∀ r ∈ rows, isEmb r = false) :
    CL (MM w h0) A (.ref 517) [tagL rows] [(421, .obj (tabObj #[]))] (EPost rows) X :=
  ext_gen K fit hop fun A' E I AL SL XL f => CL.permL (setup_spec K f hlen hok hno) (List.perm_append_singleton _ _)
theorem ext_again (K : Ctx w h0 mg mb) (fit : Fit 10 A) {rows : List Row} (hop : (PS.run rows).op = none) (hlen : rows.length ≤ 300) (hok : ∀ r ∈ rows, RowOk r) (hno : ∀ r ∈ rows, isEmb r = false) {ps : Array Value} {c0 c1 c2 c3 c4 c5 : Addr} (TK : TabOk ps c0 c1 c2 c3 c4 c5) :
    CL (MM w h0) A (.ref 517) [tagL rows] ((421, .obj (tabObj ps)) :: codes c0 c1 c2 c3 c4 c5) (EPost rows) X :=
  ext_gen K fit hop fun A' E I AL SL XL f => CL.permL (setup_again K f TK hlen hok hno) (by
    have := List.perm_append_comm (l₁ := ((I, MO.it (tagL rows) 0) :: entC E AL SL XL [] [] [])) (l₂ := ((421, MO.obj (tabObj ps)) :: codes c0 c1 c2 c3 c4 c5))
    simpa using this)
end

end
section
open PySem PySem.W PySem.W.X PyProof.Rows
set_option Elab.async false
set_option maxRecDepth 100000
set_option linter.unusedVariables false
set_option linter.unusedSimpArgs false
theorem so_emb0 (P : Params) : True := trivial
local macro_rules | `(tactic| walk_at "ga") => `(tactic| (show GA _ _ "embedded_objects" (.ref _) _ _ _; refine ga_slot (by assumption) (so_emb _) (inst_own (by walk_at "mem")) rfl (by walk_at "nbi") ?_))
local macro_rules | `(tactic| walk_at "cl") => `(tactic| first | (show CL _ _ (.builtin "isinstance") [.str _, .ty "int"] _ _ _; refine isi_str_int ?_) | (show CL _ _ (.builtin "isinstance") [.int _, .ty "int"] _ _ _; refine isi_int_int ?_))
/-- what one tag of a class is walked as -/
def itY (da : List (List Item)) (it : Item) : List V := match it.2 with
  | .n k => (da.getD k []).map tagV
  | .s _ => [tagV it]
def ItOk (da : List (List Item)) (it : Item) : Prop := ∀ k, it.2 = .n k → it.1 = 102 ∧ k < da.length
/-- the entity, walked -/
def walkV (cl da ex inn : List (List Item)) : List V := cl.flatMap (fun c => c.flatMap (itY da)) ++ (ex.flatMap (List.map tagV) ++ inn.flatMap (List.map tagV))
section
variable {M : Md} {w : World} {h0 : Heap} {A : Around} {mg mb : Str → Option Value} {X : Value → Cells → Prop} {cs cs' fin : Cells} {PV : V → Cells → Prop} {env : Env} {n : Nat} {c : Code} {fs : List Frame} {pre : FH → Prop} {rem : List V} {P : Cells → Prop}
theorem SG.point_ {mid : Cells → Prop} {l : List Value} {k : Unit → Sem PySem.Fin} (h : SG M A fin mid pre rem (k ()) c fs cs) : SG M A fin mid pre rem (.point l k) c fs cs := ⟨fun B s hs hp =>
  sx_wrap (m := PySem.point) (K := k) (H := .raise) (gd := id) (lv := fun _ => l) (wpAny_point (h.it B s hs hp))⟩
theorem Lvl.func {body : List Stmt} (fit : Fit (n + 1) A) : Lvl A env n (.func body env) [] := by
  refine ⟨?_, ⟨?_, ?_, fit.hd⟩, rfl, rfl⟩
  · show pushEnvs [env] (pushEnvs [] A.frames) = _
    cases A.frames <;> rfl
  · have := fit.dep
    show A.depth + 0 + 1 + 3 * n ≤ 450
    omega
  · have := fit.un
    show A.units + 0 + 3 + 40 * n ≤ 1800
    omega
theorem sg_func {body : List Stmt} {ys : List V} {P : Cells → Prop} (fit : Fit (n + 1) A) (h : YSs M A fin env n body cs ys P) (he : ∀ c, P c → View M c fin) : SG M A fin tM pT ys (denote table (.func body env)) (.func body env) [] cs := by
  show SG M A fin tM pT ys (.point [] fun _ => ((execs body env).onRaise (leaving env)) >>= _) _ _ _
  refine SG.point_ ?_
  rw [Sem.onRaise_eq_wrap, Sem.bind_eq_wrap', Sem.wrap_wrap]
  have := h.it [] (.func body env) [] [] (fun f => ((match f with | .ret v => ret v | _ => ret .none) : Sem PySem.Fin)) (fun e => ((leaving env e).bind fun _ => .raise e : Sem Flow).wrap (fun f => ((match f with | .ret v => ret v | _ => ret .none) : Sem PySem.Fin)) .raise id id) id id (Lvl.func fit) rfl (fun cs' hP => by
    rw [List.append_nil]
    refine SG.view (he _ hP) ?_
    exact SG.end_ rfl)
  rw [List.append_nil, List.append_nil] at this
  exact this
theorem YSs.cast {b : List Stmt} {ys ys' : List V} (h : YSs M A fin env n b cs ys P) (e : ys = ys') : YSs M A fin env n b cs ys' P := e ▸ h
theorem YS.cast {b : Stmt} {ys ys' : List V} (h : YS M A fin env n b cs ys P) (e : ys = ys') : YS M A fin env n b cs ys' P := e ▸ h
theorem ys_one {st : Stmt} {ys : List V} (h : YS M A fin env n st cs ys P) : YSs M A fin env n [st] cs ys P := (ys_cons (h.post fun c hc => ys_nil hc)).cast (List.append_nil _)
theorem eiter_kd : (Stmt.scp f_eiter).kind ≠ .module := by decide +kernel
theorem fm_snd {α : Type} (l : List α) (f : α → V) (g : α → List V) : (l.map fun a => (f a, g a)).flatMap Prod.snd = l.flatMap g := by
  induction l with
  | nil => rfl
  | cons a l ih => simp [ih]
theorem fm_one {α : Type} (l : List α) (f : α → V) : l.flatMap (fun a => [f a]) = l.map f := by
  induction l with
  | nil => rfl
  | cons a l ih => simp [ih]
theorem mp_fst {α : Type} (l : List α) (f : α → V) (g : α → List V) : (l.map fun a => (f a, g a)).map Prod.fst = l.map f := by simp [Function.comp_def]
theorem suf_mem {α β : Type} {l : List α} {f : α → β} {u : β} {rem : List β} (h : ∃ pre, l.map f = pre ++ (u :: rem)) : ∃ a ∈ l, f a = u := by
  obtain ⟨pre, e⟩ := h
  have : u ∈ l.map f := by rw [e]; simp
  obtain ⟨a, ha, rfl⟩ := List.mem_map.mp this
  exact ⟨a, ha, rfl⟩
theorem suf_tl {β : Type} {l : List β} {u : β} {rem : List β} (h : ∃ pre, l = pre ++ (u :: rem)) : ∃ pre, l = pre ++ rem := let ⟨pre, e⟩ := h; ⟨pre ++ [u], by rw [e]; simp⟩
abbrev eEnv (L : Addr) : Env := envFn (Stmt.scp f_eiter) L [] "ExtendedTags.__iter__" 433 (.ref 432)
theorem own_e (L : Addr) (loc : Loc) (r : Cells) : Own (eEnv L) L ((L, .frame loc) :: r) := ⟨rfl, eiter_kd, loc, .head _⟩
theorem mem_tcs {l : TL} {p : Addr × List Item} (h : p ∈ l) : (p.1, MO.lst .tags (p.2.map tagV)) ∈ tcs l := List.mem_map_of_mem (f := fun p : Addr × List Item => (p.1, MO.lst .tags (p.2.map tagV))) h
/-- the entity -/
def entK (E AL SL XL : Addr) (da su xd : TL) (T : Cells) : Cells := entT E AL SL XL (refs da) (refs su) (refs xd) T
theorem its_get {l : TL} {k : Nat} (h : k < l.length) : (its l).getD k [] = l[k].2 := by simp [its, h]
theorem tg_snd (l : TL) (g : List Item → List V) : (l.map fun p => (V.ref p.1, g p.2)).flatMap Prod.snd = (its l).flatMap g := by
  induction l with
  | nil => rfl
  | cons a l ih => simp only [List.map_cons, List.flatMap_cons, ih, its]
theorem tg_fst (l : TL) (g : List Item → List V) : (l.map fun p => (V.ref p.1, g p.2)).map Prod.fst = refs l := by simp [refs, Function.comp_def]
set_option maxHeartbeats 4000000 in
theorem eiter_ys (K : Ctx w h0 mg mb) {L E AL SL XL : Addr} {da su xd : TL} {T : Cells} (hT : ∀ p ∈ tcs da ++ (tcs su ++ tcs xd), p ∈ T) (hda : ∀ c ∈ su, ∀ it ∈ c.2, ItOk (its da) it) (hl1 : da.length ≤ 100) :
    YSs (MM w h0) A fin (eEnv L) 5 (Stmt.bod f_eiter) ((L, .frame [("self", .ref E)]) :: entK E AL SL XL da su xd T) (walkV (its su) (its da) (its xd) []) (fun c => ∃ q, c = q :: entK E AL SL XL da su xd T) := by
  have X0 := K.X
  have G := K.G
  have TO := tagsOk K.X
  have KK := KK1 K
  have ga := g_APP K
  have n1 := n_isinst K
  have n2 := b_isinst K
  have n3 := n_intT K
  have n4 := b_intT K
  have hda0 : ∀ p ∈ da, (p.1, MO.lst .tags (p.2.map tagV)) ∈ T := fun p hp => hT _ (List.mem_append_left _ (mem_tcs hp))
  have hsu0 : ∀ p ∈ su, (p.1, MO.lst .tags (p.2.map tagV)) ∈ T := fun p hp => hT _ (List.mem_append_right _ (List.mem_append_left _ (mem_tcs hp)))
  have hxd0 : ∀ p ∈ xd, (p.1, MO.lst .tags (p.2.map tagV)) ∈ T := fun p hp => hT _ (List.mem_append_right _ (List.mem_append_right _ (mem_tcs hp)))
  have inT : ∀ {p : Addr × MO} (q : Addr × MO), p ∈ T → p ∈ q :: entK E AL SL XL da su xd T := fun q h => .tail _ (.tail _ (.tail _ (.tail _ (.tail _ h))))
  unfold walkV entK entT
  refine ys_cons ?_
  refine ((ys_for (xs := su.map fun c => (V.ref c.1, c.2.flatMap (itY (its da)))) TO (own_e L _ _) (fun rem cs' => (∃ pre, (su.map fun c => (V.ref c.1, c.2.flatMap (itY (its da)))) = pre ++ rem) ∧ cs' = (L, .frame [("self", .ref E)]) :: entK E AL SL XL da su xd T) (fun rem cs' h => h.2 ▸ own_e L _ _) ?_ ?_ (P := fun c => c = (L, .frame [("self", .ref E)]) :: entK E AL SL XL da su xd T) (fun cs' h => h.2)).cast (tg_snd ..)).post ?_
  · intro A' fit hon
    repeat' (first | walk_at "st" )
    refine ⟨⟨⟨[], rfl⟩, rfl⟩, ?_⟩
    rintro rem cs' ⟨hpre, rfl⟩
    refine ⟨?_, hpre⟩
    rw [tg_fst]
    exact .own SL .list _ (by unfold entK entT; walk_at "mem")
  · rintro u rem cs' ⟨hpre, rfl⟩ A' fit hon
    obtain ⟨c, hc, rfl⟩ := suf_mem hpre
    unfold entK entT
    repeat' (first | walk_at "st" )
    refine ⟨own_e L _ _, ?_⟩
    refine (ys_one ((ys_for (xs := c.2.map fun it => (tagV it, itY (its da) it)) TO (own_e L _ _) (fun rem cs' => (∃ pre, (c.2.map fun it => (tagV it, itY (its da) it)) = pre ++ rem) ∧ cs' = (L, .frame [("self", .ref E), ("subclass", .ref c.1)]) :: entK E AL SL XL da su xd T) (fun rem cs' h => h.2 ▸ own_e L _ _) ?_ ?_ (P := fun cs' => cs' = (L, .frame [("self", .ref E), ("subclass", .ref c.1)]) :: entK E AL SL XL da su xd T) (fun cs' h => h.2)).cast (fm_snd ..))).post ?_
    · intro A' fit hon
      repeat' (first | walk_at "st" )
      refine ⟨⟨⟨[], rfl⟩, rfl⟩, ?_⟩
      rintro rem cs' ⟨hpre, rfl⟩
      refine ⟨?_, hpre⟩
      rw [mp_fst]
      exact .own c.1 .tags _ (inT _ (hsu0 c hc))
    · rintro u rem cs' ⟨hpre', rfl⟩ A' fit hon
      obtain ⟨it, hit, rfl⟩ := suf_mem hpre'
      have hok := hda c hc it hit
      unfold entK entT
      repeat' (first | walk_at "st" )
      refine ⟨own_e L _ _, ?_⟩
      refine ys_one (ys_if (own_e L _ _) fun A' fit hon => ?_)
      obtain ⟨co, va⟩ := it
      cases va with
      | s va =>
        show IT _ _ _ _ ((L, .frame [("self", .ref E), ("subclass", .ref c.1), ("tag", .tag (.int co) (.str va))]) :: _) _ _
        repeat' (first | walk_at "st" )
        all_goals exact ys_one (ys_yield (own_e L _ _) fun A' fit hon => ev_local (by walk_at "mem") ⟨rfl, _, View.loc (by walk_at "sub"), suf_tl hpre', rfl⟩)
      | n k =>
        obtain ⟨h102, hk⟩ := hok k rfl
        replace h102 : co = 102 := h102
        subst h102
        rw [its_len] at hk
        have hx : (refs da)[((k : Int)).toNat]? = some (.ref da[k].1) := by simp [refs, hk]
        have hy : itY (its da) (102, .n k) = da[k].2.map tagV := by simp only [itY]; rw [its_get hk]
        have hrl := refs_len da
        show IT _ _ _ _ ((L, .frame [("self", .ref E), ("subclass", .ref c.1), ("tag", .tag (.int 102) (.int (k : Int)))]) :: _) _ _
        repeat' (first | walk_at "st" )
        refine (ys_one ((ys_for (xs := da[k].2.map fun it => (tagV it, [tagV it])) TO (own_e L _ _) (fun rem cs' => (∃ pre, (da[k].2.map fun it => (tagV it, [tagV it])) = pre ++ rem) ∧ cs' = (L, .frame [("self", .ref E), ("subclass", .ref c.1), ("tag", .tag (.int 102) (.int (k : Int)))]) :: entK E AL SL XL da su xd T) (fun rem cs' h => h.2 ▸ own_e L _ _) ?_ ?_ (P := fun cs' => cs' = (L, .frame [("self", .ref E), ("subclass", .ref c.1), ("tag", .tag (.int 102) (.int (k : Int)))]) :: entK E AL SL XL da su xd T) (fun cs' h => h.2)).cast ((fm_snd ..).trans ((fm_one ..).trans hy.symm)))).post ?_
        · intro A' fit hon
          repeat' (first | walk_at "st" )
          refine it_list (by walk_at "mem") (by omega) (by omega) hx ?_
          refine ⟨⟨⟨[], rfl⟩, rfl⟩, ?_⟩
          rintro rem cs' ⟨hpre, rfl⟩
          refine ⟨?_, hpre⟩
          rw [mp_fst]
          exact .own da[k].1 .tags _ (inT _ (hda0 _ (List.getElem_mem hk)))
        · rintro u rem cs' ⟨hpre2, rfl⟩ A' fit hon
          obtain ⟨it2, hit2, rfl⟩ := suf_mem hpre2
          unfold entK entT
          repeat' (first | walk_at "st" )
          refine ⟨own_e L _ _, ?_⟩
          exact ys_one (ys_yield (own_e L _ _) fun A' fit hon => ev_local (by walk_at "mem") ⟨rfl, _, View.loc (by walk_at "sub"), suf_tl hpre2, rfl⟩)
        · rintro _ rfl
          exact ⟨_, View.loc (by walk_at "sub"), suf_tl hpre', rfl⟩
    · rintro _ rfl
      exact ⟨_, View.loc (by walk_at "sub"), suf_tl hpre, rfl⟩
  rintro _ rfl
  unfold entK entT
  refine ys_cons ?_
  refine ((ys_for (xs := xd.map fun c => (V.ref c.1, c.2.map tagV)) TO (own_e L _ _) (fun rem cs' => (∃ pre, (xd.map fun c => (V.ref c.1, c.2.map tagV)) = pre ++ rem) ∧ cs' = (L, .frame [("self", .ref E)]) :: entK E AL SL XL da su xd T) (fun rem cs' h => h.2 ▸ own_e L _ _) ?_ ?_ (P := fun c => c = (L, .frame [("self", .ref E)]) :: entK E AL SL XL da su xd T) (fun cs' h => h.2)).cast (tg_snd ..)).post ?_
  · intro A' fit hon
    repeat' (first | walk_at "st" )
    refine ⟨⟨⟨[], rfl⟩, rfl⟩, ?_⟩
    rintro rem cs' ⟨hpre, rfl⟩
    refine ⟨?_, hpre⟩
    rw [tg_fst]
    exact .own XL .list _ (by unfold entK entT; walk_at "mem")
  · rintro u rem cs' ⟨hpre, rfl⟩ A' fit hon
    obtain ⟨c, hc, rfl⟩ := suf_mem hpre
    unfold entK entT
    repeat' (first | walk_at "st" )
    refine ⟨own_e L _ _, ?_⟩
    refine (ys_one ((ys_for (xs := c.2.map fun it => (tagV it, [tagV it])) TO (own_e L _ _) (fun rem cs' => (∃ pre, (c.2.map fun it => (tagV it, [tagV it])) = pre ++ rem) ∧ cs' = (L, .frame [("self", .ref E), ("tags", .ref c.1)]) :: entK E AL SL XL da su xd T) (fun rem cs' h => h.2 ▸ own_e L _ _) ?_ ?_ (P := fun cs' => cs' = (L, .frame [("self", .ref E), ("tags", .ref c.1)]) :: entK E AL SL XL da su xd T) (fun cs' h => h.2)).cast ((fm_snd ..).trans (fm_one ..)))).post ?_
    · intro A' fit hon
      repeat' (first | walk_at "st" )
      refine ⟨⟨⟨[], rfl⟩, rfl⟩, ?_⟩
      rintro rem cs' ⟨hpre, rfl⟩
      refine ⟨?_, hpre⟩
      rw [mp_fst]
      exact .own c.1 .tags _ (inT _ (hxd0 c hc))
    · rintro u rem cs' ⟨hpre2, rfl⟩ A' fit hon
      obtain ⟨it2, hit2, rfl⟩ := suf_mem hpre2
      unfold entK entT
      repeat' (first | walk_at "st" )
      refine ⟨own_e L _ _, ?_⟩
      exact ys_one (ys_yield (own_e L _ _) fun A' fit hon => ev_local (by walk_at "mem") ⟨rfl, _, View.loc (by walk_at "sub"), suf_tl hpre2, rfl⟩)
    · rintro _ rfl
      exact ⟨_, View.loc (by walk_at "sub"), suf_tl hpre, rfl⟩
  rintro _ rfl
  unfold entK entT
  refine ys_one (ys_if (own_e L _ _) fun A' fit hon => ?_)
  repeat' (first | walk_at "st" )
  exact ys_nil ⟨_, rfl⟩
end

end
section
open PySem PySem.W PySem.W.X PyProof.Rows
set_option Elab.async false
set_option maxRecDepth 100000
set_option linter.unusedVariables false
section
variable {w : World} {h0 : Heap} {A : Around} {mg mb : Str → Option Value} {X : Value → Cells → Prop}
set_option maxHeartbeats 4000000 in
theorem pairs_spec (K : Ctx w h0 mg mb) (fit : Fit 4 A) (k : LK) (is : List Item) (hl : is.length ≤ 100) :
    CL (MM w h0) A (.ref 535) [.lst k (is.map tagV)] [] (fun u cs => cs = [] ∧ u = itemsV is) X := by
  have X0 := K.X
  have G := K.G
  have TO := tagsOk K.X
  refine CL.viewV ⟨fun vs B s hs hp => ?_⟩
  have hvs := hp
  cases hp with | cons r1 hp
  cases hp with | nil
  refine (fn_def (M := MM w h0) (names := ["rows"]) (args := [.lst k (is.map tagV)]) fit (fun B _ hS => ⟨_, hS _ _ (SS_of X0 (is_pairs _).1 (by decide)), (is_pairs _).2⟩) (fun B _ hS h hk => cr_pairs X0 hS hk)
    (fun _ _ _ h _ => Looks.of_pure (ba_pairs _)) G.lim (fun _ h => h) (by decide +kernel) (by simp) ?_) B s hs hvs
  clear hvs r1 hs B s
  intro L hL
  show EXs _ _ _ _ [(L, .frame [("rows", .lst k (is.map tagV))])] _ _
  have fit' := fit.deeper (envFn (Stmt.scp f_pairs) L [] "_law_pairs" 535 (.ref 534))
  have hd0 := fit'.hd
  refine ex_cons (ex_return ?_)
  refine ev_map is tagV itemV TO hd0 (by omega) (cl := []) (by kernel_rfl) ?_
  refine ev_local (by walk_at "mem") ⟨.lst k _, fun C i hi => ?_, fun D => ?_⟩
  · refine as_name (by walk_at "loc") ?_
    unfold tagV
    repeat' (first | walk_at "st" )
    exact ⟨rfl, _, .refl _⟩
  · refine ⟨_, _, rfl, ?_⟩
    exact ⟨_, [], .freeze, rfl, vsub_ref ..⟩
end

end
section
open PySem PySem.W PySem.W.X PyProof.Rows
set_option Elab.async false
set_option maxRecDepth 100000
set_option linter.unusedVariables false
set_option linter.unusedSimpArgs false
def itI (da : List (List Item)) (it : Item) : List Item := match it.2 with
  | .n k => da.getD k []
  | .s _ => [it]
/-- the entity, walked: plain -/
def walkI (cl da ex inn : List (List Item)) : List Item := cl.flatMap (fun c => c.flatMap (itI da)) ++ (ex.flatten ++ inn.flatten)
theorem itY_eq (da : List (List Item)) (it : Item) : itY da it = (itI da it).map tagV := by
  unfold itY itI
  cases it.2 <;> rfl
theorem walkV_eq (cl da ex inn : List (List Item)) : walkV cl da ex inn = (walkI cl da ex inn).map tagV := by
  have h1 : ∀ l : List (List Item), l.flatMap (List.map tagV) = l.flatten.map tagV := fun l => by
    induction l with
    | nil => rfl
    | cons a l ih => simp [ih]
  have h2 : ∀ c : List Item, c.flatMap (itY da) = (c.flatMap (itI da)).map tagV := fun c => by
    induction c with
    | nil => rfl
    | cons a l ih => simp [ih, itY_eq]
  have h3 : ∀ l : List (List Item), (l.flatMap fun c => c.flatMap (itY da)) = (l.flatMap fun c => c.flatMap (itI da)).map tagV := fun l => by
    induction l with
    | nil => rfl
    | cons a l ih => rw [List.flatMap_cons, List.flatMap_cons, ih, h2, List.map_append]
  unfold walkV walkI
  rw [h1, h1, h3, List.map_append, List.map_append]
section
variable {M : Md} {w : World} {h0 : Heap} {A : Around} {mg mb : Str → Option Value} {X : Value → Cells → Prop} {cs cs' fin : Cells} {PV : V → Cells → Prop}
theorem ig_ent (K : Ctx w h0 mg mb) (fit : Fit 8 A) {E AL SL XL L0 : Addr} {m0 : MO} {da su xd : TL} {T : Cells} (hT : ∀ p ∈ tcs da ++ (tcs su ++ tcs xd), p ∈ T) (hda : ∀ c ∈ su, ∀ it ∈ c.2, ItOk (its da) it) (hl1 : da.length ≤ 100) :
    IG (MM w h0) A (.ref E) ((L0, m0) :: entK E AL SL XL da su xd T) ((walkI (its su) (its da) (its xd) []).map tagV) [(L0, m0)] (entK E AL SL XL da su xd T) := ⟨fun B s v hs r Q Er hQ => by
  cases r
  have X1 := K1_in K.X hs.keepS
  obtain ⟨d, vs, e, hd, _⟩ := hs.own (E, .inst 517 (sl4 AL SL XL)) (.tail _ (.head _))
  obtain ⟨dd, nn, rfl, e'⟩ := hd
  have I : InstAt s.heap E ⟨.ref 517, some dd, .plain, vs⟩ 517 (some (emptyD nn)) := ⟨e, rfl, rfl, hs.keep _ _ e'⟩
  refine inst_iter (K := K1 w.params) X1 I (by kernel_rfl : findIn (K1 w.params) (.ref 517) "__iter__" = some (some (.ref 433))) (by kernel_rfl) ?_
  refine gen_call (names := ["self"]) (args := [.ref E]) (ws := [.ref E]) fit ⟨_, hs.stat _ _ (SS_of K.X (is_eiter _).1 (by decide)), (is_eiter _).2⟩ (cr_eiter K.X hs.stat hs.keep) (Looks.of_pure (ba_eiter _)) (K.G.lim _ hs.keepS) (.cons (.ref _) .nil) (by decide +kernel) (by simp) hs ?_
  intro L G og s' hL S' F' hgo hgs
  refine ⟨G, s.gens.size, rfl, hgo.is (S'.own (G, .obj og) (.tail _ (.head _))), ?_⟩
  have pm : ((L, MO.frame ((["self"] : List Str).zip [V.ref E])) :: (G, .obj og) :: (L0, m0) :: entK E AL SL XL da su xd T).Perm ((G, .obj og) :: (((L, .frame [("self", .ref E)]) :: entK E AL SL XL da su xd T) ++ [(L0, m0)])) := by
    refine List.Perm.trans (.swap ..) (.cons _ ?_)
    rw [List.cons_append]
    exact .cons _ (List.perm_append_singleton _ _).symm
  refine hQ G og ((L, .frame [("self", .ref E)]) :: entK E AL SL XL da su xd T) _ s' (S'.perm pm) (F'.perm (fun _ => Iff.rfl) fun a ha => ((pm.map Prod.fst).mem_iff.mpr ha)) hgo hgs ?_
  have hys := eiter_ys (fin := entK E AL SL XL da su xd T) (A := A.in1) (L := L) (E := E) (AL := AL) (SL := SL) (XL := XL) (xd := xd) K hT hda hl1
  rw [walkV_eq] at hys
  exact sg_func (fit.in1.le (by decide)) hys (fun c ⟨q, e⟩ => e ▸ View.drop)⟩
set_option maxHeartbeats 4000000 in
theorem pairs_ent (K : Ctx w h0 mg mb) (fit : Fit 10 A) {E AL SL XL : Addr} {da su xd : TL} {T : Cells} (hT : ∀ p ∈ tcs da ++ (tcs su ++ tcs xd), p ∈ T) (hda : ∀ c ∈ su, ∀ it ∈ c.2, ItOk (its da) it) (hl1 : da.length ≤ 100) (hl : (walkI (its su) (its da) (its xd) []).length ≤ 1000) :
    CL (MM w h0) A (.ref 535) [.ref E] (entK E AL SL XL da su xd T) (fun u cs => cs = entK E AL SL XL da su xd T ∧ u = itemsV (walkI (its su) (its da) (its xd) [])) X := by
  have X0 := K.X
  have G := K.G
  have TO := tagsOk K.X
  refine CL.viewV (CK.cl (cc_def (names := ["rows"]) (args := [.ref E]) fit (fun B hS => ⟨_, hS _ _ (SS_of K.X (is_pairs _).1 (by decide)), (is_pairs _).2⟩) (fun B hS h hk => cr_pairs K.X hS hk) (bind1 (len1 fun a => ba_pairs a) rfl) K.G.lim (by decide +kernel) (by simp) ?_))
  intro L hL
  show EXs _ _ _ _ ((L, .frame [("rows", .ref E)]) :: _) _ _
  have fit' := fit.deeper (envFn (Stmt.scp f_pairs) L [] "_law_pairs" 535 (.ref 534))
  have hd0 := fit'.hd
  refine ex_cons (ex_return ?_)
  refine EV.viewV (ev_compgen (fin := entK E AL SL XL da su xd T) fit' K.G.lim (fun rem done cs' => ∃ a b, walkI (its su) (its da) (its xd) [] = a ++ b ∧ rem = b.map tagV ∧ done = a.map itemV ∧ cs' = [(L, .frame [("rows", .ref E)])]) (cl := []) (by kernel_rfl) ?_)
  refine ev_local (by walk_at "mem") ⟨_, _, ⟨[], _, rfl, rfl, rfl, rfl⟩, ig_ent K (fit'.le (by decide)) hT hda hl1, ?_, ?_, ?_⟩
  · rintro rem done cs' ⟨a, b, e1, e2, rfl, e4⟩
    rw [e1] at hl
    simp at hl ⊢
    omega
  · rintro C u rem done cs' ⟨a, b, e1, e2, rfl, rfl⟩
    cases b with
    | nil => cases e2
    | cons it b =>
      rw [List.map_cons] at e2
      obtain ⟨rfl, rfl⟩ := List.cons.inj e2
      refine as_name (by walk_at "loc") ?_
      show EV _ _ _ _ ((C, .frame [("one", .tag (.int it.1) it.2.v)]) :: _) _ _
      repeat' (first | walk_at "st" )
      exact ⟨_, _, .refl _, a ++ [it], b, by rw [e1]; simp, rfl, by simp [itemV], rfl⟩
  · rintro done cs' ⟨a, b, e1, e2, rfl, rfl⟩ D
    have : b = [] := by cases b with | nil => rfl | cons _ _ => cases e2
    subst this
    rw [List.append_nil] at e1
    subst e1
    refine ⟨.ref D, (L, .frame [("rows", .ref E)]) :: (D, .lst .list ((walkI (its su) (its da) (its xd) []).map itemV)) :: entK E AL SL XL da su xd T, .of (View.perm ?_), _, _, rfl, _, _, .fzF, rfl, rfl⟩
    exact (List.Perm.cons _ (List.perm_append_singleton _ _)).trans (.swap ..)
end

end
section
open PySem PySem.W PySem.W.X PyProof.Rows
set_option Elab.async false
set_option maxRecDepth 100000
set_option linter.unusedVariables false
set_option linter.unusedSimpArgs false
local macro_rules | `(tactic| walk_at "cl") => `(tactic| (show CL _ _ (.ref 112) [_, _] _ _ _; refine cl_tag (by assumption) (by assumption) ?_))
section
variable {M : Md} {w : World} {h0 : Heap} {A : Around} {mg mb : Str → Option Value} {X : Value → Cells → Prop} {cs cs' fin : Cells} {PV : V → Cells → Prop}
abbrev t2Env (L : Addr) : Env := envFn (Stmt.scp f_t2t) L [] "tuples_to_tags" 140 (.ref 139)
theorem t2t_kd : (Stmt.scp f_t2t).kind ≠ .module := by decide +kernel
theorem own_t2 (L : Addr) (loc : Loc) (r : Cells) : Own (t2Env L) L ((L, .frame loc) :: r) := ⟨rfl, t2t_kd, loc, .head _⟩
set_option maxHeartbeats 1000000 in
theorem t2t_ys (K : Ctx w h0 mg mb) {L : Addr} {so : List Item} :
    YSs (MM w h0) A fin (t2Env L) 5 (Stmt.bod f_t2t) [(L, .frame [("iterable", itemsV so)])] (so.map tagV) (fun cs => ∃ q, cs = [q]) := by
  have X0 := K.X
  have G := K.G
  have TO := tagsOk K.X
  have gt := g_DXFTag K
  refine (ys_one ((ys_for (xs := so.map fun it => (itemV it, [tagV it])) TO (own_t2 L _ _) (fun rem cs' => (∃ pre, (so.map fun it => (itemV it, [tagV it])) = pre ++ rem) ∧ cs' = [(L, .frame [("iterable", itemsV so)])]) (fun rem cs' h => h.2 ▸ own_t2 L _ _) ?_ ?_ (P := fun cs' => cs' = [(L, .frame [("iterable", itemsV so)])]) (fun cs' h => h.2)).cast ((fm_snd ..).trans (fm_one ..)))).post ?_
  · intro A' fit hon
    repeat' (first | walk_at "st" )
    refine ⟨⟨⟨[], rfl⟩, rfl⟩, ?_⟩
    rintro rem cs' ⟨hpre, rfl⟩
    refine ⟨?_, hpre⟩
    rw [mp_fst]
    exact .lst .list _
  · rintro u rem cs' ⟨hpre, rfl⟩ A' fit hon
    have hd0 := fit.hd
    obtain ⟨it, hit, rfl⟩ := suf_mem hpre
    unfold itemV
    repeat' (first | walk_at "st" )
    refine ⟨own_t2 L _ _, ?_⟩
    refine ys_one (ys_yield (own_t2 L _ _) fun A' fit hon => ?_)
    repeat' (first | walk_at "st" )
    exact ⟨rfl, _, View.loc (by walk_at "sub"), suf_tl hpre, rfl⟩
  · rintro _ rfl
    exact ⟨_, rfl⟩
/-- tuples_to_tags(x) -/
theorem eg_t2t (K : Ctx w h0 mg mb) (fit : Fit 8 A) {env : Env} {a : Str} {p1 p2 pos : Pos} {so : List Item} {loc : Loc} {r : Cells} (hx : (a, itemsV so) ∈ loc)
    (hk1 : env.scope.kind = .function := by rfl) (hl1 : env.kindOf "tuples_to_tags" = some .globalImplicit := by kernel_rfl) (hg1 : env.globals = mainGlobals := by rfl) 
    (hl2 : env.kindOf a = some .local := by kernel_rfl) (hd2 : (a == ("__debug__" : Str)) = false := by kernel_rfl)
    (he : starEach [.Name a p2] env = [(false, eval (.Name a p2) env)] := by rfl)
    (hc : eval (.Call (.Name "tuples_to_tags" p1) [.Name a p2] [] pos) env = (do callWith pos (← eval (.Name "tuples_to_tags" p1) env) [] (backTo pos (starEach [.Name a p2] env)) (backToKw pos (keywordEach [] env))) := by rfl) :
    EG (MM w h0) A env (.Call (.Name "tuples_to_tags" p1) [.Name a p2] [] pos) ((env.locals, .frame loc) :: r) (so.map tagV) ((env.locals, .frame loc) :: r) 6 := by
  refine eg_call K.G (g_t2t K) hx (kp_t2t K.X) (fun B s v hs rv Q E hQ => ?_) hk1 hl1 hg1 (by kernel_rfl) hl2 hd2 he hc
  refine gen_call (names := ["iterable"]) (args := [itemsV so]) (ws := [v]) fit ⟨_, hs.stat _ _ (SS_of K.X (is_t2t _).1 (by decide)), (is_t2t _).2⟩ (cr_t2t K.X hs.stat hs.keep) (Looks.of_pure (ba_t2t _)) (K.G.lim _ hs.keepS) (.cons rv .nil) (by decide +kernel) (by simp) hs ?_
  intro L G og s' hL S' F' hgo hgs
  have pm : ((L, MO.frame ((["iterable"] : List Str).zip [itemsV so])) :: (G, .obj og) :: (env.locals, .frame loc) :: r).Perm ((G, .obj og) :: ([(L, .frame [("iterable", itemsV so)])] ++ ((env.locals, .frame loc) :: r))) := .swap ..
  refine hQ B G og [(L, .frame [("iterable", itemsV so)])] _ s.gens.size s' (S'.perm pm) (F'.perm (fun _ => Iff.rfl) fun a ha => ((pm.map Prod.fst).mem_iff.mpr ha)) hgo hgs (Nat.le_refl _) fun A' fit' => ?_
  exact sg_func fit' (t2t_ys K) (fun c ⟨q, e⟩ => e ▸ View.drop)
end

end
section
open PySem PySem.W PySem.W.X PyProof.Rows
set_option Elab.async false
set_option maxRecDepth 100000
set_option linter.unusedVariables false
set_option linter.unusedSimpArgs false
/-- the first item of a list is a text's -/
def HeadOk (l : List Item) : Prop := ∃ c v t, l = (c, .s v) :: t
def isNamed (name : Str) (l : List Item) : Bool := match l with
  | (_, .s v) :: _ => v == name
  | _ => false
def named (ls : List (List Item)) (name : Str) : Option (List Item) := ls.find? (isNamed name)
theorem named_none {ls : List (List Item)} {name : Str} (h : ∀ l ∈ ls, isNamed name l = false) : named ls name = none := List.find?_eq_none.mpr fun l hl => by rw [h l hl]; decide
theorem named_some {a b : List (List Item)} {l : List Item} {name : Str} (h : ∀ l ∈ a, isNamed name l = false) (h' : isNamed name l = true) : named (a ++ l :: b) name = some l := by
  unfold named
  rw [List.find?_append, List.find?_eq_none.mpr (fun l hl => by rw [h l hl]; decide), List.find?_cons_of_pos h']
  rfl
theorem mem5 {α : Type} {p a b c d e : α} {T : List α} (h : p ∈ T) : p ∈ a :: b :: c :: d :: e :: T := .tail _ (.tail _ (.tail _ (.tail _ (.tail _ h))))
theorem refs_app (a b : TL) : refs (a ++ b) = refs a ++ refs b := by simp [refs]
theorem tcs_app (a b : TL) : tcs (a ++ b) = tcs a ++ tcs b := by simp [tcs]
theorem its_app (a b : TL) : its (a ++ b) = its a ++ its b := by simp [its]
/-- the tags' own cells -/
abbrev tall (da su xd : TL) : Cells := tcs da ++ (tcs su ++ tcs xd)
theorem seq_first (x : V) (l : List V) : seqIndex? 0 (x :: l).length = some 0 ∧ (x :: l)[0]? = some x := ⟨by
  rw [seqIndex_pos (by decide) (by simp)]; rfl, rfl⟩
local macro_rules | `(tactic| walk_at "os") => `(tactic| (show OS _ _ _ _ (.ref _) (.int 0) _ _ _; refine it_seq (by assumption) (.own _ .tags _ (mem5 (by assumption))) (by decide) (by decide) (seq_first _ _).1 (seq_first _ _).2 ?_))
local macro_rules | `(tactic| walk_at "ev") => `(tactic| (show EV _ _ _ (.JoinedStr [_, _, _] _) _ _ _; refine ev_fstr3 (by decide +kernel) (by decide +kernel) ?_))
section
variable {M : Md} {w : World} {h0 : Heap} {A : Around} {mg mb : Str → Option Value} {X : Value → Cells → Prop} {cs cs' fin : Cells} {PV : V → Cells → Prop}
set_option maxHeartbeats 4000000 in
theorem getx_spec (K : Ctx w h0 mg mb) (fit : Fit 4 A) {E AL SL XL : Addr} {da su xd : TL} {T : Cells} {name : Str} (hT : T.Perm (tall da su xd)) (hh : ∀ p ∈ xd, HeadOk p.2) (hn : name.length ≤ 1000) :
    CL (MM w h0) A (.ref 462) [.ref E, .str name] (entK E AL SL XL da su xd T) (fun u cs' => cs' = entK E AL SL XL da su xd T ∧ ∃ a p b, xd = a ++ p :: b ∧ (∀ q ∈ a, isNamed name q.2 = false) ∧ isNamed name p.2 = true ∧ u = .ref p.1)
      (fun c cs' => c = .ref 175 ∧ cs' = entK E AL SL XL da su xd T ∧ ∀ q ∈ xd, isNamed name q.2 = false) := by
  have X0 := K.X
  have G := K.G
  have TO := tagsOk K.X
  have KK := KK1 K
  have ge := g_DVE K
  refine CL.viewV (CK.cl (cc_def (names := ["self", "appid"]) (args := [.ref E, .str name]) fit (fun B hS => ⟨_, hS _ _ (SS_of K.X (is_getx _).1 (by decide)), (is_getx _).2⟩) (fun B hS h hk => cr_getx K.X hS hk) (bind1 (len2 fun a b => ba_getx a b) rfl) K.G.lim (by decide +kernel) (by simp) ?_))
  intro L hL
  show EXs _ _ _ _ ((L, .frame [("self", .ref E), ("appid", .str name)]) :: _) _ _
  have fit' := fit.deeper (envFn (Stmt.scp f_getx) L [] "ExtendedTags.get_xdata" 462 (.ref 461))
  have hd0 := fit'.hd
  unfold entK entT
  refine ex_cons ?_
  refine ex_for TO hd0 (fun rem cs' => ∃ a b, xd = a ++ b ∧ rem = refs b ∧ (∀ q ∈ a, isNamed name q.2 = false) ∧ cs' = (L, .frame [("self", .ref E), ("appid", .str name)]) :: entK E AL SL XL da su xd T) ?_
  repeat' (first | walk_at "st" )
  refine ⟨refs xd, ⟨[], xd, rfl, rfl, (fun _ h => by cases h), rfl⟩, ?_, ?_, ?_⟩
  · rintro rem cs' ⟨a, b, e, rfl, hna, rfl⟩
    exact ⟨.own XL .list _ (by unfold entK entT; walk_at "mem"), refs a, by rw [e, refs_app]⟩
  · rintro u rem cs' ⟨a, b, e, e2, hna, rfl⟩
    cases b with
    | nil => cases e2
    | cons p b =>
      obtain ⟨rfl, rfl⟩ := List.cons.inj (e2 : u :: rem = .ref p.1 :: refs b)
      have hpm : p ∈ xd := by rw [e]; simp
      obtain ⟨c, v, t, hp⟩ := hh p hpm
      have hmT : (p.1, MO.lst .tags (V.tag (.int c) (.str v) :: t.map tagV)) ∈ T := by
        have := mem_tcs hpm
        rw [hp] at this
        exact hT.mem_iff.mpr (List.mem_append_right _ (List.mem_append_right _ this))
      unfold entK entT
      walk_at "st"
      show EXs _ _ _ _ ((L, .frame [("self", .ref E), ("appid", .str name), ("xdata", .ref p.1)]) :: _) _ _
      repeat' (first | walk_at "st" )
      · rename_i hv
        exact ⟨_, _, rfl, _, _, .refl, rfl, a, p, b, e, hna, by rw [hp]; exact beq_iff_eq.mpr hv, rfl⟩
      · rename_i hv
        exact ⟨_, View.loc (by walk_at "sub"), a ++ [p], b, by rw [e]; simp, rfl, fun l hl => by
          rcases List.mem_append.mp hl with q | q
          · exact hna l q
          · rw [List.mem_singleton.mp q, hp]; exact beq_eq_false_iff_ne.mpr hv, rfl⟩
  · rintro cs' ⟨a, b, e, e2, hna, rfl⟩
    have : b = [] := by cases b with | nil => rfl | cons _ _ => cases e2
    subst this
    rw [List.append_nil] at e
    subst e
    refine ex_cons (ex_raise ?_)
    repeat' (first | walk_at "st" )
    refine ⟨name, rfl, hn, ?_⟩
    repeat' (first | walk_at "st" )
    refine tr_newexc (xo_dve K) (by simp) fun ea hea => ?_
    exact ⟨175, ea, _, rfl, ck_dve K, by walk_at "pick", .none hd0, _, _, rfl, rfl, rfl, hna⟩
set_option maxHeartbeats 4000000 in
theorem getapp_spec (K : Ctx w h0 mg mb) (fit : Fit 4 A) {E AL SL XL : Addr} {da su xd : TL} {T : Cells} {name : Str} (hT : T.Perm (tall da su xd)) (hh : ∀ p ∈ da, HeadOk p.2) (hn : name.length ≤ 1000) :
    CL (MM w h0) A (.ref 491) [.ref E, .str name] (entK E AL SL XL da su xd T) (fun u cs' => cs' = entK E AL SL XL da su xd T ∧ ∃ a p b, da = a ++ p :: b ∧ (∀ q ∈ a, isNamed name q.2 = false) ∧ isNamed name p.2 = true ∧ u = .ref p.1)
      (fun c cs' => c = .ref 175 ∧ cs' = entK E AL SL XL da su xd T ∧ ∀ q ∈ da, isNamed name q.2 = false) := by
  have X0 := K.X
  have G := K.G
  have TO := tagsOk K.X
  have KK := KK1 K
  have ge := g_DVE K
  refine CL.viewV (CK.cl (cc_def (names := ["self", "appid"]) (args := [.ref E, .str name]) fit (fun B hS => ⟨_, hS _ _ (SS_of K.X (is_getapp _).1 (by decide)), (is_getapp _).2⟩) (fun B hS h hk => cr_getapp K.X hS hk) (bind1 (len2 fun a b => ba_getapp a b) rfl) K.G.lim (by decide +kernel) (by simp) ?_))
  intro L hL
  show EXs _ _ _ _ ((L, .frame [("self", .ref E), ("appid", .str name)]) :: _) _ _
  have fit' := fit.deeper (envFn (Stmt.scp f_getapp) L [] "ExtendedTags.get_app_data" 491 (.ref 490))
  have hd0 := fit'.hd
  unfold entK entT
  refine ex_cons ?_
  refine ex_for TO hd0 (fun rem cs' => ∃ a b, da = a ++ b ∧ rem = refs b ∧ (∀ q ∈ a, isNamed name q.2 = false) ∧ cs' = (L, .frame [("self", .ref E), ("appid", .str name)]) :: entK E AL SL XL da su xd T) ?_
  repeat' (first | walk_at "st" )
  refine ⟨refs da, ⟨[], da, rfl, rfl, (fun _ h => by cases h), rfl⟩, ?_, ?_, ?_⟩
  · rintro rem cs' ⟨a, b, e, rfl, hna, rfl⟩
    exact ⟨.own AL .list _ (by unfold entK entT; walk_at "mem"), refs a, by rw [e, refs_app]⟩
  · rintro u rem cs' ⟨a, b, e, e2, hna, rfl⟩
    cases b with
    | nil => cases e2
    | cons p b =>
      obtain ⟨rfl, rfl⟩ := List.cons.inj (e2 : u :: rem = .ref p.1 :: refs b)
      have hpm : p ∈ da := by rw [e]; simp
      obtain ⟨c, v, t, hp⟩ := hh p hpm
      have hmT : (p.1, MO.lst .tags (V.tag (.int c) (.str v) :: t.map tagV)) ∈ T := by
        have := mem_tcs hpm
        rw [hp] at this
        exact hT.mem_iff.mpr (List.mem_append_left _ this)
      unfold entK entT
      walk_at "st"
      show EXs _ _ _ _ ((L, .frame [("self", .ref E), ("appid", .str name), ("appdata", .ref p.1)]) :: _) _ _
      repeat' (first | walk_at "st" )
      · rename_i hv
        exact ⟨_, _, rfl, _, _, .refl, rfl, a, p, b, e, hna, by rw [hp]; exact beq_iff_eq.mpr hv, rfl⟩
      · rename_i hv
        exact ⟨_, View.loc (by walk_at "sub"), a ++ [p], b, by rw [e]; simp, rfl, fun l hl => by
          rcases List.mem_append.mp hl with q | q
          · exact hna l q
          · rw [List.mem_singleton.mp q, hp]; exact beq_eq_false_iff_ne.mpr hv, rfl⟩
  · rintro cs' ⟨a, b, e, e2, hna, rfl⟩
    have : b = [] := by cases b with | nil => rfl | cons _ _ => cases e2
    subst this
    rw [List.append_nil] at e
    subst e
    refine ex_cons (ex_raise ?_)
    repeat' (first | walk_at "st" )
    refine ⟨name, rfl, hn, ?_⟩
    repeat' (first | walk_at "st" )
    refine tr_newexc (xo_dve K) (by simp) fun ea hea => ?_
    exact ⟨175, ea, _, rfl, ck_dve K, by walk_at "pick", .none hd0, _, _, rfl, rfl, rfl, hna⟩
end

end
section
open PySem PySem.W PySem.W.X PyProof.Rows
set_option Elab.async false
set_option maxRecDepth 100000
set_option linter.unusedVariables false
set_option linter.unusedSimpArgs false
local macro_rules | `(tactic| walk_at "os") => `(tactic| (show OS _ _ _ _ (.ref _) (.int 0) _ _ _; refine it_seq (by assumption) (.own _ .tags _ (mem5 (by assumption))) (by decide) (by decide) (seq_first _ _).1 (seq_first _ _).2 ?_))
local macro_rules | `(tactic| walk_at "ev") => `(tactic| (show EV _ _ _ (.JoinedStr [_, _, _] _) _ _ _; refine ev_fstr3 (by decide +kernel) (by decide +kernel) ?_))
local macro_rules | `(tactic| walk_at "cl") => `(tactic| (show CL _ _ (.type "enumerate") [.ref _] _ _ _; refine cl_enum (by walk_at "mem") ?_))
section
variable {M : Md} {w : World} {h0 : Heap} {A : Around} {mg mb : Str → Option Value} {X : Value → Cells → Prop} {cs cs' fin : Cells} {PV : V → Cells → Prop}
theorem op_ge_T {i j : Int} (h : j ≤ i) (h' : PV (.bool true) cs) : OC M A .GtE (.int i) (.int j) cs PV X := ⟨fun a b B s hs ⟨r, r'⟩ => by
  cases r; cases r'
  exact PyProof.Rows.ge_int (.now hs (by rw [decide_eq_true h]; exact .bool _) h')⟩
theorem op_ge_F {i j : Int} (h : ¬ j ≤ i) (h' : PV (.bool false) cs) : OC M A .GtE (.int i) (.int j) cs PV X := ⟨fun a b B s hs ⟨r, r'⟩ => by
  cases r; cases r'
  exact PyProof.Rows.ge_int (.now hs (by rw [decide_eq_false h]; exact .bool _) h')⟩
local macro_rules | `(tactic| walk_at "oc") => `(tactic| (show OC _ _ .GtE (.int _) (.int _) _ _ _; first | refine op_ge_T (by omega) ?_ | refine op_ge_F (by omega) ?_ | refine op_ge_F (by simp) ?_))
theorem key_enum : ∀ (x y : List V) (i : Nat), enumV i (x ++ y) = enumV i x ++ enumV (i + x.length) y := fun x => by
  induction x with
  | nil => intro y i; rfl
  | cons u x ih => intro y i; simp only [List.cons_append, enumV, ih, List.length_cons]; rw [show i + 1 + x.length = i + (x.length + 1) by omega]
theorem ba_getsub' (v0 v1 v2 : Value) (h : Heap) (hX : (K1 w.params).In h) : Looks (model PP w) h (bindArgs (bareFn "ExtendedTags.get_subclass" (Stmt.par f_getsub) (.ref 434)) ⟨[v0, v1, v2], []⟩) ((["self", "name", "pos"] : List Str).zip [v0, v1, v2]) :=
  Looks.of_peek hX (by kernel_rfl)
set_option maxHeartbeats 4000000 in
theorem getsub_spec (K : Ctx w h0 mg mb) (fit : Fit 4 A) {E AL SL XL : Addr} {da su xd : TL} {T : Cells} {name : Str} (hT : T.Perm (tall da su xd)) (hh : ∀ p ∈ su, HeadOk p.2) (hn : name.length ≤ 1000) :
    CL (MM w h0) A (.ref 441) [.ref E, .str name, .int 1] (entK E AL SL XL da su xd T) (fun u cs' => cs' = entK E AL SL XL da su xd T ∧ ∃ a p b, su = a ++ p :: b ∧ a ≠ [] ∧ (∀ q ∈ a.drop 1, isNamed name q.2 = false) ∧ isNamed name p.2 = true ∧ u = .ref p.1)
      (fun c cs' => c = .ref 187 ∧ cs' = entK E AL SL XL da su xd T ∧ ∀ q ∈ su.drop 1, isNamed name q.2 = false) := by
  have X0 := K.X
  have G := K.G
  have TO := tagsOk K.X
  have KK := KK1 K
  have ge := g_DKE K
  have e1 := n_enum K
  have e2 := b_enum K
  refine CL.viewV (CK.cl (cc_def (names := ["self", "name", "pos"]) (args := [.ref E, .str name, .int 1]) fit (fun B hS => ⟨_, hS _ _ (SS_of K.X (is_getsub _).1 (by decide)), (is_getsub _).2⟩) (fun B hS h hk => cr_getsub K.X hS hk) ?_ K.G.lim (by decide +kernel) (by simp) ?_))
  · intro B vs r hS
    cases r with | cons r1 r
    cases r with | cons r2 r
    cases r with | cons r3 r
    cases r
    exact ⟨[_, _, _], .cons r1 (.cons r2 (.cons r3 .nil)), fun h hk => ba_getsub' _ _ _ h (K1_in K.X fun a o e => hk _ _ (hS _ _ e))⟩
  intro L hL
  show EXs _ _ _ _ ((L, .frame [("self", .ref E), ("name", .str name), ("pos", .int 1)]) :: _) _ _
  have fit' := fit.deeper (envFn (Stmt.scp f_getsub) L [] "ExtendedTags.get_subclass" 441 (.ref 440))
  have hd0 := fit'.hd
  unfold entK entT
  refine ex_cons ?_
  refine ex_for_enum hd0 (fun rem cs' => ∃ a b, su = a ++ b ∧ rem = enumV a.length (refs b) ∧ (∀ q ∈ a.drop 1, isNamed name q.2 = false) ∧ cs' = (L, .frame [("self", .ref E), ("name", .str name), ("pos", .int 1)]) :: entK E AL SL XL da su xd T) ?_
  repeat' (first | walk_at "st" )
  intro e it
  refine ⟨e, it, SL, refs su, _, rfl, List.perm_append_comm (l₁ := [(e, MO.p (enumP it 0)), (it, MO.p (liP SL 0))]), ⟨[], su, rfl, rfl, (fun _ h => by cases h), rfl⟩, ?_, ?_, ?_⟩
  · rintro rem cs' ⟨a, b, e, rfl, hna, rfl⟩
    refine ⟨by unfold entK entT; walk_at "mem", ?_⟩
    exact ⟨enumV 0 (refs a), by rw [e, refs_app, key_enum, refs_len, Nat.zero_add]⟩
  · rintro u rem cs' ⟨a, b, e, e2, hna, rfl⟩
    cases b with
    | nil => cases e2
    | cons p b =>
      obtain ⟨rfl, rfl⟩ := List.cons.inj (e2 : u :: rem = .tup [.int (a.length : Nat), .ref p.1] :: enumV (a.length + 1) (refs b))
      have hpm : p ∈ su := by rw [e]; simp
      obtain ⟨c, v, t, hp⟩ := hh p hpm
      have hmT : (p.1, MO.lst .tags (V.tag (.int c) (.str v) :: t.map tagV)) ∈ T := by
        have := mem_tcs hpm
        rw [hp] at this
        exact hT.mem_iff.mpr (List.mem_append_right _ (List.mem_append_left _ this))
      unfold entK entT
      repeat' ((fail_if_success show EXs _ _ _ _ _ _ _); walk_at "st")
      show EXs _ _ _ _ ((L, .frame [("self", .ref E), ("name", .str name), ("pos", .int 1), ("index", .int (a.length : Int)), ("subclass", .ref p.1)]) :: _) _ _
      refine ex_cons (ex_try (on_deeper rfl) ?_)
      refine ex_cons (ex_if ?_)
      have next : ∀ (hq : ∀ q ∈ (a ++ [p]).drop 1, isNamed name q.2 = false), ∃ c', View (MM w h0) ((L, .frame [("self", .ref E), ("name", .str name), ("pos", .int 1), ("index", .int (a.length : Int)), ("subclass", .ref p.1)]) :: entK E AL SL XL da su xd T) c' ∧ ∃ a' b', su = a' ++ b' ∧ enumV (a.length + 1) (refs b) = enumV a'.length (refs b') ∧ (∀ q ∈ a'.drop 1, isNamed name q.2 = false) ∧ c' = (L, .frame [("self", .ref E), ("name", .str name), ("pos", .int 1)]) :: entK E AL SL XL da su xd T := fun hq =>
        ⟨_, View.loc (by walk_at "sub"), a ++ [p], b, by rw [e]; simp, by rw [List.length_append]; rfl, hq, rfl⟩
      cases a with
      | nil =>
        repeat' (first | walk_at "st" )
        exact next (by simp)
      | cons a0 a =>
        have hl : (1 : Int) ≤ ((a0 :: a).length : Nat) := by simp only [List.length_cons]; omega
        repeat' (first | walk_at "st" )
        · rename_i hv
          exact ⟨_, _, rfl, _, _, .refl, rfl, a0 :: a, p, b, e, by simp, hna, by rw [hp]; exact beq_iff_eq.mpr hv, rfl⟩
        · rename_i hv
          refine next fun l hl => ?_
          rcases List.mem_append.mp (show l ∈ a ++ [p] from hl) with q | q
          · exact hna l q
          · rw [List.mem_singleton.mp q, hp]; exact beq_eq_false_iff_ne.mpr hv
  · rintro cs' ⟨a, b, e, e2, hna, rfl⟩
    have : b = [] := by cases b with | nil => rfl | cons _ _ => cases e2
    subst this
    rw [List.append_nil] at e
    subst e
    refine ex_cons (ex_raise ?_)
    repeat' (first | walk_at "st" )
    refine ⟨name, rfl, hn, ?_⟩
    repeat' (first | walk_at "st" )
    refine tr_newexc (xo_dke K) (by simp) fun ea hea => ?_
    exact ⟨187, ea, _, rfl, ck_dke K, by walk_at "pick", .none hd0, _, _, rfl, rfl, rfl, hna⟩
end

end
section
open PySem PySem.W PySem.W.X PyProof.Rows
set_option Elab.async false
set_option maxRecDepth 100000
set_option linter.unusedVariables false
set_option linter.unusedSimpArgs false
/-- the first list of that name turned -/
def upd1 (name : Str) (f : List Item → List Item) : List (List Item) → Option (List (List Item))
  | [] => none
  | l :: r => if isNamed name l then some (f l :: r) else (upd1 name f r).map (l :: ·)
theorem upd1_hit {name : Str} {f : List Item → List Item} {l : List Item} {b : List (List Item)} (hl : isNamed name l = true) : ∀ {a : List (List Item)}, (∀ q ∈ a, isNamed name q = false) → upd1 name f (a ++ l :: b) = some (a ++ f l :: b)
  | [], _ => by simp [upd1, hl]
  | x :: a, h => by
    have h1 := h x (.head _)
    have h2 := upd1_hit (f := f) (b := b) hl (a := a) fun q hq => h q (.tail _ hq)
    simp only [List.cons_append, upd1, h1, h2]
    simp
theorem upd1_none {name : Str} {f : List Item → List Item} : ∀ {a : List (List Item)}, (∀ q ∈ a, isNamed name q = false) → upd1 name f a = none
  | [], _ => rfl
  | x :: a, h => by
    have h1 := h x (.head _)
    have h2 := upd1_none (f := f) (a := a) fun q hq => h q (.tail _ hq)
    simp [upd1, h1, h2]
/-- the plain lists -/
structure PM where
  su : List (List Item)
  da : List (List Item)
  xd : List (List Item)
abbrev putApp (so l : List Item) : List Item := l.take 1 ++ so ++ l.drop (l.length - 1)
abbrev putX (so l : List Item) : List Item := l.take 1 ++ so
abbrev newApp (name : Str) (so : List Item) : List Item := (102, .s name) :: (so ++ [(102, .s "}")])
abbrev newXd (name : Str) (so : List Item) : List Item := (1001, .s name) :: so
def setH (name : Str) : List (List Item) → List (List Item)
  | (a :: b :: r) :: rest => (a :: (b.1, .s name) :: r) :: rest
  | x => x
def ed0 (name : Str) (part : Option Str) (so : List Item) (p : PM) : Str × PM :=
  if s1 name = "{" then
    match part, p.su with
    | none, c :: r => ("", ⟨(c ++ [(102, .n p.da.length)]) :: r, p.da ++ [newApp name so], p.xd⟩)
    | some q, c :: r => match upd1 q (· ++ [(102, .n p.da.length)]) r with
      | some r' => ("", ⟨c :: r', p.da ++ [newApp name so], p.xd⟩)
      | none => ("key", p)
    | _, [] => ("", p)
  else ("value", p)
def ed1 (name : Str) (so : List Item) (p : PM) : Str × PM :=
  match upd1 name (putApp so) p.da with
  | some d => ("", ⟨p.su, d, p.xd⟩)
  | none => ("value", p)
def ed2 (name : Str) (so : List Item) (p : PM) : Str × PM := ("", ⟨p.su, p.da, p.xd ++ [newXd name so]⟩)
def ed3 (name : Str) (so : List Item) (p : PM) : Str × PM :=
  match upd1 name (putX so) p.xd with
  | some d => ("", ⟨p.su, p.da, d⟩)
  | none => ("value", p)
def ed4 (name : Str) (p : PM) : Str × PM := ("", ⟨setH name p.su, p.da, p.xd⟩)
/-- the same edit of the plain lists -/
def edit : Nat → Str → Option Str → List Item → PM → Str × PM
  | 0, name, part, so, p => ed0 name part so p
  | 1, name, _, so, p => ed1 name so p
  | 2, name, _, so, p => ed2 name so p
  | 3, name, _, so, p => ed3 name so p
  | _, name, _, _, p => ed4 name p
inductive EntIs (E AL SL XL : Addr) (p : PM) : Cells → Prop
  | mk (da su xd : TL) (T : Cells) : its da = p.da → its su = p.su → its xd = p.xd → T.Perm (tall da su xd) → EntIs E AL SL XL p (entK E AL SL XL da su xd T)
theorem pick_of_mem {α : Type} {x : α} : ∀ {l : List α}, x ∈ l → ∃ r, Pick x l r
  | y :: l, h => by
    rcases List.mem_cons.mp h with rfl | h
    · exact ⟨l, .head⟩
    · obtain ⟨r, hr⟩ := pick_of_mem h
      exact ⟨y :: r, .tail hr⟩
theorem pick_tcs {T R : Cells} {d1 d2 : TL} {p : Addr × List Item} (l' : List Item) (h : T.Perm (tcs (d1 ++ p :: d2) ++ R)) : ∃ T', Pick (p.1, .lst .tags (p.2.map tagV)) T T' ∧ ((p.1, MO.lst .tags (l'.map tagV)) :: T').Perm (tcs (d1 ++ (p.1, l') :: d2) ++ R) := by
  have hm : (p.1, MO.lst .tags (p.2.map tagV)) ∈ T := h.mem_iff.mpr (List.mem_append_left _ (mem_tcs (by simp)))
  obtain ⟨T', hT'⟩ := pick_of_mem hm
  refine ⟨T', hT', ?_⟩
  have e1 : tcs (d1 ++ p :: d2) ++ R = tcs d1 ++ (p.1, MO.lst .tags (p.2.map tagV)) :: (tcs d2 ++ R) := by simp [tcs]
  have e2 : tcs (d1 ++ (p.1, l') :: d2) ++ R = tcs d1 ++ (p.1, MO.lst .tags (l'.map tagV)) :: (tcs d2 ++ R) := by simp [tcs]
  rw [e1] at h
  rw [e2]
  have h2 := (hT'.perm.symm.trans h).trans List.perm_middle
  exact ((h2.cons_inv).cons _).trans List.perm_middle.symm
theorem tall_da {da su xd : TL} : (tall da su xd).Perm (tcs da ++ (tcs su ++ tcs xd)) := .refl _
theorem tall_su {da su xd : TL} : (tall da su xd).Perm (tcs su ++ (tcs da ++ tcs xd)) := by
  show (tcs da ++ (tcs su ++ tcs xd)).Perm _
  rw [← List.append_assoc, ← List.append_assoc]
  exact List.perm_append_comm.append_right _
theorem tall_xd {da su xd : TL} : (tall da su xd).Perm (tcs xd ++ (tcs da ++ tcs su)) := by
  show (tcs da ++ (tcs su ++ tcs xd)).Perm _
  rw [← List.append_assoc]
  exact List.perm_append_comm
theorem sb_1 {n : Nat} (h : 1 ≤ n) : sliceBounds (some 1) none none n = (1, (n : Int), 1) := by
  unfold sliceBounds
  simp
  omega
theorem sb_11 {n : Nat} (h : 1 ≤ n) : sliceBounds (some 1) (some 1) none n = (1, 1, 1) := by
  unfold sliceBounds
  simp
  omega
theorem sb_1m {n : Nat} (h : 2 ≤ n) : sliceBounds (some 1) (some (-1)) none n = (1, (n : Int) - 1, 1) := by
  unfold sliceBounds
  simp
  omega
section
variable {M : Md} {A : Around} {T : Cells} {X : Value → Cells → Prop} {PV : V → Cells → Prop}
/-- a contract that may raise; what it raises with stands behind the caller's first cell -/
theorem CL.use1P {f : Value} {xs : List V} {p : Addr × MO} {P : V → Cells → Prop} {X0 : Value → Cells → Prop} (h : CL M A f xs T P X0) (k : ∀ x c0, P x c0 → PV x (p :: c0)) (kx : ∀ c c0, X0 c c0 → X c (p :: c0)) : CL M A f xs (p :: T) PV X := ⟨fun vs => by
  have t := (h.it vs).frame (fr := [p]) (all := p :: T) (List.perm_append_singleton _ _).symm
  refine Tr.permX (Tr.viewV (Tr.mono t (fun x c ⟨c0, e, h0⟩ => ?_) fun x c q => q)) fun c c' ⟨c0, e, q⟩ => ?_
  · subst e
    exact ⟨x, _, .of (View.perm (List.perm_append_singleton _ _)), k x c0 h0⟩
  · subst e; exact ⟨_, List.perm_append_singleton _ _, kx c c0 q⟩⟩
end

end
section
open PySem PySem.W PySem.W.X PyProof.Rows
set_option Elab.async false
set_option maxRecDepth 100000
set_option linter.unusedVariables false
set_option linter.unusedSimpArgs false
section
variable {M : Md} {w : World} {h0 : Heap} {A : Around} {mg mb : Str → Option Value} {X : Value → Cells → Prop} {cs cs' fin : Cells} {PV : V → Cells → Prop}
theorem refs_turn_setx (a b : TL) (p : Addr × List Item) (l : List Item) : refs (a ++ (p.1, l) :: b) = refs (a ++ p :: b) := by simp [refs]
theorem its_turn_setx (a b : TL) (p : Addr × List Item) (l : List Item) : its (a ++ (p.1, l) :: b) = its a ++ l :: its b := by simp [its]
set_option maxHeartbeats 4000000 in
theorem setx_spec (K : Ctx w h0 mg mb) (fit : Fit 12 A) {E AL SL XL : Addr} {da su xd : TL} {T : Cells} {name : Str} {so : List Item} (hT : T.Perm (tall da su xd)) (hh : ∀ p ∈ xd, HeadOk p.2) (hn : name.length ≤ 1000) (hso : so.length ≤ 100) (hl : ∀ p ∈ xd, 1 ≤ p.2.length ∧ p.2.length ≤ 500) :
    CL (MM w h0) A (.ref 469) [.ref E, .str name, itemsV so] (entK E AL SL XL da su xd T) (fun u cs' => u = .none ∧ ∃ d, upd1 name (putX so) (its xd) = some d ∧ EntIs E AL SL XL ⟨its su, its da, d⟩ cs')
      (fun c cs' => c = .ref 175 ∧ upd1 name (putX so) (its xd) = none ∧ EntIs E AL SL XL ⟨its su, its da, its xd⟩ cs') := by
  have X0 := K.X
  have G := K.G
  have TO := tagsOk K.X
  have KK := KK1 K
  refine CL.viewV (CK.cl (cc_def (names := ["self", "appid", "tags"]) (args := [.ref E, .str name, itemsV so]) fit (fun B hS => ⟨_, hS _ _ (SS_of K.X (is_setx _).1 (by decide)), (is_setx _).2⟩) (fun B hS h hk => cr_setx K.X hS hk) (bind1 (len3 fun a b c => ba_setx a b c) rfl) K.G.lim (by decide +kernel) (by simp) ?_))
  intro L hL
  show EXs _ _ _ _ ((L, .frame [("self", .ref E), ("appid", .str name), ("tags", itemsV so)]) :: _) _ _
  have fit' := fit.deeper (envFn (Stmt.scp f_setx) L [] "ExtendedTags.set_xdata" 469 (.ref 468))
  have hd0 := fit'.hd
  unfold entK entT
  repeat' (first | walk_at "st" )
  refine ⟨.ref 462, meth_inst KK (inst_own (by walk_at "mem")) (by kernel_rfl) (by kernel_rfl) (by kernel_rfl) (by kernel_rfl), kp_getx K.X, ?_⟩
  repeat' (first | walk_at "st" )
  refine CL.use1P (getx_spec (da := da) (su := su) (xd := xd) K (fit'.le (by decide)) hT hh hn) ?_ ?_
  · rintro x c0 ⟨rfl, a, p, b, e, hna, hp, rfl⟩
    have hpl := hl p (by rw [e]; simp)
    obtain ⟨T', hT', hpm⟩ := pick_tcs (T := T) (R := tcs da ++ tcs su) (d1 := a) (d2 := b) (p := p) (putX so p.2) (by rw [← e]; exact hT.trans tall_xd)
    refine ⟨_, _, _, rfl, by walk_at "loc", ?_⟩
    unfold entK entT
    have hbx : sliceBounds (some 1) (none) none (p.2.map tagV).length = (1, ((p.2.map tagV).length : Int), 1) := by rw [List.length_map]; have := sb_1 hpl.1; simpa using this
    refine ex_cons (ex_setslice (st := 1) (sp := ((p.2.map tagV).length : Int)) (l := some 1) (u := none) (S := p.1) (xs := p.2.map tagV) (ys := so.map tagV) (n := 6) TO (ownSet X0) (fit'.le (by decide)) K.G.lim (Nat.le_refl 6) (eg_t2t K (fit'.le (by decide)) (by walk_at "mem")) (by walk_at "mem") (.tail (.tail (.tail (.tail hT')))) (eo_some (ev_int ⟨_, rfl, rfl, rfl⟩)) (eo_none ⟨rfl, rfl⟩) hbx (by simp; omega) ?_)
    refine ex_nil ?_
    have hit : (p.2.map tagV).take (1 : Int).toNat ++ so.map tagV ++ (p.2.map tagV).drop (max (1 : Int) (((p.2.map tagV).length : Int))).toNat = (putX so p.2).map tagV := by
      have e1 : (max (1 : Int) ((p.2.map tagV).length : Int)).toNat = (p.2.map tagV).length := by simp; omega
      rw [e1, List.drop_length, List.append_nil]
      simp [putX]
    rw [hit]
    refine ⟨_, _, rfl, .none, entK E AL SL XL da su (a ++ (p.1, putX so p.2) :: b) ((p.1, .lst .tags ((putX so p.2).map tagV)) :: T'), .of (View.perm ?_), rfl, _, by rw [e, its_app]; exact upd1_hit (b := its b) hp (fun q hq => by obtain ⟨r, hr, rfl⟩ := List.mem_map.mp hq; exact hna r hr), .mk _ _ _ _ rfl rfl (its_turn_setx a b p _) (hpm.trans tall_xd.symm)⟩
    unfold entK entT
    rw [refs_turn_setx, ← e]
    exact (List.perm_middle (l₁ := [_, _, _, _])).symm
  · rintro c c0 ⟨rfl, rfl, hna⟩
    exact ⟨_, _, rfl, rfl, upd1_none (fun q hq => by obtain ⟨r, hr, rfl⟩ := List.mem_map.mp hq; exact hna r hr), .mk _ _ _ _ rfl rfl rfl hT⟩
theorem refs_turn_setapp (a b : TL) (p : Addr × List Item) (l : List Item) : refs (a ++ (p.1, l) :: b) = refs (a ++ p :: b) := by simp [refs]
theorem its_turn_setapp (a b : TL) (p : Addr × List Item) (l : List Item) : its (a ++ (p.1, l) :: b) = its a ++ l :: its b := by simp [its]
set_option maxHeartbeats 4000000 in
theorem setapp_spec (K : Ctx w h0 mg mb) (fit : Fit 12 A) {E AL SL XL : Addr} {da su xd : TL} {T : Cells} {name : Str} {so : List Item} (hT : T.Perm (tall da su xd)) (hh : ∀ p ∈ da, HeadOk p.2) (hn : name.length ≤ 1000) (hso : so.length ≤ 100) (hl : ∀ p ∈ da, 2 ≤ p.2.length ∧ p.2.length ≤ 500) :
    CL (MM w h0) A (.ref 505) [.ref E, .str name, itemsV so] (entK E AL SL XL da su xd T) (fun u cs' => u = .none ∧ ∃ d, upd1 name (putApp so) (its da) = some d ∧ EntIs E AL SL XL ⟨its su, d, its xd⟩ cs')
      (fun c cs' => c = .ref 175 ∧ upd1 name (putApp so) (its da) = none ∧ EntIs E AL SL XL ⟨its su, its da, its xd⟩ cs') := by
  have X0 := K.X
  have G := K.G
  have TO := tagsOk K.X
  have KK := KK1 K
  refine CL.viewV (CK.cl (cc_def (names := ["self", "appid", "tags"]) (args := [.ref E, .str name, itemsV so]) fit (fun B hS => ⟨_, hS _ _ (SS_of K.X (is_setapp _).1 (by decide)), (is_setapp _).2⟩) (fun B hS h hk => cr_setapp K.X hS hk) (bind1 (len3 fun a b c => ba_setapp a b c) rfl) K.G.lim (by decide +kernel) (by simp) ?_))
  intro L hL
  show EXs _ _ _ _ ((L, .frame [("self", .ref E), ("appid", .str name), ("tags", itemsV so)]) :: _) _ _
  have fit' := fit.deeper (envFn (Stmt.scp f_setapp) L [] "ExtendedTags.set_app_data_content" 505 (.ref 504))
  have hd0 := fit'.hd
  unfold entK entT
  repeat' (first | walk_at "st" )
  refine ⟨.ref 491, meth_inst KK (inst_own (by walk_at "mem")) (by kernel_rfl) (by kernel_rfl) (by kernel_rfl) (by kernel_rfl), kp_getapp K.X, ?_⟩
  repeat' (first | walk_at "st" )
  refine CL.use1P (getapp_spec (da := da) (su := su) (xd := xd) K (fit'.le (by decide)) hT hh hn) ?_ ?_
  · rintro x c0 ⟨rfl, a, p, b, e, hna, hp, rfl⟩
    have hpl := hl p (by rw [e]; simp)
    obtain ⟨T', hT', hpm⟩ := pick_tcs (T := T) (R := tcs su ++ tcs xd) (d1 := a) (d2 := b) (p := p) (putApp so p.2) (by rw [← e]; exact hT.trans tall_da)
    refine ⟨_, _, _, rfl, by walk_at "loc", ?_⟩
    unfold entK entT
    have hbx : sliceBounds (some 1) (some (-1)) none (p.2.map tagV).length = (1, ((p.2.length : Int) - 1), 1) := by rw [List.length_map]; exact sb_1m hpl.1
    refine ex_cons (ex_setslice (st := 1) (sp := ((p.2.length : Int) - 1)) (l := some 1) (u := some (-1)) (S := p.1) (xs := p.2.map tagV) (ys := so.map tagV) (n := 6) TO (ownSet X0) (fit'.le (by decide)) K.G.lim (Nat.le_refl 6) (eg_t2t K (fit'.le (by decide)) (by walk_at "mem")) (by walk_at "mem") (.tail (.tail (.tail (.tail hT')))) (eo_some (ev_int ⟨_, rfl, rfl, rfl⟩)) (eo_some (ev_neg ⟨_, rfl, rfl, rfl⟩)) hbx (by simp; omega) ?_)
    refine ex_nil ?_
    have hit : (p.2.map tagV).take (1 : Int).toNat ++ so.map tagV ++ (p.2.map tagV).drop (max (1 : Int) (((p.2.length : Int) - 1))).toNat = (putApp so p.2).map tagV := by
      have e1 : (max (1 : Int) ((p.2.length : Int) - 1)).toNat = p.2.length - 1 := by omega
      rw [e1]
      simp [putApp]
    rw [hit]
    refine ⟨_, _, rfl, .none, entK E AL SL XL (a ++ (p.1, putApp so p.2) :: b) su xd ((p.1, .lst .tags ((putApp so p.2).map tagV)) :: T'), .of (View.perm ?_), rfl, _, by rw [e, its_app]; exact upd1_hit (b := its b) hp (fun q hq => by obtain ⟨r, hr, rfl⟩ := List.mem_map.mp hq; exact hna r hr), .mk _ _ _ _ (its_turn_setapp a b p _) rfl rfl (hpm.trans tall_da.symm)⟩
    unfold entK entT
    rw [refs_turn_setapp, ← e]
    exact (List.perm_middle (l₁ := [_, _, _, _])).symm
  · rintro c c0 ⟨rfl, rfl, hna⟩
    exact ⟨_, _, rfl, rfl, upd1_none (fun q hq => by obtain ⟨r, hr, rfl⟩ := List.mem_map.mp hq; exact hna r hr), .mk _ _ _ _ rfl rfl rfl hT⟩
end

end
section
open PySem PySem.W PySem.W.X PyProof.Rows
set_option Elab.async false
set_option maxRecDepth 100000
set_option linter.unusedVariables false
set_option linter.unusedSimpArgs false
section
variable {M : Md} {w : World} {h0 : Heap} {A : Around} {mg mb : Str → Option Value} {X : Value → Cells → Prop} {cs cs' fin : Cells} {PV : V → Cells → Prop}
abbrev tiEnv (L : Addr) : Env := envFn (Stmt.scp f_titer) L [] "DXFTag.__iter__" 80 (.ref 79)
theorem titer_kd : (Stmt.scp f_titer).kind ≠ .module := by decide +kernel
theorem own_ti (L : Addr) (loc : Loc) (r : Cells) : Own (tiEnv L) L ((L, .frame loc) :: r) := ⟨rfl, titer_kd, loc, .head _⟩
theorem titer_ys (K : Ctx w h0 mg mb) {L : Addr} {c v : V} (hc : ∀ n, c ≠ .bi n) (hv : ∀ n, v ≠ .bi n) :
    YSs (MM w h0) A fin (tiEnv L) 5 (Stmt.bod f_titer) [(L, .frame [("self", .tag c v)])] [c, v] (fun cs => ∃ q, cs = [q]) := by
  have X0 := K.X
  have G := K.G
  refine ys_cons ((ys_yield (own_ti L _ _) fun A' fit hon => ?_).post (P := fun c' => c' = [(L, .frame [("self", .tag c v)])]) ?_)
  · refine ev_attr (ev_local (by walk_at "mem") ?_)
    exact ga_slot (KK1 K) (so_code _) inst_tag rfl hc ⟨rfl, rfl⟩
  rintro _ rfl
  refine ys_one (ys_yield (own_ti L _ _) fun A' fit hon => ?_)
  refine ev_attr (ev_local (by walk_at "mem") ?_)
  exact ga_value K hv (fit.le (by decide)) ⟨rfl, _, rfl⟩
theorem ig_tag (K : Ctx w h0 mg mb) (fit : Fit 8 A) {c v : V} (hc : ∀ n, c ≠ .bi n) (hv : ∀ n, v ≠ .bi n) : IG (MM w h0) A (.tag c v) cs [c, v] cs [] := ⟨fun B s x hs r Q Er hQ => by
  have X1 := K1_in K.X hs.keepS
  obtain ⟨a, dd, n, vs, rfl, I, ros⟩ := inst_tag.it A B s x hs r
  refine inst_iter (K := K1 w.params) X1 I (by kernel_rfl : findIn (K1 w.params) (.ref 112) "__iter__" = some (some (.ref 80))) (by kernel_rfl) ?_
  refine gen_call (names := ["self"]) (args := [.tag c v]) (ws := [.ref a]) fit ⟨_, hs.stat _ _ (SS_of K.X (is_titer _).1 (by decide)), (is_titer _).2⟩ (cr_titer K.X hs.stat hs.keep) (Looks.of_pure (ba_titer _)) (K.G.lim _ hs.keepS) (.cons r .nil) (by decide +kernel) (by simp) hs ?_
  intro L G og s' hL S' F' hgo hgs
  refine ⟨G, s.gens.size, rfl, hgo.is (S'.own (G, .obj og) (.tail _ (.head _))), ?_⟩
  have pm : ((L, MO.frame ((["self"] : List Str).zip [V.tag c v])) :: (G, .obj og) :: cs).Perm ((G, .obj og) :: ([(L, .frame [("self", .tag c v)])] ++ cs)) := .swap ..
  refine hQ G og [(L, .frame [("self", .tag c v)])] _ s' (S'.perm pm) (F'.perm (fun _ => Iff.rfl) fun a ha => ((pm.map Prod.fst).mem_iff.mpr ha)) hgo hgs ?_
  exact sg_func (fit.in1.le (by decide)) (titer_ys (A := A.in1) K hc hv) (fun c ⟨q, e⟩ => e ▸ View.drop)⟩
theorem ni_tag (K : Ctx w h0 mg mb) {c v : V} : ∀ B s x, St (MM w h0).C (MM w h0).S A B cs s → RV (MM w h0).C B x (.tag c v) → ∀ (Q : Bool → Shared → Prop) (E : Value → Shared → Prop), Q false s → wpAny (model (MM w h0).prog (MM w h0).w) A (notIterableAtAll x) Q E s := fun B s x hs r Q E hQ => by
  have X1 := K1_in K.X hs.keepS
  obtain ⟨a, dd, n, vs, rfl, I, ros⟩ := inst_tag.it A B s x hs r
  unfold notIterableAtAll
  refine wpAny_bind ?_
  simp only [specialOf]
  refine wpAny_bind (I.type.here ((looks_findIn X1 (by kernel_rfl : findIn (K1 w.params) (.ref 112) "__iter__" = some (some (.ref 80)))).here ?_))
  exact wpAny_pure hQ
/-- a, b = a tag -/
theorem as_tag (K : Ctx w h0 mg mb) {env : Env} {ts : List PySem.Expr} {k : Nat} {pos : Pos} {c v : V} {P : Cells → Prop} (fit : Fit 8 A) (hc : ∀ n, c ≠ .bi n) (hv : ∀ n, v ≠ .bi n) (hl : (assignEach ts env).length = 2)
    (h : ASs (MM w h0) A env ts [c, v] cs P X) (hst : (assignEach ts env).findIdx? (·.1) = none := by rfl) : AS (MM w h0) A env (.Tuple ts k pos) (.tag c v) cs P X :=
  as_ig fit K.G.lim (ig_tag K fit hc hv) (ni_tag K) hl h hst
local macro_rules | `(tactic| walk_at "as") => `(tactic| (show AS _ _ _ (.Tuple [_, _] _ _) (.tag _ _) _ _ _; refine as_tag (by assumption) (by walk_at "fit") (by walk_at "nbi") (by walk_at "nbi") (by rfl) ?_))
theorem meth_tags_own {K : Frag} (KK : KOf M K) (TO : TagsOk M) {a : Addr} {xs : List V} {name : Str} {f : Addr} (hm : (a, MO.lst .tags xs) ∈ cs) (hf : findIn K (.ref M.C.tags) name = some (some (.ref f))) (ht : typeIn K (.ref f) = some (.type "function")) : MethOk M A cs (.ref a) name (.ref f) := fun pl B s v hs r Q E hQ => by
  cases r
  have X0 := KK s.heap hs.keepS
  obtain ⟨d, ws, n, e, hd, rs⟩ := hs.own _ hm
  exact own_method e rfl (TO.ga _ hs.keepS) canon_list_getattribute (TO.noga _ hs.keepS) (looks_findIn X0 hf) (looks_typeIn X0 ht) (.inl rfl) (dk_ns hs hd) (hQ s.toks)
theorem seq_second (x y : V) (l : List V) : seqIndex? 1 (x :: y :: l).length = some 1 ∧ (x :: y :: l)[1]? = some y := ⟨by
  rw [seqIndex_pos (by decide) (by simp; omega)]; rfl, rfl⟩
local macro_rules | `(tactic| walk_at "os") => `(tactic| (show OS _ _ _ _ (.ref _) (.int 1) _ _ _; refine it_seq (by assumption) (.own _ .tags _ (.tail _ (by assumption))) (by decide) (by decide) (seq_second _ _ _).1 (seq_second _ _ _).2 ?_))
set_option maxHeartbeats 4000000 in
theorem thandle_spec (K : Ctx w h0 mg mb) (fit : Fit 12 A) {a : Addr} {x : Item} {v : Str} {l : List Item} (hm : (a, MO.lst .tags (tagV x :: V.tag (.int 5) (.str v) :: l.map tagV)) ∈ cs) :
    CL (MM w h0) A (.ref 220) [.ref a] cs (fun u cs' => cs' = cs ∧ u = .str v) X := by
  have X0 := K.X
  have G := K.G
  have TO := tagsOk K.X
  have KK := KK1 K
  refine CL.viewV (CK.cl (cc_def (names := ["self"]) (args := [.ref a]) fit (fun B hS => ⟨_, hS _ _ (SS_of K.X (is_thandle _).1 (by decide)), (is_thandle _).2⟩) (fun B hS h hk => cr_thandle K.X hS hk) (bind1 (len1 fun a => ba_thandle a) rfl) K.G.lim (by decide +kernel) (by simp) ?_))
  intro L hL
  show EXs _ _ _ _ ((L, .frame [("self", .ref a)]) :: _) _ _
  have fit' := fit.deeper (envFn (Stmt.scp f_thandle) L [] "Tags.get_handle" 220 (.ref 219))
  have hd0 := fit'.hd
  refine ex_cons (ex_try (on_deeper rfl) ?_)
  repeat' (first | walk_at "st" )
  refine ex_if ?_
  repeat' (first | walk_at "st" )
  exact ⟨_, _, rfl, _, _, .refl, rfl, rfl⟩
theorem noclass_spec (K : Ctx w h0 mg mb) (fit : Fit 3 A) {E AL SL XL : Addr} {c : V} {su : List V} (hb : ∀ n, c ≠ .bi n) (hm : (E, MO.inst 517 (sl4 AL SL XL)) ∈ cs) (hs : (SL, MO.lst .list (c :: su)) ∈ cs) :
    CK (MM w h0) A (.ref 397) [.ref E] cs (fun u cs' => u = c ∧ cs' = cs) X := by
  have X0 := K.X
  have G := K.G
  have TO := tagsOk K.X
  have KK := KK1 K
  refine cc_def (names := ["self"]) (args := [.ref E]) fit (fun B hS => ⟨_, hS _ _ (SS_of K.X (is_noclass _).1 (by decide)), (is_noclass _).2⟩) (fun B hS h hk => cr_noclass K.X hS hk) (bind1 (len1 fun a => ba_noclass a) rfl) K.G.lim (by decide +kernel) (by simp) ?_
  intro L hL
  show EXs _ _ _ _ ((L, .frame [("self", .ref E)]) :: cs) _ _
  repeat' (first | walk_at "st" )
  refine ga_slot (by assumption) (so_sub _) (inst_own (.tail _ hm)) rfl (fun _ h => nomatch h) ?_
  repeat' (first | walk_at "st" )
  refine it_list (.tail _ hs) (by omega) (by omega) rfl ?_
  exact ⟨_, _, rfl, rfl, rfl⟩
theorem ga_noclass (K : Ctx w h0 mg mb) (fit : Fit 4 A) {E AL SL XL : Addr} {c : V} {su : List V} (hb : ∀ n, c ≠ .bi n) (hm : (E, MO.inst 517 (sl4 AL SL XL)) ∈ cs) (hs : (SL, MO.lst .list (c :: su)) ∈ cs) (h : PV c cs) : GA (MM w h0) A "noclass" (.ref E) cs PV X :=
  ga_prop (KK1 K) (po_noc _) (inst_own hm) ⟨fun vs B s hst r => codeAny_mono ((noclass_spec K fit.in1 hb hm hs).it vs B s hst r) fun r s' hr => match r, hr with
    | .ok (.ret v), hr => hr.mono fun u c ⟨e1, e2⟩ => ⟨by rw [e1, e2]; exact h, by rw [e1]; exact hb⟩
    | .error e, hr => hr⟩
theorem CL.from {M : Md} {A : Around} {f : Value} {xs : List V} {cs : Cells} {P PV : V → Cells → Prop} {X : Value → Cells → Prop} (h : CL M A f xs cs P NoX) (k : ∀ u c, P u c → PV u c) : CL M A f xs cs PV X := ⟨fun vs => (h.it vs).mono k fun _ _ q => q.elim⟩
theorem ref_nbi (a : Addr) : ∀ n, V.ref a ≠ .bi n := fun _ h => nomatch h
local macro_rules | `(tactic| walk_at "ga") => `(tactic| (show GA _ _ "noclass" (.ref _) _ _ _; refine ga_noclass (by assumption) (by walk_at "fit") (ref_nbi _) (by walk_at "mem") (by walk_at "mem") ?_))
set_option maxHeartbeats 4000000 in
theorem ehandle_spec (K : Ctx w h0 mg mb) (fit : Fit 16 A) {E AL SL XL a : Addr} {da su xd : TL} {T : Cells} {x : Item} {v : Str} {l : List Item} (hT : T.Perm (tall da ((a, x :: (5, .s v) :: l) :: su) xd)) :
    CL (MM w h0) A (.ref 405) [.ref E] (entK E AL SL XL da ((a, x :: (5, .s v) :: l) :: su) xd T) (fun u cs' => cs' = entK E AL SL XL da ((a, x :: (5, .s v) :: l) :: su) xd T ∧ u = .str v) X := by
  have X0 := K.X
  have G := K.G
  have TO := tagsOk K.X
  have KK := KK1 K
  refine CL.viewV (CK.cl (cc_def (names := ["self"]) (args := [.ref E]) fit (fun B hS => ⟨_, hS _ _ (SS_of K.X (is_ehandle _).1 (by decide)), (is_ehandle _).2⟩) (fun B hS h hk => cr_ehandle K.X hS hk) (bind1 (len1 fun a => ba_ehandle a) rfl) K.G.lim (by decide +kernel) (by simp) ?_))
  intro L hL
  have hmT : (a, MO.lst .tags (tagV x :: V.tag (.int 5) (.str v) :: l.map tagV)) ∈ T := hT.mem_iff.mpr (List.mem_append_right _ (List.mem_append_left _ (.head _)))
  show EXs _ _ _ _ ((L, .frame [("self", .ref E)]) :: (E, .inst 517 (sl4 AL SL XL)) :: (AL, .lst .list (refs da)) :: (SL, .lst .list (.ref a :: refs su)) :: (XL, .lst .list (refs xd)) :: T) _ _
  have fit' := fit.deeper (envFn (Stmt.scp f_ehandle) L [] "ExtendedTags.get_handle" 405 (.ref 404))
  have hd0 := fit'.hd
  repeat' (first | walk_at "st" )
  refine ⟨.ref 220, meth_tags_own KK TO (mem5 hmT) (by kernel_rfl) (by kernel_rfl), kp_thandle K.X, ?_⟩
  refine CL.from (thandle_spec K (fit'.le (by decide)) (mem5 hmT)) ?_
  rintro u cs' ⟨rfl, rfl⟩
  exact ⟨_, _, rfl, _, _, .refl, rfl, rfl⟩
end

end
section
open PySem PySem.W PySem.W.X PyProof.Rows
set_option Elab.async false
set_option maxRecDepth 100000
set_option linter.unusedVariables false
set_option linter.unusedSimpArgs false
local macro_rules | `(tactic| walk_at "cl") => `(tactic| (show CL _ _ (.ref 112) [_, _] _ _ _; refine cl_tag (by assumption) (by assumption) ?_))
section
variable {M : Md} {w : World} {h0 : Heap} {A : Around} {mg mb : Str → Option Value} {X : Value → Cells → Prop} {cs cs' fin : Cells} {PV : V → Cells → Prop}
theorem View.picksT1 {x : Addr × MO} {ps l T : Cells} (h : Picks (x :: ps) l T) : View M l (ps ++ T) := (View.perm h.perm).trans View.drop
theorem tall_xd1 (da su xd : TL) (D : Addr) (x : List Item) : ((D, MO.lst .tags (x.map tagV)) :: tall da su xd).Perm (tall da su (xd ++ [(D, x)])) := by
  have e : tall da su (xd ++ [(D, x)]) = tall da su xd ++ [(D, MO.lst .tags (x.map tagV))] := by simp [tall, tcs_snoc]
  rw [e]
  exact (List.perm_append_singleton _ _).symm
theorem tall_da1 (da su xd : TL) (D : Addr) (x : List Item) : ((D, MO.lst .tags (x.map tagV)) :: tall da su xd).Perm (tall (da ++ [(D, x)]) su xd) := by
  have e : tall (da ++ [(D, x)]) su xd = tcs da ++ (D, MO.lst .tags (x.map tagV)) :: (tcs su ++ tcs xd) := by simp [tall, tcs_snoc]
  rw [e]
  exact List.perm_middle.symm
theorem ba_newx (v0 v1 v2 : Value) (h : Heap) (hX : (K1 w.params).In h) : Looks (model PP w) h (bindArgs (bareFn "ExtendedTags.new_xdata" (Stmt.par f_newx) (.ref 470)) ⟨[v0, v1, v2], []⟩) ((["self", "appid", "tags"] : List Str).zip [v0, v1, v2]) :=
  Looks.of_peek hX (by kernel_rfl)
set_option maxHeartbeats 4000000 in
theorem newx_spec (K : Ctx w h0 mg mb) (fit : Fit 12 A) {E AL SL XL : Addr} {da su xd : TL} {T : Cells} {name : Str} {so : List Item} (hT : T.Perm (tall da su xd)) (hso : so.length ≤ 100) (hxl : xd.length ≤ 500) :
    CL (MM w h0) A (.ref 477) [.ref E, .str name, itemsV so] (entK E AL SL XL da su xd T) (fun u cs' => EntIs E AL SL XL ⟨its su, its da, its xd ++ [newXd name so]⟩ cs') X := by
  have X0 := K.X
  have G := K.G
  have TO := tagsOk K.X
  have KK := KK1 K
  have ga := g_Tags K
  have gt := g_DXFTag K
  have gx := g_XD K
  have hrl := refs_len xd
  refine CL.viewV (CK.cl (cc_def (names := ["self", "appid", "tags"]) (args := [.ref E, .str name, itemsV so]) fit (fun B hS => ⟨_, hS _ _ (SS_of K.X (is_newx _).1 (by decide)), (is_newx _).2⟩) (fun B hS h hk => cr_newx K.X hS hk) ?_ K.G.lim (by decide +kernel) (by simp) ?_))
  · intro B vs r hS
    cases r with | cons r1 r
    cases r with | cons r2 r
    cases r with | cons r3 r
    cases r
    exact ⟨[_, _, _], .cons r1 (.cons r2 (.cons r3 .nil)), fun h hk => ba_newx _ _ _ h (K1_in K.X fun a o e => hk _ _ (hS _ _ e))⟩
  intro L hL
  show EXs _ _ _ _ ((L, .frame [("self", .ref E), ("appid", .str name), ("tags", .lst .list (so.map itemV))]) :: _) _ _
  have fit' := fit.deeper (envFn (Stmt.scp f_newx) L [] "ExtendedTags.new_xdata" 477 (.ref 476))
  have hd0 := fit'.hd
  unfold entK entT
  repeat' ((fail_if_success show EXs _ _ _ (.If _ _ _ _ :: _) _ _ _); walk_at "st")
  rename_i T1 _ D hD
  refine ex_cons (ex_if ?_)
  repeat' ((fail_if_success show EXs _ _ _ (.Expr _ _ :: _) _ _ _); walk_at "st")
  refine ex_cons (ex_extend (S := D) (xs := [_]) (ys := so.map tagV) (n := 6) TO (ownExt X0) (fit'.le (by decide)) K.G.lim (Nat.le_refl 6) (eg_t2t K (fit'.le (by decide)) (so := so) (by walk_at "mem")) (by walk_at "mem") (by walk_at "pick") (by simp; omega) ?_)
  repeat' (first | walk_at "st" )
  refine ⟨_, _, rfl, _, entK E AL SL XL da su (xd ++ [(D, newXd name so)]) ((D, .lst .tags ((newXd name so).map tagV)) :: T), .of ?_, .mk _ _ _ _ rfl rfl (its_snoc ..) ?_⟩
  · refine View.picksT1 (T := T) (x := (T1, .lst .list [V.tag (.int 1001) (.str name)])) (ps := [(E, .inst 517 (sl4 AL SL XL)), (AL, .lst .list (refs da)), (SL, .lst .list (refs su)), (XL, .lst .list (refs (xd ++ [(D, newXd name so)]))), (D, .lst .tags ((newXd name so).map tagV))]) ?_
    rw [refs_snoc]
    walk_at "picks"
  · exact (hT.cons _).trans (tall_xd1 ..)
end

end
section
open PySem PySem.W PySem.W.X PyProof.Rows
set_option Elab.async false
set_option maxRecDepth 100000
set_option linter.unusedVariables false
set_option linter.unusedSimpArgs false
local macro_rules | `(tactic| x_close) => `(tactic| exact tags_end (P := True) (by assumption) (by assumption))
section
variable {w : World} {h0 : Heap} {A : Around} {mg mb : Str → Option Value} {X : Value → Cells → Prop} {cs : Cells} {PV : V → Cells → Prop}
set_option maxHeartbeats 8000000 in
theorem tags_run2 {s : Shared} {Q : Value → Shared → Prop} {E : Value → Shared → Prop} (X : (K1 w.params).In s.heap) {l : Addr} {v v2 : Value} {m : Nat} (hl : s.heap.get? l = some ⟨.type "list", none, .seq #[v, v2] m, #[]⟩)
    (hQ : ∀ h' t x d n, (∀ b o, s.heap.get? b = some o → h'.get? b = some o) → h'.get? x = some ⟨.ref 363, some d, .seq #[v, v2] n, #[]⟩ → h'.get? d = some (emptyD 0) → s.heap.get? x = none → s.heap.get? d = none → Q (.ref x) ⟨h', s.gens, s.drawn, t, s.os⟩) :
    wpAny (model PP w) (A0 none) (call (.ref 363) [.ref l]) Q E s := by
  x_run
theorem cl_tags2 (K : Ctx w h0 mg mb) {n : Nat} (fit : Fit n A) {l : Addr} {u u2 : V} (hm : (l, MO.lst .list [u, u2]) ∈ cs) (h : ∀ a, a ∉ cs.ad → PV (.ref a) (ins (a, .lst .tags [u, u2]) cs)) : CL (MM w h0) A (.ref 363) [.ref l] cs PV X := ⟨fun vs B s hs r => by
  cases r with | cons ra r
  cases r with | nil
  cases ra
  obtain ⟨d, ws, m, e, hd, rs⟩ := hs.own _ hm
  cases hd
  cases rs with | cons ru rs
  cases rs with | cons ru2 rs
  cases rs with | nil
  refine at_A0 (by have := fit.dep; omega) (by have := fit.un; omega) ?_
  rw [fit.hd]
  exact tags_run2 (K1_in K.X hs.keepS) e fun h' t x d n hk hx hd hnx hnd => tags_new (vs := [_, _]) hs hk hx hd hnx hnd (.cons ru (.cons ru2 .nil)) (h x)⟩
end

end
section
open PySem PySem.W PySem.W.X PyProof.Rows
set_option Elab.async false
set_option maxRecDepth 100000
set_option linter.unusedVariables false
set_option linter.unusedSimpArgs false
local macro_rules | `(tactic| walk_at "cl") => `(tactic| first | (show CL _ _ (.ref 112) [_, _] _ _ _; refine cl_tag (by assumption) (by assumption) ?_) | (show CL _ _ (.ref 363) [.ref _] _ _ _; refine cl_tags2 (by assumption) (by assumption) (by walk_at "mem") ?_))
local macro_rules | `(tactic| walk_at "ga") => `(tactic| (show GA _ _ "noclass" (.ref _) _ _ _; refine ga_noclass (by assumption) (by walk_at "fit") (ref_nbi _) (by walk_at "mem") (by walk_at "mem") ?_))
section
variable {M : Md} {w : World} {h0 : Heap} {A : Around} {mg mb : Str → Option Value} {X : Value → Cells → Prop} {cs cs' fin : Cells} {PV : V → Cells → Prop}
def partV : Option Str → V
  | none => .none
  | some q => .str q
theorem ba_newapp (v0 v1 v2 v3 : Value) (h : Heap) (hX : (K1 w.params).In h) : Looks (model PP w) h (bindArgs (bareFn "ExtendedTags.new_app_data" (Stmt.par f_newapp) (.ref 506)) ⟨[v0, v1, v2, v3], []⟩) ((["self", "appid", "tags", "subclass_name"] : List Str).zip [v0, v1, v2, v3]) :=
  Looks.of_peek hX (by kernel_rfl)
abbrev XEnt (E AL SL XL : Addr) (p : PM) (cs' : Cells) : Prop := ∃ cs1 r, cs'.Perm (cs1 ++ r) ∧ EntIs E AL SL XL p cs1
theorem refs_turn (a b : TL) (p : Addr × List Item) (l : List Item) : refs (a ++ (p.1, l) :: b) = refs (a ++ p :: b) := by simp [refs]
theorem its_turn (a b : TL) (p : Addr × List Item) (l : List Item) : its (a ++ (p.1, l) :: b) = its a ++ l :: its b := by simp [its]
theorem CL.useFP {f : Value} {xs : List V} {fr T : Cells} {P : V → Cells → Prop} {X0 : Value → Cells → Prop} (h : CL M A f xs T P X0) (k : ∀ x c0, P x c0 → PV x (fr ++ c0)) (kx : ∀ c c0, X0 c c0 → X c (fr ++ c0)) : CL M A f xs (fr ++ T) PV X := ⟨fun vs => by
  have t := (h.it vs).frame (fr := fr) (all := fr ++ T) List.perm_append_comm
  refine Tr.permX (Tr.viewV (Tr.mono t (fun x c ⟨c0, e, h0⟩ => ?_) fun x c q => q)) fun c c' ⟨c0, e, q⟩ => ?_
  · subst e
    exact ⟨x, _, .of (View.perm List.perm_append_comm), k x c0 h0⟩
  · subst e; exact ⟨_, List.perm_append_comm, kx c c0 q⟩⟩
/-- the last part: the place known -/
theorem newapp_end (K : Ctx w h0 mg mb) (fit : Fit 8 A) {L T1 D E AL SL XL : Addr} {m1 : MO} {da su xd : TL} {T : Cells} {name : Str} {so : List Item} {pv : V} {a b : TL} {p : Addr × List Item} (hT : T.Perm (tall da su xd)) (e : su = a ++ p :: b) (hdl : da.length ≤ 500) (hpl : p.2.length ≤ 500) :
    EXs (MM w h0) A (envFn (Stmt.scp f_newapp) L [] "ExtendedTags.new_app_data" 513 (.ref 512)) ((Stmt.bod f_newapp).drop 4)
      ((L, .frame [("self", .ref E), ("appid", .str name), ("tags", .lst .list (so.map itemV)), ("subclass_name", pv), ("app_tags", .ref D), ("subclass", .ref p.1)]) :: (D, .lst .tags ((newApp name so).map tagV)) :: (T1, m1) :: entK E AL SL XL da su xd T)
      (fun fl cs' => ∃ q cs'', cs' = q :: cs'' ∧ ∃ x' c', ViewV (MM w h0) fl.val cs'' x' c' ∧ EntIs E AL SL XL ⟨its (a ++ (p.1, p.2 ++ [(102, .n da.length)]) :: b), its da ++ [newApp name so], its xd⟩ c') X := by
  have X0 := K.X
  have G := K.G
  have TO := tagsOk K.X
  have KK := KK1 K
  have gt := g_DXFTag K
  have gx := g_APP K
  have n1 := n_len K
  have n2 := b_len K
  have hd0 := fit.hd
  have hrl := refs_len da
  obtain ⟨T', hT', hpm⟩ := pick_tcs (T := T) (R := tcs da ++ tcs xd) (d1 := a) (d2 := b) (p := p) (p.2 ++ [(102, .n da.length)]) (by rw [← e]; exact hT.trans tall_su)
  unfold entK entT
  refine EXs.view (View.cons _ (View.perm (Pick.perm (.tail (.tail (.tail (.tail (.tail (.tail hT'))))))))) ?_
  repeat' (first | walk_at "st" )
  refine ⟨_, _, rfl, _, entK E AL SL XL (da ++ [(D, newApp name so)]) (a ++ (p.1, p.2 ++ [(102, .n da.length)]) :: b) xd ((D, .lst .tags ((newApp name so).map tagV)) :: (p.1, .lst .tags ((p.2 ++ [(102, Val.n da.length)]).map tagV)) :: T'), .of ?_, .mk _ _ _ _ (its_snoc ..) rfl rfl ?_⟩
  · refine View.picksT1 (T := T') (x := (T1, m1)) (ps := [(E, .inst 517 (sl4 AL SL XL)), (AL, .lst .list (refs (da ++ [(D, newApp name so)]))), (SL, .lst .list (refs (a ++ (p.1, p.2 ++ [(102, .n da.length)]) :: b))), (XL, .lst .list (refs xd)), (D, .lst .tags ((newApp name so).map tagV)), (p.1, .lst .tags ((p.2 ++ [(102, Val.n da.length)]).map tagV))]) ?_
    have e1 : (p.2 ++ [((102 : Int), Val.n da.length)]).map tagV = p.2.map tagV ++ [V.tag (.int 102) (.int ((refs da).length : Int))] := by
      rw [List.map_append, hrl]; rfl
    rw [e1, refs_snoc, refs_turn, ← e]
    walk_at "picks"
  · exact ((hpm.trans tall_su.symm).cons _).trans (tall_da1 ..)
set_option maxHeartbeats 4000000 in
theorem newapp_spec (K : Ctx w h0 mg mb) (fit : Fit 12 A) {E AL SL XL : Addr} {da su xd : TL} {T : Cells} {name : Str} {so : List Item} {part : Option Str} (hT : T.Perm (tall da su xd)) (hso : so.length ≤ 100) (hdl : da.length ≤ 500) (hsl : su ≠ []) (hh : ∀ p ∈ su, HeadOk p.2) (hpl : ∀ p ∈ su, p.2.length ≤ 500) (hsw : sw name = (s1 name == "{")) (hq : ∀ q, part = some q → q.length ≤ 1000) :
    CL (MM w h0) A (.ref 513) [.ref E, .str name, itemsV so, partV part] (entK E AL SL XL da su xd T) (fun u cs' => ∃ p', ed0 name part so ⟨its su, its da, its xd⟩ = (("" : Str), p') ∧ EntIs E AL SL XL p' cs')
      (fun c cs' => (c = .ref 175 ∧ ed0 name part so ⟨its su, its da, its xd⟩ = (("value" : Str), ⟨its su, its da, its xd⟩) ∨ c = .ref 187 ∧ ed0 name part so ⟨its su, its da, its xd⟩ = (("key" : Str), ⟨its su, its da, its xd⟩)) ∧ XEnt E AL SL XL ⟨its su, its da, its xd⟩ cs') := by
  have X0 := K.X
  have G := K.G
  have TO := tagsOk K.X
  have KK := KK1 K
  have ga := g_Tags K
  have gt := g_DXFTag K
  have gx := g_APP K
  have ge := g_DVE K
  have hil := its_len da
  refine CL.viewV (CK.cl (cc_def (names := ["self", "appid", "tags", "subclass_name"]) (args := [.ref E, .str name, itemsV so, partV part]) fit (fun B hS => ⟨_, hS _ _ (SS_of K.X (is_newapp _).1 (by decide)), (is_newapp _).2⟩) (fun B hS h hk => cr_newapp K.X hS hk) ?_ K.G.lim (by decide +kernel) (by simp) ?_))
  · intro B vs r hS
    cases r with | cons r1 r
    cases r with | cons r2 r
    cases r with | cons r3 r
    cases r with | cons r4 r
    cases r
    exact ⟨[_, _, _, _], .cons r1 (.cons r2 (.cons r3 (.cons r4 .nil))), fun h hk => ba_newapp _ _ _ _ h (K1_in K.X fun a o e => hk _ _ (hS _ _ e))⟩
  intro L hL
  show EXs _ _ _ _ ((L, .frame [("self", .ref E), ("appid", .str name), ("tags", .lst .list (so.map itemV)), ("subclass_name", partV part)]) :: _) _ _
  have fit' := fit.deeper (envFn (Stmt.scp f_newapp) L [] "ExtendedTags.new_app_data" 513 (.ref 512))
  have hd0 := fit'.hd
  unfold entK entT
  refine ex_cons (ex_if (it_not (it_plain ?_)))
  repeat' (first | walk_at "st" )
  rw [show (decide (0 + ("{" : Str).length ≤ name.length) && Builtin.Str.subAt name "{" 0) = sw name from rfl, hsw]
  cases hb : (s1 name == ("{" : Str)) with
  | false =>
    refine iteT ?_
    have hne : s1 name ≠ "{" := by simpa using hb
    refine ex_cons (ex_raise ?_)
    repeat' (first | walk_at "st" )
    refine tr_newexc (xo_dve K) (by simp) fun ea hea => ?_
    exact ⟨175, ea, _, rfl, ck_dve K, by walk_at "pick", .none hd0, _, _, rfl, .inl ⟨rfl, by unfold ed0; rw [if_neg hne]⟩, entK E AL SL XL da su xd T, [], by rw [List.append_nil]; exact .refl _, .mk _ _ _ _ rfl rfl rfl hT⟩
  | true =>
    refine iteF ?_
    have heq : s1 name = "{" := by simpa using hb
    repeat' ((fail_if_success show EXs _ _ _ (.If _ _ _ _ :: _) _ _ _); walk_at "st")
    rename_i T1 _ D hD
    refine ex_cons (ex_if ?_)
    repeat' ((fail_if_success show EXs _ _ _ (.Assign _ _ _ :: _) _ _ _); walk_at "st")
    refine ex_cons (ex_setslice (st := 1) (sp := 1) (l := some 1) (u := some 1) (S := D) (xs := [_, _]) (ys := so.map tagV) (n := 6) TO (ownSet X0) (fit'.le (by decide)) K.G.lim (Nat.le_refl 6) (eg_t2t K (fit'.le (by decide)) (so := so) (by walk_at "mem")) (by walk_at "mem") (by walk_at "pick") (eo_some (ev_int ⟨_, rfl, rfl, rfl⟩)) (eo_some (ev_int ⟨_, rfl, rfl, rfl⟩)) (sb_11 (by simp)) (by simp; omega) ?_)
    refine ex_nil ?_
    have hit : ([V.tag (.int 102) (.str name), V.tag (.int 102) (.str "}")] : List V).take (1 : Int).toNat ++ so.map tagV ++ ([V.tag (.int 102) (.str name), V.tag (.int 102) (.str "}")] : List V).drop (max (1 : Int) 1).toNat = (newApp name so).map tagV := by
      simp [newApp, tagV, Val.v]
    rw [hit]
    refine ex_cons (ex_if ?_)
    cases part with
    | none =>
      obtain ⟨c, su, rfl⟩ : ∃ c r, su = c :: r := by cases su with | nil => exact absurd rfl hsl | cons c r => exact ⟨c, r, rfl⟩
      show IT _ _ _ _ (_ :: _ :: _ :: _ :: _ :: (SL, .lst .list (.ref c.1 :: refs su)) :: _) _ _
      repeat' (first | (show EXs _ _ _ [.Assign [.Name "subclass" _] _ _] _ _ _; refine ex_cons ?_) | (fail_if_success show EXs _ _ _ (.Assign [.Name "app_data_pos" _] _ _ :: _) _ _ _); walk_at "st")
      refine (newapp_end (a := []) (b := su) (p := c) (da := da) (su := c :: su) (xd := xd) (T := T) (so := so) (name := name) (pv := .none) K (fit'.le (by decide)) hT rfl hdl (hpl c (.head _))).mono ?_ (fun _ _ q => q)
      rintro fl cs' ⟨q, cs'', rfl, x', c', hv, hE⟩
      refine ⟨q, cs'', rfl, x', c', hv, _, ?_, hE⟩
      unfold ed0
      rw [if_pos heq]
      show (("" : Str), PM.mk ((c.2 ++ [(102, .n (its da).length)]) :: its su) (its da ++ [newApp name so]) (its xd)) = _
      rw [hil]
      rfl
    | some q =>
      repeat' (first | (show EXs _ _ _ [.Assign [.Name "subclass" _] _ _] _ _ _; refine ex_cons ?_) | (fail_if_success show EXs _ _ _ (.Assign [.Name "app_data_pos" _] _ _ :: _) _ _ _); walk_at "st")
      refine ⟨.ref 441, meth_inst KK (inst_own (by walk_at "mem")) (by kernel_rfl) (by kernel_rfl) (by kernel_rfl) (by kernel_rfl), kp_getsub K.X, ?_⟩
      repeat' (first | walk_at "st" )
      refine CL.useFP (fr := [_, _, _]) (T := entK E AL SL XL da su xd T) (getsub_spec (da := da) (su := su) (xd := xd) K (fit'.le (by decide)) hT hh (hq q rfl)) ?_ ?_
      · rintro x c0 ⟨rfl, a, p, b, e, hane, hna, hp, rfl⟩
        refine ⟨_, _, _, rfl, by walk_at "loc", ?_⟩
        refine ex_nil ?_
        refine (newapp_end (a := a) (b := b) (p := p) (da := da) (su := su) (xd := xd) (T := T) (so := so) (name := name) (pv := .str q) K (fit'.le (by decide)) hT e hdl (hpl p (by rw [e]; simp))).mono ?_ (fun _ _ q => q)
        rintro fl cs' ⟨q', cs'', rfl, x', c', hv, hE⟩
        refine ⟨q', cs'', rfl, x', c', hv, _, ?_, hE⟩
        obtain ⟨c, a, rfl⟩ : ∃ c r, a = c :: r := by cases a with | nil => exact absurd rfl hane | cons c r => exact ⟨c, r, rfl⟩
        subst e
        unfold ed0
        rw [if_pos heq]
        have hu : upd1 q (· ++ [((102 : Int), Val.n (its da).length)]) (its (a ++ p :: b)) = some (its (a ++ (p.1, p.2 ++ [(102, .n da.length)]) :: b)) := by
          rw [its_app, its_turn, hil]
          exact upd1_hit (b := its b) hp (fun z hz => by obtain ⟨r, hr, rfl⟩ := List.mem_map.mp hz; exact hna r hr)
        show (match upd1 q (· ++ [((102 : Int), Val.n (its da).length)]) (its (a ++ p :: b)) with
          | some r' => (("" : Str), PM.mk (c.2 :: r') (its da ++ [newApp name so]) (its xd))
          | none => (("key" : Str), PM.mk _ _ _)) = _
        rw [hu]
        rfl
      · rintro c c0 ⟨rfl, rfl, hna⟩
        obtain ⟨c, su, rfl⟩ : ∃ c r, su = c :: r := by cases su with | nil => exact absurd rfl hsl | cons c r => exact ⟨c, r, rfl⟩
        refine ⟨_, _, rfl, .inr ⟨rfl, ?_⟩, entK E AL SL XL da (c :: su) xd T, _, (List.perm_append_comm (l₁ := [_, _])), .mk _ _ _ _ rfl rfl rfl hT⟩
        unfold ed0
        rw [if_pos heq]
        have hu : upd1 q (· ++ [((102 : Int), Val.n (its da).length)]) (its su) = none := upd1_none (fun z hz => by obtain ⟨r, hr, rfl⟩ := List.mem_map.mp hz; exact hna r hr)
        show (match upd1 q (· ++ [((102 : Int), Val.n (its da).length)]) (its su) with
          | some r' => (("" : Str), PM.mk (c.2 :: r') (its da ++ [newApp name so]) (its xd))
          | none => (("key" : Str), PM.mk _ _ _)) = _
        rw [hu]
end

end
section
open PySem PySem.W PySem.W.X PyProof.Rows
set_option Elab.async false
set_option maxRecDepth 100000
set_option linter.unusedVariables false
set_option linter.unusedSimpArgs false
local macro_rules | `(tactic| walk_at "cl") => `(tactic| first | (show CL _ _ (.ref 112) [_, _] _ _ _; refine cl_tag (by assumption) (by assumption) ?_) | (show CL _ _ (.type "enumerate") [.ref _] _ _ _; refine cl_enum_t (by assumption) (.tail _ (by assumption)) ?_))
local macro_rules | `(tactic| walk_at "ga") => `(tactic| (show GA _ _ "noclass" (.ref _) _ _ _; refine ga_noclass (by assumption) (by walk_at "fit") (ref_nbi _) (by walk_at "mem") (by walk_at "mem") ?_))
section
variable {M : Md} {w : World} {h0 : Heap} {A : Around} {mg mb : Str → Option Value} {X : Value → Cells → Prop} {cs cs' fin : Cells} {PV : V → Cells → Prop} {PF : Fl → Cells → Prop} {env : Env}
theorem ex_return0 {pos : Pos} (h : PF (.ret .none) cs) : EX M A env (.Return none pos) cs PF X := ⟨fun B s hs _ => wpAny_bind (wpAny_standAt (wpAny_pure ⟨B, cs, .ret .none, hs, .refl .., .ret .none, h⟩))⟩
local macro_rules | `(tactic| walk_at "ex") => `(tactic| refine ex_return0 ?_)
set_option maxHeartbeats 4000000 in
theorem trep_spec (K : Ctx w h0 mg mb) (fit : Fit 8 A) {a : Addr} {c0 v v0 : Str} {l : List Item} {R R' : Cells} (hl : l.length ≤ 1000) (U : Upd a (.lst .tags (V.tag (.int 0) (.str v0) :: V.tag (.int 5) (.str v) :: l.map tagV)) (.lst .tags (V.tag (.int 0) (.str v0) :: V.tag (.int 5) (.str c0) :: l.map tagV)) R R') :
    CL (MM w h0) A (.ref 227) [.ref a, .str c0] R (fun u cs' => u = .none ∧ cs' = R') X := by
  have X0 := K.X
  have G := K.G
  have TO := tagsOk K.X
  have KK := KK1 K
  have gt := g_DXFTag K
  have e1 := n_enum K
  have e2 := b_enum K
  have hm := U.mem
  refine CL.viewV (CK.cl (cc_def (names := ["self", "new_handle"]) (args := [.ref a, .str c0]) fit (fun B hS => ⟨_, hS _ _ (SS_of K.X (is_trep _).1 (by decide)), (is_trep _).2⟩) (fun B hS h hk => cr_trep K.X hS hk) (bind1 (len2 fun a b => ba_trep a b) rfl) K.G.lim (by decide +kernel) (by simp) ?_))
  intro L hL
  show EXs _ _ _ _ ((L, .frame [("self", .ref a), ("new_handle", .str c0)]) :: R) _ _
  have fit' := fit.deeper (envFn (Stmt.scp f_trep) L [] "Tags.replace_handle" 227 (.ref 226))
  have hd0 := fit'.hd
  refine ex_cons ?_
  refine ex_for_enum_t (k := .tags) hd0 (fun rem cs' => (rem = enumV 0 (V.tag (.int 0) (.str v0) :: V.tag (.int 5) (.str v) :: l.map tagV) ∨ rem = enumV 1 (V.tag (.int 5) (.str v) :: l.map tagV)) ∧ cs' = (L, .frame [("self", .ref a), ("new_handle", .str c0)]) :: R) ?_
  repeat' (first | walk_at "st" )
  intro e it
  refine ⟨e, it, a, _, _, rfl, List.perm_append_comm (l₁ := [(e, MO.p (enumP it 0)), (it, MO.p (liP a 0))]), ⟨.inl rfl, rfl⟩, ?_, ?_, ?_⟩
  · rintro rem cs' ⟨h, rfl⟩
    refine ⟨.tail _ hm, ?_⟩
    rcases h with rfl | rfl
    · exact ⟨[], rfl⟩
    · exact ⟨[_], rfl⟩
  · rintro u rem cs' ⟨h, rfl⟩
    rcases h with h | h
    · obtain ⟨rfl, rfl⟩ := List.cons.inj h
      repeat' ((fail_if_success show EXs _ _ _ _ _ _ _); walk_at "st")
      show EXs _ _ _ _ ((L, .frame [("self", .ref a), ("new_handle", .str c0), ("index", .int 0), ("tag", V.tag (.int 0) (.str v0))]) :: _) _ _
      repeat' (first | walk_at "st" )
      refine op_in_tup (.fz rfl) rfl (by decide +kernel) (by decide +kernel) (by have := fit'.un; omega) ?_
      refine ⟨false, by rfl, ?_⟩
      repeat' (first | walk_at "st" )
      exact ⟨_, View.loc (by walk_at "sub"), .inr rfl, rfl⟩
    · obtain ⟨rfl, rfl⟩ := List.cons.inj h
      repeat' ((fail_if_success show EXs _ _ _ _ _ _ _); walk_at "st")
      show EXs _ _ _ _ ((L, .frame [("self", .ref a), ("new_handle", .str c0), ("index", .int 1), ("tag", V.tag (.int 5) (.str v))]) :: _) _ _
      repeat' (first | walk_at "st" )
      refine op_in_tup (.fz rfl) rfl (by decide +kernel) (by decide +kernel) (by have := fit'.un; omega) ?_
      refine ⟨true, by rfl, ?_⟩
      repeat' (first | walk_at "st" )
      refine tr_setItem_t TO (ownSet X0) (.tail U) (by decide) (by simp; omega) (by simp; omega) ?_
      repeat' (first | walk_at "st" )
      exact ⟨_, _, rfl, _, _, .refl, rfl, rfl⟩
  · rintro cs' ⟨h, rfl⟩
    rcases h with h | h <;> cases h
end

end
section
open PySem PySem.W PySem.W.X PyProof.Rows
set_option Elab.async false
set_option maxRecDepth 100000
set_option linter.unusedVariables false
set_option linter.unusedSimpArgs false
local macro_rules | `(tactic| walk_at "ga") => `(tactic| (show GA _ _ "noclass" (.ref _) _ _ _; refine ga_noclass (by assumption) (by walk_at "fit") (ref_nbi _) (by walk_at "mem") (by walk_at "mem") ?_))
/-- plain lists as the law keeps them -/
structure WM (p : PM) : Prop where
  base : ∃ v0 v l r, p.su = ((0, .s v0) :: (5, .s v) :: l) :: r
  hs : ∀ l ∈ p.su, HeadOk l ∧ l.length ≤ 400
  hd : ∀ l ∈ p.da, HeadOk l ∧ 2 ≤ l.length ∧ l.length ≤ 400
  hx : ∀ l ∈ p.xd, HeadOk l ∧ 1 ≤ l.length ∧ l.length ≤ 400
  ld : p.da.length ≤ 90
  lx : p.xd.length ≤ 90
theorem mem_its {l : TL} {p : Addr × List Item} (h : p ∈ l) : p.2 ∈ its l := List.mem_map_of_mem (f := Prod.snd) h
section
variable {M : Md} {w : World} {h0 : Heap} {A : Around} {mg mb : Str → Option Value} {X : Value → Cells → Prop} {cs cs' fin : Cells} {PV : V → Cells → Prop} {PF : Fl → Cells → Prop} {env : Env}
set_option maxHeartbeats 4000000 in
theorem erep_spec (K : Ctx w h0 mg mb) (fit : Fit 13 A) {E AL SL XL a : Addr} {da su xd : TL} {T : Cells} {name v v0 : Str} {l : List Item} (hl : l.length ≤ 500) (hT : T.Perm (tall da ((a, (0, .s v0) :: (5, .s v) :: l) :: su) xd)) :
    CL (MM w h0) A (.ref 419) [.ref E, .str name] (entK E AL SL XL da ((a, (0, .s v0) :: (5, .s v) :: l) :: su) xd T) (fun u cs' => u = .none ∧ EntIs E AL SL XL ⟨((0, .s v0) :: (5, .s name) :: l) :: its su, its da, its xd⟩ cs') X := by
  have X0 := K.X
  have G := K.G
  have TO := tagsOk K.X
  have KK := KK1 K
  refine CL.viewV (CK.cl (cc_def (names := ["self", "handle"]) (args := [.ref E, .str name]) fit (fun B hS => ⟨_, hS _ _ (SS_of K.X (is_erep _).1 (by decide)), (is_erep _).2⟩) (fun B hS h hk => cr_erep K.X hS hk) (bind1 (len2 fun a b => ba_erep a b) rfl) K.G.lim (by decide +kernel) (by simp) ?_))
  intro L hL
  obtain ⟨T', hT', hpm⟩ := pick_tcs (T := T) (R := tcs da ++ tcs xd) (d1 := []) (d2 := su) (p := (a, (0, .s v0) :: (5, .s v) :: l)) ((0, .s v0) :: (5, .s name) :: l) (hT.trans tall_su)
  show EXs _ _ _ _ ((L, .frame [("self", .ref E), ("handle", .str name)]) :: (E, .inst 517 (sl4 AL SL XL)) :: (AL, .lst .list (refs da)) :: (SL, .lst .list (.ref a :: refs su)) :: (XL, .lst .list (refs xd)) :: T) _ _
  have fit' := fit.deeper (envFn (Stmt.scp f_erep) L [] "ExtendedTags.replace_handle" 419 (.ref 418))
  have hd0 := fit'.hd
  refine EXs.view (View.cons _ (View.perm (Pick.perm (.tail (.tail (.tail (.tail hT'))))))) ?_
  repeat' (first | walk_at "st" )
  refine ⟨.ref 227, meth_tags_own KK TO (.tail _ (.head _)) (by kernel_rfl) (by kernel_rfl), kp_trep K.X, ?_⟩
  repeat' (first | walk_at "st" )
  refine CL.from (trep_spec (v0 := v0) (v := v) (c0 := name) (l := l) K (fit'.le (by decide)) (by omega) (.tail .head)) ?_
  rintro u cs' ⟨rfl, rfl⟩
  refine ex_nil ⟨_, _, rfl, _, entK E AL SL XL da ((a, (0, .s v0) :: (5, .s name) :: l) :: su) xd ((a, .lst .tags (((0, Val.s v0) :: (5, .s name) :: l : List Item).map tagV)) :: T'), .of (View.perm ?_), rfl, .mk _ _ _ _ rfl rfl rfl (hpm.trans tall_su.symm)⟩
  exact (List.perm_middle (l₁ := [_, _, _, _])).symm
set_option maxHeartbeats 4000000 in
theorem done_spec (K : Ctx w h0 mg mb) (fit : Fit 16 A) {E AL SL XL : Addr} {da su xd : TL} {T : Cells} {k : Nat} {name : Str} {part : Option Str} {so : List Item} (hk : k ≤ 4) (hT : T.Perm (tall da su xd)) (W : WM ⟨its su, its da, its xd⟩) (hso : so.length ≤ 100) (hn : name.length ≤ 1000) (hsw : sw name = (s1 name == "{")) (hq : ∀ q, part = some q → q.length ≤ 1000) :
    CL (MM w h0) A (.ref 573) [.ref E, .int k, .str name, partV part, itemsV so] (entK E AL SL XL da su xd T) (fun u cs' => u = .str (edit k name part so ⟨its su, its da, its xd⟩).1 ∧ EntIs E AL SL XL (edit k name part so ⟨its su, its da, its xd⟩).2 cs') X := by
  have X0 := K.X
  have G := K.G
  have TO := tagsOk K.X
  have KK := KK1 K
  have g3 := g_DKE K
  have g4 := g_DVE K
  have hsn : su ≠ [] := by obtain ⟨v0, v, l, r, e⟩ := W.base; intro q; rw [q] at e; cases e
  have hdl : da.length ≤ 500 := by have := W.ld; rw [its_len] at this; omega
  have hxl : xd.length ≤ 500 := by have := W.lx; rw [its_len] at this; omega
  refine CL.viewV (CK.cl (cc_def (names := ["entity", "kind", "name", "part", "some"]) (args := [.ref E, .int k, .str name, partV part, itemsV so]) fit (fun B hS => ⟨_, hS _ _ (SS_of K.X (is_done _).1 (by decide)), (is_done _).2⟩) (fun B hS h hk => cr_done K.X hS hk) (bind1 (fun vs h => by
    match vs, h with
    | [a, b, c, d, e], _ => exact ba_done a b c d e) rfl) K.G.lim (by decide +kernel) (by simp) ?_))
  intro L hL
  show EXs _ _ _ _ ((L, .frame [("entity", .ref E), ("kind", .int k), ("name", .str name), ("part", partV part), ("some", itemsV so)]) :: _) _ _
  have fit' := fit.deeper (envFn (Stmt.scp f_done) L [] "_law_done" 573 (.ref 572))
  have hd0 := fit'.hd
  refine ex_cons (ex_try (on_deeper rfl) ?_)
  obtain h | h | h | h | h : k = 0 ∨ k = 1 ∨ k = 2 ∨ k = 3 ∨ k = 4 := by omega
  · subst h
    unfold entK entT
    repeat' (first | walk_at "st" )
    refine ⟨.ref 513, meth_inst KK (inst_own (by walk_at "mem")) (by kernel_rfl) (by kernel_rfl) (by kernel_rfl) (by kernel_rfl), kp_newapp K.X, ?_⟩
    repeat' (first | walk_at "st" )
    refine CL.use1P (newapp_spec (da := da) (su := su) (xd := xd) (name := name) (so := so) (part := part) K (fit'.le (by decide)) hT hso hdl hsn (fun p hp => (W.hs _ (mem_its hp)).1) (fun p hp => by have := (W.hs _ (mem_its hp)).2; omega) hsw hq) ?_ ?_
    · rintro x c0 ⟨p', he, hE⟩
      repeat' (first | walk_at "st" )
      exact ⟨_, _, rfl, _, _, .refl, by show V.str _ = .str (ed0 _ _ _ _).1; rw [he], by show EntIs _ _ _ _ (ed0 _ _ _ _).2 _; rw [he]; exact hE⟩
    · rintro c c0 ⟨hc, cs1, r, hpm, hE⟩
      rcases hc with ⟨rfl, he⟩ | ⟨rfl, he⟩
      · refine hb_skip (name_global G g3) (mt_dve_dke K) (hb_take (name_global G g4) (mt_dve K) fun ea => ?_)
        repeat' (first | walk_at "st" )
        exact ⟨_, _, rfl, _, _, .of ((View.perm hpm).trans View.left), by show V.str _ = .str (ed0 _ _ _ _).1; rw [he], by show EntIs _ _ _ _ (ed0 _ _ _ _).2 _; rw [he]; exact hE⟩
      · refine hb_take (name_global G g3) (mt_dke K) fun ea => ?_
        repeat' (first | walk_at "st" )
        exact ⟨_, _, rfl, _, _, .of ((View.perm hpm).trans View.left), by show V.str _ = .str (ed0 _ _ _ _).1; rw [he], by show EntIs _ _ _ _ (ed0 _ _ _ _).2 _; rw [he]; exact hE⟩
  · subst h
    unfold entK entT
    repeat' (first | walk_at "st" )
    refine ⟨.ref 505, meth_inst KK (inst_own (by walk_at "mem")) (by kernel_rfl) (by kernel_rfl) (by kernel_rfl) (by kernel_rfl), kp_setapp K.X, ?_⟩
    repeat' (first | walk_at "st" )
    refine CL.use1P (setapp_spec (da := da) (su := su) (xd := xd) (name := name) (so := so) K (fit'.le (by decide)) hT (fun p hp => (W.hd _ (mem_its hp)).1) hn hso (fun p hp => by have := (W.hd _ (mem_its hp)).2; omega)) ?_ ?_
    · rintro x c0 ⟨_, d, he, hE⟩
      repeat' (first | walk_at "st" )
      exact ⟨_, _, rfl, _, _, .refl, by show V.str _ = .str (ed1 _ _ _).1; unfold ed1; rw [he], by show EntIs _ _ _ _ (ed1 _ _ _).2 _; unfold ed1; rw [he]; exact hE⟩
    · rintro c c0 ⟨rfl, he, hE⟩
      refine hb_skip (name_global G g3) (mt_dve_dke K) (hb_take (name_global G g4) (mt_dve K) fun ea => ?_)
      repeat' (first | walk_at "st" )
      exact ⟨_, _, rfl, _, _, .refl, by show V.str _ = .str (ed1 _ _ _).1; unfold ed1; rw [he], by show EntIs _ _ _ _ (ed1 _ _ _).2 _; unfold ed1; rw [he]; exact hE⟩
  · subst h
    unfold entK entT
    repeat' (first | walk_at "st" )
    refine ⟨.ref 477, meth_inst KK (inst_own (by walk_at "mem")) (by kernel_rfl) (by kernel_rfl) (by kernel_rfl) (by kernel_rfl), kp_newx K.X, ?_⟩
    repeat' (first | walk_at "st" )
    refine CL.use1P (X0 := NoX) (newx_spec (da := da) (su := su) (xd := xd) (name := name) (so := so) K (fit'.le (by decide)) hT hso hxl) ?_ (fun _ _ q => q.elim)
    rintro x c0 hE
    repeat' (first | walk_at "st" )
    exact ⟨_, _, rfl, _, _, .refl, rfl, hE⟩
  · subst h
    unfold entK entT
    repeat' (first | walk_at "st" )
    refine ⟨.ref 469, meth_inst KK (inst_own (by walk_at "mem")) (by kernel_rfl) (by kernel_rfl) (by kernel_rfl) (by kernel_rfl), kp_setx K.X, ?_⟩
    repeat' (first | walk_at "st" )
    refine CL.use1P (setx_spec (da := da) (su := su) (xd := xd) (name := name) (so := so) K (fit'.le (by decide)) hT (fun p hp => (W.hx _ (mem_its hp)).1) hn hso (fun p hp => by have := (W.hx _ (mem_its hp)).2; omega)) ?_ ?_
    · rintro x c0 ⟨_, d, he, hE⟩
      repeat' (first | walk_at "st" )
      exact ⟨_, _, rfl, _, _, .refl, by show V.str _ = .str (ed3 _ _ _).1; unfold ed3; rw [he], by show EntIs _ _ _ _ (ed3 _ _ _).2 _; unfold ed3; rw [he]; exact hE⟩
    · rintro c c0 ⟨rfl, he, hE⟩
      refine hb_skip (name_global G g3) (mt_dve_dke K) (hb_take (name_global G g4) (mt_dve K) fun ea => ?_)
      repeat' (first | walk_at "st" )
      exact ⟨_, _, rfl, _, _, .refl, by show V.str _ = .str (ed3 _ _ _).1; unfold ed3; rw [he], by show EntIs _ _ _ _ (ed3 _ _ _).2 _; unfold ed3; rw [he]; exact hE⟩
  · subst h
    obtain ⟨v0, v, l, r, e⟩ := W.base
    obtain ⟨⟨a, l0⟩, su, rfl⟩ : ∃ c r, su = c :: r := by cases su with | nil => exact absurd rfl hsn | cons c r => exact ⟨c, r, rfl⟩
    have el : l0 = (0, .s v0) :: (5, .s v) :: l := (List.cons.inj e).1
    subst el
    have hll := (W.hs _ (.head _)).2
    simp only [List.length_cons] at hll
    unfold entK entT
    repeat' (first | walk_at "st" )
    refine ⟨.ref 419, meth_inst KK (inst_own (by walk_at "mem")) (by kernel_rfl) (by kernel_rfl) (by kernel_rfl) (by kernel_rfl), kp_erep K.X, ?_⟩
    repeat' (first | walk_at "st" )
    refine CL.use1P (X0 := NoX) (erep_spec (da := da) (su := su) (xd := xd) (name := name) (v0 := v0) (v := v) (l := l) (a := a) K (fit'.le (by decide)) (by omega) hT) ?_ (fun _ _ q => q.elim)
    rintro x c0 ⟨_, hE⟩
    repeat' (first | walk_at "st" )
    exact ⟨_, _, rfl, _, _, .refl, rfl, hE⟩
end

end
section
open PySem PySem.W PySem.W.X PyProof.Rows
set_option Elab.async false
set_option maxRecDepth 100000
set_option linter.unusedVariables false
set_option linter.unusedSimpArgs false
local macro_rules | `(tactic| walk_at "name") => `(tactic| refine ev_cell (by rfl) (by walk_at "mem") ?_)
local macro_rules | `(tactic| walk_at "ev") => `(tactic| (show EV _ _ _ (.List _ _) _ _ _; refine ev_list_fz ?_))
def menuS : List Row := [(8, "L1"), (40, "2.5"), (70, "1"), (330, "A0"), (1, "text")]
def menuM : List Row := [(1000, "text"), (1070, "7"), (1040, "1.5"), (1002, "{"), (1002, "}")]
abbrev cC (c : Addr) (ns : List Int) (i v : Int) : Addr × MO := (c, .lst .list [.lst .list (ns.map .int), .int i, .int v])
/-- the law's own draw, after no more than N steps -/
inductive CIs (c : Addr) (ns : List Int) (N : Int) : Cells → Prop
  | mk (i v : Int) : 0 ≤ i → i ≤ N → 0 ≤ v → v < 999983 → CIs c ns N [cC c ns i v]
abbrev clC (a b : Addr) : List (Str × Addr) := [("menu", b), ("c", a)]
def cvC (c : Addr) : Str → Option V := fun x => if x = "c" then some (.ref c) else none
section
variable {M : Md} {w : World} {h0 : Heap} {A : Around} {mg mb : Str → Option Value} {X : Value → Cells → Prop} {cs cs' fin : Cells} {PV : V → Cells → Prop} {PF : Fl → Cells → Prop} {env : Env}
theorem bc_some (v1 : Value) : bindC (fun x => (Stmt.scp f_some).names.lookup x) ((["c"] : List Str).zip [v1]) (fun _ => none) "c" = some v1 ∧ bindC (fun x => (Stmt.scp f_some).names.lookup x) ((["c"] : List Str).zip [v1]) (fun _ => none) "menu" = none := ⟨by kernel_rfl, by kernel_rfl⟩
set_option maxHeartbeats 4000000 in
theorem some_spec (K : Ctx w h0 mg mb) (fit : Fit 4 A) {c : Addr} {ns : List Int} {i v : Int} (hi : 0 ≤ i) (hi' : i ≤ 5000) (hv : 0 ≤ v) (hv' : v < 999983) (hns : ns.length ≤ 63) :
    CL (MM w h0) A (.ref 540) [.ref c] [cC c ns i v] (fun u cs => ∃ so : List Row, so.length ≤ 3 ∧ (∀ r ∈ so, r ∈ menuS) ∧ u = rowsV so ∧ CIs c ns (i + 4) cs) X := by
  have X0 := K.X
  have G := K.G
  have TO := tagsOk K.X
  have h1 := n_range K
  have h2 := b_range K
  have h3 := g_take K
  refine CL.viewV (CK.cl (cc_defC (loc := []) (cn := ["menu", "c"]) (cv := cvC c) (names := ["c"]) fit (fun B hS => ⟨_, hS _ _ (SS_of K.X (is_some _).1 (by decide)), (is_some _).2⟩) (fun B hS h hk => cr_some K.X hS hk) ?_ K.G.lim (by decide +kernel) ?_ (by decide +kernel) (by decide +kernel) ?_))
  · intro B vs r hS
    cases r with | cons r1 r
    cases r
    refine ⟨[_], fun h hk => Looks.of_pure (ba_some _), fun kindOf hkd => ⟨(fun p hp => by cases hp), fun n hn => ?_⟩⟩
    have hkk : kindOf = fun x => (Stmt.scp f_some).names.lookup x := funext hkd
    subst hkk
    simp only [List.mem_cons, List.not_mem_nil, or_false] at hn
    rcases hn with rfl | rfl
    · rw [(bc_some _).2]
      exact trivial
    · rw [(bc_some _).1]
      exact r1
  · intro k
    kernel_rfl
  intro L cl hcl hL
  obtain ⟨a, b, rfl⟩ : ∃ a b, cl = clC a b := by
    match cl, hcl with
    | [(_, b), (_, a)], h =>
      simp only [List.map_cons, List.map_nil, List.cons.injEq, and_true] at h
      obtain ⟨rfl, rfl⟩ := h
      exact ⟨a, b, rfl⟩
  have hcc : cellsOf (clC a b) (cvC c) = [(b, MO.cell none), (a, MO.cell (some (.ref c)))] := by
    unfold cellsOf cvC
    simp only [List.map_cons, List.map_nil]
    rfl
  rw [hcc]
  have fit' := fit.deeper (envFn (Stmt.scp f_some) L (clC a b) "_law_some" 540 (.ref 539))
  have hd0 := fit'.hd
  simp only [List.cons_append, List.nil_append]
  refine ex_cons (ex_assign_n ?_)
  repeat' ((fail_if_success show AN _ _ _ _ _ _ _ _); walk_at "st")
  refine an_cell (by rfl) (by walk_at "upd") ?_
  refine ex_cons (ex_return ?_)
  refine EV.viewV (ev_comprange hd0 (fun rem done cs' => ∃ (so : List Row) (i2 v2 : Int), done = so.map rowV ∧ so.length + rem.length ≤ 3 ∧ (∀ r ∈ so, r ∈ menuS) ∧ 0 ≤ i2 ∧ i2 + rem.length ≤ i + 4 ∧ 0 ≤ v2 ∧ v2 < 999983 ∧ cs' = [(L, .frame []), cC c ns i2 v2, (b, .cell (some (.lst .list (menuS.map rowV)))), (a, .cell (some (.ref c)))]) (cl := clC a b) (by kernel_rfl) ?_)
  repeat' (first | walk_at "st" )
  show CL _ _ (.ref 530) [.ref c, .int 4] _ _ _
  refine CL.use (take_spec K (fit'.le (by decide)) c ns i v 4 (by omega) (by omega) (by omega) (by omega) (by omega) (by omega) hns) (by walk_at "picks") ?_
  rintro x c0 ⟨d, i', v', rfl, h4, h5, h6, h7, h8, h9, rfl⟩
  obtain ⟨n, rfl⟩ := Int.eq_ofNat_of_zero_le h4
  repeat' (first | walk_at "st")
  refine tr_range fun r t u v2 hr => ?_
  refine ⟨n, r, t, u, v2, _, rfl, by omega, ins_perm _ _, ⟨[], i', v', rfl, by rw [upto_length]; simp; omega, (fun _ h => by cases h), h6, by rw [upto_length]; omega, h8, h9, rfl⟩, ?_, ?_, ?_⟩
  · rintro rem done cs' ⟨so, i2, v2, rfl, g1, g2, g3, g4, g5, g6, rfl⟩
    simp
    omega
  · rintro C u rem done cs' ⟨so, i2, v2, rfl, g1, g2, g3, g4, g5, g6, rfl⟩
    simp only [List.length_cons] at g1 g4
    refine as_name (by walk_at "loc") ?_
    repeat' (first | walk_at "st")
    show CL _ _ (.ref 530) [.ref c, .int 5] _ _ _
    refine CL.use (take_spec K (fit'.le (by decide)) c ns i2 v2 5 (by omega) (by omega) (by omega) (by omega) (by omega) (by omega) hns) (by walk_at "picks") ?_
    rintro x c0 ⟨d, i3, v3, rfl, k1, k2, k3, k4, k5, k6, rfl⟩
    obtain ⟨j, rfl⟩ := Int.eq_ofNat_of_zero_le k1
    obtain ⟨r, hr⟩ : ∃ r, menuS[j]? = some r := ⟨menuS[j]'(by simp [menuS]; omega), by simp⟩
    refine it_lst (by omega) (by omega) (u := rowV r) (by simp [hr]) ?_
    refine ⟨_, _, (View.loc (loc' := []) (by walk_at "sub")).trans (View.picks (c' := (C, .frame []) :: [(L, .frame []), cC c ns i3 v3, (b, .cell (some (.lst .list (menuS.map rowV)))), (a, .cell (some (.ref c)))]) (r := []) ?_), so ++ [r], i3, v3, by simp, by simp; omega, ?_, k3, by omega, k5, k6, rfl⟩
    · walk_at "picks"
    · intro q hq
      rcases List.mem_append.mp hq with hq | hq
      · exact g2 q hq
      · rw [List.mem_singleton.mp hq]; exact List.mem_of_getElem? hr
  · rintro done cs' ⟨so, i2, v2, rfl, g1, g2, g3, g4, g5, g6, rfl⟩ D
    simp only [List.length_nil] at g1 g4
    refine ⟨.lst .list (so.map rowV), _, .fzF, _, _, rfl, _, _, .of (View.picks (c' := [cC c ns i2 v2]) (r := [(b, _), (a, _)]) (by walk_at "picks")), so, by omega, g2, rfl, .mk _ _ g3 (by omega) g5 g6⟩
theorem bc_more (v1 : Value) : bindC (fun x => (Stmt.scp f_more).names.lookup x) ((["c"] : List Str).zip [v1]) (fun _ => none) "c" = some v1 ∧ bindC (fun x => (Stmt.scp f_more).names.lookup x) ((["c"] : List Str).zip [v1]) (fun _ => none) "menu" = none := ⟨by kernel_rfl, by kernel_rfl⟩
set_option maxHeartbeats 4000000 in
theorem more_spec (K : Ctx w h0 mg mb) (fit : Fit 4 A) {c : Addr} {ns : List Int} {i v : Int} (hi : 0 ≤ i) (hi' : i ≤ 5000) (hv : 0 ≤ v) (hv' : v < 999983) (hns : ns.length ≤ 63) :
    CL (MM w h0) A (.ref 545) [.ref c] [cC c ns i v] (fun u cs => ∃ so : List Row, so.length ≤ 3 ∧ (∀ r ∈ so, r ∈ menuM) ∧ u = rowsV so ∧ CIs c ns (i + 4) cs) X := by
  have X0 := K.X
  have G := K.G
  have TO := tagsOk K.X
  have h1 := n_range K
  have h2 := b_range K
  have h3 := g_take K
  refine CL.viewV (CK.cl (cc_defC (loc := []) (cn := ["menu", "c"]) (cv := cvC c) (names := ["c"]) fit (fun B hS => ⟨_, hS _ _ (SS_of K.X (is_more _).1 (by decide)), (is_more _).2⟩) (fun B hS h hk => cr_more K.X hS hk) ?_ K.G.lim (by decide +kernel) ?_ (by decide +kernel) (by decide +kernel) ?_))
  · intro B vs r hS
    cases r with | cons r1 r
    cases r
    refine ⟨[_], fun h hk => Looks.of_pure (ba_more _), fun kindOf hkd => ⟨(fun p hp => by cases hp), fun n hn => ?_⟩⟩
    have hkk : kindOf = fun x => (Stmt.scp f_more).names.lookup x := funext hkd
    subst hkk
    simp only [List.mem_cons, List.not_mem_nil, or_false] at hn
    rcases hn with rfl | rfl
    · rw [(bc_more _).2]
      exact trivial
    · rw [(bc_more _).1]
      exact r1
  · intro k
    kernel_rfl
  intro L cl hcl hL
  obtain ⟨a, b, rfl⟩ : ∃ a b, cl = clC a b := by
    match cl, hcl with
    | [(_, b), (_, a)], h =>
      simp only [List.map_cons, List.map_nil, List.cons.injEq, and_true] at h
      obtain ⟨rfl, rfl⟩ := h
      exact ⟨a, b, rfl⟩
  have hcc : cellsOf (clC a b) (cvC c) = [(b, MO.cell none), (a, MO.cell (some (.ref c)))] := by
    unfold cellsOf cvC
    simp only [List.map_cons, List.map_nil]
    rfl
  rw [hcc]
  have fit' := fit.deeper (envFn (Stmt.scp f_more) L (clC a b) "_law_more" 545 (.ref 544))
  have hd0 := fit'.hd
  simp only [List.cons_append, List.nil_append]
  refine ex_cons (ex_assign_n ?_)
  repeat' ((fail_if_success show AN _ _ _ _ _ _ _ _); walk_at "st")
  refine an_cell (by rfl) (by walk_at "upd") ?_
  refine ex_cons (ex_return ?_)
  refine EV.viewV (ev_comprange hd0 (fun rem done cs' => ∃ (so : List Row) (i2 v2 : Int), done = so.map rowV ∧ so.length + rem.length ≤ 3 ∧ (∀ r ∈ so, r ∈ menuM) ∧ 0 ≤ i2 ∧ i2 + rem.length ≤ i + 4 ∧ 0 ≤ v2 ∧ v2 < 999983 ∧ cs' = [(L, .frame []), cC c ns i2 v2, (b, .cell (some (.lst .list (menuM.map rowV)))), (a, .cell (some (.ref c)))]) (cl := clC a b) (by kernel_rfl) ?_)
  repeat' (first | walk_at "st" )
  show CL _ _ (.ref 530) [.ref c, .int 4] _ _ _
  refine CL.use (take_spec K (fit'.le (by decide)) c ns i v 4 (by omega) (by omega) (by omega) (by omega) (by omega) (by omega) hns) (by walk_at "picks") ?_
  rintro x c0 ⟨d, i', v', rfl, h4, h5, h6, h7, h8, h9, rfl⟩
  obtain ⟨n, rfl⟩ := Int.eq_ofNat_of_zero_le h4
  repeat' (first | walk_at "st")
  refine tr_range fun r t u v2 hr => ?_
  refine ⟨n, r, t, u, v2, _, rfl, by omega, ins_perm _ _, ⟨[], i', v', rfl, by rw [upto_length]; simp; omega, (fun _ h => by cases h), h6, by rw [upto_length]; omega, h8, h9, rfl⟩, ?_, ?_, ?_⟩
  · rintro rem done cs' ⟨so, i2, v2, rfl, g1, g2, g3, g4, g5, g6, rfl⟩
    simp
    omega
  · rintro C u rem done cs' ⟨so, i2, v2, rfl, g1, g2, g3, g4, g5, g6, rfl⟩
    simp only [List.length_cons] at g1 g4
    refine as_name (by walk_at "loc") ?_
    repeat' (first | walk_at "st")
    show CL _ _ (.ref 530) [.ref c, .int 5] _ _ _
    refine CL.use (take_spec K (fit'.le (by decide)) c ns i2 v2 5 (by omega) (by omega) (by omega) (by omega) (by omega) (by omega) hns) (by walk_at "picks") ?_
    rintro x c0 ⟨d, i3, v3, rfl, k1, k2, k3, k4, k5, k6, rfl⟩
    obtain ⟨j, rfl⟩ := Int.eq_ofNat_of_zero_le k1
    obtain ⟨r, hr⟩ : ∃ r, menuM[j]? = some r := ⟨menuM[j]'(by simp [menuM]; omega), by simp⟩
    refine it_lst (by omega) (by omega) (u := rowV r) (by simp [hr]) ?_
    refine ⟨_, _, (View.loc (loc' := []) (by walk_at "sub")).trans (View.picks (c' := (C, .frame []) :: [(L, .frame []), cC c ns i3 v3, (b, .cell (some (.lst .list (menuM.map rowV)))), (a, .cell (some (.ref c)))]) (r := []) ?_), so ++ [r], i3, v3, by simp, by simp; omega, ?_, k3, by omega, k5, k6, rfl⟩
    · walk_at "picks"
    · intro q hq
      rcases List.mem_append.mp hq with hq | hq
      · exact g2 q hq
      · rw [List.mem_singleton.mp hq]; exact List.mem_of_getElem? hr
  · rintro done cs' ⟨so, i2, v2, rfl, g1, g2, g3, g4, g5, g6, rfl⟩ D
    simp only [List.length_nil] at g1 g4
    refine ⟨.lst .list (so.map rowV), _, .fzF, _, _, rfl, _, _, .of (View.picks (c' := [cC c ns i2 v2]) (r := [(b, _), (a, _)]) (by walk_at "picks")), so, by omega, g2, rfl, .mk _ _ g3 (by omega) g5 g6⟩
end

end
section
open PySem PySem.W PySem.W.X PyProof.Rows
set_option Elab.async false
set_option maxRecDepth 100000
set_option linter.unusedVariables false
set_option linter.unusedSimpArgs false
local macro_rules | `(tactic| walk_at "cl") => `(tactic| first | (show CL _ _ (.builtin "isinstance") [.str _, .ty "str"] _ _ _; refine isi_str_str ?_) | (show CL _ _ (.builtin "isinstance") [.int _, .ty "str"] _ _ _; refine isi_int_str ?_))
local macro_rules | `(tactic| walk_at "ev") => `(tactic| (show EV _ _ _ (.List _ _) _ _ _; refine ev_list_fz ?_))
local macro_rules | `(tactic| walk_at "os") => `(tactic| first | (show OS _ _ _ _ (.lst .list (_ :: _)) (.int 0) _ _ _; refine it_lst (by omega) (by omega) rfl ?_) | (show OS _ _ _ _ (.lst .list (_ :: _)) (.int 1) _ _ _; refine it_lst (by omega) (by omega) rfl ?_) | (show OS _ _ _ _ (.lst .list (_ :: _)) (.int 2) _ _ _; refine it_lst (by omega) (by omega) rfl ?_))
def lcs (l : TL) : Cells := l.map fun p => (p.1, .lst .list (p.2.map itemV))
theorem mem_lcs {l : TL} {p : Addr × List Item} (h : p ∈ l) : (p.1, MO.lst .list (p.2.map itemV)) ∈ lcs l := List.mem_map_of_mem (f := fun p : Addr × List Item => (p.1, MO.lst .list (p.2.map itemV))) h
/-- the law's own model -/
def modV (md mx : Addr) (su : TL) : V := .lst .list [.lst .list (refs su), .ref md, .ref mx]
def modK (md mx : Addr) (su : TL) (da xd : List (List Item)) : Cells := (md, .lst .list (listsV da)) :: (mx, .lst .list (listsV xd)) :: lcs su
abbrev w0 (da : List (List Item)) (l : List (List Item)) : List Item := l.flatMap (fun c => c.flatMap (itI da))
theorem w0_app (da a b : List (List Item)) : w0 da (a ++ b) = w0 da a ++ w0 da b := by simp [w0]
section
variable {M : Md} {w : World} {h0 : Heap} {A : Around} {mg mb : Str → Option Value} {X : Value → Cells → Prop} {cs cs' fin : Cells} {PV : V → Cells → Prop} {PF : Fl → Cells → Prop} {env : Env}
set_option maxHeartbeats 4000000 in
theorem walked_spec (K : Ctx w h0 mg mb) (fit : Fit 4 A) {md mx : Addr} {su : TL} {da xd : List (List Item)} (hda : ∀ c ∈ su, ∀ it ∈ c.2, ItOk da it) (hl : (walkI (its su) da xd []).length ≤ 1000) (hdl : da.length ≤ 1000) :
    CL (MM w h0) A (.ref 552) [modV md mx su] (modK md mx su da xd) (fun u cs => u = itemsV (walkI (its su) da xd []) ∧ cs = modK md mx su da xd) X := by
  have X0 := K.X
  have G := K.G
  have TO := tagsOk K.X
  have n1 := n_isinst K
  have n2 := b_isinst K
  have n3 := n_str K
  have n4 := b_str K
  have hll : (w0 da (its su)).length + xd.flatten.length ≤ 1000 := by
    have e : walkI (its su) da xd [] = w0 da (its su) ++ xd.flatten := by simp [walkI, w0]
    rw [e, List.length_append] at hl
    exact hl
  refine CL.viewV (CK.cl (cc_def (names := ["model"]) (args := [modV md mx su]) fit (fun B hS => ⟨_, hS _ _ (SS_of K.X (is_walked _).1 (by decide)), (is_walked _).2⟩) (fun B hS h hk => cr_walked K.X hS hk) (bind1 (len1 fun a => ba_walked a) rfl) K.G.lim (by decide +kernel) (by simp) ?_))
  intro L hL
  show EXs _ _ _ _ ((L, .frame [("model", .lst .list [.lst .list (refs su), .ref md, .ref mx])]) :: _) _ _
  have fit' := fit.deeper (envFn (Stmt.scp f_walked) L [] "_law_walked" 552 (.ref 551))
  have hd0 := fit'.hd
  repeat' ((fail_if_success show EXs _ _ _ (.For _ _ _ _ _ :: _) _ _ _); walk_at "st")
  refine ex_cons ?_
  refine ex_for TO hd0 (fun rem cs' => ∃ a b, su = a ++ b ∧ rem = refs b ∧ cs' = (L, .frame [("model", modV md mx su), ("found", itemsV (w0 da (its a)))]) :: modK md mx su da xd) ?_
  repeat' (first | walk_at "st" )
  refine ⟨refs su, ⟨[], su, rfl, rfl, rfl⟩, ?_, ?_, ?_⟩
  · rintro rem cs' ⟨a, b, e, rfl, rfl⟩
    exact ⟨.lst .list _, refs a, by rw [e, refs_app]⟩
  · rintro u rem cs' ⟨a, b, e, e2, rfl⟩
    cases b with
    | nil => cases e2
    | cons p b =>
      obtain ⟨rfl, rfl⟩ := List.cons.inj (e2 : u :: rem = .ref p.1 :: refs b)
      have hpm : p ∈ su := by rw [e]; simp
      have hb1 : (w0 da (its a)).length + (p.2.flatMap (itI da)).length ≤ 1000 := by
        have e3 : its su = its a ++ p.2 :: its b := by rw [e, its_app]; rfl
        rw [e3, w0_app] at hll
        simp only [w0, List.flatMap_cons, List.length_append] at hll ⊢
        omega
      refine as_name (by walk_at "loc") ?_
      refine ex_cons ?_
      refine ex_for TO hd0 (fun rem cs' => ∃ x y, p.2 = x ++ y ∧ rem = y.map itemV ∧ cs' = (L, .frame [("model", modV md mx su), ("found", itemsV (w0 da (its a) ++ x.flatMap (itI da))), ("rows", .ref p.1)]) :: modK md mx su da xd) ?_
      repeat' (first | walk_at "st" )
      refine ⟨p.2.map itemV, ⟨[], p.2, rfl, rfl, by simp; rfl⟩, ?_, ?_, ?_⟩
      · rintro rem cs' ⟨x, y, e, rfl, rfl⟩
        exact ⟨.own p.1 .list _ (.tail _ (.tail _ (.tail _ (mem_lcs hpm)))), x.map itemV, by rw [e, List.map_append]⟩
      · rintro u rem cs' ⟨x, y, e3, e4, rfl⟩
        cases y with
        | nil => cases e4
        | cons it y =>
          rw [List.map_cons] at e4
          obtain ⟨rfl, rfl⟩ := List.cons.inj e4
          have him : it ∈ p.2 := by rw [e3]; simp
          have hok := hda p hpm it him
          have hb2 : (w0 da (its a) ++ x.flatMap (itI da)).length + (itI da it).length ≤ 1000 := by
            rw [e3] at hb1
            simp only [List.flatMap_append, List.flatMap_cons, List.length_append] at hb1 ⊢
            omega
          obtain ⟨co, va⟩ := it
          cases va with
          | s va =>
            have hi : itI da (co, .s va) = [(co, .s va)] := rfl
            have ev : itemsV (w0 da (its a) ++ (x ++ [((co, Val.s va) : Item)]).flatMap (itI da)) = .lst .list ((w0 da (its a) ++ x.flatMap (itI da)).map itemV ++ [V.tup [.int co, .str va]]) := by simp [itemsV, hi, itemV, Val.v]
            show AS _ _ _ _ (.tup [.int co, .str va]) ((L, .frame [("model", .lst .list [.lst .list (refs su), .ref md, .ref mx]), ("found", .lst .list ((w0 da (its a) ++ x.flatMap (itI da)).map itemV)), ("rows", .ref p.1)]) :: (md, _) :: (mx, _) :: _) _ _
            repeat' (first | walk_at "st" )
            all_goals (refine op_add_list_fz (.inl rfl) (.inl rfl) (by rw [hi] at hb2; simp at hb2 ⊢; omega) ?_)
            all_goals (repeat' (first | walk_at "st" ))
            all_goals exact ⟨_, View.loc (loc' := [("model", .lst .list [.lst .list (refs su), .ref md, .ref mx]), ("found", .lst .list ((w0 da (its a) ++ x.flatMap (itI da)).map itemV ++ [V.tup [.int co, .str va]])), ("rows", .ref p.1)]) (by walk_at "sub"), x ++ [(co, .s va)], y, by rw [e3]; simp, rfl, by rw [ev]; rfl⟩
          | n k =>
            obtain ⟨h102, hk⟩ := hok k rfl
            replace h102 : co = 102 := h102
            subst h102
            have hi : itI da (102, .n k) = da[k] := by simp [itI, hk]
            have hx : (listsV da)[((k : Int)).toNat]? = some (itemsV da[k]) := by simp [listsV, hk]
            show AS _ _ _ _ (.tup [.int 102, .int (k : Int)]) ((L, .frame [("model", .lst .list [.lst .list (refs su), .ref md, .ref mx]), ("found", .lst .list ((w0 da (its a) ++ x.flatMap (itI da)).map itemV)), ("rows", .ref p.1)]) :: (md, _) :: (mx, _) :: _) _ _
            repeat' (first | walk_at "st" )
            refine it_list (by walk_at "mem") (by omega) (by omega) hx ?_
            refine op_add_list_fz (.inl rfl) (.inl rfl) (by rw [hi] at hb2; simp at hb2 ⊢; omega) ?_
            repeat' (first | walk_at "st" )
            have ev : itemsV (w0 da (its a) ++ (x ++ [((102, Val.n k) : Item)]).flatMap (itI da)) = .lst .list ((w0 da (its a) ++ x.flatMap (itI da)).map itemV ++ da[k].map itemV) := by simp [itemsV, hi]
            exact ⟨_, View.loc (loc' := [("model", .lst .list [.lst .list (refs su), .ref md, .ref mx]), ("found", .lst .list ((w0 da (its a) ++ x.flatMap (itI da)).map itemV ++ da[k].map itemV)), ("rows", .ref p.1)]) (by walk_at "sub"), x ++ [(102, .n k)], y, by rw [e3]; simp, rfl, by rw [ev]; rfl⟩
      · rintro cs' ⟨x, y, e3, e4, rfl⟩
        have : y = [] := by cases y with | nil => rfl | cons _ _ => cases e4
        subst this
        rw [List.append_nil] at e3
        have ev : w0 da (its (a ++ [p])) = w0 da (its a) ++ x.flatMap (itI da) := by rw [its_app, w0_app, ← e3]; simp [w0, its]
        exact ex_nil ⟨_, View.loc (loc' := [("model", modV md mx su), ("found", itemsV (w0 da (its a) ++ x.flatMap (itI da)))]) (by walk_at "sub"), a ++ [p], b, by rw [e]; simp, rfl, by rw [ev]⟩
  · rintro cs' ⟨a, b, e, e2, rfl⟩
    have : b = [] := by cases b with | nil => rfl | cons _ _ => cases e2
    subst this
    rw [List.append_nil] at e
    subst e
    refine ex_cons ?_
    refine ex_for TO hd0 (fun rem cs' => ∃ a b, xd = a ++ b ∧ rem = listsV b ∧ cs' = (L, .frame [("model", modV md mx su), ("found", itemsV (w0 da (its su) ++ a.flatten))]) :: modK md mx su da xd) ?_
    show EV _ _ _ _ ((L, .frame [("model", .lst .list [.lst .list (refs su), .ref md, .ref mx]), ("found", itemsV (w0 da (its su)))]) :: (md, _) :: (mx, .lst .list (listsV xd)) :: _) _ _
    repeat' (first | walk_at "st" )
    refine ⟨listsV xd, ⟨[], xd, rfl, rfl, by rw [List.flatten_nil, List.append_nil]; rfl⟩, ?_, ?_, ?_⟩
    · rintro rem cs' ⟨a, b, e, rfl, rfl⟩
      exact ⟨.own mx .list _ (.tail _ (.tail _ (.head _))), listsV a, by rw [e]; simp [listsV]⟩
    · rintro u rem cs' ⟨a, b, e, e2, rfl⟩
      cases b with
      | nil => cases e2
      | cons p b =>
        obtain ⟨rfl, rfl⟩ := List.cons.inj (e2 : u :: rem = itemsV p :: listsV b)
        have hb1 : (w0 da (its su) ++ a.flatten).length + p.length ≤ 1000 := by
          rw [e] at hll
          simp only [List.flatten_append, List.flatten_cons, List.length_append] at hll ⊢
          omega
        refine as_name (by walk_at "loc") ?_
        show EXs _ _ _ _ ((L, .frame [("model", .lst .list [.lst .list (refs su), .ref md, .ref mx]), ("found", .lst .list ((w0 da (its su) ++ a.flatten).map itemV)), ("rows", .lst .list (p.map itemV))]) :: _) _ _
        repeat' (first | walk_at "st" )
        refine op_add_list_fz (.inl rfl) (.inl rfl) (by rw [List.length_map, List.length_map]; omega) ?_
        repeat' (first | walk_at "st" )
        have ev : itemsV (w0 da (its su) ++ (a ++ [p]).flatten) = .lst .list ((w0 da (its su) ++ a.flatten).map itemV ++ p.map itemV) := by simp [itemsV]
        exact ⟨_, View.loc (loc' := [("model", .lst .list [.lst .list (refs su), .ref md, .ref mx]), ("found", .lst .list ((w0 da (its su) ++ a.flatten).map itemV ++ p.map itemV))]) (by walk_at "sub"), a ++ [p], b, by rw [e]; simp, rfl, by rw [ev]; rfl⟩
    · rintro cs' ⟨a, b, e, e2, rfl⟩
      have : b = [] := by cases b with | nil => rfl | cons _ _ => cases e2
      subst this
      rw [List.append_nil] at e
      subst e
      repeat' (first | walk_at "st" )
      exact ⟨_, _, rfl, _, _, .refl, by show itemsV _ = itemsV _; simp [walkI, w0], rfl⟩
end

end
section
open PySem PySem.W PySem.W.X PyProof.Rows
set_option Elab.async false
set_option maxRecDepth 100000
set_option linter.unusedVariables false
set_option linter.unusedSimpArgs false
local macro_rules | `(tactic| walk_at "cl") => `(tactic| (show CL _ _ (.builtin "len") [.ref _] _ _ _; refine tr_len_list (.tail _ (by assumption)) (by simp [listsV]; omega) ?_))
local macro_rules | `(tactic| walk_at "os") => `(tactic| (show OS _ _ _ _ (.lst .list (_ :: _)) (.int 0) _ _ _; refine it_lst (by omega) (by omega) rfl ?_))
section
variable {M : Md} {w : World} {h0 : Heap} {A : Around} {mg mb : Str → Option Value} {X : Value → Cells → Prop} {cs cs' fin : Cells} {PV : V → Cells → Prop} {PF : Fl → Cells → Prop} {env : Env}
/-- the first of that name, by its place -/
inductive PlaceIs (name : Str) (ls : List (List Item)) : V → Prop
  | no : (∀ l ∈ ls, isNamed name l = false) → PlaceIs name ls .none
  | at_ (a : List (List Item)) (l : List Item) (b : List (List Item)) : ls = a ++ l :: b → (∀ q ∈ a, isNamed name q = false) → isNamed name l = true → PlaceIs name ls (.int (a.length : Nat))
set_option maxHeartbeats 4000000 in
theorem place_spec (K : Ctx w h0 mg mb) (fit : Fit 4 A) {md : Addr} {ls : List (List Item)} {name : Str} (hm : (md, MO.lst .list (listsV ls)) ∈ cs) (hh : ∀ l ∈ ls, HeadOk l) (hl : ls.length ≤ 500) :
    CL (MM w h0) A (.ref 559) [.ref md, .str name] cs (fun u cs' => cs' = cs ∧ PlaceIs name ls u) X := by
  have X0 := K.X
  have G := K.G
  have TO := tagsOk K.X
  have n1 := n_len K
  have n2 := b_len K
  have n3 := n_range K
  have n4 := b_range K
  refine CL.viewV (CK.cl (cc_def (names := ["rows", "name"]) (args := [.ref md, .str name]) fit (fun B hS => ⟨_, hS _ _ (SS_of K.X (is_place _).1 (by decide)), (is_place _).2⟩) (fun B hS h hk => cr_place K.X hS hk) (bind1 (len2 fun a b => ba_place a b) rfl) K.G.lim (by decide +kernel) (by simp) ?_))
  intro L hL
  show EXs _ _ _ _ ((L, .frame [("rows", .ref md), ("name", .str name)]) :: cs) _ _
  have fit' := fit.deeper (envFn (Stmt.scp f_place) L [] "_law_place" 559 (.ref 558))
  have hd0 := fit'.hd
  refine ex_cons ?_
  refine ex_for_range hd0 (fun rem cs' => ∃ a b, ls = a ++ b ∧ rem = upto a.length b.length ∧ (∀ q ∈ a, isNamed name q = false) ∧ cs' = (L, .frame [("rows", .ref md), ("name", .str name)]) :: cs) ?_
  repeat' (first | walk_at "st" )
  refine tr_range fun r t u v hr => ?_
  refine ⟨_, r, t, u, v, _, rfl, by simp [listsV]; omega, ins_perm _ _, ⟨[], ls, rfl, by simp [listsV], (fun _ h => by cases h), rfl⟩, ?_, ?_⟩
  · rintro i rem cs' ⟨a, b, e, e2, hna, rfl⟩
    cases b with
    | nil => cases e2
    | cons l b =>
      obtain ⟨h1, h2, h3⟩ := upto_cons e2
      cases h2
      have hlen : rem.length = b.length := by simp at h1; omega
      rw [hlen] at h3
      obtain ⟨c, v, t, hp⟩ := hh l (by rw [e]; simp)
      have hx : (listsV ls)[((a.length : Nat) : Int).toNat]? = some (.lst .list (V.tup [.int c, .str v] :: t.map itemV)) := by
        rw [e, hp]; simp [listsV, itemsV, itemV, Val.v]
      have hal : a.length ≤ 500 := by have := congrArg List.length e; simp at this; omega
      refine as_name (by walk_at "loc") ?_
      repeat' (first | walk_at "st" )
      refine it_list (.tail _ hm) (by omega) (by omega) hx ?_
      repeat' (first | walk_at "st" )
      · rename_i hv
        exact ⟨_, _, rfl, _, _, .refl, rfl, .at_ a l b e hna (by rw [hp]; exact beq_iff_eq.mpr hv)⟩
      · rename_i hv
        exact ⟨_, View.loc (by walk_at "sub"), a ++ [l], b, by rw [e]; simp, by rw [h3]; simp, fun q hq => by
          rcases List.mem_append.mp hq with q' | q'
          · exact hna q q'
          · rw [List.mem_singleton.mp q', hp]; exact beq_eq_false_iff_ne.mpr hv, rfl⟩
  · rintro cs' ⟨a, b, e, e2, hna, rfl⟩
    have : b = [] := by cases b with | nil => rfl | cons _ _ => cases e2
    subst this
    rw [List.append_nil] at e
    subst e
    repeat' (first | walk_at "st" )
    exact ⟨_, _, rfl, _, _, .refl, rfl, .no hna⟩
end

end
section
open PySem PySem.W PySem.W.X PyProof.Rows
set_option Elab.async false
set_option maxRecDepth 100000
set_option linter.unusedVariables false
set_option linter.unusedSimpArgs false
local macro_rules | `(tactic| walk_at "ev") => `(tactic| (show EV _ _ _ (.List _ _) _ _ _; refine ev_list_fz ?_))
local macro_rules | `(tactic| walk_at "st") => `(tactic| (show SL _ _ _ _ (.lst .list _) _ _ _ _ _; refine sl_seq (by assumption) (.lst _ _) (by simp; omega) ?_))
local macro_rules | `(tactic| walk_at "os") => `(tactic| first | (show OS _ _ _ _ (.lst .list (_ :: _)) (.int 0) _ _ _; refine it_lst (by omega) (by omega) rfl ?_) | (show OS _ _ _ _ (.ref _) (.int _) _ _ _; refine it_list (by walk_at "mem") (by omega) (by omega) (by assumption) ?_))
theorem pick_1 {xs : List V} (h : 1 ≤ xs.length) : pick xs none (some 1) = xs.take 1 := by
  cases xs with
  | nil => simp at h
  | cons x xs =>
    unfold pick
    have : sliceBounds none (some 1) none (x :: xs).length = (0, 1, 1) := by
      unfold sliceBounds; simp; omega
    rw [this]
    rfl
theorem pick_m1 {xs : List V} (h : 1 ≤ xs.length) : pick xs (some (-1)) none = xs.drop (xs.length - 1) := by
  unfold pick
  have e : sliceBounds (some (-1)) none none xs.length = (((xs.length - 1 : Nat) : Int), (xs.length : Int), 1) := by
    unfold sliceBounds; simp; omega
  rw [e]
  have e2 : sliceRange ((xs.length - 1 : Nat) : Int) (xs.length : Int) 1 = [xs.length - 1] := by
    unfold sliceRange
    have c1 : ((xs.length - 1 : Nat) : Int) < (xs.length : Int) := by omega
    have c2 : ((if (1 : Int) > 0 then (if ((xs.length - 1 : Nat) : Int) < (xs.length : Int) then ((xs.length : Int) - ((xs.length - 1 : Nat) : Int) + 1 - 1) / 1 else 0) else (if ((xs.length - 1 : Nat) : Int) > (xs.length : Int) then (((xs.length - 1 : Nat) : Int) - (xs.length : Int) - 1 - 1) / (-1) else 0) : Int)) = 1 := by
      rw [if_pos (by decide), if_pos c1]; simp; omega
    simp only [c2]
    simp [List.range_succ]
  rw [e2]
  have h3 : xs.length - 1 < xs.length := by omega
  simp only [List.filterMap_cons, List.getElem?_eq_getElem h3, List.filterMap_nil]
  rw [List.drop_eq_getElem_cons h3]
  have : xs.length - 1 + 1 = xs.length := by omega
  rw [this, List.drop_length]
theorem lists_set (a : List (List Item)) (l n : List Item) (b : List (List Item)) : (listsV (a ++ l :: b)).set ((a.length : Nat) : Int).toNat (itemsV n) = listsV (a ++ n :: b) := by simp [listsV]
theorem lists_get (a : List (List Item)) (l : List Item) (b : List (List Item)) : (listsV (a ++ l :: b))[((a.length : Nat) : Int).toNat]? = some (.lst .list (l.map itemV)) := by simp [listsV, itemsV]
/-- what an edit of the law's own model gives -/
abbrev PlPost (md mx : Addr) (su : TL) (r : Str × PM) : V → Cells → Prop := fun u cs' => ∃ su', u = .str r.1 ∧ refs su' = refs su ∧ its su' = r.2.su ∧ cs' = modK md mx su' r.2.da r.2.xd
section
variable {M : Md} {w : World} {h0 : Heap} {A : Around} {mg mb : Str → Option Value} {X : Value → Cells → Prop} {cs cs' fin : Cells} {PV : V → Cells → Prop} {PF : Fl → Cells → Prop} {env : Env}
theorem View.picksT2 {x y : Addr × MO} {ps l T : Cells} (h : Picks (x :: y :: ps) l T) : View M l (ps ++ T) := (View.perm h.perm).trans (View.drop.trans View.drop)
set_option maxHeartbeats 4000000 in
theorem plain1_spec (K : Ctx w h0 mg mb) (fit : Fit 8 A) {md mx : Addr} {su : TL} {da xd : List (List Item)} {name : Str} {part : Option Str} {so : List Item} (W : WM ⟨its su, da, xd⟩) (hso : so.length ≤ 100) (hn : name.length ≤ 1000) :
    CL (MM w h0) A (.ref 566) [modV md mx su, .int 1, .str name, partV part, itemsV so] (modK md mx su da xd) (PlPost md mx su (ed1 name so ⟨its su, da, xd⟩)) X := by
  have X0 := K.X
  have G := K.G
  have TO := tagsOk K.X
  have gp := g_place K
  have n1 := n_len K
  have n2 := b_len K
  have n3 := n_range K
  have n4 := b_range K
  have hld := W.ld
  have hlx := W.lx
  dsimp only at hld hlx
  refine CL.viewV (CK.cl (cc_def (names := ["model", "kind", "name", "part", "some"]) (args := [modV md mx su, .int 1, .str name, partV part, itemsV so]) fit (fun B hS => ⟨_, hS _ _ (SS_of K.X (is_plain _).1 (by decide)), (is_plain _).2⟩) (fun B hS h hk => cr_plain K.X hS hk) (bind1 (fun vs h => by
    match vs, h with
    | [a, b, c, d, e], _ => exact ba_plain a b c d e) rfl) K.G.lim (by decide +kernel) (by simp) ?_))
  intro L hL
  show EXs _ _ _ _ ((L, .frame [("model", .lst .list [.lst .list (refs su), .ref md, .ref mx]), ("kind", .int 1), ("name", .str name), ("part", partV part), ("some", .lst .list (so.map itemV))]) :: (md, .lst .list (listsV da)) :: (mx, .lst .list (listsV xd)) :: lcs su) _ _
  have fit' := fit.deeper (envFn (Stmt.scp f_plain) L [] "_law_plain" 566 (.ref 565))
  have hd0 := fit'.hd
  repeat' (first | walk_at "st" )
  refine CL.from (place_spec (ls := da) K (fit'.le (by decide)) (.tail _ (.head _)) (fun l hl => (W.hd l hl).1) (by omega)) ?_
  rintro u cs' ⟨rfl, hpl⟩
  refine ⟨_, _, _, rfl, by walk_at "loc", ?_⟩
  cases hpl with
  | no hna =>
    repeat' (first | walk_at "st" )
    have he : ed1 name so ⟨its su, da, xd⟩ = (("value" : Str), ⟨its su, da, xd⟩) := by unfold ed1; rw [upd1_none hna]
    exact ⟨_, _, rfl, _, _, .refl, su, by rw [he]; rfl, rfl, by rw [he], by rw [he]; rfl⟩
  | at_ a l b e hna hnl =>
    have hal : a.length ≤ 500 := by have := congrArg List.length e; simp at this; omega
    have hl2 := (W.hd l (by show l ∈ da; rw [e]; simp)).2
    have hx : (listsV da)[((a.length : Nat) : Int).toNat]? = some (.lst .list (l.map itemV)) := by rw [e]; exact lists_get a l b
    have he : ed1 name so ⟨its su, da, xd⟩ = (("" : Str), ⟨its su, a ++ putApp so l :: b, xd⟩) := by unfold ed1; rw [show (PM.mk (its su) da xd).da = a ++ l :: b from e, upd1_hit hnl hna]
    repeat' (first | walk_at "st" )
    refine op_add_list_fz (.inr ⟨_, rfl, by walk_at "mem"⟩) (.inl rfl) (by rw [pick_1 (by simp; omega)]; simp; omega) ?_
    repeat' (first | walk_at "st" )
    refine op_add_list_fz (.inl rfl) (.inr ⟨_, rfl, by walk_at "mem"⟩) (by rw [pick_1 (by simp; omega), pick_m1 (by simp; omega)]; simp; omega) ?_
    repeat' (first | walk_at "st" )
    rename_i s1 _ s2 _
    have ev : V.lst .list (pick (l.map itemV) none (some 1) ++ so.map itemV ++ pick (l.map itemV) (some (-1)) none) = itemsV (putApp so l) := by
      rw [pick_1 (by simp; omega), pick_m1 (by simp; omega)]
      simp [itemsV, putApp]
    have hdl : da.length = a.length + (b.length + 1) := by have := congrArg List.length e; simpa using this
    rw [ev]
    refine tr_setItem_list (by walk_at "upd") (by omega) (by rw [lists_len]; omega) (by rw [lists_len]; omega) ?_
    repeat' (first | walk_at "st" )
    refine ⟨_, _, rfl, _, modK md mx su (a ++ putApp so l :: b) xd, .of (View.picksT2 (T := lcs su) (x := (s2, .lst .list (pick (l.map itemV) (some (-1)) none))) (y := (s1, .lst .list (pick (l.map itemV) none (some 1)))) (ps := [(md, .lst .list (listsV (a ++ putApp so l :: b))), (mx, .lst .list (listsV xd))]) ?_), su, by rw [he]; rfl, rfl, by rw [he], by rw [he]⟩
    rw [← lists_set a l (putApp so l) b, ← e]
    walk_at "picks"
set_option maxHeartbeats 4000000 in
theorem plain2_spec (K : Ctx w h0 mg mb) (fit : Fit 8 A) {md mx : Addr} {su : TL} {da xd : List (List Item)} {name : Str} {part : Option Str} {so : List Item} (W : WM ⟨its su, da, xd⟩) (hso : so.length ≤ 100) (hn : name.length ≤ 1000) :
    CL (MM w h0) A (.ref 566) [modV md mx su, .int 2, .str name, partV part, itemsV so] (modK md mx su da xd) (PlPost md mx su (ed2 name so ⟨its su, da, xd⟩)) X := by
  have X0 := K.X
  have G := K.G
  have TO := tagsOk K.X
  have gp := g_place K
  have n1 := n_len K
  have n2 := b_len K
  have n3 := n_range K
  have n4 := b_range K
  have hld := W.ld
  have hlx := W.lx
  dsimp only at hld hlx
  refine CL.viewV (CK.cl (cc_def (names := ["model", "kind", "name", "part", "some"]) (args := [modV md mx su, .int 2, .str name, partV part, itemsV so]) fit (fun B hS => ⟨_, hS _ _ (SS_of K.X (is_plain _).1 (by decide)), (is_plain _).2⟩) (fun B hS h hk => cr_plain K.X hS hk) (bind1 (fun vs h => by
    match vs, h with
    | [a, b, c, d, e], _ => exact ba_plain a b c d e) rfl) K.G.lim (by decide +kernel) (by simp) ?_))
  intro L hL
  show EXs _ _ _ _ ((L, .frame [("model", .lst .list [.lst .list (refs su), .ref md, .ref mx]), ("kind", .int 2), ("name", .str name), ("part", partV part), ("some", .lst .list (so.map itemV))]) :: (md, .lst .list (listsV da)) :: (mx, .lst .list (listsV xd)) :: lcs su) _ _
  have fit' := fit.deeper (envFn (Stmt.scp f_plain) L [] "_law_plain" 566 (.ref 565))
  have hd0 := fit'.hd
  repeat' (first | walk_at "st" )
  refine op_add_list_fz (.inl rfl) (.inl rfl) (by simp; omega) ?_
  repeat' (first | walk_at "st" )
  have e1 : listsV (xd ++ [newXd name so]) = listsV xd ++ [V.lst .list ([V.tup [.int 1001, .str name]] ++ so.map itemV)] := by simp [listsV, itemsV, newXd, itemV, Val.v]
  refine ⟨_, _, rfl, _, modK md mx su da (xd ++ [newXd name so]), .of (View.of_eq ?_), su, rfl, rfl, rfl, rfl⟩
  unfold modK
  rw [e1]
set_option maxHeartbeats 4000000 in
theorem plain3_spec (K : Ctx w h0 mg mb) (fit : Fit 8 A) {md mx : Addr} {su : TL} {da xd : List (List Item)} {name : Str} {part : Option Str} {so : List Item} (W : WM ⟨its su, da, xd⟩) (hso : so.length ≤ 100) (hn : name.length ≤ 1000) :
    CL (MM w h0) A (.ref 566) [modV md mx su, .int 3, .str name, partV part, itemsV so] (modK md mx su da xd) (PlPost md mx su (ed3 name so ⟨its su, da, xd⟩)) X := by
  have X0 := K.X
  have G := K.G
  have TO := tagsOk K.X
  have gp := g_place K
  have n1 := n_len K
  have n2 := b_len K
  have n3 := n_range K
  have n4 := b_range K
  have hld := W.ld
  have hlx := W.lx
  dsimp only at hld hlx
  refine CL.viewV (CK.cl (cc_def (names := ["model", "kind", "name", "part", "some"]) (args := [modV md mx su, .int 3, .str name, partV part, itemsV so]) fit (fun B hS => ⟨_, hS _ _ (SS_of K.X (is_plain _).1 (by decide)), (is_plain _).2⟩) (fun B hS h hk => cr_plain K.X hS hk) (bind1 (fun vs h => by
    match vs, h with
    | [a, b, c, d, e], _ => exact ba_plain a b c d e) rfl) K.G.lim (by decide +kernel) (by simp) ?_))
  intro L hL
  show EXs _ _ _ _ ((L, .frame [("model", .lst .list [.lst .list (refs su), .ref md, .ref mx]), ("kind", .int 3), ("name", .str name), ("part", partV part), ("some", .lst .list (so.map itemV))]) :: (md, .lst .list (listsV da)) :: (mx, .lst .list (listsV xd)) :: lcs su) _ _
  have fit' := fit.deeper (envFn (Stmt.scp f_plain) L [] "_law_plain" 566 (.ref 565))
  have hd0 := fit'.hd
  repeat' (first | walk_at "st" )
  refine CL.from (place_spec (ls := xd) K (fit'.le (by decide)) (.tail _ (.tail _ (.head _))) (fun l hl => (W.hx l hl).1) (by omega)) ?_
  rintro u cs' ⟨rfl, hpl⟩
  refine ⟨_, _, _, rfl, by walk_at "loc", ?_⟩
  cases hpl with
  | no hna =>
    repeat' (first | walk_at "st" )
    have he : ed3 name so ⟨its su, da, xd⟩ = (("value" : Str), ⟨its su, da, xd⟩) := by unfold ed3; rw [upd1_none hna]
    exact ⟨_, _, rfl, _, _, .refl, su, by rw [he]; rfl, rfl, by rw [he], by rw [he]; rfl⟩
  | at_ a l b e hna hnl =>
    have hal : a.length ≤ 500 := by have := congrArg List.length e; simp at this; omega
    have hl2 := (W.hx l (by show l ∈ xd; rw [e]; simp)).2
    have hx : (listsV xd)[((a.length : Nat) : Int).toNat]? = some (.lst .list (l.map itemV)) := by rw [e]; exact lists_get a l b
    have he : ed3 name so ⟨its su, da, xd⟩ = (("" : Str), ⟨its su, da, a ++ putX so l :: b⟩) := by unfold ed3; rw [show (PM.mk (its su) da xd).xd = a ++ l :: b from e, upd1_hit hnl hna]
    repeat' (first | walk_at "st" )
    refine op_add_list_fz (.inr ⟨_, rfl, by walk_at "mem"⟩) (.inl rfl) (by rw [pick_1 (by simp; omega)]; simp; omega) ?_
    repeat' (first | walk_at "st" )
    rename_i s1 _
    have ev : V.lst .list (pick (l.map itemV) none (some 1) ++ so.map itemV) = itemsV (putX so l) := by
      rw [pick_1 (by simp; omega)]
      simp [itemsV, putX]
    have hdl : xd.length = a.length + (b.length + 1) := by have := congrArg List.length e; simpa using this
    rw [ev]
    refine tr_setItem_list (by walk_at "upd") (by omega) (by rw [lists_len]; omega) (by rw [lists_len]; omega) ?_
    repeat' (first | walk_at "st" )
    refine ⟨_, _, rfl, _, modK md mx su da (a ++ putX so l :: b), .of (View.picksT1 (T := lcs su) (x := (s1, .lst .list (pick (l.map itemV) none (some 1)))) (ps := [(md, .lst .list (listsV da)), (mx, .lst .list (listsV (a ++ putX so l :: b)))]) ?_), su, by rw [he]; rfl, rfl, by rw [he], by rw [he]⟩
    rw [← lists_set a l (putX so l) b, ← e]
    walk_at "picks"
end

end
section
open PySem PySem.W PySem.W.X PyProof.Rows
set_option Elab.async false
set_option maxRecDepth 100000
set_option linter.unusedVariables false
set_option linter.unusedSimpArgs false
local macro_rules | `(tactic| walk_at "ev") => `(tactic| (show EV _ _ _ (.List _ _) _ _ _; refine ev_list_fz ?_))
local macro_rules | `(tactic| walk_at "st") => `(tactic| (show SL _ _ _ _ (.lst .list _) _ _ _ _ _; refine sl_seq (by assumption) (.lst _ _) (by simp; omega) ?_))
local macro_rules | `(tactic| walk_at "os") => `(tactic| first | (show OS _ _ _ _ (.lst .list (_ :: _)) (.int 0) _ _ _; refine it_lst (by omega) (by omega) rfl ?_) | (show OS _ _ _ _ (.ref _) (.int _) _ _ _; refine it_list (by walk_at "mem") (by omega) (by omega) (by assumption) ?_))
local macro_rules | `(tactic| walk_at "st") => `(tactic| (show SI _ _ _ _ (.tup _) _ _ _; refine tr_setItem_list (by walk_at "upd") (by omega) (by simp; omega) (by simp; omega) ?_))
local macro_rules | `(tactic| walk_at "ex") => `(tactic| (show EX _ _ _ (.If (.BoolOp _ _ _) _ _ _) _ _ _; refine ex_if ?_))
section
variable {M : Md} {w : World} {h0 : Heap} {A : Around} {mg mb : Str → Option Value} {X : Value → Cells → Prop} {cs cs' fin : Cells} {PV : V → Cells → Prop} {PF : Fl → Cells → Prop} {env : Env}
set_option maxHeartbeats 4000000 in
theorem plain4_spec (K : Ctx w h0 mg mb) (fit : Fit 8 A) {md mx : Addr} {su : TL} {da xd : List (List Item)} {name : Str} {part : Option Str} {so : List Item} (W : WM ⟨its su, da, xd⟩) (hso : so.length ≤ 100) (hn : name.length ≤ 1000) :
    CL (MM w h0) A (.ref 566) [modV md mx su, .int 4, .str name, partV part, itemsV so] (modK md mx su da xd) (PlPost md mx su (ed4 name ⟨its su, da, xd⟩)) X := by
  have X0 := K.X
  have G := K.G
  have TO := tagsOk K.X
  have gp := g_place K
  have n1 := n_len K
  have n2 := b_len K
  have n3 := n_range K
  have n4 := b_range K
  have hld := W.ld
  have hlx := W.lx
  dsimp only at hld hlx
  refine CL.viewV (CK.cl (cc_def (names := ["model", "kind", "name", "part", "some"]) (args := [modV md mx su, .int 4, .str name, partV part, itemsV so]) fit (fun B hS => ⟨_, hS _ _ (SS_of K.X (is_plain _).1 (by decide)), (is_plain _).2⟩) (fun B hS h hk => cr_plain K.X hS hk) (bind1 (fun vs h => by
    match vs, h with
    | [a, b, c, d, e], _ => exact ba_plain a b c d e) rfl) K.G.lim (by decide +kernel) (by simp) ?_))
  intro L hL
  show EXs _ _ _ _ ((L, .frame [("model", .lst .list [.lst .list (refs su), .ref md, .ref mx]), ("kind", .int 4), ("name", .str name), ("part", partV part), ("some", .lst .list (so.map itemV))]) :: (md, .lst .list (listsV da)) :: (mx, .lst .list (listsV xd)) :: lcs su) _ _
  have fit' := fit.deeper (envFn (Stmt.scp f_plain) L [] "_law_plain" 566 (.ref 565))
  have hd0 := fit'.hd
  obtain ⟨v0, v, l, r0, e0⟩ := W.base
  obtain ⟨⟨a, l0⟩, su, rfl⟩ : ∃ c r, su = c :: r := by cases su with | nil => cases e0 | cons c r => exact ⟨c, r, rfl⟩
  have el : l0 = (0, .s v0) :: (5, .s v) :: l := (List.cons.inj e0).1
  subst el
  have hll := (W.hs _ (.head _)).2
  simp only [List.length_cons] at hll
  show EXs _ _ _ _ ((L, .frame [("model", .lst .list [.lst .list (.ref a :: refs su), .ref md, .ref mx]), ("kind", .int 4), ("name", .str name), ("part", partV part), ("some", .lst .list (so.map itemV))]) :: (md, .lst .list (listsV da)) :: (mx, .lst .list (listsV xd)) :: (a, .lst .list (V.tup [.int 0, .str v0] :: V.tup [.int 5, .str v] :: l.map itemV)) :: lcs su) _ _
  repeat' ((fail_if_success show EXs _ _ _ (.For _ _ _ _ _ :: _) _ _ _); walk_at "st")
  refine ex_cons ?_
  refine ex_for_range hd0 (fun rem cs' => (rem = upto 0 (l.length + 2) ∨ rem = upto 1 (l.length + 1)) ∧ cs' = (L, .frame [("model", .lst .list [.lst .list (.ref a :: refs su), .ref md, .ref mx]), ("kind", .int 4), ("name", .str name), ("part", partV part), ("some", .lst .list (so.map itemV)), ("classes", .lst .list (.ref a :: refs su)), ("data", .ref md), ("extra", .ref mx)]) :: (md, .lst .list (listsV da)) :: (mx, .lst .list (listsV xd)) :: (a, .lst .list (V.tup [.int 0, .str v0] :: V.tup [.int 5, .str v] :: l.map itemV)) :: lcs su) ?_
  repeat' (first | walk_at "st" )
  refine tr_range fun r t u v2 hr => ?_
  refine ⟨_, r, t, u, v2, _, rfl, by simp; omega, ins_perm _ _, ⟨.inl (by simp), rfl⟩, ?_, ?_⟩
  · rintro i rem cs' ⟨h, rfl⟩
    rcases h with h | h
    · obtain ⟨_, h2, h3⟩ := upto_cons h
      cases h2
      have hx0 : (V.tup [.int 0, .str v0] :: V.tup [.int 5, .str v] :: l.map itemV)[((0 : Nat) : Int).toNat]? = some (V.tup [.int 0, .str v0]) := rfl
      refine as_name (by walk_at "loc") ?_
      repeat' (first | walk_at "st" )
      refine op_in_data (es := vds [.int 5, .int 105]) (.fz rfl) (.fz rfl) (by decide +kernel) (by decide +kernel) (by have := fit'.un; omega) ?_
      refine ⟨false, by rfl, ?_⟩
      repeat' (first | walk_at "st" )
      exact ⟨_, View.loc (by walk_at "sub"), .inr (by have := upto_cons h; have h4 := this.1; rw [h3]; congr 1; omega), rfl⟩
    · obtain ⟨_, h2, h3⟩ := upto_cons h
      cases h2
      have hx0 : (V.tup [.int 0, .str v0] :: V.tup [.int 5, .str v] :: l.map itemV)[((1 : Nat) : Int).toNat]? = some (V.tup [.int 5, .str v]) := rfl
      refine as_name (by walk_at "loc") ?_
      repeat' (first | walk_at "st" )
      refine op_in_data (es := vds [.int 5, .int 105]) (.fz rfl) (.fz rfl) (by decide +kernel) (by decide +kernel) (by have := fit'.un; omega) ?_
      refine ⟨true, by rfl, ?_⟩
      repeat' (first | walk_at "st" )
      exact ⟨_, _, rfl, _, _, .refl, (a, (0, .s v0) :: (5, .s name) :: l) :: su, rfl, rfl, rfl, rfl⟩
  · rintro cs' ⟨h, rfl⟩
    rcases h with h | h <;> cases h
/-- where the plain lists get the new data's mark -/
inductive PlaceU (part : Option Str) (a : TL) : V → Prop
  | z : part = none → PlaceU part a (.int 0)
  | no (q : Str) : part = some q → (∀ p ∈ a, isNamed q p.2 = false) → PlaceU part a .none
  | at_ (q : Str) (a1 : TL) (p : Addr × List Item) (a2 : TL) : part = some q → a = a1 ++ p :: a2 → (∀ z ∈ a1, isNamed q z.2 = false) → isNamed q p.2 = true → PlaceU part a (.int ((1 + a1.length : Nat) : Int))
theorem its_turn2 (a b : TL) (p : Addr × List Item) (l : List Item) : its (a ++ (p.1, l) :: b) = its a ++ l :: its b := by simp [its]
theorem placeU_end {part : Option Str} {c : Addr × List Item} {r : TL} {pv : V} {name : Str} {so : List Item} {da xd : List (List Item)} (h : PlaceU part r pv) (hs : s1 name = "{") :
    (pv = .none ∧ ed0 name part so ⟨its (c :: r), da, xd⟩ = (("key" : Str), ⟨its (c :: r), da, xd⟩)) ∨
    ∃ x p y, c :: r = x ++ p :: y ∧ pv = .int ((x.length : Nat) : Int) ∧ ed0 name part so ⟨its (c :: r), da, xd⟩ = (("" : Str), ⟨its (x ++ (p.1, p.2 ++ [(102, .n da.length)]) :: y), da ++ [newApp name so], xd⟩) := by
  cases h with
  | z h =>
    subst h
    refine .inr ⟨[], c, r, rfl, rfl, ?_⟩
    unfold ed0
    rw [if_pos hs]
    rfl
  | no q h hna =>
    subst h
    refine .inl ⟨rfl, ?_⟩
    unfold ed0
    rw [if_pos hs]
    have hu : upd1 q (· ++ [((102 : Int), Val.n da.length)]) (its r) = none := upd1_none (fun z hz => by obtain ⟨w, hw, rfl⟩ := List.mem_map.mp hz; exact hna w hw)
    show (match upd1 q (· ++ [((102 : Int), Val.n da.length)]) (its r) with
      | some r' => (("" : Str), PM.mk (c.2 :: r') (da ++ [newApp name so]) xd)
      | none => (("key" : Str), PM.mk _ _ _)) = _
    rw [hu]
  | at_ q a1 p a2 h e hna hp =>
    subst h
    subst e
    refine .inr ⟨c :: a1, p, a2, rfl, by rw [List.length_cons, Nat.add_comm], ?_⟩
    unfold ed0
    rw [if_pos hs]
    have hu : upd1 q (· ++ [((102 : Int), Val.n da.length)]) (its (a1 ++ p :: a2)) = some (its (a1 ++ (p.1, p.2 ++ [(102, .n da.length)]) :: a2)) := by
      rw [its_app, its_turn2]
      exact upd1_hit (b := its a2) hp (fun z hz => by obtain ⟨w, hw, rfl⟩ := List.mem_map.mp hz; exact hna w hw)
    show (match upd1 q (· ++ [((102 : Int), Val.n da.length)]) (its (a1 ++ p :: a2)) with
      | some r' => (("" : Str), PM.mk (c.2 :: r') (da ++ [newApp name so]) xd)
      | none => (("key" : Str), PM.mk _ _ _)) = _
    rw [hu]
    rfl
theorem upd_lcs {x y : TL} {p : Addr × List Item} (l : List Item) : Upd p.1 (.lst .list (p.2.map itemV)) (.lst .list (l.map itemV)) (lcs (x ++ p :: y)) (lcs (x ++ (p.1, l) :: y)) := by
  unfold lcs
  rw [List.map_append, List.map_append]
  exact Upd.app .head _
set_option maxHeartbeats 4000000 in
theorem plain0_spec (K : Ctx w h0 mg mb) (fit : Fit 8 A) {md mx : Addr} {su : TL} {da xd : List (List Item)} {name : Str} {part : Option Str} {so : List Item} (W : WM ⟨its su, da, xd⟩) (hso : so.length ≤ 100) (hn : name.length ≤ 1000) (hsu : (su.drop 1).length ≤ 400) (hq : ∀ q, part = some q → q.length ≤ 1000) :
    CL (MM w h0) A (.ref 566) [modV md mx su, .int 0, .str name, partV part, itemsV so] (modK md mx su da xd) (PlPost md mx su (ed0 name part so ⟨its su, da, xd⟩)) X := by
  have X0 := K.X
  have G := K.G
  have TO := tagsOk K.X
  have gp := g_place K
  have n1 := n_len K
  have n2 := b_len K
  have n3 := n_range K
  have n4 := b_range K
  have hld := W.ld
  have hlx := W.lx
  dsimp only at hld hlx
  refine CL.viewV (CK.cl (cc_def (names := ["model", "kind", "name", "part", "some"]) (args := [modV md mx su, .int 0, .str name, partV part, itemsV so]) fit (fun B hS => ⟨_, hS _ _ (SS_of K.X (is_plain _).1 (by decide)), (is_plain _).2⟩) (fun B hS h hk => cr_plain K.X hS hk) (bind1 (fun vs h => by
    match vs, h with
    | [a, b, c, d, e], _ => exact ba_plain a b c d e) rfl) K.G.lim (by decide +kernel) (by simp) ?_))
  intro L hL
  show EXs _ _ _ _ ((L, .frame [("model", .lst .list [.lst .list (refs su), .ref md, .ref mx]), ("kind", .int 0), ("name", .str name), ("part", partV part), ("some", .lst .list (so.map itemV))]) :: (md, .lst .list (listsV da)) :: (mx, .lst .list (listsV xd)) :: lcs su) _ _
  have fit' := fit.deeper (envFn (Stmt.scp f_plain) L [] "_law_plain" 566 (.ref 565))
  have hd0 := fit'.hd
  obtain ⟨v0, v, l, r0, e0⟩ := W.base
  obtain ⟨c, su, rfl⟩ : ∃ c r, su = c :: r := by cases su with | nil => cases e0 | cons c r => exact ⟨c, r, rfl⟩
  have hsl : su.length ≤ 400 := hsu
  repeat' ((fail_if_success show EXs _ _ _ (.If (.Compare (.Subscript _ _ _) _ _ _) _ _ _ :: _) _ _ _); walk_at "st")
  refine ex_cons (ex_if ?_)
  repeat' ((fail_if_success show EXs _ _ _ (.Assign _ _ _ :: _) _ _ _); first | (show SL _ _ _ _ (.str _) _ _ _ _ _; refine sl_str (by omega) ?_) | walk_at "st")
  · rename_i hs
    have hs : s1 name = "{" := hs
    refine ex_cons (ex_assign (EV.post (PV := fun u c' => c' = (L, .frame [("model", .lst .list [.lst .list (refs (c :: su)), .ref md, .ref mx]), ("kind", .int 0), ("name", .str name), ("part", partV part), ("some", .lst .list (so.map itemV)), ("classes", .lst .list (refs (c :: su))), ("data", .ref md), ("extra", .ref mx)]) :: (md, .lst .list (listsV da)) :: (mx, .lst .list (listsV xd)) :: lcs (c :: su) ∧ PlaceU part [] u) ?_ ?_))
    · cases part with
      | none =>
        show EV _ _ _ _ ((L, .frame [_, _, _, ("part", .none), _, _, _, _]) :: _) _ _
        repeat' (first | walk_at "st")
        exact ⟨rfl, .z rfl⟩
      | some q =>
        show EV _ _ _ _ ((L, .frame [_, _, _, ("part", .str q), _, _, _, _]) :: _) _ _
        repeat' (first | walk_at "st")
        exact ⟨rfl, .no q rfl (fun _ h => by cases h)⟩
    rintro pv _ ⟨rfl, hpv⟩
    refine ⟨_, _, _, rfl, by walk_at "loc", ?_⟩
    refine ex_cons ?_
    refine ex_for_range2 hd0 (fun rem cs' => ∃ a b pv, su = a ++ b ∧ rem = upto (1 + a.length) b.length ∧ PlaceU part a pv ∧ cs' = (L, .frame [("model", .lst .list [.lst .list (refs (c :: su)), .ref md, .ref mx]), ("kind", .int 0), ("name", .str name), ("part", partV part), ("some", .lst .list (so.map itemV)), ("classes", .lst .list (refs (c :: su))), ("data", .ref md), ("extra", .ref mx), ("place", pv)]) :: (md, .lst .list (listsV da)) :: (mx, .lst .list (listsV xd)) :: lcs (c :: su)) ?_
    have hrl : (refs (c :: su)).length = su.length + 1 := by simp [refs]
    repeat' (first | walk_at "st" )
    have hE : ((refs (c :: su)).length : Int) = ((1 + su.length : Nat) : Int) := by rw [hrl, Nat.add_comm]
    rw [hE]
    refine tr_range2 fun r t u v2 hr => ?_
    refine ⟨1, su.length, r, t, u, v2, _, rfl, by omega, ins_perm _ _, ⟨[], su, pv, rfl, rfl, hpv, rfl⟩, ?_, ?_⟩
    · rintro i rem cs' ⟨a, b, pv, e, e2, hpv, rfl⟩
      cases b with
      | nil => cases e2
      | cons p b =>
        obtain ⟨h1, h2, h3⟩ := upto_cons e2
        cases h2
        have hlen : rem.length = b.length := by simp at h1; omega
        rw [hlen] at h3
        have hal : a.length ≤ 500 := by have := congrArg List.length e; simp at this; omega
        have done_ : rem = upto (1 + (a ++ [p]).length) b.length := by rw [h3]; simp [Nat.add_assoc]
        have hsu2 : su = (a ++ [p]) ++ b := by rw [e]; simp
        refine as_name (by walk_at "loc") ?_
        cases hpv with
        | z h =>
          repeat' (first | walk_at "st" )
          exact ⟨_, View.loc (by walk_at "sub"), a ++ [p], b, _, hsu2, done_, .z h, rfl⟩
        | at_ q a1 p1 a2 h e1 hna hp =>
          repeat' (first | walk_at "st" )
          exact ⟨_, View.loc (by walk_at "sub"), a ++ [p], b, _, hsu2, done_, .at_ q a1 p1 (a2 ++ [p]) h (by rw [e1]; simp) hna hp, rfl⟩
        | no q h hna =>
          subst h
          have hpm : p ∈ c :: su := by rw [e]; simp
          obtain ⟨hc, hv, ht, hp⟩ := (W.hs p.2 (mem_its hpm)).1
          have hx0 : (refs (c :: su))[((1 + a.length : Nat) : Int).toNat]? = some (.ref p.1) := by rw [e]; simp [refs, Nat.add_comm]
          have hmT : (p.1, MO.lst .list (V.tup [.int hc, .str hv] :: ht.map itemV)) ∈ lcs (c :: su) := by
            have := mem_lcs hpm
            rw [hp] at this
            exact this
          show EXs _ _ _ _ ((L, .frame [("model", .lst .list [.lst .list (refs (c :: su)), .ref md, .ref mx]), ("kind", .int 0), ("name", .str name), ("part", .str q), ("some", .lst .list (so.map itemV)), ("classes", .lst .list (refs (c :: su))), ("data", .ref md), ("extra", .ref mx), ("place", .none), ("at", .int ((1 + a.length : Nat) : Int))]) :: _) _ _
          repeat' (first | walk_at "st" )
          refine it_list (.tail _ (.tail _ (.tail _ hmT))) (by omega) (by omega) rfl ?_
          repeat' (first | walk_at "st" )
          · rename_i hv2
            exact ⟨_, View.loc (loc' := [("model", .lst .list [.lst .list (refs (c :: su)), .ref md, .ref mx]), ("kind", .int 0), ("name", .str name), ("part", .str q), ("some", .lst .list (so.map itemV)), ("classes", .lst .list (refs (c :: su))), ("data", .ref md), ("extra", .ref mx), ("place", .int ((1 + a.length : Nat) : Int))]) (by walk_at "sub"), a ++ [p], b, _, hsu2, done_, .at_ q a p [] rfl rfl hna (by rw [hp]; exact beq_iff_eq.mpr hv2), rfl⟩
          · rename_i hv2
            exact ⟨_, View.loc (by walk_at "sub"), a ++ [p], b, _, hsu2, done_, .no q rfl (fun z hz => by
              rcases List.mem_append.mp hz with q' | q'
              · exact hna z q'
              · rw [List.mem_singleton.mp q', hp]; exact beq_eq_false_iff_ne.mpr hv2), rfl⟩
    · rintro cs' ⟨a, b, pv, e, e2, hpv, rfl⟩
      have : b = [] := by cases b with | nil => rfl | cons _ _ => cases e2
      subst this
      rw [List.append_nil] at e
      subst e
      rcases placeU_end (c := c) (so := so) (da := da) (xd := xd) hpv hs with ⟨rfl, he⟩ | ⟨x, p, y, e, rfl, he⟩
      · repeat' (first | walk_at "st" )
        exact ⟨_, _, rfl, _, _, .refl, c :: su, by rw [he]; rfl, rfl, by rw [he], by rw [he]; rfl⟩
      · have hxl : x.length ≤ 500 := by have := congrArg List.length e; simp at this; omega
        have hpm : p ∈ c :: su := by rw [e]; simp
        have hp2 := (W.hs p.2 (mem_its hpm)).2
        have hx0 : (refs (c :: su))[((x.length : Nat) : Int).toNat]? = some (.ref p.1) := by rw [e]; simp [refs]
        rw [e] at hx0 he ⊢
        repeat' (first | walk_at "st" )
        have hmp : (p.1, MO.lst .list (p.2.map itemV)) ∈ lcs (x ++ p :: y) := mem_lcs (by simp)
        refine ⟨_, meth_append TO (.own p.1 .list _ (.tail _ (.tail _ (.tail _ hmp)))), keep_bi _, ?_⟩
        repeat' ((fail_if_success show CL _ _ (.builtin "list.append") _ _ _ _); walk_at "st")
        have e1 : p.2.map itemV ++ [V.tup [.int 102, .int ((listsV da).length : Nat)]] = (p.2 ++ [((102 : Int), Val.n da.length)]).map itemV := by
          rw [lists_len]; simp [itemV, Val.v]
        refine tr_append TO (k := .list) (xs := p.2.map itemV) (cs' := (L, .frame _) :: (md, .lst .list (listsV da)) :: (mx, .lst .list (listsV xd)) :: lcs (x ++ (p.1, p.2 ++ [(102, .n da.length)]) :: y)) (.tail (.tail (.tail (by rw [e1]; exact upd_lcs _)))) (by simp; omega) ?_
        repeat' (first | walk_at "st" )
        refine op_add_list_fz (.inl rfl) (.inl rfl) (by simp; omega) ?_
        repeat' (first | walk_at "st" )
        refine op_add_list_fz (.inl rfl) (.inl rfl) (by simp; omega) ?_
        repeat' (first | walk_at "st" )
        have e2 : listsV (da ++ [newApp name so]) = listsV da ++ [V.lst .list ([V.tup [.int 102, .str name]] ++ so.map itemV ++ [V.tup [.int 102, .str "}"]])] := by simp [listsV, itemsV, newApp, itemV, Val.v]
        refine ⟨_, _, rfl, _, modK md mx (x ++ (p.1, p.2 ++ [(102, .n da.length)]) :: y) (da ++ [newApp name so]) xd, .of (View.of_eq ?_), x ++ (p.1, p.2 ++ [(102, .n da.length)]) :: y, by rw [he]; rfl, by simp [refs], by rw [he], by rw [he]⟩
        unfold modK
        rw [e2]
  · rename_i hs
    have hs : s1 name ≠ "{" := hs
    have he : ed0 name part so ⟨its (c :: su), da, xd⟩ = (("value" : Str), ⟨its (c :: su), da, xd⟩) := by unfold ed0; rw [if_neg hs]
    exact ⟨_, _, rfl, _, _, .refl, c :: su, by rw [he]; rfl, rfl, by rw [he], by rw [he]; rfl⟩
end

end
section
open PySem PySem.W PySem.W.X PyProof.Rows
set_option Elab.async false
set_option maxRecDepth 100000
set_option linter.unusedVariables false
set_option linter.unusedSimpArgs false
/-- the plain lists that the law begins with -/
def madeP (o1 o2 o3 : Option (List Row)) : PM :=
  ⟨((0, .s "LINE") :: (5, .s "FF") :: (match o1 with | none => [] | some _ => [(102, .n 0)])) :: (match o2 with | none => [] | some r => [(100, .s "AcDbLine") :: r.map rowI]),
   (match o1 with | none => [] | some r => [(102, .s "{APP") :: (r.map rowI ++ [(102, .s "APP}")])]), (match o3 with | none => [] | some r => [(1001, .s "APP") :: r.map rowI])⟩
abbrev RsOk (menu : List Row) (o : Option (List Row)) : Prop := ∀ r, o = some r → r.length ≤ 3 ∧ ∀ x ∈ r, x ∈ menu
def su0 (o1 : Option (List Row)) : List Item := (0, .s "LINE") :: (5, .s "FF") :: (match o1 with | none => [] | some _ => [(102, .n 0)])
def da0 (o1 : Option (List Row)) : List (List Item) := match o1 with | none => [] | some r => [(102, .s "{APP") :: (r.map rowI ++ [(102, .s "APP}")])]
def xd0 (o3 : Option (List Row)) : List (List Item) := match o3 with | none => [] | some r => [(1001, .s "APP") :: r.map rowI]
def su2 (o2 : Option (List Row)) : List (List Item) := match o2 with | none => [] | some r => [(100, .s "AcDbLine") :: r.map rowI]
def ST (L m mc c0 md mx c : Addr) (ns : List Int) (i v : Int) (o1 o3 : Option (List Row)) (t : TL) : Cells :=
  (L, .frame [("c", .ref c), ("model", .ref m)]) :: (m, .lst .list [.ref mc, .ref md, .ref mx]) :: (mc, .lst .list (.ref c0 :: refs t)) :: (c0, .lst .list ((su0 o1).map itemV)) :: (md, .lst .list (listsV (da0 o1))) :: (mx, .lst .list (listsV (xd0 o3))) :: cC c ns i v :: lcs t
section
variable {M : Md} {w : World} {h0 : Heap} {A : Around} {mg mb : Str → Option Value} {X : Value → Cells → Prop} {cs cs' fin : Cells} {PV : V → Cells → Prop} {PF PF' : Fl → Cells → Prop} {env : Env}
theorem EX.mono {st : Stmt} (h : EX M A env st cs PF X) (hp : ∀ f c, PF f c → PF' f c) : EX M A env st cs PF' X := ⟨h.it.mono hp fun _ _ x => x⟩
theorem lcs_sub (D : Addr) (u : V) (t : TL) : Cells.sub (lcs t) D u = lcs t := by
  unfold lcs Cells.sub
  rw [List.map_map]
  refine List.map_congr_left fun p _ => ?_
  show (p.1, MO.lst .list (vsubs D u (p.2.map itemV))) = _
  rw [vsubs_clo _ _ _ (clos_items _)]
theorem ints_sub (D : Addr) (u : V) (ns : List Int) (i v : Int) : vsubs D u [.lst .list (ns.map .int), .int i, .int v] = [.lst .list (ns.map .int), .int i, .int v] := vsubs_clo _ _ _ (by
  have : clos (ns.map V.int) = true := clos_map (fun _ => rfl) ns
  simp [clos, clo, this])
theorem made_view {m mc c0 md mx c : Addr} {ns : List Int} {i v : Int} {o1 o3 : Option (List Row)} {t : TL} : ViewV M (.ref m) ((m, .lst .list [.ref mc, .ref md, .ref mx]) :: (mc, .lst .list (.ref c0 :: refs t)) :: (c0, .lst .list ((su0 o1).map itemV)) :: (md, .lst .list (listsV (da0 o1))) :: (mx, .lst .list (listsV (xd0 o3))) :: cC c ns i v :: lcs t)
    (modV md mx ((c0, su0 o1) :: t)) (cC c ns i v :: modK md mx ((c0, su0 o1) :: t) (da0 o1) (xd0 o3)) := by
  refine .nodup fun nd => ?_
  simp only [Cells.ad, List.map_cons, List.nodup_cons, List.mem_cons, not_or] at nd
  obtain ⟨⟨n1, _⟩, ⟨_, n2, n3, _⟩, _⟩ := nd
  refine .fz (a := mc) (.tail .head) (vsub_ne _ n1) (r' := (m, .lst .list [.lst .list (.ref c0 :: refs t), .ref md, .ref mx]) :: (c0, .lst .list ((su0 o1).map itemV)) :: (md, .lst .list (listsV (da0 o1))) :: (mx, .lst .list (listsV (xd0 o3))) :: cC c ns i v :: lcs t) ?_ ?_
  · have e := lcs_sub mc (.lst .list (.ref c0 :: refs t)) t
    have e2 := ints_sub mc (.lst .list (.ref c0 :: refs t)) ns i v
    show (m, MO.lst .list (vsubs _ _ _)) :: (c0, MO.lst .list (vsubs _ _ _)) :: (md, MO.lst .list (vsubs _ _ _)) :: (mx, MO.lst .list (vsubs _ _ _)) :: (c, MO.lst .list (vsubs _ _ _)) :: Cells.sub (lcs t) _ _ = _
    rw [e, e2, vsubs_clo _ _ _ (clos_items _), vsubs_clo _ _ _ (clos_lists _), vsubs_clo _ _ _ (clos_lists _)]
    simp only [vsubs, vsub_ref, vsub_ne _ (Ne.symm n2), vsub_ne _ (Ne.symm n3)]
  · refine ViewV.fzF.trans (.of (View.perm ?_))
    exact Picks.perm (ps := [cC c ns i v, (md, .lst .list (listsV (da0 o1))), (mx, .lst .list (listsV (xd0 o3))), (c0, .lst .list ((su0 o1).map itemV))]) (by walk_at "picks")
theorem View.perm0 {l l' : Cells} (h : l.Perm l') : View M l l' := View.perm h
set_option maxHeartbeats 4000000 in
theorem made_spec (K : Ctx w h0 mg mb) (fit : Fit 8 A) {c : Addr} {ns : List Int} {i v : Int} (hi : 0 ≤ i) (hi' : i ≤ 4000) (hv : 0 ≤ v) (hv' : v < 999983) (hns : ns.length ≤ 63) :
    CL (MM w h0) A (.ref 580) [.ref c] [cC c ns i v] (fun u cs' => ∃ (o1 o2 o3 : Option (List Row)) (i' v' : Int) (md mx : Addr) (su : TL), RsOk menuS o1 ∧ RsOk menuS o2 ∧ RsOk menuM o3 ∧ 0 ≤ i' ∧ i' ≤ i + 20 ∧ 0 ≤ v' ∧ v' < 999983 ∧ its su = (madeP o1 o2 o3).su ∧ u = modV md mx su ∧
      cs' = cC c ns i' v' :: modK md mx su (madeP o1 o2 o3).da (madeP o1 o2 o3).xd) X := by
  have X0 := K.X
  have G := K.G
  have TO := tagsOk K.X
  have h1 := g_take K
  have h2 := g_some K
  have h3 := g_more K
  refine CL.viewV (CK.cl (cc_def (names := ["c"]) (args := [.ref c]) fit (fun B hS => ⟨_, hS _ _ (SS_of K.X (is_made _).1 (by decide)), (is_made _).2⟩) (fun B hS h hk => cr_made K.X hS hk) (bind1 (len1 fun a => ba_made a) rfl) K.G.lim (by decide +kernel) (by simp) ?_))
  intro L hL
  show EXs _ _ _ _ ((L, .frame [("c", .ref c)]) :: [(c, .lst .list [.lst .list (ns.map .int), .int i, .int v])]) _ _
  have fit' := fit.deeper (envFn (Stmt.scp f_made) L [] "_law_made" 580 (.ref 579))
  have hd0 := fit'.hd
  repeat' ((fail_if_success show EXs _ _ _ (.If _ _ _ _ :: _) _ _ _); walk_at "st")
  rename_i c0 _ mc _ md _ mx _ m _
  refine EXs.view (View.picks (c' := ST L m mc c0 md mx c ns i v none none []) (r := []) (by unfold ST; walk_at "picks")) ?_
  refine ex_cons (EX.mono (PF := fun f cs' => f = .next ∧ ∃ o1 i' v', RsOk menuS o1 ∧ 0 ≤ i' ∧ i' ≤ i + 5 ∧ 0 ≤ v' ∧ v' < 999983 ∧ View (MM w h0) cs' (ST L m mc c0 md mx c ns i' v' o1 none [])) ?_ ?_)
  · show EX _ _ _ _ ((L, .frame [("c", .ref c), ("model", .ref m)]) :: (m, .lst .list [.ref mc, .ref md, .ref mx]) :: (mc, .lst .list [.ref c0]) :: (c0, .lst .list [V.tup [.int 0, .str "LINE"], V.tup [.int 5, .str "FF"]]) :: (md, .lst .list []) :: (mx, .lst .list []) :: [(c, .lst .list [.lst .list (ns.map .int), .int i, .int v])]) _ _
    repeat' ((fail_if_success show CL _ _ (.ref 530) _ _ _ _); walk_at "st")
    refine CL.use (take_spec K (fit'.le (by decide)) c ns i v 2 (by omega) (by omega) (by omega) (by omega) (by omega) (by omega) hns) (by walk_at "picks") ?_
    rintro x cc ⟨d, i', v', rfl, h4, h5, h6, h7, h8, h9, rfl⟩
    repeat' ((fail_if_success show CL _ _ (.ref 540) _ _ _ _); walk_at "st")
    · refine CL.use (some_spec K (fit'.le (by decide)) h6 (by omega) h8 h9 hns) (by walk_at "picks") ?_
      rintro x cc ⟨so, hsl, hsm, rfl, hC⟩
      cases hC with | mk i2 v2 k1 k2 k3 k4 =>
      unfold rowsV
      repeat' (first | walk_at "st" )
      refine op_add_list_fz (.inr ⟨_, rfl, by walk_at "mem"⟩) (.inl rfl) (by simp; omega) ?_
      repeat' (first | walk_at "st" )
      refine op_add_list_fz (.inl rfl) (.inr ⟨_, rfl, by walk_at "mem"⟩) (by simp; omega) ?_
      repeat' (first | walk_at "st" )
      refine ⟨rfl, some so, i2, v2, fun r hr => by cases hr; exact ⟨hsl, hsm⟩, k1, by omega, k3, k4, ?_⟩
      have e1 : listsV (da0 (some so)) = [V.lst .list ([V.tup [.int 102, .str "{APP"]] ++ so.map rowV ++ [V.tup [.int 102, .str "APP}"]])] := by simp [listsV, da0, itemsV, itemV, Val.v, rowV, rowI, Function.comp_def]
      rename_i t1 _ t2 _
      refine View.picksT2 (T := []) (x := (t2, .lst .list [V.tup [.int 102, .str "APP}"]])) (y := (t1, .lst .list [V.tup [.int 102, .str "{APP"]])) (ps := ST L m mc c0 md mx c ns i2 v2 (some so) none []) ?_
      unfold ST
      rw [e1]
      walk_at "picks"
    · refine ⟨rfl, none, i', v', (fun _ h => by cases h), h6, by omega, h8, h9, ?_⟩
      refine View.picks (r := []) ?_
      unfold ST
      walk_at "picks"
  · rintro f cs' ⟨rfl, o1, i1, v1, hr1, q1, q2, q3, q4, hvw⟩
    refine EXs.view hvw ?_
    refine ex_cons (EX.mono (PF := fun f cs' => f = .next ∧ ∃ o2 t i' v', RsOk menuS o2 ∧ its t = su2 o2 ∧ 0 ≤ i' ∧ i' ≤ i + 10 ∧ 0 ≤ v' ∧ v' < 999983 ∧ View (MM w h0) cs' (ST L m mc c0 md mx c ns i' v' o1 none t)) ?_ ?_)
    · show EX _ _ _ _ ((L, .frame [("c", .ref c), ("model", .ref m)]) :: (m, .lst .list [.ref mc, .ref md, .ref mx]) :: (mc, .lst .list [.ref c0]) :: (c0, .lst .list ((su0 o1).map itemV)) :: (md, .lst .list (listsV (da0 o1))) :: (mx, .lst .list []) :: [(c, .lst .list [.lst .list (ns.map .int), .int i1, .int v1])]) _ _
      repeat' ((fail_if_success show CL _ _ (.ref 530) _ _ _ _); walk_at "st")
      refine CL.use (take_spec K (fit'.le (by decide)) c ns i1 v1 2 (by omega) (by omega) (by omega) (by omega) (by omega) (by omega) hns) (by walk_at "picks") ?_
      rintro x cc ⟨d, i', v', rfl, h4, h5, h6, h7, h8, h9, rfl⟩
      repeat' ((fail_if_success show CL _ _ (.ref 540) _ _ _ _); walk_at "st")
      · refine CL.use (some_spec K (fit'.le (by decide)) h6 (by omega) h8 h9 hns) (by walk_at "picks") ?_
        rintro x cc ⟨so, hsl, hsm, rfl, hC⟩
        cases hC with | mk i2 v2 k1 k2 k3 k4 =>
        unfold rowsV
        repeat' (first | walk_at "st" )
        refine op_add_list (.inr ⟨_, rfl, by walk_at "mem"⟩) (.inl rfl) (by simp; omega) ?_
        intro c1 hc1
        repeat' (first | walk_at "st" )
        rename_i t1 _
        refine ⟨rfl, some so, [(c1, (100, .s "AcDbLine") :: so.map rowI)], i2, v2, fun r hr => by cases hr; exact ⟨hsl, hsm⟩, rfl, k1, by omega, k3, k4, ?_⟩
        have e1 : lcs [(c1, ((100 : Int), Val.s "AcDbLine") :: so.map rowI)] = [(c1, .lst .list ([V.tup [.int 100, .str "AcDbLine"]] ++ so.map rowV))] := by simp [lcs, itemV, Val.v, rowV, rowI, Function.comp_def]
        refine View.picksT1 (T := []) (x := (t1, .lst .list [V.tup [.int 100, .str "AcDbLine"]])) (ps := ST L m mc c0 md mx c ns i2 v2 o1 none [(c1, (100, .s "AcDbLine") :: so.map rowI)]) ?_
        unfold ST
        rw [e1]
        walk_at "picks"
      · refine ⟨rfl, none, [], i', v', (fun _ h => by cases h), rfl, h6, by omega, h8, h9, ?_⟩
        refine View.picks (r := []) ?_
        unfold ST
        walk_at "picks"
    · rintro f cs' ⟨rfl, o2, t, i2, v2, hr2, ht, q1, q2, q3, q4, hvw⟩
      refine EXs.view hvw ?_
      refine ex_cons (EX.mono (PF := fun f cs' => f = .next ∧ ∃ o3 i' v', RsOk menuM o3 ∧ 0 ≤ i' ∧ i' ≤ i + 15 ∧ 0 ≤ v' ∧ v' < 999983 ∧ View (MM w h0) cs' (ST L m mc c0 md mx c ns i' v' o1 o3 t)) ?_ ?_)
      · show EX _ _ _ _ ((L, .frame [("c", .ref c), ("model", .ref m)]) :: (m, .lst .list [.ref mc, .ref md, .ref mx]) :: (mc, .lst .list (.ref c0 :: refs t)) :: (c0, .lst .list ((su0 o1).map itemV)) :: (md, .lst .list (listsV (da0 o1))) :: (mx, .lst .list []) :: (c, .lst .list [.lst .list (ns.map .int), .int i2, .int v2]) :: lcs t) _ _
        repeat' ((fail_if_success show CL _ _ (.ref 530) _ _ _ _); walk_at "st")
        refine CL.use (take_spec K (fit'.le (by decide)) c ns i2 v2 2 (by omega) (by omega) (by omega) (by omega) (by omega) (by omega) hns) (by walk_at "picks") ?_
        rintro x cc ⟨d, i', v', rfl, h4, h5, h6, h7, h8, h9, rfl⟩
        repeat' ((fail_if_success show CL _ _ (.ref 545) _ _ _ _); walk_at "st")
        · refine CL.use (more_spec K (fit'.le (by decide)) h6 (by omega) h8 h9 hns) (by walk_at "picks") ?_
          rintro x cc ⟨so, hsl, hsm, rfl, hC⟩
          cases hC with | mk i3 v3 k1 k2 k3 k4 =>
          unfold rowsV
          repeat' (first | walk_at "st" )
          refine op_add_list_fz (.inr ⟨_, rfl, by walk_at "mem"⟩) (.inl rfl) (by simp; omega) ?_
          repeat' (first | walk_at "st" )
          rename_i t1 _
          refine ⟨rfl, some so, i3, v3, fun r hr => by cases hr; exact ⟨hsl, hsm⟩, k1, by omega, k3, k4, ?_⟩
          have e1 : listsV (xd0 (some so)) = [V.lst .list ([V.tup [.int 1001, .str "APP"]] ++ so.map rowV)] := by simp [listsV, xd0, itemsV, itemV, Val.v, rowV, rowI, Function.comp_def]
          refine View.picksT1 (T := lcs t) (x := (t1, .lst .list [V.tup [.int 1001, .str "APP"]])) (ps := [(L, .frame [("c", .ref c), ("model", .ref m)]), (m, .lst .list [.ref mc, .ref md, .ref mx]), (mc, .lst .list (.ref c0 :: refs t)), (c0, .lst .list ((su0 o1).map itemV)), (md, .lst .list (listsV (da0 o1))), (mx, .lst .list (listsV (xd0 (some so)))), cC c ns i3 v3]) ?_
          rw [e1]
          walk_at "picks"
        · refine ⟨rfl, none, i', v', (fun _ h => by cases h), h6, by omega, h8, h9, ?_⟩
          refine View.picksT (T := lcs t) (ps := [(L, .frame [("c", .ref c), ("model", .ref m)]), (m, .lst .list [.ref mc, .ref md, .ref mx]), (mc, .lst .list (.ref c0 :: refs t)), (c0, .lst .list ((su0 o1).map itemV)), (md, .lst .list (listsV (da0 o1))), (mx, .lst .list (listsV (xd0 none))), cC c ns i' v']) ?_
          walk_at "picks"
      · rintro f cs' ⟨rfl, o3, i3, v3, hr3, p1, p2, p3, p4, hvw⟩
        refine EXs.view hvw ?_
        unfold ST
        repeat' (first | walk_at "st" )
        refine ⟨_, _, rfl, _, _, made_view, o1, o2, o3, i3, v3, md, mx, (c0, su0 o1) :: t, hr1, hr2, hr3, p1, by omega, p3, p4, ?_, rfl, ?_⟩
        · show su0 o1 :: its t = _
          rw [ht]; rfl
        · cases o1 <;> cases o3 <;> rfl
end

end
section
open PySem PySem.W PySem.W.X PyProof.Rows
set_option Elab.async false
set_option maxRecDepth 100000
set_option linter.unusedVariables false
set_option linter.unusedSimpArgs false
abbrev ix (k : Nat) : Item := (102, .n k)
def ks0 : Option (List Row) → List Nat
  | none => []
  | some _ => [0]
abbrev SoOk (menu so : List Row) : Prop := so.length ≤ 3 ∧ ∀ r ∈ so, r ∈ menu
abbrev DaOk (l : List Item) : Prop := ∃ (nm : Str) (so : List Row) (z : Str), l = (102, .s nm) :: (so.map rowI ++ [(102, .s z)]) ∧ nm ∈ (["{APP", "{B"] : List Str) ∧ (z = "}" ∨ z = tl nm ++ "}") ∧ SoOk menuS so
abbrev XdOk (l : List Item) : Prop := ∃ (nm : Str) (so : List Row), l = (1001, .s nm) :: so.map rowI ∧ nm ∈ (["APP", "B", "C"] : List Str) ∧ SoOk menuM so
abbrev SuOk (n d : Nat) (l : List Item) : Prop := ∃ (so : List Row) (ks : List Nat), l = (100, .s "AcDbLine") :: (so.map rowI ++ ks.map ix) ∧ SoOk menuS so ∧ (∀ k ∈ ks, k < d) ∧ ks.length ≤ n
structure I02 (n : Nat) (f : Bool) (p : PM) (v : Str) (ks : List Nat) (r : List (List Item)) : Prop where
  hv : v ∈ (["FF", "A1", "B2", "C3"] : List Str)
  su : p.su = ((0, .s "LINE") :: (5, .s v) :: ks.map ix) :: r
  hk : ∀ k ∈ ks, k < p.da.length
  lk : ks.length ≤ n + 1
  lr : r.length ≤ 1
  hr : ∀ l ∈ r, SuOk n p.da.length l
  hd : ∀ l ∈ p.da, DaOk l
  hx : ∀ l ∈ p.xd, XdOk l
  ld : p.da.length ≤ n + 1
  lx : p.xd.length ≤ n + 1
  ff : f = true → ks = List.range p.da.length ∧ ∀ l ∈ r, ∃ so, l = (100, .s "AcDbLine") :: so.map rowI ∧ SoOk menuS so
def Inv02 (n : Nat) (f : Bool) (p : PM) : Prop := ∃ v ks r, I02 n f p v ks r
theorem SuOk.grow {n m d e : Nat} {l : List Item} (h : SuOk n d l) (hn : n ≤ m) (hd : d ≤ e) : SuOk m e l := by
  obtain ⟨so, ks, h1, h2, h3, h4⟩ := h
  exact ⟨so, ks, h1, h2, fun k hk => Nat.lt_of_lt_of_le (h3 k hk) hd, Nat.le_trans h4 hn⟩
theorem Inv02.mono {n m : Nat} {f g : Bool} {p : PM} (h : Inv02 n f p) (hn : n ≤ m) (hf : g = true → f = true) : Inv02 m g p := by
  obtain ⟨v, ks, r, h⟩ := h
  exact ⟨v, ks, r, h.hv, h.su, h.hk, by have := h.lk; omega, h.lr, fun l hl => (h.hr l hl).grow hn (Nat.le_refl _), h.hd, h.hx, by have := h.ld; omega, by have := h.lx; omega, fun hg => h.ff (hf hg)⟩
theorem made_inv {o1 o2 o3 : Option (List Row)} (h1 : RsOk menuS o1) (h2 : RsOk menuS o2) (h3 : RsOk menuM o3) : Inv02 0 true (madeP o1 o2 o3) := by
  refine ⟨"FF", ks0 o1, su2 o2, by decide, ?_, ?_, ?_, ?_, ?_, ?_, ?_, ?_, ?_, ?_⟩
  · cases o1 <;> cases o2 <;> rfl
  · cases o1 with
    | none => intro k hk; cases hk
    | some r => intro k hk; rw [List.mem_singleton.mp hk]; exact Nat.zero_lt_one
  · cases o1 <;> simp [ks0]
  · cases o2 <;> simp [su2]
  · cases o2 with
    | none => intro l hl; cases hl
    | some r => intro l hl; rw [List.mem_singleton.mp hl]; exact ⟨r, [], by simp, h2 r rfl, (fun _ h => by cases h), Nat.le_refl _⟩
  · cases o1 with
    | none => intro l hl; cases hl
    | some r => intro l hl; rw [List.mem_singleton.mp hl]; exact ⟨"{APP", r, "APP}", rfl, by decide, .inr (by decide +kernel), h1 r rfl⟩
  · cases o3 with
    | none => intro l hl; cases hl
    | some r => intro l hl; rw [List.mem_singleton.mp hl]; exact ⟨"APP", r, rfl, by decide, h3 r rfl⟩
  · cases o1 <;> simp [madeP]
  · cases o3 <;> simp [madeP]
  · intro _
    refine ⟨by cases o1 <;> rfl, ?_⟩
    cases o2 with
    | none => intro l hl; cases hl
    | some r => intro l hl; rw [List.mem_singleton.mp hl]; exact ⟨r, rfl, h2 r rfl⟩
theorem upd1_mem {name : Str} {f : List Item → List Item} : ∀ {ls ls' : List (List Item)}, upd1 name f ls = some ls' → ls'.length = ls.length ∧ ∀ l' ∈ ls', l' ∈ ls ∨ ∃ l ∈ ls, l' = f l
  | [], _, h => by cases h
  | l :: r, ls', h => by
    unfold upd1 at h
    split at h
    · cases h
      refine ⟨rfl, fun l' hl => ?_⟩
      rcases List.mem_cons.mp hl with rfl | hl
      · exact .inr ⟨l, .head _, rfl⟩
      · exact .inl (.tail _ hl)
    · cases hu : upd1 name f r with
      | none => rw [hu] at h; cases h
      | some r' =>
        rw [hu] at h
        cases h
        obtain ⟨e, hm⟩ := upd1_mem hu
        refine ⟨by simp [e], fun l' hl => ?_⟩
        rcases List.mem_cons.mp hl with rfl | hl
        · exact .inl (.head _)
        · rcases hm l' hl with q | ⟨z, hz, q⟩
          · exact .inl (.tail _ q)
          · exact .inr ⟨z, .tail _ hz, q⟩
theorem putApp_ok {l : List Item} {so : List Row} (h : DaOk l) (hs : SoOk menuS so) : DaOk (putApp (so.map rowI) l) := by
  obtain ⟨nm, so', z, rfl, h1, h2, _⟩ := h
  exact ⟨nm, so, z, by simp [putApp], h1, h2, hs⟩
theorem putX_ok {l : List Item} {so : List Row} (h : XdOk l) (hs : SoOk menuM so) : XdOk (putX (so.map rowI) l) := by
  obtain ⟨nm, so', rfl, h1, _⟩ := h
  exact ⟨nm, so, by simp [putX], h1, hs⟩
/-- the names that an edit of the kind may use -/
def names : Nat → List Str
  | 0 => ["{APP", "{B", "C"]
  | 1 => ["{APP", "{B", "{N"]
  | 2 => ["APP", "B", "C"]
  | 3 => ["APP", "B", "C"]
  | _ => ["A1", "B2", "C3"]
def menuOf (k : Nat) : List Row := if k = 2 ∨ k = 3 then menuM else menuS
theorem edit_inv {n k : Nat} {f : Bool} {p : PM} {name : Str} {part : Option Str} {so : List Row} (h : Inv02 n f p) (hk : k ≤ 4) (hn : name ∈ names k) (hs : SoOk (menuOf k) so) : Inv02 (n + 1) (f && part.isNone) (edit k name part (so.map rowI) p).2 := by
  have keep : Inv02 (n + 1) (f && part.isNone) p := h.mono (Nat.le_succ _) (fun q => by simp at q; exact q.1)
  obtain ⟨v, ks, r, h⟩ := h
  have hff : (f && part.isNone) = true → f = true := fun q => by simp at q; exact q.1
  obtain rfl | rfl | rfl | rfl | rfl : k = 0 ∨ k = 1 ∨ k = 2 ∨ k = 3 ∨ k = 4 := by omega
  · show Inv02 _ _ (ed0 _ _ _ _).2
    unfold ed0
    split
    · rename_i hb
      have hna : name ∈ (["{APP", "{B"] : List Str) := by
        have hn' : name ∈ (["{APP", "{B", "C"] : List Str) := hn
        simp only [List.mem_cons, List.not_mem_nil, or_false] at hn' ⊢
        rcases hn' with rfl | rfl | rfl
        · exact .inl rfl
        · exact .inr rfl
        · exact absurd hb (by decide +kernel)
      have hnew : DaOk (newApp name (so.map rowI)) := ⟨name, so, "}", rfl, hna, .inl rfl, hs⟩
      have hdn : ∀ l ∈ p.da ++ [newApp name (so.map rowI)], DaOk l := fun l hl => by
        rcases List.mem_append.mp hl with q | q
        · exact h.hd l q
        · rw [List.mem_singleton.mp q]; exact hnew
      have hld := h.ld
      have hlk := h.lk
      have hlx := h.lx
      rw [h.su]
      cases part with
      | none =>
        refine ⟨v, ks ++ [p.da.length], r, h.hv, by simp [ix], ?_, by simp; omega, h.lr, fun l hl => (h.hr l hl).grow (Nat.le_succ _) (by simp), hdn, h.hx, by simp; omega, by show p.xd.length ≤ _; omega, fun q => ?_⟩
        · intro k hk
          show k < (p.da ++ [_]).length
          rw [List.length_append, List.length_singleton]
          rcases List.mem_append.mp hk with q | q
          · have := h.hk k q; omega
          · rw [List.mem_singleton.mp q]; omega
        · obtain ⟨e1, e2⟩ := h.ff (hff q)
          refine ⟨?_, e2⟩
          show ks ++ [p.da.length] = List.range (p.da ++ [_]).length
          rw [List.length_append, List.length_singleton, List.range_succ, e1]
      | some q =>
        dsimp only
        cases hu : upd1 q (· ++ [((102 : Int), Val.n p.da.length)]) r with
        | none => exact keep
        | some r' =>
          obtain ⟨hlr, hm⟩ := upd1_mem hu
          refine ⟨v, ks, r', h.hv, rfl, fun k hk => ?_, by omega, by rw [hlr]; exact h.lr, fun l hl => ?_, hdn, h.hx, by simp; omega, by show p.xd.length ≤ _; omega, fun q => by simp at q⟩
          · have := h.hk k hk
            show k < (p.da ++ [_]).length
            rw [List.length_append, List.length_singleton]; omega
          · rcases hm l hl with q | ⟨z, hz, rfl⟩
            · exact (h.hr l q).grow (Nat.le_succ _) (by simp)
            · obtain ⟨so', ks', rfl, h2, h3, h4⟩ := h.hr z hz
              refine ⟨so', ks' ++ [p.da.length], by simp [ix], h2, fun k hk => ?_, by simp; omega⟩
              show k < (p.da ++ [_]).length
              rw [List.length_append, List.length_singleton]
              rcases List.mem_append.mp hk with q | q
              · have := h3 k q; omega
              · rw [List.mem_singleton.mp q]; omega
    · exact keep
  · show Inv02 _ _ (ed1 _ _ _).2
    unfold ed1
    cases hu : upd1 name (putApp (so.map rowI)) p.da with
    | none => exact keep
    | some d =>
      obtain ⟨hl, hm⟩ := upd1_mem hu
      refine ⟨v, ks, r, h.hv, h.su, fun k hk => ?_, by have := h.lk; omega, h.lr, fun l hl2 => ?_, fun l hl2 => ?_, h.hx, ?_, by have := h.lx; show p.xd.length ≤ _; omega, fun q => ?_⟩
      · show k < d.length; rw [hl]; exact h.hk k hk
      · show SuOk (n + 1) d.length l
        rw [hl]; exact (h.hr l hl2).grow (Nat.le_succ _) (Nat.le_refl _)
      · rcases hm l hl2 with q | ⟨z, hz, rfl⟩
        · exact h.hd l q
        · exact putApp_ok (h.hd z hz) hs
      · show d.length ≤ _; rw [hl]; have := h.ld; omega
      · obtain ⟨e1, e2⟩ := h.ff (hff q)
        exact ⟨by show ks = List.range d.length; rw [hl]; exact e1, e2⟩
  · show Inv02 _ _ (ed2 _ _ _).2
    refine ⟨v, ks, r, h.hv, h.su, h.hk, by have := h.lk; omega, h.lr, fun l hl => (h.hr l hl).grow (Nat.le_succ _) (Nat.le_refl _), h.hd, fun l hl => ?_, by have := h.ld; show p.da.length ≤ _; omega, ?_, fun q => h.ff (hff q)⟩
    · rcases List.mem_append.mp hl with q | q
      · exact h.hx l q
      · rw [List.mem_singleton.mp q]; exact ⟨name, so, rfl, hn, hs⟩
    · show (p.xd ++ [_]).length ≤ _
      have := h.lx
      simp; omega
  · show Inv02 _ _ (ed3 _ _ _).2
    unfold ed3
    cases hu : upd1 name (putX (so.map rowI)) p.xd with
    | none => exact keep
    | some d =>
      obtain ⟨hl, hm⟩ := upd1_mem hu
      refine ⟨v, ks, r, h.hv, h.su, h.hk, by have := h.lk; omega, h.lr, fun l hl => (h.hr l hl).grow (Nat.le_succ _) (Nat.le_refl _), h.hd, fun l hl2 => ?_, by have := h.ld; show p.da.length ≤ _; omega, ?_, fun q => h.ff (hff q)⟩
      · rcases hm l hl2 with q | ⟨z, hz, rfl⟩
        · exact h.hx l q
        · exact putX_ok (h.hx z hz) hs
      · show d.length ≤ _; rw [hl]; have := h.lx; omega
  · show Inv02 _ _ (ed4 _ _).2
    have e : (ed4 name p).2 = ⟨((0, .s "LINE") :: (5, .s name) :: ks.map ix) :: r, p.da, p.xd⟩ := by unfold ed4; rw [h.su]; rfl
    rw [e]
    refine ⟨name, ks, r, ?_, rfl, h.hk, by have := h.lk; omega, h.lr, fun l hl => (h.hr l hl).grow (Nat.le_succ _) (Nat.le_refl _), h.hd, h.hx, by have := h.ld; show p.da.length ≤ _; omega, by have := h.lx; show p.xd.length ≤ _; omega, fun q => h.ff (hff q)⟩
    have hn' : name ∈ (["A1", "B2", "C3"] : List Str) := hn
    exact .tail _ hn'

end
section
open PySem PySem.W PySem.W.X PyProof.Rows
set_option Elab.async false
set_option maxRecDepth 100000
set_option linter.unusedVariables false
set_option linter.unusedSimpArgs false
theorem inv_wm {n : Nat} {f : Bool} {p : PM} (h : Inv02 n f p) (hn : n ≤ 20) : WM p := by
  obtain ⟨v, ks, r, h⟩ := h
  refine ⟨⟨"LINE", v, ks.map ix, r, h.su⟩, fun l hl => ?_, fun l hl => ?_, fun l hl => ?_, by have := h.ld; omega, by have := h.lx; omega⟩
  · rw [h.su] at hl
    rcases List.mem_cons.mp hl with rfl | hl
    · exact ⟨⟨0, "LINE", _, rfl⟩, by have := h.lk; simp; omega⟩
    · obtain ⟨so, ks', rfl, h1, _, h3⟩ := h.hr l hl
      exact ⟨⟨100, "AcDbLine", _, rfl⟩, by have := h1.1; simp; omega⟩
  · obtain ⟨nm, so, z, rfl, _, _, h3⟩ := h.hd l hl
    exact ⟨⟨102, nm, _, rfl⟩, by simp, by have := h3.1; simp; omega⟩
  · obtain ⟨nm, so, rfl, _, h3⟩ := h.hx l hl
    exact ⟨⟨1001, nm, _, rfl⟩, by simp, by have := h3.1; simp; omega⟩
theorem inv_itok {n : Nat} {f : Bool} {p : PM} (h : Inv02 n f p) : ∀ l ∈ p.su, ∀ it ∈ l, ItOk p.da it := by
  obtain ⟨v, ks, r, h⟩ := h
  have hix : ∀ (ks : List Nat), (∀ k ∈ ks, k < p.da.length) → ∀ it ∈ ks.map ix, ItOk p.da it := fun ks hk it hi k e => by
    obtain ⟨j, hj, rfl⟩ := List.mem_map.mp hi
    cases e
    exact ⟨rfl, hk _ hj⟩
  intro l hl it hi
  rw [h.su] at hl
  rcases List.mem_cons.mp hl with rfl | hl
  · rcases List.mem_cons.mp hi with rfl | hi
    · intro k e; cases e
    · rcases List.mem_cons.mp hi with rfl | hi
      · intro k e; cases e
      · exact hix ks h.hk it hi
  · obtain ⟨so, ks', rfl, _, h2, _⟩ := h.hr l hl
    rcases List.mem_cons.mp hi with rfl | hi
    · intro k e; cases e
    · rcases List.mem_append.mp hi with q | q
      · obtain ⟨x, _, rfl⟩ := List.mem_map.mp q
        intro k e; cases e
      · exact hix ks' h2 it q
def otherRows : List Row := [(0, "LINE"), (5, "FF"), (5, "A1"), (5, "B2"), (5, "C3"), (100, "AcDbLine"), (102, "{APP"), (102, "{B"), (102, "}"), (102, "APP}"), (102, "B}"), (1001, "APP"), (1001, "B"), (1001, "C")]
def allRows : List Row := menuS ++ menuM ++ otherRows
theorem all_ok : ∀ r ∈ allRows, rowOk r = true ∧ isEmb r = false := by decide +kernel
theorem rows_of : ∀ {l : List Item}, (∀ it ∈ l, ∃ r ∈ allRows, it = rowI r) → ∃ rows : List Row, l = rows.map rowI ∧ ∀ r ∈ rows, r ∈ allRows
  | [], _ => ⟨[], rfl, fun _ h => by cases h⟩
  | it :: l, h => by
    obtain ⟨r, hr, rfl⟩ := h it (.head _)
    obtain ⟨rows, rfl, hm⟩ := rows_of (l := l) fun x hx => h x (.tail _ hx)
    exact ⟨r :: rows, rfl, fun x hx => by
      rcases List.mem_cons.mp hx with rfl | hx
      · exact hr
      · exact hm x hx⟩
theorem mS {r : Row} (h : r ∈ menuS) : r ∈ allRows := List.mem_append_left _ (List.mem_append_left _ h)
theorem mM {r : Row} (h : r ∈ menuM) : r ∈ allRows := List.mem_append_left _ (List.mem_append_right _ h)
theorem da_rows {l : List Item} (h : DaOk l) : ∀ it ∈ l, ∃ r ∈ allRows, it = rowI r := by
  obtain ⟨nm, so, z, rfl, h1, h2, h3⟩ := h
  have k1 : ((102 : Int), nm) ∈ allRows := by
    simp only [List.mem_cons, List.not_mem_nil, or_false] at h1
    rcases h1 with rfl | rfl <;> decide +kernel
  have k2 : ((102 : Int), z) ∈ allRows := by
    simp only [List.mem_cons, List.not_mem_nil, or_false] at h1
    rcases h2 with rfl | rfl
    · decide +kernel
    · rcases h1 with rfl | rfl <;> decide +kernel
  intro it hi
  rcases List.mem_cons.mp hi with rfl | hi
  · exact ⟨_, k1, rfl⟩
  · rcases List.mem_append.mp hi with q | q
    · obtain ⟨r, hr, rfl⟩ := List.mem_map.mp q
      exact ⟨r, mS (h3.2 r hr), rfl⟩
    · rw [List.mem_singleton.mp q]; exact ⟨_, k2, rfl⟩
theorem xd_rows {l : List Item} (h : XdOk l) : ∀ it ∈ l, ∃ r ∈ allRows, it = rowI r := by
  obtain ⟨nm, so, rfl, h1, h3⟩ := h
  have k1 : ((1001 : Int), nm) ∈ allRows := by
    simp only [List.mem_cons, List.not_mem_nil, or_false] at h1
    rcases h1 with rfl | rfl | rfl <;> decide +kernel
  intro it hi
  rcases List.mem_cons.mp hi with rfl | hi
  · exact ⟨_, k1, rfl⟩
  · obtain ⟨r, hr, rfl⟩ := List.mem_map.mp hi
    exact ⟨r, mM (h3.2 r hr), rfl⟩
theorem itI_rows {da : List (List Item)} (hd : ∀ l ∈ da, DaOk l) {it : Item} (h : ItOk da it) (hs : ∀ v, it.2 = .s v → ∃ r ∈ allRows, it = rowI r) : ∀ x ∈ itI da it, ∃ r ∈ allRows, x = rowI r := by
  obtain ⟨c, va⟩ := it
  cases va with
  | s v => intro x hx; rw [show itI da (c, .s v) = [(c, .s v)] from rfl, List.mem_singleton] at hx; rw [hx]; exact hs v rfl
  | n k =>
    intro x hx
    have hk := (h k rfl).2
    have e : itI da (c, .n k) = da[k] := by simp [itI, hk]
    rw [e] at hx
    exact da_rows (hd _ (List.getElem_mem hk)) x hx
theorem inv_rows {n : Nat} {f : Bool} {p : PM} (h : Inv02 n f p) : ∃ rows : List Row, walkI p.su p.da p.xd [] = rows.map rowI ∧ ∀ r ∈ rows, r ∈ allRows := by
  have hit := inv_itok h
  obtain ⟨v, ks, r, h⟩ := h
  refine rows_of fun it hi => ?_
  unfold walkI at hi
  rcases List.mem_append.mp hi with q | q
  · obtain ⟨l, hl, q⟩ := List.mem_flatMap.mp q
    obtain ⟨x, hx, q⟩ := List.mem_flatMap.mp q
    refine itI_rows h.hd (hit l hl x hx) (fun s hs => ?_) it q
    rw [h.su] at hl
    rcases List.mem_cons.mp hl with rfl | hl
    · rcases List.mem_cons.mp hx with rfl | hx
      · exact ⟨(0, "LINE"), by decide +kernel, rfl⟩
      · rcases List.mem_cons.mp hx with rfl | hx
        · refine ⟨(5, v), ?_, rfl⟩
          have := h.hv
          simp only [List.mem_cons, List.not_mem_nil, or_false] at this
          rcases this with rfl | rfl | rfl | rfl <;> decide +kernel
        · obtain ⟨j, _, rfl⟩ := List.mem_map.mp hx
          cases hs
    · obtain ⟨so, ks', rfl, h1, _, _⟩ := h.hr l hl
      rcases List.mem_cons.mp hx with rfl | hx
      · exact ⟨(100, "AcDbLine"), by decide +kernel, rfl⟩
      · rcases List.mem_append.mp hx with q2 | q2
        · obtain ⟨y, hy, rfl⟩ := List.mem_map.mp q2
          exact ⟨y, mS (h1.2 y hy), rfl⟩
        · obtain ⟨j, _, rfl⟩ := List.mem_map.mp q2
          cases hs
  · rcases List.mem_append.mp q with q | q
    · obtain ⟨l, hl, q⟩ := List.mem_flatten.mp q
      exact xd_rows (h.hx l hl) it q
    · simp at q
theorem fm_len {α β : Type} (g : α → List β) (c : Nat) : ∀ (l : List α), (∀ x ∈ l, (g x).length ≤ c) → (l.flatMap g).length ≤ l.length * c
  | [], _ => by simp
  | x :: l, h => by
    have h1 := h x (.head _)
    have h2 := fm_len g c l fun y hy => h y (.tail _ hy)
    rw [List.flatMap_cons, List.length_append, List.length_cons, Nat.add_mul]
    omega
theorem inv_len {n : Nat} {f : Bool} {p : PM} (h : Inv02 n f p) (hn : n ≤ 12) : (walkI p.su p.da p.xd []).length ≤ 300 := by
  have hit := inv_itok h
  obtain ⟨v, ks, r, h⟩ := h
  have hdl : ∀ l ∈ p.da, l.length ≤ 5 := fun l hl => by
    obtain ⟨nm, so, z, rfl, _, _, h3⟩ := h.hd l hl
    have := h3.1; simp; omega
  have hone : ∀ l ∈ p.su, ∀ it ∈ l, (itI p.da it).length ≤ 5 := fun l hl it hi => by
    have hok := hit l hl it hi
    obtain ⟨c, va⟩ := it
    cases va with
    | s v => show ([_] : List Item).length ≤ 5; simp
    | n k =>
      have hk := (hok k rfl).2
      have e : itI p.da (c, .n k) = p.da[k] := by simp [itI, hk]
      rw [e]; exact hdl _ (List.getElem_mem hk)
  have hls : ∀ l ∈ p.su, l.length ≤ 17 := fun l hl => by
    rw [h.su] at hl
    rcases List.mem_cons.mp hl with rfl | hl
    · have := h.lk; simp; omega
    · obtain ⟨so, ks', rfl, h1, _, h3⟩ := h.hr l hl
      have := h1.1; simp; omega
  have hsl : p.su.length ≤ 2 := by rw [h.su]; have := h.lr; simp; omega
  have hx5 : ∀ l ∈ p.xd, l.length ≤ 4 := fun l hl => by
    obtain ⟨nm, so, rfl, _, h3⟩ := h.hx l hl
    have := h3.1; simp; omega
  have b1 : (p.su.flatMap fun c => c.flatMap (itI p.da)).length ≤ p.su.length * 85 := fm_len _ _ _ fun l hl => by
    have := fm_len (itI p.da) 5 l (hone l hl)
    have := hls l hl
    omega
  have b2 : (p.xd.flatMap id).length ≤ p.xd.length * 4 := fm_len _ _ _ fun l hl => hx5 l hl
  have hlx := h.lx
  rw [List.flatMap_id] at b2
  unfold walkI
  simp only [List.length_append, List.flatten_nil, List.length_nil]
  omega

end
section
open PySem PySem.W PySem.W.X PyProof.Rows
set_option Elab.async false
set_option maxRecDepth 100000
set_option linter.unusedVariables false
set_option linter.unusedSimpArgs false
/-- a row that begins nothing and ends nothing -/
def plainRow (r : Row) : Bool := r.1 != 100 && r.1 != 101 && r.1 != 102 && r.1 != 1001
theorem menuS_plain : ∀ r ∈ menuS, plainRow r = true := by decide +kernel
theorem menuM_plain : ∀ r ∈ menuM, plainRow r = true := by decide +kernel
theorem pr_ne {r : Row} (h : plainRow r = true) : r.1 ≠ 100 ∧ r.1 ≠ 101 ∧ r.1 ≠ 102 ∧ r.1 ≠ 1001 := by
  unfold plainRow at h
  simp only [Bool.and_eq_true, bne_iff_ne] at h
  exact ⟨h.1.1.1, h.1.1.2, h.1.2, h.2⟩
theorem step_plain {p : PS} {r : Row} (hop : p.op = none) (h : plainRow r = true) : p.step r = { p with cur := p.cur ++ [rowI r] } := by
  obtain ⟨h1, h2, h3, h4⟩ := pr_ne h
  exact step_a hop (fun q => by have := q.2.2; unfold opens at this; simp at this; exact h3 this.1) h4 (fun q => h2 q.2.1) (fun q => h1 q.2)
theorem fold_plain : ∀ (so : List Row) (p : PS), p.op = none → (∀ r ∈ so, plainRow r = true) → so.foldl PS.step p = { p with cur := p.cur ++ so.map rowI }
  | [], p, _, _ => by simp
  | r :: so, p, hop, h => by
    rw [List.foldl_cons, step_plain hop (h r (.head _)), fold_plain so { p with cur := p.cur ++ [rowI r] } hop fun x hx => h x (.tail _ hx)]
    simp
theorem fold_open {nm : Str} : ∀ (so : List Row) (p : PS) (blk : List Item), p.op = some (nm, blk) → (∀ r ∈ so, plainRow r = true) → so.foldl PS.step p = { p with op := some (nm, blk ++ so.map rowI) }
  | [], p, blk, hop, _ => by simp [← hop]
  | r :: so, p, blk, hop, h => by
    have hc : closes nm r = false := by
      have := (pr_ne (h r (.head _))).2.2.1
      unfold closes
      simp [this]
    rw [List.foldl_cons, step_b hop hc, fold_open so { p with op := some (nm, blk ++ [rowI r]) } (blk ++ [rowI r]) rfl fun x hx => h x (.tail _ hx)]
    simp
/-- a block of data read in the first class -/
theorem fold_block {nm z : Str} {so : List Row} {p : PS} (hop : p.op = none) (h0 : p.st = 0) (hc : p.cl = []) (ho : s1 nm = "{") (hz : z = "}" ∨ z = tl nm ++ "}") (hs : ∀ r ∈ so, plainRow r = true) :
    (((102 : Int), nm) :: (so ++ [((102 : Int), z)])).foldl PS.step p = { p with da := p.da ++ [(102, .s nm) :: (so.map rowI ++ [(102, .s z)])], cur := p.cur ++ [ix p.da.length] } := by
  have hop2 : opens ((102 : Int), nm) = true := by unfold opens; simp [ho]
  rw [List.foldl_cons, step_o hop ⟨h0, hc, hop2⟩, List.foldl_append, fold_open so _ [rowI (102, nm)] rfl hs, List.foldl_cons, List.foldl_nil]
  have hcl : closes nm ((102 : Int), z) = true := by unfold closes; rcases hz with rfl | rfl <;> simp
  rw [step_z rfl hcl]
  simp [rowI, ix, hop]
/-- a list of items, taken back to rows -/
def unI (it : Item) : Row := (it.1, match it.2 with | .s v => v | .n _ => "")
theorem unI_rowI (r : Row) : unI (rowI r) = r := rfl
theorem un_map (l : List Row) : (l.map rowI).map unI = l := by
  rw [List.map_map]
  exact List.map_id'' (fun r => rfl) l
theorem fold_blocks : ∀ (da : List (List Item)) (p : PS), (∀ l ∈ da, DaOk l) → p.op = none → p.st = 0 → p.cl = [] →
    (da.flatten.map unI).foldl PS.step p = { p with da := p.da ++ da, cur := p.cur ++ (List.range' p.da.length da.length).map ix }
  | [], p, _, _, _, _ => by simp
  | l :: da, p, h, hop, h0, hc => by
    obtain ⟨nm, so, z, rfl, h1, h2, h3⟩ := h l (.head _)
    have ho : s1 nm = "{" := by
      simp only [List.mem_cons, List.not_mem_nil, or_false] at h1
      rcases h1 with rfl | rfl <;> decide +kernel
    have e : (((102 : Int), Val.s nm) :: (so.map rowI ++ [((102 : Int), Val.s z)])).map unI = ((102 : Int), nm) :: (so ++ [((102 : Int), z)]) := by
      rw [List.map_cons, List.map_append, un_map]; rfl
    rw [List.flatten_cons, List.map_append, List.foldl_append, e, fold_block hop h0 hc ho h2 (fun r hr => menuS_plain r (h3.2 r hr)),
      fold_blocks da { p with da := p.da ++ [(102, .s nm) :: (so.map rowI ++ [(102, .s z)])], cur := p.cur ++ [ix p.da.length] } (fun x hx => h x (.tail _ hx)) hop h0 hc]
    simp [List.range'_succ]
theorem fold_xd : ∀ (xd : List (List Item)) (p : PS), (∀ l ∈ xd, XdOk l) → p.op = none →
    ((xd.flatten.map unI).foldl PS.step p).op = none ∧ ((xd.flatten.map unI).foldl PS.step p).classes = p.classes ∧ ((xd.flatten.map unI).foldl PS.step p).da = p.da ∧ ((xd.flatten.map unI).foldl PS.step p).extra = p.extra ++ xd
  | [], p, _, hop => by simp [hop]
  | l :: xd, p, h, hop => by
    obtain ⟨nm, so, rfl, h1, h3⟩ := h l (.head _)
    have e : (((1001 : Int), Val.s nm) :: so.map rowI).map unI = ((1001 : Int), nm) :: so := by
      rw [List.map_cons, un_map]; rfl
    have hx : p.step ((1001 : Int), nm) = ⟨1, p.classes, p.da, p.extra, p.inner, [rowI (1001, nm)], none⟩ := by
      rw [step_x hop (fun q => by have := q.2.2; unfold opens at this; simp at this) rfl, PS.turn_eq _ _ _ hop]
    rw [List.flatten_cons, List.map_append, List.foldl_append, e, List.foldl_cons, hx, fold_plain so _ rfl (fun r hr => menuM_plain r (h3.2 r hr))]
    obtain ⟨k1, k2, k3, k4⟩ := fold_xd xd ⟨1, p.classes, p.da, p.extra, p.inner, [rowI (1001, nm)] ++ so.map rowI, none⟩ (fun x hx => h x (.tail _ hx)) rfl
    refine ⟨k1, ?_, k3, ?_⟩
    · rw [k2]; rfl
    · rw [k4]
      show (p.extra ++ [[rowI (1001, nm)] ++ so.map rowI]) ++ xd = _
      rw [List.append_assoc]; rfl
theorem range_flat (da : List (List Item)) : ((List.range da.length).map ix).flatMap (itI da) = da.flatten := by
  have e : ((List.range da.length).map ix).flatMap (itI da) = (List.range da.length).flatMap (fun k => da.getD k []) := by
    rw [List.flatMap_map]; rfl
  rw [e, ← List.flatMap_id (L := da)]
  have e2 : (List.range da.length).map (fun k => da.getD k []) = da := by
    apply List.ext_getElem
    · simp
    · intro i h1 h2
      simp at h1
      simp [h1]
  conv => rhs; rw [← e2]
  rw [List.flatMap_map]
  rfl
theorem map_it (da : List (List Item)) : ∀ so : List Row, (so.map rowI).flatMap (itI da) = so.map rowI
  | [] => rfl
  | r :: so => by
    rw [List.map_cons, List.flatMap_cons, map_it da so]; rfl
/-- what is walked, read again -/
theorem run_again {n : Nat} {p : PM} (h : Inv02 n true p) {rows : List Row} (hr : walkI p.su p.da p.xd [] = rows.map rowI) :
    (PS.run rows).op = none ∧ (PS.run rows).classes = p.su ∧ (PS.run rows).da = p.da ∧ (PS.run rows).extra = p.xd := by
  obtain ⟨v, ks, r, h⟩ := h
  obtain ⟨e1, e2⟩ := h.ff rfl
  have hw : walkI p.su p.da p.xd [] = ((0, .s "LINE") :: (5, .s v) :: p.da.flatten) ++ (r.flatten ++ p.xd.flatten) := by
    unfold walkI
    rw [h.su, List.flatMap_cons, e1]
    have k1 : (((0 : Int), Val.s "LINE") :: (5, .s v) :: (List.range p.da.length).map ix).flatMap (itI p.da) = (0, .s "LINE") :: (5, .s v) :: p.da.flatten := by
      rw [List.flatMap_cons, List.flatMap_cons, range_flat]; rfl
    have k2 : (r.flatMap fun c => c.flatMap (itI p.da)) = r.flatten := by
      have : ∀ l ∈ r, l.flatMap (itI p.da) = l := fun l hl => by
        obtain ⟨so, rfl, _⟩ := e2 l hl
        rw [List.flatMap_cons]
        rw [map_it]; rfl
      rw [← List.flatMap_id (L := r)]
      clear e1 hr h
      induction r with
      | nil => rfl
      | cons a r ih => rw [List.flatMap_cons, List.flatMap_cons, ih (fun l hl => e2 l (.tail _ hl)) (fun l hl => this l (.tail _ hl)), this a (.head _)]; rfl
    rw [k1, k2]; simp
  have hrows : rows = (((0 : Int), ("LINE" : Str)) :: ((5 : Int), v) :: p.da.flatten.map unI) ++ (r.flatten.map unI ++ p.xd.flatten.map unI) := by
    have := congrArg (List.map unI) hr
    rw [un_map, hw] at this
    rw [← this]
    simp [unI]
  have hbase : ([((0 : Int), ("LINE" : Str)), (5, v)]).foldl PS.step PS.init = ⟨0, [], [], [], [], [(0, .s "LINE"), (5, .s v)], none⟩ := by
    rw [fold_plain _ _ rfl (fun x hx => by
      simp only [List.mem_cons, List.not_mem_nil, or_false] at hx
      rcases hx with rfl | rfl <;> rfl)]
    rfl
  have hA : (((0 : Int), ("LINE" : Str)) :: (5, v) :: p.da.flatten.map unI).foldl PS.step PS.init = ⟨0, [], p.da, [], [], (0, .s "LINE") :: (5, .s v) :: (List.range p.da.length).map ix, none⟩ := by
    have : ((0 : Int), ("LINE" : Str)) :: (5, v) :: p.da.flatten.map unI = [((0 : Int), ("LINE" : Str)), (5, v)] ++ p.da.flatten.map unI := rfl
    rw [this, List.foldl_append, hbase, fold_blocks p.da _ h.hd rfl rfl rfl]
    simp [List.range_eq_range']
  have hB : ((r.flatten.map unI).foldl PS.step ⟨0, [], p.da, [], [], (0, .s "LINE") :: (5, .s v) :: (List.range p.da.length).map ix, none⟩).op = none ∧
      ((r.flatten.map unI).foldl PS.step ⟨0, [], p.da, [], [], (0, .s "LINE") :: (5, .s v) :: (List.range p.da.length).map ix, none⟩).classes = p.su ∧
      ((r.flatten.map unI).foldl PS.step ⟨0, [], p.da, [], [], (0, .s "LINE") :: (5, .s v) :: (List.range p.da.length).map ix, none⟩).da = p.da ∧
      ((r.flatten.map unI).foldl PS.step ⟨0, [], p.da, [], [], (0, .s "LINE") :: (5, .s v) :: (List.range p.da.length).map ix, none⟩).extra = [] := by
    have hlr := h.lr
    have hsu := h.su
    cases r with
    | nil => exact ⟨rfl, by rw [hsu, e1]; rfl, rfl, rfl⟩
    | cons l r =>
      cases r with
      | cons _ _ => simp at hlr
      | nil =>
        obtain ⟨so, rfl, hso⟩ := e2 l (.head _)
        have e : ([((100 : Int), Val.s "AcDbLine") :: so.map rowI].flatten).map unI = ((100 : Int), ("AcDbLine" : Str)) :: so := by
          rw [List.flatten_cons, List.flatten_nil, List.append_nil, List.map_cons, un_map]; rfl
        rw [e, List.foldl_cons, step_c rfl (fun q => by have := q.2.2; unfold opens at this; simp at this) (by show (100 : Int) ≠ 1001; decide) (fun q => by have : (100 : Int) = 101 := q.2.1; cases this) ⟨rfl, rfl⟩, PS.turn_eq _ _ _ rfl, fold_plain so _ rfl (fun x hx => menuS_plain x (hso.2 x hx))]
        exact ⟨rfl, by rw [hsu, e1]; rfl, rfl, rfl⟩
  obtain ⟨b1, b2, b3, b4⟩ := hB
  unfold PS.run
  rw [hrows, List.foldl_append, hA, List.foldl_append]
  obtain ⟨x1, x2, x3, x4⟩ := fold_xd p.xd _ h.hx b1
  exact ⟨x1, x2.trans b2, x3.trans b3, by rw [x4, b4]; rfl⟩

end
section
open PySem PySem.W PySem.W.X PyProof.Rows
set_option Elab.async false
set_option maxRecDepth 100000
set_option linter.unusedVariables false
set_option linter.unusedSimpArgs false
section
variable {M : Md} {A : Around} {cs T : Cells} {X : Value → Cells → Prop} {env : Env} {PV : V → Cells → Prop}
/-- a contract used: its cells stand, in some order, behind the others -/
theorem CL.useQ {f : Value} {xs : List V} {all fr : Cells} {p : Addr × MO} {P : V → Cells → Prop} (h : CL M A f xs cs P NoX) (hp : all.Perm (p :: (fr ++ cs))) (k : ∀ x c0, P x c0 → PV x (p :: (fr ++ c0))) : CL M A f xs all PV X := ⟨fun vs => by
  have t := (h.it vs).frame (fr := p :: fr) (hp.trans (List.perm_append_comm (l₁ := p :: fr)))
  refine Tr.viewV (Tr.mono t (fun x c ⟨c0, e, h0⟩ => ?_) fun x c ⟨_, _, q⟩ => q.elim)
  subst e
  exact ⟨x, _, .of (View.perm (List.perm_append_comm (l₂ := p :: fr))), k x c0 h0⟩⟩
/-- what reads as data, in these cells -/
structure Rd (M : Md) (A : Around) (cs : Cells) (x : V) (d : PyData) : Prop where
  it : ∀ {B : FH} {s : Shared} {v : Value}, St M.C M.S A B cs s → RV M.C B v x → ∃ as, Reads s.heap v d as
theorem Rd.of {x : V} {d : PyData} (h : RdV cs x d) : Rd M A cs x d := ⟨fun hs r => h.reads hs r⟩
theorem rd_all : ∀ {su : TL} {B : FH} {s : Shared} {vs : List Value}, St M.C M.S A B cs s → (∀ p ∈ su, (p.1, MO.lst .list (p.2.map itemV)) ∈ cs) → (∀ p ∈ su, isDs (p.2.map itemV) = true) → RVs M.C B vs (refs su) → ∃ as, ReadsAll s.heap vs (vds (listsV (its su))) as
  | [], _, _, _, hs, _, _, r => by cases r; exact ⟨_, .nil⟩
  | p :: su, _, _, _, hs, hm, hd, r => by
    cases r with | cons r rs =>
    obtain ⟨as, h1⟩ := (RdV.own (hm p (.head _)) (hd p (.head _))).reads hs r
    obtain ⟨bs, h2⟩ := rd_all hs (fun q hq => hm q (.tail _ hq)) (fun q hq => hd q (.tail _ hq)) rs
    exact ⟨_, .cons h1 h2⟩
theorem Rd.refs {su : TL} (hm : ∀ p ∈ su, (p.1, MO.lst .list (p.2.map itemV)) ∈ cs) (hd : ∀ p ∈ su, isDs (p.2.map itemV) = true) : Rd M A cs (.lst .list (refs su)) (.list (vds (listsV (its su)))) := ⟨fun hs r => by
  cases r with | lst e q r =>
  obtain ⟨as, h'⟩ := rd_all hs hm hd r
  exact ⟨_, .list (hs.keep _ _ e) rfl rfl (by simpa using h')⟩⟩
theorem op_eq_rd {x y : V} {d : PyData} (hx : Rd M A cs x d) (hy : Rd M A cs y d) (sx : SeqAt.shaped d = true) (hu : A.units ≤ 1900) (h : PV (.bool true) cs) : OC M A .Eq x y cs PV X := ⟨fun a b B s hs ⟨r, r'⟩ => by
  obtain ⟨as, ra⟩ := hx.it hs r
  obtain ⟨bs, rb⟩ := hy.it hs r'
  exact eq_dataH ra rb sx sx (by show A.units + 64 < 9900; omega) (.now hs (.bool _) (by rw [SeqAt.eqv_refl d (SeqAt.canLay_of_shaped sx)]; exact h))⟩
end
section
variable {M : Md} {w : World} {h0 : Heap} {A : Around} {mg mb : Str → Option Value} {X : Value → Cells → Prop} {cs cs' fin : Cells} {PV : V → Cells → Prop} {PF PF' : Fl → Cells → Prop} {env : Env}
set_option maxHeartbeats 4000000 in
theorem pairs_own (K : Ctx w h0 mg mb) (fit : Fit 4 A) {a : Addr} {is : List Item} (hl : is.length ≤ 100) (hm : (a, MO.lst .tags (is.map tagV)) ∈ cs) :
    CL (MM w h0) A (.ref 535) [.ref a] cs (fun u cs' => cs' = cs ∧ u = itemsV is) X := by
  have X0 := K.X
  have G := K.G
  have TO := tagsOk K.X
  refine CL.viewV (CK.cl (cc_def (names := ["rows"]) (args := [.ref a]) fit (fun B hS => ⟨_, hS _ _ (SS_of K.X (is_pairs _).1 (by decide)), (is_pairs _).2⟩) (fun B hS h hk => cr_pairs K.X hS hk) (bind1 (len1 fun a => ba_pairs a) rfl) K.G.lim (by decide +kernel) (by simp) ?_))
  intro L hL
  show EXs _ _ _ _ ((L, .frame [("rows", .ref a)]) :: cs) _ _
  have fit' := fit.deeper (envFn (Stmt.scp f_pairs) L [] "_law_pairs" 535 (.ref 534))
  have hd0 := fit'.hd
  refine ex_cons (ex_return ?_)
  refine ev_map is tagV itemV TO hd0 (by omega) (cl := []) (by kernel_rfl) ?_
  refine ev_local (by walk_at "mem") ⟨.own a .tags _ (.tail _ hm), fun C i hi => ?_, fun D => ?_⟩
  · refine as_name (by walk_at "loc") ?_
    unfold tagV
    repeat' (first | walk_at "st" )
    exact ⟨rfl, _, .refl _⟩
  · exact ⟨_, _, rfl, _, _, .fzF, rfl, rfl⟩
theorem plain_spec (K : Ctx w h0 mg mb) (fit : Fit 8 A) {md mx : Addr} {su : TL} {da xd : List (List Item)} {k : Nat} {name : Str} {part : Option Str} {so : List Item} (hk : k ≤ 4) (W : WM ⟨its su, da, xd⟩) (hso : so.length ≤ 100) (hn : name.length ≤ 1000) (hsu : su.length ≤ 400) (hq : ∀ q, part = some q → q.length ≤ 1000) :
    CL (MM w h0) A (.ref 566) [modV md mx su, .int k, .str name, partV part, itemsV so] (modK md mx su da xd) (PlPost md mx su (edit k name part so ⟨its su, da, xd⟩)) X := by
  obtain rfl | rfl | rfl | rfl | rfl : k = 0 ∨ k = 1 ∨ k = 2 ∨ k = 3 ∨ k = 4 := by omega
  · exact plain0_spec K fit W hso hn (by simp; omega) hq
  · exact plain1_spec K fit W hso hn
  · exact plain2_spec K fit W hso hn
  · exact plain3_spec K fit W hso hn
  · exact plain4_spec K fit W hso hn
end

end
section
open PySem PySem.W PySem.W.X PyProof.Rows
set_option Elab.async false
set_option maxRecDepth 100000
set_option linter.unusedVariables false
set_option linter.unusedSimpArgs false
local macro_rules | `(tactic| walk_at "os") => `(tactic| first | (show OS _ _ _ _ (.lst .list (_ :: _)) (.int 0) _ _ _; refine it_lst (by omega) (by omega) rfl ?_) | (show OS _ _ _ _ (.lst .list (_ :: _)) (.int 1) _ _ _; refine it_lst (by omega) (by omega) rfl ?_) | (show OS _ _ _ _ (.lst .list (_ :: _)) (.int 2) _ _ _; refine it_lst (by omega) (by omega) rfl ?_))
abbrev lawEnv (L : Addr) : Env := envFn (Stmt.scp f_law) L [] "law" 585 (.ref 584)
abbrev LOut (fl : Fl) (cs' : Cells) : Prop := ∃ p cs'', cs' = p :: cs'' ∧ fl.val = .bool true ∧ ∃ ps, (421, MO.obj (tabObj ps)) ∈ cs''
abbrev lawLoc (S C : V) (md mx : Addr) (rs : List V) (E : Addr) (f : Bool) : Loc := [("script", S), ("c", C), ("model", .lst .list [.lst .list rs, .ref md, .ref mx]), ("entity", .ref E), ("first", .bool f)]
/-- what the last lines read -/
structure EndY (Y : Cells) (E AL SL XL md mx : Addr) (ds su xd msu : TL) : Prop where
  hE : (E, MO.inst 517 (sl4 AL SL XL)) ∈ Y
  hA : (AL, MO.lst .list (refs ds)) ∈ Y
  hS : (SL, MO.lst .list (refs su)) ∈ Y
  hX : (XL, MO.lst .list (refs xd)) ∈ Y
  hds : ∀ p ∈ ds, (p.1, MO.lst .tags (p.2.map tagV)) ∈ Y
  hsu : ∀ p ∈ su, (p.1, MO.lst .tags (p.2.map tagV)) ∈ Y
  hxd : ∀ p ∈ xd, (p.1, MO.lst .tags (p.2.map tagV)) ∈ Y
  hmd : (md, MO.lst .list (listsV (its ds))) ∈ Y
  hmx : (mx, MO.lst .list (listsV (its xd))) ∈ Y
  hmsu : ∀ p ∈ msu, (p.1, MO.lst .list (p.2.map itemV)) ∈ Y
  hit : its msu = its su
  tab : ∃ ps, (421, MO.obj (tabObj ps)) ∈ Y
  l1 : ds.length ≤ 100
  l2 : su.length ≤ 100
  l3 : xd.length ≤ 100
  k1 : ∀ p ∈ ds, p.2.length ≤ 100
  k2 : ∀ p ∈ su, p.2.length ≤ 100
  k3 : ∀ p ∈ xd, p.2.length ≤ 100
  s1 : ∀ l ∈ its ds, ∀ it ∈ l, ItSh it
  s2 : ∀ l ∈ its su, ∀ it ∈ l, ItSh it
  s3 : ∀ l ∈ its xd, ∀ it ∈ l, ItSh it
theorem refs_map (t : TL) : refs t = t.map (fun p => V.ref p.1) := rfl
theorem lists_map (t : TL) : t.map (fun p => itemsV p.2) = listsV (its t) := by simp [listsV, its]
theorem shd {ls : List (List Item)} (h : ∀ l ∈ ls, ∀ it ∈ l, ItSh it) : Sh 3 (.lst .list (listsV ls)) := Sh.lst (sh_lists h)
section
variable {M : Md} {w : World} {h0 : Heap} {A : Around} {mg mb : Str → Option Value} {X : Value → Cells → Prop} {cs cs' fin : Cells} {PV : V → Cells → Prop} {PF PF' : Fl → Cells → Prop} {env : Env}
set_option maxHeartbeats 4000000 in
theorem law_end2 (K : Ctx w h0 mg mb) {L : Addr} (fit' : Fit 20 (A.deeper (lawEnv L))) {Y : Cells} {E AL SL XL md mx : Addr} {ds su xd msu : TL} (g : EndY Y E AL SL XL md mx ds su xd msu) {S C E0 F : V} :
    EXs (MM w h0) (A.deeper (lawEnv L)) (lawEnv L) ((Stmt.bod f_law).drop 7) ((L, .frame [("script", S), ("c", C), ("model", .lst .list [.lst .list (refs msu), .ref md, .ref mx]), ("entity", E0), ("first", F), ("again", .ref E)]) :: Y) LOut X := by
  have X0 := K.X
  have G := K.G
  have TO := tagsOk K.X
  have KK := KK1 K
  have g1 := g_pairs K
  have hd0 := fit'.hd
  have hu : (A.deeper (lawEnv L)).units ≤ 1900 := by have := fit'.un; omega
  have s1 := shd g.s1
  have s2 := shd g.s2
  have s3 := shd g.s3
  have gE := g.hE
  refine ex_cons (ex_if ?_)
  repeat' ((fail_if_success show EV _ _ _ (.ListComp _ _ _ _) _ _ _); walk_at "st")
  refine ev_map ds (fun p => V.ref p.1) (fun p => itemsV p.2) TO hd0 (by have := g.l1; omega) (cl := []) (by kernel_rfl) ?_
  refine ev_attr (ev_local (by walk_at "mem") ?_)
  refine ga_slot (by assumption) (so_app _) (inst_own (.tail _ gE)) rfl (by walk_at "nbi") ?_
  refine ⟨.own AL .list _ (.tail _ g.hA), fun C i hi => ?_, fun D => ?_⟩
  · refine as_name (by walk_at "loc") ?_
    repeat' (first | walk_at "st" )
    refine CL.use1P (pairs_own K (fit'.le (by decide)) (X := NoX) (g.k1 i hi) (.tail _ (g.hds i hi))) ?_ (fun _ _ q => q.elim)
    rintro u c0 ⟨rfl, rfl⟩
    exact ⟨rfl, _, .refl _⟩
  rw [lists_map]
  show EV _ _ _ _ ((L, .frame _) :: (D, .lst .list (listsV (its ds))) :: Y) _ _
  repeat' (first | walk_at "st" )
  refine op_ne_same (d := vd (.lst .list (listsV (its ds)))) (.own (.tail _ (.head _)) s1.1) (.own (.tail _ (.tail _ g.hmd)) s1.1) (s1.shaped (by decide)) hu ?_
  repeat' ((fail_if_success show EV _ _ _ (.ListComp _ _ _ _) _ _ _); walk_at "st")
  refine ev_map xd (fun p => V.ref p.1) (fun p => itemsV p.2) TO hd0 (by have := g.l3; omega) (cl := []) (by kernel_rfl) ?_
  refine ev_attr (ev_local (by walk_at "mem") ?_)
  refine ga_slot (by assumption) (so_xd _) (inst_own (.tail _ (.tail _ gE))) rfl (by walk_at "nbi") ?_
  refine ⟨.own XL .list _ (.tail _ (.tail _ g.hX)), fun C i hi => ?_, fun D' => ?_⟩
  · refine as_name (by walk_at "loc") ?_
    repeat' (first | walk_at "st" )
    refine CL.use1P (pairs_own K (fit'.le (by decide)) (X := NoX) (g.k3 i hi) (.tail _ (.tail _ (g.hxd i hi)))) ?_ (fun _ _ q => q.elim)
    rintro u c0 ⟨rfl, rfl⟩
    exact ⟨rfl, _, .refl _⟩
  rw [lists_map]
  show EV _ _ _ _ ((L, .frame _) :: (D', .lst .list (listsV (its xd))) :: (D, .lst .list (listsV (its ds))) :: Y) _ _
  repeat' (first | walk_at "st" )
  refine op_ne_same (d := vd (.lst .list (listsV (its xd)))) (.own (.tail _ (.head _)) s3.1) (.own (.tail _ (.tail _ (.tail _ g.hmx))) s3.1) (s3.shaped (by decide)) hu ?_
  repeat' ((fail_if_success show EV _ _ _ (.ListComp _ _ _ _) _ _ _); walk_at "st")
  refine ev_map su (fun p => V.ref p.1) (fun p => itemsV p.2) TO hd0 (by have := g.l2; omega) (cl := []) (by kernel_rfl) ?_
  refine ev_attr (ev_local (by walk_at "mem") ?_)
  refine ga_slot (by assumption) (so_sub _) (inst_own (.tail _ (.tail _ (.tail _ gE)))) rfl (by walk_at "nbi") ?_
  refine ⟨.own SL .list _ (.tail _ (.tail _ (.tail _ g.hS))), fun C i hi => ?_, fun D2 => ?_⟩
  · refine as_name (by walk_at "loc") ?_
    repeat' (first | walk_at "st" )
    refine CL.use1P (pairs_own K (fit'.le (by decide)) (X := NoX) (g.k2 i hi) (.tail _ (.tail _ (.tail _ (g.hsu i hi))))) ?_ (fun _ _ q => q.elim)
    rintro u c0 ⟨rfl, rfl⟩
    exact ⟨rfl, _, .refl _⟩
  rw [lists_map]
  show EV _ _ _ _ ((L, .frame _) :: (D2, .lst .list (listsV (its su))) :: (D', .lst .list (listsV (its xd))) :: (D, .lst .list (listsV (its ds))) :: Y) _ _
  repeat' (first | walk_at "st" )
  refine op_eq_rd (d := vd (.lst .list (listsV (its su)))) (Rd.of (.own (.tail _ (.head _)) s2.1)) ?_ (s2.shaped (by decide)) hu ?_
  · rw [← g.hit]
    refine Rd.refs (fun p hp => .tail _ (.tail _ (.tail _ (.tail _ (g.hmsu p hp))))) fun p hp => ?_
    have := sh_items (l := p.2) (g.s2 p.2 (by rw [← g.hit]; exact List.mem_map_of_mem (f := Prod.snd) hp))
    exact this.1
  · obtain ⟨ps, hp⟩ := g.tab
    exact ⟨_, _, rfl, rfl, ps, .tail _ (.tail _ (.tail _ hp))⟩
end

end
section
open PySem PySem.W PySem.W.X PyProof.Rows
set_option Elab.async false
set_option maxRecDepth 100000
set_option linter.unusedVariables false
set_option linter.unusedSimpArgs false
local macro_rules | `(tactic| walk_at "os") => `(tactic| first | (show OS _ _ _ _ (.lst .list (_ :: _)) (.int 0) _ _ _; refine it_lst (by omega) (by omega) rfl ?_) | (show OS _ _ _ _ (.lst .list (_ :: _)) (.int 1) _ _ _; refine it_lst (by omega) (by omega) rfl ?_) | (show OS _ _ _ _ (.lst .list (_ :: _)) (.int 2) _ _ _; refine it_lst (by omega) (by omega) rfl ?_))
theorem all_sh : ∀ r ∈ allRows, PyData.strOk r.2 = true := by decide +kernel
theorem row_sh {it : Item} (h : ∃ r ∈ allRows, it = rowI r) : ItSh it := by
  obtain ⟨r, hr, rfl⟩ := h
  exact .inr ⟨r.2, rfl, all_sh r hr⟩
theorem inv_sh {n : Nat} {f : Bool} {p : PM} (h : Inv02 n f p) : (∀ l ∈ p.su, ∀ it ∈ l, ItSh it) ∧ (∀ l ∈ p.da, ∀ it ∈ l, ItSh it) ∧ (∀ l ∈ p.xd, ∀ it ∈ l, ItSh it) := by
  obtain ⟨v, ks, r, h⟩ := h
  refine ⟨fun l hl it hi => ?_, fun l hl it hi => row_sh (da_rows (h.hd l hl) it hi), fun l hl it hi => row_sh (xd_rows (h.hx l hl) it hi)⟩
  have hix : ∀ ks : List Nat, it ∈ ks.map ix → ItSh it := fun ks q => by
    obtain ⟨j, _, rfl⟩ := List.mem_map.mp q
    exact .inl ⟨j, rfl⟩
  rw [h.su] at hl
  rcases List.mem_cons.mp hl with rfl | hl
  · rcases List.mem_cons.mp hi with rfl | hi
    · exact row_sh ⟨(0, "LINE"), by decide +kernel, rfl⟩
    · rcases List.mem_cons.mp hi with rfl | hi
      · refine row_sh ⟨(5, v), ?_, rfl⟩
        have := h.hv
        simp only [List.mem_cons, List.not_mem_nil, or_false] at this
        rcases this with rfl | rfl | rfl | rfl <;> decide +kernel
      · exact hix _ hi
  · obtain ⟨so, ks', rfl, h1, _, _⟩ := h.hr l hl
    rcases List.mem_cons.mp hi with rfl | hi
    · exact row_sh ⟨(100, "AcDbLine"), by decide +kernel, rfl⟩
    · rcases List.mem_append.mp hi with q2 | q2
      · obtain ⟨y, hy, rfl⟩ := List.mem_map.mp q2
        exact row_sh ⟨y, mS (h1.2 y hy), rfl⟩
      · exact hix _ q2
theorem inv_small {n : Nat} {f : Bool} {p : PM} (h : Inv02 n f p) (hn : n ≤ 12) : (p.su.length ≤ 2 ∧ p.da.length ≤ 13 ∧ p.xd.length ≤ 13) ∧ (∀ l ∈ p.su, l.length ≤ 20) ∧ (∀ l ∈ p.da, l.length ≤ 20) ∧ (∀ l ∈ p.xd, l.length ≤ 20) := by
  obtain ⟨v, ks, r, h⟩ := h
  refine ⟨⟨by rw [h.su]; have := h.lr; simp; omega, by have := h.ld; omega, by have := h.lx; omega⟩, fun l hl => ?_, fun l hl => ?_, fun l hl => ?_⟩
  · rw [h.su] at hl
    rcases List.mem_cons.mp hl with rfl | hl
    · have := h.lk; simp; omega
    · obtain ⟨so, ks', rfl, h1, _, h3⟩ := h.hr l hl
      have := h1.1; simp; omega
  · obtain ⟨nm, so, z, rfl, _, _, h3⟩ := h.hd l hl
    have := h3.1; simp; omega
  · obtain ⟨nm, so, rfl, _, h3⟩ := h.hx l hl
    have := h3.1; simp; omega
def TC (ps : Array Value) (c0 c1 c2 c3 c4 c5 : Addr) : Cells := (421, .obj (tabObj ps)) :: codes c0 c1 c2 c3 c4 c5
/-- entity and model, alike -/
inductive LawR (n : Nat) (f : Bool) (E md mx : Addr) (rs : List V) (Z : Cells) : Prop
  | mk (AL SL XL : Addr) (da su xd msu : TL) (T : Cells) (ps : Array Value) (c0 c1 c2 c3 c4 c5 : Addr) : refs msu = rs → TabOk ps c0 c1 c2 c3 c4 c5 → T.Perm (tall da su xd) → its msu = its su → Inv02 n f ⟨its su, its da, its xd⟩ →
      Z.Perm (TC ps c0 c1 c2 c3 c4 c5 ++ (entK E AL SL XL da su xd T ++ modK md mx msu (its da) (its xd))) → LawR n f E md mx rs Z
theorem pm_m {a b c : Cells} : (a ++ (b ++ c)).Perm ((a ++ b) ++ c) := by rw [List.append_assoc]
theorem pm_e {a b c : Cells} : (a ++ (b ++ c)).Perm ((a ++ c) ++ b) := by
  rw [List.append_assoc]; exact List.Perm.append_left _ List.perm_append_comm
theorem pm_t {a b c : Cells} : ((a ++ b) ++ c).Perm ((b ++ c) ++ a) := by
  rw [List.append_assoc]; exact List.perm_append_comm
theorem pm_x {a b c : Cells} : ((a ++ b) ++ c).Perm ((a ++ c) ++ b) := by
  rw [List.append_assoc, List.append_assoc]; exact List.Perm.append_left _ List.perm_append_comm
theorem items_rows (rows : List Row) : itemsV (rows.map rowI) = .lst .list (rows.map rowV) := by simp [itemsV, itemV, Val.v, rowV, rowI, Function.comp_def]
section
variable {M : Md} {w : World} {h0 : Heap} {A : Around} {mg mb : Str → Option Value} {X : Value → Cells → Prop} {cs cs' fin : Cells} {PV : V → Cells → Prop} {PF PF' : Fl → Cells → Prop} {env : Env}
set_option maxHeartbeats 4000000 in
theorem law_end (K : Ctx w h0 mg mb) {L : Addr} (fit' : Fit 20 (A.deeper (lawEnv L))) {n : Nat} {f : Bool} (hn : n ≤ 12) {Z : Cells} {E md mx : Addr} {rs : List V} {S C : V} {q : Addr × MO} (hR : LawR n f E md mx rs Z) :
    EXs (MM w h0) (A.deeper (lawEnv L)) (lawEnv L) ((Stmt.bod f_law).drop 5) ((L, .frame (lawLoc S C md mx rs E f)) :: q :: Z) LOut X := by
  have X0 := K.X
  have G := K.G
  have TO := tagsOk K.X
  have KK := KK1 K
  have g1 := g_walked K
  have g2 := g_Ext K
  have g3 := g_DXFTag K
  have n1 := n_len K
  have n2 := b_len K
  have hd0 := fit'.hd
  have hu : (A.deeper (lawEnv L)).units ≤ 1900 := by have := fit'.un; omega
  cases hR with | mk AL SL XL da su xd msu T ps c0 c1 c2 c3 c4 c5 e1 hTab hT e2 hI hZ =>
  subst e1
  obtain ⟨⟨q1, q2, q3⟩, k1, k2, k3⟩ := inv_small hI hn
  obtain ⟨s2, s1, s3⟩ := inv_sh hI
  dsimp only at q1 q2 q3 k1 k2 k3 s1 s2 s3
  have mE : (E, MO.inst 517 (sl4 AL SL XL)) ∈ Z := hZ.mem_iff.mpr (by simp [entK, entT])
  have mA : (AL, MO.lst .list (refs da)) ∈ Z := hZ.mem_iff.mpr (by simp [entK, entT])
  have mD : (md, MO.lst .list (listsV (its da))) ∈ Z := hZ.mem_iff.mpr (by simp [modK])
  have m4 : (421, MO.obj (tabObj ps)) ∈ Z := hZ.mem_iff.mpr (by simp [TC])
  have hlen : (refs da).length = (listsV (its da)).length := by simp [refs, listsV, its]
  have hl13 : (listsV (its da)).length ≤ 13 := by simpa [listsV] using q2
  cases f with
  | false =>
    refine ex_cons (ex_if ?_)
    repeat' ((fail_if_success show GA _ _ "appdata" _ _ _ _); walk_at "st")
    refine ga_slot (by assumption) (so_app _) (inst_own (.tail _ (.tail _ mE))) rfl (by walk_at "nbi") ?_
    repeat' ((fail_if_success show CL _ _ (.builtin "len") _ _ _ _); walk_at "st")
    refine tr_len_list (.tail _ (.tail _ mA)) (by omega) ?_
    repeat' ((fail_if_success show CL _ _ (.builtin "len") _ _ _ _); walk_at "st")
    refine tr_len_list (.tail _ (.tail _ mD)) (by omega) ?_
    refine cp_eqi_T (by omega) ?_
    exact ⟨_, _, rfl, rfl, ps, .tail _ m4⟩
  | true =>
    obtain ⟨rows, hr, hrm⟩ := inv_rows hI
    have hln := inv_len hI hn
    rw [hr, List.length_map] at hln
    obtain ⟨r1, r2, r3, r4⟩ := run_again hI hr
    dsimp only at r2 r3 r4
    refine ex_cons (ex_if ?_)
    repeat' ((fail_if_success show EV _ _ _ (.ListComp _ _ _ _) _ _ _); walk_at "st")
    refine EV.viewV (ev_map rows rowV rtag TO hd0 (by omega) (cl := []) (by kernel_rfl) ?_)
    repeat' ((fail_if_success show CL _ _ (.ref 552) _ _ _ _); walk_at "st")
    refine CL.useQ (fr := q :: (TC ps c0 c1 c2 c3 c4 c5 ++ entK E AL SL XL da su xd T)) (walked_spec K (fit'.le (by decide)) (md := md) (mx := mx) (su := msu) (da := its da) (xd := its xd) (fun c hc it hi => inv_itok hI c.2 (by rw [← e2]; exact mem_its hc) it hi) (by rw [e2, hr, List.length_map]; omega) (by omega)) ((((hZ.trans pm_m).cons q)).cons _) ?_
    rintro u cz ⟨rfl, rfl⟩
    rw [e2, hr, items_rows]
    refine ⟨.lst .list _, fun D r hr => ?_, fun D => ?_⟩
    · show AS _ _ _ _ (.tup [.int r.1, .str r.2]) _ _ _
      repeat' (first | walk_at "st" )
      refine cl_tag K fit' ?_
      exact ⟨rfl, _, .refl _⟩
    refine ⟨tagL rows, _, (ViewV.of (View.perm (.swap ..))).trans ViewV.fzF, ?_⟩
    repeat' ((fail_if_success show CL _ _ (.ref 517) _ _ _ _); walk_at "st")
    refine CL.useQ (fr := q :: (entK E AL SL XL da su xd T ++ modK md mx msu (its da) (its xd))) (ext_again K (fit'.le (by decide)) r1 (by omega) (fun r hr => .of (all_ok r (hrm r hr)).1) (fun r hr => (all_ok r (hrm r hr)).2) hTab) ((pm_t.cons q).cons _) ?_
    rintro u cz ⟨E', AL', SL', XL', ps', d0, d1, d2, d3, d4, d5, ds', su', xd', T', rfl, hTab', hG, rfl⟩
    refine ⟨_, _, _, rfl, by walk_at "loc", ?_⟩
    obtain ⟨i1, i2, i3⟩ : its ds' = its da ∧ its su' = its su ∧ its xd' = its xd := ⟨hG.da.symm.trans r3, hG.cl.symm.trans r2, hG.ex.symm.trans r4⟩
    have hpm := hG.pm
    have l1 : ds'.length = da.length := by rw [← its_len, i1, its_len]
    have l2 : su'.length = su.length := by rw [← its_len, i2, its_len]
    have l3 : xd'.length = xd.length := by rw [← its_len, i3, its_len]
    rw [its_len] at q1 q2 q3
    refine law_end2 (ds := ds') (su := su') (xd := xd') (E := E') (AL := AL') (SL := SL') (XL := XL') (msu := msu) (md := md) (mx := mx) K fit' ?_
    refine ⟨by simp [entT], by simp [entT], by simp [entT], by simp [entT], fun p hp => ?_, fun p hp => ?_, fun p hp => ?_, by rw [i1]; simp [modK], by rw [i3]; simp [modK], fun p hp => ?_, by rw [i2]; exact e2, ⟨ps', by simp⟩, by omega, by omega, by omega,
      fun p hp => ?_, fun p hp => ?_, fun p hp => ?_, by rw [i1]; exact s1, by rw [i2]; exact s2, by rw [i3]; exact s3⟩
    · have : (p.1, MO.lst .tags (p.2.map tagV)) ∈ T' := hpm.mem_iff.mpr (List.mem_append_left _ (mem_tcs hp))
      simp [entT, this]
    · have : (p.1, MO.lst .tags (p.2.map tagV)) ∈ T' := hpm.mem_iff.mpr (List.mem_append_right _ (List.mem_append_left _ (mem_tcs hp)))
      simp [entT, this]
    · have : (p.1, MO.lst .tags (p.2.map tagV)) ∈ T' := hpm.mem_iff.mpr (List.mem_append_right _ (List.mem_append_right _ (mem_tcs hp)))
      simp [entT, this]
    · have := mem_lcs hp
      simp [modK, this]
    · have := k2 p.2 (by rw [← i1]; exact mem_its hp); omega
    · have := k1 p.2 (by rw [← i2]; exact mem_its hp); omega
    · have := k3 p.2 (by rw [← i3]; exact mem_its hp); omega
end

end
section
open PySem PySem.W PySem.W.X PyProof.Rows
set_option Elab.async false
set_option maxRecDepth 100000
set_option linter.unusedVariables false
set_option linter.unusedSimpArgs false
local macro_rules | `(tactic| walk_at "ev") => `(tactic| (show EV _ _ _ (.List _ _) _ _ _; refine ev_list_fz ?_))
def forB : List Stmt → List Stmt
  | .For _ _ b _ _ :: _ => b
  | _ => []
def turnB : List Stmt := forB ((Stmt.bod f_law).drop 4)
abbrev loc5 (S C mo : V) (E : Addr) (f : Bool) (t : Int) : Loc := [("script", S), ("c", C), ("model", mo), ("entity", .ref E), ("first", .bool f), ("turn", .int t)]
abbrev loc7 (S C mo : V) (E : Addr) (f : Bool) (t : Int) (k : Nat) (name : Str) : Loc := [("script", S), ("c", C), ("model", mo), ("entity", .ref E), ("first", .bool f), ("turn", .int t), ("kind", .int k), ("name", .str name)]
abbrev loc8 (S C mo : V) (E : Addr) (f : Bool) (t : Int) (k : Nat) (name : Str) (part : Option Str) : Loc := [("script", S), ("c", C), ("model", mo), ("entity", .ref E), ("first", .bool f), ("turn", .int t), ("kind", .int k), ("name", .str name), ("part", partV part)]
abbrev loc9 (S C mo : V) (E : Addr) (f : Bool) (t : Int) (k : Nat) (name : Str) (part : Option Str) (so : List Row) : Loc := [("script", S), ("c", C), ("model", mo), ("entity", .ref E), ("first", .bool f), ("turn", .int t), ("kind", .int k), ("name", .str name), ("part", partV part), ("some", rowsV so)]
theorem names_len {k : Nat} (hk : k ≤ 4) : (names k).length = 3 := by
  obtain rfl | rfl | rfl | rfl | rfl : k = 0 ∨ k = 1 ∨ k = 2 ∨ k = 3 ∨ k = 4 := by omega
  all_goals rfl
abbrev NamesV : List V := [.lst .list [.str "{APP", .str "{B", .str "C"], .lst .list [.str "{APP", .str "{B", .str "{N"], .lst .list [.str "APP", .str "B", .str "C"], .lst .list [.str "APP", .str "B", .str "C"], .lst .list [.str "A1", .str "B2", .str "C3"]]
theorem namesV_at {k : Nat} (hk : k ≤ 4) : NamesV[k]? = some (.lst .list ((names k).map .str)) := by
  obtain rfl | rfl | rfl | rfl | rfl : k = 0 ∨ k = 1 ∨ k = 2 ∨ k = 3 ∨ k = 4 := by omega
  all_goals rfl
theorem in23 {k : Nat} (hk : k ≤ 4) : ((vds [V.int 2, V.int 3]).any fun y => PyData.eqv y (.int k)) = decide (k = 2 ∨ k = 3) := by
  obtain rfl | rfl | rfl | rfl | rfl : k = 0 ∨ k = 1 ∨ k = 2 ∨ k = 3 ∨ k = 4 := by omega
  all_goals decide +kernel
def PartOk (part : Option Str) : Prop := ∀ q, part = some q → q ∈ (["AcDbLine", "AcDbNone"] : List Str)
section
variable {M : Md} {w : World} {h0 : Heap} {A : Around} {mg mb : Str → Option Value} {X : Value → Cells → Prop} {cs cs' fin : Cells} {PV : V → Cells → Prop} {PF PF' : Fl → Cells → Prop} {env : Env}
set_option maxHeartbeats 4000000 in
theorem turn_draw (K : Ctx w h0 mg mb) {L : Addr} (fit' : Fit 20 (A.deeper (lawEnv L))) {f : Bool} {Z : Cells} {E c : Addr} {S mo : V} {t : Int} {ns : List Int} {i v : Int} (hi : 0 ≤ i) (hi' : i ≤ 4000) (hv : 0 ≤ v) (hv' : v < 999983) (hns : ns.length ≤ 63)
    (k : ∀ (kk : Nat) (name : Str) (part : Option Str) (so : List Row) (i2 v2 : Int), kk ≤ 4 → name ∈ names kk → PartOk part → SoOk (menuOf kk) so → 0 ≤ i2 → i2 ≤ i + 20 → 0 ≤ v2 → v2 < 999983 →
      EXs (MM w h0) (A.deeper (lawEnv L)) (lawEnv L) (turnB.drop 5) ((L, .frame (loc9 S (.ref c) mo E (f && part.isNone) t kk name part so)) :: cC c ns i2 v2 :: Z) PF NoX) :
    EXs (MM w h0) (A.deeper (lawEnv L)) (lawEnv L) turnB ((L, .frame (loc5 S (.ref c) mo E f t)) :: cC c ns i v :: Z) PF NoX := by
  have X0 := K.X
  have G := K.G
  have TO := tagsOk K.X
  have KK := KK1 K
  have g1 := g_take K
  have g2 := g_some K
  have g3 := g_more K
  have hd0 := fit'.hd
  have hu : (A.deeper (lawEnv L)).units ≤ 1900 := by have := fit'.un; omega
  refine ex_cons ?_
  repeat' ((fail_if_success show CL _ _ (.ref 530) _ _ _ _); walk_at "st")
  refine CL.use (take_spec K (fit'.le (by decide)) c ns i v 5 (by omega) (by omega) (by omega) (by omega) (by omega) (by omega) hns) (by walk_at "picks") ?_
  rintro x cc ⟨d, i1, v1, rfl, a1, a2, a3, a4, a5, a6, rfl⟩
  obtain ⟨kk, rfl⟩ := Int.eq_ofNat_of_zero_le a1
  refine ⟨_, _, _, rfl, by walk_at "loc", ?_⟩
  refine ex_cons ?_
  repeat' ((fail_if_success show OS _ _ _ _ _ _ _ _ _); walk_at "st")
  refine it_lst (by omega) (by omega) (namesV_at (k := kk) (by omega)) ?_
  repeat' ((fail_if_success show CL _ _ (.ref 530) _ _ _ _); walk_at "st")
  refine CL.use (take_spec K (fit'.le (by decide)) c ns i1 v1 3 (by omega) (by omega) (by omega) (by omega) (by omega) (by omega) hns) (by walk_at "picks") ?_
  rintro x cc ⟨d, i2, v2, rfl, b1, b2, b3, b4, b5, b6, rfl⟩
  obtain ⟨j, rfl⟩ := Int.eq_ofNat_of_zero_le b1
  have hnl := names_len (k := kk) (by omega)
  obtain ⟨name, hname⟩ : ∃ name, (names kk)[j]? = some name := ⟨(names kk)[j]'(by omega), by simp⟩
  refine it_lst (by omega) (by omega) (u := .str name) (by simp [hname]) ?_
  refine ⟨_, _, _, rfl, by walk_at "loc", ?_⟩
  have hnm : name ∈ names kk := List.mem_of_getElem? hname
  refine ex_cons (EX.mono (PF := fun f' cs' => f' = .next ∧ ∃ part i3 v3, PartOk part ∧ 0 ≤ i3 ∧ i3 ≤ i2 + 2 ∧ 0 ≤ v3 ∧ v3 < 999983 ∧ cs' = (L, .frame (loc8 S (.ref c) mo E f t kk name part)) :: cC c ns i3 v3 :: Z) ?_ ?_)
  · show EX _ _ _ _ ((L, .frame (loc7 S (.ref c) mo E f t kk name)) :: cC c ns i2 v2 :: Z) _ _
    repeat' ((fail_if_success show CL _ _ (.ref 530) _ _ _ _); walk_at "st")
    · rename_i hk0
      refine CL.use (take_spec K (fit'.le (by decide)) c ns i2 v2 3 (by omega) (by omega) (by omega) (by omega) (by omega) (by omega) hns) (by walk_at "picks") ?_
      rintro x cc ⟨d, i3, v3, rfl, c1, c2, c3, c4, c5, c6, rfl⟩
      repeat' ((fail_if_success show CL _ _ (.ref 530) _ _ _ _); walk_at "st")
      · refine CL.use (take_spec K (fit'.le (by decide)) c ns i3 v3 2 (by omega) (by omega) (by omega) (by omega) (by omega) (by omega) hns) (by walk_at "picks") ?_
        rintro x cc ⟨d, i4, v4, rfl, d1, d2, d3, d4, d5, d6, rfl⟩
        obtain ⟨j', rfl⟩ := Int.eq_ofNat_of_zero_le d1
        obtain ⟨pn, hpn⟩ : ∃ pn, (["AcDbLine", "AcDbNone"] : List Str)[j']? = some pn := ⟨(["AcDbLine", "AcDbNone"] : List Str)[j']'(by simp; omega), by simp⟩
        have hpm : pn ∈ (["AcDbLine", "AcDbNone"] : List Str) := List.mem_of_getElem? hpn
        refine it_lst (by omega) (by omega) (u := .str pn) ?_ ?_
        · have : ((["AcDbLine", "AcDbNone"] : List Str).map V.str)[j']? = some (V.str pn) := by rw [List.getElem?_map, hpn]; rfl
          exact this
        repeat' (first | walk_at "st" )
        exact ⟨rfl, some pn, i4, v4, fun q hq => by cases hq; exact hpm, d3, by omega, d5, d6, rfl⟩
      · repeat' (first | walk_at "st" )
        exact ⟨rfl, none, i3, v3, (fun q hq => by cases hq), c3, by omega, c5, c6, rfl⟩
    · repeat' (first | walk_at "st" )
      exact ⟨rfl, none, i2, v2, (fun q hq => by cases hq), b3, by omega, b5, b6, rfl⟩
  · rintro f' cs' ⟨rfl, part, i3, v3, hpart, p1, p2, p3, p4, rfl⟩
    refine ex_cons (EX.mono (PF := fun f' cs' => f' = .next ∧ ∃ so i4 v4, SoOk (menuOf kk) so ∧ 0 ≤ i4 ∧ i4 ≤ i3 + 4 ∧ 0 ≤ v4 ∧ v4 < 999983 ∧ cs' = (L, .frame (loc9 S (.ref c) mo E f t kk name part so)) :: cC c ns i4 v4 :: Z) ?_ ?_)
    · show EX _ _ _ _ ((L, .frame (loc8 S (.ref c) mo E f t kk name part)) :: cC c ns i3 v3 :: Z) _ _
      repeat' ((fail_if_success show OC _ _ .In _ _ _ _ _); walk_at "st")
      refine op_in_data (d := .int kk) (es := vds [V.int 2, V.int 3]) (.fz rfl) (.fz rfl) ((Sh.int (n := 1) kk).shaped (by decide)) (by decide +kernel) hu ?_
      rw [in23 (by omega)]
      refine ⟨_, rfl, ?_⟩
      by_cases h23 : kk = 2 ∨ kk = 3
      · rw [if_pos (decide_eq_true h23)]
        repeat' ((fail_if_success show CL _ _ (.ref 545) _ _ _ _); walk_at "st")
        refine CL.use (more_spec K (fit'.le (by decide)) p1 (by omega) p3 p4 hns) (by walk_at "picks") ?_
        rintro x cc ⟨so, hsl, hsm, rfl, hC⟩
        cases hC with | mk i4 v4 k1 k2 k3 k4 =>
        have hmn : menuOf kk = menuM := if_pos h23
        exact ⟨_, _, _, rfl, by walk_at "loc", rfl, so, i4, v4, ⟨hsl, by rw [hmn]; exact hsm⟩, k1, k2, k3, k4, rfl⟩
      · rw [if_neg (by simp [h23])]
        repeat' ((fail_if_success show CL _ _ (.ref 540) _ _ _ _); walk_at "st")
        refine CL.use (some_spec K (fit'.le (by decide)) p1 (by omega) p3 p4 hns) (by walk_at "picks") ?_
        rintro x cc ⟨so, hsl, hsm, rfl, hC⟩
        cases hC with | mk i4 v4 k1 k2 k3 k4 =>
        have hmn : menuOf kk = menuS := if_neg h23
        exact ⟨_, _, _, rfl, by walk_at "loc", rfl, so, i4, v4, ⟨hsl, by rw [hmn]; exact hsm⟩, k1, k2, k3, k4, rfl⟩
    · rintro f' cs' ⟨rfl, so, i4, v4, hso, r1, r2, r3, r4, rfl⟩
      have fin := k kk name part so i4 v4 (by omega) hnm hpart hso r1 (by omega) r3 r4
      refine ex_cons ?_
      cases f <;> cases part
      all_goals (repeat' ((fail_if_success show EXs _ _ _ _ _ _ _); walk_at "st"))
      all_goals exact fin
end

end
section
open PySem PySem.W PySem.W.X PyProof.Rows
set_option Elab.async false
set_option maxRecDepth 100000
set_option linter.unusedVariables false
set_option linter.unusedSimpArgs false
local macro_rules | `(tactic| walk_at "st") => `(tactic| (show ∃ f, MethOk _ _ _ (.ref _) "get_handle" f ∧ _; refine ⟨.ref 405, meth_inst (by assumption) (inst_own (.tail _ (by assumption))) (by kernel_rfl) (by kernel_rfl) (by kernel_rfl) (by kernel_rfl), kp_ehandle (by assumption), ?_⟩))
def allNames : List Str := ["{APP", "{B", "C", "{N", "APP", "B", "A1", "B2", "C3"]
theorem all_names : ∀ x ∈ allNames, x.length ≤ 1000 ∧ sw x = (s1 x == "{") := by decide +kernel
theorem names_all {k : Nat} (hk : k ≤ 4) : ∀ x ∈ names k, x ∈ allNames := by
  obtain rfl | rfl | rfl | rfl | rfl : k = 0 ∨ k = 1 ∨ k = 2 ∨ k = 3 ∨ k = 4 := by omega
  all_goals decide +kernel
theorem part_len {part : Option Str} (h : PartOk part) : ∀ q, part = some q → q.length ≤ 1000 := fun q e => by
  have := h q e
  simp only [List.mem_cons, List.not_mem_nil, or_false] at this
  rcases this with rfl | rfl <;> decide +kernel
section
variable {M : Md} {w : World} {h0 : Heap} {A : Around} {mg mb : Str → Option Value} {X : Value → Cells → Prop} {cs cs' fin : Cells} {PV : V → Cells → Prop} {PF PF' : Fl → Cells → Prop} {env : Env}
abbrev TOut (L : Addr) (q : Addr × MO) (loc : Loc) (n : Nat) (f : Bool) (E md mx : Addr) (rs : List V) (fl : Fl) (cs' : Cells) : Prop := fl = .next ∧ ∃ Z', cs' = (L, .frame loc) :: q :: Z' ∧ LawR n f E md mx rs Z'
set_option maxHeartbeats 4000000 in
theorem turn_test (K : Ctx w h0 mg mb) {L : Addr} (fit' : Fit 20 (A.deeper (lawEnv L))) {n : Nat} {f : Bool} (hn : n ≤ 11) {Z : Cells} {E md mx : Addr} {rs : List V} {S C : V} {t : Int} {q : Addr × MO} (hR : LawR n f E md mx rs Z)
    {k : Nat} {name : Str} {part : Option Str} {so : List Row} (hk : k ≤ 4) (hnm : name ∈ names k) (hpt : PartOk part) (hso : SoOk (menuOf k) so) :
    EXs (MM w h0) (A.deeper (lawEnv L)) (lawEnv L) (turnB.drop 5) ((L, .frame (loc9 S C (.lst .list [.lst .list rs, .ref md, .ref mx]) E (f && part.isNone) t k name part so)) :: q :: Z)
      (TOut L q (loc9 S C (.lst .list [.lst .list rs, .ref md, .ref mx]) E (f && part.isNone) t k name part so) (n + 1) (f && part.isNone) E md mx rs) NoX := by
  have X0 := K.X
  have G := K.G
  have TO := tagsOk K.X
  have KK := KK1 K
  have g1 := g_done K
  have g2 := g_plain K
  have g3 := g_pairs K
  have g4 := g_walked K
  have hd0 := fit'.hd
  have hu : (A.deeper (lawEnv L)).units ≤ 1900 := by have := fit'.un; omega
  cases hR with | mk AL SL XL da su xd msu T ps c0 c1 c2 c3 c4 c5 e1 hTab hT e2 hI hZ =>
  subst e1
  obtain ⟨hnl, hns⟩ := all_names name (names_all hk name hnm)
  have hpl := part_len hpt
  have hI' := edit_inv (part := part) hI hk hnm hso
  have W := inv_wm hI (by omega)
  have hsl : (so.map rowI).length ≤ 100 := by have := hso.1; simp; omega
  obtain ⟨⟨q1, q2, q3⟩, k1, k2, k3⟩ := inv_small hI (by omega)
  dsimp only at q1 q2 q3
  rw [its_len] at q1 q2 q3
  have e2l : msu.length = su.length := by rw [← its_len, e2, its_len]
  unfold loc9 rowsV
  rw [← items_rows so]
  generalize hff : (f && part.isNone) = ff at *
  refine ex_cons (ex_if ?_)
  repeat' ((fail_if_success show CL _ _ (.ref 573) _ _ _ _); walk_at "st")
  refine CL.useQ (fr := q :: (TC ps c0 c1 c2 c3 c4 c5 ++ modK md mx msu (its da) (its xd))) (done_spec (part := part) K (fit'.le (by decide)) hk hT W hsl hnl hns hpl) (((hZ.trans pm_e).cons q).cons _) ?_
  rintro u cz ⟨rfl, hE⟩
  cases hE with | mk da1 su1 xd1 T1 i1 i2 i3 hT1 =>
  repeat' ((fail_if_success show CL _ _ (.ref 566) _ _ _ _); walk_at "st")
  refine CL.useQ (fr := q :: (TC ps c0 c1 c2 c3 c4 c5 ++ entK E AL SL XL da1 su1 xd1 T1)) (plain_spec (part := part) (su := msu) (da := its da) (xd := its xd) K (fit'.le (by decide)) hk (by rw [e2]; exact W) hsl hnl (by omega) hpl) ((pm_x (a := q :: TC ps c0 c1 c2 c3 c4 c5)).cons _) ?_
  rintro u cz ⟨msu', rfl, j1, j2, rfl⟩
  rw [e2] at j2 ⊢
  have hp : (edit k name part (so.map rowI) ⟨its su, its da, its xd⟩).2 = ⟨its su1, its da1, its xd1⟩ := by rw [i1, i2, i3]
  rw [hp] at j2 hI' ⊢
  dsimp only at j2 ⊢
  refine cp_nes_F rfl ?_
  obtain ⟨⟨x1, x2, x3⟩, y1, y2, y3⟩ := inv_small hI' (by omega)
  obtain ⟨rows, hr, hrm⟩ := inv_rows hI'
  have hln := inv_len hI' (by omega)
  have hit := inv_itok hI'
  have hsh : ∀ it ∈ walkI (its su1) (its da1) (its xd1) [], ItSh it := fun it hi => by
    have : it ∈ rows.map rowI := hr ▸ hi
    obtain ⟨r, hr2, rfl⟩ := List.mem_map.mp this
    exact row_sh ⟨r, hrm r hr2, rfl⟩
  have hs2 := sh_items hsh
  dsimp only at x1 x2 x3 hln hit
  rw [its_len] at x1 x2 x3
  have hT2 : ∀ p ∈ tcs da1 ++ (tcs su1 ++ tcs xd1), p ∈ T1 := fun p hp => hT1.mem_iff.mpr hp
  repeat' ((fail_if_success show EX _ _ _ _ _ _ _); walk_at "st")
  refine ex_if ?_
  repeat' ((fail_if_success show CL _ _ (.ref 535) _ _ _ _); walk_at "st")
  refine CL.useQ (fr := q :: (TC ps c0 c1 c2 c3 c4 c5 ++ modK md mx msu' (its da1) (its xd1))) (pairs_ent K (fit'.le (by decide)) hT2 (fun c hc it hi => hit c.2 (mem_its hc) it hi) (by omega) (by omega)) ((pm_x (a := q :: TC ps c0 c1 c2 c3 c4 c5)).cons _) ?_
  rintro u cz ⟨rfl, rfl⟩
  repeat' ((fail_if_success show CL _ _ (.ref 552) _ _ _ _); walk_at "st")
  rw [← j1]
  refine CL.useQ (fr := q :: (TC ps c0 c1 c2 c3 c4 c5 ++ entK E AL SL XL da1 su1 xd1 T1)) (walked_spec K (fit'.le (by decide)) (md := md) (mx := mx) (su := msu') (da := its da1) (xd := its xd1) (fun c hc it hi => hit c.2 (by rw [← j2]; exact mem_its hc) it hi) (by rw [j2]; omega) (by rw [its_len]; omega)) ((pm_x (a := q :: TC ps c0 c1 c2 c3 c4 c5)).cons _) ?_
  rintro u cz ⟨rfl, rfl⟩
  rw [j2]
  refine op_ne_same (d := vd (itemsV (walkI (its su1) (its da1) (its xd1) []))) (.fz hs2.1) (.fz hs2.1) (hs2.shaped (by decide)) hu ?_
  obtain ⟨v, l, r, hb⟩ : ∃ v l r, its su1 = ((0, .s "LINE") :: (5, .s v) :: l) :: r := by obtain ⟨v, ks, r, h⟩ := hI'; exact ⟨v, _, r, h.su⟩
  obtain ⟨a, su2, rfl⟩ : ∃ a su2, su1 = (a, (0, .s "LINE") :: (5, .s v) :: l) :: su2 := by
    match su1, hb with
    | (a, _) :: su2, hb =>
      obtain ⟨rfl, _⟩ := List.cons.inj hb
      exact ⟨a, su2, rfl⟩
  obtain ⟨b, ms2, rfl⟩ : ∃ b ms2, msu' = (b, (0, .s "LINE") :: (5, .s v) :: l) :: ms2 := by
    have hb2 := j2.trans hb
    match msu', hb2 with
    | (b, _) :: su2, hb =>
      obtain ⟨rfl, _⟩ := List.cons.inj hb
      exact ⟨b, su2, rfl⟩
  have mE : (E, MO.inst 517 (sl4 AL SL XL)) ∈ (q :: (TC ps c0 c1 c2 c3 c4 c5 ++ entK E AL SL XL da1 ((a, (0, .s "LINE") :: (5, .s v) :: l) :: su2) xd1 T1)) ++ modK md mx ((b, (0, .s "LINE") :: (5, .s v) :: l) :: ms2) (its da1) (its xd1) := by simp [entK, entT]
  repeat' ((fail_if_success show CL _ _ (.ref 405) _ _ _ _); walk_at "st")
  refine CL.useQ (fr := q :: (TC ps c0 c1 c2 c3 c4 c5 ++ modK md mx ((b, (0, .s "LINE") :: (5, .s v) :: l) :: ms2) (its da1) (its xd1))) (ehandle_spec K (fit'.le (by decide)) hT1) ((pm_x (a := q :: TC ps c0 c1 c2 c3 c4 c5)).cons _) ?_
  rintro u cz ⟨rfl, rfl⟩
  have mB : (b, MO.lst .list (((0, Val.s "LINE") :: (5, .s v) :: l : List Item).map itemV)) ∈ (q :: (TC ps c0 c1 c2 c3 c4 c5 ++ modK md mx ((b, (0, .s "LINE") :: (5, .s v) :: l) :: ms2) (its da1) (its xd1))) ++ entK E AL SL XL da1 ((a, (0, .s "LINE") :: (5, .s v) :: l) :: su2) xd1 T1 := by
    simp [modK, lcs]
  repeat' ((fail_if_success show OS _ _ _ _ _ _ _ _ _); walk_at "st")
  refine it_lst (by omega) (by omega) (u := .lst .list (refs ((b, (0, .s "LINE") :: (5, .s v) :: l) :: ms2))) rfl ?_
  repeat' ((fail_if_success show OS _ _ _ _ _ _ _ _ _); walk_at "st")
  refine it_lst (by omega) (by omega) (u := .ref b) rfl ?_
  repeat' ((fail_if_success show OS _ _ _ _ _ _ _ _ _); walk_at "st")
  refine it_list (.tail _ mB) (by omega) (by omega) (u := .tup [.int 5, .str v]) rfl ?_
  repeat' ((fail_if_success show OC _ _ _ _ _ _ _ _); walk_at "st")
  refine cp_nes_F rfl ?_
  repeat' (first | walk_at "st")
  refine ⟨rfl, _, rfl, .mk AL SL XL da1 _ xd1 _ T1 ps c0 c1 c2 c3 c4 c5 rfl hTab hT1 j2 hI' ?_⟩
  exact pm_e.symm
end

end
section
open PySem PySem.W PySem.W.X PyProof.Rows
set_option Elab.async false
set_option maxRecDepth 100000
set_option linter.unusedVariables false
set_option linter.unusedSimpArgs false
section
variable {M : Md} {w : World} {h0 : Heap} {A : Around} {mg mb : Str → Option Value} {X : Value → Cells → Prop} {cs cs' fin : Cells} {PV : V → Cells → Prop} {PF PF' : Fl → Cells → Prop} {env : Env}
theorem pm_1 {c t : Addr × MO} {m : Cells} : ((c :: m) ++ [t]).Perm ([c, t] ++ m) := (List.perm_append_comm (l₁ := m) (l₂ := [t])).cons c
theorem pm_2 {c t : Addr × MO} {m : Cells} : ([c, t] ++ m).Perm ((c :: m) ++ [t]) := pm_1.symm
set_option maxHeartbeats 4000000 in
theorem law_loop (K : Ctx w h0 mg mb) {L : Addr} (fit' : Fit 20 (A.deeper (lawEnv L))) {Z : Cells} {E md mx c : Addr} {rs : List V} {S : V} {ns : List Int} (hns : ns.length ≤ 63) {i v : Int} (hi : 0 ≤ i) (hi' : i ≤ 100) (hv : 0 ≤ v) (hv' : v < 999983) (hR : LawR 0 true E md mx rs Z) :
    EXs (MM w h0) (A.deeper (lawEnv L)) (lawEnv L) ((Stmt.bod f_law).drop 3) ((L, .frame [("script", S), ("c", .ref c), ("model", .lst .list [.lst .list rs, .ref md, .ref mx]), ("entity", .ref E)]) :: cC c ns i v :: Z) LOut X := by
  have X0 := K.X
  have G := K.G
  have TO := tagsOk K.X
  have g5 := g_take K
  have n1 := n_range K
  have n2 := b_range K
  have hd0 := fit'.hd
  repeat' ((fail_if_success show EX _ _ _ (.For _ _ _ _ _) _ _ _); walk_at "st")
  refine ex_for_range hd0 (fun rem cs' => ∃ (n : Nat) (f : Bool) (i2 v2 : Int) (Z2 : Cells), n + rem.length ≤ 10 ∧ 0 ≤ i2 ∧ i2 ≤ 200 + 30 * n ∧ 0 ≤ v2 ∧ v2 < 999983 ∧ LawR n f E md mx rs Z2 ∧ cs' = (L, .frame (lawLoc S (.ref c) md mx rs E f)) :: cC c ns i2 v2 :: Z2) ?_
  repeat' ((fail_if_success show CL _ _ (.ref 530) _ _ _ _); walk_at "st")
  refine CL.use (take_spec K (fit'.le (by decide)) c ns i v 11 (by omega) (by omega) (by omega) (by omega) (by omega) (by omega) hns) (by walk_at "picks") ?_
  rintro x cz ⟨d, i1, v1, rfl, h4, h5, h6, h7, h8, h9, rfl⟩
  obtain ⟨m, rfl⟩ := Int.eq_ofNat_of_zero_le h4
  repeat' (first | walk_at "st")
  refine tr_range fun r t u v2 hr => ?_
  refine ⟨m, r, t, u, v2, _, rfl, by omega, ins_perm _ _, ⟨0, true, i1, v1, Z, by rw [upto_length]; omega, h6, by omega, h8, h9, hR, rfl⟩, ?_, ?_⟩
  · rintro j rem cs' ⟨n, f, i2, v2, Z2, b1, b2, b3, b4, b5, b6, rfl⟩
    simp only [List.length_cons] at b1
    refine as_name (by walk_at "loc") ?_
    refine turn_draw (mo := .lst .list [.lst .list rs, .ref md, .ref mx]) (E := E) (S := S) (f := f) (t := j) K fit' b2 (by omega) b4 b5 hns fun kk name part so i3 v3 e1 e2 e3 e4 e5 e6 e7 e8 => ?_
    refine (turn_test K fit' (by omega) b6 e1 e2 e3 e4).mono ?_ (fun _ _ q => q)
    rintro fl cs' ⟨rfl, Z', rfl, hR'⟩
    exact ⟨_, View.loc (loc' := lawLoc S (.ref c) md mx rs E (f && part.isNone)) (by walk_at "sub"), n + 1, _, i3, v3, Z', by omega, e5, by push_cast; omega, e7, e8, hR', rfl⟩
  · rintro cs' ⟨n, f, i2, v2, Z2, b1, b2, b3, b4, b5, b6, rfl⟩
    exact law_end K fit' (by omega) b6
set_option maxHeartbeats 4000000 in
theorem law_spec (K : Ctx w h0 mg mb) (fit : Fit 21 A) {ns : List Int} (hns : ns.length ≤ 63) :
    CL (MM w h0) A (.ref 585) [.lst .list (ns.map .int)] [(421, .obj (tabObj #[]))] (fun u cs' => u = .bool true ∧ ∃ ps, (421, MO.obj (tabObj ps)) ∈ cs') X := by
  have X0 := K.X
  have G := K.G
  have TO := tagsOk K.X
  have KK := KK1 K
  have g1 := g_made K
  have g2 := g_walked K
  have g3 := g_Ext K
  have g4 := g_DXFTag K
  have g5 := g_take K
  have n1 := n_range K
  have n2 := b_range K
  refine CK.cl (cc_def (names := ["script"]) (args := [.lst .list (ns.map .int)]) fit (fun B hS => ⟨_, hS _ _ (SS_of K.X (is_law _).1 (by decide)), (is_law _).2⟩) (fun B hS h hk => cr_law K.X hS hk) (bind1 (len1 fun a => ba_law a) rfl) K.G.lim (by decide +kernel) (by simp) ?_)
  intro L hL
  have fit' : Fit 20 (A.deeper (lawEnv L)) := fit.deeper (lawEnv L)
  have hd0 := fit'.hd
  show EXs _ _ _ _ ((L, .frame [("script", .lst .list (ns.map .int))]) :: [(421, .obj (tabObj #[]))]) _ _
  repeat' ((fail_if_success show CL _ _ (.ref 580) _ _ _ _); walk_at "st")
  rename_i c hc
  refine CL.use (made_spec K (fit'.le (by decide)) (c := c) (ns := ns) (i := 0) (v := 0) (by omega) (by omega) (by omega) (by omega) hns) (by walk_at "picks") ?_
  rintro u cz ⟨o1, o2, o3, i1, v1, md, mx, msu, r1, r2, r3, a1, a2, a3, a4, e2, rfl, rfl⟩
  have hI := made_inv r1 r2 r3
  generalize hp : madeP o1 o2 o3 = p at *
  obtain ⟨psu, pda, pxd⟩ := p
  dsimp only at *
  subst e2
  obtain ⟨rows, hr, hrm⟩ := inv_rows hI
  have hln := inv_len hI (by omega)
  rw [hr, List.length_map] at hln
  obtain ⟨q1, q2, q3, q4⟩ := run_again hI hr
  dsimp only at q2 q3 q4 hr
  obtain ⟨⟨x1, x2, x3⟩, _⟩ := inv_small hI (by omega)
  dsimp only at x1 x2 x3
  unfold modV
  refine ⟨_, _, _, rfl, by walk_at "loc", ?_⟩
  refine ex_cons ?_
  repeat' ((fail_if_success show EV _ _ _ (.ListComp _ _ _ _) _ _ _); walk_at "st")
  refine EV.viewV (ev_map rows rowV rtag TO hd0 (by omega) (cl := []) (by kernel_rfl) ?_)
  repeat' ((fail_if_success show CL _ _ (.ref 552) _ _ _ _); walk_at "st")
  refine CL.useQ (fr := [cC c ns i1 v1, (421, .obj (tabObj #[]))]) (walked_spec K (fit'.le (by decide)) (md := md) (mx := mx) (su := msu) (da := pda) (xd := pxd) (fun c hc it hi => inv_itok hI c.2 (mem_its hc) it hi) (by rw [hr, List.length_map]; omega) (by omega)) (pm_1.cons _) ?_
  rintro u cz ⟨rfl, rfl⟩
  rw [hr, items_rows]
  refine ⟨.lst .list _, fun D r hr => ?_, fun D => ?_⟩
  · show AS _ _ _ _ (.tup [.int r.1, .str r.2]) _ _ _
    repeat' (first | walk_at "st" )
    refine cl_tag K fit' ?_
    exact ⟨rfl, _, .refl _⟩
  refine ⟨tagL rows, _, (ViewV.of (View.perm (.swap ..))).trans ViewV.fzF, ?_⟩
  repeat' ((fail_if_success show CL _ _ (.ref 517) _ _ _ _); walk_at "st")
  refine CL.useQ (fr := cC c ns i1 v1 :: modK md mx msu pda pxd) (ext_first K (fit'.le (by decide)) q1 (by omega) (fun r hr => .of (all_ok r (hrm r hr)).1) (fun r hr => (all_ok r (hrm r hr)).2)) (pm_2.cons _) ?_
  rintro u cz ⟨E, AL, SL, XL, ps, d0, d1, d2, d3, d4, d5, ds, su, xd, T, rfl, hTab, hG, rfl⟩
  refine ⟨_, _, _, rfl, by walk_at "loc", ?_⟩
  obtain ⟨j1, j2, j3⟩ : its ds = pda ∧ its su = its msu ∧ its xd = pxd := ⟨hG.da.symm.trans q3, hG.cl.symm.trans q2, hG.ex.symm.trans q4⟩
  subst j1 j3
  have hR : LawR 0 true E md mx (refs msu) (modK md mx msu (its ds) (its xd) ++ ((421, MO.obj (tabObj ps)) :: (codes d0 d1 d2 d3 d4 d5 ++ entT E AL SL XL (refs ds) (refs su) (refs xd) T))) := by
    refine .mk AL SL XL ds su xd msu T ps d0 d1 d2 d3 d4 d5 rfl hTab hG.pm j2.symm (by rw [j2]; exact hI) ?_
    have : (TC ps d0 d1 d2 d3 d4 d5 ++ (entK E AL SL XL ds su xd T ++ modK md mx msu (its ds) (its xd))) = ((421, MO.obj (tabObj ps)) :: (codes d0 d1 d2 d3 d4 d5 ++ entT E AL SL XL (refs ds) (refs su) (refs xd) T)) ++ modK md mx msu (its ds) (its xd) := by
      rw [← List.append_assoc]; rfl
    rw [this]
    exact List.perm_append_comm
  exact law_loop K fit' hns a1 (by omega) a3 a4 hR
end

end
end Mine
open PySem PySem.W PySem.W.X PyProof.Rows
set_option Elab.async false
set_option maxRecDepth 100000
set_option linter.unusedVariables false
namespace Mine
theorem ints_rv {C : Cls} {B : FH} {vs : List Value} {ns : List Int} (h : IntsAre vs ns) : RVs C B vs (ns.map .int) := by
  induction h with
  | nil => exact .nil
  | cons _ _ _ ih => exact .cons (.int _ _) ih
theorem join {w : World} {s₁ : Shared} {mg mb : Str → Option Value} (KX : (hd.heap_39 w.params).In s₁.heap) (KT : ∀ P ∈ ([421] : List Addr), s₁.heap.get? P = some (tabObj #[])) (g : s₁.heap.Ns mainGlobals mg) (b : s₁.heap.Ns builtinsNs mb) (lim : s₁.heap.NoLimit) (bi : ∀ x : Str, x ≠ "__name__" → mb x = bootBuiltins x)
    (bm : ∃ bm ob, mg "__builtins__" = some (.ref bm) ∧ bm ≠ builtinsNs ∧ s₁.heap.get? bm = some ob ∧ ob.cls = .type "module" ∧ ob.dict = some builtinsNs ∧ ob.data = .plain) (hg : s₁.gens = #[]) {l : Addr} {vs : List Value} {ns : List Int} (hl : s₁.heap.get? l = some { cls := .type "list", data := .seq vs.toArray }) (hI : IntsAre vs ns) (hns : ns.length ≤ 63)
    {Q : Value → Shared → Prop} {E : Value → Shared → Prop} (hQ : ∀ s', OldK s₁.heap s'.heap → s'.os = s₁.os → AllBare s'.gens → Q (.bool true) s') :
    wpAny (model PP w) callerA (call (.ref 585) [.ref l]) Q E s₁ := by
  have gl : ∀ {x : Str} {r : Option Value}, lookIn x (ko 3 w.params) = some r → mg x = r := fun e => gl_of KX g e
  have hbt : ∀ P ∈ TB, s₁.heap.get? P = some (tabObj #[]) := KT
  have ba : s₁.heap.BuiltinsAt mg 421 := by
    obtain ⟨bm, ob, e1, e2, e3, e4, e5, e6⟩ := bm
    have q : mg "__builtins__" = some (.ref 4) := gl (by kernel_rfl)
    rw [q] at e1
    cases e1
    exact ⟨4, ob, q, e2, by decide, by decide, e3, e4, e5, e6⟩
  have K : Ctx w s₁.heap mg mb := ⟨KX, ⟨fun h hk => let ⟨o, es, ep, ho, r⟩ := g; ⟨o, es, ep, hk _ _ ((if_neg (show mainGlobals ∉ TB by decide)).trans ho), r⟩, fun h hk => let ⟨o, es, ep, ho, r⟩ := b; ⟨o, es, ep, hk _ _ ((if_neg (show builtinsNs ∉ TB by decide)).trans ho), r⟩,
    fun h hk => let ⟨mc, ⟨o, es, ep, ho, r⟩, q⟩ := lim; ⟨mc, ⟨o, es, ep, hk _ _ ((if_neg (show cStatics ∉ TB by decide)).trans ho), r⟩, q⟩⟩, gl, bi _, ba⟩
  have hll : l ∉ TB := fun hm => by rw [hbt l hm] at hl; cases hl
  have hkeep : ∀ a o, SS s₁.heap a = some o → s₁.heap.get? a = some o := fun a o e => by
    unfold SS at e
    split at e
    · cases e
    · exact e
  have S0 : St (MM w s₁.heap).C (MM w s₁.heap).S callerA (SS s₁.heap) [(421, .obj (tabObj #[]))] s₁ := by
    refine ⟨hkeep, fun _ _ e => e, fun p hp => ?_, fun p hp => ?_, fun p hp => ?_, by decide, ⟨[], rfl, fun _ h => by cases h⟩, ?_⟩
    · simp only [List.mem_cons, List.not_mem_nil, or_false] at hp
      subst hp
      exact hbt 421 (by decide)
    · simp only [List.mem_cons, List.not_mem_nil, or_false] at hp
      subst hp; exact fun ⟨_, _, q⟩ => by cases q
    · simp only [List.mem_cons, List.not_mem_nil, or_false] at hp
      subst hp; exact if_pos (by decide)
    · rw [hg]; intro i hi; simp at hi
  have fit : Fit 21 callerA := ⟨by decide, by decide, rfl⟩
  have hr : RVs (MM w s₁.heap).C (SS s₁.heap) [.ref l] [.lst .list (ns.map .int)] := .cons (.lst (k := .list) ((if_neg hll).trans hl) rfl (ints_rv hI)) .nil
  refine wpAny_mono ((law_spec (X := NoX) K fit hns).it [.ref l] _ s₁ S0 hr) (fun v s' ⟨B', cs', u, S', F', R', hu, ps, h421⟩ => ?_) (fun e s' ⟨_, _, _, _, _, _, _, q⟩ => q.elim)
  subst hu
  cases R'
  refine hQ s' ⟨fun b o e => ?_, F'.there⟩ F'.os S'.bare
  have ict : ∀ c P, CodeHd s₁.heap c P → isCodeTable s₁.heap P := fun c P ⟨o, vs, _, _, _, _, _, _, _, f1, f2, f3, f4, _⟩ => ⟨c, o, vs, f1, f2, f3, f4⟩
  have fin : ∀ c P, CodeHd s₁.heap c P → P ∈ TB → (∃ ps, s'.heap.get? P = some (tabObj ps)) → s₁.heap.get? P = some o → asItWas s₁.heap s'.heap P o := fun c P hc hP ⟨ps, hp⟩ e => by
    rw [hbt P hP] at e
    cases e
    exact .inr (.inl ⟨ict c P hc, rfl, #[], ps, rfl, by rw [hp]; simp [tabObj]⟩)
  by_cases hb : b ∈ TB
  · have hb' : b = 421 := by simpa using hb
    subst hb'
    exact fin 425 421 (chd_setup K _ hkeep) hb ⟨ps, S'.own _ h421⟩ e
  · exact .inl (S'.keep b o (F'.mono _ _ ((if_neg hb).trans e)))
end Mine
theorem PySem.Challenge.cw_fy0016_02_holds : PySem.Challenge.rw_fy0016_02.Holds := by
  refine hd ?_
  intro w s₀ s₁ mg mb G Y fa o pm cd doc dV kV ho hd' hcd hD hmg hg args vals as hpre hlay hrd hwl hlo
  have KX := km_in_of Y
  have KT := km_tabs_of Y
  clear Y
  refine Ground.open G ?_
  intro T B D TE TW
  have hfa : fa = 585 := by
    have q : mg "law" = some (.ref 585) := Mine.gl_of KX T.g (by kernel_rfl)
    have q2 : mg "law" = some (.ref fa) := hmg
    rw [q] at q2
    cases q2
    rfl
  subst hfa
  have Tg := T.g
  have Tb := T.b
  have Tl := T.nolimit
  have Ti := T.builtins
  have Tm := T.bmain
  clear ho hd' hcd hD TE TW B D G T hmg
  wrow_args hpre hlay hrd hwl hlo
  rename_i ns _ _ _ _ _ _ l vs _ hL _ w1 _ hI _ hc _
  obtain ⟨vs', hx⟩ : ∃ vs' : List Value, s₁.heap.get? l = some { cls := .type "list", data := .seq vs'.toArray } := by
    cases w1 with
    | list e _ => exact ⟨_, e⟩
  have hv : vs' = vs := by
    obtain ⟨o, ho, _, n, hdd⟩ := hL
    rw [hx] at ho
    cases ho
    cases hdd
    rfl
  subst hv
  refine Mine.join KX KT Tg Tb Tl Ti Tm hg hx hI (by omega) fun s' hO hos hbr => ?_
  refine ⟨.inl ⟨.bool true, .bool true, [], rfl, fun cls => ?_, .bool true, ?_, fun _ => ⟨.nil, fun _ h => by cases h⟩⟩, hO, hos, hbr⟩
  · rfl
  · wrow_post
