import PyProof.Rows.All
import Wide.All
import OpenK.AllK
import Wide.FinOn
import Lean
import PySem.Challenge.RW_kl0253_01
open PySem PySem.W PySem.Calls PyProof.Rows
set_option Elab.async false
set_option linter.all false
namespace BK
noncomputable abbrev OP := Obj → Prop
noncomputable abbrev Led := List (Addr × OP)

/-- what stays the same beside the heap and the count of tokens -/
noncomputable def Rest (s s' : Shared) : Prop := s'.gens = s.gens ∧ s'.drawn = s.drawn ∧ s'.os = s.os
theorem Rest.refl (s : Shared) : Rest s s := ⟨rfl, rfl, rfl⟩
theorem Rest.trans {a b c : Shared} (h : Rest a b) (k : Rest b c) : Rest a c := ⟨k.1.trans h.1, k.2.1.trans h.2.1, k.2.2.trans h.2.2⟩

/-- every object of the one heap is in the other -/
noncomputable def Le (h h' : Heap) : Prop := ∀ b o, h.get? b = some o → h'.get? b = some o
noncomputable def LeBut (a : Addr) (h h' : Heap) : Prop := ∀ b o, b ≠ a → h.get? b = some o → h'.get? b = some o
theorem Le.refl (h : Heap) : Le h h := fun _ _ e => e
theorem Le.trans {a b c : Heap} (h : Le a b) (k : Le b c) : Le a c := fun x o e => k x o (h x o e)
theorem Le.but {h h' : Heap} (k : Le h h') (a : Addr) : LeBut a h h' := fun b o _ e => k b o e
theorem LeBut.trans {x : Addr} {a b c : Heap} (h : LeBut x a b) (k : LeBut x b c) : LeBut x a c := fun y o n e => k y o n (h y o n e)
theorem LeBut.of_same {a : Addr} {h h' : Heap} (k : Heap.SameBut a h h') : LeBut a h h' := fun b _ n e => (k.2 b n).trans e
theorem Le.push (h : Heap) (o : Obj) : Le h (h.push o) := fun _ _ e => Heap.get?_push_of_some _ e

structure Kx where
  hT : Heap
  h₀ : Heap
  mu : List Addr
  gens : Array GenState
  drawn : Drawn
  os : OsState

noncomputable def topN : Nat := 201
/-- the table of the nested codes of _law_read: the one object of the top that is changed -/
noncomputable def tabAt : Addr := 192
noncomputable def Hi (a : Addr) : Prop := topN ≤ a ∨ a = tabAt

/-- an object with a property stands there -/
noncomputable def Has (h : Heap) (a : Addr) (P : OP) : Prop := ∃ o, h.get? a = some o ∧ P o
theorem Has.le {h h' : Heap} {a : Addr} {P : OP} (x : Has h a P) (k : Le h h') : Has h' a P := let ⟨o, e, p⟩ := x; ⟨o, k _ _ e, p⟩
theorem Has.imp {h : Heap} {a : Addr} {P P' : OP} (x : Has h a P) (f : ∀ o, P o → P' o) : Has h a P' := let ⟨o, e, p⟩ := x; ⟨o, e, f _ p⟩

structure St (K : Kx) (base led : Led) (s : Shared) : Prop where
  top : Le K.hT s.heap
  tn : K.hT.objs.size = topN
  last : (K.hT.get? 200).isSome = true
  tab : K.hT.get? tabAt = none
  keep : ∀ b o, K.h₀.get? b = some o → b ∉ K.mu → s.heap.get? b = some o
  old : ∀ p ∈ base, Has s.heap p.1 p.2 ∧ (K.h₀.get? p.1).isSome = true ∧ p.1 ∉ K.mu
  here : ∀ p ∈ led, Has s.heap p.1 p.2
  nd : (led.map (·.1)).Nodup
  fresh : ∀ p ∈ led, p.1 ∈ K.mu ∨ K.h₀.get? p.1 = none
  hi : ∀ p ∈ led, Hi p.1
  gens : s.gens = K.gens
  drawn : s.drawn = K.drawn
  os : s.os = K.os

/-- what is known to stand at a place -/
inductive Kn (base led : Led) (a : Addr) (P : OP) : Prop where
  | own (h : (a, P) ∈ led)
  | old (h : (a, P) ∈ base)
theorem St.has {K : Kx} {base led : Led} {s : Shared} {a : Addr} {P : OP} (H : St K base led s) (k : Kn base led a P) : Has s.heap a P := by
  cases k with
  | own h => exact H.here _ h
  | old h => exact (H.old _ h).1

inductive Upd : Led → Addr → OP → OP → Led → Prop where
  | here {l : Led} {a : Addr} {P P' : OP} : Upd ((a, P) :: l) a P P' ((a, P') :: l)
  | next {q : Addr × OP} {l l' : Led} {a : Addr} {P P' : OP} (h : Upd l a P P' l') : Upd (q :: l) a P P' (q :: l')
theorem Upd.mem {l l' : Led} {a : Addr} {P P' : OP} (u : Upd l a P P' l') : (a, P) ∈ l := by
  induction u with
  | here => exact .head _
  | next _ ih => exact .tail _ ih
theorem Upd.fst {l l' : Led} {a : Addr} {P P' : OP} (u : Upd l a P P' l') : l'.map (·.1) = l.map (·.1) := by
  induction u with
  | here => rfl
  | next _ ih => simp only [List.map_cons, ih]
theorem Upd.back {l l' : Led} {a : Addr} {P P' : OP} (u : Upd l a P P' l') (nd : (l.map (·.1)).Nodup) : ∀ p ∈ l', p = (a, P') ∨ (p ∈ l ∧ p.1 ≠ a) := by
  induction u with
  | here =>
    intro p hp
    simp only [List.map_cons, List.nodup_cons] at nd
    rcases List.mem_cons.mp hp with rfl | hp
    · exact .inl rfl
    · exact .inr ⟨.tail _ hp, fun e => nd.1 (e ▸ List.mem_map_of_mem hp)⟩
  | next u ih =>
    intro p hp
    simp only [List.map_cons, List.nodup_cons] at nd
    rcases List.mem_cons.mp hp with rfl | hp
    · refine .inr ⟨.head _, fun e => nd.1 ?_⟩
      rw [e]
      exact List.mem_map_of_mem u.mem
    · rcases ih nd.2 p hp with h | ⟨h1, h2⟩
      · exact .inl h
      · exact .inr ⟨.tail _ h1, h2⟩

section
variable {K : Kx} {base led led' : Led} {s s' : Shared} {a : Addr} {P P' : OP}

theorem St.sz (H : St K base led s) : topN ≤ s.heap.objs.size := by
  obtain ⟨o, e⟩ := Option.isSome_iff_exists.mp H.last
  exact Heap.lt_size (H.top _ _ e)
theorem St.lt_of_top (H : St K base led s) {b : Addr} {o : Obj} (e : K.hT.get? b = some o) : b < topN := H.tn ▸ Heap.lt_size e

theorem St.top_off (H : St K base led s) {b : Addr} {o : Obj} (e : K.hT.get? b = some o) : ¬ Hi b := by
  rintro (h | h)
  · exact Nat.not_lt.mpr h (H.lt_of_top e)
  · rw [h, H.tab] at e; cases e
/-- nothing is changed -/
theorem St.same (H : St K base led s) (hh : s'.heap = s.heap) (hr : Rest s s') : St K base led s' where
  top := hh ▸ H.top
  tn := H.tn
  last := H.last
  tab := H.tab
  keep := fun b o e n => hh ▸ H.keep b o e n
  old := fun p hp => hh ▸ H.old p hp
  here := fun p hp => hh ▸ H.here p hp
  nd := H.nd
  fresh := H.fresh
  hi := H.hi
  gens := hr.1.trans H.gens
  drawn := hr.2.1.trans H.drawn
  os := hr.2.2.trans H.os


/-- more objects -/
theorem St.le (H : St K base led s) (hk : Le s.heap s'.heap) (hr : Rest s s') : St K base led s' where
  top := H.top.trans hk
  tn := H.tn
  last := H.last
  tab := H.tab
  keep := fun b o e n => hk _ _ (H.keep b o e n)
  old := fun p hp => ⟨(H.old p hp).1.le hk, (H.old p hp).2⟩
  here := fun p hp => (H.here p hp).le hk
  nd := H.nd
  fresh := H.fresh
  hi := H.hi
  gens := hr.1.trans H.gens
  drawn := hr.2.1.trans H.drawn
  os := hr.2.2.trans H.os

theorem St.off (H : St K base led s) {n : Addr} (hn : s.heap.get? n = none) : n ∉ led.map (·.1) := by
  intro hm
  obtain ⟨p, hp, rfl⟩ := List.mem_map.mp hm
  obtain ⟨o, e, _⟩ := H.here p hp
  rw [hn] at e; cases e
theorem St.notOld (H : St K base led s) {n : Addr} (hn : s.heap.get? n = none) : n ∈ K.mu ∨ K.h₀.get? n = none := by
  by_cases hm : n ∈ K.mu
  · exact .inl hm
  · refine .inr ?_
    cases e : K.h₀.get? n with
    | none => rfl
    | some o => have := H.keep n o e hm; rw [hn] at this; cases this
/-- a new object, known -/
theorem St.add (H : St K base led s) (hk : Le s.heap s'.heap) (hr : Rest s s') {n : Addr} (hn : s.heap.get? n = none) (hz : Hi n) (hp : Has s'.heap n P) : St K base ((n, P) :: led) s' where
  top := H.top.trans hk
  tn := H.tn
  last := H.last
  tab := H.tab
  keep := fun b o e m => hk _ _ (H.keep b o e m)
  old := fun p hp => ⟨(H.old p hp).1.le hk, (H.old p hp).2⟩
  here := fun p hm => by
    rcases List.mem_cons.mp hm with rfl | hm
    · exact hp
    · exact (H.here p hm).le hk
  nd := by
    rw [List.map_cons, List.nodup_cons]
    exact ⟨H.off hn, H.nd⟩
  fresh := fun p hm => by
    rcases List.mem_cons.mp hm with rfl | hm
    · exact H.notOld hn
    · exact H.fresh p hm
  hi := fun p hm => by
    rcases List.mem_cons.mp hm with rfl | hm
    · exact hz
    · exact H.hi p hm
  gens := hr.1.trans H.gens
  drawn := hr.2.1.trans H.drawn
  os := hr.2.2.trans H.os

theorem get_size (h : Heap) : h.get? h.objs.size = none := by
  cases e : h.get? h.objs.size with
  | none => rfl
  | some o => exact absurd (Heap.lt_size e) (Nat.lt_irrefl _)
theorem St.push (H : St K base led s) (o : Obj) (hp : P o) (hf : o.isFreed = false) (hh : s'.heap = s.heap.push o) (hr : Rest s s') : St K base ((s.heap.objs.size, P) :: led) s' :=
  H.add (hh ▸ Le.push _ _) hr (get_size _) (.inl H.sz) ⟨o, by rw [hh]; exact Heap.get?_push_size _ hf, hp⟩

/-- one of the own objects is changed -/
theorem St.change (H : St K base led s) (u : Upd led a P P' led') (hk : LeBut a s.heap s'.heap) (hr : Rest s s') (hp : Has s'.heap a P') : St K base led' s' where
  top := fun b o e => hk b o (fun q => by
    exact H.top_off e (q ▸ H.hi _ u.mem)) (H.top b o e)
  tn := H.tn
  last := H.last
  tab := H.tab
  keep := fun b o e n => hk b o (fun q => by
    subst q
    rcases H.fresh _ u.mem with f | f
    · exact n f
    · rw [e] at f; cases f) (H.keep b o e n)
  old := fun p hp => by
    obtain ⟨⟨o, e, q⟩, i, n⟩ := H.old p hp
    refine ⟨⟨o, hk _ _ (fun z => ?_) e, q⟩, i, n⟩
    rcases H.fresh _ u.mem with f | f
    · exact n (z ▸ f)
    · rw [z] at i; simp only at f; rw [f] at i; cases i
  here := fun p hm => by
    rcases u.back H.nd p hm with rfl | ⟨h1, h2⟩
    · exact hp
    · obtain ⟨o, e, q⟩ := H.here p h1
      exact ⟨o, hk _ _ h2 e, q⟩
  nd := by rw [u.fst]; exact H.nd
  fresh := fun p hm => by
    rcases u.back H.nd p hm with rfl | ⟨h1, _⟩
    · exact H.fresh (a, P) u.mem
    · exact H.fresh _ h1
  hi := fun p hm => by
    rcases u.back H.nd p hm with rfl | ⟨h1, _⟩
    · exact H.hi (a, P) u.mem
    · exact H.hi _ h1
  gens := hr.1.trans H.gens
  drawn := hr.2.1.trans H.drawn
  os := hr.2.2.trans H.os

/-- forget -/
theorem St.sub (H : St K base led s) (hs : List.Sublist led' led) : St K base led' s where
  top := H.top
  tn := H.tn
  last := H.last
  tab := H.tab
  keep := H.keep
  old := H.old
  here := fun p hm => H.here p (hs.subset hm)
  nd := (hs.map _).nodup H.nd
  fresh := fun p hm => H.fresh p (hs.subset hm)
  hi := fun p hm => H.hi p (hs.subset hm)
  gens := H.gens
  drawn := H.drawn
  os := H.os
/-- weaken one -/
theorem St.weak (H : St K base led s) (u : Upd led a P P' led') (f : ∀ o, P o → P' o) : St K base led' s :=
  H.change u (fun _ _ _ e => e) (Rest.refl _) ((H.here _ u.mem).imp f)

end

/-- how a call ends that changes nothing that stood -/
structure Ext (s s' : Shared) : Prop where
  le : Le s.heap s'.heap
  rest : Rest s s'
  sz : s.heap.objs.size ≤ s'.heap.objs.size
structure ExtBut (a : Addr) (s s' : Shared) : Prop where
  le : LeBut a s.heap s'.heap
  rest : Rest s s'
  sz : s.heap.objs.size ≤ s'.heap.objs.size
theorem Ext.refl (s : Shared) : Ext s s := ⟨Le.refl _, Rest.refl _, Nat.le_refl _⟩
theorem Ext.trans {a b c : Shared} (h : Ext a b) (k : Ext b c) : Ext a c := ⟨h.le.trans k.le, h.rest.trans k.rest, Nat.le_trans h.sz k.sz⟩
theorem St.ext {K : Kx} {base led : Led} {s s' : Shared} (H : St K base led s) (x : Ext s s') : St K base led s' := H.le x.le x.rest
theorem St.extBut {K : Kx} {base led led' : Led} {s s' : Shared} {a : Addr} {P P' : OP} (H : St K base led s) (x : ExtBut a s s') (u : Upd led a P P' led') (hp : Has s'.heap a P') : St K base led' s' := H.change u x.le x.rest hp
/-- what a call hands back that is new -/
theorem St.ret {K : Kx} {base led : Led} {s s' : Shared} {n : Addr} {P : OP} (H : St K base led s) (x : Ext s s') (hn : s.heap.objs.size ≤ n) (hp : Has s'.heap n P) : St K base ((n, P) :: led) s' :=
  H.add x.le x.rest (by
    cases e : s.heap.get? n with
    | none => rfl
    | some o => exact absurd (Heap.lt_size e) (Nat.not_lt.mpr hn)) (.inl (Nat.le_trans H.sz hn)) hp
/-- the end of a call: its own frame stands at the end of what stood -/
theorem St.out {K : Kx} {hT : Heap} {base led : Led} {s s' : Shared} {P : OP} (H : St K base led s') (hK : K = ⟨hT, s.heap, [], s.gens, s.drawn, s.os⟩) (hL : (s.heap.objs.size, P) ∈ led) : Ext s s' := by
  subst hK
  exact ⟨fun b o e => H.keep b o e (fun q => (nomatch q)), ⟨H.gens, H.drawn, H.os⟩, by obtain ⟨o, e, _⟩ := H.here _ hL; exact Nat.le_of_lt (Heap.lt_size e)⟩
theorem St.outBut {K : Kx} {hT : Heap} {base led : Led} {s s' : Shared} {a : Addr} {P : OP} (H : St K base led s') (hK : K = ⟨hT, s.heap, [a], s.gens, s.drawn, s.os⟩) (hL : (s.heap.objs.size, P) ∈ led) : ExtBut a s s' := by
  subst hK
  exact ⟨fun b o n e => H.keep b o e (fun q => n (List.mem_singleton.mp q)), ⟨H.gens, H.drawn, H.os⟩, by obtain ⟨o, e, _⟩ := H.here _ hL; exact Nat.le_of_lt (Heap.lt_size e)⟩

theorem Le.size {h h' : Heap} (hk : Le h h') {a : Addr} {o : Obj} (e : h.get? a = some o) : a < h'.objs.size := Heap.lt_size (hk _ _ e)

/-- the room around -/
structure Room (k : Nat) (A : Around) : Prop where
  hd : A.handled = none
  dp : A.depth + k < recursionLimit
  un : A.units + 4 * k + 64 < cLine
theorem Room.deeper {k : Nat} {A : Around} (R : Room (k + 1) A) (env : Env) : Room k (A.deeper env) :=
  ⟨R.hd, by have := R.dp; show A.depth + 1 + k < _; lia, by have := R.un; show A.units + 3 + 4 * k + 64 < _; lia⟩
theorem Room.le {k j : Nat} {A : Around} (R : Room k A) (h : j ≤ k) : Room j A := ⟨R.hd, by have := R.dp; lia, by have := R.un; lia⟩
end BK
namespace BK
noncomputable abbrev pw : Program := PySem.Challenge.pw_kl0253_01
noncomputable def fnParts (i : Nat) : Option (Str × Arguments × List Stmt × Scope) := match pw.main.body[i]? with
  | some (.FunctionDef n a b _ _ _ sc _ _ _) => some (n, a, b, sc)
  | _ => none
noncomputable def fnName (i : Nat) : Str := ((fnParts i).map (·.1)).getD default
noncomputable def fnParams (i : Nat) : Arguments := ((fnParts i).map (·.2.1)).getD default
noncomputable def fnBody (i : Nat) : List Stmt := ((fnParts i).map (·.2.2.1)).getD []
noncomputable def fnScope (i : Nat) : Scope := ((fnParts i).map (·.2.2.2)).getD default

/-! ## objects -/
noncomputable def nsO (m : Str → Option Value) : OP := fun o => ∃ es ep, o.data = .dict es ep ∧ StrKeys es ∧ ∀ name, nsFind es name = m name
theorem ns_of {h : Heap} {a : Addr} {m : Str → Option Value} (x : Has h a (nsO m)) : h.Ns a m :=
  let ⟨o, e, es, ep, d, k, f⟩ := x; ⟨o, es, ep, e, d, k, f⟩
theorem of_ns {h : Heap} {a : Addr} {m : Str → Option Value} (x : h.Ns a m) : Has h a (nsO m) :=
  let ⟨o, es, ep, e, d, k, f⟩ := x; ⟨o, e, es, ep, d, k, f⟩
noncomputable abbrev Vars := List (Str × Option Value)
noncomputable def nsP (vs : Vars) : OP := fun o => (vs.map (·.1)).Nodup ∧ ∃ m, nsO m o ∧ ∀ p ∈ vs, m p.1 = p.2
theorem nsP_open {h : Heap} {a : Addr} {vs : Vars} (x : Has h a (nsP vs)) : (vs.map (·.1)).Nodup ∧ ∃ m, h.Ns a m ∧ ∀ p ∈ vs, m p.1 = p.2 :=
  let ⟨o, e, nd, m, n, f⟩ := x; ⟨nd, m, ns_of ⟨o, e, n⟩, f⟩
theorem nsP_of {h : Heap} {a : Addr} {vs : Vars} {m : Str → Option Value} (nd : (vs.map (·.1)).Nodup) (x : h.Ns a m) (f : ∀ p ∈ vs, m p.1 = p.2) : Has h a (nsP vs) :=
  let ⟨o, e, n⟩ := of_ns x; ⟨o, e, nd, m, n, f⟩

/-- the value of one name is set -/
inductive UpV : Vars → Str → Option Value → Vars → Prop where
  | here {l : Vars} {x : Str} {u v : Option Value} : UpV ((x, u) :: l) x v ((x, v) :: l)
  | next {q : Str × Option Value} {l l' : Vars} {x : Str} {v : Option Value} (h : UpV l x v l') : UpV (q :: l) x v (q :: l')
theorem UpV.fst {l l' : Vars} {x : Str} {v : Option Value} (u : UpV l x v l') : l'.map (·.1) = l.map (·.1) := by
  induction u with
  | here => rfl
  | next _ ih => simp only [List.map_cons, ih]
theorem UpV.key {l l' : Vars} {x : Str} {v : Option Value} (u : UpV l x v l') : x ∈ l.map (·.1) := by
  induction u with
  | here => exact .head _
  | next _ ih => exact .tail _ ih
theorem UpV.back {l l' : Vars} {x : Str} {v : Option Value} (u : UpV l x v l') (nd : (l.map (·.1)).Nodup) : ∀ p ∈ l', p = (x, v) ∨ (p ∈ l ∧ p.1 ≠ x) := by
  induction u with
  | here =>
    intro p hp
    simp only [List.map_cons, List.nodup_cons] at nd
    rcases List.mem_cons.mp hp with rfl | hp
    · exact .inl rfl
    · exact .inr ⟨.tail _ hp, fun e => nd.1 (e ▸ List.mem_map_of_mem hp)⟩
  | next u ih =>
    intro p hp
    simp only [List.map_cons, List.nodup_cons] at nd
    rcases List.mem_cons.mp hp with rfl | hp
    · exact .inr ⟨.head _, fun e => nd.1 (e ▸ u.key)⟩
    · rcases ih nd.2 p hp with h | ⟨h1, h2⟩
      · exact .inl h
      · exact .inr ⟨.tail _ h1, h2⟩

noncomputable def listObj (items : Array Value) (n : Nat) : Obj := { cls := .type "list", data := .seq items n }
noncomputable def lstP (items : List Value) : OP := fun o => ∃ n, o = listObj items.toArray n
theorem lst_is {h : Heap} {a : Addr} {items : List Value} (x : Has h a (lstP items)) : h.IsList a items.toArray :=
  let ⟨o, e, n, p⟩ := x; ⟨o, e, by rw [p]; rfl, n, by rw [p]; rfl⟩
inductive All2 {α β : Type} (R : α → β → Prop) : List α → List β → Prop where
  | nil : All2 R [] []
  | cons {a : α} {b : β} {l : List α} {k : List β} (h : R a b) (t : All2 R l k) : All2 R (a :: l) (b :: k)
section
variable {α β : Type} {R : α → β → Prop} {l l' : List α} {k k' : List β}
theorem All2.len (h : All2 R l k) : l.length = k.length := by
  induction h with
  | nil => rfl
  | cons _ _ ih => simp only [List.length_cons, ih]
theorem All2.get (h : All2 R l k) : ∀ {i : Nat} {x : α}, l[i]? = some x → ∃ y, k[i]? = some y ∧ R x y := by
  induction h with
  | nil => intro i y e; simp at e
  | cons h1 _ ih =>
    intro i y e
    cases i with
    | zero => simp only [List.getElem?_cons_zero, Option.some.injEq] at e; subst e; exact ⟨_, rfl, h1⟩
    | succ i => simp only [List.getElem?_cons_succ] at e ⊢; exact ih e
theorem All2.app (h : All2 R l k) (h' : All2 R l' k') : All2 R (l ++ l') (k ++ k') := by
  induction h with
  | nil => exact h'
  | cons h1 _ ih => exact .cons h1 ih
theorem All2.one {x : α} {y : β} (h : R x y) : All2 R [x] [y] := .cons h .nil
theorem All2.take (h : All2 R l k) : ∀ n, All2 R (l.take n) (k.take n) := by
  induction h with
  | nil => intro n; simpa using All2.nil
  | cons h1 _ ih =>
    intro n
    cases n with
    | zero => exact .nil
    | succ n => exact .cons h1 (ih n)
theorem All2.drop (h : All2 R l k) : ∀ n, All2 R (l.drop n) (k.drop n) := by
  induction h with
  | nil => intro n; simpa using All2.nil
  | cons h1 t ih =>
    intro n
    cases n with
    | zero => exact .cons h1 t
    | succ n => exact ih n
theorem All2.nil_inv {k : List β} (h : All2 R [] k) : k = [] := by cases h; rfl
theorem All2.cons_inv {x : α} {k : List β} (h : All2 R (x :: l) k) : ∃ y k', k = y :: k' ∧ R x y ∧ All2 R l k' := by cases h with | cons a b => exact ⟨_, _, rfl, a, b⟩
end

/-- plain data: what a value says, its token apart -/
inductive PD where
  | n
  | b (x : Bool)
  | i (x : Int)
  | s (x : Str)
  deriving DecidableEq
noncomputable def PD.is : PD → Value → Prop
  | .n, v => v = .none
  | .b x, v => v = .bool x
  | .i x, v => ∃ t, v = .int x t
  | .s x, v => ∃ t, v = .str x t
noncomputable abbrev VS (ds : List PD) (vs : List Value) : Prop := All2 PD.is ds vs
noncomputable def datP (ds : List PD) : OP := fun o => ∃ vs, VS ds vs ∧ lstP vs o
noncomputable abbrev intsP (xs : List Int) : OP := datP (xs.map PD.i)
noncomputable abbrev strsP (xs : List Str) : OP := datP (xs.map PD.s)
theorem dat_open {h : Heap} {a : Addr} {ds : List PD} (x : Has h a (datP ds)) : ∃ vs, VS ds vs ∧ Has h a (lstP vs) :=
  let ⟨o, e, vs, p, q⟩ := x; ⟨vs, p, o, e, q⟩

/-! ## environments -/
structure EnvL (env : Env) (L : Addr) : Prop where
  kind : env.scope.kind = .function
  loc : env.locals = L
  glob : env.globals = mainGlobals
  blt : env.builtins = builtinsNs
noncomputable def KD (env : Env) (ks : List (Str × NameKind)) : Prop := ∀ p ∈ ks, env.kindOf p.1 = some p.2 ∧ (p.1 == ("__debug__" : Str)) = false
theorem KD.of {env : Env} {i : Nat} {ks : List (Str × NameKind)} (h : env.scope = fnScope i) (e : ∀ p ∈ ks, (fnScope i).names.lookup p.1 = some p.2 ∧ (p.1 == ("__debug__" : Str)) = false) : KD env ks :=
  fun p hp => ⟨by unfold Env.kindOf; rw [h]; exact (e p hp).1, (e p hp).2⟩

noncomputable def globsL : List (Str × Value) := [("insort_right", .ref 23), ("bisect_right", .ref 32), ("insort_left", .ref 41), ("bisect_left", .ref 50), ("UNKNOWN", .ref 73), ("_get_name_info", .ref 80), ("_parse_varint", .ref 87), ("_strip_exception_details", .ref 94),
  ("b1_set", .ref 102), ("in_table_b1", .ref 112), ("b3_exceptions", .ref 113), ("map_table_b3", .ref 158), ("_law_line", .ref 163), ("_law_back", .ref 170), ("_law_ahead", .ref 175), ("_law_fetches", .ref 180), ("_law_least", .ref 185), ("_law_octets", .ref 190), ("_law_read", .ref 195), ("law", .ref 200)]
noncomputable def bltsL : List (Str × Value) := [("len", .builtin "len"), ("chr", .builtin "chr"), ("ord", .builtin "ord"), ("iter", .builtin "iter"), ("next", .builtin "next"), ("min", .builtin "min"), ("sum", .builtin "sum"), ("list", .type "list"), ("range", .type "range"), ("enumerate", .type "enumerate"), ("dict", .type "dict")]
noncomputable def FnAt (hT : Heap) (f : Addr) (i : Nat) (dV kV : Value) : Prop :=
  ∃ pm c, hT.get? f = some { cls := .type "function", data := .func (fnOf (fnName i) (fnName i) (fnParams i) (fnBody i) (fnScope i) dV kV .none pm none (.ref c) .none) } ∧ hT.CodeRec (.ref c) (fnName i)
noncomputable def tupO (vs : List Value) : Obj := { cls := .type "tuple", data := .seq vs.toArray }
noncomputable def kwO (hh : Int) (t : Tok) : Obj := { cls := .type "dict", data := .dict #[⟨hh, .str (Str.ofString "key") t, .none⟩] 1 }
noncomputable def dfF (a b : Addr) (t u : Tok) (hh : Int) : Frag := [(a, tupO [.int 0 t, .none]), (b, kwO hh u)]
noncomputable def b1S (k : Int) : Bool := ([173, 847, 6150, 6155, 6156, 6157, 8203, 8204, 8205, 8288, 65279] : List Int).contains k || (decide (65024 ≤ k) && decide (k < 65040))
/-- the table of the program's text, as it is written -/
noncomputable def b3L : List (Int × Str) := match (pw.main.body : List Stmt)[15]? with
  | some (Stmt.Assign _ (Expr.Dict ks vs _) _) => (ks.zip vs).filterMap fun q => match q with
    | (some (Expr.Constant (Const.int k) _ _), Expr.Constant (Const.str x) _ _) => some (k, x)
    | _ => none
  | _ => []
noncomputable def SetAt (hT : Heap) : Prop := ∀ prog w, hT.SetOf (PySem.intKind prog w) 102 b1S 27
noncomputable def DicAt (hT : Heap) : Prop := ∀ prog w, ∃ kvs, hT.DictOf (PySem.intKind prog w) 113 kvs ∧ ∀ k, match b3L.lookup k with
  | none => valueAt kvs k = none
  | some x => ∃ t, valueAt kvs k = some (.str x t)
noncomputable def CodeAt (hT : Heap) : Prop := (∃ pm, hT.get? 195 = some { cls := .type "function", data := .func (fnOf (fnName 24) (fnName 24) (fnParams 24) (fnBody 24) (fnScope 24) .none .none .none pm none (.ref 194) .none) }) ∧ CodeHd hT 194 tabAt
structure TopF (hT : Heap) : Prop where
  glob : ∃ mg, hT.Ns mainGlobals mg ∧ (∀ p ∈ globsL, mg p.1 = some p.2) ∧ ∀ p ∈ bltsL, mg p.1 = none
  bmain : ∃ mg, hT.Ns mainGlobals mg ∧ hT.BuiltinsAt mg tabAt
  set : SetAt hT
  dic : DicAt hT
  code : CodeAt hT
  blt : ∃ mb, hT.Ns builtinsNs mb ∧ ∀ p ∈ bltsL, mb p.1 = some p.2
  nolimit : hT.NoLimit
  f23 : FnAt hT 23 1 (.ref 15) (.ref 16)
  f32 : FnAt hT 32 2 (.ref 24) (.ref 25)
  f41 : FnAt hT 41 3 (.ref 33) (.ref 34)
  f50 : FnAt hT 50 4 (.ref 42) (.ref 43)
  f80 : FnAt hT 80 8 .none .none
  f87 : FnAt hT 87 9 .none .none
  f94 : FnAt hT 94 11 .none .none
  f112 : FnAt hT 112 14 .none .none
  f158 : FnAt hT 158 16 .none .none
  f163 : FnAt hT 163 18 .none .none
  f170 : FnAt hT 170 19 .none .none
  f175 : FnAt hT 175 20 .none .none
  f180 : FnAt hT 180 21 .none .none
  f185 : FnAt hT 185 22 .none .none
  f190 : FnAt hT 190 23 .none .none
  f195 : FnAt hT 195 24 .none .none
  d23 : ∃ hh, Frag.In (dfF 15 16 189 190 hh) hT
  d32 : ∃ hh, Frag.In (dfF 24 25 202 203 hh) hT
  d41 : ∃ hh, Frag.In (dfF 33 34 216 217 hh) hT
  d50 : ∃ hh, Frag.In (dfF 42 43 229 230 hh) hT
theorem interactive_no {env : Env} {L : Addr} (X : EnvL env L) : interactive env = false := by
  unfold interactive
  rw [X.kind]
  rfl

section
variable {prog : Program} {w : World} {A : Around} {E : Value → Shared → Prop} {K : Kx} {base led led' : Led} {s : Shared} {env : Env} {L a : Addr} {ks : List (Str × NameKind)} {vs vs' : Vars} {x : Str} {v : Value} {pos : Pos} {Q : Value → Shared → Prop}

theorem r_name (H : St K base led s) (X : EnvL env L) (D : KD env ks) (hk : (x, NameKind.local) ∈ ks) (hm : (L, nsP vs) ∈ led) (hv : (x, some v) ∈ vs) (h : Q v s) : wpAny (model prog w) A (eval (.Name x pos) env) Q E s := by
  obtain ⟨_, m, n, f⟩ := nsP_open (H.here _ hm)
  exact wpAny_Name (wpAny_loadName_local X.kind (D _ hk).1 (X.loc ▸ n) (f _ hv) h) (D _ hk).2
theorem r_glob (T : TopF K.hT) (H : St K base led s) (X : EnvL env L) (D : KD env ks) (hk : (x, NameKind.globalImplicit) ∈ ks) (hg : (x, v) ∈ globsL) (h : Q v s) : wpAny (model prog w) A (eval (.Name x pos) env) Q E s := by
  obtain ⟨mg, n, f, _⟩ := T.glob
  exact Name_function_global X.kind (D _ hk).1 (loadGlobal_global (X.glob ▸ n.keeps H.top) (f _ hg) h) (D _ hk).2
theorem r_blt (T : TopF K.hT) (H : St K base led s) (X : EnvL env L) (D : KD env ks) (hk : (x, NameKind.globalImplicit) ∈ ks) (hg : (x, v) ∈ bltsL) (h : Q v s) : wpAny (model prog w) A (eval (.Name x pos) env) Q E s := by
  obtain ⟨mg, n, _, f⟩ := T.glob
  obtain ⟨mb, n', f'⟩ := T.blt
  exact Name_function_global X.kind (D _ hk).1 (loadGlobal_builtin (X.glob ▸ n.keeps H.top) (f _ hg) (X.blt ▸ n'.keeps H.top) (f' _ hg) h) (D _ hk).2
theorem r_store {Q : Unit → Shared → Prop} (H : St K base led s) (X : EnvL env L) (D : KD env ks) (hk : (x, NameKind.local) ∈ ks) (hm : (L, nsP vs) ∈ led) (hu : UpV vs x (some v) vs') (hl : Upd led L (nsP vs) (nsP vs') led')
    (h : ∀ s', St K base led' s' → Q () s') : wpAny (model prog w) A (storeName env x v) Q E s := by
  obtain ⟨nd, m, n, f⟩ := nsP_open (H.here _ hm)
  refine wpAny_storeName_local (D _ hk).1 (X.loc ▸ n) (fun h' hn hs => ?_) (by rw [X.kind]; rfl)
  rw [X.loc] at hn hs
  refine h _ (H.change hl (LeBut.of_same hs) ⟨rfl, rfl, rfl⟩ (nsP_of (by rw [hu.fst]; exact nd) hn fun p hp => ?_))
  rcases hu.back nd p hp with rfl | ⟨h1, h2⟩
  · simp
  · simp only [if_neg h2]; exact f p h1
theorem r_int {i : Int} {k : Nat} (H : St K base led s) (h : ∀ t s', St K base led s' → Q (.int i t) s') : wpAny (model prog w) A (eval (.Constant (.int i) k pos) env) Q E s :=
  wpAny_Constant_int (h _ _ (H.same rfl ⟨rfl, rfl, rfl⟩))
theorem r_strc {i : Str} {k : Nat} (H : St K base led s) (h : ∀ t s', St K base led s' → Q (.str i t) s') : wpAny (model prog w) A (eval (.Constant (.str i) k pos) env) Q E s :=
  wpAny_Constant_str (h _ _ (H.same rfl ⟨rfl, rfl, rfl⟩))
theorem r_add {a b : Int} {t u : Tok} (H : St K base led s) (h : ∀ t s', St K base led s' → Q (.int (a + b) t) s') : wpAny (model prog w) A (binaryOp .Add (.int a t) (.int b u)) Q E s := PyProof.Rows.add_int (h _ _ (H.same rfl ⟨rfl, rfl, rfl⟩))
theorem r_sub {a b : Int} {t u : Tok} (H : St K base led s) (h : ∀ t s', St K base led s' → Q (.int (a - b) t) s') : wpAny (model prog w) A (binaryOp .Sub (.int a t) (.int b u)) Q E s := PyProof.Rows.sub_int (h _ _ (H.same rfl ⟨rfl, rfl, rfl⟩))
theorem r_fdiv {a b : Int} {t u : Tok} (H : St K base led s) (hb : b ≠ 0) (hb2 : b.natAbs < 1073741824) (h : ∀ t s', St K base led s' → Q (.int (a.fdiv b) t) s') : wpAny (model prog w) A (binaryOp .FloorDiv (.int a t) (.int b u)) Q E s := PyProof.Rows.floordiv_int hb (h _ _ (H.same rfl ⟨rfl, rfl, rfl⟩)) (.inl (PyProof.noPylong_small hb2))
theorem r_fmod {a b : Int} {t u : Tok} (H : St K base led s) (hb : b ≠ 0) (h : ∀ t s', St K base led s' → Q (.int (a.fmod b) t) s') : wpAny (model prog w) A (binaryOp .Mod (.int a t) (.int b u)) Q E s := PyProof.Rows.mod_int hb (h _ _ (H.same rfl ⟨rfl, rfl, rfl⟩))

theorem r_len {ds : List PD} (H : St K base led s) (hm : Kn base led a (datP ds)) (hs : ds.length < 2 ^ 63) (h : ∀ t s', St K base led s' → Q (.int ds.length t) s') : wpAny (model prog w) A (call (.builtin "len") [.ref a]) Q E s := by
  obtain ⟨vs, hv, hl⟩ := dat_open (H.has hm)
  have e : vs.toArray.size = ds.length := by rw [List.size_toArray, hv.len]
  refine len_list (lst_is hl) (by rw [e]; exact_mod_cast hs) ?_
  rw [e]
  exact h _ _ (H.same rfl ⟨rfl, rfl, rfl⟩)
theorem r_item {ds : List PD} {k : Int} {t : Tok} {d : PD} (H : St K base led s) (hm : Kn base led a (datP ds)) (h0 : 0 ≤ k) (h1 : k < 2 ^ 63) (hd : ds[k.toNat]? = some d) (h : ∀ v, PD.is d v → Q v s) : wpAny (model prog w) A (getItem (.ref a) (.int k t)) Q E s := by
  obtain ⟨vs, hv, hl⟩ := dat_open (H.has hm)
  obtain ⟨v, e, p⟩ := hv.get hd
  exact wpAny_getItem_list (lst_is hl) h0 h1 (by simpa using e) (h v p)
end

theorem wif_t {c : Prop} [Decidable c] {a b : Prop} (hc : c) (h : a) : if c then a else b := by rw [if_pos hc]; exact h
theorem wif_f {c : Prop} [Decidable c] {a b : Prop} (hc : ¬ c) (h : b) : if c then a else b := by rw [if_neg hc]; exact h
theorem wif {p : Prop} [Decidable p] {a b : Prop} (h1 : p → a) (h2 : ¬ p → b) : if decide p = true then a else b := by
  by_cases q : p
  · rw [if_pos (decide_eq_true q)]; exact h1 q
  · rw [if_neg (by simp [q])]; exact h2 q
theorem wif_b {c : Bool} {a b : Prop} (h1 : c = true → a) (h2 : c = false → b) : if c = true then a else b := by
  cases c
  · exact h2 rfl
  · exact h1 rfl
section
variable {prog : Program} {w : World} {A : Around} {E : Value → Shared → Prop} {s : Shared} {env : Env} {L : Addr}
theorem r_assign {x : Str} {p1 : Pos} {value : Expr} {pos : Pos} {Q : Flow → Shared → Prop} (h : wpAny (model prog w) A (eval value env) (fun v s₁ => wpAny (model prog w) A (storeName env x v) (fun _ => Q .next) E s₁) E s)
    (hs : swapsWith value (some (.Name x p1)) pos.line env = pure false := by rfl) : wpAny (model prog w) A (exec (.Assign [.Name x p1] value pos) env) Q E s := wpAny_Assign_Name h hs
theorem r_expr (X : EnvL env L) {e : Expr} {pos : Pos} {Q : Flow → Shared → Prop} (h : wpAny (model prog w) A (eval e env) (fun _ => Q .next) E s) (hs : swapsWith e none pos.line env = pure false := by rfl) :
    wpAny (model prog w) A (exec (.Expr e pos) env) Q E s := wpAny_Expr_any h (interactive_no X) hs
theorem r_subscr {value slice : Expr} {pos : Pos} {Q : Value → Shared → Prop} (h : wpAny (model prog w) A (eval value env) (fun o s₁ => wpAny (model prog w) A (eval slice env) (fun i s₂ => wpAny (model prog w) A (subscriptTail value slice o i) Q E s₂) E s₁) E s) :
    wpAny (model prog w) A (eval (.Subscript value slice pos) env) Q E s := Subscript_ h
theorem r_listTail {K : Kx} {base led : Led} {ds : List PD} {a : Addr} {value slice : Expr} {k : Int} {t : Tok} {d : PD} {Q : Value → Shared → Prop} (H : St K base led s) (hm : Kn base led a (datP ds)) (h0 : 0 ≤ k) (h1 : k < 2 ^ 63) (hd : ds[k.toNat]? = some d) (h : ∀ v, PD.is d v → Q v s)
    (hs : subscripted slice false (.ref a) (.int k t) = operate [.ref a, .int k t] (getItem (.ref a) (.int k t)) := by with_unfolding_all rfl) : wpAny (model prog w) A (subscriptTail value slice (.ref a) (.int k t)) Q E s := by
  obtain ⟨vs, hv, hl⟩ := dat_open (H.has hm)
  exact tail_any (lst_is hl).typeIs slot_list_getitem.lookup (r_item H hm h0 h1 hd h) hs
theorem r_none {k : Nat} {pos : Pos} {Q : Value → Shared → Prop} (h : Q .none s) : wpAny (model prog w) A (eval (.Constant .none k pos) env) Q E s := wpAny_Constant_none h
theorem r_is0 {Q : Value → Shared → Prop} (h : Q (.bool true) s) : wpAny (model prog w) A (compareOp .Is .none .none) Q E s := wpAny_is_self rfl h
theorem r_is1 {v : Value} {Q : Value → Shared → Prop} (h : Q (.bool false) s) (hp : PySem.plainIs v .none = true := by rfl) (hn : v ≠ .none := by nofun) : wpAny (model prog w) A (compareOp .Is v .none) Q E s := wpAny_is_other hp hn h
theorem r_isn0 {Q : Value → Shared → Prop} (h : Q (.bool false) s) : wpAny (model prog w) A (compareOp .IsNot .none .none) Q E s := wpAny_isNot_plain rfl h
theorem r_isn1 {v : Value} {Q : Value → Shared → Prop} (h : Q (.bool true) s) (hp : PySem.plainIs v .none = true := by rfl) (hn : v ≠ .none := by nofun) : wpAny (model prog w) A (compareOp .IsNot v .none) Q E s := wpAny_isNot_other hp hn h
/-- a call of a name with one or more plain arguments -/
theorem r_call_blt {id : String} {e : Expr} {rest : List Expr} {pos : Pos} {Q : Value → Shared → Prop} (h : wpAny (model prog w) A (spliced (backTo pos (starEach (e :: rest) env))) (fun vs s₁ => wpAny (model prog w) A (call (.builtin id) vs) Q E s₁) E s)
    (he : starEach (e :: rest) env = (false, eval e env) :: starEach rest env := by rfl) (hn : (List.any (backTo pos (starEach rest env)) fun x => x.fst) = false := by rfl) :
    wpAny (model prog w) A (callWith pos (.builtin id) [] (backTo pos (starEach (e :: rest) env)) []) Q E s := PyProof.Rows.callWith_builtin1 h he hn
theorem r_arg {e : Expr} {rest : List Expr} {pos : Pos} {Q : List Value → Shared → Prop} (h : wpAny (model prog w) A (eval e env) (fun v s₁ => wpAny (model prog w) A (spliced (backTo pos (starEach rest env))) (fun vs s₂ => Q (v :: vs) s₂) E s₁) E s)
    (he : starEach (e :: rest) env = (false, eval e env) :: starEach rest env := by rfl) : wpAny (model prog w) A (spliced (backTo pos (starEach (e :: rest) env))) Q E s := args_cons h he
theorem r_call_fn {hT : Heap} {f i : Nat} {dV kV : Value} (F : FnAt hT f i dV kV) {e : Expr} {rest : List Expr} {pos : Pos} {Q : Value → Shared → Prop}
    (h : wpAny (model prog w) A (spliced (backTo pos (starEach (e :: rest) env))) (fun vs s₁ => Le hT s₁.heap ∧ wpAny (model prog w) A (call (.ref f) vs) Q E s₁) E s)
    (he : starEach (e :: rest) env = (false, eval e env) :: starEach rest env := by rfl) :
    wpAny (model prog w) A (callWith pos (.ref f) [] (backTo pos (starEach (e :: rest) env)) []) Q E s := by
  obtain ⟨pm, c, hf, _⟩ := F
  exact callWith_def rfl (wpAny_mono h (fun vs s₁ q => ⟨q.1 _ _ hf, q.2⟩) fun _ _ q => q) he
end
end BK
namespace BH
open BK
set_option maxRecDepth 100000
set_option maxHeartbeats 0
set_option maxRecDepth 10000
/-! ### a long dict display, run by run -/
noncomputable abbrev SP := Sem Value × Sem Value
noncomputable def fl (run : List SP) (main : Option Addr) : Sem (Option Addr) := do
  if run.isEmpty then return main
  match main with
  | none => return some (← subDict run)
  | some d =>
    let sub ← holding [.ref d] (subDict run)
    (holding [.ref d, .ref sub] (mergeMapping d (.ref sub) false)).onRaise fun x => do let _ ← holding [.ref d, x] (runValue (.builtin "proto.let_go" {}))
    return some d
noncomputable def gath : List SP → List SP → Option Addr → Sem (Option Addr × List SP)
  | [], run, main => pure (main, run)
  | p :: r, run, main => if (run ++ [p]).length == 17 then (fl (run ++ [p]) main).bind fun m => gath r [] m else gath r (run ++ [p]) main
theorem gath_cons (p : SP) (r run : List SP) (m : Option Addr) : gath (p :: r) run m = if (run ++ [p]).length == 17 then (fl (run ++ [p]) m).bind fun m => gath r [] m else gath r (run ++ [p]) m := rfl
noncomputable def endD (x : Option Addr × List SP) : Sem Value := (fl x.2 x.1).bind fun
  | some d => pure (.ref d)
  | none => newDict
theorem forIn_gath (f : (Option (Sem Value) × Sem Value) → (Option Addr × List SP) → Sem (ForInStep (Option Addr × List SP)))
    (hf : ∀ (p : SP) (main : Option Addr) (run : List SP), f (some p.1, p.2) (main, run) = if ((run ++ [p]).length == 17) = true then (do let m ← fl (run ++ [p]) main; pure (.yield (m, []))) else pure (.yield (main, run ++ [p]))) :
    ∀ (ps run : List SP) (main : Option Addr), forIn (ps.map fun p => (some p.1, p.2)) (main, run) f = gath ps run main
  | [], run, main => by simp [gath]
  | p :: r, run, main => by
    rw [List.map_cons, List.forIn_cons, hf, gath_cons]
    split
    · rw [bind_assoc]
      show (fl (run ++ [p]) main).bind _ = _
      congr 1
      funext m
      rw [pure_bind]
      exact forIn_gath f hf r [] m
    · rw [pure_bind]
      exact forIn_gath f hf r (run ++ [p]) main
theorem display_gath (ps : List SP) : dictDisplay (ps.map fun p => (some p.1, p.2)) = (gath ps [] none).bind endD := by
  unfold dictDisplay
  dsimp only
  rw [forIn_gath _ (fun p main run => ?hf) ps [] none]
  case hf => rfl
  rfl
theorem gath_run : ∀ (c : List SP) (run r : List SP) (m : Option Addr), run.length + c.length = 17 → c ≠ [] → gath (c ++ r) run m = (fl (run ++ c) m).bind fun m' => gath r [] m'
  | [], _, _, _, _, h => absurd rfl h
  | p :: c, run, r, m, h, _ => by
    rw [List.cons_append, gath_cons]
    cases c with
    | nil =>
      have e : ((run ++ [p]).length == 17) = true := by rw [List.length_append]; simpa using h
      rw [if_pos e]
      rfl
    | cons q c =>
      have hl : (run ++ [p]).length + (q :: c).length = 17 := by rw [List.length_append]; simp only [List.length_cons, List.length_nil] at h ⊢; lia
      have e : ¬ ((run ++ [p]).length == 17) = true := by
        rw [beq_iff_eq]
        rw [List.length_cons] at hl
        lia
      rw [if_neg e, gath_run (q :: c) (run ++ [p]) r m hl (by simp), List.append_assoc]
      rfl
theorem gath_few : ∀ (c : List SP) (run : List SP) (m : Option Addr), run.length + c.length < 17 → gath c run m = pure (m, run ++ c)
  | [], run, m, _ => by rw [List.append_nil]; rfl
  | p :: c, run, m, h => by
    rw [gath_cons]
    rw [List.length_cons] at h
    have e : ¬ ((run ++ [p]).length == 17) = true := by
      rw [beq_iff_eq, List.length_append]
      simp only [List.length_cons, List.length_nil]
      lia
    rw [if_neg e, gath_few c (run ++ [p]) m (by rw [List.length_append]; simp only [List.length_cons, List.length_nil]; lia), List.append_assoc]
    rfl
theorem gath_next (ps : List SP) (j : Nat) (h : 17 * (j + 1) ≤ ps.length) (m : Option Addr) : gath (ps.drop (17 * j)) [] m = (fl ((ps.drop (17 * j)).take 17) m).bind fun m' => gath (ps.drop (17 * (j + 1))) [] m' := by
  have e : ps.drop (17 * j) = (ps.drop (17 * j)).take 17 ++ ps.drop (17 * (j + 1)) := by
    rw [show 17 * (j + 1) = 17 * j + 17 by lia, ← List.drop_drop]
    exact (List.take_append_drop 17 _).symm
  have hl : ((ps.drop (17 * j)).take 17).length = 17 := by rw [List.length_take, List.length_drop]; lia
  conv => lhs; rw [e]
  rw [gath_run _ [] _ m (by rw [hl]; rfl) (fun q => by rw [q] at hl; simp at hl)]
  rfl
end BH
namespace BH
open BK
set_option maxRecDepth 100000
set_option maxHeartbeats 0
/-! ### the heap after the top -/
noncomputable def repStmts : List Stmt := match pw.main.body[6]? with
  | some (Stmt.ClassDef _ _ _ b _ _ _ _ _ _ _) => b
  | _ => []
noncomputable def repOf : List Stmt → Option (Str × Arguments × List Stmt × Scope)
  | [] => none
  | Stmt.FunctionDef n a b _ _ _ sc _ _ _ :: _ => some (n, a, b, sc)
  | _ :: r => repOf r
noncomputable def repPart : Option (Str × Arguments × List Stmt × Scope) := repOf repStmts
noncomputable def repName : Str := (repPart.map (·.1)).getD default
noncomputable def repParams : Arguments := (repPart.map (·.2.1)).getD default
noncomputable def repBody : List Stmt := (repPart.map (·.2.2.1)).getD []
noncomputable def repScope : Scope := (repPart.map (·.2.2.2)).getD default
noncomputable def tokAt (i : Nat) : Nat := if i < 646 then 373 + 3 * i else 2311 + 2 * (i - 646)
noncomputable def entsN : Nat → Nat → List (Int × Str) → List DictEntry
  | 0, _, _ => []
  | _ + 1, _, [] => []
  | n + 1, i, p :: r => ⟨p.1, .int p.1 (tokAt i), .str p.2 (tokAt i + 1)⟩ :: entsN n (i + 1) r
noncomputable def dictO (es : List DictEntry) : Obj := { cls := .type "dict", data := .dict ⟨es⟩ es.length }
noncomputable def bigD (n : Nat) (_ : Params) : Obj := dictO (entsN n 0 b3L)
noncomputable def subD (j : Nat) (_ : Params) : Obj := dictO (entsN 17 (17 * j) (b3L.drop (17 * j)))
noncomputable def setO (P : Params) : Obj := { cls := Value.type "set", data := Data.set #[(65024, Value.int 65024 322), (65025, Value.int 65025 323), (65026, Value.int 65026 324), (65027, Value.int 65027 325), (65028, Value.int 65028 326), (65029, Value.int 65029 327), (6150, Value.int 6150 308), (65030, Value.int 65030 328), (65031, Value.int 65031 329), (65032, Value.int 65032 330), (65033, Value.int 65033 331), (6155, Value.int 6155 309), (6156, Value.int 6156 310), (6157, Value.int 6157 311), (8203, Value.int 8203 312), (8204, Value.int 8204 313), (8205, Value.int 8205 314), (65034, Value.int 65034 332), (65035, Value.int 65035 333), (65036, Value.int 65036 334), (65037, Value.int 65037 335), (65038, Value.int 65038 336), (65039, Value.int 65039 337), (173, Value.int 173 306), (847, Value.int 847 307), (8288, Value.int 8288 315), (65279, Value.int 65279 316)] 29 { mask := 127, place := #[0, 1, 2, 3, 4, 5, 6, 7, 8, 9, 10, 11, 12, 13, 14, 15, 16, 17, 18, 19, 20, 21, 22, 45, 79, 96, 127], dummies := #[], finger := 0, led := !P.followText "set-order", moves := 2, plain := true } }
noncomputable def ob11 (P : Params) : Obj := { cls := PySem.Value.type "tuple", data := PySem.Data.seq #[] }
noncomputable def ob12 (P : Params) : Obj := { cls := PySem.Value.none, data := PySem.Data.fields #[] }
noncomputable def ob13 (P : Params) : Obj := { cls := PySem.Value.type "code", data := PySem.Data.fields #[PySem.Value.str (PySem.Str.ofString "<module>") 182, PySem.Value.str (PySem.Str.ofString "<module>") 183, PySem.Value.str (PySem.Str.ofString "/claim/cut.py") 184, PySem.Value.int 1 0, PySem.Value.int 0 0, PySem.Value.int 0 0, PySem.Value.int 0 0, PySem.Value.int 0 0, PySem.Value.ref 11, PySem.Value.bool Bool.false, PySem.Value.int 181 0, PySem.Value.ref 12, PySem.Value.none, PySem.Value.none, PySem.Value.none, PySem.Value.none, PySem.Value.int 185 0, PySem.Value.int 1 0, PySem.Value.str (PySem.Str.ofString "/claim/cut.py") 186] }
noncomputable def ob14 (P : Params) : Obj := { cls := PySem.Value.type "frame", slots := #[Option.some (PySem.Value.ref 13), Option.some (PySem.Value.ref 3), Option.some (PySem.Value.ref 3), Option.none, Option.some (PySem.Value.str (PySem.Str.ofString "__main__") 164), Option.none, Option.some (PySem.Value.ref 0)] }
noncomputable def ob3A (P : Params) : Obj := { cls := PySem.Value.type "dict", data := PySem.Data.dict #[{ hash := PySem.PyData.keyHash P (PySem.Str.ofString "__name__"), key := PySem.Value.str (PySem.Str.ofString "__name__") 165, val := PySem.Value.str (PySem.Str.ofString "cpy313.stringprep") 304 }, { hash := PySem.PyData.keyHash P (PySem.Str.ofString "__doc__"), key := PySem.Value.str (PySem.Str.ofString "__doc__") 166, val := PySem.Value.none }, { hash := PySem.PyData.keyHash P (PySem.Str.ofString "__package__"), key := PySem.Value.str (PySem.Str.ofString "__package__") 167, val := PySem.Value.none }, { hash := PySem.PyData.keyHash P (PySem.Str.ofString "__loader__"), key := PySem.Value.str (PySem.Str.ofString "__loader__") 168, val := PySem.Value.builtin "__main__.__loader__#opaque" }, { hash := PySem.PyData.keyHash P (PySem.Str.ofString "__spec__"), key := PySem.Value.str (PySem.Str.ofString "__spec__") 169, val := PySem.Value.none }, { hash := PySem.PyData.keyHash P (PySem.Str.ofString "__annotations__"), key := PySem.Value.str (PySem.Str.ofString "__annotations__") 170, val := PySem.Value.ref 6 }, { hash := PySem.PyData.keyHash P (PySem.Str.ofString "__builtins__"), key := PySem.Value.str (PySem.Str.ofString "__builtins__") 171, val := PySem.Value.ref 4 }, { hash := PySem.PyData.keyHash P (PySem.Str.ofString "__file__"), key := PySem.Value.str (PySem.Str.ofString "__file__") 173, val := PySem.Value.str (PySem.Str.ofString "/claim/cut.py") 172 }, { hash := PySem.PyData.keyHash P (PySem.Str.ofString "__cached__"), key := PySem.Value.str (PySem.Str.ofString "__cached__") 174, val := PySem.Value.none }, { hash := PySem.PyData.keyHash P (PySem.Str.ofString "insort_right"), key := PySem.Value.str (PySem.Str.ofString "insort_right") 201, val := PySem.Value.ref 23 }, { hash := PySem.PyData.keyHash P (PySem.Str.ofString "bisect_right"), key := PySem.Value.str (PySem.Str.ofString "bisect_right") 215, val := PySem.Value.ref 32 }, { hash := PySem.PyData.keyHash P (PySem.Str.ofString "insort_left"), key := PySem.Value.str (PySem.Str.ofString "insort_left") 228, val := PySem.Value.ref 41 }, { hash := PySem.PyData.keyHash P (PySem.Str.ofString "bisect_left"), key := PySem.Value.str (PySem.Str.ofString "bisect_left") 242, val := PySem.Value.ref 50 }, { hash := PySem.PyData.keyHash P (PySem.Str.ofString "_Unknown"), key := PySem.Value.str (PySem.Str.ofString "_Unknown") 271, val := PySem.Value.ref 67 }, { hash := PySem.PyData.keyHash P (PySem.Str.ofString "UNKNOWN"), key := PySem.Value.str (PySem.Str.ofString "UNKNOWN") 272, val := PySem.Value.ref 73 }, { hash := PySem.PyData.keyHash P (PySem.Str.ofString "_get_name_info"), key := PySem.Value.str (PySem.Str.ofString "_get_name_info") 282, val := PySem.Value.ref 80 }, { hash := PySem.PyData.keyHash P (PySem.Str.ofString "_parse_varint"), key := PySem.Value.str (PySem.Str.ofString "_parse_varint") 291, val := PySem.Value.ref 87 }, { hash := PySem.PyData.keyHash P (PySem.Str.ofString "_strip_exception_details"), key := PySem.Value.str (PySem.Str.ofString "_strip_exception_details") 303, val := PySem.Value.ref 94 }] 18 }
noncomputable def ob12A (P : Params) : Obj := { cls := PySem.Value.none, data := PySem.Data.fields #[PySem.Value.int 2 0, PySem.Value.int 0 0, PySem.Value.ref 22, PySem.Value.int 8 0, PySem.Value.int 0 0, PySem.Value.ref 31, PySem.Value.int 28 0, PySem.Value.int 0 0, PySem.Value.ref 40, PySem.Value.int 34 0, PySem.Value.int 0 0, PySem.Value.ref 49, PySem.Value.int 55 0, PySem.Value.int 0 0, PySem.Value.ref 56, PySem.Value.int 60 0, PySem.Value.int 0 0, PySem.Value.ref 79, PySem.Value.int 66 0, PySem.Value.int 0 0, PySem.Value.ref 86, PySem.Value.int 75 0, PySem.Value.int 0 0, PySem.Value.ref 93] }
noncomputable def ob15 (P : Params) : Obj := { cls := PySem.Value.type "tuple", data := PySem.Data.seq #[PySem.Value.int 0 189, PySem.Value.none] }
noncomputable def ob16 (P : Params) : Obj := { cls := PySem.Value.type "dict", data := PySem.Data.dict #[{ hash := PySem.PyData.keyHash P (PySem.Str.ofString "key"), key := PySem.Value.str (PySem.Str.ofString "key") 190, val := PySem.Value.none }] 1 }
noncomputable def ob17 (P : Params) : Obj := { cls := PySem.Value.type "tuple", data := PySem.Data.seq #[] }
noncomputable def ob18 (P : Params) : Obj := { cls := PySem.Value.none, data := PySem.Data.fields #[] }
noncomputable def ob19 (P : Params) : Obj := { cls := PySem.Value.type "tuple", data := PySem.Data.seq #[PySem.Value.str (PySem.Str.ofString "a") 194, PySem.Value.str (PySem.Str.ofString "x") 195, PySem.Value.str (PySem.Str.ofString "lo") 196, PySem.Value.str (PySem.Str.ofString "hi") 197, PySem.Value.str (PySem.Str.ofString "key") 198] }
noncomputable def ob20 (P : Params) : Obj := { cls := PySem.Value.type "tuple", data := PySem.Data.seq #[] }
noncomputable def ob21 (P : Params) : Obj := { cls := PySem.Value.none, data := Data.func { name := fnName 1, qualname := fnName 1, params := fnParams 1, body := FuncBody.stmts (fnBody 1), scope := fnScope 1, globals := 0, closure := [], defaults := PySem.Value.none, kwdefaults := PySem.Value.none, pyModule := PySem.Value.none, code := PySem.Value.none } }
noncomputable def ob22 (P : Params) : Obj := { cls := PySem.Value.type "code", data := PySem.Data.fields #[PySem.Value.str (PySem.Str.ofString "insort_right") 191, PySem.Value.str (PySem.Str.ofString "insort_right") 192, PySem.Value.str (PySem.Str.ofString "/claim/cut.py") 193, PySem.Value.int 2 0, PySem.Value.int 4 0, PySem.Value.int 0 0, PySem.Value.int 1 0, PySem.Value.int 3 0, PySem.Value.ref 17, PySem.Value.bool Bool.true, PySem.Value.int 181 0, PySem.Value.ref 18, PySem.Value.none, PySem.Value.ref 19, PySem.Value.ref 20, PySem.Value.ref 21, PySem.Value.int 199 0, PySem.Value.int 2 0, PySem.Value.str (PySem.Str.ofString "/claim/cut.py") 200] }
noncomputable def ob23 (P : Params) : Obj := { cls := PySem.Value.type "function", data := Data.func { name := fnName 1, qualname := fnName 1, params := fnParams 1, body := FuncBody.stmts (fnBody 1), scope := fnScope 1, globals := 3, closure := [], defaults := PySem.Value.ref 15, kwdefaults := PySem.Value.ref 16, pyModule := PySem.Value.str (PySem.Str.ofString "cpy313.bisect") 187, code := PySem.Value.ref 22 } }
noncomputable def ob24 (P : Params) : Obj := { cls := PySem.Value.type "tuple", data := PySem.Data.seq #[PySem.Value.int 0 202, PySem.Value.none] }
noncomputable def ob25 (P : Params) : Obj := { cls := PySem.Value.type "dict", data := PySem.Data.dict #[{ hash := PySem.PyData.keyHash P (PySem.Str.ofString "key"), key := PySem.Value.str (PySem.Str.ofString "key") 203, val := PySem.Value.none }] 1 }
noncomputable def ob26 (P : Params) : Obj := { cls := PySem.Value.type "tuple", data := PySem.Data.seq #[] }
noncomputable def ob27 (P : Params) : Obj := { cls := PySem.Value.none, data := PySem.Data.fields #[] }
noncomputable def ob28 (P : Params) : Obj := { cls := PySem.Value.type "tuple", data := PySem.Data.seq #[PySem.Value.str (PySem.Str.ofString "a") 207, PySem.Value.str (PySem.Str.ofString "x") 208, PySem.Value.str (PySem.Str.ofString "lo") 209, PySem.Value.str (PySem.Str.ofString "hi") 210, PySem.Value.str (PySem.Str.ofString "key") 211, PySem.Value.str (PySem.Str.ofString "mid") 212] }
noncomputable def ob29 (P : Params) : Obj := { cls := PySem.Value.type "tuple", data := PySem.Data.seq #[] }
noncomputable def ob30 (P : Params) : Obj := { cls := PySem.Value.none, data := Data.func { name := fnName 2, qualname := fnName 2, params := fnParams 2, body := FuncBody.stmts (fnBody 2), scope := fnScope 2, globals := 0, closure := [], defaults := PySem.Value.none, kwdefaults := PySem.Value.none, pyModule := PySem.Value.none, code := PySem.Value.none } }
noncomputable def ob31 (P : Params) : Obj := { cls := PySem.Value.type "code", data := PySem.Data.fields #[PySem.Value.str (PySem.Str.ofString "bisect_right") 204, PySem.Value.str (PySem.Str.ofString "bisect_right") 205, PySem.Value.str (PySem.Str.ofString "/claim/cut.py") 206, PySem.Value.int 8 0, PySem.Value.int 4 0, PySem.Value.int 0 0, PySem.Value.int 1 0, PySem.Value.int 3 0, PySem.Value.ref 26, PySem.Value.bool Bool.true, PySem.Value.int 181 0, PySem.Value.ref 27, PySem.Value.none, PySem.Value.ref 28, PySem.Value.ref 29, PySem.Value.ref 30, PySem.Value.int 213 0, PySem.Value.int 8 0, PySem.Value.str (PySem.Str.ofString "/claim/cut.py") 214] }
noncomputable def ob32 (P : Params) : Obj := { cls := PySem.Value.type "function", data := Data.func { name := fnName 2, qualname := fnName 2, params := fnParams 2, body := FuncBody.stmts (fnBody 2), scope := fnScope 2, globals := 3, closure := [], defaults := PySem.Value.ref 24, kwdefaults := PySem.Value.ref 25, pyModule := PySem.Value.str (PySem.Str.ofString "cpy313.bisect") 187, code := PySem.Value.ref 31 } }
noncomputable def ob33 (P : Params) : Obj := { cls := PySem.Value.type "tuple", data := PySem.Data.seq #[PySem.Value.int 0 216, PySem.Value.none] }
noncomputable def ob34 (P : Params) : Obj := { cls := PySem.Value.type "dict", data := PySem.Data.dict #[{ hash := PySem.PyData.keyHash P (PySem.Str.ofString "key"), key := PySem.Value.str (PySem.Str.ofString "key") 217, val := PySem.Value.none }] 1 }
noncomputable def ob35 (P : Params) : Obj := { cls := PySem.Value.type "tuple", data := PySem.Data.seq #[] }
noncomputable def ob36 (P : Params) : Obj := { cls := PySem.Value.none, data := PySem.Data.fields #[] }
noncomputable def ob37 (P : Params) : Obj := { cls := PySem.Value.type "tuple", data := PySem.Data.seq #[PySem.Value.str (PySem.Str.ofString "a") 221, PySem.Value.str (PySem.Str.ofString "x") 222, PySem.Value.str (PySem.Str.ofString "lo") 223, PySem.Value.str (PySem.Str.ofString "hi") 224, PySem.Value.str (PySem.Str.ofString "key") 225] }
noncomputable def ob38 (P : Params) : Obj := { cls := PySem.Value.type "tuple", data := PySem.Data.seq #[] }
noncomputable def ob39 (P : Params) : Obj := { cls := PySem.Value.none, data := Data.func { name := fnName 3, qualname := fnName 3, params := fnParams 3, body := FuncBody.stmts (fnBody 3), scope := fnScope 3, globals := 0, closure := [], defaults := PySem.Value.none, kwdefaults := PySem.Value.none, pyModule := PySem.Value.none, code := PySem.Value.none } }
noncomputable def ob40 (P : Params) : Obj := { cls := PySem.Value.type "code", data := PySem.Data.fields #[PySem.Value.str (PySem.Str.ofString "insort_left") 218, PySem.Value.str (PySem.Str.ofString "insort_left") 219, PySem.Value.str (PySem.Str.ofString "/claim/cut.py") 220, PySem.Value.int 28 0, PySem.Value.int 4 0, PySem.Value.int 0 0, PySem.Value.int 1 0, PySem.Value.int 3 0, PySem.Value.ref 35, PySem.Value.bool Bool.true, PySem.Value.int 181 0, PySem.Value.ref 36, PySem.Value.none, PySem.Value.ref 37, PySem.Value.ref 38, PySem.Value.ref 39, PySem.Value.int 226 0, PySem.Value.int 28 0, PySem.Value.str (PySem.Str.ofString "/claim/cut.py") 227] }
noncomputable def ob41 (P : Params) : Obj := { cls := PySem.Value.type "function", data := Data.func { name := fnName 3, qualname := fnName 3, params := fnParams 3, body := FuncBody.stmts (fnBody 3), scope := fnScope 3, globals := 3, closure := [], defaults := PySem.Value.ref 33, kwdefaults := PySem.Value.ref 34, pyModule := PySem.Value.str (PySem.Str.ofString "cpy313.bisect") 187, code := PySem.Value.ref 40 } }
noncomputable def ob42 (P : Params) : Obj := { cls := PySem.Value.type "tuple", data := PySem.Data.seq #[PySem.Value.int 0 229, PySem.Value.none] }
noncomputable def ob43 (P : Params) : Obj := { cls := PySem.Value.type "dict", data := PySem.Data.dict #[{ hash := PySem.PyData.keyHash P (PySem.Str.ofString "key"), key := PySem.Value.str (PySem.Str.ofString "key") 230, val := PySem.Value.none }] 1 }
noncomputable def ob44 (P : Params) : Obj := { cls := PySem.Value.type "tuple", data := PySem.Data.seq #[] }
noncomputable def ob45 (P : Params) : Obj := { cls := PySem.Value.none, data := PySem.Data.fields #[] }
noncomputable def ob46 (P : Params) : Obj := { cls := PySem.Value.type "tuple", data := PySem.Data.seq #[PySem.Value.str (PySem.Str.ofString "a") 234, PySem.Value.str (PySem.Str.ofString "x") 235, PySem.Value.str (PySem.Str.ofString "lo") 236, PySem.Value.str (PySem.Str.ofString "hi") 237, PySem.Value.str (PySem.Str.ofString "key") 238, PySem.Value.str (PySem.Str.ofString "mid") 239] }
noncomputable def ob47 (P : Params) : Obj := { cls := PySem.Value.type "tuple", data := PySem.Data.seq #[] }
noncomputable def ob48 (P : Params) : Obj := { cls := PySem.Value.none, data := Data.func { name := fnName 4, qualname := fnName 4, params := fnParams 4, body := FuncBody.stmts (fnBody 4), scope := fnScope 4, globals := 0, closure := [], defaults := PySem.Value.none, kwdefaults := PySem.Value.none, pyModule := PySem.Value.none, code := PySem.Value.none } }
noncomputable def ob49 (P : Params) : Obj := { cls := PySem.Value.type "code", data := PySem.Data.fields #[PySem.Value.str (PySem.Str.ofString "bisect_left") 231, PySem.Value.str (PySem.Str.ofString "bisect_left") 232, PySem.Value.str (PySem.Str.ofString "/claim/cut.py") 233, PySem.Value.int 34 0, PySem.Value.int 4 0, PySem.Value.int 0 0, PySem.Value.int 1 0, PySem.Value.int 3 0, PySem.Value.ref 44, PySem.Value.bool Bool.true, PySem.Value.int 181 0, PySem.Value.ref 45, PySem.Value.none, PySem.Value.ref 46, PySem.Value.ref 47, PySem.Value.ref 48, PySem.Value.int 240 0, PySem.Value.int 34 0, PySem.Value.str (PySem.Str.ofString "/claim/cut.py") 241] }
noncomputable def ob50 (P : Params) : Obj := { cls := PySem.Value.type "function", data := Data.func { name := fnName 4, qualname := fnName 4, params := fnParams 4, body := FuncBody.stmts (fnBody 4), scope := fnScope 4, globals := 3, closure := [], defaults := PySem.Value.ref 42, kwdefaults := PySem.Value.ref 43, pyModule := PySem.Value.str (PySem.Str.ofString "cpy313.bisect") 187, code := PySem.Value.ref 49 } }
noncomputable def ob51 (P : Params) : Obj := { cls := PySem.Value.type "tuple", data := PySem.Data.seq #[] }
noncomputable def ob52 (P : Params) : Obj := { cls := PySem.Value.type "builtin_function_or_method", data := PySem.Data.fields #[PySem.Value.builtin "type.__prepare__", PySem.Value.type "type"] }
noncomputable def ob53 (P : Params) : Obj := { cls := PySem.Value.type "dict", data := PySem.Data.dict #[{ hash := PySem.PyData.keyHash P (PySem.Str.ofString "__module__"), key := PySem.Value.str (PySem.Str.ofString "__module__") 252, val := PySem.Value.str (PySem.Str.ofString "cpy313.dis") 243 }, { hash := PySem.PyData.keyHash P (PySem.Str.ofString "__qualname__"), key := PySem.Value.str (PySem.Str.ofString "__qualname__") 254, val := PySem.Value.str (PySem.Str.ofString "_Unknown") 253 }, { hash := PySem.PyData.keyHash P (PySem.Str.ofString "__firstlineno__"), key := PySem.Value.str (PySem.Str.ofString "__firstlineno__") 256, val := PySem.Value.int 55 255 }, { hash := PySem.PyData.keyHash P (PySem.Str.ofString "__repr__"), key := PySem.Value.str (PySem.Str.ofString "__repr__") 263, val := PySem.Value.ref 64 }, { hash := PySem.PyData.keyHash P (PySem.Str.ofString "__static_attributes__"), key := PySem.Value.str (PySem.Str.ofString "__static_attributes__") 264, val := PySem.Value.ref 65 }] 5 }
noncomputable def ob54 (P : Params) : Obj := { cls := PySem.Value.type "tuple", data := PySem.Data.seq #[] }
noncomputable def ob55 (P : Params) : Obj := { cls := PySem.Value.none, data := PySem.Data.fields #[PySem.Value.int 57 0, PySem.Value.int 4 0, PySem.Value.ref 63] }
noncomputable def ob56 (P : Params) : Obj := { cls := PySem.Value.type "code", data := PySem.Data.fields #[PySem.Value.str (PySem.Str.ofString "_Unknown") 247, PySem.Value.str (PySem.Str.ofString "_Unknown") 248, PySem.Value.str (PySem.Str.ofString "/claim/cut.py") 249, PySem.Value.int 55 0, PySem.Value.int 0 0, PySem.Value.int 0 0, PySem.Value.int 0 0, PySem.Value.int 0 0, PySem.Value.ref 54, PySem.Value.bool Bool.false, PySem.Value.int 181 0, PySem.Value.ref 55, PySem.Value.none, PySem.Value.none, PySem.Value.none, PySem.Value.none, PySem.Value.int 250 0, PySem.Value.int 55 0, PySem.Value.str (PySem.Str.ofString "/claim/cut.py") 251] }
noncomputable def ob57 (P : Params) : Obj := { cls := PySem.Value.type "frame", slots := #[Option.some (PySem.Value.ref 56), Option.some (PySem.Value.ref 3), Option.some (PySem.Value.ref 53), Option.none, Option.some (PySem.Value.str (PySem.Str.ofString "cpy313.dis") 243), Option.none, Option.some (PySem.Value.ref 0)] }
noncomputable def ob58 (P : Params) : Obj := { cls := PySem.Value.type "tuple", data := PySem.Data.seq #[] }
noncomputable def ob59 (P : Params) : Obj := { cls := PySem.Value.none, data := PySem.Data.fields #[] }
noncomputable def ob60 (P : Params) : Obj := { cls := PySem.Value.type "tuple", data := PySem.Data.seq #[PySem.Value.str (PySem.Str.ofString "self") 260] }
noncomputable def ob61 (P : Params) : Obj := { cls := PySem.Value.type "tuple", data := PySem.Data.seq #[] }
noncomputable def ob62 (P : Params) : Obj := { cls := PySem.Value.none, data := Data.func { name := repName, qualname := Str.ofString "_Unknown.__repr__", params := repParams, body := FuncBody.stmts (repBody), scope := repScope, globals := 0, closure := [], defaults := PySem.Value.none, kwdefaults := PySem.Value.none, pyModule := PySem.Value.none, code := PySem.Value.none } }
noncomputable def ob63 (P : Params) : Obj := { cls := PySem.Value.type "code", data := PySem.Data.fields #[PySem.Value.str (PySem.Str.ofString "__repr__") 257, PySem.Value.str (PySem.Str.ofString "_Unknown.__repr__") 258, PySem.Value.str (PySem.Str.ofString "/claim/cut.py") 259, PySem.Value.int 57 0, PySem.Value.int 1 0, PySem.Value.int 0 0, PySem.Value.int 0 0, PySem.Value.int 3 0, PySem.Value.ref 58, PySem.Value.bool Bool.true, PySem.Value.int 181 0, PySem.Value.ref 59, PySem.Value.none, PySem.Value.ref 60, PySem.Value.ref 61, PySem.Value.ref 62, PySem.Value.int 261 0, PySem.Value.int 57 0, PySem.Value.str (PySem.Str.ofString "/claim/cut.py") 262] }
noncomputable def ob64 (P : Params) : Obj := { cls := PySem.Value.type "function", data := Data.func { name := repName, qualname := Str.ofString "_Unknown.__repr__", params := repParams, body := FuncBody.stmts (repBody), scope := repScope, globals := 3, closure := [], defaults := PySem.Value.none, kwdefaults := PySem.Value.none, pyModule := PySem.Value.str (PySem.Str.ofString "cpy313.dis") 243, code := PySem.Value.ref 63 } }
noncomputable def ob65 (P : Params) : Obj := { cls := PySem.Value.type "tuple", data := PySem.Data.seq #[] }
noncomputable def ob66 (P : Params) : Obj := { cls := PySem.Value.type "dict", data := PySem.Data.dict #[{ hash := PySem.PyData.keyHash P (PySem.Str.ofString "__module__"), key := PySem.Value.str (PySem.Str.ofString "__module__") 252, val := PySem.Value.str (PySem.Str.ofString "cpy313.dis") 243 }, { hash := PySem.PyData.keyHash P (PySem.Str.ofString "__firstlineno__"), key := PySem.Value.str (PySem.Str.ofString "__firstlineno__") 256, val := PySem.Value.int 55 255 }, { hash := PySem.PyData.keyHash P (PySem.Str.ofString "__repr__"), key := PySem.Value.str (PySem.Str.ofString "__repr__") 263, val := PySem.Value.ref 64 }, { hash := PySem.PyData.keyHash P (PySem.Str.ofString "__static_attributes__"), key := PySem.Value.str (PySem.Str.ofString "__static_attributes__") 264, val := PySem.Value.ref 65 }, { hash := PySem.PyData.keyHash P (PySem.Str.ofString "__dict__"), key := PySem.Value.str (PySem.Str.ofString "__dict__") 266, val := PySem.Value.ref 68 }, { hash := PySem.PyData.keyHash P (PySem.Str.ofString "__weakref__"), key := PySem.Value.str (PySem.Str.ofString "__weakref__") 268, val := PySem.Value.ref 69 }, { hash := PySem.PyData.keyHash P (PySem.Str.ofString "__doc__"), key := PySem.Value.str (PySem.Str.ofString "__doc__") 269, val := PySem.Value.none }] 4 }
noncomputable def ob67 (P : Params) : Obj := { cls := PySem.Value.type "type", data := PySem.Data.cls { name := PySem.Str.ofString "_Unknown", bases := [PySem.Value.type "object"], mro := [PySem.Value.ref 67, PySem.Value.type "object"], ns := 66, qualname := PySem.Str.ofString "_Unknown" }, slots := #[Option.none, Option.none, Option.some (PySem.Value.str (PySem.Str.ofString "_Unknown") 245), Option.some (PySem.Value.str (PySem.Str.ofString "_Unknown") 253), Option.some (PySem.Value.builtin "object.__new__"), Option.some (PySem.Value.bool Bool.true)] }
noncomputable def ob68 (P : Params) : Obj := { cls := PySem.Value.type "getset_descriptor", data := PySem.Data.fields #[PySem.Value.str (PySem.Str.ofString "__dict__") 265, PySem.Value.ref 67, PySem.Value.builtin "function.__dict__", PySem.Value.builtin "function.__dict__#set"] }
noncomputable def ob69 (P : Params) : Obj := { cls := PySem.Value.type "getset_descriptor", data := PySem.Data.fields #[PySem.Value.str (PySem.Str.ofString "__weakref__") 267, PySem.Value.ref 67, PySem.Value.builtin "ExceptionGroup.__weakref__", PySem.Value.none] }
noncomputable def ob70 (P : Params) : Obj := { cls := PySem.Value.type "super", data := PySem.Data.fields #[PySem.Value.ref 67, PySem.Value.ref 67, PySem.Value.ref 67] }
noncomputable def ob71 (P : Params) : Obj := { cls := PySem.Value.type "builtin_function_or_method", data := PySem.Data.fields #[PySem.Value.builtin "object.__init_subclass__", PySem.Value.ref 67] }
noncomputable def ob72 (P : Params) : Obj := { cls := PySem.Value.type "dict", data := PySem.Data.dict #[] }
noncomputable def ob73 (P : Params) : Obj := { cls := PySem.Value.ref 67, dict := Option.some 72 }
noncomputable def ob74 (P : Params) : Obj := { cls := PySem.Value.type "tuple", data := PySem.Data.seq #[] }
noncomputable def ob75 (P : Params) : Obj := { cls := PySem.Value.none, data := PySem.Data.fields #[] }
noncomputable def ob76 (P : Params) : Obj := { cls := PySem.Value.type "tuple", data := PySem.Data.seq #[PySem.Value.str (PySem.Str.ofString "name_index") 276, PySem.Value.str (PySem.Str.ofString "get_name") 277, PySem.Value.str (PySem.Str.ofString "extrainfo") 278, PySem.Value.str (PySem.Str.ofString "argval") 279] }
noncomputable def ob77 (P : Params) : Obj := { cls := PySem.Value.type "tuple", data := PySem.Data.seq #[] }
noncomputable def ob78 (P : Params) : Obj := { cls := PySem.Value.none, data := Data.func { name := fnName 8, qualname := fnName 8, params := fnParams 8, body := FuncBody.stmts (fnBody 8), scope := fnScope 8, globals := 0, closure := [], defaults := PySem.Value.none, kwdefaults := PySem.Value.none, pyModule := PySem.Value.none, code := PySem.Value.none } }
noncomputable def ob79 (P : Params) : Obj := { cls := PySem.Value.type "code", data := PySem.Data.fields #[PySem.Value.str (PySem.Str.ofString "_get_name_info") 273, PySem.Value.str (PySem.Str.ofString "_get_name_info") 274, PySem.Value.str (PySem.Str.ofString "/claim/cut.py") 275, PySem.Value.int 60 0, PySem.Value.int 2 0, PySem.Value.int 0 0, PySem.Value.int 0 0, PySem.Value.int 11 0, PySem.Value.ref 74, PySem.Value.bool Bool.true, PySem.Value.int 181 0, PySem.Value.ref 75, PySem.Value.none, PySem.Value.ref 76, PySem.Value.ref 77, PySem.Value.ref 78, PySem.Value.int 280 0, PySem.Value.int 60 0, PySem.Value.str (PySem.Str.ofString "/claim/cut.py") 281] }
noncomputable def ob80 (P : Params) : Obj := { cls := PySem.Value.type "function", data := Data.func { name := fnName 8, qualname := fnName 8, params := fnParams 8, body := FuncBody.stmts (fnBody 8), scope := fnScope 8, globals := 3, closure := [], defaults := PySem.Value.none, kwdefaults := PySem.Value.none, pyModule := PySem.Value.str (PySem.Str.ofString "cpy313.dis") 243, code := PySem.Value.ref 79 } }
noncomputable def ob81 (P : Params) : Obj := { cls := PySem.Value.type "tuple", data := PySem.Data.seq #[] }
noncomputable def ob82 (P : Params) : Obj := { cls := PySem.Value.none, data := PySem.Data.fields #[] }
noncomputable def ob83 (P : Params) : Obj := { cls := PySem.Value.type "tuple", data := PySem.Data.seq #[PySem.Value.str (PySem.Str.ofString "iterator") 286, PySem.Value.str (PySem.Str.ofString "b") 287, PySem.Value.str (PySem.Str.ofString "val") 288] }
noncomputable def ob84 (P : Params) : Obj := { cls := PySem.Value.type "tuple", data := PySem.Data.seq #[] }
noncomputable def ob85 (P : Params) : Obj := { cls := PySem.Value.none, data := Data.func { name := fnName 9, qualname := fnName 9, params := fnParams 9, body := FuncBody.stmts (fnBody 9), scope := fnScope 9, globals := 0, closure := [], defaults := PySem.Value.none, kwdefaults := PySem.Value.none, pyModule := PySem.Value.none, code := PySem.Value.none } }
noncomputable def ob86 (P : Params) : Obj := { cls := PySem.Value.type "code", data := PySem.Data.fields #[PySem.Value.str (PySem.Str.ofString "_parse_varint") 283, PySem.Value.str (PySem.Str.ofString "_parse_varint") 284, PySem.Value.str (PySem.Str.ofString "/claim/cut.py") 285, PySem.Value.int 66 0, PySem.Value.int 1 0, PySem.Value.int 0 0, PySem.Value.int 0 0, PySem.Value.int 3 0, PySem.Value.ref 81, PySem.Value.bool Bool.true, PySem.Value.int 181 0, PySem.Value.ref 82, PySem.Value.none, PySem.Value.ref 83, PySem.Value.ref 84, PySem.Value.ref 85, PySem.Value.int 289 0, PySem.Value.int 66 0, PySem.Value.str (PySem.Str.ofString "/claim/cut.py") 290] }
noncomputable def ob87 (P : Params) : Obj := { cls := PySem.Value.type "function", data := Data.func { name := fnName 9, qualname := fnName 9, params := fnParams 9, body := FuncBody.stmts (fnBody 9), scope := fnScope 9, globals := 3, closure := [], defaults := PySem.Value.none, kwdefaults := PySem.Value.none, pyModule := PySem.Value.str (PySem.Str.ofString "cpy313.dis") 243, code := PySem.Value.ref 86 } }
noncomputable def ob88 (P : Params) : Obj := { cls := PySem.Value.type "tuple", data := PySem.Data.seq #[] }
noncomputable def ob89 (P : Params) : Obj := { cls := PySem.Value.none, data := PySem.Data.fields #[] }
noncomputable def ob90 (P : Params) : Obj := { cls := PySem.Value.type "tuple", data := PySem.Data.seq #[PySem.Value.str (PySem.Str.ofString "msg") 297, PySem.Value.str (PySem.Str.ofString "start") 298, PySem.Value.str (PySem.Str.ofString "end") 299, PySem.Value.str (PySem.Str.ofString "i") 300] }
noncomputable def ob91 (P : Params) : Obj := { cls := PySem.Value.type "tuple", data := PySem.Data.seq #[] }
noncomputable def ob92 (P : Params) : Obj := { cls := PySem.Value.none, data := Data.func { name := fnName 11, qualname := fnName 11, params := fnParams 11, body := FuncBody.stmts (fnBody 11), scope := fnScope 11, globals := 0, closure := [], defaults := PySem.Value.none, kwdefaults := PySem.Value.none, pyModule := PySem.Value.none, code := PySem.Value.none } }
noncomputable def ob93 (P : Params) : Obj := { cls := PySem.Value.type "code", data := PySem.Data.fields #[PySem.Value.str (PySem.Str.ofString "_strip_exception_details") 294, PySem.Value.str (PySem.Str.ofString "_strip_exception_details") 295, PySem.Value.str (PySem.Str.ofString "/claim/cut.py") 296, PySem.Value.int 75 0, PySem.Value.int 1 0, PySem.Value.int 0 0, PySem.Value.int 0 0, PySem.Value.int 3 0, PySem.Value.ref 88, PySem.Value.bool Bool.true, PySem.Value.int 181 0, PySem.Value.ref 89, PySem.Value.none, PySem.Value.ref 90, PySem.Value.ref 91, PySem.Value.ref 92, PySem.Value.int 301 0, PySem.Value.int 75 0, PySem.Value.str (PySem.Str.ofString "/claim/cut.py") 302] }
noncomputable def ob94 (P : Params) : Obj := { cls := PySem.Value.type "function", data := Data.func { name := fnName 11, qualname := fnName 11, params := fnParams 11, body := FuncBody.stmts (fnBody 11), scope := fnScope 11, globals := 3, closure := [], defaults := PySem.Value.none, kwdefaults := PySem.Value.none, pyModule := PySem.Value.str (PySem.Str.ofString "cpy313.doctest") 292, code := PySem.Value.ref 93 } }
noncomputable def ob3B (P : Params) : Obj := { cls := PySem.Value.type "dict", data := PySem.Data.dict #[{ hash := PySem.PyData.keyHash P (PySem.Str.ofString "__name__"), key := PySem.Value.str (PySem.Str.ofString "__name__") 165, val := PySem.Value.str (PySem.Str.ofString "cpy313.stringprep") 304 }, { hash := PySem.PyData.keyHash P (PySem.Str.ofString "__doc__"), key := PySem.Value.str (PySem.Str.ofString "__doc__") 166, val := PySem.Value.none }, { hash := PySem.PyData.keyHash P (PySem.Str.ofString "__package__"), key := PySem.Value.str (PySem.Str.ofString "__package__") 167, val := PySem.Value.none }, { hash := PySem.PyData.keyHash P (PySem.Str.ofString "__loader__"), key := PySem.Value.str (PySem.Str.ofString "__loader__") 168, val := PySem.Value.builtin "__main__.__loader__#opaque" }, { hash := PySem.PyData.keyHash P (PySem.Str.ofString "__spec__"), key := PySem.Value.str (PySem.Str.ofString "__spec__") 169, val := PySem.Value.none }, { hash := PySem.PyData.keyHash P (PySem.Str.ofString "__annotations__"), key := PySem.Value.str (PySem.Str.ofString "__annotations__") 170, val := PySem.Value.ref 6 }, { hash := PySem.PyData.keyHash P (PySem.Str.ofString "__builtins__"), key := PySem.Value.str (PySem.Str.ofString "__builtins__") 171, val := PySem.Value.ref 4 }, { hash := PySem.PyData.keyHash P (PySem.Str.ofString "__file__"), key := PySem.Value.str (PySem.Str.ofString "__file__") 173, val := PySem.Value.str (PySem.Str.ofString "/claim/cut.py") 172 }, { hash := PySem.PyData.keyHash P (PySem.Str.ofString "__cached__"), key := PySem.Value.str (PySem.Str.ofString "__cached__") 174, val := PySem.Value.none }, { hash := PySem.PyData.keyHash P (PySem.Str.ofString "insort_right"), key := PySem.Value.str (PySem.Str.ofString "insort_right") 201, val := PySem.Value.ref 23 }, { hash := PySem.PyData.keyHash P (PySem.Str.ofString "bisect_right"), key := PySem.Value.str (PySem.Str.ofString "bisect_right") 215, val := PySem.Value.ref 32 }, { hash := PySem.PyData.keyHash P (PySem.Str.ofString "insort_left"), key := PySem.Value.str (PySem.Str.ofString "insort_left") 228, val := PySem.Value.ref 41 }, { hash := PySem.PyData.keyHash P (PySem.Str.ofString "bisect_left"), key := PySem.Value.str (PySem.Str.ofString "bisect_left") 242, val := PySem.Value.ref 50 }, { hash := PySem.PyData.keyHash P (PySem.Str.ofString "_Unknown"), key := PySem.Value.str (PySem.Str.ofString "_Unknown") 271, val := PySem.Value.ref 67 }, { hash := PySem.PyData.keyHash P (PySem.Str.ofString "UNKNOWN"), key := PySem.Value.str (PySem.Str.ofString "UNKNOWN") 272, val := PySem.Value.ref 73 }, { hash := PySem.PyData.keyHash P (PySem.Str.ofString "_get_name_info"), key := PySem.Value.str (PySem.Str.ofString "_get_name_info") 282, val := PySem.Value.ref 80 }, { hash := PySem.PyData.keyHash P (PySem.Str.ofString "_parse_varint"), key := PySem.Value.str (PySem.Str.ofString "_parse_varint") 291, val := PySem.Value.ref 87 }, { hash := PySem.PyData.keyHash P (PySem.Str.ofString "_strip_exception_details"), key := PySem.Value.str (PySem.Str.ofString "_strip_exception_details") 303, val := PySem.Value.ref 94 }, { hash := PySem.PyData.keyHash P (PySem.Str.ofString "b1_set"), key := PySem.Value.str (PySem.Str.ofString "b1_set") 365, val := PySem.Value.ref 102 }] 19 }
noncomputable def ob95 (P : Params) : Obj := { cls := PySem.Value.type "list", data := PySem.Data.seq #[PySem.Value.int 173 306, PySem.Value.int 847 307, PySem.Value.int 6150 308, PySem.Value.int 6155 309, PySem.Value.int 6156 310, PySem.Value.int 6157 311, PySem.Value.int 8203 312, PySem.Value.int 8204 313, PySem.Value.int 8205 314, PySem.Value.int 8288 315, PySem.Value.int 65279 316] }
noncomputable def ob96 (P : Params) : Obj := { cls := PySem.Value.type "range", data := PySem.Data.fields #[PySem.Value.int 65024 317, PySem.Value.int 65040 318, PySem.Value.int 1 319] }
noncomputable def ob97 (P : Params) : Obj := { cls := PySem.Value.type "list", data := PySem.Data.seq #[PySem.Value.int 65024 322, PySem.Value.int 65025 323, PySem.Value.int 65026 324, PySem.Value.int 65027 325, PySem.Value.int 65028 326, PySem.Value.int 65029 327, PySem.Value.int 65030 328, PySem.Value.int 65031 329, PySem.Value.int 65032 330, PySem.Value.int 65033 331, PySem.Value.int 65034 332, PySem.Value.int 65035 333, PySem.Value.int 65036 334, PySem.Value.int 65037 335, PySem.Value.int 65038 336, PySem.Value.int 65039 337] 18 }
noncomputable def ob98 (P : Params) : Obj := { cls := PySem.Value.type "range_iterator", data := PySem.Data.fields #[PySem.Value.int 65040 0, PySem.Value.int 0 0, PySem.Value.int 1 0] }
noncomputable def ob99 (P : Params) : Obj := { cls := PySem.Value.type "tuple", data := PySem.Data.seq #[] }
noncomputable def ob100 (P : Params) : Obj := { cls := PySem.Value.type "StopIteration", data := PySem.Data.fields #[PySem.Value.ref 99, PySem.Value.none, PySem.Value.none, PySem.Value.none, PySem.Value.bool Bool.false, PySem.Value.none] }
noncomputable def ob101 (P : Params) : Obj := { cls := PySem.Value.type "list", data := PySem.Data.seq #[PySem.Value.int 173 306, PySem.Value.int 847 307, PySem.Value.int 6150 308, PySem.Value.int 6155 309, PySem.Value.int 6156 310, PySem.Value.int 6157 311, PySem.Value.int 8203 312, PySem.Value.int 8204 313, PySem.Value.int 8205 314, PySem.Value.int 8288 315, PySem.Value.int 65279 316, PySem.Value.int 65024 322, PySem.Value.int 65025 323, PySem.Value.int 65026 324, PySem.Value.int 65027 325, PySem.Value.int 65028 326, PySem.Value.int 65029 327, PySem.Value.int 65030 328, PySem.Value.int 65031 329, PySem.Value.int 65032 330, PySem.Value.int 65033 331, PySem.Value.int 65034 332, PySem.Value.int 65035 333, PySem.Value.int 65036 334, PySem.Value.int 65037 335, PySem.Value.int 65038 336, PySem.Value.int 65039 337] }
noncomputable def ob103 (P : Params) : Obj := { cls := PySem.Value.type "list_iterator", data := PySem.Data.fields #[PySem.Value.none, PySem.Value.int 27 0] }
noncomputable def ob104 (P : Params) : Obj := { cls := PySem.Value.type "tuple", data := PySem.Data.seq #[] }
noncomputable def ob105 (P : Params) : Obj := { cls := PySem.Value.type "StopIteration", data := PySem.Data.fields #[PySem.Value.ref 104, PySem.Value.none, PySem.Value.none, PySem.Value.none, PySem.Value.bool Bool.false, PySem.Value.none] }
noncomputable def ob3C (P : Params) : Obj := { cls := PySem.Value.type "dict", data := PySem.Data.dict #[{ hash := PySem.PyData.keyHash P (PySem.Str.ofString "__name__"), key := PySem.Value.str (PySem.Str.ofString "__name__") 165, val := PySem.Value.str (PySem.Str.ofString "cpy313.stringprep") 304 }, { hash := PySem.PyData.keyHash P (PySem.Str.ofString "__doc__"), key := PySem.Value.str (PySem.Str.ofString "__doc__") 166, val := PySem.Value.none }, { hash := PySem.PyData.keyHash P (PySem.Str.ofString "__package__"), key := PySem.Value.str (PySem.Str.ofString "__package__") 167, val := PySem.Value.none }, { hash := PySem.PyData.keyHash P (PySem.Str.ofString "__loader__"), key := PySem.Value.str (PySem.Str.ofString "__loader__") 168, val := PySem.Value.builtin "__main__.__loader__#opaque" }, { hash := PySem.PyData.keyHash P (PySem.Str.ofString "__spec__"), key := PySem.Value.str (PySem.Str.ofString "__spec__") 169, val := PySem.Value.none }, { hash := PySem.PyData.keyHash P (PySem.Str.ofString "__annotations__"), key := PySem.Value.str (PySem.Str.ofString "__annotations__") 170, val := PySem.Value.ref 6 }, { hash := PySem.PyData.keyHash P (PySem.Str.ofString "__builtins__"), key := PySem.Value.str (PySem.Str.ofString "__builtins__") 171, val := PySem.Value.ref 4 }, { hash := PySem.PyData.keyHash P (PySem.Str.ofString "__file__"), key := PySem.Value.str (PySem.Str.ofString "__file__") 173, val := PySem.Value.str (PySem.Str.ofString "/claim/cut.py") 172 }, { hash := PySem.PyData.keyHash P (PySem.Str.ofString "__cached__"), key := PySem.Value.str (PySem.Str.ofString "__cached__") 174, val := PySem.Value.none }, { hash := PySem.PyData.keyHash P (PySem.Str.ofString "insort_right"), key := PySem.Value.str (PySem.Str.ofString "insort_right") 201, val := PySem.Value.ref 23 }, { hash := PySem.PyData.keyHash P (PySem.Str.ofString "bisect_right"), key := PySem.Value.str (PySem.Str.ofString "bisect_right") 215, val := PySem.Value.ref 32 }, { hash := PySem.PyData.keyHash P (PySem.Str.ofString "insort_left"), key := PySem.Value.str (PySem.Str.ofString "insort_left") 228, val := PySem.Value.ref 41 }, { hash := PySem.PyData.keyHash P (PySem.Str.ofString "bisect_left"), key := PySem.Value.str (PySem.Str.ofString "bisect_left") 242, val := PySem.Value.ref 50 }, { hash := PySem.PyData.keyHash P (PySem.Str.ofString "_Unknown"), key := PySem.Value.str (PySem.Str.ofString "_Unknown") 271, val := PySem.Value.ref 67 }, { hash := PySem.PyData.keyHash P (PySem.Str.ofString "UNKNOWN"), key := PySem.Value.str (PySem.Str.ofString "UNKNOWN") 272, val := PySem.Value.ref 73 }, { hash := PySem.PyData.keyHash P (PySem.Str.ofString "_get_name_info"), key := PySem.Value.str (PySem.Str.ofString "_get_name_info") 282, val := PySem.Value.ref 80 }, { hash := PySem.PyData.keyHash P (PySem.Str.ofString "_parse_varint"), key := PySem.Value.str (PySem.Str.ofString "_parse_varint") 291, val := PySem.Value.ref 87 }, { hash := PySem.PyData.keyHash P (PySem.Str.ofString "_strip_exception_details"), key := PySem.Value.str (PySem.Str.ofString "_strip_exception_details") 303, val := PySem.Value.ref 94 }, { hash := PySem.PyData.keyHash P (PySem.Str.ofString "b1_set"), key := PySem.Value.str (PySem.Str.ofString "b1_set") 365, val := PySem.Value.ref 102 }, { hash := PySem.PyData.keyHash P (PySem.Str.ofString "in_table_b1"), key := PySem.Value.str (PySem.Str.ofString "in_table_b1") 372, val := PySem.Value.ref 112 }] 20 }
noncomputable def ob12C (P : Params) : Obj := { cls := PySem.Value.none, data := PySem.Data.fields #[PySem.Value.int 2 0, PySem.Value.int 0 0, PySem.Value.ref 22, PySem.Value.int 8 0, PySem.Value.int 0 0, PySem.Value.ref 31, PySem.Value.int 28 0, PySem.Value.int 0 0, PySem.Value.ref 40, PySem.Value.int 34 0, PySem.Value.int 0 0, PySem.Value.ref 49, PySem.Value.int 55 0, PySem.Value.int 0 0, PySem.Value.ref 56, PySem.Value.int 60 0, PySem.Value.int 0 0, PySem.Value.ref 79, PySem.Value.int 66 0, PySem.Value.int 0 0, PySem.Value.ref 86, PySem.Value.int 75 0, PySem.Value.int 0 0, PySem.Value.ref 93, PySem.Value.int 89 0, PySem.Value.int 0 0, PySem.Value.ref 111] }
noncomputable def ob106 (P : Params) : Obj := { cls := PySem.Value.type "tuple", data := PySem.Data.seq #[] }
noncomputable def ob107 (P : Params) : Obj := { cls := PySem.Value.none, data := PySem.Data.fields #[] }
noncomputable def ob108 (P : Params) : Obj := { cls := PySem.Value.type "tuple", data := PySem.Data.seq #[PySem.Value.str (PySem.Str.ofString "code") 369] }
noncomputable def ob109 (P : Params) : Obj := { cls := PySem.Value.type "tuple", data := PySem.Data.seq #[] }
noncomputable def ob110 (P : Params) : Obj := { cls := PySem.Value.none, data := Data.func { name := fnName 14, qualname := fnName 14, params := fnParams 14, body := FuncBody.stmts (fnBody 14), scope := fnScope 14, globals := 0, closure := [], defaults := PySem.Value.none, kwdefaults := PySem.Value.none, pyModule := PySem.Value.none, code := PySem.Value.none } }
noncomputable def ob111 (P : Params) : Obj := { cls := PySem.Value.type "code", data := PySem.Data.fields #[PySem.Value.str (PySem.Str.ofString "in_table_b1") 366, PySem.Value.str (PySem.Str.ofString "in_table_b1") 367, PySem.Value.str (PySem.Str.ofString "/claim/cut.py") 368, PySem.Value.int 89 0, PySem.Value.int 1 0, PySem.Value.int 0 0, PySem.Value.int 0 0, PySem.Value.int 3 0, PySem.Value.ref 106, PySem.Value.bool Bool.true, PySem.Value.int 181 0, PySem.Value.ref 107, PySem.Value.none, PySem.Value.ref 108, PySem.Value.ref 109, PySem.Value.ref 110, PySem.Value.int 370 0, PySem.Value.int 89 0, PySem.Value.str (PySem.Str.ofString "/claim/cut.py") 371] }
noncomputable def ob112 (P : Params) : Obj := { cls := PySem.Value.type "function", data := Data.func { name := fnName 14, qualname := fnName 14, params := fnParams 14, body := FuncBody.stmts (fnBody 14), scope := fnScope 14, globals := 3, closure := [], defaults := PySem.Value.none, kwdefaults := PySem.Value.none, pyModule := PySem.Value.str (PySem.Str.ofString "cpy313.stringprep") 304, code := PySem.Value.ref 111 } }
noncomputable def ob3D (P : Params) : Obj := { cls := PySem.Value.type "dict", data := PySem.Data.dict #[{ hash := PySem.PyData.keyHash P (PySem.Str.ofString "__name__"), key := PySem.Value.str (PySem.Str.ofString "__name__") 165, val := PySem.Value.str (PySem.Str.ofString "cpy313.stringprep") 304 }, { hash := PySem.PyData.keyHash P (PySem.Str.ofString "__doc__"), key := PySem.Value.str (PySem.Str.ofString "__doc__") 166, val := PySem.Value.none }, { hash := PySem.PyData.keyHash P (PySem.Str.ofString "__package__"), key := PySem.Value.str (PySem.Str.ofString "__package__") 167, val := PySem.Value.none }, { hash := PySem.PyData.keyHash P (PySem.Str.ofString "__loader__"), key := PySem.Value.str (PySem.Str.ofString "__loader__") 168, val := PySem.Value.builtin "__main__.__loader__#opaque" }, { hash := PySem.PyData.keyHash P (PySem.Str.ofString "__spec__"), key := PySem.Value.str (PySem.Str.ofString "__spec__") 169, val := PySem.Value.none }, { hash := PySem.PyData.keyHash P (PySem.Str.ofString "__annotations__"), key := PySem.Value.str (PySem.Str.ofString "__annotations__") 170, val := PySem.Value.ref 6 }, { hash := PySem.PyData.keyHash P (PySem.Str.ofString "__builtins__"), key := PySem.Value.str (PySem.Str.ofString "__builtins__") 171, val := PySem.Value.ref 4 }, { hash := PySem.PyData.keyHash P (PySem.Str.ofString "__file__"), key := PySem.Value.str (PySem.Str.ofString "__file__") 173, val := PySem.Value.str (PySem.Str.ofString "/claim/cut.py") 172 }, { hash := PySem.PyData.keyHash P (PySem.Str.ofString "__cached__"), key := PySem.Value.str (PySem.Str.ofString "__cached__") 174, val := PySem.Value.none }, { hash := PySem.PyData.keyHash P (PySem.Str.ofString "insort_right"), key := PySem.Value.str (PySem.Str.ofString "insort_right") 201, val := PySem.Value.ref 23 }, { hash := PySem.PyData.keyHash P (PySem.Str.ofString "bisect_right"), key := PySem.Value.str (PySem.Str.ofString "bisect_right") 215, val := PySem.Value.ref 32 }, { hash := PySem.PyData.keyHash P (PySem.Str.ofString "insort_left"), key := PySem.Value.str (PySem.Str.ofString "insort_left") 228, val := PySem.Value.ref 41 }, { hash := PySem.PyData.keyHash P (PySem.Str.ofString "bisect_left"), key := PySem.Value.str (PySem.Str.ofString "bisect_left") 242, val := PySem.Value.ref 50 }, { hash := PySem.PyData.keyHash P (PySem.Str.ofString "_Unknown"), key := PySem.Value.str (PySem.Str.ofString "_Unknown") 271, val := PySem.Value.ref 67 }, { hash := PySem.PyData.keyHash P (PySem.Str.ofString "UNKNOWN"), key := PySem.Value.str (PySem.Str.ofString "UNKNOWN") 272, val := PySem.Value.ref 73 }, { hash := PySem.PyData.keyHash P (PySem.Str.ofString "_get_name_info"), key := PySem.Value.str (PySem.Str.ofString "_get_name_info") 282, val := PySem.Value.ref 80 }, { hash := PySem.PyData.keyHash P (PySem.Str.ofString "_parse_varint"), key := PySem.Value.str (PySem.Str.ofString "_parse_varint") 291, val := PySem.Value.ref 87 }, { hash := PySem.PyData.keyHash P (PySem.Str.ofString "_strip_exception_details"), key := PySem.Value.str (PySem.Str.ofString "_strip_exception_details") 303, val := PySem.Value.ref 94 }, { hash := PySem.PyData.keyHash P (PySem.Str.ofString "b1_set"), key := PySem.Value.str (PySem.Str.ofString "b1_set") 365, val := PySem.Value.ref 102 }, { hash := PySem.PyData.keyHash P (PySem.Str.ofString "in_table_b1"), key := PySem.Value.str (PySem.Str.ofString "in_table_b1") 372, val := PySem.Value.ref 112 }, { hash := PySem.PyData.keyHash P (PySem.Str.ofString "b3_exceptions"), key := PySem.Value.str (PySem.Str.ofString "b3_exceptions") 2323, val := PySem.Value.ref 113 }] 21 }
noncomputable def ob3F (P : Params) : Obj := { cls := PySem.Value.type "dict", data := PySem.Data.dict #[{ hash := PySem.PyData.keyHash P (PySem.Str.ofString "__name__"), key := PySem.Value.str (PySem.Str.ofString "__name__") 165, val := PySem.Value.str (PySem.Str.ofString "law_kl0253_01") 2332 }, { hash := PySem.PyData.keyHash P (PySem.Str.ofString "__doc__"), key := PySem.Value.str (PySem.Str.ofString "__doc__") 166, val := PySem.Value.none }, { hash := PySem.PyData.keyHash P (PySem.Str.ofString "__package__"), key := PySem.Value.str (PySem.Str.ofString "__package__") 167, val := PySem.Value.none }, { hash := PySem.PyData.keyHash P (PySem.Str.ofString "__loader__"), key := PySem.Value.str (PySem.Str.ofString "__loader__") 168, val := PySem.Value.builtin "__main__.__loader__#opaque" }, { hash := PySem.PyData.keyHash P (PySem.Str.ofString "__spec__"), key := PySem.Value.str (PySem.Str.ofString "__spec__") 169, val := PySem.Value.none }, { hash := PySem.PyData.keyHash P (PySem.Str.ofString "__annotations__"), key := PySem.Value.str (PySem.Str.ofString "__annotations__") 170, val := PySem.Value.ref 6 }, { hash := PySem.PyData.keyHash P (PySem.Str.ofString "__builtins__"), key := PySem.Value.str (PySem.Str.ofString "__builtins__") 171, val := PySem.Value.ref 4 }, { hash := PySem.PyData.keyHash P (PySem.Str.ofString "__file__"), key := PySem.Value.str (PySem.Str.ofString "__file__") 173, val := PySem.Value.str (PySem.Str.ofString "/claim/cut.py") 172 }, { hash := PySem.PyData.keyHash P (PySem.Str.ofString "__cached__"), key := PySem.Value.str (PySem.Str.ofString "__cached__") 174, val := PySem.Value.none }, { hash := PySem.PyData.keyHash P (PySem.Str.ofString "insort_right"), key := PySem.Value.str (PySem.Str.ofString "insort_right") 201, val := PySem.Value.ref 23 }, { hash := PySem.PyData.keyHash P (PySem.Str.ofString "bisect_right"), key := PySem.Value.str (PySem.Str.ofString "bisect_right") 215, val := PySem.Value.ref 32 }, { hash := PySem.PyData.keyHash P (PySem.Str.ofString "insort_left"), key := PySem.Value.str (PySem.Str.ofString "insort_left") 228, val := PySem.Value.ref 41 }, { hash := PySem.PyData.keyHash P (PySem.Str.ofString "bisect_left"), key := PySem.Value.str (PySem.Str.ofString "bisect_left") 242, val := PySem.Value.ref 50 }, { hash := PySem.PyData.keyHash P (PySem.Str.ofString "_Unknown"), key := PySem.Value.str (PySem.Str.ofString "_Unknown") 271, val := PySem.Value.ref 67 }, { hash := PySem.PyData.keyHash P (PySem.Str.ofString "UNKNOWN"), key := PySem.Value.str (PySem.Str.ofString "UNKNOWN") 272, val := PySem.Value.ref 73 }, { hash := PySem.PyData.keyHash P (PySem.Str.ofString "_get_name_info"), key := PySem.Value.str (PySem.Str.ofString "_get_name_info") 282, val := PySem.Value.ref 80 }, { hash := PySem.PyData.keyHash P (PySem.Str.ofString "_parse_varint"), key := PySem.Value.str (PySem.Str.ofString "_parse_varint") 291, val := PySem.Value.ref 87 }, { hash := PySem.PyData.keyHash P (PySem.Str.ofString "_strip_exception_details"), key := PySem.Value.str (PySem.Str.ofString "_strip_exception_details") 303, val := PySem.Value.ref 94 }, { hash := PySem.PyData.keyHash P (PySem.Str.ofString "b1_set"), key := PySem.Value.str (PySem.Str.ofString "b1_set") 365, val := PySem.Value.ref 102 }, { hash := PySem.PyData.keyHash P (PySem.Str.ofString "in_table_b1"), key := PySem.Value.str (PySem.Str.ofString "in_table_b1") 372, val := PySem.Value.ref 112 }, { hash := PySem.PyData.keyHash P (PySem.Str.ofString "b3_exceptions"), key := PySem.Value.str (PySem.Str.ofString "b3_exceptions") 2323, val := PySem.Value.ref 113 }, { hash := PySem.PyData.keyHash P (PySem.Str.ofString "map_table_b3"), key := PySem.Value.str (PySem.Str.ofString "map_table_b3") 2331, val := PySem.Value.ref 158 }, { hash := PySem.PyData.keyHash P (PySem.Str.ofString "_law_line"), key := PySem.Value.str (PySem.Str.ofString "_law_line") 2339, val := PySem.Value.ref 163 }, { hash := PySem.PyData.keyHash P (PySem.Str.ofString "_law_back"), key := PySem.Value.str (PySem.Str.ofString "_law_back") 2352, val := PySem.Value.ref 170 }, { hash := PySem.PyData.keyHash P (PySem.Str.ofString "_law_ahead"), key := PySem.Value.str (PySem.Str.ofString "_law_ahead") 2358, val := PySem.Value.ref 175 }, { hash := PySem.PyData.keyHash P (PySem.Str.ofString "_law_fetches"), key := PySem.Value.str (PySem.Str.ofString "_law_fetches") 2364, val := PySem.Value.ref 180 }, { hash := PySem.PyData.keyHash P (PySem.Str.ofString "_law_least"), key := PySem.Value.str (PySem.Str.ofString "_law_least") 2370, val := PySem.Value.ref 185 }, { hash := PySem.PyData.keyHash P (PySem.Str.ofString "_law_octets"), key := PySem.Value.str (PySem.Str.ofString "_law_octets") 2376, val := PySem.Value.ref 190 }, { hash := PySem.PyData.keyHash P (PySem.Str.ofString "_law_read"), key := PySem.Value.str (PySem.Str.ofString "_law_read") 2382, val := PySem.Value.ref 195 }, { hash := PySem.PyData.keyHash P (PySem.Str.ofString "law"), key := PySem.Value.str (PySem.Str.ofString "law") 2388, val := PySem.Value.ref 200 }] 30 }
noncomputable def ob12F (P : Params) : Obj := { cls := PySem.Value.none, data := PySem.Data.fields #[PySem.Value.int 2 0, PySem.Value.int 0 0, PySem.Value.ref 22, PySem.Value.int 8 0, PySem.Value.int 0 0, PySem.Value.ref 31, PySem.Value.int 28 0, PySem.Value.int 0 0, PySem.Value.ref 40, PySem.Value.int 34 0, PySem.Value.int 0 0, PySem.Value.ref 49, PySem.Value.int 55 0, PySem.Value.int 0 0, PySem.Value.ref 56, PySem.Value.int 60 0, PySem.Value.int 0 0, PySem.Value.ref 79, PySem.Value.int 66 0, PySem.Value.int 0 0, PySem.Value.ref 86, PySem.Value.int 75 0, PySem.Value.int 0 0, PySem.Value.ref 93, PySem.Value.int 89 0, PySem.Value.int 0 0, PySem.Value.ref 111, PySem.Value.int 92 0, PySem.Value.int 0 0, PySem.Value.ref 157, PySem.Value.int 98 0, PySem.Value.int 0 0, PySem.Value.ref 162, PySem.Value.int 105 0, PySem.Value.int 0 0, PySem.Value.ref 169, PySem.Value.int 120 0, PySem.Value.int 0 0, PySem.Value.ref 174, PySem.Value.int 140 0, PySem.Value.int 0 0, PySem.Value.ref 179, PySem.Value.int 146 0, PySem.Value.int 0 0, PySem.Value.ref 184, PySem.Value.int 159 0, PySem.Value.int 0 0, PySem.Value.ref 189, PySem.Value.int 162 0, PySem.Value.int 0 0, PySem.Value.ref 194, PySem.Value.int 175 0, PySem.Value.int 0 0, PySem.Value.ref 199] }
noncomputable def ob152 (P : Params) : Obj := { cls := PySem.Value.type "tuple", data := PySem.Data.seq #[] }
noncomputable def ob153 (P : Params) : Obj := { cls := PySem.Value.none, data := PySem.Data.fields #[] }
noncomputable def ob154 (P : Params) : Obj := { cls := PySem.Value.type "tuple", data := PySem.Data.seq #[PySem.Value.str (PySem.Str.ofString "code") 2327, PySem.Value.str (PySem.Str.ofString "r") 2328] }
noncomputable def ob155 (P : Params) : Obj := { cls := PySem.Value.type "tuple", data := PySem.Data.seq #[] }
noncomputable def ob156 (P : Params) : Obj := { cls := PySem.Value.none, data := Data.func { name := fnName 16, qualname := fnName 16, params := fnParams 16, body := FuncBody.stmts (fnBody 16), scope := fnScope 16, globals := 0, closure := [], defaults := PySem.Value.none, kwdefaults := PySem.Value.none, pyModule := PySem.Value.none, code := PySem.Value.none } }
noncomputable def ob157 (P : Params) : Obj := { cls := PySem.Value.type "code", data := PySem.Data.fields #[PySem.Value.str (PySem.Str.ofString "map_table_b3") 2324, PySem.Value.str (PySem.Str.ofString "map_table_b3") 2325, PySem.Value.str (PySem.Str.ofString "/claim/cut.py") 2326, PySem.Value.int 92 0, PySem.Value.int 1 0, PySem.Value.int 0 0, PySem.Value.int 0 0, PySem.Value.int 3 0, PySem.Value.ref 152, PySem.Value.bool Bool.true, PySem.Value.int 181 0, PySem.Value.ref 153, PySem.Value.none, PySem.Value.ref 154, PySem.Value.ref 155, PySem.Value.ref 156, PySem.Value.int 2329 0, PySem.Value.int 92 0, PySem.Value.str (PySem.Str.ofString "/claim/cut.py") 2330] }
noncomputable def ob158 (P : Params) : Obj := { cls := PySem.Value.type "function", data := Data.func { name := fnName 16, qualname := fnName 16, params := fnParams 16, body := FuncBody.stmts (fnBody 16), scope := fnScope 16, globals := 3, closure := [], defaults := PySem.Value.none, kwdefaults := PySem.Value.none, pyModule := PySem.Value.str (PySem.Str.ofString "cpy313.stringprep") 304, code := PySem.Value.ref 157 } }
noncomputable def ob159 (P : Params) : Obj := { cls := PySem.Value.type "tuple", data := PySem.Data.seq #[] }
noncomputable def ob160 (P : Params) : Obj := { cls := PySem.Value.none, data := PySem.Data.fields #[] }
noncomputable def ob161 (P : Params) : Obj := { cls := PySem.Value.none, data := Data.func { name := fnName 18, qualname := fnName 18, params := fnParams 18, body := FuncBody.stmts (fnBody 18), scope := fnScope 18, globals := 0, closure := [], defaults := PySem.Value.none, kwdefaults := PySem.Value.none, pyModule := PySem.Value.none, code := PySem.Value.none } }
noncomputable def ob162 (P : Params) : Obj := { cls := PySem.Value.type "code", data := PySem.Data.fields #[PySem.Value.str (PySem.Str.ofString "_law_line") 2334, PySem.Value.str (PySem.Str.ofString "_law_line") 2335, PySem.Value.str (PySem.Str.ofString "/claim/cut.py") 2336, PySem.Value.int 98 0, PySem.Value.int 1 0, PySem.Value.int 0 0, PySem.Value.int 0 0, PySem.Value.int 3 0, PySem.Value.ref 159, PySem.Value.bool Bool.true, PySem.Value.int 181 0, PySem.Value.ref 160, PySem.Value.none, PySem.Value.none, PySem.Value.none, PySem.Value.ref 161, PySem.Value.int 2337 0, PySem.Value.int 98 0, PySem.Value.str (PySem.Str.ofString "/claim/cut.py") 2338] }
noncomputable def ob163 (P : Params) : Obj := { cls := PySem.Value.type "function", data := Data.func { name := fnName 18, qualname := fnName 18, params := fnParams 18, body := FuncBody.stmts (fnBody 18), scope := fnScope 18, globals := 3, closure := [], defaults := PySem.Value.none, kwdefaults := PySem.Value.none, pyModule := PySem.Value.str (PySem.Str.ofString "law_kl0253_01") 2332, code := PySem.Value.ref 162 } }
noncomputable def ob164 (P : Params) : Obj := { cls := PySem.Value.type "tuple", data := PySem.Data.seq #[] }
noncomputable def ob165 (P : Params) : Obj := { cls := PySem.Value.none, data := PySem.Data.fields #[] }
noncomputable def ob166 (P : Params) : Obj := { cls := PySem.Value.type "tuple", data := PySem.Data.seq #[PySem.Value.str (PySem.Str.ofString "names") 2343, PySem.Value.str (PySem.Str.ofString "came") 2344, PySem.Value.str (PySem.Str.ofString "lasts") 2345, PySem.Value.str (PySem.Str.ofString "told") 2346, PySem.Value.str (PySem.Str.ofString "place") 2347, PySem.Value.str (PySem.Str.ofString "name") 2348, PySem.Value.str (PySem.Str.ofString "at") 2349] }
noncomputable def ob167 (P : Params) : Obj := { cls := PySem.Value.type "tuple", data := PySem.Data.seq #[] }
noncomputable def ob168 (P : Params) : Obj := { cls := PySem.Value.none, data := Data.func { name := fnName 19, qualname := fnName 19, params := fnParams 19, body := FuncBody.stmts (fnBody 19), scope := fnScope 19, globals := 0, closure := [], defaults := PySem.Value.none, kwdefaults := PySem.Value.none, pyModule := PySem.Value.none, code := PySem.Value.none } }
noncomputable def ob169 (P : Params) : Obj := { cls := PySem.Value.type "code", data := PySem.Data.fields #[PySem.Value.str (PySem.Str.ofString "_law_back") 2340, PySem.Value.str (PySem.Str.ofString "_law_back") 2341, PySem.Value.str (PySem.Str.ofString "/claim/cut.py") 2342, PySem.Value.int 105 0, PySem.Value.int 1 0, PySem.Value.int 0 0, PySem.Value.int 0 0, PySem.Value.int 3 0, PySem.Value.ref 164, PySem.Value.bool Bool.true, PySem.Value.int 181 0, PySem.Value.ref 165, PySem.Value.none, PySem.Value.ref 166, PySem.Value.ref 167, PySem.Value.ref 168, PySem.Value.int 2350 0, PySem.Value.int 105 0, PySem.Value.str (PySem.Str.ofString "/claim/cut.py") 2351] }
noncomputable def ob170 (P : Params) : Obj := { cls := PySem.Value.type "function", data := Data.func { name := fnName 19, qualname := fnName 19, params := fnParams 19, body := FuncBody.stmts (fnBody 19), scope := fnScope 19, globals := 3, closure := [], defaults := PySem.Value.none, kwdefaults := PySem.Value.none, pyModule := PySem.Value.str (PySem.Str.ofString "law_kl0253_01") 2332, code := PySem.Value.ref 169 } }
noncomputable def ob171 (P : Params) : Obj := { cls := PySem.Value.type "tuple", data := PySem.Data.seq #[] }
noncomputable def ob172 (P : Params) : Obj := { cls := PySem.Value.none, data := PySem.Data.fields #[] }
noncomputable def ob173 (P : Params) : Obj := { cls := PySem.Value.none, data := Data.func { name := fnName 20, qualname := fnName 20, params := fnParams 20, body := FuncBody.stmts (fnBody 20), scope := fnScope 20, globals := 0, closure := [], defaults := PySem.Value.none, kwdefaults := PySem.Value.none, pyModule := PySem.Value.none, code := PySem.Value.none } }
noncomputable def ob174 (P : Params) : Obj := { cls := PySem.Value.type "code", data := PySem.Data.fields #[PySem.Value.str (PySem.Str.ofString "_law_ahead") 2353, PySem.Value.str (PySem.Str.ofString "_law_ahead") 2354, PySem.Value.str (PySem.Str.ofString "/claim/cut.py") 2355, PySem.Value.int 120 0, PySem.Value.int 1 0, PySem.Value.int 0 0, PySem.Value.int 0 0, PySem.Value.int 3 0, PySem.Value.ref 171, PySem.Value.bool Bool.true, PySem.Value.int 181 0, PySem.Value.ref 172, PySem.Value.none, PySem.Value.none, PySem.Value.none, PySem.Value.ref 173, PySem.Value.int 2356 0, PySem.Value.int 120 0, PySem.Value.str (PySem.Str.ofString "/claim/cut.py") 2357] }
noncomputable def ob175 (P : Params) : Obj := { cls := PySem.Value.type "function", data := Data.func { name := fnName 20, qualname := fnName 20, params := fnParams 20, body := FuncBody.stmts (fnBody 20), scope := fnScope 20, globals := 3, closure := [], defaults := PySem.Value.none, kwdefaults := PySem.Value.none, pyModule := PySem.Value.str (PySem.Str.ofString "law_kl0253_01") 2332, code := PySem.Value.ref 174 } }
noncomputable def ob176 (P : Params) : Obj := { cls := PySem.Value.type "tuple", data := PySem.Data.seq #[] }
noncomputable def ob177 (P : Params) : Obj := { cls := PySem.Value.none, data := PySem.Data.fields #[] }
noncomputable def ob178 (P : Params) : Obj := { cls := PySem.Value.none, data := Data.func { name := fnName 21, qualname := fnName 21, params := fnParams 21, body := FuncBody.stmts (fnBody 21), scope := fnScope 21, globals := 0, closure := [], defaults := PySem.Value.none, kwdefaults := PySem.Value.none, pyModule := PySem.Value.none, code := PySem.Value.none } }
noncomputable def ob179 (P : Params) : Obj := { cls := PySem.Value.type "code", data := PySem.Data.fields #[PySem.Value.str (PySem.Str.ofString "_law_fetches") 2359, PySem.Value.str (PySem.Str.ofString "_law_fetches") 2360, PySem.Value.str (PySem.Str.ofString "/claim/cut.py") 2361, PySem.Value.int 140 0, PySem.Value.int 2 0, PySem.Value.int 0 0, PySem.Value.int 0 0, PySem.Value.int 3 0, PySem.Value.ref 176, PySem.Value.bool Bool.true, PySem.Value.int 181 0, PySem.Value.ref 177, PySem.Value.none, PySem.Value.none, PySem.Value.none, PySem.Value.ref 178, PySem.Value.int 2362 0, PySem.Value.int 140 0, PySem.Value.str (PySem.Str.ofString "/claim/cut.py") 2363] }
noncomputable def ob180 (P : Params) : Obj := { cls := PySem.Value.type "function", data := Data.func { name := fnName 21, qualname := fnName 21, params := fnParams 21, body := FuncBody.stmts (fnBody 21), scope := fnScope 21, globals := 3, closure := [], defaults := PySem.Value.none, kwdefaults := PySem.Value.none, pyModule := PySem.Value.str (PySem.Str.ofString "law_kl0253_01") 2332, code := PySem.Value.ref 179 } }
noncomputable def ob181 (P : Params) : Obj := { cls := PySem.Value.type "tuple", data := PySem.Data.seq #[] }
noncomputable def ob182 (P : Params) : Obj := { cls := PySem.Value.none, data := PySem.Data.fields #[] }
noncomputable def ob183 (P : Params) : Obj := { cls := PySem.Value.none, data := Data.func { name := fnName 22, qualname := fnName 22, params := fnParams 22, body := FuncBody.stmts (fnBody 22), scope := fnScope 22, globals := 0, closure := [], defaults := PySem.Value.none, kwdefaults := PySem.Value.none, pyModule := PySem.Value.none, code := PySem.Value.none } }
noncomputable def ob184 (P : Params) : Obj := { cls := PySem.Value.type "code", data := PySem.Data.fields #[PySem.Value.str (PySem.Str.ofString "_law_least") 2365, PySem.Value.str (PySem.Str.ofString "_law_least") 2366, PySem.Value.str (PySem.Str.ofString "/claim/cut.py") 2367, PySem.Value.int 146 0, PySem.Value.int 2 0, PySem.Value.int 0 0, PySem.Value.int 0 0, PySem.Value.int 3 0, PySem.Value.ref 181, PySem.Value.bool Bool.true, PySem.Value.int 181 0, PySem.Value.ref 182, PySem.Value.none, PySem.Value.none, PySem.Value.none, PySem.Value.ref 183, PySem.Value.int 2368 0, PySem.Value.int 146 0, PySem.Value.str (PySem.Str.ofString "/claim/cut.py") 2369] }
noncomputable def ob185 (P : Params) : Obj := { cls := PySem.Value.type "function", data := Data.func { name := fnName 22, qualname := fnName 22, params := fnParams 22, body := FuncBody.stmts (fnBody 22), scope := fnScope 22, globals := 3, closure := [], defaults := PySem.Value.none, kwdefaults := PySem.Value.none, pyModule := PySem.Value.str (PySem.Str.ofString "law_kl0253_01") 2332, code := PySem.Value.ref 184 } }
noncomputable def ob186 (P : Params) : Obj := { cls := PySem.Value.type "tuple", data := PySem.Data.seq #[] }
noncomputable def ob187 (P : Params) : Obj := { cls := PySem.Value.none, data := PySem.Data.fields #[] }
noncomputable def ob188 (P : Params) : Obj := { cls := PySem.Value.none, data := Data.func { name := fnName 23, qualname := fnName 23, params := fnParams 23, body := FuncBody.stmts (fnBody 23), scope := fnScope 23, globals := 0, closure := [], defaults := PySem.Value.none, kwdefaults := PySem.Value.none, pyModule := PySem.Value.none, code := PySem.Value.none } }
noncomputable def ob189 (P : Params) : Obj := { cls := PySem.Value.type "code", data := PySem.Data.fields #[PySem.Value.str (PySem.Str.ofString "_law_octets") 2371, PySem.Value.str (PySem.Str.ofString "_law_octets") 2372, PySem.Value.str (PySem.Str.ofString "/claim/cut.py") 2373, PySem.Value.int 159 0, PySem.Value.int 2 0, PySem.Value.int 0 0, PySem.Value.int 0 0, PySem.Value.int 3 0, PySem.Value.ref 186, PySem.Value.bool Bool.true, PySem.Value.int 181 0, PySem.Value.ref 187, PySem.Value.none, PySem.Value.none, PySem.Value.none, PySem.Value.ref 188, PySem.Value.int 2374 0, PySem.Value.int 159 0, PySem.Value.str (PySem.Str.ofString "/claim/cut.py") 2375] }
noncomputable def ob190 (P : Params) : Obj := { cls := PySem.Value.type "function", data := Data.func { name := fnName 23, qualname := fnName 23, params := fnParams 23, body := FuncBody.stmts (fnBody 23), scope := fnScope 23, globals := 3, closure := [], defaults := PySem.Value.none, kwdefaults := PySem.Value.none, pyModule := PySem.Value.str (PySem.Str.ofString "law_kl0253_01") 2332, code := PySem.Value.ref 189 } }
noncomputable def ob191 (P : Params) : Obj := { cls := PySem.Value.type "tuple", data := PySem.Data.seq #[] }
noncomputable def ob192 (P : Params) : Obj := { cls := PySem.Value.none, data := PySem.Data.fields #[] }
noncomputable def ob193 (P : Params) : Obj := { cls := PySem.Value.none, data := Data.func { name := fnName 24, qualname := fnName 24, params := fnParams 24, body := FuncBody.stmts (fnBody 24), scope := fnScope 24, globals := 0, closure := [], defaults := PySem.Value.none, kwdefaults := PySem.Value.none, pyModule := PySem.Value.none, code := PySem.Value.none } }
noncomputable def ob194 (P : Params) : Obj := { cls := PySem.Value.type "code", data := PySem.Data.fields #[PySem.Value.str (PySem.Str.ofString "_law_read") 2377, PySem.Value.str (PySem.Str.ofString "_law_read") 2378, PySem.Value.str (PySem.Str.ofString "/claim/cut.py") 2379, PySem.Value.int 162 0, PySem.Value.int 1 0, PySem.Value.int 0 0, PySem.Value.int 0 0, PySem.Value.int 3 0, PySem.Value.ref 191, PySem.Value.bool Bool.true, PySem.Value.int 181 0, PySem.Value.ref 192, PySem.Value.none, PySem.Value.none, PySem.Value.none, PySem.Value.ref 193, PySem.Value.int 2380 0, PySem.Value.int 162 0, PySem.Value.str (PySem.Str.ofString "/claim/cut.py") 2381] }
noncomputable def ob195 (P : Params) : Obj := { cls := PySem.Value.type "function", data := Data.func { name := fnName 24, qualname := fnName 24, params := fnParams 24, body := FuncBody.stmts (fnBody 24), scope := fnScope 24, globals := 3, closure := [], defaults := PySem.Value.none, kwdefaults := PySem.Value.none, pyModule := PySem.Value.str (PySem.Str.ofString "law_kl0253_01") 2332, code := PySem.Value.ref 194 } }
noncomputable def ob196 (P : Params) : Obj := { cls := PySem.Value.type "tuple", data := PySem.Data.seq #[] }
noncomputable def ob197 (P : Params) : Obj := { cls := PySem.Value.none, data := PySem.Data.fields #[] }
noncomputable def ob198 (P : Params) : Obj := { cls := PySem.Value.none, data := Data.func { name := fnName 25, qualname := fnName 25, params := fnParams 25, body := FuncBody.stmts (fnBody 25), scope := fnScope 25, globals := 0, closure := [], defaults := PySem.Value.none, kwdefaults := PySem.Value.none, pyModule := PySem.Value.none, code := PySem.Value.none } }
noncomputable def ob199 (P : Params) : Obj := { cls := PySem.Value.type "code", data := PySem.Data.fields #[PySem.Value.str (PySem.Str.ofString "law") 2383, PySem.Value.str (PySem.Str.ofString "law") 2384, PySem.Value.str (PySem.Str.ofString "/claim/cut.py") 2385, PySem.Value.int 175 0, PySem.Value.int 1 0, PySem.Value.int 0 0, PySem.Value.int 0 0, PySem.Value.int 3 0, PySem.Value.ref 196, PySem.Value.bool Bool.true, PySem.Value.int 181 0, PySem.Value.ref 197, PySem.Value.none, PySem.Value.none, PySem.Value.none, PySem.Value.ref 198, PySem.Value.int 2386 0, PySem.Value.int 175 0, PySem.Value.str (PySem.Str.ofString "/claim/cut.py") 2387] }
noncomputable def ob200 (P : Params) : Obj := { cls := PySem.Value.type "function", data := Data.func { name := fnName 25, qualname := fnName 25, params := fnParams 25, body := FuncBody.stmts (fnBody 25), scope := fnScope 25, globals := 3, closure := [], defaults := PySem.Value.none, kwdefaults := PySem.Value.none, pyModule := PySem.Value.str (PySem.Str.ofString "law_kl0253_01") 2332, code := PySem.Value.ref 199 } }
noncomputable def treeQ (P : Params) : BT := (.node (boot_o_0 P) (.node (boot_o_1 P) (.node (boot_o_3 P) (.node (boot_o_7 P) .nil .nil) (.node (ob11 P) .nil .nil)) (.node (boot_o_5 P) (.node (boot_o_9 P) .nil .nil) (.node (ob13 P) .nil .nil))) (.node (boot_o_2 P) (.node (boot_o_4 P) (.node (boot_o_8 P) .nil .nil) (.node (ob12 P) .nil .nil)) (.node (boot_o_6 P) (.node (boot_o_10 P) .nil .nil) (.node (ob14 P) .nil .nil))))
-- Q: 15 objects, toks 187
noncomputable def treeA (P : Params) : BT := (.node (boot_o_0 P) (.node (boot_o_1 P) (.node (ob3A P) (.node (boot_o_7 P) (.node (ob15 P) (.node (ob31 P) (.node (ob63 P) .nil .nil) .nil) (.node (ob47 P) (.node (ob79 P) .nil .nil) .nil)) (.node (ob23 P) (.node (ob39 P) (.node (ob71 P) .nil .nil) .nil) (.node (ob55 P) (.node (ob87 P) .nil .nil) .nil))) (.node (ob11 P) (.node (ob19 P) (.node (ob35 P) (.node (ob67 P) .nil .nil) .nil) (.node (ob51 P) (.node (ob83 P) .nil .nil) .nil)) (.node (ob27 P) (.node (ob43 P) (.node (ob75 P) .nil .nil) .nil) (.node (ob59 P) (.node (ob91 P) .nil .nil) .nil)))) (.node (boot_o_5 P) (.node (boot_o_9 P) (.node (ob17 P) (.node (ob33 P) (.node (ob65 P) .nil .nil) .nil) (.node (ob49 P) (.node (ob81 P) .nil .nil) .nil)) (.node (ob25 P) (.node (ob41 P) (.node (ob73 P) .nil .nil) .nil) (.node (ob57 P) (.node (ob89 P) .nil .nil) .nil))) (.node (ob13 P) (.node (ob21 P) (.node (ob37 P) (.node (ob69 P) .nil .nil) .nil) (.node (ob53 P) (.node (ob85 P) .nil .nil) .nil)) (.node (ob29 P) (.node (ob45 P) (.node (ob77 P) .nil .nil) .nil) (.node (ob61 P) (.node (ob93 P) .nil .nil) .nil))))) (.node (boot_o_2 P) (.node (boot_o_4 P) (.node (boot_o_8 P) (.node (ob16 P) (.node (ob32 P) (.node (ob64 P) .nil .nil) .nil) (.node (ob48 P) (.node (ob80 P) .nil .nil) .nil)) (.node (ob24 P) (.node (ob40 P) (.node (ob72 P) .nil .nil) .nil) (.node (ob56 P) (.node (ob88 P) .nil .nil) .nil))) (.node (ob12A P) (.node (ob20 P) (.node (ob36 P) (.node (ob68 P) .nil .nil) .nil) (.node (ob52 P) (.node (ob84 P) .nil .nil) .nil)) (.node (ob28 P) (.node (ob44 P) (.node (ob76 P) .nil .nil) .nil) (.node (ob60 P) (.node (ob92 P) .nil .nil) .nil)))) (.node (boot_o_6 P) (.node (boot_o_10 P) (.node (ob18 P) (.node (ob34 P) (.node (ob66 P) .nil .nil) .nil) (.node (ob50 P) (.node (ob82 P) .nil .nil) .nil)) (.node (ob26 P) (.node (ob42 P) (.node (ob74 P) .nil .nil) .nil) (.node (ob58 P) (.node (ob90 P) .nil .nil) .nil))) (.node (ob14 P) (.node (ob22 P) (.node (ob38 P) (.node (ob70 P) .nil .nil) .nil) (.node (ob54 P) (.node (ob86 P) .nil .nil) .nil)) (.node (ob30 P) (.node (ob46 P) (.node (ob78 P) .nil .nil) .nil) (.node (ob62 P) (.node (ob94 P) .nil .nil) .nil))))))
-- A: 95 objects, toks 306
noncomputable def treeB (P : Params) : BT := (.node (boot_o_0 P) (.node (boot_o_1 P) (.node (ob3B P) (.node (boot_o_7 P) (.node (ob15 P) (.node (ob31 P) (.node (ob63 P) .nil .nil) (.node (ob95 P) .nil .nil)) (.node (ob47 P) (.node (ob79 P) .nil .nil) .nil)) (.node (ob23 P) (.node (ob39 P) (.node (ob71 P) .nil .nil) (.node (ob103 P) .nil .nil)) (.node (ob55 P) (.node (ob87 P) .nil .nil) .nil))) (.node (ob11 P) (.node (ob19 P) (.node (ob35 P) (.node (ob67 P) .nil .nil) (.node (ob99 P) .nil .nil)) (.node (ob51 P) (.node (ob83 P) .nil .nil) .nil)) (.node (ob27 P) (.node (ob43 P) (.node (ob75 P) .nil .nil) .nil) (.node (ob59 P) (.node (ob91 P) .nil .nil) .nil)))) (.node (boot_o_5 P) (.node (boot_o_9 P) (.node (ob17 P) (.node (ob33 P) (.node (ob65 P) .nil .nil) (.node (ob97 P) .nil .nil)) (.node (ob49 P) (.node (ob81 P) .nil .nil) .nil)) (.node (ob25 P) (.node (ob41 P) (.node (ob73 P) .nil .nil) (.node (ob105 P) .nil .nil)) (.node (ob57 P) (.node (ob89 P) .nil .nil) .nil))) (.node (ob13 P) (.node (ob21 P) (.node (ob37 P) (.node (ob69 P) .nil .nil) (.node (ob101 P) .nil .nil)) (.node (ob53 P) (.node (ob85 P) .nil .nil) .nil)) (.node (ob29 P) (.node (ob45 P) (.node (ob77 P) .nil .nil) .nil) (.node (ob61 P) (.node (ob93 P) .nil .nil) .nil))))) (.node (boot_o_2 P) (.node (boot_o_4 P) (.node (boot_o_8 P) (.node (ob16 P) (.node (ob32 P) (.node (ob64 P) .nil .nil) (.node (ob96 P) .nil .nil)) (.node (ob48 P) (.node (ob80 P) .nil .nil) .nil)) (.node (ob24 P) (.node (ob40 P) (.node (ob72 P) .nil .nil) (.node (ob104 P) .nil .nil)) (.node (ob56 P) (.node (ob88 P) .nil .nil) .nil))) (.node (ob12A P) (.node (ob20 P) (.node (ob36 P) (.node (ob68 P) .nil .nil) (.node (ob100 P) .nil .nil)) (.node (ob52 P) (.node (ob84 P) .nil .nil) .nil)) (.node (ob28 P) (.node (ob44 P) (.node (ob76 P) .nil .nil) .nil) (.node (ob60 P) (.node (ob92 P) .nil .nil) .nil)))) (.node (boot_o_6 P) (.node (boot_o_10 P) (.node (ob18 P) (.node (ob34 P) (.node (ob66 P) .nil .nil) (.node (ob98 P) .nil .nil)) (.node (ob50 P) (.node (ob82 P) .nil .nil) .nil)) (.node (ob26 P) (.node (ob42 P) (.node (ob74 P) .nil .nil) .nil) (.node (ob58 P) (.node (ob90 P) .nil .nil) .nil))) (.node (ob14 P) (.node (ob22 P) (.node (ob38 P) (.node (ob70 P) .nil .nil) (.node (setO P) .nil .nil)) (.node (ob54 P) (.node (ob86 P) .nil .nil) .nil)) (.node (ob30 P) (.node (ob46 P) (.node (ob78 P) .nil .nil) .nil) (.node (ob62 P) (.node (ob94 P) .nil .nil) .nil))))))
-- B: 106 objects, toks 366
noncomputable def treeC (P : Params) : BT := (.node (boot_o_0 P) (.node (boot_o_1 P) (.node (ob3C P) (.node (boot_o_7 P) (.node (ob15 P) (.node (ob31 P) (.node (ob63 P) .nil .nil) (.node (ob95 P) .nil .nil)) (.node (ob47 P) (.node (ob79 P) .nil .nil) (.node (ob111 P) .nil .nil))) (.node (ob23 P) (.node (ob39 P) (.node (ob71 P) .nil .nil) (.node (ob103 P) .nil .nil)) (.node (ob55 P) (.node (ob87 P) .nil .nil) .nil))) (.node (ob11 P) (.node (ob19 P) (.node (ob35 P) (.node (ob67 P) .nil .nil) (.node (ob99 P) .nil .nil)) (.node (ob51 P) (.node (ob83 P) .nil .nil) .nil)) (.node (ob27 P) (.node (ob43 P) (.node (ob75 P) .nil .nil) (.node (ob107 P) .nil .nil)) (.node (ob59 P) (.node (ob91 P) .nil .nil) .nil)))) (.node (boot_o_5 P) (.node (boot_o_9 P) (.node (ob17 P) (.node (ob33 P) (.node (ob65 P) .nil .nil) (.node (ob97 P) .nil .nil)) (.node (ob49 P) (.node (ob81 P) .nil .nil) .nil)) (.node (ob25 P) (.node (ob41 P) (.node (ob73 P) .nil .nil) (.node (ob105 P) .nil .nil)) (.node (ob57 P) (.node (ob89 P) .nil .nil) .nil))) (.node (ob13 P) (.node (ob21 P) (.node (ob37 P) (.node (ob69 P) .nil .nil) (.node (ob101 P) .nil .nil)) (.node (ob53 P) (.node (ob85 P) .nil .nil) .nil)) (.node (ob29 P) (.node (ob45 P) (.node (ob77 P) .nil .nil) (.node (ob109 P) .nil .nil)) (.node (ob61 P) (.node (ob93 P) .nil .nil) .nil))))) (.node (boot_o_2 P) (.node (boot_o_4 P) (.node (boot_o_8 P) (.node (ob16 P) (.node (ob32 P) (.node (ob64 P) .nil .nil) (.node (ob96 P) .nil .nil)) (.node (ob48 P) (.node (ob80 P) .nil .nil) (.node (ob112 P) .nil .nil))) (.node (ob24 P) (.node (ob40 P) (.node (ob72 P) .nil .nil) (.node (ob104 P) .nil .nil)) (.node (ob56 P) (.node (ob88 P) .nil .nil) .nil))) (.node (ob12C P) (.node (ob20 P) (.node (ob36 P) (.node (ob68 P) .nil .nil) (.node (ob100 P) .nil .nil)) (.node (ob52 P) (.node (ob84 P) .nil .nil) .nil)) (.node (ob28 P) (.node (ob44 P) (.node (ob76 P) .nil .nil) (.node (ob108 P) .nil .nil)) (.node (ob60 P) (.node (ob92 P) .nil .nil) .nil)))) (.node (boot_o_6 P) (.node (boot_o_10 P) (.node (ob18 P) (.node (ob34 P) (.node (ob66 P) .nil .nil) (.node (ob98 P) .nil .nil)) (.node (ob50 P) (.node (ob82 P) .nil .nil) .nil)) (.node (ob26 P) (.node (ob42 P) (.node (ob74 P) .nil .nil) (.node (ob106 P) .nil .nil)) (.node (ob58 P) (.node (ob90 P) .nil .nil) .nil))) (.node (ob14 P) (.node (ob22 P) (.node (ob38 P) (.node (ob70 P) .nil .nil) (.node (setO P) .nil .nil)) (.node (ob54 P) (.node (ob86 P) .nil .nil) .nil)) (.node (ob30 P) (.node (ob46 P) (.node (ob78 P) .nil .nil) (.node (ob110 P) .nil .nil)) (.node (ob62 P) (.node (ob94 P) .nil .nil) .nil))))))
-- C: 113 objects, toks 373
noncomputable def treeD (P : Params) : BT := (.node (boot_o_0 P) (.node (boot_o_1 P) (.node (ob3D P) (.node (boot_o_7 P) (.node (ob15 P) (.node (ob31 P) (.node (ob63 P) (.node (subD 14 P) .nil .nil) .nil) (.node (ob95 P) .nil .nil)) (.node (ob47 P) (.node (ob79 P) (.node (subD 30 P) .nil .nil) .nil) (.node (ob111 P) .nil .nil))) (.node (ob23 P) (.node (ob39 P) (.node (ob71 P) (.node (subD 22 P) .nil .nil) .nil) (.node (ob103 P) .nil .nil)) (.node (ob55 P) (.node (ob87 P) (.node (subD 38 P) .nil .nil) .nil) (.node (subD 6 P) .nil .nil)))) (.node (ob11 P) (.node (ob19 P) (.node (ob35 P) (.node (ob67 P) (.node (subD 18 P) .nil .nil) .nil) (.node (ob99 P) .nil .nil)) (.node (ob51 P) (.node (ob83 P) (.node (subD 34 P) .nil .nil) .nil) (.node (subD 2 P) .nil .nil))) (.node (ob27 P) (.node (ob43 P) (.node (ob75 P) (.node (subD 26 P) .nil .nil) .nil) (.node (ob107 P) .nil .nil)) (.node (ob59 P) (.node (ob91 P) .nil .nil) (.node (subD 10 P) .nil .nil))))) (.node (boot_o_5 P) (.node (boot_o_9 P) (.node (ob17 P) (.node (ob33 P) (.node (ob65 P) (.node (subD 16 P) .nil .nil) .nil) (.node (ob97 P) .nil .nil)) (.node (ob49 P) (.node (ob81 P) (.node (subD 32 P) .nil .nil) .nil) (.node (bigD 650 P) .nil .nil))) (.node (ob25 P) (.node (ob41 P) (.node (ob73 P) (.node (subD 24 P) .nil .nil) .nil) (.node (ob105 P) .nil .nil)) (.node (ob57 P) (.node (ob89 P) .nil .nil) (.node (subD 8 P) .nil .nil)))) (.node (ob13 P) (.node (ob21 P) (.node (ob37 P) (.node (ob69 P) (.node (subD 20 P) .nil .nil) .nil) (.node (ob101 P) .nil .nil)) (.node (ob53 P) (.node (ob85 P) (.node (subD 36 P) .nil .nil) .nil) (.node (subD 4 P) .nil .nil))) (.node (ob29 P) (.node (ob45 P) (.node (ob77 P) (.node (subD 28 P) .nil .nil) .nil) (.node (ob109 P) .nil .nil)) (.node (ob61 P) (.node (ob93 P) .nil .nil) (.node (subD 12 P) .nil .nil)))))) (.node (boot_o_2 P) (.node (boot_o_4 P) (.node (boot_o_8 P) (.node (ob16 P) (.node (ob32 P) (.node (ob64 P) (.node (subD 15 P) .nil .nil) .nil) (.node (ob96 P) .nil .nil)) (.node (ob48 P) (.node (ob80 P) (.node (subD 31 P) .nil .nil) .nil) (.node (ob112 P) .nil .nil))) (.node (ob24 P) (.node (ob40 P) (.node (ob72 P) (.node (subD 23 P) .nil .nil) .nil) (.node (ob104 P) .nil .nil)) (.node (ob56 P) (.node (ob88 P) .nil .nil) (.node (subD 7 P) .nil .nil)))) (.node (ob12C P) (.node (ob20 P) (.node (ob36 P) (.node (ob68 P) (.node (subD 19 P) .nil .nil) .nil) (.node (ob100 P) .nil .nil)) (.node (ob52 P) (.node (ob84 P) (.node (subD 35 P) .nil .nil) .nil) (.node (subD 3 P) .nil .nil))) (.node (ob28 P) (.node (ob44 P) (.node (ob76 P) (.node (subD 27 P) .nil .nil) .nil) (.node (ob108 P) .nil .nil)) (.node (ob60 P) (.node (ob92 P) .nil .nil) (.node (subD 11 P) .nil .nil))))) (.node (boot_o_6 P) (.node (boot_o_10 P) (.node (ob18 P) (.node (ob34 P) (.node (ob66 P) (.node (subD 17 P) .nil .nil) .nil) (.node (ob98 P) .nil .nil)) (.node (ob50 P) (.node (ob82 P) (.node (subD 33 P) .nil .nil) .nil) (.node (subD 1 P) .nil .nil))) (.node (ob26 P) (.node (ob42 P) (.node (ob74 P) (.node (subD 25 P) .nil .nil) .nil) (.node (ob106 P) .nil .nil)) (.node (ob58 P) (.node (ob90 P) .nil .nil) (.node (subD 9 P) .nil .nil)))) (.node (ob14 P) (.node (ob22 P) (.node (ob38 P) (.node (ob70 P) (.node (subD 21 P) .nil .nil) .nil) (.node (setO P) .nil .nil)) (.node (ob54 P) (.node (ob86 P) (.node (subD 37 P) .nil .nil) .nil) (.node (subD 5 P) .nil .nil))) (.node (ob30 P) (.node (ob46 P) (.node (ob78 P) (.node (subD 29 P) .nil .nil) .nil) (.node (ob110 P) .nil .nil)) (.node (ob62 P) (.node (ob94 P) .nil .nil) (.node (subD 13 P) .nil .nil)))))))
-- D: 152 objects, toks 2324
noncomputable def treeF (P : Params) : BT := (.node (boot_o_0 P) (.node (boot_o_1 P) (.node (ob3F P) (.node (boot_o_7 P) (.node (ob15 P) (.node (ob31 P) (.node (ob63 P) (.node (subD 14 P) .nil .nil) (.node (ob191 P) .nil .nil)) (.node (ob95 P) (.node (ob159 P) .nil .nil) .nil)) (.node (ob47 P) (.node (ob79 P) (.node (subD 30 P) .nil .nil) .nil) (.node (ob111 P) (.node (ob175 P) .nil .nil) .nil))) (.node (ob23 P) (.node (ob39 P) (.node (ob71 P) (.node (subD 22 P) .nil .nil) (.node (ob199 P) .nil .nil)) (.node (ob103 P) (.node (ob167 P) .nil .nil) .nil)) (.node (ob55 P) (.node (ob87 P) (.node (subD 38 P) .nil .nil) .nil) (.node (subD 6 P) (.node (ob183 P) .nil .nil) .nil)))) (.node (ob11 P) (.node (ob19 P) (.node (ob35 P) (.node (ob67 P) (.node (subD 18 P) .nil .nil) (.node (ob195 P) .nil .nil)) (.node (ob99 P) (.node (ob163 P) .nil .nil) .nil)) (.node (ob51 P) (.node (ob83 P) (.node (subD 34 P) .nil .nil) .nil) (.node (subD 2 P) (.node (ob179 P) .nil .nil) .nil))) (.node (ob27 P) (.node (ob43 P) (.node (ob75 P) (.node (subD 26 P) .nil .nil) .nil) (.node (ob107 P) (.node (ob171 P) .nil .nil) .nil)) (.node (ob59 P) (.node (ob91 P) (.node (ob155 P) .nil .nil) .nil) (.node (subD 10 P) (.node (ob187 P) .nil .nil) .nil))))) (.node (boot_o_5 P) (.node (boot_o_9 P) (.node (ob17 P) (.node (ob33 P) (.node (ob65 P) (.node (subD 16 P) .nil .nil) (.node (ob193 P) .nil .nil)) (.node (ob97 P) (.node (ob161 P) .nil .nil) .nil)) (.node (ob49 P) (.node (ob81 P) (.node (subD 32 P) .nil .nil) .nil) (.node (bigD 650 P) (.node (ob177 P) .nil .nil) .nil))) (.node (ob25 P) (.node (ob41 P) (.node (ob73 P) (.node (subD 24 P) .nil .nil) .nil) (.node (ob105 P) (.node (ob169 P) .nil .nil) .nil)) (.node (ob57 P) (.node (ob89 P) (.node (ob153 P) .nil .nil) .nil) (.node (subD 8 P) (.node (ob185 P) .nil .nil) .nil)))) (.node (ob13 P) (.node (ob21 P) (.node (ob37 P) (.node (ob69 P) (.node (subD 20 P) .nil .nil) (.node (ob197 P) .nil .nil)) (.node (ob101 P) (.node (ob165 P) .nil .nil) .nil)) (.node (ob53 P) (.node (ob85 P) (.node (subD 36 P) .nil .nil) .nil) (.node (subD 4 P) (.node (ob181 P) .nil .nil) .nil))) (.node (ob29 P) (.node (ob45 P) (.node (ob77 P) (.node (subD 28 P) .nil .nil) .nil) (.node (ob109 P) (.node (ob173 P) .nil .nil) .nil)) (.node (ob61 P) (.node (ob93 P) (.node (ob157 P) .nil .nil) .nil) (.node (subD 12 P) (.node (ob189 P) .nil .nil) .nil)))))) (.node (boot_o_2 P) (.node (boot_o_4 P) (.node (boot_o_8 P) (.node (ob16 P) (.node (ob32 P) (.node (ob64 P) (.node (subD 15 P) .nil .nil) (.node (ob192 P) .nil .nil)) (.node (ob96 P) (.node (ob160 P) .nil .nil) .nil)) (.node (ob48 P) (.node (ob80 P) (.node (subD 31 P) .nil .nil) .nil) (.node (ob112 P) (.node (ob176 P) .nil .nil) .nil))) (.node (ob24 P) (.node (ob40 P) (.node (ob72 P) (.node (subD 23 P) .nil .nil) (.node (ob200 P) .nil .nil)) (.node (ob104 P) (.node (ob168 P) .nil .nil) .nil)) (.node (ob56 P) (.node (ob88 P) (.node (ob152 P) .nil .nil) .nil) (.node (subD 7 P) (.node (ob184 P) .nil .nil) .nil)))) (.node (ob12F P) (.node (ob20 P) (.node (ob36 P) (.node (ob68 P) (.node (subD 19 P) .nil .nil) (.node (ob196 P) .nil .nil)) (.node (ob100 P) (.node (ob164 P) .nil .nil) .nil)) (.node (ob52 P) (.node (ob84 P) (.node (subD 35 P) .nil .nil) .nil) (.node (subD 3 P) (.node (ob180 P) .nil .nil) .nil))) (.node (ob28 P) (.node (ob44 P) (.node (ob76 P) (.node (subD 27 P) .nil .nil) .nil) (.node (ob108 P) (.node (ob172 P) .nil .nil) .nil)) (.node (ob60 P) (.node (ob92 P) (.node (ob156 P) .nil .nil) .nil) (.node (subD 11 P) (.node (ob188 P) .nil .nil) .nil))))) (.node (boot_o_6 P) (.node (boot_o_10 P) (.node (ob18 P) (.node (ob34 P) (.node (ob66 P) (.node (subD 17 P) .nil .nil) (.node (ob194 P) .nil .nil)) (.node (ob98 P) (.node (ob162 P) .nil .nil) .nil)) (.node (ob50 P) (.node (ob82 P) (.node (subD 33 P) .nil .nil) .nil) (.node (subD 1 P) (.node (ob178 P) .nil .nil) .nil))) (.node (ob26 P) (.node (ob42 P) (.node (ob74 P) (.node (subD 25 P) .nil .nil) .nil) (.node (ob106 P) (.node (ob170 P) .nil .nil) .nil)) (.node (ob58 P) (.node (ob90 P) (.node (ob154 P) .nil .nil) .nil) (.node (subD 9 P) (.node (ob186 P) .nil .nil) .nil)))) (.node (ob14 P) (.node (ob22 P) (.node (ob38 P) (.node (ob70 P) (.node (subD 21 P) .nil .nil) (.node (ob198 P) .nil .nil)) (.node (setO P) (.node (ob166 P) .nil .nil) .nil)) (.node (ob54 P) (.node (ob86 P) (.node (subD 37 P) .nil .nil) .nil) (.node (subD 5 P) (.node (ob182 P) .nil .nil) .nil))) (.node (ob30 P) (.node (ob46 P) (.node (ob78 P) (.node (subD 29 P) .nil .nil) .nil) (.node (ob110 P) (.node (ob174 P) .nil .nil) .nil)) (.node (ob62 P) (.node (ob94 P) (.node (ob158 P) .nil .nil) .nil) (.node (subD 13 P) (.node (ob190 P) .nil .nil) .nil)))))))
-- F: 201 objects, toks 2389

noncomputable def pos0 : Pos := ⟨0, 0, 0, 0⟩
noncomputable def envT : Env := { scope := pw.main.scope, locals := mainNs, globals := mainNs, cells := [], code := .ref 13, frame := some 14 }
noncomputable def annT : Option Value := some (.ref 6)
noncomputable def codeT : Code := .body (behindTheImports pw) envT
noncomputable def stT (t : Params → BT) (n toks : Nat) (w : World) (os : OsState) : SharedT := ⟨t w.params, n, {}, #[], {}, toks, os⟩
end BH
namespace BH
open BK
set_option maxRecDepth 100000
set_option maxHeartbeats 0
theorem h_pre (w : World) : (fun os : OsState => topGo treeTable pw w 11 annT 12 ⟨boot_heap w.params, #[], boot_drawn, boot_toks, os⟩ (topStub pw)) = fun os => some ((stT treeQ 15 187 w os).abs, ⟨denote treeTable codeT, codeT, pos0, [topFrame pos0]⟩) := by kernel_rfl
theorem h_block (w : World) : (fun os : OsState => segRun treeTable pw w 11 annT 1 1 (stT treeQ 15 187 w os).abs (blockOf (behindTheImports pw) envT codeT pos0 [topFrame pos0])) = fun os => some (.next, (stT treeQ 15 187 w os).abs, codeT, pos0) := by kernel_rfl
end BH
namespace BH
open BK
set_option maxRecDepth 100000
set_option maxHeartbeats 0
theorem h_A (w : World) : (fun os : OsState => segRunT treeTable pw w 11 annT 1 600 (stT treeQ 15 187 w os) (piecesOf ((behindTheImports pw).take 13) envT codeT pos0 [topFrame pos0])) = fun os => some (.next, stT treeA 95 306 w os, codeT, ⟨87, 0, 87, 8⟩) := by
  rw [Fast.te10110043849684766642, Fast.te14364793385576792824]; kernel_rfl
end BH
namespace BH
open BK
set_option maxRecDepth 100000
set_option maxHeartbeats 0
theorem h_C (w : World) : (fun os : OsState => segRunT treeTable pw w 11 annT 1 30 (stT treeB 106 366 w os) (piecesOf (((behindTheImports pw).drop 14).take 1) envT codeT ⟨88, 0, 88, 6⟩ [topFrame pos0])) = fun os => some (.next, stT treeC 113 373 w os, codeT, ⟨89, 0, 90, 30⟩) := by kernel_rfl
theorem h_F (w : World) : (fun os : OsState => segRunT treeTable pw w 11 annT 1 300 (stT treeD 152 2324 w os) (piecesOf (((behindTheImports pw).drop 16).take 10) envT codeT ⟨91, 0, 91, 13⟩ [topFrame pos0])) = fun os => some (.next, stT treeF 201 2389 w os, codeT, ⟨175, 0, 191, 37⟩) := by kernel_rfl
theorem h_fin (w : World) : (fun os : OsState => topRun treeTable pw w 11 annT 2 (stT treeF 201 2389 w os).abs ⟨doneF .next, codeT, ⟨175, 0, 191, 37⟩, [topFrame pos0]⟩) = fun os => some (stT treeF 201 2389 w os).abs := by kernel_rfl
end BH
namespace BH
open BK
set_option maxRecDepth 100000
set_option maxHeartbeats 0
theorem h_Bff (w : World) : (fun os : OsState => segRunT treeTable pw ((w.withFollow "special-get-raises" false).withFollow "set-order" false) 11 annT 1 999 (stT treeA 95 306 ((w.withFollow "special-get-raises" false).withFollow "set-order" false) os) (piecesOf (((behindTheImports pw).drop 13).take 1) envT codeT ⟨87, 0, 87, 8⟩ [topFrame pos0])) = fun os => some (.next, stT treeB 106 366 ((w.withFollow "special-get-raises" false).withFollow "set-order" false) os, codeT, ⟨88, 0, 88, 6⟩) := by
  rw [Fast.te10110043849684766642, Fast.te14364793385576792824]; kernel_rfl
theorem h_Bft (w : World) : (fun os : OsState => segRunT treeTable pw ((w.withFollow "special-get-raises" true).withFollow "set-order" false) 11 annT 1 999 (stT treeA 95 306 ((w.withFollow "special-get-raises" true).withFollow "set-order" false) os) (piecesOf (((behindTheImports pw).drop 13).take 1) envT codeT ⟨87, 0, 87, 8⟩ [topFrame pos0])) = fun os => some (.next, stT treeB 106 366 ((w.withFollow "special-get-raises" true).withFollow "set-order" false) os, codeT, ⟨88, 0, 88, 6⟩) := by
  rw [Fast.te10110043849684766642, Fast.te14364793385576792824]; kernel_rfl
theorem h_Btf (w : World) : (fun os : OsState => segRunT treeTable pw ((w.withFollow "special-get-raises" false).withFollow "set-order" true) 11 annT 1 999 (stT treeA 95 306 ((w.withFollow "special-get-raises" false).withFollow "set-order" true) os) (piecesOf (((behindTheImports pw).drop 13).take 1) envT codeT ⟨87, 0, 87, 8⟩ [topFrame pos0])) = fun os => some (.next, stT treeB 106 366 ((w.withFollow "special-get-raises" false).withFollow "set-order" true) os, codeT, ⟨88, 0, 88, 6⟩) := by
  rw [Fast.te10110043849684766642, Fast.te14364793385576792824]; kernel_rfl
theorem h_Btt (w : World) : (fun os : OsState => segRunT treeTable pw ((w.withFollow "special-get-raises" true).withFollow "set-order" true) 11 annT 1 999 (stT treeA 95 306 ((w.withFollow "special-get-raises" true).withFollow "set-order" true) os) (piecesOf (((behindTheImports pw).drop 13).take 1) envT codeT ⟨87, 0, 87, 8⟩ [topFrame pos0])) = fun os => some (.next, stT treeB 106 366 ((w.withFollow "special-get-raises" true).withFollow "set-order" true) os, codeT, ⟨88, 0, 88, 6⟩) := by
  rw [Fast.te10110043849684766642, Fast.te14364793385576792824]; kernel_rfl
theorem h_B (w : World) : (fun os : OsState => segRunT treeTable pw (w) 11 annT 1 999 (stT treeA 95 306 (w) os) (piecesOf (((behindTheImports pw).drop 13).take 1) envT codeT ⟨87, 0, 87, 8⟩ [topFrame pos0])) = fun os => some (.next, stT treeB 106 366 (w) os, codeT, ⟨88, 0, 88, 6⟩) := by
  refine byRow2 "set-order" (P := fun w => (fun os : OsState => segRunT treeTable pw (w) 11 annT 1 999 (stT treeA 95 306 (w) os) (piecesOf (((behindTheImports pw).drop 13).take 1) envT codeT ⟨87, 0, 87, 8⟩ [topFrame pos0])) = fun os => some (.next, stT treeB 106 366 (w) os, codeT, ⟨88, 0, 88, 6⟩)) ?_ ?_ w
  · exact byRow2 "special-get-raises" (P := fun w => (fun os : OsState => segRunT treeTable pw (w.withFollow "set-order" false) 11 annT 1 999 (stT treeA 95 306 (w.withFollow "set-order" false) os) (piecesOf (((behindTheImports pw).drop 13).take 1) envT codeT ⟨87, 0, 87, 8⟩ [topFrame pos0])) = fun os => some (.next, stT treeB 106 366 (w.withFollow "set-order" false) os, codeT, ⟨88, 0, 88, 6⟩)) h_Bff h_Bft
  · exact byRow2 "special-get-raises" (P := fun w => (fun os : OsState => segRunT treeTable pw (w.withFollow "set-order" true) 11 annT 1 999 (stT treeA 95 306 (w.withFollow "set-order" true) os) (piecesOf (((behindTheImports pw).drop 13).take 1) envT codeT ⟨87, 0, 87, 8⟩ [topFrame pos0])) = fun os => some (.next, stT treeB 106 366 (w.withFollow "set-order" true) os, codeT, ⟨88, 0, 88, 6⟩)) h_Btf h_Btt
end BH
namespace BH
open BK
set_option maxRecDepth 100000
set_option maxHeartbeats 0
/-! ### steps of the top, rule by rule -/
noncomputable abbrev TR (w : World) (N : Nat) (s : Shared) (cur : Sem Fin) (p : Pos) : Option Shared := topRun treeTable pw w 11 annT N s ⟨cur, codeT, p, [topFrame pos0]⟩
noncomputable def Gx {α : Type} (w : World) (n : Nat) (x : Sem α) (s : Shared) (p : Pos) (a : α) (s' : Shared) (p' : Pos) : Prop :=
  ∀ (K : α → Sem Fin) (H : Value → Sem Fin) (gd : Bool → Bool) (lv : List Value → List Value) (N : Nat) (r : Shared), TR w N s' (K a) p' = some r → TR w (N + n) s (x.wrap K H gd lv) p = some r
section
variable {α β : Type} {w : World} {n m : Nat} {s s' s₁ : Shared} {p p' p₁ : Pos} {a : α} {b : β}
theorem TR_step {cur cur' : Sem Fin} {N : Nat} {r : Option Shared} (h1 : through ⟨cur, codeT, p, [topFrame pos0]⟩ = false) (h2 : stepOk 11 annT ⟨cur, codeT, p, [topFrame pos0]⟩ = true)
    (h3 : step (denote treeTable) pw w s ⟨cur, codeT, p, [topFrame pos0]⟩ = .go s' ⟨cur', codeT, p', [topFrame pos0]⟩) (h : TR w N s' cur' p' = r) : TR w (N + 1) s cur p = r := by
  unfold TR topRun
  rw [h1, h2, h3]
  exact h
theorem Gx.pure : Gx w 0 (Sem.pure a) s p a s p := fun _ _ _ _ _ _ h => h
theorem Gx.ret : Gx w 0 (Pure.pure a : Sem α) s p a s p := fun _ _ _ _ _ _ h => h
theorem Gx.bind {x : Sem α} {f : α → Sem β} (h1 : Gx w n x s p a s₁ p₁) (h2 : Gx w m (f a) s₁ p₁ b s' p') : Gx w (m + n) (x >>= f) s p b s' p' := by
  intro K H gd lv N r h
  show TR w (N + (m + n)) s ((x.bind f).wrap K H gd lv) p = some r
  rw [Sem.bind_eq_wrap, Sem.wrap_wrap, ← Nat.add_assoc]
  exact h1 _ _ _ _ _ _ (h2 K H gd lv N r h)
theorem Gx.keep {x : Sem α} {vs : List Value} (h : Gx w n x s p a s' p') : Gx w n (x.keep vs) s p a s' p' := by
  intro K H gd lv N r hr
  rw [Sem.keep_eq_wrap, Sem.wrap_wrap]
  exact h _ _ _ _ _ _ hr
theorem Gx.holding {x : Sem α} {vs : List Value} (h : Gx w n x s p a s' p') : Gx w n (holding vs x) s p a s' p' := by
  unfold PySem.holding
  split
  · exact h
  · exact h.keep
theorem Gx.onRaise {x : Sem α} {g : Value → Sem Unit} (h : Gx w n x s p a s' p') : Gx w n (x.onRaise g) s p a s' p' := by
  intro K H gd lv N r hr
  rw [Sem.onRaise_eq_wrap, Sem.wrap_wrap]
  exact h _ _ _ _ _ _ hr
theorem Gx.more {x : Sem α} (h : Gx w n x s p a s' p') (hm : n ≤ m) : Gx w m x s p a s' p' := by
  intro K H gd lv N r hr
  have := topRun_mono (m - n) _ _ _ _ (h K H gd lv N r hr)
  rwa [show N + n + (m - n) = N + m by lia] at this
theorem Gx.at {q : Pos} {k : Unit → Sem α} (h : Gx w n (k ()) s q a s' p') : Gx w (n + 1) (.at q k) s p a s' p' :=
  fun K H gd lv N r hr => TR_step rfl rfl rfl (h K H gd lv N r hr)
theorem Gx.rule {t : String} {k : Unit → Sem α} (h : Gx w n (k ()) s p a s' p') : Gx w (n + 1) (.rule t k) s p a s' p' :=
  fun K H gd lv N r hr => TR_step rfl rfl rfl (h K H gd lv N r hr)
theorem Gx.fresh {k : Tok → Sem α} (h : Gx w n (k s.toks) { s with toks := s.toks + 1 } p a s' p') : Gx w (n + 1) (.fresh k) s p a s' p' :=
  fun K H gd lv N r hr => TR_step rfl rfl rfl (h K H gd lv N r hr)
theorem Gx.alloc {o : Obj} {k : Addr → Sem α} (h : Gx w n (k s.heap.objs.size) { s with heap := s.heap.push o } p a s' p') : Gx w (n + 1) (.alloc o k) s p a s' p' :=
  fun K H gd lv N r hr => TR_step rfl rfl rfl (h K H gd lv N r hr)
theorem Gx.load {d : Addr} {q : Option Value} {o : Obj} {k : Obj → Sem α} (ho : s.heap.get? d = some o) (h : Gx w n (k o) s p a s' p') : Gx w (n + 1) (.load d q k) s p a s' p' :=
  fun K H gd lv N r hr => TR_step rfl rfl (by
    show (match s.heap.get? d with | some o => _ | none => _) = _
    rw [ho]) (h K H gd lv N r hr)
theorem Gx.update {d : Addr} {q : Option Value} {o : Obj} {f : Obj → Obj} {k : Unit → Sem α} (ho : s.heap.get? d = some o) (hd : Nat.ble 11 d = true) (h : Gx w n (k ()) { s with heap := s.heap.update d f } p a s' p') :
    Gx w (n + 1) (.update d q f k) s p a s' p' :=
  fun K H gd lv N r hr => TR_step rfl (by
    show (_ && (Nat.ble 11 d || d == mainNs || d == cStatics || annT == some (.ref d))) = true
    rw [hd]
    rfl) (by
    show (if (s.heap.get? d).isSome then _ else _) = _
    rw [ho]
    rfl) (h K H gd lv N r hr)
end
end BH
namespace BH
open BK
set_option maxRecDepth 100000
set_option maxHeartbeats 0
section
variable {w : World} {n m : Nat} {s s' : Shared} {p p' : Pos}
theorem hash_steps (k : Int) (t : Tok) (M : Nat) (s : Shared) (p : Pos) (K : Int → Sem Fin) (H : Value → Sem Fin) (gd : Bool → Bool) (lv : List Value → List Value) (w : World) :
    TR w (M + 5) s ((pyHash (.int k t)).wrap K H gd lv) p = TR w M { s with toks := s.toks + 1 } ((pyHashByItsType.reduced (rawHash k)).wrap K H gd lv) p := by
  refine byRow2 "special-get-raises" (P := fun w => TR w (M + 5) s ((pyHash (.int k t)).wrap K H gd lv) p = TR w M { s with toks := s.toks + 1 } ((pyHashByItsType.reduced (rawHash k)).wrap K H gd lv) p) ?_ ?_ w
  · intro w
    unfold TR
    rw [Fast.te14082659384304107361, Fast.te14364793385576792824]
    kernel_rfl
  · intro w
    unfold TR
    rw [Fast.te14082659384304107361, Fast.te14364793385576792824]
    kernel_rfl
theorem Gx.hash (k : Int) (t : Tok) : Gx w 5 (pyHash (.int k t)) s p (hashInt k) { s with toks := s.toks + 1 } p := by
  intro K H gd lv N r h
  rw [hash_steps]
  have hr := rawHash_range k
  have e : pyHashByItsType.reduced (rawHash k) = Sem.pure (hashInt k) := by
    show (if (decide (-(2 : Int) ^ 63 ≤ rawHash k) && decide (rawHash k < 2 ^ 63)) = true then _ else _) = _
    rw [if_pos (by rw [decide_eq_true hr.1, decide_eq_true hr.2]; rfl)]
    rfl
  rw [e]
  exact h
end
end BH
namespace BH
open BK
set_option maxRecDepth 100000
set_option maxHeartbeats 0
/-! ### heaps as lists, dicts as entries -/
noncomputable def hp (l : List Obj) : Heap := ⟨⟨l⟩, {}⟩
noncomputable def dO (es : List DictEntry) : Obj := { cls := .type "dict", data := .dict ⟨es⟩ es.length }
theorem hp_size (l : List Obj) : (hp l).objs.size = l.length := rfl
theorem hp_push (l : List Obj) (o : Obj) : (hp l).push o = hp (l ++ [o]) := by
  show (⟨(⟨l⟩ : Array Obj).push o, {}⟩ : Heap) = ⟨⟨l ++ [o]⟩, {}⟩
  rw [List.push_toArray]
theorem hp_get (l r : List Obj) (es : List DictEntry) : (hp (l ++ dO es :: r)).get? l.length = some (dO es) := by
  unfold Heap.get?
  have : (hp (l ++ dO es :: r)).objs[l.length]? = some (dO es) := by
    show (⟨l ++ dO es :: r⟩ : Array Obj)[l.length]? = _
    simp
  rw [this]
  rfl
theorem hp_upd (l r : List Obj) (o : Obj) (f : Obj → Obj) : (hp (l ++ o :: r)).update l.length f = hp (l ++ f o :: r) := by
  have : (⟨l ++ o :: r⟩ : Array Obj).modify l.length f = ⟨l ++ f o :: r⟩ := by
    apply Array.ext_getElem?
    intro i
    rw [Array.getElem?_modify]
    simp only [List.getElem?_toArray]
    by_cases e : l.length = i
    · subst e; simp
    · rw [if_neg e]
      rcases Nat.lt_or_gt_of_ne e with h | h
      · rw [List.getElem?_append_right (by lia), List.getElem?_append_right (by lia)]
        obtain ⟨j, hj⟩ : ∃ j, i - l.length = j + 1 := ⟨i - l.length - 1, by lia⟩
        rw [hj, List.getElem?_cons_succ, List.getElem?_cons_succ]
      · rw [List.getElem?_append_left (by lia), List.getElem?_append_left (by lia)]
  show (⟨(⟨l ++ o :: r⟩ : Array Obj).modify l.length f, {}⟩ : Heap) = _
  rw [this]
  rfl
theorem dO_push (es : List DictEntry) (e : DictEntry) : Obj.mapDictKeys (·.push e) (dO es) = dO (es ++ [e]) := by
  show ({ cls := .type "dict", data := .dict ((⟨es⟩ : Array DictEntry).push e) (es.length + 1) } : Obj) = { cls := .type "dict", data := .dict ⟨es ++ [e]⟩ (es ++ [e]).length }
  rw [List.push_toArray, List.length_append]
  rfl
noncomputable def sO (l : List Obj) (t : Nat) (os : OsState) : Shared := ⟨hp l, #[], {}, t, os⟩
noncomputable def fresh_ (h : Int) (es : List DictEntry) : Prop := ∀ e ∈ es, e.hash ≠ h
theorem places_none {es : List DictEntry} {h : Int} (hf : fresh_ h es) : placesWithHash (⟨es⟩ : Array DictEntry).size (fun i => (⟨es⟩ : Array DictEntry)[i]?.map (·.hash)) h = [] := by
  unfold placesWithHash
  rw [List.filter_eq_nil_iff]
  intro i _ hi
  rw [beq_iff_eq] at hi
  obtain ⟨e, he, hh⟩ := Option.map_eq_some_iff.mp hi
  rw [List.getElem?_toArray] at he
  exact hf e (List.mem_of_getElem? he) hh
section
variable {w : World} {n m t : Nat} {l r : List Obj} {os : OsState} {p : Pos} {es : List DictEntry} {k h : Int} {u : Tok}
theorem Gx.find (hf : fresh_ h es) : Gx w 1 (dictFind l.length (.int k u) h) (sO (l ++ dO es :: r) t os) p none (sO (l ++ dO es :: r) t os) p := by
  unfold dictFind
  refine Gx.holding (Gx.bind (n := 1) (m := 0) (Gx.load (hp_get l r es) .pure) ?_)
  have hall : ((Value.int k u :: (placesWithHash (⟨es⟩ : Array DictEntry).size (fun i => (⟨es⟩ : Array DictEntry)[i]?.map (·.hash)) h).filterMap fun i => (⟨es⟩ : Array DictEntry)[i]?.map (·.key)).all carriedByValue) = true := by
    rw [places_none hf]; rfl
  show Gx w 0 (if ((Value.int k u :: (placesWithHash (⟨es⟩ : Array DictEntry).size (fun i => (⟨es⟩ : Array DictEntry)[i]?.map (·.hash)) h).filterMap fun i => (⟨es⟩ : Array DictEntry)[i]?.map (·.key)).all carriedByValue) = true then _ else _) _ _ _ _ _
  rw [if_pos hall, places_none hf]
  exact Gx.pure
theorem Gx.push (hd : Nat.ble 11 l.length = true) (hz : es.length ≤ 1000) (e : DictEntry) (q : Option Value) : Gx w 3 (updateDictKeys l.length (·.push e) q) (sO (l ++ dO es :: r) t os) p () (sO (l ++ dO (es ++ [e]) :: r) t os) p := by
  unfold updateDictKeys
  refine Gx.bind (n := 1) (m := 2) (Gx.load (hp_get l r es) .pure) ?_
  show Gx w 2 (updatePart l.length q (Obj.mapDictKeys (·.push e)) >>= fun _ => lookBehind l.length q) _ _ _ _ _
  refine Gx.bind (n := 1) (m := 1) (s₁ := sO (l ++ dO (es ++ [e]) :: r) t os) (p₁ := p) (a := ()) ?_ ?_
  · refine Gx.update (hp_get l r es) hd ?_
    have : (sO (l ++ dO es :: r) t os).heap.update l.length (Obj.mapDictKeys (·.push e)) = hp (l ++ dO (es ++ [e]) :: r) := by
      show (hp (l ++ dO es :: r)).update l.length _ = _
      rw [hp_upd, dO_push]
    rw [this]
    exact .pure
  · unfold lookBehind
    refine Gx.bind (n := 1) (m := 0) (Gx.load (hp_get l r (es ++ [e])) .pure) ?_
    have : (dO (es ++ [e])).data.pastItsLine = none := pastItsLine_dict (by
      show (es ++ [e]).length ≤ _
      rw [List.length_append, sizeLine_eq]
      simp only [List.length_cons, List.length_nil]
      lia)
    rw [this]
    exact .pure
theorem Gx.setEntry (hd : Nat.ble 11 l.length = true) (hz : es.length ≤ 1000) (hk : hashInt k = k) (hf : fresh_ k es) (v : Value) :
    Gx w 10 (dictSet l.length (.int k u) v) (sO (l ++ dO es :: r) t os) p () (sO (l ++ dO (es ++ [⟨k, .int k u, v⟩]) :: r) (t + 1) os) p := by
  unfold dictSet
  refine Gx.holding (Gx.bind (n := 5) (m := 5) (Gx.hash k u) ?_)
  rw [hk]
  unfold dictSetHashed
  refine Gx.holding (Gx.bind (n := 1) (m := 4) (Gx.find (t := t + 1) hf) ?_)
  exact Gx.rule (Gx.push (t := t + 1) hd hz _ _)
theorem Gx.putEntry (hd : Nat.ble 11 l.length = true) (hz : es.length ≤ 1000) (hf : fresh_ h es) (v : Value) :
    Gx w 4 (dictPut l.length h (.int k u) v) (sO (l ++ dO es :: r) t os) p () (sO (l ++ dO (es ++ [⟨h, .int k u, v⟩]) :: r) t os) p := by
  unfold dictPut
  refine Gx.bind (n := 1) (m := 3) (Gx.find hf) ?_
  exact Gx.push hd hz _ _
end
end BH
namespace BH
open BK
set_option maxRecDepth 100000
set_option maxHeartbeats 0
/-! ### the runs of the long display -/
noncomputable def pT (q : Pos) (x : Int × Str) : SP := (mkInt x.1, do let v ← mkText x.2; standAt q; pure v)
noncomputable def ents3 : Nat → List (Int × Str) → List DictEntry
  | _, [] => []
  | t, x :: r => ⟨x.1, .int x.1 t, .str x.2 (t + 1)⟩ :: ents3 (t + 3) r
theorem ents3_len : ∀ (ps : List (Int × Str)) (t : Nat), (ents3 t ps).length = ps.length
  | [], _ => rfl
  | _ :: r, t => by rw [ents3, List.length_cons, List.length_cons, ents3_len r]
theorem ents3_hash : ∀ (ps : List (Int × Str)) (t : Nat), (ents3 t ps).map (·.hash) = ps.map (·.1)
  | [], _ => rfl
  | _ :: r, t => by rw [ents3, List.map_cons, List.map_cons, ents3_hash r]
theorem ents3_int : ∀ (ps : List (Int × Str)) (t : Nat), ∀ e ∈ ents3 t ps, ∃ k u, e.key = .int k u
  | [], _, e, h => by cases h
  | _ :: r, t, e, h => by
    rcases List.mem_cons.mp h with rfl | h
    · exact ⟨_, _, rfl⟩
    · exact ents3_int r _ e h
theorem fresh_of {es : List DictEntry} {k : Int} {r : List Int} (hn : (es.map (·.hash) ++ k :: r).Nodup) : fresh_ k es := by
  intro e he q
  have h1 := (List.nodup_append.mp hn).2.2 e.hash (List.mem_map_of_mem he) k (.head _)
  exact h1 q
section
variable {w : World} {n m t : Nat} {l r : List Obj} {os : OsState} {p q : Pos}
theorem Gx.pairs (hd : Nat.ble 11 l.length = true) (f : SP → PUnit → Sem (ForInStep PUnit)) (hf : ∀ x u, f (pT q x) u = (do
      let kv ← (pT q x).1
      let vv ← PySem.holding [kv] (pT q x).2
      PySem.holding [kv, vv] (dictSet l.length kv vv)
      Pure.pure (ForInStep.yield PUnit.unit))) :
    ∀ (ps : List (Int × Str)) (es : List DictEntry) (t : Nat), (es.map (·.hash) ++ ps.map (·.1)).Nodup → (∀ x ∈ ps, hashInt x.1 = x.1) → es.length + ps.length ≤ 1000 →
      Gx w (20 * ps.length) (forIn (ps.map (pT q)) PUnit.unit f) (sO (l ++ dO es :: r) t os) q PUnit.unit (sO (l ++ dO (es ++ ents3 t ps) :: r) (t + 3 * ps.length) os) q
  | [], es, t, _, _, _ => by
    rw [List.map_nil, List.forIn_nil, ents3, List.append_nil]
    exact Gx.ret
  | x :: ps, es, t, hn, hk, hz => by
    rw [List.length_cons] at hz
    rw [List.map_cons, List.forIn_cons, hf]
    have hx : Gx w 13 (do
        let kv ← (pT q x).1
        let vv ← PySem.holding [kv] (pT q x).2
        PySem.holding [kv, vv] (dictSet l.length kv vv)
        Pure.pure (ForInStep.yield PUnit.unit)) (sO (l ++ dO es :: r) t os) q (ForInStep.yield PUnit.unit) (sO (l ++ dO (es ++ [⟨x.1, .int x.1 t, .str x.2 (t + 1)⟩]) :: r) (t + 3) os) q := by
      refine Gx.bind (n := 1) (m := 12) (a := .int x.1 t) (s₁ := sO (l ++ dO es :: r) (t + 1) os) (p₁ := q) (Gx.fresh Gx.pure) ?_
      refine Gx.bind (n := 2) (m := 10) (a := .str x.2 (t + 1)) (s₁ := sO (l ++ dO es :: r) (t + 2) os) (p₁ := q) (Gx.holding (Gx.bind (n := 1) (m := 1) (a := .str x.2 (t + 1)) (s₁ := sO (l ++ dO es :: r) (t + 2) os) (p₁ := q) (Gx.fresh Gx.pure) (Gx.at Gx.pure))) ?_
      refine Gx.bind (n := 10) (m := 0) (a := ()) (p₁ := q) (Gx.holding (Gx.setEntry (t := t + 2) hd (by lia) (hk x (.head _)) (fresh_of hn) _)) Gx.ret
    have ih := Gx.pairs hd f hf ps (es ++ [⟨x.1, .int x.1 t, .str x.2 (t + 1)⟩]) (t + 3) (by
      rw [List.map_append, List.append_assoc]; exact hn) (fun y hy => hk y (.tail _ hy)) (by rw [List.length_append, List.length_cons, List.length_nil]; lia)
    rw [List.append_assoc] at ih
    have e1 : t + 3 * (x :: ps).length = t + 3 + 3 * ps.length := by rw [List.length_cons]; lia
    rw [e1]
    refine Gx.more (Gx.bind hx ih) (by rw [List.length_cons]; lia)
theorem Gx.sub17 (hd : Nat.ble 11 l.length = true) (ps : List (Int × Str)) (hl : 15 < ps.length) (hz : ps.length ≤ 1000) (hn : (ps.map (·.1)).Nodup) (hk : ∀ x ∈ ps, hashInt x.1 = x.1) :
    Gx w (20 * ps.length + 2) (subDict (ps.map (pT q))) (sO l t os) q l.length (sO (l ++ [dO (ents3 t ps)]) (t + 3 * ps.length) os) q := by
  unfold subDict
  refine Gx.bind (n := 1) (m := 20 * ps.length + 1) (a := l.length) (s₁ := sO (l ++ [dO []]) t os) (p₁ := q) (Gx.alloc ?_) ?_
  · have : (sO l t os).heap.push { cls := .type "dict", data := .dict #[] } = hp (l ++ [dO []]) := hp_push l _
    rw [this]
    exact Gx.pure
  · refine Gx.more (n := 0 + (20 * ps.length + 1)) (Gx.bind (n := 20 * ps.length + 1) (m := 0) (a := ()) (s₁ := sO (l ++ [dO (ents3 t ps)]) (t + 3 * ps.length) os) (p₁ := q) (Gx.holding ?_) Gx.ret) (by lia)
    rw [if_neg (by rw [List.length_map]; lia)]
    refine Gx.bind (n := 1) (m := 20 * ps.length) (a := ()) (s₁ := sO (l ++ [dO []]) t os) (p₁ := q) (Gx.rule Gx.pure) ?_
    refine Gx.more (n := 0 + 20 * ps.length) (Gx.bind (m := 0) (a := PUnit.unit) (s₁ := sO (l ++ [dO (ents3 t ps)]) (t + 3 * ps.length) os) (p₁ := q) ?_ Gx.ret) (by lia)
    refine Gx.pairs (w := w) (l := l) (r := []) (os := os) (q := q) hd _ ?_ ps [] t ?_ hk ?_
    · intro x u; rfl
    · simpa using hn
    · simpa using hz
end
end BH
namespace BH
open BK
set_option maxRecDepth 100000
set_option maxHeartbeats 0
theorem sub_dict_dict : isSubtype (.type "dict") (.type "dict") = Pure.pure true := by rw [isSubtype_type]; kernel_rfl
theorem iter_dict : typeLookup (.type "dict") "__iter__" = Pure.pure (some (.builtin "dict.__iter__")) := by rw [typeLookup_type, builtinLookup_eq_fast]; kernel_rfl
section
variable {w : World} {n m t : Nat} {l mid : List Obj} {os : OsState} {p q : Pos} {A S : List DictEntry}
theorem Gx.entries {r : List Obj} {es : List DictEntry} (x : Option Value) : Gx w 1 (dictEntries l.length x) (sO (l ++ dO es :: r) t os) p ⟨es⟩ (sO (l ++ dO es :: r) t os) p :=
  Gx.bind (n := 1) (m := 0) (Gx.load (hp_get l r es) .pure) .pure
theorem Gx.epoch {r : List Obj} {es : List DictEntry} (x : Option Value) : Gx w 1 (dictEpoch l.length x) (sO (l ++ dO es :: r) t os) p es.length (sO (l ++ dO es :: r) t os) p :=
  Gx.bind (n := 1) (m := 0) (Gx.load (hp_get l r es) .pure) .pure
theorem Gx.typeD {r : List Obj} {es : List DictEntry} : Gx w 1 (typeOf (.ref l.length)) (sO (l ++ dO es :: r) t os) p (.type "dict") (sO (l ++ dO es :: r) t os) p :=
  Gx.bind (n := 1) (m := 0) (Gx.load (hp_get l r es) .pure) .pure
theorem Gx.isD {r : List Obj} {es : List DictEntry} : Gx w 1 (isInstance (.ref l.length) (.type "dict")) (sO (l ++ dO es :: r) t os) p true (sO (l ++ dO es :: r) t os) p := by
  unfold isInstance
  refine Gx.bind (n := 1) (m := 0) Gx.typeD ?_
  rw [sub_dict_dict]
  exact .ret
theorem Gx.iterD {r : List Obj} {es : List DictEntry} : Gx w 1 (specialOf (.ref l.length) "__iter__") (sO (l ++ dO es :: r) t os) p (some (.builtin "dict.__iter__")) (sO (l ++ dO es :: r) t os) p := by
  unfold specialOf
  refine Gx.bind (n := 1) (m := 0) Gx.typeD ?_
  rw [iter_dict]
  exact .ret
theorem Gx.mergeLoop {st : List DictEntry → Shared} (f : Nat → PUnit → Sem (ForInStep PUnit)) (hn : (A.map (·.hash) ++ S.map (·.hash)).Nodup) (hz : A.length + S.length ≤ 1000)
    (hstep : ∀ B i e u, S[i]? = some e → fresh_ e.hash B → B.length ≤ 1000 → Gx w 10 (f i u) (st B) p (ForInStep.yield PUnit.unit) (st (B ++ [e])) p) :
    ∀ k i, i + k = S.length → Gx w (10 * k) (forIn (List.range' i k) PUnit.unit f) (st (A ++ S.take i)) p PUnit.unit (st (A ++ S)) p
  | 0, i, h => by
    rw [List.take_of_length_le (by lia)]
    exact Gx.ret
  | k + 1, i, h => by
    have hi : i < S.length := by lia
    have e1 : S[i]? = some S[i] := List.getElem?_eq_getElem hi
    have et : S.take (i + 1) = S.take i ++ [S[i]] := by rw [List.take_succ, e1]; rfl
    have hf : fresh_ S[i].hash (A ++ S.take i) := by
      have es : S = S.take i ++ S[i] :: S.drop (i + 1) := by
        conv => lhs; rw [← List.take_append_drop i S]
        rw [List.drop_eq_getElem_cons hi]
      rw [es, List.map_append, List.map_cons, ← List.append_assoc, ← List.map_append] at hn
      exact fresh_of hn
    rw [List.range'_succ, List.forIn_cons]
    have := Gx.mergeLoop f hn hz hstep k (i + 1) (by lia)
    rw [et, ← List.append_assoc] at this
    exact Gx.more (Gx.bind (hstep _ i _ PUnit.unit e1 hf (by rw [List.length_append, List.length_take]; lia)) this) (by lia)
theorem Gx.merge (a : Nat) (ha : a = l.length + 1 + mid.length) (hd : Nat.ble 11 l.length = true) (hs : (a == sysModules) = false) (hA : A ≠ [])
    (hn : (A.map (·.hash) ++ S.map (·.hash)).Nodup) (hz : A.length + S.length ≤ 1000) (hi : ∀ e ∈ S, ∃ k u, e.key = .int k u) :
    Gx w (10 * S.length + 10) (mergeMapping l.length (.ref a) false) (sO (l ++ dO A :: (mid ++ [dO S])) t os) p () (sO (l ++ dO (A ++ S) :: (mid ++ [dO S])) t os) p := by
  have look : ∀ B : List DictEntry, l ++ dO B :: (mid ++ [dO S]) = (l ++ dO B :: mid) ++ dO S :: [] := fun B => by rw [List.append_assoc, List.cons_append]
  have hlen : ∀ B : List DictEntry, (l ++ dO B :: mid).length = a := fun B => by rw [List.length_append, List.length_cons, ha]; lia
  have h1 : ∀ B, Gx w 1 (isInstance (.ref a) (.type "dict")) (sO (l ++ dO B :: (mid ++ [dO S])) t os) p true (sO (l ++ dO B :: (mid ++ [dO S])) t os) p := fun B => by
    rw [look, ← hlen B]; exact Gx.isD
  have h2 : ∀ B, Gx w 1 (specialOf (.ref a) "__iter__") (sO (l ++ dO B :: (mid ++ [dO S])) t os) p (some (.builtin "dict.__iter__")) (sO (l ++ dO B :: (mid ++ [dO S])) t os) p := fun B => by
    rw [look, ← hlen B]; exact Gx.iterD
  have h3 : ∀ B x, Gx w 1 (dictEntries a x) (sO (l ++ dO B :: (mid ++ [dO S])) t os) p ⟨S⟩ (sO (l ++ dO B :: (mid ++ [dO S])) t os) p := fun B x => by
    rw [look, ← hlen B]; exact Gx.entries x
  have h4 : ∀ B x, Gx w 1 (dictEpoch a x) (sO (l ++ dO B :: (mid ++ [dO S])) t os) p S.length (sO (l ++ dO B :: (mid ++ [dO S])) t os) p := fun B x => by
    rw [look, ← hlen B]; exact Gx.epoch x
  unfold mergeMapping
  refine Gx.bind (n := 1) (m := 10 * S.length + 9) (h1 A) ?_
  rw [if_pos rfl]
  refine Gx.bind (n := 1) (m := 10 * S.length + 8) (h2 A) ?_
  dsimp only
  refine Gx.bind (n := 0) (m := 10 * S.length + 8) (a := true) (s₁ := (sO (l ++ dO A :: (mid ++ [dO S])) t os)) (p₁ := p) (by
    rw [show (some (Value.builtin "dict.__iter__") == some (Value.builtin "dict.__iter__")) = true from by decide +kernel]
    exact Gx.ret) ?_
  dsimp only
  rw [if_neg (by rw [hs]; exact Bool.false_ne_true)]
  refine Gx.bind (n := 1) (m := 10 * S.length + 7) (Gx.entries none) ?_
  have he : (⟨A⟩ : Array DictEntry).isEmpty = false := by
    cases A with
    | nil => exact absurd rfl hA
    | cons x y => rfl
  rw [he, if_neg Bool.false_ne_true]
  refine Gx.bind (n := 1) (m := 10 * S.length + 6) (h3 A none) ?_
  refine Gx.bind (n := 1) (m := 10 * S.length + 5) (h4 A none) ?_
  rw [show (⟨S⟩ : Array DictEntry).size = S.length from rfl, List.range_eq_range']
  refine Gx.more (n := 0 + 10 * S.length) (Gx.bind (m := 0) (a := PUnit.unit) (s₁ := sO (l ++ dO (A ++ S) :: (mid ++ [dO S])) t os) (p₁ := p) ?_ Gx.ret) (by lia)
  have key : ∀ f, _ → _ := fun f hstep => Gx.mergeLoop (w := w) (p := p) (st := fun B => sO (l ++ dO B :: (mid ++ [dO S])) t os) f hn hz hstep S.length 0 (by lia)
  rw [List.take_zero, List.append_nil] at key
  refine key _ ?_
  intro B i e u hie hf hB
  obtain ⟨k, tk, hk⟩ := hi e (List.mem_of_getElem? hie)
  obtain ⟨eh, ek, ev⟩ := e
  dsimp only at hk hf
  subst hk
  refine Gx.more (n := 0 + 1 + 4 + 1) (m := 10) ?_ (by lia)
  refine Gx.bind (n := 1) (m := 0 + 1 + 4) (h3 B none) ?_
  have hx : (⟨S⟩ : Array DictEntry)[i]? = some ⟨eh, .int k tk, ev⟩ := by rw [List.getElem?_toArray]; exact hie
  rw [hx]
  dsimp only
  rw [if_neg Bool.false_ne_true]
  refine Gx.bind (n := 4) (m := 0 + 1) (Gx.holding (Gx.putEntry hd hB hf _)) ?_
  refine Gx.bind (n := 1) (m := 0) (h4 _ none) ?_
  rw [bne_self_eq_false, if_neg Bool.false_ne_true]
  exact Gx.ret
end
end BH
namespace BH
open BK
set_option maxRecDepth 100000
set_option maxHeartbeats 0
noncomputable def vals2 : Nat → List (Int × Str) → List (Value × Value)
  | _, [] => []
  | t, x :: r => (.int x.1 t, .str x.2 (t + 1)) :: vals2 (t + 2) r
noncomputable def ents2 : Nat → List (Int × Str) → List DictEntry
  | _, [] => []
  | t, x :: r => ⟨x.1, .int x.1 t, .str x.2 (t + 1)⟩ :: ents2 (t + 2) r
theorem ents2_len : ∀ (ps : List (Int × Str)) (t : Nat), (ents2 t ps).length = ps.length
  | [], _ => rfl
  | _ :: r, t => by rw [ents2, List.length_cons, List.length_cons, ents2_len r]
theorem ents2_hash : ∀ (ps : List (Int × Str)) (t : Nat), (ents2 t ps).map (·.hash) = ps.map (·.1)
  | [], _ => rfl
  | _ :: r, t => by rw [ents2, List.map_cons, List.map_cons, ents2_hash r]
theorem ents2_int : ∀ (ps : List (Int × Str)) (t : Nat), ∀ e ∈ ents2 t ps, ∃ k u, e.key = .int k u
  | [], _, e, h => by cases h
  | _ :: r, t, e, h => by
    rcases List.mem_cons.mp h with rfl | h
    · exact ⟨_, _, rfl⟩
    · exact ents2_int r _ e h
theorem ents3_app : ∀ (a b : List (Int × Str)) (t : Nat), ents3 t (a ++ b) = ents3 t a ++ ents3 (t + 3 * a.length) b
  | [], b, t => rfl
  | x :: a, b, t => by
    rw [List.cons_append, ents3, ents3, ents3_app a b, List.cons_append, List.length_cons]
    congr 3
    lia
section
variable {w : World} {n m t : Nat} {l r mid : List Obj} {os : OsState} {p q : Pos} {A : List DictEntry}
theorem Gx.evals : ∀ (ps : List (Int × Str)) (t : Nat), Gx w (4 * ps.length) (evalPairs (ps.map (pT q))) (sO l t os) q (vals2 t ps) (sO l (t + 2 * ps.length) os) q
  | [], t => Gx.ret
  | x :: ps, t => by
    have ih := Gx.evals ps (t + 2)
    rw [show t + 2 + 2 * ps.length = t + 2 * (x :: ps).length by rw [List.length_cons]; lia] at ih
    show Gx w (4 * (x :: ps).length) (mkInt x.1 >>= fun kv => PySem.holding [kv] (mkText x.2 >>= fun v => standAt q >>= fun _ => Pure.pure v) >>= fun vv => PySem.holding [kv, vv] (evalPairs (ps.map (pT q))) >>= fun r => Pure.pure ((kv, vv) :: r)) _ _ _ _ _
    refine Gx.more (n := 0 + 4 * ps.length + 2 + 1) ?_ (by rw [List.length_cons]; lia)
    refine Gx.bind (n := 1) (m := 0 + 4 * ps.length + 2) (a := .int x.1 t) (s₁ := sO l (t + 1) os) (p₁ := q) (Gx.fresh Gx.pure) ?_
    refine Gx.bind (n := 2) (m := 0 + 4 * ps.length) (a := .str x.2 (t + 1)) (s₁ := sO l (t + 2) os) (p₁ := q) (Gx.holding (Gx.bind (n := 1) (m := 1) (a := .str x.2 (t + 1)) (s₁ := sO l (t + 2) os) (p₁ := q) (Gx.fresh Gx.pure) (Gx.at Gx.pure))) ?_
    exact Gx.bind (n := 4 * ps.length) (m := 0) (Gx.holding ih) Gx.ret
theorem Gx.sets (hd : Nat.ble 11 l.length = true) (f : Value × Value → PUnit → Sem (ForInStep PUnit)) (hf : ∀ k v u, f (k, v) u = (do
      dictSet l.length k v
      Pure.pure (ForInStep.yield PUnit.unit))) :
    ∀ (ps : List (Int × Str)) (es : List DictEntry) (tv t : Nat), (es.map (·.hash) ++ ps.map (·.1)).Nodup → (∀ x ∈ ps, hashInt x.1 = x.1) → es.length + ps.length ≤ 1000 →
      Gx w (20 * ps.length) (forIn (vals2 tv ps) PUnit.unit f) (sO (l ++ dO es :: r) t os) q PUnit.unit (sO (l ++ dO (es ++ ents2 tv ps) :: r) (t + ps.length) os) q
  | [], es, tv, t, _, _, _ => by
    rw [vals2, List.forIn_nil, ents2, List.append_nil]
    exact Gx.ret
  | x :: ps, es, tv, t, hn, hk, hz => by
    rw [List.length_cons] at hz
    rw [vals2, List.forIn_cons, hf]
    have hx : Gx w 10 (do
        dictSet l.length (.int x.1 tv) (.str x.2 (tv + 1))
        Pure.pure (ForInStep.yield PUnit.unit)) (sO (l ++ dO es :: r) t os) q (ForInStep.yield PUnit.unit) (sO (l ++ dO (es ++ [⟨x.1, .int x.1 tv, .str x.2 (tv + 1)⟩]) :: r) (t + 1) os) q :=
      Gx.bind (n := 10) (m := 0) (Gx.setEntry (t := t) hd (by lia) (hk x (.head _)) (fresh_of hn) _) Gx.ret
    have ih := Gx.sets hd f hf ps (es ++ [⟨x.1, .int x.1 tv, .str x.2 (tv + 1)⟩]) (tv + 2) (t + 1) (by
      rw [List.map_append, List.append_assoc]; exact hn) (fun y hy => hk y (.tail _ hy)) (by rw [List.length_append, List.length_cons, List.length_nil]; lia)
    rw [List.append_assoc] at ih
    have e1 : t + (x :: ps).length = t + 1 + ps.length := by rw [List.length_cons]; lia
    rw [e1]
    refine Gx.more (Gx.bind hx ih) (by rw [List.length_cons]; lia)
theorem Gx.sub4 (hd : Nat.ble 11 l.length = true) (ps : List (Int × Str)) (hl : ps.length ≤ 15) (hn : (ps.map (·.1)).Nodup) (hk : ∀ x ∈ ps, hashInt x.1 = x.1) :
    Gx w (24 * ps.length + 2) (subDict (ps.map (pT q))) (sO l t os) q l.length (sO (l ++ [dO (ents2 t ps)]) (t + 2 * ps.length + ps.length) os) q := by
  unfold subDict
  refine Gx.more (n := 0 + (20 * ps.length + 4 * ps.length) + 1) ?_ (by lia)
  refine Gx.bind (n := 1) (m := 0 + (20 * ps.length + 4 * ps.length)) (a := l.length) (s₁ := sO (l ++ [dO []]) t os) (p₁ := q) (Gx.alloc ?_) ?_
  · have : (sO l t os).heap.push { cls := .type "dict", data := .dict #[] } = hp (l ++ [dO []]) := hp_push l _
    rw [this]
    exact Gx.pure
  · refine Gx.bind (n := 20 * ps.length + 4 * ps.length) (m := 0) (a := ()) (s₁ := sO (l ++ [dO (ents2 t ps)]) (t + 2 * ps.length + ps.length) os) (p₁ := q) (Gx.holding ?_) Gx.ret
    rw [if_pos (by rw [List.length_map]; lia)]
    refine Gx.bind (Gx.evals ps t) (Gx.holding ?_)
    refine Gx.more (n := 0 + 20 * ps.length) (Gx.bind (m := 0) (a := PUnit.unit) (s₁ := sO (l ++ [dO (ents2 t ps)]) (t + 2 * ps.length + ps.length) os) (p₁ := q) ?_ Gx.ret) (by lia)
    refine Gx.sets (w := w) (l := l) (r := []) (os := os) (q := q) hd _ ?_ ps [] t (t + 2 * ps.length) ?_ hk ?_
    · intro k v u; rfl
    · simpa using hn
    · simp only [List.length_nil]; lia
theorem Gx.fl0 (hd : Nat.ble 11 l.length = true) (ps : List (Int × Str)) (hl : 15 < ps.length) (hz : ps.length ≤ 1000) (hn : (ps.map (·.1)).Nodup) (hk : ∀ x ∈ ps, hashInt x.1 = x.1) :
    Gx w (20 * ps.length + 2) (fl (ps.map (pT q)) none) (sO l t os) q (some l.length) (sO (l ++ [dO (ents3 t ps)]) (t + 3 * ps.length) os) q := by
  unfold fl
  have : (ps.map (pT q)).isEmpty = false := by cases ps with | nil => simp at hl | cons => rfl
  rw [this, if_neg Bool.false_ne_true]
  exact Gx.more (n := 0 + (20 * ps.length + 2)) (Gx.bind (m := 0) (Gx.sub17 hd ps hl hz hn hk) Gx.ret) (by lia)
theorem Gx.flOf (ps : List (Int × Str)) (E : List DictEntry) (t' : Nat) (k : Nat) (hd : Nat.ble 11 l.length = true) (hs : ((l.length + 1 + mid.length : Nat) == sysModules) = false) (h0 : ps ≠ []) (hA : A ≠ [])
    (hsub : Gx w k (subDict (ps.map (pT q))) (sO (l ++ dO A :: mid) t os) q (l.length + 1 + mid.length) (sO (l ++ dO A :: (mid ++ [dO E])) t' os) q)
    (hn : (A.map (·.hash) ++ E.map (·.hash)).Nodup) (hz : A.length + E.length ≤ 1000) (hi : ∀ e ∈ E, ∃ k u, e.key = .int k u) :
    Gx w (k + 10 * E.length + 10) (fl (ps.map (pT q)) (some l.length)) (sO (l ++ dO A :: mid) t os) q (some l.length) (sO (l ++ dO (A ++ E) :: (mid ++ [dO E])) t' os) q := by
  unfold fl
  have : (ps.map (pT q)).isEmpty = false := by cases ps with | nil => exact absurd rfl h0 | cons => rfl
  rw [this, if_neg Bool.false_ne_true]
  refine Gx.more (n := 0 + (10 * E.length + 10) + k) ?_ (by lia)
  refine Gx.bind (n := k) (m := 0 + (10 * E.length + 10)) (Gx.holding hsub) ?_
  refine Gx.bind (n := 10 * E.length + 10) (m := 0) (Gx.onRaise (Gx.holding (Gx.merge _ rfl hd hs hA hn hz hi))) Gx.ret
end
end BH
namespace BH
open BK
set_option maxRecDepth 100000
set_option maxHeartbeats 0
noncomputable def incr : List Int → Bool
  | a :: b :: r => decide (a < b) && incr (b :: r)
  | _ => true
theorem incr_all : ∀ (l : List Int) (a : Int), incr (a :: l) = true → ∀ x ∈ l, a < x
  | [], _, _, x, h => by cases h
  | b :: r, a, h, x, hx => by
    rw [incr, Bool.and_eq_true, decide_eq_true_eq] at h
    rcases List.mem_cons.mp hx with rfl | hx
    · exact h.1
    · exact Int.lt_trans h.1 (incr_all r b h.2 x hx)
theorem incr_nodup : ∀ l : List Int, incr l = true → l.Nodup
  | [], _ => List.nodup_nil
  | a :: l, h => by
    rw [List.nodup_cons]
    refine ⟨fun q => Int.lt_irrefl _ (incr_all l a h a q), incr_nodup l ?_⟩
    cases l with
    | nil => rfl
    | cons b r => rw [incr, Bool.and_eq_true] at h; exact h.2
theorem b3_incr : incr (b3L.map (·.1)) = true := by kernel_rfl
theorem b3_nodup : (b3L.map (·.1)).Nodup := incr_nodup _ b3_incr
theorem b3_len : b3L.length = 650 := by kernel_rfl
theorem b3_hash : (b3L.all fun x => hashInt x.1 == x.1) = true := by kernel_rfl
theorem b3_keys : ∀ x ∈ b3L, hashInt x.1 = x.1 := fun x hx => eq_of_beq (List.all_eq_true.mp b3_hash x hx)
noncomputable def bigE (j : Nat) : List DictEntry := ents3 373 (b3L.take (17 * j))
noncomputable def runE (j : Nat) : List DictEntry := ents3 (373 + 51 * j) ((b3L.drop (17 * j)).take 17)
noncomputable def lastE : List DictEntry := ents2 2311 (b3L.drop 646)
noncomputable def subsE (j : Nat) : List Obj := (List.range' 1 (j - 1)).map fun i => dO (runE i)
theorem take_run (j : Nat) : b3L.take (17 * (j + 1)) = b3L.take (17 * j) ++ (b3L.drop (17 * j)).take 17 := by
  rw [show 17 * (j + 1) = 17 * j + 17 by lia, List.take_add]
theorem bigE_next (j : Nat) (h : j ≤ 38) : bigE (j + 1) = bigE j ++ runE j := by
  unfold bigE runE
  rw [take_run, ents3_app, List.length_take, b3_len, Nat.min_eq_left (by lia)]
  congr 2
  lia
theorem subsE_next (j : Nat) (h : 1 ≤ j) : subsE (j + 1) = subsE j ++ [dO (runE j)] := by
  obtain ⟨i, rfl⟩ : ∃ i, j = i + 1 := ⟨j - 1, by lia⟩
  unfold subsE
  rw [Nat.add_sub_cancel, Nat.add_sub_cancel, List.range'_concat, List.map_append, List.map_cons, List.map_nil]
  rw [show 1 + 1 * i = i + 1 by lia]
theorem nodup_take (j : Nat) : (b3L.take (17 * j) ++ (b3L.drop (17 * j)).take 17).map (·.1) |>.Nodup := by
  rw [← take_run]
  exact (List.Sublist.map _ (List.take_sublist _ _)).nodup b3_nodup
section
variable {w : World} {C : List Obj} {os : OsState} {q : Pos}
noncomputable def stJ (C : List Obj) (os : OsState) (j : Nat) : Shared := sO (C ++ dO (bigE j) :: subsE j) (373 + 51 * j) os
theorem run_len (j : Nat) (h : j + 1 ≤ 38) : ((b3L.drop (17 * j)).take 17).length = 17 := by
  rw [List.length_take, List.length_drop, b3_len]; lia
theorem Gx.runJ (hC : C.length = 113) (j : Nat) (h1 : 1 ≤ j) (h : j + 1 ≤ 38) :
    Gx w 600 (fl ((((b3L.map (pT q)).drop (17 * j))).take 17) (some 113)) (stJ C os j) q (some 113) (stJ C os (j + 1)) q := by
  have hl := run_len j h
  have hnod := nodup_take j
  rw [List.map_append] at hnod
  rw [← List.map_drop, ← List.map_take]
  unfold stJ
  rw [bigE_next j (by lia), subsE_next j h1, ← hC]
  refine Gx.more (n := (20 * 17 + 2) + 10 * (runE j).length + 10) ?_ (by unfold runE; rw [ents3_len, hl]; lia)
  have hsub := Gx.sub17 (w := w) (t := 373 + 51 * j) (l := C ++ dO (bigE j) :: subsE j) (os := os) (q := q) (by rw [List.length_append, hC]; exact Nat.ble_eq_true_of_le (by lia)) ((b3L.drop (17 * j)).take 17) (by rw [hl]; lia) (by rw [hl]; lia)
    ((List.nodup_append.mp hnod).2.1) (fun x hx => b3_keys x (List.mem_of_mem_drop (List.mem_of_mem_take hx)))
  rw [hl, List.append_assoc, List.cons_append, List.length_append, List.length_cons, show C.length + ((subsE j).length + 1) = C.length + 1 + (subsE j).length by lia, show 373 + 51 * j + 3 * 17 = 373 + 51 * (j + 1) by lia] at hsub
  refine Gx.flOf _ (runE j) _ (20 * 17 + 2) (by rw [hC]; rfl) ?_ ?_ ?_ hsub ?_ ?_ ?_
  · rw [hC]; exact beq_eq_false_iff_ne.mpr (by intro e; have : (113 + 1 + (subsE j).length : Nat) = 1 := e; lia)
  · intro e; rw [e] at hl; cases hl
  · intro e
    have : (bigE j).length = 0 := by rw [e]; rfl
    unfold bigE at this
    rw [ents3_len, List.length_take, b3_len] at this
    lia
  · unfold bigE runE
    rw [ents3_hash, ents3_hash]
    exact hnod
  · unfold bigE runE
    rw [ents3_len, ents3_len, hl, List.length_take, b3_len]
    lia
  · exact ents3_int _ _
theorem Gx.lastRun (hC : C.length = 113) : Gx w 600 (fl ((b3L.map (pT q)).drop 646) (some 113)) (stJ C os 38) q (some 113) (sO (C ++ dO (bigE 38 ++ lastE) :: (subsE 38 ++ [dO lastE])) 2323 os) q := by
  have hl : (b3L.drop 646).length = 4 := by rw [List.length_drop, b3_len]
  have hnod : ((b3L.take 646).map (·.1) ++ (b3L.drop 646).map (·.1)).Nodup := by
    rw [← List.map_append, List.take_append_drop]; exact b3_nodup
  rw [← List.map_drop]
  unfold stJ
  rw [← hC]
  refine Gx.more (n := (24 * 4 + 2) + 10 * lastE.length + 10) ?_ (by unfold lastE; rw [ents2_len, hl]; lia)
  have hsub := Gx.sub4 (w := w) (t := 2311) (l := C ++ dO (bigE 38) :: subsE 38) (os := os) (q := q) (by rw [List.length_append, hC]; exact Nat.ble_eq_true_of_le (by lia)) (b3L.drop 646) (by rw [hl]; lia)
    ((List.nodup_append.mp hnod).2.1) (fun x hx => b3_keys x (List.mem_of_mem_drop hx))
  rw [hl, List.append_assoc, List.cons_append, List.length_append, List.length_cons, show C.length + ((subsE 38).length + 1) = C.length + 1 + (subsE 38).length by lia, show 2311 + 2 * 4 + 4 = 2323 by lia] at hsub
  refine Gx.flOf _ lastE _ (24 * 4 + 2) (by rw [hC]; rfl) ?_ ?_ ?_ hsub ?_ ?_ ?_
  · rw [hC]; exact beq_eq_false_iff_ne.mpr (by intro e; have : (113 + 1 + (subsE 38).length : Nat) = 1 := e; lia)
  · intro e; rw [e] at hl; cases hl
  · intro e
    have : (bigE 38).length = 0 := by rw [e]; rfl
    unfold bigE at this
    rw [ents3_len, List.length_take, b3_len] at this
    lia
  · unfold bigE lastE
    rw [ents3_hash, ents2_hash]
    exact hnod
  · unfold bigE lastE
    rw [ents3_len, ents2_len, hl, List.length_take, b3_len]
    lia
  · exact ents2_int _ _
theorem Gx.runsJ (hC : C.length = 113) : ∀ (k j : Nat), 1 ≤ j → j + k = 38 → Gx w (600 * k) (gath ((b3L.map (pT q)).drop (17 * j)) [] (some 113)) (stJ C os j) q (some 113, (b3L.map (pT q)).drop 646) (stJ C os 38) q
  | 0, j, h1, h => by
    obtain rfl : j = 38 := by lia
    rw [gath_few _ _ _ (by rw [List.length_drop, List.length_map, b3_len]; simp)]
    exact Gx.ret
  | k + 1, j, h1, h => by
    rw [gath_next _ j (by rw [List.length_map, b3_len]; lia)]
    exact Gx.more (Gx.bind (Gx.runJ hC j h1 (by lia)) (Gx.runsJ hC k (j + 1) (by lia) (by lia))) (by lia)
theorem Gx.display (hC : C.length = 113) : Gx w 25000 (dictDisplay ((b3L.map (pT q)).map fun p => (some p.1, p.2))) (sO C 373 os) q (.ref 113) (sO (C ++ dO (bigE 38 ++ lastE) :: (subsE 38 ++ [dO lastE])) 2323 os) q := by
  rw [display_gath]
  refine Gx.more (n := 0 + 600 + (600 * 37 + (20 * 17 + 2))) ?_ (by lia)
  refine Gx.bind (n := 600 * 37 + (20 * 17 + 2)) (m := 0 + 600) (a := (some 113, (b3L.map (pT q)).drop 646)) (s₁ := stJ C os 38) (p₁ := q) ?_ ?_
  · have g := gath_next (b3L.map (pT q)) 0 (by rw [List.length_map, b3_len]; lia) none
    rw [Nat.mul_zero, List.drop_zero] at g
    rw [g]
    have hl : (b3L.take 17).length = 17 := by rw [List.length_take, b3_len]; rfl
    refine Gx.bind (n := 20 * 17 + 2) (m := 600 * 37) (a := some 113) (s₁ := stJ C os 1) (p₁ := q) ?_ (Gx.runsJ hC 37 1 (by lia) (by lia))
    rw [← List.map_take]
    have h0 := Gx.fl0 (w := w) (t := 373) (l := C) (os := os) (q := q) (by rw [hC]; rfl) (b3L.take 17) (by rw [hl]; lia) (by rw [hl]; lia) ((List.Sublist.map _ (List.take_sublist _ _)).nodup b3_nodup) (fun x hx => b3_keys x (List.mem_of_mem_take hx))
    rw [hl, hC] at h0
    exact h0
  · exact Gx.bind (n := 600) (m := 0) (Gx.lastRun hC) Gx.ret
end
end BH
namespace BH
open BK
set_option maxRecDepth 100000
set_option maxHeartbeats 0
noncomputable def d15 : Option (List Expr × List (Option Expr) × List Expr × Pos × Pos) := match pw.main.body[15]? with
  | some (Stmt.Assign ts (Expr.Dict ks vs q) p) => some (ts, ks, vs, q, p)
  | _ => none
noncomputable def ts15 : List Expr := (d15.map (·.1)).getD []
noncomputable def ks15 : List (Option Expr) := (d15.map (·.2.1)).getD []
noncomputable def vs15 : List Expr := (d15.map (·.2.2.1)).getD []
noncomputable def q15 : Pos := (d15.map (·.2.2.2.1)).getD pos0
noncomputable def p15 : Pos := (d15.map (·.2.2.2.2)).getD pos0
noncomputable def st15 : Stmt := .Assign ts15 (.Dict ks15 vs15 q15) p15
theorem drop15 : (behindTheImports pw).drop 15 = st15 :: (behindTheImports pw).drop 16 := by kernel_rfl
theorem items15 : (evalEachOpt ks15 envT).zip ((evalEach vs15 envT).map fun v => do let x ← v; standAt q15; Pure.pure x) = (b3L.map (pT q15)).map fun p => (some p.1, p.2) := by kernel_rfl
noncomputable def K15 (v : Value) : Sem Flow := do assignStores envT v (← swappedStores ts15 (.Dict ks15 vs15 q15) envT) ((assignEach ts15 envT).map (·.2))
theorem exec15 : exec st15 envT = (standAt p15 >>= fun _ => (standAt q15 >>= fun _ => dictDisplay ((evalEachOpt ks15 envT).zip ((evalEach vs15 envT).map fun v => do let x ← v; standAt q15; Pure.pure x))) >>= K15) := by
  kernel_rfl
end BH
namespace BH
open BK
set_option maxRecDepth 100000
set_option maxHeartbeats 0
noncomputable def listC (w : World) : List Obj := (treeC w.params).list 113
theorem listC_len (w : World) : (listC w).length = 113 := by unfold listC BT.list; rw [List.length_map, List.length_range]
theorem store15 (M : Nat) (os : OsState) (K : Flow → Sem Fin) (H : Value → Sem Fin) (gd : Bool → Bool) (lv : List Value → List Value) (w : World) :
    TR w (M + 7) (sO (listC w ++ dO (bigE 38 ++ lastE) :: (subsE 38 ++ [dO lastE])) 2323 os) ((K15 (.ref 113)).wrap K H gd lv) q15 = TR w M (stT treeD 152 2324 w os).abs (K .next) ⟨91, 0, 91, 13⟩ := by
  unfold TR
  rw [Fast.te14082659384304107361, Fast.te14364793385576792824]
  kernel_rfl
theorem Gx.stored (w : World) (os : OsState) : Gx w 7 (K15 (.ref 113)) (sO (listC w ++ dO (bigE 38 ++ lastE) :: (subsE 38 ++ [dO lastE])) 2323 os) q15 .next (stT treeD 152 2324 w os).abs ⟨91, 0, 91, 13⟩ := by
  intro K H gd lv N r h
  rw [store15]
  exact h
theorem stC_eq (w : World) (os : OsState) : (stT treeC 113 373 w os).abs = sO (listC w) 373 os := rfl
theorem Gx.stmt15 (w : World) (os : OsState) (p : Pos) : Gx w 25009 (exec st15 envT) (stT treeC 113 373 w os).abs p .next (stT treeD 152 2324 w os).abs ⟨91, 0, 91, 13⟩ := by
  rw [exec15, items15, stC_eq]
  refine Gx.bind (n := 1) (m := 7 + 25001) (a := ()) (s₁ := sO (listC w) 373 os) (p₁ := p15) (Gx.at Gx.pure) ?_
  refine Gx.bind (n := 25001) (m := 7) (a := .ref 113) (p₁ := q15) ?_ (Gx.stored w os)
  exact Gx.bind (n := 1) (m := 25000) (a := ()) (s₁ := sO (listC w) 373 os) (p₁ := q15) (Gx.at Gx.pure) (Gx.display (listC_len w))
theorem piece15 {N : Nat} {r : Shared} {p : Pos} {rest : List Stmt} (w : World) (os : OsState) (k : topRun treeTable pw w 11 annT N (stT treeD 152 2324 w os).abs (restOf rest envT codeT ⟨91, 0, 91, 13⟩ [topFrame pos0]) = some r) :
    topRun treeTable pw w 11 annT (N + 25009) (stT treeC 113 373 w os).abs (restOf (st15 :: rest) envT codeT p [topFrame pos0]) = some r := by
  unfold restOf
  rw [execs_cons_wrap]
  exact Gx.stmt15 w os p _ _ _ _ N r k
end BH
namespace BH
open BK
set_option maxRecDepth 100000
set_option maxHeartbeats 0
theorem run_up {tb : String → Option Builtin} {p : Program} {w : World} {n₀ N M : Nat} {ann : Option Value} {s r : Shared} {t : Thread} (h : topRun tb p w n₀ ann N s t = some r) (le : N ≤ M) : topRun tb p w n₀ ann M s t = some r := by
  have := topRun_mono (M - N) _ _ _ _ h
  rwa [show N + (M - N) = M by lia] at this
noncomputable abbrev bT : List Stmt := behindTheImports pw
theorem bT_eq : bT = bT.take 13 ++ ((bT.drop 13).take 1 ++ ((bT.drop 14).take 1 ++ (st15 :: ((bT.drop 16).take 10 ++ [])))) := by kernel_rfl
theorem run_top (w : World) (os : OsState) : topRun treeTable pw w 11 annT 27000 ⟨boot_heap w.params, #[], boot_drawn, boot_toks, os⟩ (topStub pw) = some (stT treeF 201 2389 w os).abs := by
  have f := congrFun (h_fin w) os
  have hF := segRun_of (congrFun (h_F w) os)
  have hC := segRun_of (congrFun (h_C w) os)
  have hB := segRun_of (congrFun (h_B w) os)
  have hA := segRun_of (congrFun (h_A w) os)
  have k := piece_app (rest := []) hF (piece_nil f)
  have k := piece15 (p := ⟨89, 0, 90, 30⟩) w os k
  have k := piece_app hC k
  have k := piece_app hB k
  have k := piece_app hA k
  rw [← bT_eq] at k
  have k := piece_block (congrFun (h_block w) os) k
  have k := go_top (congrFun (h_pre w) os) k
  exact run_up k (by decide)
end BH
namespace BH
open BK
set_option maxRecDepth 100000
set_option maxHeartbeats 0
noncomputable def qT : Program := view pw [6, 8, 9, 11, 14, 16, 18, 19, 20, 21, 22, 23, 24, 25]
noncomputable def looseT : List Str := [Str.ofString "insort_right", Str.ofString "bisect_right", Str.ofString "insort_left", Str.ofString "bisect_left", Str.ofString "UNKNOWN", Str.ofString "b1_set", Str.ofString "b3_exceptions"]
noncomputable def XtT (_ : Shared) : Bool := true
noncomputable def heapT (w : World) : Heap := absHeap (treeF w.params) 201 {}
theorem open_T : ∀ w : World, (fencedOpening treeTable pw w 40000).map (fun s => (s.heap, s.gens, s.drawn, s.toks)) = some (boot_heap w.params, Array.mk [], boot_drawn, boot_toks) :=
  boot_open (by kernel_rfl) (by decide) (fun s => by kernel_rfl)
theorem size_T (w : World) : ((boot_heap w.params).isNs mainGlobals && (#[] : Array GenState).size == 0, (boot_heap w.params).objs.size, (boot_heap w.params).nsMap mainGlobals "__annotations__") = (true, 11, annT) := by kernel_rfl
theorem look_1 (w : World) (os : OsState) : (staticsOk (importedModules pw.main.body) (boot_heap w.params) (heapT w) && namesBound pw (heapT w) && gensDone ⟨heapT w, #[], {}, 2389, os⟩ && laidKept (boot_heap w.params) (heapT w)) = true := by kernel_rfl
end BH
namespace BH
open BK
set_option maxRecDepth 100000
set_option maxHeartbeats 0
noncomputable abbrev sT (w : World) (os : OsState) : Shared := ⟨heapT w, #[], {}, 2389, os⟩
theorem l0 (w : World) (os : OsState) : seen ((recsOf qT).map (·.name)) (ownsOf qT) [] { sT w os with gens := #[] } = expectedOf qT := by kernel_rfl
theorem l1 (w : World) (os : OsState) : (sT w os).heap.bltView = bltViewBooted := by kernel_rfl
theorem l2 (w : World) (os : OsState) : ((sT w os).heap.keysOk (looseW qT looseT) ((recsOf qT).map (·.name)) ((litsOf qT).map (·.1)) ((clssOf qT (looseW qT looseT)).map (·.name)) && (sT w os).heap.accountedOkI (importedModules pw.main.body) && (sT w os).heap.isNs mainGlobals && (sT w os).heap.isNs builtinsNs && tablesOk qT (sT w os).heap && XtT (sT w os) && (if true = true then (sT w os).gens.size == 0 else !leftWithCleanup (sT w os).gens)) = true := by kernel_rfl
theorem l3 (w : World) (os : OsState) : tabsOk qT (sT w os) = true := by kernel_rfl
theorem l4 (w : World) (os : OsState) : pinSeenD qT (drecsOf qT) (sT w os) = pinGoodD (drecsOf qT) := by kernel_rfl
theorem l5 (w : World) (os : OsState) : plainSeenE qT (looseW qT looseT) (sT w os) = plainGoodE qT (looseW qT looseT) := by kernel_rfl
theorem l6 (w : World) (os : OsState) : plainSeenD qT looseT (sT w os) = plainGoodD qT looseT := by kernel_rfl
theorem l7 (w : World) (os : OsState) : wideSeen qT (sT w os) = wideGood qT := by kernel_rfl
theorem l8 (w : World) (os : OsState) : clsSeenW qT looseT (sT w os) = clsGoodW qT looseT := by kernel_rfl
theorem look_2 (w : World) (os : OsState) : openSeen qT looseT (importedModules pw.main.body) XtT true (sT w os) = openGood qT looseT :=
  looks_pair (l0 w os) (looks_pair (l1 w os) (looks_pair (l2 w os) (looks_pair (l3 w os) (looks_pair (l4 w os) (looks_pair (l5 w os) (looks_pair (l6 w os) (looks_pair (l7 w os) (l8 w os))))))))
theorem left_T : LeftO pw qT looseT XtT (fun s => s.heap) heapT 40000 :=
  LeftO.of_pieces (M := 27000) (m₀ := 11) (ann := annT) (H₀ := boot_heap) (H₁ := fun P => absHeap (treeF P) 201 {}) (gs₀ := #[]) (gs₁ := #[]) (d₀ := boot_drawn) (d₁ := {}) (k₀ := boot_toks) (k₁ := 2389)
    open_T size_T run_top (by decide) fun w => funext fun os => looks_pair (look_1 w os) (looks_pair (look_2 w os) rfl)
end BH
namespace BH
open BK
set_option maxRecDepth 100000
set_option maxHeartbeats 0
/-! ### what the heap after the top gives -/
noncomputable def hTop (w : World) : Heap := absHeap ((treeF w.params).set 192 fun _ => { cls := .none, data := .freed }) 201 {}
theorem t192 (w : World) : (treeF w.params).get 192 = some (ob192 w.params) := by kernel_rfl
theorem hTop_eq (w : World) : hTop w = (heapT w).update 192 fun _ => { cls := .none, data := .freed } := absHeap_set (t192 w)
theorem hTop_get (w : World) {b : Addr} {o : Obj} (h : (hTop w).get? b = some o) : (heapT w).get? b = some o ∧ b ≠ 192 := by
  have n : b ≠ 192 := by
    rintro rfl
    have : (hTop w).get? 192 = none := by kernel_rfl
    rw [this] at h; cases h
  rw [hTop_eq] at h
  exact ⟨(Heap.get?_update_ne _ _ _ _ n).symm.trans h, n⟩
theorem hTop_size (w : World) : (hTop w).objs.size = 201 := absHeap_size _ _ _
theorem hTop_200 (w : World) : ((hTop w).get? 200).isSome = true := by kernel_rfl
theorem hTop_tab (w : World) : (hTop w).get? 192 = none := by kernel_rfl
theorem frag_two {h : Heap} {a b : Addr} {x y : Obj} (e1 : h.get? a = some x) (e2 : h.get? b = some y) : Frag.In [(a, x), (b, y)] h := fun q o e => by
  rw [List.lookup_cons] at e
  cases h1 : (q == a) with
  | true => rw [h1] at e; cases e; rw [eq_of_beq h1]; exact e1
  | false =>
    rw [h1] at e
    dsimp only at e
    rw [List.lookup_cons] at e
    cases h2 : (q == b) with
    | true => rw [h2] at e; cases e; rw [eq_of_beq h2]; exact e2
    | false => rw [h2] at e; cases e
theorem codeRec_of {h : Heap} {c : Addr} {o : Obj} {q : Str} {vs : Array Value} {t : Tok} (e : h.get? c = some o) (d : o.data = .fields vs) (v : vs[1]? = some (.str q t)) : h.CodeRec (.ref c) q := ⟨c, o, vs, t, rfl, e, d, v⟩
theorem fn_23 (w : World) : FnAt (hTop w) 23 1 (.ref 15) (.ref 16) := ⟨PySem.Value.str (PySem.Str.ofString "cpy313.bisect") 187, 22, by kernel_rfl, codeRec_of (o := ob22 w.params) (vs := #[PySem.Value.str (PySem.Str.ofString "insort_right") 191, PySem.Value.str (PySem.Str.ofString "insort_right") 192, PySem.Value.str (PySem.Str.ofString "/claim/cut.py") 193, PySem.Value.int 2 0, PySem.Value.int 4 0, PySem.Value.int 0 0, PySem.Value.int 1 0, PySem.Value.int 3 0, PySem.Value.ref 17, PySem.Value.bool Bool.true, PySem.Value.int 181 0, PySem.Value.ref 18, PySem.Value.none, PySem.Value.ref 19, PySem.Value.ref 20, PySem.Value.ref 21, PySem.Value.int 199 0, PySem.Value.int 2 0, PySem.Value.str (PySem.Str.ofString "/claim/cut.py") 200]) (t := 192) (by kernel_rfl) (by kernel_rfl) (by kernel_rfl)⟩
theorem fn_32 (w : World) : FnAt (hTop w) 32 2 (.ref 24) (.ref 25) := ⟨PySem.Value.str (PySem.Str.ofString "cpy313.bisect") 187, 31, by kernel_rfl, codeRec_of (o := ob31 w.params) (vs := #[PySem.Value.str (PySem.Str.ofString "bisect_right") 204, PySem.Value.str (PySem.Str.ofString "bisect_right") 205, PySem.Value.str (PySem.Str.ofString "/claim/cut.py") 206, PySem.Value.int 8 0, PySem.Value.int 4 0, PySem.Value.int 0 0, PySem.Value.int 1 0, PySem.Value.int 3 0, PySem.Value.ref 26, PySem.Value.bool Bool.true, PySem.Value.int 181 0, PySem.Value.ref 27, PySem.Value.none, PySem.Value.ref 28, PySem.Value.ref 29, PySem.Value.ref 30, PySem.Value.int 213 0, PySem.Value.int 8 0, PySem.Value.str (PySem.Str.ofString "/claim/cut.py") 214]) (t := 205) (by kernel_rfl) (by kernel_rfl) (by kernel_rfl)⟩
theorem fn_41 (w : World) : FnAt (hTop w) 41 3 (.ref 33) (.ref 34) := ⟨PySem.Value.str (PySem.Str.ofString "cpy313.bisect") 187, 40, by kernel_rfl, codeRec_of (o := ob40 w.params) (vs := #[PySem.Value.str (PySem.Str.ofString "insort_left") 218, PySem.Value.str (PySem.Str.ofString "insort_left") 219, PySem.Value.str (PySem.Str.ofString "/claim/cut.py") 220, PySem.Value.int 28 0, PySem.Value.int 4 0, PySem.Value.int 0 0, PySem.Value.int 1 0, PySem.Value.int 3 0, PySem.Value.ref 35, PySem.Value.bool Bool.true, PySem.Value.int 181 0, PySem.Value.ref 36, PySem.Value.none, PySem.Value.ref 37, PySem.Value.ref 38, PySem.Value.ref 39, PySem.Value.int 226 0, PySem.Value.int 28 0, PySem.Value.str (PySem.Str.ofString "/claim/cut.py") 227]) (t := 219) (by kernel_rfl) (by kernel_rfl) (by kernel_rfl)⟩
theorem fn_50 (w : World) : FnAt (hTop w) 50 4 (.ref 42) (.ref 43) := ⟨PySem.Value.str (PySem.Str.ofString "cpy313.bisect") 187, 49, by kernel_rfl, codeRec_of (o := ob49 w.params) (vs := #[PySem.Value.str (PySem.Str.ofString "bisect_left") 231, PySem.Value.str (PySem.Str.ofString "bisect_left") 232, PySem.Value.str (PySem.Str.ofString "/claim/cut.py") 233, PySem.Value.int 34 0, PySem.Value.int 4 0, PySem.Value.int 0 0, PySem.Value.int 1 0, PySem.Value.int 3 0, PySem.Value.ref 44, PySem.Value.bool Bool.true, PySem.Value.int 181 0, PySem.Value.ref 45, PySem.Value.none, PySem.Value.ref 46, PySem.Value.ref 47, PySem.Value.ref 48, PySem.Value.int 240 0, PySem.Value.int 34 0, PySem.Value.str (PySem.Str.ofString "/claim/cut.py") 241]) (t := 232) (by kernel_rfl) (by kernel_rfl) (by kernel_rfl)⟩
theorem fn_80 (w : World) : FnAt (hTop w) 80 8 (.none) (.none) := ⟨PySem.Value.str (PySem.Str.ofString "cpy313.dis") 243, 79, by kernel_rfl, codeRec_of (o := ob79 w.params) (vs := #[PySem.Value.str (PySem.Str.ofString "_get_name_info") 273, PySem.Value.str (PySem.Str.ofString "_get_name_info") 274, PySem.Value.str (PySem.Str.ofString "/claim/cut.py") 275, PySem.Value.int 60 0, PySem.Value.int 2 0, PySem.Value.int 0 0, PySem.Value.int 0 0, PySem.Value.int 11 0, PySem.Value.ref 74, PySem.Value.bool Bool.true, PySem.Value.int 181 0, PySem.Value.ref 75, PySem.Value.none, PySem.Value.ref 76, PySem.Value.ref 77, PySem.Value.ref 78, PySem.Value.int 280 0, PySem.Value.int 60 0, PySem.Value.str (PySem.Str.ofString "/claim/cut.py") 281]) (t := 274) (by kernel_rfl) (by kernel_rfl) (by kernel_rfl)⟩
theorem fn_87 (w : World) : FnAt (hTop w) 87 9 (.none) (.none) := ⟨PySem.Value.str (PySem.Str.ofString "cpy313.dis") 243, 86, by kernel_rfl, codeRec_of (o := ob86 w.params) (vs := #[PySem.Value.str (PySem.Str.ofString "_parse_varint") 283, PySem.Value.str (PySem.Str.ofString "_parse_varint") 284, PySem.Value.str (PySem.Str.ofString "/claim/cut.py") 285, PySem.Value.int 66 0, PySem.Value.int 1 0, PySem.Value.int 0 0, PySem.Value.int 0 0, PySem.Value.int 3 0, PySem.Value.ref 81, PySem.Value.bool Bool.true, PySem.Value.int 181 0, PySem.Value.ref 82, PySem.Value.none, PySem.Value.ref 83, PySem.Value.ref 84, PySem.Value.ref 85, PySem.Value.int 289 0, PySem.Value.int 66 0, PySem.Value.str (PySem.Str.ofString "/claim/cut.py") 290]) (t := 284) (by kernel_rfl) (by kernel_rfl) (by kernel_rfl)⟩
theorem fn_94 (w : World) : FnAt (hTop w) 94 11 (.none) (.none) := ⟨PySem.Value.str (PySem.Str.ofString "cpy313.doctest") 292, 93, by kernel_rfl, codeRec_of (o := ob93 w.params) (vs := #[PySem.Value.str (PySem.Str.ofString "_strip_exception_details") 294, PySem.Value.str (PySem.Str.ofString "_strip_exception_details") 295, PySem.Value.str (PySem.Str.ofString "/claim/cut.py") 296, PySem.Value.int 75 0, PySem.Value.int 1 0, PySem.Value.int 0 0, PySem.Value.int 0 0, PySem.Value.int 3 0, PySem.Value.ref 88, PySem.Value.bool Bool.true, PySem.Value.int 181 0, PySem.Value.ref 89, PySem.Value.none, PySem.Value.ref 90, PySem.Value.ref 91, PySem.Value.ref 92, PySem.Value.int 301 0, PySem.Value.int 75 0, PySem.Value.str (PySem.Str.ofString "/claim/cut.py") 302]) (t := 295) (by kernel_rfl) (by kernel_rfl) (by kernel_rfl)⟩
theorem fn_112 (w : World) : FnAt (hTop w) 112 14 (.none) (.none) := ⟨PySem.Value.str (PySem.Str.ofString "cpy313.stringprep") 304, 111, by kernel_rfl, codeRec_of (o := ob111 w.params) (vs := #[PySem.Value.str (PySem.Str.ofString "in_table_b1") 366, PySem.Value.str (PySem.Str.ofString "in_table_b1") 367, PySem.Value.str (PySem.Str.ofString "/claim/cut.py") 368, PySem.Value.int 89 0, PySem.Value.int 1 0, PySem.Value.int 0 0, PySem.Value.int 0 0, PySem.Value.int 3 0, PySem.Value.ref 106, PySem.Value.bool Bool.true, PySem.Value.int 181 0, PySem.Value.ref 107, PySem.Value.none, PySem.Value.ref 108, PySem.Value.ref 109, PySem.Value.ref 110, PySem.Value.int 370 0, PySem.Value.int 89 0, PySem.Value.str (PySem.Str.ofString "/claim/cut.py") 371]) (t := 367) (by kernel_rfl) (by kernel_rfl) (by kernel_rfl)⟩
theorem fn_158 (w : World) : FnAt (hTop w) 158 16 (.none) (.none) := ⟨PySem.Value.str (PySem.Str.ofString "cpy313.stringprep") 304, 157, by kernel_rfl, codeRec_of (o := ob157 w.params) (vs := #[PySem.Value.str (PySem.Str.ofString "map_table_b3") 2324, PySem.Value.str (PySem.Str.ofString "map_table_b3") 2325, PySem.Value.str (PySem.Str.ofString "/claim/cut.py") 2326, PySem.Value.int 92 0, PySem.Value.int 1 0, PySem.Value.int 0 0, PySem.Value.int 0 0, PySem.Value.int 3 0, PySem.Value.ref 152, PySem.Value.bool Bool.true, PySem.Value.int 181 0, PySem.Value.ref 153, PySem.Value.none, PySem.Value.ref 154, PySem.Value.ref 155, PySem.Value.ref 156, PySem.Value.int 2329 0, PySem.Value.int 92 0, PySem.Value.str (PySem.Str.ofString "/claim/cut.py") 2330]) (t := 2325) (by kernel_rfl) (by kernel_rfl) (by kernel_rfl)⟩
theorem fn_163 (w : World) : FnAt (hTop w) 163 18 (.none) (.none) := ⟨PySem.Value.str (PySem.Str.ofString "law_kl0253_01") 2332, 162, by kernel_rfl, codeRec_of (o := ob162 w.params) (vs := #[PySem.Value.str (PySem.Str.ofString "_law_line") 2334, PySem.Value.str (PySem.Str.ofString "_law_line") 2335, PySem.Value.str (PySem.Str.ofString "/claim/cut.py") 2336, PySem.Value.int 98 0, PySem.Value.int 1 0, PySem.Value.int 0 0, PySem.Value.int 0 0, PySem.Value.int 3 0, PySem.Value.ref 159, PySem.Value.bool Bool.true, PySem.Value.int 181 0, PySem.Value.ref 160, PySem.Value.none, PySem.Value.none, PySem.Value.none, PySem.Value.ref 161, PySem.Value.int 2337 0, PySem.Value.int 98 0, PySem.Value.str (PySem.Str.ofString "/claim/cut.py") 2338]) (t := 2335) (by kernel_rfl) (by kernel_rfl) (by kernel_rfl)⟩
theorem fn_170 (w : World) : FnAt (hTop w) 170 19 (.none) (.none) := ⟨PySem.Value.str (PySem.Str.ofString "law_kl0253_01") 2332, 169, by kernel_rfl, codeRec_of (o := ob169 w.params) (vs := #[PySem.Value.str (PySem.Str.ofString "_law_back") 2340, PySem.Value.str (PySem.Str.ofString "_law_back") 2341, PySem.Value.str (PySem.Str.ofString "/claim/cut.py") 2342, PySem.Value.int 105 0, PySem.Value.int 1 0, PySem.Value.int 0 0, PySem.Value.int 0 0, PySem.Value.int 3 0, PySem.Value.ref 164, PySem.Value.bool Bool.true, PySem.Value.int 181 0, PySem.Value.ref 165, PySem.Value.none, PySem.Value.ref 166, PySem.Value.ref 167, PySem.Value.ref 168, PySem.Value.int 2350 0, PySem.Value.int 105 0, PySem.Value.str (PySem.Str.ofString "/claim/cut.py") 2351]) (t := 2341) (by kernel_rfl) (by kernel_rfl) (by kernel_rfl)⟩
theorem fn_175 (w : World) : FnAt (hTop w) 175 20 (.none) (.none) := ⟨PySem.Value.str (PySem.Str.ofString "law_kl0253_01") 2332, 174, by kernel_rfl, codeRec_of (o := ob174 w.params) (vs := #[PySem.Value.str (PySem.Str.ofString "_law_ahead") 2353, PySem.Value.str (PySem.Str.ofString "_law_ahead") 2354, PySem.Value.str (PySem.Str.ofString "/claim/cut.py") 2355, PySem.Value.int 120 0, PySem.Value.int 1 0, PySem.Value.int 0 0, PySem.Value.int 0 0, PySem.Value.int 3 0, PySem.Value.ref 171, PySem.Value.bool Bool.true, PySem.Value.int 181 0, PySem.Value.ref 172, PySem.Value.none, PySem.Value.none, PySem.Value.none, PySem.Value.ref 173, PySem.Value.int 2356 0, PySem.Value.int 120 0, PySem.Value.str (PySem.Str.ofString "/claim/cut.py") 2357]) (t := 2354) (by kernel_rfl) (by kernel_rfl) (by kernel_rfl)⟩
theorem fn_180 (w : World) : FnAt (hTop w) 180 21 (.none) (.none) := ⟨PySem.Value.str (PySem.Str.ofString "law_kl0253_01") 2332, 179, by kernel_rfl, codeRec_of (o := ob179 w.params) (vs := #[PySem.Value.str (PySem.Str.ofString "_law_fetches") 2359, PySem.Value.str (PySem.Str.ofString "_law_fetches") 2360, PySem.Value.str (PySem.Str.ofString "/claim/cut.py") 2361, PySem.Value.int 140 0, PySem.Value.int 2 0, PySem.Value.int 0 0, PySem.Value.int 0 0, PySem.Value.int 3 0, PySem.Value.ref 176, PySem.Value.bool Bool.true, PySem.Value.int 181 0, PySem.Value.ref 177, PySem.Value.none, PySem.Value.none, PySem.Value.none, PySem.Value.ref 178, PySem.Value.int 2362 0, PySem.Value.int 140 0, PySem.Value.str (PySem.Str.ofString "/claim/cut.py") 2363]) (t := 2360) (by kernel_rfl) (by kernel_rfl) (by kernel_rfl)⟩
theorem fn_185 (w : World) : FnAt (hTop w) 185 22 (.none) (.none) := ⟨PySem.Value.str (PySem.Str.ofString "law_kl0253_01") 2332, 184, by kernel_rfl, codeRec_of (o := ob184 w.params) (vs := #[PySem.Value.str (PySem.Str.ofString "_law_least") 2365, PySem.Value.str (PySem.Str.ofString "_law_least") 2366, PySem.Value.str (PySem.Str.ofString "/claim/cut.py") 2367, PySem.Value.int 146 0, PySem.Value.int 2 0, PySem.Value.int 0 0, PySem.Value.int 0 0, PySem.Value.int 3 0, PySem.Value.ref 181, PySem.Value.bool Bool.true, PySem.Value.int 181 0, PySem.Value.ref 182, PySem.Value.none, PySem.Value.none, PySem.Value.none, PySem.Value.ref 183, PySem.Value.int 2368 0, PySem.Value.int 146 0, PySem.Value.str (PySem.Str.ofString "/claim/cut.py") 2369]) (t := 2366) (by kernel_rfl) (by kernel_rfl) (by kernel_rfl)⟩
theorem fn_190 (w : World) : FnAt (hTop w) 190 23 (.none) (.none) := ⟨PySem.Value.str (PySem.Str.ofString "law_kl0253_01") 2332, 189, by kernel_rfl, codeRec_of (o := ob189 w.params) (vs := #[PySem.Value.str (PySem.Str.ofString "_law_octets") 2371, PySem.Value.str (PySem.Str.ofString "_law_octets") 2372, PySem.Value.str (PySem.Str.ofString "/claim/cut.py") 2373, PySem.Value.int 159 0, PySem.Value.int 2 0, PySem.Value.int 0 0, PySem.Value.int 0 0, PySem.Value.int 3 0, PySem.Value.ref 186, PySem.Value.bool Bool.true, PySem.Value.int 181 0, PySem.Value.ref 187, PySem.Value.none, PySem.Value.none, PySem.Value.none, PySem.Value.ref 188, PySem.Value.int 2374 0, PySem.Value.int 159 0, PySem.Value.str (PySem.Str.ofString "/claim/cut.py") 2375]) (t := 2372) (by kernel_rfl) (by kernel_rfl) (by kernel_rfl)⟩
theorem fn_195 (w : World) : FnAt (hTop w) 195 24 (.none) (.none) := ⟨PySem.Value.str (PySem.Str.ofString "law_kl0253_01") 2332, 194, by kernel_rfl, codeRec_of (o := ob194 w.params) (vs := #[PySem.Value.str (PySem.Str.ofString "_law_read") 2377, PySem.Value.str (PySem.Str.ofString "_law_read") 2378, PySem.Value.str (PySem.Str.ofString "/claim/cut.py") 2379, PySem.Value.int 162 0, PySem.Value.int 1 0, PySem.Value.int 0 0, PySem.Value.int 0 0, PySem.Value.int 3 0, PySem.Value.ref 191, PySem.Value.bool Bool.true, PySem.Value.int 181 0, PySem.Value.ref 192, PySem.Value.none, PySem.Value.none, PySem.Value.none, PySem.Value.ref 193, PySem.Value.int 2380 0, PySem.Value.int 162 0, PySem.Value.str (PySem.Str.ofString "/claim/cut.py") 2381]) (t := 2378) (by kernel_rfl) (by kernel_rfl) (by kernel_rfl)⟩
theorem fn_200 (w : World) : FnAt (hTop w) 200 25 (.none) (.none) := ⟨PySem.Value.str (PySem.Str.ofString "law_kl0253_01") 2332, 199, by kernel_rfl, codeRec_of (o := ob199 w.params) (vs := #[PySem.Value.str (PySem.Str.ofString "law") 2383, PySem.Value.str (PySem.Str.ofString "law") 2384, PySem.Value.str (PySem.Str.ofString "/claim/cut.py") 2385, PySem.Value.int 175 0, PySem.Value.int 1 0, PySem.Value.int 0 0, PySem.Value.int 0 0, PySem.Value.int 3 0, PySem.Value.ref 196, PySem.Value.bool Bool.true, PySem.Value.int 181 0, PySem.Value.ref 197, PySem.Value.none, PySem.Value.none, PySem.Value.none, PySem.Value.ref 198, PySem.Value.int 2386 0, PySem.Value.int 175 0, PySem.Value.str (PySem.Str.ofString "/claim/cut.py") 2387]) (t := 2384) (by kernel_rfl) (by kernel_rfl) (by kernel_rfl)⟩
theorem df_23 (w : World) : ∃ hh, Frag.In (dfF 15 16 189 190 hh) (hTop w) := ⟨PyData.keyHash w.params (Str.ofString "key"), frag_two (by kernel_rfl) (by kernel_rfl)⟩
theorem df_32 (w : World) : ∃ hh, Frag.In (dfF 24 25 202 203 hh) (hTop w) := ⟨PyData.keyHash w.params (Str.ofString "key"), frag_two (by kernel_rfl) (by kernel_rfl)⟩
theorem df_41 (w : World) : ∃ hh, Frag.In (dfF 33 34 216 217 hh) (hTop w) := ⟨PyData.keyHash w.params (Str.ofString "key"), frag_two (by kernel_rfl) (by kernel_rfl)⟩
theorem df_50 (w : World) : ∃ hh, Frag.In (dfF 42 43 229 230 hh) (hTop w) := ⟨PyData.keyHash w.params (Str.ofString "key"), frag_two (by kernel_rfl) (by kernel_rfl)⟩
theorem code_T (w : World) : CodeAt (hTop w) := ⟨⟨PySem.Value.str (PySem.Str.ofString "law_kl0253_01") 2332, by kernel_rfl⟩, ⟨ob194 w.params, #[PySem.Value.str (PySem.Str.ofString "_law_read") 2377, PySem.Value.str (PySem.Str.ofString "_law_read") 2378, PySem.Value.str (PySem.Str.ofString "/claim/cut.py") 2379, PySem.Value.int 162 0, PySem.Value.int 1 0, PySem.Value.int 0 0, PySem.Value.int 0 0, PySem.Value.int 3 0, PySem.Value.ref 191, PySem.Value.bool Bool.true, PySem.Value.int 181 0, PySem.Value.ref 192, PySem.Value.none, PySem.Value.none, PySem.Value.none, PySem.Value.ref 193, PySem.Value.int 2380 0, PySem.Value.int 162 0, PySem.Value.str (PySem.Str.ofString "/claim/cut.py") 2381], Str.ofString "/claim/cut.py", 2381, 3, 0, true, 181, 0, by kernel_rfl, by kernel_rfl, by kernel_rfl, by kernel_rfl, by kernel_rfl, by kernel_rfl, by kernel_rfl, by kernel_rfl, by kernel_rfl, by decide⟩⟩
theorem isNs_T (w : World) : (hTop w).isNs mainGlobals = true := by kernel_rfl
theorem isNs_B (w : World) : (hTop w).isNs builtinsNs = true := by kernel_rfl
theorem isNs_S (w : World) : (hTop w).isNs cStatics = true := by kernel_rfl
theorem glob_T (w : World) : (globsL.map fun p => (hTop w).nsMap mainGlobals p.1) = globsL.map fun p => some p.2 := by kernel_rfl
theorem globn_T (w : World) : (bltsL.map fun p => (hTop w).nsMap mainGlobals p.1) = bltsL.map fun _ => none := by kernel_rfl
theorem blt_T (w : World) : (bltsL.map fun p => (hTop w).nsMap builtinsNs p.1) = bltsL.map fun p => some p.2 := by kernel_rfl
theorem map_at {α β : Type} {f g : α → β} : ∀ {l : List α}, l.map f = l.map g → ∀ p ∈ l, f p = g p
  | [], _, p, h => by cases h
  | a :: l, e, p, h => by
    rw [List.map_cons, List.map_cons] at e
    injection e with e1 e2
    rcases List.mem_cons.mp h with rfl | h
    · exact e1
    · exact map_at e2 p h
theorem nolimit_T (w : World) : (hTop w).NoLimit := ⟨_, Heap.Ns.of_isNs (isNs_S w), by kernel_rfl⟩
theorem bmain_T (w : World) : (hTop w).BuiltinsAt ((hTop w).nsMap mainGlobals) tabAt := by
  refine ⟨4, boot_o_4 w.params, ?_, by decide, by decide, by decide, ?_, ?_, ?_, ?_⟩ <;> kernel_rfl
noncomputable def setL : List (Int × Value) := [(65024, Value.int 65024 322), (65025, Value.int 65025 323), (65026, Value.int 65026 324), (65027, Value.int 65027 325), (65028, Value.int 65028 326), (65029, Value.int 65029 327), (6150, Value.int 6150 308), (65030, Value.int 65030 328), (65031, Value.int 65031 329), (65032, Value.int 65032 330), (65033, Value.int 65033 331), (6155, Value.int 6155 309), (6156, Value.int 6156 310), (6157, Value.int 6157 311), (8203, Value.int 8203 312), (8204, Value.int 8204 313), (8205, Value.int 8205 314), (65034, Value.int 65034 332), (65035, Value.int 65035 333), (65036, Value.int 65036 334), (65037, Value.int 65037 335), (65038, Value.int 65038 336), (65039, Value.int 65039 337), (173, Value.int 173 306), (847, Value.int 847 307), (8288, Value.int 8288 315), (65279, Value.int 65279 316)]
theorem b1_mem (k : Int) : b1S k = true ↔ ∃ e ∈ setL, Value.isInt k e.2 = true := by
  have h1 : ∀ x ∈ ([173, 847, 6150, 6155, 6156, 6157, 8203, 8204, 8205, 8288, 65279] : List Int), ∃ e ∈ setL, Value.isInt x e.2 = true := by decide +kernel
  have h2 : ∀ j : Fin 16, ∃ e ∈ setL, Value.isInt (65024 + (j.val : Int)) e.2 = true := by decide +kernel
  have h3 : ∀ e ∈ setL, ∀ k, Value.isInt k e.2 = true → b1S k = true := by
    have q : (setL.all fun e => match e.2 with | .int n _ => b1S n | _ => false) = true := by decide +kernel
    intro e he k hk
    have := List.all_eq_true.mp q e he
    obtain ⟨h, v⟩ := e
    cases v <;> simp_all [Value.isInt]
  constructor
  · intro h
    unfold b1S at h
    rcases Bool.or_eq_true _ _ ▸ h with h | h
    · exact h1 k (List.contains_iff_mem.mp h)
    · rw [Bool.and_eq_true, decide_eq_true_eq, decide_eq_true_eq] at h
      have e : k = 65024 + (((⟨(k - 65024).toNat, by lia⟩ : Fin 16).val : Nat) : Int) := by show k = 65024 + ((k - 65024).toNat : Int); lia
      rw [e]
      exact h2 _
  · rintro ⟨e, he, hk⟩; exact h3 e he k hk
theorem set_elems (prog : Program) (w : World) : ElemsOf (PySem.intKind prog w) setL := by
  intro e he
  have key : setL.all (fun e => (match e.2 with | .int k _ => hashInt k == e.1 | _ => false) && e.2.scannable) = true := by kernel_rfl
  have := List.all_eq_true.mp key e he
  obtain ⟨h, v⟩ := e
  cases v <;> first | (simp at this; done) | skip
  rename_i k t
  rw [Bool.and_eq_true] at this
  exact ⟨⟨k, beq_self_eq_true k, (eq_of_beq this.1).symm⟩, this.2⟩
theorem set_T (w : World) : SetAt (hTop w) := fun prog w' => by
  refine ⟨setO w.params, ⟨setL⟩, 29, { mask := 127, place := #[0, 1, 2, 3, 4, 5, 6, 7, 8, 9, 10, 11, 12, 13, 14, 15, 16, 17, 18, 19, 20, 21, 22, 45, 79, 96, 127], dummies := #[], finger := 0, led := !w.params.followText "set-order", moves := 2, plain := true }, by kernel_rfl, ⟨rfl, rfl, rfl⟩, rfl, set_elems prog w', b1_mem, ?_, by kernel_rfl, rfl⟩
  show 27 < scanBound
  decide
noncomputable def kvsN : Nat → Nat → List (Int × Str) → List (Int × Value)
  | 0, _, _ => []
  | _ + 1, _, [] => []
  | n + 1, i, p :: r => (p.1, .str p.2 (tokAt i + 1)) :: kvsN n (i + 1) r
theorem kvsN_fst : ∀ (n i : Nat) (l : List (Int × Str)), (kvsN n i l).map (·.1) = (l.take n).map (·.1)
  | 0, _, _ => rfl
  | _ + 1, _, [] => rfl
  | n + 1, i, p :: r => by rw [kvsN, List.map_cons, kvsN_fst n, List.take_succ_cons, List.map_cons]
theorem ents_keys (prog : Program) (w : World) : ∀ (n i : Nat) (l : List (Int × Str)), (∀ x ∈ l, hashInt x.1 = x.1) → ∀ e ∈ entsN n i l, ∃ k, (PySem.intKind prog w).is k e.key = true ∧ e.hash = (PySem.intKind prog w).hash k
  | 0, _, _, _, e, h => by cases h
  | _ + 1, _, [], _, e, h => by cases h
  | n + 1, i, p :: r, hk, e, h => by
    rcases List.mem_cons.mp h with rfl | h
    · exact ⟨p.1, beq_self_eq_true _, (hk p (.head _)).symm⟩
    · exact ents_keys prog w n (i + 1) r (fun x hx => hk x (.tail _ hx)) e h
theorem ents_pairs (prog : Program) (w : World) : ∀ (n i : Nat) (l : List (Int × Str)), Pairs (PySem.intKind prog w) (entsN n i l) (kvsN n i l)
  | 0, _, _ => .nil
  | _ + 1, _, [] => .nil
  | n + 1, i, p :: r => .cons (beq_self_eq_true _) rfl (ents_pairs prog w n (i + 1) r)
theorem kvs_look : ∀ (n i : Nat) (l : List (Int × Str)), l.length ≤ n → ∀ k, match l.lookup k with
    | none => valueAt (kvsN n i l) k = none
    | some x => ∃ t, valueAt (kvsN n i l) k = some (.str x t)
  | 0, i, [], _, k => rfl
  | _ + 1, i, [], _, k => rfl
  | n + 1, i, p :: r, h, k => by
    obtain ⟨a, b⟩ := p
    rw [List.lookup_cons]
    cases hh : (k == a) with
    | true =>
      obtain rfl := eq_of_beq hh
      exact ⟨tokAt i + 1, by simp [valueAt, kvsN]⟩
    | false =>
      have ne : ¬ a = k := fun q => by rw [q, beq_self_eq_true] at hh; cases hh
      have ih := kvs_look n (i + 1) r (by rw [List.length_cons] at h; lia) k
      have e : valueAt (kvsN (n + 1) i ((a, b) :: r)) k = valueAt (kvsN n (i + 1) r) k := by
        unfold valueAt
        rw [kvsN, List.find?_cons]
        simp [ne]
      dsimp only
      rw [e]
      exact ih
theorem dic_T (w : World) : DicAt (hTop w) := fun prog w' => by
  refine ⟨kvsN 650 0 b3L, ⟨bigD 650 w.params, ⟨entsN 650 0 b3L⟩, (entsN 650 0 b3L).length, by kernel_rfl, ⟨rfl, rfl, rfl⟩, rfl, ?_, ents_pairs prog w' _ _ _, ?_⟩, kvs_look 650 0 b3L (by rw [b3_len]; exact Nat.le_refl _)⟩
  · intro e he
    exact ents_keys prog w' 650 0 b3L b3_keys e (Array.mem_toList_iff.mpr he)
  · rw [kvsN_fst, List.take_of_length_le (by rw [b3_len]; exact Nat.le_refl _)]
    exact b3_nodup
theorem top_T (w : World) : TopF (hTop w) where
  glob := ⟨_, Heap.Ns.of_isNs (isNs_T w), map_at (glob_T w), map_at (globn_T w)⟩
  bmain := ⟨_, Heap.Ns.of_isNs (isNs_T w), bmain_T w⟩
  set := set_T w
  dic := dic_T w
  code := code_T w
  blt := ⟨_, Heap.Ns.of_isNs (isNs_B w), map_at (blt_T w)⟩
  nolimit := nolimit_T w
  f23 := fn_23 w
  f32 := fn_32 w
  f41 := fn_41 w
  f50 := fn_50 w
  f80 := fn_80 w
  f87 := fn_87 w
  f94 := fn_94 w
  f112 := fn_112 w
  f158 := fn_158 w
  f163 := fn_163 w
  f170 := fn_170 w
  f175 := fn_175 w
  f180 := fn_180 w
  f185 := fn_185 w
  f190 := fn_190 w
  f195 := fn_195 w
  d23 := df_23 w
  d32 := df_32 w
  d41 := df_41 w
  d50 := df_50 w
end BH
namespace BK
noncomputable def argP (led0 : Led) (h : Heap) : Prop := (∀ p ∈ led0, Has h p.1 p.2 ∧ Hi p.1) ∧ (led0.map (·.1)).Nodup
noncomputable def oldP (mu : List Addr) (base0 : Led) (h : Heap) : Prop := ∀ p ∈ base0, Has h p.1 p.2 ∧ p.1 ∉ mu

/-- a call of a def of the text, no name of it a cell's -/
theorem call_fn {prog : Program} {w : World} {A : Around} {E : Value → Shared → Prop} {Q : Value → Shared → Prop} {K : Kx} {base led : Led} {s : Shared} {k f i : Nat} {dV kV : Value} {frag : Frag} {args : List Value} {kw : List (Str × Value)} {binds : List (Str × Value)}
    (vs : Vars) (led0 base0 : Led)
    (H : St K base led s) (R : Room (k + 1) A) (T : TopF K.hT) (F : FnAt K.hT f i dV kV) (hfr : Frag.In frag K.hT)
    (ha : argP led0 s.heap) (ho : oldP (led0.map (·.1)) base0 s.heap)
    (hb : ∀ S pm c, peek frag S (bindArgs (fnOf (fnName i) (fnName i) (fnParams i) (fnBody i) (fnScope i) dV kV .none pm none (.ref c) .none) ⟨args, kw⟩) = some binds)
    (hfn : ((fnScope i).kind = .function ∧ (fnScope i).isCoroutine = false ∧ (fnScope i).isGenerator = false) ∧ (∀ x ∈ binds, (fnScope i).names.lookup x.1 = some .local) ∧ ∀ x ∈ (fnScope i).names, x.2 ≠ .cell)
    (hvs : (vs.map (·.1)).Nodup ∧ ∀ p ∈ vs, binds.reverse.lookup p.1 = p.2)
    (h : ∀ K' env s₁, TopF K'.hT → K' = ⟨K.hT, s.heap, led0.map (·.1), s.gens, s.drawn, s.os⟩ → EnvL env s.heap.objs.size → env.scope = fnScope i → env.cells = [] → Le s.heap s₁.heap → Rest s s₁ → St K' base0 ((s.heap.objs.size, nsP vs) :: led0) s₁ → Room k (A.deeper env) →
      wpAny (model prog w) (A.deeper env) (execs (fnBody i) env) (fun fl s' => Q (match fl with | .ret v => v | _ => .none) s') (fun _ _ => False) s₁) :
    wpAny (model prog w) A (call (.ref f) args kw) Q E s := by
  obtain ⟨pm, c, hf, hcd⟩ := F
  obtain ⟨⟨hkind, hco, hgen⟩, hloc, hcell⟩ := hfn
  refine wpAny_call (codeAny_call_function (fd := fnOf (fnName i) (fnName i) (fnParams i) (fnBody i) (fnScope i) dV kV .none pm none (.ref c) .none) (by have := R.dp; lia) (H.top _ _ hf) rfl hco hgen rfl (hcd.keeps H.top) ?_)
  refine Looks.here (Looks.of_peek (fun a o e => H.top _ _ (hfr a o e)) (hb _ pm c)) ?_
  refine wpAny_newFunctionEnv hcell hloc (fun h' hn hs => ?_) hkind
  have hle : Le s.heap h' := fun b o e => (hs.2 b (Nat.ne_of_lt (Heap.lt_size e))).trans (Heap.get?_push_of_some _ e)
  refine ⟨T.nolimit.keeps (H.top.trans hle), ?_⟩
  have hsz : s.heap.objs.size < h'.objs.size := by rw [hs.1, Heap.size_push]; exact Nat.lt_succ_self _
  have hnew : s.heap.get? s.heap.objs.size = none := get_size _
  refine codeAny_func (wpAny_mono (h ⟨K.hT, s.heap, led0.map (·.1), s.gens, s.drawn, s.os⟩ _ _ T rfl ⟨hkind, rfl, rfl, rfl⟩ rfl rfl hle ⟨rfl, rfl, rfl⟩ ?_ (R.deeper _)) (fun _ _ q => q) fun _ _ q => q.elim)
  refine ⟨H.top.trans hle, H.tn, H.last, H.tab, fun b o e _ => hle b o e, fun p hp => ?_, fun p hp => ?_, ?_, fun p hp => ?_, fun p hp => ?_, rfl, rfl, rfl⟩
  · obtain ⟨⟨o, e, q⟩, m⟩ := ho p hp
    exact ⟨⟨o, hle _ _ e, q⟩, by show (s.heap.get? p.1).isSome = true; rw [e]; rfl, m⟩
  · rcases List.mem_cons.mp hp with rfl | hp
    · exact nsP_of hvs.1 hn hvs.2
    · exact (ha.1 p hp).1.le hle
  · rw [List.map_cons, List.nodup_cons]
    refine ⟨fun hm => ?_, ha.2⟩
    obtain ⟨p, hp, e⟩ := List.mem_map.mp hm
    obtain ⟨⟨o, e', _⟩, _⟩ := ha.1 p hp
    rw [e, hnew] at e'; cases e'
  · rcases List.mem_cons.mp hp with rfl | hp
    · exact .inr hnew
    · exact .inl (List.mem_map_of_mem hp)
  · rcases List.mem_cons.mp hp with rfl | hp
    · exact .inl H.sz
    · exact (ha.1 p hp).2
end BK
namespace BK
set_option maxRecDepth 10000
/-! guards: what kind of step a goal is -/
section
variable {M : Model} {α : Type} {A : Around} {E : Value → Shared → Prop} {s : Shared} {env : Env} {Q : α → Shared → Prop}
theorem g_exec {st : Stmt} {Q : Flow → Shared → Prop} (h : wpAny M A (exec st env) Q E s) : wpAny M A (exec st env) Q E s := h
theorem g_execs {st : List Stmt} {Q : Flow → Shared → Prop} (h : wpAny M A (execs st env) Q E s) : wpAny M A (execs st env) Q E s := h
theorem g_eval {e : Expr} {Q : Value → Shared → Prop} (h : wpAny M A (eval e env) Q E s) : wpAny M A (eval e env) Q E s := h
theorem g_name {x : Str} {p : Pos} {Q : Value → Shared → Prop} (h : wpAny M A (eval (.Name x p) env) Q E s) : wpAny M A (eval (.Name x p) env) Q E s := h
theorem g_const {c : Const} {k : Nat} {p : Pos} {Q : Value → Shared → Prop} (h : wpAny M A (eval (.Constant c k p) env) Q E s) : wpAny M A (eval (.Constant c k p) env) Q E s := h
theorem g_splice {l : List (Bool × Sem Value)} {Q : List Value → Shared → Prop} (h : wpAny M A (spliced l) Q E s) : wpAny M A (spliced l) Q E s := h
theorem g_callWith {pos : Pos} {f : Value} {vs : List Value} {l : List (Bool × Sem Value)} {k : List (Option Str × Sem Value)} {Q : Value → Shared → Prop} (h : wpAny M A (callWith pos f vs l k) Q E s) : wpAny M A (callWith pos f vs l k) Q E s := h
theorem g_call {f : Value} {vs : List Value} {k : List (Str × Value)} {Q : Value → Shared → Prop} (h : wpAny M A (call f vs k) Q E s) : wpAny M A (call f vs k) Q E s := h
theorem g_cmp {op : CmpOp} {v u : Value} {Q : Value → Shared → Prop} (h : wpAny M A (compareOp op v u) Q E s) : wpAny M A (compareOp op v u) Q E s := h
theorem g_bin {op : Operator} {v u : Value} {Q : Value → Shared → Prop} (h : wpAny M A (binaryOp op v u) Q E s) : wpAny M A (binaryOp op v u) Q E s := h
theorem g_truthy {v : Value} {Q : Bool → Shared → Prop} (h : wpAny M A (truthy v) Q E s) : wpAny M A (truthy v) Q E s := h
theorem g_isTrue {e : Expr} {m : Sem Value} {Q : Bool → Shared → Prop} (h : wpAny M A (isTrue e env m) Q E s) : wpAny M A (isTrue e env m) Q E s := h
theorem g_store {x : Str} {v : Value} {Q : Unit → Shared → Prop} (h : wpAny M A (storeName env x v) Q E s) : wpAny M A (storeName env x v) Q E s := h
theorem g_sub {e i : Expr} {v u : Value} {Q : Value → Shared → Prop} (h : wpAny M A (subscriptTail e i v u) Q E s) : wpAny M A (subscriptTail e i v u) Q E s := h
theorem g_wp {m : Sem α} (h : wpAny M A m Q E s) : wpAny M A m Q E s := h
theorem g_if {c : Prop} [Decidable c] {a b : Prop} (h : if c then a else b) : if c then a else b := h
end
theorem ex3 {α β γ : Type} {P : α → β → γ → Prop} (x0 : α) (x1 : β) (x2 : γ) (h : P x0 x1 x2) : ∃ x0 x1 x2, P x0 x1 x2 := ⟨x0, x1, x2, h⟩
theorem el3 {α β γ : Type} {P : α → β → γ → Prop} {G : Prop} (h : ∃ x0 x1 x2, P x0 x1 x2) (k : ∀ x0 x1 x2, P x0 x1 x2 → G) : G := h.elim fun x0 h => h.elim fun x1 h => h.elim fun x2 h => k x0 x1 x2 h
theorem ex6 {α β γ δ ε ζ : Type} {P : α → β → γ → δ → ε → ζ → Prop} (x0 : α) (x1 : β) (x2 : γ) (x3 : δ) (x4 : ε) (x5 : ζ) (h : P x0 x1 x2 x3 x4 x5) : ∃ x0 x1 x2 x3 x4 x5, P x0 x1 x2 x3 x4 x5 := ex3 x0 x1 x2 (ex3 x3 x4 x5 h)
theorem el6 {α β γ δ ε ζ : Type} {P : α → β → γ → δ → ε → ζ → Prop} {G : Prop} (h : ∃ x0 x1 x2 x3 x4 x5, P x0 x1 x2 x3 x4 x5) (k : ∀ x0 x1 x2 x3 x4 x5, P x0 x1 x2 x3 x4 x5 → G) : G := el3 h fun x0 x1 x2 h => el3 h fun x3 x4 x5 h => k x0 x1 x2 x3 x4 x5 h
theorem ex8 {α β γ δ ε ζ η θ : Type} {P : α → β → γ → δ → ε → ζ → η → θ → Prop} (x0 : α) (x1 : β) (x2 : γ) (x3 : δ) (x4 : ε) (x5 : ζ) (x6 : η) (x7 : θ) (h : P x0 x1 x2 x3 x4 x5 x6 x7) : ∃ x0 x1 x2 x3 x4 x5 x6 x7, P x0 x1 x2 x3 x4 x5 x6 x7 := ex6 x0 x1 x2 x3 x4 x5 ⟨x6, x7, h⟩
theorem el8 {α β γ δ ε ζ η θ : Type} {P : α → β → γ → δ → ε → ζ → η → θ → Prop} {G : Prop} (h : ∃ x0 x1 x2 x3 x4 x5 x6 x7, P x0 x1 x2 x3 x4 x5 x6 x7) (k : ∀ x0 x1 x2 x3 x4 x5 x6 x7, P x0 x1 x2 x3 x4 x5 x6 x7 → G) : G := el6 h fun x0 x1 x2 x3 x4 x5 h => h.elim fun x6 h => h.elim fun x7 h => k x0 x1 x2 x3 x4 x5 x6 x7 h
theorem ex9 {α β γ δ ε ζ η θ ι : Type} {P : α → β → γ → δ → ε → ζ → η → θ → ι → Prop} (x0 : α) (x1 : β) (x2 : γ) (x3 : δ) (x4 : ε) (x5 : ζ) (x6 : η) (x7 : θ) (x8 : ι) (h : P x0 x1 x2 x3 x4 x5 x6 x7 x8) : ∃ x0 x1 x2 x3 x4 x5 x6 x7 x8, P x0 x1 x2 x3 x4 x5 x6 x7 x8 := ex6 x0 x1 x2 x3 x4 x5 (ex3 x6 x7 x8 h)
theorem el9 {α β γ δ ε ζ η θ ι : Type} {P : α → β → γ → δ → ε → ζ → η → θ → ι → Prop} {G : Prop} (h : ∃ x0 x1 x2 x3 x4 x5 x6 x7 x8, P x0 x1 x2 x3 x4 x5 x6 x7 x8) (k : ∀ x0 x1 x2 x3 x4 x5 x6 x7 x8, P x0 x1 x2 x3 x4 x5 x6 x7 x8 → G) : G := el6 h fun x0 x1 x2 x3 x4 x5 h => el3 h fun x6 x7 x8 h => k x0 x1 x2 x3 x4 x5 x6 x7 x8 h
theorem ex10 {α β γ δ ε ζ η θ ι κ : Type} {P : α → β → γ → δ → ε → ζ → η → θ → ι → κ → Prop} (x0 : α) (x1 : β) (x2 : γ) (x3 : δ) (x4 : ε) (x5 : ζ) (x6 : η) (x7 : θ) (x8 : ι) (x9 : κ) (h : P x0 x1 x2 x3 x4 x5 x6 x7 x8 x9) : ∃ x0 x1 x2 x3 x4 x5 x6 x7 x8 x9, P x0 x1 x2 x3 x4 x5 x6 x7 x8 x9 := ⟨x0, ex9 x1 x2 x3 x4 x5 x6 x7 x8 x9 h⟩
theorem el10 {α β γ δ ε ζ η θ ι κ : Type} {P : α → β → γ → δ → ε → ζ → η → θ → ι → κ → Prop} {G : Prop} (h : ∃ x0 x1 x2 x3 x4 x5 x6 x7 x8 x9, P x0 x1 x2 x3 x4 x5 x6 x7 x8 x9) (k : ∀ x0 x1 x2 x3 x4 x5 x6 x7 x8 x9, P x0 x1 x2 x3 x4 x5 x6 x7 x8 x9 → G) : G := h.elim fun x0 h => el9 h fun x1 x2 x3 x4 x5 x6 x7 x8 x9 h => k x0 x1 x2 x3 x4 x5 x6 x7 x8 x9 h
theorem me0 {α : Type} {a b : α} {l : List α} (h : a ∈ l) : a ∈ b :: l := .tail _ h
theorem me1 {α : Type} {a b : α} {l : List α} : a ∈ b :: a :: l := .tail _ (.head _)
theorem me2 {α : Type} {a b c : α} {l : List α} : a ∈ b :: c :: a :: l := .tail _ me1
theorem me3 {α : Type} {a b c d : α} {l : List α} : a ∈ b :: c :: d :: a :: l := .tail _ me2
theorem me4 {α : Type} {a b c d e : α} {l : List α} (h : a ∈ l) : a ∈ b :: c :: d :: e :: l := .tail _ (.tail _ (.tail _ (.tail _ h)))
/-! a long promise is given a name while the steps are taken, and said out again at the end -/
structure Out (Q : Flow → Shared → Prop) (I B : Shared → Prop) (R : Value → Shared → Prop) : Prop where
  next : ∀ {s}, I s → Q .next s
  cont : ∀ {s}, I s → Q .cont s
  brk : ∀ {s}, B s → Q .brk s
  ret : ∀ {v s}, R v s → Q (.ret v) s
structure OutV {α : Type} (Q P : α → Shared → Prop) : Prop where
  out : ∀ {v s}, P v s → Q v s
section
variable {M : Model} {α : Type} {A : Around} {E : Value → Shared → Prop} {s : Shared} {env : Env}
theorem g_for {body : List Stmt} {I B : Shared → Prop} {R : Value → Shared → Prop} (h : ∀ Q, Out Q I B R → wpAny M A (execs body env) Q E s) :
    wpAny M A (execs body env) (fun f s₃ => match f with
      | .next | .cont => I s₃
      | .brk => B s₃
      | .ret v => R v s₃) E s := h _ ⟨fun x => x, fun x => x, fun x => x, fun x => x⟩
theorem g_fora {β : Type} {m : Sem β} {body : List Stmt} {I B : Shared → Prop} {R : Value → Shared → Prop} {E2 : Value → Shared → Prop} (h : ∀ Q, Out Q I B R → wpAny M A m (fun _ s₂ => wpAny M A (execs body env) Q E2 s₂) E s) :
    wpAny M A m (fun _ s₂ => wpAny M A (execs body env) (fun f s₃ => match f with
      | .next | .cont => I s₃
      | .brk => B s₃
      | .ret v => R v s₃) E2 s₂) E s := h _ ⟨fun x => x, fun x => x, fun x => x, fun x => x⟩
theorem g_ex {β : Type} {m : Sem α} {P : α → Shared → β → Prop} (h : ∀ Q, OutV Q (fun v s' => ∃ x, P v s' x) → wpAny M A m Q E s) : wpAny M A m (fun v s' => ∃ x, P v s' x) E s := h _ ⟨fun x => x⟩
theorem g_comp {β : Type} {m : Sem β} {m2 : Sem Bool} {m3 : Sem α} {Y : α → Shared → Prop} {N : Shared → Prop} {E2 E3 : Value → Shared → Prop}
    (h : ∀ Q, OutV Q Y → ∀ N' : Shared → Prop, (∀ s, N s → N' s) → wpAny M A m (fun _ s₂ => wpAny M A m2 (fun ok s₃ => if ok = true then wpAny M A m3 Q E3 s₃ else N' s₃) E2 s₂) E s) :
    wpAny M A m (fun _ s₂ => wpAny M A m2 (fun ok s₃ => if ok = true then wpAny M A m3 Y E3 s₃ else N s₃) E2 s₂) E s := h _ ⟨fun x => x⟩ _ fun _ x => x
theorem g_hq {m : Sem α} {P : α → Shared → Prop} (h : ∀ Q, OutV Q P → wpAny M A m Q E s) : wpAny M A m P E s := h _ ⟨fun x => x⟩
theorem g_and {m : Sem α} {P P' : α → Shared → Prop} (h : ∀ Q, OutV Q (fun v s' => P v s' ∧ P' v s') → wpAny M A m Q E s) : wpAny M A m (fun v s' => P v s' ∧ P' v s') E s := h _ ⟨fun x => x⟩
end

section
open Lean
/-- what closes a side of a step -/
def sideTac (s : String) : MacroM (TSyntax `tactic) := match s with
  | "as" => `(tactic| assumption)
  | "rfl" => `(tactic| rfl)
  | "wrfl" => `(tactic| with_unfolding_all rfl)
  | "irfl" => `(tactic| (intro _; rfl))
  | "dec" => `(tactic| decide)
  | "om" => `(tactic| lia)
  | "nofun" => `(tactic| nofun)
  | "bltmem" => `(tactic| (unfold bltsL; walk_at "mem"))
  | "globmem" => `(tactic| (unfold globsL; walk_at "mem"))
  | "fit" => `(tactic| ((try simp only [List.length_map, List.length_append, List.length_cons, List.length_nil, List.length_take, List.length_drop, List.length_replicate]); lia))
  | "sz" => `(tactic| (have := $(mkIdent `sizeLine_ge); walk_at "fit60"))
  | s => `(tactic| walk_at $(Syntax.mkStrLit s))
/-- what kind of step a goal is -/
def kindTac (s : String) : MacroM (TSyntax `tactic) := do
  let h ← `(_)
  let ap (f : String) (xs : Array Term) : MacroM Term := `($(mkIdent f.toName):ident $xs*)
  let go (f : String) (n : Nat) (c : String) (k : Nat) : MacroM Term := do
    let hs := (Array.range n).map fun _ => h
    if c == "" then ap f hs else do
      let x ← ap c ((Array.range k).map fun _ => h)
      ap f (hs.set! 0 (← `(($x))))
  let m ← match s with
    | "eval" => go "PySem.eval" 2 "" 0
    | "splice" => go "PySem.spliced" 1 "" 0
    | "callWith" => go "PySem.callWith" 5 "" 0
    | "store" => go "PySem.storeName" 3 "" 0
    | "exec" => go "PySem.exec" 2 "" 0
    | "execs" => go "PySem.execs" 2 "" 0
    | "call" => go "PySem.call" 3 "" 0
    | "cmp" => go "PySem.compareOp" 3 "" 0
    | "bin" => go "PySem.binaryOp" 3 "" 0
    | "sub" => go "PyProof.Rows.subscriptTail" 4 "" 0
    | "truthy" => go "PySem.truthy" 1 "" 0
    | "isTrue" => go "PySem.isTrue" 3 "" 0
    | "name" => go "PySem.eval" 2 "PySem.Expr.Name" 2
    | "const" => go "PySem.eval" 2 "PySem.Expr.Constant" 3
    | _ => pure h
  let t ← if s == "if" then ap "ite" #[h, h, h] else ap "PySem.wpAny" #[h, h, ← `(($m)), h, h, h]
  `(tactic| fail_if_success (fail_if_success (with_reducible show $t)))
/-- one step by a rule: the rule, its sides, how many names it brings, which key goes on -/
def ruleTac (r : String) (args : List String) : MacroM (TSyntax `tactic) := do
  let mut ts : Array Term := #[]
  let mut cs : Array (TSyntax `tactic) := #[]
  for a in args do
    if a == "_" then ts := ts.push (← `(?_))
    else if a.startsWith ">" then
      cs := cs.push (← if a == ">1" then `(tactic| intro a) else if a == ">2" then `(tactic| intro a b) else if a == ">3" then `(tactic| intro a b c) else if a == ">4" then `(tactic| intro a b c d)
        else if a == ">F" then `(tactic| intro $(mkIdent `Qf):ident $(mkIdent `oF):ident) else `(tactic| intro $(mkIdent `Qv):ident $(mkIdent `oV):ident))
    else if a.startsWith ";" then cs := cs.push (← `(tactic| walk_at $(Syntax.mkStrLit (a.drop 1).toString)))
    else match a.splitOn "=" with
      | [t, k] =>
        let x := mkIdent (← Macro.addMacroScope (Name.mkSimple t))
        ts := ts.push (← `(?$x:ident))
        let c ← sideTac k
        cs := cs.push (← `(tactic| case $x:ident => $c:tactic))
      | _ => match a.splitOn ":" with
        | [t, k] =>
          let x := mkIdent (← Macro.addMacroScope (Name.mkSimple t))
          let c ← sideTac k
          cs := cs.push (← `(tactic| case $x:ident => $c:tactic))
        | _ =>
          let x := mkIdent (← Macro.addMacroScope (Name.mkSimple a))
          ts := ts.push (← `(?$x:ident))
  let tm ← match r.splitOn "@" with
    | [f, x] => `($(mkIdent f.toName):ident ($(mkIdent `T):ident := $(mkIdent x.toName)) $ts*)
    | _ => `($(mkIdent r.toName):ident $ts*)
  let mut out ← `(tactic| with_reducible refine' $tm)
  for c in cs do out ← `(tactic| (($out:tactic); ($c:tactic)))
  return out
/-- one step: the rule, its sides, how many names it brings, which key goes on -/
def stepTac (s : String) : MacroM (TSyntax `tactic) := do
  match s.splitOn " " with
  | [k] =>
    let x := mkIdent (k.drop 1).toString.toName
    if k.startsWith "=" then `(tactic| with_reducible exact $x) else if k.startsWith "@" then `(tactic| with_reducible apply $x) else sideTac k
  | [r, k] =>
    if r.startsWith "?" then do
      let g ← kindTac (r.drop 1).toString
      `(tactic| (($g:tactic); walk_at $(Syntax.mkStrLit (k.drop 1).toString)))
    else ruleTac r [k]
  | r :: args => ruleTac r args
  | [] => Macro.throwUnsupported
def stepTbl : List (String × List String) := [
  ("name", ["r_name H=as X=as D=as hk=mem hm=mem hv=mem _"]),
  ("blt", ["r_blt T H X D hk hg _ H:as T:as X:as D:as hk:mem hg:bltmem"]),
  ("glob", ["r_glob T H X D hk hg _ H:as T:as X:as D:as hk:mem hg:globmem"]),
  ("store", ["r_store H=as X=as D=as hk=mem hm=mem hu=upv hl=upd _ >2"]),
  ("fnat", ["TopF.f23 h=as", "TopF.f32 h=as", "TopF.f41 h=as", "TopF.f50 h=as", "TopF.f80 h=as", "TopF.f87 h=as", "TopF.f94 h=as", "TopF.f112 h=as", "TopF.f158 h=as", "TopF.f163 h=as", "TopF.f170 h=as", "TopF.f175 h=as", "TopF.f180 h=as", "TopF.f185 h=as", "TopF.f190 h=as", "TopF.f195 h=as"]),
  ("lslot", ["=PySem.F.slot_list_append", "=PySem.F.slot_list_insert", "=PySem.F.slot_list_pop", "=PySem.F.slot_list_index"]),
  ("ltype", ["=PySem.F.type_list_append", "=PySem.F.type_list_insert", "=PySem.F.type_list_pop", "=PySem.F.type_list_index"]),
  ("cell", ["r_cell H=as X=as D=as C=as hk=mem hc=mem hm=kn _"]),
  ("free", ["r_free H=as X=as D=as C=as hk=mem hc=mem hm=kn _ hn=dec"]),
  ("storec", ["r_storeC H=as X=as D=as C=as hk=mem hc=mem hl=upd _ >2"]),
  ("gexecs", ["g_for _ >F", "g_ex _ >V", "g_and _ >V", "wpAny_execs_cons _", "wpAny_execs_nil _"]),
  ("gexec", ["r_assign _ hs=rfl", "wpAny_If _", "wpAny_Return_some _", "r_expr X=as _ hs=rfl", "wpAny_For _ hs=irfl", "r_assignSub _ hs=rfl", "r_aug hn=dec _"]),
  ("gname", ["name", "cell", "glob", "blt", "free"]),
  ("gconst", ["r_int H=as _ >3", "r_none _", "r_strc H=as _ >3"]),
  ("geval", ["g_ex _ >V", "g_and _ >V", "?name ;gname", "?const ;gconst", "r_mcall _ he=rfl", "Call_ _ he=rfl", "wpAny_BinOp _", "r_subscr _", "wpAny_Compare1 _ hs=wrfl", "wpAny_IfExp _", "r_list _", "r_tuple _", "r_slice _", "r_unary _"]),
  ("gsplice", ["r_arg _ he=rfl", "args_nil _"]),
  ("gcallWith", ["r_call_blt _ he=rfl hn=rfl", "r_call_fn F=fnat _ he=rfl", "r_call_type _ he=rfl hn=rfl", "r_marg1 _ he=rfl hp=rfl"]),
  ("gcallx", ["r_chr H=as hi=ao h2=ao _ >3", "r_range1 H=as _ >3", "r_range3 H=as hc=dec hz=dec _ >3"]),
  ("gbinx", ["r_mul H=as hm=mulok _ >3", "r_pow H=as h0=do h1=do hx=do _ >3", "r_and H=as _ >3", "r_mulL H=as hm=kn h0=do h1=do _ >3", "r_fdiv H=as h0=do h1=do _ >3"]),
  ("gisTruex", ["r_isOr _", "r_isOr0 _", "r_isName _", "r_isSub _"]),
  ("gothx", ["r_load H=as X=as D=as hk=mem hm=mem hv=mem _", "r_neg H=as _ >3", "r_ior H=as _ >3", "r_ilsh H=as h0=dec h1=dec hx=do _ >3"]),
  ("gcall", ["r_append H=as hd=pdis hl=upd hz=size _ >2", "r_len H=as hm=kn hs=fit60 _ >3", "r_enum H=as hm=kn _ >4", "r_biR T=as H=as R=as hm=kn hs=fit60 _ >3", "r_biL T=as H=as R=as hm=kn hs=fit60 _ >3", "r_insREnd T H R hs hlt hl _ T:as H:as R:as hlt:as hl:upd hs:fit60 >2", "r_insLEnd T H R hs hlt hl _ T:as H:as R:as hlt:as hl:upd hs:fit60 >2", "insort_right_call T H R hs hl _ T:as H:as R:as hl:upd hs:fit60 >2", "insort_left_call T H R hs hl _ T:as H:as R:as hl:upd hs:fit60 >2", "varint_call T H R hm hl hr _ T:as H:as R:as hl:upd hm:kn hr:as >3", "gcallx"]),
  ("gcmp", ["PyProof.Rows.lt_int _", "PyProof.Rows.le_int _", "PyProof.Rows.gt_int _", "PyProof.Rows.ge_int _", "PyProof.Rows.eq_int _", "PyProof.Rows.ne_int _", "r_is0 _", "r_is1 _ hp=rfl hn=nofun", "r_isn0 _", "r_isn1 _ hp=rfl hn=nofun", "PyProof.Rows.eq_str _", "PyProof.Rows.ne_str _", "r_inS H=as hm=kn _", "r_notinS H=as hm=kn _", "r_inI H=as hm=kn _", "r_notinI H=as hm=kn _", "r_din@Str H=as hm=mem hk=key _ >2", "r_din@Int H=as hm=mem hk=key _ >2"]),
  ("gbin", ["r_add H=as _ >3", "r_sub H=as _ >3", "r_fdiv H=as h0=dec h1=dec _ >3", "r_fmod H=as h0=dec _ >3", "r_addL H=as hm=kn hn=kn hz=size _ >3", "gbinx"]),
  ("gtruthy", ["wpAny_truthy_bool _", "r_truthy _"]),
  ("gisTrue", ["wpAny_isTrue_Compare1 _ hs=wrfl", "r_isBin _", "gisTruex"]),
  ("gstore", ["store", "storec"]),
  ("gsub", ["r_dgetI@Str H=as hm=kn hk=key hd=as _ hs=wrfl >3", "r_dgetI@Int H=as hm=kn hk=key hd=as _ hs=wrfl >3", "r_sliceTail H=as hm=kn hs=kn hl=part hu=part ht=part h0=dec hz=size _ hsub=wrfl >3", "gsubx"]),
  ("goth", ["r_getM H=as hm=kn sl=lslot ty=ltype _", "r_iterL H=as hm=kn _ >3", "r_iterE H=as hm=kn _", "wpAny_assign_Name _", "r_asg2 hh=hd H=as hm=kn _ >2", "r_asg3 hh=hd H=as hm=kn _ >2", "r_dset@Str H=as hk=key hd=pdis hl=upd hz=size _ >2", "r_dset@Int H=as hk=key hd=pdis hl=upd hz=size _ >2", "r_part0 _", "r_part1 _", "r_test0 _", "r_test1 _", "gothx"]),
  ("gnon", ["Out.next h=as _", "OutV.out h=as _", "Out.cont h=as _", "Out.brk h=as _", "Out.ret h=as _", "r_mkList H=as hv=vs hz=rfl _ >3", "r_mkTuple H=as hz=rfl _ >3", "r_mkSlice H=as _ >3", "r_two H=as _ >2", "r_three H=as _ >2", "And.intro le=top _", "?if ;gif", "gnonx"]),
  ("gwp", ["?eval ;geval", "?splice ;gsplice", "?callWith ;gcallWith", "?store ;gstore", "?exec ;gexec", "?execs ;gexecs", "?call ;gcall", "?cmp ;gcmp", "?bin ;gbin", "?sub ;gsub", "?truthy ;gtruthy", "?isTrue ;gisTrue", "goth"]),
  ("go", ["?wp ;gwp", "gnon"]),
  ("mem", ["*", "=List.mem_cons_self", "=me1", "=me2", "=me3", "me4 _", "me0 _"]),
  ("mem2", ["*", "=List.mem_cons_self", "=me1", "=me2", "=me3", "me4 _", "me0 _", "as"]),
  ("kn", ["Kn.own h=mem", "Kn.old h=mem", "Kn.old h=as"]),
  ("upd", ["*", "=Upd.here", "@Upd.next"]),
  ("upv", ["*", "=UpV.here", "@UpV.next"]),
  ("vs", ["*", "=All2.nil", "@vsI", "@vsS", "@vsB"]),
  ("pdis", ["@PD.is_s", "@PD.is_i", "@PD.is_b", "as"]),
  ("sub", ["*", "@List.Sublist.refl", "@List.nil_sublist", "@sub_keep", "@sub_skip"]),
  ("rem", ["*", "=Rem.here", "@Rem.next"]),
  ("pick", ["*", "=Pick.all", "=Pick.nil", "Pick.cons r=rem _"]),
  ("pick2", ["*", "=Pick.all", "=Pick.nil", "Pick.cons r=rem _", "Pick.skip _"]),
  ("part", ["=IsPart.none", "@IsPart.int"]),
  ("key", ["@strKey", "@intKey", "as"]),
  ("hd", ["Room.hd h=as"]),
  ("top", ["St.top h=as"]),
  ("mulok", ["mul_okL h=dec", "mul_okR h=dec", "as"]),
  ("do", ["dec", "om"]),
  ("ao", ["as", "om"]),
  ("size", ["as", "small_line h=rfl", "sz"]),
  ("fit60", ["fit"]),
  ("gif", ["wif_t hc=dec _", "wif_f hc=dec _"])]
def walkTac (k : String) : MacroM (TSyntax `tactic) := do
  let alts (l : List String) : MacroM (TSyntax `tactic) := do
    let as ← l.toArray.mapM fun s => stepTac s
    `(tactic| first $[| $as:tactic]* | fail "no step")
  match stepTbl.lookup k with
  | some [s] => stepTac s
  | some ("*" :: l) => do
    let t ← alts l
    `(tactic| repeat ($t:tactic))
  | some l => alts l
  | none => Macro.throwUnsupported
end
local macro_rules | `(tactic| walk_at $s:str) => walkTac s.getString
--@ b4
section

noncomputable def bsBinds (va vx vlo vhi : Value) : List (Str × Value) := [("a", va), ("x", vx), ("lo", vlo), ("hi", vhi), ("key", .none)]
theorem br_bind2 (hh : Int) (va vx : Value) : ∀ S pm c, peek (dfF 24 25 202 203 hh) S (bindArgs (fnOf (fnName 2) (fnName 2) (fnParams 2) (fnBody 2) (fnScope 2) (.ref 24) (.ref 25) .none pm none (.ref c) .none) ⟨[va, vx], []⟩) = some (bsBinds va vx (.int 0 202) .none) := by
  intro S pm c; kernel_rfl
theorem br_bind4 (hh : Int) (va vx v1 v2 : Value) : ∀ S pm c, peek (dfF 24 25 202 203 hh) S (bindArgs (fnOf (fnName 2) (fnName 2) (fnParams 2) (fnBody 2) (fnScope 2) (.ref 24) (.ref 25) .none pm none (.ref c) .none) ⟨[va, vx, v1, v2], []⟩) = some (bsBinds va vx v1 v2) := by
  intro S pm c; kernel_rfl
theorem bl_bind2 (hh : Int) (va vx : Value) : ∀ S pm c, peek (dfF 42 43 229 230 hh) S (bindArgs (fnOf (fnName 4) (fnName 4) (fnParams 4) (fnBody 4) (fnScope 4) (.ref 42) (.ref 43) .none pm none (.ref c) .none) ⟨[va, vx], []⟩) = some (bsBinds va vx (.int 0 229) .none) := by
  intro S pm c; kernel_rfl
theorem bl_bind4 (hh : Int) (va vx v1 v2 : Value) : ∀ S pm c, peek (dfF 42 43 229 230 hh) S (bindArgs (fnOf (fnName 4) (fnName 4) (fnParams 4) (fnBody 4) (fnScope 4) (.ref 42) (.ref 43) .none pm none (.ref c) .none) ⟨[va, vx, v1, v2], []⟩) = some (bsBinds va vx v1 v2) := by
  intro S pm c; kernel_rfl
theorem ir_bind2 (hh : Int) (va vx : Value) : ∀ S pm c, peek (dfF 15 16 189 190 hh) S (bindArgs (fnOf (fnName 1) (fnName 1) (fnParams 1) (fnBody 1) (fnScope 1) (.ref 15) (.ref 16) .none pm none (.ref c) .none) ⟨[va, vx], []⟩) = some (bsBinds va vx (.int 0 189) .none) := by
  intro S pm c; kernel_rfl
theorem il_bind2 (hh : Int) (va vx : Value) : ∀ S pm c, peek (dfF 33 34 216 217 hh) S (bindArgs (fnOf (fnName 3) (fnName 3) (fnParams 3) (fnBody 3) (fnScope 3) (.ref 33) (.ref 34) .none pm none (.ref c) .none) ⟨[va, vx], []⟩) = some (bsBinds va vx (.int 0 216) .none) := by
  intro S pm c; kernel_rfl

noncomputable def bsKinds : List (Str × NameKind) := [("a", .local), ("x", .local), ("lo", .local), ("hi", .local), ("key", .local)]
theorem bs_fn (i : Nat) (hi : i = 1 ∨ i = 2 ∨ i = 3 ∨ i = 4) (va vx v1 v2 : Value) : ((fnScope i).kind = .function ∧ (fnScope i).isCoroutine = false ∧ (fnScope i).isGenerator = false) ∧ (∀ x ∈ bsBinds va vx v1 v2, (fnScope i).names.lookup x.1 = some .local) ∧ ∀ x ∈ (fnScope i).names, x.2 ≠ .cell := by
  have key : ∀ i ∈ [1, 2, 3, 4], (((fnScope i).kind = .function ∧ (fnScope i).isCoroutine = false ∧ (fnScope i).isGenerator = false) ∧ (∀ x ∈ bsKinds, (fnScope i).names.lookup x.1 = some .local) ∧ ∀ x ∈ (fnScope i).names, x.2 ≠ .cell) := by decide +kernel
  obtain ⟨k1, k2, k3⟩ := key i (by rcases hi with rfl | rfl | rfl | rfl <;> simp)
  refine ⟨k1, fun x hx => ?_, k3⟩
  have : (x.1, NameKind.local) ∈ bsKinds := by
    simp only [bsBinds, List.mem_cons, List.not_mem_nil, or_false] at hx
    rcases hx with rfl | rfl | rfl | rfl | rfl <;> simp [bsKinds]
  exact k2 _ this
theorem nd5 : (["a", "x", "lo", "hi", "key"] : List Str).Nodup := by decide +kernel
theorem nd6 : (["a", "x", "lo", "hi", "key", "mid"] : List Str).Nodup := by decide +kernel
theorem bs_vs5 (va vx v1 v2 : Value) : (([("a", some va), ("x", some vx), ("lo", some v1), ("hi", some v2), ("key", some .none)] : Vars).map (·.1)).Nodup ∧ ∀ p ∈ ([("a", some va), ("x", some vx), ("lo", some v1), ("hi", some v2), ("key", some .none)] : Vars), (bsBinds va vx v1 v2).reverse.lookup p.1 = p.2 := by
  refine ⟨nd5, fun p hp => ?_⟩
  simp only [List.mem_cons, List.not_mem_nil, or_false] at hp
  rcases hp with rfl | rfl | rfl | rfl | rfl <;> kernel_rfl
theorem bs_vs6 (va vx v1 v2 : Value) : (([("a", some va), ("x", some vx), ("lo", some v1), ("hi", some v2), ("key", some .none), ("mid", none)] : Vars).map (·.1)).Nodup ∧ ∀ p ∈ ([("a", some va), ("x", some vx), ("lo", some v1), ("hi", some v2), ("key", some .none), ("mid", none)] : Vars), (bsBinds va vx v1 v2).reverse.lookup p.1 = p.2 := by
  refine ⟨nd6, fun p hp => ?_⟩
  simp only [List.mem_cons, List.not_mem_nil, or_false] at hp
  rcases hp with rfl | rfl | rfl | rfl | rfl | rfl <;> kernel_rfl
theorem bs_kd (i : Nat) (hi : i = 2 ∨ i = 4) {env : Env} (h : env.scope = fnScope i) : KD env [("a", .local), ("x", .local), ("lo", .local), ("hi", .local), ("key", .local), ("mid", .local), ("len", .globalImplicit)] := by
  refine KD.of h ?_
  rcases hi with rfl | rfl <;> decide +kernel
end
--@ b5
section
noncomputable def bisR (xs : List Int) (x : Int) : Nat → Int → Int → Int
  | 0, lo, _ => lo
  | n + 1, lo, hi => if lo < hi then (if x < xs.getD ((lo + hi).fdiv 2).toNat 0 then bisR xs x n lo ((lo + hi).fdiv 2) else bisR xs x n ((lo + hi).fdiv 2 + 1) hi) else lo

theorem bisect_right_body {prog : Program} {w : World} {A : Around} {E : Value → Shared → Prop} {Q : Flow → Shared → Prop} {K : Kx} {base : Led} {env : Env} {L a : Addr} {s : Shared} {x : Int} {tx tl : Tok} {xs : List Int}
    (T : TopF K.hT) (X : EnvL env L) (D : KD env [("a", .local), ("x", .local), ("lo", .local), ("hi", .local), ("key", .local), ("mid", .local), ("len", .globalImplicit)])
    (H : St K base [(L, nsP [("a", some (.ref a)), ("x", some (.int x tx)), ("lo", some (.int 0 tl)), ("hi", some .none), ("key", some .none), ("mid", none)])] s) (ha : (a, intsP xs) ∈ base) (hs : xs.length < 2 ^ 60)
    (h : ∀ t vs s', St K base [(L, vs)] s' → Q (.ret (.int (bisR xs x xs.length 0 xs.length) t)) s') :
    wpAny (model prog w) A (execs (fnBody 2) env) Q E s := by
  conv => arg 3; arg 1; whnf
  repeat' walk_at "go"
  refine wpAny_While (codeAny_whileLoop (fun n s => ∃ lo hi tlo thi mid, St K base [(L, nsP [("a", some (.ref a)), ("x", some (.int x tx)), ("lo", some (.int lo tlo)), ("hi", some (.int hi thi)), ("key", some .none), ("mid", mid)])] s ∧
    0 ≤ lo ∧ hi ≤ xs.length ∧ (hi - lo).toNat ≤ n ∧ bisR xs x n lo hi = bisR xs x xs.length 0 xs.length) ?turn xs.length ?start)
  case start =>
    rw [List.length_map] at *
    exact ⟨_, _, _, _, _, by assumption, by lia, by lia, by lia, rfl⟩
  intro n s hI
  refine g_hq ?_
  intro Qv oV
  obtain ⟨lo, hi, tlo, thi, mid, H, h0, h1, h2, h3⟩ := hI
  repeat' walk_at "go"
  clear oV Qv
  refine wif (fun hlt => ?_) (fun hlt => ?_)
  · obtain ⟨n, rfl⟩ : ∃ m, n = m + 1 := ⟨n - 1, by lia⟩
    refine g_hq ?_
    intro Qw oW
    have e : (lo + hi).fdiv 2 = (lo + hi) / 2 := Int.fdiv_eq_ediv_of_nonneg _ (by lia)
    have hx : xs[((lo + hi).fdiv 2).toNat]? = some (xs.getD ((lo + hi).fdiv 2).toNat 0) := by
      rw [List.getD_eq_getElem?_getD]
      rw [List.getElem?_eq_getElem (by rw [e]; lia)]
      rfl
    rw [bisR, if_pos hlt] at h3
    repeat' walk_at "go"
    refine' r_listTail ?H ?k ?h0 ?h1 ?hd ?_ ?hs
    case H => assumption
    case k => walk_at "kn"
    case h0 => lia
    case h1 => lia
    case hd => rw [List.getElem?_map, hx]; rfl
    case hs => with_unfolding_all rfl
    rintro v ⟨u, rfl⟩
    repeat' walk_at "go"
    refine wif (fun hx => ?_) (fun hx => ?_)
    · rw [if_pos hx] at h3
      repeat' walk_at "go"
      exact ⟨n, Nat.lt_succ_self _, _, _, _, _, _, by assumption, by lia, by lia, by lia, h3⟩
    · rw [if_neg hx] at h3
      repeat' walk_at "go"
      exact ⟨n, Nat.lt_succ_self _, _, _, _, _, _, by assumption, by lia, by lia, by lia, h3⟩
  · have h4 : bisR xs x n lo hi = lo := by
      cases n with
      | zero => rfl
      | succ n => rw [bisR, if_neg hlt]
    rw [h4] at h3
    subst h3
    repeat' walk_at "go"
    exact h _ _ _ (by assumption)

theorem bisect_right_call {prog : Program} {w : World} {A : Around} {E : Value → Shared → Prop} {Q : Value → Shared → Prop} {K : Kx} {base led : Led} {a : Addr} {s : Shared} {x : Int} {tx tl : Tok} {xs : List Int} {k : Nat} {args : List Value}
    (T : TopF K.hT) (H : St K base led s) (R : Room (k + 1) A) (hm : Kn base led a (intsP xs)) (hs : xs.length < 2 ^ 60)
    (hb : ∀ hh S pm c, peek (dfF 24 25 202 203 hh) S (bindArgs (fnOf (fnName 2) (fnName 2) (fnParams 2) (fnBody 2) (fnScope 2) (.ref 24) (.ref 25) .none pm none (.ref c) .none) ⟨args, []⟩) = some (bsBinds (.ref a) (.int x tx) (.int 0 tl) .none))
    (h : ∀ t s', Ext s s' → Q (.int (bisR xs x xs.length 0 xs.length) t) s') : wpAny (model prog w) A (call (.ref 32) args) Q E s := by
  obtain ⟨hh, hfr⟩ := T.d32
  refine call_fn [("a", some (.ref a)), ("x", some (.int x tx)), ("lo", some (.int 0 tl)), ("hi", some .none), ("key", some .none), ("mid", none)] [] [(a, intsP xs)] H R T T.f32 hfr ⟨fun p hp => (nomatch hp), List.nodup_nil⟩ (fun p hp => ?_) (hb hh)
    (bs_fn 2 (by decide) _ _ _ _) (bs_vs6 _ _ _ _) ?_
  · rw [List.mem_singleton.mp hp]; exact ⟨H.has hm, fun q => (nomatch q)⟩
  · intro K' env s₁ T' hK X hsc _ hle hr H₁ R₁
    refine bisect_right_body T' X (bs_kd 2 (by decide) hsc) H₁ (.head _) hs fun t vs s' H' => h _ _ (H'.out hK (.head _))
end
--@ b6
section
section
variable {prog : Program} {w : World} {A : Around} {E : Value → Shared → Prop} {K : Kx} {base led led' : Led} {s : Shared} {env : Env} {L a : Addr} {ds : List PD} {vs : List Value} {v : Value} {d : PD} {pos : Pos}

theorem upd_lst {h : Heap} (hx : Has h a (lstP vs)) {f : Array Value → Array Value} {vs' : List Value} (hf : f vs.toArray = vs'.toArray) : LeBut a h (h.update a (Obj.mapSeq f)) ∧ Has (h.update a (Obj.mapSeq f)) a (lstP vs') := by
  obtain ⟨o, e, n, rfl⟩ := hx
  refine ⟨LeBut.of_same (Heap.SameBut.update ..), ⟨_, Heap.get?_update_self _ e rfl, ?_⟩⟩
  refine ⟨if (f vs.toArray).size == vs.toArray.size then n else n + 1, ?_⟩
  rw [← hf]
  rfl
theorem r_getM {name : Str} {id : String} {pl : Sem Bool} {Q : Value × List Value → Shared → Prop} (H : St K base led s) (hm : Kn base led a (datP ds)) (slot : Slot "list" name id) (hty : typeOf (.builtin id) = pure (.type "method_descriptor"))
    (h : Q (.builtin id, [.ref a]) s) : wpAny (model prog w) A (getMethod (.ref a) name pl) Q E s := by
  obtain ⟨vs, hv, o, e, n, rfl⟩ := dat_open (H.has hm)
  exact getMethod_builtin ⟨_, e, rfl⟩ PySem.F.plainAttrs_list slot hty (fun b q => by cases q; exact ⟨_, e, rfl⟩) h
theorem r_mcall {o : Expr} {name : Str} {apos : Pos} {args : List Expr} {pl : Sem Bool} {Q : Value → Shared → Prop}
    (h : wpAny (model prog w) A (eval o env) (fun ov s₁ => wpAny (model prog w) A (getMethod ov name pl) (fun fx s₂ => wpAny (model prog w) A (callWith pos fx.1 fx.2 (backTo pos (starEach args env)) []) Q E s₂) E s₁) E s)
    (he : eval (.Call (.Attribute o name apos) args [] pos) env = (do
      let ov ← eval o env
      standAt apos.atName
      let (f, first) ← holding [ov] (getMethod ov name pl)
      callWith pos f first (backTo pos (starEach args env)) [])) :
    wpAny (model prog w) A (eval (.Call (.Attribute o name apos) args [] pos) env) Q E s := MethodCall_ h he
theorem r_marg {id : String} {first : List Value} {e : Expr} {rest : List Expr} {Q : Value → Shared → Prop}
    (h : wpAny (model prog w) A (spliced (backTo pos (starEach (e :: rest) env))) (fun vs s₁ => wpAny (model prog w) A (call (.builtin id) (first ++ vs)) Q E s₁) E s)
    (he : starEach (e :: rest) env = (false, eval e env) :: starEach rest env) (hplain : (backTo pos (starEach rest env)).any (·.1) = false) :
    wpAny (model prog w) A (callWith pos (.builtin id) first (backTo pos (starEach (e :: rest) env)) []) Q E s := callWith_method1 h he hplain

theorem ins_arr (l : List Value) (x : Int) (y : Value) (hx : 0 ≤ x) : ((l.toArray.extract 0 (if x < 0 then (x + (l.toArray.size : Int)).toNat else min x.toNat l.toArray.size)).push y ++ l.toArray.extract (if x < 0 then (x + (l.toArray.size : Int)).toNat else min x.toNat l.toArray.size)) = (l.take x.toNat ++ y :: l.drop x.toNat).toArray := by
  rw [if_neg (by lia)]
  apply Array.toList_inj.mp
  simp only [Array.toList_append, Array.toList_push, Array.toList_extract, List.extract_eq_drop_take', List.size_toArray, List.drop_zero, List.append_assoc, List.cons_append, List.nil_append]
  rcases Nat.le_total x.toNat l.length with hl | hl
  · rw [Nat.min_eq_left hl, List.take_length]
  · rw [Nat.min_eq_right hl, List.take_of_length_le (Nat.le_refl _), List.take_of_length_le hl, List.drop_of_length_le (Nat.le_refl _), List.drop_of_length_le hl]
theorem fits_idx {x : Int} (h0 : 0 ≤ x) (h1 : x < 2 ^ 62) : Builtin.List.listFitsIndex x = true := by
  unfold Builtin.List.listFitsIndex
  simp
  lia
theorem r_insert {x : Int} {u : Tok} {Q : Value → Shared → Prop} (H : St K base led s) (hd : PD.is d v) (h0 : 0 ≤ x) (h1 : x < 2 ^ 62) (hz : ds.length ≤ sizeLine) (hl : Upd led a (datP ds) (datP (ds.take x.toNat ++ d :: ds.drop x.toNat)) led')
    (h : ∀ s', St K base led' s' → Q .none s') : wpAny (model prog w) A (call (.builtin "list.insert") [.ref a, .int x u, v]) Q E s := by
  obtain ⟨vs, hv, hx⟩ := dat_open (H.here _ hl.mem)
  obtain ⟨o, e, n, rfl⟩ := id hx
  have hu := upd_lst hx (f := fun xs => have k := if x < 0 then (x + ((xs.size : Nat) : Int)).toNat else min x.toNat xs.size; (xs.extract 0 k).push v ++ xs.extract k) (ins_arr vs x v h0)
  refine call_meets PySem.F.slot_list_insert ⟨_, e, rfl⟩ PySem.F.entry_list_insert (PySem.F.args_list_insert_3 _ _ _) (PySem.AutoSeq1.list_insert_list_int_val_1 a _ n x u v (by simp [fits_idx h0 h1]) (by rw [List.size_toArray, ← hv.len]; exact hz)) ⟨e, h _ (H.change hl hu.1 ⟨rfl, rfl, rfl⟩ ?_)⟩
  obtain ⟨o, e, q⟩ := hu.2
  exact ⟨o, e, _, (hv.take _).app (.cons hd (hv.drop _)), q⟩
end
theorem r_marg1 {prog : Program} {w : World} {A : Around} {E : Value → Shared → Prop} {s : Shared} {env : Env} {pos : Pos} {id : String} {o : Value} {e : Expr} {rest : List Expr} {Q : Value → Shared → Prop}
    (h : wpAny (model prog w) A (spliced (backTo pos (starEach (e :: rest) env))) (fun vs s₁ => wpAny (model prog w) A (call (.builtin id) (o :: vs)) Q E s₁) E s)
    (he : starEach (e :: rest) env = (false, eval e env) :: starEach rest env) (hplain : (backTo pos (starEach rest env)).any (·.1) = false) :
    wpAny (model prog w) A (callWith pos (.builtin id) [o] (backTo pos (starEach (e :: rest) env)) []) Q E s := r_marg h he hplain
end
--@ b7
section
noncomputable def bisL (xs : List Int) (x : Int) : Nat → Int → Int → Int
  | 0, lo, _ => lo
  | n + 1, lo, hi => if lo < hi then (if xs.getD ((lo + hi).fdiv 2).toNat 0 < x then bisL xs x n ((lo + hi).fdiv 2 + 1) hi else bisL xs x n lo ((lo + hi).fdiv 2)) else lo

theorem bisect_left_body {prog : Program} {w : World} {A : Around} {E : Value → Shared → Prop} {Q : Flow → Shared → Prop} {K : Kx} {base : Led} {env : Env} {L a : Addr} {s : Shared} {x : Int} {tx tl : Tok} {xs : List Int}
    (T : TopF K.hT) (X : EnvL env L) (D : KD env [("a", .local), ("x", .local), ("lo", .local), ("hi", .local), ("key", .local), ("mid", .local), ("len", .globalImplicit)])
    (H : St K base [(L, nsP [("a", some (.ref a)), ("x", some (.int x tx)), ("lo", some (.int 0 tl)), ("hi", some .none), ("key", some .none), ("mid", none)])] s) (ha : (a, intsP xs) ∈ base) (hs : xs.length < 2 ^ 60)
    (h : ∀ t vs s', St K base [(L, vs)] s' → Q (.ret (.int (bisL xs x xs.length 0 xs.length) t)) s') :
    wpAny (model prog w) A (execs (fnBody 4) env) Q E s := by
  conv => arg 3; arg 1; whnf
  repeat' walk_at "go"
  refine wpAny_While (codeAny_whileLoop (fun n s => ∃ lo hi tlo thi mid, St K base [(L, nsP [("a", some (.ref a)), ("x", some (.int x tx)), ("lo", some (.int lo tlo)), ("hi", some (.int hi thi)), ("key", some .none), ("mid", mid)])] s ∧
    0 ≤ lo ∧ hi ≤ xs.length ∧ (hi - lo).toNat ≤ n ∧ bisL xs x n lo hi = bisL xs x xs.length 0 xs.length) ?turn xs.length ?start)
  case start =>
    rw [List.length_map] at *
    exact ⟨_, _, _, _, _, by assumption, by lia, by lia, by lia, rfl⟩
  intro n s hI
  refine g_hq ?_
  intro Qv oV
  obtain ⟨lo, hi, tlo, thi, mid, H, h0, h1, h2, h3⟩ := hI
  repeat' walk_at "go"
  clear oV Qv
  refine wif (fun hlt => ?_) (fun hlt => ?_)
  · obtain ⟨n, rfl⟩ : ∃ m, n = m + 1 := ⟨n - 1, by lia⟩
    refine g_hq ?_
    intro Qw oW
    have e : (lo + hi).fdiv 2 = (lo + hi) / 2 := Int.fdiv_eq_ediv_of_nonneg _ (by lia)
    have hx : xs[((lo + hi).fdiv 2).toNat]? = some (xs.getD ((lo + hi).fdiv 2).toNat 0) := by
      rw [List.getD_eq_getElem?_getD]
      rw [List.getElem?_eq_getElem (by rw [e]; lia)]
      rfl
    rw [bisL, if_pos hlt] at h3
    repeat' walk_at "go"
    refine' r_listTail ?H ?k ?h0 ?h1 ?hd ?_ ?hs
    case H => assumption
    case k => walk_at "kn"
    case h0 => lia
    case h1 => lia
    case hd => rw [List.getElem?_map, hx]; rfl
    case hs => with_unfolding_all rfl
    rintro v ⟨u, rfl⟩
    repeat' walk_at "go"
    refine wif (fun hx => ?_) (fun hx => ?_)
    · rw [if_pos hx] at h3
      repeat' walk_at "go"
      exact ⟨n, Nat.lt_succ_self _, _, _, _, _, _, by assumption, by lia, by lia, by lia, h3⟩
    · rw [if_neg hx] at h3
      repeat' walk_at "go"
      exact ⟨n, Nat.lt_succ_self _, _, _, _, _, _, by assumption, by lia, by lia, by lia, h3⟩
  · have h4 : bisL xs x n lo hi = lo := by
      cases n with
      | zero => rfl
      | succ n => rw [bisL, if_neg hlt]
    rw [h4] at h3
    subst h3
    repeat' walk_at "go"
    exact h _ _ _ (by assumption)

theorem bisect_left_call {prog : Program} {w : World} {A : Around} {E : Value → Shared → Prop} {Q : Value → Shared → Prop} {K : Kx} {base led : Led} {a : Addr} {s : Shared} {x : Int} {tx tl : Tok} {xs : List Int} {k : Nat} {args : List Value}
    (T : TopF K.hT) (H : St K base led s) (R : Room (k + 1) A) (hm : Kn base led a (intsP xs)) (hs : xs.length < 2 ^ 60)
    (hb : ∀ hh S pm c, peek (dfF 42 43 229 230 hh) S (bindArgs (fnOf (fnName 4) (fnName 4) (fnParams 4) (fnBody 4) (fnScope 4) (.ref 42) (.ref 43) .none pm none (.ref c) .none) ⟨args, []⟩) = some (bsBinds (.ref a) (.int x tx) (.int 0 tl) .none))
    (h : ∀ t s', Ext s s' → Q (.int (bisL xs x xs.length 0 xs.length) t) s') : wpAny (model prog w) A (call (.ref 50) args) Q E s := by
  obtain ⟨hh, hfr⟩ := T.d50
  refine call_fn [("a", some (.ref a)), ("x", some (.int x tx)), ("lo", some (.int 0 tl)), ("hi", some .none), ("key", some .none), ("mid", none)] [] [(a, intsP xs)] H R T T.f50 hfr ⟨fun p hp => (nomatch hp), List.nodup_nil⟩ (fun p hp => ?_) (hb hh)
    (bs_fn 4 (by decide) _ _ _ _) (bs_vs6 _ _ _ _) ?_
  · rw [List.mem_singleton.mp hp]; exact ⟨H.has hm, fun q => (nomatch q)⟩
  · intro K' env s₁ T' hK X hsc _ hle hr H₁ R₁
    refine bisect_left_body T' X (bs_kd 4 (by decide) hsc) H₁ (.head _) hs fun t vs s' H' => h _ _ (H'.out hK (.head _))
end
--@ b8
section
theorem bisR_bound (xs : List Int) (x : Int) : ∀ (n : Nat) (lo hi : Int), lo ≤ hi → lo ≤ bisR xs x n lo hi ∧ bisR xs x n lo hi ≤ hi
  | 0, lo, hi, h => ⟨Int.le_refl _, h⟩
  | n + 1, lo, hi, h => by
    unfold bisR
    split
    · have e : lo ≤ (lo + hi).fdiv 2 ∧ (lo + hi).fdiv 2 < hi := by
        have := Int.fdiv_eq_ediv_of_nonneg (lo + hi) (b := 2) (by lia)
        lia
      split
      · have := bisR_bound xs x n lo ((lo + hi).fdiv 2) e.1; lia
      · have := bisR_bound xs x n ((lo + hi).fdiv 2 + 1) hi (by lia); lia
    · exact ⟨Int.le_refl _, h⟩
theorem bisL_bound (xs : List Int) (x : Int) : ∀ (n : Nat) (lo hi : Int), lo ≤ hi → lo ≤ bisL xs x n lo hi ∧ bisL xs x n lo hi ≤ hi
  | 0, lo, hi, h => ⟨Int.le_refl _, h⟩
  | n + 1, lo, hi, h => by
    unfold bisL
    split
    · have e : lo ≤ (lo + hi).fdiv 2 ∧ (lo + hi).fdiv 2 < hi := by
        have := Int.fdiv_eq_ediv_of_nonneg (lo + hi) (b := 2) (by lia)
        lia
      split
      · have := bisL_bound xs x n ((lo + hi).fdiv 2 + 1) hi (by lia); lia
      · have := bisL_bound xs x n lo ((lo + hi).fdiv 2) e.1; lia
    · exact ⟨Int.le_refl _, h⟩
noncomputable def biR (xs : List Int) (x : Int) : Int := bisR xs x xs.length 0 xs.length
noncomputable def biL (xs : List Int) (x : Int) : Int := bisL xs x xs.length 0 xs.length
theorem biR_bound (xs : List Int) (x : Int) : 0 ≤ biR xs x ∧ biR xs x ≤ xs.length := bisR_bound _ _ _ _ _ (by lia)
theorem biL_bound (xs : List Int) (x : Int) : 0 ≤ biL xs x ∧ biL xs x ≤ xs.length := bisL_bound _ _ _ _ _ (by lia)
noncomputable def insR (xs : List Int) (x : Int) : List Int := xs.take (biR xs x).toNat ++ x :: xs.drop (biR xs x).toNat
noncomputable def insL (xs : List Int) (x : Int) : List Int := xs.take (biL xs x).toNat ++ x :: xs.drop (biL xs x).toNat
theorem sizeLine_ge : 2 ^ 20 + 64 ≤ sizeLine := by rw [sizeLine]; decide
theorem insort_right_call {prog : Program} {w : World} {A : Around} {E : Value → Shared → Prop} {Q : Value → Shared → Prop} {K : Kx} {base led led' : Led} {a : Addr} {s : Shared} {x : Int} {tx : Tok} {xs : List Int} {k : Nat}
    (T : TopF K.hT) (H : St K base led s) (R : Room (k + 2) A) (hs : xs.length < 2 ^ 20) (hl : Upd led a (intsP xs) (intsP (insR xs x)) led')
    (h : ∀ s', St K base led' s' → Q .none s') : wpAny (model prog w) A (call (.ref 23) [.ref a, .int x tx]) Q E s := by
  obtain ⟨hh, hfr⟩ := T.d23
  refine call_fn [("a", some (.ref a)), ("x", some (.int x tx)), ("lo", some (.int 0 189)), ("hi", some .none), ("key", some .none)] [(a, intsP xs)] [] H R T T.f23 hfr ⟨fun p hp => ?_, List.nodup_cons.mpr ⟨fun q => (nomatch q), List.nodup_nil⟩⟩ (fun p hp => (nomatch hp)) (ir_bind2 hh _ _)
    (bs_fn 1 (by decide) _ _ _ _) (bs_vs5 _ _ _ _) ?_
  · rw [List.mem_singleton.mp hp]; exact ⟨H.here _ hl.mem, H.hi _ hl.mem⟩
  · intro K' env s₁ T' hK X hsc _ hle hr H₁ R₁
    have D : KD env [("a", .local), ("x", .local), ("lo", .local), ("hi", .local), ("key", .local), ("bisect_right", .globalImplicit)] := KD.of hsc (by decide +kernel)
    conv => arg 3; arg 1; whnf
    repeat' walk_at "go"
    with_reducible refine' bisect_right_call (a := a) (x := x) (tx := tx) (xs := xs) (tl := 189) ?T ?H ?R ?hm ?hs ?hb ?_
    case T => assumption
    case H => assumption
    case R => assumption
    case hm => walk_at "kn"
    case hs => exact Nat.lt_trans hs (by decide)
    case hb => intro hh; exact br_bind4 hh (.ref a) (.int x tx) (.int 0 189) .none
    intro t s₂ hx
    replace H₁ := H₁.ext hx
    repeat' walk_at "go"
    refine' r_insert (d := .i x) ?H ?hd ?h0 ?h1 ?hz ?hl ?_
    case H => assumption
    case hl => walk_at "upd"
    case hd => exact ⟨_, rfl⟩
    case h0 => exact (biR_bound xs x).1
    case h1 => have := (biR_bound xs x).2; unfold biR at this; lia
    case hz => rw [List.length_map]; have := sizeLine_ge; lia
    intro s₃ H₃
    repeat' walk_at "go"
    have hx := H₃.outBut hK (.head _)
    refine h _ (H.extBut hx hl ?_)
    have := H₃.here (a, _) (.tail _ (.head _))
    unfold insR
    unfold intsP
    rw [List.map_append, List.map_cons, List.map_take, List.map_drop]
    exact this
theorem insort_left_call {prog : Program} {w : World} {A : Around} {E : Value → Shared → Prop} {Q : Value → Shared → Prop} {K : Kx} {base led led' : Led} {a : Addr} {s : Shared} {x : Int} {tx : Tok} {xs : List Int} {k : Nat}
    (T : TopF K.hT) (H : St K base led s) (R : Room (k + 2) A) (hs : xs.length < 2 ^ 20) (hl : Upd led a (intsP xs) (intsP (insL xs x)) led')
    (h : ∀ s', St K base led' s' → Q .none s') : wpAny (model prog w) A (call (.ref 41) [.ref a, .int x tx]) Q E s := by
  obtain ⟨hh, hfr⟩ := T.d41
  refine call_fn [("a", some (.ref a)), ("x", some (.int x tx)), ("lo", some (.int 0 216)), ("hi", some .none), ("key", some .none)] [(a, intsP xs)] [] H R T T.f41 hfr ⟨fun p hp => ?_, List.nodup_cons.mpr ⟨fun q => (nomatch q), List.nodup_nil⟩⟩ (fun p hp => (nomatch hp)) (il_bind2 hh _ _)
    (bs_fn 3 (by decide) _ _ _ _) (bs_vs5 _ _ _ _) ?_
  · rw [List.mem_singleton.mp hp]; exact ⟨H.here _ hl.mem, H.hi _ hl.mem⟩
  · intro K' env s₁ T' hK X hsc _ hle hr H₁ R₁
    have D : KD env [("a", .local), ("x", .local), ("lo", .local), ("hi", .local), ("key", .local), ("bisect_left", .globalImplicit)] := KD.of hsc (by decide +kernel)
    conv => arg 3; arg 1; whnf
    repeat' walk_at "go"
    with_reducible refine' bisect_left_call (a := a) (x := x) (tx := tx) (xs := xs) (tl := 216) ?T ?H ?R ?hm ?hs ?hb ?_
    case T => assumption
    case H => assumption
    case R => assumption
    case hm => walk_at "kn"
    case hs => exact Nat.lt_trans hs (by decide)
    case hb => intro hh; exact bl_bind4 hh (.ref a) (.int x tx) (.int 0 216) .none
    intro t s₂ hx
    replace H₁ := H₁.ext hx
    repeat' walk_at "go"
    refine' r_insert (d := .i x) ?H ?hd ?h0 ?h1 ?hz ?hl ?_
    case H => assumption
    case hl => walk_at "upd"
    case hd => exact ⟨_, rfl⟩
    case h0 => exact (biL_bound xs x).1
    case h1 => have := (biL_bound xs x).2; unfold biL at this; lia
    case hz => rw [List.length_map]; have := sizeLine_ge; lia
    intro s₃ H₃
    repeat' walk_at "go"
    have hx := H₃.outBut hK (.head _)
    refine h _ (H.extBut hx hl ?_)
    have := H₃.here (a, _) (.tail _ (.head _))
    unfold insL
    unfold intsP
    rw [List.map_append, List.map_cons, List.map_take, List.map_drop]
    exact this
end
--@ b9
section
noncomputable def PD.eqb : PD → PD → Bool
  | .i x, .i y => x == y
  | .s x, .s y => decide (x = y)
  | .b x, .b y => x == y
  | _, _ => false
noncomputable def PD.same : PD → PD → Bool
  | .i _, .i _ => true
  | .s _, .s _ => true
  | _, _ => false
theorem PD.is_i (x : Int) (t : Tok) : PD.is (.i x) (.int x t) := ⟨t, rfl⟩
theorem PD.is_s (x : Str) (t : Tok) : PD.is (.s x) (.str x t) := ⟨t, rfl⟩
theorem PD.is_b (x : Bool) : PD.is (.b x) (.bool x) := rfl
theorem eqGives_pd {d e : PD} {v u : Value} (hs : PD.same d e = true) (hd : PD.is d v) (he : PD.is e u) : MeetsSeq.EqGives v u (PD.eqb d e) := by
  cases d <;> cases e <;> first | (simp [PD.same] at hs; done) | skip
  · obtain ⟨t, rfl⟩ := hd; obtain ⟨t', rfl⟩ := he; exact MeetsSeq.EqGives.int _ _ _ _
  · obtain ⟨t, rfl⟩ := hd; obtain ⟨t', rfl⟩ := he; exact fun _ _ _ _ _ _ h => wpAny_eqBool_str h

theorem All2.mem {α β : Type} {R : α → β → Prop} {l : List α} {k : List β} (h : All2 R l k) : ∀ y ∈ k, ∃ x ∈ l, R x y := by
  induction h with
  | nil => intro y hy; cases hy
  | cons h1 _ ih =>
    intro y hy
    rcases List.mem_cons.mp hy with rfl | hy
    · exact ⟨_, .head _, h1⟩
    · obtain ⟨x, hx, r⟩ := ih y hy; exact ⟨x, .tail _ hx, r⟩

section
variable {prog : Program} {w : World} {A : Around} {E : Value → Shared → Prop} {K : Kx} {base led led' : Led} {s : Shared} {env : Env} {L a b : Addr} {ds es : List PD} {vs : List Value} {v : Value} {d : PD} {pos : Pos}

/-- equality of values of one kind, as a test of them -/
noncomputable def valEqb (u v : Value) : Bool := match u, v with
  | .int x _, .int y _ => x == y
  | .str x _, .str y _ => decide (x = y)
  | _, _ => false
theorem valEqb_is {d e : PD} {v u : Value} (hs : PD.same d e = true) (hd : PD.is d v) (he : PD.is e u) : valEqb v u = PD.eqb d e := by
  cases d <;> cases e <;> first | (simp [PD.same] at hs; done) | skip
  · obtain ⟨t, rfl⟩ := hd; obtain ⟨t', rfl⟩ := he; rfl
  · obtain ⟨t, rfl⟩ := hd; obtain ⟨t', rfl⟩ := he; rfl
theorem any_valEqb (hv : VS ds vs) (hd : PD.is d v) (hs : ∀ e ∈ ds, PD.same e d = true) : vs.toArray.any (fun y => valEqb y v) = ds.any fun e => PD.eqb e d := by
  rw [List.any_toArray]
  induction hv with
  | nil => rfl
  | cons h1 _ ih => rw [List.any_cons, List.any_cons, ih fun e he => hs e (.tail _ he), valEqb_is (hs _ (.head _)) h1 hd]

theorem r_newList {Q : Value → Shared → Prop} (H : St K base led s) (hv : VS ds vs) (hz : ds.length ≤ sizeLine) (h : ∀ n s', St K base ((n, datP ds) :: led) s' → Q (.ref n) s') : wpAny (model prog w) A (newList vs) Q E s :=
  wpAny_newList (h _ _ (H.push _ ⟨vs, hv, 0, rfl⟩ rfl rfl ⟨rfl, rfl, rfl⟩)) (by rw [← hv.len]; exact hz)
noncomputable def tupP (vs : List Value) : OP := fun o => o = tupO vs
theorem r_newTuple {Q : Value → Shared → Prop} (H : St K base led s) (hz : vs.length ≤ sizeLine) (h : ∀ n s', St K base ((n, tupP vs) :: led) s' → Q (.ref n) s') : wpAny (model prog w) A (newTuple vs) Q E s :=
  wpAny_newTuple (h _ _ (H.push _ rfl rfl rfl ⟨rfl, rfl, rfl⟩)) hz
theorem tup_is {h : Heap} (x : Has h a (tupP vs)) : h.IsTuple a vs.toArray := by
  obtain ⟨o, e, rfl⟩ := x
  exact ⟨_, e, rfl, 0, rfl⟩

theorem r_in {Q : Value → Shared → Prop} (H : St K base led s) (hm : Kn base led a (datP ds)) (hd : PD.is d v) (hs : ∀ e ∈ ds, PD.same e d = true) (h : Q (.bool (ds.any fun e => PD.eqb e d)) s) :
    wpAny (model prog w) A (call (.builtin "list.__contains__") [.ref a, v]) Q E s := by
  obtain ⟨vs, hv, o, e, n, rfl⟩ := dat_open (H.has hm)
  refine call_meets PySem.F.slot_list_contains ⟨_, e, rfl⟩ PySem.F.entry_list_contains (PySem.F.args_list_contains_2 _ _) (MeetsSeq.list_contains a _ n v (fun y => valEqb y v) (fun y hy => ?_)) ⟨e, ?_⟩
  · obtain ⟨d', hd', q⟩ := hv.mem y (by simpa using hy)
    rw [valEqb_is (hs _ hd') q hd]
    exact eqGives_pd (hs _ hd') q hd
  · rw [any_valEqb hv hd hs]; exact h
theorem r_addL {Q : Value → Shared → Prop} (H : St K base led s) (hm : Kn base led a (datP ds)) (hm' : Kn base led b (datP es)) (hz : ds.length + es.length ≤ sizeLine) (h : ∀ n s', St K base ((n, datP (ds ++ es)) :: led) s' → Q (.ref n) s') :
    wpAny (model prog w) A (binaryOp .Add (.ref a) (.ref b)) Q E s := by
  obtain ⟨vs, hv, o, e, n, rfl⟩ := dat_open (H.has hm)
  obtain ⟨us, hu, o, e', n', rfl⟩ := dat_open (H.has hm')
  refine PySem.P.add_list e e' (h _ _ (H.push _ ⟨vs ++ us, hv.app hu, 0, ?_⟩ rfl rfl ⟨rfl, rfl, rfl⟩)) (by simp only [List.size_toArray]; rw [← hv.len, ← hu.len]; exact hz)
  show ({ cls := .type "list", data := .seq (vs.toArray ++ us.toArray) } : Obj) = listObj (vs ++ us).toArray 0
  rw [List.append_toArray]
  rfl
theorem r_append {Q : Value → Shared → Prop} (H : St K base led s) (hd : PD.is d v) (hl : Upd led a (datP ds) (datP (ds ++ [d])) led') (hz : ds.length ≤ sizeLine) (h : ∀ s', St K base led' s' → Q .none s') :
    wpAny (model prog w) A (call (.builtin "list.append") [.ref a, v]) Q E s := by
  obtain ⟨vs, hv, hx⟩ := dat_open (H.here _ hl.mem)
  obtain ⟨o, e, n, rfl⟩ := id hx
  have hu := upd_lst hx (f := fun xs => xs.push v) (vs' := vs ++ [v]) (by simp)
  refine call_meets PySem.F.slot_list_append ⟨_, e, rfl⟩ PySem.F.entry_list_append (PySem.F.args_list_append_2 _ _) (list_append a _ n v (by rw [List.size_toArray, ← hv.len]; exact hz)) ⟨e, h _ (H.change hl hu.1 ⟨rfl, rfl, rfl⟩ ?_)⟩
  obtain ⟨o, e, q⟩ := hu.2
  exact ⟨o, e, _, hv.app (.one hd), q⟩

/-! unpacking -/
theorem r_swap {names : List Str} {k tk : Nat} {tpos vpos : Pos} {elts velts : List Expr} {Q : Flow → Shared → Prop} (hh : A.handled = none)
    (h : wpAny (model prog w) A (spliced (backTo vpos (starEach velts env))) (fun vs s₁ => vs.length = names.length ∧ vs.length ≤ sizeLine ∧ ∀ s₂, Ext s₁ s₂ → wpAny (model prog w) A (assignInOrder (names.reverse.map fun n => bindName env n) vs.reverse) (fun _ => Q .next) E s₂) E s)
    (hs : swapsWithSole [.Tuple elts k tpos] (.Tuple velts tk vpos) pos.line env = pure false)
    (hw : swappedStores [.Tuple elts k tpos] (.Tuple velts tk vpos) env = pure (some names)) :
    wpAny (model prog w) A (exec (.Assign [.Tuple elts k tpos] (.Tuple velts tk vpos) pos) env) Q E s := by
  refine Assign_Tuple_swapped (Tuple_ (wpAny_mono h (fun vs s₁ q => ?_) fun _ _ x => x)) hs hw
  obtain ⟨hl, hz, q⟩ := q
  refine wpAny_newTuple ?_ hz
  have ht : (s₁.heap.push { cls := .type "tuple", data := .seq vs.toArray }).IsTuple s₁.heap.objs.size vs.toArray := ⟨_, Heap.get?_push_size _ rfl, rfl, 0, rfl⟩
  have e : names.length = vs.toArray.size := by rw [List.size_toArray, hl]
  rw [e]
  refine wpAny_unpackItems_tuple hh ht fun h' hx => ?_
  refine q _ ⟨fun b o e => ?_, ⟨rfl, rfl, rfl⟩, ?_⟩
  · refine hx b o ?_ (Heap.get?_push_of_some _ e)
    show b ≠ (s₁.heap.push _).objs.size
    have := Heap.lt_size e
    rw [Heap.size_push]
    exact Nat.ne_of_lt (Nat.lt_succ_of_lt this)
  · obtain ⟨o, e, _⟩ := ht
    refine Nat.le_of_lt (Heap.lt_size (hx _ o ?_ e))
    show s₁.heap.objs.size ≠ (s₁.heap.push _).objs.size
    rw [Heap.size_push]
    exact Nat.ne_of_lt (Nat.lt_succ_self _)
theorem r_ord {f : Value → Sem Unit} {fs : List (Value → Sem Unit)} {x : Value} {xs : List Value} {Q : Unit → Shared → Prop} (h : wpAny (model prog w) A (f x) (fun _ s₁ => wpAny (model prog w) A (assignInOrder fs xs) Q E s₁) E s) :
    wpAny (model prog w) A (assignInOrder (f :: fs) (x :: xs)) Q E s := wpAny_assignInOrder_more h
theorem r_ord0 {Q : Unit → Shared → Prop} (h : Q () s) : wpAny (model prog w) A (assignInOrder [] []) Q E s := wpAny_assignInOrder_none h
end

/-! picking out of a ledger -/
inductive Rem : Led → Addr × OP → Led → Prop where
  | here {l : Led} {p : Addr × OP} : Rem (p :: l) p l
  | next {l l' : Led} {p q : Addr × OP} (h : Rem l p l') : Rem (q :: l) p (q :: l')
theorem Rem.mem {l l' : Led} {p : Addr × OP} (r : Rem l p l') : p ∈ l := by
  induction r with
  | here => exact .head _
  | next _ ih => exact .tail _ ih
theorem Rem.sub {l l' : Led} {p : Addr × OP} (r : Rem l p l') : l'.Sublist l := by
  induction r with
  | here => exact List.sublist_cons_self _ _
  | next _ ih => exact ih.cons_cons _
theorem Rem.off {l l' : Led} {p : Addr × OP} (r : Rem l p l') (nd : (l.map (·.1)).Nodup) : p.1 ∉ l'.map (·.1) := by
  induction r with
  | here => exact (List.nodup_cons.mp nd).1
  | next r ih =>
    have nd' := List.nodup_cons.mp nd
    intro hm
    rcases List.mem_cons.mp hm with e | hm
    · exact nd'.1 (e ▸ List.mem_map_of_mem r.mem)
    · exact ih nd'.2 hm
inductive Pick : Led → Led → Prop where
  | nil {l : Led} : Pick l []
  | cons {l l₁ l' : Led} {p : Addr × OP} (r : Rem l p l₁) (h : Pick l₁ l') : Pick l (p :: l')
theorem Pick.all {l : Led} : Pick l l := by
  induction l with
  | nil => exact .nil
  | cons p l ih => exact .cons .here ih
theorem Pick.sub {l l' : Led} (h : Pick l l') : ∀ p ∈ l', p ∈ l := by
  induction h with
  | nil => intro p hp; cases hp
  | cons r _ ih =>
    intro p hp
    rcases List.mem_cons.mp hp with rfl | hp
    · exact r.mem
    · exact r.sub.subset (ih p hp)
theorem Pick.nodup {l l' : Led} (h : Pick l l') : (l.map (·.1)).Nodup → (l'.map (·.1)).Nodup := by
  induction h with
  | nil => intro _; exact List.nodup_nil
  | cons r k ih =>
    intro nd
    rw [List.map_cons, List.nodup_cons]
    refine ⟨fun hm => ?_, ih ((r.sub.map _).nodup nd)⟩
    obtain ⟨q, hq, e⟩ := List.mem_map.mp hm
    exact r.off nd (e ▸ List.mem_map_of_mem (k.sub q hq))
theorem St.pick {K : Kx} {base led led' : Led} {s : Shared} (H : St K base led s) (h : Pick led led') : St K base led' s where
  top := H.top
  tn := H.tn
  last := H.last
  tab := H.tab
  keep := H.keep
  old := H.old
  here := fun p hm => H.here p (h.sub p hm)
  nd := h.nodup H.nd
  fresh := fun p hm => H.fresh p (h.sub p hm)
  hi := fun p hm => H.hi p (h.sub p hm)
  gens := H.gens
  drawn := H.drawn
  os := H.os
end
--@ b10
section
structure Src (prog : Program) (w : World) (K : Kx) (base : Led) (tgt : Expr) (it : Addr) (n : Nat) (IT : Nat → Led) (V : Nat → Value → Led → Prop) (hold : Led → Prop) : Prop where
  item : ∀ {A : Around} {E : Value → Shared → Prop} {Q : Value → Shared → Prop} {i : Nat} {led : Led} {s : Shared}, A.handled = none → i < n → hold led → St K base (IT i ++ led) s →
    (∀ v ex s', V i v ex → St K base (ex ++ (IT (i + 1) ++ led)) s' → Q v s') →
    wpAny (model prog w) A (pyNext (.ref it)) (fun r s₁ => ∃ v, r = some v ∧ wpAny (model prog w) A (letOwnedTupleGo tgt (.ref it) v) (fun _ s₂ => Q v s₂) E s₁) E s
  fin : ∀ {A : Around} {E : Value → Shared → Prop} {Q : Option Value → Shared → Prop} {led : Led} {s : Shared}, A.handled = none → hold led → St K base (IT n ++ led) s →
    (∀ s', St K base led s' → Q none s') → wpAny (model prog w) A (pyNext (.ref it)) Q E s
  self : ∀ {A : Around} {E : Value → Shared → Prop} {Q : Value → Shared → Prop} {i : Nat} {led : Led} {s : Shared}, St K base (IT i ++ led) s → Q (.ref it) s → wpAny (model prog w) A (pyIter (.ref it)) Q E s
  mono : ∀ {p : Addr × OP} {led : Led}, hold led → hold (p :: led)

theorem Upd.pre {l l' : Led} {a : Addr} {P P' : OP} (u : Upd l a P P' l') : ∀ p : Led, Upd (p ++ l) a P P' (p ++ l')
  | [] => u
  | _ :: p => .next (u.pre p)
theorem St.perm {K : Kx} {base led led' : Led} {s : Shared} (H : St K base led s) (h : led.Perm led') : St K base led' s where
  top := H.top
  tn := H.tn
  last := H.last
  tab := H.tab
  keep := H.keep
  old := H.old
  here := fun p hm => H.here p (h.symm.subset hm)
  nd := (h.map _).nodup_iff.mp H.nd
  fresh := fun p hm => H.fresh p (h.symm.subset hm)
  hi := fun p hm => H.hi p (h.symm.subset hm)
  gens := H.gens
  drawn := H.drawn
  os := H.os
theorem Kn.more {base led : Led} {a : Addr} {P : OP} {p : Addr × OP} (h : Kn base led a P) : Kn base (p :: led) a P := by
  cases h with
  | own h => exact .own (.tail _ h)
  | old h => exact .old h

section
variable {prog : Program} {w : World} {A : Around} {E : Value → Shared → Prop} {K : Kx} {base led led' : Led} {s : Shared} {env : Env} {L a b it : Addr} {ds es : List PD} {vs : List Value} {v : Value} {d : PD} {pos : Pos} {tgt : Expr}
  {n : Nat} {IT : Nat → Led} {V : Nat → Value → Led → Prop} {hold : Led → Prop}

theorem St.lose {P : OP} {h' : Heap} {t : Nat} (H : St K base led s) (r : Rem led (it, P) led') (hx : Heap.ExtBut it s.heap h') : St K base led' { s with heap := h', toks := t } := by
  have hit : Hi it := H.hi _ r.mem
  have hfr : it ∈ K.mu ∨ K.h₀.get? it = none := H.fresh _ r.mem
  have hoff : ∀ p ∈ led', p.1 ≠ it := fun p hp e => r.off H.nd (List.mem_map.mpr ⟨p, hp, e⟩)
  have hold : ∀ b, (K.h₀.get? b).isSome = true → b ∉ K.mu → b ≠ it := by
    rintro b hb hm rfl
    rcases hfr with f | f
    · exact hm f
    · rw [f] at hb; cases hb
  refine ⟨fun b o e => hx b o (fun q => ?_) (H.top b o e), H.tn, H.last, H.tab, fun b o e m => hx b o (hold b (by rw [e]; rfl) m) (H.keep b o e m), fun p hp => ?_, fun p hp => ?_, (r.sub.map _).nodup H.nd, fun p hp => H.fresh p (r.sub.subset hp), fun p hp => H.hi p (r.sub.subset hp), H.gens, H.drawn, H.os⟩
  · exact H.top_off e (q ▸ hit)
  · obtain ⟨⟨o, e, q⟩, i, m⟩ := H.old p hp
    exact ⟨⟨o, hx _ _ (hold _ i m) e, q⟩, i, m⟩
  · obtain ⟨o, e, q⟩ := H.here p (r.sub.subset hp)
    exact ⟨o, hx _ _ (hoff p hp) e, q⟩

/-! ### lists -/
noncomputable def liP (l : Addr) (i : Nat) : OP := fun o => o.cls = .type "list_iterator" ∧ o.data = .fields #[.ref l, .int i 0]
theorem li_is {h : Heap} {l : Addr} {i : Nat} (x : Has h it (liP l i)) : h.IsListIter it l i := let ⟨o, e, c, d⟩ := x; ⟨o, e, c, d⟩
theorem is_li {h : Heap} {l : Addr} {i : Nat} (x : h.IsListIter it l i) : Has h it (liP l i) := let ⟨o, e, c, d⟩ := x; ⟨o, e, c, d⟩
noncomputable def VL (ds : List PD) (i : Nat) (v : Value) (ex : Led) : Prop := ex = [] ∧ ∃ d, ds[i]? = some d ∧ PD.is d v
theorem Src.list (l : Addr) (ds : List PD) (ht : ∀ it v, letOwnedTupleGo tgt (.ref it) v = pure () := by intro _ _; rfl) :
    Src prog w K base tgt it ds.length (fun i => [(it, liP l i)]) (VL ds) (fun led => Kn base led l (datP ds)) where
  item := by
    intro A E Q i led s hh hi hl H h
    obtain ⟨vs, hv, hx⟩ := dat_open (H.has (led := [(it, liP l i)] ++ led) hl.more)
    obtain ⟨v, e, p⟩ := hv.get (List.getElem?_eq_getElem hi)
    refine wpAny_pyNext_list_item (li_is (H.here _ (.head _))) (lst_is hx) (by simpa using e) fun h' hit hs => ⟨v, rfl, wpAny_of_eq (ht it v) (h _ [] _ ⟨rfl, _, List.getElem?_eq_getElem hi, p⟩ (H.change .here (LeBut.of_same hs) ⟨rfl, rfl, rfl⟩ (is_li hit)))⟩
  fin := by
    intro A E Q led s hh hl H h
    obtain ⟨vs, hv, hx⟩ := dat_open (H.has (led := [(it, liP l ds.length)] ++ led) hl.more)
    refine wpAny_pyNext_list_end hh (li_is (H.here _ (.head _))) (lst_is hx) (by simp [hv.len]) fun h' hx => h _ (H.lose .here hx)
  self := by
    intro A E Q i led s H h
    exact wpAny_pyIter_listiter (li_is (H.here _ (.head _))) h
  mono := Kn.more

/-! ### tuples -/
noncomputable def tiP (l : Addr) (i : Nat) : OP := fun o => o.cls = .type "tuple_iterator" ∧ o.data = .fields #[.ref l, .int i 0]
theorem Src.tuple (l : Addr) (vs : List Value) (ht : ∀ it v, letOwnedTupleGo tgt (.ref it) v = pure () := by intro _ _; rfl) :
    Src prog w K base tgt it vs.length (fun i => [(it, tiP l i)]) (fun i v ex => ex = [] ∧ vs[i]? = some v) (fun led => Kn base led l (tupP vs)) where
  item := by
    intro A E Q i led s hh hi hl H h
    have hx := tup_is (H.has (led := [(it, tiP l i)] ++ led) hl.more)
    obtain ⟨o, e, c, d⟩ := H.here _ (.head _)
    refine wpAny_pyNext_tuple_item ⟨o, e, c, d⟩ hx (x := vs[i]) (by simp [hi]) fun h' hit hs => ⟨_, rfl, wpAny_of_eq (ht it _) (h _ [] _ ⟨rfl, List.getElem?_eq_getElem hi⟩ (H.change .here (LeBut.of_same hs) ⟨rfl, rfl, rfl⟩ ?_))⟩
    obtain ⟨o, e, c, d⟩ := hit
    exact ⟨o, e, c, d⟩
  fin := by
    intro A E Q led s hh hl H h
    have hx := tup_is (H.has (led := [(it, tiP l vs.length)] ++ led) hl.more)
    obtain ⟨o, e, c, d⟩ := H.here _ (.head _)
    refine wpAny_pyNext_tuple_end hh ⟨o, e, c, d⟩ hx (by simp) fun h' hx => h _ (H.lose .here hx)
  self := by
    intro A E Q i led s H h
    obtain ⟨o, e, c, d⟩ := H.here _ (.head _)
    exact wpAny_pyIter_tupleiter ⟨o, e, c, d⟩ h
  mono := Kn.more

/-! ### signs of a text -/
noncomputable def siP (x : Str) (i : Nat) : OP := fun o => ∃ t, o.cls = .type (strIterType x) ∧ o.data = .fields #[.str x t, .int i 0]
theorem strIterType_or (x : Str) : strIterType x = "str_ascii_iterator" ∨ strIterType x = "str_iterator" := by
  unfold strIterType
  split
  · exact .inl rfl
  · exact .inr rfl
noncomputable def signS (c : Nat) : Str := ⟨#[c]⟩
noncomputable def VT (x : Str) (i : Nat) (v : Value) (ex : Led) : Prop := ex = [] ∧ ∃ c t, x.cps[i]? = some c ∧ v = .str (signS c) t
theorem Src.text (x : Str) (ht : ∀ it v, letOwnedTupleGo tgt (.ref it) v = pure () := by intro _ _; rfl) :
    Src prog w K base tgt it x.cps.size (fun i => [(it, siP x i)]) (VT x) (fun _ => True) where
  item := by
    intro A E Q i led s hh hi _ H h
    obtain ⟨o, e, t, c, d⟩ := H.here _ (.head _)
    rcases strIterType_or x with q | q
    · rw [q] at c
      refine wpAny_pyNext_ascii_item ⟨o, e, c, d⟩ (Array.getElem?_eq_getElem hi) fun h' hit hs => ⟨_, rfl, wpAny_of_eq (ht it _) (h _ [] _ ⟨rfl, _, _, Array.getElem?_eq_getElem hi, rfl⟩ (H.change .here (LeBut.of_same hs) ⟨rfl, rfl, rfl⟩ ?_))⟩
      obtain ⟨o, e, c, d⟩ := hit
      exact ⟨o, e, t, q ▸ c, d⟩
    · rw [q] at c
      refine wpAny_pyNext_wide_item ⟨o, e, c, d⟩ (Array.getElem?_eq_getElem hi) fun h' hit hs => ⟨_, rfl, wpAny_of_eq (ht it _) (h _ [] _ ⟨rfl, _, _, Array.getElem?_eq_getElem hi, rfl⟩ (H.change .here (LeBut.of_same hs) ⟨rfl, rfl, rfl⟩ ?_))⟩
      obtain ⟨o, e, c, d⟩ := hit
      exact ⟨o, e, t, q ▸ c, d⟩
  fin := by
    intro A E Q led s hh _ H h
    obtain ⟨o, e, t, c, d⟩ := H.here _ (.head _)
    rcases strIterType_or x with q | q
    · rw [q] at c
      exact wpAny_pyNext_ascii_end hh ⟨o, e, c, d⟩ (by simp) fun h' hx => h _ (H.lose .here hx)
    · rw [q] at c
      exact wpAny_pyNext_wide_end hh ⟨o, e, c, d⟩ (by simp) fun h' hx => h _ (H.lose .here hx)
  self := by
    intro A E Q i led s H h
    obtain ⟨o, e, t, c, d⟩ := H.here _ (.head _)
    rcases strIterType_or x with q | q
    · rw [q] at c
      exact wpAny_pyIter_striter_ascii ⟨o, e, c, d⟩ h
    · rw [q] at c
      exact wpAny_pyIter_striter_wide ⟨o, e, c, d⟩ h
  mono := fun h => h

/-! ### ranges -/
noncomputable def riP (x left step : Int) : OP := fun o => o = { cls := .type "range_iterator", dict := none, data := .fields #[rawInt x, rawInt left, rawInt step], slots := #[] }
noncomputable def VR (a c : Int) (i : Nat) (v : Value) (ex : Led) : Prop := ex = [] ∧ ∃ t, v = .int (a + i * c) t

theorem Src.range (a c : Int) (n : Nat) (ht : ∀ it v, letOwnedTupleGo tgt (.ref it) v = pure () := by intro _ _; rfl) :
    Src prog w K base tgt it n (fun i => [(it, riP (a + i * c) (n - i) c)]) (VR a c) (fun _ => True) where
  item := by
    intro A E Q i led s hh hi _ H h
    obtain ⟨o, e, rfl⟩ := H.here _ (.head _)
    refine wpAny_pyNext_range_item e (by lia) fun h' hit hs => ⟨_, rfl, wpAny_of_eq (ht it _) (h _ [] _ ⟨rfl, _, rfl⟩ (H.change .here (LeBut.of_same hs) ⟨rfl, rfl, rfl⟩ ⟨_, hit, ?_⟩))⟩
    rw [show a + ((i + 1 : Nat) : Int) * c = a + i * c + c from by rw [Int.natCast_add, Int.add_mul]; simp [Int.add_assoc], show (n : Int) - ((i + 1 : Nat) : Int) = n - i - 1 from by lia]
    rfl
  fin := by
    intro A E Q led s hh _ H h
    obtain ⟨o, e, rfl⟩ := H.here _ (.head _)
    exact wpAny_pyNext_range_end hh e (by lia) fun h' hx => h _ (H.lose .here hx)
  self := by
    intro A E Q i led s H h
    obtain ⟨o, e, rfl⟩ := H.here _ (.head _)
    exact wpAny_pyIter_rangeiter e h
  mono := fun h => h
noncomputable def rngP (a b c : Int) : OP := fun o => ∃ t u v, o = { cls := .type "range", dict := none, data := .fields #[.int a t, .int b u, .int c v], slots := #[] }
theorem r_range1 {b : Int} {t : Tok} {Q : Value → Shared → Prop} (H : St K base led s) (h : ∀ r s', St K base ((r, rngP 0 b 1) :: led) s' → Q (.ref r) s') : wpAny (model prog w) A (call (.type "range") [.int b t]) Q E s :=
  call_range_1 (h _ _ (H.push _ ⟨_, _, _, rfl⟩ rfl rfl ⟨rfl, rfl, rfl⟩))
theorem r_range3 {a b c : Int} {t u v : Tok} {Q : Value → Shared → Prop} (H : St K base led s) (hc : c ≠ 0) (hz : c.natAbs < 1073741824) (h : ∀ r s', St K base ((r, rngP a b c) :: led) s' → Q (.ref r) s') : wpAny (model prog w) A (call (.type "range") [.int a t, .int b u, .int c v]) Q E s :=
  call_range_3 hc (h _ _ (H.push _ ⟨_, _, _, rfl⟩ rfl rfl ⟨rfl, rfl, rfl⟩)) (.inl (PyProof.noPylong_small hz))
theorem r_iterR {x y c : Int} {Q : Value → Shared → Prop} (n : Nat) (H : St K base led s) (hm : Kn base led a (rngP x y c)) (hn : Builtin.Range.rangeSize x y c = n) (hs : Builtin.Range.small x y c = true) (h : ∀ it s', St K base ((it, riP x n c) :: led) s' → Q (.ref it) s') :
    wpAny (model prog w) A (pyIter (.ref a)) Q E s := by
  obtain ⟨o, e, t, u, v, rfl⟩ := H.has hm
  refine wpAny_pyIter_range e hs (h _ _ (H.push _ ?_ rfl rfl ⟨rfl, rfl, rfl⟩))
  rw [hn]
  rfl

/-! ### enumerate over a list -/
noncomputable def enP (it : Addr) (i : Nat) : OP := fun o => ∃ old, o = { cls := .type "enumerate", dict := none, data := .fields #[.none, .bool false, .ref it, rawInt i, .none, old], slots := #[] }
noncomputable def VE (ds : List PD) (i : Nat) (v : Value) (ex : Led) : Prop := ∃ T t x d, v = .ref T ∧ ex = [(T, tupP [.int i t, x])] ∧ ds[i]? = some d ∧ PD.is d x
theorem Src.enum (l it' : Addr) (ds : List PD) (elts : List Expr) (k : Nat) (p : Pos) :
    Src prog w K base (.Tuple elts k p) it ds.length (fun i => [(it, enP it' i), (it', liP l i)]) (VE ds) (fun led => Kn base led l (datP ds)) where
  item := by
    intro A E Q i led s hh hi hl H h
    obtain ⟨vs, hv, hx⟩ := dat_open (H.has (led := [(it, enP it' i), (it', liP l i)] ++ led) hl.more.more)
    obtain ⟨v, e, pv⟩ := hv.get (List.getElem?_eq_getElem hi)
    obtain ⟨o, he, old, rfl⟩ := H.here _ (.head _)
    have hne : it ≠ it' := by
      have := H.nd
      simp only [List.cons_append, List.map_cons, List.nodup_cons, List.mem_cons, not_or] at this
      exact this.1.1
    refine wpAny_pyNext_enum_item he (li_is (H.here _ (.tail _ (.head _)))) (lst_is hx) (by simpa using e) hne fun h' heo hit hT hsz hk => ⟨_, rfl, ?_⟩
    have hTe : s.heap.objs.size ≠ it := Nat.ne_of_gt (Heap.lt_size he)
    refine wpAny_letOwnedTupleGo_enum heo fun h'' he'' hs'' => ?_
    have hT'' : h''.get? s.heap.objs.size = some (tupO [.int i s.toks, v]) := (hs''.2 _ hTe).trans hT
    have hit'' : Has h'' it' (liP l (i + 1)) := by
      obtain ⟨o, e, q⟩ := is_li hit
      exact ⟨o, (hs''.2 _ (Ne.symm hne)).trans e, q⟩
    have hk'' : ∀ b o, b ≠ it → b ≠ it' → s.heap.get? b = some o → h''.get? b = some o := fun b o n m e => (hs''.2 b n).trans (hk b o n m e)
    have H2 : St K base ([] ++ led) ⟨h'', s.gens, s.drawn, s.toks + 1, s.os⟩ := by
      have := H.nd
      simp only [List.cons_append, List.nil_append, List.map_cons, List.nodup_cons, List.mem_cons, not_or] at this
      have hfr : ∀ b, (b = it ∨ b = it') → Hi b ∧ (b ∈ K.mu ∨ K.h₀.get? b = none) := by
        rintro b (rfl | rfl)
        · exact ⟨H.hi _ (.head _), H.fresh _ (.head _)⟩
        · exact ⟨H.hi _ (.tail _ (.head _)), H.fresh _ (.tail _ (.head _))⟩
      have hold : ∀ b, (K.h₀.get? b).isSome = true → b ∉ K.mu → b ≠ it ∧ b ≠ it' := by
        intro b hb hm
        constructor
        · intro q; rcases (hfr b (.inl q)).2 with f | f
          · exact hm f
          · rw [f] at hb; cases hb
        · intro q; rcases (hfr b (.inr q)).2 with f | f
          · exact hm f
          · rw [f] at hb; cases hb
      refine ⟨fun b o e => hk'' b o (fun q => ?_) (fun q => ?_) (H.top b o e), H.tn, H.last, H.tab, fun b o e m => ?_, fun p hp => ?_, fun p hp => ?_, this.2.2, fun p hp => H.fresh p (.tail _ (.tail _ hp)), fun p hp => H.hi p (.tail _ (.tail _ hp)), H.gens, H.drawn, H.os⟩
      · exact H.top_off e (hfr b (.inl q)).1
      · exact H.top_off e (hfr b (.inr q)).1
      · obtain ⟨n1, n2⟩ := hold b (by rw [e]; rfl) m
        exact hk'' b o n1 n2 (H.keep b o e m)
      · obtain ⟨⟨o, e, q⟩, i, m⟩ := H.old p hp
        obtain ⟨n1, n2⟩ := hold _ i m
        exact ⟨⟨o, hk'' _ _ n1 n2 e, q⟩, i, m⟩
      · obtain ⟨o, e, q⟩ := H.here p (.tail _ (.tail _ hp))
        exact ⟨o, hk'' _ _ (fun q => this.1.2 (q ▸ List.mem_map_of_mem hp)) (fun q => this.2.1 (q ▸ List.mem_map_of_mem hp)) e, q⟩
    have hnew : s.heap.get? s.heap.objs.size = none := get_size _
    refine h _ [(s.heap.objs.size, tupP [.int i s.toks, v])] _ ⟨_, _, _, _, rfl, rfl, List.getElem?_eq_getElem hi, pv⟩ ?_
    have hnd := H.nd
    simp only [List.cons_append, List.nil_append, List.map_cons, List.nodup_cons, List.mem_cons, not_or] at hnd
    have hoff := H.off hnew
    simp only [List.cons_append, List.nil_append, List.map_cons, List.mem_cons, not_or] at hoff
    refine ⟨H2.top, H2.tn, H2.last, H2.tab, H2.keep, H2.old, fun p hp => ?_, ?_, fun p hp => ?_, fun p hp => ?_, H2.gens, H2.drawn, H2.os⟩
    · rcases List.mem_cons.mp hp with rfl | hp
      · exact ⟨_, hT'', rfl⟩
      rcases List.mem_cons.mp hp with rfl | hp
      · exact ⟨_, he'', _, rfl⟩
      rcases List.mem_cons.mp hp with rfl | hp
      · exact hit''
      exact H2.here p hp
    · simp only [List.cons_append, List.nil_append, List.map_cons, List.nodup_cons, List.mem_cons, not_or]
      exact ⟨hoff, hnd⟩
    · rcases List.mem_cons.mp hp with rfl | hp
      · exact H.notOld hnew
      rcases List.mem_cons.mp hp with rfl | hp
      · exact H.fresh (it, enP it' i) (.head _)
      rcases List.mem_cons.mp hp with rfl | hp
      · exact H.fresh (it', liP l i) (.tail _ (.head _))
      exact H2.fresh p hp
    · rcases List.mem_cons.mp hp with rfl | hp
      · exact .inl H.sz
      rcases List.mem_cons.mp hp with rfl | hp
      · exact H.hi (it, enP it' i) (.head _)
      rcases List.mem_cons.mp hp with rfl | hp
      · exact H.hi (it', liP l i) (.tail _ (.head _))
      exact H2.hi p hp
  fin := by
    intro A E Q led s hh hl H h
    obtain ⟨vs, hv, hx⟩ := dat_open (H.has (led := [(it, enP it' ds.length), (it', liP l ds.length)] ++ led) hl.more.more)
    obtain ⟨o, he, old, rfl⟩ := H.here _ (.head _)
    exact wpAny_pyNext_enum_end hh he (li_is (H.here _ (.tail _ (.head _)))) (lst_is hx) (by simp [hv.len]) fun h' hx => h _ ((H.sub (List.sublist_cons_self _ _)).lose .here hx)
  self := by
    intro A E Q i led s H h
    obtain ⟨o, he, old, rfl⟩ := H.here _ (.head _)
    exact wpAny_pyIter_enum he h
  mono := Kn.more
theorem r_enum {Q : Value → Shared → Prop} (H : St K base led s) (hm : Kn base led a (datP ds)) (h : ∀ e it s', St K base ((e, enP it 0) :: (it, liP a 0) :: led) s' → Q (.ref e) s') : wpAny (model prog w) A (call (.type "enumerate") [.ref a]) Q E s := by
  obtain ⟨vs, hv, hx⟩ := dat_open (H.has hm)
  refine call_enumerate_list (lst_is hx) fun h' he hit hsz hk => h _ s.heap.objs.size _ ?_
  have hnew : s.heap.get? s.heap.objs.size = none := get_size _
  have H1 : St K base ((s.heap.objs.size, liP a 0) :: led) ⟨h', s.gens, s.drawn, s.toks, s.os⟩ := H.add (s' := ⟨h', s.gens, s.drawn, s.toks, s.os⟩) hk ⟨rfl, rfl, rfl⟩ hnew (.inl H.sz) (is_li hit)
  have hnew2 : s.heap.get? (s.heap.objs.size + 1) = none := by
    cases e : s.heap.get? (s.heap.objs.size + 1) with
    | none => rfl
    | some o => exact absurd (Heap.lt_size e) (Nat.not_lt.mpr (Nat.le_succ _))
  have H2 : St K base ((s.heap.objs.size + 1, enP s.heap.objs.size 0) :: led) ⟨h', s.gens, s.drawn, s.toks, s.os⟩ := H.add (s' := ⟨h', s.gens, s.drawn, s.toks, s.os⟩) hk ⟨rfl, rfl, rfl⟩ hnew2 (.inl (Nat.le_succ_of_le H.sz)) ⟨_, he, _, rfl⟩
  refine ⟨H1.top, H1.tn, H1.last, H1.tab, H1.keep, H1.old, fun p hp => ?_, ?_, fun p hp => ?_, fun p hp => ?_, H1.gens, H1.drawn, H1.os⟩
  · rcases List.mem_cons.mp hp with rfl | hp
    · exact H2.here _ (.head _)
    · exact H1.here p hp
  · rw [List.map_cons, List.nodup_cons]
    refine ⟨fun hm => ?_, H1.nd⟩
    rcases List.mem_cons.mp hm with e | hm
    · exact Nat.succ_ne_self _ e
    · exact (H.off hnew2) hm
  · rcases List.mem_cons.mp hp with rfl | hp
    · exact H2.fresh (s.heap.objs.size + 1, enP s.heap.objs.size 0) (.head _)
    · exact H1.fresh p hp
  · rcases List.mem_cons.mp hp with rfl | hp
    · exact H2.hi (s.heap.objs.size + 1, enP s.heap.objs.size 0) (.head _)
    · exact H1.hi p hp
theorem r_iterE {it' : Addr} {i : Nat} {Q : Value → Shared → Prop} (H : St K base led s) (hm : Kn base led a (enP it' i)) (h : Q (.ref a) s) : wpAny (model prog w) A (pyIter (.ref a)) Q E s := by
  obtain ⟨o, he, old, rfl⟩ := H.has hm
  exact wpAny_pyIter_enum he h

/-! ### keys of a dict -/
section
variable {T : Type} [DecidableEq T] {knd : PySem.KeyKind prog w T} {kvs : List (T × Value)} {ep : Nat}
noncomputable def diaP (knd : PySem.KeyKind prog w T) (kvs : List (T × Value)) (ep : Nat) : OP := fun o => ∃ es, o.ExactDict ∧ o.data = .dict es ep ∧ PySem.KeysOf knd es ∧ Pairs knd es.toList kvs ∧ (kvs.map (·.1)).Nodup
noncomputable def dicP (knd : PySem.KeyKind prog w T) (kvs : List (T × Value)) : OP := fun o => ∃ ep, diaP knd kvs ep o
theorem dia_is {h : Heap} (x : Has h a (diaP knd kvs ep)) : h.DictAt knd a kvs ep := let ⟨o, e, es, r⟩ := x; ⟨o, es, e, r⟩
theorem dic_is {h : Heap} (x : Has h a (dicP knd kvs)) : h.DictOf knd a kvs := let ⟨o, e, ep, es, r⟩ := x; ⟨o, es, ep, e, r⟩
theorem is_dic {h : Heap} (x : h.DictOf knd a kvs) : Has h a (dicP knd kvs) := let ⟨o, es, ep, e, r⟩ := x; ⟨o, e, ep, es, r⟩
noncomputable def kiP (d : Addr) (i n ep : Nat) : OP := fun o => o.cls = .type "dict_keyiterator" ∧ o.data = .fields #[.ref d, .int i 0, .int n 0, .int ep 0]
noncomputable def VD (knd : PySem.KeyKind prog w T) (kvs : List (T × Value)) (i : Nat) (v : Value) (ex : Led) : Prop := ex = [] ∧ ∃ k x, kvs[i]? = some (k, x) ∧ knd.is k v = true
theorem Src.keys (d : Addr) (kvs : List (T × Value)) (ep : Nat) (ht : ∀ it v, letOwnedTupleGo tgt (.ref it) v = pure () := by intro _ _; rfl) :
    Src prog w K base tgt it kvs.length (fun i => [(it, kiP d i kvs.length ep)]) (VD knd kvs) (fun led => Kn base led d (diaP knd kvs ep)) where
  item := by
    intro A E Q i led s hh hi hl H h
    have hx := dia_is (H.has (led := [(it, kiP d i kvs.length ep)] ++ led) hl.more)
    obtain ⟨o, e, c, dd⟩ := H.here _ (.head _)
    refine wpAny_pyNext_dict_item ⟨o, e, c, dd⟩ hx (k := kvs[i].1) (v := kvs[i].2) (List.getElem?_eq_getElem hi) fun key h' hk hit hs => ⟨_, rfl, wpAny_of_eq (ht it _) (h _ [] _ ⟨rfl, _, _, List.getElem?_eq_getElem hi, hk⟩ (H.change .here (LeBut.of_same hs) ⟨rfl, rfl, rfl⟩ ?_))⟩
    obtain ⟨o, e, c, dd⟩ := hit
    exact ⟨o, e, c, dd⟩
  fin := by
    intro A E Q led s hh hl H h
    have hx := dia_is (H.has (led := [(it, kiP d kvs.length kvs.length ep)] ++ led) hl.more)
    obtain ⟨o, e, c, dd⟩ := H.here _ (.head _)
    exact wpAny_pyNext_dict_end hh ⟨o, e, c, dd⟩ hx (by simp) fun h' hx => h _ (H.lose .here hx)
  self := by
    intro A E Q i led s H h
    obtain ⟨o, e, c, dd⟩ := H.here _ (.head _)
    exact wpAny_pyIter_keyiter ⟨o, e, c, dd⟩ h
  mono := Kn.more
theorem r_iterD {Q : Value → Shared → Prop} {led' : Nat → Led} (H : St K base led s) (hl : ∀ ep, Upd led a (dicP knd kvs) (diaP knd kvs ep) (led' ep)) (h : ∀ ep it s', St K base ((it, kiP a 0 kvs.length ep) :: led' ep) s' → Q (.ref it) s') : wpAny (model prog w) A (pyIter (.ref a)) Q E s := by
  obtain ⟨o, e, ep, q⟩ := H.here _ (hl 0).mem
  have hx : Has s.heap a (diaP knd kvs ep) := ⟨o, e, q⟩
  have H1 := H.change (s' := s) (hl ep) (fun _ _ _ e => e) (Rest.refl _) hx
  have ha : (a == sysModules) = false := by
    have := H.hi _ (hl ep).mem
    cases q : a == sysModules with
    | false => rfl
    | true => rw [beq_iff_eq] at q; rw [q] at this; exact absurd (show Hi sysModules from this) (by unfold Hi; decide)
  exact wpAny_pyIter_dict ha (dia_is hx) (h ep _ _ (H1.push _ ⟨rfl, rfl⟩ rfl rfl ⟨rfl, rfl, rfl⟩))
theorem St.dia (H : St K base led s) (u : Upd led a (diaP knd kvs ep) (dicP knd kvs) led') : St K base led' s := H.weak u fun _ q => ⟨ep, q⟩
end

theorem r_iterL {Q : Value → Shared → Prop} (H : St K base led s) (hm : Kn base led a (datP ds)) (h : ∀ it s', St K base ((it, liP a 0) :: led) s' → Q (.ref it) s') : wpAny (model prog w) A (pyIter (.ref a)) Q E s := by
  obtain ⟨vs, hv, hx⟩ := dat_open (H.has hm)
  exact wpAny_pyIter_list (lst_is hx) (h _ _ (H.push _ ⟨rfl, rfl⟩ rfl rfl ⟨rfl, rfl, rfl⟩))
theorem r_iterT {Q : Value → Shared → Prop} (H : St K base led s) (hm : Kn base led a (tupP vs)) (h : ∀ it s', St K base ((it, tiP a 0) :: led) s' → Q (.ref it) s') : wpAny (model prog w) A (pyIter (.ref a)) Q E s :=
  wpAny_pyIter_tuple (tup_is (H.has hm)) (h _ _ (H.push _ ⟨rfl, rfl⟩ rfl rfl ⟨rfl, rfl, rfl⟩))
theorem r_iterS {x : Str} {t : Tok} {Q : Value → Shared → Prop} (H : St K base led s) (h : ∀ it s', St K base ((it, siP x 0) :: led) s' → Q (.ref it) s') : wpAny (model prog w) A (pyIter (.str x t)) Q E s :=
  wpAny_pyIter_strU (h _ _ (H.push _ ⟨t, rfl, rfl⟩ rfl rfl ⟨rfl, rfl, rfl⟩))

/-! ### the loop -/
theorem r_for {R : Result → Shared → Prop} {body : List Stmt} (src : Src prog w K base tgt it n IT V hold) (J : Nat → Led → Prop) (hh : A.handled = none) (H : St K base (IT 0 ++ led) s) (h0 : J 0 led)
    (hJ : ∀ i led, J i led → hold led)
    (turn : ∀ E' i v ex led s, i < n → J i led → V i v ex → St K base (ex ++ (IT (i + 1) ++ led)) s → wpAny (model prog w) A (assign tgt env v) (fun _ s₂ => wpAny (model prog w) A (execs body env) (fun f s₃ => match f with
      | .next | .cont => ∃ led', J (i + 1) led' ∧ St K base (IT (i + 1) ++ led') s₃
      | .brk => R (.ok .next) s₃
      | .ret v => R (.ok (.ret v)) s₃) E' s₂) E' s)
    (done : ∀ led s, J n led → St K base led s → R (.ok .next) s) :
    codeAny (model prog w) A (.forLoop tgt (.ref it) body [] env) R s := by
  refine codeAny_forLoop_any (fun m s => ∃ i led, i ≤ n ∧ m = n - i ∧ J i led ∧ St K base (IT i ++ led) s) ?_ n ⟨0, led, Nat.zero_le _, rfl, h0, H⟩
  rintro m s ⟨i, led, hi, rfl, hj, H⟩
  by_cases hlt : i < n
  · refine wpAny_mono (src.item hh hlt (hJ _ _ hj) H (Q := fun v s₂ => wpAny (model prog w) A (assign tgt env v) (fun _ s₂ => wpAny (model prog w) A (execs body env) (fun f s₃ => match f with
      | .next | .cont => ∃ m, m < n - i ∧ ∃ i led, i ≤ n ∧ m = n - i ∧ J i led ∧ St K base (IT i ++ led) s₃
      | .brk => R (.ok .next) s₃
      | .ret v => R (.ok (.ret v)) s₃) (notedBy (model prog w) A env fun e s' => R (.error e) s') s₂) (notedBy (model prog w) A env fun e s' => R (.error e) s') s₂) fun v ex s' hv H' => ?_) (fun r s₁ q => ?_) fun _ _ q => q
    · refine wpAny_mono (turn _ i v ex led s' hlt hj hv H') (fun _ s₂ q => wpAny_mono q (fun f s₃ q => ?_) fun _ _ q => q) fun _ _ q => q
      cases f with
      | next => obtain ⟨led', j, H''⟩ := q; exact ⟨n - (i + 1), by lia, i + 1, led', hlt, rfl, j, H''⟩
      | cont => obtain ⟨led', j, H''⟩ := q; exact ⟨n - (i + 1), by lia, i + 1, led', hlt, rfl, j, H''⟩
      | brk => exact q
      | ret v => exact q
    · obtain ⟨v, rfl, q⟩ := q
      refine wpAny_mono q (fun _ s₂ q => wpAny_mono q (fun _ s₃ q => wpAny_mono q (fun f s₄ q => ?_) fun _ _ q => q) fun _ _ q => q) fun _ _ q => q
      cases f <;> exact q
  · obtain rfl : i = n := by lia
    exact src.fin hh (hJ _ _ hj) H fun s' H' => wpAny_execs_nil (done led s' hj H')

/-! ### comprehensions -/
theorem r_appendV {us : List Value} {Q : Value → Shared → Prop} (H : St K base led s) (hl : Upd led a (lstP us) (lstP (us ++ [v])) led') (hz : us.length ≤ sizeLine) (h : ∀ u s', St K base led' s' → Q u s') :
    wpAny (model prog w) A (call (.builtin "list.append") [.ref a, v]) Q E s := by
  have hx := H.here _ hl.mem
  obtain ⟨o, e, n, rfl⟩ := id hx
  have hu := upd_lst hx (f := fun xs => xs.push v) (vs' := us ++ [v]) (by simp)
  exact call_meets PySem.F.slot_list_append ⟨_, e, rfl⟩ PySem.F.entry_list_append (PySem.F.args_list_append_2 _ _) (list_append a _ n v (by rw [List.size_toArray]; exact hz)) ⟨e, h _ _ (H.change hl hu.1 ⟨rfl, rfl, rfl⟩ hu.2)⟩

noncomputable abbrev tests (ifs : List Expr) (cenv : Env) : Sem Bool := forIn ifs true fun c r => if r = true then do let ok ← isTrue c cenv (eval c cenv); pure (ForInStep.yield ok) else pure (ForInStep.yield r)

/-- what a comprehension's loop is owed once its iterator stands -/
structure CompGo (prog : Program) (w : World) (A : Around) (K : Kx) (base : Led) (env : Env) (elt target : Expr) (ifs : List Expr) (scope : Scope) (cl : List (Str × Addr)) (xs : List Str) (it : Addr) (n : Nat) (IT : Nat → Led) (V : Nat → Value → Led → Prop) (hold : Led → Prop) (J : Nat → List Value → Led → Prop) : Prop where
  src : Src prog w K base target it n IT V hold
  size : n ≤ sizeLine
  holds : ∀ i us led, J i us led → hold led
  turn : ∀ C acc cenv E' i us led vs v ex s, EnvL cenv C → cenv.scope = relabel scope env → cenv.cells = cl → i < n → J i us led → V i v ex → vs.map (·.1) = xs → St K base (ex ++ (IT (i + 1) ++ ((C, nsP vs) :: (acc, lstP us) :: led))) s →
    wpAny (model prog w) A (assign target cenv v) (fun _ s₂ => wpAny (model prog w) A (tests ifs cenv) (fun ok s₃ =>
      if ok = true then wpAny (model prog w) A (eval elt cenv) (fun y s₄ => ∃ led' vs', vs'.map (·.1) = xs ∧ J (i + 1) (us ++ [y]) led' ∧ St K base (IT (i + 1) ++ ((C, nsP vs') :: (acc, lstP us) :: led')) s₄) E' s₃
      else ∃ led' vs', vs'.map (·.1) = xs ∧ J (i + 1) us led' ∧ St K base (IT (i + 1) ++ ((C, nsP vs') :: (acc, lstP us) :: led')) s₃) E' s₂) E' s

theorem comp_loop {R : Result → Shared → Prop} {elt target iter : Expr} {ifs : List Expr} {scope : Scope} {it acc : Value} (I : Nat → Shared → Prop)
    (turn : ∀ n s, I n s → wpAny (model prog w) A (pyNext it) (fun r s₁ => match r with
      | none => R (.ok .next) s₁
      | some v => wpAny (model prog w) A (letOwnedTupleGo target it v) (fun _ s₁' => wpAny (model prog w) A (assign target env v) (fun _ s₂ =>
          wpAny (model prog w) A (tests ifs env) (fun ok s₃ =>
            if ok = true then wpAny (model prog w) A (eval elt env) (fun x s₄ =>
              wpAny (model prog w) A (call (.builtin "list.append") [acc, x]) (fun _ s₅ => ∃ m, m < n ∧ I m s₅) (notedBy (model prog w) A env fun e s' => R (.error e) s') s₄) (notedBy (model prog w) A env fun e s' => R (.error e) s') s₃
            else ∃ m, m < n ∧ I m s₃) (notedBy (model prog w) A env fun e s' => R (.error e) s') s₂) (notedBy (model prog w) A env fun e s' => R (.error e) s') s₁') (notedBy (model prog w) A env fun e s' => R (.error e) s') s₁) (notedBy (model prog w) A env fun e s' => R (.error e) s') s)
    (n : Nat) (h : I n s) :
    codeAny (model prog w) A (.compLoop (.ListComp elt [⟨target, iter, ifs, 0⟩] scope pos) 0 it acc env) R s := by
  refine codeAny_loop rfl I (fun n s hI => ?_) n h
  show wpAny _ A ((compTurn (.ListComp elt [⟨target, iter, ifs, 0⟩] scope pos) 0 it acc env).onRaise (fun x => do noteFrame x env; theTreesLotGoes x)) _ _ s
  refine wpAny_noted ?_
  rw [compTurn_list]
  refine wpAny_bind (wpAny_standAt (wpAny_bind (wpAny_mono (turn n s hI) (fun r s₁ h₁ => ?_) fun _ _ h' => h')))
  cases r with
  | none => exact wpAny_pure h₁
  | some v =>
    refine wpAny_bind (wpAny_mono h₁ (fun _ s₁' h₁ => ?_) fun _ _ h' => h')
    refine wpAny_bind (wpAny_mono h₁ (fun _ s₂ h₂ => wpAny_bind (wpAny_mono h₂ (fun ok s₃ h₃ => ?_) fun _ _ h' => h')) fun _ _ h' => h')
    cases ok with
    | false => exact wpAny_pure ⟨rfl, h₃⟩
    | true =>
      exact wpAny_bind (wpAny_bind (wpAny_mono h₃ (fun x s₄ h₄ => wpAny_bind (wpAny_mono h₄ (fun _ s₅ h₅ => wpAny_pure (wpAny_pure ⟨rfl, h₅⟩)) fun _ _ h' => h')) fun _ _ h' => h'))

theorem comp_core {elt target iter : Expr} {ifs : List Expr} {scope : Scope} {cl : List (Str × Addr)} {xs : List Str} {J : Nat → List Value → Led → Prop} {RR : Value → Addr → Result → Shared → Prop}
    (hh : A.handled = none) (X : EnvL env L) (hsc : scope.kind = .function ∧ ∀ y ∈ scope.names, y.2 ≠ .cell) (hxs : xs.Nodup)
    (g : CompGo prog w A K base env elt target ifs scope cl xs it n IT V hold J) (H : St K base (IT 0 ++ led) s) (h0 : J 0 [] led)
    (done : ∀ C acc us led vs s, J n us led → vs.map (·.1) = xs → St K base ((C, nsP vs) :: (acc, lstP us) :: led) s → RR (.ref acc) C (.ok .next) s) :
    wpAny (model prog w) A (newList []) (fun acc s₃ => wpAny (model prog w) A (newFunctionEnv scope env.globals cl [] env.qual none .none (some env)) (fun cenv s₄ =>
      codeAny (model prog w) A (.compStart (.ListComp elt [⟨target, iter, ifs, 0⟩] scope pos) 0 (.ref it) acc { cenv with scope := relabel scope env }) (RR acc cenv.locals) s₄) E s₃) E s := by
  refine wpAny_newList ?_ (by show 0 ≤ sizeLine; exact Nat.zero_le _)
  have H₁ := H.push (P := lstP []) (s' := { s with heap := s.heap.push { cls := .type "list", data := .seq ([] : List Value).toArray } }) _ ⟨0, rfl⟩ rfl rfl ⟨rfl, rfl, rfl⟩
  revert H₁
  generalize s.heap.objs.size = acc
  generalize ({ s with heap := s.heap.push { cls := .type "list", data := .seq ([] : List Value).toArray } } : Shared) = s₁
  intro H₁
  refine wpAny_newFunctionEnv hsc.2 (fun y hy => (nomatch hy)) (fun h₁ hn hs => ?_) hsc.1
  have hle : Le s₁.heap h₁ := fun b o e => (hs.2 b (Nat.ne_of_lt (Heap.lt_size e))).trans (Heap.get?_push_of_some _ e)
  have H₂ : St K base ((s₁.heap.objs.size, nsP (xs.map fun x => (x, none))) :: (acc, lstP []) :: (IT 0 ++ led)) { s₁ with heap := h₁, toks := s₁.toks + 0 } :=
    H₁.add (s' := { s₁ with heap := h₁, toks := s₁.toks + 0 }) hle ⟨rfl, rfl, rfl⟩ (get_size _) (.inl H₁.sz) (nsP_of (h := h₁) (vs := xs.map fun x => (x, none)) (by rw [List.map_map]; simpa [Function.comp_def] using hxs) hn (fun p hp => by
      obtain ⟨x, _, rfl⟩ := List.mem_map.mp hp
      rfl))
  replace H₂ := H₂.perm (led' := IT 0 ++ ((s₁.heap.objs.size, nsP (xs.map fun x => (x, none))) :: (acc, lstP []) :: led)) (List.perm_append_comm_assoc [_, _] (IT 0) led)
  have X₂ : EnvL { (newEnv scope s₁.heap.objs.size env.globals cl env.qual none .none (some env) builtinsNs) with scope := relabel scope env } s₁.heap.objs.size := ⟨hsc.1, rfl, X.glob, X.blt⟩
  have hcells : ({ (newEnv scope s₁.heap.objs.size env.globals cl env.qual none .none (some env) builtinsNs) with scope := relabel scope env } : Env).cells = cl := rfl
  have hscope : ({ (newEnv scope s₁.heap.objs.size env.globals cl env.qual none .none (some env) builtinsNs) with scope := relabel scope env } : Env).scope = relabel scope env := rfl
  show codeAny _ _ _ (RR (.ref acc) s₁.heap.objs.size) _
  revert H₂ X₂ hcells hscope
  generalize ({ (newEnv scope s₁.heap.objs.size env.globals cl env.qual none .none (some env) builtinsNs) with scope := relabel scope env } : Env) = cenv
  generalize s₁.heap.objs.size = C
  generalize ({ s₁ with heap := h₁, toks := s₁.toks + 0 } : Shared) = s₂
  intro H₂ X₂ hcells hscope
  have loop : codeAny (model prog w) A (.compLoop (.ListComp elt [⟨target, iter, ifs, 0⟩] scope pos) 0 (.ref it) (.ref acc) cenv) (RR (.ref acc) C) s₂ := by
    refine comp_loop (fun m s => ∃ i us led vs, i ≤ n ∧ m = n - i ∧ us.length ≤ i ∧ J i us led ∧ vs.map (·.1) = xs ∧ St K base (IT i ++ ((C, nsP vs) :: (acc, lstP us) :: led)) s) ?_ n ⟨0, [], led, _, Nat.zero_le _, rfl, Nat.le_refl _, h0, by rw [List.map_map]; simp [Function.comp_def], H₂⟩
    rintro m s ⟨i, us, led, vs, hi, rfl, hus, hj, hvs, H⟩
    by_cases hlt : i < n
    · refine wpAny_mono (g.src.item hh hlt (g.src.mono (g.src.mono (g.holds _ _ _ hj))) H fun v ex s' hv H' => g.turn C acc cenv (notedBy (model prog w) A cenv fun e s' => RR (.ref acc) C (.error e) s') i us led vs v ex s' X₂ hscope hcells hlt hj hv hvs H') (fun r s₁ q => ?_) fun _ _ q => q
      obtain ⟨v, rfl, q⟩ := q
      refine wpAny_mono q (fun _ s₂ q => wpAny_mono q (fun _ s₃ q => wpAny_mono q (fun ok s₄ q => ?_) fun _ _ q => q) fun _ _ q => q) fun _ _ q => q
      cases ok with
      | true =>
        rw [if_pos rfl] at q ⊢
        refine wpAny_mono q (fun y s₄ q => ?_) fun _ _ q => q
        obtain ⟨led', vs', e, j, H''⟩ := q
        exact r_appendV H'' (Upd.pre (.next .here) _) (by have := g.size; lia) fun _ s₅ H₅ => ⟨n - (i + 1), by lia, i + 1, _, led', vs', hlt, rfl, by simpa using hus, j, e, H₅⟩
      | false =>
        rw [if_neg (by simp)] at q ⊢
        obtain ⟨led', vs', e, j, H''⟩ := q
        exact ⟨n - (i + 1), by lia, i + 1, us, led', vs', hlt, rfl, Nat.le_succ_of_le hus, j, e, H''⟩
    · obtain rfl : i = n := by lia
      exact g.src.fin hh (g.src.mono (g.src.mono (g.holds _ _ _ hj))) H fun s' H' => done C acc us led vs s' hj hvs H'
  exact codeAny_compStart_list loop (g.src.self H₂ loop)

/-- a comprehension that hands back its list -/
theorem r_comp {elt target iter : Expr} {ifs : List Expr} {scope : Scope} {cl : List (Str × Addr)} {Q : Value → Shared → Prop} (xs : List Str)
    (hh : A.handled = none) (X : EnvL env L) (hclos : closureFor scope env = pure cl) (hsc : scope.kind = .function ∧ ∀ y ∈ scope.names, y.2 ≠ .cell) (hnames : ∀ y ∈ scope.names, y.2 = .local → scope.names.lookup y.1 = some .local) (hxs : xs.Nodup)
    (h : wpAny (model prog w) A (eval iter env) (fun xv s₁ => wpAny (model prog w) A (pyIter xv) (fun itv s₂ => ∃ it n IT V hold J led, itv = .ref it ∧ CompGo prog w A K base env elt target ifs scope cl xs it n IT V hold J ∧
      St K base (IT 0 ++ led) s₂ ∧ J 0 [] led ∧ ∀ acc us led s, J n us led → St K base ((acc, lstP us) :: led) s → Q (.ref acc) s) E s₁) E s)
    (hs : ∀ x, foldedSetIterable iter env x = pure x := by intro _; rfl) :
    wpAny (model prog w) A (eval (.ListComp elt [⟨target, iter, ifs, 0⟩] scope pos) env) Q E s := by
  rw [eval_ListComp]
  refine wpAny_comprehension_free (use := none) rfl hs hclos hsc.1 hnames (wpAny_mono h (fun xv s₁ h₁ => wpAny_mono h₁ (fun itv s₂ h₂ => ?_) fun _ _ e => e) fun _ _ e => e)
  obtain ⟨it, n, IT, V, hold, J, led, rfl, g, H, h0, hQ⟩ := h₂
  refine comp_core (RR := fun acc C => compPost (model prog w) A E none Q acc C) hh X hsc hxs g H h0 (fun C acc us led vs s hj hvs H' => ?_)
  obtain ⟨_, m, hn, _⟩ := nsP_open (H'.here _ (.head _))
  exact ⟨m, hn, fun h' hs' => hQ acc us led _ hj (H'.lose .here hs'.extBut)⟩

/-- a comprehension whose list is put to a local name of the same line -/
theorem r_compTo {elt target iter : Expr} {ifs : List Expr} {scope : Scope} {cl : List (Str × Addr)} {y : Str} {py spos : Pos} {Q : Flow → Shared → Prop} (xs : List Str)
    (hsw : swapsWith (.ListComp elt [⟨target, iter, ifs, 0⟩] scope pos) (some (.Name y py)) spos.line env = pure true)
    (hh : A.handled = none) (X : EnvL env L) (hclos : closureFor scope env = pure cl) (hsc : scope.kind = .function ∧ ∀ y ∈ scope.names, y.2 ≠ .cell) (hnames : ∀ y ∈ scope.names, y.2 = .local → scope.names.lookup y.1 = some .local) (hxs : xs.Nodup)
    (h : wpAny (model prog w) A (eval iter env) (fun xv s₁ => wpAny (model prog w) A (pyIter xv) (fun itv s₂ => ∃ it n IT V hold J led, itv = .ref it ∧ CompGo prog w A K base env elt target ifs scope cl xs it n IT V hold J ∧
      St K base (IT 0 ++ led) s₂ ∧ J 0 [] led ∧ ∀ C acc us led vs s, J n us led → St K base ((C, nsP vs) :: (acc, lstP us) :: led) s → wpAny (model prog w) A (storeName env y (.ref acc)) (fun _ s' => ∃ led', St K base ((C, nsP vs) :: led') s' ∧ ∀ s'', St K base led' s'' → Q .next s'') E s) E s₁) E s)
    (hs : ∀ x, foldedSetIterable iter env x = pure x := by intro _; rfl) :
    wpAny (model prog w) A (exec (.Assign [.Name y py] (.ListComp elt [⟨target, iter, ifs, 0⟩] scope pos) spos) env) Q E s := by
  rw [exec_Assign_Name_used _ _ _ _ hsw]
  refine wpAny_bind (wpAny_standAt (wpAny_bind ?_))
  show wpAny _ A (do let _ ← comprehension (.ListComp elt [⟨target, iter, ifs, 0⟩] scope pos) scope env _ (newList []) false (eval iter env) (some (assign (.Name y py) env))) _ _ s
  refine wpAny_bind (wpAny_mono (wpAny_comprehension_free (use := some (assign (.Name y py) env)) (Q := fun _ s' => Q .next s') rfl hs hclos hsc.1 hnames (wpAny_mono h (fun xv s₁ h₁ => wpAny_mono h₁ (fun itv s₂ h₂ => ?_) fun _ _ e => e) fun _ _ e => e))
    (fun _ s' hq => wpAny_pure (wpAny_pure hq)) fun _ _ e => e)
  obtain ⟨it, n, IT, V, hold, J, led, rfl, g, H, h0, hQ⟩ := h₂
  refine comp_core (RR := fun acc C => compPost (model prog w) A E (some (assign (.Name y py) env)) (fun _ s' => Q .next s') acc C) hh X hsc hxs g H h0 (fun C acc us led vs s hj hvs H' => ?_)
  refine wpAny_mono (wpAny_assign_Name (hQ C acc us led vs s hj H')) (fun _ s'' q => ?_) fun _ _ e => e
  obtain ⟨led', H'', q⟩ := q
  obtain ⟨_, m, hn, _⟩ := nsP_open (H''.here _ (.head _))
  exact ⟨m, hn, fun h' hs' => q _ (H''.lose .here hs'.extBut)⟩
end
end
--@ b11
section
noncomputable def cellP (v : Option Value) : OP := fun o => o.data = .cell v
theorem cell_is {h : Heap} {a : Addr} {v : Option Value} (x : Has h a (cellP v)) : h.IsCell a v := x
noncomputable def CK (env : Env) (cs : List (Str × Addr)) : Prop := ∀ p ∈ cs, env.cells.lookup p.1 = some p.2
theorem CK.of {env : Env} {cs : List (Str × Addr)} (h : env.cells = cs) (e : cs.map (fun p => cs.lookup p.1) = cs.map fun p => some p.2) : CK env cs := by
  intro p hp
  rw [h]
  exact List.map_inj_left.mp e p hp
noncomputable def relabelS (scope sc : Scope) : Scope :=
  { scope with names := scope.names.map fun (n, k) => if (k == .free && sc.kind == .function && sc.names.lookup n == some .cell) then (n, .cell) else (n, k) }
theorem relabel_of {scope sc : Scope} {env : Env} (h : env.scope = sc) : relabel scope env = relabelS scope sc := by
  subst h
  rfl
theorem KD.ofS {env : Env} {sc : Scope} {ks : List (Str × NameKind)} (h : env.scope = sc) (e : ∀ p ∈ ks, sc.names.lookup p.1 = some p.2 ∧ (p.1 == ("__debug__" : Str)) = false) : KD env ks :=
  fun p hp => ⟨by unfold Env.kindOf; rw [h]; exact (e p hp).1, (e p hp).2⟩
noncomputable def closureC (scope : Scope) (cells : List (Str × Addr)) : Sem (List (Str × Addr)) := closureFor scope (newEnv scope 0 0 cells "" none .none none 0)
theorem closure_eq (scope : Scope) (env : Env) : closureFor scope env = closureC scope env.cells := rfl
theorem closure_of {scope : Scope} {env : Env} {cs cl : List (Str × Addr)} (h : env.cells = cs) (e : closureC scope cs = pure cl) : closureFor scope env = pure cl := by
  rw [closure_eq, h, e]

section
variable {prog : Program} {w : World} {A : Around} {E : Value → Shared → Prop} {K : Kx} {base led led' : Led} {s : Shared} {env : Env} {L a c : Addr} {ks : List (Str × NameKind)} {cs : List (Str × Addr)} {x : Str} {v : Value} {pos : Pos} {Q : Value → Shared → Prop}

theorem r_cell (H : St K base led s) (X : EnvL env L) (D : KD env ks) (C : CK env cs) (hk : (x, NameKind.cell) ∈ ks) (hc : (x, c) ∈ cs) (hm : Kn base led c (cellP (some v))) (h : Q v s) : wpAny (model prog w) A (eval (.Name x pos) env) Q E s :=
  wpAny_Name (wpAny_loadName_cell X.kind (D _ hk).1 (C _ hc) (cell_is (H.has hm)) h) (D _ hk).2
theorem r_free (H : St K base led s) (X : EnvL env L) (D : KD env ks) (C : CK env cs) (hk : (x, NameKind.free) ∈ ks) (hc : (x, c) ∈ cs) (hm : Kn base led c (cellP (some v))) (h : Q v s) (hn : (x == ("__classdict__" : Str)) = false := by decide) : wpAny (model prog w) A (eval (.Name x pos) env) Q E s :=
  wpAny_Name (wpAny_loadName_free X.kind (D _ hk).1 (C _ hc) (cell_is (H.has hm)) h hn) (D _ hk).2
theorem r_storeC {u : Option Value} {Q : Unit → Shared → Prop} (H : St K base led s) (X : EnvL env L) (D : KD env ks) (C : CK env cs) (hk : (x, NameKind.cell) ∈ ks) (hc : (x, c) ∈ cs) (hl : Upd led c (cellP u) (cellP (some v)) led')
    (h : ∀ s', St K base led' s' → Q () s') : wpAny (model prog w) A (storeName env x v) Q E s := by
  refine wpAny_storeName_cell X.kind (D _ hk).1 (C _ hc) (cell_is (H.here _ hl.mem)) (fun h' hn hs => ?_)
  exact h _ (H.change hl (LeBut.of_same hs) ⟨rfl, rfl, rfl⟩ hn)
end

noncomputable abbrev kf (i : Nat) : Str → Option NameKind := fun x => (fnScope i).names.lookup x
noncomputable abbrev none1 : Str → Option Value := fun _ => none
/-- a call of a def of the text, some names of it cells' -/
theorem call_fnC {prog : Program} {w : World} {A : Around} {E : Value → Shared → Prop} {Q : Value → Shared → Prop} {K : Kx} {base led : Led} {s : Shared} {k f i : Nat} {dV kV : Value} {frag : Frag} {args : List Value} {kw : List (Str × Value)} {binds : List (Str × Value)}
    (vs : Vars) (cs : Nat → List (Str × Addr)) (cv : Nat → List (Addr × Option Value)) (led0 base0 : Led)
    (H : St K base led s) (R : Room (k + 1) A) (T : TopF K.hT) (F : FnAt K.hT f i dV kV) (hfr : Frag.In frag K.hT)
    (ha : argP led0 s.heap) (ho : oldP (led0.map (·.1)) base0 s.heap)
    (hb : ∀ S pm c, peek frag S (bindArgs (fnOf (fnName i) (fnName i) (fnParams i) (fnBody i) (fnScope i) dV kV .none pm none (.ref c) .none) ⟨args, kw⟩) = some binds)
    (hfn : (fnScope i).kind = .function ∧ (fnScope i).isCoroutine = false ∧ (fnScope i).isGenerator = false)
    (hcs : ∀ L, cellsFrom (L + 1) (fnScope i).names [] = cs L)
    (hcl : ∀ L, (cs L).map (fun p => (cs L).lookup p.1) = (cs L).map fun p => some p.2)
    (hbk : ∀ L, binds.all (fun x => kf i x.1 == some .local || (kf i x.1 == some .cell && ((cs L).lookup x.1).isSome)) = true)
    (hcv : ∀ L, (cs L).map (fun p => (p.2, bindC (kf i) binds none1 p.1)) = cv L)
    (hvs : (vs.map (·.1)).Nodup ∧ vs.map (fun p => bindL (kf i) binds none1 p.1) = vs.map (·.2))
    (h : ∀ K' env s₁, TopF K'.hT → K' = ⟨K.hT, s.heap, led0.map (·.1), s.gens, s.drawn, s.os⟩ → EnvL env s.heap.objs.size → env.scope = fnScope i → env.cells = cs s.heap.objs.size → Le s.heap s₁.heap → Rest s s₁ →
      St K' base0 ((s.heap.objs.size, nsP vs) :: ((cv s.heap.objs.size).map (fun p => (p.1, cellP p.2)) ++ led0)) s₁ → Room k (A.deeper env) →
      wpAny (model prog w) (A.deeper env) (execs (fnBody i) env) (fun fl s' => Q (match fl with | .ret v => v | _ => .none) s') (fun _ _ => False) s₁) :
    wpAny (model prog w) A (call (.ref f) args kw) Q E s := by
  obtain ⟨pm, c, hf, hcd⟩ := F
  obtain ⟨hkind, hco, hgen⟩ := hfn
  refine wpAny_call (codeAny_call_function (fd := fnOf (fnName i) (fnName i) (fnParams i) (fnBody i) (fnScope i) dV kV .none pm none (.ref c) .none) (by have := R.dp; lia) (H.top _ _ hf) rfl hco hgen rfl (hcd.keeps H.top) ?_)
  refine Looks.here (Looks.of_peek (fun a o e => H.top _ _ (hfr a o e)) (hb _ pm c)) ?_
  refine wpAny_newFunctionEnv_cells hkind (fun x hx => by rw [show (fnOf (fnName i) (fnName i) (fnParams i) (fnBody i) (fnScope i) dV kV .none pm none (.ref c) .none).scope = fnScope i from rfl, hcs]; have := List.all_eq_true.mp (hbk s.heap.objs.size) x hx; simpa using this) (fun env he s₁ IC => ?_)
  obtain ⟨⟨⟨h', tk, hsame⟩, hn, hkeep, hfresh⟩, hcell, hap, habove⟩ := IC
  have henv : env.scope = fnScope i ∧ env.locals = s.heap.objs.size ∧ env.cells = cs s.heap.objs.size ∧ EnvL env s.heap.objs.size := by
    subst he
    exact ⟨rfl, rfl, hcs _, hkind, rfl, rfl, rfl⟩
  obtain ⟨hsc, hloc, hcells, X⟩ := henv
  have hkf : env.kindOf = kf i := by funext x; unfold Env.kindOf; rw [hsc]
  rw [hkf, hloc] at hn
  rw [hkf, hcells] at hcell
  rw [hcells] at hap
  rw [hcells, hloc] at habove
  have hle : Le s.heap s₁.heap := hkeep
  have hr : Rest s s₁ := by subst hsame; exact ⟨rfl, rfl, rfl⟩
  refine ⟨T.nolimit.keeps (H.top.trans hle), ?_⟩
  have hnew : ∀ b, s.heap.objs.size ≤ b → s.heap.get? b = none := fun b hb => by
    cases e : s.heap.get? b with
    | none => rfl
    | some o => exact absurd (Heap.lt_size e) (Nat.not_lt.mpr hb)
  have hcells2 : ∀ p ∈ (cv s.heap.objs.size).map (fun p => (p.1, cellP p.2)), Has s₁.heap p.1 p.2 ∧ s.heap.objs.size < p.1 := by
    intro p hp
    rw [← hcv] at hp
    obtain ⟨q, hq, rfl⟩ := List.mem_map.mp hp
    obtain ⟨z, hz, rfl⟩ := List.mem_map.mp hq
    exact ⟨hcell z.1 z.2 (List.map_inj_left.mp (hcl _) z hz), habove z.1 z.2 hz⟩
  have hcnd : (((cv s.heap.objs.size).map (fun p => (p.1, cellP p.2))).map (·.1)).Nodup := by
    rw [List.map_map, ← hcv, List.map_map]
    exact List.pairwise_map.mpr hap
  have hsmall : ∀ p ∈ led0, p.1 < s.heap.objs.size := fun p hp => by obtain ⟨⟨o, e, _⟩, _⟩ := ha.1 p hp; exact Heap.lt_size e
  refine codeAny_func (wpAny_mono (h ⟨K.hT, s.heap, led0.map (·.1), s.gens, s.drawn, s.os⟩ _ _ T rfl X hsc hcells hle hr ?_ (R.deeper _)) (fun _ _ q => q) fun _ _ q => q.elim)
  refine ⟨H.top.trans hle, H.tn, H.last, H.tab, fun b o e _ => hle b o e, fun p hp => ?_, fun p hp => ?_, ?_, fun p hp => ?_, fun p hp => ?_, hr.1, hr.2.1, hr.2.2⟩
  · obtain ⟨⟨o, e, q⟩, m⟩ := ho p hp
    exact ⟨⟨o, hle _ _ e, q⟩, by show (s.heap.get? p.1).isSome = true; rw [e]; rfl, m⟩
  · rcases List.mem_cons.mp hp with rfl | hp
    · exact nsP_of hvs.1 hn fun p hp => List.map_inj_left.mp hvs.2 p hp
    · rcases List.mem_append.mp hp with hp | hp
      · exact (hcells2 p hp).1
      · exact (ha.1 p hp).1.le hle
  · rw [List.map_cons, List.nodup_cons, List.map_append, List.nodup_append]
    refine ⟨fun hm => ?_, hcnd, ha.2, fun x hx y hy e => ?_⟩
    · rcases List.mem_append.mp hm with hm | hm
      · obtain ⟨p, hp, e⟩ := List.mem_map.mp hm
        exact Nat.ne_of_gt (hcells2 p hp).2 e
      · obtain ⟨p, hp, e⟩ := List.mem_map.mp hm
        exact Nat.ne_of_lt (hsmall p hp) e
    · obtain ⟨p, hp, rfl⟩ := List.mem_map.mp hx
      obtain ⟨q, hq, rfl⟩ := List.mem_map.mp hy
      have h1 := (hcells2 p hp).2
      have h2 := hsmall q hq
      rw [e] at h1
      exact Nat.lt_asymm h1 h2
  · rcases List.mem_cons.mp hp with rfl | hp
    · exact .inr (hnew _ (Nat.le_refl _))
    · rcases List.mem_append.mp hp with hp | hp
      · exact .inr (hnew _ (Nat.le_of_lt (hcells2 p hp).2))
      · exact .inl (List.mem_map_of_mem hp)
  · rcases List.mem_cons.mp hp with rfl | hp
    · exact .inl H.sz
    · rcases List.mem_append.mp hp with hp | hp
      · exact .inl (Nat.le_of_lt (Nat.lt_of_le_of_lt H.sz (hcells2 p hp).2))
      · exact (ha.1 p hp).2
end
--@ b12
section
section
variable {prog : Program} {w : World} {A : Around} {E : Value → Shared → Prop} {K : Kx} {base led led' : Led} {s : Shared} {env : Env} {L a b : Addr} {ds es : List PD} {vs : List Value} {v : Value} {d : PD} {pos : Pos}

/-! displays -/
noncomputable def MkList (Q : Value → Shared → Prop) (vs : List Value) (s₁ : Shared) : Prop := vs.length ≤ sizeLine ∧ Q (.ref s₁.heap.objs.size) { s₁ with heap := s₁.heap.push { cls := .type "list", data := .seq vs.toArray } }
noncomputable def MkTuple (Q : Value → Shared → Prop) (vs : List Value) (s₁ : Shared) : Prop := vs.length ≤ sizeLine ∧ Q (.ref s₁.heap.objs.size) { s₁ with heap := s₁.heap.push { cls := .type "tuple", data := .seq vs.toArray } }
theorem r_list {elts : List Expr} {Q : Value → Shared → Prop} (h : wpAny (model prog w) A (spliced (backTo pos (starEach elts env))) (MkList Q) E s) : wpAny (model prog w) A (eval (.List elts pos) env) Q E s := wpAny_List h
theorem r_tuple {elts : List Expr} {k : Nat} {Q : Value → Shared → Prop} (h : wpAny (model prog w) A (spliced (backTo pos (starEach elts env))) (MkTuple Q) E s) : wpAny (model prog w) A (eval (.Tuple elts k pos) env) Q E s := wpAny_Tuple h
theorem small_line {n : Nat} (h : Nat.ble n 1000000 = true) : n ≤ sizeLine := by have := sizeLine_ge; have := Nat.le_of_ble_eq_true h; lia
theorem r_mkList {Q : Value → Shared → Prop} (H : St K base led s) (hv : VS ds vs) (hz : Nat.ble ds.length 1000000 = true) (h : ∀ n s', St K base ((n, datP ds) :: led) s' → Q (.ref n) s') : MkList Q vs s :=
  ⟨by rw [← hv.len]; exact small_line hz, h _ _ (H.push _ ⟨vs, hv, 0, rfl⟩ rfl rfl ⟨rfl, rfl, rfl⟩)⟩
theorem r_mkListV {Q : Value → Shared → Prop} (H : St K base led s) (hz : Nat.ble vs.length 1000000 = true) (h : ∀ n s', St K base ((n, lstP vs) :: led) s' → Q (.ref n) s') : MkList Q vs s :=
  ⟨small_line hz, h _ _ (H.push _ ⟨0, rfl⟩ rfl rfl ⟨rfl, rfl, rfl⟩)⟩
theorem r_mkTuple {Q : Value → Shared → Prop} (H : St K base led s) (hz : Nat.ble vs.length 1000000 = true) (h : ∀ n s', St K base ((n, tupP vs) :: led) s' → Q (.ref n) s') : MkTuple Q vs s :=
  ⟨small_line hz, h _ _ (H.push _ rfl rfl rfl ⟨rfl, rfl, rfl⟩)⟩
theorem vsI {x : Int} {t : Tok} (h : VS ds vs) : VS (.i x :: ds) (.int x t :: vs) := .cons ⟨t, rfl⟩ h
theorem vsS {x : Str} {t : Tok} (h : VS ds vs) : VS (.s x :: ds) (.str x t :: vs) := .cons ⟨t, rfl⟩ h
theorem vsB {x : Bool} (h : VS ds vs) : VS (.b x :: ds) (.bool x :: vs) := .cons rfl h

/-! membership -/
theorem r_inL {Q : Value → Shared → Prop} (H : St K base led s) (hm : Kn base led a (datP ds)) (hd : PD.is d v) (hs : ∀ e ∈ ds, PD.same e d = true) (h : Q (.bool (ds.any fun e => PD.eqb e d)) s) :
    wpAny (model prog w) A (compareOp .In v (.ref a)) Q E s := by
  obtain ⟨vs, hv, hx⟩ := dat_open (H.has hm)
  refine SeqInW.in_listW (fun y => valEqb y v) (fun y hy => ?_) (lst_is hx) (by rw [any_valEqb hv hd hs]; exact h)
  obtain ⟨d', hd', q⟩ := hv.mem y (by simpa using hy)
  rw [valEqb_is (hs _ hd') q hd]
  exact eqGives_pd (hs _ hd') q hd
theorem r_notinL {Q : Value → Shared → Prop} (H : St K base led s) (hm : Kn base led a (datP ds)) (hd : PD.is d v) (hs : ∀ e ∈ ds, PD.same e d = true) (h : Q (.bool (!ds.any fun e => PD.eqb e d)) s) :
    wpAny (model prog w) A (compareOp .NotIn v (.ref a)) Q E s := by
  obtain ⟨vs, hv, hx⟩ := dat_open (H.has hm)
  refine SeqInW.notIn_listW (fun y => valEqb y v) (fun y hy => ?_) (lst_is hx) (by rw [any_valEqb hv hd hs]; exact h)
  obtain ⟨d', hd', q⟩ := hv.mem y (by simpa using hy)
  rw [valEqb_is (hs _ hd') q hd]
  exact eqGives_pd (hs _ hd') q hd
theorem same_s {xs : List Str} {x : Str} : ∀ e ∈ xs.map PD.s, PD.same e (.s x) = true := fun e he => by obtain ⟨y, _, rfl⟩ := List.mem_map.mp he; rfl
theorem same_i {xs : List Int} {x : Int} : ∀ e ∈ xs.map PD.i, PD.same e (.i x) = true := fun e he => by obtain ⟨y, _, rfl⟩ := List.mem_map.mp he; rfl
theorem any_s (xs : List Str) (x : Str) : ((xs.map PD.s).any fun e => PD.eqb e (.s x)) = decide (x ∈ xs) := by
  induction xs with
  | nil => rfl
  | cons y r ih =>
    rw [List.map_cons, List.any_cons, ih]
    show (decide (y = x) || decide (x ∈ r)) = _
    by_cases h : y = x
    · subst h; simp
    · simp [h, Ne.symm h]
theorem any_i (xs : List Int) (x : Int) : ((xs.map PD.i).any fun e => PD.eqb e (.i x)) = decide (x ∈ xs) := by
  induction xs with
  | nil => rfl
  | cons y r ih =>
    rw [List.map_cons, List.any_cons, ih]
    show ((y == x) || decide (x ∈ r)) = _
    by_cases h : y = x
    · subst h; simp
    · have : (y == x) = false := by simpa using h
      simp [this, Ne.symm h]
theorem r_inS {xs : List Str} {x : Str} {t : Tok} {Q : Value → Shared → Prop} (H : St K base led s) (hm : Kn base led a (strsP xs)) (h : Q (.bool (decide (x ∈ xs))) s) : wpAny (model prog w) A (compareOp .In (.str x t) (.ref a)) Q E s :=
  r_inL H hm (PD.is_s x t) same_s (by rw [any_s]; exact h)
theorem r_notinS {xs : List Str} {x : Str} {t : Tok} {Q : Value → Shared → Prop} (H : St K base led s) (hm : Kn base led a (strsP xs)) (h : Q (.bool (!decide (x ∈ xs))) s) : wpAny (model prog w) A (compareOp .NotIn (.str x t) (.ref a)) Q E s :=
  r_notinL H hm (PD.is_s x t) same_s (by rw [any_s]; exact h)
theorem r_inI {xs : List Int} {x : Int} {t : Tok} {Q : Value → Shared → Prop} (H : St K base led s) (hm : Kn base led a (intsP xs)) (h : Q (.bool (decide (x ∈ xs))) s) : wpAny (model prog w) A (compareOp .In (.int x t) (.ref a)) Q E s :=
  r_inL H hm (PD.is_i x t) same_i (by rw [any_i]; exact h)
theorem r_notinI {xs : List Int} {x : Int} {t : Tok} {Q : Value → Shared → Prop} (H : St K base led s) (hm : Kn base led a (intsP xs)) (h : Q (.bool (!decide (x ∈ xs))) s) : wpAny (model prog w) A (compareOp .NotIn (.int x t) (.ref a)) Q E s :=
  r_notinL H hm (PD.is_i x t) same_i (by rw [any_i]; exact h)

/-! slices -/
noncomputable def slcP (l u st : Value) : OP := fun o => o.cls = .type "slice" ∧ o.data = .fields #[l, u, st]
noncomputable def SliceMk (Q : Value → Shared → Prop) (l u st : Value) (s₃ : Shared) : Prop := ∃ K base led₃, St K base led₃ s₃ ∧ ∀ n s', St K base ((n, slcP l u st) :: led₃) s' → Q (.ref n) s'
theorem r_slice {lower upper step : Option Expr} {p : Pos} {Q : Value → Shared → Prop} (h : wpAny (model prog w) A (evalPart lower env) (fun l s₁ => wpAny (model prog w) A (evalPart upper env) (fun u s₂ => wpAny (model prog w) A (evalPart step env) (SliceMk Q l u) E s₂) E s₁) E s) :
    wpAny (model prog w) A (eval (.Slice lower upper step p) env) Q E s := by
  refine wpAny_Slice (wpAny_mono h (fun l s₁ q => wpAny_mono q (fun u s₂ q => wpAny_mono q (fun st s₃ q => ?_) fun _ _ e => e) fun _ _ e => e) fun _ _ e => e)
  obtain ⟨K, base, led₃, H, q⟩ := q
  exact q _ _ (H.push _ ⟨rfl, rfl⟩ rfl rfl ⟨rfl, rfl, rfl⟩)
theorem r_mkSlice {l u st : Value} {Q : Value → Shared → Prop} (H : St K base led s) (h : ∀ n s', St K base ((n, slcP l u st) :: led) s' → Q (.ref n) s') : SliceMk Q l u st s := ⟨K, base, led, H, h⟩
theorem r_part0 {Q : Value → Shared → Prop} (h : Q .none s) : wpAny (model prog w) A (evalPart none env) Q E s := evalPart_none_step h
theorem r_part1 {e : Expr} {Q : Value → Shared → Prop} (h : wpAny (model prog w) A (eval e env) Q E s) : wpAny (model prog w) A (evalPart (some e) env) Q E s := evalPart_some_step h
noncomputable def pickL {α : Type} (l : List α) (lo hi st : Option Int) : List α :=
  (sliceRange (sliceBounds lo hi st l.length).1 (sliceBounds lo hi st l.length).2.1 (sliceBounds lo hi st l.length).2.2).filterMap (l[·]?)
theorem All2.pick {α β : Type} {R : α → β → Prop} {l : List α} {k : List β} (h : All2 R l k) (lo hi st : Option Int) : All2 R (pickL l lo hi st) (pickL k lo hi st) := by
  unfold pickL
  rw [← h.len]
  generalize sliceRange _ _ _ = idx
  induction idx with
  | nil => exact .nil
  | cons i r ih =>
    rw [List.filterMap_cons, List.filterMap_cons]
    cases e : l[i]? with
    | none =>
      have : k[i]? = none := by rw [List.getElem?_eq_none_iff] at e ⊢; rw [← h.len]; exact e
      rw [this]; exact ih
    | some x =>
      obtain ⟨y, e', r'⟩ := h.get e
      rw [e']; exact .cons r' ih
theorem pickL_arr (l : List Value) (lo hi st : Option Int) : slicePick l.toArray lo hi st = (pickL l lo hi st).toArray := by
  unfold slicePick pickL
  simp only [List.size_toArray, List.getElem?_toArray]
theorem repl_all {α : Type} : ∀ l : List α, All2 (fun _ _ => True) l (List.replicate l.length Value.none)
  | [] => .nil
  | _ :: r => .cons trivial (repl_all r)
theorem pickL_len {α : Type} (l : List α) (lo hi st : Option Int) : (pickL l lo hi st).length ≤ l.length := by
  have h : (slicePick (List.replicate l.length Value.none).toArray lo hi st).size ≤ _ := slicePick_size_le _ lo hi st
  rw [pickL_arr] at h
  have := ((repl_all l).pick lo hi st).len
  simp only [List.size_toArray, List.length_replicate] at h
  lia
theorem r_sliceTail {value slice : Expr} {vl vu vt : Value} {lo hi st : Option Int} {ops : List Value} {Q : Value → Shared → Prop} (H : St K base led s) (hm : Kn base led a (datP ds)) (hs : Kn base led b (slcP vl vu vt))
    (hl : IsPart vl lo) (hu : IsPart vu hi) (ht : IsPart vt st) (h0 : st ≠ some 0) (hz : ds.length ≤ sizeLine) (h : ∀ n s', St K base ((n, datP (pickL ds lo hi st)) :: led) s' → Q (.ref n) s')
    (hsub : subscripted slice false (.ref a) (.ref b) = operate ops (getItem (.ref a) (.ref b))) :
    wpAny (model prog w) A (subscriptTail value slice (.ref a) (.ref b)) Q E s := by
  obtain ⟨vs, hv, hx⟩ := dat_open (H.has hm)
  obtain ⟨o, e, c, dd⟩ := H.has hs
  refine tail_any (lst_is hx).typeIs slot_list_getitem.lookup (wpAny_getItem_list_slice (lst_is hx) ⟨o, e, c, dd⟩ hl hu ht h0 (h _ _ (H.push _ ⟨pickL vs lo hi st, hv.pick lo hi st, 0, ?_⟩ rfl rfl ⟨rfl, rfl, rfl⟩)) (by rw [List.size_toArray, ← hv.len]; exact hz)) hsub
  show ({ cls := .type "list", data := .seq (slicePick vs.toArray lo hi st) } : Obj) = listObj (pickL vs lo hi st).toArray 0
  rw [pickL_arr]
  rfl
end
theorem All2.map_iota {α β : Type} (f : α → β) (l : List α) : All2 (fun x y => y = f x) l (l.map f) := by
  induction l with
  | nil => exact .nil
  | cons x r ih => exact .cons rfl ih
theorem pickL_map {α β : Type} (f : α → β) (l : List α) (lo hi st : Option Int) : pickL (l.map f) lo hi st = (pickL l lo hi st).map f := by
  have h := (All2.map_iota f l).pick lo hi st
  have : ∀ {k : List α} {m : List β}, All2 (fun x y => y = f x) k m → m = k.map f := by
    intro k m h
    induction h with
    | nil => rfl
    | cons h1 _ ih => rw [List.map_cons, ← ih, h1]
  exact this h
theorem pickL_plain {α : Type} (l : List α) (lo hi : Option Int) : pickL l lo hi none = (l.drop (lo.elim 0 (clipAt l.length))).take (hi.elim l.length (clipAt l.length) - lo.elim 0 (clipAt l.length)) := by
  unfold pickL
  rw [sliceBounds_plain]
  generalize lo.elim 0 (clipAt l.length) = i
  generalize hi.elim l.length (clipAt l.length) = j
  have h := pick_run l.toArray i (j - i)
  simp only [sliceRange_one]
  simpa using h
theorem pickL_upto {α : Type} (l : List α) (b : Nat) : pickL l none (some (b : Int)) none = l.take b := by
  rw [pickL_plain]
  simp only [Option.elim, clipAt_nat, List.drop_zero, Nat.sub_zero]
  rcases Nat.le_total b l.length with h | h
  · rw [Nat.min_eq_left h]
  · rw [Nat.min_eq_right h, List.take_of_length_le h, List.take_of_length_le (Nat.le_refl _)]
theorem pickL_from {α : Type} (l : List α) (a : Nat) : pickL l (some (a : Int)) none none = l.drop a := by
  rw [pickL_plain]
  simp only [Option.elim, clipAt_nat]
  rcases Nat.le_total a l.length with h | h
  · rw [Nat.min_eq_left h, List.take_of_length_le (by rw [List.length_drop]; lia)]
  · rw [Nat.min_eq_right h, List.drop_of_length_le h, List.drop_of_length_le (Nat.le_refl _)]; simp
theorem foldl_take {α β : Type} (f : β → α → β) (a : β) (l : List α) (i : Nat) (x : α) (h : l[i]? = some x) : (l.take (i + 1)).foldl f a = f ((l.take i).foldl f a) x := by
  rw [List.take_add_one, h, List.foldl_append]
  rfl
noncomputable def envS (sc : Scope) : Env := newEnv sc 0 0 [] "" none .none none 0
theorem swapped_of {ts : List Expr} {v : Expr} {env : Env} {sc : Scope} {r : Option (List Str)} (h : env.scope = sc) (e : swappedStores ts v (envS sc) = pure r) : swappedStores ts v env = pure r := by
  subst h
  rw [← e]
  rfl
theorem sole_of {ts : List Expr} {v : Expr} {n : Nat} {env : Env} {sc : Scope} {r : Bool} (h : env.scope = sc) (e : swapsWithSole ts v n (envS sc) = pure r) : swapsWithSole ts v n env = pure r := by
  subst h
  rw [← e]
  match ts with
  | [] => rfl
  | [_] => rfl
  | _ :: _ :: _ => rfl
theorem swaps_of {v : Expr} {t : Option Expr} {n : Nat} {env : Env} {sc : Scope} {r : Bool} (h : env.scope = sc) (e : swapsWith v t n (envS sc) = pure r) : swapsWith v t n env = pure r := by
  subst h
  rw [← e]
  rfl
section
variable {prog : Program} {w : World} {A : Around} {E : Value → Shared → Prop} {s : Shared} {env : Env} {K : Kx} {base led : Led} {L : Addr}
noncomputable def SwapTwo (prog : Program) (w : World) (A : Around) (E : Value → Shared → Prop) (env : Env) (x y : Str) (Q : Flow → Shared → Prop) (vs : List Value) (s : Shared) : Prop :=
  ∃ v u, vs = [v, u] ∧ ∀ s₂, Ext s s₂ → wpAny (model prog w) A (storeName env y u) (fun _ s₃ => wpAny (model prog w) A (storeName env x v) (fun _ => Q .next) E s₃) E s₂
theorem r_swap2 (x y : Str) {k tk : Nat} {pos tpos vpos : Pos} {elts velts : List Expr} {Q : Flow → Shared → Prop} (hh : A.handled = none)
    (h : wpAny (model prog w) A (spliced (backTo vpos (starEach velts env))) (SwapTwo prog w A E env x y Q) E s)
    (hs : swapsWithSole [.Tuple elts k tpos] (.Tuple velts tk vpos) pos.line env = pure false)
    (hw : swappedStores [.Tuple elts k tpos] (.Tuple velts tk vpos) env = pure (some [x, y])) :
    wpAny (model prog w) A (exec (.Assign [.Tuple elts k tpos] (.Tuple velts tk vpos) pos) env) Q E s := by
  refine r_swap hh (wpAny_mono h (fun vs s₁ q => ?_) fun _ _ e => e) hs hw
  obtain ⟨v, u, rfl, q⟩ := q
  exact ⟨rfl, small_line rfl, fun s₂ hx => r_ord (wpAny_bindName (wpAny_mono (q s₂ hx) (fun _ s₃ q => r_ord (wpAny_bindName (wpAny_mono q (fun _ s₄ q => r_ord0 q) fun _ _ e => e))) fun _ _ e => e))⟩
theorem r_two {x y : Str} {v u : Value} {Q : Flow → Shared → Prop} (H : St K base led s) (h : ∀ s₂, St K base led s₂ → wpAny (model prog w) A (storeName env y u) (fun _ s₃ => wpAny (model prog w) A (storeName env x v) (fun _ => Q .next) E s₃) E s₂) :
    SwapTwo prog w A E env x y Q [v, u] s := ⟨v, u, rfl, fun s₂ hx => h s₂ (H.ext hx)⟩
noncomputable def SwapThree (prog : Program) (w : World) (A : Around) (E : Value → Shared → Prop) (env : Env) (x y z : Str) (Q : Flow → Shared → Prop) (vs : List Value) (s : Shared) : Prop :=
  ∃ v u t, vs = [v, u, t] ∧ ∀ s₂, Ext s s₂ → wpAny (model prog w) A (storeName env z t) (fun _ s₃ => wpAny (model prog w) A (storeName env y u) (fun _ s₃ => wpAny (model prog w) A (storeName env x v) (fun _ => Q .next) E s₃) E s₃) E s₂
theorem r_swap3 (x y z : Str) {k tk : Nat} {pos tpos vpos : Pos} {elts velts : List Expr} {Q : Flow → Shared → Prop} (hh : A.handled = none)
    (h : wpAny (model prog w) A (spliced (backTo vpos (starEach velts env))) (SwapThree prog w A E env x y z Q) E s)
    (hs : swapsWithSole [.Tuple elts k tpos] (.Tuple velts tk vpos) pos.line env = pure false)
    (hw : swappedStores [.Tuple elts k tpos] (.Tuple velts tk vpos) env = pure (some [x, y, z])) :
    wpAny (model prog w) A (exec (.Assign [.Tuple elts k tpos] (.Tuple velts tk vpos) pos) env) Q E s := by
  refine r_swap hh (wpAny_mono h (fun vs s₁ q => ?_) fun _ _ e => e) hs hw
  obtain ⟨v, u, t, rfl, q⟩ := q
  exact ⟨rfl, small_line rfl, fun s₂ hx => r_ord (wpAny_bindName (wpAny_mono (q s₂ hx) (fun _ s₃ q => r_ord (wpAny_bindName (wpAny_mono q (fun _ s₄ q => r_ord (wpAny_bindName (wpAny_mono q (fun _ s₅ q => r_ord0 q) fun _ _ e => e))) fun _ _ e => e))) fun _ _ e => e))⟩
theorem r_three {x y z : Str} {v u t : Value} {Q : Flow → Shared → Prop} (H : St K base led s) (h : ∀ s₂, St K base led s₂ → wpAny (model prog w) A (storeName env z t) (fun _ s₃ => wpAny (model prog w) A (storeName env y u) (fun _ s₃ => wpAny (model prog w) A (storeName env x v) (fun _ => Q .next) E s₃) E s₃) E s₂) :
    SwapThree prog w A E env x y z Q [v, u, t] s := ⟨v, u, t, rfl, fun s₂ hx => h s₂ (H.ext hx)⟩
end
end
--@ b13
section
theorem range_filterMap {α β : Type} (l : List α) (g : α → Option β) : (List.range l.length).filterMap (fun i => l[i]?.bind g) = l.filterMap g := by
  induction l with
  | nil => rfl
  | cons x r ih =>
    rw [List.length_cons, List.range_succ_eq_map, List.filterMap_cons, List.filterMap_map]
    have : (fun i => (x :: r)[i]?.bind g) ∘ Nat.succ = fun i => r[i]?.bind g := by funext i; rfl
    rw [this, ih, List.filterMap_cons]
    rfl
theorem map_get {α β : Type} {f : α → β} {l : List α} {i : Nat} {d : β} (h : (l.map f)[i]? = some d) : ∃ x, l[i]? = some x ∧ d = f x := by
  rw [List.getElem?_map] at h
  cases e : l[i]? with
  | none => rw [e] at h; cases h
  | some x => rw [e] at h; cases h; exact ⟨x, rfl, rfl⟩
theorem one_var {x : Str} {vs : Vars} (h : vs.map (·.1) = [x]) : ∃ u, vs = [(x, u)] := by
  cases vs with
  | nil => cases h
  | cons p r =>
    obtain ⟨y, u⟩ := p
    injection h with h1 h2
    cases List.map_eq_nil_iff.mp h2
    cases h1
    exact ⟨u, rfl⟩
noncomputable abbrev Gx (G : Nat → Option PD) (i : Nat) : List PD := (List.range i).filterMap G
theorem Gx_succ (G : Nat → Option PD) (i : Nat) : Gx G (i + 1) = Gx G i ++ (G i).toList := by
  unfold Gx
  rw [List.range_succ, List.filterMap_append, List.filterMap_cons, List.filterMap_nil]
  cases G i <;> rfl
section
variable {prog : Program} {w : World} {A : Around} {E : Value → Shared → Prop} {K : Kx} {base led led' : Led} {s : Shared} {env : Env} {L a it : Addr} {ds es : List PD} {vs : List Value} {v : Value} {d : PD} {pos px : Pos} {x : Str}
  {n : Nat} {ITP : Nat → OP} {V : Nat → Value → Led → Prop} {hold : Led → Prop} {elt : Expr} {ifs : List Expr} {scope : Scope} {cl : List (Str × Addr)} {G : Nat → Option PD}

/-- one turn of a comprehension with one name, its list of plain data -/
noncomputable def Turn1 (prog : Program) (w : World) (A : Around) (K : Kx) (base led : Led) (env : Env) (elt : Expr) (x : Str) (ifs : List Expr) (scope : Scope) (cl : List (Str × Addr)) (it : Addr) (n : Nat) (ITP : Nat → OP) (V : Nat → Value → Led → Prop) (G : Nat → Option PD) : Prop :=
  ∀ C acc cenv E' i us v s, EnvL cenv C → cenv.scope = relabel scope env → cenv.cells = cl → i < n → V i v [] → St K base ((it, ITP (i + 1)) :: (C, nsP [(x, some v)]) :: (acc, lstP us) :: led) s →
    wpAny (model prog w) A (tests ifs cenv) (fun ok s₃ => match ok with
      | true => wpAny (model prog w) A (eval elt cenv) (fun y s₄ => ∃ d, G i = some d ∧ PD.is d y ∧ St K base ((it, ITP (i + 1)) :: (C, nsP [(x, some v)]) :: (acc, lstP us) :: led) s₄) E' s₃
      | false => G i = none ∧ St K base ((it, ITP (i + 1)) :: (C, nsP [(x, some v)]) :: (acc, lstP us) :: led) s₃) E' s
theorem compGo1 (src : Src prog w K base (.Name x px) it n (fun i => [(it, ITP i)]) V hold) (hV : ∀ i v ex, V i v ex → ex = []) (hn : n ≤ sizeLine) (hl : hold led)
    (hx : scope.names.lookup x = some .local) (hd : (x == ("__debug__" : Str)) = false) (turn : Turn1 prog w A K base led env elt x ifs scope cl it n ITP V G) :
    CompGo prog w A K base env elt (.Name x px) ifs scope cl [x] it n (fun i => [(it, ITP i)]) V hold (fun i us led' => led' = led ∧ VS (Gx G i) us) where
  src := src
  size := hn
  holds := fun _ _ _ h => h.1 ▸ hl
  turn := by
    rintro C acc cenv E' i us led' vs v ex s X hsc hcl hi ⟨rfl, hus⟩ hv hvs H
    obtain rfl := hV _ _ _ hv
    obtain ⟨u, rfl⟩ := one_var hvs
    have D : KD cenv [(x, .local)] := by
      intro p hp
      rw [List.mem_singleton.mp hp]
      refine ⟨?_, hd⟩
      unfold Env.kindOf
      rw [hsc]
      exact lookup_relabel_local hx
    refine wpAny_assign_Name (r_store H X D (.head _) (.tail _ (.head _)) .here (.next .here) fun s₂ H₂ => ?_)
    refine wpAny_mono (turn C acc cenv E' i us v s₂ X hsc hcl hi hv H₂) (fun ok s₃ q => ?_) fun _ _ e => e
    cases ok with
    | true =>
      rw [if_pos rfl]
      refine wpAny_mono q (fun y s₄ q => ?_) fun _ _ e => e
      obtain ⟨d, hG, hd, H₄⟩ := q
      exact ⟨_, [(x, some v)], rfl, ⟨rfl, by rw [Gx_succ, hG]; exact hus.app (.one hd)⟩, H₄⟩
    | false =>
      rw [if_neg (by simp)]
      obtain ⟨hG, H₃⟩ := q
      exact ⟨_, [(x, some v)], rfl, ⟨rfl, by rw [Gx_succ, hG]; simpa using hus⟩, H₃⟩

/-- what a comprehension with one name and plain data owes once its iterator stands -/
noncomputable def CompRest (prog : Program) (w : World) (A : Around) (K : Kx) (base : Led) (env : Env) (elt : Expr) (x : Str) (px : Pos) (ifs : List Expr) (scope : Scope) (cl : List (Str × Addr)) (R : Led → List PD → Prop) (itv : Value) (s₂ : Shared) : Prop :=
  ∃ it n ITP V hold G led, itv = .ref it ∧ n ≤ sizeLine ∧ (Src prog w K base (.Name x px) it n (fun i => [(it, ITP i)]) V hold ∧ (∀ i v ex, V i v ex → ex = [])) ∧ hold led ∧
      St K base ((it, ITP 0) :: led) s₂ ∧ Turn1 prog w A K base led env elt x ifs scope cl it n ITP V G ∧ R led (Gx G n)
theorem r_comp1 {iter : Expr} {Q : Value → Shared → Prop} (K : Kx) (base : Led) (hh : A.handled = none) (X : EnvL env L) (hclos : closureFor scope env = pure cl)
    (hsc : scope.kind = .function ∧ (∀ y ∈ scope.names, y.2 ≠ .cell) ∧ (∀ y ∈ scope.names, y.2 = .local → scope.names.lookup y.1 = some .local) ∧ scope.names.lookup x = some .local ∧ (x == ("__debug__" : Str)) = false)
    (h : wpAny (model prog w) A (eval iter env) (fun xv s₁ => wpAny (model prog w) A (pyIter xv) (CompRest prog w A K base env elt x px ifs scope cl (fun led ds => ∀ acc s, St K base ((acc, datP ds) :: led) s → Q (.ref acc) s)) E s₁) E s)
    (hs : ∀ x, foldedSetIterable iter env x = pure x := by intro _; rfl) :
    wpAny (model prog w) A (eval (.ListComp elt [⟨.Name x px, iter, ifs, 0⟩] scope pos) env) Q E s := by
  refine r_comp (K := K) (base := base) [x] hh X hclos ⟨hsc.1, hsc.2.1⟩ hsc.2.2.1 (List.nodup_cons.mpr ⟨fun q => (nomatch q), List.nodup_nil⟩) (wpAny_mono h (fun xv s₁ q => wpAny_mono q (fun itv s₂ q => ?_) fun _ _ e => e) fun _ _ e => e) hs
  obtain ⟨it, n, ITP, V, hold, G, led, rfl, hn, ⟨src, hV⟩, hl, H, turn, hQ⟩ := q
  refine ⟨it, n, _, V, hold, _, led, rfl, compGo1 src hV hn hl hsc.2.2.2.1 hsc.2.2.2.2 turn, H, ⟨rfl, .nil⟩, ?_⟩
  rintro acc us led' s ⟨rfl, hus⟩ H'
  exact hQ acc s (H'.weak .here fun o q => ⟨us, hus, q⟩)
theorem r_compTo1 {iter : Expr} {y : Str} {py spos : Pos} {Q : Flow → Shared → Prop} (K : Kx) (base : Led) (hh : A.handled = none) (X : EnvL env L) (hsw : swapsWith (.ListComp elt [⟨.Name x px, iter, ifs, 0⟩] scope pos) (some (.Name y py)) spos.line env = pure true)
    (hclos : closureFor scope env = pure cl)
    (hsc : scope.kind = .function ∧ (∀ y ∈ scope.names, y.2 ≠ .cell) ∧ (∀ y ∈ scope.names, y.2 = .local → scope.names.lookup y.1 = some .local) ∧ scope.names.lookup x = some .local ∧ (x == ("__debug__" : Str)) = false)
    (h : wpAny (model prog w) A (eval iter env) (fun xv s₁ => wpAny (model prog w) A (pyIter xv) (CompRest prog w A K base env elt x px ifs scope cl (fun led ds => ∀ C vs acc s, St K base ((C, nsP vs) :: (acc, datP ds) :: led) s →
        wpAny (model prog w) A (storeName env y (.ref acc)) (fun _ s' => ∃ led', St K base ((C, nsP vs) :: led') s' ∧ ∀ s'', St K base led' s'' → Q .next s'') E s)) E s₁) E s)
    (hs : ∀ x, foldedSetIterable iter env x = pure x := by intro _; rfl) :
    wpAny (model prog w) A (exec (.Assign [.Name y py] (.ListComp elt [⟨.Name x px, iter, ifs, 0⟩] scope pos) spos) env) Q E s := by
  refine r_compTo (K := K) (base := base) [x] hsw hh X hclos ⟨hsc.1, hsc.2.1⟩ hsc.2.2.1 (List.nodup_cons.mpr ⟨fun q => (nomatch q), List.nodup_nil⟩) (wpAny_mono h (fun xv s₁ q => wpAny_mono q (fun itv s₂ q => ?_) fun _ _ e => e) fun _ _ e => e) hs
  obtain ⟨it, n, ITP, V, hold, G, led, rfl, hn, ⟨src, hV⟩, hl, H, turn, hQ⟩ := q
  refine ⟨it, n, _, V, hold, _, led, rfl, compGo1 src hV hn hl hsc.2.2.2.1 hsc.2.2.2.2 turn, H, ⟨rfl, .nil⟩, ?_⟩
  rintro C acc us led' vs s ⟨rfl, hus⟩ H'
  exact hQ C vs acc s (H'.weak (.next .here) fun o q => ⟨us, hus, q⟩)
/-- the same turn, the iterator's own state hidden -/
noncomputable def TurnG (prog : Program) (w : World) (A : Around) (K : Kx) (base led : Led) (env : Env) (elt : Expr) (x : Str) (ifs : List Expr) (scope : Scope) (cl : List (Str × Addr)) (it : Addr) (v : Value) (r : Option PD) : Prop :=
  ∀ C acc cenv E' us P s, EnvL cenv C → cenv.scope = relabel scope env → cenv.cells = cl → St K base ((it, P) :: (C, nsP [(x, some v)]) :: (acc, lstP us) :: led) s →
    wpAny (model prog w) A (tests ifs cenv) (fun ok s₃ => match ok with
      | true => wpAny (model prog w) A (eval elt cenv) (fun y s₄ => ∃ d, r = some d ∧ PD.is d y ∧ St K base ((it, P) :: (C, nsP [(x, some v)]) :: (acc, lstP us) :: led) s₄) E' s₃
      | false => r = none ∧ St K base ((it, P) :: (C, nsP [(x, some v)]) :: (acc, lstP us) :: led) s₃) E' s
theorem turn_of (h : ∀ i v, i < n → V i v [] → TurnG prog w A K base led env elt x ifs scope cl it v (G i)) : Turn1 prog w A K base led env elt x ifs scope cl it n ITP V G :=
  fun C acc cenv E' i us v s X hsc hcl hi hv H => h i v hi hv C acc cenv E' us _ s X hsc hcl H
theorem VL_nil {ds : List PD} : ∀ i v ex, VL ds i v ex → ex = [] := fun _ _ _ h => h.1
theorem VT_nil {x : Str} : ∀ i v ex, VT x i v ex → ex = [] := fun _ _ _ h => h.1
theorem VR_nil {a c : Int} : ∀ i v ex, VR a c i v ex → ex = [] := fun _ _ _ h => h.1
theorem VTU_nil {vs : List Value} : ∀ (i : Nat) (v : Value) (ex : Led), (ex = ([] : Led) ∧ vs[i]? = some v) → ex = [] := fun _ _ _ h => h.1
theorem VD_nil {T : Type} [DecidableEq T] {knd : PySem.KeyKind prog w T} {kvs : List (T × Value)} : ∀ i v ex, VD knd kvs i v ex → ex = [] := fun _ _ _ h => h.1
variable {R : Led → List PD → Prop}
theorem comp_list (g : PD → Option PD) (H : St K base ((it, liP a 0) :: led) s) (hm : Kn base led a (datP ds)) (hz : ds.length ≤ sizeLine) (turn : ∀ d v, d ∈ ds → PD.is d v → TurnG prog w A K base led env elt x ifs scope cl it v (g d)) (h : R led (ds.filterMap g)) :
    CompRest prog w A K base env elt x px ifs scope cl R (.ref it) s := by
  refine ⟨it, ds.length, _, _, _, fun i => ds[i]?.bind g, led, rfl, hz, ⟨Src.list a ds, VL_nil⟩, hm, H, turn_of fun i v hi hv => ?_, by unfold Gx; rw [range_filterMap]; exact h⟩
  obtain ⟨_, d, hd, hp⟩ := hv
  rw [hd]
  exact turn d v (List.mem_of_getElem? hd) hp
theorem comp_strs {xs : List Str} (g : Str → Option PD) (H : St K base ((it, liP a 0) :: led) s) (hm : Kn base led a (strsP xs)) (hz : xs.length ≤ sizeLine) (turn : ∀ y t, y ∈ xs → TurnG prog w A K base led env elt x ifs scope cl it (.str y t) (g y)) (h : R led (xs.filterMap g)) :
    CompRest prog w A K base env elt x px ifs scope cl R (.ref it) s := by
  refine comp_list (fun d => match d with | .s y => g y | _ => none) H hm (by rw [List.length_map]; exact hz) (fun d v hd hp => ?_) (by rw [List.filterMap_map]; exact h)
  obtain ⟨y, hy, rfl⟩ := List.mem_map.mp hd
  obtain ⟨t, rfl⟩ := hp
  exact turn y t hy
theorem comp_ints {xs : List Int} (g : Int → Option PD) (H : St K base ((it, liP a 0) :: led) s) (hm : Kn base led a (intsP xs)) (hz : xs.length ≤ sizeLine) (turn : ∀ y t, y ∈ xs → TurnG prog w A K base led env elt x ifs scope cl it (.int y t) (g y)) (h : R led (xs.filterMap g)) :
    CompRest prog w A K base env elt x px ifs scope cl R (.ref it) s := by
  refine comp_list (fun d => match d with | .i y => g y | _ => none) H hm (by rw [List.length_map]; exact hz) (fun d v hd hp => ?_) (by rw [List.filterMap_map]; exact h)
  obtain ⟨y, hy, rfl⟩ := List.mem_map.mp hd
  obtain ⟨t, rfl⟩ := hp
  exact turn y t hy
theorem comp_text {y : Str} (g : Nat → Option PD) (H : St K base ((it, siP y 0) :: led) s) (hz : y.cps.size ≤ sizeLine) (turn : ∀ c t, c ∈ y.cps.toList → TurnG prog w A K base led env elt x ifs scope cl it (.str (signS c) t) (g c)) (h : R led (y.cps.toList.filterMap g)) :
    CompRest prog w A K base env elt x px ifs scope cl R (.ref it) s := by
  refine ⟨it, y.cps.size, _, _, _, fun i => y.cps.toList[i]?.bind g, led, rfl, hz, ⟨Src.text y, VT_nil⟩, trivial, H, turn_of fun i v hi hv => ?_, by unfold Gx; rw [← Array.length_toList, range_filterMap]; exact h⟩
  obtain ⟨_, c, t, hc, rfl⟩ := hv
  have hc' : y.cps.toList[i]? = some c := by rw [Array.getElem?_toList]; exact hc
  rw [hc']
  exact turn c t (List.mem_of_getElem? hc')
theorem comp_range {p q : Int} {n : Nat} (g : Nat → Option PD) (H : St K base ((it, riP p n q) :: led) s) (hz : n ≤ sizeLine) (turn : ∀ i t, i < n → TurnG prog w A K base led env elt x ifs scope cl it (.int (p + i * q) t) (g i)) (h : R led ((List.range n).filterMap g)) :
    CompRest prog w A K base env elt x px ifs scope cl R (.ref it) s := by
  refine ⟨it, n, _, _, _, g, led, rfl, hz, ⟨Src.range p q n, VR_nil⟩, trivial, ?_, turn_of fun i v hi hv => ?_, h⟩
  · have e1 : p + ((0 : Nat) : Int) * q = p := by simp
    have e2 : (n : Int) - ((0 : Nat) : Int) = n := by simp
    rw [e1, e2]
    exact H
  · obtain ⟨_, t, rfl⟩ := hv
    exact turn i t hi
theorem comp_keys {T : Type} [DecidableEq T] {knd : PySem.KeyKind prog w T} {kvs : List (T × Value)} {ep : Nat} (g : T → Option PD) (H : St K base ((it, kiP a 0 kvs.length ep) :: led) s) (hm : Kn base led a (diaP knd kvs ep)) (hz : kvs.length ≤ sizeLine)
    (turn : ∀ k v, k ∈ kvs.map (·.1) → knd.is k v = true → TurnG prog w A K base led env elt x ifs scope cl it v (g k)) (h : R led ((kvs.map (·.1)).filterMap g)) :
    CompRest prog w A K base env elt x px ifs scope cl R (.ref it) s := by
  refine ⟨it, kvs.length, _, _, _, fun i => (kvs.map (·.1))[i]?.bind g, led, rfl, hz, ⟨Src.keys a kvs ep, VD_nil⟩, hm, H, turn_of fun i v hi hv => ?_, by unfold Gx; rw [show kvs.length = (kvs.map (·.1)).length from (List.length_map ..).symm, range_filterMap]; exact h⟩
  obtain ⟨_, k, y, hk, hp⟩ := hv
  have hk' : (kvs.map (·.1))[i]? = some k := by rw [List.getElem?_map, hk]; rfl
  rw [hk']
  exact turn k v (List.mem_of_getElem? hk') hp
theorem r_test0 {Q : Bool → Shared → Prop} (h : Q true s) : wpAny (model prog w) A (tests [] env) Q E s := wpAny_tests_nil h
theorem r_test1 {c : Expr} {Q : Bool → Shared → Prop} (h : wpAny (model prog w) A (isTrue c env (eval c env)) Q E s) : wpAny (model prog w) A (tests [c] env) Q E s := wpAny_tests_one h
end
theorem Gx_list (ds : List PD) (g : PD → Option PD) : Gx (fun i => ds[i]?.bind g) ds.length = ds.filterMap g := range_filterMap ds g

theorem All2.mk1 {d : PD} {v : Value} (h : PD.is d v) : VS [d] [v] := .one h
theorem sub_skip {α : Type} {l l' : List α} {a : α} (h : List.Sublist l l') : List.Sublist l (a :: l') := h.cons a
theorem sub_keep {α : Type} {l l' : List α} {a : α} (h : List.Sublist l l') : List.Sublist (a :: l) (a :: l') := h.cons_cons a
theorem filterMap_if {α β : Type} (p : α → Bool) (f : α → β) (l : List α) : l.filterMap (fun y => if p y = true then some (f y) else none) = (l.filter p).map f := by
  induction l with
  | nil => rfl
  | cons x r ih =>
    rw [List.filterMap_cons, List.filter_cons]
    cases h : p x with
    | true => simp [ih]
    | false => simp [ih]
noncomputable def New (s : Shared) (n : Addr) (P : OP) (s' : Shared) : Prop := s.heap.get? n = none ∧ Hi n ∧ Has s'.heap n P
theorem St.give {K : Kx} {hT : Heap} {base led : Led} {s s' : Shared} {n : Addr} {P : OP} (H : St K base led s') (hK : K = ⟨hT, s.heap, [], s.gens, s.drawn, s.os⟩) (hm : (n, P) ∈ led) : New s n P s' := by
  subst hK
  refine ⟨?_, H.hi _ hm, H.here _ hm⟩
  rcases H.fresh _ hm with f | f
  · exact nomatch f
  · exact f
theorem St.got {K : Kx} {base led : Led} {s s' : Shared} {n : Addr} {P : OP} (H : St K base led s) (x : Ext s s') (N : New s n P s') : St K base ((n, P) :: led) s' := H.add x.le x.rest N.1 N.2.1 N.2.2
end
--@ b14
section
theorem frag_nil (hT : Heap) : Frag.In [] hT := fun _ _ h => nomatch h
theorem lf_bind (va vr : Value) : ∀ S pm c, peek [] S (bindArgs (fnOf (fnName 21) (fnName 21) (fnParams 21) (fnBody 21) (fnScope 21) .none .none .none pm none (.ref c) .none) ⟨[va, vr], []⟩) = some (([("names", va), ("room", vr)] : List (Str × Value))) := by
  intro S pm c; kernel_rfl
theorem lf_fn : (fnScope 21).kind = .function ∧ (fnScope 21).isCoroutine = false ∧ (fnScope 21).isGenerator = false := by decide +kernel
theorem lf_cells (L : Nat) : cellsFrom (L + 1) (fnScope 21).names [] = ([("name", L + 1)] : List (Str × Addr)) := by kernel_rfl
theorem lf_kinds : ∀ p ∈ ([("names", .local), ("room", .local), ("desk", .local), ("told", .local), ("name", .cell)] : List (Str × NameKind)), (fnScope 21).names.lookup p.1 = some p.2 ∧ (p.1 == ("__debug__" : Str)) = false := by decide +kernel
theorem lf_nd : (["names", "room", "desk", "told"] : List Str).Nodup := by decide +kernel

/-- a turn of _law_fetches -/
noncomputable def fetchF (room : Nat) (st : List Bool × List Str) (x : Str) : List Bool × List Str := (st.1 ++ [!decide (x ∈ st.2)], (x :: st.2.filter fun y => y != x).take room)
noncomputable def fetches (xs : List Str) (room : Nat) : List Bool := (xs.foldl (fetchF room) ([], [])).1

theorem fetch_len (room : Nat) : ∀ (xs : List Str) (st : List Bool × List Str), (xs.foldl (fetchF room) st).1.length = st.1.length + xs.length ∧ (xs.foldl (fetchF room) st).2.length ≤ st.2.length + xs.length
  | [], st => ⟨rfl, Nat.le_refl _⟩
  | x :: r, st => by
    have h := fetch_len room r (fetchF room st x)
    have h2 : (fetchF room st x).2.length ≤ st.2.length + 1 := by
      unfold fetchF
      rw [List.length_take, List.length_cons]
      have := List.length_filter_le (fun y => y != x) st.2
      lia
    have h1 : (fetchF room st x).1.length = st.1.length + 1 := by unfold fetchF; simp
    rw [List.foldl_cons, List.length_cons]
    lia
theorem fetches_call {prog : Program} {w : World} {A : Around} {E : Value → Shared → Prop} {Q : Value → Shared → Prop} {K : Kx} {base led : Led} {s : Shared} {a : Addr} {xs : List Str} {room : Nat} {t : Tok} {k : Nat}
    (T : TopF K.hT) (H : St K base led s) (R : Room (k + 1) A) (hm : Kn base led a (strsP xs)) (hx : xs.length ≤ 1000)
    (h : ∀ n s', Ext s s' → New s n (datP ((fetches xs room).map PD.b)) s' → Q (.ref n) s') :
    wpAny (model prog w) A (call (.ref 180) [.ref a, .int room t]) Q E s := by
  refine call_fnC [("names", some (.ref a)), ("room", some (.int room t)), ("desk", none), ("told", none)] (fun L => [("name", L + 1)]) (fun L => [(L + 1, none)]) [] [(a, strsP xs)] H R T T.f180 (frag_nil _) ⟨fun p hp => (nomatch hp), List.nodup_nil⟩ (fun p hp => ?_) (lf_bind _ _) lf_fn lf_cells
    (fun L => by kernel_rfl) (fun L => by kernel_rfl) (fun L => by kernel_rfl) ⟨lf_nd, by kernel_rfl⟩ ?_
  · rw [List.mem_singleton.mp hp]; exact ⟨H.has hm, fun q => (nomatch q)⟩
  · intro K' env s₁ T' hK X hsc hcells hle hr H₁ R₁
    have D : KD env [("names", .local), ("room", .local), ("desk", .local), ("told", .local), ("name", .cell)] := KD.ofS hsc lf_kinds
    have C : CK env [("name", s.heap.objs.size + 1)] := CK.of hcells rfl
    simp only [List.map_cons, List.map_nil, List.cons_append, List.nil_append] at H₁
    conv => arg 3; arg 1; whnf
    repeat' walk_at "go"
    with_reducible refine' r_swap2 "desk" "told" R₁.hd ?_ (sole_of hsc (by kernel_rfl)) (swapped_of hsc (by kernel_rfl))
    repeat' walk_at "go"
    rename_i dk s2 H2 td s3 H3 s4 H4 s5 H5 s6 H6 it s7 H7
    with_reducible refine' r_for (Src.list a (xs.map PD.s) ?ht) (fun i led => ∃ dk td nm, led = [(td, datP (((xs.take i).foldl (fetchF room) ([], [])).1.map PD.b)), (dk, strsP ((xs.take i).foldl (fetchF room) ([], [])).2),
      (s.heap.objs.size, nsP [("names", some (.ref a)), ("room", some (.int room t)), ("desk", some (.ref dk)), ("told", some (.ref td))]), (s.heap.objs.size + 1, cellP nm)]) R₁.hd H7 ⟨dk, td, none, rfl⟩ (fun _ _ _ => Kn.old List.mem_cons_self) ?_ ?_
    case ht => intro _ _; rfl
    · intro E' i v ex led s' hi jJ jV H'
      with_reducible refine' g_fora ?_
      intro Qf oF
      refine el3 jJ fun dk td nm hE => ?_
      clear jJ
      subst hE
      obtain ⟨rfl, d, hd, hv⟩ := jV
      obtain ⟨x, hx, rfl⟩ := map_get hd
      obtain ⟨tx, rfl⟩ := hv
      simp only [List.nil_append, List.cons_append] at H'
      have hx' := foldl_take (fetchF room) ([], []) xs i x hx
      have hl := fetch_len room (xs.take i) ([], [])
      rw [hx'] at oF
      generalize (xs.take i).foldl (fetchF room) ([], []) = st at H' hl oF
      simp only [List.length_nil, List.length_take] at hl
      obtain ⟨hl1, hl2⟩ := hl
      repeat' walk_at "go"
      with_reducible refine' r_comp1 (cl := [("name", s.heap.objs.size + 1)]) K' [(a, strsP xs)] R₁.hd X (closure_of hcells (by kernel_rfl)) ?hsc ?_ ?hs
      case hsc => exact ⟨rfl, by decide +kernel, by decide +kernel, rfl, rfl⟩
      case hs => intro _; rfl
      repeat' walk_at "go"
      with_reducible refine' comp_strs (fun y => if y != x then some (.s y) else none) ?H ?hm ?hz ?turn ?_
      case H => assumption
      case hm => walk_at "kn"
      case hz => walk_at "size"
      case turn =>
        intro y ty _ C' acc cenv E'' us P s'' X' hsc' hcl' H''
        have D' : KD cenv [("one", .local), ("name", .cell)] := KD.ofS (hsc'.trans (relabel_of hsc)) (by decide +kernel)
        have C'' : CK cenv [("name", s.heap.objs.size + 1)] := CK.of hcl' rfl
        repeat' walk_at "go"
        cases hc : (y != x) with
        | true =>
          repeat' walk_at "go"
          exact ⟨_, by simp, PD.is_s _ _, by assumption⟩
        | false => exact ⟨by simp, by assumption⟩
      intro acc s'' H''
      rw [filterMap_if] at H''
      have hl3 := List.length_filter_le (fun y => y != x) st.2
      repeat' walk_at "go"
      rename_i n1 s9 H9 n2 s10 H10 n3 s11 H11 s12 H12
      have q : pickL ([PD.s x] ++ List.map PD.s (List.filter (fun y => y != x) st.snd)) none (some (room : Int)) none = (fetchF room st x).2.map PD.s := by
        rw [pickL_upto, List.singleton_append, ← List.map_cons, ← List.map_take]
        rfl
      have q2 : List.map PD.b st.fst ++ [PD.b !decide (x ∈ st.snd)] = (fetchF room st x).1.map PD.b := by simp [fetchF]
      rw [q, q2] at H12
      refine ⟨_, ex3 n3 td (some (.str x tx)) rfl, ?_⟩
      simp only [List.cons_append, List.nil_append]
      exact H12.pick (by walk_at "pick")
    · intro led' s' jJ H'
      refine el3 jJ fun dk td nm hE => ?_
      clear jJ
      subst hE
      repeat' walk_at "go"
      rw [List.length_map, List.take_length] at H'
      exact h td s' (H'.out hK (.tail _ (.tail _ (.head _)))) (H'.give hK (.head _))
end
--@ b15
section
set_option linter.unusedSectionVars false
section
variable {T : Type} [DecidableEq T]
noncomputable def getD' (kds : List (T × PD)) (k : T) : Option PD := (kds.find? fun p => p.1 = k).map (·.2)
noncomputable def setD' (kds : List (T × PD)) (k : T) (d : PD) : List (T × PD) :=
  if kds.any (fun p => p.1 = k) then kds.map (fun p => if p.1 = k then (p.1, d) else p) else kds ++ [(k, d)]
noncomputable def KV1 (p : T × PD) (q : T × Value) : Prop := p.1 = q.1 ∧ PD.is p.2 q.2
noncomputable abbrev KV (kds : List (T × PD)) (kvs : List (T × Value)) : Prop := All2 KV1 kds kvs
theorem kv_any {kds : List (T × PD)} {kvs : List (T × Value)} (h : KV kds kvs) (k : T) : kvs.any (fun p => p.1 = k) = kds.any fun p => p.1 = k := by
  induction h with
  | nil => rfl
  | cons h1 _ ih => rw [List.any_cons, List.any_cons, ih, h1.1]
theorem kv_get {kds : List (T × PD)} {kvs : List (T × Value)} (h : KV kds kvs) (k : T) : match getD' kds k with
    | none => valueAt kvs k = none
    | some d => ∃ v, valueAt kvs k = some v ∧ PD.is d v := by
  induction h with
  | nil => rfl
  | @cons p q l m h1 _ ih =>
    rw [getD', valueAt] at ih ⊢
    simp only [List.find?_cons]
    rw [h1.1]
    by_cases e : q.1 = k
    · simp only [e, decide_true, Option.map_some]; exact ⟨_, rfl, h1.2⟩
    · simp only [e, decide_false]; exact ih
theorem kv_set {kds : List (T × PD)} {kvs : List (T × Value)} (h : KV kds kvs) (k : T) {d : PD} {v : Value} (hd : PD.is d v) : KV (setD' kds k d) (stored kvs k v) := by
  unfold setD' stored
  rw [kv_any h k]
  cases kds.any fun p => decide (p.1 = k) with
  | true =>
    simp only [if_true]
    induction h with
    | nil => exact .nil
    | @cons p q l m h1 _ ih =>
      rw [List.map_cons, List.map_cons]
      refine .cons ?_ ih
      rw [h1.1]
      by_cases e : q.1 = k
      · rw [if_pos e, if_pos e]; exact ⟨rfl, hd⟩
      · rw [if_neg e, if_neg e]; exact h1
  | false => exact h.app (.one ⟨rfl, hd⟩)
theorem kv_keys {kds : List (T × PD)} {kvs : List (T × Value)} (h : KV kds kvs) : kvs.map (·.1) = kds.map (·.1) := by
  induction h with
  | nil => rfl
  | cons h1 _ ih => rw [List.map_cons, List.map_cons, ih, h1.1]
theorem setD_len (kds : List (T × PD)) (k : T) (d : PD) : (setD' kds k d).length ≤ kds.length + 1 := by
  unfold setD'
  split <;> simp

variable {prog : Program} {w : World} {A : Around} {E : Value → Shared → Prop} {K : Kx} {base led led' : Led} {s : Shared} {env : Env} {L a b : Addr} {ds es : List PD} {vs : List Value} {v key : Value} {d : PD} {pos : Pos} {knd : PySem.KeyKind prog w T} {kvs : List (T × Value)} {kds : List (T × PD)} {k : T}
noncomputable def dpdP (knd : PySem.KeyKind prog w T) (kds : List (T × PD)) : OP := fun o => ∃ kvs, KV kds kvs ∧ dicP knd kvs o
theorem dpd_open {h : Heap} (x : Has h a (dpdP knd kds)) : ∃ kvs, KV kds kvs ∧ Has h a (dicP knd kvs) := let ⟨o, e, kvs, q, r⟩ := x; ⟨kvs, q, o, e, r⟩
theorem noSys (H : St K base led s) {P : OP} (hm : (a, P) ∈ led) : (a == sysModules) = false := by
  have := H.hi _ hm
  cases q : a == sysModules with
  | false => rfl
  | true => rw [beq_iff_eq] at q; rw [q] at this; exact absurd (show Hi sysModules from this) (by unfold Hi; decide)
theorem noSysK (H : St K base led s) {P : OP} (hb : ∀ p ∈ base, Hi p.1) (hm : Kn base led a P) : (a == sysModules) = false := by
  cases hm with
  | own h => exact noSys H h
  | old h =>
    have := hb _ h
    cases q : a == sysModules with
    | false => rfl
    | true => rw [beq_iff_eq] at q; rw [q] at this; exact absurd (show Hi sysModules from this) (by unfold Hi; decide)
theorem r_dict0 (knd : PySem.KeyKind prog w T) {Q : Value → Shared → Prop} (H : St K base led s) (h : ∀ n s', St K base ((n, dpdP knd []) :: led) s' → Q (.ref n) s') : wpAny (model prog w) A (eval (.Dict [] [] pos) env) Q E s := by
  refine wpAny_Dict_empty (h _ _ (H.add (s' := { s with heap := s.heap.push { cls := .type "dict", data := .dict #[] } }) (Le.push _ _) ⟨rfl, rfl, rfl⟩ (get_size _) (.inl H.sz) ?_))
  obtain ⟨o, e, q⟩ := is_dic (Heap.DictOf.new (knd := knd) s.heap)
  exact ⟨o, e, [], .nil, q⟩
theorem r_din {Q : Value → Shared → Prop} (H : St K base led s) (hm : (a, dpdP knd kds) ∈ led) (hk : knd.is k key = true) (h : ∀ s', St K base led s' → Q (.bool (getD' kds k).isSome) s') : wpAny (model prog w) A (compareOp .In key (.ref a)) Q E s := by
  obtain ⟨kvs, q, hx⟩ := dpd_open (H.here _ hm)
  refine wpAny_in_of hk (noSys H hm) (dic_is hx).mapOf ?_
  have e : (valueAt kvs k).isSome = (getD' kds k).isSome := by
    have := kv_get q k
    cases e : getD' kds k with
    | none => rw [e] at this; rw [show valueAt kvs k = none from this]; rfl
    | some d => rw [e] at this; obtain ⟨v, e', _⟩ : ∃ v, valueAt kvs k = some v ∧ PD.is d v := this; rw [e']; rfl
  rw [e]
  exact h _ (H.same rfl ⟨rfl, rfl, rfl⟩)
theorem r_dget {value slice : Expr} {ops : List Value} {Q : Value → Shared → Prop} (H : St K base led s) (hm : Kn base led a (dpdP knd kds)) (hk : knd.is k key = true) (hd : getD' kds k = some d) (h : ∀ v s', PD.is d v → St K base led s' → Q v s')
    (hs : subscripted slice false (.ref a) key = operate ops (getItem (.ref a) key)) : wpAny (model prog w) A (subscriptTail value slice (.ref a) key) Q E s := by
  obtain ⟨kvs, q, hx⟩ := dpd_open (H.has hm)
  have := kv_get q k
  rw [hd] at this
  obtain ⟨v, e, p⟩ := this
  exact tail_any (dic_is hx).typeIs F.slot_dict_getitem.lookup (wpAny_getItem_of hk (dic_is hx).mapOf e (h v _ p (H.same rfl ⟨rfl, rfl, rfl⟩))) hs
theorem r_dgetI {value slice : Expr} {ops : List Value} {x : Int} {Q : Value → Shared → Prop} (H : St K base led s) (hm : Kn base led a (dpdP knd kds)) (hk : knd.is k key = true) (hd : getD' kds k = some (.i x)) (h : ∀ t s', St K base led s' → Q (.int x t) s')
    (hs : subscripted slice false (.ref a) key = operate ops (getItem (.ref a) key)) : wpAny (model prog w) A (subscriptTail value slice (.ref a) key) Q E s :=
  r_dget H hm hk hd (fun v s' hv H' => by obtain ⟨t, rfl⟩ := hv; exact h t s' H') hs
theorem r_dgetV {value slice : Expr} {ops : List Value} {Q : Value → Shared → Prop} (H : St K base led s) (hm : Kn base led a (dicP knd kvs)) (hk : knd.is k key = true) (hd : valueAt kvs k = some v) (h : ∀ s', St K base led s' → Q v s')
    (hs : subscripted slice false (.ref a) key = operate ops (getItem (.ref a) key)) : wpAny (model prog w) A (subscriptTail value slice (.ref a) key) Q E s := by
  have hx := H.has hm
  exact tail_any (dic_is hx).typeIs F.slot_dict_getitem.lookup (wpAny_getItem_of hk (dic_is hx).mapOf hd (h _ (H.same rfl ⟨rfl, rfl, rfl⟩))) hs
theorem r_dgetE {value slice : Expr} {ops : List Value} {ep : Nat} {Q : Value → Shared → Prop} (H : St K base led s) (hm : Kn base led a (diaP knd kvs ep)) (hk : knd.is k key = true) (hd : valueAt kvs k = some v) (h : ∀ s', St K base led s' → Q v s')
    (hs : subscripted slice false (.ref a) key = operate ops (getItem (.ref a) key)) : wpAny (model prog w) A (subscriptTail value slice (.ref a) key) Q E s := by
  have hx : Has s.heap a (dicP knd kvs) := (H.has hm).imp fun _ q => ⟨ep, q⟩
  exact tail_any (dic_is hx).typeIs F.slot_dict_getitem.lookup (wpAny_getItem_of hk (dic_is hx).mapOf hd (h _ (H.same rfl ⟨rfl, rfl, rfl⟩))) hs
theorem r_dset {Q : Unit → Shared → Prop} (H : St K base led s) (hk : knd.is k key = true) (hd : PD.is d v) (hl : Upd led a (dpdP knd kds) (dpdP knd (setD' kds k d)) led') (hz : kds.length ≤ sizeLine) (h : ∀ s', St K base led' s' → Q () s') :
    wpAny (model prog w) A (setItem (.ref a) key v) Q E s := by
  obtain ⟨kvs, q, hx⟩ := dpd_open (H.here _ hl.mem)
  refine wpAny_setItem_pairs hk (dic_is hx) (fun h' hd' hs => h _ (H.change hl (LeBut.of_same hs) ⟨rfl, rfl, rfl⟩ ?_)) (by rw [← q.len]; exact hz)
  obtain ⟨o, e, r⟩ := is_dic hd'
  exact ⟨o, e, _, kv_set q k hd, r⟩
theorem r_assignSub {o i : Expr} {pos' : Pos} {value : Expr} {Q : Flow → Shared → Prop} (h : wpAny (model prog w) A (eval value env) (fun v s₁ => wpAny (model prog w) A (eval o env) (fun ov s₂ => wpAny (model prog w) A (eval i env) (fun iv s₃ => wpAny (model prog w) A (setItem ov iv v) (fun _ => Q Flow.next) E s₃) E s₂) E s₁) E s)
    (hs : swapsWith value (some (Expr.Subscript o i pos')) pos.line env = pure false) : wpAny (model prog w) A (exec (.Assign [.Subscript o i pos'] value pos) env) Q E s := wpAny_Assign_Subscript h hs
theorem r_pop {x : Int} {u : Tok} {Q : Value → Shared → Prop} (H : St K base led s) (h0 : 0 ≤ x) (h1 : x < ds.length) (hz : ds.length ≤ sizeLine) (hz2 : x < 2 ^ 62) (hl : Upd led a (datP ds) (datP (ds.eraseIdx x.toNat)) led') (hd : ds[x.toNat]? = some d)
    (h : ∀ v s', PD.is d v → St K base led' s' → Q v s') : wpAny (model prog w) A (call (.builtin "list.pop") [.ref a, .int x u]) Q E s := by
  obtain ⟨vs, hv, hx⟩ := dat_open (H.here _ hl.mem)
  obtain ⟨o, e, n, rfl⟩ := id hx
  obtain ⟨v, ev, pv⟩ := hv.get hd
  have hlv : ds.length = vs.length := hv.len
  have hlen : x.toNat < vs.length := by lia
  have hu := upd_lst hx (f := fun xs => xs.eraseIdxIfInBounds x.toNat) (vs' := vs.eraseIdx x.toNat) (by
    simp)
  have hidx : seqIndex? x vs.toArray.size = some x.toNat := by
    have hx0 : ¬ x < 0 := by lia
    have hx1 : x < (vs.length : Int) := by lia
    simp [seqIndex?, hx0, h0, hx1]
  refine call_meets PySem.F.slot_list_pop ⟨_, e, rfl⟩ PySem.F.entry_list_pop (PySem.F.args_list_pop_2 _ _) (MeetsSeq.list_pop_at a _ n x u x.toNat v (fits_idx h0 hz2) hidx (by simpa using ev) (by rw [List.size_toArray, ← hv.len]; exact hz)) ⟨e, h v _ pv (H.change hl hu.1 ⟨rfl, rfl, rfl⟩ ?_)⟩
  obtain ⟨o, e, q⟩ := hu.2
  refine ⟨o, e, _, ?_, q⟩
  rw [List.eraseIdx_eq_take_drop_succ, List.eraseIdx_eq_take_drop_succ]
  exact (hv.take _).app (hv.drop _)
theorem r_asg2 {x y : Str} {px py : Pos} {n : Nat} {u : Value} {Q : Unit → Shared → Prop} (hh : A.handled = none) (H : St K base led s) (hm : Kn base led a (tupP [v, u])) (h : ∀ s', St K base led s' → wpAny (model prog w) A (storeName env x v) (fun _ s₁ => wpAny (model prog w) A (storeName env y u) Q E s₁) E s') :
    wpAny (model prog w) A (assign (.Tuple [.Name x px, .Name y py] n pos) env (.ref a)) Q E s := by
  refine wpAny_assign_Tuple hh (tup_is (H.has hm)) rfl rfl fun h' hx => ?_
  refine r_ord (wpAny_assign_Name (wpAny_mono (h _ (H.le (fun b o e => hx b o (Nat.ne_of_lt (Heap.lt_size e)) e) ⟨rfl, rfl, rfl⟩)) (fun _ s₁ q => r_ord (wpAny_assign_Name (wpAny_mono q (fun _ s₂ q => r_ord0 q) fun _ _ e => e))) fun _ _ e => e))
theorem r_truthy {x : Int} {t : Tok} {Q : Bool → Shared → Prop} (h : Q (x != 0) s) : wpAny (model prog w) A (truthy (.int x t)) Q E s := PyProof.Rows.truthy_int h
theorem r_isBin {l r : Expr} {op : Operator} {whole : Sem Value} {Q : Bool → Shared → Prop} (h : wpAny (model prog w) A whole (fun v s₁ => wpAny (model prog w) A (truthy v) Q E s₁) E s) : wpAny (model prog w) A (isTrue (.BinOp l op r pos) env whole) Q E s := PyProof.Rows.isTrue_plain h
end
theorem strKey (prog : Program) (w : World) (x : Str) (t : Tok) : (PySem.strKind prog w).is x (.str x t) = true := by show Value.isStrOf x (.str x t) = true; simp [Value.isStrOf]
theorem intKey (prog : Program) (w : World) (x : Int) (t : Tok) : (PySem.intKind prog w).is x (.int x t) = true := by show Value.isInt x (.int x t) = true; simp [Value.isInt]
end
--@ b16
section
set_option linter.unusedVariables false
theorem mid_bound {lo hi : Int} (h0 : 0 ≤ lo) (h : lo < hi) : lo ≤ (lo + hi).fdiv 2 ∧ (lo + hi).fdiv 2 < hi := by
  have := Int.fdiv_eq_ediv_of_nonneg (lo + hi) (b := 2) (by lia)
  lia
theorem bisR_at (xs : List Int) (x : Int) (c : Nat) (hc : ∀ j (h : j < xs.length), xs[j] ≤ x ↔ j < c) : ∀ (n : Nat) (lo hi : Int), 0 ≤ lo → lo ≤ c → (c : Int) ≤ hi → hi ≤ xs.length → hi - lo ≤ n → bisR xs x n lo hi = c
  | 0, lo, hi, h0, h1, h2, h3, h4 => by unfold bisR; lia
  | n + 1, lo, hi, h0, h1, h2, h3, h4 => by
    unfold bisR
    by_cases h : lo < hi
    · rw [if_pos h]
      obtain ⟨m1, m2⟩ := mid_bound h0 h
      have hm : ((lo + hi).fdiv 2).toNat < xs.length := by lia
      have e : xs.getD ((lo + hi).fdiv 2).toNat 0 = xs[((lo + hi).fdiv 2).toNat] := by rw [List.getD_eq_getElem?_getD, List.getElem?_eq_getElem hm]; rfl
      rw [e]
      have q := hc _ hm
      by_cases g : x < xs[((lo + hi).fdiv 2).toNat]
      · rw [if_pos g]
        exact bisR_at xs x c hc n _ _ h0 h1 (by lia) (by lia) (by lia)
      · rw [if_neg g]
        have := q.mp (by lia)
        exact bisR_at xs x c hc n _ _ (by lia) (by lia) h2 h3 (by lia)
    · rw [if_neg h]; lia
theorem bisL_at (xs : List Int) (x : Int) (c : Nat) (hc : ∀ j (h : j < xs.length), xs[j] < x ↔ j < c) : ∀ (n : Nat) (lo hi : Int), 0 ≤ lo → lo ≤ c → (c : Int) ≤ hi → hi ≤ xs.length → hi - lo ≤ n → bisL xs x n lo hi = c
  | 0, lo, hi, h0, h1, h2, h3, h4 => by unfold bisL; lia
  | n + 1, lo, hi, h0, h1, h2, h3, h4 => by
    unfold bisL
    by_cases h : lo < hi
    · rw [if_pos h]
      obtain ⟨m1, m2⟩ := mid_bound h0 h
      have hm : ((lo + hi).fdiv 2).toNat < xs.length := by lia
      have e : xs.getD ((lo + hi).fdiv 2).toNat 0 = xs[((lo + hi).fdiv 2).toNat] := by rw [List.getD_eq_getElem?_getD, List.getElem?_eq_getElem hm]; rfl
      rw [e]
      have q := hc _ hm
      by_cases g : xs[((lo + hi).fdiv 2).toNat] < x
      · rw [if_pos g]
        have := q.mp g
        exact bisL_at xs x c hc n _ _ (by lia) (by lia) h2 h3 (by lia)
      · rw [if_neg g]
        exact bisL_at xs x c hc n _ _ h0 h1 (by lia) (by lia) (by lia)
    · rw [if_neg h]; lia
theorem biR_eq {xs : List Int} {x : Int} (c : Nat) (h : c ≤ xs.length) (hc : ∀ j (h : j < xs.length), xs[j] ≤ x ↔ j < c) : biR xs x = c := bisR_at xs x c hc _ _ _ (by lia) (by lia) (by lia) (by lia) (by lia)
theorem biL_eq {xs : List Int} {x : Int} (c : Nat) (h : c ≤ xs.length) (hc : ∀ j (h : j < xs.length), xs[j] < x ↔ j < c) : biL xs x = c := bisL_at xs x c hc _ _ _ (by lia) (by lia) (by lia) (by lia) (by lia)
noncomputable abbrev Inc (xs : List Int) : Prop := xs.Pairwise (· < ·)
theorem inc_lt {xs : List Int} (h : Inc xs) {j k : Nat} (hj : j < xs.length) (hk : k < xs.length) : xs[j] < xs[k] ↔ j < k := by
  have key := List.pairwise_iff_getElem.mp h
  constructor
  · intro q
    rcases Nat.lt_trichotomy j k with r | r | r
    · exact r
    · subst r; lia
    · have := key k j hk hj r; lia
  · exact key j k hj hk
theorem inc_le {xs : List Int} (h : Inc xs) {j k : Nat} (hj : j < xs.length) (hk : k < xs.length) : xs[j] ≤ xs[k] ↔ j < k + 1 := by
  have := inc_lt h hk hj
  lia
theorem biL_here {xs : List Int} (h : Inc xs) {k : Nat} (hk : k < xs.length) : biL xs xs[k] = k := biL_eq k (Nat.le_of_lt hk) fun _ hj => inc_lt h hj hk
theorem biR_here {xs : List Int} (h : Inc xs) {k : Nat} (hk : k < xs.length) : biR xs xs[k] = (k + 1 : Nat) := biR_eq (k + 1) hk fun _ hj => inc_le h hj hk
theorem biL_end {xs : List Int} {x : Int} (h : ∀ y ∈ xs, y < x) : biL xs x = xs.length := biL_eq _ (Nat.le_refl _) fun j hj => ⟨fun _ => hj, fun _ => h _ (List.getElem_mem hj)⟩
theorem biR_end {xs : List Int} {x : Int} (h : ∀ y ∈ xs, y < x) : biR xs x = xs.length := biR_eq _ (Nat.le_refl _) fun j hj => ⟨fun _ => hj, fun _ => Int.le_of_lt (h _ (List.getElem_mem hj))⟩
theorem insL_end {xs : List Int} {x : Int} (h : ∀ y ∈ xs, y < x) : insL xs x = xs ++ [x] := by
  unfold insL
  rw [biL_end h]
  simp
theorem insR_end {xs : List Int} {x : Int} (h : ∀ y ∈ xs, y < x) : insR xs x = xs ++ [x] := by
  unfold insR
  rw [biR_end h]
  simp

/-! ### the stack of the last uses -/
noncomputable def backF (st : List Int × List Str) (x : Str) : List Int × List Str := (st.1 ++ [if x ∈ st.2 then ((st.2.idxOf x + 1 : Nat) : Int) else 0], x :: st.2.erase x)
noncomputable def backs (xs : List Str) : List Int := (xs.foldl backF ([], [])).1
/-- what _law_back has at a place -/
structure BackInv (i : Nat) (stk : List Str) (came : List (Str × PD)) (lasts : List Int) (pos : Str → Int) : Prop where
  nd : stk.Nodup
  eq : lasts = (stk.map pos).reverse
  inc : Inc lasts
  lt : ∀ y ∈ lasts, y < i
  yes : ∀ x ∈ stk, getD' came x = some (.i (pos x))
  no : ∀ x, x ∉ stk → getD' came x = none
theorem getD_setD {T : Type} [DecidableEq T] (kds : List (T × PD)) (k : T) (d : PD) (x : T) : getD' (setD' kds k d) x = if x = k then some d else getD' kds x := by
  unfold getD' setD'
  by_cases h : kds.any (fun p => p.1 = k) = true
  · rw [if_pos h]
    induction kds with
    | nil => simp at h
    | cons p r ih =>
      rw [List.map_cons, List.find?_cons, List.find?_cons]
      by_cases e : p.1 = k
      · rw [if_pos e]
        by_cases g : p.1 = x
        · simp only [g, decide_true]
          rw [if_pos (g ▸ e)]; rfl
        · simp only [g, decide_false]
          have hx : x ≠ k := fun q => g (e.trans q.symm)
          rw [if_neg hx]
          by_cases hr : r.any (fun p => p.1 = k) = true
          · rw [ih hr, if_neg hx]
          · have : r.map (fun p => if p.1 = k then (p.1, d) else p) = r := by
              conv => rhs; rw [← List.map_id r]
              apply List.map_congr_left
              intro q hq
              have : ¬ q.1 = k := fun e' => hr (List.any_eq_true.mpr ⟨q, hq, by simpa using e'⟩)
              simp [this]
            rw [this]
      · rw [if_neg e]
        have hr : r.any (fun p => p.1 = k) = true := by
          rw [List.any_cons] at h
          simpa [e] using h
        by_cases g : p.1 = x
        · simp only [g, decide_true]
          rw [if_neg (g ▸ e)]
        · simp only [g, decide_false]
          exact ih hr
  · rw [if_neg h, List.find?_append]
    by_cases g : x = k
    · subst g
      have : kds.find? (fun p => decide (p.1 = x)) = none := by
        rw [List.find?_eq_none]
        intro q hq e'
        exact h (List.any_eq_true.mpr ⟨q, hq, e'⟩)
      rw [this]
      simp
    · rw [if_neg g]
      cases kds.find? (fun p => decide (p.1 = x)) with
      | none => simp [Ne.symm g]
      | some q => rfl

theorem BackInv.old {i : Nat} {stk : List Str} {came : List (Str × PD)} {lasts : List Int} {pos : Str → Int} (I : BackInv i stk came lasts pos) {x : Str} (hx : x ∈ stk) :
    ∃ k, k < lasts.length ∧ lasts[k]? = some (pos x) ∧ lasts.length = k + (stk.idxOf x + 1) := by
  have h1 := List.idxOf_lt_length_iff.mpr hx
  have hl : lasts.length = stk.length := by rw [I.eq]; simp
  refine ⟨stk.length - (stk.idxOf x + 1), by lia, ?_, by lia⟩
  rw [I.eq, List.getElem?_reverse (by simp; lia), List.getElem?_map, List.length_map]
  have e : stk.length - 1 - (stk.length - (stk.idxOf x + 1)) = stk.idxOf x := by lia
  rw [e, List.getElem?_eq_getElem h1, List.getElem_idxOf h1]
  rfl
theorem erase_idx (stk : List Str) (x : Str) : stk.erase x = stk.eraseIdx (stk.idxOf x) := by
  induction stk with
  | nil => rfl
  | cons y r ih =>
    rw [List.erase_cons, List.idxOf_cons]
    cases h : y == x with
    | true => simp
    | false => simp [ih]
theorem BackInv.stepNew {i : Nat} {stk : List Str} {came : List (Str × PD)} {lasts : List Int} {pos : Str → Int} (I : BackInv i stk came lasts pos) {x : Str} (hx : x ∉ stk) :
    BackInv (i + 1) (x :: stk.erase x) (setD' came x (.i i)) (lasts ++ [(i : Int)]) (fun y => if y = x then (i : Int) else pos y) := by
  rw [List.erase_of_not_mem hx]
  refine ⟨List.nodup_cons.mpr ⟨hx, I.nd⟩, ?_, ?_, fun y hy => ?_, fun y hy => ?_, fun y hy => ?_⟩
  · rw [List.map_cons, List.reverse_cons, I.eq]
    simp only [if_true]
    congr 2
    apply List.map_congr_left
    intro y hy
    rw [if_neg (fun e : y = x => hx (e ▸ hy))]
  · refine List.pairwise_append.mpr ⟨I.inc, List.pairwise_singleton _ _, fun y hy z hz => ?_⟩
    rw [List.mem_singleton.mp hz]; exact I.lt y hy
  · rcases List.mem_append.mp hy with h | h
    · have := I.lt y h; lia
    · rw [List.mem_singleton.mp h]; lia
  · rw [getD_setD]
    by_cases e : y = x
    · simp [e]
    · rw [if_neg e, if_neg e]
      rcases List.mem_cons.mp hy with h | h
      · exact absurd h e
      · exact I.yes y h
  · rw [getD_setD]
    have h : y ≠ x ∧ _ := ⟨fun e => hy (e ▸ List.mem_cons_self), fun e => hy (List.mem_cons_of_mem _ e)⟩
    rw [if_neg h.1]
    exact I.no y h.2
theorem eraseIdx_rev {α : Type} (l : List α) (k j : Nat) (h : l.length = k + (j + 1)) : l.reverse.eraseIdx k = (l.eraseIdx j).reverse := by
  rw [List.eraseIdx_eq_take_drop_succ, List.eraseIdx_eq_take_drop_succ, List.reverse_append, List.take_reverse, List.drop_reverse]
  have e1 : l.length - k = j + 1 := by lia
  have e2 : l.length - (k + 1) = j := by lia
  rw [e1, e2]
theorem BackInv.stepOld {i : Nat} {stk : List Str} {came : List (Str × PD)} {lasts : List Int} {pos : Str → Int} (I : BackInv i stk came lasts pos) {x : Str} (hx : x ∈ stk) {k : Nat} (hk : lasts.length = k + (stk.idxOf x + 1)) :
    BackInv (i + 1) (x :: stk.erase x) (setD' came x (.i i)) (lasts.eraseIdx k ++ [(i : Int)]) (fun y => if y = x then (i : Int) else pos y) := by
  have hne : ∀ y ∈ stk.erase x, y ≠ x ∧ y ∈ stk := fun y hy => (List.Nodup.mem_erase_iff I.nd).mp hy
  have hsub : List.Sublist (lasts.eraseIdx k) lasts := List.eraseIdx_sublist ..
  refine ⟨List.nodup_cons.mpr ⟨fun h => (hne x h).1 rfl, I.nd.erase x⟩, ?_, ?_, fun y hy => ?_, fun y hy => ?_, fun y hy => ?_⟩
  · rw [List.map_cons, List.reverse_cons, I.eq]
    simp only [if_true]
    congr 1
    rw [eraseIdx_rev _ k (stk.idxOf x) (by rw [← hk, I.eq]; simp), erase_idx]
    congr 1
    rw [← erase_idx]
    have : (stk.map pos).eraseIdx (stk.idxOf x) = (stk.erase x).map pos := by
      rw [erase_idx, List.eraseIdx_eq_take_drop_succ, List.eraseIdx_eq_take_drop_succ, List.map_append, List.map_take, List.map_drop]
    rw [this]
    apply List.map_congr_left
    intro y hy
    rw [if_neg (hne y hy).1]
  · refine List.pairwise_append.mpr ⟨I.inc.sublist hsub, List.pairwise_singleton _ _, fun y hy z hz => ?_⟩
    rw [List.mem_singleton.mp hz]; exact I.lt y (hsub.subset hy)
  · rcases List.mem_append.mp hy with h | h
    · have := I.lt y (hsub.subset h); lia
    · rw [List.mem_singleton.mp h]; lia
  · rw [getD_setD]
    by_cases e : y = x
    · simp [e]
    · rw [if_neg e, if_neg e]
      rcases List.mem_cons.mp hy with h | h
      · exact absurd h e
      · exact I.yes y (hne y h).2
  · rw [getD_setD]
    have h : y ≠ x ∧ _ := ⟨fun e => hy (e ▸ List.mem_cons_self), fun e => hy (List.mem_cons_of_mem _ e)⟩
    rw [if_neg h.1]
    exact I.no y fun q => h.2 ((List.Nodup.mem_erase_iff I.nd).mpr ⟨h.1, q⟩)
section
variable {prog : Program} {w : World} {A : Around} {E : Value → Shared → Prop} {s : Shared} {env : Env} {pos : Pos}
theorem r_call_type {T : String} {e : Expr} {rest : List Expr} {Q : Value → Shared → Prop} (h : wpAny (model prog w) A (spliced (backTo pos (starEach (e :: rest) env))) (fun vs s₁ => wpAny (model prog w) A (call (.type T) vs) Q E s₁) E s)
    (he : starEach (e :: rest) env = (false, eval e env) :: starEach rest env) (hn : (backTo pos (starEach rest env)).any (·.1) = false) :
    wpAny (model prog w) A (callWith pos (.type T) [] (backTo pos (starEach (e :: rest) env)) []) Q E s := PyProof.Rows.callWith_type1 h he hn
end
theorem lb_bind (va : Value) : ∀ S pm c, peek [] S (bindArgs (fnOf (fnName 19) (fnName 19) (fnParams 19) (fnBody 19) (fnScope 19) .none .none .none pm none (.ref c) .none) ⟨[va], []⟩) = some (([("names", va)] : List (Str × Value))) := by
  intro S pm c; kernel_rfl
theorem lb_fn : (fnScope 19).kind = .function ∧ (fnScope 19).isCoroutine = false ∧ (fnScope 19).isGenerator = false := by decide +kernel
theorem lb_nc : ∀ x ∈ (fnScope 19).names, x.2 ≠ .cell := by decide +kernel
theorem lb_kinds : ∀ p ∈ ([("names", .local), ("came", .local), ("lasts", .local), ("told", .local), ("place", .local), ("name", .local), ("at", .local), ("enumerate", .globalImplicit), ("bisect_right", .globalImplicit), ("bisect_left", .globalImplicit), ("len", .globalImplicit), ("insort_left", .globalImplicit), ("insort_right", .globalImplicit)] : List (Str × NameKind)), (fnScope 19).names.lookup p.1 = some p.2 ∧ (p.1 == ("__debug__" : Str)) = false := by decide +kernel
theorem lb_nd : (["names", "came", "lasts", "told", "place", "name", "at"] : List Str).Nodup := by decide +kernel
theorem lb_args (va : Value) : (∀ x ∈ ([("names", va)] : List (Str × Value)), (fnScope 19).names.lookup x.1 = some .local) := by
  intro x hx
  rw [List.mem_singleton.mp hx]
  exact (lb_kinds ("names", .local) (by simp)).1
noncomputable abbrev lbV (a : Addr) (cm ls td pl nm at' : Option Value) : Vars := [("names", some (.ref a)), ("came", cm), ("lasts", ls), ("told", td), ("place", pl), ("name", nm), ("at", at')]
theorem lb_vs (a : Addr) : ((lbV a none none none none none none).map (·.1)).Nodup ∧ ∀ p ∈ lbV a none none none none none none, ([("names", .ref a)] : List (Str × Value)).reverse.lookup p.1 = p.2 := by
  refine ⟨lb_nd, fun p hp => ?_⟩
  simp only [List.mem_cons, List.not_mem_nil, or_false] at hp
  rcases hp with rfl | rfl | rfl | rfl | rfl | rfl | rfl <;> kernel_rfl
section
variable {prog : Program} {w : World} {A : Around} {E : Value → Shared → Prop} {K : Kx} {base led led' : Led} {s : Shared} {a : Addr} {x : Int} {tx : Tok} {xs : List Int} {k : Nat} {Q : Value → Shared → Prop}
theorem r_biR (T : TopF K.hT) (H : St K base led s) (R : Room (k + 1) A) (hm : Kn base led a (intsP xs)) (hs : xs.length < 2 ^ 60) (h : ∀ t s', St K base led s' → Q (.int (biR xs x) t) s') : wpAny (model prog w) A (call (.ref 32) [.ref a, .int x tx]) Q E s :=
  bisect_right_call T H R hm hs (fun hh => br_bind2 hh (.ref a) (.int x tx)) fun t s' hx => h t s' (H.ext hx)
theorem r_biL (T : TopF K.hT) (H : St K base led s) (R : Room (k + 1) A) (hm : Kn base led a (intsP xs)) (hs : xs.length < 2 ^ 60) (h : ∀ t s', St K base led s' → Q (.int (biL xs x) t) s') : wpAny (model prog w) A (call (.ref 50) [.ref a, .int x tx]) Q E s :=
  bisect_left_call T H R hm hs (fun hh => bl_bind2 hh (.ref a) (.int x tx)) fun t s' hx => h t s' (H.ext hx)
theorem cut_if {α : Type} {c : Prop} [Decidable c] {m1 m2 : Sem α} {P R : α → Shared → Prop} (h1 : c → wpAny (model prog w) A m1 P E s) (h2 : ¬ c → wpAny (model prog w) A m2 P E s) (h : ∀ a s', P a s' → R a s') :
    if c then wpAny (model prog w) A m1 R E s else wpAny (model prog w) A m2 R E s := by
  by_cases hc : c
  · rw [if_pos hc]; exact wpAny_mono (h1 hc) (fun a s' q => h a s' q) fun _ _ e => e
  · rw [if_neg hc]; exact wpAny_mono (h2 hc) (fun a s' q => h a s' q) fun _ _ e => e
end
theorem eraseIdx_mapf {α β : Type} (f : α → β) (l : List α) (k : Nat) : (l.map f).eraseIdx k = (l.eraseIdx k).map f := by
  rw [List.eraseIdx_eq_take_drop_succ, List.eraseIdx_eq_take_drop_succ, List.map_append, List.map_take, List.map_drop]
section
variable {prog : Program} {w : World} {A : Around} {E : Value → Shared → Prop} {K : Kx} {base led led' : Led} {s : Shared} {a : Addr} {Q : Value → Shared → Prop}
theorem r_popI {xs : List Int} {k : Nat} {y : Int} {u : Tok} (H : St K base led s) (h1 : xs[k]? = some y) (hz : xs.length ≤ 1000000) (hl : Upd led a (intsP xs) (intsP (xs.eraseIdx k)) led')
    (h : ∀ t s', St K base led' s' → Q (.int y t) s') : wpAny (model prog w) A (call (.builtin "list.pop") [.ref a, .int (k : Int) u]) Q E s := by
  have hk : k < xs.length := (List.getElem?_eq_some_iff.mp h1).1
  unfold intsP at hl
  rw [← eraseIdx_mapf] at hl
  refine r_pop (d := .i y) H (by lia) (by rw [List.length_map]; lia) (by rw [List.length_map]; have := sizeLine_ge; lia) (by lia) hl (by rw [Int.toNat_natCast, List.getElem?_map, h1]; rfl) fun v s' hv H' => ?_
  obtain ⟨t, rfl⟩ := hv
  exact h t s' H'
theorem r_popS {xs : List Str} {k : Nat} {y : Str} {u : Tok} (H : St K base led s) (h1 : xs[k]? = some y) (hz : xs.length ≤ 1000000) (hl : Upd led a (strsP xs) (strsP (xs.eraseIdx k)) led')
    (h : ∀ t s', St K base led' s' → Q (.str y t) s') : wpAny (model prog w) A (call (.builtin "list.pop") [.ref a, .int (k : Int) u]) Q E s := by
  have hk : k < xs.length := (List.getElem?_eq_some_iff.mp h1).1
  unfold strsP at hl
  rw [← eraseIdx_mapf] at hl
  refine r_pop (d := .s y) H (by lia) (by rw [List.length_map]; lia) (by rw [List.length_map]; have := sizeLine_ge; lia) (by lia) hl (by rw [Int.toNat_natCast, List.getElem?_map, h1]; rfl) fun v s' hv H' => ?_
  obtain ⟨t, rfl⟩ := hv
  exact h t s' H'
end
section
variable {prog : Program} {w : World} {A : Around} {E : Value → Shared → Prop} {K : Kx} {base led led' : Led} {s : Shared} {a : Addr} {x : Int} {tx : Tok} {xs : List Int} {k : Nat} {Q : Value → Shared → Prop}
theorem r_insREnd (T : TopF K.hT) (H : St K base led s) (R : Room (k + 2) A) (hs : xs.length < 2 ^ 20) (hlt : ∀ y ∈ xs, y < x) (hl : Upd led a (intsP xs) (intsP (xs ++ [x])) led') (h : ∀ s', St K base led' s' → Q .none s') : wpAny (model prog w) A (call (.ref 23) [.ref a, .int x tx]) Q E s :=
  insort_right_call T H R hs (by rw [insR_end hlt]; exact hl) h
theorem r_insLEnd (T : TopF K.hT) (H : St K base led s) (R : Room (k + 2) A) (hs : xs.length < 2 ^ 20) (hlt : ∀ y ∈ xs, y < x) (hl : Upd led a (intsP xs) (intsP (xs ++ [x])) led') (h : ∀ s', St K base led' s' → Q .none s') : wpAny (model prog w) A (call (.ref 41) [.ref a, .int x tx]) Q E s :=
  insort_left_call T H R hs (by rw [insL_end hlt]; exact hl) h
end
end
--@ b17
section
theorem back_len : ∀ (xs : List Str) (st : List Int × List Str), (xs.foldl backF st).1.length = st.1.length + xs.length ∧ (xs.foldl backF st).2.length ≤ st.2.length + xs.length
  | [], st => ⟨rfl, Nat.le_refl _⟩
  | x :: r, st => by
    have h := back_len r (backF st x)
    have h2 : (backF st x).2.length ≤ st.2.length + 1 := by
      unfold backF
      rw [List.length_cons]
      have := List.length_erase_le (l := st.2) (a := x)
      lia
    have h1 : (backF st x).1.length = st.1.length + 1 := by unfold backF; simp
    rw [List.foldl_cons, List.length_cons]
    lia
set_option maxHeartbeats 2000000 in
theorem back_call {prog : Program} {w : World} {A : Around} {E : Value → Shared → Prop} {Q : Value → Shared → Prop} {K : Kx} {base led : Led} {s : Shared} {a : Addr} {xs : List Str} {k : Nat}
    (T : TopF K.hT) (H : St K base led s) (R : Room (k + 3) A) (hm : Kn base led a (strsP xs)) (hx : xs.length ≤ 1000)
    (h : ∀ n s', Ext s s' → New s n (intsP (backs xs)) s' → Q (.ref n) s') :
    wpAny (model prog w) A (call (.ref 170) [.ref a]) Q E s := by
  refine call_fn (lbV a none none none none none none) [] [(a, strsP xs)] H R T T.f170 (frag_nil _) ⟨fun p hp => (nomatch hp), List.nodup_nil⟩ (fun p hp => ?_) (lb_bind _) ⟨lb_fn, lb_args _, lb_nc⟩ (lb_vs a) ?_
  · rw [List.mem_singleton.mp hp]; exact ⟨H.has hm, fun q => (nomatch q)⟩
  · intro K' env s₁ T' hK X hsc hcells hle hr H₁ R₁
    have D := KD.ofS hsc lb_kinds
    conv => arg 3; arg 1; whnf
    repeat' walk_at "go"
    with_reducible refine' r_swap3 "came" "lasts" "told" R₁.hd ?_ (sole_of hsc (by kernel_rfl)) (swapped_of hsc (by kernel_rfl))
    with_reducible refine' r_arg ?_ ?he
    case he => rfl
    with_reducible refine' r_dict0 (PySem.strKind prog w) ?H ?_
    case H => assumption
    intro cm s2 H2
    repeat' walk_at "go"
    rename_i ls0 s3 H3 td0 s4 H4 s5 H5 s6 H6 s7 H7 s8 H8 e0 it0 s9 H9
    with_reducible refine' r_for (Src.enum a it0 (xs.map PD.s) _ _ _) (fun i led => ∃ cm ls td pl nm at' came lasts pos, BackInv i ((xs.take i).foldl backF ([], [])).2 came lasts pos ∧ came.length ≤ i ∧
      led = [(td, intsP ((xs.take i).foldl backF ([], [])).1), (ls, intsP lasts), (cm, dpdP (PySem.strKind prog w) came), (s.heap.objs.size, nsP (lbV a (some (.ref cm)) (some (.ref ls)) (some (.ref td)) pl nm at'))]) R₁.hd H9 ⟨cm, ls0, td0, none, none, none, [], [], fun _ => 0, ?inv, Nat.le_refl _, rfl⟩ (fun _ _ _ => Kn.old List.mem_cons_self) ?_ ?_
    case inv => exact ⟨List.nodup_nil, rfl, List.Pairwise.nil, fun y hy => (nomatch hy), fun y hy => (nomatch hy), fun _ _ => rfl⟩
    · intro E' i v ex led s' hi jJ jV H'
      with_reducible refine' g_fora ?_
      intro Qf oF
      refine el9 jJ fun cm ls td pl nm at' came lasts pos hE => ?_
      clear jJ
      obtain ⟨I, hcl, rfl⟩ := hE
      obtain ⟨T, tp, vx, d, rfl, rfl, hd, hv⟩ := jV
      obtain ⟨x, hx', rfl⟩ := map_get hd
      obtain ⟨tx, rfl⟩ := hv
      simp only [List.nil_append, List.cons_append] at H'
      have hi' : i < xs.length := by rw [List.length_map] at hi; exact hi
      have hst := foldl_take backF ([], []) xs i x hx'
      have hl1 := back_len (xs.take i) ([], [])
      rw [hst] at oF
      generalize (xs.take i).foldl backF ([], []) = st at H' hl1 I oF
      simp only [List.length_nil, List.length_take] at hl1
      have hll : lasts.length = st.2.length := by rw [I.eq]; simp
      repeat' walk_at "go"
      by_cases hmem : x ∈ st.2
      · have hget := I.yes x hmem
        rw [hget]
        obtain ⟨kk, hk1, hk2, hk3⟩ := I.old hmem
        with_reducible refine' wif_t rfl ?_
        repeat' walk_at "go"
        have hkk : lasts[kk]? = some (pos x) := hk2
        rw [List.getElem?_eq_getElem hk1] at hk2
        have hkx : lasts[kk] = pos x := Option.some.inj hk2
        have e1 : biR lasts (pos x) - 1 = kk := by rw [← hkx, biR_here I.inc hk1]; lia
        have e2 : biL lasts (pos x) = kk := by rw [← hkx, biL_here I.inc hk1]
        with_reducible refine' cut_if (P := fun v s' => (∃ t, v = .int kk t) ∧ St K' [(a, strsP xs)] _ s') (fun _ => ?c1) (fun _ => ?c2) ?_
        case c1 =>
          repeat' walk_at "go"
          rw [e1]
          exact ⟨⟨_, rfl⟩, by assumption⟩
        case c2 =>
          repeat' walk_at "go"
          rw [e2]
          exact ⟨⟨_, rfl⟩, by assumption⟩
        rintro _ s2 ⟨⟨t2, rfl⟩, H2⟩
        repeat' walk_at "go"
        with_reducible refine' r_popI (y := pos x) ?H ?h1 ?hz ?hl ?_
        case H => assumption
        case h1 => assumption
        case hz => lia
        case hl => walk_at "upd"; done
        intro t3 s3 H3
        have hle2 := List.length_eraseIdx_le lasts kk
        repeat' walk_at "go"
        have hlt : ∀ y ∈ lasts.eraseIdx kk, y < (i : Int) := fun y hy => I.lt y ((List.eraseIdx_sublist ..).subset hy)
        with_reducible refine' cut_if (P := fun f s' => f = Flow.next ∧ St K' [(a, strsP xs)] _ s') (fun _ => ?c1) (fun _ => ?c2) ?_
        case c1 =>
          repeat' walk_at "go"
          exact ⟨rfl, by assumption⟩
        case c2 =>
          repeat' walk_at "go"
          exact ⟨rfl, by assumption⟩
        rintro _ s3 ⟨rfl, H3⟩
        repeat' walk_at "go"
        rename_i s4 H4 s5 H5
        have q : List.map PD.i st.fst ++ [PD.i (((List.map PD.i lasts).length : Int) - (kk : Int))] = (backF st x).1.map PD.i := by
          have e : (((List.map PD.i lasts).length : Int) - (kk : Int)) = ((st.2.idxOf x + 1 : Nat) : Int) := by rw [List.length_map]; lia
          rw [e]
          unfold backF
          rw [if_pos hmem]
          simp
        rw [q] at H5
        refine ⟨_, ex9 cm ls td (some (.int i tp)) (some (.str x tx)) (some (.int kk t2)) _ _ _ ⟨I.stepOld hmem hk3, by have := setD_len came x (.i i); lia, rfl⟩, ?_⟩
        simp only [List.cons_append, List.nil_append]
        exact H5.pick (by walk_at "pick")
      · rw [I.no x hmem]
        with_reducible refine' wif_f (by simp) ?_
        repeat' walk_at "go"
        have hlt : ∀ y ∈ lasts, y < (i : Int) := I.lt
        with_reducible refine' cut_if (P := fun f s' => f = Flow.next ∧ St K' [(a, strsP xs)] _ s') (fun _ => ?c1) (fun _ => ?c2) ?_
        case c1 =>
          repeat' walk_at "go"
          exact ⟨rfl, by assumption⟩
        case c2 =>
          repeat' walk_at "go"
          exact ⟨rfl, by assumption⟩
        rintro _ s3 ⟨rfl, H3⟩
        repeat' walk_at "go"
        rename_i s4 H4 s5 H5
        have q : List.map PD.i st.fst ++ [PD.i 0] = (backF st x).1.map PD.i := by
          unfold backF
          rw [if_neg hmem]
          simp
        rw [q] at H5
        refine ⟨_, ex9 cm ls td (some (.int i tp)) (some (.str x tx)) at' _ _ _ ⟨I.stepNew hmem, by have := setD_len came x (.i i); lia, rfl⟩, ?_⟩
        simp only [List.cons_append, List.nil_append]
        exact H5.pick (by walk_at "pick")
    · intro led' s' jJ H'
      refine el9 jJ fun cm ls td pl nm at' came lasts pos hE => ?_
      clear jJ
      obtain ⟨I, hcl, rfl⟩ := hE
      repeat' walk_at "go"
      rw [List.length_map, List.take_length] at H'
      exact h td s' (H'.out hK (.tail _ (.tail _ (.tail _ (.head _))))) (H'.give hK (.head _))
end
--@ b18
section
theorem keys_miss : typeLookup (.type "list") "keys" = pure none := by rw [typeLookup_type, builtinLookup_eq_fast]; kernel_rfl
theorem getAttrQ_miss_list {prog : Program} {w : World} {A : Around} {E : Value → Shared → Prop} {s : Shared} {a : Addr} {xs : Array Value} {k : Nat} {name : Str} {Q : Option Value → Shared → Prop}
    (hx : s.heap.get? a = some { cls := .type "list", dict := none, data := .seq xs k, slots := #[] }) (hmiss : typeLookup (.type "list") name = pure none) (hname : (["__module__", "__name__", "__qualname__", "__doc__", "__annotations__"] : List Str).contains name = false) (hA : A.handled = none)
    (h : ∀ h' tk, Le s.heap h' → Q none { s with heap := h', toks := tk }) (hsz : name.length + 100 ≤ sizeLine) :
    wpAny (model prog w) A (getAttr? (.ref a) name) Q E s := by
  obtain ⟨hp, g, d, tk, os⟩ := s
  have hT : ∀ tk', (⟨hp, g, d, tk', os⟩ : Shared).TypeIs (.ref a) "list" := fun _ => ⟨_, hx, rfl⟩
  have f1 := sub_AttributeError
  have f3 := F.slot_list_getattribute.lookup
  have f4 := F.slot_list_getattribute.bind (.ref a)
  have f5 := am_list_getattr_none
  unfold getAttr? getAttrBy? getAttrBy
  repeat (any_goals (first | assumption | exact hT _ | ((with_reducible show wpAny _ _ (call (Value.builtin "list.__getattribute__") _ _) _ _ _); refine call_meets F.slot_list_getattribute (hT _) am_entry_list_getattribute (F.args_list_getattribute_2 _ _) (meets_getattribute_miss_list a xs k #[] name _ hmiss hname hsz) ⟨hx, hA, fun h' tk' e hx' => ?_⟩) | wp_step))
  obtain ⟨t', u', he⟩ := hx'.there
  show wpAny _ _ (getattributeRaised _ _ _ _ _ _ _) _ _ _
  unfold getattributeRaised
  repeat (any_goals (first | assumption | wp_step))
  exact h h' tk' hx'.keeps
end
--@ b19
section

theorem plain_dul : plainId "dict.update.loop" = true := by decide +kernel
theorem entry_dul : entryFor table "dict.update.loop" = some Builtin.«dict.update.loop» := entryFor_of_fast (by kernel_rfl)
section
variable {prog : Program} {w : World} {A : Around} {E : Value → Shared → Prop} {K : Kx} {base led led' : Led} {s : Shared} {a d it : Addr} {T : Type} [DecidableEq T] {knd : PySem.KeyKind prog w T} {refs : List Value} {pairs : List (T × Value)}
/-- the pairs of a list of tuples -/
noncomputable def PairAt (base led : Led) (knd : PySem.KeyKind prog w T) (r : Value) (p : T × Value) : Prop := ∃ t key, r = .ref t ∧ Kn base led t (tupP [key, p.2]) ∧ knd.is p.1 key = true
theorem dul_code {R : Result → Shared → Prop} (hh : A.handled = none) (hm : Kn base led a (lstP refs)) (hp : All2 (PairAt base led knd) refs pairs) (hz : pairs.length ≤ 1000000)
    (h : ∀ s', St K base ((d, dicP knd (merged [] pairs)) :: led) s' → R (.ok (.ret .none)) s') : ∀ (m i : Nat), pairs.length = i + m → ∀ s, St K base ((it, liP a i) :: (d, dicP knd (merged [] (pairs.take i))) :: led) s →
      codeAny (model prog w) A (.builtin "dict.update.loop" ⟨[.ref d, .ref it, rawInt i, .none], []⟩) R s
  | 0, i, hi, s, H => by
    refine codeAny_builtin entry_dul ?_
    rw [Around.under_plainId plain_dul _]
    unfold Builtin.«dict.update.loop»
    show wpAny _ _ (pyNext (.ref it) >>= _) _ _ _
    have hx := H.has hm.more.more
    refine wpAny_bind (wpAny_pyNext_list_end (i := i) hh (li_is (H.here _ (.head _))) (lst_is hx) (by simp [hp.len]; lia) fun h' hx' => ?_)
    have H' := H.lose (t := s.toks) .here hx'
    have e : pairs.take i = pairs := List.take_of_length_le (by lia)
    rw [e] at H'
    show wpAny _ _ (Builtin.Dict.addKeywords d [] >>= _) _ _ _
    exact wpAny_bind (wpAny_pure (wpAny_pure (h _ H')))
  | m + 1, i, hi, s, H => by
    refine codeAny_builtin entry_dul ?_
    rw [Around.under_plainId plain_dul _]
    unfold Builtin.«dict.update.loop»
    show wpAny _ _ (pyNext (.ref it) >>= _) _ _ _
    have hx := H.has hm.more.more
    have hil : i < refs.length := by rw [hp.len]; lia
    have hil' : i < pairs.length := by lia
    obtain ⟨p, hpe, t, key, hr, hk, hkey⟩ := hp.get (List.getElem?_eq_getElem hil)
    refine wpAny_bind (wpAny_pyNext_list_item (i := i) (li_is (H.here _ (.head _))) (lst_is hx) (x := .ref t) (by simp [hil]; exact hr) fun h' hit hs => ?_)
    have H' := H.change (s' := { s with heap := h' }) (P' := liP a (i + 1)) .here (LeBut.of_same hs) ⟨rfl, rfl, rfl⟩ (is_li hit)
    have ht := tup_is (H'.has hk.more.more)
    have hT : Shared.TypeIs { s with heap := h' } (.ref t) "tuple" := ht.typeIs
    obtain ⟨ot, hot, hoc, nt, hod⟩ := id ht
    refine wpAny_bind (wpAny_holding ?_)
    refine wpAny_bind (wpAny_tryCatch ?_)
    unfold Builtin.Dict.pairItems
    refine wpAny_bind (wpAny_typeOf hT ?_)
    rw [if_pos (by decide)]
    refine wpAny_bind (wpAny_seqItems hot hod (wpAny_pure ?_))
    show wpAny _ _ (holding [key, p.2] (dictSet d key p.2)) _ _ _
    refine wpAny_holding ?_
    have hd := dic_is (H'.here (d, dicP knd (merged [] (pairs.take i))) (.tail _ (.head _)))
    have hml := merged_length_le [] (pairs.take i)
    simp only [List.length_nil, List.length_take] at hml
    refine wpAny_dictSet_pairs hkey hd (fun h2 hd2 hs2 => ?_) (by have := sizeLine_ge; lia)
    have H2 := H'.change (s' := { s with heap := h2, toks := s.toks + 1 }) (P' := dicP knd (merged [] (pairs.take (i + 1)))) (.next .here) (LeBut.of_same hs2) ⟨rfl, rfl, rfl⟩ (by
      rw [merged_take_succ [] pairs i p hpe]
      exact is_dic hd2)
    have hc : ((i : Int) + 1) = ((i + 1 : Nat) : Int) := by push_cast; rfl
    show wpAny _ _ (again (.builtin "dict.update.loop" ⟨[.ref d, .ref it, rawInt ((i : Int) + 1), .none], []⟩)) _ _ _
    rw [hc]
    exact wpAny_pure ⟨plainId_quiet plain_dul _, dul_code hh hm hp hz h m (i + 1) (by lia) _ H2⟩

theorem r_dictOf {Q : Value → Shared → Prop} (hh : A.handled = none) (H : St K base led s) (hm : Kn base led a (lstP refs)) (hp : All2 (PairAt base led knd) refs pairs) (hz : pairs.length ≤ 1000000)
    (h : ∀ n s', St K base ((n, dicP knd (merged [] pairs)) :: led) s' → Q (.ref n) s') : wpAny (model prog w) A (call (.type "dict") [.ref a]) Q E s := by
  refine callType_codes (Q₁ := fun obj s₁ => obj = .ref s.heap.objs.size ∧ s₁ = { s with heap := s.heap.push { cls := .type "dict", data := .dict #[] } }) F.kt_called_dict (F.kt_typeCall_dict_1 _) F.entry_dict_init (kt_code_dict_new _ ⟨rfl, rfl⟩) ?_
  rintro obj s₁ ⟨rfl, rfl⟩
  have hnew : (s.heap.push { cls := .type "dict", data := .dict #[] }).DictOf knd s.heap.objs.size [] := Heap.DictOf.new s.heap
  have H1 : St K base ((s.heap.objs.size, dicP knd []) :: led) { s with heap := s.heap.push { cls := .type "dict", data := .dict #[] } } := H.add (s' := { s with heap := s.heap.push { cls := .type "dict", data := .dict #[] } }) (Le.push _ _) ⟨rfl, rfl, rfl⟩ (get_size _) (.inl H.sz) (is_dic hnew)
  have key4 : ("keys" : Str).length + 100 ≤ sizeLine := by
    have h1 := sizeLine_ge
    have h2 : ("keys" : Str).length = 4 := by decide
    lia
  refine ⟨hnew.typeIs, F.args_dict_init_2 _ _, ?_⟩
  obtain ⟨o, ho, n, rfl⟩ := H1.has hm.more
  have hl : Shared.TypeIs { s with heap := s.heap.push { cls := .type "dict", data := .dict #[] } } (.ref a) "list" := ⟨_, ho, rfl⟩
  unfold Builtin.«dict.__init__»
  refine wpAny_bind ?_
  unfold Builtin.Dict.selfAndRest
  refine wpAny_bind (wpAny_notOrdered_dict hnew.typeIs ?_)
  show wpAny _ _ (pure (s.heap.objs.size, [Value.ref a])) _ _ _
  refine wpAny_pure ?_
  show wpAny _ _ (Builtin.Dict.updateFrom "dict.__init__" s.heap.objs.size (.ref a) [] .none) _ _ _
  unfold Builtin.Dict.updateFrom
  refine wpAny_bind (wpAny_typeOf hl ?_)
  rw [if_pos (by decide)]
  refine wpAny_bind (getAttrQ_miss_list ho keys_miss (by decide) hh (fun h' tk hle => ?_) key4)
  have H2 := H1.le (s' := { s with heap := h', toks := tk }) hle ⟨rfl, rfl, rfl⟩
  rw [if_pos (show (none : Option Value).isNone = true from rfl)]
  refine wpAny_bind (wpAny_rule ?_)
  refine wpAny_bind (wpAny_pyIter_list (lst_is (H2.has hm.more)) ?_)
  have H3 := H2.push (P := liP a 0) (s' := { s with heap := h'.push { cls := .type "list_iterator", data := .fields #[.ref a, .int 0 0] }, toks := tk }) _ ⟨rfl, rfl⟩ rfl rfl ⟨rfl, rfl, rfl⟩
  exact wpAny_pure ⟨plainId_quiet plain_dul _, dul_code (A := A.in1) (pairs := pairs) (knd := knd) hh hm hp hz (fun s' H' => ⟨rfl, h _ _ H'⟩) pairs.length 0 (by lia) _ H3⟩
end
end
--@ b20
section
section
variable {prog : Program} {w : World} {A : Around} {E : Value → Shared → Prop} {K : Kx} {base led led' : Led} {s : Shared} {env : Env} {L a b : Addr} {ds es : List PD} {vs : List Value} {v : Value} {d : PD} {pos : Pos} {x y : Int} {t u : Tok} {Q : Value → Shared → Prop}
theorem r_mul (H : St K base led s) (hm : IntMulOk x y) (h : ∀ t s', St K base led s' → Q (.int (x * y) t) s') : wpAny (model prog w) A (binaryOp .Mult (.int x t) (.int y u)) Q E s := PyProof.Rows.mul_int (h _ _ (H.same rfl ⟨rfl, rfl, rfl⟩)) hm
theorem r_pow (H : St K base led s) (h0 : 0 ≤ y) (h1 : y ≤ 1000000) (hx : x.natAbs < 2 ^ 64) (h : ∀ t s', St K base led s' → Q (.int (x ^ y.toNat) t) s') : wpAny (model prog w) A (binaryOp .Pow (.int x t) (.int y u)) Q E s := PyProof.Rows.pow_int_small h0 h1 hx (h _ _ (H.same rfl ⟨rfl, rfl, rfl⟩))
theorem r_and (H : St K base led s) (h : ∀ t s', St K base led s' → Q (.int (Builtin.bitAnd x y) t) s') : wpAny (model prog w) A (binaryOp .BitAnd (.int x t) (.int y u)) Q E s := PyProof.Rows.and_int (h _ _ (H.same rfl ⟨rfl, rfl, rfl⟩))
theorem r_ior (H : St K base led s) (h : ∀ t s', St K base led s' → Q (.int (Builtin.bitOr x y) t) s') : wpAny (model prog w) A (inplaceOp .BitOr (.int x t) (.int y u)) Q E s := PyProof.Rows.ior_int (h _ _ (H.same rfl ⟨rfl, rfl, rfl⟩))
theorem r_ilsh (H : St K base led s) (h0 : 0 ≤ y) (h1 : y ≤ 1000000) (hx : x.natAbs < 2 ^ 64) (h : ∀ t s', St K base led s' → Q (.int (x * 2 ^ y.toNat) t) s') : wpAny (model prog w) A (inplaceOp .LShift (.int x t) (.int y u)) Q E s := PyProof.Rows.ilshift_int_small h0 h1 hx (h _ _ (H.same rfl ⟨rfl, rfl, rfl⟩))
theorem r_neg (H : St K base led s) (h : ∀ t s', St K base led s' → Q (.int (-x) t) s') : wpAny (model prog w) A (unaryOp .USub (.int x t)) Q E s := PyProof.Rows.neg_int (h _ _ (H.same rfl ⟨rfl, rfl, rfl⟩))
theorem repl_fold (n : Nat) (y : Value) : List.foldl (fun x1 x2 => x1 ++ x2) (#[] : Array Value) (List.replicate n #[y]) = (List.replicate n y).toArray := by
  have key : ∀ (n : Nat) (acc : Array Value), List.foldl (fun x1 x2 => x1 ++ x2) acc (List.replicate n #[y]) = acc ++ (List.replicate n y).toArray := by
    intro n
    induction n with
    | zero => intro acc; simp
    | succ n ih =>
      intro acc
      rw [List.replicate_succ, List.foldl_cons, ih, List.replicate_succ]
      apply Array.toList_inj.mp
      simp
  rw [key]; simp
theorem r_mulL (H : St K base led s) (hm : Kn base led a (datP [d])) (h0 : 0 ≤ x) (h1 : x ≤ 1000000) (h : ∀ n s', St K base ((n, datP (List.replicate x.toNat d)) :: led) s' → Q (.ref n) s') : wpAny (model prog w) A (binaryOp .Mult (.ref a) (.int x u)) Q E s := by
  obtain ⟨vs, hv, o, e, n, rfl⟩ := dat_open (H.has hm)
  obtain ⟨y, k', rfl, hy, hn⟩ := hv.cons_inv
  obtain rfl := hn.nil_inv
  have hz := sizeLine_ge
  refine wpAny_binaryOp_repeat_ref (T := "list") (U := "int") (by decide) ⟨_, e, rfl⟩ (fun s' => typeIs_int s' x u) noFill_list_mul F.fills_int_mul F.slot_int_rmul repeat_list F.slot_int_index.lookup
    (call_meets F.slot_int_rmul (typeIs_int s x u) F.entry_int_rmul (F.args_int_rmul_2 _ _) (int___rmul___int_list x u a _ n)
      ⟨e, rfl, ⟨_, e, rfl⟩, call_meets F.slot_list_mul ⟨_, e, rfl⟩ F.entry_list_mul (F.args_list_mul_2 _ _)
        (AutoListH.list___mul___list_int_3 a _ n x u (by simp [Builtin.List.listFitsIndex]; lia) (by simp only [List.size_toArray, List.length_cons, List.length_nil]; lia) (by simp only [Builtin.List.listTooLong, List.size_toArray, List.length_cons, List.length_nil, decide_eq_true_eq]; lia))
        ⟨e, ?_⟩⟩)
  refine h _ _ (H.push _ ⟨List.replicate x.toNat y, ?_, 0, ?_⟩ rfl rfl ⟨rfl, rfl, rfl⟩)
  · induction x.toNat with
    | zero => exact .nil
    | succ n ih => exact .cons hy ih
  · show ({ cls := .type "list", data := .seq (List.foldl (fun x1 x2 => x1 ++ x2) #[] (List.replicate x.toNat #[y])) } : Obj) = _
    rw [repl_fold]
    rfl
theorem r_unary {op : UnaryOp} {e : Expr} (h : wpAny (model prog w) A (eval e env) (fun v s₁ => wpAny (model prog w) A (unaryOp op v) Q E s₁) E s) : wpAny (model prog w) A (eval (.UnaryOp op e pos) env) Q E s := wpAny_UnaryOp h
theorem r_isOr {e : Expr} {rest : List Expr} {whole : Sem Value} {Q : Bool → Shared → Prop} (h : wpAny (model prog w) A (isTrue e env (eval e env)) (fun c s' => if c = true then Q true s' else wpAny (model prog w) A (isTrue (.BoolOp .Or rest pos) env whole) Q E s') E s) :
    wpAny (model prog w) A (isTrue (.BoolOp .Or (e :: rest) pos) env whole) Q E s := PyProof.Rows.isTrue_or h
theorem r_isOr0 {whole : Sem Value} {Q : Bool → Shared → Prop} (h : Q false s) : wpAny (model prog w) A (isTrue (.BoolOp .Or [] pos) env whole) Q E s := PyProof.Rows.isTrue_or_nil h
theorem r_isName {x : Str} {whole : Sem Value} {Q : Bool → Shared → Prop} (h : wpAny (model prog w) A whole (fun v s₁ => wpAny (model prog w) A (truthy v) Q E s₁) E s) : wpAny (model prog w) A (isTrue (.Name x pos) env whole) Q E s := PyProof.Rows.isTrue_plain h
theorem r_isSub {e i : Expr} {whole : Sem Value} {Q : Bool → Shared → Prop} (h : wpAny (model prog w) A whole (fun v s₁ => wpAny (model prog w) A (truthy v) Q E s₁) E s) : wpAny (model prog w) A (isTrue (.Subscript e i pos) env whole) Q E s := PyProof.Rows.isTrue_plain h
theorem mul_okR {x y : Int} (h : y.natAbs < 2 ^ 64) : IntMulOk x y := IntMulOk.of_right (intBits_le_64 (by lia) (by lia))
theorem mul_okL {x y : Int} (h : x.natAbs < 2 ^ 64) : IntMulOk x y := IntMulOk.of_left (intBits_le_64 (by lia) (by lia))
end
theorem lo_bind (va vr : Value) : ∀ S pm c, peek [] S (bindArgs (fnOf (fnName 23) (fnName 23) (fnParams 23) (fnBody 23) (fnScope 23) .none .none .none pm none (.ref c) .none) ⟨[va, vr], []⟩) = some (([("number", va), ("cell", vr)] : List (Str × Value))) := by
  intro S pm c; kernel_rfl
theorem lo_fn : (fnScope 23).kind = .function ∧ (fnScope 23).isCoroutine = false ∧ (fnScope 23).isGenerator = false := by decide +kernel
theorem lo_cells (L : Nat) : cellsFrom (L + 1) (fnScope 23).names [] = ([("cell", L + 1 + 1), ("number", L + 1)] : List (Str × Addr)) := by kernel_rfl
theorem lo_kinds : ∀ p ∈ ([("number", .cell), ("cell", .cell), ("octets", .local), ("range", .globalImplicit)] : List (Str × NameKind)), (fnScope 23).names.lookup p.1 = some p.2 ∧ (p.1 == ("__debug__" : Str)) = false := by decide +kernel
theorem lo_nd : (["octets"] : List Str).Nodup := by decide +kernel
end
--@ b21
section
/-- one digit -/
noncomputable def digit (num : Nat) (i : Nat) : Option PD := if i = 3 ∨ 64 ^ (3 - i) ≤ num then some (.i ((num / 64 ^ (3 - i) % 64 + if i = 3 then 0 else 64 : Nat) : Int)) else none
noncomputable def octs (num cell : Nat) : List PD := (List.replicate (cell % 3) (PD.i 64) ++ (List.range 4).filterMap (digit num)).filterMap fun d => match d with | .i y => some (.i (y + 128 * ((cell / 3 % 2 : Nat) : Int))) | _ => none
theorem fdivN (a b : Nat) : Int.fdiv (a : Int) (b : Int) = ((a / b : Nat) : Int) := by
  rw [Int.fdiv_eq_ediv_of_nonneg _ (by lia)]
  simp
theorem fmodN (a b : Nat) : Int.fmod (a : Int) (b : Int) = ((a % b : Nat) : Int) := by
  rw [Int.fmod_eq_emod_of_nonneg _ (by lia)]
  simp
theorem fmod64 (a : Nat) : Int.fmod (a : Int) 64 = ((a % 64 : Nat) : Int) := fmodN a 64
set_option maxHeartbeats 2000000 in
theorem octets_call {prog : Program} {w : World} {A : Around} {E : Value → Shared → Prop} {Q : Value → Shared → Prop} {K : Kx} {base led : Led} {s : Shared} {num cell : Nat} {t u : Tok} {k : Nat}
    (T : TopF K.hT) (H : St K base led s) (R : Room (k + 1) A)
    (h : ∀ n s', Ext s s' → New s n (datP (octs num cell)) s' → Q (.ref n) s') :
    wpAny (model prog w) A (call (.ref 190) [.int num t, .int cell u]) Q E s := by
  refine call_fnC [("octets", none)] (fun L => [("cell", L + 1 + 1), ("number", L + 1)]) (fun L => [(L + 1 + 1, some (.int cell u)), (L + 1, some (.int num t))]) [] [] H R T T.f190 (frag_nil _) ⟨fun p hp => (nomatch hp), List.nodup_nil⟩ (fun p hp => (nomatch hp)) (lo_bind _ _) lo_fn lo_cells
    (fun L => by kernel_rfl) (fun L => by kernel_rfl) (fun L => by kernel_rfl) ⟨lo_nd, by kernel_rfl⟩ ?_
  intro K' env s₁ T' hK X hsc hcells hle hr H₁ R₁
  have D := KD.ofS hsc lo_kinds
  have C : CK env [("cell", s.heap.objs.size + 1 + 1), ("number", s.heap.objs.size + 1)] := CK.of hcells rfl
  simp only [List.map_cons, List.map_nil, List.cons_append, List.nil_append] at H₁
  conv => arg 3; arg 1; whnf
  have e3 : Int.fmod (cell : Int) 3 = ((cell % 3 : Nat) : Int) := fmodN cell 3
  have e3' : cell % 3 < 3 := Nat.mod_lt _ (by decide)
  repeat' walk_at "go"
  with_reducible refine' r_comp1 (cl := [("number", s.heap.objs.size + 1)]) K' [] R₁.hd X (closure_of hcells (by kernel_rfl)) ?hsc ?_ ?hs
  case hsc => exact ⟨rfl, by decide +kernel, by decide +kernel, rfl, rfl⟩
  case hs => intro _; rfl
  repeat' walk_at "go"
  with_reducible refine' r_iterR 4 ?H ?hm ?hn ?hs ?_
  case H => assumption
  case hm => walk_at "kn"
  case hn => decide
  case hs => decide
  intro it s5 H5
  with_reducible refine' comp_range (digit num) ?H ?hz ?turn ?_
  case H => assumption
  case hz => exact small_line rfl
  case turn =>
    intro i ti hi C' acc cenv E'' us P s'' X' hsc' hcl' H''
    have D' : KD cenv [("k", .local), ("number", .cell)] := KD.ofS (hsc'.trans (relabel_of hsc)) (by decide +kernel)
    have C'' : CK cenv [("number", s.heap.objs.size + 1)] := CK.of hcl' rfl
    have hi4 : i = 0 ∨ i = 1 ∨ i = 2 ∨ i = 3 := by lia
    rcases hi4 with rfl | rfl | rfl | rfl
    · have ek : (3 + ((0 : Nat) : Int) * -1) = 3 := by decide
      have ep : (64 : Int) ^ Int.toNat 3 = ((64 ^ 3 : Nat) : Int) := by decide
      rw [ek] at H''
      repeat' walk_at "go"
      with_reducible refine' wif (fun hc => ?_) (fun hc => ?_)
      · repeat' walk_at "go"
        rw [ep] at hc
        have hc' : 64 ^ 3 ≤ num := Int.ofNat_le.mp hc
        refine ⟨_, if_pos (Or.inr hc'), ⟨_, congrArg (fun z => Value.int z _) ?_⟩, by assumption⟩
        rw [ep, fdivN, fmod64]
        rfl
      · repeat' walk_at "go"
        rw [ep] at hc
        have hc' : ¬ 64 ^ 3 ≤ num := fun q => hc (Int.ofNat_le.mpr q)
        exact ⟨if_neg (by rintro (q | q); exact absurd q (by decide); exact hc' q), by assumption⟩
    · have ek : (3 + ((1 : Nat) : Int) * -1) = 2 := by decide
      have ep : (64 : Int) ^ Int.toNat 2 = ((64 ^ 2 : Nat) : Int) := by decide
      rw [ek] at H''
      repeat' walk_at "go"
      with_reducible refine' wif (fun hc => ?_) (fun hc => ?_)
      · repeat' walk_at "go"
        rw [ep] at hc
        have hc' : 64 ^ 2 ≤ num := Int.ofNat_le.mp hc
        refine ⟨_, if_pos (Or.inr hc'), ⟨_, congrArg (fun z => Value.int z _) ?_⟩, by assumption⟩
        rw [ep, fdivN, fmod64]
        rfl
      · repeat' walk_at "go"
        rw [ep] at hc
        have hc' : ¬ 64 ^ 2 ≤ num := fun q => hc (Int.ofNat_le.mpr q)
        exact ⟨if_neg (by rintro (q | q); exact absurd q (by decide); exact hc' q), by assumption⟩
    · have ek : (3 + ((2 : Nat) : Int) * -1) = 1 := by decide
      have ep : (64 : Int) ^ Int.toNat 1 = ((64 ^ 1 : Nat) : Int) := by decide
      rw [ek] at H''
      repeat' walk_at "go"
      with_reducible refine' wif (fun hc => ?_) (fun hc => ?_)
      · repeat' walk_at "go"
        rw [ep] at hc
        have hc' : 64 ^ 1 ≤ num := Int.ofNat_le.mp hc
        refine ⟨_, if_pos (Or.inr hc'), ⟨_, congrArg (fun z => Value.int z _) ?_⟩, by assumption⟩
        rw [ep, fdivN, fmod64]
        rfl
      · repeat' walk_at "go"
        rw [ep] at hc
        have hc' : ¬ 64 ^ 1 ≤ num := fun q => hc (Int.ofNat_le.mpr q)
        exact ⟨if_neg (by rintro (q | q); exact absurd q (by decide); exact hc' q), by assumption⟩
    · have ek : (3 + ((3 : Nat) : Int) * -1) = 0 := by decide
      have ep : (64 : Int) ^ Int.toNat 0 = ((64 ^ 0 : Nat) : Int) := by decide
      rw [ek] at H''
      repeat' walk_at "go"
      refine ⟨_, if_pos (Or.inl rfl), ⟨_, congrArg (fun z => Value.int z _) ?_⟩, by assumption⟩
      rw [ep, fdivN, fmod64]
      rfl
  intro n6 s6 H6
  have e4 : Int.toNat (Int.fmod (cell : Int) 3) = cell % 3 := by rw [e3]; rfl
  rw [e4] at H6
  have hz6 : ((List.range 4).filterMap (digit num)).length ≤ 4 := List.length_filterMap_le ..
  repeat' walk_at "go"
  with_reducible refine' r_comp1 (cl := [("cell", s.heap.objs.size + 1 + 1)]) K' [] R₁.hd X (closure_of hcells (by kernel_rfl)) ?hsc ?_ ?hs
  case hsc => exact ⟨rfl, by decide +kernel, by decide +kernel, rfl, rfl⟩
  case hs => intro _; rfl
  repeat' walk_at "go"
  with_reducible refine' comp_list (fun d => match d with | .i y => some (.i (y + 128 * ((cell / 3 % 2 : Nat) : Int))) | _ => none) ?H ?hm ?hz ?turn ?_
  case H => assumption
  case hm => walk_at "kn"
  case hz => walk_at "size"
  case turn =>
    intro d v hd hv C' acc cenv E'' us P s'' X' hsc' hcl' H''
    have hint : ∃ y, d = .i y := by
      rcases List.mem_append.mp hd with q | q
      · exact ⟨64, (List.mem_replicate.mp q).2⟩
      · obtain ⟨i, _, e⟩ := List.mem_filterMap.mp q
        unfold digit at e
        split at e
        · cases e; exact ⟨_, rfl⟩
        · cases e
    obtain ⟨y, rfl⟩ := hint
    obtain ⟨ty, rfl⟩ := hv
    have D' : KD cenv [("octet", .local), ("cell", .cell)] := KD.ofS (hsc'.trans (relabel_of hsc)) (by decide +kernel)
    have C'' : CK cenv [("cell", s.heap.objs.size + 1 + 1)] := CK.of hcl' rfl
    have ef : Int.fdiv (cell : Int) 3 = ((cell / 3 : Nat) : Int) := fdivN cell 3
    have eg : Int.fmod ((cell / 3 : Nat) : Int) 2 = ((cell / 3 % 2 : Nat) : Int) := fmodN _ 2
    repeat' walk_at "go"
    rw [ef, eg]
    exact ⟨_, rfl, PD.is_i _ _, by assumption⟩
  intro n7 s7 H7
  repeat' walk_at "go"
  exact h n7 _ (H7.out hK (by walk_at "mem")) (H7.give hK (.head _))
end
--@ b22
section
section
variable {prog : Program} {w : World} {A : Around} {E : Value → Shared → Prop} {K : Kx} {base led led' : Led} {s : Shared} {env : Env} {L a l it : Addr} {ds es : List PD} {vs : List Value} {v : Value} {d : PD} {pos : Pos} {i : Nat} {Q : Value → Shared → Prop}
theorem r_next (H : St K base led s) (hm : Upd led it (liP l i) (liP l (i + 1)) led') (hl : Kn base led l (datP ds)) (hd : ds[i]? = some d) (h : ∀ v s', PD.is d v → St K base led' s' → Q v s') : wpAny (model prog w) A (call (.builtin "next") [.ref it]) Q E s := by
  have hit := li_is (H.here _ hm.mem)
  obtain ⟨vs, hv, hx⟩ := dat_open (H.has hl)
  obtain ⟨v, e, pv⟩ := hv.get hd
  refine call_function_entry (by decide +kernel) (by decide +kernel) kdk_entry_next (kdk_args_next _) ?_
  unfold Builtin.«next»
  refine wpAny_bind (m := someArgs "next" 1 2 _) (wpAny_of_eq (a := [Value.ref it]) (by first | rfl | kernel_rfl!) ?_)
  dsimp only
  refine wpAny_bind (wpAny_specialOf (name := Str.ofString "__next__") hit.typeIs slot_listiter_next.lookup ?_)
  refine wpAny_ite_split (fun hab => absurd hab (by decide)) (fun _ => ?_)
  obtain ⟨o, ho, hc, hdd⟩ := id hit
  obtain ⟨ol, hol, _, nl, hdl⟩ := lst_is hx
  refine wpAny_bind (wpAny_callSpecial?_slot (name := Str.ofString "__next__") hit.typeIs slot_listiter_next
    (wpAny_call_entry slot_listiter_next hit.typeIs entry_listiter_next ?_ (args_listiter_next _)))
  show wpAny _ _ (field (.ref it) 0 >>= _) _ _ s
  refine wpAny_bind (wpAny_field ho hdd (x := .ref l) rfl ?_)
  show wpAny _ _ (if (Value.ref l == Value.none) = true then _ else _) _ _ s
  rw [if_neg (show ¬ ((Value.ref l == Value.none) = true) from Bool.false_ne_true)]
  show wpAny _ _ (field (.ref it) 1 >>= _) _ _ s
  refine wpAny_bind (wpAny_field ho hdd (x := .int i 0) rfl ?_)
  show wpAny _ _ (seqItems? (.ref l) >>= _) _ _ s
  refine wpAny_bind (wpAny_seqItems hol hdl ?_)
  have e' : vs.toArray[i]? = some v := by simpa using e
  simp only [Int.toNat_natCast, e']
  refine wpAny_bind (wpAny_setField ho hdd (by simp) (wpAny_pure ⟨v, rfl, wpAny_pure ⟨_, rfl, h v _ pv (H.change hm (LeBut.of_same (Heap.SameBut.update ..)) ⟨rfl, rfl, rfl⟩ ?_)⟩⟩))
  exact ⟨_, Heap.get?_update_self _ ho (Obj.isFreed_of_fields (Obj.data_mapFields hdd _)), (Obj.cls_mapFields ..).trans hc, by
    rw [Obj.data_mapFields hdd]; simp [rawInt]⟩
theorem r_nextI {x : Int} (H : St K base led s) (hm : Upd led it (liP l i) (liP l (i + 1)) led') (hl : Kn base led l (datP ds)) (hd : ds[i]? = some (.i x)) (h : ∀ t s', St K base led' s' → Q (.int x t) s') : wpAny (model prog w) A (call (.builtin "next") [.ref it]) Q E s :=
  r_next H hm hl hd fun v s' hv H' => by obtain ⟨t, rfl⟩ := hv; exact h t s' H'
theorem r_aug {x : Str} {p : Pos} {op : Operator} {value : Expr} {Q : Flow → Shared → Prop} (hn : (x == ("__debug__" : Str)) = false) (h : wpAny (model prog w) A (loadName env x) (fun old s₁ => wpAny (model prog w) A (eval value env) (fun v s₂ => wpAny (model prog w) A (inplaceOp op old v) (fun r s₃ => wpAny (model prog w) A (storeName env x r) (fun _ => Q .next) E s₃) E s₂) E s₁) E s) :
    wpAny (model prog w) A (exec (.AugAssign (.Name x p) op value pos) env) Q E s := wpAny_AugAssign_Name h
theorem r_load {ks : List (Str × NameKind)} {x : Str} {vs : Vars} (H : St K base led s) (X : EnvL env L) (D : KD env ks) (hk : (x, NameKind.local) ∈ ks) (hm : (L, nsP vs) ∈ led) (hv : (x, some v) ∈ vs) (h : Q v s) : wpAny (model prog w) A (loadName env x) Q E s := by
  obtain ⟨_, m, n, f⟩ := nsP_open (H.here _ hm)
  exact wpAny_loadName_local X.kind (D _ hk).1 (X.loc ▸ n) (f _ hv) h
end
theorem pv_bind (va : Value) : ∀ S pm c, peek [] S (bindArgs (fnOf (fnName 9) (fnName 9) (fnParams 9) (fnBody 9) (fnScope 9) .none .none .none pm none (.ref c) .none) ⟨[va], []⟩) = some (([("iterator", va)] : List (Str × Value))) := by
  intro S pm c; kernel_rfl
theorem pv_fn : ((fnScope 9).kind = .function ∧ (fnScope 9).isCoroutine = false ∧ (fnScope 9).isGenerator = false) ∧ (∀ x ∈ (fnScope 9).names, x.2 ≠ .cell) := by decide +kernel
theorem pv_kinds : ∀ p ∈ ([("iterator", .local), ("b", .local), ("val", .local), ("next", .globalImplicit)] : List (Str × NameKind)), (fnScope 9).names.lookup p.1 = some p.2 ∧ (p.1 == ("__debug__" : Str)) = false := by decide +kernel
theorem pv_nd : (["iterator", "b", "val"] : List Str).Nodup := by decide +kernel
theorem pv_args (va : Value) : (∀ x ∈ ([("iterator", va)] : List (Str × Value)), (fnScope 9).names.lookup x.1 = some .local) := by
  intro x hx
  rw [List.mem_singleton.mp hx]
  exact (pv_kinds ("iterator", .local) (by simp)).1
noncomputable abbrev pvV (a : Addr) (b v : Option Value) : Vars := [("iterator", some (.ref a)), ("b", b), ("val", v)]
theorem pv_vs (a : Addr) : ((pvV a none none).map (·.1)).Nodup ∧ ∀ p ∈ pvV a none none, ([("iterator", .ref a)] : List (Str × Value)).reverse.lookup p.1 = p.2 := by
  refine ⟨pv_nd, fun p hp => ?_⟩
  simp only [List.mem_cons, List.not_mem_nil, or_false] at hp
  rcases hp with rfl | rfl | rfl <;> kernel_rfl
/-- the rest of a number on a tape -/
inductive VTail (ds : List PD) : Nat → Int → Int → Int → Nat → Prop where
  | stop {i : Nat} {b v : Int} (h : Builtin.bitAnd b 64 = 0) : VTail ds i b v v i
  | more {i j : Nat} {b b' v r : Int} (h : Builtin.bitAnd b 64 ≠ 0) (hd : ds[i]? = some (.i b')) (hv : v.natAbs < 2 ^ 64) (t : VTail ds (i + 1) b' (Builtin.bitOr (v * 64) (Builtin.bitAnd b' 63)) r j) : VTail ds i b v r j
noncomputable def VRead (ds : List PD) (i : Nat) (r : Int) (j : Nat) : Prop := ∃ b, ds[i]? = some (.i b) ∧ VTail ds (i + 1) b (Builtin.bitAnd b 63) r j
theorem VTail.le {ds : List PD} {i : Nat} {b v r : Int} {j : Nat} (h : VTail ds i b v r j) : i ≤ j ∧ j ≤ ds.length ∨ (i = j) := by
  induction h with
  | stop _ => exact .inr rfl
  | more _ hd _ _ ih =>
    have := (List.getElem?_eq_some_iff.mp hd).1
    rcases ih with ⟨a, b⟩ | e
    · exact .inl ⟨by lia, b⟩
    · exact .inl ⟨by lia, by lia⟩
end
--@ b23
section
theorem ne_iter {h : Heap} {l it : Addr} {ds : List PD} {i : Nat} (x : Has h l (datP ds)) (y : Has h it (liP l i)) : l ≠ it := by
  rintro rfl
  obtain ⟨o, e, vs, _, n, rfl⟩ := x
  obtain ⟨o, e', c, _⟩ := y
  rw [e] at e'
  cases e'
  exact absurd c (by simp [listObj])
theorem varint_call {prog : Program} {w : World} {A : Around} {E : Value → Shared → Prop} {Q : Value → Shared → Prop} {K : Kx} {base led led' : Led} {s : Shared} {l it : Addr} {ds : List PD} {i j : Nat} {r : Int} {k : Nat}
    (T : TopF K.hT) (H : St K base led s) (R : Room (k + 1) A) (hm : Kn base led l (datP ds)) (hl : Upd led it (liP l i) (liP l j) led') (hr : VRead ds i r j)
    (h : ∀ t s', St K base led' s' → Q (.int r t) s') : wpAny (model prog w) A (call (.ref 87) [.ref it]) Q E s := by
  have hne : l ≠ it := ne_iter (H.has hm) (H.here _ hl.mem)
  refine call_fn (pvV it none none) [(it, liP l i)] [(l, datP ds)] H R T T.f87 (frag_nil _) ⟨fun p hp => ?_, List.nodup_cons.mpr ⟨fun q => (nomatch q), List.nodup_nil⟩⟩ (fun p hp => ?_) (pv_bind _) ⟨pv_fn.1, pv_args _, pv_fn.2⟩ (pv_vs it) ?_
  · rw [List.mem_singleton.mp hp]; exact ⟨H.here _ hl.mem, H.hi _ hl.mem⟩
  · rw [List.mem_singleton.mp hp]; exact ⟨H.has hm, fun q => hne (List.mem_singleton.mp q)⟩
  · intro K' env s₁ T' hK X hsc hcells hle hrs H₁ R₁
    have D := KD.ofS hsc pv_kinds
    obtain ⟨b, hb, ht⟩ := hr
    conv => arg 3; arg 1; whnf
    repeat' walk_at "go"
    with_reducible refine' r_nextI ?H ?hm ?hl ?hd ?_
    case H => assumption
    case hm => walk_at "upd"; done
    case hl => walk_at "kn"
    case hd => assumption
    intro t1 s1 H1
    repeat' walk_at "go"
    rename_i t2 s2 H2 t3 s3 H3 s4 H4
    with_reducible refine' wpAny_While (codeAny_whileLoop (fun n s' => ∃ i b v tb tv, n = ds.length - i ∧ VTail ds i b v r j ∧ St K' [(l, datP ds)] [(s.heap.objs.size, nsP (pvV it (some (.int b tb)) (some (.int v tv)))), (it, liP l i)] s') ?turn (ds.length - (i + 1)) ?start)
    case start => exact ⟨i + 1, _, _, _, _, rfl, ht, H4⟩
    intro n s5 hI
    refine g_hq ?_
    intro Qv oV
    obtain ⟨i, b, v, tb, tv, rfl, ht, H5⟩ := hI
    repeat' walk_at "go"
    clear oV Qv
    cases ht with
    | stop hb0 =>
      with_reducible refine' wif_f (by rw [hb0]; simp) ?_
      repeat' walk_at "go"
      rename_i t6 s6 H6 t7 s7 H7
      have hx := H7.outBut hK (.head _)
      exact h _ _ (H.extBut hx hl (H7.here _ (.tail _ (.head _))))
    | more hb1 hd hv ht =>
      with_reducible refine' wif_t (by simpa using hb1) ?_
      refine g_hq ?_
      intro Qw oW
      repeat' walk_at "go"
      with_reducible refine' r_nextI ?H ?hm ?hl ?hd ?_
      case H => assumption
      case hm => walk_at "upd"; done
      case hl => walk_at "kn"
      case hd => assumption
      intro t6 s6 H6
      repeat' walk_at "go"
      have e6 : (2 : Int) ^ Int.toNat 6 = 64 := by decide
      rw [← e6] at ht
      refine ⟨ds.length - (i + 1), ?_, i + 1, _, _, _, _, rfl, ht, by assumption⟩
      have := (List.getElem?_eq_some_iff.mp hd).1
      lia
end
--@ b24
section
theorem gi_bindE (va vb pm : Value) (c : Addr) : bindArgs (fnOf (fnName 8) (fnName 8) (fnParams 8) (fnBody 8) (fnScope 8) .none .none .none pm none (.ref c) .none) ⟨[va, vb], []⟩ = (do
    let d ← alloc { cls := .type "dict", data := .dict #[] }
    pure (([("name_index", va), ("get_name", vb), ("extrainfo", .ref d)] : List (Str × Value)))) := by
  kernel_rfl
noncomputable def edP : OP := fun o => ∃ n, o = { cls := .type "dict", dict := none, data := .dict #[] n, slots := #[] }
section
variable {prog : Program} {w : World} {A : Around} {E : Value → Shared → Prop} {K : Kx} {base led led' : Led} {s : Shared} {env : Env} {L a d : Addr} {f : Value} {x : Sem Value}
theorem r_mergeE {Q : Unit → Shared → Prop} (ha : Has s.heap a edP) (hd : Has s.heap d edP) (hs : (a == sysModules) = false) (h : Q () s) : wpAny (model prog w) A (mergeMapping d (.ref a) true) Q E s := by
  obtain ⟨o, ho, n, rfl⟩ := ha
  obtain ⟨o', ho', n', rfl⟩ := hd
  have hT : s.TypeIs (.ref a) "dict" := ⟨_, ho, rfl⟩
  unfold mergeMapping
  refine wpAny_bind (wpAny_isInstance hT isSubtype_dict_dict ?_)
  rw [if_pos rfl]
  refine wpAny_bind (wpAny_specialOf hT F.slot_dict_iter.lookup (wpAny_bind (wpAny_pure ?_)))
  show wpAny _ _ (if (a == sysModules) = true then _ else _) _ _ _
  rw [if_neg (by rw [hs]; simp)]
  show wpAny _ _ (dictEntries d >>= _) _ _ _
  refine wpAny_bind (wpAny_dictEntries ho' rfl ?_)
  show wpAny _ _ (if (#[] : Array DictEntry).isEmpty = true then _ else _) _ _ _
  refine wpAny_ite_split (fun _ => ?_) (fun hab => absurd rfl hab)
  refine wpAny_bind (wpAny_dictEntries ho rfl ?_)
  show wpAny _ _ (forIn (#[] : Array DictEntry) _ _ >>= _) _ _ _
  refine wpAny_bind (wpAny_of_eq (a := PUnit.unit) rfl ?_)
  show wpAny _ _ (dictEntries a >>= _) _ _ _
  refine wpAny_bind (wpAny_dictEntries ho rfl ?_)
  show wpAny _ _ (dictEpoch a >>= _) _ _ _
  refine wpAny_bind (wpAny_dictEpoch ho rfl ?_)
  show wpAny _ _ (pure PUnit.unit >>= _) _ _ _
  exact wpAny_bind (wpAny_pure (wpAny_pure h))
theorem r_kw1 {Q : Addr → Shared → Prop} (H : St K base led s) (hx : ∀ d s', St K base ((d, edP) :: led) s' → wpAny (model prog w) A x (fun m s₁ => ∃ a, m = .ref a ∧ (a == sysModules) = false ∧ Kn base ((d, edP) :: led) a edP ∧ St K base ((d, edP) :: led) s₁) E s')
    (h : ∀ d s', St K base ((d, edP) :: led) s' → Q d s') : wpAny (model prog w) A (mergedKeywords f [(none, x)]) Q E s := by
  have H1 : St K base ((s.heap.objs.size, edP) :: led) { s with heap := s.heap.push { cls := .type "dict", data := .dict #[] } } := H.push _ ⟨_, rfl⟩ rfl rfl ⟨rfl, rfl, rfl⟩
  unfold mergedKeywords
  refine wpAny_bind (wpAny_alloc ?_)
  refine wpAny_bind (wpAny_holding ?_)
  show wpAny _ _ (forIn [((none : Option Str), x)] _ _ >>= _) _ _ _
  refine wpAny_bind ?_
  show wpAny _ _ (bind (bind _ _) _) _ _ _
  refine wpAny_bind (wpAny_bind ?_)
  show wpAny _ _ (if ([] : List (Str × Sem Value)).isEmpty = true then _ else _) _ _ _
  refine wpAny_ite_split (fun _ => ?_) (fun hab => absurd rfl hab)
  refine wpAny_pure ?_
  refine wpAny_bind (wpAny_mono (hx _ _ H1) (fun m s₁ q => ?_) fun _ _ e => e)
  obtain ⟨a, rfl, hs, hk, H2⟩ := q
  refine wpAny_bind (wpAny_onRaise (wpAny_holding (wpAny_tryCatch (wpAny_onRaise (r_mergeE (H2.has hk) (H2.here _ (.head _)) hs ?_)))))
  show wpAny _ _ (pure _) _ _ _
  refine wpAny_pure ?_
  show wpAny _ _ (pure ([] : List (Str × Sem Value))) _ _ _
  refine wpAny_pure ?_
  show wpAny _ _ (if ([] : List (Str × Sem Value)).isEmpty = true then _ else _) _ _ _
  refine wpAny_ite_split (fun _ => ?_) (fun hab => absurd rfl hab)
  exact wpAny_pure (wpAny_pure (h _ _ H2))
end
end
--@ b25
section
set_option linter.unusedVariables false
section
variable {prog : Program} {w : World} {A : Around} {E : Value → Shared → Prop} {K : Kx} {base led led' : Led} {s : Shared} {env : Env} {L a d : Addr} {f : Value} {x : Sem Value}
theorem r_evalKw {t : Sem Value} {rest : List (Bool × Sem Value)} {Q : Args → Shared → Prop} (H : St K base led s)
    (h : wpAny (model prog w) A (spliced ((false, t) :: rest)) (fun vs s₁ => ∃ led₁, St K base led₁ s₁ ∧
      (∀ d s', St K base ((d, edP) :: led₁) s' → wpAny (model prog w) A x (fun m s₂ => ∃ a, m = .ref a ∧ (a == sysModules) = false ∧ Kn base ((d, edP) :: led₁) a edP ∧ St K base ((d, edP) :: led₁) s₂) E s') ∧
      ∀ d s', St K base ((d, edP) :: led₁) s' → Q ⟨vs, []⟩ s') E s) :
    wpAny (model prog w) A (evalArgs f true ((false, t) :: rest) [(none, x)]) Q E s := by
  unfold evalArgs
  show wpAny _ A (spliced ((false, t) :: rest) >>= _) Q E s
  refine wpAny_bind (wpAny_mono h (fun vs s₁ q => ?_) fun _ _ e => e)
  obtain ⟨led₁, H1, hx, hQ⟩ := q
  refine wpAny_holding ?_
  refine wpAny_ite_split (fun hab => absurd hab (by simp)) (fun _ => ?_)
  refine wpAny_bind (r_kw1 H1 hx fun d s' H' => ?_)
  show wpAny _ _ (pure vs >>= _) _ _ _
  refine wpAny_bind (wpAny_pure ?_)
  refine wpAny_bind (wpAny_holding ?_)
  unfold keywordsIn
  obtain ⟨o, ho, n, rfl⟩ := H'.here _ (.head _)
  refine wpAny_bind (wpAny_dictEntries ho rfl ?_)
  refine wpAny_bind (wpAny_of_eq (a := ([] : List (Str × Value))) rfl ?_)
  exact wpAny_pure (wpAny_pure (hQ _ _ H'))
end
theorem gi_fn : ((fnScope 8).kind = .function ∧ (fnScope 8).isCoroutine = false ∧ (fnScope 8).isGenerator = false) ∧ (∀ x ∈ (fnScope 8).names, x.2 ≠ .cell) := by decide +kernel
theorem gi_kinds : ∀ p ∈ ([("name_index", .local), ("get_name", .local), ("extrainfo", .local), ("argval", .local)] : List (Str × NameKind)), (fnScope 8).names.lookup p.1 = some p.2 ∧ (p.1 == ("__debug__" : Str)) = false := by decide +kernel
theorem gi_nd : (["name_index", "get_name", "extrainfo", "argval"] : List Str).Nodup := by decide +kernel
noncomputable abbrev giV (a b c : Value) (v : Option Value) : Vars := [("name_index", some a), ("get_name", some b), ("extrainfo", some c), ("argval", v)]
theorem gi_vs (a b c : Value) : ((giV a b c none).map (·.1)).Nodup ∧ ∀ p ∈ giV a b c none, ([("name_index", a), ("get_name", b), ("extrainfo", c)] : List (Str × Value)).reverse.lookup p.1 = p.2 := by
  refine ⟨gi_nd, fun p hp => ?_⟩
  simp only [List.mem_cons, List.not_mem_nil, or_false] at hp
  rcases hp with rfl | rfl | rfl | rfl <;> kernel_rfl
theorem gi_loc (a b c : Value) : ∀ x ∈ ([("name_index", a), ("get_name", b), ("extrainfo", c)] : List (Str × Value)), (fnScope 8).names.lookup x.1 = some .local := by
  intro x hx
  simp only [List.mem_cons, List.not_mem_nil, or_false] at hx
  rcases hx with rfl | rfl | rfl
  · exact (gi_kinds ("name_index", .local) (by simp)).1
  · exact (gi_kinds ("get_name", .local) (by simp)).1
  · exact (gi_kinds ("extrainfo", .local) (by simp)).1
/-- the call of _get_name_info: its dict of further names is new and empty -/
theorem call_gi {prog : Program} {w : World} {A : Around} {E : Value → Shared → Prop} {Q : Value → Shared → Prop} {K : Kx} {base led : Led} {s : Shared} {k : Nat} {va vb : Value}
    (led0 base0 : Led) (H : St K base led s) (R : Room (k + 1) A) (T : TopF K.hT) (ha : argP led0 s.heap) (ho : oldP (led0.map (·.1)) base0 s.heap)
    (h : ∀ K' env L d s₁, TopF K'.hT → K' = ⟨K.hT, s.heap, led0.map (·.1), s.gens, s.drawn, s.os⟩ → EnvL env L → env.scope = fnScope 8 → Le s.heap s₁.heap → Rest s s₁ → St K' base0 ((L, nsP (giV va vb (.ref d) none)) :: (d, edP) :: led0) s₁ → Room k (A.deeper env) → s.heap.get? L = none →
      wpAny (model prog w) (A.deeper env) (execs (fnBody 8) env) (fun fl s' => Q (match fl with | .ret v => v | _ => .none) s') (fun _ _ => False) s₁) :
    wpAny (model prog w) A (call (.ref 80) [va, vb]) Q E s := by
  obtain ⟨pm, c, hf, hcd⟩ := T.f80
  obtain ⟨⟨hkind, hco, hgen⟩, hcell⟩ := gi_fn
  refine wpAny_call (codeAny_call_function (fd := fnOf (fnName 8) (fnName 8) (fnParams 8) (fnBody 8) (fnScope 8) .none .none .none pm none (.ref c) .none) (by have := R.dp; lia) (H.top _ _ hf) rfl hco hgen rfl (hcd.keeps H.top) ?_)
  rw [gi_bindE]
  refine wpAny_bind (wpAny_alloc (wpAny_pure ?_))
  generalize hs1 : ({ s with heap := s.heap.push { cls := .type "dict", data := .dict #[] } } : Shared) = s1
  have hp1 : s1.heap = s.heap.push { cls := .type "dict", data := .dict #[] } := by rw [← hs1]
  have hr1 : Rest s s1 := by rw [← hs1]; exact ⟨rfl, rfl, rfl⟩
  refine wpAny_newFunctionEnv hcell (gi_loc _ _ _) (fun h' hn hs => ?_) hkind
  have hle1 : Le s.heap s1.heap := hp1 ▸ Le.push _ _
  have hle : Le s.heap h' := fun b o e => (hs.2 b (Nat.ne_of_lt (Heap.lt_size (hle1 b o e)))).trans (Heap.get?_push_of_some _ (hle1 b o e))
  refine ⟨T.nolimit.keeps (H.top.trans hle), ?_⟩
  have hsz1 : s1.heap.objs.size = s.heap.objs.size + 1 := by rw [hp1, Heap.size_push]
  have hnew : s.heap.get? s1.heap.objs.size = none := by
    cases e : s.heap.get? s1.heap.objs.size with
    | none => rfl
    | some o => exact absurd (Heap.lt_size e) (by rw [hsz1]; exact Nat.not_lt.mpr (Nat.le_succ _))
  have hnewd : s.heap.get? s.heap.objs.size = none := get_size _
  have hd' : Has h' s.heap.objs.size edP := by
    refine ⟨{ cls := .type "dict", data := .dict #[] }, ?_, 0, rfl⟩
    refine (hs.2 _ (by rw [hsz1]; exact Nat.ne_of_lt (Nat.lt_succ_self _))).trans (Heap.get?_push_of_some _ ?_)
    rw [hp1]; exact Heap.get?_push_size _ rfl
  have hsmall : ∀ p ∈ led0, p.1 < s.heap.objs.size := fun p hp => by obtain ⟨⟨o, e, _⟩, _⟩ := ha.1 p hp; exact Heap.lt_size e
  refine codeAny_func (wpAny_mono (h ⟨K.hT, s.heap, led0.map (·.1), s.gens, s.drawn, s.os⟩ _ s1.heap.objs.size s.heap.objs.size _ T rfl ⟨hkind, rfl, rfl, rfl⟩ rfl hle hr1 ?_ (R.deeper _) hnew) (fun _ _ q => q) fun _ _ q => q.elim)
  refine ⟨H.top.trans hle, H.tn, H.last, H.tab, fun b o e _ => hle b o e, fun p hp => ?_, fun p hp => ?_, ?_, fun p hp => ?_, fun p hp => ?_, hr1.1, hr1.2.1, hr1.2.2⟩
  · obtain ⟨⟨o, e, q⟩, m⟩ := ho p hp
    exact ⟨⟨o, hle _ _ e, q⟩, by show (s.heap.get? p.1).isSome = true; rw [e]; rfl, m⟩
  · rcases List.mem_cons.mp hp with rfl | hp
    · exact nsP_of (gi_vs _ _ _).1 hn (gi_vs _ _ _).2
    rcases List.mem_cons.mp hp with rfl | hp
    · exact hd'
    · exact (ha.1 p hp).1.le hle
  · simp only [List.map_cons, List.nodup_cons, List.mem_cons, not_or]
    refine ⟨⟨by rw [hsz1]; exact Nat.succ_ne_self _, fun hm => ?_⟩, fun hm => ?_, ha.2⟩
    · obtain ⟨p, hp, e⟩ := List.mem_map.mp hm
      have := hsmall p hp; rw [e, hsz1] at this; exact absurd this (Nat.not_lt.mpr (Nat.le_succ _))
    · obtain ⟨p, hp, e⟩ := List.mem_map.mp hm
      have := hsmall p hp; rw [e] at this; exact Nat.lt_irrefl _ this
  · rcases List.mem_cons.mp hp with rfl | hp
    · exact .inr hnew
    rcases List.mem_cons.mp hp with rfl | hp
    · exact .inr hnewd
    · exact .inl (List.mem_map_of_mem hp)
  · rcases List.mem_cons.mp hp with rfl | hp
    · exact .inl (by rw [hsz1]; exact Nat.le_succ_of_le H.sz)
    rcases List.mem_cons.mp hp with rfl | hp
    · exact .inl H.sz
    · exact (ha.1 p hp).2
end
--@ b26
section
noncomputable def isO (o : Obj) : OP := fun o' => o' = o
theorem St.backBut {K K' : Kx} {base led led' base0 led1 : Led} {s s' : Shared} {a : Addr} {P P' : OP} (H : St K base led s) (H' : St K' base0 led1 s') (hK : K' = ⟨K.hT, s.heap, [a], s.gens, s.drawn, s.os⟩) (hl : Upd led a P P' led') (ha : (a, P') ∈ led1) : St K base led' s' := by
  subst hK
  exact H.change hl (fun b o n e => H'.keep b o e fun q => n (List.mem_singleton.mp q)) ⟨H'.gens, H'.drawn, H'.os⟩ (H'.here _ ha)
theorem St.newBut {K K' : Kx} {base led led' base0 led1 : Led} {s s' : Shared} {a n : Addr} {P P' Pn : OP} (H : St K base led s) (H' : St K' base0 led1 s') (hK : K' = ⟨K.hT, s.heap, [a], s.gens, s.drawn, s.os⟩) (hl : Upd led a P P' led') (ha : (a, P') ∈ led1) (hn : (n, Pn) ∈ led1) (hne : n ≠ a) :
    St K base ((n, Pn) :: led') s' := by
  have H2 := H.backBut H' hK hl ha
  subst hK
  have hnone : s.heap.get? n = none := by
    rcases H'.fresh _ hn with f | f
    · exact absurd (List.mem_singleton.mp f) hne
    · exact f
  refine ⟨H2.top, H2.tn, H2.last, H2.tab, H2.keep, H2.old, fun p hp => ?_, ?_, fun p hp => ?_, fun p hp => ?_, H2.gens, H2.drawn, H2.os⟩
  · rcases List.mem_cons.mp hp with rfl | hp
    · exact H'.here _ hn
    · exact H2.here p hp
  · rw [List.map_cons, List.nodup_cons]
    refine ⟨?_, H2.nd⟩
    rw [hl.fst]
    exact H.off hnone
  · rcases List.mem_cons.mp hp with rfl | hp
    · exact H.notOld hnone
    · exact H2.fresh p hp
  · rcases List.mem_cons.mp hp with rfl | hp
    · exact H'.hi (n, Pn) hn
    · exact H2.hi p hp
section
variable {prog : Program} {w : World} {A : Around} {E : Value → Shared → Prop} {K : Kx} {base led led' : Led} {s : Shared} {env : Env} {L a d f : Addr} {pos : Pos} {Q : Value → Shared → Prop}
theorem r_kwcall {id : Str} {p : Pos} {e : Expr} {rest : List Expr} {kw : Expr} {kp : Pos} (h : wpAny (model prog w) A (eval (.Name id p) env) (fun f s₁ => wpAny (model prog w) A (callWith pos f [] (backTo pos (starEach (e :: rest) env)) (backToKw pos (keywordEach [⟨none, kw, kp⟩] env))) Q E s₁) E s) :
    wpAny (model prog w) A (eval (.Call (.Name id p) (e :: rest) [⟨none, kw, kp⟩] pos) env) Q E s := wpAny_Call_Name_kw h
theorem r_kwargs {o : Obj} {fd : FuncData} {e : Expr} {rest : List Expr} {kw : Expr} {kp : Pos} (H : St K base led s) (hd : o.data = .func fd)
    (h : wpAny (model prog w) A (spliced (backTo pos (starEach (e :: rest) env))) (fun vs s₁ => ∃ led₁, St K base led₁ s₁ ∧ Kn base led₁ f (isO o) ∧
      (∀ d s', St K base ((d, edP) :: led₁) s' → wpAny (model prog w) A (eval kw env) (fun m s₂ => ∃ a, m = .ref a ∧ (a == sysModules) = false ∧ Kn base ((d, edP) :: led₁) a edP ∧ St K base ((d, edP) :: led₁) s₂) E s') ∧
      ∀ d s', St K base ((d, edP) :: led₁) s' → wpAny (model prog w) A (call (.ref f) vs) Q E s') E s) (he : starEach (e :: rest) env = (false, eval e env) :: starEach rest env) :
    wpAny (model prog w) A (callWith pos (.ref f) [] (backTo pos (starEach (e :: rest) env)) (backToKw pos (keywordEach [⟨none, kw, kp⟩] env))) Q E s := by
  rw [he] at h ⊢
  refine callWith_function_kw (o := o) (fd := fd) ?_
  show wpAny _ _ (evalArgs (.ref f) true ((false, eval e env) :: backTo pos (starEach rest env)) [(none, do let v ← eval kw env; standAt pos; pure v)]) _ _ _
  refine r_evalKw H (wpAny_mono h (fun vs s₁ q => ?_) fun _ _ e => e)
  obtain ⟨led₁, H1, hk, hx, hQ⟩ := q
  refine ⟨led₁, H1, fun d s' H' => wpAny_bind (wpAny_mono (hx d s' H') (fun m s₂ q => wpAny_bind (wpAny_standAt (wpAny_pure q))) fun _ _ e => e), fun d s' H' => ?_⟩
  obtain ⟨o', ho', e'⟩ := H'.has hk.more
  exact ⟨⟨e' ▸ ho', hd⟩, hQ d s' H'⟩

/-- _get_name_info asks once and tells it twice -/
theorem getinfo_call {o : Obj} {fd : FuncData} {row : Addr} {P P' : OP} {y : Str} {va : Value} {base0 : Led} {k : Nat} (T : TopF K.hT) (H : St K base led s) (R : Room (k + 2) A) (hd : o.data = .func fd) (hb0 : oldP [row] base0 s.heap) (hf : (f, isO o) ∈ base0) (hl : Upd led row P P' led')
    (hcall : ∀ (A : Around) (E Q : Value → Shared → Prop) (K' : Kx) (led1 led2 : Led) (s1 : Shared), TopF K'.hT → St K' base0 led1 s1 → Room (k + 1) A → Upd led1 row P P' led2 → (∀ t s', St K' base0 led2 s' → Q (.str y t) s') → wpAny (model prog w) A (call (.ref f) [va]) Q E s1)
    (h : ∀ n t s', St K base ((n, tupP [.str y t, .str y t]) :: led') s' → Q (.ref n) s') : wpAny (model prog w) A (call (.ref 80) [va, .ref f]) Q E s := by
  refine call_gi [(row, P)] base0 H R T ⟨fun p hp => ?_, List.nodup_cons.mpr ⟨fun q => (nomatch q), List.nodup_nil⟩⟩ hb0 ?_
  · rw [List.mem_singleton.mp hp]; exact ⟨H.here _ hl.mem, H.hi _ hl.mem⟩
  · intro K' env L d s₁ T' hK X hsc hle hr H₁ R₁ hLn
    have D := KD.ofS hsc gi_kinds
    conv => arg 3; arg 1; whnf
    repeat' walk_at "go"
    with_reducible refine' r_kwcall ?_
    walk_at "go"
    with_reducible refine' r_kwargs ?H hd ?_ ?he
    case H => assumption
    case he => rfl
    repeat' walk_at "go"
    refine ⟨_, H₁, .old hf, fun d2 s2 H2 => ?_, fun d2 s2 H2 => ?_⟩
    · repeat' walk_at "go"
      exact ⟨d, rfl, noSys H2 (by walk_at "mem"), by walk_at "kn", H2⟩
    · refine hcall _ _ _ K' _ _ s2 T' H2 R₁ (by walk_at "upd") fun t s3 H3 => ?_
      repeat' walk_at "go"
      rename_i s4 H4 n s5 H5
      have hnd := H5.nd
      simp only [List.map_cons, List.nodup_cons, List.mem_cons, not_or] at hnd
      exact h n t s5 (H.newBut H5 hK hl (.tail _ (.tail _ (.tail _ (.tail _ (.head _))))) (.head _) hnd.1.2.2.2.1)
end
end
--@ b27
section
noncomputable def codeP (qual : Str) : OP := fun o => ∃ vs t, o.data = .fields vs ∧ vs[1]? = some (.str qual t)
theorem call_lam {prog : Program} {w : World} {A : Around} {E : Value → Shared → Prop} {Q : Value → Shared → Prop} {K : Kx} {base led : Led} {s : Shared} {k : Nat} {f c' : Addr} {args : List Value} {binds : List (Str × Value)} {name qual : Str} {params : Arguments} {body : Expr} {scope : Scope} {clos : List (Str × Addr)} {pm ctv : Value}
    (vs : Vars) (led0 base0 : Led) (H : St K base led s) (R : Room (k + 1) A) (T : TopF K.hT) (hf : Kn base led f (isO (kla_obj name qual params body scope clos pm c' ctv))) (hc : Kn base led c' (codeP qual))
    (ha : argP led0 s.heap) (ho : oldP (led0.map (·.1)) base0 s.heap) (hb : bindArgs (kla_fn name qual params body scope clos pm (.ref c') ctv) ⟨args, []⟩ = pure binds)
    (hfn : (scope.kind = .function ∧ scope.isCoroutine = false ∧ scope.isGenerator = false) ∧ (∀ x ∈ binds, scope.names.lookup x.1 = some .local) ∧ ∀ x ∈ scope.names, x.2 ≠ .cell)
    (hvs : (vs.map (·.1)).Nodup ∧ ∀ p ∈ vs, binds.reverse.lookup p.1 = p.2)
    (h : ∀ K' env s₁, TopF K'.hT → K' = ⟨K.hT, s.heap, led0.map (·.1), s.gens, s.drawn, s.os⟩ → EnvL env s.heap.objs.size → env.scope = scope → env.cells = clos → St K' base0 ((s.heap.objs.size, nsP vs) :: led0) s₁ → Room k (A.deeper env) →
      wpAny (model prog w) (A.deeper env) (eval body env) Q (fun _ _ => False) s₁) :
    wpAny (model prog w) A (call (.ref f) args) Q E s := by
  obtain ⟨o, hof, rfl⟩ := H.has hf
  obtain ⟨oc, hoc, cvs, ct, hcd, hcv⟩ := H.has hc
  obtain ⟨⟨hkind, hco, hgen⟩, hloc, hcell⟩ := hfn
  refine wpAny_call (kla_callFunE (fd := kla_fn name qual params body scope clos pm (.ref c') ctv) (by have := R.dp; lia) hof rfl hco hgen rfl ⟨c', oc, cvs, ct, rfl, hoc, hcd, hcv⟩ ?_)
  rw [hb]
  refine wpAny_pure (wpAny_newFunctionEnv hcell hloc (fun h' hn hs => ?_) hkind)
  have hle : Le s.heap h' := fun b o e => (hs.2 b (Nat.ne_of_lt (Heap.lt_size e))).trans (Heap.get?_push_of_some _ e)
  refine ⟨T.nolimit.keeps (H.top.trans hle), ?_⟩
  have hnew : s.heap.get? s.heap.objs.size = none := get_size _
  refine kla_codeExpr (wpAny_mono (h ⟨K.hT, s.heap, led0.map (·.1), s.gens, s.drawn, s.os⟩ _ _ T rfl ⟨hkind, rfl, rfl, rfl⟩ rfl rfl ?_ (R.deeper _)) (fun _ _ q => q) fun _ _ q => q.elim)
  refine ⟨H.top.trans hle, H.tn, H.last, H.tab, fun b o e _ => hle b o e, fun p hp => ?_, fun p hp => ?_, ?_, fun p hp => ?_, fun p hp => ?_, rfl, rfl, rfl⟩
  · obtain ⟨⟨o, e, q⟩, m⟩ := ho p hp
    exact ⟨⟨o, hle _ _ e, q⟩, by show (s.heap.get? p.1).isSome = true; rw [e]; rfl, m⟩
  · rcases List.mem_cons.mp hp with rfl | hp
    · exact nsP_of hvs.1 hn hvs.2
    · exact (ha.1 p hp).1.le hle
  · rw [List.map_cons, List.nodup_cons]
    refine ⟨fun hm => ?_, ha.2⟩
    obtain ⟨p, hp, e⟩ := List.mem_map.mp hm
    obtain ⟨⟨o, e', _⟩, _⟩ := ha.1 p hp
    rw [e, hnew] at e'; cases e'
  · rcases List.mem_cons.mp hp with rfl | hp
    · exact .inr hnew
    · exact .inl (List.mem_map_of_mem hp)
  · rcases List.mem_cons.mp hp with rfl | hp
    · exact .inl H.sz
    · exact (ha.1 p hp).2
/-- the making of a lambda: the table of the codes is written -/
noncomputable def tabP (ps : Array Value) : OP := fun o => o = tabObj ps
/-- a call of a def of the text, some names of it cells', its code told -/
theorem call_fnD {prog : Program} {w : World} {A : Around} {E : Value → Shared → Prop} {Q : Value → Shared → Prop} {K : Kx} {base led : Led} {s : Shared} {k f i : Nat} {dV kV : Value} {frag : Frag} {args : List Value} {kw : List (Str × Value)} {binds : List (Str × Value)}
    (vs : Vars) (cs : Nat → List (Str × Addr)) (cv : Nat → List (Addr × Option Value)) (led0 base0 : Led)
    (H : St K base led s) (R : Room (k + 1) A) (T : TopF K.hT) (F : FnAt K.hT f i dV kV) (hfr : Frag.In frag K.hT)
    (ha : argP led0 s.heap) (ho : oldP (led0.map (·.1)) base0 s.heap)
    (hb : ∀ S pm c, peek frag S (bindArgs (fnOf (fnName i) (fnName i) (fnParams i) (fnBody i) (fnScope i) dV kV .none pm none (.ref c) .none) ⟨args, kw⟩) = some binds)
    (hfn : (fnScope i).kind = .function ∧ (fnScope i).isCoroutine = false ∧ (fnScope i).isGenerator = false)
    (hcs : ∀ L, cellsFrom (L + 1) (fnScope i).names [] = cs L)
    (hcl : ∀ L, (cs L).map (fun p => (cs L).lookup p.1) = (cs L).map fun p => some p.2)
    (hbk : ∀ L, binds.all (fun x => kf i x.1 == some .local || (kf i x.1 == some .cell && ((cs L).lookup x.1).isSome)) = true)
    (hcv : ∀ L, (cs L).map (fun p => (p.2, bindC (kf i) binds none1 p.1)) = cv L)
    (hvs : (vs.map (·.1)).Nodup ∧ vs.map (fun p => bindL (kf i) binds none1 p.1) = vs.map (·.2))
    (h : ∀ K' env s₁, TopF K'.hT → K' = ⟨K.hT, s.heap, led0.map (·.1), s.gens, s.drawn, s.os⟩ → EnvL env s.heap.objs.size → env.scope = fnScope i → env.cells = cs s.heap.objs.size → Le s.heap s₁.heap → Rest s s₁ →
      St K' base0 ((s.heap.objs.size, nsP vs) :: ((cv s.heap.objs.size).map (fun p => (p.1, cellP p.2)) ++ led0)) s₁ → Room k (A.deeper env) → (∃ pm c, K.hT.get? f = some { cls := .type "function", data := .func (fnOf (fnName i) (fnName i) (fnParams i) (fnBody i) (fnScope i) dV kV .none pm none (.ref c) .none) } ∧ env.code = .ref c) →
      wpAny (model prog w) (A.deeper env) (execs (fnBody i) env) (fun fl s' => Q (match fl with | .ret v => v | _ => .none) s') (fun _ _ => False) s₁) :
    wpAny (model prog w) A (call (.ref f) args kw) Q E s := by
  obtain ⟨pm, c, hf, hcd⟩ := F
  obtain ⟨hkind, hco, hgen⟩ := hfn
  refine wpAny_call (codeAny_call_function (fd := fnOf (fnName i) (fnName i) (fnParams i) (fnBody i) (fnScope i) dV kV .none pm none (.ref c) .none) (by have := R.dp; lia) (H.top _ _ hf) rfl hco hgen rfl (hcd.keeps H.top) ?_)
  refine Looks.here (Looks.of_peek (fun a o e => H.top _ _ (hfr a o e)) (hb _ pm c)) ?_
  refine wpAny_newFunctionEnv_cells hkind (fun x hx => by rw [show (fnOf (fnName i) (fnName i) (fnParams i) (fnBody i) (fnScope i) dV kV .none pm none (.ref c) .none).scope = fnScope i from rfl, hcs]; have := List.all_eq_true.mp (hbk s.heap.objs.size) x hx; simpa using this) (fun env he s₁ IC => ?_)
  obtain ⟨⟨⟨h', tk, hsame⟩, hn, hkeep, hfresh⟩, hcell, hap, habove⟩ := IC
  have hcode : env.code = .ref c := by subst he; rfl
  have henv : env.scope = fnScope i ∧ env.locals = s.heap.objs.size ∧ env.cells = cs s.heap.objs.size ∧ EnvL env s.heap.objs.size := by
    subst he
    exact ⟨rfl, rfl, hcs _, hkind, rfl, rfl, rfl⟩
  obtain ⟨hsc, hloc, hcells, X⟩ := henv
  have hkf : env.kindOf = kf i := by funext x; unfold Env.kindOf; rw [hsc]
  rw [hkf, hloc] at hn
  rw [hkf, hcells] at hcell
  rw [hcells] at hap
  rw [hcells, hloc] at habove
  have hle : Le s.heap s₁.heap := hkeep
  have hr : Rest s s₁ := by subst hsame; exact ⟨rfl, rfl, rfl⟩
  refine ⟨T.nolimit.keeps (H.top.trans hle), ?_⟩
  have hnew : ∀ b, s.heap.objs.size ≤ b → s.heap.get? b = none := fun b hb => by
    cases e : s.heap.get? b with
    | none => rfl
    | some o => exact absurd (Heap.lt_size e) (Nat.not_lt.mpr hb)
  have hcells2 : ∀ p ∈ (cv s.heap.objs.size).map (fun p => (p.1, cellP p.2)), Has s₁.heap p.1 p.2 ∧ s.heap.objs.size < p.1 := by
    intro p hp
    rw [← hcv] at hp
    obtain ⟨q, hq, rfl⟩ := List.mem_map.mp hp
    obtain ⟨z, hz, rfl⟩ := List.mem_map.mp hq
    exact ⟨hcell z.1 z.2 (List.map_inj_left.mp (hcl _) z hz), habove z.1 z.2 hz⟩
  have hcnd : (((cv s.heap.objs.size).map (fun p => (p.1, cellP p.2))).map (·.1)).Nodup := by
    rw [List.map_map, ← hcv, List.map_map]
    exact List.pairwise_map.mpr hap
  have hsmall : ∀ p ∈ led0, p.1 < s.heap.objs.size := fun p hp => by obtain ⟨⟨o, e, _⟩, _⟩ := ha.1 p hp; exact Heap.lt_size e
  refine codeAny_func (wpAny_mono (h ⟨K.hT, s.heap, led0.map (·.1), s.gens, s.drawn, s.os⟩ _ _ T rfl X hsc hcells hle hr ?_ (R.deeper _) ⟨pm, c, hf, hcode⟩) (fun _ _ q => q) fun _ _ q => q.elim)
  refine ⟨H.top.trans hle, H.tn, H.last, H.tab, fun b o e _ => hle b o e, fun p hp => ?_, fun p hp => ?_, ?_, fun p hp => ?_, fun p hp => ?_, hr.1, hr.2.1, hr.2.2⟩
  · obtain ⟨⟨o, e, q⟩, m⟩ := ho p hp
    exact ⟨⟨o, hle _ _ e, q⟩, by show (s.heap.get? p.1).isSome = true; rw [e]; rfl, m⟩
  · rcases List.mem_cons.mp hp with rfl | hp
    · exact nsP_of hvs.1 hn fun p hp => List.map_inj_left.mp hvs.2 p hp
    · rcases List.mem_append.mp hp with hp | hp
      · exact (hcells2 p hp).1
      · exact (ha.1 p hp).1.le hle
  · rw [List.map_cons, List.nodup_cons, List.map_append, List.nodup_append]
    refine ⟨fun hm => ?_, hcnd, ha.2, fun x hx y hy e => ?_⟩
    · rcases List.mem_append.mp hm with hm | hm
      · obtain ⟨p, hp, e⟩ := List.mem_map.mp hm
        exact Nat.ne_of_gt (hcells2 p hp).2 e
      · obtain ⟨p, hp, e⟩ := List.mem_map.mp hm
        exact Nat.ne_of_lt (hsmall p hp) e
    · obtain ⟨p, hp, rfl⟩ := List.mem_map.mp hx
      obtain ⟨q, hq, rfl⟩ := List.mem_map.mp hy
      have h1 := (hcells2 p hp).2
      have h2 := hsmall q hq
      rw [e] at h1
      exact Nat.lt_asymm h1 h2
  · rcases List.mem_cons.mp hp with rfl | hp
    · exact .inr (hnew _ (Nat.le_refl _))
    · rcases List.mem_append.mp hp with hp | hp
      · exact .inr (hnew _ (Nat.le_of_lt (hcells2 p hp).2))
      · exact .inl (List.mem_map_of_mem hp)
  · rcases List.mem_cons.mp hp with rfl | hp
    · exact .inl H.sz
    · rcases List.mem_append.mp hp with hp | hp
      · exact .inl (Nat.le_of_lt (Nat.lt_of_le_of_lt H.sz (hcells2 p hp).2))
      · exact (ha.1 p hp).2

noncomputable def tabL (pos : Pos) (qual : Str) : Option Addr → Led
  | none => [(tabAt, tabP #[])]
  | some c' => [(tabAt, tabP #[rawInt pos.line, rawInt pos.col, .ref c']), (c', codeP qual)]
section
variable {prog : Program} {w : World} {A : Around} {E : Value → Shared → Prop} {K : Kx} {base led led' : Led} {s : Shared} {env : Env} {L a d f : Addr} {pos : Pos} {Q : Value → Shared → Prop}
theorem St.addLate {led1 : Led} {s' : Shared} {n : Addr} {P : OP} (H : St K base led s) (H1 : St K base led1 s') (hmap : led1.map (·.1) = led.map (·.1)) (hn : s.heap.get? n = none) (hz : Hi n) (hp : Has s'.heap n P) : St K base ((n, P) :: led1) s' := by
  refine ⟨H1.top, H1.tn, H1.last, H1.tab, H1.keep, H1.old, fun p hp' => ?_, ?_, fun p hp => ?_, fun p hp => ?_, H1.gens, H1.drawn, H1.os⟩
  · rcases List.mem_cons.mp hp' with rfl | hp'
    · exact hp
    · exact H1.here p hp'
  · rw [List.map_cons, List.nodup_cons, hmap]
    exact ⟨H.off hn, H.nd⟩
  · rcases List.mem_cons.mp hp with rfl | hp
    · exact H.notOld hn
    · exact H1.fresh p hp
  · rcases List.mem_cons.mp hp with rfl | hp
    · exact hz
    · exact H1.hi p hp
theorem codeAmong_hit (pos : Pos) (c' : Addr) : codeAmong pos [rawInt pos.line, rawInt pos.col, .ref c'] = some (.ref c') := by
  unfold codeAmong
  simp [rawInt]
theorem r_lam {params : Arguments} {body : Expr} {scope : Scope} {clos : List (Str × Addr)} {tb : Option Addr} (T : TopF K.hT) (H : St K base (tabL pos (env.qual ++ "<lambda>") tb ++ led) s) (X : EnvL env L) (hcode : env.code = .ref 194)
    (hcl : closureFor scope env = pure clos) (hdef : defaultsOf params env = ([], []))
    (h : ∀ c' pm ctv f s', St K base ((f, isO (kla_obj "<lambda>" (env.qual ++ "<lambda>") params body scope clos pm c' ctv)) :: (tabL pos (env.qual ++ "<lambda>") (some c') ++ led)) s' → Q (.ref f) s') :
    wpAny (model prog w) A (eval (.Lambda params body scope pos) env) Q E s := by
  obtain ⟨mg, hg, hb⟩ := T.bmain
  have hb' : s.heap.BuiltinsAt mg tabAt := by
    obtain ⟨bm, o, h1, h2, h3, h4, h5, h6⟩ := hb
    exact ⟨bm, o, h1, h2, h3, h4, H.top _ _ h5, h6⟩
  have C : CodeHd s.heap 194 tabAt := T.code.2.keeps H.top
  refine kla_eval hdef ?_
  cases tb with
  | none =>
    obtain ⟨o, ho, rfl⟩ := H.here (tabAt, tabP #[]) (.head _)
    refine kla_makeFunction hcl X.glob (hg.keeps H.top) hcode C ho trivial rfl (by decide) hb' fun c' ctv h' tk hx hge hlt hrec htb => ?_
    have H1 : St K base ((tabAt, tabP #[rawInt pos.line, rawInt pos.col, .ref c']) :: led) ⟨h', s.gens, s.drawn, tk, s.os⟩ := H.change (s' := ⟨h', s.gens, s.drawn, tk, s.os⟩) .here (fun b o n e => hx b o n e) ⟨rfl, rfl, rfl⟩ ⟨_, htb, rfl⟩
    obtain ⟨c₂, oc, vs, t, e2, hoc, hd, hv⟩ := hrec
    cases e2
    have hnone : s.heap.get? c' = none := by
      cases e : s.heap.get? c' with
      | none => rfl
      | some o => exact absurd (Heap.lt_size e) (Nat.not_lt.mpr hge)
    have H2 : St K base ((c', codeP (env.qual ++ "<lambda>")) :: (tabAt, tabP #[rawInt pos.line, rawInt pos.col, .ref c']) :: led) ⟨h', s.gens, s.drawn, tk, s.os⟩ := H.addLate H1 rfl hnone (.inl (Nat.le_trans H.sz hge)) ⟨oc, hoc, vs, t, hd, hv⟩
    have H3 := H2.perm (led' := tabL pos (env.qual ++ "<lambda>") (some c') ++ led) (List.Perm.swap _ _ _)
    exact h c' _ ctv _ _ (H3.push _ rfl rfl rfl ⟨rfl, rfl, rfl⟩)
  | some c' =>
    obtain ⟨o, ho, rfl⟩ := H.here (tabAt, tabP #[rawInt pos.line, rawInt pos.col, .ref c']) (.head _)
    refine kla_makeFunctionHit hcl X.glob (hg.keeps H.top) hcode C ho (by simp [TriplesOk, rawInt]) (codeAmong_hit pos c') hb' fun ctv h' tk hk hsz => ?_
    have H1 : St K base (tabL pos (env.qual ++ "<lambda>") (some c') ++ led) ⟨h', s.gens, s.drawn, tk, s.os⟩ := H.le (s' := ⟨h', s.gens, s.drawn, tk, s.os⟩) hk ⟨rfl, rfl, rfl⟩
    exact h c' _ ctv _ _ (H1.push _ rfl rfl rfl ⟨rfl, rfl, rfl⟩)
end
end
--@ b28
section
theorem strsAre : ∀ {xs : List Str} {vs : List Value}, VS (xs.map PD.s) vs → StrsAre vs xs
  | [], vs, h => by
    have := h.nil_inv; subst this; exact .nil
  | x :: r, vs, h => by
    obtain ⟨v, k, rfl, ⟨t, rfl⟩, hr⟩ := h.cons_inv
    exact .cons _ _ (strsAre hr)
section
variable {prog : Program} {w : World} {A : Around} {E : Value → Shared → Prop} {K : Kx} {base led led' : Led} {s : Shared} {env : Env} {L a b it : Addr} {ds es : List PD} {pos : Pos} {Q : Value → Shared → Prop}
theorem r_chr {i : Int} {t : Tok} (H : St K base led s) (hi : 0 ≤ i) (h2 : i ≤ 0x10FFFF) (h : ∀ t s', St K base led s' → Q (.str (signS i.toNat) t) s') : wpAny (model prog w) A (call (.builtin "chr") [.int i t]) Q E s :=
  PySem.P.chr_of_int (by simp; lia) (h _ _ (H.same rfl ⟨rfl, rfl, rfl⟩))
theorem r_ordC {c : Nat} {t : Tok} (H : St K base led s) (h : ∀ t s', St K base led s' → Q (.int (c : Int) t) s') : wpAny (model prog w) A (call (.builtin "ord") [.str (signS c) t]) Q E s :=
  PySem.P.ord_of_char (h _ _ (H.same rfl ⟨rfl, rfl, rfl⟩))
theorem r_join {xs : List Str} {x : Str} {t : Tok} (H : St K base led s) (hm : Kn base led a (strsP xs)) (hx : x.length ≤ 16) (hw : (xs.map (·.length)).sum + xs.length ≤ 1048576) (h : ∀ t s', St K base led s' → Q (.str (Txt.join x xs) t) s') :
    wpAny (model prog w) A (call (.builtin "str.join") [.str x t, .ref a]) Q E s := by
  obtain ⟨vs, hv, hl⟩ := dat_open (H.has hm)
  exact PyProof.Rows.join_listW (lst_is hl) (by simpa using strsAre hv) hx hw fun t' k => h _ _ (H.same rfl ⟨rfl, rfl, rfl⟩)
theorem r_iterB (H : St K base led s) (hm : Kn base led a (datP ds)) (h : ∀ it s', St K base ((it, liP a 0) :: led) s' → Q (.ref it) s') : wpAny (model prog w) A (call (.builtin "iter") [.ref a]) Q E s := by
  obtain ⟨vs, hv, hl⟩ := dat_open (H.has hm)
  refine call_function_entry (by decide +kernel) (by decide +kernel) kdk_entry_iter (kdk_args_iter _) ?_
  unfold Builtin.«iter»
  refine wpAny_bind (m := someArgs "iter" 1 2 _) (wpAny_of_eq (a := [Value.ref a]) (by first | rfl | kernel_rfl!) ?_)
  show wpAny _ _ (pyIter (.ref a) >>= _) _ _ _
  refine wpAny_bind (wpAny_pyIter_list (lst_is hl) ?_)
  exact wpAny_pure ⟨_, rfl, h _ _ (H.push _ ⟨rfl, rfl⟩ rfl rfl ⟨rfl, rfl, rfl⟩)⟩
/-- a tuple that is told apart into two local names -/
theorem r_asgTup {x y : Str} {px py tpos : Pos} {k : Nat} {value : Expr} {Q : Flow → Shared → Prop}
    (h : wpAny (model prog w) A (eval value env) (fun v s₁ => wpAny (model prog w) A (assign (.Tuple [.Name x px, .Name y py] k tpos) env v) (fun _ => Q .next) E s₁) E s)
    (hs : swapsWithSole [.Tuple [.Name x px, .Name y py] k tpos] value pos.line env = pure false) (hw : swappedStores [.Tuple [.Name x px, .Name y py] k tpos] value env = pure none) :
    wpAny (model prog w) A (exec (.Assign [.Tuple [.Name x px, .Name y py] k tpos] value pos) env) Q E s := PyProof.Rows.Assign_Tuple h hs hw
end
end
--@ b29
section
set_option linter.unusedVariables false
theorem li_nolen : typeLookup (.type "list_iterator") "__len__" = pure none := by rw [typeLookup_type, builtinLookup_eq_fast]; kernel_rfl
theorem li_hint : typeLookup (.type "list_iterator") "__length_hint__" = pure (some (.builtin "list_iterator.__length_hint__")) := by rw [typeLookup_type, builtinLookup_eq_fast]; kernel_rfl
theorem li_sub : isSubtype (.type "list_iterator") (.type "list_iterator") = pure true := by rw [isSubtype_type]; kernel_rfl
section
variable {prog : Program} {w : World} {A : Around} {E : Value → Shared → Prop} {K : Kx} {base led led' : Led} {s : Shared} {l it : Addr} {ds : List PD} {Q : Value → Shared → Prop}
theorem hint_li {Q : Bool → Shared → Prop} (hT : s.TypeIs (.ref it) "list_iterator") (h : Q false s) : wpAny (model prog w) A (Builtin.List.listLengthHint (.ref it)) Q E s := by
  unfold Builtin.List.listLengthHint
  refine wpAny_bind (wpAny_specialOf hT li_nolen ?_)
  wp_delta
  refine wpAny_ite_split (fun hab => absurd hab (show ¬ ((false : Bool) = true) from Bool.false_ne_true)) (fun _ => ?_)
  refine wpAny_ite_split (fun hab => absurd hab (show ¬ ((false : Bool) = true) from Bool.false_ne_true)) (fun _ => ?_)
  refine wpAny_bind (wpAny_specialOf hT li_hint ?_)
  wp_delta
  refine wpAny_bind (wpAny_isInstance (b := true) hT li_sub ?_)
  refine wpAny_ite_split (fun hab => absurd hab (show ¬ ((false : Bool) = true) from Bool.false_ne_true)) (fun _ => ?_)
  refine wpAny_ite_split (fun _ => ?_) (fun hab => absurd rfl hab)
  refine wpAny_ite_split (fun hab => absurd hab (by decide)) (fun _ => ?_)
  exact wpAny_pure h

theorem walksEnd {A : Around} (hh : A.handled = none) (I ax : Addr) (hne : ax ≠ I) (items : Array Value) :
    Walks prog w A I [I, ax] [I] 0 (fun _ _ => True) (fun _ h => h.IsListIter I ax items.size ∧ h.IsList ax items) where
  sub := fun b hb => by simp at hb; simp [hb]
  frame := fun _ _ _ st hk => ⟨st.1.at fun o e => hk I (by simp) o e, st.2.at fun o e => hk ax (by simp) o e⟩
  item := fun i s Q E hi => absurd hi (Nat.not_lt_zero _)
  done := fun s Q E st hQ => wpAny_pyNext_list_end hh st.1 st.2 (by simp) fun h' hx => hQ h' s.toks fun b o hb e => hx b o (fun q => hb (by simp [q])) e
  self := fun i s Q E st hQ => wpAny_pyIter_listiter st.1 hQ
theorem r_listEnd (hh : A.handled = none) (H : St K base led s) (hr : Rem led (it, liP l ds.length) led') (hl : Kn base led l (datP ds)) (h : ∀ n s', St K base ((n, datP []) :: led') s' → Q (.ref n) s') : wpAny (model prog w) A (call (.type "list") [.ref it]) Q E s := by
  have hit := li_is (H.here _ hr.mem)
  have hne : l ≠ it := ne_iter (H.has hl) (H.here _ hr.mem)
  obtain ⟨vs, hv, hx⟩ := dat_open (H.has hl)
  have hli := lst_is hx
  have hsz : vs.toArray.size = ds.length := by rw [List.size_toArray, hv.len]
  rw [← hsz] at hit
  refine callType_codes (Q₁ := fun obj s₁ => obj = .ref s.heap.objs.size ∧ s₁ = { s with heap := s.heap.push { cls := .type "list", data := .seq #[] } }) F.called_list (F.typeCall_list_1 _) F.entry_list_init
    (code_list_new _ ⟨rfl, rfl⟩) fun obj s₁ h₁ => ?_
  obtain ⟨rfl, rfl⟩ := h₁
  have hS : (s.heap.push { cls := .type "list", data := .seq #[] }).get? s.heap.objs.size = some { cls := .type "list", data := .seq #[] } := Heap.get?_push_size _ rfl
  refine ⟨⟨_, hS, rfl⟩, F.args_list_init_2 _ _, ?_⟩
  show wpAny _ _ (do let old ← Builtin.List.listItems (.ref s.heap.objs.size); Builtin.List.listUpdate (.ref s.heap.objs.size) (fun _ => #[]); letGo old.toList.reverse; Builtin.List.listExtendWith (.ref s.heap.objs.size) (.ref it) .none) _ _ _
  refine wpAny_bind ?_
  unfold Builtin.List.listItems
  refine wpAny_bind (wpAny_seqItems hS rfl (wpAny_pure ?_))
  show wpAny _ _ (updateSeq s.heap.objs.size (fun _ => #[]) >>= fun _ => letGo (#[] : Array Value).toList.reverse >>= fun _ => Builtin.List.listExtendWith (.ref s.heap.objs.size) (.ref it) .none) _ _ _
  refine wpAny_bind (wpAny_updateSeq hS rfl ?_)
  have hS₂ := Heap.get?_update_self (Obj.mapSeq (fun _ => (#[] : Array Value))) hS rfl
  have old : ∀ b o, s.heap.get? b = some o → ((s.heap.push { cls := .type "list", data := .seq #[] }).update s.heap.objs.size (Obj.mapSeq (fun _ => (#[] : Array Value)))).get? b = some o :=
    fun b o e => (Heap.get?_update_other _ _ (Nat.ne_of_gt (Heap.lt_size e))).trans (Heap.get?_push_of_some _ e)
  refine wpAny_bind (wpAny_letGo ?_)
  have hT : Shared.TypeIs { s with heap := (s.heap.push { cls := .type "list", data := .seq #[] }).update s.heap.objs.size (Obj.mapSeq (fun _ => (#[] : Array Value))) } (.ref it) "list_iterator" := by
    obtain ⟨o, e, c, _⟩ := hit
    exact ⟨o, old _ _ e, c⟩
  unfold Builtin.List.listExtendWith
  refine wpAny_bind (wpAny_typeOf hT ?_)
  have hlt : it < s.heap.objs.size := by obtain ⟨o, e, _⟩ := hit; exact Heap.lt_size e
  have hsame : (s.heap.objs.size == it) = false := by simpa using Nat.ne_of_gt hlt
  refine wpAny_ite_split (fun hab => absurd hab (by show ¬ ((s.heap.objs.size == it) || _ || _) = true; rw [hsame]; decide)) (fun _ => ?_)
  have hit2 : ((s.heap.push { cls := .type "list", data := .seq #[] }).update s.heap.objs.size (Obj.mapSeq (fun _ => (#[] : Array Value)))).IsListIter it l vs.toArray.size := hit.at fun o e => old _ _ e
  have hli2 : ((s.heap.push { cls := .type "list", data := .seq #[] }).update s.heap.objs.size (Obj.mapSeq (fun _ => (#[] : Array Value)))).IsList l vs.toArray := hli.at fun o e => old _ _ e
  refine wpAny_bind (wpAny_pyIter_listiter hit2 ?_)
  refine wpAny_bind (wpAny_holding (hint_li hT ?_))
  refine wpAny_ite_split (fun hab => absurd hab (show ¬ ((false : Bool) = true) from Bool.false_ne_true)) (fun _ => ?_)
  have hllt : l < s.heap.objs.size := by obtain ⟨o, e, _⟩ := hli; exact Heap.lt_size e
  refine wpAny_pure ⟨plainId_quiet F.plain_extend_loop _, codeAny_extend_loopS (walksEnd (A := A.in1.in1) hh it l hne vs.toArray).toS (Nat.zero_le _) _ (fun hm => ?_) _ 0 0 _ _ _ rfl (Nat.le_refl _) ⟨hit2, hli2⟩ hS₂ (ItemsOf.nil _) fun s' acc' c' hm hS' hacc => ?_⟩
  · simp only [List.mem_cons, List.not_mem_nil, or_false] at hm
    rcases hm with q | q
    · exact Nat.ne_of_gt hlt q
    · exact Nat.ne_of_gt hllt q
  obtain rfl : acc' = #[] := by
    have := hacc.1
    exact Array.size_eq_zero_iff.mp this
  have hext : Heap.ExtBut it s.heap s'.heap := fun b o hb e => hm.heap b o (fun q => by
    simp only [List.mem_cons, List.not_mem_nil, or_false] at q
    rcases q with q | q
    · exact absurd (Heap.lt_size e) (by rw [q]; exact Nat.lt_irrefl _)
    · exact hb q) (old b o e)
  have H1 : St K base led' { s with heap := s'.heap, toks := s'.toks } := H.lose hr hext
  have e1 : s' = { s with heap := s'.heap, toks := s'.toks } := by
    have := Moved.eq_with hm
    exact this
  rw [← e1] at H1
  have hnone := get_size s.heap
  refine ⟨rfl, h _ s' (St.addLate (led := led') (s := s) ?_ H1 rfl hnone (.inl H.sz) ⟨_, hS', [], .nil, c', rfl⟩)⟩
  exact H.sub hr.sub
end
end
--@ b30
section
open PySem.SeqAt
theorem eqAt_pd {A : Around} {s : Shared} {d : PD} {v u : Value} (hn : d ≠ .n) (hv : PD.is d v) (hu : PD.is d u) : EqAt A s v u true := by
  cases d with
  | n => exact absurd rfl hn
  | b x => obtain rfl : v = _ := hv; obtain rfl : u = _ := hu; have := EqAt.bool_bool (A := A) (s := s) x x; simpa using this
  | i x => obtain ⟨t, rfl⟩ := hv; obtain ⟨t', rfl⟩ := hu; have := EqAt.int_int (A := A) (s := s) x t x t'; simpa using this
  | s x => obtain ⟨t, rfl⟩ := hv; obtain ⟨t', rfl⟩ := hu; have := EqAt.str_str (A := A) (s := s) x t x t'; simpa using this
section
variable {prog : Program} {w : World} {A : Around} {E : Value → Shared → Prop} {K : Kx} {base led led' : Led} {s : Shared} {a b : Addr} {ds : List PD} {k : Nat} {Q : Value → Shared → Prop}
theorem lists_same {vs us : List Value} (hn : ∀ d ∈ ds, d ≠ .n) (hv : VS ds vs) (hu : VS ds us) : vs.toArray.size = us.toArray.size ∧ ∀ j (h1 : j < vs.toArray.size) (h2 : j < us.toArray.size), EqAt A.in1 s vs.toArray[j] us.toArray[j] true := by
  refine ⟨by rw [List.size_toArray, List.size_toArray, ← hv.len, hu.len], fun j h1 h2 => ?_⟩
  have hj : j < ds.length := by rw [hv.len]; simpa using h1
  obtain ⟨v, e1, p1⟩ := hv.get (List.getElem?_eq_getElem hj)
  obtain ⟨u, e2, p2⟩ := hu.get (List.getElem?_eq_getElem hj)
  have f1 : vs.toArray[j] = v := by rw [List.getElem?_eq_getElem (by simpa using h1)] at e1; simpa using e1
  have f2 : us.toArray[j] = u := by rw [List.getElem?_eq_getElem (by simpa using h2)] at e2; simpa using e2
  rw [f1, f2]
  exact eqAt_pd (hn _ (List.getElem_mem hj)) p1 p2
theorem r_eqL (H : St K base led s) (R : Room k A) (hn : ∀ d ∈ ds, d ≠ .n) (ha : Kn base led a (datP ds)) (hb : Kn base led b (datP ds)) (h : Q (.bool true) s) : wpAny (model prog w) A (compareOp .Eq (.ref a) (.ref b)) Q E s := by
  obtain ⟨vs, hv, hx⟩ := dat_open (H.has ha)
  obtain ⟨us, hu, hy⟩ := dat_open (H.has hb)
  obtain ⟨hsz, he⟩ := lists_same (A := A) (s := s) hn hv hu
  refine eq_listAt (e := fun _ => true) (lst_is hx) (lst_is hy) hsz (by have := R.un; lia) he ?_
  rw [show (List.range vs.toArray.size).all (fun _ => true) = true from by simp]
  exact h
theorem r_neL (H : St K base led s) (R : Room k A) (hn : ∀ d ∈ ds, d ≠ .n) (ha : Kn base led a (datP ds)) (hb : Kn base led b (datP ds)) (h : Q (.bool false) s) : wpAny (model prog w) A (compareOp .NotEq (.ref a) (.ref b)) Q E s := by
  obtain ⟨vs, hv, o, ho, n, rfl⟩ := dat_open (H.has ha)
  obtain ⟨us, hu, o, ho', n', rfl⟩ := dat_open (H.has hb)
  obtain ⟨hsz, he⟩ := lists_same (A := A) (s := s) hn hv hu
  refine richCompare_meets_room (op := .NotEq) ⟨_, ho, rfl⟩ ⟨_, ho', rfl⟩ F.slot_list_ne F.entry_list_ne (F.args_list_ne_2 _ _) (list_neAt a b _ _ n n' none none #[] #[] hsz fun _ => true)
    ⟨ho, ho', he, ?_⟩ (by have := R.un; lia)
  rw [show (List.range vs.toArray.size).all (fun _ => true) = true from by simp]
  exact ⟨(fun x => nomatch x), h⟩
end
end
--@ b31
section
noncomputable def tabQ : OP := fun o => ∃ ps, o = tabObj ps
section
variable {prog : Program} {w : World} {A : Around} {E : Value → Shared → Prop} {K : Kx} {base led led' : Led} {s : Shared} {env : Env} {L a : Addr} {pos : Pos} {v u t : Value}
theorem r_asgTup3 {x y z : Str} {px py pz tpos : Pos} {k : Nat} {value : Expr} {Q : Flow → Shared → Prop}
    (h : wpAny (model prog w) A (eval value env) (fun v s₁ => wpAny (model prog w) A (assign (.Tuple [.Name x px, .Name y py, .Name z pz] k tpos) env v) (fun _ => Q .next) E s₁) E s)
    (hs : swapsWithSole [.Tuple [.Name x px, .Name y py, .Name z pz] k tpos] value pos.line env = pure false) (hw : swappedStores [.Tuple [.Name x px, .Name y py, .Name z pz] k tpos] value env = pure none) :
    wpAny (model prog w) A (exec (.Assign [.Tuple [.Name x px, .Name y py, .Name z pz] k tpos] value pos) env) Q E s := PyProof.Rows.Assign_Tuple h hs hw
theorem r_asg3 {x y z : Str} {px py pz : Pos} {n : Nat} {Q : Unit → Shared → Prop} (hh : A.handled = none) (H : St K base led s) (hm : Kn base led a (tupP [v, u, t]))
    (h : ∀ s', St K base led s' → wpAny (model prog w) A (storeName env x v) (fun _ s₁ => wpAny (model prog w) A (storeName env y u) (fun _ s₂ => wpAny (model prog w) A (storeName env z t) Q E s₂) E s₁) E s') :
    wpAny (model prog w) A (assign (.Tuple [.Name x px, .Name y py, .Name z pz] n pos) env (.ref a)) Q E s := by
  refine wpAny_assign_Tuple hh (tup_is (H.has hm)) rfl rfl fun h' hx => ?_
  refine r_ord (wpAny_assign_Name (wpAny_mono (h _ (H.le (fun b o e => hx b o (Nat.ne_of_lt (Heap.lt_size e)) e) ⟨rfl, rfl, rfl⟩)) (fun _ s₁ q => r_ord (wpAny_assign_Name (wpAny_mono q (fun _ s₂ q => r_ord (wpAny_assign_Name (wpAny_mono q (fun _ s₃ q => r_ord0 q) fun _ _ e => e))) fun _ _ e => e))) fun _ _ e => e))
end
theorem lr_bind (va : Value) : ∀ S pm c, peek [] S (bindArgs (fnOf (fnName 24) (fnName 24) (fnParams 24) (fnBody 24) (fnScope 24) .none .none .none pm none (.ref c) .none) ⟨[va], []⟩) = some (([("octets", va)] : List (Str × Value))) := by
  intro S pm c; kernel_rfl
theorem lr_fn : (fnScope 24).kind = .function ∧ (fnScope 24).isCoroutine = false ∧ (fnScope 24).isGenerator = false := by decide +kernel
theorem lr_cells (L : Nat) : cellsFrom (L + 1) (fnScope 24).names [] = ([("row", L + 1 + 1), ("reader", L + 1)] : List (Str × Addr)) := by kernel_rfl
theorem lr_kinds : ∀ p ∈ ([("octets", .local), ("reader", .cell), ("names", .local), ("turn", .local), ("told", .local), ("name", .local), ("again", .local), ("row", .cell), ("iter", .globalImplicit), ("range", .globalImplicit), ("_parse_varint", .globalImplicit), ("_get_name_info", .globalImplicit), ("list", .globalImplicit)] : List (Str × NameKind)), (fnScope 24).names.lookup p.1 = some p.2 ∧ (p.1 == ("__debug__" : Str)) = false := by decide +kernel
theorem lr_nd : (["octets", "names", "turn", "told", "name", "again"] : List Str).Nodup := by decide +kernel
/-- several numbers of a tape -/
inductive VReads (ds : List PD) : Nat → List Int → Nat → Prop where
  | nil {i : Nat} : VReads ds i [] i
  | cons {i k j : Nat} {c : Int} {cs : List Int} (h : VRead ds i c k) (t : VReads ds k cs j) : VReads ds i (c :: cs) j
noncomputable def nameOf (cs : List Int) : Str := Txt.join "" (cs.map fun c => signS c.toNat)
inductive RTurn (ds : List PD) : Nat → List Str → Nat → List Str → Str → Prop where
  | new {i i1 i2 j : Nat} {row : List Str} {cs : List Int} (h0 : VRead ds i 0 i1) (h1 : VRead ds i1 cs.length i2) (h2 : VReads ds i2 cs j) (hc : ∀ c ∈ cs, 0 ≤ c ∧ c ≤ 0x10FFFF) (hl : cs.length ≤ 1000) : RTurn ds i row j (nameOf cs :: row) (nameOf cs)
  | old {i j k : Nat} {row : List Str} {x : Str} (h0 : VRead ds i ((k : Int) + 1) j) (hx : row[k]? = some x) : RTurn ds i row j (x :: row.eraseIdx k) x
inductive RRest (ds : List PD) : List Str → Nat → List Str → Prop where
  | done {row : List Str} : RRest ds [] ds.length row
  | turn {i j : Nat} {row row' : List Str} {x : Str} {xs : List Str} (h : RTurn ds i row j row' x) (t : RRest ds xs j row') : RRest ds (x :: xs) i row
noncomputable abbrev lrV (a : Addr) (nm tn td x y : Option Value) : Vars := [("octets", some (.ref a)), ("names", nm), ("turn", tn), ("told", td), ("name", x), ("again", y)]
end
--@ b33
section
theorem ne_list {h : Heap} {c r : Addr} {ds : List PD} {P : OP} (x : Has h c P) (y : Has h r (datP ds)) (hP : ∀ o, P o → ∀ vs n, o.data ≠ .seq vs n) : c ≠ r := by
  rintro rfl
  obtain ⟨o, e, p⟩ := x
  obtain ⟨o, e', vs, _, n, rfl⟩ := y
  rw [e] at e'
  cases e'
  exact hP _ p _ _ rfl
noncomputable abbrev popParams : Arguments := { posonlyargs := [], args := [{ arg := "place", annotation := none, pos := ({ line := 169, col := 58, endLine := 169, endCol := 63 } : Pos) }], vararg := none, kwonlyargs := [], kw_defaults := [], kwarg := none, defaults := [] }
noncomputable abbrev popBody : Expr := .Call (.Attribute (.Name "row" ({ line := 169, col := 65, endLine := 169, endCol := 68 } : Pos)) "pop" ({ line := 169, col := 65, endLine := 169, endCol := 72 } : Pos)) [.Name "place" ({ line := 169, col := 73, endLine := 169, endCol := 78 } : Pos)] [] ({ line := 169, col := 65, endLine := 169, endCol := 79 } : Pos)
noncomputable abbrev popScope : Scope := { kind := .function, names := [("place", .local), ("row", .free)], isGenerator := false, isCoroutine := false }
theorem pop_bind (qual : Str) (cl : List (Str × Addr)) (pm cv ct va : Value) : bindArgs (kla_fn "<lambda>" qual popParams popBody popScope cl pm cv ct) ⟨[va], []⟩ = pure (([("place", va)] : List (Str × Value))) := by
  kernel_rfl
theorem pop_loc (va : Value) : ∀ x ∈ ([("place", va)] : List (Str × Value)), popScope.names.lookup x.1 = some .local := by
  intro x hx
  rw [List.mem_singleton.mp hx]
  rfl
theorem pop_vs (va : Value) : ((([("place", some va)] : Vars)).map (·.1)).Nodup ∧ ∀ p ∈ ([("place", some va)] : Vars), ([("place", va)] : List (Str × Value)).reverse.lookup p.1 = p.2 := by
  refine ⟨List.nodup_cons.mpr ⟨fun q => (nomatch q), List.nodup_nil⟩, fun p hp => ?_⟩
  rw [List.mem_singleton.mp hp]
  kernel_rfl
theorem rowpop_call {prog : Program} {w : World} {A : Around} {E : Value → Shared → Prop} {Q : Value → Shared → Prop} {K : Kx} {base led led' : Led} {s : Shared} {qual : Str} {pm ctv : Value} {f c' cr rw : Addr} {row : List Str} {kk : Nat} {y : Str} {t : Tok} {k : Nat}
    (T : TopF K.hT) (H : St K base led s) (R : Room (k + 2) A) (hf : (f, isO (kla_obj "<lambda>" qual popParams popBody popScope [("row", cr)] pm c' ctv)) ∈ led) (hc : (c', codeP qual) ∈ led) (hcr : (cr, cellP (some (.ref rw))) ∈ led)
    (hl : Upd led rw (strsP row) (strsP (row.eraseIdx kk)) led') (hk : row[kk]? = some y) (hz : row.length ≤ 1000000) (h : ∀ n t s', St K base ((n, tupP [.str y t, .str y t]) :: led') s' → Q (.ref n) s') :
    wpAny (model prog w) A (call (.ref 80) [.int (kk : Int) t, .ref f]) Q E s := by
  have hne1 : f ≠ rw := ne_list (H.here _ hf) (H.here _ hl.mem) (by rintro o rfl vs n e; cases e)
  have hne2 : c' ≠ rw := ne_list (H.here _ hc) (H.here _ hl.mem) (by rintro o ⟨vs, t, e, _⟩ us n e'; rw [e] at e'; cases e')
  have hne3 : cr ≠ rw := ne_list (H.here _ hcr) (H.here _ hl.mem) (by rintro o e us n e'; rw [show o.data = .cell _ from e] at e'; cases e')
  refine getinfo_call (fd := kla_fn "<lambda>" qual popParams popBody popScope [("row", cr)] pm (.ref c') ctv) (base0 := [(f, isO (kla_obj "<lambda>" qual popParams popBody popScope [("row", cr)] pm c' ctv)), (c', codeP qual), (cr, cellP (some (.ref rw)))]) T H R rfl ?_ (.head _) hl ?_ h
  · intro p hp
    simp only [List.mem_cons, List.not_mem_nil, or_false] at hp
    rcases hp with rfl | rfl | rfl
    · exact ⟨H.here _ hf, fun q => hne1 (List.mem_singleton.mp q)⟩
    · exact ⟨H.here _ hc, fun q => hne2 (List.mem_singleton.mp q)⟩
    · exact ⟨H.here _ hcr, fun q => hne3 (List.mem_singleton.mp q)⟩
  · intro A E Q K' led1 led2 s1 T' H1 R1 hl1 h1
    refine call_lam [("place", some (.int kk t))] [(rw, strsP row)] [(cr, cellP (some (.ref rw)))] H1 R1 T' (.old (.head _)) (.old (.tail _ (.head _))) ⟨fun p hp => ?_, List.nodup_cons.mpr ⟨fun q => (nomatch q), List.nodup_nil⟩⟩ (fun p hp => ?_) (pop_bind _ _ _ _ _ _)
      ⟨⟨rfl, rfl, rfl⟩, pop_loc _, by decide +kernel⟩ (pop_vs _) ?_
    · rw [List.mem_singleton.mp hp]; exact ⟨H1.here _ hl1.mem, H1.hi _ hl1.mem⟩
    · rw [List.mem_singleton.mp hp]; exact ⟨(H1.old _ (.tail _ (.tail _ (.head _)))).1, fun q => hne3 (List.mem_singleton.mp q)⟩
    · intro K'' env s2 T'' hK X hsc hcells H2 R2
      have D : KD env [("place", .local), ("row", .free)] := KD.ofS hsc (by decide +kernel)
      have C : CK env [("row", cr)] := CK.of hcells rfl
      repeat' walk_at "go"
      with_reducible refine' r_popS (y := y) ?H ?h1 ?hz ?hl ?_
      case H => assumption
      case h1 => exact hk
      case hz => exact hz
      case hl => walk_at "upd"; done
      intro t3 s3 H3
      exact h1 t3 s3 (H1.backBut H3 hK hl1 (.tail _ (.head _)))
section
variable {prog : Program} {w : World} {A : Around} {E : Value → Shared → Prop} {s : Shared}
theorem r_getS {x : Str} {t : Tok} {name : Str} {id : String} {pl : Sem Bool} {Q : Value × List Value → Shared → Prop} (slot : Slot "str" name id) (hty : typeOf (.builtin id) = pure (.type "method_descriptor"))
    (h : Q (.builtin id, [.str x t]) s) : wpAny (model prog w) A (getMethod (.str x t) name pl) Q E s :=
  getMethod_builtin (typeIs_str _ _ _) F.plainAttrs_str slot hty (fun _ e => nomatch e) h
end
theorem rangeSize_one (n : Nat) : Builtin.Range.rangeSize 0 (n : Int) 1 = (n : Int) := by
  unfold Builtin.Range.rangeSize
  simp
  lia
theorem signs_sum (cs : List Int) : ((cs.map fun c => signS c.toNat).map (·.length)).sum = cs.length := by
  rw [List.map_map]
  induction cs with
  | nil => rfl
  | cons c r ih =>
    rw [List.map_cons, List.sum_cons, ih, List.length_cons]
    show 1 + _ = _
    lia
theorem Pick.skip {l l' : Led} {q : Addr × OP} (h : Pick l l') : Pick (q :: l) l' := by
  induction h with
  | nil => exact .nil
  | cons r _ ih => exact .cons (.next r) ih
end
--@ b32
section
noncomputable abbrev lamPos : Pos := { line := 169, col := 51, endLine := 169, endCol := 79 }
set_option maxHeartbeats 4000000 in
theorem read_call {prog : Program} {w : World} {A : Around} {E : Value → Shared → Prop} {Q : Value → Shared → Prop} {K : Kx} {base led led' : Led} {s : Shared} {a : Addr} {ds : List PD} {xs : List Str} {k : Nat}
    (T : TopF K.hT) (H : St K base led s) (R : Room (k + 4) A) (hm : Kn base led a (datP ds)) (hds : ds.length ≤ 1000000) (htab : Upd led tabAt (tabP #[]) tabQ led') (hx : xs.length = 9) (hr : RRest ds xs 0 [])
    (h : ∀ n s', St K base ((n, strsP xs) :: led') s' → Q (.ref n) s') :
    wpAny (model prog w) A (call (.ref 195) [.ref a]) Q E s := by
  have hne : a ≠ tabAt := by
    rintro rfl
    obtain ⟨o, e, vs, _, n, rfl⟩ := H.has hm
    obtain ⟨o, e', rfl⟩ := H.here _ htab.mem
    rw [e] at e'
    cases e'
  refine call_fnD (lrV a none none none none none) (fun L => [("row", L + 1 + 1), ("reader", L + 1)]) (fun L => [(L + 1 + 1, none), (L + 1, none)]) [(tabAt, tabP #[])] [(a, datP ds)] H R T T.f195 (frag_nil _) ⟨fun p hp => ?_, List.nodup_cons.mpr ⟨fun q => (nomatch q), List.nodup_nil⟩⟩ (fun p hp => ?_) (lr_bind _) lr_fn lr_cells
    (fun L => by kernel_rfl) (fun L => by kernel_rfl) (fun L => by kernel_rfl) ⟨lr_nd, by kernel_rfl⟩ ?_
  · rw [List.mem_singleton.mp hp]; exact ⟨H.here _ htab.mem, .inr rfl⟩
  · rw [List.mem_singleton.mp hp]; exact ⟨H.has hm, fun q => hne (List.mem_singleton.mp q)⟩
  intro K' env s₁ T' hK X hsc hcells hle hrr H₁ R₁ hcode
  have D := KD.ofS hsc lr_kinds
  have C : CK env [("row", s.heap.objs.size + 1 + 1), ("reader", s.heap.objs.size + 1)] := CK.of hcells rfl
  simp only [List.map_cons, List.map_nil, List.cons_append, List.nil_append] at H₁
  conv => arg 3; arg 1; whnf
  repeat' walk_at "go"
  with_reducible refine' r_asgTup3 ?_ (sole_of hsc (by kernel_rfl)) (swapped_of hsc (by kernel_rfl))
  repeat' walk_at "go"
  with_reducible refine' r_iterB ?H ?hm ?_
  case H => assumption
  case hm => walk_at "kn"
  intro rd s2 H2
  repeat' walk_at "go"
  with_reducible refine' r_iterR 9 ?H ?hm ?hn ?hs ?_
  case H => assumption
  case hm => walk_at "kn"
  case hn => decide
  case hs => decide
  intro it s5 H5
  have e0 : riP 0 ((9 : Nat) : Int) 1 = riP (0 + ((0 : Nat) : Int) * 1) (((9 : Nat) : Int) - ((0 : Nat) : Int)) 1 := by simp
  rw [e0] at H5
  rename_i rw0 s6 H6 nm0 s7 H7 n8 s8 H8 s9 H9 s10 H10 s11 H11 s12 H12 t13 s13 H13 n15 s15 H15
  have H14 := H5.pick (led' := (it, riP (0 + ((0 : Nat) : Int) * 1) (((9 : Nat) : Int) - ((0 : Nat) : Int)) 1) :: (nm0, datP []) :: (rw0, datP []) :: (rd, liP a 0) :: (s.heap.objs.size, nsP (lrV a (some (.ref nm0)) none none none none)) :: (s.heap.objs.size + 1 + 1, cellP (some (.ref rw0))) :: (s.heap.objs.size + 1, cellP (some (.ref rd))) :: (tabAt, tabP #[]) :: []) (by walk_at "pick")
  with_reducible refine' r_for (Src.range 0 1 9 ?ht) (fun t led => ∃ i row nm rw tb tn td x y, RRest ds (xs.drop t) i row ∧ row.length ≤ t ∧ led = (nm, strsP (xs.take t)) :: (rw, strsP row) :: (rd, liP a i) :: (s.heap.objs.size, nsP (lrV a (some (.ref nm)) tn td x y)) :: (s.heap.objs.size + 1 + 1, cellP (some (.ref rw))) :: (s.heap.objs.size + 1, cellP (some (.ref rd))) :: tabL lamPos (env.qual ++ "<lambda>") tb) R₁.hd H14 ⟨0, [], nm0, rw0, none, none, none, none, none, by rw [List.drop_zero]; exact hr, Nat.le_refl _, rfl⟩ (fun _ _ _ => trivial) ?_ ?_
  case ht => intro _ _; rfl
  · intro E' t v ex led s' ht jJ jV H'
    with_reducible refine' g_fora ?_
    intro Qf oF
    refine el9 jJ fun i row nm rw tb tn td x y hE => ?_
    clear jJ
    obtain ⟨hrest, hrow, rfl⟩ := hE
    obtain ⟨rfl, tt, rfl⟩ := jV
    simp only [List.nil_append, List.cons_append] at H'
    have hxt : xs.drop t = xs[t] :: xs.drop (t + 1) := List.drop_eq_getElem_cons (by lia)
    rw [hxt] at hrest
    generalize hx9 : xs[t] = x9 at hrest
    cases hrest with
    | @turn _ j _ row' _ _ hturn hrest' =>
    cases hturn with
    | new h0 h1 h2 hc hl =>
      rename_i i1 i2 cs
      repeat' walk_at "go"
      with_reducible refine' r_getS PySem.F.slot_str_join PySem.F.type_str_join ?_
      repeat' walk_at "go"
      with_reducible refine' r_comp (K := K') (base := [(a, datP ds)]) (cl := [("reader", s.heap.objs.size + 1)]) ["sign"] R₁.hd X ?clos ?hsc ?hn ?hx ?_ ?hs
      case clos => exact closure_of hcells (by kernel_rfl)
      case hsc => exact ⟨rfl, by decide +kernel⟩
      case hn => decide +kernel
      case hx => decide +kernel
      case hs => intro _; rfl
      repeat' walk_at "go"
      with_reducible refine' r_iterR cs.length ?H ?hm ?hn ?hs ?_
      case H => assumption
      case hm => walk_at "kn"
      case hn => exact rangeSize_one _
      case hs => exact small_one (by decide) (by decide) (by lia) (by lia)
      intro it2 s20 H20
      rename_i n20 s19 H19
      have e20 : riP 0 ((cs.length : Nat) : Int) 1 = riP (0 + ((0 : Nat) : Int) * 1) (((cs.length : Nat) : Int) - ((0 : Nat) : Int)) 1 := by simp
      rw [e20] at H20
      have hzc : cs.length ≤ sizeLine := by have := sizeLine_ge; lia
      refine ⟨it2, cs.length, fun i => [(it2, riP (0 + (i : Int) * 1) ((cs.length : Int) - i) 1)], VR 0 1, fun _ => True, fun t' us led => ∃ p, VReads ds p (cs.drop t') j ∧ VS ((cs.take t').map fun c => PD.s (signS c.toNat)) us ∧
        led = (n20, rngP 0 (cs.length : Int) 1) :: (it, riP (0 + ((t + 1 : Nat) : Int) * 1) (((9 : Nat) : Int) - ((t + 1 : Nat) : Int)) 1) :: (nm, strsP (xs.take t)) :: (rw, strsP row) :: (rd, liP a p) :: (s.heap.objs.size, nsP _) :: (s.heap.objs.size + 1 + 1, cellP (some (.ref rw))) :: (s.heap.objs.size + 1, cellP (some (.ref rd))) :: tabL lamPos (env.qual ++ "<lambda>") tb,
        _, rfl, ⟨Src.range 0 1 cs.length, hzc, fun _ _ _ _ => trivial, ?turn⟩, H20, ⟨i2, h2, .nil, rfl⟩, ?fin⟩
      case turn =>
        intro C' acc cenv E'' i us led vs v ex s'' X' hsc' hcl' hi jJ jV hvs H''
        with_reducible refine' g_comp ?_
        intro Qv oV Nv oN
        obtain ⟨p, hp, hus, rfl⟩ := jJ
        obtain ⟨rfl, ti, rfl⟩ := jV
        obtain ⟨u, rfl⟩ := one_var hvs
        simp only [List.nil_append, List.cons_append] at H''
        have hd' : cs.drop i = cs[i] :: cs.drop (i + 1) := List.drop_eq_getElem_cons hi
        have htk : cs.take (i + 1) = cs.take i ++ [cs[i]] := (List.take_append_getElem hi).symm
        have hcb := hc cs[i] (List.getElem_mem hi)
        rw [hd'] at hp
        rw [htk] at oV
        generalize cs[i] = c0 at hp hcb oV
        obtain ⟨hc0, hc1⟩ := hcb
        have D' : KD cenv [("sign", .local), ("chr", .globalImplicit), ("_parse_varint", .globalImplicit), ("reader", .cell)] := KD.ofS (hsc'.trans (relabel_of hsc)) (by decide +kernel)
        have C'' : CK cenv [("reader", s.heap.objs.size + 1)] := CK.of hcl' rfl
        cases hp with
        | @cons _ p' _ _ _ hp0 hp1 =>
        repeat' walk_at "go"
        exact ⟨_, [("sign", some (.int (0 + (i : Int) * 1) ti))], rfl, ⟨p', hp1, by rw [List.map_append]; exact hus.app (.one ⟨_, rfl⟩), rfl⟩, by assumption⟩
      case fin =>
        rintro acc us led' s31 ⟨p, hp, hus, rfl⟩ H31
        rw [List.drop_length] at hp
        cases hp
        rw [List.take_length] at hus
        have emap : cs.map (fun c => PD.s (signS c.toNat)) = (cs.map fun c => signS c.toNat).map PD.s := by rw [List.map_map]; rfl
        rw [emap] at hus
        have H32 := H31.weak (P' := strsP (cs.map fun c => signS c.toNat)) .here fun o q => ⟨us, hus, q⟩
        repeat' walk_at "go"
        with_reducible refine' r_join ?H ?hm ?hx ?hw ?_
        case H => exact H32
        case hm => walk_at "kn"
        case hx => decide
        case hw =>
          rw [signs_sum, List.length_map]
          lia
        intro t33 s33 H33
        repeat' walk_at "go"
        refine' r_insert (d := .s (nameOf cs)) ?H ?hd ?h0 ?h1 ?hz ?hl ?_
        case H => assumption
        case hl => walk_at "upd"; done
        case hd => exact ⟨_, rfl⟩
        case h0 => decide
        case h1 => decide
        case hz =>
          have := sizeLine_ge
          simp only [List.length_map]
          lia
        intro s34 H34
        have hz25 : ((xs.take t).map PD.s).length ≤ sizeLine := by
          have := sizeLine_ge
          simp only [List.length_map, List.length_take]
          lia
        repeat' walk_at "go"
        rename_i s35 H35
        have q1 : List.map PD.s (xs.take t) ++ [PD.s (nameOf cs)] = (xs.take (t + 1)).map PD.s := by
          rw [← List.take_append_getElem (by lia : t < xs.length), hx9]
          simp
        have q2 : (List.take (Int.toNat 0) (List.map PD.s row) ++ PD.s (nameOf cs) :: List.drop (Int.toNat 0) (List.map PD.s row)) = (nameOf cs :: row).map PD.s := rfl
        rw [show Txt.join (Str.ofString "") (List.map (fun c => signS c.toNat) cs) = nameOf cs from rfl, q1, q2] at H35
        have hlen : (nameOf cs :: row).length ≤ t + 1 := by simp only [List.length_cons]; lia
        have H36 := H35.pick (led' := (it, _) :: (nm, _) :: (rw, _) :: (rd, _) :: (s.heap.objs.size, _) :: (s.heap.objs.size + 1 + 1, _) :: (s.heap.objs.size + 1, _) :: tabL lamPos (env.qual ++ "<lambda>") tb) (by walk_at "pick"; exact Pick.skip (Pick.skip Pick.all))
        exact ⟨_, ex9 j (nameOf cs :: row) nm rw tb _ _ _ _ ⟨hrest', hlen, rfl⟩, H36⟩
    | old h0 hk =>
      rename_i kk
      repeat' walk_at "go"
      with_reducible refine' wif_f (by simp; lia) ?_
      repeat' walk_at "go"
      with_reducible refine' r_asgTup ?_ (sole_of hsc (by kernel_rfl)) (swapped_of hsc (by kernel_rfl))
      repeat' walk_at "go"
      rename_i t20 s20 H20
      have H21 := H20.perm (led' := tabL lamPos (env.qual ++ "<lambda>") tb ++ [(it, riP (0 + ((t + 1 : Nat) : Int) * 1) (((9 : Nat) : Int) - ((t + 1 : Nat) : Int)) 1), (nm, strsP (xs.take t)), (rw, strsP row), (rd, liP a j), (s.heap.objs.size, _), (s.heap.objs.size + 1 + 1, cellP (some (.ref rw))), (s.heap.objs.size + 1, cellP (some (.ref rd)))]) (List.perm_append_comm (l₁ := [_, _, _, _, _, _, _]))
      with_reducible refine' r_lam (pos := lamPos) (clos := [("row", s.heap.objs.size + 1 + 1)]) T' H21 X ?hcode ?hcl ?hdef ?_
      case hcl => exact closure_of hcells (by kernel_rfl)
      case hcode =>
        obtain ⟨pm, c, e1, e2⟩ := hcode
        obtain ⟨pm', e3⟩ := T.code.1
        rw [e3] at e1
        injection e1 with e1
        injection e1 with _ _ e1
        injection e1 with e1
        injection e1
        rw [e2]
        exact (‹Value.ref 194 = Value.ref c›).symm
      case hdef => rfl
      intro c' pm ctv f s22 H22
      simp only [tabL, List.cons_append, List.nil_append] at H22
      repeat' walk_at "go"
      have ekk : (kk : Int) + 1 - 1 = kk := by lia
      rw [ekk]
      have hk' : row[kk]? = some x9 := hk
      have hrow' : row.length ≤ 1000000 := by lia
      with_reducible refine' rowpop_call (y := x9) ?T ?H ?R ?hf ?hc ?hcr ?hl ?hk ?hz ?_
      case T => exact T'
      case H => exact H22
      case R => exact R₁
      case hf => exact List.mem_cons_self
      case hc => walk_at "mem"
      case hcr => walk_at "mem"
      case hl => walk_at "upd"; done
      case hk => exact hk'
      case hz => exact hrow'
      intro n23 t23 s23 H23
      repeat' walk_at "go"
      with_reducible refine' wif_f (by simp) ?_
      repeat' walk_at "go"
      refine' r_insert (d := .s x9) ?H ?hd ?h0 ?h1 ?hz ?hl ?_
      case H => assumption
      case hl => walk_at "upd"; done
      case hd => exact ⟨_, rfl⟩
      case h0 => decide
      case h1 => decide
      case hz =>
        have := sizeLine_ge
        have h1 := List.length_eraseIdx_le row kk
        simp only [List.length_map]
        lia
      intro s24 H24
      have hz25 : ((xs.take t).map PD.s).length ≤ sizeLine := by
        have := sizeLine_ge
        simp only [List.length_map, List.length_take]
        lia
      repeat' walk_at "go"
      rename_i s25 H25
      have q1 : List.map PD.s (xs.take t) ++ [PD.s x9] = (xs.take (t + 1)).map PD.s := by
        rw [← List.take_append_getElem (by lia : t < xs.length), hx9]
        simp
      have q2 : (List.take (Int.toNat 0) (List.map PD.s (row.eraseIdx kk)) ++ PD.s x9 :: List.drop (Int.toNat 0) (List.map PD.s (row.eraseIdx kk))) = (x9 :: row.eraseIdx kk).map PD.s := rfl
      rw [q1, q2] at H25
      have hlen : (x9 :: row.eraseIdx kk).length ≤ t + 1 := by
        have h1 := List.length_eraseIdx_le row kk
        simp only [List.length_cons]
        lia
      have H26 := H25.pick (led' := (it, _) :: (nm, _) :: (rw, _) :: (rd, _) :: (s.heap.objs.size, _) :: (s.heap.objs.size + 1 + 1, _) :: (s.heap.objs.size + 1, _) :: (tabAt, _) :: (c', _) :: []) (by walk_at "pick")
      exact ⟨_, ex9 j (x9 :: row.eraseIdx kk) nm rw (some c') _ _ _ _ ⟨hrest', hlen, rfl⟩, H26⟩
  · intro led' s' jJ H'
    refine el9 jJ fun i row nm rw tb tn td x y hE => ?_
    clear jJ
    obtain ⟨hrest, hrow, rfl⟩ := hE
    rw [show xs.drop 9 = [] from List.drop_of_length_le (by lia)] at hrest
    cases hrest
    rw [List.take_of_length_le (by lia)] at H'
    repeat' walk_at "go"
    with_reducible refine' r_listEnd (ds := ds) R₁.hd ?H ?hr ?hl ?_
    case H => exact H'
    case hr => walk_at "rem"; done
    case hl => exact .old List.mem_cons_self
    intro n40 s40 H40
    repeat' walk_at "go"
    with_reducible refine' r_eqL (ds := []) (k := 0) ?H ?R ?hn ?ha ?hb ?_
    case H => assumption
    case R => exact R₁.le (Nat.zero_le _)
    case hn => exact fun d hd => nomatch hd
    case ha => walk_at "kn"
    case hb => walk_at "kn"
    repeat' walk_at "go"
    rename_i n41 s41 H41
    have key : ∃ led1, St K' [(a, datP ds)] ((nm, strsP xs) :: (tabAt, tabQ) :: led1) s41 := by
      cases tb with
      | none =>
        have H42 := H41.pick (led' := (nm, strsP xs) :: (tabAt, tabP #[]) :: []) (by simp only [tabL]; walk_at "pick")
        exact ⟨[], H42.weak (.next .here) fun _ e => ⟨_, e⟩⟩
      | some c' =>
        have H42 := H41.pick (led' := (nm, strsP xs) :: (tabAt, tabP #[rawInt lamPos.line, rawInt lamPos.col, .ref c']) :: []) (by simp only [tabL]; walk_at "pick")
        exact ⟨[], H42.weak (.next .here) fun _ e => ⟨_, e⟩⟩
    obtain ⟨led1, H43⟩ := key
    have hnd := H43.nd
    simp only [List.map_cons, List.nodup_cons, List.mem_cons, not_or] at hnd
    exact h nm s41 (H.newBut H43 hK htab (.tail _ (.head _)) (.head _) hnd.1.1)
end
--@ b34
section
theorem ib_bind (va : Value) : ∀ S pm c, peek [] S (bindArgs (fnOf (fnName 14) (fnName 14) (fnParams 14) (fnBody 14) (fnScope 14) .none .none .none pm none (.ref c) .none) ⟨[va], []⟩) = some (([("code", va)] : List (Str × Value))) := by
  intro S pm c; kernel_rfl
theorem ib_fn : ((fnScope 14).kind = .function ∧ (fnScope 14).isCoroutine = false ∧ (fnScope 14).isGenerator = false) ∧ (∀ x ∈ (fnScope 14).names, x.2 ≠ .cell) := by decide +kernel
theorem ib_kinds : ∀ p ∈ ([("code", .local), ("ord", .globalImplicit), ("b1_set", .globalImplicit)] : List (Str × NameKind)), (fnScope 14).names.lookup p.1 = some p.2 ∧ (p.1 == ("__debug__" : Str)) = false := by decide +kernel
theorem ib_args (va : Value) : (∀ x ∈ ([("code", va)] : List (Str × Value)), (fnScope 14).names.lookup x.1 = some .local) := by
  intro x hx
  rw [List.mem_singleton.mp hx]
  exact (ib_kinds ("code", .local) (by simp)).1
theorem one_vs (x : Str) (va : Value) : ((([(x, some va)] : Vars)).map (·.1)).Nodup ∧ ∀ p ∈ ([(x, some va)] : Vars), ([(x, va)] : List (Str × Value)).reverse.lookup p.1 = p.2 := by
  refine ⟨List.nodup_cons.mpr ⟨fun q => (nomatch q), List.nodup_nil⟩, fun p hp => ?_⟩
  rw [List.mem_singleton.mp hp]
  simp
section
variable {prog : Program} {w : World} {A : Around} {E : Value → Shared → Prop} {K : Kx} {base led led' : Led} {s : Shared} {Q : Value → Shared → Prop}
theorem r_inSet {i : Int} {t : Tok} (T : TopF K.hT) (H : St K base led s) (h : ∀ s', St K base led s' → Q (.bool (b1S i)) s') : wpAny (model prog w) A (compareOp .In (.int i t) (.ref 102)) Q E s := by
  obtain ⟨o, es, ep, tt, ho, r⟩ := T.set prog w
  exact wpAny_inSet_of (knd := PySem.intKind prog w) (intKey prog w i t) rfl ⟨o, es, ep, tt, H.top _ _ ho, r⟩ (h _ (H.same rfl ⟨rfl, rfl, rfl⟩))
theorem inb1_call {c : Nat} {t : Tok} {k : Nat} (T : TopF K.hT) (H : St K base led s) (R : Room (k + 1) A) (h : ∀ s', St K base led s' → Q (.bool (b1S c)) s') : wpAny (model prog w) A (call (.ref 112) [.str (signS c) t]) Q E s := by
  refine call_fn [("code", some (.str (signS c) t))] [] [] H R T T.f112 (frag_nil _) ⟨fun p hp => (nomatch hp), List.nodup_nil⟩ (fun p hp => (nomatch hp)) (ib_bind _) ⟨ib_fn.1, ib_args _, ib_fn.2⟩ (one_vs _ _) ?_
  intro K' env s₁ T' hK X hsc hcells hle hr H₁ R₁
  have D := KD.ofS hsc ib_kinds
  conv => arg 3; arg 1; whnf
  repeat' walk_at "go"
  with_reducible refine' r_ordC ?H ?_
  case H => assumption
  intro t2 s2 H2
  repeat' walk_at "go"
  with_reducible refine' r_inSet ?T ?H ?_
  case T => exact T'
  case H => assumption
  intro s3 H3
  repeat' walk_at "go"
  exact h s3 (H.ext (H3.out hK (.head _)))
end
end
--@ b35
section
theorem mb_bind (va : Value) : ∀ S pm c, peek [] S (bindArgs (fnOf (fnName 16) (fnName 16) (fnParams 16) (fnBody 16) (fnScope 16) .none .none .none pm none (.ref c) .none) ⟨[va], []⟩) = some (([("code", va)] : List (Str × Value))) := by
  intro S pm c; kernel_rfl
theorem mb_fn : ((fnScope 16).kind = .function ∧ (fnScope 16).isCoroutine = false ∧ (fnScope 16).isGenerator = false) ∧ (∀ x ∈ (fnScope 16).names, x.2 ≠ .cell) := by decide +kernel
theorem mb_kinds : ∀ p ∈ ([("code", .local), ("r", .local), ("ord", .globalImplicit), ("b3_exceptions", .globalImplicit)] : List (Str × NameKind)), (fnScope 16).names.lookup p.1 = some p.2 ∧ (p.1 == ("__debug__" : Str)) = false := by decide +kernel
theorem mb_args (va : Value) : (∀ x ∈ ([("code", va)] : List (Str × Value)), (fnScope 16).names.lookup x.1 = some .local) := by
  intro x hx
  rw [List.mem_singleton.mp hx]
  exact (mb_kinds ("code", .local) (by simp)).1
theorem mb_vs (va : Value) : ((([("code", some va), ("r", none)] : Vars)).map (·.1)).Nodup ∧ ∀ p ∈ ([("code", some va), ("r", none)] : Vars), ([("code", va)] : List (Str × Value)).reverse.lookup p.1 = p.2 := by
  refine ⟨show (["code", "r"] : List Str).Nodup by decide +kernel, fun p hp => ?_⟩
  rcases List.mem_cons.mp hp with rfl | hp
  · rfl
  · rw [List.mem_singleton.mp hp]; kernel_rfl
noncomputable def mapB3 (c : Nat) : Str := match b3L.lookup (c : Int) with
  | some x => x
  | none => Txt.lower (signS c)
section
variable {prog : Program} {w : World} {A : Around} {E : Value → Shared → Prop} {K : Kx} {base led led' : Led} {s : Shared}
theorem r_getD3 {pl : Sem Bool} {Q : Value × List Value → Shared → Prop} (T : TopF K.hT) (H : St K base led s) (h : Q (.builtin "dict.get", [.ref 113]) s) : wpAny (model prog w) A (getMethod (.ref 113) "get" pl) Q E s := by
  obtain ⟨kvs, d, _⟩ := T.dic prog w
  have d' := (dic_is ((is_dic d).le H.top))
  exact getMethod_builtin d'.typeIs PySem.F.plainAttrs_dict PySem.F.slot_dict_get PySem.F.type_dict_get d'.mapOf.noDict h
theorem r_get3 {i : Int} {t : Tok} {Q : Value → Shared → Prop} (T : TopF K.hT) (H : St K base led s) (h1 : b3L.lookup i = none → ∀ s', St K base led s' → Q .none s') (h2 : ∀ x, b3L.lookup i = some x → ∀ t' s', St K base led s' → Q (.str x t') s') :
    wpAny (model prog w) A (call (.builtin "dict.get") [.ref 113, .int i t]) Q E s := by
  obtain ⟨kvs, d, f⟩ := T.dic prog w
  have d' := (dic_is ((is_dic d).le H.top))
  refine call_meetsIn PySem.F.slot_dict_get d'.typeIs PySem.F.entry_dict_get (PySem.F.args_dict_get_2 _ _) (meets_dict_get (PySem.intKind prog w) 113 (intKey prog w i t) (by decide)) ⟨_, d'.mapOf, ?_⟩
  have := f i
  cases e : b3L.lookup i with
  | none => rw [e] at this; simp only at this; rw [this]; exact h1 e _ (H.same rfl ⟨rfl, rfl, rfl⟩)
  | some x => rw [e] at this; obtain ⟨t', e'⟩ := this; rw [e']; exact h2 x e t' _ (H.same rfl ⟨rfl, rfl, rfl⟩)
theorem mapb3_call {c : Nat} {t : Tok} {k : Nat} {Q : Value → Shared → Prop} (T : TopF K.hT) (H : St K base led s) (R : Room (k + 1) A) (h : ∀ t' s', St K base led s' → Q (.str (mapB3 c) t') s') : wpAny (model prog w) A (call (.ref 158) [.str (signS c) t]) Q E s := by
  refine call_fn [("code", some (.str (signS c) t)), ("r", none)] [] [] H R T T.f158 (frag_nil _) ⟨fun p hp => (nomatch hp), List.nodup_nil⟩ (fun p hp => (nomatch hp)) (mb_bind _) ⟨mb_fn.1, mb_args _, mb_fn.2⟩ (mb_vs _) ?_
  intro K' env s₁ T' hK X hsc hcells hle hr H₁ R₁
  have D := KD.ofS hsc mb_kinds
  conv => arg 3; arg 1; whnf
  repeat' walk_at "go"
  with_reducible refine' r_getD3 ?T ?H ?_
  case T => exact T'
  case H => assumption
  repeat' walk_at "go"
  with_reducible refine' r_ordC ?H ?_
  case H => assumption
  intro t2 s2 H2
  repeat' walk_at "go"
  with_reducible refine' r_get3 ?T ?H ?_ ?_
  case T => exact T'
  case H => assumption
  · intro e s3 H3
    repeat' walk_at "go"
    with_reducible refine' r_getS ?sl ?ty ?_
    case sl => exact PySem.F.slot_str_lower
    case ty => exact PySem.F.type_str_lower
    with_reducible refine' callWith_method0 ?_
    refine PySem.SC.lower (fit_lower ?_) ?_
    · show (1 : Nat) ≤ _; decide
    · rename_i s4 H4
      have := h s4.toks _ (H.ext ((H4.same (s' := { s4 with toks := s4.toks + 1 }) rfl ⟨rfl, rfl, rfl⟩).out hK (.head _)))
      unfold mapB3 at this
      rw [e] at this
      exact this
  · intro x e t3 s3 H3
    repeat' walk_at "go"
    rename_i s4 H4
    have := h t3 _ (H.ext (H4.out hK (.head _)))
    unfold mapB3 at this
    rw [e] at this
    exact this
end
end
--@ b36
section
theorem fromIndex_nat (n : Nat) (e : Nat) : fromIndex n (e : Int) = e := by
  unfold fromIndex
  rw [if_neg (by lia)]
  lia
theorem gives_find_range (x y : Str) (e : Nat) (t u v z : Tok) : Gives (Builtin.«str.find» ⟨[.str x t, .str y u, .int 0 v, .int (e : Int) z], []⟩) (.int (match Builtin.Str.occurrences x y 0 (min e x.length) 1 with | k :: _ => (k : Int) | [] => -1)) := by
  show Gives (match Builtin.Str.occurrences x y (fromIndex x.length 0) (min (fromIndex x.length (e : Int)) x.length) 1 with | k :: _ => retInt k | [] => (do rule "str.find.not-found"; retInt (-1))) _
  rw [show fromIndex x.length 0 = 0 from fromIndex_nat _ 0, fromIndex_nat]
  cases Builtin.Str.occurrences x y 0 (min e x.length) 1 with
  | nil => exact .rule (.of_eq rfl)
  | cons k _ => exact .of_eq rfl
theorem gives_rfind_range (x y : Str) (e : Nat) (t u v z : Tok) : Gives (Builtin.«str.rfind» ⟨[.str x t, .str y u, .int 0 v, .int (e : Int) z], []⟩) (.int (match Builtin.Str.lastOccurrence x y 0 (min e x.length) with | some i => (i : Int) | none => -1)) := by
  show Gives (match Builtin.Str.lastOccurrence x y (fromIndex x.length 0) (min (fromIndex x.length (e : Int)) x.length) with | some i => retInt i | none => (do rule "str.rfind.not-found"; retInt (-1))) _
  rw [show fromIndex x.length 0 = 0 from fromIndex_nat _ 0, fromIndex_nat]
  cases Builtin.Str.lastOccurrence x y 0 (min e x.length) with
  | none => exact .rule (.of_eq rfl)
  | some i => exact .of_eq rfl
/-- the first place of a sign below an end -/
noncomputable def firstAt (x y : Str) (e : Nat) : Option Nat := (Builtin.Str.occurrences x y 0 (min e x.length) 1).head?
noncomputable def lastAt (x y : Str) (e : Nat) : Option Nat := Builtin.Str.lastOccurrence x y 0 (min e x.length)
noncomputable def placeI (o : Option Nat) : Int := match o with
  | some i => (i : Int)
  | none => -1
noncomputable def cutE (o : Option Nat) (e : Nat) : Nat := o.getD e
noncomputable def cutS (o : Option Nat) : Nat := match o with
  | some i => i + 1
  | none => 0
noncomputable def stripE (x : Str) : Nat := cutE (firstAt x ":" (cutE (firstAt x "\n" x.length) x.length)) (cutE (firstAt x "\n" x.length) x.length)
noncomputable def strip (x : Str) : Str := Txt.slice x (some ((cutS (lastAt x "." (stripE x)) : Nat) : Int)) (some ((stripE x : Nat) : Int))
theorem placeI_lt {o : Option Nat} (h : 0 ≤ placeI o) : ∃ i : Nat, o = some i ∧ placeI o = i := by
  cases o with
  | none => exact absurd h (by decide)
  | some i => exact ⟨i, rfl, rfl⟩
theorem placeI_no {o : Option Nat} (h : ¬ 0 ≤ placeI o) : o = none := by
  cases o with
  | none => rfl
  | some i => exact absurd (Int.natCast_nonneg i) h
section
variable {prog : Program} {w : World} {A : Around} {E : Value → Shared → Prop} {K : Kx} {base led led' : Led} {s : Shared} {Q : Value → Shared → Prop} {x y : Str} {t u : Tok}
theorem r_lenS (H : St K base led s) (hs : x.length < 2 ^ 60) (h : ∀ t s', St K base led s' → Q (.int (x.length : Int) t) s') : wpAny (model prog w) A (call (.builtin "len") [.str x t]) Q E s :=
  len_str (by lia) (h _ _ (H.same rfl ⟨rfl, rfl, rfl⟩))
theorem r_find1 (H : St K base led s) (h : ∀ t s', St K base led s' → Q (.int (placeI (firstAt x y x.length)) t) s') : wpAny (model prog w) A (call (.builtin "str.find") [.str x t, .str y u]) Q E s := by
  refine call_gives F.slot_str_find (typeIs_str _ _ _) F.entry_str_find (F.args_str_find_2 _ _) (gives_str_find x y t u) ?_
  have := h s.toks { s with toks := s.toks + 1 } (H.same rfl ⟨rfl, rfl, rfl⟩)
  unfold firstAt at this
  rw [Nat.min_self] at this
  show Q (.int _ _) _
  cases e : Builtin.Str.occurrences x y 0 x.length 1 with
  | nil => rw [e] at this; exact this
  | cons k _ => rw [e] at this; exact this
theorem r_find3 {e : Nat} {v z : Tok} (H : St K base led s) (h : ∀ t s', St K base led s' → Q (.int (placeI (firstAt x y e)) t) s') : wpAny (model prog w) A (call (.builtin "str.find") [.str x t, .str y u, .int 0 v, .int (e : Int) z]) Q E s := by
  refine call_gives F.slot_str_find (typeIs_str _ _ _) F.entry_str_find (F.args_str_find_4 _ _ _ _) (gives_find_range x y e t u v z) ?_
  have := h s.toks { s with toks := s.toks + 1 } (H.same rfl ⟨rfl, rfl, rfl⟩)
  unfold firstAt at this
  show Q (.int _ _) _
  cases e : Builtin.Str.occurrences x y 0 (min e x.length) 1 with
  | nil => rw [e] at this; exact this
  | cons k _ => rw [e] at this; exact this
theorem r_rfind3 {e : Nat} {v z : Tok} (H : St K base led s) (h : ∀ t s', St K base led s' → Q (.int (placeI (lastAt x y e)) t) s') : wpAny (model prog w) A (call (.builtin "str.rfind") [.str x t, .str y u, .int 0 v, .int (e : Int) z]) Q E s := by
  refine call_gives F.slot_str_rfind (typeIs_str _ _ _) F.entry_str_rfind (F.args_str_rfind_4 _ _ _ _) (gives_rfind_range x y e t u v z) ?_
  have := h s.toks { s with toks := s.toks + 1 } (H.same rfl ⟨rfl, rfl, rfl⟩)
  unfold lastAt at this
  show Q (.int _ _) _
  cases e : Builtin.Str.lastOccurrence x y 0 (min e x.length) with
  | none => rw [e] at this; exact this
  | some k => rw [e] at this; exact this
theorem r_sliceStr {value slice : Expr} {i j : Int} {ui uj : Tok} {b : Addr} {ops : List Value} (H : St K base led s) (hs : Kn base led b (slcP (.int i ui) (.int j uj) .none)) (hz : x.length ≤ sizeLine) (h : ∀ t s', St K base led s' → Q (.str (Txt.slice x (some i) (some j)) t) s')
    (hsub : subscripted slice false (.str x t) (.ref b) = operate ops (getItem (.str x t) (.ref b))) :
    wpAny (model prog w) A (subscriptTail value slice (.str x t) (.ref b)) Q E s := by
  obtain ⟨o, e, c, dd⟩ := H.has hs
  refine tail_any (typeIs_str _ _ _) F.slot_str_getitem.lookup (wpAny_getItem_str_slice (l := some (i, ui)) (u := some (j, uj)) (st := none) ⟨o, e, c, dd⟩ rfl
    (post_val_or_str ⟨Nat.le_trans (Txt.slice_le x _ _) hz, fun t' k => h _ _ (H.same rfl ⟨rfl, rfl, rfl⟩)⟩)) hsub
/-- a branch without an else: both ways end in one state -/
theorem r_if1 {p : Prop} [Decidable p] (P : Shared → Prop) {body : List Stmt} {env : Env} {Q : Flow → Shared → Prop} (h1 : p → wpAny (model prog w) A (execs body env) (fun f s' => f = .next ∧ P s') E s) (h2 : ¬ p → P s) (h3 : ∀ s', P s' → Q .next s') :
    if decide p = true then wpAny (model prog w) A (execs body env) Q E s else wpAny (model prog w) A (execs [] env) Q E s :=
  wif (fun q => wpAny_mono (h1 q) (fun f s' r => by obtain ⟨rfl, r⟩ := r; exact h3 _ r) fun _ _ e => e) fun q => wpAny_execs_nil (h3 _ (h2 q))
theorem sd_bind (va : Value) : ∀ S pm c, peek [] S (bindArgs (fnOf (fnName 11) (fnName 11) (fnParams 11) (fnBody 11) (fnScope 11) .none .none .none pm none (.ref c) .none) ⟨[va], []⟩) = some (([("msg", va)] : List (Str × Value))) := by
  intro S pm c; kernel_rfl
theorem sd_fn : ((fnScope 11).kind = .function ∧ (fnScope 11).isCoroutine = false ∧ (fnScope 11).isGenerator = false) ∧ (∀ x ∈ (fnScope 11).names, x.2 ≠ .cell) := by decide +kernel
theorem sd_kinds : ∀ p ∈ ([("msg", .local), ("start", .local), ("end", .local), ("i", .local), ("len", .globalImplicit)] : List (Str × NameKind)), (fnScope 11).names.lookup p.1 = some p.2 ∧ (p.1 == ("__debug__" : Str)) = false := by decide +kernel
theorem sd_args (va : Value) : (∀ x ∈ ([("msg", va)] : List (Str × Value)), (fnScope 11).names.lookup x.1 = some .local) := by
  intro x hx
  rw [List.mem_singleton.mp hx]
  exact (sd_kinds ("msg", .local) (by simp)).1
theorem sd_vs (va : Value) : ((([("msg", some va), ("start", none), ("end", none), ("i", none)] : Vars)).map (·.1)).Nodup ∧ ∀ p ∈ ([("msg", some va), ("start", none), ("end", none), ("i", none)] : Vars), ([("msg", va)] : List (Str × Value)).reverse.lookup p.1 = p.2 := by
  refine ⟨show (["msg", "start", "end", "i"] : List Str).Nodup by decide +kernel, fun p hp => ?_⟩
  simp only [List.mem_cons, List.not_mem_nil, or_false] at hp
  rcases hp with rfl | rfl | rfl | rfl
  · rfl
  all_goals kernel_rfl
theorem strip_call {k : Nat} (T : TopF K.hT) (H : St K base led s) (R : Room (k + 1) A) (hz : x.length ≤ 1000) (h : ∀ t' s', St K base led s' → Q (.str (strip x) t') s') : wpAny (model prog w) A (call (.ref 94) [.str x t]) Q E s := by
  refine call_fn [("msg", some (.str x t)), ("start", none), ("end", none), ("i", none)] [] [] H R T T.f94 (frag_nil _) ⟨fun p hp => (nomatch hp), List.nodup_nil⟩ (fun p hp => (nomatch hp)) (sd_bind _) ⟨sd_fn.1, sd_args _, sd_fn.2⟩ (sd_vs _) ?_
  intro K' env s₁ T' hK X hsc hcells hle hr H₁ R₁
  have D := KD.ofS hsc sd_kinds
  conv => arg 3; arg 1; whnf
  repeat' walk_at "go"
  with_reducible refine' r_swap2 "start" "end" R₁.hd ?_ (sole_of hsc (by kernel_rfl)) (swapped_of hsc (by kernel_rfl))
  repeat' walk_at "go"
  with_reducible refine' r_lenS ?H ?hs ?_
  case H => assumption
  case hs => lia
  intro t3 s3 H3
  repeat' walk_at "go"
  with_reducible refine' r_getS ?sl ?ty ?_
  case sl => exact PySem.F.slot_str_find
  case ty => exact PySem.F.type_str_find
  repeat' walk_at "go"
  with_reducible refine' r_find1 ?H ?_
  case H => assumption
  intro t4 s4 H4
  repeat' walk_at "go"
  rename_i t6 s6 H6
  with_reducible refine' r_if1 (fun s' => ∃ ts te ti, St K' [] [(s.heap.objs.size, nsP [("msg", some (.str x t)), ("start", some (.int 0 ts)), ("end", some (.int ((cutE (firstAt x "\n" x.length) x.length : Nat) : Int) te)), ("i", some (.int (placeI (firstAt x "\n" x.length)) ti))])] s') ?_ ?_ ?_
  · intro hp
    obtain ⟨i, ei, ej⟩ := placeI_lt hp
    repeat' walk_at "go"
    rename_i sx Hx
    rw [ei] at Hx ⊢
    exact ⟨rfl, _, _, _, Hx⟩
  · intro hp
    have := placeI_no hp
    rw [this] at H6 ⊢
    exact ⟨_, _, _, H6⟩
  · rintro s7 ⟨ts, te, ti, H7⟩
    generalize placeI _ = pi at H7
    generalize he : cutE (firstAt x "\n" x.length) x.length = e1 at H7
    repeat' walk_at "go"
    with_reducible refine' r_getS ?sl ?ty ?_
    case sl => exact PySem.F.slot_str_find
    case ty => exact PySem.F.type_str_find
    repeat' walk_at "go"
    with_reducible refine' r_find3 ?H ?_
    case H => assumption
    intro t8 s8 H8
    repeat' walk_at "go"
    rename_i t9 s9 H9
    with_reducible refine' r_if1 (fun s' => ∃ ts te ti, St K' [] [(s.heap.objs.size, nsP [("msg", some (.str x t)), ("start", some (.int 0 ts)), ("end", some (.int ((stripE x : Nat) : Int) te)), ("i", some (.int (placeI (firstAt x ":" e1)) ti))])] s') ?_ ?_ ?_
    · intro hp
      obtain ⟨i, ei, ej⟩ := placeI_lt hp
      repeat' walk_at "go"
      rename_i sx Hx
      unfold stripE
      rw [he]
      rw [ei] at Hx ⊢
      exact ⟨rfl, _, _, _, Hx⟩
    · intro hp
      have := placeI_no hp
      unfold stripE
      rw [he]
      rw [this] at H9 ⊢
      exact ⟨_, _, _, H9⟩
    · rintro s10 ⟨ts, te, ti, H10⟩
      generalize placeI _ = pi at H10
      repeat' walk_at "go"
      with_reducible refine' r_getS ?sl ?ty ?_
      case sl => exact PySem.F.slot_str_rfind
      case ty => exact PySem.F.type_str_rfind
      repeat' walk_at "go"
      with_reducible refine' r_rfind3 ?H ?_
      case H => assumption
      intro t11 s11 H11
      repeat' walk_at "go"
      rename_i t12 s12 H12
      with_reducible refine' r_if1 (fun s' => ∃ ts te ti, St K' [] [(s.heap.objs.size, nsP [("msg", some (.str x t)), ("start", some (.int ((cutS (lastAt x "." (stripE x)) : Nat) : Int) ts)), ("end", some (.int ((stripE x : Nat) : Int) te)), ("i", some (.int (placeI (lastAt x "." (stripE x))) ti))])] s') ?_ ?_ ?_
      · intro hp
        obtain ⟨i, ei, ej⟩ := placeI_lt hp
        repeat' walk_at "go"
        rename_i sx Hx
        rw [ei] at Hx ⊢
        exact ⟨rfl, _, _, _, Hx⟩
      · intro hp
        have := placeI_no hp
        rw [this] at H12 ⊢
        exact ⟨_, _, _, H12⟩
      · rintro s13 ⟨ts, te, ti, H13⟩
        repeat' walk_at "go"
        with_reducible refine' r_sliceStr ?H ?hs ?hz ?_ ?hsub
        case H => assumption
        case hs => walk_at "kn"
        case hz => have := sizeLine_ge; lia
        case hsub => with_unfolding_all rfl
        intro t14 s14 H14
        exact h t14 s14 (H.ext (H14.out hK (.tail _ (.head _))))
end
end
--@ b37
section
theorem items_all2 {P : Nat → Value → Prop} {ds : List PD} {acc : Array Value} {n : Nat} (h : ItemsOf P acc n) (hn : ds.length = n) (f : ∀ i v d, ds[i]? = some d → P i v → PD.is d v) : VS ds acc.toList := by
  obtain ⟨hz, hp⟩ := h
  have hl : acc.toList.length = ds.length := by rw [hn, ← hz]; simp
  have hq : ∀ i v, acc.toList[i]? = some v → P i v := fun i v e => hp i v (by simpa using e)
  clear hp hz hn
  generalize acc.toList = vs at hl hq
  induction ds generalizing vs P with
  | nil => cases vs with
    | nil => exact .nil
    | cons a b => simp at hl
  | cons d ds ih => cases vs with
    | nil => simp at hl
    | cons v vs =>
      exact .cons (f 0 v d rfl (hq 0 v rfl)) (ih (P := fun i v => P (i + 1) v) (fun i v d e p => f (i + 1) v d e p) vs (by simpa using hl) fun i v e => hq (i + 1) v e)
noncomputable def rangeD (a c : Int) (n : Nat) : List PD := (List.range n).map fun (i : Nat) => PD.i (a + (i : Int) * c)
noncomputable def signsD (x : Str) : List PD := x.cps.toList.map fun c => PD.s (signS c)
section
variable {prog : Program} {w : World} {A : Around} {E : Value → Shared → Prop} {K : Kx} {base led led' : Led} {s : Shared} {Q : Value → Shared → Prop} {x y : Str} {t u : Tok} {n : Addr}
theorem r_range2 {a b : Int} {t u : Tok} (H : St K base led s) (h : ∀ r s', St K base ((r, rngP a b 1) :: led) s' → Q (.ref r) s') : wpAny (model prog w) A (call (.type "range") [.int a t, .int b u]) Q E s :=
  call_range_2 (h _ _ (H.push _ ⟨_, _, _, rfl⟩ rfl rfl ⟨rfl, rfl, rfl⟩))
theorem r_listR {a b c : Int} (m : Nat) (hh : A.handled = none) (H : St K base led s) (hm : Kn base led n (rngP a b c)) (hs : Builtin.Range.small a b c = true) (hn : Builtin.Range.rangeSize a b c = m) (hz : m ≤ 1000000)
    (h : ∀ n s', St K base ((n, datP (rangeD a c m)) :: led) s' → Q (.ref n) s') : wpAny (model prog w) A (call (.type "list") [.ref n]) Q E s := by
  obtain ⟨o, e, t, u, v, rfl⟩ := H.has hm
  refine call_list_range hh e hs hn (by lia) fun h' tk acc' c' hk he hi => ?_
  refine h _ _ (H.add (s' := { heap := h', gens := s.gens, drawn := s.drawn, toks := tk, os := s.os }) hk ⟨rfl, rfl, rfl⟩ (get_size _) (.inl H.sz) ⟨_, he, acc'.toList, ?_, c', by simp [listObj]⟩)
  refine items_all2 hi (by simp [rangeD]) fun i v d hd hp => ?_
  unfold rangeD at hd
  rw [List.getElem?_map] at hd
  obtain ⟨j, hj, rfl⟩ := Option.map_eq_some_iff.mp hd
  have := List.getElem?_eq_some_iff.mp hj
  obtain ⟨_, e⟩ := this
  rw [List.getElem_range] at e
  subst e
  exact hp
theorem r_listS (hh : A.handled = none) (H : St K base led s) (hz : x.length ≤ 1000000) (h : ∀ n s', St K base ((n, datP (signsD x)) :: led) s' → Q (.ref n) s') : wpAny (model prog w) A (call (.type "list") [.str x t]) Q E s := by
  refine call_list_str hh x t (fun h' tk acc' c' hk he hi => ?_) (by have := sizeLine_ge; have : x.length = x.cps.size := rfl; lia)
  refine h _ _ (H.add (s' := { heap := h', gens := s.gens, drawn := s.drawn, toks := tk, os := s.os }) hk ⟨rfl, rfl, rfl⟩ (get_size _) (.inl H.sz) ⟨_, he, acc'.toList, ?_, c', by simp [listObj]⟩)
  refine items_all2 hi (by simp [signsD]) fun i v d hd hp => ?_
  unfold signsD at hd
  rw [List.getElem?_map] at hd
  obtain ⟨j, hj, rfl⟩ := Option.map_eq_some_iff.mp hd
  obtain ⟨c, u, e, rfl⟩ := hp
  rw [Array.getElem?_toList] at hj
  rw [hj] at e
  cases e
  exact ⟨u, rfl⟩
theorem r_addS (H : St K base led s) (hz : x.length + y.length ≤ 1000000) (h : ∀ t s', St K base led s' → Q (.str (x ++ y) t) s') : wpAny (model prog w) A (binaryOp .Add (.str x t) (.str y u)) Q E s :=
  PyProof.Rows.add_str (fun t' tk => h _ _ (H.same rfl ⟨rfl, rfl, rfl⟩)) (by have := sizeLine_ge; lia)
/-- an item of a tuple of plain data -/
theorem r_tupItem {value slice : Expr} {ds : List PD} {vs : List Value} {k : Int} (H : St K base led s) (hm : Kn base led n (tupP vs)) (hv : VS ds vs) (j : Nat) (hk : k = j) (d : PD) (hd : ds[j]? = some d) (hz : ds.length ≤ 1000000) (h : ∀ v s', PD.is d v → St K base led s' → Q v s')
    (hsub : subscripted slice false (.ref n) (.int k t) = operate [.ref n, .int k t] (getItem (.ref n) (.int k t))) :
    wpAny (model prog w) A (subscriptTail value slice (.ref n) (.int k t)) Q E s := by
  have ht := tup_is (H.has hm)
  obtain ⟨v, e, p⟩ := hv.get hd
  have hlt : j < ds.length := (List.getElem?_eq_some_iff.mp hd).1
  have hlen : vs.toArray.size = ds.length := by rw [List.size_toArray, hv.len]
  subst hk
  obtain ⟨o, e1, e2, n', e3⟩ := id ht
  have hT : s.TypeIs (.ref n) "tuple" := ⟨o, e1, e2⟩
  refine tail_any hT PyProof.Rows.slot_tuple_getitem.lookup (getItem_tuple ⟨o, e1, e2, n', e3⟩ (by lia) (by lia) (j := j) ?_ (by simpa using e) (h v s p H)) hsub
  unfold seqIndex?
  rw [hlen]
  have h1 : ¬ ((j : Int) < 0) := by lia
  simp only [h1, if_false]
  have h2 : (0 : Int) ≤ j ∧ (j : Int) < (ds.length : Int) := by lia
  simp [h2.2]
end
end
--@ b38
section
noncomputable def names4 : List Str := ["ss", "st", "fi", "ffl"]
noncomputable def lig4 : List Str := ["ß", "ﬆ", "ﬁ", "ﬄ"]
noncomputable def heads4 : List Str := ["", "m.", "m.n.", ".."]
noncomputable def tails5 : List Str := ["", ": x.y: z", "\n.z:\n.", ":\n.:", "\n: a.b\n"]
noncomputable def alph10 : List Int := [0, 1, 2, 4, 7, 8, 9, 10, 11, 12]
noncomputable def markD : List PD := [.i 173, .i 847, .i 6150, .i 6155, .i 6156, .i 6157, .i 8203, .i 8204, .i 8205, .i 8288, .i 65279] ++ rangeD 65024 1 16
noncomputable def markI (j : Nat) : Int := match markD[j]? with
  | some (.i k) => k
  | _ => 0
noncomputable def capOf (c : Nat) : Int := if c / 4 % 4 = 1 then 65 else 119808 + 52 * alph10.getD (c / 8640 % 10) 0
noncomputable def greatOf (cap : Int) (name : Str) : Str := Txt.join "" (name.cps.toList.map fun (n : Nat) => signS (cap + (n : Int) - 97).toNat)
noncomputable def markOf (c : Nat) : Str := signS (markI (c / 320 % 27)).toNat
noncomputable def nameOf4 (c : Nat) : Str := names4.getD (c % 4) ""
noncomputable def typedL (c : Nat) : List Str := [Txt.join (markOf c) ((nameOf4 c).cps.toList.map signS) ++ markOf c, greatOf (capOf c) (nameOf4 c), lig4.getD (c % 4) "", greatOf (capOf c) (nameOf4 c)]
noncomputable def lineOf (c : Nat) : Str := heads4.getD (c / 16 % 4) "" ++ (typedL c).getD (c / 4 % 4) "" ++ tails5.getD (c / 64 % 5) ""
theorem getD_D {ds : List PD} {xs : List Str} (e : ds = xs.map PD.s) {j : Nat} (h : j < xs.length) : ds[j]? = some (.s (xs.getD j "")) := by
  subst e
  rw [List.getElem?_map, List.getElem?_eq_getElem h, List.getD_eq_getElem?_getD, List.getElem?_eq_getElem h]
  rfl
theorem getD_I {ds : List PD} {xs : List Int} (e : ds = xs.map PD.i) {j : Nat} (h : j < xs.length) : ds[j]? = some (.i (xs.getD j 0)) := by
  subst e
  rw [List.getElem?_map, List.getElem?_eq_getElem h, List.getD_eq_getElem?_getD, List.getElem?_eq_getElem h]
  rfl
section
variable {prog : Program} {w : World} {A : Around} {E : Value → Shared → Prop} {K : Kx} {base led led' : Led} {s : Shared} {t : Tok} {n : Addr}
theorem r_ifv {α : Type} {p : Prop} [Decidable p] (P : α → Shared → Prop) {x y : Sem α} {Q : α → Shared → Prop} (h1 : p → wpAny (model prog w) A x P E s) (h2 : ¬ p → wpAny (model prog w) A y P E s) (h3 : ∀ v s', P v s' → Q v s') :
    if decide p = true then wpAny (model prog w) A x Q E s else wpAny (model prog w) A y Q E s :=
  wif (fun q => wpAny_mono (h1 q) h3 fun _ _ e => e) fun q => wpAny_mono (h2 q) h3 fun _ _ e => e
theorem r_ifb {α : Type} {b : Bool} (P : α → Shared → Prop) {x y : Sem α} {Q : α → Shared → Prop} (h1 : b = true → wpAny (model prog w) A x P E s) (h2 : b = false → wpAny (model prog w) A y P E s) (h3 : ∀ v s', P v s' → Q v s') :
    if b = true then wpAny (model prog w) A x Q E s else wpAny (model prog w) A y Q E s :=
  wif_b (fun q => wpAny_mono (h1 q) h3 fun _ _ e => e) fun q => wpAny_mono (h2 q) h3 fun _ _ e => e
theorem r_tupS {value slice : Expr} {vs : List Value} {k : Int} {Q : Value → Shared → Prop} (xs : List Str) (j : Nat) (H : St K base led s) (hm : Kn base led n (tupP vs)) (hv : VS (xs.map PD.s) vs) (hk : k = j) (hj : j < xs.length) (hz : xs.length ≤ 1000) (h : ∀ t s', St K base led s' → Q (.str (xs.getD j "") t) s')
    (hsub : subscripted slice false (.ref n) (.int k t) = operate [.ref n, .int k t] (getItem (.ref n) (.int k t))) :
    wpAny (model prog w) A (subscriptTail value slice (.ref n) (.int k t)) Q E s :=
  r_tupItem H hm hv j hk _ (getD_D rfl hj) (by rw [List.length_map]; lia) (fun v s' hv H' => by obtain ⟨t, rfl⟩ := hv; exact h t s' H') hsub
theorem r_tupI {value slice : Expr} {vs : List Value} {k : Int} {Q : Value → Shared → Prop} (xs : List Int) (j : Nat) (H : St K base led s) (hm : Kn base led n (tupP vs)) (hv : VS (xs.map PD.i) vs) (hk : k = j) (hj : j < xs.length) (hz : xs.length ≤ 1000) (h : ∀ t s', St K base led s' → Q (.int (xs.getD j 0) t) s')
    (hsub : subscripted slice false (.ref n) (.int k t) = operate [.ref n, .int k t] (getItem (.ref n) (.int k t))) :
    wpAny (model prog w) A (subscriptTail value slice (.ref n) (.int k t)) Q E s :=
  r_tupItem H hm hv j hk _ (getD_I rfl hj) (by rw [List.length_map]; lia) (fun v s' hv H' => by obtain ⟨t, rfl⟩ := hv; exact h t s' H') hsub
end
theorem divMod (c : Nat) (a b : Int) (a' b' : Nat) (ha : a = a') (hb : b = b') : Int.fmod (Int.fdiv (c : Int) a) b = ((c / a' % b' : Nat) : Int) := by
  subst ha; subst hb
  rw [fdivN, fmodN]
theorem markD_int : ∀ j, j < 27 → markD[j]? = some (.i (markI j)) ∧ 0 ≤ markI j ∧ markI j ≤ 1114111 := by decide +kernel
theorem alph_le : ∀ j, j < 10 → 0 ≤ alph10.getD j 0 ∧ alph10.getD j 0 ≤ 12 := by decide +kernel
theorem names_sign : ∀ j, j < 4 → (names4.getD j "").cps.size ≤ 3 ∧ ∀ n ∈ (names4.getD j "").cps.toList, 97 ≤ n ∧ n ≤ 122 := by decide +kernel
theorem join_bd (x : Str) (ys : List Str) : (Txt.join x ys).length ≤ (ys.map (·.length)).sum + ys.length * x.length := by
  rw [show Txt.join x ys = Str.join x ys from StrLaws.glued_eq_join x ys]
  exact StrLaws.join_length_le x ys
theorem ones_sum {α : Type} (f : α → Nat) : ∀ l : List α, ((l.map fun a => signS (f a)).map (·.length)).sum = l.length
  | [] => rfl
  | a :: l => by rw [List.map_cons, List.map_cons, List.sum_cons, ones_sum f l, List.length_cons]; show 1 + _ = _; lia
theorem ones_sum' (l : List Nat) : ((l.map signS).map (·.length)).sum = l.length := ones_sum id l
theorem lits_len : (∀ j, j < 4 → (lig4.getD j "").length ≤ 10 ∧ (heads4.getD j "").length ≤ 10) ∧ ∀ j, j < 5 → (tails5.getD j "").length ≤ 10 := by decide +kernel
theorem typed_len (c : Nat) : ((typedL c).getD (c / 4 % 4) "").length ≤ 20 := by
  have l4 : c % 4 < 4 := Nat.mod_lt _ (by decide)
  have h4 : c / 4 % 4 < 4 := Nat.mod_lt _ (by decide)
  have := (lits_len.1 (c % 4) l4).1
  have hns : (nameOf4 c).cps.size ≤ 3 := (names_sign _ l4).1
  unfold typedL
  generalize capOf c = cap
  have hml : (markOf c).length = 1 := rfl
  generalize markOf c = mark at hml
  generalize nameOf4 c = name at hns
  have hl3 : name.cps.toList.length ≤ 3 := by rw [Array.length_toList]; exact hns
  have hgl : (greatOf cap name).length ≤ 10 := by
    unfold greatOf
    have := join_bd "" (name.cps.toList.map fun (n : Nat) => signS (cap + (n : Int) - 97).toNat)
    rw [ones_sum (fun (n : Nat) => (cap + (n : Int) - 97).toNat) name.cps.toList] at this
    have h0 : ("" : Str).length = 0 := by decide +kernel
    rw [h0] at this
    lia
  have hjl : (Txt.join mark (name.cps.toList.map signS)).length ≤ 10 := by
    have := join_bd mark (name.cps.toList.map signS)
    rw [ones_sum', hml, List.length_map] at this
    lia
  generalize c / 4 % 4 = j at h4
  rcases (by lia : j = 0 ∨ j = 1 ∨ j = 2 ∨ j = 3) with rfl | rfl | rfl | rfl
  · show (_ ++ _ : Str).length ≤ _
    rw [Str.length_append]
    lia
  · show (greatOf cap name).length ≤ _
    lia
  · show (lig4.getD (c % 4) "").length ≤ _
    lia
  · show (greatOf cap name).length ≤ _
    lia
theorem line_len (c : Nat) : (lineOf c).length ≤ 100 := by
  have h1 := typed_len c
  have h2 := (lits_len.1 (c / 16 % 4) (Nat.mod_lt _ (by decide))).2
  have h3 := lits_len.2 (c / 64 % 5) (Nat.mod_lt _ (by decide))
  unfold lineOf
  rw [Str.length_append, Str.length_append]
  lia
theorem ll_bind (va : Value) : ∀ S pm c, peek [] S (bindArgs (fnOf (fnName 18) (fnName 18) (fnParams 18) (fnBody 18) (fnScope 18) .none .none .none pm none (.ref c) .none) ⟨[va], []⟩) = some (([("cell", va)] : List (Str × Value))) := by
  intro S pm c; kernel_rfl
theorem ll_fn : (fnScope 18).kind = .function ∧ (fnScope 18).isCoroutine = false ∧ (fnScope 18).isGenerator = false := by decide +kernel
theorem ll_cells (L : Nat) : cellsFrom (L + 1) (fnScope 18).names [] = ([("capital", L + 1)] : List (Str × Addr)) := by kernel_rfl
theorem ll_kinds : ∀ p ∈ ([("cell", .local), ("name", .local), ("mark", .local), ("capital", .cell), ("great", .local), ("typed", .local), ("chr", .globalImplicit), ("list", .globalImplicit), ("range", .globalImplicit)] : List (Str × NameKind)), (fnScope 18).names.lookup p.1 = some p.2 ∧ (p.1 == ("__debug__" : Str)) = false := by decide +kernel
theorem ll_nd : (["cell", "name", "mark", "great", "typed"] : List Str).Nodup := by decide +kernel
set_option maxHeartbeats 4000000 in
theorem line_call {prog : Program} {w : World} {A : Around} {E : Value → Shared → Prop} {Q : Value → Shared → Prop} {K : Kx} {base led : Led} {s : Shared} {c : Nat} {t : Tok} {k : Nat}
    (T : TopF K.hT) (H : St K base led s) (R : Room (k + 1) A) (h : ∀ t s', St K base led s' → Q (.str (lineOf c) t) s') :
    wpAny (model prog w) A (call (.ref 163) [.int c t]) Q E s := by
  refine call_fnC [("cell", some (.int c t)), ("name", none), ("mark", none), ("great", none), ("typed", none)] (fun L => [("capital", L + 1)]) (fun L => [(L + 1, none)]) [] [] H R T T.f163 (frag_nil _) ⟨fun p hp => (nomatch hp), List.nodup_nil⟩ (fun p hp => (nomatch hp)) (ll_bind _) ll_fn ll_cells
    (fun L => by kernel_rfl) (fun L => by kernel_rfl) (fun L => by kernel_rfl) ⟨ll_nd, by kernel_rfl⟩ ?_
  intro K' env s₁ T' hK X hsc hcells hle hr H₁ R₁
  have D := KD.ofS hsc ll_kinds
  have C : CK env [("capital", s.heap.objs.size + 1)] := CK.of hcells rfl
  simp only [List.map_cons, List.map_nil, List.cons_append, List.nil_append] at H₁
  conv => arg 3; arg 1; whnf
  have e4 : Int.fmod (c : Int) 4 = ((c % 4 : Nat) : Int) := fmodN c 4
  have l4 : c % 4 < 4 := Nat.mod_lt _ (by decide)
  repeat' walk_at "go"
  with_reducible refine' r_tupS names4 (c % 4) ?H ?hm ?hv ?hk ?hj ?hz ?_ ?hsub
  case H => assumption
  case hm => walk_at "kn"
  case hv => with_reducible unfold names4; simp only [List.map_cons, List.map_nil]; walk_at "vs"
  case hk => exact e4
  case hj => exact l4
  case hz => decide
  case hsub => with_unfolding_all rfl
  intro tn sn Hn
  repeat' walk_at "go"
  with_reducible refine' r_range2 ?H ?_
  case H => assumption
  intro nr sr Hr
  repeat' walk_at "go"
  with_reducible refine' r_listR 16 R₁.hd ?H ?hm ?hs ?hn ?hz ?_
  case H => assumption
  case hm => walk_at "kn"
  case hs => decide
  case hn => decide
  case hz => decide
  intro nl sl Hl
  have e27 : Int.fmod (Int.fdiv (c : Int) 320) 27 = ((c / 320 % 27 : Nat) : Int) := divMod c 320 27 320 27 rfl rfl
  obtain ⟨hmd, hm0, hm1⟩ := markD_int (c / 320 % 27) (Nat.mod_lt _ (by decide))
  repeat' walk_at "go"
  rw [e27]
  with_reducible refine' r_listTail (d := .i (markI (c / 320 % 27))) ?H ?hm ?h0 ?h1 ?hd ?_ ?hs
  case H => assumption
  case hm => walk_at "kn"
  case h0 => lia
  case h1 => lia
  case hd => exact hmd
  case hs => with_unfolding_all rfl
  rintro _ ⟨tm, rfl⟩
  repeat' walk_at "go"
  with_reducible refine' r_ifb (fun v s' => ∃ t' tm, v = .int (capOf c) t' ∧ St K' [] [(s.heap.objs.size, nsP [("cell", some (.int c t)), ("name", some (.str (nameOf4 c) tn)), ("mark", some (.str (markOf c) tm)), ("great", none), ("typed", none)]), (s.heap.objs.size + 1, cellP none)] s') ?_ ?_ ?_
  · intro hc
    rw [divMod c 4 4 4 4 rfl rfl, beq_iff_eq] at hc
    have hcap : capOf c = 65 := if_pos (by lia)
    repeat' walk_at "go"
    rename_i sx Hx
    rw [hcap]
    exact ⟨_, _, rfl, Hx.pick (.cons (.next (.next (.next (.next (.next .here))))) (.cons (.next (.next (.next (.next (.next .here))))) .nil))⟩
  · intro hc
    rw [divMod c 4 4 4 4 rfl rfl] at hc
    have hc' : ¬ ((c / 4 % 4 : Nat) : Int) = 1 := fun q => by rw [q] at hc; exact absurd hc (by decide)
    have hcap : capOf c = 119808 + 52 * alph10.getD (c / 8640 % 10) 0 := if_neg (by lia)
    repeat' walk_at "go"
    with_reducible refine' r_tupI alph10 (c / 8640 % 10) ?H ?hm ?hv ?hk ?hj ?hz ?_ ?hsub
    case H => assumption
    case hm => walk_at "kn"
    case hv => with_reducible unfold alph10; simp only [List.map_cons, List.map_nil]; walk_at "vs"
    case hk => exact divMod c 8640 10 8640 10 rfl rfl
    case hj => exact Nat.mod_lt _ (by decide)
    case hz => decide
    case hsub => with_unfolding_all rfl
    intro ta sa Ha
    repeat' walk_at "go"
    rename_i sx Hx
    rw [hcap]
    exact ⟨_, _, rfl, Hx.pick (.cons (.next (.next (.next (.next (.next (.next .here)))))) (.cons (.next (.next (.next (.next (.next (.next .here)))))) .nil))⟩
  · rintro v sc ⟨t', tm, rfl, Hc⟩
    have hns : (nameOf4 c).cps.size ≤ 3 ∧ ∀ n ∈ (nameOf4 c).cps.toList, 97 ≤ n ∧ n ≤ 122 := names_sign _ l4
    have hcb : 0 ≤ capOf c ∧ capOf c ≤ 119808 + 52 * 12 := by
      unfold capOf
      have := alph_le (c / 8640 % 10) (Nat.mod_lt _ (by decide))
      split <;> lia
    generalize hname : nameOf4 c = name at Hc hns
    generalize hcap : capOf c = cap at Hc hcb
    have hml : (markOf c).length = 1 := rfl
    generalize hmark : markOf c = mark at Hc hml
    repeat' walk_at "go"
    with_reducible refine' r_getS PySem.F.slot_str_join PySem.F.type_str_join ?_
    repeat' walk_at "go"
    with_reducible refine' r_comp1 (cl := [("capital", s.heap.objs.size + 1)]) K' [] R₁.hd X (closure_of hcells (by kernel_rfl)) ?hsc ?_ ?hs
    case hsc => exact ⟨rfl, by decide +kernel, by decide +kernel, rfl, rfl⟩
    case hs => intro _; rfl
    repeat' walk_at "go"
    with_reducible refine' r_iterS ?H ?_
    case H => assumption
    intro it s5 H5
    with_reducible refine' comp_text (fun n => some (.s (signS (cap + (n : Int) - 97).toNat))) ?H ?hz ?turn ?_
    case H => assumption
    case hz => have := sizeLine_ge; lia
    case turn =>
      intro n tn hn C' acc cenv E'' us P s'' X' hsc' hcl' H''
      have D' : KD cenv [("sign", .local), ("chr", .globalImplicit), ("ord", .globalImplicit), ("capital", .cell)] := KD.ofS (hsc'.trans (relabel_of hsc)) (by decide +kernel)
      have C'' : CK cenv [("capital", s.heap.objs.size + 1)] := CK.of hcl' rfl
      have hb := hns.2 n hn
      repeat' walk_at "go"
      with_reducible refine' r_ordC ?H ?_
      case H => assumption
      intro t6 s6 H6
      repeat' walk_at "go"
      exact ⟨_, rfl, PD.is_s _ _, by assumption⟩
    intro n7 s7 H7
    have egr : (name.cps.toList.filterMap fun (n : Nat) => some (PD.s (signS (cap + (n : Int) - 97).toNat))) = (name.cps.toList.map fun (n : Nat) => signS (cap + (n : Int) - 97).toNat).map PD.s := by
      rw [List.map_map, ← List.filterMap_eq_map]; rfl
    rw [egr] at H7
    have hl3 : name.cps.toList.length ≤ 3 := by rw [Array.length_toList]; exact hns.1
    have hsum := ones_sum (fun (n : Nat) => (cap + (n : Int) - 97).toNat) name.cps.toList
    repeat' walk_at "go"
    with_reducible refine' r_join ?H ?hm ?hx ?hw ?_
    case H => assumption
    case hm => walk_at "kn"
    case hx => decide
    case hw => rw [hsum, List.length_map]; lia
    intro t8 s8 H8
    repeat' walk_at "go"
    with_reducible refine' r_getS PySem.F.slot_str_join PySem.F.type_str_join ?_
    repeat' walk_at "go"
    with_reducible refine' r_listS R₁.hd ?H ?hz ?_
    case H => assumption
    case hz => show name.cps.size ≤ _; lia
    intro n9 s9 H9
    have esg : signsD name = (name.cps.toList.map signS).map PD.s := by unfold signsD; rw [List.map_map]; rfl
    rw [esg] at H9
    repeat' walk_at "go"
    have hsum2 := ones_sum' name.cps.toList
    with_reducible refine' r_join ?H ?hm ?hx ?hw ?_
    case H => assumption
    case hm => walk_at "kn"
    case hx => lia
    case hw => rw [hsum2, List.length_map]; lia
    intro t10 s10 H10
    have hjl : (Txt.join mark (name.cps.toList.map signS)).length ≤ 10 := by
      have := join_bd mark (name.cps.toList.map signS)
      rw [hsum2, hml, List.length_map] at this
      lia
    repeat' walk_at "go"
    with_reducible refine' r_addS ?H ?hz ?_
    case H => assumption
    case hz => lia
    intro t11 s11 H11
    repeat' walk_at "go"
    with_reducible refine' r_tupS lig4 (c % 4) ?H ?hm ?hv ?hk ?hj ?hz ?_ ?hsub
    case H => assumption
    case hm => walk_at "kn"
    case hv => with_reducible unfold lig4; simp only [List.map_cons, List.map_nil]; walk_at "vs"
    case hk => exact e4
    case hj => exact l4
    case hz => decide
    case hsub => with_unfolding_all rfl
    intro t12 s12 H12
    repeat' walk_at "go"
    with_reducible refine' r_tupS (typedL c) (c / 4 % 4) ?H ?hm ?hv ?hk ?hj ?hz ?_ ?hsub
    case H => assumption
    case hm => walk_at "kn"
    case hv =>
      with_reducible unfold typedL
      rw [hname, hmark, hcap]
      simp only [List.map_cons, List.map_nil]
      unfold greatOf
      walk_at "vs"
    case hk => exact divMod c 4 4 4 4 rfl rfl
    case hj => exact Nat.mod_lt _ (by decide)
    case hz => exact (by decide : (4 : Nat) ≤ 1000)
    case hsub => with_unfolding_all rfl
    intro t13 s13 H13
    have htl := typed_len c
    have hhl := (lits_len.1 (c / 16 % 4) (Nat.mod_lt _ (by decide))).2
    have htt := lits_len.2 (c / 64 % 5) (Nat.mod_lt _ (by decide))
    have hln : lineOf c = heads4.getD (c / 16 % 4) "" ++ (typedL c).getD (c / 4 % 4) "" ++ tails5.getD (c / 64 % 5) "" := rfl
    generalize (typedL c).getD (c / 4 % 4) "" = ty at H13 htl hln
    repeat' walk_at "go"
    with_reducible refine' r_tupS heads4 (c / 16 % 4) ?H ?hm ?hv ?hk ?hj ?hz ?_ ?hsub
    case H => assumption
    case hm => walk_at "kn"
    case hv => with_reducible unfold heads4; simp only [List.map_cons, List.map_nil]; walk_at "vs"
    case hk => exact divMod c 16 4 16 4 rfl rfl
    case hj => exact Nat.mod_lt _ (by decide)
    case hz => decide
    case hsub => with_unfolding_all rfl
    intro t14 s14 H14
    generalize heads4.getD (c / 16 % 4) "" = hd at H14 hhl hln
    repeat' walk_at "go"
    with_reducible refine' r_addS ?H ?hz ?_
    case H => assumption
    case hz => lia
    intro t15 s15 H15
    repeat' walk_at "go"
    with_reducible refine' r_tupS tails5 (c / 64 % 5) ?H ?hm ?hv ?hk ?hj ?hz ?_ ?hsub
    case H => assumption
    case hm => walk_at "kn"
    case hv => with_reducible unfold tails5; simp only [List.map_cons, List.map_nil]; walk_at "vs"
    case hk => exact divMod c 64 5 64 5 rfl rfl
    case hj => exact Nat.mod_lt _ (by decide)
    case hz => decide
    case hsub => with_unfolding_all rfl
    intro t16 s16 H16
    repeat' walk_at "go"
    with_reducible refine' r_addS ?H ?hz ?_
    case H => assumption
    case hz => rw [Str.length_append]; lia
    intro t17 s17 H17
    repeat' walk_at "go"
    have := h t17 s17 (H.ext (H17.out hK (by walk_at "mem")))
    rw [hln] at this
    exact this
end
--@ b39
section
theorem vs_ints : ∀ {ns : List Int} {vs : List Value}, VS (ns.map PD.i) vs → ∃ ps : List (Int × Tok), vs = ps.map (fun p => Value.int p.1 p.2) ∧ ps.map (·.1) = ns
  | [], vs, h => by have := h.nil_inv; subst this; exact ⟨[], rfl, rfl⟩
  | n :: r, vs, h => by
    obtain ⟨v, k, rfl, ⟨t, rfl⟩, hr⟩ := h.cons_inv
    obtain ⟨ps, rfl, e⟩ := vs_ints hr
    exact ⟨(n, t) :: ps, rfl, by rw [List.map_cons, e]⟩
section
variable {prog : Program} {w : World} {A : Around} {E : Value → Shared → Prop} {K : Kx} {base led led' : Led} {s : Shared} {Q : Value → Shared → Prop} {t u : Tok} {n a : Addr}
theorem r_min2 {x y : Int} (hh : A.handled = none) (H : St K base led s) (h : ∀ t s', St K base led s' → Q (.int (min x y) t) s') : wpAny (model prog w) A (call (.builtin "min") [.int x t, .int y u]) Q E s := by
  refine min_two_ints hh fun h' tk hk => ?_
  have H' : St K base led { heap := h', gens := s.gens, drawn := s.drawn, toks := tk, os := s.os } := H.le hk ⟨rfl, rfl, rfl⟩
  by_cases hc : y < x
  · rw [if_pos hc]
    have := h u _ H'
    rwa [Int.min_eq_right (by lia)] at this
  · rw [if_neg hc]
    have := h t _ H'
    rwa [Int.min_eq_left (by lia)] at this
theorem r_minL {ns : List Int} (hh : A.handled = none) (H : St K base led s) (hm : Kn base led n (intsP ns)) (hne : ns ≠ []) (h : ∀ m t s', m ∈ ns → (∀ b ∈ ns, m ≤ b) → St K base led s' → Q (.int m t) s') : wpAny (model prog w) A (call (.builtin "min") [.ref n]) Q E s := by
  obtain ⟨vs, hv, hx⟩ := dat_open (H.has hm)
  obtain ⟨ps, rfl, rfl⟩ := vs_ints hv
  have he : (ps.map fun p => Value.int p.1 p.2).toArray = intItems ps.toArray := by simp [intItems]
  have hli := lst_is hx
  rw [he] at hli
  have hsz : 0 < ps.toArray.size := by
    cases ps with
    | nil => exact absurd rfl hne
    | cons _ _ => simp
  refine min_intList hh hli hsz fun v h' tk hv hk => ?_
  obtain ⟨t, rfl⟩ := intItems_at hv
  obtain ⟨h1, h2⟩ := argBest_lt (numAt ps.toArray) (ps.toArray.size - 1)
  refine h _ t _ ?_ (fun b hb => ?_) (H.le hk ⟨rfl, rfl, rfl⟩)
  · rw [numAt_eq]; exact getD_mem (by rw [List.length_map]; simp at h1 hsz ⊢; lia)
  · obtain ⟨j, hj, rfl⟩ := mem_getD hb
    rw [List.length_map] at hj
    have := h2 j (by simp at hsz ⊢; lia)
    rw [numAt_eq ps.toArray j] at this
    exact this
end
section
variable {T : Type} [DecidableEq T] {prog : Program} {w : World} {A : Around} {E : Value → Shared → Prop} {K : Kx} {base led led' : Led} {s : Shared} {t u : Tok} {n a : Addr} {knd : PySem.KeyKind prog w T} {kvs : List (T × Value)} {kds : List (T × PD)} {k : T} {key : Value} {d : PD}
theorem r_getMD {pl : Sem Bool} {Q : Value × List Value → Shared → Prop} (H : St K base led s) (hm : Kn base led a (dpdP knd kds)) (h : Q (.builtin "dict.get", [.ref a]) s) : wpAny (model prog w) A (getMethod (.ref a) "get" pl) Q E s := by
  obtain ⟨kvs, q, hx⟩ := dpd_open (H.has hm)
  have d' := dic_is hx
  exact getMethod_builtin d'.typeIs PySem.F.plainAttrs_dict PySem.F.slot_dict_get PySem.F.type_dict_get d'.mapOf.noDict h
theorem r_dgetOr {z : Value} {Q : Value → Shared → Prop} (H : St K base led s) (hm : (a, dpdP knd kds) ∈ led) (hk : knd.is k key = true) (hz : PD.is d z) (h : ∀ v s', PD.is ((getD' kds k).getD d) v → St K base led s' → Q v s') :
    wpAny (model prog w) A (call (.builtin "dict.get") [.ref a, key, z]) Q E s := by
  obtain ⟨kvs, q, hx⟩ := dpd_open (H.here _ hm)
  have d' := dic_is hx
  refine call_meetsIn PySem.F.slot_dict_get d'.typeIs PySem.F.entry_dict_get (PySem.F.args_dict_get_3 _ _ _) (meets_dict_get_default knd a hk (noSys H hm) z) ⟨_, d'.mapOf, ?_⟩
  have := kv_get q k
  have H' : St K base led { heap := s.heap, gens := s.gens, drawn := s.drawn, toks := s.toks + 1, os := s.os } := H.same rfl ⟨rfl, rfl, rfl⟩
  cases e : getD' kds k with
  | none => rw [e] at this h; simp only at this; rw [this]; exact h z _ hz H'
  | some d' => rw [e] at this h; obtain ⟨v, e', p⟩ := this; rw [e']; exact h v _ p H'
/-- a dict of plain data is opened: its pairs and the turn of its table are told -/
theorem St.openD {led' : List (T × Value) → Nat → Led} (H : St K base led s) (hu : ∀ kvs ep, Upd led a (dpdP knd kds) (diaP knd kvs ep) (led' kvs ep)) : ∃ kvs ep, KV kds kvs ∧ St K base (led' kvs ep) s := by
  obtain ⟨o, e, kvs, q, ep, r⟩ := H.here _ (hu [] 0).mem
  exact ⟨kvs, ep, q, H.change (s' := s) (hu kvs ep) (fun _ _ _ e => e) (Rest.refl _) ⟨o, e, r⟩⟩
/-- a display of one pair -/
theorem r_dict1 (knd : PySem.KeyKind prog w T) (k : T) (d : PD) {kx vx : Expr} {env : Env} {pos : Pos} {Q : Value → Shared → Prop} (H : St K base led s)
    (h : ∀ n s', St K base ((n, dpdP knd []) :: led) s' → wpAny (model prog w) A (eval kx env) (fun kv s₁ => wpAny (model prog w) A (eval vx env) (fun v s₂ => knd.is k kv = true ∧ PD.is d v ∧ St K base ((n, dpdP knd []) :: led) s₂ ∧
      ∀ s', St K base ((n, dpdP knd [(k, d)]) :: led) s' → Q (.ref n) s') E s₁) E s') :
    wpAny (model prog w) A (eval (.Dict [some kx] [vx] pos) env) Q E s := by
  have H1 : St K base ((s.heap.objs.size, dpdP knd []) :: led) { s with heap := s.heap.push { cls := .type "dict", data := .dict #[] } } := by
    refine H.add (s' := { s with heap := s.heap.push { cls := .type "dict", data := .dict #[] } }) (Le.push _ _) ⟨rfl, rfl, rfl⟩ (get_size _) (.inl H.sz) ?_
    obtain ⟨o, e, q⟩ := is_dic (Heap.DictOf.new (knd := knd) s.heap)
    exact ⟨o, e, [], .nil, q⟩
  refine wpAny_Dict_walk (knd := knd) rfl rfl (by simp) (by show (1 : Nat) ≤ 15; decide) (pairTrees_cons_walk (wpAny_mono (h _ _ H1) (fun kv s₁ q => wpAny_mono q (fun v s₂ q => pairTrees_nil_walk ?_) fun _ _ e => e) fun _ _ e => e))
  obtain ⟨hk, hd, H2, hq⟩ := q
  obtain ⟨kvs0, q0, hx⟩ := dpd_open (H2.here _ (.head _))
  have := q0.nil_inv
  subst this
  refine ⟨[(k, v)], ?_, dic_is hx, fun h' hd' hs => hq _ (H2.change .here (LeBut.of_same hs) ⟨rfl, rfl, rfl⟩ ?_)⟩
  · exact ⟨hk, rfl, trivial⟩
  · obtain ⟨o, e, r⟩ := is_dic hd'
    exact ⟨o, e, [(k, v)], .one ⟨rfl, hd⟩, r⟩
end
/-! ### what _law_least computes -/
noncomputable def getN (l : List (Nat × Nat)) (k : Nat) : Option Nat := (l.find? fun p => p.1 = k).map (·.2)
noncomputable def setN (l : List (Nat × Nat)) (k v : Nat) : List (Nat × Nat) := if l.any (fun p => p.1 = k) then l.map (fun p => if p.1 = k then (p.1, v) else p) else l ++ [(k, v)]
noncomputable def emb (p : Nat × Nat) : Int × PD := ((p.1 : Int), PD.i (p.2 : Int))
theorem getD_emb (l : List (Nat × Nat)) (k : Nat) : getD' (l.map emb) (k : Int) = (getN l k).map fun v => PD.i (v : Int) := by
  unfold getD' getN
  induction l with
  | nil => rfl
  | cons p r ih =>
    rw [List.map_cons, List.find?_cons, List.find?_cons]
    by_cases e : p.1 = k
    · have e' : (emb p).1 = (k : Int) := by show (p.1 : Int) = k; rw [e]
      simp only [e, e', decide_true, Option.map_some]
      rfl
    · have e' : ¬ (emb p).1 = (k : Int) := by show ¬ (p.1 : Int) = k; lia
      simp only [e, e', decide_false]
      exact ih
theorem setD_emb (l : List (Nat × Nat)) (k v : Nat) : setD' (l.map emb) (k : Int) (.i (v : Int)) = (setN l k v).map emb := by
  have ha : (l.map emb).any (fun p => p.1 = (k : Int)) = l.any fun p => p.1 = k := by
    rw [List.any_map]
    congr 1
    funext p
    show decide ((p.1 : Int) = k) = decide (p.1 = k)
    simp only [Int.ofNat_inj]
  unfold setD' setN
  rw [ha]
  cases l.any fun p => decide (p.1 = k) with
  | true =>
    simp only [if_true]
    rw [List.map_map, List.map_map]
    apply List.map_congr_left
    intro p _
    show (if (p.1 : Int) = k then ((p.1 : Int), PD.i (v : Int)) else emb p) = emb (if p.1 = k then (p.1, v) else p)
    by_cases e : p.1 = k
    · rw [if_pos e, if_pos (by lia)]; rfl
    · rw [if_neg e, if_neg (by lia)]
  | false => simp only [Bool.false_eq_true, if_false]; rw [List.map_append]; rfl
noncomputable def heldN (d : Nat) : List Nat := (List.range 4).filter fun k => d / 2 ^ k % 2 ≠ 0
noncomputable def waysN (room kind d : Nat) : List Nat := if kind ∈ heldN d then [d] else if (heldN d).length = room then (heldN d).map fun k => d + 2 ^ kind - 2 ^ k else [d + 2 ^ kind]
noncomputable def priceN (kind d p : Nat) : Nat := if kind ∈ heldN d then p else p + 1
noncomputable def putN (price : Nat) (af : List (Nat × Nat)) (way : Nat) : List (Nat × Nat) := setN af way (min ((getN af way).getD 99) price)
noncomputable def deskN (room kind : Nat) (costs : List (Nat × Nat)) (af : List (Nat × Nat)) (d : Nat) : List (Nat × Nat) := (waysN room kind d).foldl (putN (priceN kind d ((getN costs d).getD 0))) af
noncomputable def stepN (room : Nat) (costs : List (Nat × Nat)) (kind : Nat) : List (Nat × Nat) := (costs.map (·.1)).foldl (deskN room kind costs) []
noncomputable def costsN (kinds : List Nat) (room : Nat) : List (Nat × Nat) := kinds.foldl (stepN room) [(0, 0)]
theorem setN_len (l : List (Nat × Nat)) (k v : Nat) : (setN l k v).length ≤ l.length + 1 := by
  unfold setN
  split <;> simp
theorem held_len (d : Nat) : (heldN d).length ≤ 4 := by
  have := List.length_filter_le (fun k => decide (d / 2 ^ k % 2 ≠ 0)) (List.range 4)
  simpa [heldN] using this
theorem ways_len (room kind d : Nat) : (waysN room kind d).length ≤ 4 := by
  unfold waysN
  have := held_len d
  split
  · simp
  · split
    · rw [List.length_map]; exact this
    · simp
theorem put_len (price : Nat) : ∀ (ws : List Nat) (af : List (Nat × Nat)), (ws.foldl (putN price) af).length ≤ af.length + ws.length
  | [], _ => Nat.le_refl _
  | w :: r, af => by
    have h1 := put_len price r (putN price af w)
    have h2 : (putN price af w).length ≤ af.length + 1 := setN_len _ _ _
    rw [List.foldl_cons, List.length_cons]
    lia
theorem desk_len (room kind : Nat) (costs : List (Nat × Nat)) : ∀ (ds : List Nat) (af : List (Nat × Nat)), (ds.foldl (deskN room kind costs) af).length ≤ af.length + 4 * ds.length
  | [], _ => Nat.le_refl _
  | d :: r, af => by
    have h1 := desk_len room kind costs r (deskN room kind costs af d)
    have h2 : (deskN room kind costs af d).length ≤ af.length + 4 := Nat.le_trans (put_len _ _ _) (by have := ways_len room kind d; lia)
    rw [List.foldl_cons, List.length_cons]
    lia
theorem step_len (room kind : Nat) (costs : List (Nat × Nat)) : (stepN room costs kind).length ≤ 4 * costs.length := by
  have := desk_len room kind costs (costs.map (·.1)) []
  rw [List.length_map] at this
  simpa [stepN] using this
theorem costs_len (room : Nat) : ∀ (ks : List Nat) (c : List (Nat × Nat)), (ks.foldl (stepN room) c).length ≤ c.length * 4 ^ ks.length
  | [], c => by simp
  | k :: r, c => by
    have h1 := costs_len room r (stepN room c k)
    have h2 := step_len room k c
    rw [List.foldl_cons, List.length_cons, Nat.pow_succ]
    have h3 := Nat.mul_le_mul_right (4 ^ r.length) h2
    have h4 : 4 * c.length * 4 ^ r.length = c.length * (4 ^ r.length * 4) := by rw [Nat.mul_comm 4 c.length, Nat.mul_assoc, Nat.mul_comm 4]
    lia
end
--@ b40
section
section
variable {T : Type} [DecidableEq T] {prog : Program} {w : World} {A : Around} {E : Value → Shared → Prop} {K : Kx} {base led led' : Led} {s : Shared} {a : Addr} {knd : PySem.KeyKind prog w T} {kvs : List (T × Value)} {ep : Nat}
theorem r_iterDA {Q : Value → Shared → Prop} (H : St K base led s) (hm : (a, diaP knd kvs ep) ∈ led) (h : ∀ it s', St K base ((it, kiP a 0 kvs.length ep) :: led) s' → Q (.ref it) s') : wpAny (model prog w) A (pyIter (.ref a)) Q E s :=
  wpAny_pyIter_dict (noSys H hm) (dia_is (H.here _ hm)) (h _ _ (H.push _ ⟨rfl, rfl⟩ rfl rfl ⟨rfl, rfl, rfl⟩))
theorem St.openR {kds : List (T × PD)} {rest : Led} (H : St K base led s) (r : Rem led (a, dpdP knd kds) rest) : ∃ kvs ep, KV kds kvs ∧ St K base ((a, diaP knd kvs ep) :: rest) s := by
  have H' := H.pick (.cons r .all)
  obtain ⟨o, e, kvs, q, ep, x⟩ := H'.here _ (.head _)
  exact ⟨kvs, ep, q, H'.change (s' := s) .here (fun _ _ _ e => e) (Rest.refl _) ⟨o, e, x⟩⟩
end
noncomputable abbrev natsD (ks : List Nat) : List PD := ks.map fun (k : Nat) => PD.i (k : Int)
theorem natsD_ints (ks : List Nat) : natsD ks = (ks.map fun (k : Nat) => (k : Int)).map PD.i := by rw [List.map_map]; rfl
theorem getN_some {l : List (Nat × Nat)} {d : Nat} (h : d ∈ l.map (·.1)) : ∃ v, getN l d = some v := by
  unfold getN
  induction l with
  | nil => cases h
  | cons p r ih =>
    rw [List.find?_cons]
    by_cases e : p.1 = d
    · exact ⟨p.2, by simp [e]⟩
    · rw [decide_eq_false e]
      rw [List.map_cons] at h
      rcases List.mem_cons.mp h with rfl | h
      · exact absurd rfl e
      · exact ih h
section
variable {prog : Program} {w : World} {A : Around} {E : Value → Shared → Prop} {K : Kx} {base led led' : Led} {s : Shared} {a : Addr}
theorem r_notinN {xs : List Nat} {y : Nat} {t : Tok} {Q : Value → Shared → Prop} (H : St K base led s) (hm : Kn base led a (datP (natsD xs))) (h : Q (.bool (!decide (y ∈ xs))) s) : wpAny (model prog w) A (compareOp .NotIn (.int (y : Int) t) (.ref a)) Q E s := by
  rw [natsD_ints] at hm
  refine r_notinI H hm ?_
  have e : decide ((y : Int) ∈ xs.map fun (k : Nat) => (k : Int)) = decide (y ∈ xs) := by
    apply decide_eq_decide.mpr
    constructor
    · intro q
      obtain ⟨z, hz, e⟩ := List.mem_map.mp q
      have : z = y := by lia
      exact this ▸ hz
    · intro q
      exact List.mem_map.mpr ⟨y, q, rfl⟩
  rw [e]
  exact h
variable {env : Env} {elt : Expr} {x : Str} {px : Pos} {ifs : List Expr} {scope : Scope} {cl : List (Str × Addr)} {R : Led → List PD → Prop} {it : Addr}
theorem comp_nats {xs : List Nat} (g : Nat → Option PD) (H : St K base ((it, liP a 0) :: led) s) (hm : Kn base led a (datP (natsD xs))) (hz : xs.length ≤ sizeLine) (turn : ∀ (y : Nat) t, y ∈ xs → TurnG prog w A K base led env elt x ifs scope cl it (.int (y : Int) t) (g y)) (h : R led (xs.filterMap g)) :
    CompRest prog w A K base env elt x px ifs scope cl R (.ref it) s := by
  refine comp_list (fun d => match d with | .i y => g y.toNat | _ => none) H hm (by rw [List.length_map]; exact hz) (fun d v hd hp => ?_) (by rw [List.filterMap_map]; exact h)
  obtain ⟨y, hy, rfl⟩ := List.mem_map.mp hd
  obtain ⟨t, rfl⟩ := hp
  exact turn y t hy
end
theorem sub_cast (d a b : Nat) (h : b ≤ d) : ((d : Int) + (a : Int) - (b : Int)) = ((d + a - b : Nat) : Int) := by lia
theorem bitTest (d i : Nat) : (Int.fmod (Int.fdiv (d : Int) ((2 : Int) ^ (0 + (i : Int) * 1).toNat)) 2 != 0) = decide (d / 2 ^ i % 2 ≠ 0) := by
  have e1 : (0 + (i : Int) * 1).toNat = i := by lia
  have e2 : ((2 : Int) ^ i) = ((2 ^ i : Nat) : Int) := by rw [Int.natCast_pow]; rfl
  rw [e1, e2, fdivN, show ((2 : Int)) = ((2 : Nat) : Int) from rfl, fmodN]
  cases d / 2 ^ i % 2 with
  | zero => rfl
  | succ n => rfl
theorem pow_small (i : Nat) (hi : i < 4) : ((2 : Int) ^ (0 + (i : Int) * 1).toNat) ≠ 0 ∧ ((2 : Int) ^ (0 + (i : Int) * 1).toNat).natAbs < 1073741824 := by
  rcases (by lia : i = 0 ∨ i = 1 ∨ i = 2 ∨ i = 3) with rfl | rfl | rfl | rfl <;> decide
theorem held_filter (d : Nat) : ((List.range 4).filterMap fun (k : Nat) => if d / 2 ^ k % 2 ≠ 0 then some (PD.i (k : Int)) else none) = natsD (heldN d) := by
  unfold heldN natsD
  generalize List.range 4 = l
  induction l with
  | nil => rfl
  | cons a l ih =>
    rw [List.filterMap_cons, List.filter_cons]
    by_cases h : d / 2 ^ a % 2 ≠ 0
    · simp only [if_pos h, decide_eq_true h, if_true, List.map_cons, ih]
    · rw [if_neg h, if_neg (by simpa using h)]; exact ih
theorem setN_pos (l : List (Nat × Nat)) (k v : Nat) : setN l k v ≠ [] := by
  unfold setN
  split
  · rename_i h
    cases l with
    | nil => simp at h
    | cons a r => simp
  · simp
theorem put_pos (price : Nat) : ∀ (ws : List Nat) (af : List (Nat × Nat)), ws ≠ [] ∨ af ≠ [] → ws.foldl (putN price) af ≠ []
  | [], af, h => h.elim (fun q => absurd rfl q) id
  | w :: r, af, _ => put_pos price r _ (.inr (setN_pos _ _ _))
theorem ways_pos {room : Nat} (hr : 1 ≤ room) (kind d : Nat) : waysN room kind d ≠ [] := by
  unfold waysN
  split
  · simp
  · split
    · intro q
      have := congrArg List.length q
      rw [List.length_map, List.length_nil] at this
      lia
    · simp
theorem desk_pos {room : Nat} (hr : 1 ≤ room) (kind : Nat) (costs : List (Nat × Nat)) : ∀ (ds : List Nat) (af : List (Nat × Nat)), ds ≠ [] ∨ af ≠ [] → ds.foldl (deskN room kind costs) af ≠ []
  | [], af, h => h.elim (fun q => absurd rfl q) id
  | d :: r, af, _ => desk_pos hr kind costs r _ (.inr (put_pos _ _ _ (.inl (ways_pos hr kind d))))
theorem step_pos {room : Nat} (hr : 1 ≤ room) (kind : Nat) {costs : List (Nat × Nat)} (h : costs ≠ []) : stepN room costs kind ≠ [] :=
  desk_pos hr kind costs _ _ (.inl fun q => h (List.map_eq_nil_iff.mp q))
theorem costs_pos {room : Nat} (hr : 1 ≤ room) : ∀ (ks : List Nat) (c : List (Nat × Nat)), c ≠ [] → ks.foldl (stepN room) c ≠ []
  | [], _, h => h
  | k :: r, _, h => costs_pos hr r _ (step_pos hr k h)
noncomputable def leastVals (ks : List Nat) (room : Nat) : List Nat := ((costsN ks room).map (·.1)).map fun d => (getN (costsN ks room) d).getD 0
theorem le_bind (va vr : Value) : ∀ S pm c, peek [] S (bindArgs (fnOf (fnName 22) (fnName 22) (fnParams 22) (fnBody 22) (fnScope 22) .none .none .none pm none (.ref c) .none) ⟨[va, vr], []⟩) = some (([("kinds", va), ("room", vr)] : List (Str × Value))) := by
  intro S pm c; kernel_rfl
theorem le_fn : (fnScope 22).kind = .function ∧ (fnScope 22).isCoroutine = false ∧ (fnScope 22).isGenerator = false := by decide +kernel
theorem le_cells (L : Nat) : cellsFrom (L + 1) (fnScope 22).names [] = ([("desk", L + 1 + 1 + 1), ("kind", L + 1 + 1), ("costs", L + 1)] : List (Str × Addr)) := by kernel_rfl
noncomputable abbrev leK : List (Str × NameKind) := [("kinds", .local), ("room", .local), ("costs", .cell), ("kind", .cell), ("after", .local), ("desk", .cell), ("held", .local), ("ways", .local), ("price", .local), ("way", .local), ("range", .globalImplicit), ("len", .globalImplicit), ("min", .globalImplicit)]
theorem le_kinds : ∀ p ∈ leK, (fnScope 22).names.lookup p.1 = some p.2 ∧ (p.1 == ("__debug__" : Str)) = false := by decide +kernel
theorem le_nd : (["kinds", "room", "after", "held", "ways", "price", "way"] : List Str).Nodup := by decide +kernel
noncomputable abbrev leV (a : Addr) (room : Nat) (t : Tok) (af hd wy pr wa : Option Value) : Vars := [("kinds", some (.ref a)), ("room", some (.int room t)), ("after", af), ("held", hd), ("ways", wy), ("price", pr), ("way", wa)]
set_option maxHeartbeats 8000000 in
theorem least_call {prog : Program} {w : World} {A : Around} {E : Value → Shared → Prop} {Q : Value → Shared → Prop} {K : Kx} {base led : Led} {s : Shared} {a : Addr} {ks : List Nat} {room : Nat} {t : Tok} {k : Nat}
    (T : TopF K.hT) (H : St K base led s) (R : Room (k + 1) A) (hm : Kn base led a (datP (natsD ks))) (hx : ks.length ≤ 9) (hks : ∀ k ∈ ks, k < 4)
    (hroom : 1 ≤ room) (h : ∀ (m : Nat) t s', m ∈ leastVals ks room → (∀ b ∈ leastVals ks room, m ≤ b) → St K base led s' → Q (.int (m : Int) t) s') :
    wpAny (model prog w) A (call (.ref 185) [.ref a, .int room t]) Q E s := by
  refine call_fnC (leV a room t none none none none none) (fun L => [("desk", L + 1 + 1 + 1), ("kind", L + 1 + 1), ("costs", L + 1)]) (fun L => [(L + 1 + 1 + 1, none), (L + 1 + 1, none), (L + 1, none)]) [] [(a, datP (natsD ks))] H R T T.f185 (frag_nil _) ⟨fun p hp => (nomatch hp), List.nodup_nil⟩ (fun p hp => ?_) (le_bind _ _) le_fn le_cells
    (fun L => by kernel_rfl) (fun L => by kernel_rfl) (fun L => by kernel_rfl) ⟨le_nd, by kernel_rfl⟩ ?_
  · rw [List.mem_singleton.mp hp]; exact ⟨H.has hm, fun q => (nomatch q)⟩
  · intro K' env s₁ T' hK X hsc hcells hle hr H₁ R₁
    have D : KD env leK := KD.ofS hsc le_kinds
    have C : CK env [("desk", s.heap.objs.size + 1 + 1 + 1), ("kind", s.heap.objs.size + 1 + 1), ("costs", s.heap.objs.size + 1)] := CK.of hcells rfl
    simp only [List.map_cons, List.map_nil, List.cons_append, List.nil_append] at H₁
    conv => arg 3; arg 1; whnf
    with_reducible refine' wpAny_execs_cons ?_
    with_reducible refine' r_assign ?_ ?hs
    case hs => rfl
    with_reducible refine' r_dict1 (PySem.intKind prog w) 0 (.i 0) ?H ?_
    case H => assumption
    intro ca s2 H2
    repeat' walk_at "go"
    refine ⟨intKey _ _ _ _, ⟨_, rfl⟩, by assumption, fun s3 H3 => ?_⟩
    repeat' walk_at "go"
    rename_i s4 H4 it s5 H5
    with_reducible refine' r_for (Src.list a (natsD ks) ?ht) (fun i led => ∃ ca dk kd af hd wy pr wa, led = [(ca, dpdP (PySem.intKind prog w) (((ks.take i).foldl (stepN room) [(0, 0)]).map emb)),
      (s.heap.objs.size, nsP (leV a room t af hd wy pr wa)), (s.heap.objs.size + 1 + 1 + 1, cellP dk), (s.heap.objs.size + 1 + 1, cellP kd), (s.heap.objs.size + 1, cellP (some (.ref ca)))]) R₁.hd H5 ⟨ca, none, none, none, none, none, none, none, rfl⟩ (fun _ _ _ => Kn.old List.mem_cons_self) ?_ ?_
    case ht => intro _ _; rfl
    · intro E' i v ex led s' hi jJ jV H'
      with_reducible refine' g_fora ?_
      intro Qf oF
      refine el8 jJ fun ca dk kd af hd wy pr wa hE => ?_
      clear jJ
      subst hE
      obtain ⟨rfl, d, hd', hv⟩ := jV
      obtain ⟨kind, hkd, rfl⟩ := map_get hd'
      obtain ⟨tk, rfl⟩ := hv
      simp only [List.nil_append, List.cons_append] at H'
      have hk4 : kind < 4 := hks kind (List.mem_of_getElem? hkd)
      have hst := foldl_take (stepN room) [(0, 0)] ks i kind hkd
      have hlen := costs_len room (ks.take i) [(0, 0)]
      rw [hst] at oF
      generalize (ks.take i).foldl (stepN room) [(0, 0)] = costs at H' hlen oF
      have hi9 : i < 9 := by rw [List.length_map] at hi; lia
      have hlen' : costs.length ≤ 262144 := by
        have h4 : 4 ^ (ks.take i).length ≤ 4 ^ 9 := Nat.pow_le_pow_right (by decide) (by rw [List.length_take]; lia)
        simp only [List.length_cons, List.length_nil] at hlen
        have : (4 : Nat) ^ 9 = 262144 := by decide
        lia
      repeat' walk_at "go"
      with_reducible refine' r_dict0 (PySem.intKind prog w) ?H ?_
      case H => assumption
      intro an s6 H6
      repeat' walk_at "go"
      rename_i s7 H7
      obtain ⟨kvs, ep, hkv, H8⟩ := H7.openR (knd := PySem.intKind prog w) (a := ca) (.next (.next .here))
      with_reducible refine' r_iterDA (knd := PySem.intKind prog w) (kvs := kvs) (ep := ep) ?H ?hm ?_
      case H => assumption
      case hm => walk_at "mem"; done
      intro it2 s9 H9
      have hkeys : kvs.map (·.1) = (costs.map (·.1)).map fun (d : Nat) => (d : Int) := by
        rw [kv_keys hkv, List.map_map, List.map_map]; rfl
      have hklen : kvs.length = costs.length := by rw [← hkv.len, List.length_map]
      with_reducible refine' r_for (Src.keys ca kvs ep ?ht) (fun j led => ∃ an dk hd wy pr wa, led = [(ca, diaP (PySem.intKind prog w) kvs ep), (an, dpdP (PySem.intKind prog w) ((((costs.map (·.1)).take j).foldl (deskN room kind costs) []).map emb)), (it, liP a (i + 1)),
        (s.heap.objs.size, nsP (leV a room t (some (.ref an)) hd wy pr wa)), (s.heap.objs.size + 1 + 1 + 1, cellP dk), (s.heap.objs.size + 1 + 1, cellP (some (.int kind tk))), (s.heap.objs.size + 1, cellP (some (.ref ca)))]) R₁.hd H9 ⟨an, dk, hd, wy, pr, wa, rfl⟩ ?hJ ?_ ?_
      case ht => intro _ _; rfl
      case hJ => rintro j led ⟨an, dk, hd, wy, pr, wa, rfl⟩; walk_at "kn"
      · intro E2 j v ex led s10 hj jJ jV H10
        with_reducible refine' g_fora ?_
        intro Qf oF
        refine el6 jJ fun an dk hd wy pr wa hE => ?_
        clear jJ
        subst hE
        obtain ⟨rfl, kk, xx, hkx, hkv'⟩ := jV
        obtain ⟨tv, rfl⟩ := Value.isInt_shape hkv'
        have hkk : (kvs.map (·.1))[j]? = some kk := by rw [List.getElem?_map, hkx]; rfl
        rw [hkeys] at hkk
        obtain ⟨d, hdj, rfl⟩ := map_get hkk
        simp only [List.nil_append, List.cons_append] at H10
        have hst2 := foldl_take (deskN room kind costs) [] (costs.map (·.1)) j d hdj
        have hlen2 := desk_len room kind costs ((costs.map (·.1)).take j) []
        rw [hst2] at oF
        generalize ((costs.map (·.1)).take j).foldl (deskN room kind costs) [] = af at H10 hlen2 oF
        simp only [List.length_nil, List.length_take, List.length_map] at hlen2
        repeat' walk_at "go"
        with_reducible refine' r_compTo1 (cl := [("desk", s.heap.objs.size + 1 + 1 + 1)]) K' [(a, datP (natsD ks))] R₁.hd X (swaps_of hsc (by kernel_rfl)) (closure_of hcells (by kernel_rfl)) ?hsc ?_ ?hs
        case hsc => exact ⟨rfl, by decide +kernel, by decide +kernel, rfl, rfl⟩
        case hs => intro _; rfl
        repeat' walk_at "go"
        with_reducible refine' r_iterR 4 ?H ?hm ?hn ?hs ?_
        case H => assumption
        case hm => walk_at "kn"
        case hn => decide
        case hs => decide
        intro it3 s11 H11
        with_reducible refine' comp_range (fun (k : Nat) => if d / 2 ^ k % 2 ≠ 0 then some (PD.i (k : Int)) else none) ?H ?hz ?turn ?_
        case H => assumption
        case hz => exact small_line rfl
        case turn =>
          intro q tq hq C' acc cenv E'' us P s'' X' hsc' hcl' H''
          have D' : KD cenv [("k", .local), ("desk", .cell)] := KD.ofS (hsc'.trans (relabel_of hsc)) (by decide +kernel)
          have C'' : CK cenv [("desk", s.heap.objs.size + 1 + 1 + 1)] := CK.of hcl' rfl
          obtain ⟨hp0, hp1⟩ := pow_small q hq
          repeat' walk_at "go"
          rw [bitTest]
          by_cases hb : d / 2 ^ q % 2 ≠ 0
          · rw [decide_eq_true hb]
            repeat' walk_at "go"
            have eq1 : (0 + (q : Int) * 1) = (q : Int) := by lia
            exact ⟨_, if_pos hb, ⟨_, congrArg (fun z => Value.int z _) eq1⟩, by assumption⟩
          · rw [decide_eq_false hb]
            exact ⟨if_neg hb, by assumption⟩
        intro Cc vsc nh s13 H13
        rw [held_filter] at H13
        repeat' walk_at "go"
        rename_i s14 H14
        refine ⟨_, H14, fun s15 H15 => ?_⟩
        repeat' walk_at "go"
        obtain ⟨price, hprice⟩ : ∃ pp, getN costs d = some pp := getN_some (List.mem_of_getElem? hdj)
        have hcost : ∃ v, valueAt kvs (d : Int) = some v ∧ PD.is (.i (price : Int)) v := by
          have := kv_get hkv (d : Int)
          rw [getD_emb, hprice] at this
          exact this
        obtain ⟨_, hva, tp, rfl⟩ := hcost
        with_reducible refine' r_swap2 "ways" "price" R₁.hd ?_ (sole_of hsc (by kernel_rfl)) (swapped_of hsc (by kernel_rfl))
        repeat' walk_at "go"
        with_reducible refine' r_dgetE (knd := PySem.intKind prog w) ?H ?hm ?hk ?hd ?_ ?hs
        case H => assumption
        case hm => walk_at "kn"
        case hk => walk_at "key"
        case hd => exact hva
        case hs => with_unfolding_all rfl
        intro s16 H16
        repeat' walk_at "go"
        rename_i nw0 sA HA s17 H17 s18 H18 s19 H19
        with_reducible refine' r_notinN ?H ?hm ?_
        case H => assumption
        case hm => walk_at "kn"
        repeat' walk_at "go"
        with_reducible refine' cut_if (P := fun f s' => f = Flow.next ∧ ∃ wn tp, St K' [(a, datP (natsD ks))] [(wn, datP (natsD (waysN room kind d))), (it2, kiP ca (j + 1) kvs.length ep), (ca, diaP (PySem.intKind prog w) kvs ep), (an, dpdP (PySem.intKind prog w) (af.map emb)), (it, liP a (i + 1)),
          (s.heap.objs.size, nsP (leV a room t (some (.ref an)) (some (.ref nh)) (some (.ref wn)) (some (.int (priceN kind d price : Nat) tp)) wa)), (s.heap.objs.size + 1 + 1 + 1, cellP (some (.int d tv))), (s.heap.objs.size + 1 + 1, cellP (some (.int kind tk))), (s.heap.objs.size + 1, cellP (some (.ref ca)))] s') (fun hc => ?_) (fun hc => ?_) ?_
        · have hnot : kind ∉ heldN d := by simpa using hc
          repeat' walk_at "go"
          with_reducible refine' r_swap2 "ways" "price" R₁.hd ?_ (sole_of hsc (by kernel_rfl)) (swapped_of hsc (by kernel_rfl))
          repeat' walk_at "go"
          have hhl := held_len d
          repeat' walk_at "go"
          have hlenb : (((natsD (heldN d)).length : Int) == (room : Int)) = decide ((heldN d).length = room) := by
            rw [List.length_map]
            by_cases e : (heldN d).length = room
            · rw [decide_eq_true e, e]; exact beq_self_eq_true _
            · rw [decide_eq_false e]; exact beq_eq_false_iff_ne.mpr (by lia)
          rw [hlenb]
          with_reducible refine' cut_if (P := fun v s' => ∃ wn, v = .ref wn ∧ St K' [(a, datP (natsD ks))] [(wn, datP (natsD (waysN room kind d))), (it2, kiP ca (j + 1) kvs.length ep), (ca, diaP (PySem.intKind prog w) kvs ep), (an, dpdP (PySem.intKind prog w) (af.map emb)), (it, liP a (i + 1)),
            (s.heap.objs.size, nsP (leV a room t (some (.ref an)) (some (.ref nh)) (some (.ref nw0)) (some (.int price tp)) wa)), (s.heap.objs.size + 1 + 1 + 1, cellP (some (.int d tv))), (s.heap.objs.size + 1 + 1, cellP (some (.int kind tk))), (s.heap.objs.size + 1, cellP (some (.ref ca)))] s') (fun hl => ?_) (fun hl => ?_) ?_
          · have hl' : (heldN d).length = room := of_decide_eq_true hl
            repeat' walk_at "go"
            with_reducible refine' r_comp1 (cl := [("kind", s.heap.objs.size + 1 + 1), ("desk", s.heap.objs.size + 1 + 1 + 1)]) K' [(a, datP (natsD ks))] R₁.hd X (closure_of hcells (by kernel_rfl)) ?hsc ?_ ?hs
            case hsc => exact ⟨rfl, by decide +kernel, by decide +kernel, rfl, rfl⟩
            case hs => intro _; rfl
            repeat' walk_at "go"
            with_reducible refine' comp_nats (fun k => some (.i ((d + 2 ^ kind - 2 ^ k : Nat) : Int))) ?H ?hm ?hz ?turn ?_
            case H => assumption
            case hm => walk_at "kn"
            case hz => have := sizeLine_ge; lia
            case turn =>
              intro q tq hq C' acc cenv E'' us P s'' X' hsc' hcl' H''
              have D' : KD cenv [("k", .local), ("desk", .cell), ("kind", .cell)] := KD.ofS (hsc'.trans (relabel_of hsc)) (by decide +kernel)
              have C'' : CK cenv [("kind", s.heap.objs.size + 1 + 1), ("desk", s.heap.objs.size + 1 + 1 + 1)] := CK.of hcl' rfl
              have hq2 := List.mem_filter.mp hq
              have hq4 : q < 4 := List.mem_range.mp hq2.1
              have hqd : 2 ^ q ≤ d := by
                have h1 : d / 2 ^ q % 2 ≠ 0 := by simpa using hq2.2
                have h2 : 0 < d / 2 ^ q := by
                  rcases Nat.eq_zero_or_pos (d / 2 ^ q) with e | e
                  · rw [e] at h1; exact absurd rfl h1
                  · exact e
                exact (Nat.div_pos_iff.mp h2).2
              repeat' walk_at "go"
              have e1 : ((2 : Int) ^ (kind : Int).toNat) = ((2 ^ kind : Nat) : Int) := by rw [Int.toNat_natCast, Int.natCast_pow]; rfl
              have e2 : ((2 : Int) ^ (q : Int).toNat) = ((2 ^ q : Nat) : Int) := by rw [Int.toNat_natCast, Int.natCast_pow]; rfl
              rw [e1, e2]
              exact ⟨_, rfl, ⟨_, congrArg (fun z => Value.int z _) (sub_cast d _ _ hqd)⟩, by assumption⟩
            intro nw s20 H20
            have ew : ((heldN d).filterMap fun k => some (PD.i ((d + 2 ^ kind - 2 ^ k : Nat) : Int))) = natsD (waysN room kind d) := by
              unfold waysN
              rw [if_neg hnot, if_pos hl', natsD, List.map_map]
              exact congrFun (List.filterMap_eq_map (f := fun (k : Nat) => PD.i ((d + 2 ^ kind - 2 ^ k : Nat) : Int))) _
            rw [ew] at H20
            refine oV.out ?_
            exact ⟨nw, rfl, H20.pick (by walk_at "pick")⟩
          · have hl' : ¬ (heldN d).length = room := fun q => hl (decide_eq_true q)
            repeat' walk_at "go"
            rename_i nw s20 H20
            have e1 : ((d : Int) + (2 : Int) ^ (kind : Int).toNat) = ((d + 2 ^ kind : Nat) : Int) := by rw [Int.toNat_natCast, Int.natCast_add, Int.natCast_pow]; rfl
            have ew : [PD.i ((d : Int) + (2 : Int) ^ (kind : Int).toNat)] = natsD (waysN room kind d) := by
              unfold waysN
              rw [if_neg hnot, if_neg hl', e1]
              rfl
            rw [ew] at H20
            exact ⟨nw, rfl, H20.pick (by walk_at "pick")⟩
          · rintro _ s20 ⟨nw, rfl, H20⟩
            repeat' walk_at "go"
            rename_i s21 H21
            have e1 : (price : Int) + 1 = ((priceN kind d price : Nat) : Int) := by unfold priceN; rw [if_neg hnot]; rfl
            rw [e1] at H21
            exact ⟨rfl, _, _, H21⟩
        · have hin : kind ∈ heldN d := by simpa using hc
          repeat' walk_at "go"
          have e1 : natsD (waysN room kind d) = [PD.i (d : Int)] := by unfold waysN; rw [if_pos hin]; rfl
          have e2 : priceN kind d price = price := if_pos hin
          refine ⟨rfl, nw0, tp, ?_⟩
          rw [e1, e2]
          exact H19.pick (by walk_at "pick")
        · rintro _ s20 ⟨rfl, wn, tp', H20⟩
          have hwl := ways_len room kind d
          have hde : deskN room kind costs af d = (waysN room kind d).foldl (putN (priceN kind d price)) af := by unfold deskN; rw [hprice]; rfl
          rw [hde] at oF
          generalize waysN room kind d = ws at H20 hwl oF
          generalize priceN kind d price = pr2 at H20 oF
          repeat' walk_at "go"
          rename_i it4 s21 H21
          with_reducible refine' r_for (Src.list wn (natsD ws) ?ht) (fun m led => ∃ wa, led = [(wn, datP (natsD ws)), (it2, kiP ca (j + 1) kvs.length ep), (ca, diaP (PySem.intKind prog w) kvs ep), (an, dpdP (PySem.intKind prog w) (((ws.take m).foldl (putN pr2) af).map emb)), (it, liP a (i + 1)),
            (s.heap.objs.size, nsP (leV a room t (some (.ref an)) (some (.ref nh)) (some (.ref wn)) (some (.int pr2 tp')) wa)), (s.heap.objs.size + 1 + 1 + 1, cellP (some (.int d tv))), (s.heap.objs.size + 1 + 1, cellP (some (.int kind tk))), (s.heap.objs.size + 1, cellP (some (.ref ca)))]) R₁.hd H21 ⟨wa, rfl⟩ ?hJ ?_ ?_
          case ht => intro _ _; rfl
          case hJ => rintro m led ⟨wa, rfl⟩; walk_at "kn"
          · intro E3 m v ex led s22 hm2 jJ jV H22
            with_reducible refine' g_fora ?_
            intro Qf oF
            obtain ⟨wa, rfl⟩ := jJ
            obtain ⟨rfl, dd, hdd, hvd⟩ := jV
            obtain ⟨way, hway, rfl⟩ := map_get hdd
            obtain ⟨tw, rfl⟩ := hvd
            simp only [List.nil_append, List.cons_append] at H22
            have hst3 := foldl_take (putN pr2) af ws m way hway
            have hlen3 := put_len pr2 (ws.take m) af
            rw [hst3] at oF
            generalize (ws.take m).foldl (putN pr2) af = ag at H22 hlen3 oF
            rw [List.length_take] at hlen3
            repeat' walk_at "go"
            with_reducible refine' r_getMD (knd := PySem.intKind prog w) ?H ?hm ?_
            case H => assumption
            case hm => walk_at "kn"
            repeat' walk_at "go"
            with_reducible refine' r_dgetOr (knd := PySem.intKind prog w) (k := (way : Int)) (d := .i 99) ?H ?hm ?hk ?hz ?_
            case H => assumption
            case hm => walk_at "mem"; done
            case hk => walk_at "key"
            case hz => walk_at "pdis"
            intro vg s23 hvg H23
            have eg : (getD' (ag.map emb) (way : Int)).getD (.i 99) = .i (((getN ag way).getD 99 : Nat) : Int) := by
              rw [getD_emb]
              cases getN ag way <;> rfl
            rw [eg] at hvg
            obtain ⟨tg, rfl⟩ := hvg
            repeat' walk_at "go"
            with_reducible refine' r_min2 R₁.hd ?H ?_
            case H => assumption
            intro t24 s24 H24
            repeat' walk_at "go"
            rename_i s25 H25
            have em : min (((getN ag way).getD 99 : Nat) : Int) (pr2 : Int) = ((min ((getN ag way).getD 99) pr2 : Nat) : Int) := by lia
            rw [em, setD_emb] at H25
            exact ⟨_, ⟨_, rfl⟩, H25⟩
          · rintro led' s22 ⟨wa, rfl⟩ H22
            rw [List.length_map, List.take_length] at H22
            repeat' walk_at "go"
            refine ⟨_, ex6 an (some (.int d tv)) (some (.ref nh)) (some (.ref wn)) (some (.int pr2 tp')) wa rfl, ?_⟩
            simp only [List.cons_append, List.nil_append]
            exact H22.pick (by walk_at "pick")
      · intro led' s10 jJ H10
        refine el6 jJ fun an dk hd wy pr wa hE => ?_
        clear jJ
        subst hE
        have htk : (costs.map (·.1)).take kvs.length = costs.map (·.1) := List.take_of_length_le (by rw [hklen, List.length_map]; exact Nat.le_refl _)
        rw [htk, show (costs.map (·.1)).foldl (deskN room kind costs) [] = stepN room costs kind from rfl] at H10
        repeat' walk_at "go"
        rename_i s11 H11
        refine ⟨_, ex8 an dk (some (.int kind tk)) (some (.ref an)) hd wy pr wa rfl, ?_⟩
        simp only [List.cons_append, List.nil_append]
        exact H11.pick (by walk_at "pick")
    · intro led' s6 jJ H6
      refine el8 jJ fun ca dk kd af hd wy pr wa hE => ?_
      clear jJ
      subst hE
      rw [List.length_map, List.take_length] at H6
      have hpos := costs_pos hroom ks [(0, 0)] (by simp)
      have hlen := costs_len room ks [(0, 0)]
      have hlen' : (ks.foldl (stepN room) [(0, 0)]).length ≤ 262144 := by
        have h4 : 4 ^ ks.length ≤ 4 ^ 9 := Nat.pow_le_pow_right (by decide) hx
        simp only [List.length_cons, List.length_nil] at hlen
        have : (4 : Nat) ^ 9 = 262144 := by decide
        lia
      have hvals : leastVals ks room = ((ks.foldl (stepN room) [(0, 0)]).map (·.1)).map fun d => (getN (ks.foldl (stepN room) [(0, 0)]) d).getD 0 := rfl
      generalize ks.foldl (stepN room) [(0, 0)] = costs at H6 hpos hlen' hvals
      obtain ⟨kvs, ep, hkv, H7⟩ := H6.openR (knd := PySem.intKind prog w) (a := ca) .here
      have hkeys : kvs.map (·.1) = (costs.map (·.1)).map fun (d : Nat) => (d : Int) := by
        rw [kv_keys hkv, List.map_map, List.map_map]; rfl
      have hklen : kvs.length = costs.length := by rw [← hkv.len, List.length_map]
      repeat' walk_at "go"
      with_reducible refine' r_comp1 (cl := [("costs", s.heap.objs.size + 1)]) K' [(a, datP (natsD ks))] R₁.hd X (closure_of hcells (by kernel_rfl)) ?hsc ?_ ?hs
      case hsc => exact ⟨rfl, by decide +kernel, by decide +kernel, rfl, rfl⟩
      case hs => intro _; rfl
      repeat' walk_at "go"
      with_reducible refine' r_iterDA (knd := PySem.intKind prog w) (kvs := kvs) (ep := ep) ?H ?hm ?_
      case H => assumption
      case hm => walk_at "mem"; done
      intro it2 s9 H9
      with_reducible refine' comp_keys (knd := PySem.intKind prog w) (kvs := kvs) (ep := ep) (fun k => getD' (costs.map emb) k) ?H ?hm ?hz ?turn ?_
      case H => assumption
      case hm => walk_at "kn"
      case hz => have := sizeLine_ge; lia
      case turn =>
        intro kk vk hkk hvk C' acc cenv E'' us P s'' X' hsc' hcl' H''
        have D' : KD cenv [("desk", .local), ("costs", .cell)] := KD.ofS (hsc'.trans (relabel_of hsc)) (by decide +kernel)
        have C'' : CK cenv [("costs", s.heap.objs.size + 1)] := CK.of hcl' rfl
        rw [hkeys] at hkk
        obtain ⟨d, hd, rfl⟩ := List.mem_map.mp hkk
        obtain ⟨price, hprice⟩ := getN_some hd
        have hcost : ∃ v, valueAt kvs (d : Int) = some v ∧ PD.is (.i (price : Int)) v := by
          have := kv_get hkv (d : Int)
          rw [getD_emb, hprice] at this
          exact this
        obtain ⟨_, hva, tp, rfl⟩ := hcost
        repeat' walk_at "go"
        with_reducible refine' r_dgetE (knd := PySem.intKind prog w) ?H ?hm ?hk ?hd ?_ ?hs
        case H => assumption
        case hm => walk_at "kn"
        case hk => exact hvk
        case hd => exact hva
        case hs => with_unfolding_all rfl
        intro s16 H16
        refine oV.out ?_
        refine ⟨.i price, ?_, PD.is_i _ _, H16⟩
        rw [getD_emb, hprice]
        rfl
      intro nl s10 H10
      have ev : ((kvs.map (·.1)).filterMap fun k => getD' (costs.map emb) k) = natsD (leastVals ks room) := by
        rw [hkeys, hvals, List.filterMap_map, natsD, List.map_map]
        have key : ∀ l : List Nat, (∀ d ∈ l, d ∈ costs.map (·.1)) → (l.filterMap ((fun k => getD' (costs.map emb) k) ∘ fun (d : Nat) => (d : Int))) = l.map ((fun (k : Nat) => PD.i (k : Int)) ∘ fun d => (getN costs d).getD 0) := by
          intro l
          induction l with
          | nil => intro _; rfl
          | cons d r ih =>
            intro hl
            obtain ⟨price, hprice⟩ := getN_some (hl d (.head _))
            have e1 : ((fun k => getD' (costs.map emb) k) ∘ fun (d : Nat) => (d : Int)) d = some (.i (price : Int)) := by
              show getD' (costs.map emb) (d : Int) = _
              rw [getD_emb, hprice]; rfl
            rw [List.filterMap_cons, e1, List.map_cons, ih fun d hd => hl d (.tail _ hd)]
            show _ :: _ = PD.i (((getN costs d).getD 0 : Nat) : Int) :: _
            rw [hprice]
            rfl
        exact key _ fun d hd => hd
      rw [ev] at H10
      rw [natsD_ints (leastVals ks room)] at H10
      repeat' walk_at "go"
      with_reducible refine' r_minL R₁.hd ?H ?hm ?hne ?_
      case H => assumption
      case hm => walk_at "kn"
      case hne =>
        intro q
        rw [hvals, List.map_eq_nil_iff, List.map_eq_nil_iff, List.map_eq_nil_iff] at q
        exact hpos q
      intro m t11 s11 hmem hmin H11
      obtain ⟨m', hm', rfl⟩ := List.mem_map.mp hmem
      repeat' walk_at "go"
      exact h m' t11 s11 hm' (fun b hb => Int.ofNat_le.mp (hmin _ (List.mem_map.mpr ⟨b, hb, rfl⟩))) (H.ext (H11.out hK (by walk_at "mem")))
end
--@ b41
section
theorem valueAt_stored {T : Type} [DecidableEq T] (kvs : List (T × Value)) (k : T) (v : Value) (x : T) : valueAt (stored kvs k v) x = if x = k then some v else valueAt kvs x := by
  unfold valueAt stored
  by_cases h : kvs.any (fun p => p.1 = k) = true
  · rw [if_pos h]
    induction kvs with
    | nil => simp at h
    | cons p r ih =>
      rw [List.map_cons, List.find?_cons, List.find?_cons]
      by_cases e : p.1 = k
      · rw [if_pos e]
        by_cases g : p.1 = x
        · simp only [g, decide_true]
          rw [if_pos (g ▸ e)]; rfl
        · simp only [g, decide_false]
          have hx : x ≠ k := fun q => g (e.trans q.symm)
          rw [if_neg hx]
          by_cases hr : r.any (fun p => p.1 = k) = true
          · rw [ih hr, if_neg hx]
          · have : r.map (fun p => if p.1 = k then (p.1, v) else p) = r := by
              conv => rhs; rw [← List.map_id r]
              apply List.map_congr_left
              intro q hq
              have : ¬ q.1 = k := fun e' => hr (List.any_eq_true.mpr ⟨q, hq, by simpa using e'⟩)
              simp [this]
            rw [this]
      · rw [if_neg e]
        have hr : r.any (fun p => p.1 = k) = true := by
          rw [List.any_cons] at h
          simpa [e] using h
        by_cases g : p.1 = x
        · simp only [g, decide_true]
          rw [if_neg (g ▸ e)]
        · simp only [g, decide_false]
          exact ih hr
  · rw [if_neg h, List.find?_append]
    by_cases g : x = k
    · subst g
      have : kvs.find? (fun p => decide (p.1 = x)) = none := by
        rw [List.find?_eq_none]
        intro q hq e'
        exact h (List.any_eq_true.mpr ⟨q, hq, e'⟩)
      rw [this]
      simp
    · rw [if_neg g]
      cases kvs.find? (fun p => decide (p.1 = x)) with
      | none => simp [Ne.symm g]
      | some q => rfl
theorem valueAt_merged {T : Type} [DecidableEq T] (ps : List (T × Value)) (x : T) : valueAt (merged [] ps) x = (ps.reverse.find? fun p => p.1 = x).map (·.2) := by
  have key : ∀ qs : List (T × Value), valueAt (merged [] qs.reverse) x = (qs.find? fun p => p.1 = x).map (·.2) := by
    intro qs
    induction qs with
    | nil => rfl
    | cons q r ih =>
      rw [List.reverse_cons]
      show valueAt ((r.reverse ++ [q]).foldl (fun acc kv => stored acc kv.1 kv.2) []) x = _
      rw [List.foldl_append]
      show valueAt (stored (merged [] r.reverse) q.1 q.2) x = _
      rw [valueAt_stored, ih, List.find?_cons]
      by_cases e : x = q.1
      · rw [if_pos e, decide_eq_true e.symm]; rfl
      · rw [if_neg e, decide_eq_false (Ne.symm e)]
  have := key ps.reverse
  rwa [List.reverse_reverse] at this
theorem ne_before {x : Str} : ∀ {xs : List Str} {j : Nat}, j < xs.idxOf x → ∀ h : j < xs.length, xs[j] ≠ x
  | [], j, _, h => absurd h (Nat.not_lt_zero _)
  | y :: r, j, hl, h => by
    rw [List.idxOf_cons] at hl
    by_cases e : y = x
    · subst e; simp at hl
    · cases j with
      | zero => exact e
      | succ j =>
        have e' : (y == x) = false := beq_eq_false_iff_ne.mpr e
        rw [e'] at hl
        simp only [cond_false] at hl
        exact ne_before (xs := r) (by lia) (by simpa using h)
section
variable {prog : Program} {w : World} {A : Around} {E : Value → Shared → Prop} {K : Kx} {base led led' : Led} {s : Shared} {a : Addr}
theorem r_indexS {xs : List Str} {x : Str} {t : Tok} {Q : Value → Shared → Prop} (H : St K base led s) (hm : Kn base led a (strsP xs)) (hx : x ∈ xs) (hz : xs.length ≤ 1000000) (h : ∀ t s', St K base led s' → Q (.int (xs.idxOf x : Nat) t) s') :
    wpAny (model prog w) A (call (.builtin "list.index") [.ref a, .str x t]) Q E s := by
  obtain ⟨vs, hv, hl⟩ := dat_open (H.has hm)
  obtain ⟨o, e, n, rfl⟩ := id hl
  have hlen : vs.length = xs.length := by rw [← hv.len, List.length_map]
  have hj : xs.idxOf x < xs.length := List.idxOf_lt_length_iff.mpr hx
  have hat : ∀ j (h : j < vs.length), valEqb vs[j] (.str x t) = decide (xs[j]'(hlen ▸ h) = x) := by
    intro j h
    have hd : (xs.map PD.s)[j]? = some (.s (xs[j]'(hlen ▸ h))) := by rw [List.getElem?_map, List.getElem?_eq_getElem (hlen ▸ h)]; rfl
    obtain ⟨v, ev, pv⟩ := hv.get hd
    rw [List.getElem?_eq_getElem h] at ev
    rw [Option.some.inj ev, valEqb_is rfl pv (PD.is_s x t)]
    rfl
  refine call_meets PySem.F.slot_list_index ⟨_, e, rfl⟩ PySem.F.entry_list_index (PySem.F.args_list_index_2 _ _) (MeetsSeq.list_index a vs.toArray n (.str x t) (fun y => valEqb y (.str x t)) (fun y hy => ?_) (xs.idxOf x) (by simpa [hlen] using hj) (by lia) ?_ ?_) ⟨e, h _ _ (H.same rfl ⟨rfl, rfl, rfl⟩)⟩
  · obtain ⟨d', hd', q⟩ := hv.mem y (by simpa using hy)
    obtain ⟨z, _, rfl⟩ := List.mem_map.mp hd'
    show MeetsSeq.EqGives y (.str x t) (valEqb y (.str x t))
    rw [valEqb_is (d := .s z) (e := .s x) rfl q (PD.is_s x t)]
    exact eqGives_pd rfl q (PD.is_s x t)
  · show valEqb vs[xs.idxOf x] (.str x t) = true
    rw [hat _ (by lia)]
    simp
  · intro j hjs hlt
    show valEqb vs[j] (.str x t) = false
    rw [hat _ (by simpa using hjs)]
    exact decide_eq_false (ne_before hlt _)
end
/-! ### the shelves -/
noncomputable abbrev Shelf := List (Str × Addr × List Int)
noncomputable def shelfL (ls : Shelf) : Led := ls.map fun p => (p.2.1, intsP p.2.2)
noncomputable def upF (x : Str) (f : List Int → List Int) : Shelf → Shelf
  | [] => []
  | p :: r => if p.1 = x then (p.1, p.2.1, f p.2.2) :: r else p :: upF x f r
theorem upF_upd {x : Str} {f : List Int → List Int} : ∀ {ls : Shelf} {p : Str × Addr × List Int}, ls.find? (fun p => p.1 = x) = some p → Upd (shelfL ls) p.2.1 (intsP p.2.2) (intsP (f p.2.2)) (shelfL (upF x f ls))
  | [], _, h => nomatch h
  | q :: r, p, h => by
    rw [List.find?_cons] at h
    by_cases e : q.1 = x
    · rw [decide_eq_true e] at h
      cases h
      unfold upF
      rw [if_pos e]
      exact .here
    · rw [decide_eq_false e] at h
      unfold upF
      rw [if_neg e]
      exact .next (upF_upd h)
theorem upF_keys (x : Str) (f : List Int → List Int) : ∀ ls : Shelf, (upF x f ls).map (fun p => (p.1, p.2.1)) = ls.map fun p => (p.1, p.2.1)
  | [] => rfl
  | q :: r => by
    unfold upF
    split
    · rfl
    · rw [List.map_cons, List.map_cons, upF_keys x f r]
theorem upF_find (x : Str) (f : List Int → List Int) (y : Str) : ∀ ls : Shelf, ((upF x f ls).find? fun p => p.1 = y).map (·.2) = if x = y then ((ls.find? fun p => p.1 = y).map (·.2)).map (fun q => (q.1, f q.2)) else (ls.find? fun p => p.1 = y).map (·.2)
  | [] => by simp [upF]
  | q :: r => by
    have ih := upF_find x f y r
    unfold upF
    by_cases e : q.1 = x
    · rw [if_pos e]
      by_cases e2 : x = y
      · have e3 : q.1 = y := e.trans e2
        simp [List.find?_cons, e2, e3]
      · have e3 : ¬ q.1 = y := fun q' => e2 (e.symm.trans q')
        simp [List.find?_cons, e2, e3]
    · rw [if_neg e]
      by_cases e3 : q.1 = y
      · have e2 : ¬ x = y := fun q' => e (e3.trans q'.symm)
        simp [List.find?_cons, e2, e3]
      · rw [List.find?_cons, decide_eq_false e3, List.find?_cons, decide_eq_false e3]
        exact ih
theorem shelf_mem {x : Str} : ∀ {ls : Shelf} {p : Str × Addr × List Int}, ls.find? (fun p => p.1 = x) = some p → (p.2.1, intsP p.2.2) ∈ shelfL ls := fun h => List.mem_map.mpr ⟨_, List.mem_of_find?_eq_some h, rfl⟩
end
--@ b42
section
/-! ### rows of places -/
theorem bi_split (A B : List Int) (x : Int) (hA : ∀ a ∈ A, a ≤ x) (hB : ∀ b ∈ B, x < b) : biR (A ++ B) x = A.length := by
  refine biR_eq A.length (by simp) fun j hj => ?_
  by_cases h : j < A.length
  · rw [List.getElem_append_left h]
    exact ⟨fun _ => h, fun _ => hA _ (List.getElem_mem h)⟩
  · rw [List.getElem_append_right (by lia)]
    have := hB _ (List.getElem_mem (l := B) (n := j - A.length) (by rw [List.length_append] at hj; lia))
    exact ⟨fun q => absurd q (by lia), fun q => absurd q h⟩
theorem bl_split (A B : List Int) (x : Int) (hA : ∀ a ∈ A, a < x) (hB : ∀ b ∈ B, x ≤ b) : biL (A ++ B) x = A.length := by
  refine biL_eq A.length (by simp) fun j hj => ?_
  by_cases h : j < A.length
  · rw [List.getElem_append_left h]
    exact ⟨fun _ => h, fun _ => hA _ (List.getElem_mem h)⟩
  · rw [List.getElem_append_right (by lia)]
    have := hB _ (List.getElem_mem (l := B) (n := j - A.length) (by rw [List.length_append] at hj; lia))
    exact ⟨fun q => absurd q (by lia), fun q => absurd q h⟩
theorem ins_split (A B : List Int) (x : Int) (hA : ∀ a ∈ A, a < x) (hB : ∀ b ∈ B, x < b) : insR (A ++ B) x = A ++ x :: B ∧ insL (A ++ B) x = A ++ x :: B := by
  unfold insR insL
  rw [bi_split A B x (fun a h => Int.le_of_lt (hA a h)) hB, bl_split A B x hA fun b h => Int.le_of_lt (hB b h)]
  simp
theorem filter_ins (P : Nat → Bool) (p : Nat) (hp : P p = false) : ∀ l : List Nat, l.Pairwise (· < ·) → p ∈ l → ∃ A B, l.filter P = A ++ B ∧ l.filter (fun q => P q || decide (q = p)) = A ++ p :: B ∧ (∀ a ∈ A, a < p) ∧ (∀ b ∈ B, p < b)
  | [], _, h => nomatch h
  | a :: r, hl, h => by
    rw [List.pairwise_cons] at hl
    by_cases e : a = p
    · subst e
      refine ⟨[], r.filter P, ?_, ?_, fun a h => (nomatch h), fun b hb => hl.1 b (List.mem_filter.mp hb).1⟩
      · rw [List.filter_cons, hp]; rfl
      · rw [List.filter_cons]
        simp only [decide_true, Bool.or_true, if_true, List.nil_append]
        congr 1
        apply List.filter_congr
        intro q hq
        have : q ≠ a := fun e => Nat.lt_irrefl _ (e ▸ hl.1 q hq)
        simp [this]
    · have hr : p ∈ r := (List.mem_cons.mp h).resolve_left (Ne.symm e)
      obtain ⟨A, B, h1, h2, h3, h4⟩ := filter_ins P p hp r hl.2 hr
      cases hP : P a with
      | true =>
        refine ⟨a :: A, B, ?_, ?_, fun b hb => ?_, h4⟩
        · rw [List.filter_cons, hP, h1]; rfl
        · rw [List.filter_cons, hP, h2]; rfl
        · rcases List.mem_cons.mp hb with rfl | hb
          · exact hl.1 p hr
          · exact h3 b hb
      | false =>
        refine ⟨A, B, ?_, ?_, h3, h4⟩
        · rw [List.filter_cons, hP, h1]; rfl
        · rw [List.filter_cons, hP, decide_eq_false e, h2]; rfl
noncomputable def order9 : List Nat := [0, 8, 1, 7, 2, 6, 3, 5, 4]
/-- the places of a name that are laid after some turns -/
noncomputable def rowP (xs : List Str) (t : Nat) (y : Str) (q : Nat) : Bool := decide (xs[q]? = some y) && (order9.take t).contains q
noncomputable def rowAt (xs : List Str) (t : Nat) (y : Str) : List Int := ((List.range 9).filter (rowP xs t y)).map fun (q : Nat) => (q : Int)
theorem rowAt_len (xs : List Str) (t : Nat) (y : Str) : (rowAt xs t y).length ≤ 9 := by
  unfold rowAt
  rw [List.length_map]
  have := List.length_filter_le (rowP xs t y) (List.range 9)
  simpa using this
theorem range9 : (List.range 9).Pairwise (· < ·) := by decide
theorem order_new : ∀ t, t < 9 → (order9.take t).contains (order9.getD t 0) = false ∧ order9.getD t 0 < 9 ∧ ∀ q, q < 9 → (order9.take (t + 1)).contains q = ((order9.take t).contains q || decide (q = order9.getD t 0)) := by decide
theorem rowAt_step (xs : List Str) (t : Nat) (ht : t < 9) (x : Str) (hx : xs[order9.getD t 0]? = some x) :
    insR (rowAt xs t x) (order9.getD t 0 : Nat) = rowAt xs (t + 1) x ∧ insL (rowAt xs t x) (order9.getD t 0 : Nat) = rowAt xs (t + 1) x := by
  obtain ⟨h1, h2, h3⟩ := order_new t ht
  generalize order9.getD t 0 = p at *
  have hP : rowP xs t x p = false := by unfold rowP; rw [h1]; simp
  obtain ⟨A, B, e1, e2, hA, hB⟩ := filter_ins (rowP xs t x) p hP (List.range 9) range9 (List.mem_range.mpr h2)
  have e3 : (List.range 9).filter (rowP xs (t + 1) x) = A ++ p :: B := by
    rw [← e2]
    apply List.filter_congr
    intro q hq
    unfold rowP
    rw [h3 q (List.mem_range.mp hq)]
    by_cases e : q = p
    · subst e; simp [hx]
    · simp [e]
  unfold rowAt
  rw [e1, e3, List.map_append, List.map_append, List.map_cons]
  exact ins_split _ _ _ (fun a ha => by obtain ⟨a, h, rfl⟩ := List.mem_map.mp ha; have := hA a h; lia) (fun b hb => by obtain ⟨b, h, rfl⟩ := List.mem_map.mp hb; have := hB b h; lia)
theorem rowAt_other (xs : List Str) (t : Nat) (ht : t < 9) (x y : Str) (hx : xs[order9.getD t 0]? = some x) (hy : y ≠ x) : rowAt xs (t + 1) y = rowAt xs t y := by
  obtain ⟨_, _, h3⟩ := order_new t ht
  generalize order9.getD t 0 = p at *
  unfold rowAt
  congr 1
  apply List.filter_congr
  intro q hq
  unfold rowP
  rw [h3 q (List.mem_range.mp hq)]
  by_cases e : q = p
  · subst e
    have : ¬ x = y := Ne.symm hy
    simp [hx, this]
  · simp [e]
theorem row_end (xs : List Str) (y : Str) : rowAt xs 9 y = ((List.range 9).filter fun q => decide (xs[q]? = some y)).map fun (q : Nat) => (q : Int) := by
  unfold rowAt
  congr 1
  apply List.filter_congr
  intro q hq
  have : ∀ q, q < 9 → (order9.take 9).contains q = true := by decide
  unfold rowP
  rw [this q (List.mem_range.mp hq), Bool.and_true]
/-- the place of a name's next use after a place -/
noncomputable def soonN (xs : List Str) (i : Nat) (y : Str) : Nat := i + 1 + (xs.drop (i + 1)).idxOf y
theorem head_idx (y : Str) : ∀ rest : List Str, ((List.range rest.length).filter fun q => decide (rest[q]? = some y)).headD rest.length = rest.idxOf y
  | [] => rfl
  | x :: r => by
    rw [List.length_cons, List.range_succ_eq_map, List.filter_cons, List.idxOf_cons]
    by_cases e : x = y
    · subst e; simp
    · have e' : (x == y) = false := beq_eq_false_iff_ne.mpr e
      have ih := head_idx y r
      rw [e']
      simp only [List.getElem?_cons_zero, Option.some.injEq, e, decide_false, Bool.false_eq_true, if_false, cond_false]
      rw [List.filter_map]
      have e2 : ((fun q => decide ((x :: r)[q]? = some y)) ∘ Nat.succ) = fun q => decide (r[q]? = some y) := by
        funext q; simp
      rw [e2, ← ih]
      cases (List.range r.length).filter fun q => decide (r[q]? = some y) with
      | nil => rfl
      | cons a l => rfl
theorem row_soon (xs : List Str) (hx : xs.length = 9) (i : Nat) (hi : i < 9) (y : Str) :
    biR (rowAt xs 9 y) i = biL (rowAt xs 9 y) ((i : Int) + 1) ∧ ((rowAt xs 9 y).map PD.i ++ [PD.i 9])[(biR (rowAt xs 9 y) i).toNat]? = some (.i (soonN xs i y : Nat)) := by
  rw [row_end]
  have hsplit : List.range 9 = List.range (i + 1) ++ (List.range (8 - i)).map (i + 1 + ·) := by
    rw [← List.range_add]
    congr 1
    lia
  rw [hsplit, List.filter_append, List.map_append]
  generalize hAe : ((List.range (i + 1)).filter fun q => decide (xs[q]? = some y)).map (fun (q : Nat) => (q : Int)) = A
  generalize hBe : (((List.range (8 - i)).map (i + 1 + ·)).filter fun q => decide (xs[q]? = some y)).map (fun (q : Nat) => (q : Int)) = B
  have hA : ∀ a ∈ A, a ≤ (i : Int) := by
    intro a ha
    rw [← hAe] at ha
    obtain ⟨q, hq, rfl⟩ := List.mem_map.mp ha
    have := List.mem_range.mp (List.mem_filter.mp hq).1
    lia
  have hB : ∀ b ∈ B, (i : Int) < b := by
    intro b hb
    rw [← hBe] at hb
    obtain ⟨q, hq, rfl⟩ := List.mem_map.mp hb
    obtain ⟨z, _, rfl⟩ := List.mem_map.mp (List.mem_filter.mp hq).1
    lia
  rw [bi_split A B i hA hB, bl_split A B ((i : Int) + 1) (fun a h => by have := hA a h; lia) fun b h => by have := hB b h; lia]
  refine ⟨rfl, ?_⟩
  rw [Int.toNat_natCast, List.map_append, List.append_assoc, List.getElem?_append_right (by rw [List.length_map]; exact Nat.le_refl _), List.length_map, Nat.sub_self]
  have hd := head_idx y (xs.drop (i + 1))
  have hdl : (xs.drop (i + 1)).length = 8 - i := by rw [List.length_drop]; lia
  rw [hdl] at hd
  have hB2 : B = ((List.range (8 - i)).filter fun q => decide ((xs.drop (i + 1))[q]? = some y)).map fun (q : Nat) => ((i + 1 + q : Nat) : Int) := by
    rw [← hBe, List.filter_map, List.map_map]
    congr 1
    apply List.filter_congr
    intro q _
    show decide (xs[i + 1 + q]? = some y) = _
    rw [List.getElem?_drop]
  rw [hB2]
  unfold soonN
  rw [← hd]
  cases (List.range (8 - i)).filter fun q => decide ((xs.drop (i + 1))[q]? = some y) with
  | nil =>
    simp only [List.map_nil, List.nil_append, List.getElem?_cons_zero, List.headD_nil]
    congr 2
    lia
  | cons a l => rfl
/-! ### the stack that looks ahead -/
noncomputable def mergeF (soon : Str → Nat) (st : List Str × Str) (one : Str) : List Str × Str := if soon one < soon st.2 then (st.1 ++ [one], st.2) else (st.1 ++ [st.2], one)
noncomputable def restack (soon : Str → Nat) (name : Str) : List Str → List Str → List Str
  | [], rest => name :: rest
  | p :: r, rest => (r.foldl (mergeF soon) ([name], p)).1 ++ (r.foldl (mergeF soon) ([name], p)).2 :: rest
noncomputable def aboveOf (stack : List Str) (name : Str) : List Str := if name ∈ stack then stack.take (stack.idxOf name) else stack
noncomputable def aheadF (xs : List Str) (st : List Nat × List Str) (name : Str) : List Nat × List Str :=
  (st.1 ++ [if name ∈ st.2 then (aboveOf st.2 name).length + 1 else 0], restack (soonN xs st.1.length) name (aboveOf st.2 name) (st.2.drop ((aboveOf st.2 name).length + 1)))
noncomputable def aheads (xs : List Str) : List Nat := (xs.foldl (aheadF xs) ([], [])).1
theorem ahead_len (xs : List Str) : ∀ (l : List Str) (st : List Nat × List Str), (l.foldl (aheadF xs) st).1.length = st.1.length + l.length
  | [], st => rfl
  | x :: r, st => by
    rw [List.foldl_cons, ahead_len xs r, List.length_cons]
    unfold aheadF
    rw [List.length_append]
    simp only [List.length_cons, List.length_nil]
    lia
theorem merge_len (soon : Str → Nat) : ∀ (l : List Str) (st : List Str × Str), (l.foldl (mergeF soon) st).1.length = st.1.length + l.length
  | [], _ => rfl
  | x :: r, st => by
    have h1 : (mergeF soon st x).1.length = st.1.length + 1 := by unfold mergeF; split <;> simp
    rw [List.foldl_cons, merge_len soon r, h1, List.length_cons]
    lia
theorem stack_len (xs : List Str) (st : List Nat × List Str) (x : Str) : (aheadF xs st x).2.length ≤ st.2.length + 1 := by
  unfold aheadF
  have ha : (aboveOf st.2 x).length ≤ st.2.length := by
    unfold aboveOf
    split
    · rw [List.length_take]; lia
    · exact Nat.le_refl _
  have hd : (st.2.drop ((aboveOf st.2 x).length + 1)).length = st.2.length - ((aboveOf st.2 x).length + 1) := List.length_drop
  generalize aboveOf st.2 x = ab at *
  generalize st.2.drop (ab.length + 1) = rest at *
  cases ab with
  | nil => show (x :: rest).length ≤ _; rw [List.length_cons]; simp only [List.length_nil] at hd; lia
  | cons p r =>
    show (_ ++ _ :: rest).length ≤ _
    rw [List.length_append, merge_len, List.length_cons]
    simp only [List.length_cons, List.length_nil] at *
    lia
theorem stacks_len (xs : List Str) : ∀ (l : List Str) (st : List Nat × List Str), (l.foldl (aheadF xs) st).2.length ≤ st.2.length + l.length
  | [], _ => Nat.le_refl _
  | x :: r, st => by
    have h1 := stacks_len xs r (aheadF xs st x)
    have h2 := stack_len xs st x
    rw [List.foldl_cons, List.length_cons]
    lia
end
--@ b43
section
local macro_rules | `(tactic| walk_at "mem") => walkTac "mem2"
local macro_rules | `(tactic| walk_at "pick") => walkTac "pick2"
theorem la_bind (va : Value) : ∀ S pm c, peek [] S (bindArgs (fnOf (fnName 20) (fnName 20) (fnParams 20) (fnBody 20) (fnScope 20) .none .none .none pm none (.ref c) .none) ⟨[va], []⟩) = some (([("names", va)] : List (Str × Value))) := by
  intro S pm c; kernel_rfl
theorem la_fn : (fnScope 20).kind = .function ∧ (fnScope 20).isCoroutine = false ∧ (fnScope 20).isGenerator = false := by decide +kernel
theorem la_cells (L : Nat) : cellsFrom (L + 1) (fnScope 20).names [] = ([("place", L + 1 + 1), ("shelf", L + 1)] : List (Str × Addr)) := by kernel_rfl
noncomputable abbrev laK : List (Str × NameKind) := [("names", .local), ("name", .local), ("shelf", .cell), ("stack", .local), ("told", .local), ("turn", .local), ("place", .cell), ("one", .local), ("soon", .local), ("above", .local), ("row", .local), ("pushed", .local), ("dict", .globalImplicit), ("enumerate", .globalImplicit), ("insort_left", .globalImplicit), ("insort_right", .globalImplicit), ("len", .globalImplicit)]
theorem la_kinds : ∀ p ∈ laK, (fnScope 20).names.lookup p.1 = some p.2 ∧ (p.1 == ("__debug__" : Str)) = false := by decide +kernel
theorem la_nd : (["names", "name", "stack", "told", "turn", "one", "soon", "above", "row", "pushed"] : List Str).Nodup := by decide +kernel
noncomputable abbrev laV (a : Addr) (nm sk td tn on sn ab rw ps : Option Value) : Vars := [("names", some (.ref a)), ("name", nm), ("stack", sk), ("told", td), ("turn", tn), ("one", on), ("soon", sn), ("above", ab), ("row", rw), ("pushed", ps)]
/-- tuples of a name and a new list, the newest first -/
noncomputable def pairL : List (Str × Addr × Tok × Addr) → Led
  | [] => []
  | p :: r => (p.2.1, tupP [.str p.1 p.2.2.1, .ref p.2.2.2]) :: (p.2.2.2, datP []) :: pairL r
noncomputable def shelf0 (ps : List (Str × Addr × Tok × Addr)) : Shelf := ps.map fun p => (p.1, p.2.2.2, [])
theorem pair_sub : ∀ ps, (shelfL (shelf0 ps)).Sublist (pairL ps)
  | [] => List.Sublist.slnil
  | p :: r => List.Sublist.cons _ ((pair_sub r).cons_cons _)
theorem All2.snoc {α β : Type} {R : α → β → Prop} {l : List α} {k : List β} {x : α} {y : β} (h : All2 R l k) (q : R x y) : All2 R (l ++ [x]) (k ++ [y]) := h.app (.one q)
theorem pair_all2 {prog : Program} {w : World} (base led : Led) : ∀ ps : List (Str × Addr × Tok × Addr), (∀ p ∈ pairL ps, p ∈ led) → All2 (PairAt base led (PySem.strKind prog w)) ((ps.map fun p => Value.ref p.2.1).reverse) ((ps.map fun p => (p.1, Value.ref p.2.2.2)).reverse)
  | [], _ => .nil
  | p :: r, h => by
    rw [List.map_cons, List.map_cons, List.reverse_cons, List.reverse_cons]
    exact (pair_all2 base led r fun q hq => h q (.tail _ (.tail _ hq))).snoc ⟨_, _, rfl, .own (h _ (.head _)), strKey _ _ _ _⟩
section
variable {T : Type} [DecidableEq T] {prog : Program} {w : World} {K : Kx} {base led : Led} {s : Shared} {a : Addr} {knd : PySem.KeyKind prog w T} {kvs : List (T × Value)}
theorem St.openC (H : St K base ((a, dicP knd kvs) :: led) s) : ∃ ep, St K base ((a, diaP knd kvs ep) :: led) s := by
  obtain ⟨o, e, ep, x⟩ := H.here _ (.head _)
  exact ⟨ep, H.change (s' := s) .here (fun _ _ _ e => e) (Rest.refl _) ⟨o, e, x⟩⟩
theorem value_some {k : T} (h : k ∈ kvs.map (·.1)) : ∃ v, valueAt kvs k = some v := by
  unfold valueAt
  cases e : kvs.find? fun p => p.1 = k with
  | none =>
    rw [List.find?_eq_none] at e
    obtain ⟨q, hq, rfl⟩ := List.mem_map.mp h
    exact absurd (e q hq) (by simp)
  | some p => exact ⟨p.2, rfl⟩
theorem some_value {k : T} {v : Value} (h : valueAt kvs k = some v) : k ∈ kvs.map (·.1) := by
  unfold valueAt at h
  obtain ⟨q, hq, _⟩ := Option.map_eq_some_iff.mp h
  have := List.find?_some hq
  exact List.mem_map.mpr ⟨q, List.mem_of_find?_eq_some hq, by simpa using this⟩
end
/-- tuples of a name and a number, the newest first -/
noncomputable def tupL : List (Str × Addr × Tok × Int × Tok) → Led
  | [] => []
  | p :: r => (p.2.1, tupP [.str p.1 p.2.2.1, .int p.2.2.2.1 p.2.2.2.2]) :: tupL r
theorem tup_all2 {prog : Program} {w : World} (base led : Led) : ∀ ps : List (Str × Addr × Tok × Int × Tok), (∀ p ∈ tupL ps, p ∈ led) → All2 (PairAt base led (PySem.strKind prog w)) ((ps.map fun p => Value.ref p.2.1).reverse) ((ps.map fun p => (p.1, Value.int p.2.2.2.1 p.2.2.2.2)).reverse)
  | [], _ => .nil
  | p :: r, h => by
    rw [List.map_cons, List.map_cons, List.reverse_cons, List.reverse_cons]
    exact (tup_all2 base led r fun q hq => h q (.tail _ hq)).snoc ⟨_, _, rfl, .own (h _ (.head _)), strKey _ _ _ _⟩
theorem mem_merge (soon : Str → Nat) : ∀ (l : List Str) (st : List Str × Str) (y : Str), (y ∈ (l.foldl (mergeF soon) st).1 ∨ y = (l.foldl (mergeF soon) st).2) → y ∈ l ∨ y ∈ st.1 ∨ y = st.2
  | [], _, _, h => .inr h
  | x :: r, st, y, h => by
    rw [List.foldl_cons] at h
    rcases mem_merge soon r _ y h with h | h
    · exact .inl (.tail _ h)
    · unfold mergeF at h
      split at h
      · rcases h with h | h
        · rcases List.mem_append.mp h with h | h
          · exact .inr (.inl h)
          · exact .inl (by rw [List.mem_singleton.mp h]; exact .head _)
        · exact .inr (.inr h)
      · rcases h with h | h
        · rcases List.mem_append.mp h with h | h
          · exact .inr (.inl h)
          · exact .inr (.inr (List.mem_singleton.mp h))
        · exact .inl (by rw [h]; exact .head _)
theorem mem_restack (soon : Str → Nat) (name : Str) (above rest : List Str) (y : Str) (h : y ∈ restack soon name above rest) : y = name ∨ y ∈ above ∨ y ∈ rest := by
  cases above with
  | nil => rcases List.mem_cons.mp h with h | h; exact .inl h; exact .inr (.inr h)
  | cons p r =>
    rcases List.mem_append.mp h with h | h
    · rcases mem_merge soon r _ y (.inl h) with h | h | h
      · exact .inr (.inl (.tail _ h))
      · exact .inl (List.mem_singleton.mp h)
      · exact .inr (.inl (by rw [h]; exact .head _))
    · rcases List.mem_cons.mp h with h | h
      · rcases mem_merge soon r _ y (.inr h) with h | h | h
        · exact .inr (.inl (.tail _ h))
        · exact .inl (List.mem_singleton.mp h)
        · exact .inr (.inl (by rw [h]; exact .head _))
      · exact .inr (.inr h)
theorem mem_above {stk : List Str} {x y : Str} (h : y ∈ aboveOf stk x) : y ∈ stk := by
  unfold aboveOf at h
  split at h
  · exact List.mem_of_mem_take h
  · exact h
theorem mem_stack (xs : List Str) (st : List Nat × List Str) (x y : Str) (h : y ∈ (aheadF xs st x).2) : y = x ∨ y ∈ st.2 := by
  rcases mem_restack _ _ _ _ _ h with h | h | h
  · exact .inl h
  · exact .inr (mem_above h)
  · exact .inr (List.mem_of_mem_drop h)
theorem stack_names (xs : List Str) : ∀ (l : List Str) (st : List Nat × List Str) (y : Str), y ∈ (l.foldl (aheadF xs) st).2 → y ∈ l ∨ y ∈ st.2
  | [], _, _, h => .inr h
  | x :: r, st, y, h => by
    rw [List.foldl_cons] at h
    rcases stack_names xs r _ y h with h | h
    · exact .inl (.tail _ h)
    · rcases mem_stack xs st x y h with h | h
      · exact .inl (by rw [h]; exact .head _)
      · exact .inr h
/-- the row and the pushed one after some turns -/
noncomputable def mstate (soon : Str → Nat) (name : Str) (above : List Str) (m : Nat) : List Str × List Str := match above with
  | [] => ([name], [])
  | p :: r => (((r.take m).foldl (mergeF soon) ([name], p)).1, [((r.take m).foldl (mergeF soon) ([name], p)).2])
theorem mstate_len (soon : Str → Nat) (name : Str) (above : List Str) (m : Nat) : (mstate soon name above m).1.length ≤ above.length + 1 ∧ (mstate soon name above m).2.length ≤ 1 := by
  cases above with
  | nil => exact ⟨Nat.le_refl _, Nat.zero_le _⟩
  | cons p r =>
    have := merge_len soon (r.take m) ([name], p)
    show ((r.take m).foldl (mergeF soon) ([name], p)).1.length ≤ _ ∧ 1 ≤ 1
    rw [this, List.length_take, List.length_cons]
    simp only [List.length_cons, List.length_nil]
    lia
theorem restack_eq (soon : Str → Nat) (name : Str) (above rest : List Str) : (mstate soon name above (above.drop 1).length).1 ++ (mstate soon name above (above.drop 1).length).2 ++ rest = restack soon name above rest := by
  cases above with
  | nil => rfl
  | cons p r =>
    have e : mstate soon name (p :: r) ((p :: r).drop 1).length = ((r.foldl (mergeF soon) ([name], p)).1, [(r.foldl (mergeF soon) ([name], p)).2]) := by
      show (((r.take r.length).foldl (mergeF soon) ([name], p)).1, [((r.take r.length).foldl (mergeF soon) ([name], p)).2]) = _
      rw [List.take_length]
    rw [e, List.append_assoc]
    rfl
theorem find_keys {l l' : Shelf} (h : l.map (fun p => (p.1, p.2.1)) = l'.map fun p => (p.1, p.2.1)) (x : Str) : (l.find? fun p => p.1 = x).map (fun p => p.2.1) = (l'.find? fun p => p.1 = x).map fun p => p.2.1 := by
  have key : ∀ l : Shelf, (l.find? fun p => p.1 = x).map (fun p => p.2.1) = ((l.map fun p => (p.1, p.2.1)).find? fun p => p.1 = x).map (·.2) := by
    intro l
    rw [List.find?_map, Option.map_map]
    rfl
  rw [key, key, h]
theorem shelf_step {xs : List Str} {t : Nat} (ht : t < 9) {x : Str} (hx : xs[order9.getD t 0]? = some x) {ls : Shelf} (h : ∀ y ∈ xs, (ls.find? fun p => p.1 = y).map (fun p => p.2.2) = some (rowAt xs t y)) (f : List Int → List Int) (hf : f (rowAt xs t x) = rowAt xs (t + 1) x) :
    ∀ y ∈ xs, ((upF x f ls).find? fun p => p.1 = y).map (fun p => p.2.2) = some (rowAt xs (t + 1) y) := by
  intro y hy
  have h1 := upF_find x f y ls
  have h2 := h y hy
  have e1 : ((upF x f ls).find? fun p => p.1 = y).map (fun p => p.2.2) = (((upF x f ls).find? fun p => p.1 = y).map (·.2)).map (·.2) := by rw [Option.map_map]; rfl
  have e2 : (ls.find? fun p => p.1 = y).map (fun p => p.2.2) = ((ls.find? fun p => p.1 = y).map (·.2)).map (·.2) := by rw [Option.map_map]; rfl
  rw [e1, h1]
  rw [e2] at h2
  by_cases e : x = y
  · subst e
    rw [if_pos rfl]
    obtain ⟨q, hq, hq2⟩ := Option.map_eq_some_iff.mp h2
    rw [hq, Option.map_some, Option.map_some, hq2, hf]
  · rw [if_neg e, h2, rowAt_other xs t ht x y hx (Ne.symm e)]
set_option maxHeartbeats 8000000 in
theorem ahead_two {prog : Program} {w : World} {A : Around} {E : Value → Shared → Prop} {Q : Flow → Shared → Prop} {K' : Kx} {a L sd td0 sk0 : Addr} {s : Shared} {xs : List Str} {k : Nat} {env : Env} {kvs : List (Str × Value)} {ep : Nat} {Z : Led} {tn pl : Option Value}
    (T' : TopF K'.hT) (R₁ : Room (k + 2) A) (hx : xs.length = 9) (X : EnvL env L) (hsc : env.scope = fnScope 20) (hcells : env.cells = ([("place", L + 1 + 1), ("shelf", L + 1)] : List (Str × Addr)))
    (hZ : ∀ y ∈ xs, ∃ ay, valueAt kvs y = some (.ref ay) ∧ (ay, intsP (rowAt xs 9 y)) ∈ Z) (hin : ∀ y, y ∈ kvs.map (·.1) ↔ y ∈ xs) (hkl : kvs.length ≤ 1000)
    (H7 : St K' [(a, strsP xs)] ((sd, diaP (PySem.strKind prog w) kvs ep) :: (td0, datP []) :: (sk0, datP []) :: (L, nsP (laV a none (some (.ref sk0)) (some (.ref td0)) tn none none none none none)) :: (L + 1 + 1, cellP pl) :: (L + 1, cellP (some (.ref sd))) :: Z) s)
    (h : ∀ td vs led s', St K' [(a, strsP xs)] ((td, datP (natsD (aheads xs))) :: (L, nsP vs) :: led) s' → Q (.ret (.ref td)) s') :
    wpAny (model prog w) A (execs ((fnBody 20).drop 2) env) Q E s := by
  have D : KD env laK := KD.ofS hsc la_kinds
  have C : CK env [("place", L + 1 + 1), ("shelf", L + 1)] := CK.of hcells rfl
  conv => arg 3; arg 1; whnf
  repeat' walk_at "go"
  rename_i e1 it1 s8 H8
  with_reducible refine' r_for (Src.enum a it1 (xs.map PD.s) _ _ _) (fun i led => ∃ (sk td : Addr) (tn pl nm on sn ab rw pu : Option Value), led = (sd, diaP (PySem.strKind prog w) kvs ep) :: (td, datP (natsD ((xs.take i).foldl (aheadF xs) ([], [])).1)) :: (sk, strsP ((xs.take i).foldl (aheadF xs) ([], [])).2) :: (L, nsP (laV a nm (some (.ref sk)) (some (.ref td)) tn on sn ab rw pu)) :: (L + 1 + 1, cellP pl) :: (L + 1, cellP (some (.ref sd))) :: Z) R₁.hd H8 ⟨sk0, td0, tn, pl, none, none, none, none, none, none, rfl⟩ (fun _ _ _ => Kn.old List.mem_cons_self) ?_ ?_
  · intro E' i v ex led s' hi jJ jV H'
    with_reducible refine' g_fora ?_
    intro Qf oF
    refine el10 jJ fun sk td tn pl nm on sn ab rw pu hE => ?_
    clear jJ
    subst hE
    obtain ⟨T, tp, vx, d, rfl, rfl, hd, hv⟩ := jV
    obtain ⟨x, hx', rfl⟩ := map_get hd
    obtain ⟨tx, rfl⟩ := hv
    simp only [List.nil_append, List.cons_append] at H'
    have hi9 : i < 9 := by rw [List.length_map] at hi; lia
    have hxm : x ∈ xs := List.mem_of_getElem? hx'
    have hst := foldl_take (aheadF xs) ([], []) xs i x hx'
    have hl1 := ahead_len xs (xs.take i) ([], [])
    have hl2 := stacks_len xs (xs.take i) ([], [])
    have hsub : ∀ y ∈ ((xs.take i).foldl (aheadF xs) ([], [])).2, y ∈ xs := by
      intro y hy
      rcases stack_names xs (xs.take i) ([], []) y hy with q | q
      · exact List.mem_of_mem_take q
      · exact absurd q (by simp)
    rw [hst] at oF
    generalize (xs.take i).foldl (aheadF xs) ([], []) = st at H' hl1 hl2 hsub oF
    simp only [List.length_nil, List.length_take] at hl1 hl2
    repeat' walk_at "go"
    with_reducible refine' r_comp (K := K') (base := [(a, strsP xs)]) (cl := [("shelf", L + 1), ("place", L + 1 + 1)]) ["one"] R₁.hd X ?clos ?hsc ?hn ?hx ?_ ?hs
    case clos => exact closure_of hcells (by kernel_rfl)
    case hsc => exact ⟨rfl, by decide +kernel⟩
    case hn => decide +kernel
    case hx => decide +kernel
    case hs => intro _; rfl
    repeat' walk_at "go"
    with_reducible refine' r_iterDA (knd := PySem.strKind prog w) (kvs := kvs) (ep := ep) ?H ?hm ?_
    case H => assumption
    case hm => walk_at "mem"; done
    intro it2 s9 H9
    refine ⟨it2, kvs.length, fun j => [(it2, kiP sd j kvs.length ep)], VD (PySem.strKind prog w) kvs, fun led => Kn [(a, strsP xs)] led sd (diaP (PySem.strKind prog w) kvs ep), fun j us led => ∃ qs : List (Str × Addr × Tok × Int × Tok), (qs.map (·.1)).reverse = (kvs.map (·.1)).take j ∧ (∀ q ∈ qs, q.2.2.2.1 = (soonN xs i q.1 : Nat)) ∧ us = (qs.map fun p => Value.ref p.2.1).reverse ∧
      led = (T, tupP [.int i tp, .str x tx]) :: (e1, enP it1 (i + 1)) :: (it1, liP a (i + 1)) :: (sd, diaP (PySem.strKind prog w) kvs ep) :: (td, datP (natsD st.1)) :: (sk, strsP st.2) :: (L, nsP (laV a (some (.str x tx)) (some (.ref sk)) (some (.ref td)) tn on sn ab rw pu)) :: (L + 1 + 1, cellP (some (.int i tp))) :: (L + 1, cellP (some (.ref sd))) :: (tupL qs ++ Z),
      _, rfl, ⟨Src.keys sd kvs ep (fun _ _ => rfl), by have := sizeLine_ge; lia, ?holds, ?turn⟩, H9, ⟨[], rfl, fun _ q => (nomatch q), rfl, rfl⟩, ?fin⟩
    case holds => rintro j us led ⟨qs, _, _, _, rfl⟩; walk_at "kn"
    case turn =>
      intro C' acc cenv E'' j us led vs v ex s'' X' hsc' hcl' hj jJ jV hvs H''
      with_reducible refine' g_comp ?_
      intro Qv oV Nv oN
      obtain ⟨qs, hqs, hqv, rfl, rfl⟩ := jJ
      obtain ⟨rfl, y, vy, hy, hyk⟩ := jV
      obtain ⟨u, rfl⟩ := one_var hvs
      obtain ⟨ty, rfl⟩ := Value.isStrOf_shape hyk
      simp only [List.nil_append, List.cons_append] at H''
      have hyk' : (kvs.map (·.1))[j]? = some y := by rw [List.getElem?_map, hy]; rfl
      have hyx : y ∈ xs := (hin y).mp (List.mem_of_getElem? hyk')
      obtain ⟨ay, hva, hay⟩ := hZ y hyx
      have hay' : (ay, intsP (rowAt xs 9 y)) ∈ tupL qs ++ Z := List.mem_append_right _ hay
      have hrl := rowAt_len xs 9 y
      obtain ⟨hs1, hs2⟩ := row_soon xs hx i hi9 y
      have D' : KD cenv [("one", .local), ("bisect_right", .globalImplicit), ("bisect_left", .globalImplicit), ("place", .cell), ("shelf", .cell)] := KD.ofS (hsc'.trans (relabel_of hsc)) (by decide +kernel)
      have C'' : CK cenv [("shelf", L + 1), ("place", L + 1 + 1)] := CK.of hcl' rfl
      repeat' walk_at "go"
      with_reducible refine' r_dgetE (knd := PySem.strKind prog w) (kvs := kvs) (ep := ep) ?H ?hm ?hk ?hd ?_ ?hs
      case H => assumption
      case hm => walk_at "kn"
      case hk => walk_at "key"
      case hd => assumption
      case hs => with_unfolding_all rfl
      intro sg Hg
      repeat' walk_at "go"
      rename_i n9 s11 H11 n1 s12 H12 t13 s13 H13 t14 s14 H14
      with_reducible refine' cut_if (P := fun v s' => ∃ t, v = .int (biR (rowAt xs 9 y) i) t ∧ St K' [(a, strsP xs)] ((n1, datP ((rowAt xs 9 y).map PD.i ++ [PD.i 9])) :: (it2, kiP sd (j + 1) kvs.length ep) :: (C', nsP [("one", some (.str y ty))]) :: (acc, lstP ((qs.map fun p => Value.ref p.2.1).reverse)) :: (T, tupP [.int i tp, .str x tx]) :: (e1, enP it1 (i + 1)) :: (it1, liP a (i + 1)) :: (sd, diaP (PySem.strKind prog w) kvs ep) :: (td, datP (natsD st.1)) :: (sk, strsP st.2) :: (L, nsP (laV a (some (.str x tx)) (some (.ref sk)) (some (.ref td)) tn on sn ab rw pu)) :: (L + 1 + 1, cellP (some (.int i tp))) :: (L + 1, cellP (some (.ref sd))) :: (tupL qs ++ Z)) s') (fun _ => ?c1) (fun _ => ?c2) ?_
      case c1 =>
        repeat' walk_at "go"
        with_reducible refine' r_dgetE (knd := PySem.strKind prog w) (kvs := kvs) (ep := ep) ?H ?hm ?hk ?hd ?_ ?hs
        case H => assumption
        case hm => walk_at "kn"
        case hk => walk_at "key"
        case hd => assumption
        case hs => with_unfolding_all rfl
        intro sg Hg
        repeat' walk_at "go"
        rename_i sx Hx
        exact ⟨_, rfl, Hx.pick (by walk_at "pick")⟩
      case c2 =>
        repeat' walk_at "go"
        with_reducible refine' r_dgetE (knd := PySem.strKind prog w) (kvs := kvs) (ep := ep) ?H ?hm ?hk ?hd ?_ ?hs
        case H => assumption
        case hm => walk_at "kn"
        case hk => walk_at "key"
        case hd => assumption
        case hs => with_unfolding_all rfl
        intro sg Hg
        repeat' walk_at "go"
        rename_i sx Hx
        rw [hs1]
        exact ⟨_, rfl, Hx.pick (by walk_at "pick")⟩
      rintro _ s15 ⟨t15, rfl, H15⟩
      have hb0 := (biR_bound (rowAt xs 9 y) i).1
      have hb1 := (biR_bound (rowAt xs 9 y) i).2
      with_reducible refine' r_listTail (d := .i (soonN xs i y : Nat)) ?H ?hm ?h0 ?h1 ?hd ?_ ?hs
      case H => assumption
      case hm => walk_at "kn"
      case h0 => exact hb0
      case h1 => lia
      case hd => exact hs2
      case hs => with_unfolding_all rfl
      rintro _ ⟨tv, rfl⟩
      repeat' walk_at "go"
      rename_i nT s16 H16
      refine ⟨_, [("one", some (.str y ty))], rfl, ⟨(y, nT, ty, (soonN xs i y : Nat), tv) :: qs, ?_, ?_, ?_, rfl⟩, ?_⟩
      · rw [List.map_cons, List.reverse_cons, hqs, List.take_add_one, hyk']; rfl
      · intro q hq
        rcases List.mem_cons.mp hq with rfl | hq
        · rfl
        · exact hqv q hq
      · rw [List.map_cons, List.reverse_cons]
      · simp only [List.cons_append, List.nil_append, tupL]
        exact H16.pick (by walk_at "pick")
    case fin =>
      rintro acc us led' s10 ⟨qs, hqs, hqv, rfl, rfl⟩ H10
      repeat' walk_at "go"
      rw [List.take_of_length_le (by rw [List.length_map]; exact Nat.le_refl _)] at hqs
      with_reducible refine' r_dictOf (knd := PySem.strKind prog w) (pairs := (qs.map fun p => (p.1, Value.int p.2.2.2.1 p.2.2.2.2)).reverse) R₁.hd ?H ?hm ?hp ?hz ?_
      case H => assumption
      case hm => exact Kn.own (.head _)
      case hp => exact tup_all2 _ _ qs fun p hp => by (iterate 10 apply List.mem_cons_of_mem); exact List.mem_append_left _ hp
      case hz =>
        have := congrArg List.length hqs
        simp only [List.length_reverse, List.length_map] at this ⊢
        lia
      intro so s11 H11
      have hsoon : ∀ y ∈ xs, ∃ u, valueAt (merged [] (qs.map fun p => (p.1, Value.int p.2.2.2.1 p.2.2.2.2)).reverse) y = some (.int (soonN xs i y : Nat) u) := by
        intro y hy
        have hk := (hin y).mpr hy
        rw [← hqs, List.mem_reverse] at hk
        rw [valueAt_merged, List.reverse_reverse, List.find?_map, Option.map_map]
        cases e : qs.find? ((fun p => decide (p.1 = y)) ∘ fun p => (p.1, Value.int p.2.2.2.1 p.2.2.2.2)) with
        | none =>
          rw [List.find?_eq_none] at e
          obtain ⟨q, hq, hq2⟩ := List.mem_map.mp hk
          exact absurd (e q hq) (by simp [hq2])
        | some q =>
          have h1 : q.1 = y := by simpa using List.find?_some e
          have h2 := hqv q (List.mem_of_find?_eq_some e)
          rw [h1] at h2
          exact ⟨q.2.2.2.2, by show some (Value.int q.2.2.2.1 q.2.2.2.2) = _; rw [h2]⟩
      generalize merged [] (qs.map fun p => (p.1, Value.int p.2.2.2.1 p.2.2.2.2)).reverse = kv2 at H11 hsoon
      have H12 := H11.sub (led' := (so, dicP (PySem.strKind prog w) kv2) :: (acc, lstP ((qs.map fun p => Value.ref p.2.1).reverse)) :: (T, tupP [.int i tp, .str x tx]) :: (e1, enP it1 (i + 1)) :: (it1, liP a (i + 1)) :: (sd, diaP (PySem.strKind prog w) kvs ep) :: (td, datP (natsD st.1)) :: (sk, strsP st.2) :: (L, nsP (laV a (some (.str x tx)) (some (.ref sk)) (some (.ref td)) tn on sn ab rw pu)) :: (L + 1 + 1, cellP (some (.int i tp))) :: (L + 1, cellP (some (.ref sd))) :: Z) (by (iterate 11 apply List.Sublist.cons_cons); exact List.sublist_append_right _ _)
      clear H11 H10
      repeat' walk_at "go"
      rename_i s13 H13
      with_reducible refine' cut_if (P := fun v s' => ∃ (na : Addr) (X' : Led), v = .ref na ∧ (na, strsP (aboveOf st.2 x)) ∈ X' ∧ (sk, strsP st.2) ∈ X' ∧ List.Sublist Z X' ∧ St K' [(a, strsP xs)] ((so, dicP (PySem.strKind prog w) kv2) :: (e1, enP it1 (i + 1)) :: (it1, liP a (i + 1)) :: (sd, diaP (PySem.strKind prog w) kvs ep) :: (td, datP (natsD st.1)) :: (L, nsP (laV a (some (.str x tx)) (some (.ref sk)) (some (.ref td)) tn on (some (.ref so)) ab rw pu)) :: (L + 1 + 1, cellP (some (.int i tp))) :: (L + 1, cellP (some (.ref sd))) :: X') s') (fun hc => ?c1) (fun hc => ?c2) ?_
      case c1 =>
        have hmem : x ∈ st.2 := of_decide_eq_true hc
        repeat' walk_at "go"
        with_reducible refine' r_indexS ?H ?hm ?hx ?hz ?_
        case H => assumption
        case hm => walk_at "kn"
        case hx => exact hmem
        case hz => lia
        intro ti s14 H14
        repeat' walk_at "go"
        rename_i na s15 H15
        have e1 : pickL (st.2.map PD.s) none (some ((st.2.idxOf x : Nat) : Int)) none = (aboveOf st.2 x).map PD.s := by
          rw [pickL_upto, ← List.map_take]
          unfold aboveOf
          rw [if_pos hmem]
        rw [e1] at H15
        exact ⟨na, (na, strsP (aboveOf st.2 x)) :: (sk, strsP st.2) :: Z, rfl, .head _, .tail _ (.head _), List.Sublist.cons _ (List.Sublist.cons _ (List.Sublist.refl _)), H15.pick (by walk_at "pick")⟩
      case c2 =>
        have hmem : x ∉ st.2 := fun q => hc (decide_eq_true q)
        repeat' walk_at "go"
        have e1 : aboveOf st.2 x = st.2 := if_neg hmem
        rw [e1]
        exact ⟨sk, (sk, strsP st.2) :: Z, rfl, .head _, .head _, List.Sublist.cons _ (List.Sublist.refl _), H13.pick (by walk_at "pick")⟩
      rintro _ s14 ⟨na, X', rfl, hna, hsk, hZX, H14⟩
      have hal : (aboveOf st.2 x).length ≤ 9 := by
        unfold aboveOf
        split
        · rw [List.length_take]; lia
        · lia
      repeat' walk_at "go"
      rename_i s15 H15
      with_reducible refine' cut_if (P := fun v s' => ∃ t, v = .int ((if x ∈ st.2 then (aboveOf st.2 x).length + 1 else 0 : Nat) : Int) t ∧ St K' [(a, strsP xs)] ((so, dicP (PySem.strKind prog w) kv2) :: (e1, enP it1 (i + 1)) :: (it1, liP a (i + 1)) :: (sd, diaP (PySem.strKind prog w) kvs ep) :: (td, datP (natsD st.1)) :: (L, nsP (laV a (some (.str x tx)) (some (.ref sk)) (some (.ref td)) tn on (some (.ref so)) (some (.ref na)) rw pu)) :: (L + 1 + 1, cellP (some (.int i tp))) :: (L + 1, cellP (some (.ref sd))) :: X') s') (fun hc => ?c1) (fun hc => ?c2) ?_
      case c1 =>
        have hmem : x ∈ st.2 := of_decide_eq_true hc
        repeat' walk_at "go"
        refine ⟨_, congrArg (fun z => Value.int z _) ?_, by assumption⟩
        rw [if_pos hmem, List.length_map]
        rfl
      case c2 =>
        have hmem : x ∉ st.2 := fun q => hc (decide_eq_true q)
        repeat' walk_at "go"
        refine ⟨_, congrArg (fun z => Value.int z _) ?_, by assumption⟩
        rw [if_neg hmem]
        rfl
      rintro _ s16 ⟨t16, rfl, H16⟩
      repeat' walk_at "go"
      with_reducible refine' r_swap2 "row" "pushed" R₁.hd ?_ (sole_of hsc (by kernel_rfl)) (swapped_of hsc (by kernel_rfl))
      repeat' walk_at "go"
      rename_i nr sA HA t1 sB HB nsl1 sC HC npu sD HD sE HE sF HF sG HG t2 sH HH nsl2 sI HI nab sJ HJ it3 s17 H17
      have ep1 : pickL ((aboveOf st.2 x).map PD.s) none (some 1) none = ((aboveOf st.2 x).take 1).map PD.s := by
        rw [List.map_take]; exact pickL_upto _ 1
      have ep2 : pickL ((aboveOf st.2 x).map PD.s) (some 1) none none = ((aboveOf st.2 x).drop 1).map PD.s := by
        rw [List.map_drop]; exact pickL_from _ 1
      have etd : natsD st.1 ++ [PD.i ((if x ∈ st.2 then (aboveOf st.2 x).length + 1 else 0 : Nat) : Int)] = natsD (aheadF xs st x).1 := by
        unfold aheadF natsD
        rw [List.map_append]
        rfl
      have e1s : datP [PD.s x] = strsP [x] := rfl
      rw [ep1, ep2, etd, e1s] at H17
      have hi1 : st.1.length = i := by lia
      have hst2 : (aheadF xs st x).2 = restack (soonN xs i) x (aboveOf st.2 x) (st.2.drop ((aboveOf st.2 x).length + 1)) := by rw [← hi1]; rfl
      generalize hst' : aheadF xs st x = st' at H17 hst2 oF ⊢
      have hm0 : (mstate (soonN xs i) x (aboveOf st.2 x) 0).1 = [x] ∧ (mstate (soonN xs i) x (aboveOf st.2 x) 0).2 = (aboveOf st.2 x).take 1 := by
        cases aboveOf st.2 x with
        | nil => exact ⟨rfl, rfl⟩
        | cons p r => exact ⟨rfl, rfl⟩
      have habx : ∀ y ∈ aboveOf st.2 x, y ∈ xs := fun y hy => hsub y (mem_above hy)
      have H18 := H17.pick (led' := (it3, liP nab 0) :: (nab, strsP ((aboveOf st.2 x).drop 1)) :: (nr, strsP [x]) :: (npu, strsP ((aboveOf st.2 x).take 1)) :: (so, dicP (PySem.strKind prog w) kv2) :: (e1, enP it1 (i + 1)) :: (it1, liP a (i + 1)) :: (sd, diaP (PySem.strKind prog w) kvs ep) :: (td, datP (natsD st'.1)) :: (L, nsP (laV a (some (.str x tx)) (some (.ref sk)) (some (.ref td)) tn on (some (.ref so)) (some (.ref na)) (some (.ref nr)) (some (.ref npu)))) :: (L + 1 + 1, cellP (some (.int i tp))) :: (L + 1, cellP (some (.ref sd))) :: X') (by walk_at "pick")
      with_reducible refine' r_for (Src.list nab (((aboveOf st.2 x).drop 1).map PD.s) ?ht) (fun m led => ∃ (pn : Addr) (on : Option Value), led = (nab, strsP ((aboveOf st.2 x).drop 1)) :: (nr, strsP (mstate (soonN xs i) x (aboveOf st.2 x) m).1) :: (pn, strsP (mstate (soonN xs i) x (aboveOf st.2 x) m).2) :: (so, dicP (PySem.strKind prog w) kv2) :: (e1, enP it1 (i + 1)) :: (it1, liP a (i + 1)) :: (sd, diaP (PySem.strKind prog w) kvs ep) :: (td, datP (natsD st'.1)) :: (L, nsP (laV a (some (.str x tx)) (some (.ref sk)) (some (.ref td)) tn on (some (.ref so)) (some (.ref na)) (some (.ref nr)) (some (.ref pn)))) :: (L + 1 + 1, cellP (some (.int i tp))) :: (L + 1, cellP (some (.ref sd))) :: X') R₁.hd H18 ⟨npu, on, by rw [hm0.1, hm0.2]⟩ ?hJ ?_ ?_
      case ht => intro _ _; rfl
      case hJ => rintro m led ⟨pn, on, rfl⟩; exact Kn.own (.head _)
      · intro E2 m v ex led s19 hm2 jJ jV H19
        with_reducible refine' g_fora ?_
        intro Qf oF
        obtain ⟨pn, on, rfl⟩ := jJ
        obtain ⟨rfl, dd, hdd, hvd⟩ := jV
        obtain ⟨o, ho, rfl⟩ := map_get hdd
        obtain ⟨to, rfl⟩ := hvd
        simp only [List.nil_append, List.cons_append] at H19
        generalize hab : aboveOf st.2 x = above at H19 ho habx oF
        cases above with
        | nil => simp at ho
        | cons p r =>
          have ho' : r[m]? = some o := ho
          have hox : o ∈ xs := habx o (.tail _ (List.mem_of_getElem? ho'))
          have hs3 := foldl_take (mergeF (soonN xs i)) ([x], p) r m o ho'
          have hpx : ((r.take m).foldl (mergeF (soonN xs i)) ([x], p)).2 ∈ xs := by
            rcases mem_merge (soonN xs i) (r.take m) ([x], p) _ (.inr rfl) with q | q | q
            · exact habx _ (.tail _ (List.mem_of_mem_take q))
            · rw [List.mem_singleton.mp q]; exact hxm
            · rw [q]; exact habx _ (.head _)
          have hml := merge_len (soonN xs i) (r.take m) ([x], p)
          have hrl : r.length ≤ 9 := by rw [hab, List.length_cons] at hal; lia
          simp only [List.length_cons, List.length_nil, List.length_take] at hml
          have hmm : ∀ n, mstate (soonN xs i) x (p :: r) n = (((r.take n).foldl (mergeF (soonN xs i)) ([x], p)).1, [((r.take n).foldl (mergeF (soonN xs i)) ([x], p)).2]) := fun _ => rfl
          rw [hmm] at H19
          rw [hmm, hs3] at oF
          generalize (r.take m).foldl (mergeF (soonN xs i)) ([x], p) = ms at H19 hpx hml oF
          obtain ⟨uo, hvo⟩ := hsoon o hox
          obtain ⟨up, hvp⟩ := hsoon ms.2 hpx
          repeat' walk_at "go"
          with_reducible refine' r_dgetV (knd := PySem.strKind prog w) ?H ?hm ?hk ?hd ?_ ?hs
          case H => assumption
          case hm => walk_at "kn"
          case hk => walk_at "key"
          case hd => exact hvo
          case hs => with_unfolding_all rfl
          intro sg Hg
          repeat' walk_at "go"
          with_reducible refine' r_listTail (d := .s ms.2) ?H ?hm ?h0 ?h1 ?hd ?_ ?hs
          case H => assumption
          case hm => walk_at "kn"
          case h0 => decide
          case h1 => decide
          case hd => rfl
          case hs => with_unfolding_all rfl
          rintro _ ⟨tq, rfl⟩
          with_reducible refine' r_dgetV (knd := PySem.strKind prog w) ?H ?hm ?hk ?hd ?_ ?hs
          case H => assumption
          case hm => walk_at "kn"
          case hk => walk_at "key"
          case hd => exact hvp
          case hs => with_unfolding_all rfl
          intro sg Hg
          repeat' walk_at "go"
          with_reducible refine' wif_b (fun hc => ?_) (fun hc => ?_)
          · have hc' : soonN xs i o < soonN xs i ms.2 := Int.ofNat_lt.mp (of_decide_eq_true hc)
            repeat' walk_at "go"
            rename_i s20 H20
            have e1 : mergeF (soonN xs i) ms o = (ms.1 ++ [o], ms.2) := if_pos hc'
            rw [e1]
            refine ⟨_, ⟨pn, some (.str o to), rfl⟩, ?_⟩
            have e2 : datP (ms.1.map PD.s ++ [PD.s o]) = strsP (ms.1 ++ [o]) := by show datP _ = datP _; rw [List.map_append]; rfl
            dsimp only at H20
            rw [e2] at H20
            simp only [List.cons_append, List.nil_append]
            exact H20
          · have hc' : ¬ soonN xs i o < soonN xs i ms.2 := fun q => by rw [decide_eq_true (Int.ofNat_lt.mpr q)] at hc; exact absurd hc (by decide)
            repeat' walk_at "go"
            with_reducible refine' r_listTail (d := .s ms.2) ?H ?hm ?h0 ?h1 ?hd ?_ ?hs
            case H => assumption
            case hm => walk_at "kn"
            case h0 => decide
            case h1 => decide
            case hd => rfl
            case hs => with_unfolding_all rfl
            rintro _ ⟨tq, rfl⟩
            repeat' walk_at "go"
            rename_i n20 s20 H20 s21 H21
            have e1 : mergeF (soonN xs i) ms o = (ms.1 ++ [ms.2], o) := if_neg hc'
            rw [e1]
            refine ⟨_, ⟨n20, some (.str o to), rfl⟩, ?_⟩
            have e2 : datP (ms.1.map PD.s ++ [PD.s ms.2]) = strsP (ms.1 ++ [ms.2]) := by show datP _ = datP _; rw [List.map_append]; rfl
            have e3 : datP [PD.s o] = strsP [o] := rfl
            dsimp only at H21
            rw [e2, e3] at H21
            simp only [List.cons_append, List.nil_append]
            exact H21.pick (by walk_at "pick")
      · rintro led' s19 ⟨pn, on, rfl⟩ H19
        rw [List.length_map] at H19
        have hres := restack_eq (soonN xs i) x (aboveOf st.2 x) (st.2.drop ((aboveOf st.2 x).length + 1))
        obtain ⟨hm1, hm2⟩ := mstate_len (soonN xs i) x (aboveOf st.2 x) ((aboveOf st.2 x).drop 1).length
        rw [← hst2] at hres
        generalize mstate (soonN xs i) x (aboveOf st.2 x) ((aboveOf st.2 x).drop 1).length = ms at H19 hres hm1 hm2
        repeat' walk_at "go"
        rename_i n20 s20 H20 t21 s21 H21 n22 s22 H22 n23 s23 H23
        have ep3 : pickL (st.2.map PD.s) (some (((aboveOf st.2 x).map PD.s).length + 1 : Int)) none none = (st.2.drop ((aboveOf st.2 x).length + 1)).map PD.s := by
          rw [List.map_drop, List.length_map]
          exact pickL_from _ ((aboveOf st.2 x).length + 1)
        rw [ep3] at H23
        have hdl : (st.2.drop ((aboveOf st.2 x).length + 1)).length ≤ 9 := by rw [List.length_drop]; lia
        generalize st.2.drop ((aboveOf st.2 x).length + 1) = rest at H23 hdl hres
        repeat' walk_at "go"
        rename_i n24 s24 H24 s25 H25
        have e4 : datP (ms.1.map PD.s ++ ms.2.map PD.s ++ rest.map PD.s) = strsP st'.2 := by rw [← hres]; show datP _ = datP _; rw [List.map_append, List.map_append]
        rw [e4] at H25
        refine ⟨_, ex10 n24 td tn (some (.int i tp)) (some (.str x tx)) on (some (.ref so)) (some (.ref na)) (some (.ref nr)) (some (.ref pn)) rfl, ?_⟩
        simp only [List.cons_append, List.nil_append]
        exact (H25.pick (led' := (e1, enP it1 (i + 1)) :: (it1, liP a (i + 1)) :: (sd, diaP (PySem.strKind prog w) kvs ep) :: (td, datP (natsD st'.1)) :: (n24, strsP st'.2) :: (L, nsP (laV a (some (.str x tx)) (some (.ref n24)) (some (.ref td)) tn on (some (.ref so)) (some (.ref na)) (some (.ref nr)) (some (.ref pn)))) :: (L + 1 + 1, cellP (some (.int i tp))) :: (L + 1, cellP (some (.ref sd))) :: X') (by walk_at "pick")).sub (by (iterate 8 apply List.Sublist.cons_cons); exact hZX)
  · intro led' s' jJ H'
    refine el10 jJ fun sk td tn pl nm on sn ab rw pu hE => ?_
    clear jJ
    subst hE
    rw [List.length_map, List.take_length] at H'
    repeat' walk_at "go"
    rw [show (xs.foldl (aheadF xs) ([], [])).1 = aheads xs from rfl] at H'
    exact h td _ [] _ (H'.pick (.cons (.next .here) (.cons (.next (.next .here)) .nil)))
end
--@ b44
section
local macro_rules | `(tactic| walk_at "mem") => walkTac "mem2"
local macro_rules | `(tactic| walk_at "pick") => walkTac "pick2"
set_option maxHeartbeats 8000000 in
theorem ahead_call {prog : Program} {w : World} {A : Around} {E : Value → Shared → Prop} {Q : Value → Shared → Prop} {K : Kx} {base led : Led} {s : Shared} {a : Addr} {xs : List Str} {k : Nat}
    (T : TopF K.hT) (H : St K base led s) (R : Room (k + 3) A) (hm : Kn base led a (strsP xs)) (hx : xs.length = 9)
    (h : ∀ n s', Ext s s' → New s n (datP (natsD (aheads xs))) s' → Q (.ref n) s') :
    wpAny (model prog w) A (call (.ref 175) [.ref a]) Q E s := by
  refine call_fnC (laV a none none none none none none none none none) (fun L => [("place", L + 1 + 1), ("shelf", L + 1)]) (fun L => [(L + 1 + 1, none), (L + 1, none)]) [] [(a, strsP xs)] H R T T.f175 (frag_nil _) ⟨fun p hp => (nomatch hp), List.nodup_nil⟩ (fun p hp => ?_) (la_bind _) la_fn la_cells
    (fun L => by kernel_rfl) (fun L => by kernel_rfl) (fun L => by kernel_rfl) ⟨la_nd, by kernel_rfl⟩ ?_
  · rw [List.mem_singleton.mp hp]; exact ⟨H.has hm, fun q => (nomatch q)⟩
  intro K' env s₁ T' hK X hsc hcells hle hr H₁ R₁
  have D : KD env laK := KD.ofS hsc la_kinds
  have C : CK env [("place", s.heap.objs.size + 1 + 1), ("shelf", s.heap.objs.size + 1)] := CK.of hcells rfl
  simp only [List.map_cons, List.map_nil, List.cons_append, List.nil_append] at H₁
  conv => arg 3; arg 1; whnf
  repeat' walk_at "go"
  with_reducible refine' r_asgTup3 ?_ (sole_of hsc (by kernel_rfl)) (swapped_of hsc (by kernel_rfl))
  repeat' walk_at "go"
  with_reducible refine' r_comp (K := K') (base := [(a, strsP xs)]) (cl := []) ["name"] R₁.hd X ?clos ?hsc ?hn ?hx ?_ ?hs
  case clos => exact closure_of hcells (by kernel_rfl)
  case hsc => exact ⟨rfl, by decide +kernel⟩
  case hn => decide +kernel
  case hx => decide +kernel
  case hs => intro _; rfl
  repeat' walk_at "go"
  rename_i it s2 H2
  refine ⟨it, (xs.map PD.s).length, fun i => [(it, liP a i)], _, _, fun i us led => ∃ ps : List (Str × Addr × Tok × Addr), (ps.map (·.1)).reverse = xs.take i ∧ us = (ps.map fun p => Value.ref p.2.1).reverse ∧
    led = (s.heap.objs.size, nsP (laV a none none none none none none none none none)) :: (s.heap.objs.size + 1 + 1, cellP none) :: (s.heap.objs.size + 1, cellP none) :: pairL ps, _, rfl, ⟨Src.list a (xs.map PD.s) (fun _ _ => rfl), by rw [List.length_map]; have := sizeLine_ge; lia, fun _ _ _ _ => Kn.old (.head _), ?turn⟩, H2, ⟨[], rfl, rfl, rfl⟩, ?fin⟩
  case turn =>
    intro C' acc cenv E'' i us led vs v ex s'' X' hsc' hcl' hi jJ jV hvs H''
    with_reducible refine' g_comp ?_
    intro Qv oV Nv oN
    obtain ⟨ps, hps, rfl, rfl⟩ := jJ
    obtain ⟨rfl, d, hd, hv⟩ := jV
    obtain ⟨u, rfl⟩ := one_var hvs
    obtain ⟨y, hy, rfl⟩ := map_get hd
    obtain ⟨ty, rfl⟩ := hv
    simp only [List.nil_append, List.cons_append] at H''
    have D' : KD cenv [("name", .local)] := KD.ofS (hsc'.trans (relabel_of hsc)) (by decide +kernel)
    repeat' walk_at "go"
    rename_i na s5 H5 nT s6 H6
    refine ⟨_, [("name", some (.str y ty))], rfl, ⟨(y, nT, ty, na) :: ps, ?_, ?_, rfl⟩, ?_⟩
    · rw [List.map_cons, List.reverse_cons, hps, List.take_add_one, hy]; rfl
    · rw [List.map_cons, List.reverse_cons]
    · simp only [List.cons_append, List.nil_append, pairL]
      exact H6.pick (by walk_at "pick")
  case fin =>
    rintro acc us led' s3 ⟨ps, hps, rfl, rfl⟩ H3
    repeat' walk_at "go"
    rw [List.length_map, List.take_length] at hps
    have hpl : ps.length = 9 := by rw [← hx, ← hps, List.length_reverse, List.length_map]
    with_reducible refine' r_dictOf (knd := PySem.strKind prog w) (pairs := (ps.map fun p => (p.1, Value.ref p.2.2.2)).reverse) R₁.hd ?H ?hm ?hp ?hz ?_
    case H => assumption
    case hm => exact Kn.own (.head _)
    case hp => exact pair_all2 _ _ ps fun p hp => .tail _ (.tail _ (.tail _ (.tail _ hp)))
    case hz => rw [List.length_reverse, List.length_map]; lia
    intro sd s4 H4
    have hval : ∀ y, valueAt (merged [] (ps.map fun p => (p.1, Value.ref p.2.2.2)).reverse) y = ((shelf0 ps).find? fun p => p.1 = y).map fun p => Value.ref p.2.1 := by
      intro y
      rw [valueAt_merged, List.reverse_reverse, shelf0, List.find?_map, List.find?_map, Option.map_map, Option.map_map]
      rfl
    have hfound : ∀ y, y ∈ xs → ∃ p, (shelf0 ps).find? (fun p => p.1 = y) = some p ∧ p.2.2 = [] := by
      intro y hy
      rw [← hps, List.mem_reverse] at hy
      obtain ⟨q, hq, rfl⟩ := List.mem_map.mp hy
      cases e : (shelf0 ps).find? fun p => p.1 = q.1 with
      | none =>
        rw [List.find?_eq_none] at e
        exact absurd (e (q.1, q.2.2.2, []) (List.mem_map.mpr ⟨q, hq, rfl⟩)) (by simp)
      | some p =>
        obtain ⟨z, _, rfl⟩ := List.mem_map.mp (List.mem_of_find?_eq_some e)
        exact ⟨_, rfl, rfl⟩
    have hkeys0 : (shelf0 ps).map (·.1) = xs.reverse := by
      rw [← hps, List.reverse_reverse, shelf0, List.map_map]
      rfl
    have H5 := H4.sub (List.Sublist.cons_cons _ (List.Sublist.cons _ (List.Sublist.cons_cons _ (List.Sublist.cons_cons _ (List.Sublist.cons_cons _ (pair_sub ps))))))
    clear H4 H3
    generalize hkvs : merged [] (ps.map fun p => (p.1, Value.ref p.2.2.2)).reverse = kvs at H5 hval
    generalize shelf0 ps = ls0 at H5 hval hfound hkeys0
    repeat' walk_at "go"
    rename_i sk0 s6 H6 td0 s7 H7 tu0 s8 H8 s9 H9 s10 H10 s11 H11 s12 H12 t13 s13 H13 t14 s14 H14 t15 s15 H15 t16 s16 H16 t17 s17 H17 t18 s18 H18 t19 s19 H19 t20 s20 H20 t21 s21 H21 n0 s22 H22 e0 it0 s23 H23
    have e9 : ([PD.i 0, PD.i 8, PD.i 1, PD.i 7, PD.i 2, PD.i 6, PD.i 3, PD.i 5, PD.i 4] : List PD) = natsD order9 := rfl
    rw [e9] at H23
    have hrow0 : ∀ y ∈ xs, (ls0.find? fun p => p.1 = y).map (fun p => p.2.2) = some (rowAt xs 0 y) := by
      intro y hy
      obtain ⟨p, e1, e2⟩ := hfound y hy
      have e3 : rowAt xs 0 y = [] := by
        unfold rowAt
        rw [List.map_eq_nil_iff, List.filter_eq_nil_iff]
        intro q _
        simp [rowP]
      rw [e1, Option.map_some, e2, e3]
    have H24 := H23.pick (led' := (e0, enP it0 0) :: (it0, liP n0 0) :: (n0, datP (natsD order9)) :: (td0, datP []) :: (sk0, datP []) :: (sd, dicP (PySem.strKind prog w) kvs) :: (s.heap.objs.size, nsP (laV a none (some (.ref sk0)) (some (.ref td0)) none none none none none none)) :: (s.heap.objs.size + 1 + 1, cellP none) :: (s.heap.objs.size + 1, cellP (some (.ref sd))) :: shelfL ls0) (by walk_at "pick")
    with_reducible refine' r_for (Src.enum n0 it0 (natsD order9) _ _ _) (fun t led => ∃ (ls : Shelf) (tn pl : Option Value), ls.map (fun p => (p.1, p.2.1)) = ls0.map (fun p => (p.1, p.2.1)) ∧ (∀ y ∈ xs, (ls.find? fun p => p.1 = y).map (fun p => p.2.2) = some (rowAt xs t y)) ∧
      led = (n0, datP (natsD order9)) :: (td0, datP []) :: (sk0, datP []) :: (sd, dicP (PySem.strKind prog w) kvs) :: (s.heap.objs.size, nsP (laV a none (some (.ref sk0)) (some (.ref td0)) tn none none none none none)) :: (s.heap.objs.size + 1 + 1, cellP pl) :: (s.heap.objs.size + 1, cellP (some (.ref sd))) :: shelfL ls) R₁.hd H24 ⟨ls0, none, none, rfl, hrow0, rfl⟩ ?hJ ?_ ?_
    case hJ => rintro t led ⟨ls, tn, pl, _, _, rfl⟩; exact Kn.own (.head _)
    · intro E' t v ex led s' ht jJ jV H'
      with_reducible refine' g_fora ?_
      intro Qf oF
      refine el3 jJ fun ls tn pl hE => ?_
      clear jJ
      obtain ⟨hkeys, hrow, rfl⟩ := hE
      obtain ⟨T, tt, vx, d, rfl, rfl, hd, hv⟩ := jV
      obtain ⟨p, hp, rfl⟩ := map_get hd
      obtain ⟨tp, rfl⟩ := hv
      simp only [List.nil_append, List.cons_append] at H'
      have ht9 : t < 9 := ht
      have hpt : order9.getD t 0 = p := by rw [List.getD_eq_getElem?_getD, hp]; rfl
      have hp9 : p < 9 := hpt ▸ (order_new t ht9).2.1
      have hxp : xs[p]? = some (xs[p]'(by lia)) := List.getElem?_eq_getElem _
      generalize xs[p]'(by lia) = x at hxp
      have hxm : x ∈ xs := List.mem_of_getElem? hxp
      obtain ⟨pp, hfind, hpr⟩ := Option.map_eq_some_iff.mp (hrow x hxm)
      have hva : valueAt kvs x = some (.ref pp.2.1) := by
        have e1 := find_keys hkeys x
        rw [hfind] at e1
        rw [hval x]
        have : ((ls0.find? fun p => p.1 = x).map fun p => Value.ref p.2.1) = ((ls0.find? fun p => p.1 = x).map fun p => p.2.1).map Value.ref := by rw [Option.map_map]; rfl
        rw [this, ← e1]
        rfl
      rw [← hpt] at hxp
      have hst := rowAt_step xs t ht9 x hxp
      repeat' walk_at "go"
      with_reducible refine' wif_b (fun _ => ?_) (fun _ => ?_)
      · repeat' walk_at "go"
        with_reducible refine' r_listTail (d := .s x) ?H ?hm ?h0 ?h1 ?hd ?_ ?hs
        case H => assumption
        case hm => walk_at "kn"
        case h0 => lia
        case h1 => lia
        case hd => rw [Int.toNat_natCast, List.getElem?_map, ← hpt, hxp]; rfl
        case hs => with_unfolding_all rfl
        rintro _ ⟨tx, rfl⟩
        repeat' walk_at "go"
        with_reducible refine' r_dgetV (knd := PySem.strKind prog w) ?H ?hm ?hk ?hd ?_ ?hs
        case H => assumption
        case hm => walk_at "kn"
        case hk => walk_at "key"
        case hd => exact hva
        case hs => with_unfolding_all rfl
        intro s24 H24
        repeat' walk_at "go"
        with_reducible refine' insort_left_call ?T ?H ?R ?hs ?hl ?_
        case T => assumption
        case H => assumption
        case R => assumption
        case hl => walk_at "upd"; exact upF_upd (f := fun l => insL l p) hfind
        case hs => rw [hpr]; have := rowAt_len xs t x; lia
        intro s25 H25
        repeat' walk_at "go"
        refine ⟨_, ex3 (upF x (fun l => insL l p) ls) (some (.int t tt)) (some (.int p tp)) ⟨(upF_keys _ _ _).trans hkeys, shelf_step ht9 hxp hrow _ ?_, rfl⟩, ?_⟩
        · rw [hpt] at hst
          exact hst.2
        · simp only [List.cons_append, List.nil_append]
          exact H25.pick (by walk_at "pick")
      · repeat' walk_at "go"
        with_reducible refine' r_listTail (d := .s x) ?H ?hm ?h0 ?h1 ?hd ?_ ?hs
        case H => assumption
        case hm => walk_at "kn"
        case h0 => lia
        case h1 => lia
        case hd => rw [Int.toNat_natCast, List.getElem?_map, ← hpt, hxp]; rfl
        case hs => with_unfolding_all rfl
        rintro _ ⟨tx, rfl⟩
        repeat' walk_at "go"
        with_reducible refine' r_dgetV (knd := PySem.strKind prog w) ?H ?hm ?hk ?hd ?_ ?hs
        case H => assumption
        case hm => walk_at "kn"
        case hk => walk_at "key"
        case hd => exact hva
        case hs => with_unfolding_all rfl
        intro s24 H24
        repeat' walk_at "go"
        with_reducible refine' insort_right_call ?T ?H ?R ?hs ?hl ?_
        case T => assumption
        case H => assumption
        case R => assumption
        case hl => walk_at "upd"; exact upF_upd (f := fun l => insR l p) hfind
        case hs => rw [hpr]; have := rowAt_len xs t x; lia
        intro s25 H25
        repeat' walk_at "go"
        refine ⟨_, ex3 (upF x (fun l => insR l p) ls) (some (.int t tt)) (some (.int p tp)) ⟨(upF_keys _ _ _).trans hkeys, shelf_step ht9 hxp hrow _ ?_, rfl⟩, ?_⟩
        · rw [hpt] at hst
          exact hst.1
        · simp only [List.cons_append, List.nil_append]
          exact H25.pick (by walk_at "pick")
    · intro led' s6 jJ H6
      refine el3 jJ fun ls tn pl hE => ?_
      clear jJ
      obtain ⟨hkeys, hrow, rfl⟩ := hE
      have hrow9 : ∀ y ∈ xs, (ls.find? fun p => p.1 = y).map (fun p => p.2.2) = some (rowAt xs 9 y) := hrow
      have hZ : ∀ y ∈ xs, ∃ ay, valueAt kvs y = some (.ref ay) ∧ (ay, intsP (rowAt xs 9 y)) ∈ shelfL ls := by
        intro y hy
        obtain ⟨pp, hfind, hpr⟩ := Option.map_eq_some_iff.mp (hrow9 y hy)
        refine ⟨pp.2.1, ?_, ?_⟩
        · have e1 := find_keys hkeys y
          rw [hfind] at e1
          rw [hval y]
          have : ((ls0.find? fun p => p.1 = y).map fun p => Value.ref p.2.1) = ((ls0.find? fun p => p.1 = y).map fun p => p.2.1).map Value.ref := by rw [Option.map_map]; rfl
          rw [this, ← e1]
          rfl
        · rw [← hpr]; exact shelf_mem hfind
      have hin : ∀ y, y ∈ kvs.map (·.1) ↔ y ∈ xs := by
        intro y
        constructor
        · intro q
          obtain ⟨v, hv⟩ := value_some q
          rw [hval y] at hv
          obtain ⟨z, hz, _⟩ := Option.map_eq_some_iff.mp hv
          have h1 := List.find?_some hz
          have h2 : z.1 ∈ ls0.map (·.1) := List.mem_map.mpr ⟨z, List.mem_of_find?_eq_some hz, rfl⟩
          rw [hkeys0, List.mem_reverse] at h2
          have h3 : z.1 = y := by simpa using h1
          exact h3 ▸ h2
        · intro q
          obtain ⟨ay, e, _⟩ := hZ y q
          exact some_value e
      have H6' := H6.pick (led' := (sd, dicP (PySem.strKind prog w) kvs) :: (td0, datP []) :: (sk0, datP []) :: (s.heap.objs.size, nsP (laV a none (some (.ref sk0)) (some (.ref td0)) tn none none none none none)) :: (s.heap.objs.size + 1 + 1, cellP pl) :: (s.heap.objs.size + 1, cellP (some (.ref sd))) :: shelfL ls) (by walk_at "pick")
      obtain ⟨ep, H7⟩ := H6'.openC (knd := PySem.strKind prog w)
      clear H6 H6' hrow hrow9 hkeys hkeys0 hval hfound
      generalize shelfL ls = Z at H7 hZ
      have hkl : kvs.length ≤ 1000 := by
        rw [← hkvs]
        have := merged_length_le [] (ps.map fun p => (p.1, Value.ref p.2.2.2)).reverse
        simp only [List.length_nil, List.length_reverse, List.length_map] at this
        lia
      refine ahead_two T' R₁ hx X hsc hcells hZ hin hkl H7 ?_
      intro td vs led' s8 H8
      exact h td s8 (H8.out hK (.tail _ (.head _))) (H8.give hK (.head _))
end
--@ b45
section
section
variable {prog : Program} {w : World} {A : Around} {E : Value → Shared → Prop} {R : Result → Shared → Prop} {s : Shared}
theorem compTurn_in (elt t0 i0 t1 i1 : Expr) (scope : Scope) (pos : Pos) (it acc : Value) (env : Env) :
    compTurn (.ListComp elt [⟨t0, i0, [], 0⟩, ⟨t1, i1, [], 0⟩] scope pos) 1 it acc env = (do
      standAt i1.pos
      match ← pyNext it with
      | none => pure (.done .next)
      | some v =>
        letOwnedTupleGo t1 it v
        assign t1 env v
        (do let _ ← call (.builtin "list.append") [acc, ← eval elt env])
        again (.compLoop (.ListComp elt [⟨t0, i0, [], 0⟩, ⟨t1, i1, [], 0⟩] scope pos) 1 it acc env)) := by rfl
theorem compTurn_out (elt t0 i0 t1 i1 : Expr) (scope : Scope) (pos : Pos) (it acc : Value) (env : Env) :
    compTurn (.ListComp elt [⟨t0, i0, [], 0⟩, ⟨t1, i1, [], 0⟩] scope pos) 0 it acc env = (do
      standAt i0.pos
      match ← pyNext it with
      | none => pure (.done .next)
      | some v =>
        letOwnedTupleGo t0 it v
        assign t0 env v
        let x ← eval i1 env
        standAt i1.pos
        let x ← foldedSetIterable i1 env x
        let _ ← runOwn (.compStart (.ListComp elt [⟨t0, i0, [], 0⟩, ⟨t1, i1, [], 0⟩] scope pos) 1 (← holding [x] (pyIter x)) acc env) env
        again (.compLoop (.ListComp elt [⟨t0, i0, [], 0⟩, ⟨t1, i1, [], 0⟩] scope pos) 0 it acc env)) := by rfl
theorem compStart_in {elt t0 i0 t1 i1 : Expr} {scope : Scope} {pos : Pos} {it acc : Value} {env : Env}
    (h0 : codeAny (model prog w) A (.compLoop (.ListComp elt [⟨t0, i0, [], 0⟩, ⟨t1, i1, [], 0⟩] scope pos) 1 it acc env) R s)
    (h : wpAny (model prog w) A (pyIter it) (fun it' s' => codeAny (model prog w) A (.compLoop (.ListComp elt [⟨t0, i0, [], 0⟩, ⟨t1, i1, [], 0⟩] scope pos) 1 it' acc env) R s')
      (notedBy (model prog w) A env fun x s' => R (.error x) s') s) :
    codeAny (model prog w) A (.compStart (.ListComp elt [⟨t0, i0, [], 0⟩, ⟨t1, i1, [], 0⟩] scope pos) 1 it acc env) R s := by
  refine codeAny_of_tree ?_
  show wpAny _ _ ((compStart (.ListComp elt [⟨t0, i0, [], 0⟩, ⟨t1, i1, [], 0⟩] scope pos) 1 it acc env).onRaise (fun x => do noteFrame x env; standAt theWindowsPlace)) _ _ s
  refine wpAny_notedAt ?_
  unfold compStart
  show wpAny _ _ (ask >>= _) _ _ s
  refine wpAny_bind (wpAny_askSetting (wpAny_ite ?_))
  split
  · first
      | exact wpAny_bind (wpAny_pure (wpAny_pure (And.intro rfl h0)))
      | exact wpAny_pure (And.intro rfl h0)
  · first
      | exact wpAny_bind (wpAny_rule (wpAny_bind (wpAny_standAt (wpAny_bind (wpAny_mono h (fun it' s' h' => wpAny_pure (And.intro rfl h')) fun _ _ x => x)))))
      | (refine wpAny_bind (wpAny_rule ?_); show wpAny _ _ (standAt i1.pos >>= _) _ _ s; exact wpAny_bind (wpAny_standAt (wpAny_bind (wpAny_mono h (fun it' s' h' => wpAny_pure (And.intro rfl h')) fun _ _ x => x))))
theorem comp_loop_in {elt t0 i0 t1 i1 : Expr} {scope : Scope} {pos : Pos} {env : Env} {it acc : Value} (I : Nat → Shared → Prop)
    (turn : ∀ n s, I n s → wpAny (model prog w) A (pyNext it) (fun r s₁ => match r with
      | none => R (.ok .next) s₁
      | some v => wpAny (model prog w) A (letOwnedTupleGo t1 it v) (fun _ s₁' => wpAny (model prog w) A (assign t1 env v) (fun _ s₂ =>
          wpAny (model prog w) A (eval elt env) (fun x s₄ =>
              wpAny (model prog w) A (call (.builtin "list.append") [acc, x]) (fun _ s₅ => ∃ m, m < n ∧ I m s₅) (notedBy (model prog w) A env fun e s' => R (.error e) s') s₄) (notedBy (model prog w) A env fun e s' => R (.error e) s') s₂)
            (notedBy (model prog w) A env fun e s' => R (.error e) s') s₁') (notedBy (model prog w) A env fun e s' => R (.error e) s') s₁) (notedBy (model prog w) A env fun e s' => R (.error e) s') s)
    (n : Nat) (h : I n s) :
    codeAny (model prog w) A (.compLoop (.ListComp elt [⟨t0, i0, [], 0⟩, ⟨t1, i1, [], 0⟩] scope pos) 1 it acc env) R s := by
  refine codeAny_loop rfl I (fun n s hI => ?_) n h
  show wpAny _ A ((compTurn (.ListComp elt [⟨t0, i0, [], 0⟩, ⟨t1, i1, [], 0⟩] scope pos) 1 it acc env).onRaise (fun x => do noteFrame x env; theTreesLotGoes x)) _ _ s
  refine wpAny_noted ?_
  rw [compTurn_in]
  refine wpAny_bind (wpAny_standAt (wpAny_bind (wpAny_mono (turn n s hI) (fun r s₁ h₁ => ?_) fun _ _ h' => h')))
  cases r with
  | none => exact wpAny_pure h₁
  | some v =>
    refine wpAny_bind (wpAny_mono h₁ (fun _ s₁' h₁ => ?_) fun _ _ h' => h')
    refine wpAny_bind (wpAny_mono h₁ (fun _ s₂ h₂ => ?_) fun _ _ h' => h')
    exact wpAny_bind (wpAny_bind (wpAny_mono h₂ (fun x s₄ h₄ => wpAny_bind (wpAny_mono h₄ (fun _ s₅ h₅ => wpAny_pure (wpAny_pure ⟨rfl, h₅⟩)) fun _ _ h' => h')) fun _ _ h' => h'))
theorem comp_loop_out {elt t0 i0 t1 i1 : Expr} {scope : Scope} {pos : Pos} {env : Env} {it acc : Value} (hfs : ∀ x, foldedSetIterable i1 env x = pure x) (I : Nat → Shared → Prop)
    (turn : ∀ n s, I n s → wpAny (model prog w) A (pyNext it) (fun r s₁ => match r with
      | none => R (.ok .next) s₁
      | some v => wpAny (model prog w) A (letOwnedTupleGo t0 it v) (fun _ s₁' => wpAny (model prog w) A (assign t0 env v) (fun _ s₂ =>
          wpAny (model prog w) A (eval i1 env) (fun x s₄ =>
              wpAny (model prog w) A (pyIter x) (fun it1 s₅ => codeAny (model prog w) A (.compStart (.ListComp elt [⟨t0, i0, [], 0⟩, ⟨t1, i1, [], 0⟩] scope pos) 1 it1 acc env) (fun r s₆ => r = .ok .next ∧ ∃ m, m < n ∧ I m s₆) s₅)
                (notedBy (model prog w) A env fun e s' => R (.error e) s') s₄) (notedBy (model prog w) A env fun e s' => R (.error e) s') s₂)
            (notedBy (model prog w) A env fun e s' => R (.error e) s') s₁') (notedBy (model prog w) A env fun e s' => R (.error e) s') s₁) (notedBy (model prog w) A env fun e s' => R (.error e) s') s)
    (n : Nat) (h : I n s) :
    codeAny (model prog w) A (.compLoop (.ListComp elt [⟨t0, i0, [], 0⟩, ⟨t1, i1, [], 0⟩] scope pos) 0 it acc env) R s := by
  refine codeAny_loop rfl I (fun n s hI => ?_) n h
  show wpAny _ A ((compTurn (.ListComp elt [⟨t0, i0, [], 0⟩, ⟨t1, i1, [], 0⟩] scope pos) 0 it acc env).onRaise (fun x => do noteFrame x env; theTreesLotGoes x)) _ _ s
  refine wpAny_noted ?_
  rw [compTurn_out]
  refine wpAny_bind (wpAny_standAt (wpAny_bind (wpAny_mono (turn n s hI) (fun r s₁ h₁ => ?_) fun _ _ h' => h')))
  cases r with
  | none => exact wpAny_pure h₁
  | some v =>
    refine wpAny_bind (wpAny_mono h₁ (fun _ s₁' h₁ => ?_) fun _ _ h' => h')
    refine wpAny_bind (wpAny_mono h₁ (fun _ s₂ h₂ => ?_) fun _ _ h' => h')
    refine wpAny_bind (wpAny_mono h₂ (fun x s₄ h₄ => ?_) fun _ _ h' => h')
    refine wpAny_bind (wpAny_standAt (wpAny_bind (wpAny_of_eq (hfs x) (wpAny_bind (wpAny_holding (wpAny_mono h₄ (fun it1 s₅ h₅ => ?_) fun _ _ h' => h'))))))
    refine wpAny_bind (wpAny_runOwn (codeAny_mono h₅ fun r s₆ h₆ => ?_))
    obtain ⟨rfl, h₆⟩ := h₆
    exact wpAny_pure ⟨rfl, h₆⟩
end
section
variable {prog : Program} {w : World} {A : Around} {E : Value → Shared → Prop} {K : Kx} {base led led' : Led} {s : Shared} {env : Env} {L a it : Addr} {pos : Pos} {x y : Str} {px py py' : Pos} {iter0 iter1 : Expr} {scope : Scope} {cl : List (Str × Addr)}
/-- what is left of a comprehension of two clauses over lists of plain data -/
noncomputable def Comp2Rest (prog : Program) (w : World) (A : Around) (K : Kx) (base : Led) (env : Env) (x y : Str) (iter1 : Expr) (scope : Scope) (cl : List (Str × Addr)) (Q : Value → Shared → Prop) (itv : Value) (s₂ : Shared) : Prop :=
  ∃ (it a : Addr) (ds : List PD) (led : Led) (g : PD → List PD), itv = .ref it ∧ St K base ((it, liP a 0) :: led) s₂ ∧ Kn base led a (datP ds) ∧ (ds.flatMap g).length ≤ 1000000 ∧
    (∀ d v, d ∈ ds → PD.is d v → ∀ C cenv E' u us acc P s, EnvL cenv C → cenv.scope = relabel scope env → cenv.cells = cl → St K base ((it, P) :: (C, nsP [(x, some v), (y, u)]) :: (acc, lstP us) :: led) s →
      wpAny (model prog w) A (eval iter1 cenv) (fun xv s' => ∃ n, xv = .ref n ∧ St K base ((n, datP (g d)) :: (it, P) :: (C, nsP [(x, some v), (y, u)]) :: (acc, lstP us) :: led) s') E' s) ∧
    ∀ acc s, St K base ((acc, datP (ds.flatMap g)) :: led) s → Q (.ref acc) s
theorem r_comp2 {Q : Value → Shared → Prop} (K : Kx) (base : Led) (hh : A.handled = none) (X : EnvL env L) (hclos : closureFor scope env = pure cl) (hxy : x ≠ y)
    (hsc : scope.kind = .function ∧ (∀ y ∈ scope.names, y.2 ≠ .cell) ∧ (∀ y ∈ scope.names, y.2 = .local → scope.names.lookup y.1 = some .local) ∧ scope.names.lookup x = some .local ∧ scope.names.lookup y = some .local ∧ (x == ("__debug__" : Str)) = false ∧ (y == ("__debug__" : Str)) = false)
    (h : wpAny (model prog w) A (eval iter0 env) (fun xv s₁ => wpAny (model prog w) A (pyIter xv) (Comp2Rest prog w A K base env x y iter1 scope cl Q) E s₁) E s)
    (hs0 : ∀ x, foldedSetIterable iter0 env x = pure x) (hs1 : ∀ env x, foldedSetIterable iter1 env x = pure x) :
    wpAny (model prog w) A (eval (.ListComp (.Name y py') [⟨.Name x px, iter0, [], 0⟩, ⟨.Name y py, iter1, [], 0⟩] scope pos) env) Q E s := by
  rw [eval_ListComp]
  refine wpAny_comprehension_free (use := none) rfl hs0 hclos hsc.1 hsc.2.2.1 (wpAny_mono h (fun xv s₁ h₁ => wpAny_mono h₁ (fun itv s₂ h₂ => ?_) fun _ _ e => e) fun _ _ e => e)
  obtain ⟨it, a, ds, led, g, rfl, H, hm, hz, hturn, hQ⟩ := h₂
  refine wpAny_newList ?_ (by show 0 ≤ sizeLine; exact Nat.zero_le _)
  have H₁ := H.push (P := lstP []) (s' := { s₂ with heap := s₂.heap.push { cls := .type "list", data := .seq ([] : List Value).toArray } }) _ ⟨0, rfl⟩ rfl rfl ⟨rfl, rfl, rfl⟩
  revert H₁
  generalize s₂.heap.objs.size = acc
  generalize ({ s₂ with heap := s₂.heap.push { cls := .type "list", data := .seq ([] : List Value).toArray } } : Shared) = s₁
  intro H₁
  refine wpAny_newFunctionEnv hsc.2.1 (fun y hy => (nomatch hy)) (fun h₁ hn hs => ?_) hsc.1
  have hle : Le s₁.heap h₁ := fun b o e => (hs.2 b (Nat.ne_of_lt (Heap.lt_size e))).trans (Heap.get?_push_of_some _ e)
  have H₂ : St K base ((s₁.heap.objs.size, nsP [(x, none), (y, none)]) :: (acc, lstP []) :: (it, liP a 0) :: led) { s₁ with heap := h₁, toks := s₁.toks + 0 } :=
    H₁.add (s' := { s₁ with heap := h₁, toks := s₁.toks + 0 }) hle ⟨rfl, rfl, rfl⟩ (get_size _) (.inl H₁.sz) (nsP_of (h := h₁) (vs := [(x, none), (y, none)]) (List.nodup_cons.mpr ⟨fun q => hxy (List.mem_singleton.mp q), List.nodup_cons.mpr ⟨fun q => (nomatch q), List.nodup_nil⟩⟩) hn (fun p hp => by
      simp only [List.mem_cons, List.not_mem_nil, or_false] at hp
      rcases hp with rfl | rfl <;> rfl))
  replace H₂ : St K base ((it, liP a 0) :: (s₁.heap.objs.size, nsP [(x, none), (y, none)]) :: (acc, lstP []) :: led) { s₁ with heap := h₁, toks := s₁.toks + 0 } := H₂.pick (.cons (.next (.next .here)) (.cons .here (.cons .here .all)))
  have X₂ : EnvL { (newEnv scope s₁.heap.objs.size env.globals cl env.qual none .none (some env) builtinsNs) with scope := relabel scope env } s₁.heap.objs.size := ⟨hsc.1, rfl, X.glob, X.blt⟩
  have hcells : ({ (newEnv scope s₁.heap.objs.size env.globals cl env.qual none .none (some env) builtinsNs) with scope := relabel scope env } : Env).cells = cl := rfl
  have hscope : ({ (newEnv scope s₁.heap.objs.size env.globals cl env.qual none .none (some env) builtinsNs) with scope := relabel scope env } : Env).scope = relabel scope env := rfl
  show codeAny _ _ _ (compPost (model prog w) A E none Q (.ref acc) s₁.heap.objs.size) _
  revert H₂ X₂ hcells hscope
  generalize ({ (newEnv scope s₁.heap.objs.size env.globals cl env.qual none .none (some env) builtinsNs) with scope := relabel scope env } : Env) = cenv
  generalize s₁.heap.objs.size = C
  generalize ({ s₁ with heap := h₁, toks := s₁.toks + 0 } : Shared) = s₃
  intro H₂ X₂ hcells hscope
  have D : KD cenv [(x, .local), (y, .local)] := by
    have key : ∀ z, scope.names.lookup z = some .local → Env.kindOf cenv z = some .local := by
      intro z hz
      unfold Env.kindOf
      rw [hscope]
      exact lookup_relabel_local hz
    intro p hp
    simp only [List.mem_cons, List.not_mem_nil, or_false] at hp
    rcases hp with rfl | rfl
    · exact ⟨key _ hsc.2.2.2.1, hsc.2.2.2.2.2.1⟩
    · exact ⟨key _ hsc.2.2.2.2.1, hsc.2.2.2.2.2.2⟩
  have src0 : Src prog w K base (.Name x px) it ds.length (fun i => [(it, liP a i)]) (VL ds) (fun led => Kn base led a (datP ds)) := Src.list a ds (fun _ _ => rfl)
  have hml : ∀ l : Led, Kn base (l ++ led) a (datP ds) := by
    intro l
    cases hm with
    | own h => exact .own (List.mem_append_right _ h)
    | old h => exact .old h
  have flat_le : ∀ i, ((ds.take i).flatMap g).length ≤ (ds.flatMap g).length := by
    intro i
    conv => rhs; rw [← List.take_append_drop i ds]
    rw [List.flatMap_append, List.length_append]
    lia
  have loop : codeAny (model prog w) A (.compLoop (.ListComp (.Name y py') [⟨.Name x px, iter0, [], 0⟩, ⟨.Name y py, iter1, [], 0⟩] scope pos) 0 (.ref it) (.ref acc) cenv) (compPost (model prog w) A E none Q (.ref acc) C) s₃ := by
    refine comp_loop_out (hs1 cenv) (fun m s => ∃ i us u1 u2, i ≤ ds.length ∧ m = ds.length - i ∧ VS ((ds.take i).flatMap g) us ∧ St K base ((it, liP a i) :: (C, nsP [(x, u1), (y, u2)]) :: (acc, lstP us) :: led) s) ?_ ds.length ⟨0, [], none, none, Nat.zero_le _, rfl, .nil, H₂⟩
    rintro m s ⟨i, us, u1, u2, hi, rfl, hus, H⟩
    by_cases hlt : i < ds.length
    · refine wpAny_mono (src0.item hh hlt (hml [(C, _), (acc, _)]) H (Q := fun v s₂ => wpAny (model prog w) A (assign (.Name x px) cenv v) (fun _ s₃ =>
          wpAny (model prog w) A (eval iter1 cenv) (fun z s₄ =>
              wpAny (model prog w) A (pyIter z) (fun it1 s₅ => codeAny (model prog w) A (.compStart (.ListComp (.Name y py') [⟨.Name x px, iter0, [], 0⟩, ⟨.Name y py, iter1, [], 0⟩] scope pos) 1 it1 (.ref acc) cenv)
                  (fun r s₆ => r = .ok .next ∧ ∃ m, m < ds.length - i ∧ ∃ i us u1 u2, i ≤ ds.length ∧ m = ds.length - i ∧ VS ((ds.take i).flatMap g) us ∧ St K base ((it, liP a i) :: (C, nsP [(x, u1), (y, u2)]) :: (acc, lstP us) :: led) s₆) s₅)
                (notedBy (model prog w) A cenv fun e s' => compPost (model prog w) A E none Q (.ref acc) C (.error e) s') s₄)
              (notedBy (model prog w) A cenv fun e s' => compPost (model prog w) A E none Q (.ref acc) C (.error e) s') s₃)
            (notedBy (model prog w) A cenv fun e s' => compPost (model prog w) A E none Q (.ref acc) C (.error e) s') s₂) fun v ex s' hv H' => ?_) (fun r s₁ q => ?_) fun _ _ q => q
      · obtain ⟨rfl, d, hd, hdv⟩ := hv
        have hdm : d ∈ ds := List.mem_of_getElem? hd
        have htk : (ds.take (i + 1)).flatMap g = (ds.take i).flatMap g ++ g d := by
          rw [List.take_add_one, hd, List.flatMap_append]
          simp
        have hlen := flat_le (i + 1)
        rw [htk, List.length_append] at hlen
        refine wpAny_assign_Name (r_store H' X₂ D (.head _) (.tail _ (.head _)) .here (.next .here) fun s₄ H₄ => ?_)
        refine wpAny_mono (hturn d v hdm hdv C cenv _ u2 us acc _ s₄ X₂ hscope hcells H₄) (fun z s₅ q => ?_) fun _ _ q => q
        obtain ⟨n, rfl, H₅⟩ := q
        refine r_iterL H₅ (.own (.head _)) fun it1 s₆ H₆ => ?_
        have src1 : Src prog w K base (.Name y py) it1 (g d).length (fun i => [(it1, liP n i)]) (VL (g d)) (fun led => Kn base led n (datP (g d))) := Src.list n (g d) (fun _ _ => rfl)
        have loop1 : codeAny (model prog w) A (.compLoop (.ListComp (.Name y py') [⟨.Name x px, iter0, [], 0⟩, ⟨.Name y py, iter1, [], 0⟩] scope pos) 1 (.ref it1) (.ref acc) cenv)
            (fun r s₆ => r = .ok .next ∧ ∃ m, m < ds.length - i ∧ ∃ i us u1 u2, i ≤ ds.length ∧ m = ds.length - i ∧ VS ((ds.take i).flatMap g) us ∧ St K base ((it, liP a i) :: (C, nsP [(x, u1), (y, u2)]) :: (acc, lstP us) :: led) s₆) s₆ := by
          refine comp_loop_in (fun m s => ∃ j us u2, j ≤ (g d).length ∧ m = (g d).length - j ∧ VS ((ds.take i).flatMap g ++ (g d).take j) us ∧ St K base ((it1, liP n j) :: (n, datP (g d)) :: (it, liP a (i + 1)) :: (C, nsP [(x, some v), (y, u2)]) :: (acc, lstP us) :: led) s) ?_ (g d).length ⟨0, us, u2, Nat.zero_le _, rfl, by rw [List.take_zero, List.append_nil]; exact hus, H₆⟩
          rintro m s ⟨j, us, u2, hj, rfl, hus, H⟩
          by_cases hlt1 : j < (g d).length
          · refine wpAny_mono (src1.item (Q := ?QQ) hh hlt1 (.own (.head _)) H ?ct) (fun r s₁ q => ?_) fun _ _ q => q
            rotate_left
            rotate_left
            · obtain ⟨v1, rfl, q⟩ := q
              exact q
            · intro v1 ex s' hv H'
              obtain ⟨rfl, d1, hd1, hdv1⟩ := hv
              refine wpAny_assign_Name (r_store (vs' := [(x, some v), (y, some v1)]) H' X₂ D (.tail _ (.head _)) (.tail _ (.tail _ (.tail _ (.head _)))) (.next .here) (.next (.next (.next .here))) fun s₇ H₇ => ?_)
              refine r_name H₇ X₂ D (.tail _ (.head _)) (.tail _ (.tail _ (.tail _ (.head _)))) (.tail _ (.head _)) ?_
              have hjl := hus.len
              rw [List.length_append, List.length_take] at hjl
              refine r_appendV H₇ (.next (.next (.next (.next .here)))) (by have := sizeLine_ge; lia) fun _ s₈ H₈ => ?_
              refine ⟨(g d).length - (j + 1), by lia, j + 1, _, _, by lia, rfl, ?_, H₈⟩
              rw [List.take_add_one, hd1, ← List.append_assoc]
              exact hus.app (.one hdv1)
          · obtain rfl : j = (g d).length := by lia
            refine src1.fin hh (.own (.head _)) H fun s' H' => ?_
            rw [List.take_length] at hus
            exact ⟨rfl, ds.length - (i + 1), by lia, i + 1, us, some v, u2, by lia, rfl, by rw [htk]; exact hus, H'.pick (.cons (.next .here) (.cons (.next .here) (.cons (.next .here) (.skip .all))))⟩
        exact compStart_in loop1 (src1.self H₆ loop1)
      · obtain ⟨v, rfl, q⟩ := q
        exact q
    · obtain rfl : i = ds.length := by lia
      refine src0.fin hh (hml [(C, _), (acc, _)]) H fun s' H' => ?_
      rw [List.take_length] at hus
      obtain ⟨_, m, hn, _⟩ := nsP_open (H'.here _ (.head _))
      exact ⟨m, hn, fun h' hs' => hQ acc _ ((H'.lose .here hs'.extBut).weak .here fun o q => ⟨us, hus, q⟩)⟩
  exact codeAny_compStart_list loop (src0.self H₂ loop)
end
end
--@ b46
section
theorem sum_bound (m : Int) (hm : 0 ≤ m) : ∀ ns : List Int, (∀ n ∈ ns, 0 ≤ n ∧ n ≤ m) → 0 ≤ ns.sum ∧ ns.sum ≤ m * ns.length
  | [], _ => by simp
  | n :: r, h => by
    have h1 := h n (.head _)
    have h2 := sum_bound m hm r fun a ha => h a (.tail _ ha)
    rw [List.sum_cons, List.length_cons]
    have e : m * ((r.length + 1 : Nat) : Int) = m * r.length + m := by rw [Int.natCast_add, Int.mul_add]; simp
    lia
section
variable {prog : Program} {w : World} {A : Around} {E : Value → Shared → Prop} {K : Kx} {base led led' : Led} {s : Shared} {Q : Value → Shared → Prop} {t u : Tok} {n a : Addr} {env : Env} {pos : Pos}
theorem r_sumL {ns : List Int} (hh : A.handled = none) (H : St K base led s) (hm : Kn base led n (intsP ns)) (hb : ∀ n ∈ ns, 0 ≤ n ∧ n ≤ 1000000) (hz : ns.length ≤ 1000) (h : ∀ t s', St K base led s' → Q (.int ns.sum t) s') : wpAny (model prog w) A (call (.builtin "sum") [.ref n]) Q E s := by
  obtain ⟨vs, hv, hx⟩ := dat_open (H.has hm)
  obtain ⟨ps, rfl, rfl⟩ := vs_ints hv
  have he : (ps.map fun p => Value.int p.1 p.2).toArray = intItems ps.toArray := by simp [intItems]
  have hli := lst_is hx
  rw [he] at hli
  rw [List.length_map] at hz
  refine sum_intList hh hli (fun j hj => ?_) fun h' tk t' hk => ?_
  · have hj' : j < ps.length := by simpa using hj
    rw [preSum_eq, numAt_eq]
    have hmem : (ps.toArray.toList.map (·.1)).getD j 0 ∈ ps.map (·.1) := getD_mem (by rw [List.length_map]; exact hj')
    have h1 := hb _ hmem
    have h2 := sum_bound 1000000 (by decide) ((ps.map (·.1)).take (j + 1)) fun a ha => hb a (List.mem_of_mem_take ha)
    have h3 : ((ps.map (·.1)).take (j + 1)).length ≤ 1000 := by rw [List.length_take, List.length_map]; lia
    unfold InLong
    constructor
    · constructor <;> lia
    · show _ ≤ ((ps.map (·.1)).take (j + 1)).sum ∧ ((ps.map (·.1)).take (j + 1)).sum < _
      constructor <;> lia
  · have := h t' { heap := h', gens := s.gens, drawn := s.drawn, toks := tk, os := s.os } (H.le hk ⟨rfl, rfl, rfl⟩)
    rw [preSum_eq]
    have e : (ps.toArray.toList.map (·.1)).take ps.toArray.size = ps.map (·.1) := by
      rw [List.size_toArray, List.take_of_length_le (by simp)]
    rw [e]
    exact this
theorem r_or2 {e₁ e₂ : Expr} (h : wpAny (model prog w) A (eval e₁ env) (fun v s₁ => wpAny (model prog w) A (truthy v) (fun b s₂ => if b = true then Q v s₂ else wpAny (model prog w) A (eval e₂ env) Q E s₂) E s₁) E s) :
    wpAny (model prog w) A (eval (.BoolOp .Or [e₁, e₂] pos) env) Q E s := by
  refine BoolOp_or (wpAny_mono h (fun v s₁ q => wpAny_mono q (fun b s₂ q => ?_) fun _ _ e => e) fun _ _ e => e)
  cases b
  · exact BoolOp_one q
  · exact q
theorem r_isF {b : Bool} (h : Q (.bool (!b)) s) : wpAny (model prog w) A (compareOp .Is (.bool b) (.bool false)) Q E s := by
  cases b
  · exact wpAny_is_self rfl h
  · exact wpAny_is_other rfl (by simp) h
theorem r_bool {b : Bool} {k : Nat} (h : Q (.bool b) s) : wpAny (model prog w) A (eval (.Constant (.bool b) k pos) env) Q E s := wpAny_Constant_bool h
end
end
--@ b47
/-! ### what law builds -/
noncomputable def bases10 : List Nat := [0, 5, 74, 242, 141, 303, 8, 647, 22, 1]
noncomputable def stepsOf (script : List Int) (k : Nat) : List Int := (pickL script (some (k : Int)) (some 60) (some 10)).map fun n => Int.fmod n 1000000
noncomputable def cellOf (script : List Int) (k : Nat) : Nat := bases10.getD k 0 + (stepsOf script k).sum.toNat
noncomputable def cellsOf (script : List Int) : List Nat := (List.range 10).map (cellOf script)
noncomputable def prep (x : Str) : Str := Txt.join "" (x.cps.toList.filterMap fun (n : Nat) => if b1S (n : Int) = false then some (mapB3 n) else none)
noncomputable def plainOf (cs : List Nat) : List Str := cs.map nameOf4
noncomputable def hitI (room : Nat) (b : Int) : Bool := decide (b = 0) || decide ((room : Int) < b)
noncomputable def hitN (room : Nat) (b : Nat) : Bool := decide (b = 0) || decide (room < b)
noncomputable def numsP (b : Int) (x : Str) : List PD := if b = 0 then .i b :: .i (x.length : Int) :: x.cps.toList.map fun (c : Nat) => PD.i (c : Int) else [.i b]
noncomputable def gOct (c9 : Nat) (d : PD) : List PD := match d with
  | .i n => octs n.toNat c9
  | _ => []
noncomputable def tapeAt (xs : List Str) (c9 : Nat) (i : Nat) : List PD := (List.range i).flatMap fun p => (numsP ((backs xs).getD p 0) (xs.getD p "")).flatMap (gOct c9)
section
set_option maxRecDepth 100000
/-! ### the recency stack and the desk -/
section
variable {α : Type} [BEq α] [LawfulBEq α] {x : α}
theorem take_drop_one (x : α) : ∀ (S : List α), S.Nodup → ∀ n, ((S.take (n + 1)).filter fun y => y != x).take n = (S.erase x).take n
  | [], _, n => by simp
  | y :: S, hn, n => by
    rw [List.nodup_cons] at hn
    by_cases h : y = x
    · subst h
      rw [List.erase_cons_head, List.take_succ_cons, List.filter_cons_of_neg (by simp), List.filter_eq_self.mpr, List.take_take, Nat.min_self]
      intro z hz
      rw [bne_iff_ne]
      rintro rfl
      exact hn.1 (List.mem_of_mem_take hz)
    · rw [List.erase_cons_tail (by simpa using h), List.take_succ_cons, List.filter_cons_of_pos (by simpa using h)]
      cases n with
      | zero => rfl
      | succ m => rw [List.take_succ_cons, List.take_succ_cons, take_drop_one x S hn.2 m]
theorem mem_take_idx (x : α) : ∀ (S : List α) (r : Nat), x ∈ S.take r ↔ x ∈ S ∧ S.idxOf x < r
  | [], r => by simp
  | y :: S, 0 => by simp
  | y :: S, r + 1 => by
    rw [List.take_succ_cons, List.mem_cons, List.mem_cons, mem_take_idx x S r, List.idxOf_cons]
    by_cases h : x = y
    · subst h; simp
    · have h' : (y == x) = false := beq_eq_false_iff_ne.mpr (fun q => h q.symm)
      rw [h']
      simp [h]
end
theorem erase_nodup_cons {x : Str} {S : List Str} (h : S.Nodup) : (x :: S.erase x).Nodup := by
  rw [List.nodup_cons]
  exact ⟨fun q => (List.Nodup.mem_erase_iff h).mp q |>.1 rfl, h.erase x⟩
theorem back_fetch_go (room : Nat) (hr : 1 ≤ room) : ∀ (xs : List Str) (bs : List Int) (fs : List Bool) (S : List Str), S.Nodup → bs.map (hitI room) = fs →
    ((xs.foldl backF (bs, S)).1).map (hitI room) = (xs.foldl (fetchF room) (fs, S.take room)).1
  | [], bs, fs, S, _, h => h
  | x :: xs, bs, fs, S, hn, h => by
    obtain ⟨n, rfl⟩ : ∃ n, room = n + 1 := ⟨room - 1, by lia⟩
    rw [List.foldl_cons, List.foldl_cons]
    have e : fetchF (n + 1) (fs, S.take (n + 1)) x = ((backF (bs, S) x).1.map (hitI (n + 1)), (backF (bs, S) x).2.take (n + 1)) := by
      unfold fetchF backF
      rw [List.take_succ_cons, List.take_succ_cons, take_drop_one x S hn n, List.map_append, h]
      congr 2
      rw [List.map_cons, List.map_nil]
      congr 1
      have hm := mem_take_idx x S (n + 1)
      unfold hitI
      dsimp only
      by_cases hx : x ∈ S
      · rw [if_pos hx]
        by_cases hi : S.idxOf x < n + 1
        · rw [decide_eq_true (hm.mpr ⟨hx, hi⟩), decide_eq_false (by lia), decide_eq_false (by lia)]; rfl
        · rw [decide_eq_false (fun q => hi (hm.mp q).2), decide_eq_false (by lia), decide_eq_true (by lia)]; rfl
      · rw [if_neg hx, decide_eq_false (fun q => hx (hm.mp q).1)]; rfl
    rw [e]
    exact back_fetch_go (n + 1) hr xs _ _ _ (erase_nodup_cons hn) rfl
theorem back_fetch' (xs : List Str) (room : Nat) (hr : 1 ≤ room) : (backs xs).map (hitI room) = fetches xs room := by
  have := back_fetch_go room hr xs [] [] [] List.nodup_nil rfl
  rwa [List.take_nil] at this
end
section
set_option maxRecDepth 100000
/-! ### every kind of line is prepared to its name -/
noncomputable def sh (n : Nat) : Nat := if n = 46 then 46 else if n = 58 then 58 else if n = 10 then 10 else 97
noncomputable def shape (x : Str) : Str := ⟨(x.cps.toList.map sh).toArray⟩
theorem sh_keep (n c : Nat) (hc : c = 46 ∨ c = 58 ∨ c = 10) : sh n = c ↔ n = c := by
  unfold sh
  split
  · lia
  · split
    · lia
    · split <;> lia
theorem subAt_shape (x : Str) (c : Nat) (hc : c = 46 ∨ c = 58 ∨ c = 10) (i : Nat) : Builtin.Str.subAt (shape x) ⟨#[c]⟩ i = Builtin.Str.subAt x ⟨#[c]⟩ i := by
  rw [StrLaws.subAt_eq, StrLaws.subAt_eq]
  show (((x.cps.toList.map sh).drop i).take 1 == [c]) = ((x.cps.toList.drop i).take 1 == [c])
  rw [← List.map_drop, ← List.map_take]
  cases h : (x.cps.toList.drop i).take 1 with
  | nil => rfl
  | cons a r =>
    have hr : r = [] := by
      have : ((x.cps.toList.drop i).take 1).length ≤ 1 := List.length_take_le _ _
      rw [h, List.length_cons] at this
      exact List.length_eq_zero_iff.mp (by lia)
    subst hr
    rw [List.map_cons, List.map_nil, Bool.eq_iff_iff, beq_iff_eq, beq_iff_eq, List.cons.injEq, List.cons.injEq, sh_keep a c hc]
theorem shape_len (x : Str) : (shape x).length = x.length := by
  show (x.cps.toList.map sh).toArray.size = x.cps.size
  simp
theorem first_shape (x : Str) (c : Nat) (hc : c = 46 ∨ c = 58 ∨ c = 10) (e : Nat) : firstAt (shape x) ⟨#[c]⟩ e = firstAt x ⟨#[c]⟩ e := by
  unfold firstAt Builtin.Str.occurrences
  simp only [subAt_shape x c hc, shape_len]
theorem last_shape (x : Str) (c : Nat) (hc : c = 46 ∨ c = 58 ∨ c = 10) (e : Nat) : lastAt (shape x) ⟨#[c]⟩ e = lastAt x ⟨#[c]⟩ e := by
  unfold lastAt Builtin.Str.lastOccurrence
  simp only [subAt_shape x c hc, shape_len]
theorem e_colon : (":" : Str) = ⟨#[58]⟩ := by kernel_rfl
theorem e_nl : ("\n" : Str) = ⟨#[10]⟩ := by kernel_rfl
theorem e_dot : ("." : Str) = ⟨#[46]⟩ := by kernel_rfl
theorem stripE_shape (x : Str) : stripE (shape x) = stripE x := by
  unfold stripE
  rw [e_colon, e_nl, shape_len, first_shape x 10 (by lia), first_shape x 58 (by lia)]
theorem stripS_shape (x : Str) : cutS (lastAt (shape x) "." (stripE (shape x))) = cutS (lastAt x "." (stripE x)) := by
  rw [stripE_shape, e_dot, last_shape x 46 (by lia)]
theorem slice_ix (a b n : Nat) (h1 : a ≤ b) (h2 : b ≤ n) : Builtin.Str.strSliceIndices (some (a : Int)) (some (b : Int)) 1 n = (List.range (b - a)).map (a + ·) := by
  unfold Builtin.Str.strSliceIndices
  dsimp only
  have ha : ¬ ((a : Int) < 0) := by lia
  have hb : ¬ ((b : Int) < 0) := by lia
  have h1' : (1 : Int) > 0 := by decide
  simp only [ha, hb, h1', if_true, if_false]
  rw [show max (0 : Int) (min (a : Int) n) = a by lia, show max (0 : Int) (min (b : Int) n) = b by lia]
  unfold sliceRange
  rw [if_pos (by decide)]
  by_cases h : a < b
  · rw [if_pos (by lia), show ((b : Int) - a + 1 - 1) / 1 = ((b - a : Nat) : Int) by lia]
    dsimp only
    rw [Int.toNat_natCast]
    apply List.map_congr_left
    intro k _
    show ((a : Int) + 1 * k).toNat = a + k
    lia
  · rw [if_neg (by lia), show b - a = 0 by lia]
    rfl
theorem slice_mid (h t l : List Nat) : Txt.slice ⟨(h ++ t ++ l).toArray⟩ (some (h.length : Int)) (some ((h.length + t.length : Nat) : Int)) = ⟨t.toArray⟩ := by
  have hx : (⟨(h ++ t ++ l).toArray⟩ : Str).length = h.length + t.length + l.length := by
    show (h ++ t ++ l).toArray.size = _
    simp only [List.size_toArray, List.length_append]
  unfold Txt.slice
  rw [slice_ix _ _ _ (by lia) (by rw [hx]; lia), show h.length + t.length - h.length = t.length by lia]
  have pick : (((List.range t.length).map (h.length + ·)).filterMap fun i => (h ++ t ++ l).toArray[i]?) = t := by
    apply List.ext_getElem?
    intro i
    rw [List.filterMap_map]
    have : ∀ (n : Nat), n ≤ t.length → (List.range n).filterMap ((fun i => (h ++ t ++ l).toArray[i]?) ∘ (h.length + ·)) = t.take n := by
      intro n
      induction n with
      | zero => intro _; rfl
      | succ n ih =>
        intro hn
        rw [List.range_succ, List.filterMap_append, ih (by lia), List.take_add_one]
        congr 1
        show (List.filterMap _ [n]) = _
        rw [List.filterMap_cons]
        have e : ((fun i => (h ++ t ++ l).toArray[i]?) ∘ (h.length + ·)) n = t[n]? := by
          show (h ++ t ++ l).toArray[h.length + n]? = t[n]?
          rw [List.getElem?_toArray, List.append_assoc, List.getElem?_append_right (by lia), List.getElem?_append_left (by lia)]
          congr 1; lia
        rw [e, List.getElem?_eq_getElem (by lia)]
        rfl
    rw [this _ (Nat.le_refl _), List.take_length]
  split
  · rename_i hc
    rw [Bool.and_eq_true, beq_iff_eq, beq_iff_eq, List.length_map, List.length_range, hx] at hc
    have e1 : h = [] := List.length_eq_zero_iff.mp (by lia)
    have e2 : l = [] := List.length_eq_zero_iff.mp (by lia)
    subst e1 e2
    rw [List.nil_append, List.append_nil]
  · show (⟨(((List.range t.length).map (h.length + ·)).filterMap fun i => (h ++ t ++ l).toArray[i]?).toArray⟩ : Str) = _
    rw [pick]
noncomputable def shL (h l k : Nat) : Str := ⟨(((heads4.getD h "").cps.toList ++ List.replicate k 97) ++ (tails5.getD l "").cps.toList).toArray⟩
noncomputable def cutsOk : Bool := (List.range 4).all fun h => (List.range 5).all fun l => (List.range 7).all fun k => stripE (shL h l k) == (heads4.getD h "").length + k && cutS (lastAt (shL h l k) "." (stripE (shL h l k))) == (heads4.getD h "").length
theorem cuts_ok : cutsOk = true := by kernel_rfl
theorem strip_line (h l : Nat) (hh : h < 4) (hl : l < 5) (t : List Nat) (ht : ∀ c ∈ t, sh c = 97) (hk : t.length < 7) : strip (heads4.getD h "" ++ ⟨t.toArray⟩ ++ tails5.getD l "") = ⟨t.toArray⟩ := by
  have hc := List.all_eq_true.mp (List.all_eq_true.mp (List.all_eq_true.mp cuts_ok h (List.mem_range.mpr hh)) l (List.mem_range.mpr hl)) t.length (List.mem_range.mpr hk)
  rw [Bool.and_eq_true, beq_iff_eq, beq_iff_eq] at hc
  generalize hH : heads4.getD h "" = H at *
  generalize hL : tails5.getD l "" = L at *
  obtain ⟨⟨H⟩⟩ := H
  obtain ⟨⟨L⟩⟩ := L
  have el : (⟨⟨H⟩⟩ ++ ⟨t.toArray⟩ ++ ⟨⟨L⟩⟩ : Str) = ⟨(H ++ t ++ L).toArray⟩ := by
    show (⟨(⟨H⟩ : Array Nat) ++ t.toArray ++ ⟨L⟩⟩ : Str) = _
    congr 1
    simp
  have es : shape ⟨(H ++ t ++ L).toArray⟩ = shape (shL h l t.length) := by
    unfold shape shL
    rw [hH, hL]
    show (⟨((H ++ t ++ L).map sh).toArray⟩ : Str) = ⟨((H ++ List.replicate t.length 97 ++ L).map sh).toArray⟩
    rw [List.map_append, List.map_append, List.map_append, List.map_append, List.map_replicate]
    congr 4
    exact List.eq_replicate_iff.mpr ⟨by rw [List.length_map], fun b hb => by
      obtain ⟨c, hc, rfl⟩ := List.mem_map.mp hb
      exact ht c hc⟩
  rw [el]
  have hE : stripE ⟨(H ++ t ++ L).toArray⟩ = H.length + t.length := by
    rw [← stripE_shape, es, stripE_shape]
    exact hc.1
  have hS : cutS (lastAt ⟨(H ++ t ++ L).toArray⟩ "." (stripE ⟨(H ++ t ++ L).toArray⟩)) = H.length := by
    rw [← stripS_shape, es, stripS_shape]
    exact hc.2
  unfold strip
  rw [hS, hE]
  exact slice_mid H t L
noncomputable def pc (n : Nat) : Option Str := if b1S (n : Int) = false then some (mapB3 n) else none
noncomputable def pcT (c : Nat) : Option Str :=
  if c < 128 then some ⟨#[if c < 97 then c + 32 else c]⟩
  else if c = 223 then some ⟨#[115, 115]⟩ else if c = 64257 then some ⟨#[102, 105]⟩ else if c = 64260 then some ⟨#[102, 102, 108]⟩ else if c = 64262 then some ⟨#[115, 116]⟩
  else if 119808 ≤ c then some ⟨#[97 + (c - 119808) % 52]⟩ else none
noncomputable def charsL : List Nat := [115, 116, 102, 105, 108, 83, 84, 70, 73, 76, 223, 64262, 64257, 64260] ++ (List.range 27).map (fun m => (markI m).toNat) ++ alph10.flatMap fun a => [18, 19, 5, 8, 11].map fun i => (119808 + 52 * a).toNat + i
theorem chars_ok : charsL.map pc = charsL.map pcT := by kernel_rfl
noncomputable def markP (m : Nat) : Str := signS (markI m).toNat
noncomputable def typedP (n t m p : Nat) : Str := match t with
  | 0 => Txt.join (markP m) ((names4.getD n "").cps.toList.map signS) ++ markP m
  | 1 => greatOf 65 (names4.getD n "")
  | 2 => lig4.getD n ""
  | _ => greatOf (119808 + 52 * alph10.getD p 0) (names4.getD n "")
noncomputable def okT (x : Str) (n : Nat) : Bool := x.cps.toList.all (fun c => charsL.contains c && sh c == 97) && decide (x.cps.toList.length < 7) && decide (Txt.join "" (x.cps.toList.filterMap pcT) = names4.getD n "")
noncomputable def allOk : Bool := (List.range 4).all fun n => ((List.range 27).all fun m => okT (typedP n 0 m 0) n) && (okT (typedP n 1 0 0) n && (okT (typedP n 2 0 0) n && (List.range 10).all fun p => okT (typedP n 3 0 p) n))
theorem all_ok : allOk = true := by kernel_rfl
theorem map_same {α β : Type} {f g : α → β} : ∀ {l : List α}, l.map f = l.map g → ∀ p ∈ l, f p = g p
  | [], _, p, h => by cases h
  | a :: l, e, p, h => by
    rw [List.map_cons, List.map_cons] at e
    injection e with e1 e2
    rcases List.mem_cons.mp h with rfl | h
    · exact e1
    · exact map_same e2 p h
theorem fm_congr {α β : Type} {f g : α → Option β} : ∀ {l : List α}, (∀ c ∈ l, f c = g c) → l.filterMap f = l.filterMap g
  | [], _ => rfl
  | a :: l, h => by rw [List.filterMap_cons, List.filterMap_cons, h a (.head _), fm_congr fun c hc => h c (.tail _ hc)]
theorem okT_use {x : Str} {n : Nat} (h : okT x n = true) : prep x = names4.getD n "" ∧ (∀ c ∈ x.cps.toList, sh c = 97) ∧ x.cps.toList.length < 7 := by
  unfold okT at h
  rw [Bool.and_eq_true, Bool.and_eq_true, decide_eq_true_eq, decide_eq_true_eq] at h
  obtain ⟨⟨h1, h2⟩, h3⟩ := h
  have h1' : ∀ c ∈ x.cps.toList, c ∈ charsL ∧ sh c = 97 := fun c hc => by
    have := List.all_eq_true.mp h1 c hc
    rw [Bool.and_eq_true, beq_iff_eq] at this
    exact ⟨List.contains_iff_mem.mp this.1, this.2⟩
  refine ⟨?_, fun c hc => (h1' c hc).2, h2⟩
  have e : x.cps.toList.filterMap pc = x.cps.toList.filterMap pcT := fm_congr fun c hc => map_same chars_ok c (h1' c hc).1
  rw [← h3, ← e]
  rfl
theorem typed_ok (n t m p : Nat) (hn : n < 4) (ht : t < 4) (hm : m < 27) (hp : p < 10) : okT (typedP n t m p) n = true := by
  have h := List.all_eq_true.mp all_ok n (List.mem_range.mpr hn)
  rw [Bool.and_eq_true, Bool.and_eq_true, Bool.and_eq_true] at h
  obtain ⟨h0, h1, h2, h3⟩ := h
  match t, ht with
  | 0, _ => exact List.all_eq_true.mp h0 m (List.mem_range.mpr hm)
  | 1, _ => exact h1
  | 2, _ => exact h2
  | 3, _ => exact List.all_eq_true.mp h3 p (List.mem_range.mpr hp)
theorem line_typed (c : Nat) : (typedL c).getD (c / 4 % 4) "" = typedP (c % 4) (c / 4 % 4) (c / 320 % 27) (c / 8640 % 10) := by
  have ht : c / 4 % 4 < 4 := Nat.mod_lt _ (by decide)
  unfold typedL capOf
  generalize hq : c / 4 % 4 = q at *
  match q, ht with
  | 0, _ => rfl
  | 1, _ => rfl
  | 2, _ => rfl
  | 3, _ => rfl
theorem prepared' (c : Nat) : prep (strip (lineOf c)) = nameOf4 c := by
  obtain ⟨h1, h2, h3⟩ := okT_use (typed_ok (c % 4) (c / 4 % 4) (c / 320 % 27) (c / 8640 % 10) (Nat.mod_lt _ (by decide)) (Nat.mod_lt _ (by decide)) (Nat.mod_lt _ (by decide)) (Nat.mod_lt _ (by decide)))
  have e : strip (lineOf c) = typedP (c % 4) (c / 4 % 4) (c / 320 % 27) (c / 8640 % 10) := by
    unfold lineOf
    rw [line_typed]
    generalize typedP (c % 4) (c / 4 % 4) (c / 320 % 27) (c / 8640 % 10) = x at *
    obtain ⟨⟨t⟩⟩ := x
    exact strip_line _ _ (Nat.mod_lt _ (by decide)) (Nat.mod_lt _ (by decide)) t h2 h3
  rw [e, h1]
  rfl
end
section
set_option maxRecDepth 100000
/-! ### the tape reads back -/
noncomputable def vtail : List PD → Int → Int → Option (Int × List PD)
  | l, b, v => if Builtin.bitAnd b 64 = 0 then some (v, l) else match l with
    | .i b' :: r => if v.natAbs < 2 ^ 64 then vtail r b' (Builtin.bitOr (v * 64) (Builtin.bitAnd b' 63)) else none
    | _ => none
noncomputable def vread : List PD → Option (Int × List PD)
  | .i b :: r => vtail r b (Builtin.bitAnd b 63)
  | _ => none
theorem get_drop {ds l : List PD} {i : Nat} {d : PD} (h : ds.drop i = d :: l) : ds[i]? = some d ∧ ds.drop (i + 1) = l := by
  constructor
  · have := congrArg (fun l => l[0]?) h
    rw [List.getElem?_drop] at this
    simpa using this
  · rw [← List.drop_drop, h]; rfl
theorem vtail_sound (ds rest : List PD) : ∀ (l : List PD) (i : Nat) (b v r : Int), vtail l b v = some (r, []) → ds.drop i = l ++ rest → VTail ds i b v r (i + l.length)
  | [], i, b, v, r, h, hd => by
    unfold vtail at h
    split at h
    · rename_i h0
      cases h
      exact .stop h0
    · cases h
  | d :: l, i, b, v, r, h, hd => by
    unfold vtail at h
    split at h
    · cases h
    · rename_i h0
      cases d with
      | i b' =>
        dsimp only at h
        split at h
        · rename_i hv
          obtain ⟨e1, e2⟩ := get_drop hd
          have := vtail_sound ds rest l (i + 1) b' _ r h e2
          rw [List.length_cons, show i + (l.length + 1) = i + 1 + l.length by lia]
          exact .more h0 e1 hv this
        · cases h
      | _ => cases h
theorem vread_sound {ds rest l : List PD} {i : Nat} {r : Int} (h : vread l = some (r, [])) (hd : ds.drop i = l ++ rest) : VRead ds i r (i + l.length) := by
  cases l with
  | nil => cases h
  | cons d l =>
    cases d with
    | i b =>
      obtain ⟨e1, e2⟩ := get_drop hd
      rw [List.length_cons, show i + (l.length + 1) = i + 1 + l.length by lia]
      exact ⟨b, e1, vtail_sound ds rest l (i + 1) b _ r h e2⟩
    | _ => cases h
noncomputable def numsL : List Nat := List.range 11 ++ [102, 105, 108, 115, 116]
theorem octs_read : (numsL.all fun n => (List.range 6).all fun q => decide (vread (octs n q) = some ((n : Int), []))) = true := by kernel_rfl
theorem octs_mod (n c : Nat) : octs n c = octs n (c % 6) := by
  unfold octs
  rw [show c % 6 % 3 = c % 3 by lia, show c % 6 / 3 % 2 = c / 3 % 2 by lia]
theorem octs_ok (n c : Nat) (hn : n ∈ numsL) : vread (octs n c) = some ((n : Int), []) := by
  rw [octs_mod]
  exact of_decide_eq_true (List.all_eq_true.mp (List.all_eq_true.mp octs_read n hn) (c % 6) (List.mem_range.mpr (Nat.mod_lt _ (by decide))))
noncomputable def bOf (S : List Str) (x : Str) : Int := if x ∈ S then ((S.idxOf x + 1 : Nat) : Int) else 0
noncomputable def backsR : List Str → List Str → List Int
  | _, [] => []
  | S, x :: r => bOf S x :: backsR (x :: S.erase x) r
theorem backs_eq : ∀ (xs S : List Str) (bs : List Int), (xs.foldl backF (bs, S)).1 = bs ++ backsR S xs
  | [], S, bs => by rw [backsR, List.append_nil]; rfl
  | x :: xs, S, bs => by
    rw [List.foldl_cons]
    show (xs.foldl backF (bs ++ [bOf S x], x :: S.erase x)).1 = _
    rw [backs_eq xs, backsR, List.append_assoc]
    rfl
theorem backsR_len : ∀ (xs S : List Str), (backsR S xs).length = xs.length
  | [], _ => rfl
  | x :: xs, S => by rw [backsR, List.length_cons, List.length_cons, backsR_len xs]
noncomputable def tapeR (c9 : Nat) : List Str → List Str → List PD
  | _, [] => []
  | S, x :: r => (numsP (bOf S x) x).flatMap (gOct c9) ++ tapeR c9 (x :: S.erase x) r
theorem range_zip {β : Type} (g : Int → Str → List β) : ∀ (bs : List Int) (ys : List Str), bs.length = ys.length → (List.range ys.length).flatMap (fun p => g (bs.getD p 0) (ys.getD p "")) = (bs.zip ys).flatMap fun q => g q.1 q.2
  | [], [], _ => rfl
  | [], _ :: _, h => by cases h
  | _ :: _, [], h => by cases h
  | b :: bs, y :: ys, h => by
    rw [List.length_cons, List.range_succ_eq_map, List.flatMap_cons, List.zip_cons_cons, List.flatMap_cons, List.flatMap_map]
    have := range_zip g bs ys (by simpa using h)
    rw [← this]
    rfl
theorem zip_tape (c9 : Nat) : ∀ (xs S : List Str), ((backsR S xs).zip xs).flatMap (fun q => (numsP q.1 q.2).flatMap (gOct c9)) = tapeR c9 S xs
  | [], S => rfl
  | x :: xs, S => by rw [backsR, List.zip_cons_cons, List.flatMap_cons, tapeR, zip_tape c9 xs]
theorem tape_eq (xs : List Str) (c9 : Nat) (hl : xs.length = 9) : tapeAt xs c9 9 = tapeR c9 [] xs := by
  unfold tapeAt
  rw [← hl]
  have hb : backs xs = backsR [] xs := by
    have := backs_eq xs [] []
    rwa [List.nil_append] at this
  rw [range_zip (fun b x => (numsP b x).flatMap (gOct c9)) (backs xs) xs (by rw [hb, backsR_len]), hb, zip_tape]
theorem erase_atI (x : Str) : ∀ S : List Str, S.erase x = S.eraseIdx (S.idxOf x)
  | [] => rfl
  | y :: S => by
    rw [List.idxOf_cons]
    by_cases h : (y == x) = true
    · rw [eq_of_beq h, List.erase_cons_head, beq_self_eq_true]; rfl
    · rw [Bool.not_eq_true] at h
      rw [List.erase_cons_tail (by rw [h]; exact Bool.false_ne_true), h]
      show y :: S.erase x = (y :: S).eraseIdx (S.idxOf x + 1)
      rw [List.eraseIdx_cons_succ, erase_atI x S]
theorem idx_getS {x : Str} : ∀ {S : List Str}, x ∈ S → S[S.idxOf x]? = some x
  | [], h => by cases h
  | y :: S, h => by
    rw [List.idxOf_cons]
    by_cases e : (y == x) = true
    · rw [e]; exact congrArg some (eq_of_beq e)
    · rw [Bool.not_eq_true] at e
      rw [e]
      rcases List.mem_cons.mp h with rfl | h
      · rw [beq_self_eq_true] at e; cases e
      · show (y :: S)[S.idxOf x + 1]? = _
        rw [List.getElem?_cons_succ]; exact idx_getS h
theorem name_facts : (names4.all fun x => decide (nameOf (x.cps.toList.map fun (c : Nat) => (c : Int)) = x) && decide (x.length = x.cps.toList.length) && numsL.contains x.length && x.cps.toList.all fun c => numsL.contains c && decide (c ≤ 0x10FFFF)) = true := by kernel_rfl
theorem chars_read (c9 : Nat) (ds rest : List PD) : ∀ (cs : List Nat) (i : Nat), (∀ c ∈ cs, c ∈ numsL) → ds.drop i = (cs.map fun (c : Nat) => PD.i (c : Int)).flatMap (gOct c9) ++ rest →
    VReads ds i (cs.map fun (c : Nat) => (c : Int)) (i + ((cs.map fun (c : Nat) => PD.i (c : Int)).flatMap (gOct c9)).length)
  | [], i, _, _ => .nil
  | c :: cs, i, hc, hd => by
    rw [List.map_cons, List.flatMap_cons, List.append_assoc] at hd
    have e : gOct c9 (PD.i (c : Int)) = octs c c9 := rfl
    rw [e] at hd
    have h1 := vread_sound (octs_ok c c9 (hc c (.head _))) hd
    have hd2 : ds.drop (i + (octs c c9).length) = (cs.map fun (c : Nat) => PD.i (c : Int)).flatMap (gOct c9) ++ rest := by
      rw [← List.drop_drop, hd, List.drop_left]
    have h2 := chars_read c9 ds rest cs _ (fun x hx => hc x (.tail _ hx)) hd2
    rw [List.map_cons, List.map_cons, List.flatMap_cons, List.length_append, e, ← Nat.add_assoc]
    exact .cons h1 h2
theorem rest_reads (c9 : Nat) (ds : List PD) : ∀ (xs S : List Str) (i : Nat), ds.drop i = tapeR c9 S xs → i ≤ ds.length → (∀ x ∈ xs, x ∈ names4) → S.length + xs.length ≤ 9 → RRest ds xs i S
  | [], S, i, hd, hi, _, _ => by
    rw [tapeR, List.drop_eq_nil_iff] at hd
    obtain rfl : i = ds.length := by lia
    exact .done
  | x :: xs, S, i, hd, hi, hx, hs => by
    rw [List.length_cons] at hs
    rw [tapeR] at hd
    have hd' : ∀ l : List PD, (numsP (bOf S x) x).flatMap (gOct c9) = l → ds.drop (i + l.length) = tapeR c9 (x :: S.erase x) xs ∧ i + l.length ≤ ds.length := fun l hl => by
      rw [hl] at hd
      constructor
      · rw [← List.drop_drop, hd, List.drop_left]
      · have := congrArg List.length hd
        rw [List.length_drop, List.length_append] at this
        lia
    have hlen : (x :: S.erase x).length + xs.length ≤ 9 := by
      have := List.length_erase_le (a := x) (l := S)
      rw [List.length_cons]; lia
    by_cases hm : x ∈ S
    · have hb : bOf S x = ((S.idxOf x + 1 : Nat) : Int) := if_pos hm
      have hn : numsP (bOf S x) x = [.i ((S.idxOf x + 1 : Nat) : Int)] := by
        rw [hb]; unfold numsP; rw [if_neg (by lia)]
      have hp : (numsP (bOf S x) x).flatMap (gOct c9) = octs (S.idxOf x + 1) c9 := by
        rw [hn, List.flatMap_cons, List.flatMap_nil, List.append_nil]; rfl
      obtain ⟨d1, d2⟩ := hd' _ hp
      rw [hp] at hd
      have hidx : S.idxOf x < S.length := List.idxOf_lt_length_iff.mpr hm
      have hr := vread_sound (octs_ok (S.idxOf x + 1) c9 (List.mem_append_left _ (List.mem_range.mpr (by lia)))) hd
      refine .turn (.old (k := S.idxOf x) hr (idx_getS hm)) ?_
      rw [← erase_atI]
      exact rest_reads c9 ds xs _ _ d1 d2 (fun y hy => hx y (.tail _ hy)) hlen
    · have hb : bOf S x = 0 := if_neg hm
      have hf := List.all_eq_true.mp name_facts x (hx x (.head _))
      simp only [Bool.and_eq_true, decide_eq_true_eq, List.all_eq_true, List.contains_iff_mem] at hf
      obtain ⟨⟨⟨f1, f2⟩, f3⟩, f4⟩ := hf
      have hn : numsP (bOf S x) x = .i 0 :: .i (x.length : Int) :: x.cps.toList.map fun (c : Nat) => PD.i (c : Int) := by
        rw [hb]; rfl
      have hp : (numsP (bOf S x) x).flatMap (gOct c9) = octs 0 c9 ++ (octs x.length c9 ++ (x.cps.toList.map fun (c : Nat) => PD.i (c : Int)).flatMap (gOct c9)) := by
        rw [hn, List.flatMap_cons, List.flatMap_cons]; rfl
      obtain ⟨d1, d2⟩ := hd' _ hp
      rw [hp, List.append_assoc, List.append_assoc] at hd
      have r0 := vread_sound (octs_ok 0 c9 (List.mem_append_left _ (List.mem_range.mpr (by lia)))) hd
      have hd1 : ds.drop (i + (octs 0 c9).length) = octs x.length c9 ++ ((x.cps.toList.map fun (c : Nat) => PD.i (c : Int)).flatMap (gOct c9) ++ tapeR c9 (x :: S.erase x) xs) := by
        rw [← List.drop_drop, hd, List.drop_left]
      have r1 := vread_sound (octs_ok x.length c9 f3) hd1
      have hd2 : ds.drop (i + (octs 0 c9).length + (octs x.length c9).length) = (x.cps.toList.map fun (c : Nat) => PD.i (c : Int)).flatMap (gOct c9) ++ tapeR c9 (x :: S.erase x) xs := by
        rw [← List.drop_drop, hd1, List.drop_left]
      have r2 := chars_read c9 ds _ _ _ (fun c hc => (f4 c hc).1) hd2
      rw [List.length_append, List.length_append, ← Nat.add_assoc, ← Nat.add_assoc] at d1 d2
      have hlc : (x.cps.toList.map fun (c : Nat) => (c : Int)).length = x.length := by rw [List.length_map]; exact f2.symm
      have hx9 : x.length ≤ 1000 := by
        rcases List.mem_append.mp f3 with q | q
        · have := List.mem_range.mp q; lia
        · simp only [List.mem_cons, List.not_mem_nil, or_false] at q; lia
      have tn := RTurn.new (ds := ds) (row := S) r0 (by rw [hlc]; exact r1) r2 (fun c hc => by
        obtain ⟨y, hy, rfl⟩ := List.mem_map.mp hc
        exact ⟨by lia, by have := (f4 y hy).2; lia⟩) (by rw [hlc]; exact hx9)
      rw [f1] at tn
      have he : S.erase x = S := List.erase_of_not_mem hm
      rw [he] at d1 hlen
      exact .turn tn (rest_reads c9 ds xs _ _ d1 d2 (fun y hy => hx y (.tail _ hy)) hlen)
theorem name_in (c : Nat) : nameOf4 c ∈ names4 := by
  have h : c % 4 < 4 := Nat.mod_lt _ (by decide)
  unfold nameOf4
  generalize c % 4 = q at *
  match q, h with
  | 0, _ => decide
  | 1, _ => decide
  | 2, _ => decide
  | 3, _ => decide
theorem tape_reads' (cs : List Nat) (hl : cs.length = 9) (c9 : Nat) : RRest (tapeAt (plainOf cs) c9 9) (plainOf cs) 0 [] := by
  have hp : (plainOf cs).length = 9 := by unfold plainOf; rw [List.length_map]; exact hl
  rw [tape_eq _ _ hp]
  refine rest_reads c9 _ (plainOf cs) [] 0 rfl (Nat.zero_le _) (fun x hx => ?_) (by rw [hp]; decide)
  obtain ⟨c, _, rfl⟩ := List.mem_map.mp hx
  exact name_in c
end
section
set_option maxRecDepth 100000
/-! ### the stack that looks ahead is least: counting -/
noncomputable def nx (xs : List Str) (i : Nat) (y : Str) : Nat := i + (xs.drop i).idxOf y
theorem nx_ge (xs : List Str) (i : Nat) (y : Str) : i ≤ nx xs i y := Nat.le_add_right _ _
theorem drop_at {xs : List Str} {i : Nat} {z : Str} (h : xs[i]? = some z) : xs.drop i = z :: xs.drop (i + 1) := by
  obtain ⟨hi, e⟩ := List.getElem?_eq_some_iff.mp h
  rw [List.drop_eq_getElem_cons hi, e]
theorem nx_self {xs : List Str} {i : Nat} {z : Str} (h : xs[i]? = some z) : nx xs i z = i := by
  unfold nx
  rw [drop_at h, List.idxOf_cons_self]
  rfl
theorem nx_next {xs : List Str} {i : Nat} {z y : Str} (h : xs[i]? = some z) (hy : y ≠ z) : nx xs i y = nx xs (i + 1) y := by
  unfold nx
  rw [drop_at h, List.idxOf_cons]
  have : (z == y) = false := beq_eq_false_iff_ne.mpr (fun q => hy q.symm)
  rw [this]
  show i + ((xs.drop (i + 1)).idxOf y + 1) = _
  lia
noncomputable def cN (xs : List Str) (i τ : Nat) (X : List Str) : Nat := X.countP fun y => decide (nx xs i y < τ)
noncomputable def aN (xs : List Str) (z : Str) (j τ : Nat) (X : List Str) : Nat := X.countP fun y => decide (y ≠ z) && decide (nx xs j y < τ)
theorem cp_split (p : Str → Bool) (z : Str) : ∀ X : List Str, X.Nodup → X.countP p = (if z ∈ X ∧ p z = true then 1 else 0) + X.countP fun y => decide (y ≠ z) && p y
  | [], _ => by simp
  | y :: X, hn => by
    rw [List.nodup_cons] at hn
    rw [List.countP_cons, List.countP_cons, cp_split p z X hn.2]
    by_cases h : y = z
    · subst h
      have h1 : ¬ (y ∈ X ∧ p y = true) := fun q => hn.1 q.1
      rw [if_neg h1]
      simp only [List.mem_cons, true_or, true_and, ne_eq, not_true, decide_false, Bool.false_and, Bool.false_eq_true, if_false]
      lia
    · have h1 : (z ∈ y :: X ∧ p z = true) ↔ (z ∈ X ∧ p z = true) := by
        rw [List.mem_cons]
        constructor
        · rintro ⟨q | q, r⟩
          · exact absurd q.symm h
          · exact ⟨q, r⟩
        · rintro ⟨q, r⟩; exact ⟨.inr q, r⟩
      simp only [h1, ne_eq, h, not_false_eq_true, decide_true, Bool.true_and]
      lia
theorem cN_old {xs : List Str} {i τ : Nat} {z : Str} (h : xs[i]? = some z) (ht : i < τ) {X : List Str} (hn : X.Nodup) : cN xs i τ X = (if z ∈ X then 1 else 0) + aN xs z (i + 1) τ X := by
  unfold cN aN
  rw [cp_split _ z X hn]
  congr 1
  · have : decide (nx xs i z < τ) = true := by rw [nx_self h]; exact decide_eq_true ht
    simp only [this, and_true]
  · apply List.countP_congr
    intro y _
    by_cases hy : y = z
    · subst hy; simp
    · rw [nx_next h hy]
theorem cN_new {xs : List Str} {j τ : Nat} {z : Str} {X : List Str} (hn : X.Nodup) (hz : z ∈ X) : cN xs j τ X = (if nx xs j z < τ then 1 else 0) + aN xs z j τ X := by
  unfold cN aN
  rw [cp_split _ z X hn]
  congr 1
  simp only [hz, true_and, decide_eq_true_eq]
theorem aN_low {xs : List Str} {z : Str} {j τ : Nat} (ht : τ ≤ j) (X : List Str) : aN xs z j τ X = 0 := by
  unfold aN
  rw [List.countP_eq_zero]
  intro y _
  have := nx_ge xs j y
  simp only [Bool.and_eq_true, decide_eq_true_eq, not_and]
  intro _
  lia
theorem aN_len {xs : List Str} {z : Str} {j τ : Nat} {X : List Str} (hn : X.Nodup) (hz : z ∈ X) : aN xs z j τ X + 1 ≤ X.length := by
  have h1 := cp_split (fun _ => true) z X hn
  rw [List.countP_true, if_pos ⟨hz, rfl⟩] at h1
  have h2 : aN xs z j τ X ≤ X.countP fun y => decide (y ≠ z) && true := by
    apply List.countP_mono_left
    intro y _ hy
    rw [Bool.and_eq_true] at hy ⊢
    exact ⟨hy.1, rfl⟩
  lia
theorem aN_perm {xs : List Str} {z : Str} {j τ : Nat} {X Y : List Str} (h : X.Perm Y) : aN xs z j τ X = aN xs z j τ Y := h.countP_eq _
theorem aN_cons_self {xs : List Str} {z : Str} {j τ : Nat} {X : List Str} : aN xs z j τ (z :: X) = aN xs z j τ X := by
  unfold aN
  rw [List.countP_cons]
  simp
noncomputable def Lq (xs : List Str) (i : Nat) (D : List Str) (p : Nat) (B : List Str) (m : Nat) : Prop := ∀ τ, m + cN xs i τ D ≤ p + cN xs i τ B
theorem step_K {xs : List Str} {i p m : Nat} {z : Str} {D B : List Str} (h : xs[i]? = some z) (hD : D.Nodup) (hB : B.Nodup) (L : Lq xs i D p B m) (τ : Nat) :
    (if z ∈ B then m else m + 1) + aN xs z (i + 1) τ D ≤ (if z ∈ D then p else p + 1) + aN xs z (i + 1) τ B := by
  by_cases ht : i < τ
  · have := L τ
    rw [cN_old h ht hD, cN_old h ht hB] at this
    by_cases h1 : z ∈ D <;> by_cases h2 : z ∈ B <;> simp only [h1, h2, if_true, if_false] at this ⊢ <;> lia
  · have := L (i + 1)
    rw [cN_old h (Nat.lt_succ_self i) hD, cN_old h (Nat.lt_succ_self i) hB, aN_low (Nat.le_refl _), aN_low (Nat.le_refl _)] at this
    rw [aN_low (by lia), aN_low (by lia)]
    by_cases h1 : z ∈ D <;> by_cases h2 : z ∈ B <;> simp only [h1, h2, if_true, if_false] at this ⊢ <;> lia
/-- what a desk may become when a name is asked -/
structure WayD (xs : List Str) (j r : Nat) (z : Str) (D D' : List Str) : Prop where
  has : z ∈ D'
  nd : D'.Nodup
  len : D'.length ≤ r
  le : ∀ τ, aN xs z j τ D' ≤ aN xs z j τ D
/-- what the first places of the stack become -/
structure NewB (xs : List Str) (j r : Nat) (z : Str) (B B' : List Str) : Prop where
  has : z ∈ B'
  nd : B'.Nodup
  eq : (∀ τ, aN xs z j τ B' = aN xs z j τ B) ∨ ∃ c, ∀ τ, if nx xs j c < τ then r ≤ aN xs z j τ B' + 1 else aN xs z j τ B' = aN xs z j τ B
theorem step_L {xs : List Str} {i r p m : Nat} {z : Str} {D D' B B' : List Str} (h : xs[i]? = some z) (hD : D.Nodup) (hB : B.Nodup) (L : Lq xs i D p B m) (W : WayD xs (i + 1) r z D D') (N : NewB xs (i + 1) r z B B') :
    Lq xs (i + 1) D' (if z ∈ D then p else p + 1) B' (if z ∈ B then m else m + 1) := by
  intro τ
  have K := step_K h hD hB L τ
  have K0 := step_K h hD hB L 0
  rw [aN_low (Nat.zero_le _), aN_low (Nat.zero_le _)] at K0
  rw [cN_new W.nd W.has, cN_new N.nd N.has]
  have hle := W.le τ
  rcases N.eq with e | ⟨c, e⟩
  · have := e τ; lia
  · have hc := e τ
    by_cases q : nx xs (i + 1) c < τ
    · rw [if_pos q] at hc
      have h1 := aN_len (xs := xs) (j := i + 1) (τ := τ) W.nd W.has
      have h2 := W.len
      lia
    · rw [if_neg q] at hc
      lia
end
section
set_option maxRecDepth 100000
/-! ### the stack that looks ahead: a turn -/
theorem merge_spec (soon : Str → Nat) : ∀ (l out : List Str) (c : Str), ∃ o c', l.foldl (mergeF soon) (out, c) = (out ++ o, c') ∧ o.length = l.length ∧ (o ++ [c']).Perm (c :: l) ∧ ∀ y ∈ c :: l, soon y ≤ soon c'
  | [], out, c => ⟨[], c, by rw [List.append_nil]; rfl, rfl, .refl _, fun y hy => by
    rcases List.mem_cons.mp hy with rfl | hy
    · exact Nat.le_refl _
    · cases hy⟩
  | x :: l, out, c => by
    rw [List.foldl_cons]
    unfold mergeF
    dsimp only
    by_cases h : soon x < soon c
    · rw [if_pos h]
      obtain ⟨o, c', e, el, p, mx⟩ := merge_spec soon l (out ++ [x]) c
      unfold mergeF at e
      refine ⟨x :: o, c', by rw [e, List.append_assoc]; rfl, by rw [List.length_cons, el, List.length_cons], ?_, fun y hy => ?_⟩
      · exact (p.cons x).trans (.swap c x l)
      · rcases List.mem_cons.mp hy with rfl | hy
        · exact mx _ (.head _)
        · rcases List.mem_cons.mp hy with rfl | hy
          · exact Nat.le_trans (Nat.le_of_lt h) (mx c (.head _))
          · exact mx y (.tail _ hy)
    · rw [if_neg h]
      obtain ⟨o, c', e, el, p, mx⟩ := merge_spec soon l (out ++ [c]) x
      unfold mergeF at e
      refine ⟨c :: o, c', by rw [e, List.append_assoc]; rfl, by rw [List.length_cons, el, List.length_cons], p.cons c, fun y hy => ?_⟩
      rcases List.mem_cons.mp hy with rfl | hy
      · exact Nat.le_trans (Nat.not_lt.mp h) (mx x (.head _))
      · exact mx y hy
theorem restack_app (soon : Str → Nat) (z : Str) (ab rest : List Str) : restack soon z ab rest = restack soon z ab [] ++ rest := by
  cases ab with
  | nil => rfl
  | cons p r =>
    unfold restack
    rw [List.append_assoc]
    rfl
theorem restack_perm (soon : Str → Nat) (z : Str) (ab : List Str) : (restack soon z ab []).Perm (z :: ab) := by
  cases ab with
  | nil => exact .refl _
  | cons p r =>
    obtain ⟨o, c, e, _, pm, _⟩ := merge_spec soon r [z] p
    show ((r.foldl (mergeF soon) ([z], p)).1 ++ (r.foldl (mergeF soon) ([z], p)).2 :: []).Perm _
    rw [e]
    exact pm.cons z
theorem restack_first (soon : Str → Nat) (z : Str) (ab rest : List Str) (n : Nat) (h : n + 1 ≤ ab.length) : ∃ o c, (restack soon z ab rest).take (n + 1) = z :: o ∧ (o ++ [c]).Perm (ab.take (n + 1)) ∧ ∀ y ∈ ab.take (n + 1), soon y ≤ soon c := by
  cases ab with
  | nil => simp at h
  | cons p r =>
    rw [List.length_cons] at h
    obtain ⟨o, c, e, el, pm, mx⟩ := merge_spec soon (r.take n) [z] p
    obtain ⟨o2, c2, e2, _⟩ := merge_spec soon (r.drop n) ([z] ++ o) c
    refine ⟨o, c, ?_, by rw [List.take_succ_cons]; exact pm, by rw [List.take_succ_cons]; exact mx⟩
    show ((r.foldl (mergeF soon) ([z], p)).1 ++ (r.foldl (mergeF soon) ([z], p)).2 :: rest).take (n + 1) = z :: o
    have er : r.foldl (mergeF soon) ([z], p) = ([z] ++ o ++ o2, c2) := by
      conv => lhs; rw [← List.take_append_drop n r]
      rw [List.foldl_append, e, e2]
    rw [er]
    show ([z] ++ o ++ o2 ++ c2 :: rest).take (n + 1) = z :: o
    have hl : (z :: o).length = n + 1 := by rw [List.length_cons, el, List.length_take]; lia
    rw [List.append_assoc ([z] ++ o)]
    show ((z :: o) ++ (o2 ++ c2 :: rest)).take (n + 1) = z :: o
    rw [← hl, List.take_left]
inductive StackTurn (r : Nat) (z : Str) (soon : Str → Nat) (B B' : List Str) : Prop where
  | hit (h : z ∈ B) (p : B'.Perm B)
  | add (h : z ∉ B) (hl : B.length < r) (p : B'.Perm (z :: B))
  | rep (h : z ∉ B) (hl : B.length = r) (o : List Str) (c : Str) (e : B' = z :: o) (p : (o ++ [c]).Perm B) (mx : ∀ y ∈ B, soon y ≤ soon c)
theorem split_at {z : Str} : ∀ {S : List Str}, z ∈ S → S = S.take (S.idxOf z) ++ z :: S.drop (S.idxOf z + 1)
  | [], h => by cases h
  | y :: S, h => by
    rw [List.idxOf_cons]
    by_cases e : (y == z) = true
    · rw [e, eq_of_beq e]; rfl
    · rw [Bool.not_eq_true] at e
      rw [e]
      rcases List.mem_cons.mp h with rfl | h
      · rw [beq_self_eq_true] at e; cases e
      · show y :: S = (y :: S).take (S.idxOf z + 1) ++ z :: (y :: S).drop (S.idxOf z + 1 + 1)
        rw [List.take_succ_cons, List.drop_succ_cons, List.cons_append, ← split_at h]
theorem stack_turn (soon : Str → Nat) (z : Str) (S : List Str) (hn : S.Nodup) (r : Nat) (hr : 1 ≤ r) :
    StackTurn r z soon (S.take r) ((restack soon z (aboveOf S z) (S.drop ((aboveOf S z).length + 1))).take r) ∧ (restack soon z (aboveOf S z) (S.drop ((aboveOf S z).length + 1))).Nodup := by
  obtain ⟨n, rfl⟩ : ∃ n, r = n + 1 := ⟨r - 1, by lia⟩
  by_cases hz : z ∈ S
  · have hi : S.idxOf z < S.length := List.idxOf_lt_length_iff.mpr hz
    have ha : aboveOf S z = S.take (S.idxOf z) := if_pos hz
    have hal : (S.take (S.idxOf z)).length = S.idxOf z := by rw [List.length_take]; lia
    have hs := split_at hz
    rw [ha, hal]
    have hX := restack_perm soon z (S.take (S.idxOf z))
    have hXl : (restack soon z (S.take (S.idxOf z)) []).length = S.idxOf z + 1 := by rw [hX.length_eq, List.length_cons, hal]
    refine ⟨?_, ?_⟩
    · by_cases hb : S.idxOf z < n + 1
      · have e1 : S.take (n + 1) = S.take (S.idxOf z) ++ z :: (S.drop (S.idxOf z + 1)).take (n - S.idxOf z) := by
          conv => lhs; rw [hs]
          rw [List.take_append, hal, List.take_of_length_le (by rw [hal]; lia), show n + 1 - S.idxOf z = (n - S.idxOf z) + 1 by lia, List.take_succ_cons]
        have e2 : (restack soon z (S.take (S.idxOf z)) (S.drop (S.idxOf z + 1))).take (n + 1) = restack soon z (S.take (S.idxOf z)) [] ++ (S.drop (S.idxOf z + 1)).take (n - S.idxOf z) := by
          rw [restack_app, List.take_append, hXl, List.take_of_length_le (by rw [hXl]; lia), show n + 1 - (S.idxOf z + 1) = n - S.idxOf z by lia]
        rw [e1, e2]
        refine .hit (List.mem_append_right _ (.head _)) ?_
        exact (hX.append_right _).trans (List.perm_middle (a := z) (l₁ := S.take (S.idxOf z))).symm
      · have hm : z ∉ S.take (n + 1) := fun q => hb ((mem_take_idx z S (n + 1)).mp q).2
        obtain ⟨o, c, e, p, mx⟩ := restack_first soon z (S.take (S.idxOf z)) (S.drop (S.idxOf z + 1)) n (by rw [hal]; lia)
        rw [List.take_take, Nat.min_eq_left (by lia)] at p mx
        exact .rep hm (by rw [List.length_take]; lia) o c e p mx
    · rw [restack_app]
      have : (restack soon z (S.take (S.idxOf z)) [] ++ S.drop (S.idxOf z + 1)).Perm S := by
        conv => rhs; rw [hs]
        exact (hX.append_right _).trans (List.perm_middle (a := z) (l₁ := S.take (S.idxOf z))).symm
      exact this.nodup_iff.mpr hn
  · have ha : aboveOf S z = S := if_neg hz
    rw [ha, List.drop_of_length_le (by lia)]
    have hX := restack_perm soon z S
    refine ⟨?_, hX.nodup_iff.mpr (List.nodup_cons.mpr ⟨hz, hn⟩)⟩
    by_cases hb : S.length < n + 1
    · rw [List.take_of_length_le (Nat.le_of_lt hb), List.take_of_length_le (by rw [hX.length_eq, List.length_cons]; lia)]
      exact .add hz hb hX
    · obtain ⟨o, c, e, p, mx⟩ := restack_first soon z S [] n (by lia)
      exact .rep (fun q => hz (List.mem_of_mem_take q)) (by rw [List.length_take]; lia) o c e p mx
theorem newB_of {xs : List Str} {j r : Nat} {z : Str} {B B' : List Str} (hn : B.Nodup) (T : StackTurn r z (nx xs j) B B') : NewB xs j r z B B' := by
  cases T with
  | hit h p => exact ⟨p.mem_iff.mpr h, p.nodup_iff.mpr hn, .inl fun τ => aN_perm p⟩
  | add h hl p => exact ⟨p.mem_iff.mpr (.head _), p.nodup_iff.mpr (List.nodup_cons.mpr ⟨h, hn⟩), .inl fun τ => (aN_perm p).trans aN_cons_self⟩
  | rep h hl o c e p mx =>
    subst e
    have hnc := p.nodup_iff.mpr hn
    have hno := (List.nodup_append.mp hnc).1
    have hzo : z ∉ o := fun q => h (p.mem_iff.mp (List.mem_append_left _ q))
    have hlen : o.length + 1 = r := by rw [← hl, ← p.length_eq, List.length_append]; rfl
    refine ⟨.head _, List.nodup_cons.mpr ⟨hzo, hno⟩, .inr ⟨c, fun τ => ?_⟩⟩
    rw [aN_cons_self]
    by_cases q : nx xs j c < τ
    · rw [if_pos q]
      have : aN xs z j τ o = o.length := by
        unfold aN
        rw [List.countP_eq_length]
        intro y hy
        have hyB := p.mem_iff.mp (List.mem_append_left _ hy)
        have := mx y hyB
        rw [Bool.and_eq_true, decide_eq_true_eq, decide_eq_true_eq]
        exact ⟨fun e => h (e ▸ hyB), by lia⟩
      lia
    · rw [if_neg q, ← aN_perm p]
      unfold aN
      rw [List.countP_append, List.countP_cons, List.countP_nil]
      simp [q]
end
section
set_option maxRecDepth 100000
/-! ### the tables of desks -/
theorem getN_nil (k : Nat) : getN [] k = none := rfl
theorem getN_cons (p : Nat × Nat) (r : List (Nat × Nat)) (k : Nat) : getN (p :: r) k = if p.1 = k then some p.2 else getN r k := by
  unfold getN
  rw [List.find?_cons]
  by_cases h : p.1 = k
  · simp [h]
  · simp [h]
theorem getN_map (k v k' : Nat) : ∀ l : List (Nat × Nat), getN (l.map fun p => if p.1 = k then (p.1, v) else p) k' = if k' = k ∧ l.any (fun p => p.1 = k) = true then some v else getN l k'
  | [] => by simp [getN_nil]
  | p :: r => by
    rw [List.map_cons, getN_cons, getN_cons, getN_map k v k' r, List.any_cons]
    by_cases h : p.1 = k
    · by_cases h2 : k' = k
      · subst h2; simp [h]
      · have : ¬ k = k' := fun q => h2 q.symm
        simp [h, h2, this]
    · by_cases h2 : k' = k
      · subst h2; simp only [h, if_false, decide_false, Bool.false_or]
      · simp [h, h2]
theorem getN_app (k v k' : Nat) : ∀ l : List (Nat × Nat), getN (l ++ [(k, v)]) k' = match getN l k' with
    | some x => some x
    | none => if k = k' then some v else none
  | [] => by rw [List.nil_append, getN_cons, getN_nil]
  | p :: r => by
    rw [List.cons_append, getN_cons, getN_cons, getN_app k v k' r]
    by_cases h : p.1 = k'
    · rw [if_pos h, if_pos h]
    · rw [if_neg h, if_neg h]
theorem getN_none {l : List (Nat × Nat)} {k : Nat} (h : l.any (fun p => p.1 = k) = false) : getN l k = none := by
  induction l with
  | nil => rfl
  | cons p r ih =>
    rw [List.any_cons, Bool.or_eq_false_iff, decide_eq_false_iff_not] at h
    rw [getN_cons, if_neg h.1, ih h.2]
theorem getN_set (l : List (Nat × Nat)) (k v k' : Nat) : getN (setN l k v) k' = if k' = k then some v else getN l k' := by
  unfold setN
  cases h : l.any (fun p => p.1 = k) with
  | true => rw [if_pos rfl, getN_map, h]; simp
  | false =>
    rw [if_neg Bool.false_ne_true, getN_app]
    by_cases h2 : k' = k
    · subst h2; rw [getN_none h, if_pos rfl]
    · have : ¬ k = k' := fun q => h2 q.symm
      rw [if_neg h2]
      cases getN l k' with
      | none => simp [this]
      | some x => rfl
theorem getN_mem {l : List (Nat × Nat)} {k v : Nat} (h : getN l k = some v) : k ∈ l.map (·.1) := by
  induction l with
  | nil => cases h
  | cons p r ih =>
    rw [getN_cons] at h
    rw [List.map_cons]
    split at h
    · rename_i e; rw [← e]; exact .head _
    · exact .tail _ (ih h)
noncomputable def TAll (Q : Nat → Nat → Prop) (af : List (Nat × Nat)) : Prop := ∀ k v, getN af k = some v → Q k v
theorem put_all {Q : Nat → Nat → Prop} {price : Nat} {af : List (Nat × Nat)} {way : Nat} (h : TAll Q af) (h9 : Q way 99) (hp : Q way price) : TAll Q (putN price af way) := by
  intro k v e
  unfold putN at e
  rw [getN_set] at e
  split at e
  · rename_i hk
    subst hk
    cases e
    cases hg : getN af k with
    | none =>
      show Q k (min 99 price)
      rw [Nat.min_def]; split
      · exact h9
      · exact hp
    | some x =>
      show Q k (min x price)
      rw [Nat.min_def]; split
      · exact h k x hg
      · exact hp
  · exact h k v e
theorem puts_all {Q : Nat → Nat → Prop} {price : Nat} : ∀ (ws : List Nat) (af : List (Nat × Nat)), TAll Q af → (∀ w ∈ ws, Q w 99 ∧ Q w price) → TAll Q (ws.foldl (putN price) af)
  | [], af, h, _ => h
  | w :: ws, af, h, hw => puts_all ws _ (put_all h (hw w (.head _)).1 (hw w (.head _)).2) fun x hx => hw x (.tail _ hx)
theorem desks_all {Q : Nat → Nat → Prop} {room kind : Nat} {costs : List (Nat × Nat)} : ∀ (ds : List Nat) (af : List (Nat × Nat)), TAll Q af → (∀ d ∈ ds, ∀ w ∈ waysN room kind d, Q w 99 ∧ Q w (priceN kind d ((getN costs d).getD 0))) → TAll Q (ds.foldl (deskN room kind costs) af)
  | [], af, h, _ => h
  | d :: ds, af, h, hw => desks_all ds _ (puts_all _ _ h (hw d (.head _))) fun x hx => hw x (.tail _ hx)
noncomputable def THas (k c : Nat) (af : List (Nat × Nat)) : Prop := ∃ v, getN af k = some v ∧ v ≤ c
theorem put_has {k c price : Nat} {af : List (Nat × Nat)} {way : Nat} (h : THas k c af) : THas k c (putN price af way) := by
  obtain ⟨v, e, l⟩ := h
  unfold THas putN
  rw [getN_set]
  by_cases hk : k = way
  · subst hk
    rw [if_pos rfl, e]
    exact ⟨_, rfl, Nat.le_trans (Nat.min_le_left _ _) l⟩
  · rw [if_neg hk]; exact ⟨v, e, l⟩
theorem puts_has {k c price : Nat} : ∀ (ws : List Nat) (af : List (Nat × Nat)), THas k c af → THas k c (ws.foldl (putN price) af)
  | [], _, h => h
  | _ :: ws, _, h => puts_has ws _ (put_has h)
theorem puts_new {k price : Nat} : ∀ (ws : List Nat) (af : List (Nat × Nat)), k ∈ ws → THas k price (ws.foldl (putN price) af)
  | [], _, h => by cases h
  | w :: ws, af, h => by
    rcases List.mem_cons.mp h with rfl | h
    · refine puts_has ws _ ?_
      unfold THas putN
      rw [getN_set, if_pos rfl]
      exact ⟨_, rfl, Nat.min_le_right _ _⟩
    · exact puts_new ws _ h
theorem desks_has {room kind k c : Nat} {costs : List (Nat × Nat)} : ∀ (ds : List Nat) (af : List (Nat × Nat)), THas k c af → THas k c (ds.foldl (deskN room kind costs) af)
  | [], _, h => h
  | _ :: ds, _, h => desks_has ds _ (puts_has _ _ h)
theorem desks_new {room kind k d : Nat} {costs : List (Nat × Nat)} (hk : k ∈ waysN room kind d) : ∀ (ds : List Nat) (af : List (Nat × Nat)), d ∈ ds → THas k (priceN kind d ((getN costs d).getD 0)) (ds.foldl (deskN room kind costs) af)
  | [], _, h => by cases h
  | e :: ds, af, h => by
    rcases List.mem_cons.mp h with rfl | h
    · exact desks_has ds _ (puts_new _ _ hk)
    · exact desks_new hk ds _ h
/-! ### the desks as lists of names -/
noncomputable def deskD (d : Nat) : List Str := (heldN d).map nameOf4
theorem fin_nd : (List.range 16).all (fun d => decide (deskD d).Nodup) = true := by kernel_rfl
theorem fin_in : (List.range 16).all (fun d => (List.range 4).all fun k => decide (k ∈ heldN d) == decide (nameOf4 k ∈ deskD d)) = true := by kernel_rfl
theorem fin_add : (List.range 16).all (fun d => (List.range 4).all fun k => decide (k ∈ heldN d) || (decide (d + 2 ^ k < 16) && decide ((heldN (d + 2 ^ k)).Perm (k :: heldN d)))) = true := by kernel_rfl
theorem fin_rep : (List.range 16).all (fun d => (List.range 4).all fun k => decide (k ∈ heldN d) || (heldN d).all fun j => decide (d + 2 ^ k - 2 ^ j < 16) && decide ((heldN (d + 2 ^ k - 2 ^ j)).Perm (k :: (heldN d).erase j))) = true := by kernel_rfl
section
variable {d k : Nat}
theorem desk_nd (hd : d < 16) : (deskD d).Nodup := of_decide_eq_true (List.all_eq_true.mp fin_nd d (List.mem_range.mpr hd))
theorem desk_in (hd : d < 16) (hk : k < 4) : k ∈ heldN d ↔ nameOf4 k ∈ deskD d := by
  have := eq_of_beq (List.all_eq_true.mp (List.all_eq_true.mp fin_in d (List.mem_range.mpr hd)) k (List.mem_range.mpr hk))
  exact decide_eq_decide.mp this
theorem desk_add (hd : d < 16) (hk : k < 4) (h : k ∉ heldN d) : d + 2 ^ k < 16 ∧ (deskD (d + 2 ^ k)).Perm (nameOf4 k :: deskD d) := by
  have := List.all_eq_true.mp (List.all_eq_true.mp fin_add d (List.mem_range.mpr hd)) k (List.mem_range.mpr hk)
  rw [decide_eq_false h, Bool.false_or, Bool.and_eq_true, decide_eq_true_eq, decide_eq_true_eq] at this
  exact ⟨this.1, this.2.map nameOf4⟩
theorem desk_rep (hd : d < 16) (hk : k < 4) (h : k ∉ heldN d) {j : Nat} (hj : j ∈ heldN d) : d + 2 ^ k - 2 ^ j < 16 ∧ (deskD (d + 2 ^ k - 2 ^ j)).Perm (nameOf4 k :: ((heldN d).erase j).map nameOf4) ∧ (deskD d).Perm (nameOf4 j :: ((heldN d).erase j).map nameOf4) := by
  have := List.all_eq_true.mp (List.all_eq_true.mp fin_rep d (List.mem_range.mpr hd)) k (List.mem_range.mpr hk)
  rw [decide_eq_false h, Bool.false_or] at this
  have := List.all_eq_true.mp this j hj
  rw [Bool.and_eq_true, decide_eq_true_eq, decide_eq_true_eq] at this
  exact ⟨this.1, this.2.map nameOf4, (List.perm_cons_erase hj).map nameOf4⟩
theorem deskD_len : (deskD d).length = (heldN d).length := List.length_map _
theorem ways_D {xs : List Str} {j room : Nat} (hd : d < 16) (hk : k < 4) (hl : (deskD d).length ≤ room) {way : Nat} (hw : way ∈ waysN room k d) : way < 16 ∧ WayD xs j room (nameOf4 k) (deskD d) (deskD way) := by
  unfold waysN at hw
  split at hw
  · rename_i h
    rw [List.mem_singleton] at hw
    subst hw
    exact ⟨hd, (desk_in hd hk).mp h, desk_nd hd, hl, fun _ => Nat.le_refl _⟩
  · rename_i h
    have hz : nameOf4 k ∉ deskD d := fun q => h ((desk_in hd hk).mpr q)
    split at hw
    · rename_i hr
      obtain ⟨i, hi, rfl⟩ := List.mem_map.mp hw
      obtain ⟨h1, h2, h3⟩ := desk_rep hd hk h hi
      refine ⟨h1, h2.mem_iff.mpr (.head _), desk_nd h1, ?_, fun τ => ?_⟩
      · rw [h2.length_eq, List.length_cons]
        have := h3.length_eq
        rw [List.length_cons] at this
        lia
      · rw [aN_perm h2, aN_cons_self, aN_perm h3]
        unfold aN
        rw [List.countP_cons]
        lia
    · rename_i hr
      rw [List.mem_singleton] at hw
      subst hw
      obtain ⟨h1, h2⟩ := desk_add hd hk h
      refine ⟨h1, h2.mem_iff.mpr (.head _), desk_nd h1, ?_, fun τ => ?_⟩
      · rw [h2.length_eq, List.length_cons]
        rw [deskD_len] at hl ⊢
        lia
      · rw [aN_perm h2, aN_cons_self]
        exact Nat.le_refl _
theorem price_D (hd : d < 16) (hk : k < 4) (p : Nat) : priceN k d p = if nameOf4 k ∈ deskD d then p else p + 1 := by
  unfold priceN
  by_cases h : k ∈ heldN d
  · rw [if_pos h, if_pos ((desk_in hd hk).mp h)]
  · rw [if_neg h, if_neg (fun q => h ((desk_in hd hk).mpr q))]
end
/-! ### the two runs side by side -/
noncomputable def missN (room : Nat) (bs : List Nat) : Nat := (bs.filter (hitN room)).length
structure AInv (xs : List Str) (room i : Nat) (bs : List Nat) (S : List Str) (costs : List (Nat × Nat)) : Prop where
  low : ∀ d p, getN costs d = some p → d < 16 ∧ (deskD d).length ≤ room ∧ Lq xs i (deskD d) p (S.take room) (missN room bs)
  got : ∃ d p, getN costs d = some p ∧ d < 16 ∧ (deskD d).Perm (S.take room) ∧ p ≤ missN room bs
theorem miss_le (room : Nat) (bs : List Nat) : missN room bs ≤ bs.length := List.length_filter_le _ _
theorem turn_inv {xs : List Str} {room : Nat} (hr : 1 ≤ room) (h3 : room ≤ 3) {k i : Nat} {bs : List Nat} {S : List Str} {costs : List (Nat × Nat)} (hk : k < 4) (hx : xs[i]? = some (nameOf4 k)) (hb : bs.length = i) (hi : i < 9) (hn : S.Nodup) (V : AInv xs room i bs S costs) :
    AInv xs room (i + 1) (aheadF xs (bs, S) (nameOf4 k)).1 (aheadF xs (bs, S) (nameOf4 k)).2 (stepN room costs k) ∧ (aheadF xs (bs, S) (nameOf4 k)).2.Nodup := by
  have hsoon : soonN xs bs.length = nx xs (i + 1) := by rw [hb]; rfl
  obtain ⟨T, hn'⟩ := stack_turn (nx xs (i + 1)) (nameOf4 k) S hn room hr
  have hm : missN room (aheadF xs (bs, S) (nameOf4 k)).1 = if nameOf4 k ∈ S.take room then missN room bs else missN room bs + 1 := by
    unfold missN aheadF
    dsimp only
    rw [List.filter_append, List.length_append]
    have hmem := mem_take_idx (nameOf4 k) S room
    by_cases hz : nameOf4 k ∈ S
    · have ha : (aboveOf S (nameOf4 k)).length = S.idxOf (nameOf4 k) := by
        unfold aboveOf
        rw [if_pos hz, List.length_take]
        have := List.idxOf_lt_length_iff.mpr hz
        lia
      rw [if_pos hz, ha]
      by_cases hl : S.idxOf (nameOf4 k) < room
      · rw [if_pos (hmem.mpr ⟨hz, hl⟩), List.filter_cons_of_neg (by unfold hitN; simp; lia)]
        rfl
      · rw [if_neg (fun q => hl (hmem.mp q).2), List.filter_cons_of_pos (by unfold hitN; simp; lia)]
        rfl
    · rw [if_neg hz, if_neg (fun q => hz (hmem.mp q).1), List.filter_cons_of_pos (by unfold hitN; simp)]
      rfl
  have hS : (aheadF xs (bs, S) (nameOf4 k)).2 = restack (nx xs (i + 1)) (nameOf4 k) (aboveOf S (nameOf4 k)) (S.drop ((aboveOf S (nameOf4 k)).length + 1)) := by
    unfold aheadF
    dsimp only
    rw [hsoon]
  rw [hS]
  generalize hS' : restack (nx xs (i + 1)) (nameOf4 k) (aboveOf S (nameOf4 k)) (S.drop ((aboveOf S (nameOf4 k)).length + 1)) = S' at *
  refine ⟨⟨?_, ?_⟩, hn'⟩
  · have hB : (S.take room).Nodup := (List.take_sublist _ _).nodup hn
    have N := newB_of hB T
    have m9 : missN room (aheadF xs (bs, S) (nameOf4 k)).1 ≤ 10 := by
      rw [hm]
      have := miss_le room bs
      split <;> lia
    refine desks_all _ _ (fun k v e => by rw [getN_nil] at e; cases e) fun d hd w hw => ?_
    obtain ⟨p, hp⟩ := getN_some hd
    obtain ⟨d16, dl, L⟩ := V.low d p hp
    obtain ⟨w16, W⟩ := ways_D (xs := xs) (j := i + 1) d16 hk dl hw
    rw [hp, Option.getD_some, price_D d16 hk, hm]
    refine ⟨⟨w16, W.len, fun τ => ?_⟩, w16, W.len, step_L hx (desk_nd d16) hB L W N⟩
    have h1 : cN xs (i + 1) τ (deskD w) ≤ (deskD w).length := List.countP_le_length
    have h2 := W.len
    rw [hm] at m9
    lia
  · obtain ⟨d, p, hp, d16, dB, pm⟩ := V.got
    rw [hm]
    have hzd : nameOf4 k ∈ deskD d ↔ nameOf4 k ∈ S.take room := dB.mem_iff
    have hh := desk_in d16 hk
    have key : ∀ w, w ∈ waysN room k d → w < 16 → (deskD w).Perm (S'.take room) → ∃ d p, getN (stepN room costs k) d = some p ∧ d < 16 ∧ (deskD d).Perm (S'.take room) ∧ p ≤ if nameOf4 k ∈ S.take room then missN room bs else missN room bs + 1 := fun w hw w16 hperm => by
      obtain ⟨v, e, l⟩ := desks_new (costs := costs) hw (costs.map (·.1)) [] (getN_mem hp)
      rw [hp, Option.getD_some, price_D d16 hk] at l
      refine ⟨w, v, e, w16, hperm, Nat.le_trans l ?_⟩
      by_cases q : nameOf4 k ∈ S.take room
      · rw [if_pos (hzd.mpr q), if_pos q]; exact pm
      · rw [if_neg (fun x => q (hzd.mp x)), if_neg q]; lia
    cases T with
    | hit h pB =>
      have hd : k ∈ heldN d := hh.mpr (hzd.mpr h)
      exact key d (by unfold waysN; rw [if_pos hd]; exact .head _) d16 (dB.trans pB.symm)
    | add h hl pB =>
      have hd : k ∉ heldN d := fun q => h (hzd.mp (hh.mp q))
      obtain ⟨h1, h2⟩ := desk_add d16 hk hd
      have hlen : ¬ (heldN d).length = room := by rw [← deskD_len, dB.length_eq]; lia
      exact key _ (by unfold waysN; rw [if_neg hd, if_neg hlen]; exact .head _) h1 (h2.trans ((dB.cons _).trans pB.symm))
    | rep h hl o c e pB mx =>
      have hd : k ∉ heldN d := fun q => h (hzd.mp (hh.mp q))
      have hlen : (heldN d).length = room := by rw [← deskD_len, dB.length_eq, hl]
      have hc : c ∈ deskD d := dB.mem_iff.mpr (pB.mem_iff.mp (List.mem_append_right _ (.head _)))
      obtain ⟨j, hj, rfl⟩ := List.mem_map.mp hc
      obtain ⟨h1, h2, h3⟩ := desk_rep d16 hk hd hj
      have h4 : (nameOf4 j :: ((heldN d).erase j).map nameOf4).Perm (nameOf4 j :: o) :=
        h3.symm.trans (dB.trans (pB.symm.trans (List.perm_append_comm (l₁ := o) (l₂ := [nameOf4 j]))))
      refine key _ (by unfold waysN; rw [if_neg hd, if_pos hlen]; exact List.mem_map_of_mem hj) h1 ?_
      rw [e]
      exact h2.trans (h4.cons_inv.cons _)
theorem sim_runs {xs : List Str} {room : Nat} (hr : 1 ≤ room) (h3 : room ≤ 3) : ∀ (suf : List Nat) (i : Nat) (bs : List Nat) (S : List Str) (costs : List (Nat × Nat)), (∀ k ∈ suf, k < 4) → xs.drop i = suf.map nameOf4 → bs.length = i → i + suf.length ≤ 9 → S.Nodup → AInv xs room i bs S costs →
    ∃ j bs' S' costs', (suf.map nameOf4).foldl (aheadF xs) (bs, S) = (bs', S') ∧ suf.foldl (stepN room) costs = costs' ∧ AInv xs room j bs' S' costs'
  | [], i, bs, S, costs, _, _, _, _, _, V => ⟨i, bs, S, costs, rfl, rfl, V⟩
  | k :: suf, i, bs, S, costs, hk, hx, hb, hi, hn, V => by
    rw [List.length_cons] at hi
    rw [List.map_cons] at hx
    have hx1 : xs[i]? = some (nameOf4 k) := by
      have := congrArg (fun l => l[0]?) hx
      rw [List.getElem?_drop] at this
      simpa using this
    have hx2 : xs.drop (i + 1) = suf.map nameOf4 := by rw [← List.drop_drop, hx]; rfl
    obtain ⟨V', hn'⟩ := turn_inv hr h3 (hk k (.head _)) hx1 hb (by lia) hn V
    rw [List.map_cons, List.foldl_cons, List.foldl_cons]
    refine sim_runs hr h3 suf (i + 1) _ _ _ (fun y hy => hk y (.tail _ hy)) hx2 ?_ (by lia) hn' V'
    show (bs ++ [_]).length = i + 1
    rw [List.length_append, hb]
    rfl
theorem ahead_least' (ks : List Nat) (hk : ∀ k ∈ ks, k < 4) (hl : ks.length = 9) (room : Nat) (h1 : 1 ≤ room) (h3 : room ≤ 3) (m : Nat) (hm : m ∈ leastVals ks room) (hmin : ∀ b ∈ leastVals ks room, m ≤ b) :
    ((aheads (ks.map nameOf4)).filter (hitN room)).length = m := by
  have h0 : deskD 0 = [] := by kernel_rfl
  obtain ⟨j, bs', S', costs', e1, e2, V⟩ := sim_runs (xs := ks.map nameOf4) h1 h3 ks 0 [] [] [(0, 0)] hk rfl rfl (by lia) List.nodup_nil
    { low := fun d p e => by
        rw [getN_cons, getN_nil] at e
        split at e
        · rename_i hd
          cases e
          have hd' : (0 : Nat) = d := hd
          subst hd'
          rw [h0]
          exact ⟨by decide, Nat.zero_le _, fun τ => by rw [List.take_nil]; exact Nat.le_refl _⟩
        · cases e
      got := ⟨0, 0, rfl, by decide, by rw [h0, List.take_nil], Nat.zero_le _⟩ }
  have hc : costsN ks room = costs' := e2
  have ha : aheads (ks.map nameOf4) = bs' := by unfold aheads; rw [e1]
  rw [ha]
  show missN room bs' = m
  unfold leastVals at hm hmin
  rw [hc] at hm hmin
  obtain ⟨d, hd, rfl⟩ := List.mem_map.mp hm
  obtain ⟨p, hp⟩ := getN_some hd
  obtain ⟨d2, p2, hp2, _, _, l2⟩ := V.got
  have a1 := (V.low d p hp).2.2 0
  have z : ∀ X, cN (ks.map nameOf4) j 0 X = 0 := fun X => by
    unfold cN
    rw [List.countP_eq_zero]
    intro y _
    simp
  rw [z, z] at a1
  have a2 := hmin ((getN costs' d2).getD 0) (List.mem_map_of_mem (getN_mem hp2))
  rw [hp2, Option.getD_some] at a2
  rw [hp, Option.getD_some] at a2 ⊢
  lia
end
theorem prepared (c : Nat) : prep (strip (lineOf c)) = nameOf4 c := prepared' c
theorem back_fetch (xs : List Str) (room : Nat) (hr : 1 ≤ room) : (backs xs).map (hitI room) = fetches xs room := back_fetch' xs room hr
theorem ahead_least (ks : List Nat) (hk : ∀ k ∈ ks, k < 4) (hl : ks.length = 9) (room : Nat) (h1 : 1 ≤ room) (h3 : room ≤ 3) (m : Nat) (hm : m ∈ leastVals ks room) (hmin : ∀ b ∈ leastVals ks room, m ≤ b) :
    ((aheads (ks.map nameOf4)).filter (hitN room)).length = m := ahead_least' ks hk hl room h1 h3 m hm hmin
theorem tape_reads (cs : List Nat) (hl : cs.length = 9) (c9 : Nat) : RRest (tapeAt (plainOf cs) c9 9) (plainOf cs) 0 [] := tape_reads' cs hl c9
theorem steps_bound (script : List Int) (k : Nat) : ∀ n ∈ stepsOf script k, 0 ≤ n ∧ n ≤ 1000000 := by
  intro n hn
  obtain ⟨a, _, rfl⟩ := List.mem_map.mp hn
  have h1 := Int.fmod_nonneg_of_pos a (b := 1000000) (by decide)
  have h2 := Int.fmod_lt_of_pos a (b := 1000000) (by decide)
  exact ⟨h1, Int.le_of_lt h2⟩
theorem cell_eq (script : List Int) (k : Nat) : ((bases10.getD k 0 : Nat) : Int) + (stepsOf script k).sum = (cellOf script k : Nat) := by
  have := (sum_bound 1000000 (by decide) _ (steps_bound script k)).1
  unfold cellOf
  lia
--@ b48
section
theorem lw_bind (va : Value) : ∀ S pm c, peek [] S (bindArgs (fnOf (fnName 25) (fnName 25) (fnParams 25) (fnBody 25) (fnScope 25) .none .none .none pm none (.ref c) .none) ⟨[va], []⟩) = some (([("script", va)] : List (Str × Value))) := by
  intro S pm c; kernel_rfl
theorem lw_fn : (fnScope 25).kind = .function ∧ (fnScope 25).isCoroutine = false ∧ (fnScope 25).isGenerator = false := by decide +kernel
theorem lw_cells (L : Nat) : cellsFrom (L + 1) (fnScope 25).names [] = ([("room", L + 1 + 1 + 1), ("cells", L + 1 + 1), ("script", L + 1)] : List (Str × Addr)) := by kernel_rfl
noncomputable abbrev lwK : List (Str × NameKind) := [("script", .cell), ("cells", .cell), ("plain", .local), ("names", .local), ("back", .local), ("ahead", .local), ("octets", .local), ("room", .cell), ("place", .local), ("numbers", .local), ("enumerate", .globalImplicit), ("_law_back", .globalImplicit), ("_law_ahead", .globalImplicit), ("_law_fetches", .globalImplicit), ("len", .globalImplicit), ("_law_least", .globalImplicit), ("range", .globalImplicit), ("_law_read", .globalImplicit)]
theorem lw_kinds : ∀ p ∈ lwK, (fnScope 25).names.lookup p.1 = some p.2 ∧ (p.1 == ("__debug__" : Str)) = false := by decide +kernel
theorem lw_nd : (["plain", "names", "back", "ahead", "octets", "place", "numbers"] : List Str).Nodup := by decide +kernel
noncomputable abbrev lwV (pn nm bk ah oc pl nu : Option Value) : Vars := [("plain", pn), ("names", nm), ("back", bk), ("ahead", ah), ("octets", oc), ("place", pl), ("numbers", nu)]
noncomputable abbrev lwC (L : Nat) : List (Str × Addr) := [("room", L + 1 + 1 + 1), ("cells", L + 1 + 1), ("script", L + 1)]
theorem back_pos (xs : List Str) : ∀ b ∈ backs xs, 0 ≤ b := by
  have key : ∀ (l : List Str) (st : List Int × List Str), (∀ b ∈ st.1, 0 ≤ b) → ∀ b ∈ (l.foldl backF st).1, 0 ≤ b := by
    intro l
    induction l with
    | nil => intro st h; exact h
    | cons x r ih =>
      intro st h
      refine ih _ fun b hb => ?_
      unfold backF at hb
      rcases List.mem_append.mp hb with hb | hb
      · exact h b hb
      · rw [List.mem_singleton.mp hb]
        split <;> lia
  exact key xs _ fun b hb => (nomatch hb)
theorem backs_len (xs : List Str) : (backs xs).length = xs.length := by
  have := (back_len xs ([], [])).1
  simpa [backs] using this
theorem nums_len (b : Int) (x : Str) (hx : x.cps.size ≤ 3) (c9 : Nat) : ((numsP b x).flatMap (gOct c9)).length ≤ 100 := by
  have ho : ∀ d, (gOct c9 d).length ≤ 6 := by
    intro d
    unfold gOct
    split
    · unfold octs
      refine Nat.le_trans (List.length_filterMap_le _ _) ?_
      rw [List.length_append, List.length_replicate]
      have h1 := List.length_filterMap_le (digit (Int.toNat ‹Int›)) (List.range 4)
      have h2 : c9 % 3 < 3 := Nat.mod_lt _ (by decide)
      simp only [List.length_range] at h1
      lia
    · exact Nat.zero_le _
  have hn : (numsP b x).length ≤ 5 := by
    unfold numsP
    split
    · rw [List.length_cons, List.length_cons, List.length_map, Array.length_toList]; lia
    · exact (by decide : (1 : Nat) ≤ 5)
  have key : ∀ l : List PD, (l.flatMap (gOct c9)).length ≤ 6 * l.length := by
    intro l
    induction l with
    | nil => exact Nat.le_refl _
    | cons d r ih =>
      rw [List.flatMap_cons, List.length_append, List.length_cons]
      have := ho d
      lia
  have := key (numsP b x)
  lia
theorem tape_len (xs : List Str) (hx : ∀ x ∈ xs, x.cps.size ≤ 3) (c9 : Nat) : ∀ i, i ≤ xs.length → (tapeAt xs c9 i).length ≤ 100 * i
  | 0, _ => Nat.le_refl _
  | i + 1, h => by
    have ih := tape_len xs hx c9 i (by lia)
    have e : tapeAt xs c9 (i + 1) = tapeAt xs c9 i ++ (numsP ((backs xs).getD i 0) (xs.getD i "")).flatMap (gOct c9) := by
      unfold tapeAt
      rw [List.range_succ, List.flatMap_append]
      simp
    have hm : xs.getD i "" ∈ xs := by
      rw [List.getD_eq_getElem?_getD, List.getElem?_eq_getElem (by lia)]
      exact List.getElem_mem _
    have := nums_len ((backs xs).getD i 0) _ (hx _ hm) c9
    rw [e, List.length_append]
    lia
theorem tape_step (xs : List Str) (c9 i : Nat) : tapeAt xs c9 (i + 1) = tapeAt xs c9 i ++ (numsP ((backs xs).getD i 0) (xs.getD i "")).flatMap (gOct c9) := by
  unfold tapeAt
  rw [List.range_succ, List.flatMap_append]
  simp
set_option maxHeartbeats 8000000 in
theorem law_three {prog : Program} {w : World} {A : Around} {E : Value → Shared → Prop} {Q : Flow → Shared → Prop} {K' : Kx} {base : Led} {L bk nm pn oc0 ce : Addr} {s : Shared} {cs : List Nat} {xs : List Str} {k : Nat} {env : Env} {ah pl nu : Option Value}
    (T' : TopF K'.hT) (R₁ : Room (k + 4) A) (X : EnvL env L) (hsc : env.scope = fnScope 25) (hcells : env.cells = lwC L) (hcs : cs.length = 10) (hxs : xs = plainOf (cs.take 9))
    (H : St K' base [(bk, intsP (backs xs)), (nm, strsP xs), (pn, strsP xs), (oc0, datP []), (L, nsP (lwV (some (.ref pn)) (some (.ref nm)) (some (.ref bk)) ah (some (.ref oc0)) pl nu)), (L + 1 + 1, cellP (some (.ref ce))), (ce, datP (natsD cs)), (tabAt, tabP #[])] s)
    (h : ∀ vs s', St K' base [(tabAt, tabQ), (L, nsP vs)] s' → Q (.ret (.bool true)) s') :
    wpAny (model prog w) A (execs ((fnBody 25).drop 7) env) Q E s := by
  have D : KD env lwK := KD.ofS hsc lw_kinds
  have C : CK env (lwC L) := CK.of hcells rfl
  have hxl : xs.length = 9 := by rw [hxs, plainOf, List.length_map, List.length_take]; lia
  have hx3 : ∀ x ∈ xs, x.cps.size ≤ 3 ∧ ∀ n ∈ x.cps.toList, 97 ≤ n ∧ n ≤ 122 := by
    intro x hx
    rw [hxs] at hx
    obtain ⟨c, _, rfl⟩ := List.mem_map.mp hx
    exact names_sign _ (Nat.mod_lt _ (by decide))
  have hbl : (backs xs).length = 9 := by rw [backs_len, hxl]
  conv => arg 3; arg 1; whnf
  repeat' walk_at "go"
  with_reducible refine' r_iterR 9 ?H ?hm ?hn ?hs ?_
  case H => assumption
  case hm => walk_at "kn"
  case hn => decide
  case hs => decide
  intro it s1 H1
  have e0 : riP 0 ((9 : Nat) : Int) 1 = riP (0 + ((0 : Nat) : Int) * 1) (((9 : Nat) : Int) - ((0 : Nat) : Int)) 1 := by simp
  rw [e0] at H1
  rename_i t2 s2 H2 n3 s3 H3
  have H4 := H1.pick (led' := [(it, riP (0 + ((0 : Nat) : Int) * 1) (((9 : Nat) : Int) - ((0 : Nat) : Int)) 1), (bk, intsP (backs xs)), (nm, strsP xs), (pn, strsP xs), (oc0, datP []), (L, nsP (lwV (some (.ref pn)) (some (.ref nm)) (some (.ref bk)) ah (some (.ref oc0)) pl nu)), (L + 1 + 1, cellP (some (.ref ce))), (ce, datP (natsD cs)), (tabAt, tabP #[])]) (by walk_at "pick")
  with_reducible refine' r_for (Src.range 0 1 9 ?ht) (fun i led => ∃ (oc : Addr) (pl nu : Option Value), led = [(bk, intsP (backs xs)), (nm, strsP xs), (pn, strsP xs), (oc, datP (tapeAt xs (cs.getD 9 0) i)), (L, nsP (lwV (some (.ref pn)) (some (.ref nm)) (some (.ref bk)) ah (some (.ref oc)) pl nu)), (L + 1 + 1, cellP (some (.ref ce))), (ce, datP (natsD cs)), (tabAt, tabP #[])]) R₁.hd H4 ⟨oc0, pl, nu, rfl⟩ (fun _ _ _ => trivial) ?_ ?_
  case ht => intro _ _; rfl
  · intro E' i v ex led s' hi jJ jV H'
    with_reducible refine' g_fora ?_
    intro Qf oF
    refine el3 jJ fun oc pl nu hE => ?_
    clear jJ
    subst hE
    obtain ⟨rfl, ti, rfl⟩ := jV
    simp only [List.nil_append, List.cons_append] at H'
    have ei : (0 + (i : Int) * 1) = (i : Int) := by lia
    rw [ei]
    have hb : (backs xs)[i]? = some ((backs xs).getD i 0) := by rw [List.getD_eq_getElem?_getD, List.getElem?_eq_getElem (by lia)]; rfl
    have hxi : xs[i]? = some (xs.getD i "") := by rw [List.getD_eq_getElem?_getD, List.getElem?_eq_getElem (by lia)]; rfl
    have hb0 := back_pos xs _ (List.mem_of_getElem? hb)
    obtain ⟨hx3', hx4⟩ := hx3 _ (List.mem_of_getElem? hxi)
    have hnl := nums_len ((backs xs).getD i 0) (xs.getD i "") hx3' (cs.getD 9 0)
    have htl := tape_len xs (fun x hx => (hx3 x hx).1) (cs.getD 9 0) i (by lia)
    rw [tape_step] at oF
    have hnp : ∀ d ∈ numsP ((backs xs).getD i 0) (xs.getD i ""), ∃ n : Nat, d = .i (n : Int) := by
      intro d hd
      unfold numsP at hd
      split at hd
      · rcases List.mem_cons.mp hd with rfl | hd
        · exact ⟨((backs xs).getD i 0).toNat, by rw [Int.toNat_of_nonneg hb0]⟩
        · rcases List.mem_cons.mp hd with rfl | hd
          · exact ⟨_, rfl⟩
          · obtain ⟨c, _, rfl⟩ := List.mem_map.mp hd
            exact ⟨c, rfl⟩
      · rw [List.mem_singleton.mp hd]
        exact ⟨((backs xs).getD i 0).toNat, by rw [Int.toNat_of_nonneg hb0]⟩
    have hnums : numsP ((backs xs).getD i 0) (xs.getD i "") = [.i ((backs xs).getD i 0)] ++ (if (backs xs).getD i 0 = 0 then .i ((xs.getD i "").length : Int) :: (xs.getD i "").cps.toList.map fun (c : Nat) => PD.i (c : Int) else []) := by
      unfold numsP
      split <;> rfl
    generalize (backs xs).getD i 0 = b at *
    generalize xs.getD i "" = x at *
    repeat' walk_at "go"
    with_reducible refine' r_listTail (d := .i b) ?H ?hm ?h0 ?h1 ?hd ?_ ?hs
    case H => assumption
    case hm => walk_at "kn"
    case h0 => lia
    case h1 => lia
    case hd => rw [Int.toNat_natCast, List.getElem?_map, hb]; rfl
    case hs => with_unfolding_all rfl
    rintro _ ⟨tb, rfl⟩
    repeat' walk_at "go"
    with_reducible refine' r_listTail (d := .i b) ?H ?hm ?h0 ?h1 ?hd ?_ ?hs
    case H => assumption
    case hm => walk_at "kn"
    case h0 => lia
    case h1 => lia
    case hd => rw [Int.toNat_natCast, List.getElem?_map, hb]; rfl
    case hs => with_unfolding_all rfl
    rintro _ ⟨tb2, rfl⟩
    repeat' walk_at "go"
    rename_i n0 s5 H5
    with_reducible refine' cut_if (P := fun v s' => ∃ m, v = .ref m ∧ St K' base [(m, datP (if b = 0 then .i (x.length : Int) :: x.cps.toList.map fun (c : Nat) => PD.i (c : Int) else [])), (n0, datP [.i b]), (it, riP (0 + ((i + 1 : Nat) : Int) * 1) (((9 : Nat) : Int) - ((i + 1 : Nat) : Int)) 1), (bk, intsP (backs xs)), (nm, strsP xs), (pn, strsP xs), (oc, datP (tapeAt xs (cs.getD 9 0) i)), (L, nsP (lwV (some (.ref pn)) (some (.ref nm)) (some (.ref bk)) ah (some (.ref oc)) (some (.int i ti)) nu)), (L + 1 + 1, cellP (some (.ref ce))), (ce, datP (natsD cs)), (tabAt, tabP #[])] s') (fun hc => ?c1) (fun hc => ?c2) ?_
    case c1 =>
      have hb' : ¬ b = 0 := by simpa using hc
      repeat' walk_at "go"
      rename_i m s6 H6
      rw [if_neg hb']
      exact ⟨m, rfl, H6⟩
    case c2 =>
      have hb' : b = 0 := by simpa using hc
      repeat' walk_at "go"
      with_reducible refine' r_listTail (d := .s x) ?H ?hm ?h0 ?h1 ?hd ?_ ?hs
      case H => assumption
      case hm => walk_at "kn"
      case h0 => lia
      case h1 => lia
      case hd => rw [Int.toNat_natCast, List.getElem?_map, hxi]; rfl
      case hs => with_unfolding_all rfl
      rintro _ ⟨tx, rfl⟩
      repeat' walk_at "go"
      with_reducible refine' r_lenS ?H ?hs ?_
      case H => assumption
      case hs => show x.cps.size < _; lia
      intro t6 s6 H6
      repeat' walk_at "go"
      with_reducible refine' r_comp1 (cl := []) K' base R₁.hd X (closure_of hcells (by kernel_rfl)) ?hsc ?_ ?hs
      case hsc => exact ⟨rfl, by decide +kernel, by decide +kernel, rfl, rfl⟩
      case hs => intro _; rfl
      repeat' walk_at "go"
      with_reducible refine' r_listTail (d := .s x) ?H ?hm ?h0 ?h1 ?hd ?_ ?hs
      case H => assumption
      case hm => walk_at "kn"
      case h0 => lia
      case h1 => lia
      case hd => rw [Int.toNat_natCast, List.getElem?_map, hxi]; rfl
      case hs => with_unfolding_all rfl
      rintro _ ⟨tx2, rfl⟩
      repeat' walk_at "go"
      with_reducible refine' r_iterS ?H ?_
      case H => assumption
      intro it2 s7 H7
      with_reducible refine' comp_text (fun (n : Nat) => some (.i (n : Int))) ?H ?hz ?turn ?_
      case H => assumption
      case hz => have := sizeLine_ge; lia
      case turn =>
        intro n tn hn C' acc cenv E'' us P s'' X' hsc' hcl' H''
        have D' : KD cenv [("sign", .local), ("ord", .globalImplicit)] := KD.ofS (hsc'.trans (relabel_of hsc)) (by decide +kernel)
        repeat' walk_at "go"
        with_reducible refine' r_ordC ?H ?_
        case H => assumption
        intro t8 s8 H8
        refine oV.out ?_
        exact ⟨_, rfl, PD.is_i _ _, H8⟩
      intro n8 s8 H8
      have ef : (x.cps.toList.filterMap fun (n : Nat) => some (PD.i (n : Int))) = x.cps.toList.map fun (n : Nat) => PD.i (n : Int) := congrFun (List.filterMap_eq_map (f := fun (n : Nat) => PD.i (n : Int))) _
      rw [ef] at H8
      have hl3 : x.cps.toList.length ≤ 3 := by rw [Array.length_toList]; exact hx3'
      repeat' walk_at "go"
      rename_i m s9 H9
      rw [if_pos hb']
      rw [List.singleton_append] at H9
      exact ⟨m, rfl, H9.pick (by walk_at "pick")⟩
    rintro _ s6 ⟨m, rfl, H6⟩
    have hil : (if b = 0 then PD.i (x.length : Int) :: x.cps.toList.map fun (c : Nat) => PD.i (c : Int) else []).length ≤ 4 := by
      split
      · rw [List.length_cons, List.length_map, Array.length_toList]; lia
      · exact Nat.zero_le _
    repeat' walk_at "go"
    rename_i nu1 s7 H7 s8 H8
    rw [← hnums] at H8
    have H9 := H8.pick (led' := [(nu1, datP (numsP b x)), (it, riP (0 + ((i + 1 : Nat) : Int) * 1) (((9 : Nat) : Int) - ((i + 1 : Nat) : Int)) 1), (bk, intsP (backs xs)), (nm, strsP xs), (pn, strsP xs), (oc, datP (tapeAt xs (cs.getD 9 0) i)), (L, nsP (lwV (some (.ref pn)) (some (.ref nm)) (some (.ref bk)) ah (some (.ref oc)) (some (.int i ti)) (some (.ref nu1)))), (L + 1 + 1, cellP (some (.ref ce))), (ce, datP (natsD cs)), (tabAt, tabP #[])]) (by walk_at "pick")
    generalize numsP b x = ns at H9 hnp hnl oF ⊢
    clear H8 H7 H6 H5
    repeat' walk_at "go"
    with_reducible refine' r_comp2 (cl := [("cells", L + 1 + 1)]) K' base R₁.hd X (closure_of hcells (by kernel_rfl)) (by decide) ?hsc ?_ ?hs0 ?hs1
    case hsc => exact ⟨rfl, by decide +kernel, by decide +kernel, rfl, rfl, rfl, rfl⟩
    case hs0 => intro _; rfl
    case hs1 => intro _ _; rfl
    repeat' walk_at "go"
    rename_i it2 s10 H10
    refine ⟨it2, nu1, ns, _, gOct (cs.getD 9 0), rfl, H10, Kn.own (.head _), by lia, ?turn, ?fin⟩
    case turn =>
      intro d v hd hv C' cenv E'' u us acc P s'' X' hsc' hcl' H''
      obtain ⟨n, rfl⟩ := hnp d hd
      obtain ⟨tn, rfl⟩ := hv
      have D' : KD cenv [("number", .local), ("octet", .local), ("_law_octets", .globalImplicit), ("cells", .cell)] := KD.ofS (hsc'.trans (relabel_of hsc)) (by decide +kernel)
      have C'' : CK cenv [("cells", L + 1 + 1)] := CK.of hcl' rfl
      repeat' walk_at "go"
      with_reducible refine' r_listTail (d := .i ((cs.getD 9 0 : Nat) : Int)) ?H ?hm ?h0 ?h1 ?hd ?_ ?hs
      case H => assumption
      case hm => walk_at "kn"
      case h0 => decide
      case h1 => decide
      case hd =>
        show (natsD cs)[9]? = _
        rw [List.getElem?_map, List.getD_eq_getElem?_getD, List.getElem?_eq_getElem (by lia)]
        rfl
      case hs => with_unfolding_all rfl
      rintro _ ⟨t9, rfl⟩
      repeat' walk_at "go"
      rename_i s11 H11
      with_reducible refine' octets_call (k := k) T' H11 (R₁.le (by lia)) ?_
      intro n12 s12 x12 N12
      refine oV.out ?_
      exact ⟨n12, rfl, H11.got x12 N12⟩
    case fin =>
      intro acc s11 H11
      repeat' walk_at "go"
      rename_i oc2 s12 H12 s13 H13
      refine ⟨_, ex3 oc2 (some (.int i ti)) (some (.ref nu1)) rfl, ?_⟩
      simp only [List.cons_append, List.nil_append]
      exact H13.pick (by walk_at "pick")
  · intro led' s' jJ H'
    refine el3 jJ fun oc pl nu hE => ?_
    clear jJ
    subst hE
    repeat' walk_at "go"
    have htl := tape_len xs (fun x hx => (hx3 x hx).1) (cs.getD 9 0) 9 (by lia)
    have hrd := tape_reads (cs.take 9) (by rw [List.length_take]; lia) (cs.getD 9 0)
    rw [← hxs] at hrd
    with_reducible refine' read_call ?T ?H ?R ?hm ?hds ?htab ?hx ?hr ?_
    case T => exact T'
    case H => assumption
    case R => exact R₁
    case hm => walk_at "kn"
    case hds => lia
    case htab => walk_at "upd"; done
    case hx => exact hxl
    case hr => exact hrd
    intro n8 s8 H8
    repeat' walk_at "go"
    with_reducible refine' r_eqL ?H ?R ?hn ?ha ?hb ?_
    case H => exact H8
    case R => exact R₁
    case ha => walk_at "kn"
    case hb => walk_at "kn"
    case hn =>
      intro d hd
      obtain ⟨z, _, rfl⟩ := List.mem_map.mp hd
      exact fun q => by cases q
    exact h _ _ (H8.pick (by walk_at "pick"))
end
--@ b49
section
theorem plain_kinds (cs : List Nat) : plainOf cs = (cs.map (· % 4)).map nameOf4 := by
  unfold plainOf
  rw [List.map_map]
  apply List.map_congr_left
  intro c _
  show names4.getD (c % 4) "" = names4.getD (c % 4 % 4) ""
  rw [Nat.mod_mod]
theorem hit_eq (room : Nat) (b : Int) : ((b == 0) || decide ((room : Int) < b)) = hitI room b := by
  unfold hitI
  by_cases h : b = 0
  · simp [h]
  · simp [h]
theorem three_rooms {i : Nat} {v : Value} {t1 t2 t3 : Tok} (h : ([.int 1 t1, .int 2 t2, .int 3 t3] : List Value)[i]? = some v) : ∃ t, v = .int ((i + 1 : Nat) : Int) t := by
  match i, h with
  | 0, h => cases h; exact ⟨_, rfl⟩
  | 1, h => cases h; exact ⟨_, rfl⟩
  | 2, h => cases h; exact ⟨_, rfl⟩
  | i + 3, h => simp at h
set_option maxHeartbeats 8000000 in
theorem law_two {prog : Program} {w : World} {A : Around} {E : Value → Shared → Prop} {Q : Flow → Shared → Prop} {K' : Kx} {base : Led} {L nm pn ce : Addr} {s : Shared} {cs : List Nat} {xs : List Str} {k : Nat} {env : Env} {rm : Option Value}
    (T' : TopF K'.hT) (R₁ : Room (k + 4) A) (X : EnvL env L) (hsc : env.scope = fnScope 25) (hcells : env.cells = lwC L) (hcs : cs.length = 10) (hxs : xs = plainOf (cs.take 9))
    (H : St K' base [(nm, strsP xs), (pn, strsP xs), (L, nsP (lwV (some (.ref pn)) (some (.ref nm)) none none none none none)), (L + 1 + 1 + 1, cellP rm), (L + 1 + 1, cellP (some (.ref ce))), (ce, datP (natsD cs)), (tabAt, tabP #[])] s)
    (h : ∀ vs s', St K' base [(tabAt, tabQ), (L, nsP vs)] s' → Q (.ret (.bool true)) s') :
    wpAny (model prog w) A (execs ((fnBody 25).drop 5) env) Q E s := by
  have D : KD env lwK := KD.ofS hsc lw_kinds
  have C : CK env (lwC L) := CK.of hcells rfl
  have hxl : xs.length = 9 := by rw [hxs, plainOf, List.length_map, List.length_take]; lia
  conv => arg 3; arg 1; whnf
  with_reducible refine' wpAny_execs_cons ?_
  with_reducible refine' r_swap3 "back" "ahead" "octets" R₁.hd ?_ (sole_of hsc (by kernel_rfl)) (swapped_of hsc (by kernel_rfl))
  repeat' walk_at "go"
  with_reducible refine' back_call (k := k) ?T ?H ?R ?hm ?hx ?_
  case T => exact T'
  case H => assumption
  case R => exact R₁.le (by lia)
  case hm => walk_at "kn"
  case hx => lia
  intro bk s1 x1 N1
  have H1 := St.got (by assumption) x1 N1
  repeat' walk_at "go"
  with_reducible refine' ahead_call (k := k) ?T ?H ?R ?hm ?hx ?_
  case T => exact T'
  case H => assumption
  case R => exact R₁.le (by lia)
  case hm => walk_at "kn"
  case hx => lia
  intro ah s2 x2 N2
  have H2 := H1.got x2 N2
  repeat' walk_at "go"
  with_reducible refine' r_iterT ?H ?hm ?_
  case H => assumption
  case hm => walk_at "kn"
  intro it s3 H3
  rename_i oc s4 H4 s5 H5 s6 H6 s7 H7 s8 H8 t1 s9 H9 t2 s10 H10 t3 s11 H11 nt s12 H12
  with_reducible refine' r_for (Src.tuple nt [.int 1 t1, .int 2 t2, .int 3 t3] ?ht) (fun i led => ∃ rm, led = [(nt, tupP [.int 1 t1, .int 2 t2, .int 3 t3]), (oc, datP []), (ah, datP (natsD (aheads xs))), (bk, intsP (backs xs)), (nm, strsP xs), (pn, strsP xs), (L, nsP (lwV (some (.ref pn)) (some (.ref nm)) (some (.ref bk)) (some (.ref ah)) (some (.ref oc)) none none)), (L + 1 + 1 + 1, cellP rm), (L + 1 + 1, cellP (some (.ref ce))), (ce, datP (natsD cs)), (tabAt, tabP #[])]) R₁.hd H3 ⟨rm, rfl⟩ ?hJ ?_ ?_
  case ht => intro _ _; rfl
  case hJ => rintro i led ⟨rm, rfl⟩; exact Kn.own (.head _)
  · intro E' i v ex led s' hi jJ jV H'
    with_reducible refine' g_fora ?_
    intro Qf oF
    obtain ⟨rm, rfl⟩ := jJ
    obtain ⟨rfl, hv⟩ := jV
    obtain ⟨tr, rfl⟩ := three_rooms hv
    simp only [List.nil_append, List.cons_append] at H'
    have hi3 : i < 3 := hi
    have hbl : (backs xs).length = 9 := by rw [backs_len, hxl]
    have hal : (aheads xs).length = 9 := by
      have := ahead_len xs xs ([], [])
      simpa [aheads, hxl] using this
    have hbf := back_fetch xs (i + 1) (by lia)
    have hfl : (fetches xs (i + 1)).length = 9 := by rw [← hbf, List.length_map, hbl]
    repeat' walk_at "go"
    with_reducible refine' r_comp1 (cl := [("room", L + 1 + 1 + 1)]) K' base R₁.hd X (closure_of hcells (by kernel_rfl)) ?hsc ?_ ?hs
    case hsc => exact ⟨rfl, by decide +kernel, by decide +kernel, rfl, rfl⟩
    case hs => intro _; rfl
    repeat' walk_at "go"
    with_reducible refine' comp_ints (fun b => some (.b (hitI (i + 1) b))) ?H ?hm ?hz ?turn ?_
    case H => assumption
    case hm => walk_at "kn"
    case hz => have := sizeLine_ge; lia
    case turn =>
      intro y ty _ C' acc cenv E'' us P s'' X' hsc' hcl' H''
      have D' : KD cenv [("one", .local), ("room", .cell)] := KD.ofS (hsc'.trans (relabel_of hsc)) (by decide +kernel)
      have C'' : CK cenv [("room", L + 1 + 1 + 1)] := CK.of hcl' rfl
      repeat' walk_at "go"
      with_reducible refine' r_or2 ?_
      repeat' walk_at "go"
      with_reducible refine' wif_b (fun hc => ?_) (fun hc => ?_)
      · refine oV.out ?_
        refine ⟨_, rfl, ?_, by assumption⟩
        have : hitI (i + 1) y = true := by rw [← hit_eq, hc]; rfl
        rw [this, hc]
        exact PD.is_b _
      · repeat' walk_at "go"
        refine ⟨_, rfl, ?_, by assumption⟩
        have : hitI (i + 1) y = decide (((i + 1 : Nat) : Int) < y) := by rw [← hit_eq, hc]; rfl
        rw [this]
        exact PD.is_b _
    intro nl s13 H13
    have ef : ((backs xs).filterMap fun b => some (PD.b (hitI (i + 1) b))) = ((backs xs).map (hitI (i + 1))).map PD.b := by
      rw [List.map_map]
      exact congrFun (List.filterMap_eq_map (f := fun b => PD.b (hitI (i + 1) b))) _
    rw [ef, hbf] at H13
    repeat' walk_at "go"
    with_reducible refine' fetches_call (k := k) ?T ?H ?R ?hm ?hx ?_
    case T => exact T'
    case H => exact H13
    case R => exact R₁.le (by lia)
    case hm => walk_at "kn"
    case hx => lia
    intro nf s14 x14 N14
    have H14 := H13.got x14 N14
    repeat' walk_at "go"
    with_reducible refine' r_neL ?H ?R ?hn ?ha ?hb ?_
    case H => exact H14
    case R => exact R₁
    case ha => walk_at "kn"
    case hb => walk_at "kn"
    case hn =>
      intro d hd
      obtain ⟨z, _, rfl⟩ := List.mem_map.mp hd
      exact fun q => by cases q
    repeat' walk_at "go"
    with_reducible refine' r_comp1 (cl := [("room", L + 1 + 1 + 1)]) K' base R₁.hd X (closure_of hcells (by kernel_rfl)) ?hsc ?_ ?hs
    case hsc => exact ⟨rfl, by decide +kernel, by decide +kernel, rfl, rfl⟩
    case hs => intro _; rfl
    repeat' walk_at "go"
    with_reducible refine' comp_nats (fun b => if hitN (i + 1) b = true then some (.i (b : Int)) else none) ?H ?hm ?hz ?turn ?_
    case H => assumption
    case hm => walk_at "kn"
    case hz => have := sizeLine_ge; lia
    case turn =>
      intro y ty _ C' acc cenv E'' us P s'' X' hsc' hcl' H''
      have D' : KD cenv [("one", .local), ("room", .cell)] := KD.ofS (hsc'.trans (relabel_of hsc)) (by decide +kernel)
      have C'' : CK cenv [("room", L + 1 + 1 + 1)] := CK.of hcl' rfl
      repeat' walk_at "go"
      have hy : (((y : Int) == 0) = true ↔ y = 0) := by rw [beq_iff_eq]; lia
      with_reducible refine' wif_b (fun hc => ?_) (fun hc => ?_)
      · have hit : hitN (i + 1) y = true := by unfold hitN; rw [decide_eq_true (hy.mp hc)]; rfl
        repeat' walk_at "go"
        exact ⟨_, if_pos hit, PD.is_i _ _, by assumption⟩
      · have hy0 : ¬ y = 0 := fun q => by rw [hy.mpr q] at hc; exact absurd hc (by decide)
        repeat' walk_at "go"
        with_reducible refine' wif (fun hg => ?_) (fun hg => ?_)
        · have hit : hitN (i + 1) y = true := by unfold hitN; rw [decide_eq_true (show i + 1 < y by lia), Bool.or_true]
          repeat' walk_at "go"
          exact ⟨_, if_pos hit, PD.is_i _ _, by assumption⟩
        · have hit : ¬ hitN (i + 1) y = true := by unfold hitN; rw [decide_eq_false hy0, decide_eq_false (show ¬ i + 1 < y by lia)]; decide
          repeat' walk_at "go"
          exact ⟨if_neg hit, by assumption⟩
    intro na s15 H15
    have ef2 : ((aheads xs).filterMap fun b => if hitN (i + 1) b = true then some (PD.i (b : Int)) else none) = natsD ((aheads xs).filter (hitN (i + 1))) := filterMap_if (hitN (i + 1)) (fun (b : Nat) => PD.i (b : Int)) (aheads xs)
    rw [ef2] at H15
    have hfl2 : ((aheads xs).filter (hitN (i + 1))).length ≤ 9 := Nat.le_trans (List.length_filter_le _ _) (by lia)
    repeat' walk_at "go"
    with_reducible refine' r_comp1 (cl := []) K' base R₁.hd X (closure_of hcells (by kernel_rfl)) ?hsc ?_ ?hs
    case hsc => exact ⟨rfl, by decide +kernel, by decide +kernel, rfl, rfl⟩
    case hs => intro _; rfl
    repeat' walk_at "go"
    rename_i ns9 s17 H17 it9 s18 H18
    have ep9 : pickL (natsD cs) none (some 9) none = natsD (cs.take 9) := by
      refine (pickL_upto _ 9).trans ?_
      exact (List.map_take ..).symm
    rw [ep9] at H18
    have ht9 : (cs.take 9).length = 9 := by rw [List.length_take]; lia
    with_reducible refine' comp_nats (fun c => some (.i ((c % 4 : Nat) : Int))) ?H ?hm ?hz ?turn ?_
    case H => assumption
    case hm => walk_at "kn"
    case hz => have := sizeLine_ge; lia
    case turn =>
      intro y ty _ C' acc cenv E'' us P s'' X' hsc' hcl' H''
      have D' : KD cenv [("cell", .local)] := KD.ofS (hsc'.trans (relabel_of hsc)) (by decide +kernel)
      repeat' walk_at "go"
      exact ⟨_, rfl, ⟨_, congrArg (fun z => Value.int z _) (fmodN y 4)⟩, by assumption⟩
    intro nk s19 H19
    have ek : ((cs.take 9).filterMap fun c => some (PD.i ((c % 4 : Nat) : Int))) = natsD ((cs.take 9).map (· % 4)) := by
      rw [natsD, List.map_map]
      exact congrFun (List.filterMap_eq_map (f := fun (c : Nat) => PD.i ((c % 4 : Nat) : Int))) _
    rw [ek] at H19
    have hks : ∀ k ∈ (cs.take 9).map (· % 4), k < 4 := by
      intro k hk
      obtain ⟨c, _, rfl⟩ := List.mem_map.mp hk
      exact Nat.mod_lt _ (by decide)
    have hkl : ((cs.take 9).map (· % 4)).length = 9 := by rw [List.length_map]; exact ht9
    have hxk : xs = ((cs.take 9).map (· % 4)).map nameOf4 := by rw [hxs, plain_kinds]
    repeat' walk_at "go"
    with_reducible refine' least_call (k := k) ?T ?H ?R ?hm ?hx ?hks ?hroom ?_
    case T => exact T'
    case H => exact H19
    case R => exact R₁.le (by lia)
    case hm => walk_at "kn"
    case hx => lia
    case hks => exact hks
    case hroom => lia
    intro m t20 s20 hmem hmin H20
    have hal2 := ahead_least _ hks hkl (i + 1) (by lia) (by lia) m hmem hmin
    rw [← hxk] at hal2
    have hne : (((natsD ((aheads xs).filter (hitN (i + 1)))).length : Int) != (m : Int)) = false := by
      rw [List.length_map, hal2]
      simp
    repeat' walk_at "go"
    rw [hne]
    with_reducible refine' wif_f (by decide) ?_
    repeat' walk_at "go"
    refine ⟨_, ⟨some (.int ((i + 1 : Nat) : Int) tr), rfl⟩, ?_⟩
    simp only [List.cons_append, List.nil_append]
    exact H20.pick (by walk_at "pick")
  · rintro led' s' ⟨rm, rfl⟩ H'
    exact law_three T' R₁ X hsc hcells hcs hxs (H'.pick (by walk_at "pick")) h
end
--@ b50
section
theorem two_var {x y : Str} {vs : Vars} (h : vs.map (·.1) = [x, y]) : ∃ u1 u2, vs = [(x, u1), (y, u2)] := by
  cases vs with
  | nil => cases h
  | cons p r =>
    obtain ⟨a, u⟩ := p
    injection h with h1 h2
    cases h1
    obtain ⟨v, rfl⟩ := one_var h2
    exact ⟨u, v, rfl⟩
theorem pickI (sc : List Int) (k : Nat) : pickL (sc.map PD.i) (some (k : Int)) (some 60) (some 10) = (pickL sc (some (k : Int)) (some 60) (some 10)).map PD.i := pickL_map _ _ _ _ _
theorem cells_len (sc : List Int) : (cellsOf sc).length = 10 := by unfold cellsOf; rw [List.length_map, List.length_range]
theorem b3_len : ∀ p ∈ b3L, p.2.length ≤ 10 := by decide +kernel
theorem lookup_mem {α β : Type} [BEq α] [LawfulBEq α] {k : α} {v : β} : ∀ {l : List (α × β)}, l.lookup k = some v → (k, v) ∈ l
  | [], h => nomatch h
  | (a, b) :: r, h => by
    rw [List.lookup_cons] at h
    split at h
    · rename_i e
      cases h
      rw [eq_of_beq e]
      exact .head _
    · exact .tail _ (lookup_mem h)
theorem mapB3_len (n : Nat) : (mapB3 n).length ≤ 10 := by
  unfold mapB3
  split
  · rename_i x e
    exact b3_len _ (lookup_mem e)
  · have := len_lower (signS n)
    have e1 : (signS n).length = 1 := rfl
    lia
noncomputable def prepL (x : Str) : List Str := x.cps.toList.filterMap fun (n : Nat) => if b1S (n : Int) = false then some (mapB3 n) else none
theorem prepL_len (x : Str) : (prepL x).length ≤ x.cps.size ∧ ((prepL x).map (·.length)).sum ≤ 10 * x.cps.size := by
  unfold prepL
  rw [← Array.length_toList]
  generalize x.cps.toList = l
  induction l with
  | nil => exact ⟨Nat.le_refl _, Nat.le_refl _⟩
  | cons a r ih =>
    rw [List.filterMap_cons, List.length_cons]
    cases hb : b1S (a : Int) with
    | true => simp only [Bool.true_eq_false, if_false]; lia
    | false =>
      simp only [if_true, List.map_cons, List.length_cons, List.sum_cons]
      have := mapB3_len a
      lia
set_option maxHeartbeats 8000000 in
theorem law_call {prog : Program} {w : World} {A : Around} {E : Value → Shared → Prop} {Q : Value → Shared → Prop} {K : Kx} {base led : Led} {s : Shared} {a : Addr} {sc : List Int} {k : Nat}
    (T : TopF K.hT) (F : FnAt K.hT 200 25 .none .none) (H : St K base ((tabAt, tabP #[]) :: led) s) (R : Room (k + 5) A) (hm : Kn base ((tabAt, tabP #[]) :: led) a (intsP sc)) (ha : a ≠ tabAt) (hx : sc.length ≤ 1000)
    (h : ∀ s', St K base ((tabAt, tabQ) :: led) s' → Q (.bool true) s') :
    wpAny (model prog w) A (call (.ref 200) [.ref a]) Q E s := by
  refine call_fnC (lwV none none none none none none none) lwC (fun L => [(L + 1 + 1 + 1, none), (L + 1 + 1, none), (L + 1, some (.ref a))]) [(tabAt, tabP #[])] [(a, intsP sc)] H R T F (frag_nil _) ⟨fun p hp => ?_, List.nodup_cons.mpr ⟨fun q => (nomatch q), List.nodup_nil⟩⟩ (fun p hp => ?_) (lw_bind _) lw_fn lw_cells
    (fun L => by kernel_rfl) (fun L => by kernel_rfl) (fun L => by kernel_rfl) ⟨lw_nd, by kernel_rfl⟩ ?_
  · rw [List.mem_singleton.mp hp]; exact ⟨H.here _ (.head _), .inr rfl⟩
  · rw [List.mem_singleton.mp hp]; exact ⟨H.has hm, fun q => ha (List.mem_singleton.mp q)⟩
  intro K' env s₁ T' hK X hsc hcells hle hr H₁ R₁
  have D : KD env lwK := KD.ofS hsc lw_kinds
  have C : CK env (lwC s.heap.objs.size) := CK.of hcells rfl
  simp only [List.map_cons, List.map_nil, List.cons_append, List.nil_append] at H₁
  conv => arg 3; arg 1; whnf
  repeat' walk_at "go"
  with_reducible refine' r_assign ?_ (swaps_of hsc (by kernel_rfl))
  with_reducible refine' r_comp (K := K') (base := [(a, intsP sc)]) (cl := [("script", s.heap.objs.size + 1)]) ["k", "cell"] R₁.hd X ?clos ?hsc ?hn ?hx ?_ ?hs
  case clos => exact closure_of hcells (by kernel_rfl)
  case hsc => exact ⟨rfl, by decide +kernel⟩
  case hn => decide +kernel
  case hx => decide +kernel
  case hs => intro _; rfl
  repeat' walk_at "go"
  rename_i n0 s2 H2 e0 it0 s3 H3
  have e9 : ([PD.i 0, PD.i 5, PD.i 74, PD.i 242, PD.i 141, PD.i 303, PD.i 8, PD.i 647, PD.i 22, PD.i 1] : List PD) = natsD bases10 := rfl
  rw [e9] at H3
  refine ⟨e0, (natsD bases10).length, fun i => [(e0, enP it0 i), (it0, liP n0 i)], VE (natsD bases10), fun led => Kn [(a, intsP sc)] led n0 (datP (natsD bases10)), fun i us led => VS (natsD ((List.range i).map (cellOf sc))) us ∧ led = [(n0, datP (natsD bases10)), (s.heap.objs.size, nsP (lwV none none none none none none none)), (s.heap.objs.size + 1 + 1 + 1, cellP none), (s.heap.objs.size + 1 + 1, cellP none), (s.heap.objs.size + 1, cellP (some (.ref a))), (tabAt, tabP #[])],
    _, rfl, ⟨Src.enum n0 it0 (natsD bases10) _ _ _, by have := sizeLine_ge; show (10 : Nat) ≤ _; lia, ?holds, ?turn⟩, H3, ⟨.nil, rfl⟩, ?fin⟩
  case holds => rintro i us led ⟨_, rfl⟩; exact Kn.own (.head _)
  case turn =>
    intro C' acc cenv E'' i us led vs v ex s'' X' hsc' hcl' hi jJ jV hvs H''
    with_reducible refine' g_comp ?_
    intro Qv oV Nv oN
    obtain ⟨hus, rfl⟩ := jJ
    obtain ⟨T1, tt, vx, d, rfl, rfl, hd, hv⟩ := jV
    obtain ⟨u1, u2, rfl⟩ := two_var hvs
    obtain ⟨bs, hbs, rfl⟩ := map_get hd
    obtain ⟨tb, rfl⟩ := hv
    simp only [List.nil_append, List.cons_append] at H''
    have hbg : bases10.getD i 0 = bs := by rw [List.getD_eq_getElem?_getD, hbs]; rfl
    have hsc1 := hsc'.trans (relabel_of hsc)
    have D' : KD cenv [("k", .local), ("cell", .local), ("sum", .globalImplicit), ("script", .cell)] := KD.ofS hsc1 (by decide +kernel)
    have C'' : CK cenv [("script", s.heap.objs.size + 1)] := CK.of hcl' rfl
    repeat' walk_at "go"
    with_reducible refine' r_comp1 (cl := []) K' [(a, intsP sc)] R₁.hd X' (closure_of hcl' (by kernel_rfl)) ?hsc ?_ ?hs
    case hsc => exact ⟨rfl, by decide +kernel, by decide +kernel, rfl, rfl⟩
    case hs => intro _; rfl
    repeat' walk_at "go"
    rename_i n3 s4 H4 it4 s5 H5
    rw [pickI] at H5
    have hpl : (pickL sc (some (i : Int)) (some 60) (some 10)).length ≤ 1000 := Nat.le_trans (pickL_len _ _ _ _) hx
    with_reducible refine' comp_ints (fun n => some (.i (Int.fmod n 1000000))) ?H ?hm ?hz ?turn ?_
    case H => assumption
    case hm => walk_at "kn"
    case hz => have := sizeLine_ge; lia
    case turn =>
      intro y ty _ C2 acc2 cenv2 E2 us2 P2 s6 X2 hsc2 hcl2 H6
      have D2 : KD cenv2 [("number", .local)] := KD.ofS (hsc2.trans (relabel_of hsc1)) (by decide +kernel)
      repeat' walk_at "go"
      exact ⟨_, rfl, PD.is_i _ _, by assumption⟩
    intro nl s7 H7
    have ef : ((pickL sc (some (i : Int)) (some 60) (some 10)).filterMap fun n => some (PD.i (Int.fmod n 1000000))) = (stepsOf sc i).map PD.i := by
      unfold stepsOf
      rw [List.map_map]
      exact congrFun (List.filterMap_eq_map (f := fun n => PD.i (Int.fmod n 1000000))) _
    rw [ef] at H7
    repeat' walk_at "go"
    with_reducible refine' r_sumL R₁.hd ?H ?hm ?hb ?hz ?_
    case H => assumption
    case hm => walk_at "kn"
    case hb => exact steps_bound sc i
    case hz => unfold stepsOf; rw [List.length_map]; exact hpl
    intro t8 s8 H8
    repeat' walk_at "go"
    rename_i t9 s9 H9
    have hce := cell_eq sc i
    rw [hbg] at hce
    rw [hce]
    refine ⟨_, [("k", some (.int i tt)), ("cell", some (.int bs tb))], rfl, ⟨?_, rfl⟩, ?_⟩
    · rw [List.range_succ, List.map_append]
      show VS ((((List.range i).map (cellOf sc)) ++ [cellOf sc i]).map _) _
      rw [List.map_append]
      exact hus.app (.one (PD.is_i _ _))
    · simp only [List.cons_append, List.nil_append]
      exact H9.pick (by walk_at "pick")
  case fin =>
    rintro acc us led' s4 ⟨hus, rfl⟩ H4
    have H5 := H4.weak (P' := datP (natsD (cellsOf sc))) .here fun o q => ⟨us, hus, q⟩
    have hcl := cells_len sc
    generalize hcsg : cellsOf sc = cs at H5 hcl
    clear H4 H3 H2
    repeat' walk_at "go"
    have ep9 : pickL (natsD cs) none (some 9) none = natsD (cs.take 9) := by
      refine (pickL_upto _ 9).trans ?_
      exact (List.map_take ..).symm
    have ht9 : (cs.take 9).length = 9 := by rw [List.length_take]; lia
    with_reducible refine' r_compTo1 (cl := []) K' [(a, intsP sc)] R₁.hd X (swaps_of hsc (by kernel_rfl)) (closure_of hcells (by kernel_rfl)) ?hsc ?_ ?hs
    case hsc => exact ⟨rfl, by decide +kernel, by decide +kernel, rfl, rfl⟩
    case hs => intro _; rfl
    repeat' walk_at "go"
    rename_i ns1 sx1 Hx1 it1 sy1 Hy1
    rw [ep9] at Hy1
    with_reducible refine' comp_nats (fun c => some (.s (nameOf4 c))) ?H ?hm ?hz ?turn ?_
    case H => assumption
    case hm => walk_at "kn"
    case hz => have := sizeLine_ge; lia
    case turn =>
      intro y ty _ C2 acc2 cenv2 E2 us2 P2 s6 X2 hsc2 hcl2 H6
      have D2 : KD cenv2 [("cell", .local)] := KD.ofS (hsc2.trans (relabel_of hsc)) (by decide +kernel)
      repeat' walk_at "go"
      with_reducible refine' r_tupS names4 (y % 4) ?H ?hm ?hv ?hk ?hj ?hz ?_ ?hsub
      case H => assumption
      case hm => walk_at "kn"
      case hv => with_reducible unfold names4; simp only [List.map_cons, List.map_nil]; walk_at "vs"
      case hk => exact fmodN y 4
      case hj => exact Nat.mod_lt _ (by decide)
      case hz => decide
      case hsub => with_unfolding_all rfl
      intro t7 s7 H7
      refine oV.out ?_
      exact ⟨_, rfl, PD.is_s _ _, H7.pick (by walk_at "pick")⟩
    intro Cp vp np s6 H6
    have efp : ((cs.take 9).filterMap fun c => some (PD.s (nameOf4 c))) = (plainOf (cs.take 9)).map PD.s := by
      unfold plainOf
      rw [List.map_map]
      exact congrFun (List.filterMap_eq_map (f := fun c => PD.s (nameOf4 c))) _
    rw [efp] at H6
    repeat' walk_at "go"
    rename_i s7 H7
    refine ⟨_, H7, fun s8 H8 => ?_⟩
    repeat' walk_at "go"
    with_reducible refine' r_compTo1 (cl := []) K' [(a, intsP sc)] R₁.hd X (swaps_of hsc (by kernel_rfl)) (closure_of hcells (by kernel_rfl)) ?hsc ?_ ?hs
    case hsc => exact ⟨rfl, by decide +kernel, by decide +kernel, rfl, rfl⟩
    case hs => intro _; rfl
    repeat' walk_at "go"
    rename_i ns2 sx2 Hx2 it2 sy2 Hy2
    rw [ep9] at Hy2
    with_reducible refine' comp_nats (fun c => some (.s (strip (lineOf c)))) ?H ?hm ?hz ?turn ?_
    case H => assumption
    case hm => walk_at "kn"
    case hz => have := sizeLine_ge; lia
    case turn =>
      intro y ty _ C2 acc2 cenv2 E2 us2 P2 s9 X2 hsc2 hcl2 H9
      have D2 : KD cenv2 [("cell", .local), ("_strip_exception_details", .globalImplicit), ("_law_line", .globalImplicit)] := KD.ofS (hsc2.trans (relabel_of hsc)) (by decide +kernel)
      repeat' walk_at "go"
      with_reducible refine' line_call (k := k) ?T ?H ?R ?_
      case T => exact T'
      case H => assumption
      case R => exact R₁.le (by lia)
      intro t10 s10 H10
      repeat' walk_at "go"
      with_reducible refine' strip_call (k := k) ?T ?H ?R ?hz ?_
      case T => exact T'
      case H => assumption
      case R => exact R₁.le (by lia)
      case hz => have := line_len y; lia
      intro t11 s11 H11
      refine oV.out ?_
      exact ⟨_, rfl, PD.is_s _ _, H11⟩
    intro Cp2 vp2 n2 s9 H9
    have ef2 : ((cs.take 9).filterMap fun c => some (PD.s (strip (lineOf c)))) = ((cs.take 9).map fun c => strip (lineOf c)).map PD.s := by
      rw [List.map_map]
      exact congrFun (List.filterMap_eq_map (f := fun c => PD.s (strip (lineOf c)))) _
    rw [ef2] at H9
    repeat' walk_at "go"
    rename_i s10 H10
    refine ⟨_, H10, fun s11 H11 => ?_⟩
    repeat' walk_at "go"
    with_reducible refine' r_compTo1 (cl := []) K' [(a, intsP sc)] R₁.hd X (swaps_of hsc (by kernel_rfl)) (closure_of hcells (by kernel_rfl)) ?hsc ?_ ?hs
    case hsc => exact ⟨rfl, by decide +kernel, by decide +kernel, rfl, rfl⟩
    case hs => intro _; rfl
    repeat' walk_at "go"
    with_reducible refine' comp_strs (fun x => some (.s (prep x))) ?H ?hm ?hz ?turn ?_
    case H => assumption
    case hm => walk_at "kn"
    case hz => have := sizeLine_ge; rw [List.length_map]; lia
    case turn =>
      intro x tx hxm C2 acc2 cenv2 E2 us2 P2 s12 X2 hsc2 hcl2 H12
      have hsc2' := hsc2.trans (relabel_of hsc)
      have hxl : x.cps.size ≤ 100 := by
        obtain ⟨c, _, rfl⟩ := List.mem_map.mp hxm
        exact Nat.le_trans (Txt.slice_le _ _ _) (line_len c)
      have D2 : KD cenv2 [("name", .local)] := KD.ofS hsc2' (by decide +kernel)
      repeat' walk_at "go"
      with_reducible refine' r_getS PySem.F.slot_str_join PySem.F.type_str_join ?_
      repeat' walk_at "go"
      with_reducible refine' r_comp1 (cl := []) K' [(a, intsP sc)] R₁.hd X2 (closure_of hcl2 (by kernel_rfl)) ?hsc ?_ ?hs
      case hsc => exact ⟨rfl, by decide +kernel, by decide +kernel, rfl, rfl⟩
      case hs => intro _; rfl
      repeat' walk_at "go"
      with_reducible refine' r_iterS ?H ?_
      case H => assumption
      intro it3 s13 H13
      with_reducible refine' comp_text (fun (n : Nat) => if b1S (n : Int) = false then some (.s (mapB3 n)) else none) ?H ?hz ?turn ?_
      case H => assumption
      case hz => have := sizeLine_ge; lia
      case turn =>
        intro n tn _ C3 acc3 cenv3 E3 us3 P3 s14 X3 hsc3 hcl3 H14
        have D3 : KD cenv3 [("sign", .local), ("map_table_b3", .globalImplicit), ("in_table_b1", .globalImplicit)] := KD.ofS (hsc3.trans (relabel_of hsc2')) (by decide +kernel)
        repeat' walk_at "go"
        with_reducible refine' inb1_call (k := k) ?T ?H ?R ?_
        case T => exact T'
        case H => assumption
        case R => exact R₁.le (by lia)
        intro s15 H15
        repeat' walk_at "go"
        with_reducible refine' r_bool ?_
        with_reducible refine' r_isF ?_
        repeat' walk_at "go"
        cases hb : b1S (n : Int) with
        | true => exact ⟨if_neg (by decide), H15⟩
        | false =>
          show wpAny (model prog w) (A.deeper env) (eval _ cenv3) _ _ _
          repeat' walk_at "go"
          with_reducible refine' mapb3_call (k := k) ?T ?H ?R ?_
          case T => exact T'
          case H => assumption
          case R => exact R₁.le (by lia)
          intro t16 s16 H16
          refine oV.out ?_
          exact ⟨_, if_pos rfl, PD.is_s _ _, H16⟩
      intro nj s15 H15
      have efj : (x.cps.toList.filterMap fun (n : Nat) => if b1S (n : Int) = false then some (PD.s (mapB3 n)) else none) = (prepL x).map PD.s := by
        unfold prepL
        rw [List.map_filterMap]
        congr 1
        funext n
        split <;> rfl
      rw [efj] at H15
      obtain ⟨hj1, hj2⟩ := prepL_len x
      repeat' walk_at "go"
      with_reducible refine' r_join ?H ?hm ?hx ?hw ?_
      case H => assumption
      case hm => walk_at "kn"
      case hx => decide
      case hw => lia
      intro t17 s17 H17
      refine oV.out ?_
      exact ⟨_, rfl, PD.is_s _ _, H17.pick (by walk_at "pick")⟩
    intro Cp3 vp3 n3 s16 H16
    have ef3 : (((cs.take 9).map fun c => strip (lineOf c)).filterMap fun x => some (PD.s (prep x))) = (plainOf (cs.take 9)).map PD.s := by
      unfold plainOf
      rw [List.filterMap_map, List.map_map, ← List.filterMap_eq_map]
      congr 1
      funext c
      show some (PD.s (prep (strip (lineOf c)))) = some (PD.s (nameOf4 c))
      rw [prepared]
    rw [ef3] at H16
    repeat' walk_at "go"
    rename_i s17 H17
    refine ⟨_, H17, fun s18 H18 => ?_⟩
    repeat' walk_at "go"
    with_reducible refine' r_neL ?H ?R ?hn ?ha ?hb ?_
    case H => exact H18
    case R => exact R₁
    case ha => walk_at "kn"
    case hb => walk_at "kn"
    case hn =>
      intro d hd
      obtain ⟨z, _, rfl⟩ := List.mem_map.mp hd
      exact fun q => by cases q
    with_reducible refine' wpAny_truthy_bool ?_
    with_reducible refine' wif_f (by decide) ?_
    with_reducible refine' wpAny_execs_nil ?_
    have R₂ : Room (k + 4) (A.deeper env) := R₁
    refine law_two (xs := plainOf (cs.take 9)) T' R₂ X hsc hcells hcl rfl (H18.pick (by walk_at "pick")) fun vs s19 H19 => ?_
    exact h s19 (H.backBut H19 hK .here (.head _))
end
end BK
namespace BH
open BK
set_option maxRecDepth 100000
set_option maxHeartbeats 0
theorem ns_one {h : Heap} {a : Addr} {m m' : Str → Option Value} (x : h.Ns a m) (y : h.Ns a m') : m = m' := by
  obtain ⟨o, es, ep, e, d, _, f⟩ := x
  obtain ⟨o', es', ep', e', d', _, f'⟩ := y
  rw [e] at e'; cases e'
  rw [d] at d'; cases d'
  funext n
  rw [← f, ← f']
theorem well_list {P : Params} {h : Heap} {a : Addr} {xs : List WData} (x : Well P h (.ref a) (.list xs)) : ∃ vs : List Value, h.get? a = some (listObj vs.toArray 0) := by
  cases x with
  | list e _ => exact ⟨_, e⟩
theorem vs_ints : ∀ {vs : List Value} {ns : List Int}, IntsAre vs ns → VS (ns.map PD.i) vs
  | _, _, .nil => .nil
  | _, _, .cons n t r => .cons ⟨t, rfl⟩ (vs_ints r)
theorem room_T : Room (0 + 5) callerA := ⟨rfl, by decide, by decide⟩
theorem walk_T (d : DefRec) (kwd : List (Str × Expr)) (hn : d.name = Str.ofString "law") : WalkO qT looseT (fun _ _ => True) (fun w h => ∀ b o, (heapT w).get? b = some o → h.get? b = some o) PySem.Challenge.rw_kl0253_01.row.toRowW d kwd fun f vs => PySem.call f vs := by
  intro w s₀ s₁ mg mb G Y a o pm cd doc dV kV ho hd hcd hD hmg hg args vals as hpre hlay hrd hwl hlo
  have le : Le (hTop w) s₁.heap := fun b o e => Y b o (hTop_get w e).1
  have a200 : a = 200 := by
    have e1 := ns_one G.T.g ((Heap.Ns.of_isNs (isNs_T w)).keeps le)
    have e2 : (hTop w).nsMap mainGlobals (Str.ofString "law") = some (.ref 200) := by kernel_rfl
    rw [hn, e1, e2] at hmg
    cases hmg
    rfl
  subst a200
  clear hd hcd hD hmg hn ho
  wrow_args hpre hlay hrd hwl hlo
  rename_i sc hs1 hl0 hL1 hr1 hl2 as1 as2 L vs as3 hL ra w1 r0 hI hr hcond htr
  obtain ⟨us, e1⟩ := well_list w1
  have evs : us = vs := by
    obtain ⟨o', e2, _, n, e3⟩ := hL
    rw [e1] at e2
    cases e2
    cases e3
    rfl
  subst evs
  have L192 : L ≠ 192 := by
    rintro rfl
    have e2 := Y 192 (ob192 w.params) (by kernel_rfl)
    rw [e1] at e2
    cases e2
  have H : St ⟨hTop w, s₁.heap, [tabAt], s₁.gens, s₁.drawn, s₁.os⟩ [(L, intsP sc)] ((tabAt, tabP #[]) :: []) s₁ :=
    { top := le
      tn := hTop_size w
      last := hTop_200 w
      tab := hTop_tab w
      keep := fun b o e _ => e
      old := fun p hp => by
        rcases List.mem_cons.mp hp with rfl | hp
        · refine ⟨⟨_, e1, us, vs_ints hI, 0, rfl⟩, by show (s₁.heap.get? L).isSome = true; rw [e1]; rfl, ?_⟩
          intro q
          rcases List.mem_cons.mp q with q | q
          · exact L192 q
          · cases q
        · cases hp
      here := fun p hp => by
        rcases List.mem_cons.mp hp with rfl | hp
        · exact ⟨ob192 w.params, Y 192 _ (by kernel_rfl), rfl⟩
        · cases hp
      nd := by simp
      fresh := fun p hp => by
        rcases List.mem_cons.mp hp with rfl | hp
        · exact .inl (.head _)
        · cases hp
      hi := fun p hp => by
        rcases List.mem_cons.mp hp with rfl | hp
        · exact .inr rfl
        · cases hp
      gens := rfl
      drawn := rfl
      os := rfl }
  refine law_call (k := 0) (sc := sc) (top_T w) (fn_200 w) H room_T (.old (.head _)) L192 (by lia) ?_
  intro s' H'
  refine ⟨.inl ⟨.bool true, .bool true, [], rfl, fun cls => rfl, .bool true, ?_, fun _ => ⟨List.nodup_nil, fun a h => nomatch h⟩⟩, ⟨?_, ?_⟩, H'.os, ?_⟩
  · kernel_rfl
  · intro b o e
    by_cases hb : b = 192
    · subst hb
      have e2 := Y 192 (ob192 w.params) (by kernel_rfl)
      rw [e2] at e
      cases e
      obtain ⟨o', e3, ps, e4⟩ := H'.here _ (.head _)
      subst e4
      refine .inr (.inl ⟨⟨194, ob194 w.params, _, Y 194 _ (by kernel_rfl), by kernel_rfl, rfl, rfl⟩, rfl, #[], ps, rfl, ?_⟩)
      rw [Array.empty_append]
      exact e3
    · exact .inl (H'.keep b o e (fun q => by
        rcases List.mem_cons.mp q with q | q
        · exact hb q
        · cases q))
  · intro b o e
    by_cases hb : b = 192
    · subst hb
      obtain ⟨o', e3, _⟩ := H'.here _ (.head _)
      exact ⟨o', e3⟩
    · exact ⟨o, H'.keep b o e (fun q => by
        rcases List.mem_cons.mp q with q | q
        · exact hb q
        · cases q)⟩
  · rw [H'.gens]
    show AllBare s₁.gens
    exact .of_eq hg
end BH
namespace BH
/-- a text's points, read off its bytes: what the kernel can do -/
noncomputable def ofK (s : String) : Str := ⟨⟨PySem.W.R.mapR Char.toNat (PySem.W.S.toListS s)⟩⟩
theorem ofK_eq : Str.ofString = ofK := by
  funext s
  rw [Str.ofString_eq_byList]
  unfold Str.ofStringByList ofK
  rw [PySem.W.S.toListS_eq, ← PySem.W.R.mapR_eq]
set_option maxRecDepth 100000 in
set_option maxHeartbeats 0 in
theorem well_said : OpenLaw.wellSaid PySem.Challenge.rw_kl0253_01 = true := by
  rewrite [PySem.W.Fast.te9446332074065402090]
  delta PySem.Challenge.rw_kl0253_01 PySem.Challenge.pw_kl0253_01
  generalize h : Str.ofString = f
  have e : f = ofK := h.symm.trans ofK_eq
  clear h
  subst e
  decide +kernel
end BH
set_option maxRecDepth 100000 in
set_option maxHeartbeats 0 in
theorem PySem.Challenge.cw_kl0253_01_holds : PySem.Challenge.rw_kl0253_01.Holds := by
  refine PySem.W.holds_law BH.well_said fun said => ?_
  refine PySem.W.holds_open (r := PySem.Challenge.rw_kl0253_01.row) (q := BH.qT) (loose := BH.looseT) (Xt := BH.XtT) (XP := fun _ _ => True) (Yf := fun s => s.heap) (Ya := BH.heapT) (YP := fun w h => ∀ b o, (BH.heapT w).get? b = some o → h.get? b = some o) (N := 40000) BH.left_T
    (fun w s e b o h => by rw [e]; exact h) (fun w h h' x y b o z => y b o (x b o z)) (fun _ _ => trivial) (fun _ _ _ x _ => x) (by rfl) (by rfl) (by rfl) (fun s _ => recFacts_of (by rfl)) (by rfl) (by assumption) (by decide +kernel) ⟨rfl, rfl, rfl, rfl, rfl, by decide +kernel⟩ ?hw ?hc
  case hw => w_witness2
  case hc => exact BH.walk_T _ _ rfl
