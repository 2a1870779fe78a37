import PyProof.Rows.All
import Wide.All
import OpenK.AllK
import Wide.FinOn
import Lean
import PySem.Challenge.RW_us0005_01
open PySem PySem.Calls PyProof.Rows PySem.W
set_option Elab.async false
set_option linter.unusedVariables false
set_option maxRecDepth 100000
set_option genInjectivity false
set_option genSizeOf false

namespace Mine

/-! abstract values, abstract objects, the state relation -/
set_option genInjectivity true in
inductive AV where
  | none
  | bool (b : Bool)
  | int (i : Int)
  | str (l : List Nat)
  | ref (a : Addr)
  | con (v : Value)
  deriving DecidableEq

noncomputable def AV.is : AV → Value → Prop
  | .none, v => v = .none
  | .bool b, v => v = .bool b
  | .int i, v => ∃ t, v = .int i t
  | .str l, v => ∃ t, v = .str ⟨l.toArray⟩ t
  | .ref a, v => v = .ref a
  | .con w, v => v = w

noncomputable def Is2 : List AV → List Value → Prop
  | [], [] => True
  | a :: as, v :: vs => a.is v ∧ Is2 as vs
  | _, _ => False

theorem Is2.length : ∀ {as : List AV} {vs : List Value}, Is2 as vs → as.length = vs.length
  | [], [], _ => rfl
  | _ :: _, _ :: _, h => congrArg (· + 1) (Is2.length h.2)
  | [], _ :: _, h => h.elim
  | _ :: _, [], h => h.elim
theorem Is2.get : ∀ {as : List AV} {vs : List Value} {i : Nat} {a : AV}, Is2 as vs → as[i]? = some a → ∃ v, vs[i]? = some v ∧ a.is v
  | a :: as, v :: vs, 0, _, h, e => by cases e; exact ⟨v, rfl, h.1⟩
  | a :: as, v :: vs, i + 1, _, h, e => by
    have := Is2.get (i := i) h.2 (by simpa using e)
    simpa using this
  | [], [], _, _, _, e => by simp at e
  | [], _ :: _, _, _, h, _ => h.elim
  | _ :: _, [], _, _, h, _ => h.elim
theorem Is2.append : ∀ {as : List AV} {vs : List Value} {bs : List AV} {ws : List Value}, Is2 as vs → Is2 bs ws → Is2 (as ++ bs) (vs ++ ws)
  | [], [], _, _, _, h => h
  | _ :: _, _ :: _, _, _, h, h' => ⟨h.1, Is2.append h.2 h'⟩
  | [], _ :: _, _, _, h, _ => h.elim
  | _ :: _, [], _, _, h, _ => h.elim
theorem Is2.one {a : AV} {v : Value} (h : a.is v) : Is2 [a] [v] := ⟨h, trivial⟩
theorem fst1 {α β : Type} {l : List (α × β)} {a : α} (h : l.map (·.1) = [a]) : ∃ c, l = [(a, c)] := by cases l with
  | nil => cases h
  | cons p r =>
    obtain ⟨h1, h2⟩ := List.cons.inj h
    cases List.map_eq_nil_iff.mp h2
    exact ⟨p.2, by rw [← h1]⟩
theorem fst_cons {α β : Type} {l : List (α × β)} {a : α} {as : List α} (h : l.map (·.1) = a :: as) : ∃ c r, l = (a, c) :: r ∧ r.map (·.1) = as := by cases l with
  | nil => cases h
  | cons p r =>
    obtain ⟨h1, h2⟩ := List.cons.inj h
    exact ⟨p.2, r, by rw [← h1], h2⟩
theorem fst3 {α β : Type} {l : List (α × β)} {a a2 a3 : α} (h : l.map (·.1) = [a, a2, a3]) : ∃ c c2 c3, l = [(a, c), (a2, c2), (a3, c3)] := by
  obtain ⟨c, r, rfl, h1⟩ := fst_cons h
  obtain ⟨c2, r, rfl, h2⟩ := fst_cons h1
  obtain ⟨c3, rfl⟩ := fst1 h2
  exact ⟨c, c2, c3, rfl⟩
theorem fst4 {α β : Type} {l : List (α × β)} {a a2 a3 a4 : α} (h : l.map (·.1) = [a, a2, a3, a4]) : ∃ c c2 c3 c4, l = [(a, c), (a2, c2), (a3, c3), (a4, c4)] := by
  obtain ⟨c, r, rfl, h1⟩ := fst_cons h
  obtain ⟨c2, c3, c4, rfl⟩ := fst3 h1
  exact ⟨c, c2, c3, c4, rfl⟩
theorem Is2.inv0 {vs : List Value} (h : Is2 [] vs) : vs = [] := by cases vs with
  | nil => rfl
  | cons v r => exact h.elim
theorem Is2.inv1 {a : AV} {vs : List Value} (h : Is2 [a] vs) : ∃ x, vs = [x] ∧ a.is x := by cases vs with
  | nil => exact h.elim
  | cons v r => exact ⟨v, congrArg (v :: ·) h.2.inv0, h.1⟩
theorem Is2.inv2 {a a2 : AV} {vs : List Value} (h : Is2 [a, a2] vs) : ∃ x x2, vs = [x, x2] ∧ a.is x ∧ a2.is x2 := by cases vs with
  | nil => exact h.elim
  | cons v r =>
    obtain ⟨y, rfl, hy⟩ := Is2.inv1 h.2
    exact ⟨v, y, rfl, h.1, hy⟩
theorem Is2.inv3 {a a2 a3 : AV} {vs : List Value} (h : Is2 [a, a2, a3] vs) : ∃ x x2 x3, vs = [x, x2, x3] ∧ a.is x ∧ a2.is x2 ∧ a3.is x3 := by cases vs with
  | nil => exact h.elim
  | cons v r =>
    obtain ⟨y, y2, rfl, hy, hy2⟩ := Is2.inv2 h.2
    exact ⟨v, y, y2, rfl, h.1, hy, hy2⟩

inductive AO where
  | list (xs : List AV)
  | tuple (xs : List AV)
  | cell (v : AV)
  | raw (p : Obj → Prop)

noncomputable def OR (h : Heap) (a : Addr) : AO → Prop
  | .list xs => ∃ (vs : List Value) (n : Nat), h.get? a = some { cls := .type "list", dict := none, data := .seq vs.toArray n, slots := #[] } ∧ Is2 xs vs
  | .tuple xs => ∃ (vs : List Value) (n : Nat), h.get? a = some { cls := .type "tuple", dict := none, data := .seq vs.toArray n, slots := #[] } ∧ Is2 xs vs
  | .cell v => ∃ o w, h.get? a = some o ∧ o.data = .cell (some w) ∧ v.is w
  | .raw p => ∃ o, h.get? a = some o ∧ p o

theorem OR.isList {h : Heap} {a : Addr} {xs : List AV} (x : OR h a (.list xs)) : ∃ vs : List Value, h.IsList a vs.toArray ∧ Is2 xs vs :=
  let ⟨vs, n, ho, h2⟩ := x; ⟨vs, ⟨_, ho, rfl, n, rfl⟩, h2⟩
theorem OR.isTup {h : Heap} {a : Addr} {xs : List AV} (x : OR h a (.tuple xs)) : ∃ vs : List Value, IsTup h a vs.toArray ∧ Is2 xs vs :=
  let ⟨vs, n, ho, h2⟩ := x; ⟨vs, ⟨_, ho, rfl, n, rfl⟩, h2⟩
theorem OR.some {h : Heap} {a : Addr} {ao : AO} (x : OR h a ao) : ∃ o, h.get? a = some o := by
  cases ao with
  | list xs => obtain ⟨vs, n, ho, _⟩ := x; exact ⟨_, ho⟩
  | tuple xs => obtain ⟨vs, n, ho, _⟩ := x; exact ⟨_, ho⟩
  | cell v => obtain ⟨o, w, ho, _⟩ := x; exact ⟨o, ho⟩
  | raw p => obtain ⟨o, ho, _⟩ := x; exact ⟨o, ho⟩
theorem OR.mono {h h' : Heap} {a : Addr} {ao : AO} (x : OR h a ao) (k : ∀ o, h.get? a = Option.some o → h'.get? a = Option.some o) : OR h' a ao := by
  cases ao with
  | list xs => obtain ⟨vs, n, ho, q⟩ := x; exact ⟨vs, n, k _ ho, q⟩
  | tuple xs => obtain ⟨vs, n, ho, q⟩ := x; exact ⟨vs, n, k _ ho, q⟩
  | cell v => obtain ⟨o, w, ho, r⟩ := x; exact ⟨o, w, k _ ho, r⟩
  | raw p => obtain ⟨o, ho, r⟩ := x; exact ⟨o, k _ ho, r⟩

noncomputable abbrev Led := List (Addr × AO)
noncomputable abbrev keys (H : Led) : List Addr := H.map (·.1)

structure Bs where
  prog : Program
  w : World
  h₀ : Heap
  os : OsState
  mg : Str → Option Value
  mb : Str → Option Value

structure Bs.Ok (b : Bs) : Prop where
  nolim : b.h₀.NoLimit
  g : b.h₀.Ns mainGlobals b.mg
  bi : b.h₀.Ns builtinsNs b.mb

noncomputable abbrev Prot := Addr → Obj → Prop
noncomputable abbrev GProt := Nat → GenState → Prop

structure SH (b : Bs) (P : Prot) (G : GProt) (H : Led) (s : Shared) : Prop where
  ok : b.Ok
  base : ∀ a o, b.h₀.get? a = some o → P a o
  keep : ∀ a o, P a o → s.heap.get? a = some o
  apart : ∀ a ∈ keys H, ∀ o, ¬ P a o
  nodup : (keys H).Nodup
  led : ∀ p ∈ H, OR s.heap p.1 p.2
  gk : ∀ i x, G i x → s.gens[i]? = some x
  gb : ∀ x ∈ s.gens, GenState.bare x = true
  os : s.os = b.os

section
variable {b : Bs} {P : Prot} {G : GProt} {H : Led} {s : Shared}

theorem SH.key_some (S : SH b P G H s) {a : Addr} (ha : a ∈ keys H) : ∃ o, s.heap.get? a = some o := by
  obtain ⟨p, hp, rfl⟩ := List.mem_map.mp ha
  exact (S.led p hp).some
theorem SH.nolim (S : SH b P G H s) : s.heap.NoLimit := S.ok.nolim.keeps fun a o e => S.keep a o (S.base a o e)
theorem SH.globals (S : SH b P G H s) : s.heap.Ns mainGlobals b.mg := S.ok.g.keeps fun a o e => S.keep a o (S.base a o e)
theorem SH.builtins (S : SH b P G H s) : s.heap.Ns builtinsNs b.mb := S.ok.bi.keeps fun a o e => S.keep a o (S.base a o e)
theorem SH.old (S : SH b P G H s) {a : Addr} {o : Obj} (e : b.h₀.get? a = some o) : s.heap.get? a = some o := S.keep a o (S.base a o e)

/-- nothing that is tracked changes -/
theorem SH.change (S : SH b P G H s) {h' : Heap} {t : Nat} (hk : ∀ a o, (a ∈ keys H ∨ P a o) → s.heap.get? a = some o → h'.get? a = some o) : SH b P G H { s with heap := h', toks := t } :=
  ⟨S.ok, S.base, fun a o e => hk a o (.inr e) (S.keep a o e), S.apart, S.nodup, fun p hp => (S.led p hp).mono fun o e => hk _ o (.inl (List.mem_map_of_mem hp)) e, S.gk, S.gb, S.os⟩
theorem SH.ext (S : SH b P G H s) {h' : Heap} {t : Nat} (hk : ∀ a o, s.heap.get? a = some o → h'.get? a = some o) : SH b P G H { s with heap := h', toks := t } :=
  S.change fun a o _ e => hk a o e
theorem SH.tok (S : SH b P G H s) (t : Nat) : SH b P G H { s with toks := t } := S.change (h' := s.heap) fun _ _ _ e => e
theorem SH.push (S : SH b P G H s) (o : Obj) (t : Nat) : SH b P G H { s with heap := s.heap.push o, toks := t } := S.ext fun _ _ e => Heap.get?_push_of_some _ e
theorem SH.but (S : SH b P G H s) {x : Addr} {h' : Heap} {t : Nat} (hx : x ∉ keys H) (hP : ∀ o, ¬ P x o) (hs : Heap.ExtBut x s.heap h') : SH b P G H { s with heap := h', toks := t } :=
  S.change fun a o ha e => hs a o (by
    rintro rfl
    rcases ha with q | q
    · exact hx q
    · exact hP _ q) e
theorem SH.fresh (S : SH b P G H s) : s.heap.objs.size ∉ keys H ∧ ∀ o, ¬ P s.heap.objs.size o :=
  ⟨fun q => let ⟨_, ho⟩ := S.key_some q; Nat.lt_irrefl _ (Heap.lt_size ho), fun o q => Nat.lt_irrefl _ (Heap.lt_size (S.keep _ _ q))⟩

theorem SH.add (S : SH b P G H s) {a : Addr} {ao : AO} (hk : a ∉ keys H) (hP : ∀ o, ¬ P a o) (ho : OR s.heap a ao) : SH b P G ((a, ao) :: H) s :=
  ⟨S.ok, S.base, S.keep, fun x hx => by
    rcases List.mem_cons.mp hx with rfl | q
    · exact hP
    · exact S.apart x q,
   List.nodup_cons.mpr ⟨hk, S.nodup⟩, fun p hp => by
    rcases List.mem_cons.mp hp with rfl | q
    · exact ho
    · exact S.led p q, S.gk, S.gb, S.os⟩
theorem SH.alloc (S : SH b P G H s) {o : Obj} {ao : AO} {t : Nat} (ho : OR (s.heap.push o) s.heap.objs.size ao) : SH b P G ((s.heap.objs.size, ao) :: H) { s with heap := s.heap.push o, toks := t } :=
  (S.push o t).add S.fresh.1 S.fresh.2 ho

theorem SH.sub {H' : Led} (S : SH b P G H s) (h : H'.Sublist H) : SH b P G H' s :=
  ⟨S.ok, S.base, S.keep, fun a ha => S.apart a ((h.map _).subset ha), S.nodup.sublist (h.map _), fun p hp => S.led p (h.subset hp), S.gk, S.gb, S.os⟩
theorem SH.perm {H' : Led} (S : SH b P G H s) (h : H.Perm H') : SH b P G H' s :=
  ⟨S.ok, S.base, S.keep, fun a ha => S.apart a ((h.map (·.1)).mem_iff.mpr ha), (h.map (·.1)).nodup_iff.mp S.nodup, fun p hp => S.led p (h.mem_iff.mpr hp), S.gk, S.gb, S.os⟩
theorem SH.weaken {P' : Prot} {G' : GProt} (S : SH b P G H s) (hb : ∀ a o, b.h₀.get? a = some o → P' a o) (h : ∀ a o, P' a o → P a o) (hg : ∀ i x, G' i x → G i x) : SH b P' G' H s :=
  ⟨S.ok, hb, fun a o e => S.keep a o (h a o e), fun a ha o e => S.apart a ha o (h a o e), S.nodup, S.led, fun i x e => S.gk i x (hg i x e), S.gb, S.os⟩
/-- protect more -/
theorem SH.protect (S : SH b P G H s) {N : Prot} (hN : ∀ a o, N a o → s.heap.get? a = some o ∧ a ∉ keys H) : SH b (fun a o => P a o ∨ N a o) G H s :=
  ⟨S.ok, fun a o e => .inl (S.base a o e), fun a o e => e.elim (S.keep a o) fun q => (hN a o q).1, fun a ha o e => e.elim (S.apart a ha o) fun q => (hN a o q).2 ha, S.nodup, S.led, S.gk, S.gb, S.os⟩

/-- one tracked object changes -/
inductive LUpd (a : Addr) (o o' : AO) : Led → Led → Prop
  | head {r} : LUpd a o o' ((a, o) :: r) ((a, o') :: r)
  | tail {p r r'} : LUpd a o o' r r' → LUpd a o o' (p :: r) (p :: r')
theorem LUpd.keys {a : Addr} {o o' : AO} {H H' : Led} (h : LUpd a o o' H H') : keys H' = keys H := by
  induction h with
  | head => rfl
  | tail _ ih => simp [ih]
theorem LUpd.mem {a : Addr} {o o' : AO} {H H' : Led} (h : LUpd a o o' H H') : (a, o) ∈ H := by
  induction h with
  | head => exact .head _
  | tail _ ih => exact .tail _ ih
theorem LUpd.mem' {a : Addr} {o o' : AO} {H H' : Led} (h : LUpd a o o' H H') : ∀ p ∈ H', p.1 ≠ a → p ∈ H := by
  induction h with
  | head =>
    intro p hp hne
    rcases List.mem_cons.mp hp with rfl | q
    · exact absurd rfl hne
    · exact .tail _ q
  | tail _ ih =>
    intro p hp hne
    rcases List.mem_cons.mp hp with rfl | q
    · exact .head _
    · exact .tail _ (ih p q hne)
theorem LUpd.at {a : Addr} {o o' : AO} {H H' : Led} (h : LUpd a o o' H H') (nd : (Mine.keys H).Nodup) : ∀ p ∈ H', p.1 = a → p = (a, o') := by
  induction h with
  | @head r =>
    intro p hp he
    rcases List.mem_cons.mp hp with rfl | q
    · rfl
    · exfalso
      have := (List.nodup_cons.mp nd).1
      have hm : p.1 ∈ Mine.keys r := List.mem_map_of_mem (f := (·.1)) q
      rw [he] at hm
      exact this hm
  | @tail q r r' h' ih =>
    intro p hp he
    rcases List.mem_cons.mp hp with rfl | hq
    · exfalso
      have := (List.nodup_cons.mp nd).1
      have hm : a ∈ Mine.keys r := List.mem_map_of_mem (f := (·.1)) h'.mem
      rw [← he] at hm
      exact this hm
    · exact ih (List.nodup_cons.mp nd).2 p hq he
theorem SH.upd {H' : Led} {a : Addr} {o o' : AO} {h' : Heap} {t : Nat} (S : SH b P G H s) (u : LUpd a o o' H H') (hs : Heap.ExtBut a s.heap h') (ho : OR h' a o') : SH b P G H' { s with heap := h', toks := t } := by
  have ha : a ∈ keys H := List.mem_map_of_mem (f := (·.1)) u.mem
  refine ⟨S.ok, S.base, fun x o e => hs x o (by rintro rfl; exact S.apart _ ha _ e) (S.keep x o e), fun x hx => S.apart x (u.keys ▸ hx), by rw [u.keys]; exact S.nodup, fun p hp => ?_, S.gk, S.gb, S.os⟩
  by_cases q : p.1 = a
  · have := u.at S.nodup p hp q
    subst this; exact ho
  · exact (S.led p (u.mem' p hp q)).mono fun o e => hs _ o q e
end

/-! frames -/
structure Fm where
  env : Env
  own : Bool

structure FmOk (f : Fm) : Prop where
  kind : f.env.scope.kind = .function
  glob : f.env.globals = mainGlobals
  bi : f.env.builtins = builtinsNs
  nd : (f.env.scope.names.map (·.1)).Nodup
  cnd : (f.env.cells.map (·.2)).Nodup
  Lc : ∀ p ∈ f.env.cells, p.2 ≠ f.env.locals

noncomputable abbrev Vs := List (Option AV)

structure St (b : Bs) (P : Prot) (G : GProt) (f : Fm) (vs : Vs) (H : Led) (s : Shared) : Prop where
  fo : FmOk f
  sh : SH b P G H s
  La : ∀ o, ¬ P f.env.locals o
  Lk : f.env.locals ∉ keys H
  ck : ∀ p ∈ f.env.cells, p.2 ∉ keys H
  cown : f.own = true → ∀ p ∈ f.env.cells, ∀ o, ¬ P p.2 o
  cdef : ∀ p ∈ f.env.cells, ∃ o v, s.heap.get? p.2 = some o ∧ o.data = .cell v
  loc : ∃ m, s.heap.Ns f.env.locals m ∧ ∀ (j : Nat) (x : Str) (av : AV), f.env.scope.names[j]? = some (x, NameKind.local) → vs[j]? = some (some av) → ∃ v, m x = some v ∧ av.is v
  cel : ∀ (j : Nat) (x : Str) (k : NameKind) (av : AV), f.env.scope.names[j]? = some (x, k) → (k = NameKind.cell ∨ k = NameKind.free) → vs[j]? = some (some av) → ∃ a o v, f.env.cells.lookup x = some a ∧ s.heap.get? a = some o ∧ o.data = .cell (some v) ∧ av.is v

theorem lookup_of_nodup {β : Type} : ∀ {l : List (Str × β)} {j : Nat} {x : Str} {k : β}, (l.map (·.1)).Nodup → l[j]? = some (x, k) → l.lookup x = some k
  | (y, k') :: l, 0, x, k, _, e => by simp at e; obtain ⟨rfl, rfl⟩ := e; simp
  | (y, k') :: l, j + 1, x, k, nd, e => by
    have e' : l[j]? = some (x, k) := by simpa using e
    have nd' := List.nodup_cons.mp nd
    have : x ≠ y := by
      rintro rfl
      exact nd'.1 (List.mem_map_of_mem (f := (·.1)) (List.mem_of_getElem? e'))
    rw [List.lookup_cons]
    have hb : (x == y) = false := by simpa using this
    rw [hb]
    exact lookup_of_nodup nd'.2 e'
  | [], _, _, _, _, e => by simp at e
theorem FmOk.kindOf {f : Fm} (h : FmOk f) {j : Nat} {x : Str} {k : NameKind} (e : f.env.scope.names[j]? = some (x, k)) : f.env.kindOf x = some k := lookup_of_nodup h.nd e
theorem mem_of_lookup {β : Type} : ∀ {l : List (Str × β)} {x : Str} {k : β}, l.lookup x = some k → (x, k) ∈ l
  | (y, k') :: l, x, k, e => by
    rw [List.lookup_cons] at e
    cases hb : x == y with
    | true => rw [hb] at e; cases e; rw [beq_iff_eq.mp hb]; exact .head _
    | false => rw [hb] at e; exact .tail _ (mem_of_lookup e)
  | [], _, _, e => by simp at e

/-- what a frame adds to the protected part -/
noncomputable def frameP (f : Fm) (s : Shared) : Prot := fun a o => (a = f.env.locals ∨ ∃ p ∈ f.env.cells, a = p.2) ∧ s.heap.get? a = some o

section
variable {b : Bs} {P : Prot} {G : GProt} {f : Fm} {vs : Vs} {H : Led} {s : Shared}
theorem St.down (S : St b P G f vs H s) : SH b (fun a o => P a o ∨ frameP f s a o) G H s :=
  S.sh.protect fun a o h => ⟨h.2, by
    rcases h.1 with rfl | ⟨p, hp, rfl⟩
    · exact S.Lk
    · exact S.ck p hp⟩
theorem St.up {H' : Led} {s' : Shared} (S : St b P G f vs H s) (T : SH b (fun a o => P a o ∨ frameP f s a o) G H' s') : St b P G f vs H' s' := by
  obtain ⟨m, hn, hm⟩ := S.loc
  obtain ⟨oL, es, ep, hL, r⟩ := hn
  have key : ∀ a o, (a = f.env.locals ∨ ∃ p ∈ f.env.cells, a = p.2) → s.heap.get? a = some o → s'.heap.get? a = some o := fun a o q e => T.keep a o (.inr ⟨q, e⟩)
  refine ⟨S.fo, T.weaken S.sh.base (fun _ _ e => .inl e) (fun _ _ e => e), S.La, fun q => T.apart _ q oL (.inr ⟨.inl rfl, hL⟩), fun p hp q => ?_, S.cown, fun p hp => ?_, ⟨m, ⟨oL, es, ep, key _ _ (.inl rfl) hL, r⟩, hm⟩, fun j x k av e hk hv => ?_⟩
  · obtain ⟨o, v, ho, _⟩ := S.cdef p hp
    exact T.apart _ q o (.inr ⟨.inr ⟨p, hp, rfl⟩, ho⟩)
  · obtain ⟨o, v, ho, hd⟩ := S.cdef p hp
    exact ⟨o, v, key _ _ (.inr ⟨p, hp, rfl⟩) ho, hd⟩
  · obtain ⟨a, o, v, hl, ho, r⟩ := S.cel j x k av e hk hv
    exact ⟨a, o, v, hl, key _ _ (.inr ⟨_, mem_of_lookup hl, rfl⟩) ho, r⟩
end

/-! the two judgements -/
noncomputable abbrev M (b : Bs) : Model := model b.prog b.w

noncomputable def ah (b : Bs) (A : Around) (H : Led) {α β : Type} (R : β → α → Prop) (t : Sem α) (Q : β → Led → Prop) : Prop :=
  ∀ P G s, SH b P G H s → wpAny (M b) A t (fun a s' => ∃ x H', R x a ∧ SH b P G H' s' ∧ Q x H') (fun _ _ => False) s
noncomputable def aw (b : Bs) (A : Around) (f : Fm) (vs : Vs) (H : Led) {α β : Type} (R : β → α → Prop) (t : Sem α) (Q : β → Vs → Led → Prop) : Prop :=
  ∀ P G s, St b P G f vs H s → wpAny (M b) A t (fun a s' => ∃ x vs' H', R x a ∧ St b P G f vs' H' s' ∧ Q x vs' H') (fun _ _ => False) s

theorem aw_use {b : Bs} {A : Around} {f : Fm} {α β : Type} {R : β → α → Prop} {t : Sem α} {Q : β → Vs → Led → Prop} {P : Prot} {G : GProt} {s : Shared} {QQ : α → Shared → Prop} {E : Value → Shared → Prop}
    (h : wpAny (M b) A t (fun a s' => ∃ x vs' H', R x a ∧ St b P G f vs' H' s' ∧ Q x vs' H') (fun _ _ => False) s)
    (k : ∀ a s' x vs' H', R x a → St b P G f vs' H' s' → Q x vs' H' → QQ a s') : wpAny (M b) A t QQ E s :=
  wpAny_mono h (fun a s' q => q.elim fun x q => q.elim fun vs' q => q.elim fun H' q => k a s' x vs' H' q.1 q.2.1 q.2.2) fun _ _ e => e.elim
section
variable {b : Bs} {A : Around} {f : Fm} {vs : Vs} {H : Led} {α β γ δ : Type} {R : β → α → Prop}
theorem aw_of_ah {t : Sem α} {Q : β → Vs → Led → Prop} (h : ah b A H R t fun x H' => Q x vs H') : aw b A f vs H R t Q := fun P G s S =>
  wpAny_mono (h _ G s S.down) (fun _ s' ⟨x, H', hr, hs, hq⟩ => ⟨x, vs, H', hr, S.up hs, hq⟩) fun _ _ e => e
theorem aw_mono {t : Sem α} {Q Q' : β → Vs → Led → Prop} (h : aw b A f vs H R t Q) (k : ∀ x vs' H', Q x vs' H' → Q' x vs' H') : aw b A f vs H R t Q' := fun P G s S =>
  wpAny_mono (h P G s S) (fun _ _ ⟨x, vs', H', a, c, d⟩ => ⟨x, vs', H', a, c, k _ _ _ d⟩) fun _ _ e => e
theorem ah_mono {t : Sem α} {Q Q' : β → Led → Prop} (h : ah b A H R t Q) (k : ∀ x H', Q x H' → Q' x H') : ah b A H R t Q' := fun P G s S =>
  wpAny_mono (h P G s S) (fun _ _ ⟨x, H', a, c, d⟩ => ⟨x, H', a, c, k _ _ d⟩) fun _ _ e => e
theorem aw_bind {R' : δ → γ → Prop} {t : Sem α} {k : α → Sem γ} {Q : δ → Vs → Led → Prop} (h : aw b A f vs H R t fun x vs' H' => ∀ a, R x a → aw b A f vs' H' R' (k a) Q) : aw b A f vs H R' (t >>= k) Q := fun P G s S =>
  wpAny_bind (wpAny_mono (h P G s S) (fun a s' ⟨x, vs', H', hr, hs, hq⟩ => hq a hr P G s' hs) fun _ _ e => e)
theorem ah_bind {R' : δ → γ → Prop} {t : Sem α} {k : α → Sem γ} {Q : δ → Led → Prop} (h : ah b A H R t fun x H' => ∀ a, R x a → ah b A H' R' (k a) Q) : ah b A H R' (t >>= k) Q := fun P G s S =>
  wpAny_bind (wpAny_mono (h P G s S) (fun a s' ⟨x, H', hr, hs, hq⟩ => hq a hr P G s' hs) fun _ _ e => e)
theorem aw_pure {a : α} {x : β} {Q : β → Vs → Led → Prop} (hr : R x a) (h : Q x vs H) : aw b A f vs H R (pure a) Q := fun _ _ _ S => wpAny_pure ⟨x, vs, H, hr, S, h⟩
theorem ah_pure {a : α} {x : β} {Q : β → Led → Prop} (hr : R x a) (h : Q x H) : ah b A H R (pure a) Q := fun _ _ _ S => wpAny_pure ⟨x, H, hr, S, h⟩
theorem aw_standAt {R' : δ → γ → Prop} {pos : Pos} {k : Unit → Sem γ} {Q : δ → Vs → Led → Prop} (h : aw b A f vs H R' (k ()) Q) : aw b A f vs H R' (standAt pos >>= k) Q := fun P G s S =>
  wpAny_bind (wpAny_standAt (h P G s S))
theorem aw_holding {xs : List Value} {t : Sem α} {Q : β → Vs → Led → Prop} (h : aw b A f vs H R t Q) : aw b A f vs H R (holding xs t) Q := fun P G s S => wpAny_holding (h P G s S)
theorem ah_holding {xs : List Value} {t : Sem α} {Q : β → Led → Prop} (h : ah b A H R t Q) : ah b A H R (holding xs t) Q := fun P G s S => wpAny_holding (h P G s S)
theorem aw_sub {t : Sem α} {H' : Led} {Q : β → Vs → Led → Prop} (hs : H'.Sublist H) (h : aw b A f vs H' R t Q) : aw b A f vs H R t Q := fun P G s S =>
  h P G s ⟨S.fo, S.sh.sub hs, S.La, fun q => S.Lk ((hs.map _).subset q), fun p hp q => S.ck p hp ((hs.map _).subset q), S.cown, S.cdef, S.loc, S.cel⟩
theorem ah_sub {t : Sem α} {H' : Led} {Q : β → Led → Prop} (hs : H'.Sublist H) (h : ah b A H' R t Q) : ah b A H R t Q := fun P G s S => h P G s (S.sub hs)
theorem aw_perm {t : Sem α} {H' : Led} {Q : β → Vs → Led → Prop} (hs : H.Perm H') (h : aw b A f vs H' R t Q) : aw b A f vs H R t Q := fun P G s S =>
  h P G s ⟨S.fo, S.sh.perm hs, S.La, fun q => S.Lk ((hs.map (·.1)).mem_iff.mpr q), fun p hp q => S.ck p hp ((hs.map (·.1)).mem_iff.mpr q), S.cown, S.cdef, S.loc, S.cel⟩
end

noncomputable abbrev awE (b : Bs) (A : Around) (f : Fm) (vs : Vs) (H : Led) (t : Sem Value) (Q : AV → Vs → Led → Prop) : Prop := aw b A f vs H AV.is t Q
noncomputable abbrev awB (b : Bs) (A : Around) (f : Fm) (vs : Vs) (H : Led) (t : Sem Bool) (Q : Bool → Vs → Led → Prop) : Prop := aw b A f vs H (fun x y => y = x) t Q
noncomputable abbrev awU (b : Bs) (A : Around) (f : Fm) (vs : Vs) (H : Led) (t : Sem Unit) (Q : Unit → Vs → Led → Prop) : Prop := aw b A f vs H (fun _ _ => True) t Q
noncomputable abbrev awL (b : Bs) (A : Around) (f : Fm) (vs : Vs) (H : Led) (t : Sem (List Value)) (Q : List AV → Vs → Led → Prop) : Prop := aw b A f vs H Is2 t Q
inductive AF where
  | next | brk | cont
  | ret (v : AV)
noncomputable def AF.is : AF → Flow → Prop
  | .next, x => x = .next
  | .brk, x => x = .brk
  | .cont, x => x = .cont
  | .ret v, x => ∃ w, x = .ret w ∧ v.is w
noncomputable abbrev awF (b : Bs) (A : Around) (f : Fm) (vs : Vs) (H : Led) (t : Sem Flow) (Q : AF → Vs → Led → Prop) : Prop := aw b A f vs H AF.is t Q
noncomputable abbrev ahE (b : Bs) (A : Around) (H : Led) (t : Sem Value) (Q : AV → Led → Prop) : Prop := ah b A H AV.is t Q
noncomputable abbrev ahB (b : Bs) (A : Around) (H : Led) (t : Sem Bool) (Q : Bool → Led → Prop) : Prop := ah b A H (fun x y => y = x) t Q
noncomputable abbrev ahU (b : Bs) (A : Around) (H : Led) (t : Sem Unit) (Q : Unit → Led → Prop) : Prop := ah b A H (fun _ _ => True) t Q

section
variable {b : Bs} {A : Around} {f : Fm} {vs : Vs} {H : Led}

/-! structural rules -/
theorem e_int {i k pos} {Q : AV → Vs → Led → Prop} (h : Q (.int i) vs H) : awE b A f vs H (eval (.Constant (.int i) k pos) f.env) Q := fun P G s S =>
  wpAny_Constant_int ⟨.int i, vs, H, ⟨_, rfl⟩, S.up (S.down.tok _), h⟩
theorem e_str {x : Str} {l : List Nat} {k pos} {Q : AV → Vs → Led → Prop} (hx : x = ⟨l.toArray⟩) (h : Q (.str l) vs H) : awE b A f vs H (eval (.Constant (.str x) k pos) f.env) Q := fun P G s S =>
  wpAny_Constant_str ⟨.str l, vs, H, ⟨_, by rw [hx]⟩, S.up (S.down.tok _), h⟩
theorem e_bool {x k pos} {Q : AV → Vs → Led → Prop} (h : Q (.bool x) vs H) : awE b A f vs H (eval (.Constant (.bool x) k pos) f.env) Q := fun P G s S =>
  wpAny_Constant_bool ⟨.bool x, vs, H, rfl, S, h⟩
theorem e_none {k pos} {Q : AV → Vs → Led → Prop} (h : Q .none vs H) : awE b A f vs H (eval (.Constant .none k pos) f.env) Q := fun P G s S =>
  wpAny_Constant_none ⟨.none, vs, H, rfl, S, h⟩

noncomputable abbrev KBin2 (b : Bs) (A : Around) (f : Fm) (op : Operator) (Q : AV → Vs → Led → Prop) (x : AV) : AV → Vs → Led → Prop := fun y vs2 H2 => ∀ v w, x.is v → y.is w → awE b A f vs2 H2 (binaryOp op v w) Q
noncomputable abbrev KBin (b : Bs) (A : Around) (f : Fm) (r : Expr) (op : Operator) (Q : AV → Vs → Led → Prop) : AV → Vs → Led → Prop := fun x vs1 H1 => awE b A f vs1 H1 (eval r f.env) (KBin2 b A f op Q x)
theorem e_bin {l op r pos} {Q : AV → Vs → Led → Prop} (h : awE b A f vs H (eval l f.env) (KBin b A f r op Q)) : awE b A f vs H (eval (.BinOp l op r pos) f.env) Q := fun P G s S =>
  wpAny_BinOp (aw_use (h P G s S) (fun v s1 x vs1 H1 hv S1 h1 => aw_use (h1 P G s1 S1) (fun w s2 y vs2 H2 hw S2 h2 => h2 v w hv hw P G s2 S2)))
noncomputable abbrev KUn (b : Bs) (A : Around) (f : Fm) (op : UnaryOp) (Q : AV → Vs → Led → Prop) : AV → Vs → Led → Prop := fun y vs1 H1 => ∀ v, y.is v → awE b A f vs1 H1 (unaryOp op v) Q
theorem e_un {op x pos} {Q : AV → Vs → Led → Prop} (h : awE b A f vs H (eval x f.env) (KUn b A f op Q)) : awE b A f vs H (eval (.UnaryOp op x pos) f.env) Q := fun P G s S =>
  wpAny_UnaryOp (aw_use (h P G s S) (fun v s1 x vs1 H1 hv S1 h1 => h1 v hv P G s1 S1))
noncomputable abbrev KCmp2 (b : Bs) (A : Around) (f : Fm) (op : CmpOp) (Q : AV → Vs → Led → Prop) (x : AV) : AV → Vs → Led → Prop := fun y vs2 H2 => ∀ v w, x.is v → y.is w → awE b A f vs2 H2 (compareOp op v w) Q
noncomputable abbrev KCmp (b : Bs) (A : Around) (f : Fm) (r : Expr) (op : CmpOp) (Q : AV → Vs → Led → Prop) : AV → Vs → Led → Prop := fun x vs1 H1 => awE b A f vs1 H1 (eval r f.env) (KCmp2 b A f op Q x)
theorem e_cmp {l op r pos} {Q : AV → Vs → Led → Prop} (hm : behindInMarks op r = false) (h : awE b A f vs H (eval l f.env) (KCmp b A f r op Q)) : awE b A f vs H (eval (.Compare l [op] [r] pos) f.env) Q := fun P G s S =>
  wpAny_Compare1 (aw_use (h P G s S) (fun v s1 x vs1 H1 hv S1 h1 => aw_use (h1 P G s1 S1) (fun w s2 y vs2 H2 hw S2 h2 => h2 v w hv hw P G s2 S2))) hm

/-- truth of a value -/
noncomputable def truthD : AV → Option Bool
  | .none => some false
  | .bool x => some x
  | .int i => some (i != 0)
  | .str l => if l.length < 2 ^ 24 then some (!l.isEmpty) else none
  | _ => none
theorem h_truthy {x : AV} {v : Value} {c : Bool} {Q : Bool → Led → Prop} (hv : x.is v) (hc : truthD x = some c) (h : Q c H) : ahB b A H (truthy v) Q := fun P G s S => by
  cases x with
  | none => cases hc; subst hv; exact fun _ _ _ => ⟨false, H, rfl, S, h⟩
  | bool z => cases hc; subst hv; exact wpAny_truthy_bool ⟨_, H, rfl, S, h⟩
  | int i => cases hc; obtain ⟨t, rfl⟩ := hv; exact truthy_int ⟨_, H, rfl, S, h⟩
  | ref a => cases hc
  | con w => cases hc
  | str l =>
    obtain ⟨t, rfl⟩ := hv
    by_cases hl : l.length < 2 ^ 24
    · simp only [truthD, if_pos hl] at hc
      cases hc
      refine PySem.P.truthy_str (by show ¬ ((l.toArray.size : Int)) ≥ 2 ^ 63; rw [List.size_toArray]; omega) ⟨_, H, rfl, S.tok _, ?_⟩
      have e : (((⟨l.toArray⟩ : Str).length : Int) != 0) = !l.isEmpty := by
        show ((l.toArray.size : Int) != 0) = _
        rw [List.size_toArray]
        cases l with
        | nil => rfl
        | cons a r => simp [List.length_cons]; omega
      rw [e]; exact h
    · simp only [truthD, if_neg hl] at hc; cases hc

noncomputable abbrev KTru (Q : Bool → Vs → Led → Prop) : AV → Vs → Led → Prop := fun z vs3 H3 => ∃ c, truthD z = some c ∧ Q c vs3 H3
theorem t_cmp {l op r pos whole} {Q : Bool → Vs → Led → Prop} (hm : behindInMarks op r = false) (h : awE b A f vs H (eval l f.env) (KCmp b A f r op (KTru Q))) : awB b A f vs H (isTrue (.Compare l [op] [r] pos) f.env whole) Q := fun P G s S =>
  wpAny_isTrue_Compare1 (aw_use (h P G s S) (fun v s1 x vs1 H1 hv S1 h1 => wpAny_mono (h1 P G s1 S1) (fun w s2 ⟨y, vs2, H2, hw, S2, h2⟩ =>
    aw_use (h2 v w hv hw P G s2 S2) (fun z s3 zz vs3 H3 hz S3 ⟨c, hc, h3⟩ => aw_of_ah (h_truthy hz hc h3) P G s3 S3)) fun _ _ e => e)) hm
theorem t_val {e : Expr} {whole : Sem Value} {Q : Bool → Vs → Led → Prop} (h : awE b A f vs H whole (KTru Q))
    (he : isTrue e f.env whole = (do let v ← whole; standAt e.pos; holding [v] (truthy v)) := by rfl) : awB b A f vs H (isTrue e f.env whole) Q := fun P G s S =>
  wpAny_isTrue_value (aw_use (h P G s S) (fun z s3 zz vs3 H3 hz S3 ⟨c, hc, h3⟩ => aw_of_ah (h_truthy hz hc h3) P G s3 S3)) he
/-- truth of a list -/
noncomputable abbrev KLst (Q : Bool → Vs → Led → Prop) : AV → Vs → Led → Prop := fun z vs1 H1 => ∃ a xs, z = .ref a ∧ (a, AO.list xs) ∈ H1 ∧ xs.length ≤ 2 ^ 24 ∧ Q (!xs.isEmpty) vs1 H1
theorem t_list {e : Expr} {whole : Sem Value} {Q : Bool → Vs → Led → Prop} (h : awE b A f vs H whole (KLst Q))
    (he : isTrue e f.env whole = (do let v ← whole; standAt e.pos; holding [v] (truthy v)) := by rfl) : awB b A f vs H (isTrue e f.env whole) Q := fun P G s S =>
  wpAny_isTrue_value (aw_use (h P G s S) (fun z s3 zz vs3 H3 hz S3 ⟨a, xs, hc, hm, hl, h3⟩ => by
    subst hc
    cases hz
    obtain ⟨ws, hL, h2⟩ := (S3.sh.led _ hm).isList
    have hn := h2.length
    refine wpAny_truthy_list hL (by rw [List.size_toArray]; omega) ⟨_, vs3, H3, rfl, S3.up (S3.down.tok _), ?_⟩
    have : (!ws.toArray.isEmpty) = (!xs.isEmpty) := by
      cases xs <;> cases ws <;> simp_all
    rw [this]; exact h3)) he
noncomputable abbrev KNot (Q : Bool → Vs → Led → Prop) : Bool → Vs → Led → Prop := fun c vs1 H1 => Q (!c) vs1 H1
theorem t_not {x : Expr} {pos : Pos} {whole : Sem Value} {Q : Bool → Vs → Led → Prop} (h : awB b A f vs H (isTrue x f.env (eval x f.env)) (KNot Q)) :
    awB b A f vs H (isTrue (.UnaryOp .Not x pos) f.env whole) Q := fun P G s S =>
  wpAny_isTrue_Not (aw_use (h P G s S) (fun c s1 d vs1 H1 hd S1 h1 => by cases hd; exact ⟨_, vs1, H1, rfl, S1, h1⟩))
theorem t_boolop {op : BoolOp} {es : List Expr} {pos : Pos} {whole : Sem Value} {Q : Bool → Vs → Led → Prop} (h : awB b A f vs H (allTrue op es f.env) Q) :
    awB b A f vs H (isTrue (.BoolOp op es pos) f.env whole) Q := fun P G s S => wpAny_isTrue_BoolOp (h P G s S)
theorem t_and_nil {Q : Bool → Vs → Led → Prop} (h : Q true vs H) : awB b A f vs H (allTrue .And [] f.env) Q := fun P G s S => wpAny_allTrue_And_nil ⟨true, vs, H, rfl, S, h⟩
theorem t_or_nil {Q : Bool → Vs → Led → Prop} (h : Q false vs H) : awB b A f vs H (allTrue .Or [] f.env) Q := fun P G s S => wpAny_allTrue_Or_nil ⟨false, vs, H, rfl, S, h⟩
noncomputable abbrev KAnd (b : Bs) (A : Around) (f : Fm) (r : List Expr) (Q : Bool → Vs → Led → Prop) : Bool → Vs → Led → Prop := fun c vs1 H1 => (c = true → awB b A f vs1 H1 (allTrue .And r f.env) Q) ∧ (c = false → Q false vs1 H1)
theorem t_and_cons {x : Expr} {r : List Expr} {Q : Bool → Vs → Led → Prop} (h : awB b A f vs H (isTrue x f.env (eval x f.env)) (KAnd b A f r Q)) :
    awB b A f vs H (allTrue .And (x :: r) f.env) Q := fun P G s S =>
  wpAny_allTrue_And_cons (aw_use (h P G s S) (fun c s1 d vs1 H1 hd S1 h1 => by
    cases hd
    cases c with
    | true => exact h1.1 rfl P G s1 S1
    | false => exact ⟨false, vs1, H1, rfl, S1, h1.2 rfl⟩))
noncomputable abbrev KOr (b : Bs) (A : Around) (f : Fm) (r : List Expr) (Q : Bool → Vs → Led → Prop) : Bool → Vs → Led → Prop := fun c vs1 H1 => (c = true → Q true vs1 H1) ∧ (c = false → awB b A f vs1 H1 (allTrue .Or r f.env) Q)
theorem t_or_cons {x : Expr} {r : List Expr} {Q : Bool → Vs → Led → Prop} (h : awB b A f vs H (isTrue x f.env (eval x f.env)) (KOr b A f r Q)) :
    awB b A f vs H (allTrue .Or (x :: r) f.env) Q := fun P G s S =>
  wpAny_allTrue_Or_cons (aw_use (h P G s S) (fun c s1 d vs1 H1 hd S1 h1 => by
    cases hd
    cases c with
    | false => exact h1.2 rfl P G s1 S1
    | true => exact ⟨true, vs1, H1, rfl, S1, h1.1 rfl⟩))
noncomputable abbrev KIf (b : Bs) (A : Around) (f : Fm) (body orelse : Expr) (Q : AV → Vs → Led → Prop) : Bool → Vs → Led → Prop := fun c vs1 H1 => (c = true → awE b A f vs1 H1 (eval body f.env) Q) ∧ (c = false → awE b A f vs1 H1 (eval orelse f.env) Q)
theorem e_if {test body orelse : Expr} {pos : Pos} {Q : AV → Vs → Led → Prop} (h : awB b A f vs H (isTrue test f.env (eval test f.env)) (KIf b A f body orelse Q)) : awE b A f vs H (eval (.IfExp test body orelse pos) f.env) Q := fun P G s S =>
  wpAny_IfExp (aw_use (h P G s S) (fun c s1 d vs1 H1 hd S1 h1 => by
    cases hd
    cases c with
    | true => exact h1.1 rfl P G s1 S1
    | false => exact h1.2 rfl P G s1 S1))
noncomputable abbrev KOr2 (b : Bs) (A : Around) (f : Fm) (y : Expr) (Q : AV → Vs → Led → Prop) : AV → Vs → Led → Prop := fun z vs1 H1 => ∃ c, truthD z = some c ∧ (c = true → Q z vs1 H1) ∧ (c = false → awE b A f vs1 H1 (eval y f.env) Q)
theorem e_or2 {x y : Expr} {pos : Pos} {Q : AV → Vs → Led → Prop} (h : awE b A f vs H (eval x f.env) (KOr2 b A f y Q)) :
    awE b A f vs H (eval (.BoolOp .Or [x, y] pos) f.env) Q := fun P G s S =>
  wpAny_Or2 (aw_use (h P G s S) (fun v s1 z vs1 H1 hz S1 ⟨c, hc, h1, h2⟩ => wpAny_mono (aw_of_ah (f := f) (vs := vs1) (Q := fun d vs' H' => d = c ∧ vs' = vs1 ∧ H' = H1) (h_truthy hz hc ⟨rfl, rfl, rfl⟩) P G s1 S1)
    (fun d s2 ⟨e, vs2, H2, he, S2, hh⟩ => by
      cases he
      obtain ⟨rfl, rfl, rfl⟩ := hh
      cases d with
      | true => exact ⟨z, _, _, hz, S2, h1 rfl⟩
      | false => exact h2 rfl P G s2 S2) fun _ _ e => e))

theorem l_nil {pos : Pos} {Q : List AV → Vs → Led → Prop} (h : Q [] vs H) : awL b A f vs H (spliced (backTo pos (starEach [] f.env))) Q := fun P G s S => wpAny_items_nil ⟨[], vs, H, trivial, S, h⟩
noncomputable abbrev KLc2 (Q : List AV → Vs → Led → Prop) (x : AV) : List AV → Vs → Led → Prop := fun xs vs2 H2 => Q (x :: xs) vs2 H2
noncomputable abbrev KLc (b : Bs) (A : Around) (f : Fm) (pos : Pos) (r : List Expr) (Q : List AV → Vs → Led → Prop) : AV → Vs → Led → Prop := fun x vs1 H1 => awL b A f vs1 H1 (spliced (backTo pos (starEach r f.env))) (KLc2 Q x)
theorem l_cons {pos : Pos} {e : Expr} {r : List Expr} {Q : List AV → Vs → Led → Prop} (h : awE b A f vs H (eval e f.env) (KLc b A f pos r Q))
    (he : starEach (e :: r) f.env = (false, eval e f.env) :: starEach r f.env := by rfl) : awL b A f vs H (spliced (backTo pos (starEach (e :: r) f.env))) Q := fun P G s S =>
  wpAny_items_cons (aw_use (h P G s S) (fun v s1 x vs1 H1 hx S1 h1 => aw_use (h1 P G s1 S1) (fun ws s2 xs vs2 H2 hxs S2 h2 => ⟨x :: xs, vs2, H2, ⟨hx, hxs⟩, S2, h2⟩))) he

/-! names -/
theorem e_loc {ns : List (Str × NameKind)} {x : Str} {av : AV} {pos : Pos} {Q : AV → Vs → Led → Prop} (hn : f.env.scope.names = ns) (j : Nat) (e : ns[j]? = some (x, NameKind.local)) (hv : vs[j]? = some (some av))
    (h : Q av vs H) (hd : (x == ("__debug__" : Str)) = false := by decide) : awE b A f vs H (eval (.Name x pos) f.env) Q := fun P G s S => by
  subst hn
  obtain ⟨m, hm, hl⟩ := S.loc
  obtain ⟨v, hx, hav⟩ := hl j x av e hv
  exact wpAny_Name (wpAny_loadName_local S.fo.kind (S.fo.kindOf e) hm hx ⟨av, vs, H, hav, S, h⟩) hd
theorem isCell_of {h : Heap} {a : Addr} {o : Obj} {v : Option Value} (ho : h.get? a = some o) (hd : o.data = .cell v) : h.IsCell a v := ⟨o, ho, hd⟩
theorem e_cell {ns : List (Str × NameKind)} {x : Str} {av : AV} {pos : Pos} {Q : AV → Vs → Led → Prop} (hn : f.env.scope.names = ns) (j : Nat) (e : ns[j]? = some (x, NameKind.cell)) (hv : vs[j]? = some (some av))
    (h : Q av vs H) (hd : (x == ("__debug__" : Str)) = false := by decide) : awE b A f vs H (eval (.Name x pos) f.env) Q := fun P G s S => by
  subst hn
  obtain ⟨a, o, v, hl, ho, hdt, hav⟩ := S.cel j x _ av e (.inl rfl) hv
  exact wpAny_Name (wpAny_loadName_cell S.fo.kind (S.fo.kindOf e) hl (isCell_of ho hdt) ⟨av, vs, H, hav, S, h⟩) hd
theorem e_free {ns : List (Str × NameKind)} {x : Str} {av : AV} {pos : Pos} {Q : AV → Vs → Led → Prop} (hn : f.env.scope.names = ns) (j : Nat) (e : ns[j]? = some (x, NameKind.free)) (hv : vs[j]? = some (some av))
    (h : Q av vs H) (hd : (x == ("__debug__" : Str)) = false := by decide) (hc : (x == ("__classdict__" : Str)) = false := by decide) : awE b A f vs H (eval (.Name x pos) f.env) Q := fun P G s S => by
  subst hn
  obtain ⟨a, o, v, hl, ho, hdt, hav⟩ := S.cel j x _ av e (.inr rfl) hv
  exact wpAny_Name (wpAny_loadName_free S.fo.kind (S.fo.kindOf e) hl (isCell_of ho hdt) ⟨av, vs, H, hav, S, h⟩ hc) hd
theorem e_glob {ns : List (Str × NameKind)} {x : Str} {av : AV} {v : Value} {pos : Pos} {Q : AV → Vs → Led → Prop} (hn : f.env.scope.names = ns) (j : Nat) (e : ns[j]? = some (x, NameKind.globalImplicit)) (hg : b.mg x = some v) (hav : av.is v)
    (h : Q av vs H) (hd : (x == ("__debug__" : Str)) = false := by decide) : awE b A f vs H (eval (.Name x pos) f.env) Q := fun P G s S => by
  subst hn
  refine wpAny_Name ?_ hd
  rw [loadName_read S.fo.kind (S.fo.kindOf e)]
  exact loadGlobal_global (by rw [S.fo.glob]; exact S.sh.globals) hg ⟨av, vs, H, hav, S, h⟩
theorem e_blt {ns : List (Str × NameKind)} {x : Str} {av : AV} {v : Value} {pos : Pos} {Q : AV → Vs → Led → Prop} (hn : f.env.scope.names = ns) (j : Nat) (e : ns[j]? = some (x, NameKind.globalImplicit)) (hg : b.mg x = none) (hb : b.mb x = some v) (hav : av.is v)
    (h : Q av vs H) (hd : (x == ("__debug__" : Str)) = false := by decide) : awE b A f vs H (eval (.Name x pos) f.env) Q := fun P G s S => by
  subst hn
  refine wpAny_Name ?_ hd
  rw [loadName_read S.fo.kind (S.fo.kindOf e)]
  exact loadGlobal_builtin (by rw [S.fo.glob]; exact S.sh.globals) hg (by rw [S.fo.bi]; exact S.sh.builtins) hb ⟨av, vs, H, hav, S, h⟩

/-! stores -/
theorem getElem?_set_eq' {vs : Vs} {j : Nat} {o : Option AV} (h : j < vs.length) : (vs.set j o)[j]? = some o := by simp [h]
theorem u_loc {ns : List (Str × NameKind)} {x : Str} {av : AV} {v : Value} {Q : Unit → Vs → Led → Prop} (hn : f.env.scope.names = ns) (j : Nat) (e : ns[j]? = some (x, NameKind.local)) (hav : av.is v) (h : Q () (vs.set j (some av)) H) :
    awU b A f vs H (storeName f.env x v) Q := fun P G s S => by
  subst hn
  obtain ⟨m, hm, hl⟩ := S.loc
  refine wpAny_storeName_local (S.fo.kindOf e) hm (fun h' hn' hs => ⟨(), vs.set j (some av), H, trivial, ?_, h⟩)
    (by show (f.env.scope.kind == .class || (f.env.scope.kind == .module && f.env.locals != f.env.globals)) = false; rw [S.fo.kind]; rfl)
  have hne : ∀ i y k w, f.env.scope.names[i]? = some (y, k) → (vs.set j (some av))[i]? = some (some w) → (i = j ∧ w = av) ∨ (i ≠ j ∧ vs[i]? = some (some w)) := fun i y k w ei ew => by
    by_cases q : i = j
    · subst q
      rw [List.getElem?_set_self'] at ew
      cases hvi : vs[i]? with
      | none => rw [hvi] at ew; cases ew
      | some z => rw [hvi] at ew; simp at ew; exact .inl ⟨rfl, ew.symm⟩
    · rw [List.getElem?_set_ne (Ne.symm q)] at ew; exact .inr ⟨q, ew⟩
  refine ⟨S.fo, S.sh.but S.Lk S.La hs.extBut, S.La, S.Lk, S.ck, S.cown, fun p hp => ?_, ⟨_, hn', fun i y w ei ew => ?_⟩, fun i y k w ei hk ew => ?_⟩
  · obtain ⟨o, v', ho, hd⟩ := S.cdef p hp
    exact ⟨o, v', (hs.2 _ (S.fo.Lc p hp)).trans ho, hd⟩
  · rcases hne i y _ w ei ew with ⟨rfl, rfl⟩ | ⟨q, ew'⟩
    · rw [e] at ei; cases ei; exact ⟨v, if_pos rfl, hav⟩
    · obtain ⟨v', hv', hw⟩ := hl i y w ei ew'
      refine ⟨v', ?_, hw⟩
      have : y ≠ x := by
        rintro rfl
        have hi : i < f.env.scope.names.length := (List.getElem?_eq_some_iff.mp ei).1
        have hj : j < f.env.scope.names.length := (List.getElem?_eq_some_iff.mp e).1
        have h1 : (f.env.scope.names.map (·.1))[i]? = some y := by rw [List.getElem?_map, ei]; rfl
        have h2 : (f.env.scope.names.map (·.1))[j]? = some y := by rw [List.getElem?_map, e]; rfl
        exact q ((List.getElem?_inj (by simpa using hi) S.fo.nd).mp (h1.trans h2.symm))
      rw [if_neg this]; exact hv'
  · rcases hne i y _ w ei ew with ⟨rfl, rfl⟩ | ⟨q, ew'⟩
    · rw [e] at ei; cases ei; rcases hk with q | q <;> cases q
    · obtain ⟨a, o, v', hl', ho, hd, hw⟩ := S.cel i y k w ei hk ew'
      exact ⟨a, o, v', hl', (hs.2 _ (S.fo.Lc _ (mem_of_lookup hl'))).trans ho, hd, hw⟩
end

section
variable {b : Bs} {A : Around} {f : Fm} {vs : Vs} {H : Led}

theorem u_cell {ns : List (Str × NameKind)} {x : Str} {av : AV} {v : Value} {Q : Unit → Vs → Led → Prop} (hn : f.env.scope.names = ns) (hown : f.own = true) (j : Nat) (e : ns[j]? = some (x, NameKind.cell)) (a : Addr) (hc : f.env.cells.lookup x = some a) (hav : av.is v)
    (h : Q () (vs.set j (some av)) H) : awU b A f vs H (storeName f.env x v) Q := fun P G s S => by
  subst hn
  have hm := mem_of_lookup hc
  obtain ⟨o, v₀, ho, hd⟩ := S.cdef _ hm
  refine wpAny_storeName_cell S.fo.kind (S.fo.kindOf e) hc (isCell_of ho hd) fun h' hcell hs => ⟨(), vs.set j (some av), H, trivial, ?_, h⟩
  have hne : ∀ i y k w, f.env.scope.names[i]? = some (y, k) → (vs.set j (some av))[i]? = some (some w) → (i = j ∧ w = av) ∨ (i ≠ j ∧ vs[i]? = some (some w)) := fun i y k w ei ew => by
    by_cases q : i = j
    · subst q
      rw [List.getElem?_set_self'] at ew
      cases hvi : vs[i]? with
      | none => rw [hvi] at ew; cases ew
      | some z => rw [hvi] at ew; simp at ew; exact .inl ⟨rfl, ew.symm⟩
    · rw [List.getElem?_set_ne (Ne.symm q)] at ew; exact .inr ⟨q, ew⟩
  obtain ⟨m, hmn, hl⟩ := S.loc
  have hk := S.ck _ hm
  have hP := S.cown hown _ hm
  obtain ⟨o', ho', hd'⟩ := hcell
  refine ⟨S.fo, S.sh.but hk hP hs.extBut, S.La, S.Lk, S.ck, S.cown, fun p hp => ?_, ⟨m, hmn.extBut hs.extBut (Ne.symm (S.fo.Lc _ hm)), fun i y w ei ew => ?_⟩, fun i y k w ei hk ew => ?_⟩
  · by_cases q : p.2 = a
    · exact ⟨o', _, q ▸ ho', hd'⟩
    · obtain ⟨o2, v2, ho2, hd2⟩ := S.cdef p hp
      exact ⟨o2, v2, (hs.2 _ q).trans ho2, hd2⟩
  · rcases hne i y _ w ei ew with ⟨rfl, rfl⟩ | ⟨q, ew'⟩
    · rw [e] at ei; cases ei
    · exact hl i y w ei ew'
  · rcases hne i y _ w ei ew with ⟨rfl, rfl⟩ | ⟨q, ew'⟩
    · rw [e] at ei; cases ei
      exact ⟨a, o', v, hc, ho', hd', hav⟩
    · obtain ⟨a2, o2, v2, hl2, ho2, hd2, hw2⟩ := S.cel i y k w ei hk ew'
      have : a2 ≠ a := by
        rintro rfl
        have hm2 := mem_of_lookup hl2
        have : y ≠ x := by
          rintro rfl
          have hi : i < f.env.scope.names.length := (List.getElem?_eq_some_iff.mp ei).1
          have h1 : (f.env.scope.names.map (·.1))[i]? = some y := by rw [List.getElem?_map, ei]; rfl
          have h2 : (f.env.scope.names.map (·.1))[j]? = some y := by rw [List.getElem?_map, e]; rfl
          exact q ((List.getElem?_inj (by simpa using hi) S.fo.nd).mp (h1.trans h2.symm))
        obtain ⟨i1, hi1, e1⟩ := List.getElem_of_mem hm
        obtain ⟨i2, hi2, e2⟩ := List.getElem_of_mem hm2
        have a1 : (f.env.cells.map (·.2))[i1]? = some a2 := by rw [List.getElem?_map, List.getElem?_eq_getElem hi1, e1]; rfl
        have a2' : (f.env.cells.map (·.2))[i2]? = some a2 := by rw [List.getElem?_map, List.getElem?_eq_getElem hi2, e2]; rfl
        have := (List.getElem?_inj (by simpa using hi1) S.fo.cnd).mp (a1.trans a2'.symm)
        subst this
        rw [e1] at e2
        exact this (congrArg Prod.fst e2).symm
      exact ⟨a2, o2, v2, hl2, (hs.2 _ this).trans ho2, hd2, hw2⟩

/-! statements -/
theorem x_nil {Q : AF → Vs → Led → Prop} (h : Q .next vs H) : awF b A f vs H (execs [] f.env) Q := fun P G s S => wpAny_execs_nil ⟨.next, vs, H, rfl, S, h⟩
noncomputable abbrev KXc (b : Bs) (A : Around) (f : Fm) (r : List Stmt) (Q : AF → Vs → Led → Prop) : AF → Vs → Led → Prop := fun fl vs1 H1 => match fl with | .next => awF b A f vs1 H1 (execs r f.env) Q | fl => Q fl vs1 H1
theorem x_cons {st : Stmt} {r : List Stmt} {Q : AF → Vs → Led → Prop} (h : awF b A f vs H (exec st f.env) (KXc b A f r Q)) :
    awF b A f vs H (execs (st :: r) f.env) Q := fun P G s S => by
  refine wpAny_execs_cons (aw_use (h P G s S) (fun fl s1 x vs1 H1 hx S1 h1 => ?_))
  cases x with
  | next => cases hx; exact h1 P G s1 S1
  | brk => cases hx; exact ⟨.brk, vs1, H1, rfl, S1, h1⟩
  | cont => cases hx; exact ⟨.cont, vs1, H1, rfl, S1, h1⟩
  | ret v => obtain ⟨w, rfl, hw⟩ := hx; exact ⟨.ret v, vs1, H1, ⟨w, rfl, hw⟩, S1, h1⟩
noncomputable abbrev KRet (Q : AF → Vs → Led → Prop) : AV → Vs → Led → Prop := fun x vs1 H1 => Q (.ret x) vs1 H1
theorem x_ret {e : Expr} {pos : Pos} {Q : AF → Vs → Led → Prop} (h : awE b A f vs H (eval e f.env) (KRet Q)) : awF b A f vs H (exec (.Return (some e) pos) f.env) Q := fun P G s S =>
  wpAny_Return_some (aw_use (h P G s S) (fun v s1 x vs1 H1 hx S1 h1 => ⟨.ret x, vs1, H1, ⟨v, rfl, hx⟩, S1, h1⟩))
noncomputable abbrev KXif (b : Bs) (A : Around) (f : Fm) (body orelse : List Stmt) (Q : AF → Vs → Led → Prop) : Bool → Vs → Led → Prop := fun c vs1 H1 => (c = true → awF b A f vs1 H1 (execs body f.env) Q) ∧ (c = false → awF b A f vs1 H1 (execs orelse f.env) Q)
theorem x_if {test : Expr} {body orelse : List Stmt} {pos : Pos} {Q : AF → Vs → Led → Prop} (h : awB b A f vs H (isTrue test f.env (eval test f.env)) (KXif b A f body orelse Q)) : awF b A f vs H (exec (.If test body orelse pos) f.env) Q := fun P G s S =>
  wpAny_If (aw_use (h P G s S) (fun c s1 d vs1 H1 hd S1 h1 => by
    cases hd
    cases c with
    | true => exact h1.1 rfl P G s1 S1
    | false => exact h1.2 rfl P G s1 S1))
theorem x_brk {pos : Pos} {Q : AF → Vs → Led → Prop} (h : Q .brk vs H) : awF b A f vs H (exec (.Break pos) f.env) Q := fun P G s S => wpAny_Break ⟨.brk, vs, H, rfl, S, h⟩
theorem x_cont {pos : Pos} {Q : AF → Vs → Led → Prop} (h : Q .cont vs H) : awF b A f vs H (exec (.Continue pos) f.env) Q := fun P G s S => wpAny_Continue ⟨.cont, vs, H, rfl, S, h⟩
noncomputable abbrev KNx (Q : AF → Vs → Led → Prop) : AV → Vs → Led → Prop := fun _ vs1 H1 => Q .next vs1 H1
noncomputable abbrev KNu (Q : AF → Vs → Led → Prop) : Unit → Vs → Led → Prop := fun _ vs1 H1 => Q .next vs1 H1
theorem x_expr {e : Expr} {pos : Pos} {Q : AF → Vs → Led → Prop} (h : awE b A f vs H (eval e f.env) (KNx Q)) (hs : swapsWith e none pos.line f.env = pure false := by rfl) : awF b A f vs H (exec (.Expr e pos) f.env) Q := fun P G s S =>
  wpAny_Expr_any (aw_use (h P G s S) (fun v s1 x vs1 H1 hx S1 h1 => ⟨.next, vs1, H1, rfl, S1, h1⟩)) (by unfold interactive; rw [S.fo.kind]; rfl) hs
noncomputable abbrev KSt (b : Bs) (A : Around) (f : Fm) (x : Str) (Q : AF → Vs → Led → Prop) : AV → Vs → Led → Prop := fun av vs1 H1 => ∀ v, av.is v → awU b A f vs1 H1 (storeName f.env x v) (KNu Q)
theorem x_asg {x : Str} {p pos : Pos} {value : Expr} {Q : AF → Vs → Led → Prop} (h : awE b A f vs H (eval value f.env) (KSt b A f x Q))
    (hs : swapsWith value (some (.Name x p)) pos.line f.env = pure false := by rfl) : awF b A f vs H (exec (.Assign [.Name x p] value pos) f.env) Q := fun P G s S =>
  wpAny_Assign_Name (aw_use (h P G s S) (fun v s1 av vs1 H1 hav S1 h1 => aw_use (h1 v hav P G s1 S1) (fun _ s2 _ vs2 H2 _ S2 h2 => ⟨.next, vs2, H2, rfl, S2, h2⟩))) hs
noncomputable abbrev KIn2 (b : Bs) (A : Around) (f : Fm) (op : Operator) (Q : AV → Vs → Led → Prop) (x : AV) : AV → Vs → Led → Prop := fun y vs2 H2 => ∀ v w, x.is v → y.is w → awE b A f vs2 H2 (inplaceOp op v w) Q
noncomputable abbrev KIn (b : Bs) (A : Around) (f : Fm) (r : Expr) (op : Operator) (Q : AV → Vs → Led → Prop) : AV → Vs → Led → Prop := fun x vs1 H1 => awE b A f vs1 H1 (eval r f.env) (KIn2 b A f op Q x)
theorem x_aug {x : Str} {p pos : Pos} {op : Operator} {value : Expr} {Q : AF → Vs → Led → Prop} (h : awE b A f vs H (loadName f.env x) (KIn b A f value op (KSt b A f x Q))) : awF b A f vs H (exec (.AugAssign (.Name x p) op value pos) f.env) Q := fun P G s S =>
  wpAny_AugAssign_Name (aw_use (h P G s S) (fun v s1 a0 vs0 H0 h0 S1 h1 => aw_use (h1 P G s1 S1) (fun w s2 a1 vs1 H1 ha1 S2 h2 => wpAny_mono (h2 v w h0 ha1 P G s2 S2) (fun u s3 ⟨a2, vs2, H2, ha2, S3, h3⟩ =>
    aw_use (h3 u ha2 P G s3 S3) (fun _ s4 _ vs3 H3 _ S4 h4 => ⟨.next, vs3, H3, rfl, S4, h4⟩)) fun _ _ e => e)))
noncomputable abbrev KStL (j : Nat) (Q : AF → Vs → Led → Prop) : AV → Vs → Led → Prop := fun av vs1 H1 => Q .next (vs1.set j (some av)) H1
theorem x_asgL {ns : List (Str × NameKind)} {x : Str} {p pos : Pos} {value : Expr} {Q : AF → Vs → Led → Prop} (hn : f.env.scope.names = ns) (j : Nat) (e : ns[j]? = some (x, NameKind.local)) (h : awE b A f vs H (eval value f.env) (KStL j Q))
    (hs : swapsWith value (some (.Name x p)) pos.line f.env = pure false := by rfl) : awF b A f vs H (exec (.Assign [.Name x p] value pos) f.env) Q :=
  x_asg (aw_mono h fun av vs1 H1 hq v hav => u_loc hn j e hav hq) hs
theorem x_augL {ns : List (Str × NameKind)} {x : Str} {p pos : Pos} {op : Operator} {value : Expr} {Q : AF → Vs → Led → Prop} (hn : f.env.scope.names = ns) (j : Nat) (e : ns[j]? = some (x, NameKind.local)) (h : awE b A f vs H (loadName f.env x) (KIn b A f value op (KStL j Q))) :
    awF b A f vs H (exec (.AugAssign (.Name x p) op value pos) f.env) Q :=
  x_aug (aw_mono h fun a0 vs0 H0 h0 => aw_mono h0 fun a1 vs1 H1 h1 v w hv hw => aw_mono (h1 v w hv hw) fun a2 vs2 H2 hq u hu => u_loc hn j e hu hq)
theorem n_loc {ns : List (Str × NameKind)} {x : Str} {av : AV} {Q : AV → Vs → Led → Prop} (hn : f.env.scope.names = ns) (j : Nat) (e : ns[j]? = some (x, NameKind.local)) (hv : vs[j]? = some (some av))
    (h : Q av vs H) : awE b A f vs H (loadName f.env x) Q := fun P G s S => by
  subst hn
  obtain ⟨m, hm, hl⟩ := S.loc
  obtain ⟨v, hx, hav⟩ := hl j x av e hv
  exact wpAny_loadName_local S.fo.kind (S.fo.kindOf e) hm hx ⟨av, vs, H, hav, S, h⟩
theorem u_name {x : Str} {p : Pos} {v : Value} {Q : Unit → Vs → Led → Prop} (h : awU b A f vs H (storeName f.env x v) Q) : awU b A f vs H (assign (.Name x p) f.env v) Q := fun P G s S =>
  wpAny_assign_Name (h P G s S)

/-! loops -/
theorem wpAny_false {α : Type} {Mm : Model} {A : Around} {t : Sem α} {Q : α → Shared → Prop} {E : Value → Shared → Prop} {s : Shared} (h : wpAny Mm A t Q (fun _ _ => False) s) : wpAny Mm A t Q E s := wpAny_mono h (fun _ _ q => q) fun _ _ e => e.elim

/-- the turns of a for loop over known items; J says what must hold of the ledger at the loop's head -/
noncomputable def AFor (b : Bs) (A : Around) (f : Fm) (J : Led → Prop) (target : Expr) (body : List Stmt) : List AV → Vs → Led → (AF → Vs → Led → Prop) → Prop
  | [], vs, H, Q => J H ∧ Q .next vs H
  | x :: xs, vs, H, Q => J H ∧ ∀ v, x.is v → awU b A f vs H (assign target f.env v) fun _ vs1 H1 => awF b A f vs1 H1 (execs body f.env) fun fl vs2 H2 => match fl with
      | .next => AFor b A f J target body xs vs2 H2 Q
      | .cont => AFor b A f J target body xs vs2 H2 Q
      | .brk => Q .next vs2 H2
      | .ret w => Q (.ret w) vs2 H2
theorem AFor.head {b : Bs} {A : Around} {f : Fm} {J : Led → Prop} {target : Expr} {body : List Stmt} {xs : List AV} {vs : Vs} {H : Led} {Q : AF → Vs → Led → Prop} (h : AFor b A f J target body xs vs H Q) : J H := by
  cases xs with
  | nil => exact h.1
  | cons => exact h.1

/-- an iterator at I: what is known of it before its i-th turn -/
structure Iter (b : Bs) (A : Around) (I : Addr) (J : Led → Prop) (xs : List AV) (IP : Nat → Obj → Prop) : Prop where
  item : ∀ i x P G H s o, xs[i]? = some x → J H → SH b P G H s → I ∉ keys H → s.heap.get? I = some o → IP i o →
    wpAny (M b) A (pyNext (.ref I)) (fun r s' => ∃ v o' t, r = some v ∧ x.is v ∧ s'.heap.get? I = some o' ∧ IP (i + 1) o' ∧ Heap.SameBut I s.heap s'.heap ∧ s' = { s with heap := s'.heap, toks := t }) (fun _ _ => False) s
  done : ∀ P G H s o, J H → SH b P G H s → I ∉ keys H → s.heap.get? I = some o → IP xs.length o →
    wpAny (M b) A (pyNext (.ref I)) (fun r s' => ∃ t, r = none ∧ Heap.ExtBut I s.heap s'.heap ∧ s' = { s with heap := s'.heap, toks := t }) (fun _ _ => False) s
  self : ∀ (i : Nat) (o : Obj) (s : Shared), s.heap.get? I = some o → IP i o → wpAny (M b) A (pyIter (.ref I)) (fun r s' => r = .ref I ∧ s' = s) (fun _ _ => False) s

theorem St.but {P : Prot} {G : GProt} {s : Shared} (S : St b P G f vs H s) {x : Addr} {h' : Heap} {t : Nat} (hx : x ∉ keys H) (hP : ∀ o, ¬ P x o) (hL : x ≠ f.env.locals) (hc : ∀ p ∈ f.env.cells, x ≠ p.2) (hs : Heap.ExtBut x s.heap h') :
    St b P G f vs H { s with heap := h', toks := t } := by
  refine S.up (S.down.but hx (fun o q => q.elim (hP o) fun q => ?_) hs)
  rcases q.1 with e | ⟨p, hp, e⟩
  · exact hL e
  · exact hc p hp e
theorem St.hide {P : Prot} {G : GProt} {s : Shared} (S : St b P G f vs H s) {x : Addr} {o : Obj} (hx : x ∉ keys H) (hL : x ≠ f.env.locals) (hc : ∀ p ∈ f.env.cells, x ≠ p.2) (ho : s.heap.get? x = some o) :
    St b (fun a q => P a q ∨ (a = x ∧ q = o)) G f vs H s :=
  ⟨S.fo, S.sh.protect fun a q e => by obtain ⟨rfl, rfl⟩ := e; exact ⟨ho, hx⟩, fun q e => e.elim (S.La q) fun e => hL e.1.symm, S.Lk, S.ck, fun hown p hp q e => e.elim (S.cown hown p hp q) fun e => hc p hp e.1.symm, S.cdef, S.loc, S.cel⟩
theorem St.show {P : Prot} {G : GProt} {s : Shared} {x : Addr} {o : Obj} (hb : ∀ a q, b.h₀.get? a = some q → P a q) (S : St b (fun a q => P a q ∨ (a = x ∧ q = o)) G f vs H s) : St b P G f vs H s ∧ s.heap.get? x = some o ∧ x ∉ keys H :=
  ⟨⟨S.fo, S.sh.weaken hb (fun _ _ e => .inl e) fun _ _ e => e, fun q e => S.La q (.inl e), S.Lk, S.ck, fun hown p hp q e => S.cown hown p hp q (.inl e), S.cdef, S.loc, S.cel⟩, S.sh.keep _ _ (.inr ⟨rfl, rfl⟩), fun q => S.sh.apart _ q o (.inr ⟨rfl, rfl⟩)⟩

noncomputable def FlowEnd (b : Bs) (P : Prot) (G : GProt) (f : Fm) (Q : AF → Vs → Led → Prop) (r : Result) (s' : Shared) : Prop := match r with
  | .ok fl => ∃ x vs' H', AF.is x fl ∧ St b P G f vs' H' s' ∧ Q x vs' H'
  | .error _ => False

theorem c_for {I : Addr} {J : Led → Prop} {xs : List AV} {IP : Nat → Obj → Prop} {x : Str} {px : Pos} {body : List Stmt} {Q : AF → Vs → Led → Prop} {P : Prot} {G : GProt} {s : Shared} {o : Obj}
    (T : Iter b A I J xs IP) (S : St b P G f vs H s) (hI : I ∉ keys H) (hP : ∀ o, ¬ P I o) (hL : I ≠ f.env.locals) (hc : ∀ p ∈ f.env.cells, I ≠ p.2) (ho : s.heap.get? I = some o) (h0 : IP 0 o)
    (h : AFor b A f J (.Name x px) body xs vs H Q) : codeAny (M b) A (.forLoop (.Name x px) (.ref I) body [] f.env) (FlowEnd b P G f Q) s := by
  refine codeAny_forLoop (fun n s => ∃ i vs H o, n = xs.length - i ∧ i ≤ xs.length ∧ St b P G f vs H s ∧ I ∉ keys H ∧ s.heap.get? I = some o ∧ IP i o ∧ AFor b A f J (.Name x px) body (xs.drop i) vs H Q) ?_ xs.length
    ⟨0, vs, H, o, rfl, Nat.zero_le _, S, hI, ho, h0, h⟩
  rintro n s ⟨i, vs, H, o, rfl, hi, S, hI, ho, hip, h⟩
  have nothere : ∀ o, ¬ (P I o ∨ frameP f s I o) := fun o q => q.elim (hP o) fun q => by
    rcases q.1 with e | ⟨p, hp, e⟩
    · exact hL e
    · exact hc p hp e
  by_cases hlt : i < xs.length
  · obtain ⟨y, hy⟩ : ∃ y, xs[i]? = some y := ⟨xs[i], List.getElem?_eq_getElem hlt⟩
    have hd : xs.drop i = y :: xs.drop (i + 1) := by
      rw [List.drop_eq_getElem_cons hlt]
      rw [List.getElem?_eq_getElem hlt] at hy
      cases hy; rfl
    rw [hd] at h
    refine wpAny_false (wpAny_mono (T.item i y _ G H s o hy h.1 S.down hI ho hip) (fun r s1 ⟨v, o', t, hr, hv, ho', hip', hs, e⟩ => ?_) fun _ _ e => e)
    subst hr
    rw [e] at ho' ⊢
    have S1 : St b P G f vs H { s with heap := s1.heap, toks := t } := S.but hI hP hL hc hs.extBut
    have S2 := S1.hide hI hL hc ho'
    refine wpAny_false (aw_use (h.2 v hv _ G _ S2) (fun _ s2 _ vs1 H1 _ S3 h1 => ?_))
    refine wpAny_false (aw_use (h1 _ G _ S3) (fun fl s3 fx vs2 H2 hf S4 h2 => ?_))
    obtain ⟨S5, ho5, hI5⟩ := S4.show S.sh.base
    cases fx with
    | next => cases hf; exact ⟨xs.length - (i + 1), by omega, i + 1, vs2, H2, o', rfl, hlt, S5, hI5, ho5, hip', h2⟩
    | cont => cases hf; exact ⟨xs.length - (i + 1), by omega, i + 1, vs2, H2, o', rfl, hlt, S5, hI5, ho5, hip', h2⟩
    | brk => cases hf; exact ⟨.next, vs2, H2, rfl, S5, h2⟩
    | ret w => obtain ⟨w', rfl, hw⟩ := hf; exact ⟨.ret w, vs2, H2, ⟨w', rfl, hw⟩, S5, h2⟩
  · obtain rfl : i = xs.length := by omega
    rw [List.drop_length] at h
    refine wpAny_false (wpAny_mono (T.done _ G H s o h.1 S.down hI ho hip) (fun r s1 ⟨t, hr, hs, e⟩ => ?_) fun _ _ e => e)
    subst hr
    rw [e]
    have S1 : St b P G f vs H { s with heap := s1.heap, toks := t } := S.but hI hP hL hc hs
    exact wpAny_execs_nil ⟨.next, vs, H, rfl, S1, h.2⟩

/-- pyIter of xv hands on a new iterator over xs -/
noncomputable def HasIter (b : Bs) (A : Around) (xv : AV) (H : Led) (J : Led → Prop) (xs : List AV) : Prop := ∀ v, xv.is v → ∀ P G s, SH b P G H s →
  wpAny (M b) A (pyIter v) (fun it s' => ∃ I IP o, it = .ref I ∧ Iter b A I J xs IP ∧ SH b P G H s' ∧ I ∉ keys H ∧ (∀ o, ¬ P I o) ∧ s'.heap.get? I = some o ∧ IP 0 o) (fun _ _ => False) s

noncomputable abbrev KFo (b : Bs) (A : Around) (f : Fm) (x : Str) (px : Pos) (body : List Stmt) (Q : AF → Vs → Led → Prop) : AV → Vs → Led → Prop := fun xv vs1 H1 => ∃ J xs, HasIter b A xv H1 J xs ∧ AFor b A f J (.Name x px) body xs vs1 H1 Q
theorem x_for {x : Str} {px pos : Pos} {iter : Expr} {body : List Stmt} {Q : AF → Vs → Led → Prop} (h : awE b A f vs H (eval iter f.env) (KFo b A f x px body Q))
    (hs : ∀ x, foldedSetIterable iter f.env x = pure x := by intro _; rfl) : awF b A f vs H (exec (.For (.Name x px) iter body [] pos) f.env) Q := fun P G s S => by
  refine wpAny_For (aw_use (h P G s S) (fun v s1 xv vs1 H1 hv S1 hr9 => ?_)) hs
  obtain ⟨J, xs, hit, hl⟩ := hr9
  refine wpAny_mono (hit v hv _ G s1 S1.down) (fun it s2 ⟨I, IP, o, e, T, D, hI, hP, ho, h0⟩ => ?_) fun _ _ e => e
  subst e
  obtain ⟨m, ⟨oL, es, ep, hL, _⟩, _⟩ := S1.loc
  refine codeAny_mono (c_for T (S1.up D) hI (fun o q => hP o (.inl q)) (fun q => hP oL (.inr ⟨.inl q, by rw [q]; exact hL⟩)) (fun p hp q => ?_) ho h0 hl) fun r s' hr => ?_
  · obtain ⟨o', v', ho', _⟩ := S1.cdef p hp
    exact hP o' (.inr ⟨.inr ⟨p, hp, q⟩, by rw [q]; exact ho'⟩)
  · cases r with
    | ok fl => exact hr
    | error e => exact hr.elim

end

section
variable {b : Bs} {A : Around} {f : Fm} {vs : Vs} {H : Led}
/-! iterators -/
theorem hasIter_list (hh : A.handled = none) {a : Addr} {xs : List AV} (hm : (a, AO.list xs) ∈ H) : HasIter b A (.ref a) H (fun H' => (a, AO.list xs) ∈ H') xs := fun v hv P G s S => by
  cases hv
  obtain ⟨ws, hL, h2⟩ := (S.led _ hm).isList
  refine wpAny_pyIter_list hL ⟨_, fun i o => o.cls = .type "list_iterator" ∧ o.data = .fields #[.ref a, .int i 0], _, rfl, ⟨?_, ?_, ?_⟩, S.push _ _, S.fresh.1, S.fresh.2, Heap.get?_push_size _ rfl, rfl, rfl⟩
  · intro i x P' G' H' s' o hx hJ S' hI ho hip
    obtain ⟨ws', hL', h2'⟩ := (S'.led _ hJ).isList
    obtain ⟨v, hv, hxv⟩ := h2'.get hx
    refine wpAny_pyNext_list_item (l := a) (i := i) (x := v) ⟨o, ho, hip.1, hip.2⟩ hL' (by simpa using hv) fun h' ⟨o', ho', hc', hd'⟩ hs => ?_
    exact ⟨v, o', s'.toks, rfl, hxv, ho', ⟨hc', hd'⟩, hs, rfl⟩
  · intro P' G' H' s' o hJ S' hI ho hip
    obtain ⟨ws', hL', h2'⟩ := (S'.led _ hJ).isList
    refine wpAny_pyNext_list_end hh (l := a) (i := xs.length) ⟨o, ho, hip.1, hip.2⟩ hL' (by simp [h2'.length]) fun h' hs => ?_
    exact ⟨s'.toks, rfl, hs, rfl⟩
  · intro i o s' ho hip
    exact wpAny_pyIter_listiter (l := a) (i := i) ⟨o, ho, hip.1, hip.2⟩ ⟨rfl, rfl⟩

/-- the signs of a text, one by one -/
noncomputable def signs (l : List Nat) : List AV := l.map fun c => .str [c]
theorem hasIter_str (hh : A.handled = none) {l : List Nat} (hl : l.all (· < 128) = true) : HasIter b A (.str l) H (fun _ => True) (signs l) := fun v hv P G s S => by
  obtain ⟨t, rfl⟩ := hv
  refine wpAny_pyIter_ascii (by simpa using hl) ⟨_, fun i o => o.cls = .type "str_ascii_iterator" ∧ o.data = .fields #[.str ⟨l.toArray⟩ t, .int i 0], _, rfl, ⟨?_, ?_, ?_⟩, S.push _ _, S.fresh.1, S.fresh.2, Heap.get?_push_size _ rfl, rfl, rfl⟩
  · intro i x P' G' H' s' o hx hJ S' hI ho hip
    obtain ⟨c, hc, rfl⟩ : ∃ c, l[i]? = some c ∧ x = .str [c] := by
      rw [signs, List.getElem?_map] at hx
      cases hc : l[i]? with
      | none => rw [hc] at hx; cases hx
      | some c => rw [hc] at hx; cases hx; exact ⟨c, rfl, rfl⟩
    refine wpAny_pyNext_ascii_item (x := ⟨l.toArray⟩) (t := t) (i := i) (c := c) ⟨o, ho, hip.1, hip.2⟩ (by simpa using hc) fun h' ⟨o', ho', hc', hd'⟩ hs => ?_
    exact ⟨_, o', s'.toks + 1, rfl, ⟨_, rfl⟩, ho', ⟨hc', hd'⟩, hs, rfl⟩
  · intro P' G' H' s' o hJ S' hI ho hip
    refine wpAny_pyNext_ascii_end hh (x := ⟨l.toArray⟩) (t := t) (i := (signs l).length) ⟨o, ho, hip.1, hip.2⟩ (by simp [signs]) fun h' hs => ?_
    exact ⟨s'.toks, rfl, hs, rfl⟩
  · intro i o s' ho hip
    exact wpAny_pyIter_striter_ascii (x := ⟨l.toArray⟩) (t := t) (i := i) ⟨o, ho, hip.1, hip.2⟩ ⟨rfl, rfl⟩

noncomputable def aoRange (a b c : Int) : AO := .raw fun o => ∃ t u v, o = { cls := .type "range", dict := none, data := .fields #[.int a t, .int b u, .int c v], slots := #[] }
noncomputable def rangeN (a c : Int) (n : Nat) : List AV := (List.range n).map fun (i : Nat) => AV.int (a + (i : Int) * c)
theorem rangeN_length (a c : Int) (n : Nat) : (rangeN a c n).length = n := by simp [rangeN]
theorem rangeN_get {a c : Int} {n i : Nat} {x : AV} (h : (rangeN a c n)[i]? = some x) : i < n ∧ x = .int (a + i * c) := by
  rw [rangeN, List.getElem?_map] at h
  cases hc : (List.range n)[i]? with
  | none => rw [hc] at h; cases h
  | some k =>
    rw [hc] at h; cases h
    have := List.getElem?_eq_some_iff.mp hc
    obtain ⟨h1, h2⟩ := this
    simp at h1 h2
    subst h2
    exact ⟨h1, rfl⟩
theorem hasIter_rangeN (hh : A.handled = none) {r : Addr} {lo hi c : Int} {n : Nat} (hm : (r, aoRange lo hi c) ∈ H) (hs : Builtin.Range.small lo hi c = true) (hsz : Builtin.Range.rangeSize lo hi c = (n : Int)) :
    HasIter b A (.ref r) H (fun _ => True) (rangeN lo c n) := fun v hv P G s S => by
  cases hv
  obtain ⟨o, ho, t, u, v, e⟩ := S.led _ hm
  subst e
  refine wpAny_pyIter_range ho hs ⟨_, fun i o => o = { cls := .type "range_iterator", dict := none, data := .fields #[rawInt (lo + i * c), rawInt ((n : Int) - i), rawInt c], slots := #[] }, _, rfl, ⟨?_, ?_, ?_⟩, S.push _ _, S.fresh.1, S.fresh.2, Heap.get?_push_size _ rfl, ?_⟩
  · intro i x P' G' H' s' o hx hJ S' hI ho hip
    obtain ⟨hlt, rfl⟩ := rangeN_get hx
    subst hip
    refine wpAny_pyNext_range_item (x := lo + i * c) (left := (n : Int) - i) (step := c) ho (by omega) fun h' ho' hs => ?_
    refine ⟨_, _, s'.toks + 1, rfl, ⟨_, rfl⟩, ho', ?_, hs, rfl⟩
    rw [show lo + (i : Int) * c + c = lo + ((i + 1 : Nat) : Int) * c by rw [Int.natCast_add, Int.add_mul]; simp [Int.add_assoc], show (n : Int) - (i : Int) - 1 = (n : Int) - ((i + 1 : Nat) : Int) by omega]
  · intro P' G' H' s' o hJ S' hI ho hip
    subst hip
    refine wpAny_pyNext_range_end hh (x := lo + ((rangeN lo c n).length : Int) * c) (left := (n : Int) - ((rangeN lo c n).length : Int)) (step := c) ho (by rw [rangeN_length]; omega) fun h' hs => ?_
    exact ⟨s'.toks, rfl, hs, rfl⟩
  · intro i o s' ho hip
    subst hip
    exact wpAny_pyIter_rangeiter (x := lo + i * c) (left := (n : Int) - i) (step := c) ho ⟨rfl, rfl⟩
  · rw [hsz]
    show _ = _
    congr 4 <;> simp
noncomputable def rangeL (a b : Int) : List AV := rangeN a 1 (b - a).toNat
theorem hasIter_range (hh : A.handled = none) {r : Addr} {lo hi : Int} (hm : (r, aoRange lo hi 1) ∈ H) (h1 : -(2 ^ 62) ≤ lo) (h2 : lo < 2 ^ 62) (h3 : -(2 ^ 62) ≤ hi) (h4 : hi < 2 ^ 62) :
    HasIter b A (.ref r) H (fun _ => True) (rangeL lo hi) :=
  hasIter_rangeN hh hm (small_one h1 h2 h3 h4) (by rw [rangeSize_one]; split <;> omega)
end

section
variable {b : Bs} {A : Around} {f : Fm} {vs : Vs} {H : Led}
theorem St.tok {P : Prot} {G : GProt} {s : Shared} (S : St b P G f vs H s) (t : Nat) : St b P G f vs H { s with toks := t } := S.up (S.down.tok t)
theorem b_add {i j : Int} {Q : AV → Vs → Led → Prop} (h : Q (.int (i + j)) vs H) : ∀ v w, (AV.int i).is v → (AV.int j).is w → awE b A f vs H (binaryOp .Add v w) Q := by
  rintro v w ⟨t, rfl⟩ ⟨u, rfl⟩ P G s S
  with_reducible refine PySem.P.add_int ?_
  exact ⟨.int _, vs, H, ⟨_, rfl⟩, S.tok _, h⟩
theorem b_sub {i j : Int} {Q : AV → Vs → Led → Prop} (h : Q (.int (i - j)) vs H) : ∀ v w, (AV.int i).is v → (AV.int j).is w → awE b A f vs H (binaryOp .Sub v w) Q := by
  rintro v w ⟨t, rfl⟩ ⟨u, rfl⟩ P G s S
  with_reducible refine PySem.P.sub_int ?_
  exact ⟨.int _, vs, H, ⟨_, rfl⟩, S.tok _, h⟩
theorem b_and {i j : Int} {Q : AV → Vs → Led → Prop} (h : Q (.int (Builtin.bitAnd i j)) vs H) : ∀ v w, (AV.int i).is v → (AV.int j).is w → awE b A f vs H (binaryOp .BitAnd v w) Q := by
  rintro v w ⟨t, rfl⟩ ⟨u, rfl⟩ P G s S
  with_reducible refine PyProof.Rows.and_int ?_
  exact ⟨.int _, vs, H, ⟨_, rfl⟩, S.tok _, h⟩
theorem i_add {i j : Int} {Q : AV → Vs → Led → Prop} (h : Q (.int (i + j)) vs H) : ∀ v w, (AV.int i).is v → (AV.int j).is w → awE b A f vs H (inplaceOp .Add v w) Q := by
  rintro v w ⟨t, rfl⟩ ⟨u, rfl⟩ P G s S
  with_reducible refine PySem.P.iadd_int ?_
  exact ⟨.int _, vs, H, ⟨_, rfl⟩, S.tok _, h⟩
theorem i_sub {i j : Int} {Q : AV → Vs → Led → Prop} (h : Q (.int (i - j)) vs H) : ∀ v w, (AV.int i).is v → (AV.int j).is w → awE b A f vs H (inplaceOp .Sub v w) Q := by
  rintro v w ⟨t, rfl⟩ ⟨u, rfl⟩ P G s S
  with_reducible refine PySem.P.isub_int ?_
  exact ⟨.int _, vs, H, ⟨_, rfl⟩, S.tok _, h⟩
theorem b_mul {i j : Int} {Q : AV → Vs → Led → Prop} (hm : IntMulOk i j) (h : Q (.int (i * j)) vs H) : ∀ v w, (AV.int i).is v → (AV.int j).is w → awE b A f vs H (binaryOp .Mult v w) Q := by
  rintro v w ⟨t, rfl⟩ ⟨u, rfl⟩ P G s S
  with_reducible refine PySem.P.mul_int ?_ hm
  exact ⟨.int _, vs, H, ⟨_, rfl⟩, S.tok _, h⟩
theorem b_mod {i j : Int} {Q : AV → Vs → Led → Prop} (hj : 0 < j) (h : Q (.int (i % j)) vs H) : ∀ v w, (AV.int i).is v → (AV.int j).is w → awE b A f vs H (binaryOp .Mod v w) Q := by
  rintro v w ⟨t, rfl⟩ ⟨u, rfl⟩ P G s S
  with_reducible refine PyProof.Rows.mod_int (by omega) ?_
  exact ⟨.int _, vs, H, ⟨_, rfl⟩, S.tok _, by rw [Int.fmod_eq_emod_of_nonneg _ (by omega)]; exact h⟩
theorem b_div {i j : Int} {Q : AV → Vs → Led → Prop} (hj : 0 < j) (hp : Builtin.divisionGoesByPylong i j = false) (h : Q (.int (i / j)) vs H) : ∀ v w, (AV.int i).is v → (AV.int j).is w → awE b A f vs H (binaryOp .FloorDiv v w) Q := by
  rintro v w ⟨t, rfl⟩ ⟨u, rfl⟩ P G s S
  with_reducible refine PyProof.Rows.floordiv_int (by omega) ?_ (.inl hp)
  exact ⟨.int _, vs, H, ⟨_, rfl⟩, S.tok _, by rw [Int.fdiv_eq_ediv_of_nonneg _ (by omega)]; exact h⟩
theorem str_app (l m : List Nat) : (⟨l.toArray⟩ ++ ⟨m.toArray⟩ : Str) = ⟨(l ++ m).toArray⟩ := by
  show (⟨l.toArray ++ m.toArray⟩ : Str) = _
  simp
theorem b_cat {l m : List Nat} {Q : AV → Vs → Led → Prop} (hz : l.length + m.length ≤ 2 ^ 24) (h : Q (.str (l ++ m)) vs H) : ∀ v w, (AV.str l).is v → (AV.str m).is w → awE b A f vs H (binaryOp .Add v w) Q := by
  rintro v w ⟨t, rfl⟩ ⟨u, rfl⟩ P G s S
  with_reducible refine PyProof.Rows.add_str ?_ ?_
  rotate_left
  · show l.toArray.size + m.toArray.size ≤ sizeLine
    simp only [List.size_toArray]; exact hz
  exact fun t' tk => ⟨.str _, vs, H, ⟨t', by rw [str_app]⟩, S.tok _, h⟩
theorem i_cat {l m : List Nat} {Q : AV → Vs → Led → Prop} (hz : l.length + m.length ≤ 2 ^ 24) (h : Q (.str (l ++ m)) vs H) : ∀ v w, (AV.str l).is v → (AV.str m).is w → awE b A f vs H (inplaceOp .Add v w) Q := by
  rintro v w ⟨t, rfl⟩ ⟨u, rfl⟩ P G s S
  with_reducible refine PyProof.Rows.iadd_str ?_ ?_
  rotate_left
  · show l.toArray.size + m.toArray.size ≤ sizeLine
    simp only [List.size_toArray]; exact hz
  exact fun t' tk => ⟨.str _, vs, H, ⟨t', by rw [str_app]⟩, S.tok _, h⟩
theorem c_lt {i j : Int} {Q : AV → Vs → Led → Prop} (h : Q (.bool (decide (i < j))) vs H) : ∀ v w, (AV.int i).is v → (AV.int j).is w → awE b A f vs H (compareOp .Lt v w) Q := by
  rintro v w ⟨t, rfl⟩ ⟨u, rfl⟩ P G s S
  with_reducible refine PySem.P.lt_int ?_
  exact ⟨.bool _, vs, H, rfl, S, h⟩
theorem c_le {i j : Int} {Q : AV → Vs → Led → Prop} (h : Q (.bool (decide (i ≤ j))) vs H) : ∀ v w, (AV.int i).is v → (AV.int j).is w → awE b A f vs H (compareOp .LtE v w) Q := by
  rintro v w ⟨t, rfl⟩ ⟨u, rfl⟩ P G s S
  with_reducible refine PySem.P.le_int ?_
  exact ⟨.bool _, vs, H, rfl, S, h⟩
theorem c_gt {i j : Int} {Q : AV → Vs → Led → Prop} (h : Q (.bool (decide (i > j))) vs H) : ∀ v w, (AV.int i).is v → (AV.int j).is w → awE b A f vs H (compareOp .Gt v w) Q := by
  rintro v w ⟨t, rfl⟩ ⟨u, rfl⟩ P G s S
  with_reducible refine PySem.P.gt_int ?_
  exact ⟨.bool _, vs, H, rfl, S, h⟩
theorem c_ge {i j : Int} {Q : AV → Vs → Led → Prop} (h : Q (.bool (decide (i ≥ j))) vs H) : ∀ v w, (AV.int i).is v → (AV.int j).is w → awE b A f vs H (compareOp .GtE v w) Q := by
  rintro v w ⟨t, rfl⟩ ⟨u, rfl⟩ P G s S
  with_reducible refine PySem.P.ge_int ?_
  exact ⟨.bool _, vs, H, rfl, S, h⟩
theorem c_eq {i j : Int} {Q : AV → Vs → Led → Prop} (h : Q (.bool (i == j)) vs H) : ∀ v w, (AV.int i).is v → (AV.int j).is w → awE b A f vs H (compareOp .Eq v w) Q := by
  rintro v w ⟨t, rfl⟩ ⟨u, rfl⟩ P G s S
  with_reducible refine PySem.P.eq_int ?_
  exact ⟨.bool _, vs, H, rfl, S, h⟩
theorem c_ne {i j : Int} {Q : AV → Vs → Led → Prop} (h : Q (.bool (i != j)) vs H) : ∀ v w, (AV.int i).is v → (AV.int j).is w → awE b A f vs H (compareOp .NotEq v w) Q := by
  rintro v w ⟨t, rfl⟩ ⟨u, rfl⟩ P G s S
  with_reducible refine PySem.P.ne_int ?_
  exact ⟨.bool _, vs, H, rfl, S, h⟩
theorem c_eqs {l m : List Nat} {Q : AV → Vs → Led → Prop} (h : Q (.bool (l == m)) vs H) : ∀ v w, (AV.str l).is v → (AV.str m).is w → awE b A f vs H (compareOp .Eq v w) Q := by
  rintro v w ⟨t, rfl⟩ ⟨u, rfl⟩ P G s S
  with_reducible refine PySem.P.eq_str ?_
  exact ⟨.bool _, vs, H, rfl, S, h⟩
theorem c_nes {l m : List Nat} {Q : AV → Vs → Led → Prop} (h : Q (.bool (l != m)) vs H) : ∀ v w, (AV.str l).is v → (AV.str m).is w → awE b A f vs H (compareOp .NotEq v w) Q := by
  rintro v w ⟨t, rfl⟩ ⟨u, rfl⟩ P G s S
  with_reducible refine PySem.P.ne_str ?_
  exact ⟨.bool _, vs, H, rfl, S, h⟩
theorem c_lts {l m : List Nat} {Q : AV → Vs → Led → Prop} (h : Q (.bool (decide (l < m))) vs H) : ∀ v w, (AV.str l).is v → (AV.str m).is w → awE b A f vs H (compareOp .Lt v w) Q := by
  rintro v w ⟨t, rfl⟩ ⟨u, rfl⟩ P G s S
  with_reducible refine PySem.P.lt_str ?_
  exact ⟨.bool _, vs, H, rfl, S, h⟩
theorem c_ins {l : List Nat} {c : Nat} {Q : AV → Vs → Led → Prop} (h : Q (.bool (decide (c ∈ l))) vs H) : ∀ v w, (AV.str [c]).is v → (AV.str l).is w → awE b A f vs H (compareOp .In v w) Q := by
  rintro v w ⟨t, rfl⟩ ⟨u, rfl⟩ P G s S
  with_reducible refine PyProof.Rows.in_str ?_
  refine ⟨.bool _, vs, H, rfl, S, ?_⟩
  rw [show (⟨[c].toArray⟩ : Str) = ⟨#[c]⟩ from rfl, StrLaws.found_one]; exact h
theorem c_notins {l : List Nat} {c : Nat} {Q : AV → Vs → Led → Prop} (h : Q (.bool (!decide (c ∈ l))) vs H) : ∀ v w, (AV.str [c]).is v → (AV.str l).is w → awE b A f vs H (compareOp .NotIn v w) Q := by
  rintro v w ⟨t, rfl⟩ ⟨u, rfl⟩ P G s S
  with_reducible refine PyProof.Rows.notIn_str ?_
  refine ⟨.bool _, vs, H, rfl, S, ?_⟩
  rw [show (⟨[c].toArray⟩ : Str) = ⟨#[c]⟩ from rfl, StrLaws.found_one]; exact h
noncomputable def isNone : AV → Bool
  | .none => true
  | _ => false
theorem isNone_is {x : AV} {v : Value} (h : x.is v) (hc : ∀ w, x ≠ .con w) : (v == .none) = isNone x := by
  cases x with
  | none => cases h; rfl
  | bool => cases h; rfl
  | int => obtain ⟨_, rfl⟩ := h; rfl
  | str => obtain ⟨_, rfl⟩ := h; rfl
  | ref => cases h; rfl
  | con w => exact absurd rfl (hc w)
theorem c_isnone {x : AV} {Q : AV → Vs → Led → Prop} (hc : ∀ w, x ≠ .con w) (h : Q (.bool (isNone x)) vs H) : ∀ v w, x.is v → AV.none.is w → awE b A f vs H (compareOp .Is v w) Q := by
  intro v w hv hw P G s S
  cases hw
  with_reducible refine PySem.is_none ?_
  exact ⟨.bool _, vs, H, rfl, S, by rw [isNone_is hv hc]; exact h⟩
theorem c_isb {x y : Bool} {Q : AV → Vs → Led → Prop} (h : Q (.bool (x == y)) vs H) : ∀ v w, (AV.bool x).is v → (AV.bool y).is w → awE b A f vs H (compareOp .Is v w) Q := by
  intro v w hv hw P G s S
  cases hv; cases hw
  with_reducible refine PyProof.Rows.is_bool ?_
  exact ⟨.bool _, vs, H, rfl, S, h⟩
theorem c_isnotb {x y : Bool} {Q : AV → Vs → Led → Prop} (h : Q (.bool (x != y)) vs H) : ∀ v w, (AV.bool x).is v → (AV.bool y).is w → awE b A f vs H (compareOp .IsNot v w) Q := by
  intro v w hv hw P G s S
  cases hv; cases hw
  with_reducible refine PyProof.Rows.isnot_bool ?_
  exact ⟨.bool _, vs, H, rfl, S, h⟩
theorem o_neg {i : Int} {Q : AV → Vs → Led → Prop} (h : Q (.int (-i)) vs H) : ∀ v, (AV.int i).is v → awE b A f vs H (unaryOp .USub v) Q := by
  rintro v ⟨t, rfl⟩ P G s S
  with_reducible refine PySem.P.neg_int ?_
  exact ⟨.int _, vs, H, ⟨_, rfl⟩, S.tok _, h⟩
end

section
variable {b : Bs} {A : Around} {f : Fm} {vs : Vs} {H : Led}

/-- a callee that callWith hands straight on -/
noncomputable def KeepOk (b : Bs) (fv : AV) : Prop := match fv with
  | .con (.builtin _) => True
  | .con (.type _) => True
  | .ref a => ∃ o fd, b.h₀.get? a = some o ∧ o.data = .func fd
  | _ => False
theorem KeepOk.looks {b : Bs} {fv : AV} (h : KeepOk b fv) {g : Value} (hg : fv.is g) {M : Model} (hp : Heap) (hb : ∀ a o, b.h₀.get? a = some o → hp.get? a = some o) :
    ∃ k, (k = Keeper.frame ∨ k = Keeper.machine ∨ k = Keeper.boundFrame) ∧ Looks M hp (keeperOf g) k := by
  unfold KeepOk at h
  split at h
  · cases hg; exact ⟨.machine, .inr (.inl rfl), Looks.of_pure rfl⟩
  · cases hg; exact ⟨.machine, .inr (.inl rfl), Looks.of_pure rfl⟩
  · cases hg
    obtain ⟨o, fd, ho, hd⟩ := h
    refine ⟨.frame, .inl rfl, ?_⟩
    show Looks M hp (load _ >>= _) _
    refine (Looks.ld (part := none) (hb _ _ ho)).andThen ?_
    simp only [hd]
    exact .now
  · exact h.elim

theorem spliced_eq (pos : Pos) (es : List Expr) (env : Env) : True := trivial

theorem k_call {fv : AV} {g : Value} {pos : Pos} {e : Expr} {r : List Expr} {Q : AV → Vs → Led → Prop} (hk : KeepOk b fv) (hg : fv.is g)
    (h : awL b A f vs H (spliced (backTo pos (starEach (e :: r) f.env))) fun xs vs2 H2 => ∀ ws, Is2 xs ws → awE b A f vs2 H2 (call g ws []) Q)
    (he : starEach (e :: r) f.env = (false, eval e f.env) :: starEach r f.env := by rfl) (hp : (backTo pos (starEach r f.env)).any (·.1) = false := by rfl) :
    awE b A f vs H (callWith pos g [] (backTo pos (starEach (e :: r) f.env)) []) Q := fun P G s S => by
  have h1 := h P G s S
  rw [he] at h1 ⊢
  refine callWith_of (P := fun hp => ∀ a o, b.h₀.get? a = some o → hp.get? a = some o) (by show ((false || (backTo pos (starEach r f.env)).any (·.1)) || false) = false; rw [hp]; rfl) (fun hp hb => hk.looks hg hp hb)
    (Calls.evalArgs_plain (wpAny_mono h1 (fun ws s2 ⟨xs, vs2, H2, hx, S2, h2⟩ => ⟨fun a o e => S2.sh.old e, h2 ws hx P G s2 S2⟩) fun _ _ e => e))
theorem k_call0 {fv : AV} {g : Value} {pos : Pos} {Q : AV → Vs → Led → Prop} (hk : KeepOk b fv) (hg : fv.is g) (h : awE b A f vs H (call g [] []) Q) :
    awE b A f vs H (callWith pos g [] (backTo pos (starEach [] f.env)) []) Q := fun P G s S =>
  callWith_of (P := fun hp => ∀ a o, b.h₀.get? a = some o → hp.get? a = some o) rfl (fun hp hb => hk.looks hg hp hb) (PySem.evalArgs_none ⟨fun a o e => S.sh.old e, h P G s S⟩)

noncomputable abbrev KCa2 (b : Bs) (A : Around) (f : Fm) (fv : AV) (Q : AV → Vs → Led → Prop) : List AV → Vs → Led → Prop := fun xs vs2 H2 => ∀ g ws, fv.is g → Is2 xs ws → awE b A f vs2 H2 (call g ws []) Q
noncomputable abbrev KCa (b : Bs) (A : Around) (f : Fm) (pos : Pos) (e : Expr) (r : List Expr) (Q : AV → Vs → Led → Prop) : AV → Vs → Led → Prop := fun fv vs1 H1 => KeepOk b fv ∧ awL b A f vs1 H1 (spliced (backTo pos (starEach (e :: r) f.env))) (KCa2 b A f fv Q)
theorem e_call {x : Str} {p pos : Pos} {e : Expr} {r : List Expr} {Q : AV → Vs → Led → Prop} (h : awE b A f vs H (eval (.Name x p) f.env) (KCa b A f pos e r Q))
    (he : starEach (e :: r) f.env = (false, eval e f.env) :: starEach r f.env := by rfl) (hp : (backTo pos (starEach r f.env)).any (·.1) = false := by rfl) :
    awE b A f vs H (eval (.Call (.Name x p) (e :: r) [] pos) f.env) Q := fun P G s S =>
  wpAny_Call_NameR (aw_use (h P G s S) (fun g s1 fv vs1 H1 hg S1 ⟨hk, h1⟩ => k_call hk hg (aw_mono h1 fun xs vs2 H2 h2 ws hx => h2 g ws hg hx) he hp P G s1 S1))

/-! len, range -/
theorem k_len_list {a : Addr} {xs : List AV} {Q : AV → Vs → Led → Prop} (hm : (a, AO.list xs) ∈ H) (hz : xs.length ≤ 2 ^ 24) (h : Q (.int xs.length) vs H) :
    ∀ g ws, (AV.con (.builtin "len")).is g → Is2 [.ref a] ws → awE b A f vs H (call g ws []) Q := by
  intro g ws hg hw P G s S
  cases hg
  replace hw := Is2.inv1 hw
  obtain ⟨w, rfl, hw⟩ := hw
  cases hw
  obtain ⟨ws, hL, h2⟩ := (S.sh.led _ hm).isList
  have hn := h2.length
  with_reducible refine Calls.call_len_list hL ?_ ?_
  · rw [List.size_toArray]; omega
  · exact ⟨.int _, vs, H, ⟨_, by rw [List.size_toArray, hn]⟩, S.tok _, h⟩
theorem k_len_str {l : List Nat} {Q : AV → Vs → Led → Prop} (hz : l.length ≤ 2 ^ 24) (h : Q (.int l.length) vs H) :
    ∀ g ws, (AV.con (.builtin "len")).is g → Is2 [.str l] ws → awE b A f vs H (call g ws []) Q := by
  intro g ws hg hw P G s S
  cases hg
  replace hw := Is2.inv1 hw
  obtain ⟨w, rfl, ⟨t, hw⟩⟩ := hw
  subst hw
  have e : (⟨l.toArray⟩ : Str).length = l.length := List.size_toArray
  with_reducible refine PyProof.Rows.len_str ?_ ?_
  · rw [e]; omega
  · rw [e]; exact ⟨.int _, vs, H, ⟨_, rfl⟩, S.tok _, h⟩
theorem St.alloc {P : Prot} {G : GProt} {s : Shared} (S : St b P G f vs H s) {o : Obj} {ao : AO} {t : Nat} (ho : OR (s.heap.push o) s.heap.objs.size ao) : St b P G f vs ((s.heap.objs.size, ao) :: H) { s with heap := s.heap.push o, toks := t } :=
  S.up (S.down.alloc ho)
theorem k_range1 {n : Int} {Q : AV → Vs → Led → Prop} (h : ∀ r, Q (.ref r) vs ((r, aoRange 0 n 1) :: H)) :
    ∀ g ws, (AV.con (.type "range")).is g → Is2 [.int n] ws → awE b A f vs H (call g ws []) Q := by
  intro g ws hg hw P G s S
  cases hg
  replace hw := Is2.inv1 hw
  obtain ⟨w, rfl, ⟨t, hw⟩⟩ := hw
  subst hw
  with_reducible refine call_range_1 ?_
  exact ⟨.ref _, vs, _, rfl, S.alloc (ao := aoRange 0 n 1) ⟨_, Heap.get?_push_size _ rfl, _, _, _, rfl⟩, h _⟩
theorem k_range2 {m n : Int} {Q : AV → Vs → Led → Prop} (h : ∀ r, Q (.ref r) vs ((r, aoRange m n 1) :: H)) :
    ∀ g ws, (AV.con (.type "range")).is g → Is2 [.int m, .int n] ws → awE b A f vs H (call g ws []) Q := by
  intro g ws hg hw P G s S
  cases hg
  replace hw := Is2.inv2 hw
  obtain ⟨w, w', rfl, ⟨t, hw⟩, ⟨u, hw'⟩⟩ := hw
  subst hw; subst hw'
  with_reducible refine call_range_2 ?_
  exact ⟨.ref _, vs, _, rfl, S.alloc (ao := aoRange m n 1) ⟨_, Heap.get?_push_size _ rfl, _, _, _, rfl⟩, h _⟩

/-! displays -/
noncomputable abbrev KLi (Q : AV → Vs → Led → Prop) : List AV → Vs → Led → Prop := fun xs vs1 H1 => xs.length ≤ 2 ^ 24 ∧ ∀ r, Q (.ref r) vs1 ((r, AO.list xs) :: H1)
theorem e_list {es : List Expr} {pos : Pos} {Q : AV → Vs → Led → Prop} (h : awL b A f vs H (spliced (backTo pos (starEach es f.env))) (KLi Q)) :
    awE b A f vs H (eval (.List es pos) f.env) Q := fun P G s S =>
  wpAny_List (aw_use (h P G s S) (fun ws s1 xs vs1 H1 hx S1 ⟨hz, h1⟩ => ⟨by rw [← hx.length]; exact hz, .ref _, vs1, _, rfl, S1.alloc (ao := .list xs) (t := s1.toks) ⟨ws, 0, Heap.get?_push_size _ rfl, hx⟩, h1 _⟩))
theorem e_tup {es : List Expr} {k : Nat} {pos : Pos} {Q : AV → Vs → Led → Prop} (h : awL b A f vs H (spliced (backTo pos (starEach es f.env))) fun xs vs1 H1 => xs.length ≤ 2 ^ 24 ∧ ∀ r, Q (.ref r) vs1 ((r, AO.tuple xs) :: H1)) :
    awE b A f vs H (eval (.Tuple es k pos) f.env) Q := fun P G s S =>
  wpAny_Tuple (aw_use (h P G s S) (fun ws s1 xs vs1 H1 hx S1 ⟨hz, h1⟩ => ⟨by rw [← hx.length]; exact hz, .ref _, vs1, _, rfl, S1.alloc (ao := .tuple xs) (t := s1.toks) ⟨ws, 0, Heap.get?_push_size _ rfl, hx⟩, h1 _⟩))
end

theorem g_sub {prog : Program} {w : World} {A : Around} {E : Value → Shared → Prop} {s : Shared} {env : Env} {value slice : Expr} {pos : Pos} {Q : Value → Shared → Prop}
    (h : wpAny (model prog w) A (eval value env) (fun o s₁ => wpAny (model prog w) A (eval slice env) (fun i s₂ => ∃ T id, typeLookup (.type T) "__getitem__" = pure (some (.builtin id)) ∧ s₂.TypeIs o T ∧ wpAny (model prog w) A (getItem o i) Q E s₂) E s₁) E s) :
    wpAny (model prog w) A (eval (.Subscript value slice pos) env) Q E s := by
  rw [eval_Subscript]
  refine wpAny_bind (wpAny_mono h (fun o s₁ h₁ => wpAny_bind (wpAny_holding (wpAny_mono h₁ (fun i s₂ h₂ => wpAny_bind (wpAny_standAt ?_)) fun _ _ x => x))) fun _ _ x => x)
  obtain ⟨T, id, hl, hT, hg⟩ := h₂
  have fin : ∀ vs, wpAny (model prog w) A (operate vs (getItem o i)) (fun r s₃ => wpAny (model prog w) A (letTemporaryGo value o r >>= fun _ => pure r) Q E s₃) E s₂ := fun vs =>
    wpAny_operateT (wpAny_mono hg (fun r s₃ h₃ => wpAny_bind (wpAny_letTemporaryGo (wpAny_pure h₃))) fun _ _ x => x)
  have fin2 : wpAny (model prog w) A (subscripted slice false o i) (fun r s₃ => wpAny (model prog w) A (letTemporaryGo value o r >>= fun _ => pure r) Q E s₃) E s₂ := by
    have e : ∃ vs, subscripted slice false o i = operate vs (getItem o i) := by
      cases slice with
      | Slice l u st p => cases st with
        | none => exact ⟨_, rfl⟩
        | some x => exact ⟨_, rfl⟩
      | _ => exact ⟨_, rfl⟩
    obtain ⟨vs, e⟩ := e
    rw [e]
    exact fin vs
  refine wpAny_bind ?_
  unfold getitemInPython
  refine wpAny_bind (wpAny_specialOf hT hl ?_)
  exact wpAny_pure (wpAny_bind fin2)

section
variable {b : Bs} {A : Around} {f : Fm} {vs : Vs} {H : Led}
/-- the type of what is subscripted -/
noncomputable def SubTy (o : AV) (H : Led) : Prop := match o with
  | .str _ => True
  | .ref a => ∃ xs, (a, AO.list xs) ∈ H
  | _ => False
theorem SubTy.ty {o : AV} (h : SubTy o H) {v : Value} (hv : o.is v) {P : Prot} {G : GProt} {s : Shared} (S : SH b P G H s) : ∃ T id, typeLookup (.type T) "__getitem__" = pure (some (.builtin id)) ∧ s.TypeIs v T := by
  unfold SubTy at h
  split at h
  · obtain ⟨t, rfl⟩ := hv
    exact ⟨"str", "str.__getitem__", F.slot_str_getitem.lookup, typeIs_str s _ t⟩
  · cases hv
    obtain ⟨xs, hm⟩ := h
    obtain ⟨ws, hL, _⟩ := (S.led _ hm).isList
    exact ⟨"list", "list.__getitem__", slot_list_getitem.lookup, hL.typeIs⟩
  · exact h.elim
noncomputable abbrev KSu2 (b : Bs) (A : Around) (f : Fm) (Q : AV → Vs → Led → Prop) (o : AV) : AV → Vs → Led → Prop := fun i vs2 H2 => SubTy o H2 ∧ ∀ v w, o.is v → i.is w → awE b A f vs2 H2 (getItem v w) Q
noncomputable abbrev KSu (b : Bs) (A : Around) (f : Fm) (slice : Expr) (Q : AV → Vs → Led → Prop) : AV → Vs → Led → Prop := fun o vs1 H1 => awE b A f vs1 H1 (eval slice f.env) (KSu2 b A f Q o)
theorem e_sub {value slice : Expr} {pos : Pos} {Q : AV → Vs → Led → Prop} (h : awE b A f vs H (eval value f.env) (KSu b A f slice Q)) :
    awE b A f vs H (eval (.Subscript value slice pos) f.env) Q := fun P G s S =>
  g_sub (aw_use (h P G s S) (fun v s1 o vs1 H1 hv S1 h1 => aw_use (h1 P G s1 S1) (fun w s2 i vs2 H2 hw S2 ⟨ht, h2⟩ => by
    obtain ⟨T, id, a, c⟩ := ht.ty hv S2.sh
    exact ⟨T, id, a, c, h2 v w hv hw P G s2 S2⟩)))
/-- an item of a list -/
theorem g_item {a : Addr} {xs : List AV} {k : Int} {x : AV} {Q : AV → Vs → Led → Prop} (hm : (a, AO.list xs) ∈ H) (hx : xs[k.toNat]? = some x) (h0 : 0 ≤ k) (hk : k < 2 ^ 62) (h : Q x vs H) :
    SubTy (.ref a) H ∧ ∀ v w, (AV.ref a).is v → (AV.int k).is w → awE b A f vs H (getItem v w) Q := by
  refine ⟨⟨xs, hm⟩, ?_⟩
  rintro v w hv ⟨t, rfl⟩ P G s S
  cases hv
  obtain ⟨ws, hL, h2⟩ := (S.sh.led _ hm).isList
  obtain ⟨y, hy, hxy⟩ := h2.get hx
  with_reducible refine wpAny_getItem_list (x := y) hL h0 ?_ ?_ ?_
  · omega
  · simpa using hy
  · exact ⟨x, vs, H, hxy, S, h⟩
theorem g_itemN {a : Addr} {xs : List AV} {k : Int} {x : AV} {Q : AV → Vs → Led → Prop} (hm : (a, AO.list xs) ∈ H) (hx : xs[(k + xs.length).toNat]? = some x) (h0 : k < 0) (h1 : -(xs.length : Int) ≤ k) (hk : -(2 ^ 62) ≤ k) (h : Q x vs H) :
    SubTy (.ref a) H ∧ ∀ v w, (AV.ref a).is v → (AV.int k).is w → awE b A f vs H (getItem v w) Q := by
  refine ⟨⟨xs, hm⟩, ?_⟩
  rintro v w hv ⟨t, rfl⟩ P G s S
  cases hv
  obtain ⟨ws, hL, h2⟩ := (S.sh.led _ hm).isList
  obtain ⟨y, hy, hxy⟩ := h2.get hx
  have hn := h2.length
  with_reducible refine wpAny_getItem_list_neg (x := y) hL h0 ?_ ?_ ?_ ?_
  · simp only [List.size_toArray]; omega
  · omega
  · simp only [List.size_toArray]; rw [← hn]; simpa using hy
  · exact ⟨x, vs, H, hxy, S, h⟩
/-- a sign of a text -/
theorem g_sign {l : List Nat} {k : Int} {c : Nat} {Q : AV → Vs → Led → Prop} (hc : l[k.toNat]? = some c) (h0 : 0 ≤ k) (hk : k < 2 ^ 62) (h : Q (.str [c]) vs H) :
    SubTy (.str l) H ∧ ∀ v w, (AV.str l).is v → (AV.int k).is w → awE b A f vs H (getItem v w) Q := by
  refine ⟨trivial, ?_⟩
  rintro v w ⟨u, rfl⟩ ⟨t, rfl⟩ P G s S
  have hlt : k.toNat < l.length := (List.getElem?_eq_some_iff.mp hc).1
  with_reducible refine PyProof.Rows.getItem_str (c := c) ?_ ?_ ?_
  · have : ¬ k < -(2 ^ 63) := by omega
    have h2 : ¬ k ≥ 2 ^ 63 := by omega
    simp only [this, h2, decide_false, Bool.or_false]
  · have e : (⟨l.toArray⟩ : Str).length = l.length := List.size_toArray
    rw [e]
    unfold seqIndex?
    have : ¬ k < 0 := by omega
    simp only [this, if_false]
    have h3 : k < l.length := by omega
    simp [h0, h3]
    exact (List.getElem?_eq_some_iff.mp hc).2
  · exact ⟨.str _, vs, H, ⟨_, rfl⟩, S.tok _, h⟩

/-! slices -/
noncomputable def idxL (lo hi st : Option Int) (n : Nat) : List Nat := sliceRange (sliceBounds lo hi st n).1 (sliceBounds lo hi st n).2.1 (sliceBounds lo hi st n).2.2
noncomputable def sliceL {α : Type} (xs : List α) (lo hi st : Option Int) : List α := (idxL lo hi st xs.length).filterMap (xs[·]?)
noncomputable def sliceS (l : List Nat) (lo hi st : Option Int) : List Nat :=
  let ix := Builtin.Str.strSliceIndices lo hi (st.getD 1) l.length
  if (st.getD 1 == 1 && ix.length == l.length) = true then l else ix.filterMap (l[·]?)
theorem Is2.pick {as : List AV} {ws : List Value} (h : Is2 as ws) : ∀ ix : List Nat, Is2 (ix.filterMap (as[·]?)) (ix.filterMap (ws[·]?))
  | [] => trivial
  | i :: r => by
    have ih := h.pick r
    cases e : as[i]? with
    | none =>
      have : ws[i]? = none := by
        rw [List.getElem?_eq_none_iff] at e ⊢
        rw [← h.length]; exact e
      simp only [List.filterMap_cons, e, this]
      exact ih
    | some a =>
      obtain ⟨v, hv, ha⟩ := h.get e
      simp only [List.filterMap_cons, e, hv]
      exact ⟨ha, ih⟩

/-- a part of a slice -/
noncomputable def awP (b : Bs) (A : Around) (f : Fm) (vs : Vs) (H : Led) (e : Option Expr) (Q : Option Int → Vs → Led → Prop) : Prop := match e with
  | none => Q none vs H
  | some e => awE b A f vs H (eval e f.env) fun x vs1 H1 => ∃ i, x = .int i ∧ Q (some i) vs1 H1
theorem awP.run {e : Option Expr} {Q : Option Int → Vs → Led → Prop} (h : awP b A f vs H e Q) {P : Prot} {G : GProt} {s : Shared} (S : St b P G f vs H s) :
    wpAny (M b) A (evalPart e f.env) (fun v s' => ∃ o vs' H', v = partValue o ∧ St b P G f vs' H' s' ∧ Q (o.map (·.1)) vs' H') (fun _ _ => False) s := by
  cases e with
  | none => exact wpAny_pure ⟨none, vs, H, rfl, S, h⟩
  | some e => exact aw_use (h P G s S) (fun v s1 x vs1 H1 hv S1 ⟨i, e, h1⟩ => by subst e; obtain ⟨t, rfl⟩ := hv; exact ⟨some (i, t), vs1, H1, rfl, S1, h1⟩)
theorem isPart (o : Option (Int × Tok)) : IsPart (partValue o) (o.map (·.1)) := by
  cases o with
  | none => exact .none
  | some p => exact .int _ _
theorem IsSlice.new' (h : Heap) (l u st : Option (Int × Tok)) : (h.push { cls := .type "slice", data := .fields #[partValue l, partValue u, partValue st] }).IsSlice h.objs.size l u st := ⟨_, Heap.get?_push_size _ rfl, rfl, rfl⟩

theorem St.push {P : Prot} {G : GProt} {s : Shared} (S : St b P G f vs H s) (o : Obj) (t : Nat) : St b P G f vs H { s with heap := s.heap.push o, toks := t } := S.up (S.down.push o t)

noncomputable abbrev KSd (K : AV → Option Int → Option Int → Option Int → Vs → Led → Prop) (o : AV) (lo hi : Option Int) : Option Int → Vs → Led → Prop := fun st vs4 H4 => K o lo hi st vs4 H4
noncomputable abbrev KSc (b : Bs) (A : Around) (f : Fm) (step : Option Expr) (K : AV → Option Int → Option Int → Option Int → Vs → Led → Prop) (o : AV) (lo : Option Int) : Option Int → Vs → Led → Prop := fun hi vs3 H3 => awP b A f vs3 H3 step (KSd K o lo hi)
noncomputable abbrev KSb (b : Bs) (A : Around) (f : Fm) (upper step : Option Expr) (K : AV → Option Int → Option Int → Option Int → Vs → Led → Prop) (o : AV) : Option Int → Vs → Led → Prop := fun lo vs2 H2 => awP b A f vs2 H2 upper (KSc b A f step K o lo)
noncomputable abbrev KSa (b : Bs) (A : Around) (f : Fm) (lower upper step : Option Expr) (K : AV → Option Int → Option Int → Option Int → Vs → Led → Prop) : AV → Vs → Led → Prop := fun o vs1 H1 => awP b A f vs1 H1 lower (KSb b A f upper step K o)
noncomputable abbrev KSL (Q : AV → Vs → Led → Prop) : AV → Option Int → Option Int → Option Int → Vs → Led → Prop := fun o lo hi st vs4 H4 => ∃ a xs, o = .ref a ∧ (a, AO.list xs) ∈ H4 ∧ xs.length ≤ 2 ^ 24 ∧ st ≠ some 0 ∧ ∀ r, Q (.ref r) vs4 ((r, AO.list (sliceL xs lo hi st)) :: H4)
noncomputable abbrev KSS (Q : AV → Vs → Led → Prop) : AV → Option Int → Option Int → Option Int → Vs → Led → Prop := fun o lo hi st vs4 H4 => ∃ l, o = .str l ∧ l.length ≤ 2 ^ 24 ∧ (sliceS l lo hi st).length ≤ l.length ∧ st ≠ some 0 ∧ Q (.str (sliceS l lo hi st)) vs4 H4
theorem e_slice_list {value : Expr} {lower upper step : Option Expr} {p pos : Pos} {Q : AV → Vs → Led → Prop} (h : awE b A f vs H (eval value f.env) (KSa b A f lower upper step (KSL Q))) :
    awE b A f vs H (eval (.Subscript value (.Slice lower upper step p) pos) f.env) Q := fun P G s S => by
  refine g_sub (aw_use (h P G s S) (fun v s1 o vs1 H1 hv S1 h1 => ?_))
  refine wpAny_Slice (aw_use (h1.run S1) (fun vl s2 lo vs2 H2 e2 S2 h2 => aw_use (h2.run S2) (fun vu s3 hi vs3 H3 e3 S3 h3 => aw_use (h3.run S3) (fun vt s4 st vs4 H4 e4 S4 h4 => ?_))))
  obtain ⟨a, xs, rfl, hm, hz, h0, hQ⟩ := h4
  cases hv
  subst e2 e3 e4
  obtain ⟨ws, hL, hi2⟩ := (S4.sh.led _ hm).isList
  have hn := hi2.length
  refine ⟨"list", "list.__getitem__", slot_list_getitem.lookup, (hL.push _).typeIs, ?_⟩
  refine wpAny_getItem_list_slice (hL.push _) ⟨_, Heap.get?_push_size _ rfl, rfl, rfl⟩ (isPart lo) (isPart hi) (isPart st) h0 ?_ (by rw [List.size_toArray, ← hn]; exact hz)
  refine ⟨.ref _, vs4, _, rfl, (S4.push _ s4.toks).alloc (ao := .list (sliceL xs (lo.map (·.1)) (hi.map (·.1)) (st.map (·.1)))) (t := s4.toks) ⟨(slicePick ws.toArray (lo.map (·.1)) (hi.map (·.1)) (st.map (·.1))).toList, 0, ?_, ?_⟩, hQ _⟩
  · simp only [Array.toArray_toList]
    exact Heap.get?_push_size _ rfl
  · unfold slicePick sliceL idxL
    simp only [List.size_toArray, hn]
    have := hi2.pick (sliceRange (sliceBounds (lo.map (·.1)) (hi.map (·.1)) (st.map (·.1)) ws.length).1 (sliceBounds (lo.map (·.1)) (hi.map (·.1)) (st.map (·.1)) ws.length).2.1 (sliceBounds (lo.map (·.1)) (hi.map (·.1)) (st.map (·.1)) ws.length).2.2)
    simpa using this

theorem e_slice_str {value : Expr} {lower upper step : Option Expr} {p pos : Pos} {Q : AV → Vs → Led → Prop} (h : awE b A f vs H (eval value f.env) (KSa b A f lower upper step (KSS Q))) :
    awE b A f vs H (eval (.Subscript value (.Slice lower upper step p) pos) f.env) Q := fun P G s S => by
  refine g_sub (aw_use (h P G s S) (fun v s1 o vs1 H1 hv S1 h1 => ?_))
  refine wpAny_Slice (aw_use (h1.run S1) (fun vl s2 lo vs2 H2 e2 S2 h2 => aw_use (h2.run S2) (fun vu s3 hi vs3 H3 e3 S3 h3 => aw_use (h3.run S3) (fun vt s4 st vs4 H4 e4 S4 h4 => ?_))))
  obtain ⟨l, rfl, hz, hz2, h0, hQ⟩ := h4
  obtain ⟨t, rfl⟩ := hv
  subst e2 e3 e4
  refine ⟨"str", "str.__getitem__", F.slot_str_getitem.lookup, typeIs_str _ _ t, ?_⟩
  refine wpAny_getItem_str_slice (IsSlice.new' _ lo hi st) (by
    cases st with
    | none => rfl
    | some p =>
      have : p.1 ≠ 0 := fun q => h0 (by simp [q])
      simpa using this) ?_
  have e : (⟨l.toArray⟩ : Str).length = l.length := List.size_toArray
  unfold sliceMade slicePicked
  rw [e]
  have S5 := S4.push { cls := .type "slice", data := .fields #[partValue lo, partValue hi, partValue st] } s4.toks
  unfold sliceS at hQ hz2
  simp only at hQ hz2
  split
  · rename_i hc
    rw [if_pos hc] at hQ
    exact ⟨.str _, vs4, H4, ⟨_, rfl⟩, S5, hQ⟩
  · rename_i hc
    rw [if_neg hc] at hQ hz2
    have e2 : ∀ ix : List Nat, ix.filterMap ((⟨l.toArray⟩ : Str).cps[·]?) = ix.filterMap (l[·]?) := fun ix => by
      congr 1; funext i; simp
    rw [e2]
    refine ⟨?_, .str _, vs4, H4, ⟨_, rfl⟩, (S4.push _ _), hQ⟩
    show (List.toArray _).size ≤ sizeLine
    rw [List.size_toArray]
    exact Nat.le_trans hz2 hz
end

section
variable {b : Bs} {A : Around} {f : Fm} {vs : Vs} {H : Led}
noncomputable def awTests (b : Bs) (A : Around) (f : Fm) (vs : Vs) (H : Led) (ifs : List Expr) (Q : Bool → Vs → Led → Prop) : Prop := match ifs with
  | [] => Q true vs H
  | [c] => awB b A f vs H (isTrue c f.env (eval c f.env)) Q
  | _ => False
theorem awTests.run {ifs : List Expr} {Q : Bool → Vs → Led → Prop} (h : awTests b A f vs H ifs Q) {P : Prot} {G : GProt} {s : Shared} (S : St b P G f vs H s) :
    wpAny (M b) A (forIn ifs true fun c r => if r = true then do let ok ← isTrue c f.env (eval c f.env); pure (ForInStep.yield ok) else pure (ForInStep.yield r))
      (fun ok s' => ∃ vs' H', St b P G f vs' H' s' ∧ Q ok vs' H') (fun _ _ => False) s := by
  match ifs, h with
  | [], h => exact wpAny_tests_nil ⟨vs, H, S, h⟩
  | [c], h => exact wpAny_tests_one (aw_use (h P G s S) (fun c s1 d vs1 H1 hd S1 h1 => by cases hd; exact ⟨vs1, H1, S1, h1⟩))
  | _ :: _ :: _, h => exact h.elim

/-- the turns of a comprehension -/
noncomputable def ACmp (b : Bs) (A : Around) (f : Fm) (H : Led) (x : Str) (ifs : List Expr) (elt : Expr) : List AV → Vs → (List AV → Prop) → Prop
  | [], vs, Q => Q []
  | y :: ys, vs, Q => ∀ v, y.is v → awU b A f vs H (storeName f.env x v) fun _ vs1 H1 => H1 = H ∧ awTests b A f vs1 H ifs fun ok vs2 H2 =>
      (ok = true → awE b A f vs2 H2 (eval elt f.env) fun z vs3 H3 => H.Sublist H3 ∧ ACmp b A f H x ifs elt ys vs3 fun zs => Q (z :: zs)) ∧
      (ok = false → H.Sublist H2 ∧ ACmp b A f H x ifs elt ys vs2 Q)

noncomputable def relabelN (ns names : List (Str × NameKind)) : List (Str × NameKind) := names.map fun p => if p.2 == .free && ns.lookup p.1 == some .cell then (p.1, .cell) else p
/-- the value that an outer frame holds for a captured name -/
noncomputable def slotOf : List (Str × NameKind) → Vs → Str → Option AV
  | (y, k) :: r, v :: vs, x => if x == y then (if k == .cell || k == .free then v else none) else slotOf r vs x
  | _, _, _ => none
noncomputable def compVs (ns : List (Str × NameKind)) (vs : Vs) (names : List (Str × NameKind)) : Vs := names.map fun p => if p.2 == .free then slotOf ns vs p.1 else none
theorem slotOf_spec : ∀ {ns : List (Str × NameKind)} {vs : Vs} {x : Str} {av : AV}, slotOf ns vs x = some av → ∃ (i : Nat) (k : NameKind), ns[i]? = some (x, k) ∧ (k = NameKind.cell ∨ k = NameKind.free) ∧ vs[i]? = some (some av)
  | (y, k) :: r, v :: vs, x, av, h => by
    unfold slotOf at h
    split at h
    · rename_i hx
      split at h
      · rename_i hk
        refine ⟨0, k, by simp [beq_iff_eq.mp hx], by simpa using hk, by simp [h]⟩
      · cases h
    · obtain ⟨i, k', h1, h2, h3⟩ := slotOf_spec h
      exact ⟨i + 1, k', by simpa using h1, h2, by simpa using h3⟩
  | [], _, _, _, h => by simp [slotOf] at h
  | _ :: _, [], _, _, h => by simp [slotOf] at h

/-- the cells that a comprehension captures -/
noncomputable def clOf (env : Env) (names : List (Str × NameKind)) : List (Str × Addr) := (names.filter (·.2 == .free)).reverse.map fun p => (p.1, (env.cells.lookup p.1).getD 0)
theorem closureFor_eq {scope : Scope} {env : Env} (h : ∀ p ∈ scope.names, p.2 = .free → (env.cells.lookup p.1).isSome = true) : closureFor scope env = pure (clOf env scope.names) := by
  unfold closureFor clOf
  have key : ∀ (l : List (Str × NameKind)) (acc : List (Str × Addr)), (∀ p ∈ l, p.2 = .free → (env.cells.lookup p.1).isSome = true) →
      (forIn l acc fun (p : Str × NameKind) r => match p with
        | (name, kind) => if (kind == NameKind.free) = true then do let y ← cellOf env name; pure (ForInStep.yield ((name, y) :: r)) else pure (ForInStep.yield r) : Sem (List (Str × Addr))) =
      pure (((l.filter (·.2 == .free)).reverse.map fun p => (p.1, (env.cells.lookup p.1).getD 0)) ++ acc) := by
    intro l
    induction l with
    | nil => intro acc _; rfl
    | cons p l ih =>
      intro acc hp
      obtain ⟨name, kind⟩ := p
      rw [List.forIn_cons]
      by_cases hk : kind = .free
      · subst hk
        obtain ⟨a, ha⟩ := Option.isSome_iff_exists.mp (hp (name, .free) (.head _) rfl)
        simp only [beq_self_eq_true, if_true]
        have hc : cellOf env name = pure a := by unfold cellOf; rw [ha]
        rw [hc]
        show (forIn l ((name, a) :: acc) _ : Sem _) = _
        rw [ih _ fun q hq => hp q (.tail _ hq)]
        simp [ha]
      · have hb : (kind == NameKind.free) = false := by simpa using hk
        simp only [hb, Bool.false_eq_true, if_false]
        show (forIn l acc _ : Sem _) = _
        rw [ih _ fun q hq => hp q (.tail _ hq)]
        simp [hb]
  have := key scope.names [] h
  simp only [List.append_nil] at this
  show (forIn scope.names [] _ >>= fun cs => pure cs) = _
  rw [this]
  rfl

theorem clOf_lookup {env : Env} {names : List (Str × NameKind)} (nd : (names.map (·.1)).Nodup) {x : Str} {a : Addr} (hm : (x, NameKind.free) ∈ names) (ha : env.cells.lookup x = some a) : (clOf env names).lookup x = some a := by
  unfold clOf
  have key : ∀ (l : List (Str × NameKind)), (l.map (·.1)).Nodup → (x, NameKind.free) ∈ l → (l.map fun p => (p.1, (env.cells.lookup p.1).getD 0)).lookup x = some a := by
    intro l
    induction l with
    | nil => intro _ h; cases h
    | cons p l ih =>
      intro nd h
      obtain ⟨y, k⟩ := p
      have nd' := List.nodup_cons.mp nd
      rcases List.mem_cons.mp h with e | q
      · cases e; simp [ha]
      · have : x ≠ y := by
          rintro rfl
          exact nd'.1 (List.mem_map_of_mem (f := (·.1)) q)
        have hb : (x == y) = false := by simpa using this
        rw [List.map_cons, List.lookup_cons, hb]
        exact ih nd'.2 q
  refine key _ ?_ ?_
  · rw [List.map_reverse]
    exact List.pairwise_reverse.mpr ((nd.sublist (List.Sublist.map _ List.filter_sublist)).imp Ne.symm)
  · rw [List.mem_reverse]
    exact List.mem_filter.mpr ⟨hm, rfl⟩
theorem clOf_mem {env : Env} {names : List (Str × NameKind)} (h : ∀ p ∈ names, p.2 = .free → (env.cells.lookup p.1).isSome = true) {p : Str × Addr} (hp : p ∈ clOf env names) : p ∈ env.cells := by
  unfold clOf at hp
  obtain ⟨q, hq, rfl⟩ := List.mem_map.mp hp
  have hq' := List.mem_filter.mp (List.mem_reverse.mp hq)
  obtain ⟨a, ha⟩ := Option.isSome_iff_exists.mp (h q hq'.1 (by simpa using hq'.2))
  rw [ha]
  exact mem_of_lookup ha

theorem inj_of_nodup {l : List (Str × Addr)} (nd : (l.map (·.2)).Nodup) {p q : Str × Addr} (hp : p ∈ l) (hq : q ∈ l) (e : p.2 = q.2) : p = q := by
  obtain ⟨i1, hi1, e1⟩ := List.getElem_of_mem hp
  obtain ⟨i2, hi2, e2⟩ := List.getElem_of_mem hq
  have a1 : (l.map (·.2))[i1]? = some q.2 := by rw [List.getElem?_map, List.getElem?_eq_getElem hi1, e1]; simp [e]
  have a2 : (l.map (·.2))[i2]? = some q.2 := by rw [List.getElem?_map, List.getElem?_eq_getElem hi2, e2]; rfl
  have := (List.getElem?_inj (by simpa using hi1) nd).mp (a1.trans a2.symm)
  subst this
  rw [e1] at e2; exact e2
theorem clOf_nodup {env : Env} {names : List (Str × NameKind)} (nd : (names.map (·.1)).Nodup) (cnd : (env.cells.map (·.2)).Nodup) (h : ∀ p ∈ names, p.2 = .free → (env.cells.lookup p.1).isSome = true) : ((clOf env names).map (·.2)).Nodup := by
  have k1 : ((clOf env names).map (·.1)).Nodup := by
    unfold clOf
    rw [List.map_map]
    have : ((fun p : Str × Addr => p.1) ∘ fun p : Str × NameKind => (p.1, (env.cells.lookup p.1).getD 0)) = fun p : Str × NameKind => p.1 := rfl
    rw [this, List.map_reverse]
    exact List.pairwise_reverse.mpr ((nd.sublist (List.Sublist.map _ List.filter_sublist)).imp Ne.symm)
  have k2 : ∀ p ∈ clOf env names, p ∈ env.cells := fun p hp => clOf_mem h hp
  generalize clOf env names = l at k1 k2
  induction l with
  | nil => simp
  | cons p l ih =>
    have n1 := List.nodup_cons.mp k1
    refine List.nodup_cons.mpr ⟨fun q => ?_, ih n1.2 fun q hq => k2 q (.tail _ hq)⟩
    obtain ⟨r, hr, e⟩ := List.mem_map.mp q
    have := inj_of_nodup cnd (k2 r (.tail _ hr)) (k2 p (.head _)) e
    subst this
    exact n1.1 (List.mem_map_of_mem (f := (·.1)) hr)

noncomputable abbrev compFm (f : Fm) (scope : Scope) (C : Addr) : Fm := ⟨compEnvC scope (clOf f.env scope.names) C f.env, false⟩
theorem relabel_names {f : Fm} {ns : List (Str × NameKind)} {scope : Scope} {C : Addr} (hk : f.env.scope.kind = .function) (hn : f.env.scope.names = ns) : (compFm f scope C).env.scope.names = relabelN ns scope.names := by
  show (relabel scope f.env).names = _
  unfold relabel relabelN
  refine List.map_congr_left fun p hp => ?_
  obtain ⟨n, k⟩ := p
  have : f.env.kindOf n = ns.lookup n := by rw [← hn]; rfl
  simp only [this, hk, beq_self_eq_true, Bool.and_true]

/-- the frame of a comprehension, at its start -/
theorem St.comp {ns : List (Str × NameKind)} {scope : Scope} {P : Prot} {G : GProt} {s₁ s₂ : Shared} {C : Addr} (S : St b P G f vs H s₁) (hn : f.env.scope.names = ns) (hkind : scope.kind = .function) (hnd : (scope.names.map (·.1)).Nodup)
    (hcl : ∀ p ∈ scope.names, p.2 = .free → (f.env.cells.lookup p.1).isSome = true) (N : Prot) (D : SH b (fun a o => (P a o ∨ frameP f s₁ a o) ∨ N a o) G H s₂) (hCk : C ∉ keys H) (hCP : ∀ o, ¬ ((P C o ∨ frameP f s₁ C o) ∨ N C o)) (hns : s₂.heap.Ns C fun _ => none) :
    St b (fun a o => (P a o ∨ frameP f s₁ a o) ∨ N a o) G (compFm f scope C) (compVs ns vs scope.names) H s₂ := by
  have hcm : ∀ p ∈ (compFm f scope C).env.cells, p ∈ f.env.cells := fun p hp => clOf_mem hcl hp
  have hup : ∀ p ∈ f.env.cells, ∀ o, s₁.heap.get? p.2 = some o → s₂.heap.get? p.2 = some o := fun p hp o e => D.keep _ _ (.inl (.inr ⟨.inr ⟨p, hp, rfl⟩, e⟩))
  refine ⟨⟨hkind, S.fo.glob, S.fo.bi, ?_, clOf_nodup hnd S.fo.cnd hcl, ?_⟩, D, hCP, hCk, fun p hp => S.ck p (hcm p hp), (fun q => by cases q), fun p hp => ?_, ⟨_, hns, fun j x av ej ev => ?_⟩, fun j x k av ej hk ev => ?_⟩
  · rw [relabel_names S.fo.kind hn]
    have : (relabelN ns scope.names).map (·.1) = scope.names.map (·.1) := by
      unfold relabelN
      rw [List.map_map]
      refine List.map_congr_left fun p _ => ?_
      simp only [Function.comp]
      split <;> rfl
    rw [this]; exact hnd
  · intro p hp q
    obtain ⟨o, v, ho, _⟩ := S.cdef p (hcm p hp)
    exact hCP o (.inl (.inr ⟨.inr ⟨p, hcm p hp, q.symm⟩, by rw [← show p.2 = C from q]; exact ho⟩))
  · obtain ⟨o, v, ho, hd⟩ := S.cdef p (hcm p hp)
    exact ⟨o, v, hup p (hcm p hp) o ho, hd⟩
  · exfalso
    rw [relabel_names S.fo.kind hn] at ej
    unfold relabelN at ej
    unfold compVs at ev
    rw [List.getElem?_map] at ej ev
    cases hs : scope.names[j]? with
    | none => rw [hs] at ej; cases ej
    | some p =>
      rw [hs] at ej ev
      simp only [Option.map_some, Option.some.injEq] at ej ev
      split at ev
      · rename_i hf
        have hf' : p.2 = .free := by simpa using hf
        split at ej
        · cases ej
        · rw [ej] at hf'; cases hf'
      · cases ev
  · rw [relabel_names S.fo.kind hn] at ej
    unfold relabelN at ej
    unfold compVs at ev
    rw [List.getElem?_map] at ej ev
    cases hs : scope.names[j]? with
    | none => rw [hs] at ej; cases ej
    | some p =>
      rw [hs] at ej ev
      simp only [Option.map_some, Option.some.injEq] at ej ev
      split at ev
      · rename_i hf
        have hf' : p.2 = .free := by simpa using hf
        have hx : p.1 = x := by split at ej <;> exact congrArg Prod.fst ej
        obtain ⟨i, k', hi, hk', hv⟩ := slotOf_spec ev
        rw [hx] at hi
        obtain ⟨a, o, v, hl, ho, hd, hav⟩ := S.cel i x k' av (by rw [hn]; exact hi) hk' hv
        refine ⟨a, o, v, clOf_lookup hnd (by rw [← hx, ← hf']; exact List.mem_of_getElem? hs) hl, hup _ (mem_of_lookup hl) o ho, hd, hav⟩
      · cases ev

/-- what the loop of a comprehension leaves -/
noncomputable def CompOut (b : Bs) (P : Prot) (G : GProt) (f : Fm) (vs : Vs) (H : Led) (C D : Addr) (Q : List AV → Prop) (r : Result) (s' : Shared) : Prop :=
  r = .ok .next ∧ ∃ ys, Q ys ∧ St b P G f vs ((D, AO.list ys) :: H) s' ∧ C ∉ D :: keys H ∧ (∀ o, ¬ P C o) ∧ C ≠ f.env.locals ∧ (∀ p ∈ f.env.cells, C ≠ p.2) ∧ ∃ m, s'.heap.Ns C m

theorem c_comp {ns : List (Str × NameKind)} {scope : Scope} {P : Prot} {G : GProt} {s₀ s : Shared} {C D I : Addr} {J : Led → Prop} {xs : List AV} {IP : Nat → Obj → Prop} {x : Str} {px pos : Pos} {iter elt : Expr} {ifs : List Expr} {Q : List AV → Prop} {o : Obj}
    (S : St b P G f vs H s₀) (hn : f.env.scope.names = ns) (hkind : scope.kind = .function) (hnd : (scope.names.map (·.1)).Nodup)
    (hcl : ∀ p ∈ scope.names, p.2 = .free → (f.env.cells.lookup p.1).isSome = true)
    (T : Iter b A I J xs IP) (hJ : J H) (hz : xs.length ≤ 2 ^ 24) (K : SH b (fun a o => P a o ∨ frameP f s₀ a o) G H s) (ho : s.heap.get? I = some o) (h0 : IP 0 o)
    (hD : s.heap.PlainList D #[]) (hC : s.heap.Ns C fun _ => none) (hIk : I ∉ keys H) (hDk : D ∉ keys H) (hCk : C ∉ keys H)
    (hIP : ∀ o, ¬ (P I o ∨ frameP f s₀ I o)) (hDP : ∀ o, ¬ (P D o ∨ frameP f s₀ D o)) (hCP : ∀ o, ¬ (P C o ∨ frameP f s₀ C o)) (hID : I ≠ D) (hIC : I ≠ C) (hDC : D ≠ C)
    (h : ACmp b A (compFm f scope C) H x ifs elt xs (compVs ns vs scope.names) Q) :
    codeAny (M b) A (.compLoop (.ListComp elt [⟨.Name x px, iter, ifs, 0⟩] scope pos) 0 (.ref I) (.ref D) (compFm f scope C).env) (CompOut b P G f vs H C D Q) s := by
  have base : ∀ a q, b.h₀.get? a = some q → (P a q ∨ frameP f s₀ a q) := K.base
  have start : St b (fun a o => P a o ∨ frameP f s₀ a o) G (compFm f scope C) (compVs ns vs scope.names) H s := by
    have := St.comp S hn hkind hnd hcl (fun _ _ => False) (K.weaken (P' := fun a o => (P a o ∨ frameP f s₀ a o) ∨ False) (G' := G) (fun a o e => .inl (base a o e)) (fun a o e => e.elim id False.elim) fun _ _ e => e) hCk (fun o q => q.elim (hCP o) id) hC
    simpa only [or_false] using this
  have hcm : ∀ p ∈ (compFm f scope C).env.cells, p ∈ f.env.cells := fun p hp => clOf_mem hcl hp
  have notcell : ∀ X : Addr, (∀ o, ¬ (P X o ∨ frameP f s₀ X o)) → ∀ p ∈ f.env.cells, X ≠ p.2 := fun X hX p hp q => by
    obtain ⟨o', v', ho', _⟩ := S.cdef p hp
    exact hX o' (.inr ⟨.inr ⟨p, hp, q⟩, by rw [q]; exact ho'⟩)
  have notloc : ∀ X : Addr, (∀ o, ¬ (P X o ∨ frameP f s₀ X o)) → X ≠ f.env.locals := fun X hX q => by
    obtain ⟨m, ⟨oL, es, ep, hL, _⟩, _⟩ := S.loc
    exact hX oL (.inr ⟨.inl q, by rw [q]; exact hL⟩)
  refine codeAny_compLoop_tests (fun n s => ∃ i ys ws vsc o, n = xs.length - i ∧ i ≤ xs.length ∧ ys.length ≤ i ∧ St b (fun a o => P a o ∨ frameP f s₀ a o) G (compFm f scope C) vsc H s ∧ s.heap.get? I = some o ∧ IP i o ∧ s.heap.PlainList D ws.toArray ∧ Is2 ys ws ∧
    ACmp b A (compFm f scope C) H x ifs elt (xs.drop i) vsc (fun zs => Q (ys ++ zs))) ?_ xs.length ⟨0, [], [], _, o, rfl, Nat.zero_le _, Nat.le_refl _, start, ho, h0, hD, trivial, by simpa using h⟩
  rintro n s ⟨i, ys, ws, vsc, o, rfl, hi, hyi, S1, ho, hip, hDl, h2, hA⟩
  by_cases hlt : i < xs.length
  · obtain ⟨y, hy⟩ : ∃ y, xs[i]? = some y := ⟨xs[i], List.getElem?_eq_getElem hlt⟩
    have hd : xs.drop i = y :: xs.drop (i + 1) := by
      rw [List.drop_eq_getElem_cons hlt]
      rw [List.getElem?_eq_getElem hlt] at hy
      cases hy; rfl
    rw [hd] at hA
    refine wpAny_false (wpAny_mono (T.item i y _ G H s o hy hJ S1.down hIk ho hip) (fun r s1 ⟨v, o', t, hr, hv, ho', hip', hs, e⟩ => ?_) fun _ _ e => e)
    subst hr
    rw [e] at ho' ⊢
    have S2 : St b (fun a o => P a o ∨ frameP f s₀ a o) G (compFm f scope C) vsc H { s with heap := s1.heap, toks := t } := S1.but hIk hIP hIC (fun p hp => notcell I hIP p (hcm p hp)) hs.extBut
    obtain ⟨nd, hDo⟩ := hDl
    have hDo1 : s1.heap.get? D = some { cls := .type "list", data := .seq ws.toArray nd } := (hs.2 D (Ne.symm hID)).trans hDo
    have S3 := (S2.hide hIk hIC (fun p hp => notcell I hIP p (hcm p hp)) ho').hide hDk hDC (fun p hp => notcell D hDP p (hcm p hp)) hDo1
    refine wpAny_assign_Name (wpAny_false (aw_use (hA v hv _ G _ S3) (fun _ s2 _ vs1 H1 _ S4 hr9 => ?_)))
    obtain ⟨e1, h1⟩ := hr9
    subst e1
    refine wpAny_false (wpAny_mono (h1.run S4) (fun ok s3 ⟨vs2, H2, S5, h3, h4⟩ => ?_) fun _ _ e => e)
    cases ok with
    | false =>
      obtain ⟨hsub, hrec⟩ := h4 rfl
      obtain ⟨S6, hD6, _⟩ := S5.show (fun a q e => .inl (base a q e))
      obtain ⟨S7, hI7, _⟩ := S6.show base
      simp only [Bool.false_eq_true, if_false]
      have S8 : St b (fun a o => P a o ∨ frameP f s₀ a o) G (compFm f scope C) vs2 H1 s3 :=
        ⟨S7.fo, S7.sh.sub hsub, S7.La, fun q => S7.Lk ((hsub.map _).subset q), fun p hp q => S7.ck p hp ((hsub.map _).subset q), S7.cown, S7.cdef, S7.loc, S7.cel⟩
      exact ⟨xs.length - (i + 1), by omega, i + 1, ys, ws, vs2, o', rfl, hlt, by omega, S8, hI7, hip', ⟨nd, hD6⟩, h2, hrec⟩
    | true =>
      simp only [if_true]
      refine wpAny_false (aw_use (h3 rfl _ G _ S5) (fun u s4 z vs3 H3 hz' S6 hr9 => ?_))
      obtain ⟨hsub, hrec⟩ := hr9
      obtain ⟨S7, hD7, hDk7⟩ := S6.show (fun a q e => .inl (base a q e))
      obtain ⟨S8, hI8, _⟩ := S7.show base
      have hl2 := h2.length
      refine wpAny_list_append_plain (items := ws.toArray) ⟨nd, hD7⟩ (fun h' hl' hs' => ?_) (by rw [List.size_toArray, ← hl2]; exact Nat.le_trans (by omega) hz)
      have S9 : St b (fun a o => P a o ∨ frameP f s₀ a o) G (compFm f scope C) vs3 H3 { s4 with heap := h', toks := s4.toks } := S8.but hDk7 hDP hDC (fun p hp => notcell D hDP p (hcm p hp)) hs'.extBut
      have S10 : St b (fun a o => P a o ∨ frameP f s₀ a o) G (compFm f scope C) vs3 H1 { s4 with heap := h', toks := s4.toks } :=
        ⟨S9.fo, S9.sh.sub hsub, S9.La, fun q => S9.Lk ((hsub.map _).subset q), fun p hp q => S9.ck p hp ((hsub.map _).subset q), S9.cown, S9.cdef, S9.loc, S9.cel⟩
      refine ⟨xs.length - (i + 1), by omega, i + 1, ys ++ [z], ws ++ [u], vs3, o', rfl, hlt, by simp; omega, S10, (hs'.2 I hID).trans hI8, hip', by simpa using hl', h2.append (Is2.one hz'), ?_⟩
      simpa only [List.append_assoc, List.cons_append, List.nil_append] using hrec
  · obtain rfl : i = xs.length := by omega
    rw [List.drop_length] at hA
    refine wpAny_false (wpAny_mono (T.done _ G H s o hJ S1.down hIk ho hip) (fun r s1 ⟨t, hr, hs, e⟩ => ?_) fun _ _ e => e)
    subst hr
    rw [e]
    have S2 : St b (fun a o => P a o ∨ frameP f s₀ a o) G (compFm f scope C) vsc H { s with heap := s1.heap, toks := t } := S1.but hIk hIP hIC (fun p hp => notcell I hIP p (hcm p hp)) hs
    obtain ⟨nd, hDo⟩ := hDl
    have hDo1 : s1.heap.get? D = some { cls := .type "list", data := .seq ws.toArray nd } := hs D _ (Ne.symm hID) hDo
    have S3 : SH b (fun a o => P a o ∨ frameP f s₀ a o) G ((D, AO.list ys) :: H) { s with heap := s1.heap, toks := t } := S2.sh.add hDk hDP ⟨ws, nd, hDo1, h2⟩
    obtain ⟨m, hm, _⟩ := S2.loc
    refine ⟨rfl, ys, by simpa [ACmp] using hA, S.up S3, ?_, fun o q => hCP o (.inl q), notloc C hCP, notcell C hCP, m, hm⟩
    intro q
    rcases List.mem_cons.mp q with q | q
    · exact hDC q.symm
    · exact hCk q

/-- comprehension: from the iterator on -/
theorem c_comp2 {ns : List (Str × NameKind)} {scope : Scope} {P : Prot} {G : GProt} {s₁ s₂ : Shared} {I : Addr} {J : Led → Prop} {xs : List AV} {IP : Nat → Obj → Prop} {x : Str} {px pos : Pos} {iter elt : Expr} {ifs : List Expr} {Q : List AV → Prop} {o : Obj}
    (S : St b P G f vs H s₁) (hn : f.env.scope.names = ns) (hkind : scope.kind = .function) (hnd : (scope.names.map (·.1)).Nodup) (hcell : ∀ p ∈ scope.names, p.2 ≠ .cell)
    (hcl : ∀ p ∈ scope.names, p.2 = .free → (f.env.cells.lookup p.1).isSome = true)
    (T : Iter b A I J xs IP) (hJ : J H) (hz : xs.length ≤ 2 ^ 24) (K : SH b (fun a o => P a o ∨ frameP f s₁ a o) G H s₂) (hIk : I ∉ keys H) (hIP : ∀ o, ¬ (P I o ∨ frameP f s₁ I o)) (ho : s₂.heap.get? I = some o) (h0 : IP 0 o)
    (h : ∀ C, ACmp b A (compFm f scope C) H x ifs elt xs (compVs ns vs scope.names) Q) {RR : Value → Addr → Result → Shared → Prop}
    (hRR : ∀ D C r s', CompOut b P G f vs H C D Q r s' → RR (.ref D) C r s') :
    wpAny (M b) A (newList []) (fun acc s₃ => wpAny (M b) A (newFunctionEnv scope f.env.globals (clOf f.env scope.names) [] f.env.qual none .none (some f.env)) (fun cenv s₄ =>
      codeAny (M b) A (.compStart (.ListComp elt [⟨.Name x px, iter, ifs, 0⟩] scope pos) 0 (.ref I) acc { cenv with scope := relabel scope f.env }) (RR acc cenv.locals) s₄) (fun _ _ => False) s₃) (fun _ _ => False) s₂ := by
  refine wpAny_newObj_type (wpAny_newFunctionEnv hcell (by intro y hy; simp at hy) (fun h₁ hns₁ hsb₁ => ?_) hkind)
  have K1 := K.push { cls := .type "list", dict := none, data := .seq ([] : List Value).toArray } s₂.toks
  have fD := K.fresh
  have fC := K1.fresh
  generalize hH2 : s₂.heap.push { cls := .type "list", dict := none, data := .seq ([] : List Value).toArray } = H2 at hns₁ hsb₁ K1 fC ⊢
  dsimp only at hns₁ hsb₁ K1 fC ⊢
  have hDl : H2.get? s₂.heap.objs.size = some { cls := .type "list", dict := none, data := .seq ([] : List Value).toArray } := by rw [← hH2]; exact Heap.get?_push_size _ rfl
  have hC : H2.objs.size = s₂.heap.objs.size + 1 := by rw [← hH2, Heap.size_push]
  have hI2 : H2.get? I = some o := by rw [← hH2]; exact Heap.get?_push_of_some _ ho
  have up : ∀ a q, H2.get? a = some q → h₁.get? a = some q := fun a q e => hsb₁.extBut a q (Nat.ne_of_lt (Heap.lt_size e)) (Heap.get?_push_of_some _ e)
  have K2 : SH b (fun a o => P a o ∨ frameP f s₁ a o) G H { s₂ with heap := h₁, toks := s₂.toks + ([] : List (Str × Value)).length } := K1.ext up
  have hIlt : I < s₂.heap.objs.size := Heap.lt_size ho
  have loop := c_comp (px := px) (pos := pos) (iter := iter) S hn hkind hnd hcl T hJ hz K2 (up _ _ hI2) h0 ⟨0, up _ _ hDl⟩ hns₁ hIk fD.1 fC.1 hIP fD.2 fC.2 (Nat.ne_of_lt hIlt) (by rw [hC]; exact Nat.ne_of_lt (Nat.lt_succ_of_lt hIlt)) (by rw [hC]; exact Nat.ne_of_lt (Nat.lt_succ_self _)) (h H2.objs.size)
  have loop' := codeAny_mono loop (hRR s₂.heap.objs.size H2.objs.size)
  exact codeAny_compStart_list loop' (wpAny_false (wpAny_mono (T.self 0 o _ (up _ _ hI2) h0) (fun r s' e => by obtain ⟨rfl, rfl⟩ := e; exact loop') fun _ _ e => e))

theorem hnames_of {names : List (Str × NameKind)} (nd : (names.map (·.1)).Nodup) : ∀ y ∈ names, y.2 = .local → names.lookup y.1 = some .local := fun y hy e => by
  obtain ⟨i, hi, rfl⟩ := List.getElem_of_mem hy
  have := lookup_of_nodup (x := names[i].1) (k := names[i].2) nd (List.getElem?_eq_getElem hi)
  rw [this, e]

theorem e_comp {ns : List (Str × NameKind)} {scope : Scope} {x : Str} {px pos : Pos} {iter elt : Expr} {ifs : List Expr} {Q : AV → Vs → Led → Prop} (hn : f.env.scope.names = ns)
    (hcl : ∀ p ∈ scope.names, p.2 = .free → (f.env.cells.lookup p.1).isSome = true)
    (h : awE b A f vs H (eval iter f.env) fun xv vs1 H1 => ∃ J xs, HasIter b A xv H1 J xs ∧ J H1 ∧ xs.length ≤ 2 ^ 24 ∧ ∀ f2 : Fm, f2.env.scope.names = relabelN ns scope.names → ACmp b A f2 H1 x ifs elt xs (compVs ns vs1 scope.names) fun ys => ∀ r, Q (.ref r) vs1 ((r, AO.list ys) :: H1))
    (hkind : scope.kind = .function := by rfl) (hnd : (scope.names.map (·.1)).Nodup := by decide) (hcell : ∀ p ∈ scope.names, p.2 ≠ .cell := by decide) (hs : ∀ x, foldedSetIterable iter f.env x = pure x := by intro _; rfl) :
    awE b A f vs H (eval (.ListComp elt [⟨.Name x px, iter, ifs, 0⟩] scope pos) f.env) Q := fun P G s S => by
  rw [eval_ListComp]
  refine wpAny_comprehension_free (use := none) rfl hs (closureFor_eq hcl) hkind (hnames_of hnd) (aw_use (h P G s S) (fun v s1 xv vs1 H1 hv S1 hr9 => ?_))
  obtain ⟨J, xs, hit, hJ, hz, hA⟩ := hr9
  refine wpAny_mono (hit v hv _ G s1 S1.down) (fun it s2 ⟨I, IP, o, e, T, K, hI, hP, ho, h0⟩ => ?_) fun _ _ e => e
  subst e
  refine c_comp2 S1 hn hkind hnd hcell hcl T hJ hz K hI hP ho h0 (fun C => hA _ (relabel_names S1.fo.kind hn)) (RR := fun acc C => compPost (M b) A (fun _ _ => False) none _ acc C) ?_
  rintro D C r s' ⟨rfl, ys, hq, S2, hCk, hCP, hCL, hCc, m, hm⟩
  refine ⟨m, hm, fun h' hs' => ⟨.ref D, vs1, _, rfl, ?_, hq D⟩⟩
  exact S2.but hCk hCP hCL hCc hs'.extBut (t := s'.toks)

theorem x_asg_comp {ns : List (Str × NameKind)} {scope : Scope} {x y : Str} {px py pos spos : Pos} {iter elt : Expr} {ifs : List Expr} {Q : AF → Vs → Led → Prop} (hn : f.env.scope.names = ns)
    (hsw : swapsWith (.ListComp elt [⟨.Name x px, iter, ifs, 0⟩] scope pos) (some (.Name y py)) spos.line f.env = pure true)
    (hcl : ∀ p ∈ scope.names, p.2 = .free → (f.env.cells.lookup p.1).isSome = true)
    (h : awE b A f vs H (eval iter f.env) fun xv vs1 H1 => ∃ J xs, HasIter b A xv H1 J xs ∧ J H1 ∧ xs.length ≤ 2 ^ 24 ∧ ∀ f2 : Fm, f2.env.scope.names = relabelN ns scope.names → ACmp b A f2 H1 x ifs elt xs (compVs ns vs1 scope.names) fun ys =>
      ∀ r, awU b A f vs1 ((r, AO.list ys) :: H1) (storeName f.env y (.ref r)) fun _ vs2 H2 => Q .next vs2 H2)
    (hkind : scope.kind = .function := by rfl) (hnd : (scope.names.map (·.1)).Nodup := by decide) (hcell : ∀ p ∈ scope.names, p.2 ≠ .cell := by decide) (hs : ∀ x, foldedSetIterable iter f.env x = pure x := by intro _; rfl) :
    awF b A f vs H (exec (.Assign [.Name y py] (.ListComp elt [⟨.Name x px, iter, ifs, 0⟩] scope pos) spos) f.env) Q := fun P G s S => by
  rw [exec_Assign_Name_used _ _ _ _ hsw]
  refine wpAny_bind (wpAny_standAt (wpAny_bind ?_))
  show wpAny _ A (do let _ ← comprehension (.ListComp elt [⟨.Name x px, iter, ifs, 0⟩] scope pos) scope f.env _ (newList []) false (eval iter f.env) (some (assign (.Name y py) f.env))) _ _ s
  refine wpAny_bind (wpAny_mono (wpAny_comprehension_free (use := some (assign (.Name y py) f.env)) (Q := fun _ s' => ∃ vs' H', St b P G f vs' H' s' ∧ Q .next vs' H') rfl hs (closureFor_eq hcl) hkind (hnames_of hnd)
    (aw_use (h P G s S) (fun v s1 xv vs1 H1 hv S1 ⟨J, xs, hit, hJ, hz, hA⟩ => ?_))) (fun _ s' hq => wpAny_pure (wpAny_pure (by obtain ⟨vs', H', a, c⟩ := hq; exact ⟨.next, vs', H', rfl, a, c⟩))) fun _ _ e => e)
  refine wpAny_mono (hit v hv _ G s1 S1.down) (fun it s2 ⟨I, IP, o, e, T, K, hI, hP, ho, h0⟩ => ?_) fun _ _ e => e
  subst e
  refine c_comp2 S1 hn hkind hnd hcell hcl T hJ hz K hI hP ho h0 (fun C => hA _ (relabel_names S1.fo.kind hn)) (RR := fun acc C => compPost (M b) A (fun _ _ => False) (some (assign (.Name y py) f.env)) _ acc C) ?_
  rintro D C r s' ⟨rfl, ys, hq, S2, hCk, hCP, hCL, hCc, m, hm⟩
  obtain ⟨oC, es, ep, hC, hr⟩ := hm
  have S3 := S2.hide hCk hCL hCc hC
  refine wpAny_assign_Name (aw_use (hq D _ G s' S3) (fun _ s'' _ vs2 H2 _ S4 hqq => ?_))
  obtain ⟨S5, hC5, hk5⟩ := S4.show S.sh.base
  refine ⟨m, ⟨oC, es, ep, hC5, hr⟩, fun h' hs' => ⟨vs2, H2, ?_, hqq⟩⟩
  exact S5.but hk5 hCP hCL hCc hs'.extBut (t := s''.toks)
end

theorem cellsFrom_keys : ∀ (names : List (Str × NameKind)) (n : Nat) (acc : List (Str × Addr)), (cellsFrom n names acc).map (·.1) = ((names.filter (·.2 == .cell)).map (·.1)).reverse ++ acc.map (·.1)
  | [], _, _ => rfl
  | (x, k) :: r, n, acc => by
    rw [show cellsFrom n ((x, k) :: r) acc = if k == .cell then cellsFrom (n + 1) r ((x, n) :: acc) else cellsFrom n r acc from rfl]
    by_cases h : k = .cell
    · subst h
      simp only [beq_self_eq_true, if_true]
      rw [cellsFrom_keys r]
      simp
    · have hb : (k == NameKind.cell) = false := by simpa using h
      simp only [hb, Bool.false_eq_true, if_false]
      rw [cellsFrom_keys r]
      simp [hb]
theorem lookup_of_mem {β : Type} {l : List (Str × β)} {x : Str} {a : β} (nd : (l.map (·.1)).Nodup) (h : (x, a) ∈ l) : l.lookup x = some a := by
  obtain ⟨i, hi, e⟩ := List.getElem_of_mem h
  exact lookup_of_nodup nd (by rw [List.getElem?_eq_getElem hi, e])

theorem bindL_mem {kindOf : Str → Option NameKind} : ∀ {binds : List (Str × Value)} {m : Str → Option Value} {x : Str}, x ∉ binds.map (·.1) → bindL kindOf binds m x = m x
  | [], _, _, _ => rfl
  | (y, v) :: r, m, x, h => by
    unfold bindL
    have h1 : x ≠ y := fun e => h (by rw [e]; exact .head _)
    rw [bindL_mem fun q => h (.tail _ q)]
    split
    · exact if_neg h1
    · rfl
theorem bindL_get {kindOf : Str → Option NameKind} : ∀ {binds : List (Str × Value)} {m : Str → Option Value} {x : Str} {v : Value}, (binds.map (·.1)).Nodup → (x, v) ∈ binds → kindOf x = some .local → bindL kindOf binds m x = some v
  | (y, w) :: r, m, x, v, nd, h, hk => by
    unfold bindL
    have nd' := List.nodup_cons.mp nd
    rcases List.mem_cons.mp h with e | q
    · cases e
      rw [bindL_mem nd'.1, if_pos hk]
      exact if_pos rfl
    · exact bindL_get nd'.2 q hk
theorem bindC_mem {kindOf : Str → Option NameKind} : ∀ {binds : List (Str × Value)} {m : Str → Option Value} {x : Str}, x ∉ binds.map (·.1) → bindC kindOf binds m x = m x
  | [], _, _, _ => rfl
  | (y, v) :: r, m, x, h => by
    unfold bindC
    have h1 : x ≠ y := fun e => h (by rw [e]; exact .head _)
    rw [bindC_mem fun q => h (.tail _ q)]
    split
    · rfl
    · exact if_neg h1
theorem bindC_get {kindOf : Str → Option NameKind} : ∀ {binds : List (Str × Value)} {m : Str → Option Value} {x : Str} {v : Value}, (binds.map (·.1)).Nodup → (x, v) ∈ binds → kindOf x ≠ some .local → bindC kindOf binds m x = some v
  | (y, w) :: r, m, x, v, nd, h, hk => by
    unfold bindC
    have nd' := List.nodup_cons.mp nd
    rcases List.mem_cons.mp h with e | q
    · cases e
      rw [bindC_mem nd'.1, if_neg hk]
      exact if_pos rfl
    · exact bindC_get nd'.2 q hk

/-- a function of the text -/
structure FnAt (b : Bs) (a : Addr) (fd : FuncData) (body : List Stmt) : Prop where
  there : ∃ o, b.h₀.get? a = some o ∧ o.data = .func fd
  code : b.h₀.CodeRec fd.code fd.qualname
  body : fd.body = .stmts body
  clo : fd.closure = []
  glob : fd.globals = mainGlobals
  bi : fd.builtins = builtinsNs

section
variable {b : Bs} {A : Around} {H : Led}

noncomputable def AF.out : AF → AV
  | .ret v => v
  | _ => .none
noncomputable def flowVal : Flow → Value
  | .ret v => v
  | _ => .none
theorem AF.out_is {x : AF} {fl : Flow} (h : x.is fl) : x.out.is (flowVal fl) := by
  cases x with
  | ret v => obtain ⟨w, rfl, hw⟩ := h; exact hw
  | next => cases h; rfl
  | brk => cases h; rfl
  | cont => cases h; rfl

/-- around a body -/
structure Deeper (A A' : Around) : Prop where
  handled : A'.handled = A.handled
  depth : A'.depth = A.depth + 1
  units : A'.units = A.units + 3

theorem h_fnG {a : Addr} {fd : FuncData} {body : List Stmt} {sc : Scope} {ps : List Str} {avs avs' : List AV} {Q : AV → Led → Prop} {Qb : Fm → AF → Vs → Led → Prop} (F : FnAt b a fd body) (hsc : fd.scope = sc) (hroom : A.depth < recursionLimit)
    (hps : (sc.names.map (·.1)).take ps.length = ps) (hlen : avs'.length = ps.length)
    (hpk : ∀ p ∈ sc.names.take ps.length, p.2 = .local ∨ p.2 = .cell)
    (hbind : ∀ P G s ws, SH b P G H s → Is2 avs ws → ∃ ws', Is2 avs' ws' ∧ BindsTo s fd ⟨ws, []⟩ (ps.zip ws'))
    (h : ∀ (f : Fm) (A' : Around), f.env.scope = sc → f.own = true → f.env.cells.map (·.1) = ((sc.names.filter (·.2 == .cell)).map (·.1)).reverse → Deeper A A' → (f.env.code = fd.code ∧ f.env.qual = fd.qualname ++ ".<locals>.") →
      awF b A' f (avs'.map some ++ List.replicate (sc.names.length - ps.length) none) H (execs body f.env) (Qb f))
    (hfin : ∀ (f : Fm) fl vs' H' s P G, f.env.scope = sc → f.own = true → St b P G f vs' H' s → Qb f fl vs' H' → ∃ H'', SH b P G H'' s ∧ Q fl.out H'')
    (hnd : (sc.names.map (·.1)).Nodup := by decide) (hco : sc.isCoroutine = false := by rfl) (hgen : sc.isGenerator = false := by rfl) (hk : sc.kind = .function := by rfl) :
    ∀ P G s ws R, SH b P G H s → Is2 avs ws → (∀ x v H' s', x.is v → SH b P G H' s' → Q x H' → R (.ok (.ret v)) s') → codeAny (M b) A (.call (.ref a) ⟨ws, []⟩) R s := by
  intro P G s ws R S hw hR
  subst hsc
  obtain ⟨o, ho, hd⟩ := F.there
  obtain ⟨ws', hw', hb⟩ := hbind P G s ws S hw
  have hl' : ws'.length = ps.length := by rw [← hw'.length, hlen]
  have zkeys : (ps.zip ws').map (·.1) = ps := by rw [List.map_fst_zip]; omega
  have znd : ((ps.zip ws').map (·.1)).Nodup := by rw [zkeys, ← hps]; exact hnd.sublist (List.take_sublist _ _)
  have kmem : ∀ x ∈ ps, ∃ k, (k = .local ∨ k = .cell) ∧ fd.scope.names.lookup x = some k ∧ (x, k) ∈ fd.scope.names := fun x hx => by
    rw [← hps, ← List.map_take] at hx
    obtain ⟨p, hp, rfl⟩ := List.mem_map.mp hx
    have hm := List.mem_of_mem_take hp
    exact ⟨p.2, hpk p hp, lookup_of_mem (x := p.1) (a := p.2) hnd hm, hm⟩
  refine codeAny_call_function hroom (S.old ho) hd hco hgen F.body (F.code.keeps fun a o e => S.old e) ?_
  refine hb _ _ _ _ ?_
  rw [F.clo]
  refine wpAny_newFunctionEnv_cells hk (fun p hp => ?_) fun env he s' x => ?_
  · have hx : p.1 ∈ ps := by rw [← zkeys]; exact List.mem_map_of_mem (f := (·.1)) hp
    obtain ⟨k, hk2, hl, hm⟩ := kmem _ hx
    rcases hk2 with rfl | rfl
    · exact .inl hl
    · refine .inr ⟨hl, ?_⟩
      have : p.1 ∈ (cellsFrom (s.heap.objs.size + 1) fd.scope.names []).map (·.1) := by
        rw [cellsFrom_keys]
        simp only [List.map_nil, List.append_nil, List.mem_reverse]
        exact List.mem_map.mpr ⟨(p.1, .cell), List.mem_filter.mpr ⟨hm, rfl⟩, rfl⟩
      obtain ⟨q, hq, e⟩ := List.mem_map.mp this
      have cnd : ((cellsFrom (s.heap.objs.size + 1) fd.scope.names []).map (·.1)).Nodup := by
        rw [cellsFrom_keys]
        simp only [List.map_nil, List.append_nil]
        exact List.pairwise_reverse.mpr ((hnd.sublist (List.Sublist.map _ List.filter_sublist)).imp Ne.symm)
      rw [← e, lookup_of_mem (x := q.1) (a := q.2) cnd hq]; rfl
  · have ckeys : env.cells.map (·.1) = ((fd.scope.names.filter (·.2 == .cell)).map (·.1)).reverse := by
      rw [he]
      show (cellsFrom _ _ _).map _ = _
      rw [cellsFrom_keys]; simp
    have cnd : (env.cells.map (·.1)).Nodup := by
      rw [ckeys]
      exact List.pairwise_reverse.mpr ((hnd.sublist (List.Sublist.map _ List.filter_sublist)).imp Ne.symm)
    have hL : env.locals = s.heap.objs.size := by rw [he]; rfl
    have hsce : env.scope = fd.scope := by rw [he]; rfl
    have hkind : ∀ y, env.kindOf y = fd.scope.names.lookup y := fun y => by show env.scope.names.lookup y = _; rw [hsce]
    obtain ⟨h', tk, e, keep⟩ := x.toInCall.done
    have S' : SH b P G H s' := by rw [e]; exact S.ext keep
    have above : ∀ p ∈ env.cells, s.heap.objs.size < p.2 := fun p hp => by rw [← hL]; exact x.above p.1 p.2 hp
    have big : ∀ X : Addr, s.heap.objs.size ≤ X → X ∉ keys H ∧ ∀ o, ¬ P X o := fun X hX => ⟨fun q => by
      obtain ⟨o, ho⟩ := S.key_some q
      exact absurd (Heap.lt_size ho) (Nat.not_lt.mpr hX), fun o q => absurd (Heap.lt_size (S.keep _ _ q)) (Nat.not_lt.mpr hX)⟩
    have hcell : ∀ p ∈ env.cells, s'.heap.IsCell p.2 (bindC env.kindOf (ps.zip ws') (fun _ => none) p.1) := fun p hp => x.cell p.1 p.2 (lookup_of_mem (x := p.1) (a := p.2) cnd hp)
    have zget : ∀ (j : Nat) (x : Str) (av : AV), fd.scope.names.length = fd.scope.names.length → ((fd.scope.names.map (·.1))[j]? = some x) → (avs'.map some ++ List.replicate (fd.scope.names.length - ps.length) (none : Option AV))[j]? = some (some av) → ∃ v, (x, v) ∈ ps.zip ws' ∧ av.is v := fun j x av _ hx hv => by
      have hj : j < avs'.length := by
        by_cases hj : j < avs'.length
        · exact hj
        · exfalso
          rw [List.getElem?_append_right (by simpa using Nat.not_lt.mp hj), List.getElem?_replicate] at hv
          split at hv <;> cases hv
      rw [List.getElem?_append_left (by simpa using hj), List.getElem?_map] at hv
      cases ha : avs'[j]? with
      | none => rw [ha] at hv; cases hv
      | some z =>
        rw [ha] at hv; simp at hv; subst hv
        obtain ⟨v, hv, hz⟩ := hw'.get ha
        refine ⟨v, ?_, hz⟩
        have hp : ps[j]? = some x := by
          rw [← hps, List.getElem?_take, if_pos (by omega)]; exact hx
        have : (ps.zip ws')[j]? = some (x, v) := by
          rw [List.getElem?_zip_eq_some]; exact ⟨hp, hv⟩
        exact List.mem_of_getElem? this
    have St' : St b P G ⟨env, true⟩ (avs'.map some ++ List.replicate (fd.scope.names.length - ps.length) none) H s' := by
      refine ⟨⟨by rw [hsce]; exact hk, by rw [he]; exact F.glob, by rw [he]; exact F.bi, by rw [hsce]; exact hnd, ?_, fun p hp => by rw [hL]; exact Nat.ne_of_gt (above p hp)⟩, S', by rw [hL]; exact (big _ (Nat.le_refl _)).2, by rw [hL]; exact (big _ (Nat.le_refl _)).1,
        fun p hp => (big _ (Nat.le_of_lt (above p hp))).1, fun _ p hp => (big _ (Nat.le_of_lt (above p hp))).2, fun p hp => let ⟨o, ho, hd⟩ := hcell p hp; ⟨o, _, ho, hd⟩, ⟨_, x.toInCall.ns, fun j y av ej ev => ?_⟩, fun j y k av ej hk2 ev => ?_⟩
      · have := x.apart
        exact List.pairwise_map.mpr this
      · rw [hsce] at ej
        obtain ⟨v, hm, hv⟩ := zget j y av rfl (by rw [List.getElem?_map, ej]; rfl) ev
        exact ⟨v, bindL_get znd hm (by rw [hkind]; exact lookup_of_nodup hnd ej), hv⟩
      · rw [hsce] at ej
        obtain ⟨v, hm, hv⟩ := zget j y av rfl (by rw [List.getElem?_map, ej]; rfl) ev
        have hkk : env.kindOf y = some k := by rw [hkind]; exact lookup_of_nodup hnd ej
        have hy : y ∈ ps := by rw [← zkeys]; exact List.mem_map_of_mem (f := (·.1)) hm
        obtain ⟨k', hk', hl', hm'⟩ := kmem y hy
        rw [hkind, hl'] at hkk
        cases hkk
        have hkc : k = .cell := by
          rcases hk' with rfl | rfl
          · rcases hk2 with q | q <;> cases q
          · rfl
        subst hkc
        have : y ∈ env.cells.map (·.1) := by
          rw [ckeys, List.mem_reverse]
          exact List.mem_map.mpr ⟨(y, .cell), List.mem_filter.mpr ⟨hm', rfl⟩, rfl⟩
        obtain ⟨q, hq, eq⟩ := List.mem_map.mp this
        obtain ⟨oc, hoc, hdc⟩ := hcell q hq
        refine ⟨q.2, oc, v, by rw [← eq]; exact lookup_of_mem (x := q.1) (a := q.2) cnd hq, hoc, ?_, hv⟩
        rw [hdc, eq, bindC_get znd hm (by rw [hkind, hl']; simp)]
    refine ⟨S'.nolim, ?_⟩
    have hh := h ⟨env, true⟩ (A.deeper env) hsce rfl ckeys ⟨rfl, rfl, rfl⟩ (by rw [he]; exact ⟨rfl, rfl⟩)
    refine codeAny_func (aw_use (hh P G s' St') (fun fl s2 y vs' H' hy S2 hq => ?_))
    obtain ⟨H'', T, hq⟩ := hfin _ _ _ _ _ _ _ hsce rfl S2 hq
    have := hR y.out (flowVal fl) H'' s2 (AF.out_is hy) T hq
    cases fl <;> exact this
theorem h_fnC {a : Addr} {fd : FuncData} {body : List Stmt} {sc : Scope} {ps : List Str} {avs avs' : List AV} {Q : AV → Led → Prop} (F : FnAt b a fd body) (hsc : fd.scope = sc) (hroom : A.depth < recursionLimit)
    (hps : (sc.names.map (·.1)).take ps.length = ps) (hlen : avs'.length = ps.length)
    (hpk : ∀ p ∈ sc.names.take ps.length, p.2 = .local ∨ p.2 = .cell)
    (hbind : ∀ P G s ws, SH b P G H s → Is2 avs ws → ∃ ws', Is2 avs' ws' ∧ BindsTo s fd ⟨ws, []⟩ (ps.zip ws'))
    (h : ∀ (f : Fm) (A' : Around), f.env.scope = sc → f.own = true → f.env.cells.map (·.1) = ((sc.names.filter (·.2 == .cell)).map (·.1)).reverse → Deeper A A' → (f.env.code = fd.code ∧ f.env.qual = fd.qualname ++ ".<locals>.") →
      awF b A' f (avs'.map some ++ List.replicate (sc.names.length - ps.length) none) H (execs body f.env) fun fl vs' H' => Q fl.out H')
    (hnd : (sc.names.map (·.1)).Nodup := by decide) (hco : sc.isCoroutine = false := by rfl) (hgen : sc.isGenerator = false := by rfl) (hk : sc.kind = .function := by rfl) :
    ∀ P G s ws R, SH b P G H s → Is2 avs ws → (∀ x v H' s', x.is v → SH b P G H' s' → Q x H' → R (.ok (.ret v)) s') → codeAny (M b) A (.call (.ref a) ⟨ws, []⟩) R s :=
  h_fnG (Qb := fun _ fl _ H' => Q fl.out H') F hsc hroom hps hlen hpk hbind h (fun _ _ _ H' _ _ _ _ _ S hq => ⟨H', S.sh, hq⟩) hnd hco hgen hk
theorem h_fnX {a : Addr} {fd : FuncData} {body : List Stmt} {sc : Scope} {ps : List Str} {avs avs' : List AV} {Q : AV → Led → Prop} (F : FnAt b a fd body) (hsc : fd.scope = sc) (hroom : A.depth < recursionLimit)
    (hps : (sc.names.map (·.1)).take ps.length = ps) (hlen : avs'.length = ps.length)
    (hpk : ∀ p ∈ sc.names.take ps.length, p.2 = .local ∨ p.2 = .cell)
    (hbind : ∀ P G s ws, SH b P G H s → Is2 avs ws → ∃ ws', Is2 avs' ws' ∧ BindsTo s fd ⟨ws, []⟩ (ps.zip ws'))
    (h : ∀ (f : Fm) (A' : Around), f.env.scope = sc → f.own = true → f.env.cells.map (·.1) = ((sc.names.filter (·.2 == .cell)).map (·.1)).reverse → Deeper A A' → (f.env.code = fd.code ∧ f.env.qual = fd.qualname ++ ".<locals>.") →
      awF b A' f (avs'.map some ++ List.replicate (sc.names.length - ps.length) none) H (execs body f.env) fun fl vs' H' => ∃ (j : Nat) (x : Str) (av : AV), sc.names[j]? = some (x, NameKind.cell) ∧ vs'[j]? = some (some av) ∧ ∀ c, f.env.cells.lookup x = some c → Q fl.out ((c, .cell av) :: H'))
    (hnd : (sc.names.map (·.1)).Nodup := by decide) (hco : sc.isCoroutine = false := by rfl) (hgen : sc.isGenerator = false := by rfl) (hk : sc.kind = .function := by rfl) :
    ∀ P G s ws R, SH b P G H s → Is2 avs ws → (∀ x v H' s', x.is v → SH b P G H' s' → Q x H' → R (.ok (.ret v)) s') → codeAny (M b) A (.call (.ref a) ⟨ws, []⟩) R s :=
  h_fnG (Qb := fun f fl vs' H' => ∃ (j : Nat) (x : Str) (av : AV), sc.names[j]? = some (x, NameKind.cell) ∧ vs'[j]? = some (some av) ∧ ∀ c, f.env.cells.lookup x = some c → Q fl.out ((c, .cell av) :: H')) F hsc hroom hps hlen hpk hbind h
    (fun f fl vs' H' s P G hs hown S ⟨j, x, av, e1, e2, e3⟩ => by
      obtain ⟨c, o, v, hl, ho, hd, hv⟩ := S.cel j x .cell av (by rw [hs]; exact e1) (.inl rfl) e2
      have hm := mem_of_lookup hl
      exact ⟨_, S.sh.add (ao := .cell av) (S.ck _ hm) (S.cown hown _ hm) ⟨o, v, ho, hd, hv⟩, e3 c hl⟩) hnd hco hgen hk
theorem h_fn {a : Addr} {fd : FuncData} {body : List Stmt} {sc : Scope} {ps : List Str} {avs avs' : List AV} {Q : AV → Led → Prop} (F : FnAt b a fd body) (hsc : fd.scope = sc) (hroom : A.depth < recursionLimit)
    (hps : (sc.names.map (·.1)).take ps.length = ps) (hlen : avs'.length = ps.length)
    (hpk : ∀ p ∈ sc.names.take ps.length, p.2 = .local ∨ p.2 = .cell)
    (hbind : ∀ P G s ws, SH b P G H s → Is2 avs ws → ∃ ws', Is2 avs' ws' ∧ BindsTo s fd ⟨ws, []⟩ (ps.zip ws'))
    (h : ∀ (f : Fm) (A' : Around), f.env.scope = sc → f.own = true → f.env.cells.map (·.1) = ((sc.names.filter (·.2 == .cell)).map (·.1)).reverse → Deeper A A' → (f.env.code = fd.code ∧ f.env.qual = fd.qualname ++ ".<locals>.") →
      awF b A' f (avs'.map some ++ List.replicate (sc.names.length - ps.length) none) H (execs body f.env) fun fl vs' H' => Q fl.out H')
    (hnd : (sc.names.map (·.1)).Nodup := by decide) (hco : sc.isCoroutine = false := by rfl) (hgen : sc.isGenerator = false := by rfl) (hk : sc.kind = .function := by rfl) :
    ∀ g ws, (AV.ref a).is g → Is2 avs ws → ahE b A H (call g ws []) Q := by
  intro g ws hg hw P G s S
  cases hg
  exact wpAny_call (h_fnC F hsc hroom hps hlen hpk hbind h hnd hco hgen hk P G s ws _ S hw fun x v H' s' hx hS hq => ⟨x, H', hx, hS, hq⟩)
end

/-! plain items: whole numbers and texts -/
noncomputable def scal : AV → Bool
  | .int _ => true
  | .str _ => true
  | _ => false
noncomputable def veq : Value → Value → Bool
  | .int a _, .int b _ => a == b
  | .str a _, .str b _ => a == b
  | _, _ => false
noncomputable def aeq : AV → AV → Bool
  | .int a, .int b => a == b
  | .str a, .str b => a == b
  | _, _ => false
theorem str_beq (l m : List Nat) : ((⟨l.toArray⟩ : Str) == ⟨m.toArray⟩) = (l == m) := by
  by_cases h : l = m
  · subst h; simp
  · have : (⟨l.toArray⟩ : Str) ≠ ⟨m.toArray⟩ := fun e => h (by injection e with e; simpa using e)
    rw [beq_eq_false_iff_ne.mpr h, beq_eq_false_iff_ne.mpr this]
theorem veq_aeq {x y : AV} {v w : Value} (hv : x.is v) (hw : y.is w) (hx : scal x = true) (hy : scal y = true) : veq v w = aeq x y := by
  cases x <;> simp only [scal] at hx <;> first | cases hx | skip
  all_goals cases y <;> simp only [scal] at hy <;> first | cases hy | skip
  all_goals obtain ⟨t, rfl⟩ := hv; obtain ⟨u, rfl⟩ := hw
  · rfl
  · rfl
  · rfl
  · exact str_beq _ _
theorem aeq_iff {x y : AV} (hx : scal x = true) (hy : scal y = true) : aeq x y = decide (x = y) := by
  cases x <;> simp only [scal] at hx <;> first | cases hx | skip
  all_goals cases y <;> simp only [scal] at hy <;> first | cases hy | skip
  · rename_i a b; by_cases h : a = b <;> simp [aeq, h]
  · simp [aeq]
  · simp [aeq]
  · rename_i a b; by_cases h : a = b <;> simp [aeq, h]
theorem eqAt_of {x y : AV} {v w : Value} {A : Around} {s : Shared} (hv : x.is v) (hw : y.is w) (hx : scal x = true) (hy : scal y = true) : SeqAt.EqAt A s v w (aeq x y) := by
  rw [← veq_aeq hv hw hx hy]
  cases x <;> simp only [scal] at hx <;> first | cases hx | skip
  all_goals cases y <;> simp only [scal] at hy <;> first | cases hy | skip
  all_goals obtain ⟨t, rfl⟩ := hv; obtain ⟨u, rfl⟩ := hw
  · exact SeqAt.EqAt.int_int _ _ _ _
  · exact SeqAt.EqAt.int_str _ _ _ _
  · exact SeqAt.EqAt.str_int _ _ _ _
  · exact SeqAt.EqAt.str_str _ _ _ _
theorem eqAll_at : ∀ {xs ys : List AV} {ws ws' : List Value}, Is2 xs ws → Is2 ys ws' → xs.all scal = true → ys.all scal = true → ws.length = ws'.length →
    ((List.range ws.length).all fun j => match ws[j]?, ws'[j]? with | some v, some w => veq v w | _, _ => false) = decide (xs = ys)
  | [], [], [], [], _, _, _, _, _ => by simp
  | x :: xs, y :: ys, v :: ws, w :: ws', h, h', hs, hs', hl => by
    simp only [List.all_cons, Bool.and_eq_true] at hs hs'
    have ih := eqAll_at h.2 h'.2 hs.2 hs'.2 (by simpa using hl)
    have e : veq v w = decide (x = y) := by rw [veq_aeq h.1 h'.1 hs.1 hs'.1, aeq_iff hs.1 hs'.1]
    rw [List.length_cons, List.range_succ_eq_map, List.all_cons, List.all_map]
    have : ((fun j => match (v :: ws)[j]?, (w :: ws')[j]? with | some v, some w => veq v w | _, _ => false) ∘ Nat.succ) = fun j => match ws[j]?, ws'[j]? with | some v, some w => veq v w | _, _ => false := by
      funext j; simp
    rw [this, ih]
    simp only [List.getElem?_cons_zero, e]
    by_cases h1 : x = y <;> by_cases h2 : xs = ys <;> simp [h1, h2]
  | [], _ :: _, _, [], _, h, _, _, _ => h.elim
  | [], _ :: _, [], _ :: _, _, _, _, _, hl => by simp at hl
  | [], _ , _ :: _, _, h, _, _, _, _ => h.elim
  | _ :: _, _, [], _, h, _, _, _, _ => h.elim
  | _ :: _, [], _ :: _, [], _, _, _, _, hl => by simp at hl
  | _ :: _, [], _ :: _, _ :: _, _, h, _, _, _ => h.elim
  | _ :: _, _ :: _, _ :: _, [], _, h, _, _, _ => h.elim

section
variable {b : Bs} {A : Around} {f : Fm} {vs : Vs} {H : Led}
theorem Is2.mem_of : ∀ {xs : List AV} {ws : List Value} {v : Value}, Is2 xs ws → v ∈ ws → ∃ y ∈ xs, y.is v
  | y :: xs, u :: ws, v, h, hm => by
    rcases List.mem_cons.mp hm with rfl | q
    · exact ⟨y, .head _, h.1⟩
    · obtain ⟨z, hz, k⟩ := Is2.mem_of h.2 q
      exact ⟨z, .tail _ hz, k⟩
  | [], [], _, _, hm => nomatch hm
  | [], _ :: _, _, h, _ => h.elim
  | _ :: _, [], _, h, _ => h.elim
theorem c_eql {a c : Addr} {xs ys : List AV} {Q : AV → Vs → Led → Prop} (ma : (a, AO.list xs) ∈ H) (mc : (c, AO.list ys) ∈ H) (hx : xs.all scal = true) (hy : ys.all scal = true) (hu : A.units < cLine)
    (h : Q (.bool (decide (xs = ys))) vs H) : ∀ v w, (AV.ref a).is v → (AV.ref c).is w → awE b A f vs H (compareOp .Eq v w) Q := by
  intro v w hv hw P G s S
  cases hv; cases hw
  obtain ⟨ws, n, ho, h2⟩ := S.sh.led _ ma
  obtain ⟨ws', n', ho', h2'⟩ := S.sh.led _ mc
  by_cases hl : ws.length = ws'.length
  · have e := eqAll_at h2 h2' hx hy hl
    refine richCompare_meets_room (op := .Eq) ⟨_, ho, rfl⟩ ⟨_, ho', rfl⟩ PySem.F.slot_list_eq PySem.F.entry_list_eq (PySem.F.args_list_eq_2 _ _) (SeqAt.list_eqAt a c ws.toArray ws'.toArray n n' none none #[] #[] (by simpa using hl) (fun j => match ws[j]?, ws'[j]? with | some v, some w => veq v w | _, _ => false))
      ⟨ho, ho', fun j h1 h3 => ?_, (fun x => nomatch x), ?_⟩ hu
    · simp only [List.size_toArray] at h1 h3
      simp only [List.getElem?_eq_getElem h1, List.getElem?_eq_getElem h3, List.getElem_toArray]
      obtain ⟨x, hx1, hx2⟩ := h2.mem_of (List.getElem_mem h1)
      obtain ⟨y, hy1, hy2⟩ := h2'.mem_of (List.getElem_mem h3)
      rw [veq_aeq hx2 hy2 (List.all_eq_true.mp hx _ hx1) (List.all_eq_true.mp hy _ hy1)]
      exact eqAt_of hx2 hy2 (List.all_eq_true.mp hx _ hx1) (List.all_eq_true.mp hy _ hy1)
    · rw [List.size_toArray, e]
      exact ⟨.bool _, vs, H, rfl, S, h⟩
  · have hne : xs ≠ ys := fun q => hl (by rw [← h2.length, ← h2'.length, q])
    have e : decide (xs = ys) = false := decide_eq_false hne
    rw [e] at h
    refine richCompare_meets_room (op := .Eq) ⟨_, ho, rfl⟩ ⟨_, ho', rfl⟩ PySem.F.slot_list_eq PySem.F.entry_list_eq (PySem.F.args_list_eq_2 _ _) (SeqAt.list_eq_lengthsAt a c ws.toArray ws'.toArray n n' none none #[] #[] (by simpa using hl))
      ⟨ho, ho', (fun x => nomatch x), .bool _, vs, H, rfl, S, h⟩ hu
theorem c_nel {a c : Addr} {xs ys : List AV} {Q : AV → Vs → Led → Prop} (ma : (a, AO.list xs) ∈ H) (mc : (c, AO.list ys) ∈ H) (hx : xs.all scal = true) (hy : ys.all scal = true) (hu : A.units < cLine)
    (h : Q (.bool (!decide (xs = ys))) vs H) : ∀ v w, (AV.ref a).is v → (AV.ref c).is w → awE b A f vs H (compareOp .NotEq v w) Q := by
  intro v w hv hw P G s S
  cases hv; cases hw
  obtain ⟨ws, n, ho, h2⟩ := S.sh.led _ ma
  obtain ⟨ws', n', ho', h2'⟩ := S.sh.led _ mc
  by_cases hl : ws.length = ws'.length
  · have e := eqAll_at h2 h2' hx hy hl
    refine richCompare_meets_room (op := .NotEq) ⟨_, ho, rfl⟩ ⟨_, ho', rfl⟩ PySem.F.slot_list_ne PySem.F.entry_list_ne (PySem.F.args_list_ne_2 _ _) (SeqAt.list_neAt a c ws.toArray ws'.toArray n n' none none #[] #[] (by simpa using hl) (fun j => match ws[j]?, ws'[j]? with | some v, some w => veq v w | _, _ => false))
      ⟨ho, ho', fun j h1 h3 => ?_, (fun x => nomatch x), ?_⟩ hu
    · simp only [List.size_toArray] at h1 h3
      simp only [List.getElem?_eq_getElem h1, List.getElem?_eq_getElem h3, List.getElem_toArray]
      obtain ⟨x, hx1, hx2⟩ := h2.mem_of (List.getElem_mem h1)
      obtain ⟨y, hy1, hy2⟩ := h2'.mem_of (List.getElem_mem h3)
      rw [veq_aeq hx2 hy2 (List.all_eq_true.mp hx _ hx1) (List.all_eq_true.mp hy _ hy1)]
      exact eqAt_of hx2 hy2 (List.all_eq_true.mp hx _ hx1) (List.all_eq_true.mp hy _ hy1)
    · rw [List.size_toArray, e]
      exact ⟨.bool _, vs, H, rfl, S, h⟩
  · have hne : xs ≠ ys := fun q => hl (by rw [← h2.length, ← h2'.length, q])
    have e : decide (xs = ys) = false := decide_eq_false hne
    rw [e] at h
    refine richCompare_meets_room (op := .NotEq) ⟨_, ho, rfl⟩ ⟨_, ho', rfl⟩ PySem.F.slot_list_ne PySem.F.entry_list_ne (PySem.F.args_list_ne_2 _ _) (SeqAt.list_ne_lengthsAt a c ws.toArray ws'.toArray n n' none none #[] #[] (by simpa using hl))
      ⟨ho, ho', (fun x => nomatch x), .bool _, vs, H, rfl, S, h⟩ hu
theorem Is2.any {x : AV} {w : Value} (hw : x.is w) (hx : scal x = true) : ∀ {xs : List AV} {ws : List Value}, Is2 xs ws → xs.all scal = true → (ws.any fun v => veq v w) = xs.any fun y => aeq y x
  | [], [], _, _ => rfl
  | y :: xs, v :: ws, h, hs => by
    simp only [List.all_cons, Bool.and_eq_true] at hs
    simp only [List.any_cons, Is2.any hw hx h.2 hs.2, veq_aeq h.1 hw hs.1 hx]
  | [], _ :: _, h, _ => h.elim
  | _ :: _, [], h, _ => h.elim
theorem c_inl {a : Addr} {xs : List AV} {x : AV} {Q : AV → Vs → Led → Prop} (ma : (a, AO.list xs) ∈ H) (hx : xs.all scal = true) (hs : scal x = true)
    (h : Q (.bool (xs.any fun y => aeq y x)) vs H) : ∀ v w, x.is v → (AV.ref a).is w → awE b A f vs H (compareOp .In v w) Q := by
  intro v w hv hw P G s S
  cases hw
  obtain ⟨ws, hL, h2⟩ := (S.sh.led _ ma).isList
  refine SeqAt.in_listAt (fun y => veq y v) hL (fun y hy => ?_) ?_
  · obtain ⟨z, hz, k⟩ := h2.mem_of (by simpa using hy)
    show SeqAt.EqAt _ _ y v (veq y v)
    rw [veq_aeq k hv (List.all_eq_true.mp hx _ hz) hs]
    exact eqAt_of k hv (List.all_eq_true.mp hx _ hz) hs
  · refine ⟨.bool _, vs, H, ?_, S, h⟩
    rw [List.any_toArray, h2.any hv hs hx]
    rfl
theorem c_notinl {a : Addr} {xs : List AV} {x : AV} {Q : AV → Vs → Led → Prop} (ma : (a, AO.list xs) ∈ H) (hx : xs.all scal = true) (hs : scal x = true)
    (h : Q (.bool (!xs.any fun y => aeq y x)) vs H) : ∀ v w, x.is v → (AV.ref a).is w → awE b A f vs H (compareOp .NotIn v w) Q := by
  intro v w hv hw P G s S
  cases hw
  obtain ⟨ws, hL, h2⟩ := (S.sh.led _ ma).isList
  refine SeqAt.notIn_listAt (fun y => veq y v) hL (fun y hy => ?_) ?_
  · obtain ⟨z, hz, k⟩ := h2.mem_of (by simpa using hy)
    show SeqAt.EqAt _ _ y v (veq y v)
    rw [veq_aeq k hv (List.all_eq_true.mp hx _ hz) hs]
    exact eqAt_of k hv (List.all_eq_true.mp hx _ hz) hs
  · refine ⟨.bool _, vs, H, ?_, S, h⟩
    rw [List.any_toArray, h2.any hv hs hx]
    rfl

/-! methods of texts and lists -/
noncomputable def MTy (o : AV) (T : String) (H : Led) : Prop := match o with
  | .str _ => T = "str"
  | .ref a => T = "list" ∧ ∃ xs, (a, AO.list xs) ∈ H
  | _ => False
noncomputable abbrev KMe2 (b : Bs) (A : Around) (f : Fm) (id : String) (Q : AV → Vs → Led → Prop) (ov : AV) : List AV → Vs → Led → Prop := fun xs vs2 H2 => ∀ v ws, ov.is v → Is2 xs ws → awE b A f vs2 H2 (call (.builtin id) (v :: ws) []) Q
noncomputable abbrev KMe (b : Bs) (A : Around) (f : Fm) (T id : String) (pos : Pos) (e : Expr) (r : List Expr) (Q : AV → Vs → Led → Prop) : AV → Vs → Led → Prop := fun ov vs1 H1 => MTy ov T H1 ∧ awL b A f vs1 H1 (spliced (backTo pos (starEach (e :: r) f.env))) (KMe2 b A f id Q ov)
theorem e_meth {o : Expr} {name : Str} {apos pos : Pos} {e : Expr} {r : List Expr} {T id : String} {Q : AV → Vs → Led → Prop} (pa : PlainAttrs T) (slot : Slot T name id)
    (hty : typeOf (.builtin id) = pure (.type "method_descriptor"))
    (h : awE b A f vs H (eval o f.env) (KMe b A f T id pos e r Q))
    (hbase : attributeBase o name f.env (eval o f.env) = eval o f.env := by rfl)
    (hfew : ((backTo pos (starEach (e :: r) f.env)).all (fun x => !x.1) && (backToKw pos (keywordEach [] f.env)).all (fun x => x.1.isSome) && decide ((e :: r).length + ([] : List Keyword).length + (if ([] : List Keyword).isEmpty then 0 else 1) < 30)) = true := by rfl)
    (hline : (apos.endLine == pos.line) = true := by rfl)
    (he : starEach (e :: r) f.env = (false, eval e f.env) :: starEach r f.env := by rfl) (hp : (backTo pos (starEach (e :: r) f.env)).any (·.1) = false := by rfl) :
    awE b A f vs H (eval (.Call (.Attribute o name apos) (e :: r) [] pos) f.env) Q := fun P G s S => by
  refine wpAny_Call_method hbase hfew hline pa slot hty (aw_use (h P G s S) (fun ov s1 x vs1 H1 hx S1 ⟨ht, h1⟩ => ⟨?_, ?_, ?_⟩))
  · unfold MTy at ht
    split at ht
    · obtain ⟨t, rfl⟩ := hx; subst ht; exact typeIs_str _ _ _
    · cases hx; obtain ⟨rfl, xs, hm⟩ := ht
      obtain ⟨ws, hL, _⟩ := (S1.sh.led _ hm).isList
      exact hL.typeIs
    · exact ht.elim
  · rintro a rfl
    unfold MTy at ht
    split at ht
    · obtain ⟨t, q⟩ := hx; cases q
    · cases hx; obtain ⟨rfl, xs, hm⟩ := ht
      obtain ⟨ws, n, ho, _⟩ := S1.sh.led _ hm
      exact ⟨_, ho, rfl⟩
    · exact ht.elim
  · refine callWith_builtin hp ?_
    have h2 := h1 P G s1 S1
    rw [he] at h2 ⊢
    exact Calls.evalArgs_plain (wpAny_mono h2 (fun ws s2 ⟨xs, vs2, H2, hxs, S2, h3⟩ => h3 ov ws hx hxs P G s2 S2) fun _ _ e => e)
end

section
variable {b : Bs} {A : Around} {f : Fm} {vs : Vs} {H : Led}
theorem St.upd {P : Prot} {G : GProt} {s : Shared} {H' : Led} {a : Addr} {o o' : AO} {h' : Heap} {t : Nat} (S : St b P G f vs H s) (u : LUpd a o o' H H') (hs : Heap.ExtBut a s.heap h') (ho : OR h' a o') :
    St b P G f vs H' { s with heap := h', toks := t } := S.up (S.down.upd u hs ho)

theorem SH.add' {P : Prot} {G : GProt} {s : Shared} {ao : AO} {a : Addr} {h' : Heap} {t : Nat} (S : SH b P G H s) (hk : ∀ a o, s.heap.get? a = some o → h'.get? a = some o) (ha : s.heap.objs.size ≤ a) (ho : OR h' a ao) :
    SH b P G ((a, ao) :: H) { s with heap := h', toks := t } :=
  (S.ext hk).add (fun q => by obtain ⟨o, ho⟩ := S.key_some q; exact absurd (Heap.lt_size ho) (Nat.not_lt.mpr ha)) (fun o q => absurd (Heap.lt_size (S.keep _ _ q)) (Nat.not_lt.mpr ha)) ho
theorem St.add' {P : Prot} {G : GProt} {s : Shared} {ao : AO} {a : Addr} {h' : Heap} {t : Nat} (S : St b P G f vs H s) (hk : ∀ a o, s.heap.get? a = some o → h'.get? a = some o) (ha : s.heap.objs.size ≤ a) (ho : OR h' a ao) :
    St b P G f vs ((a, ao) :: H) { s with heap := h', toks := t } := S.up (S.down.add' hk ha ho)
theorem k_append {a : Addr} {xs : List AV} {x : AV} {H' : Led} {Q : AV → Vs → Led → Prop} (u : LUpd a (.list xs) (.list (xs ++ [x])) H H') (hz : xs.length ≤ 2 ^ 24) (h : Q .none vs H') :
    ∀ v ws, (AV.ref a).is v → Is2 [x] ws → awE b A f vs H (call (.builtin "list.append") (v :: ws) []) Q := by
  intro v ws hv hw P G s S
  cases hv
  replace hw := Is2.inv1 hw
  obtain ⟨w, rfl, hw⟩ := hw
  obtain ⟨its, n, ho, h2⟩ := S.sh.led _ u.mem
  have hn := h2.length
  have hpl : s.heap.PlainList a its.toArray := ⟨n, ho⟩
  with_reducible refine wpAny_list_append_plain (items := its.toArray) hpl (fun h' hp hs => ?_) ?_
  · obtain ⟨n', ho'⟩ := hp
    exact ⟨.none, vs, H', rfl, S.upd (t := s.toks) u hs.extBut ⟨its ++ [w], n', by rw [ho']; simp, h2.append (Is2.one hw)⟩, h⟩
  · rw [List.size_toArray, ← hn]; exact hz

noncomputable def cntN (c : Nat) (l : List Nat) : Nat := l.countP (· == c)
theorem cnt_eq (c : Nat) : ∀ l : List Nat, PyProof.Rows.cnt c l = (cntN c l : Int)
  | [] => rfl
  | n :: r => by
    rw [PyProof.Rows.cnt_cons, cnt_eq c r, cntN, cntN, List.countP_cons]
    by_cases h : n = c
    · simp [h]; omega
    · simp [h]
theorem k_count {l : List Nat} {c : Nat} {Q : AV → Vs → Led → Prop} (h : Q (.int (cntN c l)) vs H) :
    ∀ v ws, (AV.str l).is v → Is2 [.str [c]] ws → awE b A f vs H (call (.builtin "str.count") (v :: ws) []) Q := by
  intro v ws hv hw P G s S
  obtain ⟨t, rfl⟩ := hv
  replace hw := Is2.inv1 hw
  obtain ⟨w, rfl, ⟨u, hw⟩⟩ := hw
  subst hw
  refine SC.count ⟨.int _, vs, H, ⟨s.toks, ?_⟩, S.tok _, h⟩
  have := count_cnt ⟨l.toArray⟩ c
  rw [cnt_eq] at this
  show Value.int (Txt.count ⟨l.toArray⟩ ⟨[c].toArray⟩) _ = _
  rw [show (⟨[c].toArray⟩ : Str) = ⟨#[c]⟩ from rfl, this]

/-- texts in a list -/
noncomputable def strsL : List AV → Option (List (List Nat))
  | [] => some []
  | .str l :: r => (strsL r).map (l :: ·)
  | _ => none
noncomputable def catL : List (List Nat) → List Nat
  | [] => []
  | l :: r => l ++ catL r
theorem strsAre_of : ∀ {xs : List AV} {ws : List Value} {ls : List (List Nat)}, Is2 xs ws → xs = ls.map AV.str → StrsAre ws (ls.map fun l => ⟨l.toArray⟩)
  | [], [], [], _, _ => .nil
  | x :: xs, v :: ws, l :: ls, h, e => by
    simp only [List.map_cons, List.cons.injEq] at e
    obtain ⟨rfl, e⟩ := e
    obtain ⟨t, rfl⟩ := h.1
    exact .cons _ _ (strsAre_of h.2 e)
  | [], _ :: _, _, h, _ => h.elim
  | _ :: _, [], _, h, _ => h.elim
  | _ :: _, _ :: _, [], _, e => by cases e
  | [], [], _ :: _, _, e => by cases e
theorem glued_cat : ∀ (ls : List (List Nat)) (acc : Array Nat), (ls.map fun l => (⟨l.toArray⟩ : Str)).foldl (fun acc p => acc ++ (⟨#[]⟩ : Str).cps ++ p.cps) acc = acc ++ (catL ls).toArray
  | [], acc => by simp [catL]
  | l :: r, acc => by
    simp only [List.map_cons, List.foldl_cons, catL]
    rw [glued_cat r]
    simp
theorem join_cat : ∀ ls : List (List Nat), Txt.join ⟨#[]⟩ (ls.map fun l => (⟨l.toArray⟩ : Str)) = ⟨(catL ls).toArray⟩
  | [] => rfl
  | l :: r => by
    unfold Txt.join Builtin.Str.glued
    simp only [List.map_cons, List.drop_succ_cons, List.drop_zero, List.headD_cons]
    rw [glued_cat r]
    simp [catL]
theorem sum_len (ls : List (List Nat)) : ((ls.map fun l => (⟨l.toArray⟩ : Str)).map (·.length)).sum = (catL ls).length := by
  induction ls with
  | nil => rfl
  | cons l r ih =>
    simp only [List.map_cons, List.sum_cons, ih, catL, List.length_append]
    congr 1
theorem k_join {a : Addr} {ls : List (List Nat)} {Q : AV → Vs → Led → Prop} (hm : (a, AO.list (ls.map AV.str)) ∈ H) (hz : (catL ls).length ≤ 2 ^ 24) (h : Q (.str (catL ls)) vs H) :
    ∀ v ws, (AV.str []).is v → Is2 [.ref a] ws → awE b A f vs H (call (.builtin "str.join") (v :: ws) []) Q := by
  intro v ws hv hw P G s S
  obtain ⟨t, rfl⟩ := hv
  replace hw := Is2.inv1 hw
  obtain ⟨w, rfl, hw⟩ := hw
  cases hw
  obtain ⟨its, hL, h2⟩ := (S.sh.led _ hm).isList
  refine PyProof.Rows.join_list (ys := ls.map fun l => (⟨l.toArray⟩ : Str)) hL (by simpa using strsAre_of h2 rfl) ?_ fun t' k => ?_
  · rw [sum_len]
    show _ + _ * (⟨#[]⟩ : Str).length ≤ _
    have : (⟨#[]⟩ : Str).length = 0 := rfl
    rw [this]; omega
  · refine ⟨.str _, vs, H, ⟨t', ?_⟩, S.tok _, h⟩
    have := join_cat ls
    show Value.str (Txt.join ⟨#[]⟩ _) t' = _
    rw [this]

noncomputable def isIntL : List AV → List Int → Prop := fun xs ns => xs = ns.map AV.int
theorem intsAre_of : ∀ {xs : List AV} {ws : List Value} {ns : List Int}, Is2 xs ws → xs = ns.map AV.int → IntsAre ws ns
  | [], [], [], _, _ => .nil
  | x :: xs, v :: ws, l :: ls, h, e => by
    simp only [List.map_cons, List.cons.injEq] at e
    obtain ⟨rfl, e⟩ := e
    obtain ⟨t, rfl⟩ := h.1
    exact .cons _ _ (intsAre_of h.2 e)
  | [], _ :: _, _, h, _ => h.elim
  | _ :: _, [], _, h, _ => h.elim
  | _ :: _, _ :: _, [], _, e => by cases e
  | [], [], _ :: _, _, e => by cases e
theorem is2_ints : ∀ {ws : List Value} {ns : List Int}, IntsAre ws ns → Is2 (ns.map AV.int) ws
  | _, _, .nil => trivial
  | _, _, .cons _ t r => ⟨⟨t, rfl⟩, is2_ints r⟩
theorem k_index {a : Addr} {ns : List Int} {k : Int} {Q : AV → Vs → Led → Prop} (hm : (a, AO.list (ns.map AV.int)) ∈ H) (hlay : PyData.layable0 (.list (ns.map .int)) = true) (hk : k ∈ ns) (h : Q (.int (ns.idxOf k : Nat)) vs H) :
    ∀ v ws, (AV.ref a).is v → Is2 [.int k] ws → awE b A f vs H (call (.builtin "list.index") (v :: ws) []) Q := by
  intro v ws hv hw P G s S
  cases hv
  replace hw := Is2.inv1 hw
  obtain ⟨w, rfl, ⟨u, hw⟩⟩ := hw
  subst hw
  obtain ⟨its, hL, h2⟩ := (S.sh.led _ hm).isList
  exact index_list_ints hL (intsAre_of h2 rfl) hlay hk ⟨.int _, vs, H, ⟨_, rfl⟩, S.tok _, h⟩
theorem k_pop0 {a : Addr} {xs : List AV} {x : AV} {H' : Led} {Q : AV → Vs → Led → Prop} (u : LUpd a (.list (x :: xs)) (.list xs) H H') (hz : xs.length < 2 ^ 24) (h : Q x vs H') :
    ∀ v ws, (AV.ref a).is v → Is2 [.int 0] ws → awE b A f vs H (call (.builtin "list.pop") (v :: ws) []) Q := by
  intro v ws hv hw P G s S
  cases hv
  replace hw := Is2.inv1 hw
  obtain ⟨w, rfl, ⟨t, hw⟩⟩ := hw
  subst hw
  obtain ⟨its, n, ho, h2⟩ := S.sh.led _ u.mem
  match its, h2 with
  | y :: its, ⟨hy, h3⟩ =>
    have hn := h3.length
    refine call_meets PySem.F.slot_list_pop ⟨_, ho, rfl⟩ PySem.F.entry_list_pop (PySem.F.args_list_pop_2 _ _) (PySem.MeetsSeq.list_pop_at a (y :: its).toArray n 0 t 0 y (by decide) (by simp [seqIndex?]) (by simp) (by
      rw [List.size_toArray, List.length_cons, ← hn]; exact hz)) ⟨ho, x, vs, H', hy, S.upd (t := s.toks) u (Heap.SameBut.update ..).extBut ⟨its, n + 1, ?_, h3⟩, h⟩
    rw [Heap.get?_update_self _ ho (by simp [Obj.mapSeq, Obj.isFreed])]
    simp [Obj.mapSeq]

theorem k_sorted {a : Addr} {ns : List Int} {Q : AV → Vs → Led → Prop} (hm : (a, AO.list (ns.map AV.int)) ∈ H) (h64 : ns.length < 64)
    (h : ∀ r ms, List.Perm ms ns → ms.Pairwise (· ≤ ·) → Q (.ref r) vs ((r, AO.list (ms.map AV.int)) :: H)) :
    ∀ g ws, (AV.con (.builtin "sorted")).is g → Is2 [.ref a] ws → awE b A f vs H (call g ws []) Q := by
  intro g ws hg hw P G s S
  cases hg
  replace hw := Is2.inv1 hw
  obtain ⟨w, rfl, hw⟩ := hw
  cases hw
  obtain ⟨its, hL, h2⟩ := (S.sh.led _ hm).isList
  have hn := h2.length
  refine sorted_ints hL (intsAre_of h2 rfl) (by rw [← hn]; simpa using h64) fun out ms hi hp ho => ?_
  obtain ⟨e, he⟩ := sortedAll_at s.heap its out
  exact ⟨.ref _, vs, _, rfl, S.add' (t := s.toks) (fun x o e => sortedAll_old e) (Nat.le_succ _) (ao := .list (ms.map AV.int)) ⟨out.toList, e, by rw [Array.toArray_toList]; exact he, is2_ints hi⟩, h _ _ hp ho⟩
end

section
variable {b : Bs} {A : Around} {f : Fm} {vs : Vs} {H : Led}

theorem Is2.set : ∀ {xs : List AV} {ws : List Value} {x : AV} {w : Value} (i : Nat), Is2 xs ws → x.is w → Is2 (xs.set i x) (ws.set i w)
  | _ :: _, _ :: _, _, _, 0, h, hx => ⟨hx, h.2⟩
  | _ :: _, _ :: _, _, _, i + 1, h, hx => ⟨h.1, Is2.set i h.2 hx⟩
  | [], [], _, _, _, _, _ => trivial
  | [], _ :: _, _, _, _, h, _ => h.elim
  | _ :: _, [], _, _, _, h, _ => h.elim
noncomputable abbrev KSi3 (b : Bs) (A : Around) (f : Fm) (Q : AF → Vs → Led → Prop) (x a : AV) : AV → Vs → Led → Prop := fun k vs3 H3 => ∀ v w u, a.is v → k.is w → x.is u → awU b A f vs3 H3 (setItem v w u) (KNu Q)
noncomputable abbrev KSi2 (b : Bs) (A : Around) (f : Fm) (i : Expr) (Q : AF → Vs → Led → Prop) (x : AV) : AV → Vs → Led → Prop := fun a vs2 H2 => awE b A f vs2 H2 (eval i f.env) (KSi3 b A f Q x a)
noncomputable abbrev KSi (b : Bs) (A : Around) (f : Fm) (o i : Expr) (Q : AF → Vs → Led → Prop) : AV → Vs → Led → Prop := fun x vs1 H1 => awE b A f vs1 H1 (eval o f.env) (KSi2 b A f i Q x)
theorem x_setItem {o i value : Expr} {p pos : Pos} {Q : AF → Vs → Led → Prop} (h : awE b A f vs H (eval value f.env) (KSi b A f o i Q)) (hs : swapsWith value (some (.Subscript o i p)) pos.line f.env = pure false := by rfl) :
    awF b A f vs H (exec (.Assign [.Subscript o i p] value pos) f.env) Q := fun P G s S =>
  wpAny_Assign_Subscript (aw_use (h P G s S) (fun u s1 x vs1 H1 hx S1 h1 => aw_use (h1 P G s1 S1) (fun v s2 a vs2 H2 ha S2 h2 => wpAny_mono (h2 P G s2 S2) (fun w s3 ⟨k, vs3, H3, hk, S3, h3⟩ =>
    aw_use (h3 v w u ha hk hx P G s3 S3) (fun _ s4 _ vs4 H4 _ S4 h4 => ⟨.next, vs4, H4, rfl, S4, h4⟩)) fun _ _ e => e))) hs
theorem g_set {a : Addr} {xs : List AV} {x : AV} {k : Int} {H' : Led} {Q : Unit → Vs → Led → Prop} (u : LUpd a (.list xs) (.list (xs.set k.toNat x)) H H') (h0 : 0 ≤ k) (h1 : k < xs.length) (hk : k < 2 ^ 62) (h : Q () vs H') :
    ∀ v w y, (AV.ref a).is v → (AV.int k).is w → x.is y → awU b A f vs H (setItem v w y) Q := by
  rintro v w y hv ⟨t, rfl⟩ hy P G s S
  cases hv
  obtain ⟨its, n, ho, h2⟩ := S.sh.led _ u.mem
  have hn := h2.length
  refine ki_setAt (n := n) ho h0 (by omega) (by rw [List.size_toArray]; omega) ⟨(), vs, H', trivial, S.upd (t := s.toks) u (Heap.SameBut.update ..).extBut ⟨its.set k.toNat y, n, ?_, h2.set _ hy⟩, h⟩
  rw [Heap.get?_update_self _ ho (by simp [Obj.mapSeq, Obj.isFreed])]
  simp [Obj.mapSeq]
theorem g_setN {a : Addr} {xs : List AV} {x : AV} {k : Int} {H' : Led} {Q : Unit → Vs → Led → Prop} (u : LUpd a (.list xs) (.list (xs.set (k + xs.length).toNat x)) H H') (h0 : k < 0) (h1 : -(xs.length : Int) ≤ k) (hk : -(2 ^ 62) ≤ k) (h : Q () vs H') :
    ∀ v w y, (AV.ref a).is v → (AV.int k).is w → x.is y → awU b A f vs H (setItem v w y) Q := by
  rintro v w y hv ⟨t, rfl⟩ hy P G s S
  cases hv
  obtain ⟨its, n, ho, h2⟩ := S.sh.led _ u.mem
  have hn := h2.length
  refine ki_setBack (n := n) ho h0 (by rw [List.size_toArray]; omega) (by omega) ⟨(), vs, H', trivial, S.upd (t := s.toks) u (Heap.SameBut.update ..).extBut ⟨its.set (k + xs.length).toNat y, n, ?_, h2.set _ hy⟩, h⟩
  rw [Heap.get?_update_self _ ho (by simp [Obj.mapSeq, Obj.isFreed])]
  simp [Obj.mapSeq, hn]

theorem i_or {i j : Int} {Q : AV → Vs → Led → Prop} (h : Q (.int (Builtin.bitOr i j)) vs H) : ∀ v w, (AV.int i).is v → (AV.int j).is w → awE b A f vs H (inplaceOp .BitOr v w) Q := by
  rintro v w ⟨t, rfl⟩ ⟨u, rfl⟩ P G s S
  exact PyProof.Rows.ior_int ⟨.int _, vs, H, ⟨_, rfl⟩, S.tok _, h⟩
theorem i_shl {i n : Int} {Q : AV → Vs → Led → Prop} (hn : 0 ≤ n) (hn2 : n ≤ 1000000) (ha : i.natAbs < 2 ^ 64) (h : Q (.int (i * 2 ^ n.toNat)) vs H) : ∀ v w, (AV.int i).is v → (AV.int n).is w → awE b A f vs H (inplaceOp .LShift v w) Q := by
  rintro v w ⟨t, rfl⟩ ⟨u, rfl⟩ P G s S
  exact PyProof.Rows.ilshift_int_small hn hn2 ha ⟨.int _, vs, H, ⟨_, rfl⟩, S.tok _, h⟩

theorem k_range3 {m n c : Int} {Q : AV → Vs → Led → Prop} (hc : c ≠ 0) (hp : Builtin.divisionGoesByPylong (n - m) c = false) (h : ∀ r, Q (.ref r) vs ((r, aoRange m n c) :: H)) :
    ∀ g ws, (AV.con (.type "range")).is g → Is2 [.int m, .int n, .int c] ws → awE b A f vs H (call g ws []) Q := by
  intro g ws hg hw P G s S
  cases hg
  replace hw := Is2.inv3 hw
  obtain ⟨w, w', w2, rfl, ⟨t, hw⟩, ⟨u, hw'⟩, ⟨u2, hw2⟩⟩ := hw
  subst hw; subst hw'; subst hw2
  refine call_range_3 hc ?_ (.inl hp)
  exact ⟨.ref _, vs, _, rfl, S.alloc (ao := aoRange m n c) ⟨_, Heap.get?_push_size _ rfl, _, _, _, rfl⟩, h _⟩

/-! sum -/
theorem preSum_sum : ∀ (ns : List Int) (n : Nat), preSum (fun i => ns.getD i 0) n = (ns.take n).sum := by
  intro ns n
  induction n with
  | zero => simp [preSum]
  | succ n ih =>
    rw [preSum, ih]
    by_cases h : n < ns.length
    · rw [List.take_add_one, List.sum_append, List.getElem?_eq_getElem h]
      simp [h]
    · rw [List.take_of_length_le (by omega), List.take_of_length_le (by omega)]
      simp [List.getD_eq_getElem?_getD, List.getElem?_eq_none (Nat.le_of_not_lt h)]
theorem k_sum (hh : A.handled = none) {a : Addr} {ns : List Int} {Q : AV → Vs → Led → Prop} (hm : (a, AO.list (ns.map AV.int)) ∈ H) (h : Q (.int ns.sum) vs H) :
    ∀ g ws, (AV.con (.builtin "sum")).is g → Is2 [.ref a] ws → awE b A f vs H (call g ws []) Q := by
  intro g ws hg hw P G s S
  cases hg
  replace hw := Is2.inv1 hw
  obtain ⟨w, rfl, hw⟩ := hw
  cases hw
  obtain ⟨its, hL, h2⟩ := (S.sh.led _ hm).isList
  have hi := intsAre_of h2 rfl
  have hn := h2.length
  simp only [List.length_map] at hn
  have hlt : a < s.heap.objs.size := by
    obtain ⟨o, ho, _⟩ := hL
    exact Heap.lt_size ho
  refine call_sum_walkAnyS (wpAny_pyIter_list hL ⟨s.heap.objs.size, _, _, _, _, _, _, fun i => ns.getD i 0, rfl, (Walks.list (A := A.in1) hh s.heap.objs.size a (Nat.ne_of_lt hlt) its.toArray).toS, ?_, ?_, ?_, ?_⟩)
  · exact ⟨⟨_, Heap.get?_push_size _ rfl, rfl, rfl⟩, hL.push _⟩
  · intro c hc
    rw [Heap.size_push]
    simp only [List.mem_cons, List.not_mem_nil, or_false] at hc
    rcases hc with rfl | rfl
    · exact Nat.lt_succ_self _
    · exact Nat.lt_succ_of_lt hlt
  · intro i v hv
    have hv' : its[i]? = some v := by simpa using hv
    have hl : i < ns.length := by rw [hn]; exact (List.getElem?_eq_some_iff.mp hv').1
    obtain ⟨v2, e2, t, ht⟩ := h2.get (i := i) (a := .int ns[i]) (by simp [hl])
    rw [hv'] at e2; cases e2
    exact ⟨t, by rw [ht]; simp [hl]⟩
  · intro s' t' hmv
    obtain ⟨h1, hg, hd, ho, ht⟩ := hmv
    have S2 := S.push { cls := .type "list_iterator", data := .fields #[.ref a, .int 0 0] } s.toks
    refine ⟨.int _, vs, H, ⟨t', ?_⟩, ?_, h⟩
    · rw [preSum_sum]
      have : its.toArray.size = ns.length := by rw [List.size_toArray, hn]
      rw [this, List.take_length]
    · obtain ⟨hp, g, d, tk, os⟩ := s'
      simp only at h1 hg hd ho ht
      subst hg hd ho
      exact S.up (S.down.ext fun x o e => h1 x o (fun q => by
        simp only [List.mem_singleton] at q
        subst q
        exact absurd (Heap.lt_size e) (Nat.lt_irrefl _)) (Heap.get?_push_of_some _ e))

/-! while -/
noncomputable abbrev KWl (I : Nat → Vs → Led → Prop) (n : Nat) (Q : AF → Vs → Led → Prop) : AF → Vs → Led → Prop := fun fl vs2 H2 => match fl with
  | .next => ∃ m, m < n ∧ I m vs2 H2
  | .cont => ∃ m, m < n ∧ I m vs2 H2
  | .brk => Q .next vs2 H2
  | .ret v => Q (.ret v) vs2 H2
noncomputable abbrev KWh (b : Bs) (A : Around) (f : Fm) (body : List Stmt) (I : Nat → Vs → Led → Prop) (n : Nat) (Q : AF → Vs → Led → Prop) : Bool → Vs → Led → Prop := fun c vs1 H1 => (c = true → awF b A f vs1 H1 (execs body f.env) (KWl I n Q)) ∧ (c = false → Q .next vs1 H1)
theorem x_while {test : Expr} {body : List Stmt} {pos : Pos} {Q : AF → Vs → Led → Prop} (I : Nat → Vs → Led → Prop) (n : Nat) (h0 : I n vs H)
    (turn : ∀ n vs H, I n vs H → awB b A f vs H (isTrue test f.env (eval test f.env)) (KWh b A f body I n Q)) :
    awF b A f vs H (exec (.While test body [] pos) f.env) Q := fun P G s S => by
  refine wpAny_While (codeAny_whileLoop (fun n s => ∃ vs H, St b P G f vs H s ∧ I n vs H) ?_ n ⟨vs, H, S, h0⟩)
  rintro n s ⟨vs, H, S, hI⟩
  refine wpAny_false (aw_use (turn n vs H hI P G s S) (fun c s1 d vs1 H1 hd S1 h1 => ?_))
  cases hd
  cases c with
  | true =>
    simp only [if_true]
    refine wpAny_false (aw_use (h1.1 rfl P G s1 S1) (fun fl s2 x vs2 H2 hx S2 h2 => ?_))
    cases x with
    | next => cases hx; obtain ⟨m, hm, hI⟩ := h2; exact ⟨m, hm, vs2, H2, S2, hI⟩
    | cont => cases hx; obtain ⟨m, hm, hI⟩ := h2; exact ⟨m, hm, vs2, H2, S2, hI⟩
    | brk => cases hx; exact ⟨.next, vs2, H2, rfl, S2, h2⟩
    | ret v => obtain ⟨w, rfl, hw⟩ := hx; exact ⟨.ret v, vs2, H2, ⟨w, rfl, hw⟩, S2, h2⟩
  | false =>
    simp only [Bool.false_eq_true, if_false]
    exact wpAny_execs_nil ⟨.next, vs1, H1, rfl, S1, h1.2 rfl⟩
end

section
variable {b : Bs} {A : Around} {f : Fm} {vs : Vs} {H : Led}

/-! iterators as objects -/
noncomputable def aoStrIt (l : List Nat) (i : Nat) : AO := .raw fun o => o.cls = .type "str_ascii_iterator" ∧ ∃ t, o.data = .fields #[.str ⟨l.toArray⟩ t, .int (i : Nat) 0]
noncomputable def aoListIt (a : Addr) (i : Nat) : AO := .raw fun o => o.cls = .type "list_iterator" ∧ o.data = .fields #[.ref a, .int (i : Nat) 0]

theorem k_iter_str {l : List Nat} {Q : AV → Vs → Led → Prop} (hl : l.all (· < 128) = true) (h : ∀ I, Q (.ref I) vs ((I, aoStrIt l 0) :: H)) :
    ∀ g ws, (AV.con (.builtin "iter")).is g → Is2 [.str l] ws → awE b A f vs H (call g ws []) Q := by
  intro g ws hg hw P G s S
  cases hg
  replace hw := Is2.inv1 hw
  obtain ⟨w, rfl, ⟨t, hw⟩⟩ := hw
  subst hw
  refine call_function_entry (by decide +kernel) (by decide +kernel) kdk_entry_iter (kdk_args_iter _) ?_
  unfold Builtin.«iter»
  refine wpAny_bind (m := someArgs "iter" 1 2 _) (wpAny_of_eq (a := [Value.str ⟨l.toArray⟩ t]) (by first | rfl | kernel_rfl!) ?_)
  show wpAny _ _ (pyIter (.str ⟨l.toArray⟩ t) >>= _) _ _ _
  refine wpAny_bind (wpAny_pyIter_ascii (by simpa using hl) (wpAny_pure ⟨_, rfl, .ref _, vs, _, rfl, S.alloc (ao := aoStrIt l 0) (t := s.toks) ⟨_, Heap.get?_push_size _ rfl, rfl, t, rfl⟩, h _⟩))
theorem k_iter_list {a : Addr} {xs : List AV} {Q : AV → Vs → Led → Prop} (hm : (a, AO.list xs) ∈ H) (h : ∀ I, Q (.ref I) vs ((I, aoListIt a 0) :: H)) :
    ∀ g ws, (AV.con (.builtin "iter")).is g → Is2 [.ref a] ws → awE b A f vs H (call g ws []) Q := by
  intro g ws hg hw P G s S
  cases hg
  replace hw := Is2.inv1 hw
  obtain ⟨w, rfl, hw⟩ := hw
  cases hw
  obtain ⟨its, hL, h2⟩ := (S.sh.led _ hm).isList
  refine call_function_entry (by decide +kernel) (by decide +kernel) kdk_entry_iter (kdk_args_iter _) ?_
  unfold Builtin.«iter»
  refine wpAny_bind (m := someArgs "iter" 1 2 _) (wpAny_of_eq (a := [Value.ref a]) (by first | rfl | kernel_rfl!) ?_)
  show wpAny _ _ (pyIter (.ref a) >>= _) _ _ _
  refine wpAny_bind (wpAny_pyIter_list hL (wpAny_pure ⟨_, rfl, .ref _, vs, _, rfl, S.alloc (ao := aoListIt a 0) (t := s.toks) ⟨_, Heap.get?_push_size _ rfl, rfl, rfl⟩, h _⟩))

/-- next of an iterator over signs, with a fallback: one more sign -/
theorem k_nextd_sign {I : Addr} {l : List Nat} {i c : Nat} {d : AV} {H' : Led} {Q : AV → Vs → Led → Prop} (u : LUpd I (aoStrIt l i) (aoStrIt l (i + 1)) H H') (hc : l[i]? = some c) (h : Q (.str [c]) vs H') :
    ∀ g ws, (AV.con (.builtin "next")).is g → Is2 [.ref I, d] ws → awE b A f vs H (call g ws []) Q := by
  intro g ws hg hw P G s S
  cases hg
  replace hw := Is2.inv2 hw
  obtain ⟨w, w', rfl, hw, hw'⟩ := hw
  cases hw
  obtain ⟨o, ho, hcl, t, hd⟩ := S.sh.led _ u.mem
  have hit : s.heap.IsStrIter I "str_ascii_iterator" ⟨l.toArray⟩ t i := ⟨o, ho, hcl, hd⟩
  refine call_function_entry (by decide +kernel) (by decide +kernel) kdk_entry_next (kdk_args_next2 _ _) ?_
  unfold Builtin.«next»
  refine wpAny_bind (m := someArgs "next" 1 2 _) (wpAny_of_eq (a := [Value.ref I, w']) (by first | rfl | kernel_rfl!) ?_)
  dsimp only
  refine wpAny_bind (wpAny_specialOf (name := Str.ofString "__next__") (⟨o, ho, hcl⟩ : s.TypeIs (.ref I) "str_ascii_iterator") PySem.F.slot_str_ascii_iterator_next.lookup ?_)
  refine wpAny_ite_split (fun hab => absurd hab (by decide)) (fun _ => ?_)
  refine wpAny_bind (wpAny_pyNext_ascii_item hit (c := c) (by simpa using hc) fun h' ⟨o', ho', hc', hd'⟩ hs => ?_)
  exact wpAny_pure ⟨_, rfl, .str _, vs, H', ⟨_, rfl⟩, S.upd u hs.extBut ⟨o', ho', hc', t, hd'⟩, h⟩
/-- ... and none left: the iterator is forgotten -/
theorem k_nextd_end (hh : A.handled = none) {I : Addr} {l : List Nat} {d : AV} {K : Led} {Q : AV → Vs → Led → Prop} (h : Q d vs K) :
    ∀ g ws, (AV.con (.builtin "next")).is g → Is2 [.ref I, d] ws → awE b A f vs ((I, aoStrIt l l.length) :: K) (call g ws []) Q := by
  intro g ws hg hw P G s S
  cases hg
  replace hw := Is2.inv2 hw
  obtain ⟨w, w', rfl, hw, hw'⟩ := hw
  cases hw
  have hm : (I, aoStrIt l l.length) ∈ (I, aoStrIt l l.length) :: K := .head _
  have hK := List.sublist_cons_self (I, aoStrIt l l.length) K
  have hI : I ∉ keys K := (List.nodup_cons.mp S.sh.nodup).1
  obtain ⟨o, ho, hcl, t, hd⟩ := S.sh.led _ hm
  have hit : s.heap.IsStrIter I "str_ascii_iterator" ⟨l.toArray⟩ t l.length := ⟨o, ho, hcl, hd⟩
  refine call_function_entry (by decide +kernel) (by decide +kernel) kdk_entry_next (kdk_args_next2 _ _) ?_
  unfold Builtin.«next»
  refine wpAny_bind (m := someArgs "next" 1 2 _) (wpAny_of_eq (a := [Value.ref I, w']) (by first | rfl | kernel_rfl!) ?_)
  dsimp only
  refine wpAny_bind (wpAny_specialOf (name := Str.ofString "__next__") (⟨o, ho, hcl⟩ : s.TypeIs (.ref I) "str_ascii_iterator") PySem.F.slot_str_ascii_iterator_next.lookup ?_)
  refine wpAny_ite_split (fun hab => absurd hab (by decide)) (fun _ => ?_)
  have hk : I ∈ keys ((I, aoStrIt l l.length) :: K) := List.mem_map_of_mem (f := (·.1)) hm
  refine wpAny_bind (wpAny_pyNext_ascii_end hh hit (by simp) fun h' hs => ?_)
  refine wpAny_pure ⟨_, rfl, d, vs, K, hw', ?_, h⟩
  have S1 : St b P G f vs K s := ⟨S.fo, S.sh.sub hK, S.La, fun q => S.Lk ((hK.map _).subset q), fun p hp q => S.ck p hp ((hK.map _).subset q), S.cown, S.cdef, S.loc, S.cel⟩
  have hP := S.sh.apart I hk
  exact S1.but hI hP (fun q => S.Lk (q ▸ hk)) (fun p hp q => S.ck p hp (q ▸ hk)) hs

/-! a tuple is taken apart -/
noncomputable def awA (b : Bs) (A : Around) (f : Fm) : List (Value → Sem Unit) → List AV → Vs → Led → (Unit → Vs → Led → Prop) → Prop
  | t :: ts, x :: xs, vs, H, Q => ∀ v, x.is v → awU b A f vs H (t v) fun _ vs1 H1 => awA b A f ts xs vs1 H1 Q
  | _, _, vs, H, Q => Q () vs H
theorem awA.run : ∀ {ts : List (Value → Sem Unit)} {xs : List AV} {ws : List Value} {vs : Vs} {H : Led} {Q : Unit → Vs → Led → Prop}, awA b A f ts xs vs H Q → Is2 xs ws → ts.length = xs.length → awU b A f vs H (assignInOrder ts ws) Q
  | [], [], [], _, _, _, h, _, _ => aw_pure trivial h
  | t :: ts, x :: xs, w :: ws, _, _, _, h, hi, hl => by
    show awU _ _ _ _ _ (holding ws (t w) >>= fun _ => assignInOrder ts ws) _
    exact aw_bind (aw_holding (aw_mono (h w hi.1) fun _ vs1 H1 h1 _ _ => h1.run hi.2 (by simpa using hl)))
  | [], [], _ :: _, _, _, _, _, h, _ => h.elim
  | _ :: _, _ :: _, [], _, _, _, _, h, _ => h.elim
  | [], _ :: _, _, _, _, _, _, _, hl => by simp at hl
  | _ :: _, [], _, _, _, _, _, _, hl => by simp at hl
theorem u_tup (hh : A.handled = none) {a : Addr} {xs : List AV} {elts : List Expr} {k : Nat} {pos : Pos} {Q : Unit → Vs → Led → Prop} (hm : (a, AO.tuple xs) ∈ H) (hn : (assignEach elts f.env).length = xs.length)
    (hstar : (assignEach elts f.env).findIdx? (·.1) = none) (h : awA b A f ((assignEach elts f.env).map (·.2)) xs vs H Q) : ∀ v, (AV.ref a).is v → awU b A f vs H (assign (.Tuple elts k pos) f.env v) Q := by
  intro v hv P G s S
  cases hv
  obtain ⟨its, hL, h2⟩ := (S.sh.led _ hm).isTup
  have hl := h2.length
  refine wpAny_assign_Tuple hh (items := its.toArray) ?_ (by rw [hn, List.size_toArray, hl]) hstar fun h' hs => ?_
  · obtain ⟨o, ho, hc, n, hd⟩ := hL
    exact ⟨o, ho, hc, n, hd⟩
  · have S' : St b P G f vs H { s with heap := h', toks := s.toks } := S.up (S.down.ext fun x o e => hs x o (fun q => by subst q; exact absurd (Heap.lt_size e) (Nat.lt_irrefl _)) e)
    exact h.run h2 (by rw [List.length_map, hn]) P G _ S'
noncomputable abbrev KTp (b : Bs) (A : Around) (f : Fm) (elts : List Expr) (k : Nat) (p : Pos) (Q : AF → Vs → Led → Prop) : AV → Vs → Led → Prop := fun x vs1 H1 => ∀ v, x.is v → awU b A f vs1 H1 (assign (.Tuple elts k p) f.env v) (KNu Q)
theorem x_asg_tup {elts : List Expr} {k : Nat} {p pos : Pos} {value : Expr} {Q : AF → Vs → Led → Prop} (h : awE b A f vs H (eval value f.env) (KTp b A f elts k p Q))
    (hs : swapsWithSole [.Tuple elts k p] value pos.line f.env = pure false := by rfl) (hw : swappedStores [.Tuple elts k p] value f.env = pure none := by rfl)
    (he : (assignEach [.Tuple elts k p] f.env).map (·.2) = [assign (.Tuple elts k p) f.env] := by rfl) :
    awF b A f vs H (exec (.Assign [.Tuple elts k p] value pos) f.env) Q := fun P G s S => by
  refine wpAny_Assign_stores (aw_use (h P G s S) (fun v s1 x vs1 H1 hx S1 h1 => ?_)) hs hw
  rw [he]
  have := h1 v hx P G s1 S1
  show wpAny _ _ (assign _ _ _) _ _ _
  exact wpAny_mono this (fun _ s2 ⟨_, vs2, H2, _, S2, h2⟩ => ⟨.next, vs2, H2, rfl, S2, h2⟩) fun _ _ e => e
end

/-- room that is left -/
structure Room (A : Around) (n : Nat) : Prop where
  handled : A.handled = none
  depth : A.depth + n < 900
  units : A.units + 20 * n < 9000
theorem Room.deeper {A A' : Around} {n : Nat} (R : Room A (n + 1)) (D : Deeper A A') : Room A' n :=
  ⟨D.handled.trans R.handled, by rw [D.depth]; have := R.depth; omega, by rw [D.units]; have := R.units; omega⟩
theorem Room.weaken {A : Around} {n m : Nat} (R : Room A n) (h : m ≤ n) : Room A m := ⟨R.handled, by have := R.depth; omega, by have := R.units; omega⟩
theorem Room.in1 {A : Around} {n : Nat} (R : Room A (n + 1)) : Room A.in1 n := ⟨R.handled, by have := R.depth; show A.depth + n < 900; omega, by have := R.units; show A.units + 1 + 20 * n < 9000; omega⟩
theorem Room.limit {A : Around} {n : Nat} (R : Room A n) : A.depth < recursionLimit := by have := R.depth; show A.depth < 1000; omega
theorem Room.line {A : Around} {n : Nat} (R : Room A n) : A.units < cLine := by have := R.units; show A.units < 9900; omega

/-! instances of a class of the text -/
noncomputable def DE : List (Str × AV) → List DictEntry → Prop
  | [], [] => True
  | (x, av) :: r, e :: es => (∃ t, e.key = .str x t) ∧ av.is e.val ∧ DE r es
  | _, _ => False
noncomputable def aoDict (fs : List (Str × AV)) : AO := .raw fun o => ∃ es n, o = dictOf es n ∧ DE fs es
noncomputable def aoInst (C dx : Addr) : AO := .raw fun o => o = instObj C dx
noncomputable def aoMeth (f : Addr) (x : Addr) : AO := .raw fun o => o = methodObj (.ref f) (.ref x)
noncomputable def putF (name : Str) (av : AV) : List (Str × AV) → List (Str × AV)
  | [] => [(name, av)]
  | (x, w) :: r => if x == name then (x, av) :: r else (x, w) :: putF name av r
theorem DE.putL {name : Str} {hsh : Int} {t : Tok} {av : AV} {v : Value} (hv : av.is v) : ∀ {fs : List (Str × AV)} {es : List DictEntry}, DE fs es → DE (putF name av fs) (putL name hsh (.str name t) v es)
  | [], [], _ => ⟨⟨t, rfl⟩, hv, trivial⟩
  | (x, w) :: r, e :: es, ⟨⟨u, hk⟩, hw, h⟩ => by
    unfold putF PySem.W.putL
    have e1 : e.key.isStr name = (x == name) := by rw [hk]; rfl
    rw [e1]
    by_cases h1 : (x == name) = true
    · rw [if_pos h1, if_pos h1]; exact ⟨⟨u, hk⟩, hv, h⟩
    · rw [if_neg h1, if_neg h1]; exact ⟨⟨u, hk⟩, hw, DE.putL hv h⟩
  | [], _ :: _, h => h.elim
  | _ :: _, [], h => h.elim
theorem DE.refs : ∀ {fs : List (Str × AV)} {es : List DictEntry}, DE fs es → es.any (·.refKey) = false
  | [], [], _ => rfl
  | (x, w) :: r, e :: es, ⟨⟨u, hk⟩, hw, h⟩ => by
    rw [List.any_cons, h.refs]
    unfold DictEntry.refKey
    rw [hk]; rfl
  | [], _ :: _, h => h.elim
  | _ :: _, [], h => h.elim
theorem DE.get {name : Str} : ∀ {fs : List (Str × AV)} {es : List DictEntry}, DE fs es → match fs.lookup name with | some av => ∃ v, getL name es = some (some v) ∧ av.is v | none => getL name es = some none
  | [], [], _ => rfl
  | (x, w) :: r, e :: es, ⟨⟨u, hk⟩, hw, h⟩ => by
    have e1 : e.key.isStr name = (x == name) := by rw [hk]; rfl
    have e2 : (name == x) = (x == name) := by
      by_cases q : x = name
      · subst q; rfl
      · rw [beq_eq_false_iff_ne.mpr q, beq_eq_false_iff_ne.mpr (Ne.symm q)]
    rw [List.lookup_cons, e2]
    unfold getL
    rw [List.find?_cons, e1]
    by_cases h1 : (x == name) = true
    · rw [h1]; exact ⟨e.val, rfl, hw⟩
    · have h1' : (x == name) = false := by simpa using h1
      rw [h1']
      have ih := h.get (name := name)
      unfold getL at ih
      have er : e.refKey = false := by unfold DictEntry.refKey; rw [hk]
      simp only [List.any_cons, er, Bool.false_or]
      exact ih
  | [], _ :: _, h => h.elim
  | _ :: _, [], h => h.elim
theorem DE.length : ∀ {fs : List (Str × AV)} {es : List DictEntry}, DE fs es → es.length = fs.length
  | [], [], _ => rfl
  | _ :: _, _ :: _, h => congrArg (· + 1) h.2.2.length
  | [], _ :: _, h => h.elim
  | _ :: _, [], h => h.elim

structure Cls (b : Bs) (K : Frag) (C : Addr) : Prop where
  inn : K.In b.h₀
  gets : plainGet K C ⟨#[]⟩ = true
  hasD : hasDictIn K C = true
  over : plainOver K C = true
  sets : findIn K (.ref C) "__setattr__" = some (some (.builtin "object.__setattr__"))
structure Meth (K : Frag) (C : Addr) (name : Str) (f : Addr) : Prop where
  fnd : findIn K (.ref C) name = some (some (.ref f))
  fn : isFn K (.ref f) = true
  get : specialIn K (.ref f) "__get__" = some (some (.builtin "function.__get__"))
  takes : takesIn K (.ref f) = some false
  cp : copiedNames.contains name = false

section
variable {b : Bs} {A : Around} {f : Fm} {vs : Vs} {H : Led} {K : Frag} {C : Addr}
theorem Cls.at (X : Cls b K C) {P : Prot} {G : GProt} {s : Shared} (S : SH b P G H s) : K.In s.heap := X.inn.keeps fun a o e => S.old e
theorem inst_at {P : Prot} {G : GProt} {s : Shared} (S : SH b P G H s) {x dx : Addr} {fs : List (Str × AV)} (mx : (x, aoInst C dx) ∈ H) (md : (dx, aoDict fs) ∈ H) :
    ∃ es n, InstAt s.heap x (instObj C dx) C (some (dictOf es n)) ∧ DE fs es ∧ s.heap.get? dx = some (dictOf es n) := by
  obtain ⟨o, ho, e⟩ := S.led _ mx
  obtain ⟨od, hod, es, n, e2, hde⟩ := S.led _ md
  subst e; subst e2
  exact ⟨es, n, ⟨ho, rfl, rfl, hod⟩, hde, hod⟩

theorem h_getOwn (X : Cls b K C) {x dx : Addr} {fs : List (Str × AV)} {name : Str} {av : AV} {expr : Bool} {Q : AV → Led → Prop} (mx : (x, aoInst C dx) ∈ H) (md : (dx, aoDict fs) ∈ H) (hn : findIn K (.ref C) name = some none)
    (hl : fs.lookup name = some av) (hc : ∀ w, av ≠ .con w) (h : Q av H) : ∀ v, (AV.ref x).is v → ahE b A H (getAttr v name expr) Q := by
  intro v hv P G s S
  cases hv
  obtain ⟨es, n, I, hde, _⟩ := inst_at S mx md
  have hg := hde.get (name := name)
  rw [hl] at hg
  obtain ⟨v, hv, hav⟩ := hg
  refine get_value (X.at S) I (plainGet_of X.gets).1 (findObj_own X.hasD hn rfl (by rw [lookIn_dict]; exact hv)) ?_ ⟨av, H, hav, S.tok _, h⟩
  cases av with
  | con w => exact absurd rfl (hc w)
  | none => cases hav; rfl
  | bool c => cases hav; rfl
  | int i => obtain ⟨t, rfl⟩ := hav; rfl
  | str l => obtain ⟨t, rfl⟩ := hav; rfl
  | ref a => cases hav; rfl
theorem h_getBound (X : Cls b K C) {x dx fM : Addr} {fs : List (Str × AV)} {name : Str} {expr : Bool} {Q : AV → Led → Prop} (mx : (x, aoInst C dx) ∈ H) (md : (dx, aoDict fs) ∈ H) (M : Meth K C name fM)
    (hl : fs.lookup name = none) (h : ∀ q, Q (.ref q) ((q, aoMeth fM x) :: H)) : ∀ v, (AV.ref x).is v → ahE b A H (getAttr v name expr) Q := by
  intro v hv P G s S
  cases hv
  obtain ⟨es, n, I, hde, _⟩ := inst_at S mx md
  have hg := hde.get (name := name)
  rw [hl] at hg
  have X' := X.at S
  refine get_bind X' I (plainGet_of X.gets).1 (findObj_fn X.hasD M.fnd M.get M.takes M.cp (by show lookIn name (dictOf es n) = _; rw [lookIn_dict]; exact hg)) (plainGet_of X.gets).2
    (wpAny_call (fn_get (s := { s with toks := s.toks + 1 }) X' (beq_iff_eq.mp M.fn) (handed_on rfl ?_)))
  exact ⟨.ref _, _, rfl, S.alloc (ao := aoMeth fM x) (t := s.toks + 1) ⟨_, Heap.get?_push_size _ rfl, rfl⟩, h _⟩

/-- all objects but two -/
noncomputable def allBut (h : Heap) (a c : Addr) : List (Addr × Obj) := (List.range h.objs.size).filterMap fun i => if i = a ∨ i = c then none else (h.get? i).map fun o => (i, o)
theorem allBut_mem {h : Heap} {a c x : Addr} {o : Obj} (e : h.get? x = some o) (h1 : x ≠ a) (h2 : x ≠ c) : (x, o) ∈ allBut h a c := by
  refine List.mem_filterMap.mpr ⟨x, List.mem_range.mpr (Heap.lt_size e), ?_⟩
  rw [if_neg (fun q => q.elim h1 h2), e]; rfl
theorem allBut_of {h : Heap} {a c : Addr} {p : Addr × Obj} (hp : p ∈ allBut h a c) : h.get? p.1 = some p.2 ∧ p.1 ≠ a ∧ p.1 ≠ c := by
  obtain ⟨i, _, hi⟩ := List.mem_filterMap.mp hp
  split at hi
  · cases hi
  · rename_i hne
    obtain ⟨o, ho, rfl⟩ := Option.map_eq_some_iff.mp hi
    exact ⟨ho, fun q => hne (.inl q), fun q => hne (.inr q)⟩

noncomputable def noHeap : Heap := { objs := #[] }
theorem noHeap_get (a : Addr) : noHeap.get? a = none := by simp [noHeap, Heap.get?]
theorem u_setAttr (X : Cls b K C) {x dx : Addr} {fs : List (Str × AV)} {name : Str} {av : AV} {H' : Led} {Q : Unit → Vs → Led → Prop} (mx : (x, aoInst C dx) ∈ H) (u : LUpd dx (aoDict fs) (aoDict (putF name av fs)) H H')
    (ht : takerIn K C name = some none) (hz : (putF name av fs).length ≤ 1000) (h : Q () vs H') : ∀ v w, (AV.ref x).is v → av.is w → awU b A f vs H (setAttr v name w) Q := by
  intro v w hv hw P G s S
  cases hv
  obtain ⟨es, n, I, hde, hd⟩ := inst_at S.sh mx u.mem
  have X' := X.at S.sh
  obtain ⟨m, hm, hl⟩ := S.loc
  have hkd : dx ∈ keys H := List.mem_map_of_mem (f := (·.1)) u.mem
  have hdL : dx ≠ f.env.locals := fun q => S.Lk (q ▸ hkd)
  have F : Fr noHeap f.env.locals s.heap m := ⟨hm, fun a o e => (by rw [noHeap_get] at e; cases e), Nat.zero_le _⟩
  have N : News noHeap f.env.locals s.heap ([] ++ (dx, dictOf es n) :: allBut s.heap dx f.env.locals) := fun p hp => by
    rcases List.mem_cons.mp hp with rfl | q
    · exact ⟨hd, hdL, noHeap_get _⟩
    · obtain ⟨a1, a2, a3⟩ := allBut_of q
      exact ⟨a1, a3, noHeap_get _⟩
  have hgl : (getL name es).isSome = true := by
    have := hde.get (name := name)
    split at this
    · obtain ⟨v, e, _⟩ := this; rw [e]; rfl
    · rw [this]; rfl
  have hde' := hde.putL (name := name) (hsh := PyData.keyHash b.w.params name) (t := s.toks + 1) hw
  refine set_plain X' I X.sets (osa_dict (s := { s with toks := s.toks + 1 }) (pre := []) F N X' I rfl X.over ht X.hasD (by rw [lookIn_dict]; exact hgl) (fun _ q => nomatch q) (fun p hp => (allBut_of hp).2.1) (putName_dict ..) rfl
    (by rw [hde'.length]; exact hz) fun h' F' N' => ?_)
  refine ⟨(), vs, H', trivial, ?_, h⟩
  have keep : ∀ a o, a ≠ dx → a ≠ f.env.locals → s.heap.get? a = some o → h'.get? a = some o := fun a o h1 h2 e => (N' (a, o) (List.mem_cons_of_mem _ (allBut_mem e h1 h2))).1
  have hdx := (N' (dx, _) (.head _)).1
  refine ⟨S.fo, ⟨S.sh.ok, S.sh.base, fun a o e => keep a o (by rintro rfl; exact S.sh.apart _ hkd _ e) (by rintro rfl; exact S.La _ e) (S.sh.keep a o e), fun a ha => S.sh.apart a (u.keys ▸ ha), by rw [u.keys]; exact S.sh.nodup, fun p hp => ?_, S.sh.gk, S.sh.gb, S.sh.os⟩,
    S.La, fun q => S.Lk (u.keys ▸ q), fun p hp q => S.ck p hp (u.keys ▸ q), S.cown, fun p hp => ?_, ⟨m, F'.ns, hl⟩, fun j y k av ej hk hv => ?_⟩
  · by_cases q : p.1 = dx
    · have := u.at S.sh.nodup p hp q
      subst this
      exact ⟨_, hdx, _, _, rfl, hde'⟩
    · have hp' := u.mem' p hp q
      exact (S.sh.led p hp').mono fun o e => keep _ o q (fun q => S.Lk (q ▸ List.mem_map_of_mem (f := (·.1)) hp')) e
  · obtain ⟨o, v, ho, hd⟩ := S.cdef p hp
    exact ⟨o, v, keep _ _ (fun q => S.ck p hp (q ▸ hkd)) (S.fo.Lc p hp) ho, hd⟩
  · obtain ⟨a, o, v, hl, ho, r⟩ := S.cel j y k av ej hk hv
    have hm := mem_of_lookup hl
    exact ⟨a, o, v, hl, keep _ _ (fun q => S.ck _ hm (q ▸ hkd)) (S.fo.Lc _ hm) ho, r⟩
end

section
variable {b : Bs} {A : Around} {f : Fm} {vs : Vs} {H : Led} {K : Frag} {C : Addr}

/-! attributes in expressions and statements -/
noncomputable abbrev KAt (b : Bs) (A : Around) (f : Fm) (attr : Str) (Q : AV → Vs → Led → Prop) : AV → Vs → Led → Prop := fun o vs1 H1 => ∀ v, o.is v → awE b A f vs1 H1 (getAttr v attr true) Q
theorem e_attr {x attr : Str} {np pos : Pos} {Q : AV → Vs → Led → Prop} (h : awE b A f vs H (eval (.Name x np) f.env) (KAt b A f attr Q)) :
    awE b A f vs H (eval (.Attribute (.Name x np) attr pos) f.env) Q := fun P G s S =>
  Attribute_name (aw_use (h P G s S) (fun v s1 o vs1 H1 ho S1 h1 => h1 v ho P G s1 S1))
noncomputable abbrev KAa2 (b : Bs) (A : Around) (f : Fm) (attr : Str) (Q : AF → Vs → Led → Prop) (x : AV) : AV → Vs → Led → Prop := fun y vs2 H2 => ∀ v w, y.is v → x.is w → awU b A f vs2 H2 (setAttr v attr w) (KNu Q)
noncomputable abbrev KAa (b : Bs) (A : Around) (f : Fm) (o : Expr) (attr : Str) (Q : AF → Vs → Led → Prop) : AV → Vs → Led → Prop := fun x vs1 H1 => awE b A f vs1 H1 (eval o f.env) (KAa2 b A f attr Q x)
theorem x_asgAttr {o value : Expr} {attr : Str} {p pos : Pos} {Q : AF → Vs → Led → Prop} (h : awE b A f vs H (eval value f.env) (KAa b A f o attr Q)) (hs : swapsWith value (some (.Attribute o attr p)) pos.line f.env = pure false := by rfl) :
    awF b A f vs H (exec (.Assign [.Attribute o attr p] value pos) f.env) Q := fun P G s S =>
  plainObj_wpAny_Assign_Attribute (aw_use (h P G s S) (fun w s1 x vs1 H1 hx S1 h1 => wpAny_mono (h1 P G s1 S1) (fun v s2 ⟨y, vs2, H2, hy, S2, h2⟩ =>
    aw_use (h2 v w hy hx P G s2 S2) (fun _ s3 _ vs3 H3 _ S3 h3 => ⟨.next, vs3, H3, rfl, S3, h3⟩)) fun _ _ e => e)) hs
noncomputable abbrev KAg2 (b : Bs) (A : Around) (f : Fm) (attr : Str) (Q : AF → Vs → Led → Prop) (v : Value) : AV → Vs → Led → Prop := fun a2 vs4 H4 => ∀ z, a2.is z → awU b A f vs4 H4 (setAttr v attr z) (KNu Q)
noncomputable abbrev KAg (b : Bs) (A : Around) (f : Fm) (value : Expr) (attr : Str) (op : Operator) (Q : AF → Vs → Led → Prop) : AV → Vs → Led → Prop := fun y vs1 H1 => ∀ v, y.is v → awE b A f vs1 H1 (getAttr v attr true) (KIn b A f value op (KAg2 b A f attr Q v))
theorem x_augAttr {o value : Expr} {attr : Str} {p pos : Pos} {op : Operator} {Q : AF → Vs → Led → Prop} (h : awE b A f vs H (eval o f.env) (KAg b A f value attr op Q)) :
    awF b A f vs H (exec (.AugAssign (.Attribute o attr p) op value pos) f.env) Q := fun P G s S =>
  wpAny_AugAssign_AttributeAny (aw_use (h P G s S) (fun v s1 y vs1 H1 hy S1 h1 => aw_use (h1 v hy P G s1 S1) (fun w s2 a0 vs2 H2 h0 S2 h2 => wpAny_mono (h2 P G s2 S2) (fun u s3 ⟨a1, vs3, H3, ha1, S3, h3⟩ =>
    aw_use (h3 w u h0 ha1 P G s3 S3) (fun z s4 a2 vs4 H4 ha2 S4 h4 => aw_use (h4 z ha2 P G s4 S4) (fun _ s5 _ vs5 H5 _ S5 h5 => ⟨.next, vs5, H5, rfl, S5, h5⟩))) fun _ _ e => e)))

/-! calls with a first argument -/
noncomputable abbrev Kept (W : Heap → Prop) (g : Value) : Prop := ∀ (M : Model) (hp : Heap), W hp → ∃ k, (k = Keeper.frame ∨ k = Keeper.machine ∨ k = Keeper.boundFrame) ∧ Looks M hp (keeperOf g) k
noncomputable abbrev KCf (b : Bs) (A : Around) (f : Fm) (W : Heap → Prop) (g : Value) (first : List Value) (Q : AV → Vs → Led → Prop) : List AV → Vs → Led → Prop := fun xs vs2 H2 => (∀ P G s, SH b P G H2 s → W s.heap) ∧ ∀ ws, Is2 xs ws → awE b A f vs2 H2 (call g (first ++ ws) []) Q
theorem k_callF {g : Value} {first : List Value} {pos : Pos} {e : Expr} {r : List Expr} {W : Heap → Prop} {Q : AV → Vs → Led → Prop} (hk : Kept W g)
    (h : awL b A f vs H (spliced (backTo pos (starEach (e :: r) f.env))) (KCf b A f W g first Q))
    (he : starEach (e :: r) f.env = (false, eval e f.env) :: starEach r f.env := by rfl) (hp : (backTo pos (starEach r f.env)).any (·.1) = false := by rfl) :
    awE b A f vs H (callWith pos g first (backTo pos (starEach (e :: r) f.env)) []) Q := fun P G s S => by
  have h1 := h P G s S
  rw [he] at h1 ⊢
  refine callWith_of (P := W) (by show ((false || (backTo pos (starEach r f.env)).any (·.1)) || false) = false; rw [hp]; rfl) (fun hp hb => hk _ hp hb)
    (Calls.evalArgs_plain (wpAny_mono h1 (fun ws s2 ⟨xs, vs2, H2, hx, S2, hW, h2⟩ => ⟨hW _ _ _ S2.sh, h2 ws hx P G s2 S2⟩) fun _ _ e => e))
theorem k_callF0 {g : Value} {first : List Value} {pos : Pos} {W : Heap → Prop} {Q : AV → Vs → Led → Prop} (hk : Kept W g) (hW : ∀ P G s, SH b P G H s → W s.heap) (h : awE b A f vs H (call g (first ++ []) []) Q) :
    awE b A f vs H (callWith pos g first (backTo pos (starEach [] f.env)) []) Q := fun P G s S =>
  callWith_of (P := W) rfl (fun hp hb => hk _ hp hb) (PySem.evalArgs_none ⟨hW _ _ _ S.sh, h P G s S⟩)
theorem kept_old {b : Bs} {fv : AV} {g : Value} (h : KeepOk b fv) (hg : fv.is g) : Kept (fun hp => ∀ a o, b.h₀.get? a = some o → hp.get? a = some o) g := fun M hp hb => h.looks hg hp hb
theorem kept_cls (X : Cls b K C) (hk : keepIn K (.ref C) = true) : Kept (fun hp => ∀ a o, b.h₀.get? a = some o → hp.get? a = some o) (.ref C) := fun M hp hb => keeps_K hk hp (X.inn.keeps hb)
theorem e_callC (X : Cls b K C) (hkc : keepIn K (.ref C) = true) {x : Str} {p pos : Pos} {e : Expr} {r : List Expr} {Q : AV → Vs → Led → Prop} (h : awE b A f vs H (eval (.Name x p) f.env) fun fv vs1 H1 => fv = .ref C ∧
      awL b A f vs1 H1 (spliced (backTo pos (starEach (e :: r) f.env))) fun xs vs2 H2 => ∀ ws, Is2 xs ws → awE b A f vs2 H2 (call (.ref C) ws []) Q)
    (he : starEach (e :: r) f.env = (false, eval e f.env) :: starEach r f.env := by rfl) (hp : (backTo pos (starEach r f.env)).any (·.1) = false := by rfl) :
    awE b A f vs H (eval (.Call (.Name x p) (e :: r) [] pos) f.env) Q := fun P G s S =>
  wpAny_Call_NameR (aw_use (h P G s S) (fun g s1 fv vs1 H1 hg S1 ⟨hk, h1⟩ => by
    subst hk; cases hg
    exact k_callF (first := []) (kept_cls X hkc) (aw_mono h1 fun xs vs2 H2 h2 => ⟨fun P G s S a o e => S.old e, fun ws hx => h2 ws hx⟩) he hp P G s1 S1))

/-! methods of instances -/
theorem h_method (X : Cls b K C) {x dx fM : Addr} {fs : List (Str × AV)} {name : Str} {pl : Sem Bool} (mx : (x, aoInst C dx) ∈ H) (md : (dx, aoDict fs) ∈ H) (M : Meth K C name fM) (hl : fs.lookup name = none)
    {P : Prot} {G : GProt} {s : Shared} {Q : Value × List Value → Shared → Prop} {E : Value → Shared → Prop} (S : SH b P G H s) (h : Q (.ref fM, [.ref x]) s) : wpAny (Mine.M b) A (getMethod (.ref x) name pl) Q E s := by
  obtain ⟨es, n, I, hde, _⟩ := inst_at S mx md
  have hg := hde.get (name := name)
  rw [hl] at hg
  exact method_fn (X.at S) I (plainGet_of X.gets).1 (plainGet_of X.gets).2 M.fnd (beq_iff_eq.mp M.fn) (by show (lookIn name (dictOf es n)).map _ = _; rw [lookIn_dict, hg]; rfl) h
noncomputable abbrev KMi2 (b : Bs) (A : Around) (f : Fm) (pos : Pos) (args : List Expr) (Q : AV → Vs → Led → Prop) : Value × List Value → Vs → Led → Prop := fun gx vs2 H2 => awE b A f vs2 H2 (callWith pos gx.1 gx.2 (backTo pos (starEach args f.env)) []) Q
noncomputable abbrev KMi (b : Bs) (A : Around) (f : Fm) (name : Str) (pl : Sem Bool) (pos : Pos) (args : List Expr) (Q : AV → Vs → Led → Prop) : AV → Vs → Led → Prop := fun ov vs1 H1 => ∀ v, ov.is v → aw b A f vs1 H1 (fun x y => y = x) (getMethod v name pl) (KMi2 b A f pos args Q)
theorem e_methI {o : Expr} {name : Str} {apos pos : Pos} {args : List Expr} {pl : Sem Bool} {Q : AV → Vs → Led → Prop}
    (h : awE b A f vs H (eval o f.env) (KMi b A f name pl pos args Q))
    (he : eval (.Call (.Attribute o name apos) args [] pos) f.env = (do
      let ov ← eval o f.env
      standAt apos.atName
      let (f', first) ← holding [ov] (getMethod ov name pl)
      callWith pos f' first (backTo pos (starEach args f.env)) (backToKw pos (keywordEach [] f.env))) := by rfl) :
    awE b A f vs H (eval (.Call (.Attribute o name apos) args [] pos) f.env) Q := fun P G s S =>
  methodCall_KW (pl := pl) (aw_use (h P G s S) (fun ov s1 x vs1 H1 hx S1 h1 => aw_use (h1 ov hx P G s1 S1) (fun gx s2 gy vs2 H2 hy S2 h2 => by
    subst hy
    exact h2 P G s2 S2))) he
/-- a method of the class -/
theorem m_cls (X : Cls b K C) {x dx fM : Addr} {fs : List (Str × AV)} {name : Str} {pl : Sem Bool} (mx : (x, aoInst C dx) ∈ H) (md : (dx, aoDict fs) ∈ H) (M : Meth K C name fM) (hl : fs.lookup name = none)
    {Q : Value × List Value → Vs → Led → Prop} (h : Q (.ref fM, [.ref x]) vs H) : ∀ v, (AV.ref x).is v → aw b A f vs H (fun x y => y = x) (getMethod v name pl) Q := by
  intro v hv P G s S
  cases hv
  exact h_method X mx md M hl S.sh ⟨_, vs, H, rfl, S, h⟩
/-- a function kept in an object of a class -/
theorem m_own (X : Cls b K C) {x dx g : Addr} {fs : List (Str × AV)} {name : Str} {pl : Sem Bool} (mx : (x, aoInst C dx) ∈ H) (md : (dx, aoDict fs) ∈ H) (hn : findIn K (.ref C) name = some none) (hl : fs.lookup name = some (.ref g))
    {Q : Value × List Value → Vs → Led → Prop} (h : Q (.ref g, []) vs H) : ∀ v, (AV.ref x).is v → aw b A f vs H (fun x y => y = x) (getMethod v name pl) Q := by
  intro v hv P G s S
  cases hv
  obtain ⟨es, n, I, hde, _⟩ := inst_at S.sh mx md
  refine method_usual (X.at S.sh) I (plainGet_of X.gets).1 (plainGet_of X.gets).2 hn rfl ?_
  refine wpAny_mono (h_getOwn X (Q := fun av H' => av = .ref g ∧ H' = H) mx md hn hl (fun w q => by cases q) ⟨rfl, rfl⟩ (.ref x) rfl _ _ s S.down) (fun v s1 ⟨av, H1, hv, T, h1, h2⟩ => ?_) fun _ _ e => e
  subst h1; subst h2; cases hv
  exact ⟨_, vs, _, rfl, S.up T, h⟩

/-! a new object of a class -/
theorem under_tc (A : Around) (a : Args) {n : Nat} (R : Room A (n + 1)) : Room (A.under (.builtin "type.__call__" a)) n := by
  have hfr : (Code.builtin "type.__call__" a).frames = 0 := rfl
  have hgd : (Code.builtin "type.__call__" a).isGuard = false := (by decide +kernel : guardIds.contains "type.__call__" = false)
  have hca : (Code.builtin "type.__call__" a).isCaller = false := rfl
  have hw : (Code.builtin "type.__call__" a).weight ≤ 1 := by
    unfold Code.weight
    rw [hfr, hgd, hca]
    split <;> simp
  have hu : (Code.builtin "type.__call__" a).cUnits ≤ 10 := by
    show 1 + 3 * _ ≤ 10
    rw [hfr]; omega
  exact ⟨R.handled, by have := R.depth; show A.depth + _ + n < 900; omega, by have := R.units; show A.units + _ + 20 * n < 9000; omega⟩
theorem h_make (X : Cls b K C) (hm : makesIn K C = true) {fI : Addr} (M : Meth K C "__init__" fI) {avs : List AV} {Q : AV → Led → Prop} {n : Nat} (R : Room A (n + 1))
    (h : ∀ A' x dx, Room A' n → ∀ P G s ws R, SH b P G ((x, aoInst C dx) :: (dx, aoDict []) :: H) s → Is2 (.ref x :: avs) ws → (∀ v H' s', SH b P G H' s' → v = .none → Q (.ref x) H' → R (.ok (.ret v)) s') →
      codeAny (Mine.M b) A' (.call (.ref fI) ⟨ws, []⟩) R s) :
    ∀ g ws, (AV.ref C).is g → Is2 avs ws → ahE b A H (call g ws []) Q := by
  intro g ws hg hw P G s S
  cases hg
  have X' := X.at S
  obtain ⟨hh, gg, d, t, os⟩ := s
  refine wpAny_call (make_core (makes_of X' hm) (looks_findIn X' M.fnd) (fun self => bind_fn X' self (beq_iff_eq.mp M.fn)) (.inl rfl) ?_)
  have S1 := S.alloc (ao := aoDict []) (o := emptyDict) (t := t) ⟨_, Heap.get?_push_size _ rfl, [], 0, rfl, trivial⟩
  have S2 := S1.alloc (ao := aoInst C hh.objs.size) (o := instObj C hh.objs.size) (t := t) ⟨_, Heap.get?_push_size _ rfl, rfl⟩
  have ez : (hh.push emptyDict).objs.size = hh.objs.size + 1 := Heap.size_push _ _
  rw [ez] at S2
  refine h _ (hh.objs.size + 1) hh.objs.size (under_tc A _ R) P G _ (.ref (hh.objs.size + 1) :: ws) _ S2 ⟨rfl, hw⟩ fun v H' s' hS hv hq => ?_
  exact ⟨hv, .ref _, H', rfl, hS, hq⟩
end

noncomputable def aoTab (ps : Array Value) : AO := .raw fun o => o = tabObj ps
noncomputable def aoCode (qual : Str) : AO := .raw fun o => ∃ vs t, o.data = .fields vs ∧ vs[1]? = some (.str qual t)
noncomputable def aoLam (qual : Str) (params : Arguments) (body : Expr) (sc : Scope) (cl : List (Str × Addr)) (c' : Addr) : AO := .raw fun o => ∃ pm ctv, o = kla_obj "<lambda>" qual params body sc cl pm c' ctv
noncomputable def tabOf (pos : Pos) (c' : Addr) : Array Value := #[] ++ #[rawInt pos.line, rawInt pos.col, .ref c']

structure LamAt (b : Bs) (c P : Addr) : Prop where
  hd : CodeHd b.h₀ c P
  bi : b.h₀.BuiltinsAt b.mg P

section
variable {b : Bs} {A : Around} {f : Fm} {vs : Vs} {H : Led}
theorem St.old_add {P : Prot} {G : GProt} {s s1 : Shared} {ao : AO} {a : Addr} {H0 H1 : Led} (S0 : St b P G f vs H0 s) (S : St b P G f vs H1 s1) (he : keys H1 = keys H0) (ha : s.heap.objs.size ≤ a) (ho : OR s1.heap a ao) : St b P G f vs ((a, ao) :: H1) s1 := by
  have h1 : ∀ o, s.heap.get? a = some o → False := fun o e => absurd (Heap.lt_size e) (Nat.not_lt.mpr ha)
  refine S.up (S.down.add (fun q => ?_) (fun o q => ?_) ho)
  · rw [he] at q
    obtain ⟨o, e⟩ := S0.sh.key_some q
    exact h1 o e
  · rcases q with q | ⟨q, _⟩
    · exact h1 o (S0.sh.keep _ _ q)
    · rcases q with q | ⟨p, hp, q⟩
      · obtain ⟨m, ⟨oL, _, _, hL, _⟩, _⟩ := S0.loc
        exact h1 oL (q ▸ hL)
      · obtain ⟨o', v', ho', _⟩ := S0.cdef p hp
        exact h1 o' (q ▸ ho')
theorem LamAt.ne {c P : Addr} (L : LamAt b c P) {P' : Prot} {G : GProt} {s : Shared} (S : SH b P' G H s) (hm : P ∈ keys H) : mainGlobals ≠ P := by
  rintro rfl
  obtain ⟨o, es, ep, ho, _⟩ := S.ok.g
  exact S.apart _ hm o (S.base _ _ ho)

/-- a lambda, made for the first time -/
theorem e_lam {c P : Addr} {params : Arguments} {body : Expr} {sc : Scope} {pos : Pos} {Q : AV → Vs → Led → Prop} (L : LamAt b c P) (hc : f.env.code = .ref c) (hdef : defaultsOf params f.env = ([], []))
    (hfree : ∀ p ∈ sc.names, p.2 = .free → (f.env.cells.lookup p.1).isSome = true)
    (h : ∀ g c', Q (.ref g) vs ((g, aoLam (f.env.qual ++ "<lambda>") params body sc (clOf f.env sc.names) c') :: (c', aoCode (f.env.qual ++ "<lambda>")) :: (P, aoTab (tabOf pos c')) :: H)) :
    awE b A f vs ((P, aoTab #[]) :: H) (eval (.Lambda params body sc pos) f.env) Q := fun Pr G s S => by
  obtain ⟨o, ho, e⟩ := S.sh.led _ (.head _)
  subst e
  have hgP := L.ne S.sh (.head _)
  have k0 : ∀ a o, b.h₀.get? a = some o → s.heap.get? a = some o := fun a o e => S.sh.old e
  obtain ⟨bm, ob, b1, b2, b3, b4, b5, b6⟩ := L.bi
  refine kla_eval hdef (kla_makeFunction (mg := b.mg) (closureFor_eq hfree) S.fo.glob S.sh.globals hc (L.hd.keeps k0) ho trivial rfl hgP ⟨bm, ob, b1, b2, b3, b4, k0 _ _ b5, b6⟩ fun c' ctv h' tk hx hge hlt hrec htb => ?_)
  have S1 : St b Pr G f vs ((P, aoTab (tabOf pos c')) :: H) { s with heap := h', toks := tk } := S.upd (o := aoTab #[]) .head hx ⟨_, htb, rfl⟩
  have hrec' : OR h' c' (aoCode (f.env.qual ++ "<lambda>")) := by
    obtain ⟨c2, oc, vs2, t, e2, hoc, hd, hv⟩ := hrec
    cases e2
    exact ⟨oc, hoc, vs2, t, hd, hv⟩
  have S2 := S.old_add S1 rfl hge hrec'
  have S3 := S2.alloc (o := kla_obj "<lambda>" (f.env.qual ++ "<lambda>") params body sc (clOf f.env sc.names) ((b.mg "__name__").getD .none) c' ctv) (ao := aoLam (f.env.qual ++ "<lambda>") params body sc (clOf f.env sc.names) c') (t := tk) ⟨_, Heap.get?_push_size _ rfl, _, _, rfl⟩
  exact ⟨.ref _, vs, _, rfl, S3, h _ _⟩
/-- ... and again -/
theorem e_lam_again {c P c' : Addr} {params : Arguments} {body : Expr} {sc : Scope} {pos : Pos} {Q : AV → Vs → Led → Prop} (L : LamAt b c P) (hc : f.env.code = .ref c) (hdef : defaultsOf params f.env = ([], []))
    (hfree : ∀ p ∈ sc.names, p.2 = .free → (f.env.cells.lookup p.1).isSome = true) (hm : (P, aoTab (tabOf pos c')) ∈ H)
    (h : ∀ g, Q (.ref g) vs ((g, aoLam (f.env.qual ++ "<lambda>") params body sc (clOf f.env sc.names) c') :: H)) :
    awE b A f vs H (eval (.Lambda params body sc pos) f.env) Q := fun Pr G s S => by
  obtain ⟨o, ho, e⟩ := S.sh.led _ hm
  subst e
  have hgP := L.ne S.sh (List.mem_map_of_mem (f := (·.1)) hm)
  have k0 : ∀ a o, b.h₀.get? a = some o → s.heap.get? a = some o := fun a o e => S.sh.old e
  obtain ⟨bm, ob, b1, b2, b3, b4, b5, b6⟩ := L.bi
  refine kla_eval hdef (kla_makeFunctionHit (mg := b.mg) (cv := .ref c') (closureFor_eq hfree) S.fo.glob S.sh.globals hc (L.hd.keeps k0) ho (by simp [tabOf, rawInt, TriplesOk]) (by simp [tabOf, codeAmong, rawInt]) ⟨bm, ob, b1, b2, b3, b4, k0 _ _ b5, b6⟩ fun ctv h' tk hk hsz => ?_)
  have S1 : St b Pr G f vs H { s with heap := h', toks := tk } := S.up (S.down.ext hk)
  have S3 := S1.alloc (o := kla_obj "<lambda>" (f.env.qual ++ "<lambda>") params body sc (clOf f.env sc.names) ((b.mg "__name__").getD .none) c' ctv) (ao := aoLam (f.env.qual ++ "<lambda>") params body sc (clOf f.env sc.names) c') (t := tk) ⟨_, Heap.get?_push_size _ rfl, _, _, rfl⟩
  exact ⟨.ref _, vs, _, rfl, S3, h _⟩

/-- a call of a lambda with one name of an outer frame and one argument -/
theorem h_lam {g c c' : Addr} {qual : Str} {params : Arguments} {body : Expr} {sc : Scope} {x p : Str} {av cv : AV} {Q : AV → Led → Prop} (hl : A.depth < recursionLimit)
    (mg : (g, aoLam qual params body sc [(x, c)] c') ∈ H) (mc : (c', aoCode qual) ∈ H)
    (hbind : ∀ pm ctv v, bindArgs (kla_fn "<lambda>" qual params body sc [(x, c)] pm (.ref c') ctv) ⟨[v], []⟩ = pure [(p, v)]) (hloc : sc.names.lookup p = some .local) (vs : Vs)
    (hvl : ∀ (j : Nat) (y : Str) (w : AV), sc.names[j]? = some (y, NameKind.local) → vs[j]? = some (some w) → y = p ∧ w = av)
    (hvc : ∀ (j : Nat) (y : Str) (k : NameKind) (w : AV), sc.names[j]? = some (y, k) → (k = NameKind.cell ∨ k = NameKind.free) → vs[j]? = some (some w) → y = x ∧ w = cv)
    (h : ∀ (f : Fm) (A' : Around), f.env.scope = sc → Deeper A A' → awE b A' f vs H (eval body f.env) fun r _ H' => Q r ((c, .cell cv) :: H'))
    (hnd : (sc.names.map (·.1)).Nodup := by decide) (hcell : ∀ y ∈ sc.names, y.2 ≠ .cell := by decide) (hco : sc.isCoroutine = false := by rfl) (hgen : sc.isGenerator = false := by rfl) (hk : sc.kind = .function := by rfl) :
    ∀ w ws, (AV.ref g).is w → Is2 [av] ws → ahE b A ((c, .cell cv) :: H) (call w ws []) Q := by
  intro w ws hg hw P G s S
  cases hg
  obtain ⟨a, rfl, ha⟩ := Is2.inv1 hw
  obtain ⟨ol, hol, pm, ctv, e⟩ := S.led _ (.tail _ mg)
  subst e
  obtain ⟨oc, hoc, vs', t, hd, hv⟩ := S.led _ (.tail _ mc)
  obtain ⟨oX, vX, hoX, hdX, hvX⟩ := S.led _ (.head _)
  have hcd : s.heap.CodeRec (.ref c') qual := ⟨c', oc, vs', t, rfl, hoc, hd, hv⟩
  have ndk := List.nodup_cons.mp S.nodup
  have hcP : ∀ o, ¬ P c o := S.apart c (.head _)
  refine wpAny_call (kla_callFunE hl hol rfl hco hgen rfl hcd ?_)
  rw [hbind]
  refine wpAny_pure (wpAny_newFunctionEnv hcell (fun y hy => ?_) (fun h₁ hns hsb => ?_) hk)
  · simp only [List.mem_singleton] at hy; subst hy; exact hloc
  · have hk₁ : ∀ b o, s.heap.get? b = some o → h₁.get? b = some o := fun b o e => hsb.extBut b o (Nat.ne_of_lt (Heap.lt_size e)) (Heap.get?_push_of_some _ e)
    have S1 : SH b P G ((c, .cell cv) :: H) { s with heap := h₁, toks := s.toks + [(p, a)].length } := S.ext hk₁
    have hcl : c < s.heap.objs.size := Heap.lt_size hoX
    have S2 : SH b (fun z o => P z o ∨ (z = c ∧ o = oX)) G H { s with heap := h₁, toks := s.toks + [(p, a)].length } := (S1.sub (List.sublist_cons_self _ _)).protect fun z o e => by
      obtain ⟨rfl, rfl⟩ := e
      exact ⟨hk₁ _ _ hoX, ndk.1⟩
    refine ⟨S1.nolim, kla_codeExpr ?_⟩
    have St' : St b (fun z o => P z o ∨ (z = c ∧ o = oX)) G ⟨newEnv sc s.heap.objs.size mainGlobals [(x, c)] (qual ++ ".<locals>.") (some g) (.ref c') none builtinsNs, false⟩ vs H { s with heap := h₁, toks := s.toks + [(p, a)].length } := by
      refine ⟨⟨hk, rfl, rfl, hnd, by simp [newEnv], fun q hq => ?_⟩, S2, fun o q => ?_, fun q => ?_, fun q hq => ?_, (fun q => nomatch q), fun q hq => ?_, ⟨_, hns, fun j y w hj hjv => ?_⟩, fun j y k w hj hkk hjv => ?_⟩
      · simp only [newEnv, List.mem_singleton] at hq
        subst hq
        exact Nat.ne_of_lt hcl
      · rcases q with q | ⟨q, _⟩
        · exact absurd (Heap.lt_size (S.keep _ _ q)) (Nat.lt_irrefl _)
        · exact absurd hcl (by rw [← q]; exact Nat.lt_irrefl _)
      · obtain ⟨o, e⟩ := S.key_some (List.mem_cons_of_mem _ q)
        exact absurd (Heap.lt_size e) (Nat.lt_irrefl _)
      · simp only [newEnv, List.mem_singleton] at hq
        subst hq
        exact ndk.1
      · simp only [newEnv, List.mem_singleton] at hq
        subst hq
        exact ⟨oX, _, hk₁ _ _ hoX, hdX⟩
      · obtain ⟨rfl, rfl⟩ := hvl j y w hj hjv
        exact ⟨a, by simp, ha⟩
      · obtain ⟨rfl, rfl⟩ := hvc j y k w hj hkk hjv
        exact ⟨c, oX, vX, by simp [newEnv], hk₁ _ _ hoX, hdX, hvX⟩
    refine aw_use (h ⟨newEnv sc s.heap.objs.size mainGlobals [(x, c)] (qual ++ ".<locals>.") (some g) (.ref c') none builtinsNs, false⟩ (A.deeper _) rfl ⟨rfl, rfl, rfl⟩ _ G _ St') (fun v s' r vs2 H' hr S' hq => ?_)
    have T := S'.sh
    have hc' := T.keep c oX (.inr ⟨rfl, rfl⟩)
    have hcn : c ∉ keys H' := fun q => T.apart c q oX (.inr ⟨rfl, rfl⟩)
    exact ⟨r, _, hr, (T.weaken S.base (fun _ _ e => .inl e) fun _ _ e => e).add (ao := .cell cv) hcn hcP ⟨oX, vX, hc', hdX, hvX⟩, hq⟩
end

/-- what a code ends with -/
noncomputable def ahC (b : Bs) (A : Around) (H : Led) (c : Code) (Q : AV → Led → Prop) : Prop :=
  ∀ P G s R, SH b P G H s → (∀ x v H' s', x.is v → SH b P G H' s' → Q x H' → R (.ok (.ret v)) s') → codeAny (M b) A c R s
noncomputable def OptIs : Option AV → Option Value → Prop
  | none, r => r = none
  | some x, r => ∃ v, r = some v ∧ x.is v

section
variable {b : Bs} {A : Around} {f : Fm} {vs : Vs} {H : Led}
theorem ahC.toE {g : Value} {ws : List Value} {Q : AV → Led → Prop} (h : ahC b A H (.call g ⟨ws, []⟩) Q) : ahE b A H (call g ws []) Q := fun P G s S =>
  wpAny_call (h P G s _ S fun x v H' s' hx hS hq => ⟨x, H', hx, hS, hq⟩)
theorem ahC.mono {c : Code} {Q Q' : AV → Led → Prop} (h : ahC b A H c Q) (k : ∀ x H', Q x H' → Q' x H') : ahC b A H c Q' := fun P G s R S hR =>
  h P G s R S fun x v H' s' hx hS hq => hR x v H' s' hx hS (k _ _ hq)
theorem ahC.perm {H' : Led} {c : Code} {Q : AV → Led → Prop} (hp : H.Perm H') (h : ahC b A H' c Q) : ahC b A H c Q := fun P G s R S hR => h P G s R (S.perm hp) hR
theorem ahC.sub {H' : Led} {c : Code} {Q : AV → Led → Prop} (hp : H'.Sublist H) (h : ahC b A H' c Q) : ahC b A H c Q := fun P G s R S hR => h P G s R (S.sub hp) hR
/-- the rest stands as it stood -/
noncomputable def heldP (P : Prot) (H0 : Led) (s : Shared) : Prot := fun a o => P a o ∨ (a ∈ keys H0 ∧ s.heap.get? a = some o)
theorem SH.part {P : Prot} {G : GProt} {s : Shared} {H0 : Led} (S : SH b P G (H0 ++ H) s) : SH b (heldP P H0 s) G H s := by
  have nd : (keys H0 ++ keys H).Nodup := by
    have := S.nodup
    rwa [show keys (H0 ++ H) = keys H0 ++ keys H from List.map_append] at this
  exact (S.sub (List.sublist_append_right _ _)).protect fun a o e => ⟨e.2, fun q => (List.nodup_append.mp nd).2.2 a e.1 a q rfl⟩
theorem SH.whole {P : Prot} {G : GProt} {s s' : Shared} {H0 H' : Led} (S : SH b P G (H0 ++ H) s) (T : SH b (heldP P H0 s) G H' s') : SH b P G (H0 ++ H') s' := by
  have nd : (keys H0 ++ keys H).Nodup := by
    have := S.nodup
    rwa [show keys (H0 ++ H) = keys H0 ++ keys H from List.map_append] at this
  have hk : ∀ a ∈ keys H0, ∃ o, s.heap.get? a = some o := fun a ha => S.key_some (by rw [show keys (H0 ++ H) = keys H0 ++ keys H from List.map_append]; exact List.mem_append_left _ ha)
  have T' := T.weaken S.base (fun _ _ e => .inl e) fun _ _ e => e
  refine ⟨T'.ok, T'.base, T'.keep, fun a ha => ?_, ?_, fun p hp => ?_, T'.gk, T'.gb, T'.os⟩
  · rw [show keys (H0 ++ H') = keys H0 ++ keys H' from List.map_append] at ha
    rcases List.mem_append.mp ha with q | q
    · exact S.apart a (by rw [show keys (H0 ++ H) = keys H0 ++ keys H from List.map_append]; exact List.mem_append_left _ q)
    · exact T'.apart a q
  · rw [show keys (H0 ++ H') = keys H0 ++ keys H' from List.map_append]
    refine List.nodup_append.mpr ⟨(List.nodup_append.mp nd).1, T'.nodup, fun a ha b' hb e => ?_⟩
    subst e
    obtain ⟨o, ho⟩ := hk a ha
    exact T.apart a hb o (.inr ⟨ha, ho⟩)
  · rcases List.mem_append.mp hp with q | q
    · exact (S.led p (List.mem_append_left _ q)).mono fun o e => T.keep _ o (.inr ⟨List.mem_map_of_mem (f := (·.1)) q, e⟩)
    · exact T'.led p q
theorem ahC.frame {H0 : Led} {c : Code} {Q : AV → Led → Prop} (h : ahC b A H c fun x H' => Q x (H0 ++ H')) : ahC b A (H0 ++ H) c Q := fun P G s R S hR =>
  h _ G s R S.part fun x v H' s' hx T hq => hR x v _ s' hx (S.whole T) hq
theorem ah_frame {H0 : Led} {α β : Type} {R : β → α → Prop} {t : Sem α} {Q : β → Led → Prop} (h : ah b A H R t fun x H' => Q x (H0 ++ H')) : ah b A (H0 ++ H) R t Q := fun P G s S =>
  wpAny_mono (h _ G s S.part) (fun a s' ⟨x, H', hx, T, hq⟩ => ⟨x, _, hx, S.whole T, hq⟩) fun _ _ e => e
theorem ah_perm {H' : Led} {α β : Type} {R : β → α → Prop} {t : Sem α} {Q : β → Led → Prop} (hp : H.Perm H') (h : ah b A H' R t Q) : ah b A H R t Q := fun P G s S => h P G s (S.perm hp)

/-! a for loop over any iterator -/
noncomputable abbrev KGt (b : Bs) (A : Around) (f : Fm) (target : Expr) (body : List Stmt) (I : Nat → Vs → Led → Prop) (n : Nat) (Q : AF → Vs → Led → Prop) : Option AV → Vs → Led → Prop := fun r vs1 H1 => match r with
  | none => Q .next vs1 H1
  | some x => ∀ v, x.is v → awU b A f vs1 H1 (assign target f.env v) (fun _ vs2 H2 => awF b A f vs2 H2 (execs body f.env) (KWl I n Q))
noncomputable abbrev KGi (b : Bs) (A : Around) (f : Fm) (target : Expr) (body : List Stmt) (Q : AF → Vs → Led → Prop) : AV → Vs → Led → Prop := fun it vs2 H2 => ∃ (I : Nat → Vs → Led → Prop) (n : Nat), I n vs2 H2 ∧ ∀ n vs H, I n vs H → ∀ w, it.is w → aw b A f vs H OptIs (pyNext w) (KGt b A f target body I n Q)
noncomputable abbrev KGo (b : Bs) (A : Around) (f : Fm) (target : Expr) (body : List Stmt) (Q : AF → Vs → Led → Prop) : AV → Vs → Led → Prop := fun xv vs1 H1 => ∀ v, xv.is v → awE b A f vs1 H1 (pyIter v) (KGi b A f target body Q)
theorem x_forG {target iter : Expr} {body : List Stmt} {pos : Pos} {Q : AF → Vs → Led → Prop} (h : awE b A f vs H (eval iter f.env) (KGo b A f target body Q))
    (hs : ∀ x, foldedSetIterable iter f.env x = pure x := by intro _; rfl) (ht : ∀ it v, letOwnedTupleGo target it v = pure () := by intro _ _; rfl) : awF b A f vs H (exec (.For target iter body [] pos) f.env) Q := fun P G s S => by
  refine wpAny_For (aw_use (h P G s S) (fun v s1 xv vs1 H1 hv S1 h1 => ?_)) hs
  refine aw_use (h1 v hv P G s1 S1) (fun w s2 it vs2 H2 hw S2 hr9 => ?_)
  obtain ⟨I, n, h0, turn⟩ := hr9
  refine codeAny_mono (codeAny_forLoop (R := FlowEnd b P G f Q) (fun n s => ∃ vs H, St b P G f vs H s ∧ I n vs H) ?_ n ⟨vs2, H2, S2, h0⟩ (ht w)) fun r s' hr => ?_
  · rintro n s ⟨vs, H, S, hI⟩
    refine wpAny_false (aw_use (turn n vs H hI w hw P G s S) (fun r s1 rx vs1 H1 hr S1 h1 => ?_))
    cases rx with
    | none => cases hr; exact wpAny_execs_nil ⟨.next, vs1, H1, rfl, S1, h1⟩
    | some x =>
      obtain ⟨v, rfl, hx⟩ := hr
      refine wpAny_false (aw_use (h1 v hx P G s1 S1) (fun _ s2 _ vs2 H2 _ S2 h2 => ?_))
      refine wpAny_false (aw_use (h2 P G s2 S2) (fun fl s3 fx vs3 H3 hf S3 h3 => ?_))
      cases fx with
      | next => cases hf; obtain ⟨m, hm, hI⟩ := h3; exact ⟨m, hm, vs3, H3, S3, hI⟩
      | cont => cases hf; obtain ⟨m, hm, hI⟩ := h3; exact ⟨m, hm, vs3, H3, S3, hI⟩
      | brk => cases hf; exact ⟨.next, vs3, H3, rfl, S3, h3⟩
      | ret v => obtain ⟨w, rfl, hw⟩ := hf; exact ⟨.ret v, vs3, H3, ⟨w, rfl, hw⟩, S3, h3⟩
  · cases r with
    | ok fl => exact hr
    | error e => exact hr.elim

/-! an iterator over a call -/
theorem slot_ci_next : Slot "callable_iterator" "__next__" "callable_iterator.__next__" :=
  .of (owner := "callable_iterator") (n := "__next__") (by rw [typeLookup_type, builtinLookup_eq_fast]; kernel_rfl) (by decide +kernel) (by decide +kernel) (by decide +kernel)
    (by first | exact .inl (by decide +kernel) | exact .inr (by decide +kernel)) (by rw [isSubtype_type]; kernel_rfl)
theorem entry_ci_next : entryFor table "callable_iterator.__next__" = some Builtin.«callable_iterator.__next__» := entryFor_of_tree (by kernel_rfl)
theorem args_ci_next (a : Value) : argsOk "callable_iterator.__next__" ⟨[a], []⟩ := by unfold argsOk; kernel_rfl
theorem slot_method_call : typeLookup (.type "method") "__call__" = pure (some (.builtin "method.__call__")) := by rw [typeLookup_type, builtinLookup_eq_fast]; kernel_rfl
theorem args_iter2 (a v : Value) : argsOk "iter" ⟨[a, v], []⟩ := by unfold argsOk; kernel_rfl
noncomputable def aoCallIt (m : Addr) : AO := .raw fun o => o.cls = .type "callable_iterator" ∧ ∃ t, o.data = .fields #[.ref m, .str ⟨#[]⟩ t, .bool false]
end

theorem slot_ci_iter : Slot "callable_iterator" "__iter__" "callable_iterator.__iter__" :=
  .of (owner := "callable_iterator") (n := "__iter__") (by rw [typeLookup_type, builtinLookup_eq_fast]; kernel_rfl) (by decide +kernel) (by decide +kernel) (by decide +kernel)
    (by first | exact .inl (by decide +kernel) | exact .inr (by decide +kernel)) (by rw [isSubtype_type]; kernel_rfl)
theorem entry_ci_iter : entryFor table "callable_iterator.__iter__" = some Builtin.«dict_keyiterator.__iter__» :=
  entryFor_alias (id' := "dict_keyiterator.__iter__") (by rw [fastTable_eq_tree]; kernel_rfl) (by decide +kernel) (by decide +kernel) (by rw [fastTable_eq_tree]; kernel_rfl)
theorem args_ci_iter (a : Value) : argsOk "callable_iterator.__iter__" ⟨[a], []⟩ := by unfold argsOk; kernel_rfl

section
variable {b : Bs} {A : Around} {f : Fm} {vs : Vs} {H : Led}
theorem k_iter_call {m fM x : Addr} {Q : AV → Vs → Led → Prop} (hm : (m, aoMeth fM x) ∈ H) (h : ∀ I, Q (.ref I) vs ((I, aoCallIt m) :: H)) :
    ∀ g ws, (AV.con (.builtin "iter")).is g → Is2 [.ref m, .str []] ws → awE b A f vs H (call g ws []) Q := by
  intro g ws hg hw P G s S
  cases hg
  replace hw := Is2.inv2 hw
  obtain ⟨w, w', rfl, hw, ⟨t, hw'⟩⟩ := hw
  cases hw
  subst hw'
  obtain ⟨o, ho, e⟩ := S.sh.led _ hm
  subst e
  refine call_function_entry (by decide +kernel) (by decide +kernel) kdk_entry_iter (args_iter2 _ _) ?_
  unfold Builtin.«iter»
  refine wpAny_bind (m := someArgs "iter" 1 2 _) (wpAny_of_eq (a := [Value.ref m, Value.str ⟨[].toArray⟩ t]) (by first | rfl | kernel_rfl!) ?_)
  dsimp only
  refine wpAny_bind (wpAny_specialOf (T := "method") ⟨_, ho, rfl⟩ slot_method_call ?_)
  refine wpAny_ite_split (fun hab => absurd hab (by decide)) (fun _ => ?_)
  refine wpAny_bind (wpAny_rule (wpAny_bind (wpAny_newObj_type (wpAny_pure ?_) (by size_fits))))
  exact ⟨_, rfl, .ref _, vs, _, rfl, S.alloc (ao := aoCallIt m) (t := s.toks) ⟨_, Heap.get?_push_size _ rfl, rfl, t, rfl⟩, h _⟩
theorem g_iter_callit {it m : Addr} {Q : AV → Vs → Led → Prop} (hm : (it, aoCallIt m) ∈ H) (h : Q (.ref it) vs H) : ∀ v, (AV.ref it).is v → awE b A f vs H (pyIter v) Q := by
  intro v hv P G s S
  cases hv
  obtain ⟨o, ho, hc, t, hd⟩ := S.sh.led _ hm
  have hT : s.TypeIs (.ref it) "callable_iterator" := ⟨o, ho, hc⟩
  refine wpAny_pyIter_slot hT slot_ci_iter (wpAny_call_entry slot_ci_iter hT entry_ci_iter ?_ (args_ci_iter _))
  show wpAny _ _ (ret (.ref it)) _ _ s
  exact wpAny_pure ⟨_, rfl, "callable_iterator", _, hT, slot_ci_next.lookup, .ref it, vs, H, rfl, S, h⟩

theorem wpAny_callBorrowed {M : Model} {A : Around} {g : Value} {ws : List Value} {Q : Value → Shared → Prop} {E : Value → Shared → Prop} {s : Shared} (h : wpAny M A (call g ws []) Q E s) : wpAny M A (callBorrowed g ws) Q E s := by
  have e : callBorrowed g ws = (call g ws []).keep [borrowed] := by
    unfold callBorrowed call runValue run
    show Sem.call _ _ _ _ _ = Sem.call _ _ _ _ _
    congr 1
    funext r
    rcases r with e | (v | _ | _ | _) <;> rfl
  rw [e]
  exact Calls.wpAny_keep h
theorem wpAny_borrows {M : Model} {A : Around} {m fM x : Addr} {o : Obj} {fd : FuncData} {Q : Bool → Shared → Prop} {E : Value → Shared → Prop} {s : Shared} (ho : s.heap.get? m = some (methodObj (.ref fM) (.ref x))) (hf : s.heap.get? fM = some o) (hd : o.data = .func fd)
    (h : Q true s) : wpAny M A (borrowsExactly (.ref m)) Q E s := by
  unfold borrowsExactly
  refine wpAny_bind (wpAny_load ho ?_)
  dsimp only
  rw [if_pos (by rfl)]
  show wpAny M A (load fM >>= _) Q E s
  refine wpAny_bind (wpAny_load hf ?_)
  rw [hd]
  exact wpAny_pure h

/-- the next item of an iterator over calls of a method -/
theorem h_next_callit {it m fM x : Addr} {Q : Option AV → Led → Prop} (hh : A.handled = none) (hf : ∃ o fd, b.h₀.get? fM = some o ∧ o.data = .func fd)
    (spec : ahC b A.in1 H (.call (.ref fM) ⟨[.ref x], []⟩) fun r H' => ∃ l, r = .str l ∧ (l ≠ [] → Q (some (.str l)) ((it, aoCallIt m) :: (m, aoMeth fM x) :: H')) ∧ (l = [] → Q none ((m, aoMeth fM x) :: H'))) :
    ∀ w, (AV.ref it).is w → ah b A ((it, aoCallIt m) :: (m, aoMeth fM x) :: H) OptIs (pyNext w) Q := by
  intro w hw P G s S
  cases hw
  obtain ⟨o, ho, hc, t, hd⟩ := S.led _ (.head _)
  obtain ⟨om, hom, e⟩ := S.led _ (.tail _ (.head _))
  subst e
  obtain ⟨of, fd, hof, hfd⟩ := hf
  have hT : s.TypeIs (.ref it) "callable_iterator" := ⟨o, ho, hc⟩
  have hof' := S.old hof
  unfold pyNext
  refine wpAny_bind (wpAny_attempt (wpAny_callSpecial?_slot (name := Str.ofString "__next__") hT slot_ci_next (wpAny_call_entry slot_ci_next hT entry_ci_next ?_ (args_ci_next _))))
  show wpAny _ _ (field (.ref it) 2 >>= _) _ _ s
  refine wpAny_bind (wpAny_field ho hd (x := .bool false) rfl ?_)
  refine wpAny_ite_split (fun hab => absurd hab (by decide)) (fun _ => ?_)
  show wpAny _ _ (field (.ref it) 0 >>= _) _ _ s
  refine wpAny_bind (wpAny_field ho hd (x := .ref m) rfl ?_)
  refine wpAny_bind (wpAny_attempt ?_)
  unfold callOutOfASlot
  refine wpAny_bind (wpAny_borrows hom hof' hfd ?_)
  rw [if_pos rfl]
  refine wpAny_callBorrowed (wpAny_call (method_call hom ?_))
  have hS : SH b (heldP P [(it, aoCallIt m), (m, aoMeth fM x)] s) G H s := SH.part (H0 := [(it, aoCallIt m), (m, aoMeth fM x)]) S
  refine spec _ G s _ hS fun y v H' s' hy T hq => ?_
  have W := SH.whole (H0 := [(it, aoCallIt m), (m, aoMeth fM x)]) S T
  obtain ⟨l, rfl, h1, h2⟩ := hq
  obtain ⟨u, rfl⟩ := hy
  have ho' := T.keep it o (.inr ⟨.head _, ho⟩)
  have hom' := T.keep m _ (.inr ⟨.tail _ (.head _), hom⟩)
  show wpAny _ _ (field (.ref it) 2 >>= _) _ _ s'
  refine wpAny_bind (wpAny_field ho' hd (x := .bool false) rfl ?_)
  refine wpAny_ite_split (fun hab => absurd hab (by decide)) (fun _ => ?_)
  show wpAny _ _ (field (.ref it) 1 >>= _) _ _ s'
  refine wpAny_bind (wpAny_field ho' hd (x := .str ⟨#[]⟩ t) rfl ?_)
  refine wpAny_bind (wpAny_holding (eqBool_str ?_))
  have eb : ((⟨#[]⟩ : Str) == ⟨l.toArray⟩) = ([] == l) := str_beq [] l
  rw [eb]
  cases l with
  | cons c r =>
    rw [show (([] : List Nat) == c :: r) = false from rfl]
    refine wpAny_ite_split (fun _ => ?_) (fun hab => absurd rfl hab)
    exact wpAny_pure ⟨_, rfl, wpAny_pure ⟨some (.str (c :: r)), _, ⟨_, rfl, u, rfl⟩, W, h1 (by simp)⟩⟩
  | nil =>
    rw [show (([] : List Nat) == []) = true from rfl]
    refine wpAny_ite_split (fun hab => absurd hab (by decide)) (fun _ => ?_)
    refine wpAny_bind (wpAny_rule (wpAny_bind ?_))
    show wpAny _ _ (field (.ref it) 0 >>= _) _ _ s'
    refine wpAny_bind (wpAny_field ho' hd (x := .ref m) rfl (wpAny_bind ?_))
    unfold slotLetsGo
    have hof2 := T.old hof
    refine wpAny_bind (wpAny_borrows hom' hof2 hfd ?_)
    rw [if_pos rfl]
    refine wpAny_pure ?_
    refine wpAny_bind (wpAny_setField ho' hd (by simp) ?_)
    have hd1 := Obj.data_mapFields hd (·.setIfInBounds 0 Value.none)
    have ho1 := Heap.get?_update_self (Obj.mapFields (·.setIfInBounds 0 Value.none)) ho' (Obj.isFreed_of_fields hd1)
    refine wpAny_bind (wpAny_setField ho1 hd1 (by simp) ?_)
    have hd2 := Obj.data_mapFields hd1 (·.setIfInBounds 1 Value.none)
    have ho2 := Heap.get?_update_self (Obj.mapFields (·.setIfInBounds 1 Value.none)) ho1 (Obj.isFreed_of_fields hd2)
    refine wpAny_setField ho2 hd2 (by simp) ?_
    show wpAny _ _ (newExc (.type "StopIteration") [] >>= _) _ _ _
    refine wpAny_bind ?_
    simp only [newExc, newTuple]
    refine wpAny_bind (wpAny_newObj_type ?_ (by size_fits))
    refine wpAny_bind (m := firstArgMember _ _) (wpAny_of_eq (a := Value.none) (by first | rfl | (simp only [firstArgMember]; rfl)) ?_)
    refine wpAny_newObj_type ?_ (by size_fits)
    simp only [raiseNew]
    refine wpAny_bind (wpAny_handled ?_)
    rw [show A.in1.handled = none from hh]
    refine wpAny_bind (wpAny_pure (wpAny_throw ?_))
    refine wpAny_bind (wpAny_isInstance (T := "StopIteration") (b := true) ⟨_, Heap.get?_push_size _ rfl, rfl⟩ isSubtype_stop ?_)
    have W1 : SH b P G ((m, aoMeth fM x) :: H') s' := W.sub (List.sublist_cons_self _ _)
    have hitk : it ∉ keys ((m, aoMeth fM x) :: H') := (List.nodup_cons.mp W.nodup).1
    refine wpAny_pure ⟨none, _, rfl, W1.but (x := it) (t := s'.toks) hitk (W.apart it (.head _)) ?_, h2 rfl⟩
    exact (((((Heap.SameBut.update ..).extBut).trans ((Heap.SameBut.update ..).extBut)).trans ((Heap.SameBut.update ..).extBut)).push _).push _
end

end Mine

namespace Mine
local macro_rules | `(tactic| walk_at "nm") => `(tactic| first
  | refine e_loc (by assumption) 0 (by rfl) (by rfl) ?_ | refine e_loc (by assumption) 1 (by rfl) (by rfl) ?_ | refine e_loc (by assumption) 2 (by rfl) (by rfl) ?_ | refine e_loc (by assumption) 3 (by rfl) (by rfl) ?_
  | refine e_loc (by assumption) 4 (by rfl) (by rfl) ?_ | refine e_loc (by assumption) 5 (by rfl) (by rfl) ?_ | refine e_loc (by assumption) 6 (by rfl) (by rfl) ?_ | refine e_loc (by assumption) 7 (by rfl) (by rfl) ?_)
local macro_rules | `(tactic| walk_at "nu") => `(tactic| first
  | refine u_loc (by assumption) 0 (by rfl) (by assumption) ?_ | refine u_loc (by assumption) 1 (by rfl) (by assumption) ?_ | refine u_loc (by assumption) 2 (by rfl) (by assumption) ?_ | refine u_loc (by assumption) 3 (by rfl) (by assumption) ?_
  | refine u_loc (by assumption) 4 (by rfl) (by assumption) ?_ | refine u_loc (by assumption) 5 (by rfl) (by assumption) ?_)

/-! the text's functions -/
noncomputable def stAt (i : Nat) : Option Stmt := Challenge.pw_us0005_01.main.body[i]?
noncomputable def clsBody : Option Stmt → List Stmt
  | some (.ClassDef _ _ _ b ..) => b
  | _ => []
noncomputable def meAt (i : Nat) : Option Stmt := (clsBody (stAt 9))[i]?
noncomputable def bodyOf : Option Stmt → List Stmt
  | some (.FunctionDef _ _ b ..) => b
  | _ => []
noncomputable def scopeOf : Option Stmt → Scope
  | some (.FunctionDef _ _ _ _ _ _ s ..) => s
  | _ => default
noncomputable def paramsOf : Option Stmt → Arguments
  | some (.FunctionDef _ a ..) => a
  | _ => ⟨[], [], none, [], [], none, []⟩
structure FnIs (b : Bs) (a : Addr) (st : Option Stmt) : Prop where
  ex : ∃ fd, FnAt b a fd (bodyOf st) ∧ fd.scope = scopeOf st ∧ fd.params = paramsOf st ∧ fd.defaults = .none
theorem binds_of {s : Shared} {fd : FuncData} {ps : Arguments} {args : Args} {binds : List (Str × Value)} (hp : fd.params = ps) (hd : fd.defaults = .none) (h : bindArgs { fd with params := ps, defaults := .none } args = pure binds) : BindsTo s fd args binds := by
  refine BindsTo.of_eq ?_
  rw [← h, ← hp, ← hd]
theorem FnIs.func {b : Bs} {a : Addr} {st : Option Stmt} (F : FnIs b a st) : ∃ o fd, b.h₀.get? a = some o ∧ o.data = .func fd := by
  obtain ⟨fd, ⟨⟨o, ho, hd⟩, _⟩, _⟩ := F
  exact ⟨o, fd, ho, hd⟩
theorem FnIs.keep {b : Bs} {a : Addr} {st : Option Stmt} (F : FnIs b a st) : KeepOk b (.ref a) := F.func
section
variable {b : Bs} {A : Around} {H : Led}
theorem h_code {a : Addr} {st : Option Stmt} {ns : List (Str × NameKind)} {avs : List AV} {Q : AV → Led → Prop} {n : Nat} (F : FnIs b a st) (R : Room A (n + 1)) {ws : List Value} (hw : Is2 avs ws) (ps : List Str)
    (hns : (scopeOf st).names = ns) (hps : (ns.map (·.1)).take ps.length = ps) (hlen : avs.length = ps.length)
    (hpk : ∀ p ∈ ns.take ps.length, p.2 = .local ∨ p.2 = .cell)
    (hbind : ∀ (fd : FuncData) ws, Is2 avs ws → bindArgs { fd with params := paramsOf st, defaults := .none } ⟨ws, []⟩ = pure (ps.zip ws))
    (h : ∀ (f : Fm) (A' : Around), f.env.scope.names = ns → f.own = true → f.env.cells.map (·.1) = ((ns.filter (·.2 == .cell)).map (·.1)).reverse → Room A' n →
      awF b A' f (avs.map some ++ List.replicate (ns.length - ps.length) none) H (execs (bodyOf st) f.env) fun fl vs' H' => Q fl.out H')
    (hnd : (ns.map (·.1)).Nodup := by decide) (hco : (scopeOf st).isCoroutine = false := by rfl) (hgen : (scopeOf st).isGenerator = false := by rfl) (hk : (scopeOf st).kind = .function := by rfl) :
    ahC b A H (.call (.ref a) ⟨ws, []⟩) Q := by
  subst hns
  intro P G s R' S hR
  obtain ⟨fd, F, e1, e2, e3⟩ := F
  exact h_fnC F e1 R.limit hps hlen hpk (fun P G s ws S hw => ⟨ws, hw, binds_of e2 e3 (hbind fd ws hw)⟩) (fun f A' h1 h2 h3 h4 _ => h f A' (by rw [h1]) h2 h3 (R.deeper h4)) hnd hco hgen hk P G s ws R' S hw fun x v H' s' hx hS hq => hR x v H' s' hx hS hq
end

/-! names are looked up -/

/-! the lexer's class -/
structure Net (b : Bs) where
  K : Frag
  C : Addr
  fI : Addr
  fR : Addr
  fG : Addr
  fP : Addr
  X : Cls b K C
  makes : makesIn K C = true
  keeps : keepIn K (.ref C) = true
  mI : Meth K C "__init__" fI
  mR : Meth K C "_read_char" fR
  mG : Meth K C "get_token" fG
  mP : Meth K C "push_token" fP
  nL : findIn K (.ref C) "lineno" = some none
  nS : findIn K (.ref C) "instream" = some none
  nW : findIn K (.ref C) "whitespace" = some none
  nB : findIn K (.ref C) "pushback" = some none
  nD : findIn K (.ref C) "read" = some none
  isI : FnIs b fI (meAt 0)
  isR : FnIs b fR (meAt 1)
  isG : FnIs b fG (meAt 2)
  isP : FnIs b fP (meAt 3)

noncomputable def sL : Str := "lineno"
noncomputable def blanks : List Nat := [10, 9, 13, 32]
section
variable {b : Bs} {A : Around} {H : Led}
set_option maxRecDepth 100000
theorem takers (N : Net b) : takerIn N.K N.C "lineno" = some none ∧ takerIn N.K N.C "instream" = some none ∧ takerIn N.K N.C "whitespace" = some none ∧ takerIn N.K N.C "pushback" = some none ∧ takerIn N.K N.C "read" = some none := by
  unfold takerIn
  rw [N.nL, N.nS, N.nW, N.nB, N.nD]
  exact ⟨rfl, rfl, rfl, rfl, rfl⟩
theorem h_push (N : Net b) {n : Nat} (R : Room A (n + 1)) {x dx pb : Addr} {fs : List (Str × AV)} {ts : List AV} {t : AV} (hfs : fs.lookup (Str.ofString "pushback") = some (.ref pb)) (hz : ts.length ≤ 2 ^ 24) {ws : List Value} (hw : Is2 [.ref x, t] ws) :
    ahC b A ((x, aoInst N.C dx) :: (dx, aoDict fs) :: (pb, .list ts) :: H) (.call (.ref N.fP) ⟨ws, []⟩) fun r H' => r = .none ∧ H' = (x, aoInst N.C dx) :: (dx, aoDict fs) :: (pb, .list (ts ++ [t])) :: H := by
  refine h_code (ns := [("self", .local), ("token", .local)]) N.isP R hw ["self", "token"] (by rfl) (by rfl) (by rfl) (by decide) (fun fd ws hw => ?_) (fun f A' hn ho hc hR => ?_)
  · obtain ⟨_, _, rfl, _, _⟩ := Is2.inv2 hw
    rfl
  · show awF _ _ _ [some (.ref x), some t] _ _ _
    refine x_cons ?_
    refine x_expr ?_
    refine e_meth PySem.F.plainAttrs_list PySem.F.slot_list_append PySem.F.type_list_append ?_
    refine e_attr ?_
    walk_at "nm"
    intro v hv
    refine aw_of_ah (h_getOwn N.X (.head _) (.tail _ (.head _)) N.nB hfs (fun w q => by cases q) ?_ v hv)
    refine ⟨⟨rfl, ts, .tail _ (.tail _ (.head _))⟩, ?_⟩
    refine l_cons ?_
    walk_at "nm"
    refine l_nil ?_
    intro v ws hv hw
    refine k_append (.tail (.tail .head)) hz ?_ v ws hv hw
    refine x_nil ?_
    exact ⟨rfl, rfl⟩
end

structure Blt (b : Bs) : Prop where
  next : b.mg "next" = none ∧ b.mb "next" = some (.builtin "next")
  iter : b.mg "iter" = none ∧ b.mb "iter" = some (.builtin "iter")
  len : b.mg "len" = none ∧ b.mb "len" = some (.builtin "len")
  range : b.mg "range" = none ∧ b.mb "range" = some (.type "range")
  sum : b.mg "sum" = none ∧ b.mb "sum" = some (.builtin "sum")
  sorted : b.mg "sorted" = none ∧ b.mb "sorted" = some (.builtin "sorted")
  enumerate : b.mg "enumerate" = none ∧ b.mb "enumerate" = some (.type "enumerate")
  stop : b.mg "StopIteration" = none ∧ b.mb "StopIteration" = some (.type "StopIteration")

/-- the fields of a lexer -/
noncomputable def lexFs (n : Int) (st : AV) (pb : Addr) : List (Str × AV) := [("lineno", .int n), ("instream", st), ("whitespace", .str blanks'), ("pushback", .ref pb)]
where blanks' : List Nat := [10, 9, 13, 32]

noncomputable def lexFsR (pb g : Addr) : List (Str × AV) := lexFs 1 .none pb ++ [(Str.ofString "read", AV.ref g)]
noncomputable def lamOf : Option Stmt → Option Expr
  | some (.Assign _ v _) => some v
  | _ => none
noncomputable def lamE : Option Expr := lamOf ((bodyOf (stAt 14))[2]?)
noncomputable def lamParams : Arguments := match lamE with | some (.Lambda a _ _ _) => a | _ => ⟨[], [], none, [], [], none, []⟩
noncomputable def lamBody : Expr := match lamE with | some (.Lambda _ b _ _) => b | _ => default
noncomputable def lamScope : Scope := match lamE with | some (.Lambda _ _ s _) => s | _ => default

structure LexA where
  x : Addr
  dx : Addr
  pb : Addr
  st : Addr
  dst : Addr
  pb2 : Addr
  g : Addr
  c : Addr
  I : Addr
/-- all of a lexer but the cell and the iterator -/
noncomputable def lexRest {b : Bs} (N : Net b) (q : Str) (cc : Addr) (k : LexA) (text rest : List Nat) (push : List AV) : Led :=
  [(k.x, aoInst N.C k.dx), (k.dx, aoDict (lexFs (1 + (cntN 10 text : Nat) - (cntN 10 rest : Nat)) (.ref k.st) k.pb)), (k.pb, .list push), (k.st, aoInst N.C k.dst), (k.dst, aoDict (lexFsR k.pb2 k.g)),
   (k.g, aoLam q lamParams lamBody lamScope [("signs", k.c)] cc), (cc, aoCode q)]
noncomputable def lexLed {b : Bs} (N : Net b) (q : Str) (cc : Addr) (k : LexA) (text rest : List Nat) (push : List AV) : Led := (k.c, .cell (.ref k.I)) :: (k.I, aoStrIt text (text.length - rest.length)) :: lexRest N q cc k text rest push
noncomputable def lexEnd {b : Bs} (N : Net b) (q : Str) (cc : Addr) (k : LexA) (text : List Nat) (push : List AV) : Led := (k.c, .cell (.ref k.I)) :: lexRest N q cc k text [] push

section
variable {b : Bs} {A : Around} {H : Led}
theorem h_init (N : Net b) {n : Nat} (R : Room A (n + 1)) {x dx : Addr} {fp : AV} {ws : List Value} (hw : Is2 [.ref x, fp] ws) {Q : AV → Led → Prop}
    (h : ∀ pb, Q .none ((pb, .list []) :: (x, aoInst N.C dx) :: (dx, aoDict (lexFs 1 fp pb)) :: H)) :
    ahC b A ((x, aoInst N.C dx) :: (dx, aoDict []) :: H) (.call (.ref N.fI) ⟨ws, []⟩) Q := by
  obtain ⟨t1, t2, t3, t4, t5⟩ := takers N
  refine h_code (ns := [("self", .local), ("fp", .local)]) N.isI R hw ["self", "fp"] (by rfl) (by rfl) (by rfl) (by decide) (fun fd ws hw => ?_) (fun f A' hn ho hc hR => ?_)
  · obtain ⟨_, _, rfl, _, _⟩ := Is2.inv2 hw
    rfl
  · show awF _ _ _ [some (.ref x), some fp] _ _ _
    refine x_cons ?_
    refine x_asgAttr ?_
    refine e_int ?_
    walk_at "nm"
    intro v w hv hw
    refine u_setAttr N.X (.head _) (.tail .head) t1 (Nat.le_of_ble_eq_true rfl) ?_ v w hv hw
    refine x_cons ?_
    refine x_asgAttr ?_
    walk_at "nm"
    walk_at "nm"
    intro v w hv hw
    refine u_setAttr N.X (.head _) (.tail .head) t2 (Nat.le_of_ble_eq_true rfl) ?_ v w hv hw
    refine x_cons ?_
    refine x_asgAttr ?_
    refine e_str (l := [10, 9, 13, 32]) (by rfl) ?_
    walk_at "nm"
    intro v w hv hw
    refine u_setAttr N.X (.head _) (.tail .head) t3 (Nat.le_of_ble_eq_true rfl) ?_ v w hv hw
    refine x_cons ?_
    refine x_asgAttr ?_
    refine e_list ?_
    refine l_nil ?_
    refine ⟨Nat.zero_le _, fun pb => ?_⟩
    walk_at "nm"
    intro v w hv hw
    refine u_setAttr N.X (.tail _ (.head _)) (.tail (.tail .head)) t4 (Nat.le_of_ble_eq_true rfl) ?_ v w hv hw
    refine x_nil ?_
    exact h pb

theorem suffix_at {ch : Nat} {r text : List Nat} (h : ch :: r <:+ text) : text[text.length - (ch :: r).length]? = some ch ∧ text.length - r.length = text.length - (ch :: r).length + 1 := by
  obtain ⟨p, rfl⟩ := h
  constructor
  · simp [List.length_append]
  · simp [List.length_append]; omega
theorem kept_lam {g : Addr} : Kept (fun hp => ∃ o fd, hp.get? g = some o ∧ o.data = .func fd) (.ref g) := fun M hp hW => by
  obtain ⟨o, fd, ho, hd⟩ := hW
  refine ⟨.frame, .inl rfl, ?_⟩
  show Looks M hp (load _ >>= _) _
  refine (Looks.ld (part := none) ho).andThen ?_
  simp only [hd]
  exact .now

/-- the function that a lexer reads with -/
theorem h_read (B : Blt b) {n : Nat} (R : Room A (n + 1)) {g c I cc : Addr} {q : Str} {text rest : List Nat} {av : AV} {Q : AV → Led → Prop} (hs : rest <:+ text)
    (hg : (g, aoLam q lamParams lamBody lamScope [("signs", c)] cc) ∈ H) (hc : (cc, aoCode q) ∈ H)
    (h1 : ∀ ch r, rest = ch :: r → Q (.str [ch]) ((c, .cell (.ref I)) :: (I, aoStrIt text (text.length - r.length)) :: H)) (h2 : rest = [] → Q (.str []) ((c, .cell (.ref I)) :: H)) :
    ∀ w ws, (AV.ref g).is w → Is2 [av] ws → ahE b A ((c, .cell (.ref I)) :: (I, aoStrIt text (text.length - rest.length)) :: H) (call w ws []) Q := by
  refine h_lam (sc := lamScope) (x := "signs") (p := "count") R.limit (.tail _ hg) (.tail _ hc) (fun pm ctv v => by rfl) (by rfl) [some av, some (.ref I), none] ?_ ?_ (fun f A' hsc hD => ?_) (by decide) (by decide) (by rfl) (by rfl) (by rfl)
  · intro j y w hj hv
    match j with
    | 0 => cases hj; cases hv; exact ⟨rfl, rfl⟩
    | 1 => cases hj
    | 2 => cases hj
    | j + 3 => cases hv
  · intro j y k w hj hk hv
    match j with
    | 0 => cases hj; rcases hk with q | q <;> cases q
    | 1 => cases hj; cases hv; exact ⟨rfl, rfl⟩
    | 2 => cases hv
    | j + 3 => cases hv
  · have hn : f.env.scope.names = [(Str.ofString "count", NameKind.local), (Str.ofString "signs", NameKind.free), (Str.ofString "next", NameKind.globalImplicit)] := by rw [hsc]; rfl
    refine e_call ?_
    refine e_blt (av := .con (.builtin "next")) hn 2 (by rfl) B.next.1 B.next.2 (by rfl) ?_
    refine ⟨trivial, ?_⟩
    refine l_cons ?_
    refine e_free hn 1 (by rfl) (by rfl) ?_
    refine l_cons ?_
    refine e_str (l := []) (by rfl) ?_
    refine l_nil ?_
    cases rest with
    | nil =>
      exact k_nextd_end (hD.handled.trans R.handled) (h2 rfl)
    | cons ch r =>
      obtain ⟨e1, e2⟩ := suffix_at hs
      refine k_nextd_sign .head e1 ?_
      have := h1 ch r rfl
      rwa [e2] at this
end

section
variable {b : Bs} {A : Around} {H : Led}
theorem cnt_cons (ch : Nat) (r : List Nat) : cntN 10 (ch :: r) = cntN 10 r + (if ch = 10 then 1 else 0) := by
  unfold cntN
  rw [List.countP_cons]
  by_cases h : ch = 10 <;> simp [h]

theorem h_readchar (N : Net b) (B : Blt b) {n : Nat} (R : Room A (n + 2)) {k : LexA} {q : Str} {cc : Addr} {text rest : List Nat} {push : List AV} {ws : List Value} (hw : Is2 [.ref k.x] ws) {Q : AV → Led → Prop} (hs : rest <:+ text)
    (h1 : ∀ ch r, rest = ch :: r → Q (.str [ch]) (lexLed N q cc k text r push)) (h2 : rest = [] → Q (.str []) (lexEnd N q cc k text push)) :
    ahC b A (lexLed N q cc k text rest push) (.call (.ref N.fR) ⟨ws, []⟩) Q := by
  obtain ⟨t1, t2, t3, t4, t5⟩ := takers N
  refine h_code (ns := [("self", .local), ("ch", .local)]) N.isR R hw ["self"] (by rfl) (by rfl) (by rfl) (by decide) (fun fd ws hw => ?_) (fun f A' hn ho hc hR => ?_)
  · obtain ⟨_, rfl, _⟩ := Is2.inv1 hw
    rfl
  · show awF _ _ _ [some (.ref k.x), none] _ _ _
    have R' : Room A' (n + 1) := hR
    refine x_cons ?_
    refine x_asg ?_
    refine e_methI ?_
    refine e_attr ?_
    walk_at "nm"
    intro v hv
    refine aw_of_ah (h_getOwn N.X (x := k.x) (dx := k.dx) (.tail _ (.tail _ (.head _))) (.tail _ (.tail _ (.tail _ (.head _)))) N.nS (by rfl) (fun w q => by cases q) ?_ v hv)
    refine m_own N.X (x := k.st) (dx := k.dst) (g := k.g) (.tail _ (.tail _ (.tail _ (.tail _ (.tail _ (.head _)))))) (.tail _ (.tail _ (.tail _ (.tail _ (.tail _ (.tail _ (.head _))))))) N.nD (by rfl) ?_
    refine k_callF kept_lam ?_
    refine l_cons ?_
    refine e_int ?_
    refine l_nil ?_
    refine ⟨fun P G s S => ?_, fun ws hw => ?_⟩
    · obtain ⟨o, ho, pm, ctv, e⟩ := S.led _ (.tail _ (.tail _ (.tail _ (.tail _ (.tail _ (.tail _ (.tail _ (.head _))))))))
      subst e
      exact ⟨_, _, ho, rfl⟩
    · refine aw_of_ah (h_read B R' hs (.tail _ (.tail _ (.tail _ (.tail _ (.tail _ (.head _)))))) (.tail _ (.tail _ (.tail _ (.tail _ (.tail _ (.tail _ (.head _))))))) ?_ ?_ _ ws rfl hw)
      · intro ch r e
        subst e
        intro v hv
        walk_at "nu"
        refine x_cons ?_
        refine x_if ?_
        refine t_cmp (by rfl) ?_
        walk_at "nm"
        refine e_str (l := [10]) (by rfl) ?_
        refine c_eqs ?_
        refine ⟨_, rfl, fun hc => ?_, fun hc => ?_⟩
        · have e10 : ch = 10 := by simpa using hc
          subst e10
          refine x_cons ?_
          refine x_augAttr ?_
          walk_at "nm"
          intro v hv
          refine aw_of_ah (h_getOwn N.X (x := k.x) (dx := k.dx) (.tail _ (.tail _ (.head _))) (.tail _ (.tail _ (.tail _ (.head _)))) N.nL (by rfl) (fun w q => by cases q) ?_ v hv)
          refine e_int ?_
          refine i_add ?_
          intro z hz
          refine u_setAttr N.X (x := k.x) (dx := k.dx) (.tail _ (.tail _ (.head _))) (.tail (.tail (.tail .head))) t1 (Nat.le_of_ble_eq_true rfl) ?_ v z hv hz
          refine x_nil ?_
          refine x_cons ?_
          refine x_ret ?_
          walk_at "nm"
          have := h1 10 r rfl
          have en : (1 + (cntN 10 text : Nat) - (cntN 10 (10 :: r) : Nat) + 1 : Int) = 1 + (cntN 10 text : Nat) - (cntN 10 r : Nat) := by rw [cnt_cons]; simp; omega
          unfold lexLed lexRest at this
          rw [← en] at this
          exact this
        · have e10 : ch ≠ 10 := by simpa using hc
          refine x_nil ?_
          refine x_cons ?_
          refine x_ret ?_
          walk_at "nm"
          have := h1 ch r rfl
          have en : cntN 10 (ch :: r) = cntN 10 r := by rw [cnt_cons]; simp [e10]
          unfold lexLed lexRest at this
          rw [← en] at this
          exact this
      · intro e
        subst e
        intro v hv
        walk_at "nu"
        refine x_cons ?_
        refine x_if ?_
        refine t_cmp (by rfl) ?_
        walk_at "nm"
        refine e_str (l := [10]) (by rfl) ?_
        refine c_eqs ?_
        refine ⟨_, rfl, fun hc => (by cases hc), fun hc => ?_⟩
        refine x_nil ?_
        refine x_cons ?_
        refine x_ret ?_
        walk_at "nm"
        exact h2 rfl
end

noncomputable def isWs (c : Nat) : Bool := decide (c ∈ [10, 9, 13, 32])
noncomputable def lexQ : Bool → List Nat → List Nat → Option (List Nat × List Nat)
  | _, _, [] => none
  | true, acc, c :: r => lexQ false (acc ++ [c]) r
  | false, acc, c :: r => if ([c] == [34]) = true then some (acc, r) else if ([c] == [92]) = true then lexQ true acc r else lexQ false (acc ++ [c]) r
noncomputable def lexB : Bool → List Nat → List Nat → Option (List Nat × List Nat)
  | _, _, [] => none
  | true, acc, c :: r => lexB false (acc ++ [c]) r
  | false, acc, c :: r => if isWs c = true then some (acc, r) else if ([c] == [92]) = true then lexB true acc r else lexB false (acc ++ [c]) r
noncomputable def lexM : List Nat → Option (List Nat × List Nat)
  | [] => none
  | c :: r => if isWs c = true then lexM r else if ([c] == [34]) = true then lexQ false [] r else if ([c] == [92]) = true then lexB true [] r else lexB false [c] r

section
variable {b : Bs} {A : Around} {f : Fm} {vs : Vs} {H : Led}
theorem ahC.post_sub {c : Code} {Q : AV → Led → Prop} (h : ahC b A H c fun x H' => ∃ K, K.Sublist H' ∧ Q x K) : ahC b A H c Q := fun P G s R S hR =>
  h P G s R S fun x v H' s' hx hS ⟨K, hK, hq⟩ => hR x v K s' hx (hS.sub hK) hq
/-- one more sign by the iterator -/
theorem n_fiter (N : Net b) (B : Blt b) {n : Nat} (R : Room A (n + 3)) {k : LexA} {q : Str} {cc it m : Addr} {text rest : List Nat} {push : List AV} {Q : Option AV → Vs → Led → Prop} (hs : rest <:+ text)
    (h1 : ∀ ch r, rest = ch :: r → Q (some (.str [ch])) vs ((it, aoCallIt m) :: (m, aoMeth N.fR k.x) :: lexLed N q cc k text r push)) (h2 : rest = [] → Q none vs ((m, aoMeth N.fR k.x) :: lexEnd N q cc k text push)) :
    ∀ w, (AV.ref it).is w → aw b A f vs ((it, aoCallIt m) :: (m, aoMeth N.fR k.x) :: lexLed N q cc k text rest push) OptIs (pyNext w) Q := fun w hw =>
  aw_of_ah (h_next_callit (Q := fun r H' => Q r vs H') R.handled N.isR.func (h_readchar N B R.in1 (ws := [.ref k.x]) ⟨rfl, trivial⟩ hs (fun ch r e => ⟨_, rfl, fun _ => h1 ch r e, fun q => by cases q⟩) fun e => ⟨_, rfl, fun q => absurd rfl q, fun _ => h2 e⟩) w hw)
/-- one more sign by hand -/
theorem e_readchar (N : Net b) (B : Blt b) {n : Nat} (R : Room A (n + 2)) {k : LexA} {q : Str} {cc : Addr} {text r : List Nat} {ch : Nat} {push : List AV} {H0 : Led} {Q : AV → Vs → Led → Prop} (hs : ch :: r <:+ text) {ns : List (Str × NameKind)} (hn : f.env.scope.names = ns)
    (e : ns[0]? = some (Str.ofString "self", NameKind.local)) (hv : vs[0]? = some (some (.ref k.x))) {p1 p2 p3 : Pos} {pl : Sem Bool} (h : Q (.str [ch]) vs (H0 ++ lexLed N q cc k text r push))
    (he : eval (.Call (.Attribute (.Name "self" p1) "_read_char" p2) [] [] p3) f.env = (do
      let ov ← eval (.Name "self" p1) f.env
      standAt p2.atName
      let (f', first) ← holding [ov] (getMethod ov "_read_char" pl)
      callWith p3 f' first (backTo p3 (starEach [] f.env)) (backToKw p3 (keywordEach [] f.env))) := by rfl) :
    awE b A f vs (H0 ++ lexLed N q cc k text (ch :: r) push) (eval (.Call (.Attribute (.Name "self" p1) "_read_char" p2) [] [] p3) f.env) Q := by
  refine e_methI (pl := pl) ?_ he
  refine e_loc hn 0 e hv ?_
  intro v hv
  refine m_cls N.X (x := k.x) (dx := k.dx) (List.mem_append_right _ (.tail _ (.tail _ (.head _)))) (List.mem_append_right _ (.tail _ (.tail _ (.tail _ (.head _))))) N.mR (by rfl) ?_ v hv
  refine k_callF0 (kept_old N.isR.keep rfl) (fun P G s S a o e => S.old e) ?_
  exact aw_of_ah (ahC.toE (ahC.frame (h_readchar N B R (ws := [.ref k.x]) ⟨rfl, trivial⟩ hs (fun c r' e => by cases e; exact h) fun e => by cases e)))
end

end Mine

namespace Mine
local macro_rules | `(tactic| walk_at "nm") => `(tactic| first
  | refine e_loc (by assumption) 0 (by rfl) (by rfl) ?_ | refine e_loc (by assumption) 1 (by rfl) (by rfl) ?_ | refine e_loc (by assumption) 2 (by rfl) (by rfl) ?_ | refine e_loc (by assumption) 3 (by rfl) (by rfl) ?_
  | refine e_loc (by assumption) 4 (by rfl) (by rfl) ?_ | refine e_loc (by assumption) 5 (by rfl) (by rfl) ?_ | refine e_loc (by assumption) 6 (by rfl) (by rfl) ?_ | refine e_loc (by assumption) 7 (by rfl) (by rfl) ?_)
local macro_rules | `(tactic| walk_at "as") => `(tactic| first
  | refine x_asgL (by assumption) 0 (by rfl) ?_ | refine x_asgL (by assumption) 1 (by rfl) ?_ | refine x_asgL (by assumption) 2 (by rfl) ?_ | refine x_asgL (by assumption) 3 (by rfl) ?_ | refine x_asgL (by assumption) 4 (by rfl) ?_ | refine x_asgL (by assumption) 5 (by rfl) ?_ | refine x_asgL (by assumption) 6 (by rfl) ?_ | refine x_asgL (by assumption) 7 (by rfl) ?_ | refine x_asgL (by assumption) 8 (by rfl) ?_ | refine x_asgL (by assumption) 9 (by rfl) ?_ | refine x_asgL (by assumption) 10 (by rfl) ?_ | refine x_asgL (by assumption) 11 (by rfl) ?_ | refine x_asgL (by assumption) 12 (by rfl) ?_ | refine x_asgL (by assumption) 13 (by rfl) ?_ | refine x_asgL (by assumption) 14 (by rfl) ?_ | refine x_asgL (by assumption) 15 (by rfl) ?_)
local macro_rules | `(tactic| walk_at "au") => `(tactic| first
  | refine x_augL (by assumption) 0 (by rfl) ?_ | refine x_augL (by assumption) 1 (by rfl) ?_ | refine x_augL (by assumption) 2 (by rfl) ?_ | refine x_augL (by assumption) 3 (by rfl) ?_ | refine x_augL (by assumption) 4 (by rfl) ?_ | refine x_augL (by assumption) 5 (by rfl) ?_ | refine x_augL (by assumption) 6 (by rfl) ?_ | refine x_augL (by assumption) 7 (by rfl) ?_ | refine x_augL (by assumption) 8 (by rfl) ?_ | refine x_augL (by assumption) 9 (by rfl) ?_ | refine x_augL (by assumption) 10 (by rfl) ?_ | refine x_augL (by assumption) 11 (by rfl) ?_ | refine x_augL (by assumption) 12 (by rfl) ?_ | refine x_augL (by assumption) 13 (by rfl) ?_ | refine x_augL (by assumption) 14 (by rfl) ?_ | refine x_augL (by assumption) 15 (by rfl) ?_)
local macro_rules | `(tactic| walk_at "nu") => `(tactic| first
  | refine u_loc (by assumption) 0 (by rfl) (by assumption) ?_ | refine u_loc (by assumption) 1 (by rfl) (by assumption) ?_ | refine u_loc (by assumption) 2 (by rfl) (by assumption) ?_ | refine u_loc (by assumption) 3 (by rfl) (by assumption) ?_
  | refine u_loc (by assumption) 4 (by rfl) (by assumption) ?_ | refine u_loc (by assumption) 5 (by rfl) (by assumption) ?_)

section
variable {b : Bs} {A : Around} {H : Led}
theorem suf_tail {c : Nat} {r t : List Nat} (h : c :: r <:+ t) : r <:+ t := (List.suffix_cons c r).trans h

/-- a word that waits in the line -/
theorem h_token_line (N : Net b) {n : Nat} (R : Room A (n + 1)) {x dx pb : Addr} {fs : List (Str × AV)} {t : AV} {ts : List AV} (hfs : fs.lookup (Str.ofString "pushback") = some (.ref pb)) (hz : ts.length < 2 ^ 24) {ws : List Value} (hw : Is2 [.ref x] ws) :
    ahC b A ((x, aoInst N.C dx) :: (dx, aoDict fs) :: (pb, .list (t :: ts)) :: H) (.call (.ref N.fG) ⟨ws, []⟩) fun r H' => r = t ∧ H' = (x, aoInst N.C dx) :: (dx, aoDict fs) :: (pb, .list ts) :: H := by
  refine h_code (ns := [("self", .local), ("token", .local), ("fiter", .local), ("ch", .local), ("iter", .globalImplicit)]) N.isG R hw ["self"] (by rfl) (by rfl) (by rfl) (by decide) (fun fd ws hw => ?_) (fun f A' hn ho hc hR => ?_)
  · obtain ⟨_, rfl, _⟩ := Is2.inv1 hw
    rfl
  · show awF _ _ _ [some (.ref x), none, none, none, none] _ _ _
    refine x_cons ?_
    refine x_if ?_
    refine t_list ?_
    refine e_attr ?_
    walk_at "nm"
    intro v hv
    refine aw_of_ah (h_getOwn N.X (.head _) (.tail _ (.head _)) N.nB hfs (fun w q => by cases q) ?_ v hv)
    refine ⟨pb, _, rfl, .tail _ (.tail _ (.head _)), by simp only [List.length_cons]; omega, ?_⟩
    refine ⟨fun _ => ?_, fun q => absurd q (by simp)⟩
    refine x_cons ?_
    refine x_ret ?_
    refine e_meth PySem.F.plainAttrs_list PySem.F.slot_list_pop PySem.F.type_list_pop ?_
    refine e_attr ?_
    walk_at "nm"
    intro v hv
    refine aw_of_ah (h_getOwn N.X (.head _) (.tail _ (.head _)) N.nB hfs (fun w q => by cases q) ?_ v hv)
    refine ⟨⟨rfl, _, .tail _ (.tail _ (.head _))⟩, ?_⟩
    refine l_cons ?_
    refine e_int ?_
    refine l_nil ?_
    intro v ws hv hw
    refine k_pop0 (.tail (.tail .head)) hz ?_ v ws hv hw
    exact ⟨rfl, rfl⟩

noncomputable abbrev gtL (N : Net b) (q : Str) (cc : Addr) (k : LexA) (text rest : List Nat) (it m : Addr) : Led := (it, aoCallIt m) :: (m, aoMeth N.fR k.x) :: lexLed N q cc k text rest []
/-- a word out of the text, or no more words -/
theorem h_token (N : Net b) (B : Blt b) {n : Nat} (R : Room A (n + 4)) {k : LexA} {q : Str} {cc : Addr} {text rest : List Nat} {ws : List Value} (hw : Is2 [.ref k.x] ws) {Q : AV → Led → Prop} (hs : rest <:+ text)
    (h1 : ∀ tok fin, lexM rest = some (tok, fin) → fin <:+ text → Q (.str tok) (lexLed N q cc k text fin [])) (h2 : lexM rest = none → rest.all isWs = true ∧ Q (.str []) (lexEnd N q cc k text [])) (hlen : text.length ≤ 1000) :
    ahC b A (lexLed N q cc k text rest []) (.call (.ref N.fG) ⟨ws, []⟩) Q := by
  refine ahC.post_sub ?_
  refine h_code (ns := [("self", .local), ("token", .local), ("fiter", .local), ("ch", .local), ("iter", .globalImplicit)]) N.isG R hw ["self"] (by rfl) (by rfl) (by rfl) (by decide) (fun fd ws hw => ?_) (fun f A' hn ho hc hR => ?_)
  · obtain ⟨_, rfl, _⟩ := Is2.inv1 hw
    rfl
  · show awF _ _ _ [some (.ref k.x), none, none, none, none] _ _ _
    have R' : Room A' (n + 3) := hR
    refine x_cons ?_
    refine x_if ?_
    refine t_list ?_
    refine e_attr ?_
    walk_at "nm"
    intro v hv
    refine aw_of_ah (h_getOwn N.X (x := k.x) (dx := k.dx) (.tail _ (.tail _ (.head _))) (.tail _ (.tail _ (.tail _ (.head _)))) N.nB (by rfl) (fun w q => by cases q) ?_ v hv)
    refine ⟨k.pb, [], rfl, .tail _ (.tail _ (.tail _ (.tail _ (.head _)))), Nat.zero_le _, ?_⟩
    refine ⟨fun q => absurd q (by decide), fun _ => ?_⟩
    refine x_nil ?_
    refine x_cons ?_
    walk_at "as"
    refine e_str (l := []) (by rfl) ?_
    refine x_cons ?_
    walk_at "as"
    refine e_call ?_
    refine e_blt (av := .con (.builtin "iter")) hn 4 (by rfl) B.iter.1 B.iter.2 (by rfl) ?_
    refine ⟨trivial, ?_⟩
    refine l_cons ?_
    refine e_attr ?_
    walk_at "nm"
    intro v hv
    refine aw_of_ah (h_getBound N.X (x := k.x) (dx := k.dx) (.tail _ (.tail _ (.head _))) (.tail _ (.tail _ (.tail _ (.head _)))) N.mR (by rfl) (fun m => ?_) v hv)
    refine l_cons ?_
    refine e_str (l := []) (by rfl) ?_
    refine l_nil ?_
    refine k_iter_call (.head _) (fun it => ?_)
    refine x_cons ?_
    refine x_forG ?_
    walk_at "nm"
    refine g_iter_callit (.head _) ?_
    refine ⟨fun i vs H => ∃ r w, r <:+ text ∧ i = r.length ∧ vs = [some (.ref k.x), some (.str []), some (.ref it), w, none] ∧ H = gtL N q cc k text r it m ∧ lexM rest = lexM r ∧ rest.all isWs = r.all isWs ∧ r.length ≤ text.length, rest.length, ⟨rest, none, hs, rfl, rfl, rfl, rfl, rfl, hs.length_le⟩, ?_⟩
    rintro i vs H ⟨r, w, hr, rfl, rfl, rfl, hM, hWs, hle⟩
    refine n_fiter N B R' hr (fun c r' e => ?_) (fun e => ?_)
    · subst e
      have hr' := suf_tail hr
      intro v hv
      refine u_name ?_
      walk_at "nu"
      refine x_cons ?_
      refine x_if ?_
      refine t_cmp (by rfl) ?_
      walk_at "nm"
      refine e_attr ?_
      walk_at "nm"
      intro v hv
      refine aw_of_ah (h_getOwn N.X (x := k.x) (dx := k.dx) (.tail _ (.tail _ (.tail _ (.tail _ (.head _))))) (.tail _ (.tail _ (.tail _ (.tail _ (.tail _ (.head _)))))) N.nW (by rfl) (fun w q => by cases q) ?_ v hv)
      refine c_ins ?_
      refine ⟨_, rfl, fun hc => ?_, fun hc => ?_⟩
      · refine x_cons ?_
        refine x_cont ?_
        have hc' : isWs c = true := hc
        refine ⟨r'.length, by simp, r', _, hr', rfl, rfl, rfl, ?_, ?_, hr'.length_le⟩
        · rw [hM, lexM, if_pos hc']
        · rw [hWs, List.all_cons, hc']; rfl
      · have hc' : isWs c = false := hc
        have e1 : lexM (c :: r') = if ([c] == [34]) = true then lexQ false [] r' else if ([c] == [92]) = true then lexB true [] r' else lexB false [c] r' := by rw [lexM, if_neg (by rw [hc']; decide)]
        rw [e1] at hM
        refine x_nil ?_
        refine x_cons ?_
        refine x_if ?_
        refine t_cmp (by rfl) ?_
        walk_at "nm"
        refine e_str (l := [34]) (by rfl) ?_
        refine c_eqs ?_
        refine ⟨_, rfl, fun hq => ?_, fun hq => ?_⟩
        · rw [if_pos hq] at hM
          have hdead : ¬ rest.all isWs = true := by rw [hWs, List.all_cons, hc']; simp
          simp only [List.length_cons] at hle
          refine x_cons ?_
          refine x_forG ?_
          walk_at "nm"
          refine g_iter_callit (.head _) ?_
          refine ⟨fun i vs H => ∃ r acc w, r <:+ text ∧ i = r.length ∧ vs = [some (.ref k.x), some (.str acc), some (.ref it), w, none] ∧ H = gtL N q cc k text r it m ∧ lexM rest = lexQ false acc r ∧ acc.length + r.length ≤ text.length, r'.length, ⟨r', [], _, hr', rfl, rfl, rfl, hM, by simp; omega⟩, ?_⟩
          rintro i vs H ⟨r, acc, w, hr, rfl, rfl, rfl, hM, hle⟩
          refine n_fiter N B R' hr (fun c2 r2 e => ?_) (fun e => ?_)
          · subst e
            have hr2 := suf_tail hr
            intro v hv
            refine u_name ?_
            walk_at "nu"
            refine x_cons ?_
            refine aw_mono (Q := fun fl vs H => match fl with
              | .next => ∃ d r3, r3 <:+ text ∧ vs = [some (.ref k.x), some (.str acc), some (.ref it), some (.str [d]), none] ∧ H = gtL N q cc k text r3 it m ∧ lexM rest = lexQ false (acc ++ [d]) r3 ∧ r3.length ≤ r2.length
              | .ret v => ∃ tok fin, v = .str tok ∧ lexM rest = some (tok, fin) ∧ fin <:+ text ∧ H = gtL N q cc k text fin it m
              | _ => False) ?_ ?_
            · refine x_if ?_
              refine t_cmp (by rfl) ?_
              walk_at "nm"
              refine e_str (l := [34]) (by rfl) ?_
              refine c_eqs ?_
              refine ⟨_, rfl, fun hq2 => ?_, fun hq2 => ?_⟩
              · rw [lexQ, if_pos hq2] at hM
                refine x_cons ?_
                refine x_ret ?_
                walk_at "nm"
                exact ⟨acc, r2, rfl, hM, hr2, rfl⟩
              · rw [lexQ, if_neg (by rw [hq2]; decide)] at hM
                refine x_cons ?_
                refine x_if ?_
                refine t_cmp (by rfl) ?_
                walk_at "nm"
                refine e_str (l := [92]) (by rfl) ?_
                refine c_eqs ?_
                refine ⟨_, rfl, fun hb => ?_, fun hb => ?_⟩
                · rw [if_pos hb] at hM
                  cases r2 with
                  | nil => exact absurd (h2 (by rw [hM]; rfl)).1 hdead
                  | cons d r3 =>
                    refine x_cons ?_
                    walk_at "as"
                    refine e_readchar N B (R'.weaken (by omega) : Room A' (n + 2)) (H0 := [(it, aoCallIt m), (m, aoMeth N.fR k.x)]) hr2 hn (by rfl) (by rfl) ?_
                    refine x_nil ?_
                    refine x_nil ?_
                    exact ⟨d, r3, suf_tail hr2, rfl, rfl, hM, by simp⟩
                · rw [if_neg (by rw [hb]; decide)] at hM
                  refine x_nil ?_
                  refine x_nil ?_
                  exact ⟨c2, r2, hr2, rfl, rfl, hM, Nat.le_refl _⟩
            · intro fl vs H hq
              cases fl with
              | brk => exact hq.elim
              | cont => exact hq.elim
              | ret v =>
                obtain ⟨tok, fin, rfl, e, hf, rfl⟩ := hq
                exact ⟨_, (List.sublist_cons_self _ _).trans (List.sublist_cons_self _ _), h1 tok fin e hf⟩
              | next =>
                obtain ⟨d, r3, hr3, rfl, rfl, hM3, hl3⟩ := hq
                simp only [List.length_cons] at hle
                refine x_cons ?_
                walk_at "au"
                refine n_loc hn 1 (by rfl) (by rfl) ?_
                walk_at "nm"
                refine i_cat (by simp; omega) ?_
                refine x_nil ?_
                exact ⟨r3.length, by simp; omega, r3, _, _, hr3, rfl, rfl, rfl, hM3, by simp; omega⟩
          · subst e
            exact absurd (h2 (by rw [hM]; rfl)).1 hdead
        · rw [if_neg (by rw [hq]; decide)] at hM
          have hdead : ¬ rest.all isWs = true := by rw [hWs, List.all_cons, hc']; simp
          simp only [List.length_cons] at hle
          refine x_cons ?_
          refine aw_mono (Q := fun fl vs H => fl = .next ∧ ∃ d r3, r3 <:+ text ∧ vs = [some (.ref k.x), some (.str []), some (.ref it), some (.str [d]), none] ∧ H = gtL N q cc k text r3 it m ∧ lexM rest = lexB false ([] ++ [d]) r3 ∧ r3.length ≤ r'.length) ?_ ?_
          · refine x_if ?_
            refine t_cmp (by rfl) ?_
            walk_at "nm"
            refine e_str (l := [92]) (by rfl) ?_
            refine c_eqs ?_
            refine ⟨_, rfl, fun hb => ?_, fun hb => ?_⟩
            · rw [if_pos hb] at hM
              cases r' with
              | nil => exact absurd (h2 (by rw [hM]; rfl)).1 hdead
              | cons d r3 =>
                refine x_cons ?_
                walk_at "as"
                refine e_readchar N B (R'.weaken (by omega) : Room A' (n + 2)) (H0 := [(it, aoCallIt m), (m, aoMeth N.fR k.x)]) hr' hn (by rfl) (by rfl) ?_
                refine x_nil ?_
                exact ⟨rfl, d, r3, suf_tail hr', rfl, rfl, hM, by simp⟩
            · rw [if_neg (by rw [hb]; decide)] at hM
              refine x_nil ?_
              exact ⟨rfl, c, r', hr', rfl, rfl, hM, Nat.le_refl _⟩
          · rintro fl vs H ⟨rfl, d0, r0, hr0, rfl, rfl, hM0, hl0⟩
            refine x_cons ?_
            walk_at "au"
            refine n_loc hn 1 (by rfl) (by rfl) ?_
            walk_at "nm"
            refine i_cat (by simp) ?_
            refine x_cons ?_
            refine x_forG ?_
            walk_at "nm"
            refine g_iter_callit (.head _) ?_
            refine ⟨fun i vs H => ∃ r acc w, r <:+ text ∧ i = r.length ∧ vs = [some (.ref k.x), some (.str acc), some (.ref it), w, none] ∧ H = gtL N q cc k text r it m ∧ lexM rest = lexB false acc r ∧ acc.length + r.length ≤ text.length, r0.length, ⟨r0, [] ++ [d0], _, hr0, rfl, rfl, rfl, hM0, by simp; omega⟩, ?_⟩
            rintro i vs H ⟨r, acc, w, hr, rfl, rfl, rfl, hM, hle⟩
            refine n_fiter N B R' hr (fun c2 r2 e => ?_) (fun e => ?_)
            · subst e
              have hr2 := suf_tail hr
              intro v hv
              refine u_name ?_
              walk_at "nu"
              refine x_cons ?_
              refine aw_mono (Q := fun fl vs H => match fl with
                | .next => ∃ d r3, r3 <:+ text ∧ vs = [some (.ref k.x), some (.str acc), some (.ref it), some (.str [d]), none] ∧ H = gtL N q cc k text r3 it m ∧ lexM rest = lexB false (acc ++ [d]) r3 ∧ r3.length ≤ r2.length
                | .ret v => ∃ tok fin, v = .str tok ∧ lexM rest = some (tok, fin) ∧ fin <:+ text ∧ H = gtL N q cc k text fin it m
                | _ => False) ?_ ?_
              · refine x_if ?_
                refine t_cmp (by rfl) ?_
                walk_at "nm"
                refine e_attr ?_
                walk_at "nm"
                intro v hv
                refine aw_of_ah (h_getOwn N.X (x := k.x) (dx := k.dx) (.tail _ (.tail _ (.tail _ (.tail _ (.head _))))) (.tail _ (.tail _ (.tail _ (.tail _ (.tail _ (.head _)))))) N.nW (by rfl) (fun w q => by cases q) ?_ v hv)
                refine c_ins ?_
                refine ⟨_, rfl, fun hq2 => ?_, fun hq2 => ?_⟩
                · rw [lexB, if_pos (show isWs c2 = true from hq2)] at hM
                  refine x_cons ?_
                  refine x_ret ?_
                  walk_at "nm"
                  exact ⟨acc, r2, rfl, hM, hr2, rfl⟩
                · rw [lexB, if_neg (by rw [show isWs c2 = false from hq2]; decide)] at hM
                  refine x_cons ?_
                  refine x_if ?_
                  refine t_cmp (by rfl) ?_
                  walk_at "nm"
                  refine e_str (l := [92]) (by rfl) ?_
                  refine c_eqs ?_
                  refine ⟨_, rfl, fun hb => ?_, fun hb => ?_⟩
                  · rw [if_pos hb] at hM
                    cases r2 with
                    | nil => exact absurd (h2 (by rw [hM]; rfl)).1 hdead
                    | cons d r3 =>
                      refine x_cons ?_
                      walk_at "as"
                      refine e_readchar N B (R'.weaken (by omega) : Room A' (n + 2)) (H0 := [(it, aoCallIt m), (m, aoMeth N.fR k.x)]) hr2 hn (by rfl) (by rfl) ?_
                      refine x_nil ?_
                      refine x_nil ?_
                      exact ⟨d, r3, suf_tail hr2, rfl, rfl, hM, by simp⟩
                  · rw [if_neg (by rw [hb]; decide)] at hM
                    refine x_nil ?_
                    refine x_nil ?_
                    exact ⟨c2, r2, hr2, rfl, rfl, hM, Nat.le_refl _⟩
              · intro fl vs H hq
                cases fl with
                | brk => exact hq.elim
                | cont => exact hq.elim
                | ret v =>
                  obtain ⟨tok, fin, rfl, e, hf, rfl⟩ := hq
                  exact ⟨_, (List.sublist_cons_self _ _).trans (List.sublist_cons_self _ _), h1 tok fin e hf⟩
                | next =>
                  obtain ⟨d, r3, hr3, rfl, rfl, hM3, hl3⟩ := hq
                  simp only [List.length_cons] at hle
                  refine x_cons ?_
                  walk_at "au"
                  refine n_loc hn 1 (by rfl) (by rfl) ?_
                  walk_at "nm"
                  refine i_cat (by simp; omega) ?_
                  refine x_nil ?_
                  exact ⟨r3.length, by simp; omega, r3, _, _, hr3, rfl, rfl, rfl, hM3, by simp; omega⟩
            · subst e
              exact absurd (h2 (by rw [hM]; rfl)).1 hdead
    · subst e
      refine x_cons ?_
      refine x_ret ?_
      walk_at "nm"
      have := h2 (by rw [hM]; rfl)
      exact ⟨_, List.sublist_cons_self _ _, this.2⟩
end

noncomputable def sel {α : Type} : List Nat → List α → List α
  | [], l => l
  | i :: ix, l => match l[i]? with
    | some a => a :: sel ix (l.eraseIdx i)
    | none => l
theorem erase_perm {α : Type} : ∀ {l : List α} {i : Nat} {a : α}, l[i]? = some a → l.Perm (a :: l.eraseIdx i)
  | x :: l, 0, a, h => by simp at h; subst h; exact .refl _
  | x :: l, i + 1, a, h => by
    have := erase_perm (l := l) (i := i) (a := a) (by simpa using h)
    exact (this.cons x).trans (.swap a x _)
  | [], _, _, h => by simp at h
theorem sel_perm {α : Type} : ∀ (ix : List Nat) (l : List α), l.Perm (sel ix l)
  | [], l => .refl l
  | i :: ix, l => by
    unfold sel
    split
    · rename_i a h
      exact (erase_perm h).trans (.cons a (sel_perm ix _))
    · exact .refl l

structure LexFn (b : Bs) where
  a : Addr
  fd : FuncData
  c : Addr
  P : Addr
  F : FnAt b a fd (bodyOf (stAt 14))
  sc : fd.scope = scopeOf (stAt 14)
  params : fd.params = paramsOf (stAt 14)
  dflt : fd.defaults = .none
  code : fd.code = .ref c
  L : LamAt b c P
noncomputable def LexFn.q {b : Bs} (F : LexFn b) : Str := (F.fd.qualname ++ ".<locals>.") ++ "<lambda>"
noncomputable def lamPos : Pos := match lamE with | some (.Lambda _ _ _ p) => p | _ => default

/-- a lexer as it is made -/
noncomputable def lexNew {b : Bs} (N : Net b) (q : Str) (cc : Addr) (k : LexA) (text : List Nat) : Led :=
  [(k.c, .cell (.ref k.I)), (k.pb, .list []), (k.x, aoInst N.C k.dx), (k.dx, aoDict (lexFs 1 (.ref k.st) k.pb)), (k.g, aoLam q lamParams lamBody lamScope [("signs", k.c)] cc),
   (k.pb2, .list []), (k.st, aoInst N.C k.dst), (k.dst, aoDict (lexFsR k.pb2 k.g)), (k.I, aoStrIt text 0)]

section
variable {b : Bs} {A : Around} {H : Led}
theorem h_new (N : Net b) {n : Nat} (R : Room A (n + 2)) {av : AV} {Q : AV → Led → Prop}
    (h : ∀ x dx pb, Q (.ref x) ((pb, .list []) :: (x, aoInst N.C dx) :: (dx, aoDict (lexFs 1 av pb)) :: H)) :
    ∀ g ws, (AV.ref N.C).is g → Is2 [av] ws → ahE b A H (call g ws []) Q :=
  h_make N.X N.makes N.mI R fun A' x dx R' P G s ws Rr S hw hR =>
    h_init (Q := fun r H' => r = .none ∧ Q (.ref x) H') N R' (x := x) (dx := dx) (fp := av) hw (fun pb => ⟨rfl, h x dx pb⟩) P G s Rr S fun y v H' s' hy hS hq => hR v H' s' hS (by obtain ⟨rfl, _⟩ := hq; exact hy) hq.2
theorem h_lexer (N : Net b) (B : Blt b) (F : LexFn b) (hmg : b.mg "_netrclex" = some (.ref N.C)) {n : Nat} (R : Room A (n + 3)) {text : List Nat} (ht : text.all (· < 128) = true) {H0 : Led} {H1 : Addr → Led} {ws : List Value} (hw : Is2 [.str text] ws)
    (hlam : ∀ (f : Fm) (A' : Around) (vs : Vs) (D : Led) (cl : Addr) (Q : AV → Vs → Led → Prop), f.env.code = .ref F.c → f.env.qual = F.fd.qualname ++ ".<locals>." → f.env.cells = [(Str.ofString "signs", cl)] →
      (∀ g cc, Q (.ref g) vs ((g, aoLam F.q lamParams lamBody lamScope [("signs", cl)] cc) :: (D ++ H1 cc))) → awE b A' f vs (D ++ H0) (eval (.Lambda lamParams lamBody lamScope lamPos) f.env) Q)
    {Q : AV → Led → Prop} (h : ∀ k cc, Q (.ref k.x) (lexNew N F.q cc k text ++ H1 cc)) :
    ahC b A H0 (.call (.ref F.a) ⟨ws, []⟩) Q := by
  obtain ⟨t1, t2, t3, t4, t5⟩ := takers N
  intro P G s Rr S hR
  refine h_fnX (avs := [.str text]) (avs' := [.str text]) (ps := ["text"]) F.F F.sc R.limit (by rfl) (by rfl) (by decide) (fun P G s ws S hw => ⟨ws, hw, ?_⟩) (fun f A' hsc hown hcells hD hcq => ?_) (by decide) (by rfl) (by rfl) (by rfl) P G s ws Rr S hw hR
  · obtain ⟨_, rfl, _⟩ := Is2.inv1 hw
    exact binds_of F.params F.dflt rfl
  · have R' : Room A' (n + 2) := R.deeper hD
    have hn : f.env.scope.names = [(Str.ofString "text", NameKind.local), (Str.ofString "stand", NameKind.local), (Str.ofString "signs", NameKind.cell), (Str.ofString "iter", NameKind.globalImplicit), (Str.ofString "_netrclex", NameKind.globalImplicit)] := by rw [hsc]; rfl
    obtain ⟨c, hc⟩ : ∃ c, f.env.cells = [(Str.ofString "signs", c)] := by
      have e : f.env.cells.map (·.1) = [Str.ofString "signs"] := hcells
      exact fst1 e
    have hcl : f.env.cells.lookup (Str.ofString "signs") = some c := by rw [hc]; rfl
    show awF _ _ _ [some (.str text), none, none, none, none] _ _ _
    refine x_cons ?_
    refine x_asg ?_
    refine e_call ?_
    refine e_blt (av := .con (.builtin "iter")) hn 3 (by rfl) B.iter.1 B.iter.2 (by rfl) ?_
    refine ⟨trivial, ?_⟩
    refine l_cons ?_
    walk_at "nm"
    refine l_nil ?_
    refine k_iter_str ht (fun I => ?_)
    intro v hv
    refine u_cell hn hown 2 (by rfl) c hcl hv ?_
    refine x_cons ?_
    walk_at "as"
    refine e_callC N.X N.keeps ?_
    refine e_glob (av := .ref N.C) hn 4 (by rfl) hmg (by rfl) ?_
    refine ⟨rfl, ?_⟩
    refine l_cons ?_
    refine e_none ?_
    refine l_nil ?_
    intro ws hw
    refine aw_of_ah (h_new N R' (fun st dst pb2 => ?_) _ ws rfl hw)
    refine x_cons ?_
    refine x_asgAttr ?_
    refine hlam f A' _ [(pb2, .list []), (st, aoInst N.C dst), (dst, aoDict (lexFs 1 .none pb2)), (I, aoStrIt text 0)] c _ (by rw [hcq.1, F.code]) hcq.2 hc (fun g cc => ?_)
    walk_at "nm"
    intro v w hv hw
    refine u_setAttr N.X (x := st) (dx := dst) (.tail _ (.tail _ (.head _))) (.tail (.tail (.tail .head))) t5 (Nat.le_of_ble_eq_true rfl) ?_ v w hv hw
    refine x_cons ?_
    refine x_ret ?_
    refine e_callC N.X N.keeps ?_
    refine e_glob (av := .ref N.C) hn 4 (by rfl) hmg (by rfl) ?_
    refine ⟨rfl, ?_⟩
    refine l_cons ?_
    walk_at "nm"
    refine l_nil ?_
    intro ws hw
    refine aw_of_ah (h_new N R' (fun x dx pb => ?_) _ ws rfl hw)
    refine ⟨2, "signs", .ref I, by rfl, by rfl, fun c' e => ?_⟩
    rw [hcl] at e
    cases e
    exact h ⟨x, dx, pb, st, dst, pb2, g, c, I⟩ cc
end

end Mine

namespace Mine
local macro_rules | `(tactic| walk_at "nm") => `(tactic| first
  | refine e_loc (by assumption) 0 (by rfl) (by rfl) ?_ | refine e_loc (by assumption) 1 (by rfl) (by rfl) ?_ | refine e_loc (by assumption) 2 (by rfl) (by rfl) ?_ | refine e_loc (by assumption) 3 (by rfl) (by rfl) ?_ | refine e_loc (by assumption) 4 (by rfl) (by rfl) ?_ | refine e_loc (by assumption) 5 (by rfl) (by rfl) ?_ | refine e_loc (by assumption) 6 (by rfl) (by rfl) ?_ | refine e_loc (by assumption) 7 (by rfl) (by rfl) ?_ | refine e_loc (by assumption) 8 (by rfl) (by rfl) ?_ | refine e_loc (by assumption) 9 (by rfl) (by rfl) ?_ | refine e_loc (by assumption) 10 (by rfl) (by rfl) ?_ | refine e_loc (by assumption) 11 (by rfl) (by rfl) ?_ | refine e_loc (by assumption) 12 (by rfl) (by rfl) ?_ | refine e_loc (by assumption) 13 (by rfl) (by rfl) ?_ | refine e_loc (by assumption) 14 (by rfl) (by rfl) ?_ | refine e_loc (by assumption) 15 (by rfl) (by rfl) ?_)
local macro_rules | `(tactic| walk_at "nc") => `(tactic| first
  | refine e_cell (by assumption) 0 (by rfl) (by rfl) ?_ | refine e_cell (by assumption) 1 (by rfl) (by rfl) ?_ | refine e_cell (by assumption) 2 (by rfl) (by rfl) ?_ | refine e_cell (by assumption) 3 (by rfl) (by rfl) ?_ | refine e_cell (by assumption) 4 (by rfl) (by rfl) ?_ | refine e_cell (by assumption) 5 (by rfl) (by rfl) ?_ | refine e_cell (by assumption) 6 (by rfl) (by rfl) ?_ | refine e_cell (by assumption) 7 (by rfl) (by rfl) ?_)
local macro_rules | `(tactic| walk_at "nf") => `(tactic| first
  | refine e_free (by assumption) 0 (by rfl) (by rfl) ?_ | refine e_free (by assumption) 1 (by rfl) (by rfl) ?_ | refine e_free (by assumption) 2 (by rfl) (by rfl) ?_ | refine e_free (by assumption) 3 (by rfl) (by rfl) ?_ | refine e_free (by assumption) 4 (by rfl) (by rfl) ?_ | refine e_free (by assumption) 5 (by rfl) (by rfl) ?_ | refine e_free (by assumption) 6 (by rfl) (by rfl) ?_ | refine e_free (by assumption) 7 (by rfl) (by rfl) ?_)
local macro_rules | `(tactic| walk_at "nl") => `(tactic| first
  | refine n_loc (by assumption) 0 (by rfl) (by rfl) ?_ | refine n_loc (by assumption) 1 (by rfl) (by rfl) ?_ | refine n_loc (by assumption) 2 (by rfl) (by rfl) ?_ | refine n_loc (by assumption) 3 (by rfl) (by rfl) ?_ | refine n_loc (by assumption) 4 (by rfl) (by rfl) ?_ | refine n_loc (by assumption) 5 (by rfl) (by rfl) ?_ | refine n_loc (by assumption) 6 (by rfl) (by rfl) ?_ | refine n_loc (by assumption) 7 (by rfl) (by rfl) ?_ | refine n_loc (by assumption) 8 (by rfl) (by rfl) ?_ | refine n_loc (by assumption) 9 (by rfl) (by rfl) ?_ | refine n_loc (by assumption) 10 (by rfl) (by rfl) ?_ | refine n_loc (by assumption) 11 (by rfl) (by rfl) ?_ | refine n_loc (by assumption) 12 (by rfl) (by rfl) ?_ | refine n_loc (by assumption) 13 (by rfl) (by rfl) ?_ | refine n_loc (by assumption) 14 (by rfl) (by rfl) ?_ | refine n_loc (by assumption) 15 (by rfl) (by rfl) ?_)
local macro_rules | `(tactic| walk_at "nu") => `(tactic| first
  | refine u_loc (by assumption) 0 (by rfl) (by assumption) ?_ | refine u_loc (by assumption) 1 (by rfl) (by assumption) ?_ | refine u_loc (by assumption) 2 (by rfl) (by assumption) ?_ | refine u_loc (by assumption) 3 (by rfl) (by assumption) ?_ | refine u_loc (by assumption) 4 (by rfl) (by assumption) ?_ | refine u_loc (by assumption) 5 (by rfl) (by assumption) ?_ | refine u_loc (by assumption) 6 (by rfl) (by assumption) ?_ | refine u_loc (by assumption) 7 (by rfl) (by assumption) ?_ | refine u_loc (by assumption) 8 (by rfl) (by assumption) ?_ | refine u_loc (by assumption) 9 (by rfl) (by assumption) ?_ | refine u_loc (by assumption) 10 (by rfl) (by assumption) ?_ | refine u_loc (by assumption) 11 (by rfl) (by assumption) ?_ | refine u_loc (by assumption) 12 (by rfl) (by assumption) ?_ | refine u_loc (by assumption) 13 (by rfl) (by assumption) ?_ | refine u_loc (by assumption) 14 (by rfl) (by assumption) ?_ | refine u_loc (by assumption) 15 (by rfl) (by assumption) ?_)

section
variable {b : Bs} {A : Around} {f : Fm} {vs : Vs} {H : Led}
/-- a list, wherever it lies -/
noncomputable def Lst (b : Bs) (H : Led) (a : Addr) (xs : List AV) : Prop := ∀ P G s, SH b P G H s → ∃ ws : List Value, s.heap.IsList a ws.toArray ∧ Is2 xs ws
theorem Lst.of {a : Addr} {xs : List AV} (hm : (a, AO.list xs) ∈ H) : Lst b H a xs := fun P G s S => (S.led _ hm).isList
theorem Lst.old {a : Addr} {xs : List AV} {ws : List Value} (h : b.h₀.IsList a ws.toArray) (h2 : Is2 xs ws) : Lst b H a xs := fun P G s S =>
  let ⟨o, ho, r⟩ := h; ⟨ws, ⟨o, S.old ho, r⟩, h2⟩
theorem k_len_lst {a : Addr} {xs : List AV} {Q : AV → Vs → Led → Prop} (hm : Lst b H a xs) (hz : xs.length ≤ 2 ^ 24) (h : Q (.int xs.length) vs H) :
    ∀ g ws, (AV.con (.builtin "len")).is g → Is2 [.ref a] ws → awE b A f vs H (call g ws []) Q := by
  intro g ws hg hw P G s S
  cases hg
  replace hw := Is2.inv1 hw
  obtain ⟨w, rfl, hw⟩ := hw
  cases hw
  obtain ⟨ws, hL, h2⟩ := hm _ _ _ S.sh
  have hn := h2.length
  with_reducible refine Calls.call_len_list hL ?_ ?_
  · rw [List.size_toArray]; omega
  · exact ⟨.int _, vs, H, ⟨_, by rw [List.size_toArray, hn]⟩, S.tok _, h⟩
theorem e_slice_lst {value : Expr} {lower upper step : Option Expr} {p pos : Pos} {Q : AV → Vs → Led → Prop} (h : awE b A f vs H (eval value f.env) fun o vs1 H1 => awP b A f vs1 H1 lower fun lo vs2 H2 => awP b A f vs2 H2 upper fun hi vs3 H3 => awP b A f vs3 H3 step fun st vs4 H4 =>
      ∃ a xs, o = .ref a ∧ Lst b H4 a xs ∧ xs.length ≤ 2 ^ 24 ∧ st ≠ some 0 ∧ ∀ r, Q (.ref r) vs4 ((r, AO.list (sliceL xs lo hi st)) :: H4)) :
    awE b A f vs H (eval (.Subscript value (.Slice lower upper step p) pos) f.env) Q := fun P G s S => by
  refine g_sub (aw_use (h P G s S) (fun v s1 o vs1 H1 hv S1 h1 => ?_))
  refine wpAny_Slice (aw_use (h1.run S1) (fun vl s2 lo vs2 H2 e2 S2 h2 => aw_use (h2.run S2) (fun vu s3 hi vs3 H3 e3 S3 h3 => aw_use (h3.run S3) (fun vt s4 st vs4 H4 e4 S4 h4 => ?_))))
  obtain ⟨a, xs, rfl, hm, hz, h0, hQ⟩ := h4
  cases hv
  subst e2 e3 e4
  obtain ⟨ws, hL, hi2⟩ := hm _ _ _ S4.sh
  have hn := hi2.length
  refine ⟨"list", "list.__getitem__", slot_list_getitem.lookup, (hL.push _).typeIs, ?_⟩
  refine wpAny_getItem_list_slice (hL.push _) ⟨_, Heap.get?_push_size _ rfl, rfl, rfl⟩ (isPart lo) (isPart hi) (isPart st) h0 ?_ (by rw [List.size_toArray, ← hn]; exact hz)
  refine ⟨.ref _, vs4, _, rfl, (S4.push _ s4.toks).alloc (ao := .list (sliceL xs (lo.map (·.1)) (hi.map (·.1)) (st.map (·.1)))) (t := s4.toks) ⟨(slicePick ws.toArray (lo.map (·.1)) (hi.map (·.1)) (st.map (·.1))).toList, 0, ?_, ?_⟩, hQ _⟩
  · simp only [Array.toArray_toList]
    exact Heap.get?_push_size _ rfl
  · unfold slicePick sliceL idxL
    simp only [List.size_toArray, hn]
    have := hi2.pick (sliceRange (sliceBounds (lo.map (·.1)) (hi.map (·.1)) (st.map (·.1)) ws.length).1 (sliceBounds (lo.map (·.1)) (hi.map (·.1)) (st.map (·.1)) ws.length).2.1 (sliceBounds (lo.map (·.1)) (hi.map (·.1)) (st.map (·.1)) ws.length).2.2)
    simpa using this

/-- a comprehension over a list of known things -/
theorem ACmp.of {α : Type} {x : Str} {ifs : List Expr} {elt : Expr} (f' : α → AV) (g : α → Option AV) (VS : Vs → Prop) : ∀ (l : List α) (vs : Vs) (Q : List AV → Prop), VS vs →
    (∀ a ∈ l, ∀ vs, VS vs → ∀ v, (f' a).is v → awU b A f vs H (storeName f.env x v) fun _ vs1 H1 => H1 = H ∧ awTests b A f vs1 H ifs fun ok vs2 H2 =>
      (ok = true → awE b A f vs2 H2 (eval elt f.env) fun z vs3 H3 => g a = some z ∧ H.Sublist H3 ∧ VS vs3) ∧ (ok = false → g a = none ∧ H.Sublist H2 ∧ VS vs2)) →
    Q (l.filterMap g) → ACmp b A f H x ifs elt (l.map f') vs Q
  | [], vs, Q, h0, step, hQ => hQ
  | a :: l, vs, Q, h0, step, hQ => fun v hv => by
    refine aw_mono (step a (.head _) vs h0 v hv) fun _ vs1 H1 ⟨e, h1⟩ => ⟨e, ?_⟩
    unfold awTests at h1 ⊢
    have fin : ∀ ok vs2 H2, ((ok = true → awE b A f vs2 H2 (eval elt f.env) fun z vs3 H3 => g a = some z ∧ H.Sublist H3 ∧ VS vs3) ∧ (ok = false → g a = none ∧ H.Sublist H2 ∧ VS vs2)) →
        ((ok = true → awE b A f vs2 H2 (eval elt f.env) fun z vs3 H3 => H.Sublist H3 ∧ ACmp b A f H x ifs elt (l.map f') vs3 fun zs => Q (z :: zs)) ∧ (ok = false → H.Sublist H2 ∧ ACmp b A f H x ifs elt (l.map f') vs2 Q)) := fun ok vs2 H2 ⟨k1, k2⟩ =>
      ⟨fun e => aw_mono (k1 e) fun z vs3 H3 ⟨e1, e2, e3⟩ => ⟨e2, ACmp.of f' g VS l vs3 _ e3 (fun a ha => step a (.tail _ ha)) (by rw [List.filterMap_cons, e1] at hQ; exact hQ)⟩,
       fun e => ⟨(k2 e).2.1, ACmp.of f' g VS l vs2 _ (k2 e).2.2 (fun a ha => step a (.tail _ ha)) (by rw [List.filterMap_cons, (k2 e).1] at hQ; exact hQ)⟩⟩
    match ifs, h1 with
    | [], h1 => exact fin _ _ _ h1
    | [c], h1 => exact aw_mono h1 fun ok vs2 H2 k => fin ok vs2 H2 k
    | _ :: _ :: _, h1 => exact h1.elim
/-- a loop over a list of known things -/
noncomputable abbrev KLp (I : Vs → Led → Prop) (Q : AF → Vs → Led → Prop) : AF → Vs → Led → Prop := fun fl vs2 H2 => match fl with
  | .next => I vs2 H2
  | .cont => I vs2 H2
  | .brk => Q .next vs2 H2
  | .ret w => Q (.ret w) vs2 H2
noncomputable abbrev KBd (b : Bs) (A : Around) (f : Fm) (body : List Stmt) (I : Vs → Led → Prop) (Q : AF → Vs → Led → Prop) : Unit → Vs → Led → Prop := fun _ vs1 H1 => awF b A f vs1 H1 (execs body f.env) (KLp I Q)
theorem AFor.of {α : Type} {J : Led → Prop} {target : Expr} {body : List Stmt} (f' : α → AV) (I : List α → Vs → Led → Prop) {Q : AF → Vs → Led → Prop} (hJ : ∀ l vs H, I l vs H → J H) (hend : ∀ vs H, I [] vs H → Q .next vs H)
    (step : ∀ a l vs H, I (a :: l) vs H → ∀ v, (f' a).is v → awU b A f vs H (assign target f.env v) (KBd b A f body (I l) Q)) : ∀ (l : List α) (vs : Vs) (H : Led), I l vs H → AFor b A f J target body (l.map f') vs H Q
  | [], vs, H, h => ⟨hJ _ _ _ h, hend vs H h⟩
  | a :: l, vs, H, h => ⟨hJ _ _ _ h, fun v hv => aw_mono (step a l vs H h v hv) fun _ vs1 H1 h1 => aw_mono h1 fun fl vs2 H2 h2 => by
      cases fl with
      | next => exact AFor.of f' I hJ hend step l vs2 H2 h2
      | cont => exact AFor.of f' I hJ hend step l vs2 H2 h2
      | brk => exact h2
      | ret w => exact h2⟩
theorem cl_ok {cells : List (Str × Addr)} {ks : List Str} (hc : cells.map (·.1) = ks) {names : List (Str × NameKind)} (h : ∀ p ∈ names, p.2 = .free → p.1 ∈ ks) : ∀ p ∈ names, p.2 = .free → (cells.lookup p.1).isSome = true := fun p hp hf => by
  have hm := h p hp hf
  rw [← hc] at hm
  obtain ⟨q, hq, e⟩ := List.mem_map.mp hm
  rw [← e]
  clear hm hp hc h hf
  induction cells with
  | nil => cases hq
  | cons c r ih =>
    rw [List.lookup_cons]
    by_cases hb : (q.1 == c.1) = true
    · rw [hb]; rfl
    · have hb' : (q.1 == c.1) = false := by simpa using hb
      rw [hb']
      rcases List.mem_cons.mp hq with rfl | hq
      · simp at hb
      · exact ih hq
theorem sliceL_map {α β : Type} (g : α → β) (xs : List α) (lo hi st : Option Int) : sliceL (xs.map g) lo hi st = (sliceL xs lo hi st).map g := by
  unfold sliceL
  rw [List.length_map, List.map_filterMap]
  congr 1
  funext i
  rw [List.getElem?_map]

noncomputable def base12 : List Int := [16, 36, 31, 56, 3, 23, 24, 51, 61, 4, 13, 30]
theorem base_at : ∀ i < 12, ([.int 16, .int 36, .int 31, .int 56, .int 3, .int 23, .int 24, .int 51, .int 61, .int 4, .int 13, .int 30] : List AV)[i]? = some (.int (base12.getD i 0)) := by decide
noncomputable def sizeP (script : List Int) : Nat := 4 + script.length % 3
noncomputable def drawnP (script : List Int) : List Int := (List.range (2 * sizeP script)).map fun k => (base12.getD k 0 + (sliceL script (some k) (some 63) (some (2 * sizeP script : Nat))).sum) % 72
end
section
variable {b : Bs} {A : Around} {H : Led}
theorem h_drawn (B : Blt b) {a : Addr} (F : FnIs b a (stAt 11)) {n : Nat} (R : Room A (n + 1)) {sa : Addr} {script : List Int} (hs : ∀ H, Lst b H sa (script.map AV.int)) (hz : script.length ≤ 63) {ws : List Value} (hw : Is2 [.ref sa] ws) {Q : AV → Led → Prop}
    (h : ∀ r, Q (.ref r) ((r, .list ((drawnP script).map AV.int)) :: H)) : ahC b A H (.call (.ref a) ⟨ws, []⟩) Q := by
  refine ahC.post_sub ?_
  refine h_code (ns := [("script", .cell), ("size", .cell), ("base", .cell), ("len", .globalImplicit), ("range", .globalImplicit)]) F R hw ["script"] (by rfl) (by rfl) (by rfl) (by decide) (fun fd ws hw => ?_) (fun f A' hn ho hc hR => ?_)
  · obtain ⟨_, rfl, _⟩ := Is2.inv1 hw
    rfl
  · obtain ⟨c1, c2, c3, hcc⟩ : ∃ c1 c2 c3, f.env.cells = [(Str.ofString "base", c1), (Str.ofString "size", c2), (Str.ofString "script", c3)] := by
      have e : f.env.cells.map (·.1) = [Str.ofString "base", Str.ofString "size", Str.ofString "script"] := hc
      exact fst3 e
    show awF _ _ _ [some (.ref sa), none, none, none, none] _ _ _
    refine x_cons ?_
    refine x_asg ?_
    refine e_bin ?_
    refine e_int ?_
    refine e_bin ?_
    refine e_call ?_
    refine e_blt (av := .con (.builtin "len")) hn 3 (by rfl) B.len.1 B.len.2 (by rfl) ?_
    refine ⟨trivial, ?_⟩
    refine l_cons ?_
    walk_at "nc"
    refine l_nil ?_
    refine k_len_lst (hs _) (by rw [List.length_map]; omega) ?_
    refine e_int ?_
    refine b_mod (by omega) ?_
    refine b_add ?_
    have es : (4 + ((script.map AV.int).length : Int) % 3) = (sizeP script : Nat) := by rw [List.length_map]; unfold sizeP; omega
    rw [es]
    have hsz : 4 ≤ sizeP script ∧ sizeP script ≤ 6 := by unfold sizeP; omega
    intro v hv
    refine u_cell hn ho 1 (by rfl) c2 (by rw [hcc]; rfl) hv ?_
    refine x_cons ?_
    refine x_asg ?_
    refine e_list ?_
    repeat (refine l_cons ?_; refine e_int ?_)
    refine l_nil ?_
    refine ⟨by decide, fun ba => ?_⟩
    intro v hv
    refine u_cell hn ho 2 (by rfl) c1 (by rw [hcc]; rfl) hv ?_
    refine x_cons ?_
    refine x_ret ?_
    refine e_comp hn (cl_ok hc (by decide)) ?_
    refine e_call ?_
    refine e_blt (av := .con (.type "range")) hn 4 (by rfl) B.range.1 B.range.2 (by rfl) ?_
    refine ⟨trivial, ?_⟩
    refine l_cons ?_
    refine e_bin ?_
    refine e_int ?_
    walk_at "nc"
    refine b_mul (IntMulOk.of_left (by decide)) ?_
    refine l_nil ?_
    refine k_range1 (fun rg => ?_)
    refine ⟨_, _, hasIter_range hR.handled (.head _) (by omega) (by omega) (by omega) (by omega), trivial, ?_, fun f2 hn2 => ?_⟩
    · rw [rangeL, rangeN_length]; omega
    · have hn3 : f2.env.scope.names = [(Str.ofString ".0", NameKind.local), (Str.ofString "k", NameKind.local), (Str.ofString "sum", NameKind.globalImplicit), (Str.ofString "base", NameKind.cell), (Str.ofString "script", NameKind.cell), (Str.ofString "size", NameKind.cell)] := hn2
      have en : (2 * (sizeP script : Nat) - 0 : Int).toNat = 2 * sizeP script := by omega
      unfold rangeL rangeN
      rw [en]
      refine ACmp.of (fun i : Nat => AV.int (0 + (i : Int) * 1)) (fun i => some (AV.int ((base12.getD i 0 + (sliceL script (some i) (some 63) (some (2 * sizeP script : Nat))).sum) % 72)))
        (fun vs => ∃ w, vs = [none, w, none, some (.ref ba), some (.ref sa), some (.int (sizeP script : Nat))]) _ _ _ ⟨none, rfl⟩ ?_ ?_
      · rintro i hi vs ⟨w, rfl⟩ v hv
        have hi' : i < 12 := by have := List.mem_range.mp hi; omega
        have ei : (0 + (i : Int) * 1) = (i : Int) := by omega
        rw [ei] at hv
        walk_at "nu"
        refine ⟨rfl, ?_, fun q => by cases q⟩
        intro _
        refine e_bin ?_
        refine e_bin ?_
        refine e_sub ?_
        walk_at "nc"
        walk_at "nm"
        refine g_item (x := .int (base12.getD i 0)) (.tail _ (.head _)) ?_ (by omega) (by omega) ?_
        · show ([.int 16, .int 36, .int 31, .int 56, .int 3, .int 23, .int 24, .int 51, .int 61, .int 4, .int 13, .int 30] : List AV)[(i : Int).toNat]? = _
          rw [Int.toNat_natCast]
          exact base_at i hi'
        refine e_call ?_
        refine e_blt (av := .con (.builtin "sum")) hn3 2 (by rfl) B.sum.1 B.sum.2 (by rfl) ?_
        refine ⟨trivial, ?_⟩
        refine l_cons ?_
        refine e_slice_lst ?_
        walk_at "nc"
        show awE _ _ _ _ _ _ _
        walk_at "nm"
        refine ⟨_, rfl, ?_⟩
        show awE _ _ _ _ _ _ _
        refine e_int ?_
        refine ⟨_, rfl, ?_⟩
        show awE _ _ _ _ _ _ _
        refine e_bin ?_
        refine e_int ?_
        walk_at "nc"
        refine b_mul (IntMulOk.of_left (by decide)) ?_
        refine ⟨_, rfl, ?_⟩
        refine ⟨_, _, rfl, hs _, by rw [List.length_map]; omega, by intro q; injection q with q; omega, fun r => ?_⟩
        refine l_nil ?_
        rw [sliceL_map]
        refine k_sum hR.handled (.head _) ?_
        refine b_add ?_
        refine e_int ?_
        refine b_mod (by omega) ?_
        refine ⟨?_, (List.sublist_cons_self _ _), _, rfl⟩
        simp only [Int.natCast_mul]
        rfl
      · intro r
        refine ⟨_, ?_, h r⟩
        have e : List.filterMap (fun i => some (AV.int ((base12.getD i 0 + (sliceL script (some i) (some 63) (some (2 * sizeP script : Nat))).sum) % 72))) (List.range (2 * sizeP script)) = (drawnP script).map AV.int := by
          unfold drawnP
          rw [List.filterMap_eq_map', List.map_map]
          rfl
        rw [e]
        exact .cons_cons _ ((List.sublist_cons_self _ _).trans (List.sublist_cons_self _ _))
end

end Mine

namespace Mine
local macro_rules | `(tactic| walk_at "nm") => `(tactic| first
  | refine e_loc (by assumption) 0 (by rfl) (by rfl) ?_ | refine e_loc (by assumption) 1 (by rfl) (by rfl) ?_ | refine e_loc (by assumption) 2 (by rfl) (by rfl) ?_ | refine e_loc (by assumption) 3 (by rfl) (by rfl) ?_ | refine e_loc (by assumption) 4 (by rfl) (by rfl) ?_ | refine e_loc (by assumption) 5 (by rfl) (by rfl) ?_ | refine e_loc (by assumption) 6 (by rfl) (by rfl) ?_ | refine e_loc (by assumption) 7 (by rfl) (by rfl) ?_ | refine e_loc (by assumption) 8 (by rfl) (by rfl) ?_ | refine e_loc (by assumption) 9 (by rfl) (by rfl) ?_ | refine e_loc (by assumption) 10 (by rfl) (by rfl) ?_ | refine e_loc (by assumption) 11 (by rfl) (by rfl) ?_ | refine e_loc (by assumption) 12 (by rfl) (by rfl) ?_ | refine e_loc (by assumption) 13 (by rfl) (by rfl) ?_ | refine e_loc (by assumption) 14 (by rfl) (by rfl) ?_ | refine e_loc (by assumption) 15 (by rfl) (by rfl) ?_)
local macro_rules | `(tactic| walk_at "nc") => `(tactic| first
  | refine e_cell (by assumption) 0 (by rfl) (by rfl) ?_ | refine e_cell (by assumption) 1 (by rfl) (by rfl) ?_ | refine e_cell (by assumption) 2 (by rfl) (by rfl) ?_ | refine e_cell (by assumption) 3 (by rfl) (by rfl) ?_ | refine e_cell (by assumption) 4 (by rfl) (by rfl) ?_ | refine e_cell (by assumption) 5 (by rfl) (by rfl) ?_ | refine e_cell (by assumption) 6 (by rfl) (by rfl) ?_ | refine e_cell (by assumption) 7 (by rfl) (by rfl) ?_)
local macro_rules | `(tactic| walk_at "nf") => `(tactic| first
  | refine e_free (by assumption) 0 (by rfl) (by rfl) ?_ | refine e_free (by assumption) 1 (by rfl) (by rfl) ?_ | refine e_free (by assumption) 2 (by rfl) (by rfl) ?_ | refine e_free (by assumption) 3 (by rfl) (by rfl) ?_ | refine e_free (by assumption) 4 (by rfl) (by rfl) ?_ | refine e_free (by assumption) 5 (by rfl) (by rfl) ?_ | refine e_free (by assumption) 6 (by rfl) (by rfl) ?_ | refine e_free (by assumption) 7 (by rfl) (by rfl) ?_)
local macro_rules | `(tactic| walk_at "nl") => `(tactic| first
  | refine n_loc (by assumption) 0 (by rfl) (by rfl) ?_ | refine n_loc (by assumption) 1 (by rfl) (by rfl) ?_ | refine n_loc (by assumption) 2 (by rfl) (by rfl) ?_ | refine n_loc (by assumption) 3 (by rfl) (by rfl) ?_ | refine n_loc (by assumption) 4 (by rfl) (by rfl) ?_ | refine n_loc (by assumption) 5 (by rfl) (by rfl) ?_ | refine n_loc (by assumption) 6 (by rfl) (by rfl) ?_ | refine n_loc (by assumption) 7 (by rfl) (by rfl) ?_ | refine n_loc (by assumption) 8 (by rfl) (by rfl) ?_ | refine n_loc (by assumption) 9 (by rfl) (by rfl) ?_ | refine n_loc (by assumption) 10 (by rfl) (by rfl) ?_ | refine n_loc (by assumption) 11 (by rfl) (by rfl) ?_ | refine n_loc (by assumption) 12 (by rfl) (by rfl) ?_ | refine n_loc (by assumption) 13 (by rfl) (by rfl) ?_ | refine n_loc (by assumption) 14 (by rfl) (by rfl) ?_ | refine n_loc (by assumption) 15 (by rfl) (by rfl) ?_)
local macro_rules | `(tactic| walk_at "as") => `(tactic| first
  | refine x_asgL (by assumption) 0 (by rfl) ?_ | refine x_asgL (by assumption) 1 (by rfl) ?_ | refine x_asgL (by assumption) 2 (by rfl) ?_ | refine x_asgL (by assumption) 3 (by rfl) ?_ | refine x_asgL (by assumption) 4 (by rfl) ?_ | refine x_asgL (by assumption) 5 (by rfl) ?_ | refine x_asgL (by assumption) 6 (by rfl) ?_ | refine x_asgL (by assumption) 7 (by rfl) ?_ | refine x_asgL (by assumption) 8 (by rfl) ?_ | refine x_asgL (by assumption) 9 (by rfl) ?_ | refine x_asgL (by assumption) 10 (by rfl) ?_ | refine x_asgL (by assumption) 11 (by rfl) ?_ | refine x_asgL (by assumption) 12 (by rfl) ?_ | refine x_asgL (by assumption) 13 (by rfl) ?_ | refine x_asgL (by assumption) 14 (by rfl) ?_ | refine x_asgL (by assumption) 15 (by rfl) ?_)
local macro_rules | `(tactic| walk_at "au") => `(tactic| first
  | refine x_augL (by assumption) 0 (by rfl) ?_ | refine x_augL (by assumption) 1 (by rfl) ?_ | refine x_augL (by assumption) 2 (by rfl) ?_ | refine x_augL (by assumption) 3 (by rfl) ?_ | refine x_augL (by assumption) 4 (by rfl) ?_ | refine x_augL (by assumption) 5 (by rfl) ?_ | refine x_augL (by assumption) 6 (by rfl) ?_ | refine x_augL (by assumption) 7 (by rfl) ?_ | refine x_augL (by assumption) 8 (by rfl) ?_ | refine x_augL (by assumption) 9 (by rfl) ?_ | refine x_augL (by assumption) 10 (by rfl) ?_ | refine x_augL (by assumption) 11 (by rfl) ?_ | refine x_augL (by assumption) 12 (by rfl) ?_ | refine x_augL (by assumption) 13 (by rfl) ?_ | refine x_augL (by assumption) 14 (by rfl) ?_ | refine x_augL (by assumption) 15 (by rfl) ?_)
local macro_rules | `(tactic| walk_at "nu") => `(tactic| first
  | refine u_loc (by assumption) 0 (by rfl) (by assumption) ?_ | refine u_loc (by assumption) 1 (by rfl) (by assumption) ?_ | refine u_loc (by assumption) 2 (by rfl) (by assumption) ?_ | refine u_loc (by assumption) 3 (by rfl) (by assumption) ?_ | refine u_loc (by assumption) 4 (by rfl) (by assumption) ?_ | refine u_loc (by assumption) 5 (by rfl) (by assumption) ?_ | refine u_loc (by assumption) 6 (by rfl) (by assumption) ?_ | refine u_loc (by assumption) 7 (by rfl) (by assumption) ?_ | refine u_loc (by assumption) 8 (by rfl) (by assumption) ?_ | refine u_loc (by assumption) 9 (by rfl) (by assumption) ?_ | refine u_loc (by assumption) 10 (by rfl) (by assumption) ?_ | refine u_loc (by assumption) 11 (by rfl) (by assumption) ?_ | refine u_loc (by assumption) 12 (by rfl) (by assumption) ?_ | refine u_loc (by assumption) 13 (by rfl) (by assumption) ?_ | refine u_loc (by assumption) 14 (by rfl) (by assumption) ?_ | refine u_loc (by assumption) 15 (by rfl) (by assumption) ?_)

noncomputable def deedStep (m : Nat) (d : List Nat) (x : Int) : List Nat := if ((cntN 40 d : Int) < (m : Int)) ∧ ((2 * (cntN 40 d : Int) == (d.length : Int)) = true ∨ (x % 2 == 0) = true) then d ++ [40] else d ++ [41]
noncomputable def deedsP (drawn : List Int) : List Nat := (sliceL drawn none (some (-1)) none).foldl (deedStep (drawn.length / 2)) [40]
section
variable {b : Bs} {A : Around} {H : Led}
theorem sliceL_length {α : Type} (xs : List α) (lo hi : Option Int) (st : Option Int) : (sliceL xs lo hi st).length ≤ (idxL lo hi st xs.length).length := by
  unfold sliceL
  exact List.length_filterMap_le _ _
theorem h_deeds (B : Blt b) {a : Addr} (F : FnIs b a (stAt 12)) {n : Nat} (R : Room A (n + 1)) {da : Addr} {drawn : List Int} (hm : (da, AO.list (drawn.map AV.int)) ∈ H) (hz : drawn.length ≤ 12) (hz2 : (sliceL drawn none (some (-1)) none).length ≤ 12) {ws : List Value} (hw : Is2 [.ref da] ws) {Q : AV → Led → Prop}
    (h : Q (.str (deedsP drawn)) H) : ahC b A H (.call (.ref a) ⟨ws, []⟩) Q := by
  refine ahC.post_sub ?_
  refine h_code (ns := [("drawn", .local), ("deeds", .local), ("x", .local), ("came", .local), ("len", .globalImplicit)]) F R hw ["drawn"] (by rfl) (by rfl) (by rfl) (by decide) (fun fd ws hw => ?_) (fun f A' hn ho hc hR => ?_)
  · obtain ⟨_, rfl, _⟩ := Is2.inv1 hw
    rfl
  · show awF _ _ _ [some (.ref da), none, none, none, none] _ _ _
    refine x_cons ?_
    walk_at "as"
    refine e_str (l := [40]) (by rfl) ?_
    refine x_cons ?_
    refine x_for ?_
    refine e_slice_list ?_
    walk_at "nm"
    show awP _ _ _ _ _ _ _
    show awE _ _ _ _ _ _ _
    refine e_un ?_
    refine e_int ?_
    refine o_neg ?_
    refine ⟨_, rfl, ?_⟩
    refine ⟨_, _, rfl, hm, by rw [List.length_map]; omega, by simp, fun r => ?_⟩
    rw [sliceL_map]
    refine ⟨_, _, hasIter_list hR.handled (.head _), ?_⟩
    refine AFor.of AV.int (fun l vs H1 => ∃ d w1 w2, vs = [some (.ref da), some (.str d), w1, w2, none] ∧ H1 = (r, AO.list ((sliceL drawn none (some (-1)) none).map AV.int)) :: H ∧ l.foldl (deedStep (drawn.length / 2)) d = deedsP drawn ∧ d.length + l.length ≤ 13) ?_ ?_ ?_ _ _ _ ⟨[40], none, none, rfl, rfl, rfl, by simp; omega⟩
    · rintro l vs H1 ⟨d, w1, w2, rfl, rfl, _, _⟩
      exact .head _
    · rintro vs H1 ⟨d, w1, w2, rfl, rfl, e, _⟩
      refine x_cons ?_
      refine x_ret ?_
      walk_at "nm"
      simp only [List.foldl_nil] at e
      rw [e]
      exact ⟨_, List.sublist_cons_self _ _, h⟩
    · rintro x l vs H1 ⟨d, w1, w2, rfl, rfl, e, hl⟩ v hv
      simp only [List.length_cons] at hl
      refine u_name ?_
      walk_at "nu"
      refine x_cons ?_
      walk_at "as"
      refine e_meth PySem.F.plainAttrs_str PySem.F.slot_str_count PySem.F.type_str_count ?_
      walk_at "nm"
      refine ⟨rfl, ?_⟩
      refine l_cons ?_
      refine e_str (l := [40]) (by rfl) ?_
      refine l_nil ?_
      refine k_count ?_
      refine x_cons ?_
      refine aw_mono (Q := fun fl vs H2 => fl = .next ∧ vs = [some (.ref da), some (.str (deedStep (drawn.length / 2) d x)), some (.int x), some (.int (cntN 40 d : Nat)), none] ∧ H2 = (r, AO.list ((sliceL drawn none (some (-1)) none).map AV.int)) :: H) ?_ ?_
      · refine x_if ?_
        refine aw_mono (Q := fun c vs' H' => c = decide (((cntN 40 d : Int) < ((drawn.length / 2 : Nat) : Int)) ∧ ((2 * (cntN 40 d : Int) == (d.length : Int)) = true ∨ (x % 2 == 0) = true)) ∧
          vs' = [some (.ref da), some (.str d), some (.int x), some (.int (cntN 40 d : Nat)), none] ∧ H' = (r, AO.list ((sliceL drawn none (some (-1)) none).map AV.int)) :: H) ?_ ?_
        · refine t_boolop ?_
          refine t_and_cons ?_
          refine t_cmp (by rfl) ?_
          walk_at "nm"
          refine e_bin ?_
          refine e_call ?_
          refine e_blt (av := .con (.builtin "len")) hn 4 (by rfl) B.len.1 B.len.2 (by rfl) ?_
          refine ⟨trivial, ?_⟩
          refine l_cons ?_
          walk_at "nm"
          refine l_nil ?_
          refine k_len_list (.tail _ hm) (by rw [List.length_map]; omega) ?_
          refine e_int ?_
          refine b_div (by omega) (PyProof.noPylong_small (by decide)) ?_
          refine c_lt ?_
          have em : (((drawn.map AV.int).length : Int) / 2) = ((drawn.length / 2 : Nat) : Int) := by rw [List.length_map]; omega
          rw [em]
          refine ⟨_, rfl, fun h1 => ?_, fun h1 => ?_⟩
          · have h1 := of_decide_eq_true h1
            refine t_and_cons ?_
            refine t_boolop ?_
            refine t_or_cons ?_
            refine t_cmp (by rfl) ?_
            refine e_bin ?_
            refine e_int ?_
            walk_at "nm"
            refine b_mul (IntMulOk.of_left (by decide)) ?_
            refine e_call ?_
            refine e_blt (av := .con (.builtin "len")) hn 4 (by rfl) B.len.1 B.len.2 (by rfl) ?_
            refine ⟨trivial, ?_⟩
            refine l_cons ?_
            walk_at "nm"
            refine l_nil ?_
            refine k_len_str (by omega) ?_
            refine c_eq ?_
            refine ⟨_, rfl, fun h2 => ?_, fun h2 => ?_⟩
            · refine ⟨fun _ => ?_, fun q => by cases q⟩
              refine t_and_nil ⟨?_, rfl, rfl⟩
              exact (decide_eq_true ⟨h1, .inl h2⟩).symm
            · refine t_or_cons ?_
              refine t_cmp (by rfl) ?_
              refine e_bin ?_
              walk_at "nm"
              refine e_int ?_
              refine b_mod (by omega) ?_
              refine e_int ?_
              refine c_eq ?_
              refine ⟨_, rfl, fun h3 => ?_, fun h3 => ?_⟩
              · refine ⟨fun _ => ?_, fun q => by cases q⟩
                refine t_and_nil ⟨?_, rfl, rfl⟩
                exact (decide_eq_true ⟨h1, .inr h3⟩).symm
              · refine t_or_nil ?_
                refine ⟨fun q => (by cases q), fun _ => ⟨?_, rfl, rfl⟩⟩
                refine (decide_eq_false ?_).symm
                rintro ⟨_, q | q⟩
                · rw [h2] at q; cases q
                · rw [h3] at q; cases q
          · have h1 := of_decide_eq_false h1
            exact ⟨(decide_eq_false fun q => h1 q.1).symm, rfl, rfl⟩
        · rintro c vs' H' ⟨hcnd, rfl, rfl⟩
          refine ⟨fun q => ?_, fun q => ?_⟩
          · have hp := of_decide_eq_true (hcnd.symm.trans q)
            have e1 : deedStep (drawn.length / 2) d x = d ++ [40] := by unfold deedStep; rw [if_pos hp]
            refine x_cons ?_
            walk_at "au"
            walk_at "nl"
            refine e_str (l := [40]) (by rfl) ?_
            refine i_cat (by simp; omega) ?_
            refine x_nil ?_
            rw [e1]
            exact ⟨rfl, rfl, rfl⟩
          · have hp := of_decide_eq_false (hcnd.symm.trans q)
            have e1 : deedStep (drawn.length / 2) d x = d ++ [41] := by unfold deedStep; rw [if_neg hp]
            refine x_cons ?_
            walk_at "au"
            walk_at "nl"
            refine e_str (l := [41]) (by rfl) ?_
            refine i_cat (by simp; omega) ?_
            refine x_nil ?_
            rw [e1]
            exact ⟨rfl, rfl, rfl⟩
      · rintro fl vs H2 ⟨rfl, rfl, rfl⟩
        refine x_nil ?_
        refine ⟨_, _, _, rfl, rfl, by rw [← e]; rfl, ?_⟩
        unfold deedStep
        split <;> simp <;> omega
end

end Mine

namespace Mine
local macro_rules | `(tactic| walk_at "nm") => `(tactic| first
  | refine e_loc (by assumption) 0 (by rfl) (by rfl) ?_ | refine e_loc (by assumption) 1 (by rfl) (by rfl) ?_ | refine e_loc (by assumption) 2 (by rfl) (by rfl) ?_ | refine e_loc (by assumption) 3 (by rfl) (by rfl) ?_ | refine e_loc (by assumption) 4 (by rfl) (by rfl) ?_ | refine e_loc (by assumption) 5 (by rfl) (by rfl) ?_ | refine e_loc (by assumption) 6 (by rfl) (by rfl) ?_ | refine e_loc (by assumption) 7 (by rfl) (by rfl) ?_ | refine e_loc (by assumption) 8 (by rfl) (by rfl) ?_ | refine e_loc (by assumption) 9 (by rfl) (by rfl) ?_ | refine e_loc (by assumption) 10 (by rfl) (by rfl) ?_ | refine e_loc (by assumption) 11 (by rfl) (by rfl) ?_ | refine e_loc (by assumption) 12 (by rfl) (by rfl) ?_ | refine e_loc (by assumption) 13 (by rfl) (by rfl) ?_ | refine e_loc (by assumption) 14 (by rfl) (by rfl) ?_ | refine e_loc (by assumption) 15 (by rfl) (by rfl) ?_)
local macro_rules | `(tactic| walk_at "nc") => `(tactic| first
  | refine e_cell (by assumption) 0 (by rfl) (by rfl) ?_ | refine e_cell (by assumption) 1 (by rfl) (by rfl) ?_ | refine e_cell (by assumption) 2 (by rfl) (by rfl) ?_ | refine e_cell (by assumption) 3 (by rfl) (by rfl) ?_ | refine e_cell (by assumption) 4 (by rfl) (by rfl) ?_ | refine e_cell (by assumption) 5 (by rfl) (by rfl) ?_ | refine e_cell (by assumption) 6 (by rfl) (by rfl) ?_ | refine e_cell (by assumption) 7 (by rfl) (by rfl) ?_)
local macro_rules | `(tactic| walk_at "nf") => `(tactic| first
  | refine e_free (by assumption) 0 (by rfl) (by rfl) ?_ | refine e_free (by assumption) 1 (by rfl) (by rfl) ?_ | refine e_free (by assumption) 2 (by rfl) (by rfl) ?_ | refine e_free (by assumption) 3 (by rfl) (by rfl) ?_ | refine e_free (by assumption) 4 (by rfl) (by rfl) ?_ | refine e_free (by assumption) 5 (by rfl) (by rfl) ?_ | refine e_free (by assumption) 6 (by rfl) (by rfl) ?_ | refine e_free (by assumption) 7 (by rfl) (by rfl) ?_)
local macro_rules | `(tactic| walk_at "nl") => `(tactic| first
  | refine n_loc (by assumption) 0 (by rfl) (by rfl) ?_ | refine n_loc (by assumption) 1 (by rfl) (by rfl) ?_ | refine n_loc (by assumption) 2 (by rfl) (by rfl) ?_ | refine n_loc (by assumption) 3 (by rfl) (by rfl) ?_ | refine n_loc (by assumption) 4 (by rfl) (by rfl) ?_ | refine n_loc (by assumption) 5 (by rfl) (by rfl) ?_ | refine n_loc (by assumption) 6 (by rfl) (by rfl) ?_ | refine n_loc (by assumption) 7 (by rfl) (by rfl) ?_ | refine n_loc (by assumption) 8 (by rfl) (by rfl) ?_ | refine n_loc (by assumption) 9 (by rfl) (by rfl) ?_ | refine n_loc (by assumption) 10 (by rfl) (by rfl) ?_ | refine n_loc (by assumption) 11 (by rfl) (by rfl) ?_ | refine n_loc (by assumption) 12 (by rfl) (by rfl) ?_ | refine n_loc (by assumption) 13 (by rfl) (by rfl) ?_ | refine n_loc (by assumption) 14 (by rfl) (by rfl) ?_ | refine n_loc (by assumption) 15 (by rfl) (by rfl) ?_)
local macro_rules | `(tactic| walk_at "nu") => `(tactic| first
  | refine u_loc (by assumption) 0 (by rfl) (by assumption) ?_ | refine u_loc (by assumption) 1 (by rfl) (by assumption) ?_ | refine u_loc (by assumption) 2 (by rfl) (by assumption) ?_ | refine u_loc (by assumption) 3 (by rfl) (by assumption) ?_ | refine u_loc (by assumption) 4 (by rfl) (by assumption) ?_ | refine u_loc (by assumption) 5 (by rfl) (by assumption) ?_ | refine u_loc (by assumption) 6 (by rfl) (by assumption) ?_ | refine u_loc (by assumption) 7 (by rfl) (by assumption) ?_ | refine u_loc (by assumption) 8 (by rfl) (by assumption) ?_ | refine u_loc (by assumption) 9 (by rfl) (by assumption) ?_ | refine u_loc (by assumption) 10 (by rfl) (by assumption) ?_ | refine u_loc (by assumption) 11 (by rfl) (by assumption) ?_ | refine u_loc (by assumption) 12 (by rfl) (by assumption) ?_ | refine u_loc (by assumption) 13 (by rfl) (by assumption) ?_ | refine u_loc (by assumption) 14 (by rfl) (by assumption) ?_ | refine u_loc (by assumption) 15 (by rfl) (by assumption) ?_)
local macro_rules | `(tactic| walk_at "as") => `(tactic| first
  | refine x_asgL (by assumption) 0 (by rfl) ?_ | refine x_asgL (by assumption) 1 (by rfl) ?_ | refine x_asgL (by assumption) 2 (by rfl) ?_ | refine x_asgL (by assumption) 3 (by rfl) ?_ | refine x_asgL (by assumption) 4 (by rfl) ?_ | refine x_asgL (by assumption) 5 (by rfl) ?_ | refine x_asgL (by assumption) 6 (by rfl) ?_ | refine x_asgL (by assumption) 7 (by rfl) ?_ | refine x_asgL (by assumption) 8 (by rfl) ?_ | refine x_asgL (by assumption) 9 (by rfl) ?_ | refine x_asgL (by assumption) 10 (by rfl) ?_ | refine x_asgL (by assumption) 11 (by rfl) ?_ | refine x_asgL (by assumption) 12 (by rfl) ?_ | refine x_asgL (by assumption) 13 (by rfl) ?_ | refine x_asgL (by assumption) 14 (by rfl) ?_ | refine x_asgL (by assumption) 15 (by rfl) ?_)
local macro_rules | `(tactic| walk_at "au") => `(tactic| first
  | refine x_augL (by assumption) 0 (by rfl) ?_ | refine x_augL (by assumption) 1 (by rfl) ?_ | refine x_augL (by assumption) 2 (by rfl) ?_ | refine x_augL (by assumption) 3 (by rfl) ?_ | refine x_augL (by assumption) 4 (by rfl) ?_ | refine x_augL (by assumption) 5 (by rfl) ?_ | refine x_augL (by assumption) 6 (by rfl) ?_ | refine x_augL (by assumption) 7 (by rfl) ?_ | refine x_augL (by assumption) 8 (by rfl) ?_ | refine x_augL (by assumption) 9 (by rfl) ?_ | refine x_augL (by assumption) 10 (by rfl) ?_ | refine x_augL (by assumption) 11 (by rfl) ?_ | refine x_augL (by assumption) 12 (by rfl) ?_ | refine x_augL (by assumption) 13 (by rfl) ?_ | refine x_augL (by assumption) 14 (by rfl) ?_ | refine x_augL (by assumption) 15 (by rfl) ?_)
local macro_rules | `(tactic| walk_at "join") => `(tactic| ((with_reducible refine e_meth PySem.F.plainAttrs_str PySem.F.slot_str_join PySem.F.type_str_join ?_ ?h1 ?h2 ?h3 ?h4 ?h5); (case h1 => rfl); (case h2 => rfl); (case h3 => rfl); (case h4 => rfl); (case h5 => rfl)))

section
variable {b : Bs} {A : Around} {f : Fm} {vs : Vs} {H : Led}
theorem AFor.rangeN {target : Expr} {body : List Stmt} {a c : Int} {n : Nat} (I : Nat → Vs → Led → Prop) {Q : AF → Vs → Led → Prop} (hend : ∀ vs H, I n vs H → Q .next vs H)
    (step : ∀ k, k < n → ∀ vs H, I k vs H → ∀ v, (AV.int (a + (k : Int) * c)).is v → awU b A f vs H (assign target f.env v) (KBd b A f body (I (k + 1)) Q)) (h0 : I 0 vs H) : AFor b A f (fun _ => True) target body (rangeN a c n) vs H Q := by
  unfold Mine.rangeN
  rw [List.range_eq_range']
  refine AFor.of (fun i : Nat => AV.int (a + (i : Int) * c)) (fun l vs H => ∃ k, k ≤ n ∧ l = List.range' k (n - k) ∧ I k vs H) (fun _ _ _ _ => trivial) ?_ ?_ _ _ _ ⟨0, Nat.zero_le _, by simp, h0⟩
  · rintro vs H ⟨k, hk, e, hI⟩
    have : n - k = 0 := by
      cases q : n - k with
      | zero => rfl
      | succ m => rw [q] at e; cases e
    obtain rfl : k = n := by omega
    exact hend vs H hI
  · rintro i l vs H ⟨k, hk, e, hI⟩ v hv
    cases q : n - k with
    | zero => rw [q] at e; cases e
    | succ m =>
      rw [q, List.range'_succ] at e
      injection e with e1 e2
      subst e1
      refine aw_mono (step i (by omega) vs H hI v hv) fun _ vs1 H1 h1 => aw_mono h1 fun fl vs2 H2 h2 => ?_
      have em : m = n - (i + 1) := by omega
      cases fl with
      | next => exact ⟨i + 1, by omega, by rw [e2, em], h2⟩
      | cont => exact ⟨i + 1, by omega, by rw [e2, em], h2⟩
      | brk => exact h2
      | ret w => exact h2
/-- for name in range(n) -/
theorem AFor.range {target : Expr} {body : List Stmt} {n : Nat} (I : Nat → Vs → Led → Prop) {Q : AF → Vs → Led → Prop} (hend : ∀ vs H, I n vs H → Q .next vs H)
    (step : ∀ k, k < n → ∀ vs H, I k vs H → ∀ v, (AV.int (k : Int)).is v → awU b A f vs H (assign target f.env v) (KBd b A f body (I (k + 1)) Q)) (h0 : I 0 vs H) : AFor b A f (fun _ => True) target body (rangeL 0 (n : Int)) vs H Q := by
  unfold rangeL
  have : ((n : Int) - 0).toNat = n := by omega
  rw [this]
  refine AFor.rangeN (a := 0) (c := 1) I hend (fun k hk vs H hI v hv => ?_) h0
  rw [show (0 + (k : Int) * 1) = k by omega] at hv
  exact step k hk vs H hI v hv
end

noncomputable def escQ (w : List Nat) : List Nat := catL (w.map fun c => if decide (c ∈ [34, 92]) = true then [92, c] else [c])
noncomputable def escA (w : List Nat) : List Nat := catL (w.map fun c => [92, c])
noncomputable def encW (w : List Nat) (m : Int) : List Nat := if (m == 0) = true then [34] ++ escQ w ++ [34] else if (m == 1) = true then escA w else w.take 1 ++ escA (w.drop 1)
noncomputable def sepOf (k : Nat) : Nat := [32, 10, 9, 13].getD (k % 4) 0
noncomputable def textP : Nat → List (List Nat) → List Int → List Nat
  | k, w :: ws, m :: ms => encW w m ++ [sepOf k] ++ textP (k + 1) ws ms
  | _, _, _ => []
theorem catL_len2 : ∀ (w : List Nat) (g : Nat → List Nat), (∀ c, (g c).length ≤ 2) → (catL (w.map g)).length ≤ 2 * w.length
  | [], _, _ => Nat.le_refl _
  | c :: r, g, h => by
    simp only [List.map_cons, catL, List.length_append, List.length_cons]
    have := catL_len2 r g h
    have := h c
    omega
theorem encW_len (w : List Nat) (m : Int) : (encW w m).length ≤ 2 * w.length + 3 := by
  unfold encW escQ escA
  have h1 := catL_len2 w (fun c => if decide (c ∈ [34, 92]) = true then [92, c] else [c]) (fun c => by split <;> simp)
  have h2 := catL_len2 w (fun c => [92, c]) (fun c => by simp)
  have h3 := catL_len2 (w.drop 1) (fun c => [92, c]) (fun c => by simp)
  have h4 : (w.drop 1).length ≤ w.length := by simp
  split
  · simp only [List.length_append, List.length_cons, List.length_nil]; omega
  · split
    · omega
    · simp only [List.length_append, List.length_take]; omega

section
variable {b : Bs} {A : Around} {H : Led}
theorem word_cut : ∀ (w : List Nat), w.length ≤ 2 → w ≠ [] → w.all (· < 128) = true → sliceS w (some 1) none none = w.drop 1 ∧ ∃ c, w[(0 : Int).toNat]? = some c ∧ w.take 1 = [c] ∧ (w.drop 1).all (· < 128) = true
  | [a], _, _, h => ⟨rfl, a, rfl, rfl, rfl⟩
  | [a, c], _, _, h => ⟨by unfold sliceS; rw [show Builtin.Str.strSliceIndices (some 1) none (Option.getD none 1) [a, c].length = [1] from (by decide : Builtin.Str.strSliceIndices (some 1) none 1 2 = [1])]; rfl, a, rfl, rfl, by simp at h ⊢; exact h.2⟩
  | [], _, h, _ => absurd rfl h
  | _ :: _ :: _ :: _, h, _, _ => by simp at h
theorem sep_at : ∀ i < 4, ([32, 10, 9, 13] : List Nat)[i]? = some ([32, 10, 9, 13].getD i 0) := by decide
set_option maxHeartbeats 2000000 in
theorem h_text (B : Blt b) {a : Addr} (F : FnIs b a (stAt 13)) {n : Nat} (R : Room A (n + 1)) {wa ma : Addr} {words : List (List Nat)} {ms : List Int} (hwa : (wa, AO.list (words.map AV.str)) ∈ H) (hma : (ma, AO.list (ms.map AV.int)) ∈ H)
    (hl : words.length = ms.length) (hz : words.length ≤ 6) (hwd : ∀ w ∈ words, w.length ≤ 2 ∧ w ≠ [] ∧ w.all (· < 128) = true) {ws : List Value} (hw : Is2 [.ref wa, .ref ma] ws) {Q : AV → Led → Prop}
    (h : Q (.str (textP 0 words ms)) H) : ahC b A H (.call (.ref a) ⟨ws, []⟩) Q := by
  refine ahC.post_sub ?_
  refine h_code (ns := [("words", .local), ("manners", .local), ("text", .local), ("k", .local), ("range", .globalImplicit), ("len", .globalImplicit)]) F R hw ["words", "manners"] (by rfl) (by rfl) (by rfl) (by decide) (fun fd ws hw => ?_) (fun f A' hn ho hc hR => ?_)
  · obtain ⟨_, _, rfl, _, _⟩ := Is2.inv2 hw
    rfl
  · show awF _ _ _ [some (.ref wa), some (.ref ma), none, none, none, none] _ _ _
    refine x_cons ?_
    walk_at "as"
    refine e_str (l := []) (by rfl) ?_
    refine x_cons ?_
    refine x_for ?_
    refine e_call ?_
    refine e_blt (av := .con (.type "range")) hn 4 (by rfl) B.range.1 B.range.2 (by rfl) ?_
    refine ⟨trivial, ?_⟩
    refine l_cons ?_
    refine e_call ?_
    refine e_blt (av := .con (.builtin "len")) hn 5 (by rfl) B.len.1 B.len.2 (by rfl) ?_
    refine ⟨trivial, ?_⟩
    refine l_cons ?_
    walk_at "nm"
    refine l_nil ?_
    refine k_len_list hwa (by rw [List.length_map]; omega) ?_
    refine l_nil ?_
    refine k_range1 (fun rg => ?_)
    rw [List.length_map]
    refine ⟨_, _, hasIter_range hR.handled (.head _) (by omega) (by omega) (by omega) (by omega), ?_⟩
    refine AFor.range (fun k vs H1 => ∃ t w, vs = [some (.ref wa), some (.ref ma), some (.str t), w, none, none] ∧ H.Sublist H1 ∧ t ++ textP k (words.drop k) (ms.drop k) = textP 0 words ms ∧ t.length ≤ 9 * k) ?_ ?_ ⟨[], none, rfl, List.sublist_cons_self _ _, by simp, by simp⟩
    · rintro vs H1 ⟨t, w, rfl, hS, e, _⟩
      refine x_cons ?_
      refine x_ret ?_
      walk_at "nm"
      have e2 : t = textP 0 words ms := by
        rw [← e, List.drop_length]
        simp [textP]
      rw [e2]
      exact ⟨H, hS, h⟩
    · rintro k hk vs H1 ⟨t, w, rfl, hS, e, ht⟩ v hv
      obtain ⟨wd, hwk⟩ : ∃ wd, words[k]? = some wd := ⟨words[k], List.getElem?_eq_getElem hk⟩
      obtain ⟨m, hmk⟩ : ∃ m, ms[k]? = some m := ⟨ms[k]'(by omega), List.getElem?_eq_getElem _⟩
      obtain ⟨hw2, hwne, hwa8⟩ := hwd wd (List.mem_of_getElem? hwk)
      have dw : words.drop k = wd :: words.drop (k + 1) := by
        rw [List.drop_eq_getElem_cons hk]
        rw [List.getElem?_eq_getElem hk] at hwk
        injection hwk with q; rw [q]
      have dm : ms.drop k = m :: ms.drop (k + 1) := by
        have hk' : k < ms.length := by omega
        rw [List.drop_eq_getElem_cons hk']
        rw [List.getElem?_eq_getElem hk'] at hmk
        injection hmk with q; rw [q]
      rw [dw, dm, textP] at e
      have hwk' : (words.map AV.str)[(k : Int).toNat]? = some (.str wd) := by rw [Int.toNat_natCast, List.getElem?_map, hwk]; rfl
      have hmk' : (ms.map AV.int)[(k : Int).toNat]? = some (.int m) := by rw [Int.toNat_natCast, List.getElem?_map, hmk]; rfl
      have hwa' := hS.subset hwa
      have hma' := hS.subset hma
      have hen := encW_len wd m
      have hen2 : (encW wd m).length ≤ 7 := by omega
      refine u_name ?_
      walk_at "nu"
      refine x_cons ?_
      refine aw_mono (Q := fun fl vs H2 => fl = .next ∧ vs = [some (.ref wa), some (.ref ma), some (.str (t ++ encW wd m)), some (.int k), none, none] ∧ H.Sublist H2) ?_ ?_
      · refine x_if ?_
        refine t_cmp (by rfl) ?_
        refine e_sub ?_
        walk_at "nm"
        walk_at "nm"
        refine g_item hma' hmk' (by omega) (by omega) ?_
        refine e_int ?_
        refine c_eq ?_
        refine ⟨_, rfl, fun h0 => ?_, fun h0 => ?_⟩
        · have eE : encW wd m = [34] ++ escQ wd ++ [34] := by unfold encW; rw [if_pos h0]
          refine x_cons ?_
          walk_at "au"
          walk_at "nl"
          refine e_bin ?_
          refine e_bin ?_
          refine e_str (l := [34]) (by rfl) ?_
          walk_at "join"
          refine e_str (l := []) (by rfl) ?_
          refine ⟨rfl, ?_⟩
          refine l_cons ?_
          refine e_comp hn (cl_ok hc (by decide)) ?_
          refine e_sub ?_
          walk_at "nm"
          walk_at "nm"
          refine g_item hwa' hwk' (by omega) (by omega) ?_
          refine ⟨_, _, hasIter_str hR.handled hwa8, trivial, by simp only [signs, List.length_map]; omega, fun f2 hn2 => ?_⟩
          have hn3 : f2.env.scope.names = [(Str.ofString ".0", NameKind.local), (Str.ofString "sign", NameKind.local)] := hn2
          refine ACmp.of (fun c : Nat => AV.str [c]) (fun c => some (AV.str (if decide (c ∈ [34, 92]) = true then [92, c] else [c]))) (fun vs => ∃ w, vs = [none, w]) _ _ _ ⟨none, rfl⟩ ?_ ?_
          · rintro c hcm vs ⟨w, rfl⟩ v hv
            walk_at "nu"
            refine ⟨rfl, ?_, fun q => by cases q⟩
            intro _
            refine e_if ?_
            refine t_cmp (by rfl) ?_
            walk_at "nm"
            refine e_str (l := [34, 92]) (by rfl) ?_
            refine c_ins ?_
            refine ⟨_, rfl, fun h1 => ?_, fun h1 => ?_⟩
            · refine e_bin ?_
              refine e_str (l := [92]) (by rfl) ?_
              walk_at "nm"
              refine b_cat (by simp) ?_
              refine ⟨?_, List.Sublist.refl _, _, rfl⟩
              rw [if_pos h1]; rfl
            · walk_at "nm"
              refine ⟨?_, List.Sublist.refl _, _, rfl⟩
              rw [if_neg (by rw [h1]; decide)]
          intro r
          rw [show List.filterMap (fun c : Nat => some (AV.str (if decide (c ∈ [34, 92]) = true then [92, c] else [c]))) (wd) = ((wd).map fun c => if decide (c ∈ [34, 92]) = true then [92, c] else [c]).map AV.str by rw [List.filterMap_eq_map', List.map_map]; rfl]
          refine l_nil ?_
          have hq : (catL (wd.map fun c => if decide (c ∈ [34, 92]) = true then [92, c] else [c])).length ≤ 4 := Nat.le_trans (catL_len2 wd _ (fun c => by split <;> simp)) (by omega)
          refine k_join (.head _) (by omega) ?_
          refine b_cat (by simp only [List.length_cons, List.length_nil]; omega) ?_
          refine e_str (l := [34]) (by rfl) ?_
          refine b_cat (by simp only [List.length_append, List.length_cons, List.length_nil]; omega) ?_
          refine i_cat (by simp only [List.length_append, List.length_cons, List.length_nil]; omega) ?_
          refine x_nil ?_
          rw [eE]
          exact ⟨rfl, rfl, hS.trans (List.sublist_cons_self _ _)⟩
        · refine x_cons ?_
          refine x_if ?_
          refine t_cmp (by rfl) ?_
          refine e_sub ?_
          walk_at "nm"
          walk_at "nm"
          refine g_item hma' hmk' (by omega) (by omega) ?_
          refine e_int ?_
          refine c_eq ?_
          refine ⟨_, rfl, fun h1 => ?_, fun h1 => ?_⟩
          · have eE : encW wd m = escA wd := by unfold encW; rw [if_neg (by rw [h0]; decide), if_pos h1]
            refine x_cons ?_
            walk_at "au"
            walk_at "nl"
            walk_at "join"
            refine e_str (l := []) (by rfl) ?_
            refine ⟨rfl, ?_⟩
            refine l_cons ?_
            refine e_comp hn (cl_ok hc (by decide)) ?_
            refine e_sub ?_
            walk_at "nm"
            walk_at "nm"
            refine g_item hwa' hwk' (by omega) (by omega) ?_
            refine ⟨_, _, hasIter_str hR.handled hwa8, trivial, by simp only [signs, List.length_map]; omega, fun f2 hn2 => ?_⟩
            have hn3 : f2.env.scope.names = [(Str.ofString ".0", NameKind.local), (Str.ofString "sign", NameKind.local)] := hn2
            refine ACmp.of (fun c : Nat => AV.str [c]) (fun c => some (AV.str ([92, c]))) (fun vs => ∃ w, vs = [none, w]) _ _ _ ⟨none, rfl⟩ ?_ ?_
            · rintro c hcm vs ⟨w, rfl⟩ v hv
              walk_at "nu"
              refine ⟨rfl, ?_, fun q => by cases q⟩
              intro _
              refine e_bin ?_
              refine e_str (l := [92]) (by rfl) ?_
              walk_at "nm"
              refine b_cat (by simp) ?_
              exact ⟨rfl, List.Sublist.refl _, _, rfl⟩
            intro r
            rw [show List.filterMap (fun c : Nat => some (AV.str ([92, c]))) (wd) = ((wd).map fun c => [92, c]).map AV.str by rw [List.filterMap_eq_map', List.map_map]; rfl]
            refine l_nil ?_

            have hq : (catL (wd.map fun c => [92, c])).length ≤ 4 := Nat.le_trans (catL_len2 wd _ (fun c => by simp)) (by omega)
            refine k_join (.head _) (by omega) ?_
            refine i_cat (by omega) ?_
            refine x_nil ?_
            refine x_nil ?_
            rw [eE]
            exact ⟨rfl, rfl, hS.trans (List.sublist_cons_self _ _)⟩
          · have eE : encW wd m = wd.take 1 ++ escA (wd.drop 1) := by unfold encW; rw [if_neg (by rw [h0]; decide), if_neg (by rw [h1]; decide)]
            obtain ⟨es, c0, ec, et, hd8⟩ := word_cut wd hw2 hwne hwa8
            refine x_cons ?_
            walk_at "au"
            walk_at "nl"
            refine e_bin ?_
            refine e_sub ?_
            refine e_sub ?_
            walk_at "nm"
            walk_at "nm"
            refine g_item hwa' hwk' (by omega) (by omega) ?_
            refine e_int ?_
            refine g_sign (c := c0) ec (by omega) (by omega) ?_
            walk_at "join"
            refine e_str (l := []) (by rfl) ?_
            refine ⟨rfl, ?_⟩
            refine l_cons ?_
            refine e_comp hn (cl_ok hc (by decide)) ?_
            refine e_slice_str ?_
            refine e_sub ?_
            walk_at "nm"
            walk_at "nm"
            refine g_item hwa' hwk' (by omega) (by omega) ?_
            show awE _ _ _ _ _ _ _
            refine e_int ?_
            refine ⟨_, rfl, ?_⟩
            show Exists _
            refine ⟨wd, rfl, by omega, by rw [es]; simp, by simp, ?_⟩
            rw [es]
            refine ⟨_, _, hasIter_str hR.handled hd8, trivial, by simp only [signs, List.length_map]; simp; omega, fun f2 hn2 => ?_⟩
            have hn3 : f2.env.scope.names = [(Str.ofString ".0", NameKind.local), (Str.ofString "sign", NameKind.local)] := hn2
            refine ACmp.of (fun c : Nat => AV.str [c]) (fun c => some (AV.str ([92, c]))) (fun vs => ∃ w, vs = [none, w]) _ _ _ ⟨none, rfl⟩ ?_ ?_
            · rintro c hcm vs ⟨w, rfl⟩ v hv
              walk_at "nu"
              refine ⟨rfl, ?_, fun q => by cases q⟩
              intro _
              refine e_bin ?_
              refine e_str (l := [92]) (by rfl) ?_
              walk_at "nm"
              refine b_cat (by simp) ?_
              exact ⟨rfl, List.Sublist.refl _, _, rfl⟩
            intro r
            rw [show List.filterMap (fun c : Nat => some (AV.str ([92, c]))) (wd.drop 1) = ((wd.drop 1).map fun c => [92, c]).map AV.str by rw [List.filterMap_eq_map', List.map_map]; rfl]
            refine l_nil ?_

            have hq : (catL ((wd.drop 1).map fun c => [92, c])).length ≤ 4 := Nat.le_trans (catL_len2 _ _ (fun c => by simp)) (by simp; omega)
            refine k_join (.head _) (by omega) ?_
            refine b_cat (by simp only [List.length_cons, List.length_nil]; omega) ?_
            refine i_cat (by simp only [List.length_append, List.length_cons, List.length_nil]; omega) ?_
            refine x_nil ?_
            refine x_nil ?_
            rw [eE, et]
            exact ⟨rfl, rfl, hS.trans (List.sublist_cons_self _ _)⟩
      · rintro fl vs H2 ⟨rfl, rfl, hS2⟩
        refine x_cons ?_
        walk_at "au"
        walk_at "nl"
        refine e_sub ?_
        refine e_str (l := [32, 10, 9, 13]) (by rfl) ?_
        refine e_bin ?_
        walk_at "nm"
        refine e_int ?_
        refine b_mod (by omega) ?_
        have ek : ((k : Int) % 4).toNat = k % 4 := by omega
        refine g_sign (c := sepOf k) (by rw [ek]; exact sep_at _ (by omega)) (by omega) (by omega) ?_
        refine i_cat (by simp; omega) ?_
        refine x_nil ?_
        exact ⟨_, _, rfl, hS2, by rw [← e]; simp, by simp; omega⟩
end

end Mine

namespace Mine
local macro_rules | `(tactic| walk_at "nm") => `(tactic| first
  | refine e_loc (by assumption) 0 (by rfl) (by rfl) ?_ | refine e_loc (by assumption) 1 (by rfl) (by rfl) ?_ | refine e_loc (by assumption) 2 (by rfl) (by rfl) ?_ | refine e_loc (by assumption) 3 (by rfl) (by rfl) ?_ | refine e_loc (by assumption) 4 (by rfl) (by rfl) ?_ | refine e_loc (by assumption) 5 (by rfl) (by rfl) ?_ | refine e_loc (by assumption) 6 (by rfl) (by rfl) ?_ | refine e_loc (by assumption) 7 (by rfl) (by rfl) ?_ | refine e_loc (by assumption) 8 (by rfl) (by rfl) ?_ | refine e_loc (by assumption) 9 (by rfl) (by rfl) ?_ | refine e_loc (by assumption) 10 (by rfl) (by rfl) ?_ | refine e_loc (by assumption) 11 (by rfl) (by rfl) ?_ | refine e_loc (by assumption) 12 (by rfl) (by rfl) ?_ | refine e_loc (by assumption) 13 (by rfl) (by rfl) ?_ | refine e_loc (by assumption) 14 (by rfl) (by rfl) ?_ | refine e_loc (by assumption) 15 (by rfl) (by rfl) ?_)
local macro_rules | `(tactic| walk_at "nc") => `(tactic| first
  | refine e_cell (by assumption) 0 (by rfl) (by rfl) ?_ | refine e_cell (by assumption) 1 (by rfl) (by rfl) ?_ | refine e_cell (by assumption) 2 (by rfl) (by rfl) ?_ | refine e_cell (by assumption) 3 (by rfl) (by rfl) ?_ | refine e_cell (by assumption) 4 (by rfl) (by rfl) ?_ | refine e_cell (by assumption) 5 (by rfl) (by rfl) ?_ | refine e_cell (by assumption) 6 (by rfl) (by rfl) ?_ | refine e_cell (by assumption) 7 (by rfl) (by rfl) ?_)
local macro_rules | `(tactic| walk_at "nf") => `(tactic| first
  | refine e_free (by assumption) 0 (by rfl) (by rfl) ?_ | refine e_free (by assumption) 1 (by rfl) (by rfl) ?_ | refine e_free (by assumption) 2 (by rfl) (by rfl) ?_ | refine e_free (by assumption) 3 (by rfl) (by rfl) ?_ | refine e_free (by assumption) 4 (by rfl) (by rfl) ?_ | refine e_free (by assumption) 5 (by rfl) (by rfl) ?_ | refine e_free (by assumption) 6 (by rfl) (by rfl) ?_ | refine e_free (by assumption) 7 (by rfl) (by rfl) ?_)
local macro_rules | `(tactic| walk_at "nl") => `(tactic| first
  | refine n_loc (by assumption) 0 (by rfl) (by rfl) ?_ | refine n_loc (by assumption) 1 (by rfl) (by rfl) ?_ | refine n_loc (by assumption) 2 (by rfl) (by rfl) ?_ | refine n_loc (by assumption) 3 (by rfl) (by rfl) ?_ | refine n_loc (by assumption) 4 (by rfl) (by rfl) ?_ | refine n_loc (by assumption) 5 (by rfl) (by rfl) ?_ | refine n_loc (by assumption) 6 (by rfl) (by rfl) ?_ | refine n_loc (by assumption) 7 (by rfl) (by rfl) ?_ | refine n_loc (by assumption) 8 (by rfl) (by rfl) ?_ | refine n_loc (by assumption) 9 (by rfl) (by rfl) ?_ | refine n_loc (by assumption) 10 (by rfl) (by rfl) ?_ | refine n_loc (by assumption) 11 (by rfl) (by rfl) ?_ | refine n_loc (by assumption) 12 (by rfl) (by rfl) ?_ | refine n_loc (by assumption) 13 (by rfl) (by rfl) ?_ | refine n_loc (by assumption) 14 (by rfl) (by rfl) ?_ | refine n_loc (by assumption) 15 (by rfl) (by rfl) ?_)
local macro_rules | `(tactic| walk_at "nu") => `(tactic| first
  | refine u_loc (by assumption) 0 (by rfl) (by assumption) ?_ | refine u_loc (by assumption) 1 (by rfl) (by assumption) ?_ | refine u_loc (by assumption) 2 (by rfl) (by assumption) ?_ | refine u_loc (by assumption) 3 (by rfl) (by assumption) ?_ | refine u_loc (by assumption) 4 (by rfl) (by assumption) ?_ | refine u_loc (by assumption) 5 (by rfl) (by assumption) ?_ | refine u_loc (by assumption) 6 (by rfl) (by assumption) ?_ | refine u_loc (by assumption) 7 (by rfl) (by assumption) ?_ | refine u_loc (by assumption) 8 (by rfl) (by assumption) ?_ | refine u_loc (by assumption) 9 (by rfl) (by assumption) ?_ | refine u_loc (by assumption) 10 (by rfl) (by assumption) ?_ | refine u_loc (by assumption) 11 (by rfl) (by assumption) ?_ | refine u_loc (by assumption) 12 (by rfl) (by assumption) ?_ | refine u_loc (by assumption) 13 (by rfl) (by assumption) ?_ | refine u_loc (by assumption) 14 (by rfl) (by assumption) ?_ | refine u_loc (by assumption) 15 (by rfl) (by assumption) ?_)

/-! a word is read back -/
noncomputable def okW : List Nat → Bool
  | [a] => decide (a ∈ [97, 98, 99, 100, 101, 102])
  | [a, s] => decide (a ∈ [97, 98, 99, 100, 101, 102]) && decide (s ∈ [32, 34, 92, 10, 35])
  | _ => false
theorem letter {a : Nat} (h : a ∈ [97, 98, 99, 100, 101, 102]) : isWs a = false ∧ ([a] == [34]) = false ∧ ([a] == [92]) = false ∧ a ≠ 34 ∧ a ≠ 92 := by
  simp only [List.mem_cons, List.not_mem_nil, or_false] at h
  rcases h with rfl | rfl | rfl | rfl | rfl | rfl <;> decide
theorem lex_word {w : List Nat} (hw : okW w = true) {m : Int} (hm : m = 0 ∨ m = 1 ∨ m = 2) {sp : Nat} (hs : isWs sp = true) (t : List Nat) :
    ∃ fin, lexM (encW w m ++ [sp] ++ t) = some (w, fin) ∧ lexM fin = lexM t ∧ fin.all isWs = t.all isWs := by
  have hsp : lexM (sp :: t) = lexM t := by rw [lexM, if_pos hs]
  have hal : (sp :: t).all isWs = t.all isWs := by rw [List.all_cons, hs]; rfl
  unfold okW at hw
  split at hw
  · rename_i a
    obtain ⟨h1, h2, h3, h4, h5⟩ := letter (of_decide_eq_true hw)
    rcases hm with rfl | rfl | rfl
    · refine ⟨sp :: t, ?_, hsp, hal⟩
      simp [encW, escQ, catL, lexM, lexQ, isWs, h4, h5]
    · refine ⟨t, ?_, rfl, rfl⟩
      have e : isWs 92 = false := by decide
      simp [encW, escA, catL, lexM, lexB, hs, e]
    · refine ⟨t, ?_, rfl, rfl⟩
      simp [encW, escA, catL, lexM, lexB, hs, h1, h4, h5]
  · rename_i a s
    simp only [Bool.and_eq_true] at hw
    obtain ⟨h1, h2, h3, h4, h5⟩ := letter (of_decide_eq_true hw.1)
    have hs2 := of_decide_eq_true hw.2
    simp only [List.mem_cons, List.not_mem_nil, or_false] at hs2
    rcases hm with rfl | rfl | rfl
    · refine ⟨sp :: t, ?_, hsp, hal⟩
      rcases hs2 with rfl | rfl | rfl | rfl | rfl <;> simp [encW, escQ, catL, lexM, lexQ, isWs, h4, h5]
    · refine ⟨t, ?_, rfl, rfl⟩
      have e : isWs 92 = false := by decide
      rcases hs2 with rfl | rfl | rfl | rfl | rfl <;> simp [encW, escA, catL, lexM, lexB, hs, e]
    · refine ⟨t, ?_, rfl, rfl⟩
      have e : isWs 92 = false := by decide
      rcases hs2 with rfl | rfl | rfl | rfl | rfl <;> simp [encW, escA, catL, lexM, lexB, hs, h1, h4, h5, e]
  · cases hw
theorem sep_ws (k : Nat) : isWs (sepOf k) = true := by
  unfold sepOf
  have : k % 4 < 4 := Nat.mod_lt _ (by decide)
  generalize k % 4 = j at this
  revert j
  decide

/-! the order in which the words come out -/
noncomputable def loP (size : Nat) : List Nat → Nat → List Nat → Nat → Option (List Nat)
  | [], r, q, _ => if q = [] ∧ r = size then some [] else none
  | d :: ds, r, q, ah => if ([d] == [40]) = true then (if r < size then loP size ds (r + 1) (if ah = 40 then q ++ [r - 1] else q) 40 else none)
    else if ah = 40 then (loP size ds r q 41).map fun l => (r - 1) :: l
    else match q with
      | i :: q' => (loP size ds r q' 41).map fun l => i :: l
      | [] => none

noncomputable def core {b : Bs} (N : Net b) (q : Str) (cc : Addr) (k : LexA) (text rest : List Nat) (push : List AV) : Led :=
  [(k.c, .cell (.ref k.I)), (k.I, aoStrIt text (text.length - rest.length)), (k.x, aoInst N.C k.dx), (k.dx, aoDict (lexFs (1 + (cntN 10 text : Nat) - (cntN 10 rest : Nat)) (.ref k.st) k.pb)), (k.pb, .list push), (k.st, aoInst N.C k.dst), (k.dst, aoDict (lexFsR k.pb2 k.g)),
   (k.g, aoLam q lamParams lamBody lamScope [("signs", k.c)] cc)]
theorem perm1 {α : Type} (X Y H : List α) (c : α) : (X ++ (Y ++ c :: H)).Perm ((Y ++ H) ++ (X ++ [c])) := by
  have h1 : (Y ++ c :: H).Perm ((Y ++ H) ++ [c]) := List.perm_middle.trans (List.perm_append_comm (l₁ := [c]) (l₂ := Y ++ H))
  have h2 : (X ++ (Y ++ c :: H)).Perm (X ++ ((Y ++ H) ++ [c])) := h1.append_left X
  have h3 : ((X ++ (Y ++ H)) ++ [c]).Perm (((Y ++ H) ++ X) ++ [c]) := (List.perm_append_comm (l₁ := X) (l₂ := Y ++ H)).append_right [c]
  rw [List.append_assoc, List.append_assoc (Y ++ H)] at h3
  exact h2.trans h3

section
variable {b : Bs} {A : Around} {f : Fm} {vs : Vs} {H : Led}
theorem h_push' (N : Net b) {n : Nat} (R : Room A (n + 1)) {x dx pb : Addr} {fs : List (Str × AV)} {ts : List AV} {t : AV} {H' : Led} (mx : (x, aoInst N.C dx) ∈ H) (md : (dx, aoDict fs) ∈ H) (u : LUpd pb (.list ts) (.list (ts ++ [t])) H H')
    (hfs : fs.lookup (Str.ofString "pushback") = some (.ref pb)) (hz : ts.length ≤ 2 ^ 24) {ws : List Value} (hw : Is2 [.ref x, t] ws) {Q : AV → Led → Prop} (h : Q .none H') :
    ahC b A H (.call (.ref N.fP) ⟨ws, []⟩) Q := by
  refine h_code (ns := [("self", .local), ("token", .local)]) N.isP R hw ["self", "token"] (by rfl) (by rfl) (by rfl) (by decide) (fun fd ws hw => ?_) (fun f A' hn ho hc hR => ?_)
  · obtain ⟨_, _, rfl, _, _⟩ := Is2.inv2 hw
    rfl
  · show awF _ _ _ [some (.ref x), some t] _ _ _
    refine x_cons ?_
    refine x_expr ?_
    refine e_meth PySem.F.plainAttrs_list PySem.F.slot_list_append PySem.F.type_list_append ?_
    refine e_attr ?_
    walk_at "nm"
    intro v hv
    refine aw_of_ah (h_getOwn N.X mx md N.nB hfs (fun w q => by cases q) ?_ v hv)
    refine ⟨⟨rfl, ts, u.mem⟩, ?_⟩
    refine l_cons ?_
    walk_at "nm"
    refine l_nil ?_
    intro v ws hv hw
    refine k_append u hz ?_ v ws hv hw
    refine x_nil ?_
    exact h
theorem h_token_line' (N : Net b) {n : Nat} (R : Room A (n + 1)) {x dx pb : Addr} {fs : List (Str × AV)} {t : AV} {ts : List AV} {H' : Led} (mx : (x, aoInst N.C dx) ∈ H) (md : (dx, aoDict fs) ∈ H) (u : LUpd pb (.list (t :: ts)) (.list ts) H H')
    (hfs : fs.lookup (Str.ofString "pushback") = some (.ref pb)) (hz : ts.length < 2 ^ 24) {ws : List Value} (hw : Is2 [.ref x] ws) {Q : AV → Led → Prop} (h : Q t H') :
    ahC b A H (.call (.ref N.fG) ⟨ws, []⟩) Q := by
  refine h_code (ns := [("self", .local), ("token", .local), ("fiter", .local), ("ch", .local), ("iter", .globalImplicit)]) N.isG R hw ["self"] (by rfl) (by rfl) (by rfl) (by decide) (fun fd ws hw => ?_) (fun f A' hn ho hc hR => ?_)
  · obtain ⟨_, rfl, _⟩ := Is2.inv1 hw
    rfl
  · show awF _ _ _ [some (.ref x), none, none, none, none] _ _ _
    refine x_cons ?_
    refine x_if ?_
    refine t_list ?_
    refine e_attr ?_
    walk_at "nm"
    intro v hv
    refine aw_of_ah (h_getOwn N.X mx md N.nB hfs (fun w q => by cases q) ?_ v hv)
    refine ⟨pb, _, rfl, u.mem, by simp only [List.length_cons]; omega, ?_⟩
    refine ⟨fun _ => ?_, fun q => absurd q (by simp)⟩
    refine x_cons ?_
    refine x_ret ?_
    refine e_meth PySem.F.plainAttrs_list PySem.F.slot_list_pop PySem.F.type_list_pop ?_
    refine e_attr ?_
    walk_at "nm"
    intro v hv
    refine aw_of_ah (h_getOwn N.X mx md N.nB hfs (fun w q => by cases q) ?_ v hv)
    refine ⟨⟨rfl, _, u.mem⟩, ?_⟩
    refine l_cons ?_
    refine e_int ?_
    refine l_nil ?_
    intro v ws hv hw
    refine k_pop0 u hz ?_ v ws hv hw
    exact h
theorem LUpd.skip {a : Addr} {o o' : AO} {H H' : Led} (h : LUpd a o o' H H') : ∀ X : Led, LUpd a o o' (X ++ H) (X ++ H')
  | [] => h
  | _ :: X => .tail (h.skip X)
end

end Mine

namespace Mine
local macro_rules | `(tactic| walk_at "nm") => `(tactic| first
  | refine e_loc (by assumption) 0 (by rfl) (by rfl) ?_ | refine e_loc (by assumption) 1 (by rfl) (by rfl) ?_ | refine e_loc (by assumption) 2 (by rfl) (by rfl) ?_ | refine e_loc (by assumption) 3 (by rfl) (by rfl) ?_ | refine e_loc (by assumption) 4 (by rfl) (by rfl) ?_ | refine e_loc (by assumption) 5 (by rfl) (by rfl) ?_ | refine e_loc (by assumption) 6 (by rfl) (by rfl) ?_ | refine e_loc (by assumption) 7 (by rfl) (by rfl) ?_ | refine e_loc (by assumption) 8 (by rfl) (by rfl) ?_ | refine e_loc (by assumption) 9 (by rfl) (by rfl) ?_ | refine e_loc (by assumption) 10 (by rfl) (by rfl) ?_ | refine e_loc (by assumption) 11 (by rfl) (by rfl) ?_ | refine e_loc (by assumption) 12 (by rfl) (by rfl) ?_ | refine e_loc (by assumption) 13 (by rfl) (by rfl) ?_ | refine e_loc (by assumption) 14 (by rfl) (by rfl) ?_ | refine e_loc (by assumption) 15 (by rfl) (by rfl) ?_)
local macro_rules | `(tactic| walk_at "nc") => `(tactic| first
  | refine e_cell (by assumption) 0 (by rfl) (by rfl) ?_ | refine e_cell (by assumption) 1 (by rfl) (by rfl) ?_ | refine e_cell (by assumption) 2 (by rfl) (by rfl) ?_ | refine e_cell (by assumption) 3 (by rfl) (by rfl) ?_ | refine e_cell (by assumption) 4 (by rfl) (by rfl) ?_ | refine e_cell (by assumption) 5 (by rfl) (by rfl) ?_ | refine e_cell (by assumption) 6 (by rfl) (by rfl) ?_ | refine e_cell (by assumption) 7 (by rfl) (by rfl) ?_)
local macro_rules | `(tactic| walk_at "nf") => `(tactic| first
  | refine e_free (by assumption) 0 (by rfl) (by rfl) ?_ | refine e_free (by assumption) 1 (by rfl) (by rfl) ?_ | refine e_free (by assumption) 2 (by rfl) (by rfl) ?_ | refine e_free (by assumption) 3 (by rfl) (by rfl) ?_ | refine e_free (by assumption) 4 (by rfl) (by rfl) ?_ | refine e_free (by assumption) 5 (by rfl) (by rfl) ?_ | refine e_free (by assumption) 6 (by rfl) (by rfl) ?_ | refine e_free (by assumption) 7 (by rfl) (by rfl) ?_)
local macro_rules | `(tactic| walk_at "nl") => `(tactic| first
  | refine n_loc (by assumption) 0 (by rfl) (by rfl) ?_ | refine n_loc (by assumption) 1 (by rfl) (by rfl) ?_ | refine n_loc (by assumption) 2 (by rfl) (by rfl) ?_ | refine n_loc (by assumption) 3 (by rfl) (by rfl) ?_ | refine n_loc (by assumption) 4 (by rfl) (by rfl) ?_ | refine n_loc (by assumption) 5 (by rfl) (by rfl) ?_ | refine n_loc (by assumption) 6 (by rfl) (by rfl) ?_ | refine n_loc (by assumption) 7 (by rfl) (by rfl) ?_ | refine n_loc (by assumption) 8 (by rfl) (by rfl) ?_ | refine n_loc (by assumption) 9 (by rfl) (by rfl) ?_ | refine n_loc (by assumption) 10 (by rfl) (by rfl) ?_ | refine n_loc (by assumption) 11 (by rfl) (by rfl) ?_ | refine n_loc (by assumption) 12 (by rfl) (by rfl) ?_ | refine n_loc (by assumption) 13 (by rfl) (by rfl) ?_ | refine n_loc (by assumption) 14 (by rfl) (by rfl) ?_ | refine n_loc (by assumption) 15 (by rfl) (by rfl) ?_)
local macro_rules | `(tactic| walk_at "as") => `(tactic| first
  | refine x_asgL (by assumption) 0 (by rfl) ?_ | refine x_asgL (by assumption) 1 (by rfl) ?_ | refine x_asgL (by assumption) 2 (by rfl) ?_ | refine x_asgL (by assumption) 3 (by rfl) ?_ | refine x_asgL (by assumption) 4 (by rfl) ?_ | refine x_asgL (by assumption) 5 (by rfl) ?_ | refine x_asgL (by assumption) 6 (by rfl) ?_ | refine x_asgL (by assumption) 7 (by rfl) ?_ | refine x_asgL (by assumption) 8 (by rfl) ?_ | refine x_asgL (by assumption) 9 (by rfl) ?_ | refine x_asgL (by assumption) 10 (by rfl) ?_ | refine x_asgL (by assumption) 11 (by rfl) ?_ | refine x_asgL (by assumption) 12 (by rfl) ?_ | refine x_asgL (by assumption) 13 (by rfl) ?_ | refine x_asgL (by assumption) 14 (by rfl) ?_ | refine x_asgL (by assumption) 15 (by rfl) ?_)
local macro_rules | `(tactic| walk_at "au") => `(tactic| first
  | refine x_augL (by assumption) 0 (by rfl) ?_ | refine x_augL (by assumption) 1 (by rfl) ?_ | refine x_augL (by assumption) 2 (by rfl) ?_ | refine x_augL (by assumption) 3 (by rfl) ?_ | refine x_augL (by assumption) 4 (by rfl) ?_ | refine x_augL (by assumption) 5 (by rfl) ?_ | refine x_augL (by assumption) 6 (by rfl) ?_ | refine x_augL (by assumption) 7 (by rfl) ?_ | refine x_augL (by assumption) 8 (by rfl) ?_ | refine x_augL (by assumption) 9 (by rfl) ?_ | refine x_augL (by assumption) 10 (by rfl) ?_ | refine x_augL (by assumption) 11 (by rfl) ?_ | refine x_augL (by assumption) 12 (by rfl) ?_ | refine x_augL (by assumption) 13 (by rfl) ?_ | refine x_augL (by assumption) 14 (by rfl) ?_ | refine x_augL (by assumption) 15 (by rfl) ?_)
local macro_rules | `(tactic| walk_at "nu") => `(tactic| first
  | refine u_loc (by assumption) 0 (by rfl) (by assumption) ?_ | refine u_loc (by assumption) 1 (by rfl) (by assumption) ?_ | refine u_loc (by assumption) 2 (by rfl) (by assumption) ?_ | refine u_loc (by assumption) 3 (by rfl) (by assumption) ?_ | refine u_loc (by assumption) 4 (by rfl) (by assumption) ?_ | refine u_loc (by assumption) 5 (by rfl) (by assumption) ?_ | refine u_loc (by assumption) 6 (by rfl) (by assumption) ?_ | refine u_loc (by assumption) 7 (by rfl) (by assumption) ?_ | refine u_loc (by assumption) 8 (by rfl) (by assumption) ?_ | refine u_loc (by assumption) 9 (by rfl) (by assumption) ?_ | refine u_loc (by assumption) 10 (by rfl) (by assumption) ?_ | refine u_loc (by assumption) 11 (by rfl) (by assumption) ?_ | refine u_loc (by assumption) 12 (by rfl) (by assumption) ?_ | refine u_loc (by assumption) 13 (by rfl) (by assumption) ?_ | refine u_loc (by assumption) 14 (by rfl) (by assumption) ?_ | refine u_loc (by assumption) 15 (by rfl) (by assumption) ?_)

section
variable {b : Bs} {A : Around} {H : Led}
theorem text_suffix : ∀ (words : List (List Nat)) (ms : List Int) (k : Nat) (r : Nat), r ≤ words.length → words.length = ms.length → textP (k + r) (words.drop r) (ms.drop r) <:+ textP k words ms
  | _, _, k, 0, _, _ => List.suffix_refl _
  | [], _, k, r + 1, h, _ => by simp at h
  | w :: ws, [], k, r + 1, _, h => by simp at h
  | w :: ws, m :: ms, k, r + 1, h, hl => by
    have ih := text_suffix ws ms (k + 1) r (by simpa using h) (by simpa using hl)
    rw [show k + (r + 1) = k + 1 + r by omega]
    exact ih.trans ((List.suffix_append _ _))
theorem loP_cons (size d : Nat) (ds : List Nat) (r : Nat) (q : List Nat) (ah : Nat) : loP size (d :: ds) r q ah = if ([d] == [40]) = true then (if r < size then loP size ds (r + 1) (if ah = 40 then q ++ [r - 1] else q) 40 else none)
    else if ah = 40 then (loP size ds r q 41).map fun l => (r - 1) :: l
    else match q with
      | i :: q' => (loP size ds r q' 41).map fun l => i :: l
      | [] => none := by cases q <;> rfl

/-- what holds of the reader when r words have been read -/
structure RdOk (words : List (List Nat)) (ms : List Int) (text : List Nat) (r : Nat) (rest : List Nat) : Prop where
  suf : rest <:+ text
  lex : lexM rest = lexM (textP r (words.drop r) (ms.drop r))
  ws : rest.all isWs = (textP r (words.drop r) (ms.drop r)).all isWs
theorem RdOk.next {words : List (List Nat)} {ms : List Int} {text rest : List Nat} {r : Nat} (X : RdOk words ms text r rest) (hr : r < words.length) (hl : words.length = ms.length) (hw : ∀ w ∈ words, okW w = true) (hm : ∀ m ∈ ms, m = 0 ∨ m = 1 ∨ m = 2) :
    ∃ fin, lexM rest = some (words.getD r [], fin) ∧ (fin <:+ text → RdOk words ms text (r + 1) fin) := by
  have hr2 : r < ms.length := by omega
  have e : textP r (words.drop r) (ms.drop r) = encW words[r] ms[r] ++ [sepOf r] ++ textP (r + 1) (words.drop (r + 1)) (ms.drop (r + 1)) := by
    rw [List.drop_eq_getElem_cons hr, List.drop_eq_getElem_cons hr2, textP]
  obtain ⟨fin, h1, h2, h3⟩ := lex_word (hw _ (List.getElem_mem hr)) (hm _ (List.getElem_mem hr2)) (sep_ws r) (textP (r + 1) (words.drop (r + 1)) (ms.drop (r + 1)))
  refine ⟨fin, ?_, fun hs => ⟨hs, h2, h3⟩⟩
  rw [X.lex, e, h1]
  simp [hr]

set_option maxHeartbeats 4000000 in
theorem h_letout (N : Net b) (B : Blt b) {a : Addr} (F : FnIs b a (stAt 15)) {n : Nat} (R : Room A (n + 5)) {q : Str} {cc : Addr} {k1 k2 : LexA} {words : List (List Nat)} {ms : List Int} {text : List Nat} (ht : text = textP 0 words ms) (hlen : text.length ≤ 1000)
    (hl : words.length = ms.length) (hz : words.length ≤ 6) (hw : ∀ w ∈ words, okW w = true) (hm : ∀ m ∈ ms, m = 0 ∨ m = 1 ∨ m = 2) {deeds : List Nat} (h8 : deeds.all (· < 128) = true) (hdl : deeds.length ≤ 12) {out : List Nat} (hout : loP words.length deeds 0 [] 0 = some out) {vals : List Value} (hv : Is2 [.str deeds, .ref k1.x, .ref k2.x] vals) {Q : AV → Led → Prop}
    (h : ∀ ra rest, RdOk words ms text words.length rest → Q (.ref ra) ((ra, .list (out.map fun i => AV.str (words.getD i []))) :: (core N q cc k1 text rest [] ++ (core N q cc k2 [] [] [] ++ (cc, aoCode q) :: H)))) :
    ahC b A (core N q cc k1 text text [] ++ (core N q cc k2 [] [] [] ++ (cc, aoCode q) :: H)) (.call (.ref a) ⟨vals, []⟩) Q := by
  refine h_code (ns := [("deeds", .local), ("reader", .local), ("line", .local), ("row", .local), ("word", .local), ("ahead", .local), ("deed", .local)]) F R hv ["deeds", "reader", "line"] (by rfl) (by rfl) (by rfl) (by decide) (fun fd ws hw => ?_) (fun f A' hn ho hc hR => ?_)
  · obtain ⟨_, _, _, rfl, _, _, _⟩ := Is2.inv3 hw
    rfl
  · show awF _ _ _ [some (.str deeds), some (.ref k1.x), some (.ref k2.x), none, none, none, none] _ _ _
    refine x_cons ?_
    walk_at "as"
    refine e_list ?_
    refine l_nil ?_
    refine ⟨Nat.zero_le _, fun ra => ?_⟩
    refine x_cons ?_
    walk_at "as"
    refine e_str (l := []) (by rfl) ?_
    refine x_cons ?_
    walk_at "as"
    refine e_str (l := []) (by rfl) ?_
    refine x_cons ?_
    refine x_for ?_
    walk_at "nm"
    refine ⟨_, _, hasIter_str hR.handled h8, ?_⟩
    unfold signs
    refine AFor.of (fun c : Nat => AV.str [c]) (fun ds vs H1 => ∃ r qs ah word rest done ahd w, vs = [some (.str deeds), some (.ref k1.x), some (.ref k2.x), some (.ref ra), some (.str word), some (.str ahd), w]
        ∧ H1 = (ra, .list (done.map fun i => AV.str (words.getD i []))) :: (core N q cc k1 text rest [] ++ (core N q cc k2 [] [] (qs.map fun i => AV.str (words.getD i [])) ++ (cc, aoCode q) :: H))
        ∧ (∃ o, loP words.length ds r qs ah = some o ∧ done ++ o = out) ∧ RdOk words ms text r rest ∧ ((ah = 40 ∧ ahd = [40] ∧ word = words.getD (r - 1) []) ∨ (ah ≠ 40 ∧ ahd ≠ [40])) ∧ qs.length + ds.length ≤ 12 ∧ done.length + ds.length ≤ 12) (fun _ _ _ _ => trivial) ?_ ?_ _ _ _
        ⟨0, [], 0, [], text, [], [], none, rfl, rfl, ⟨out, hout, rfl⟩, ⟨List.suffix_refl _, by rw [ht]; rfl, by rw [ht]; rfl⟩, .inr ⟨by decide, by decide⟩, by simpa using hdl, by simpa using hdl⟩
    · rintro vs H1 ⟨r, qs, ah, word, rest, done, ahd, w, rfl, rfl, ⟨o, ho1, ho2⟩, X, _, _, _⟩
      unfold loP at ho1
      split at ho1
      · rename_i hq
        obtain ⟨rfl, rfl⟩ := hq
        cases ho1
        rw [List.append_nil] at ho2
        subst ho2
        refine x_cons ?_
        refine x_ret ?_
        walk_at "nm"
        exact h ra rest X
      · cases ho1
    · rintro d ds vs H1 ⟨r, qs, ah, word, rest, done, ahd, w, rfl, rfl, ⟨o, ho1, ho2⟩, X, hah, hql, hdn⟩ v hv
      simp only [List.length_cons] at hql hdn
      refine u_name ?_
      walk_at "nu"
      refine x_cons ?_
      refine aw_mono (Q := fun fl vs H1 => fl = .next ∧ ∃ r qs ah word rest done, vs = [some (.str deeds), some (.ref k1.x), some (.ref k2.x), some (.ref ra), some (.str word), some (.str ahd), some (.str [d])]
        ∧ H1 = (ra, .list (done.map fun i => AV.str (words.getD i []))) :: (core N q cc k1 text rest [] ++ (core N q cc k2 [] [] (qs.map fun i => AV.str (words.getD i [])) ++ (cc, aoCode q) :: H))
        ∧ (∃ o, loP words.length ds r qs ah = some o ∧ done ++ o = out) ∧ RdOk words ms text r rest ∧ ((ah = 40 ∧ [d] = [40] ∧ word = words.getD (r - 1) []) ∨ (ah ≠ 40 ∧ [d] ≠ [40])) ∧ qs.length + ds.length ≤ 12 ∧ done.length + ds.length ≤ 12) ?_ ?_
      · refine x_if ?_
        refine t_cmp (by rfl) ?_
        walk_at "nm"
        refine e_str (l := [40]) (by rfl) ?_
        refine c_eqs ?_
        refine ⟨_, rfl, fun hd => ?_, fun hd => ?_⟩
        · rw [loP_cons, if_pos hd] at ho1
          have hd' : [d] = [40] := by simpa using hd
          split at ho1
          · rename_i hr
            obtain ⟨fin, hlex, hnext⟩ := X.next hr hl hw hm
            refine x_cons ?_
            refine aw_mono (Q := fun fl vs H1 => fl = .next ∧ vs = [some (.str deeds), some (.ref k1.x), some (.ref k2.x), some (.ref ra), some (.str word), some (.str ahd), some (.str [d])]
              ∧ H1 = (ra, .list (done.map fun i => AV.str (words.getD i []))) :: (core N q cc k1 text rest [] ++ (core N q cc k2 [] [] ((if ah = 40 then qs ++ [r - 1] else qs).map fun i => AV.str (words.getD i [])) ++ (cc, aoCode q) :: H))) ?_ ?_
            · refine x_if ?_
              refine t_cmp (by rfl) ?_
              walk_at "nm"
              refine e_str (l := [40]) (by rfl) ?_
              refine c_eqs ?_
              refine ⟨_, rfl, fun ha => ?_, fun ha => ?_⟩
              · have ha' : ahd = [40] := by simpa using ha
                rcases hah with ⟨e1, e2, e3⟩ | ⟨e1, e2⟩
                · rw [if_pos e1]
                  refine x_cons ?_
                  refine x_expr ?_
                  refine e_methI ?_
                  walk_at "nm"
                  refine m_cls N.X (x := k2.x) (dx := k2.dx) (.tail _ (List.mem_append_right _ (.tail _ (.tail _ (.head _))))) (.tail _ (List.mem_append_right _ (.tail _ (.tail _ (.tail _ (.head _)))))) N.mP (by rfl) ?_
                  refine k_callF (kept_old N.isP.keep rfl) ?_
                  refine l_cons ?_
                  walk_at "nm"
                  refine l_nil ?_
                  refine ⟨fun P G s S a o e => S.old e, fun ws hw => ?_⟩
                  refine aw_of_ah (ahC.toE (h_push' N (hR.weaken (by omega) : Room A' (n + 1)) (x := k2.x) (dx := k2.dx) (pb := k2.pb) (.tail _ (List.mem_append_right _ (.tail _ (.tail _ (.head _))))) (.tail _ (List.mem_append_right _ (.tail _ (.tail _ (.tail _ (.head _))))))
                    (.tail (LUpd.skip (.tail (.tail (.tail (.tail .head)))) _)) (by rfl) (by simp; omega) (ws := .ref k2.x :: ws) ⟨rfl, hw⟩ ?_))
                  refine x_nil ?_
                  refine ⟨rfl, rfl, ?_⟩
                  rw [e3, List.map_append]
                  rfl
                · exact absurd ha' e2
              · have ha' : ahd ≠ [40] := by simpa using ha
                rcases hah with ⟨e1, e2, e3⟩ | ⟨e1, e2⟩
                · exact absurd e2 ha'
                · rw [if_neg e1]
                  refine x_nil ?_
                  exact ⟨rfl, rfl, rfl⟩
            · rintro fl vs H1 ⟨rfl, rfl, rfl⟩
              refine x_cons ?_
              refine x_asg ?_
              refine e_methI ?_
              walk_at "nm"
              refine m_cls N.X (x := k1.x) (dx := k1.dx) (.tail _ (List.mem_append_left _ (.tail _ (.tail _ (.head _))))) (.tail _ (List.mem_append_left _ (.tail _ (.tail _ (.tail _ (.head _)))))) N.mG (by rfl) ?_
              refine k_callF0 (kept_old N.isG.keep rfl) (fun P G s S a o e => S.old e) ?_
              refine aw_perm ((perm1 (core N q cc k1 text rest []) _ H (cc, aoCode q)).cons _) ?_
              refine aw_of_ah (ahC.toE ((ahC.frame (H0 := (ra, AO.list (done.map fun i => AV.str (words.getD i []))) :: (core N q cc k2 [] [] ((if ah = 40 then qs ++ [r - 1] else qs).map fun i => AV.str (words.getD i [])) ++ H)) (h_token N B hR (k := k1) (ws := [.ref k1.x]) ⟨rfl, trivial⟩ X.suf (fun tok fin' e hf => ?_) (fun e => ?_) hlen))))
              · rw [hlex] at e
                cases e
                intro v hv
                refine aw_perm (((perm1 (core N q cc k1 text fin []) _ H (cc, aoCode q)).symm).cons (ra, AO.list (done.map fun i => AV.str (words.getD i [])))) ?_
                walk_at "nu"
                refine x_nil ?_
                refine ⟨rfl, r + 1, _, 40, _, fin, done, rfl, rfl, ⟨o, ho1, ho2⟩, hnext hf, .inl ⟨rfl, hd', rfl⟩, ?_, by omega⟩
                split
                · simp; omega
                · omega
              · rw [hlex] at e; cases e
          · cases ho1
        · have hd' : [d] ≠ [40] := by simpa using hd
          rw [loP_cons, if_neg (by rw [hd]; decide)] at ho1
          refine x_cons ?_
          refine x_if ?_
          refine t_cmp (by rfl) ?_
          walk_at "nm"
          refine e_str (l := [40]) (by rfl) ?_
          refine c_eqs ?_
          refine ⟨_, rfl, fun ha => ?_, fun ha => ?_⟩
          · have ha' : ahd = [40] := by simpa using ha
            rcases hah with ⟨e1, e2, e3⟩ | ⟨e1, e2⟩
            · rw [if_pos e1] at ho1
              obtain ⟨o', ho', rfl⟩ := Option.map_eq_some_iff.mp ho1
              refine x_cons ?_
              refine x_expr ?_
              refine e_meth PySem.F.plainAttrs_list PySem.F.slot_list_append PySem.F.type_list_append ?_
              walk_at "nm"
              refine ⟨⟨rfl, _, .head _⟩, ?_⟩
              refine l_cons ?_
              walk_at "nm"
              refine l_nil ?_
              refine k_append .head (by simp; omega) ?_
              refine x_nil ?_
              refine x_nil ?_
              refine ⟨rfl, r, qs, 41, word, rest, done ++ [r - 1], rfl, ?_, ⟨o', ho', by rw [← ho2]; simp⟩, X, .inr ⟨by decide, hd'⟩, by omega, by simp; omega⟩
              rw [List.map_append, e3]
              rfl
            · exact absurd ha' e2
          · have ha' : ahd ≠ [40] := by simpa using ha
            rcases hah with ⟨e1, e2, e3⟩ | ⟨e1, e2⟩
            · exact absurd e2 ha'
            · rw [if_neg e1] at ho1
              cases qs with
              | nil => cases ho1
              | cons i q' =>
                obtain ⟨o', ho', rfl⟩ := Option.map_eq_some_iff.mp ho1
                simp only [List.length_cons] at hql
                refine x_cons ?_
                refine x_expr ?_
                refine e_meth PySem.F.plainAttrs_list PySem.F.slot_list_append PySem.F.type_list_append ?_
                walk_at "nm"
                refine ⟨⟨rfl, _, .head _⟩, ?_⟩
                refine l_cons ?_
                refine e_methI ?_
                walk_at "nm"
                refine m_cls N.X (x := k2.x) (dx := k2.dx) (.tail _ (List.mem_append_right _ (.tail _ (.tail _ (.head _))))) (.tail _ (List.mem_append_right _ (.tail _ (.tail _ (.tail _ (.head _)))))) N.mG (by rfl) ?_
                refine k_callF0 (kept_old N.isG.keep rfl) (fun P G s S a o e => S.old e) ?_
                refine aw_of_ah (ahC.toE (h_token_line' N (hR.weaken (by omega) : Room A' (n + 1)) (x := k2.x) (dx := k2.dx) (pb := k2.pb) (.tail _ (List.mem_append_right _ (.tail _ (.tail _ (.head _))))) (.tail _ (List.mem_append_right _ (.tail _ (.tail _ (.tail _ (.head _))))))
                  (.tail (LUpd.skip (.tail (.tail (.tail (.tail .head)))) _)) (by rfl) (by simp; omega) (ws := [.ref k2.x]) ⟨rfl, trivial⟩ ?_))
                refine l_nil ?_
                refine k_append .head (by simp; omega) ?_
                refine x_nil ?_
                refine x_nil ?_
                refine ⟨rfl, r, q', 41, word, rest, done ++ [i], rfl, ?_, ⟨o', ho', by rw [← ho2]; simp⟩, X, .inr ⟨by decide, hd'⟩, by omega, by simp; omega⟩
                rw [List.map_append]
                rfl
      · rintro fl vs H1 ⟨rfl, r, qs, ah, word, rest, done, rfl, rfl, h3, h4, h5, h6, h7⟩
        refine x_cons ?_
        walk_at "as"
        walk_at "nm"
        refine x_nil ?_
        exact ⟨r, qs, ah, word, rest, done, [d], some (.str [d]), rfl, rfl, h3, h4, h5, h6, h7⟩
end

end Mine

namespace Mine
local macro_rules | `(tactic| walk_at "nm") => `(tactic| first
  | refine e_loc (by assumption) 0 (by rfl) (by rfl) ?_ | refine e_loc (by assumption) 1 (by rfl) (by rfl) ?_ | refine e_loc (by assumption) 2 (by rfl) (by rfl) ?_ | refine e_loc (by assumption) 3 (by rfl) (by rfl) ?_ | refine e_loc (by assumption) 4 (by rfl) (by rfl) ?_ | refine e_loc (by assumption) 5 (by rfl) (by rfl) ?_ | refine e_loc (by assumption) 6 (by rfl) (by rfl) ?_ | refine e_loc (by assumption) 7 (by rfl) (by rfl) ?_ | refine e_loc (by assumption) 8 (by rfl) (by rfl) ?_ | refine e_loc (by assumption) 9 (by rfl) (by rfl) ?_ | refine e_loc (by assumption) 10 (by rfl) (by rfl) ?_ | refine e_loc (by assumption) 11 (by rfl) (by rfl) ?_ | refine e_loc (by assumption) 12 (by rfl) (by rfl) ?_ | refine e_loc (by assumption) 13 (by rfl) (by rfl) ?_ | refine e_loc (by assumption) 14 (by rfl) (by rfl) ?_ | refine e_loc (by assumption) 15 (by rfl) (by rfl) ?_)
local macro_rules | `(tactic| walk_at "nc") => `(tactic| first
  | refine e_cell (by assumption) 0 (by rfl) (by rfl) ?_ | refine e_cell (by assumption) 1 (by rfl) (by rfl) ?_ | refine e_cell (by assumption) 2 (by rfl) (by rfl) ?_ | refine e_cell (by assumption) 3 (by rfl) (by rfl) ?_ | refine e_cell (by assumption) 4 (by rfl) (by rfl) ?_ | refine e_cell (by assumption) 5 (by rfl) (by rfl) ?_ | refine e_cell (by assumption) 6 (by rfl) (by rfl) ?_ | refine e_cell (by assumption) 7 (by rfl) (by rfl) ?_)
local macro_rules | `(tactic| walk_at "nf") => `(tactic| first
  | refine e_free (by assumption) 0 (by rfl) (by rfl) ?_ | refine e_free (by assumption) 1 (by rfl) (by rfl) ?_ | refine e_free (by assumption) 2 (by rfl) (by rfl) ?_ | refine e_free (by assumption) 3 (by rfl) (by rfl) ?_ | refine e_free (by assumption) 4 (by rfl) (by rfl) ?_ | refine e_free (by assumption) 5 (by rfl) (by rfl) ?_ | refine e_free (by assumption) 6 (by rfl) (by rfl) ?_ | refine e_free (by assumption) 7 (by rfl) (by rfl) ?_)
local macro_rules | `(tactic| walk_at "nl") => `(tactic| first
  | refine n_loc (by assumption) 0 (by rfl) (by rfl) ?_ | refine n_loc (by assumption) 1 (by rfl) (by rfl) ?_ | refine n_loc (by assumption) 2 (by rfl) (by rfl) ?_ | refine n_loc (by assumption) 3 (by rfl) (by rfl) ?_ | refine n_loc (by assumption) 4 (by rfl) (by rfl) ?_ | refine n_loc (by assumption) 5 (by rfl) (by rfl) ?_ | refine n_loc (by assumption) 6 (by rfl) (by rfl) ?_ | refine n_loc (by assumption) 7 (by rfl) (by rfl) ?_ | refine n_loc (by assumption) 8 (by rfl) (by rfl) ?_ | refine n_loc (by assumption) 9 (by rfl) (by rfl) ?_ | refine n_loc (by assumption) 10 (by rfl) (by rfl) ?_ | refine n_loc (by assumption) 11 (by rfl) (by rfl) ?_ | refine n_loc (by assumption) 12 (by rfl) (by rfl) ?_ | refine n_loc (by assumption) 13 (by rfl) (by rfl) ?_ | refine n_loc (by assumption) 14 (by rfl) (by rfl) ?_ | refine n_loc (by assumption) 15 (by rfl) (by rfl) ?_)
local macro_rules | `(tactic| walk_at "nu") => `(tactic| first
  | refine u_loc (by assumption) 0 (by rfl) (by assumption) ?_ | refine u_loc (by assumption) 1 (by rfl) (by assumption) ?_ | refine u_loc (by assumption) 2 (by rfl) (by assumption) ?_ | refine u_loc (by assumption) 3 (by rfl) (by assumption) ?_ | refine u_loc (by assumption) 4 (by rfl) (by assumption) ?_ | refine u_loc (by assumption) 5 (by rfl) (by assumption) ?_ | refine u_loc (by assumption) 6 (by rfl) (by assumption) ?_ | refine u_loc (by assumption) 7 (by rfl) (by assumption) ?_ | refine u_loc (by assumption) 8 (by rfl) (by assumption) ?_ | refine u_loc (by assumption) 9 (by rfl) (by assumption) ?_ | refine u_loc (by assumption) 10 (by rfl) (by assumption) ?_ | refine u_loc (by assumption) 11 (by rfl) (by assumption) ?_ | refine u_loc (by assumption) 12 (by rfl) (by assumption) ?_ | refine u_loc (by assumption) 13 (by rfl) (by assumption) ?_ | refine u_loc (by assumption) 14 (by rfl) (by assumption) ?_ | refine u_loc (by assumption) 15 (by rfl) (by assumption) ?_)

section
variable {b : Bs} {A : Around} {H : Led}
theorem swaps_local {f : Fm} (hk : FmOk f) {ns : List (Str × NameKind)} (hn : f.env.scope.names = ns) (j : Nat) {y : Str} (e : ns[j]? = some (y, NameKind.local)) {elt : Expr} {gens : List Comprehension} {scope : Scope} {py pos : Pos} {line : Nat}
    (hl : (py.line == pos.line && !(scope.names.any fun (n, k) => n == y && (k == .local || k == .cell))) = true) : swapsWith (.ListComp elt gens scope pos) (some (.Name y py)) line f.env = pure true := by
  subst hn
  have h1 : f.env.blockKind = .function := by
    unfold Env.blockKind
    first | exact hk.kind | (rw [hk.kind]; rfl) | simp [hk.kind]
  show (pure (f.env.blockKind == .function && f.env.kindOf y == some .local && py.line == pos.line && !(scope.names.any fun (n, k) => n == y && (k == .local || k == .cell))) : Sem Bool) = _
  rw [h1, hk.kindOf e]
  simp only [Bool.and_eq_true] at hl
  simp only [beq_self_eq_true, Bool.true_and, hl.1, hl.2]
theorem x_compL {f : Fm} {vs : Vs} {ns : List (Str × NameKind)} {scope : Scope} {x y : Str} {px py pos spos : Pos} {iter elt : Expr} {ifs : List Expr} {Q : AF → Vs → Led → Prop} (hn : f.env.scope.names = ns)
    (j : Nat) (e : ns[j]? = some (y, NameKind.local)) (hl : (py.line == pos.line && !(scope.names.any fun (n, k) => n == y && (k == .local || k == .cell))) = true)
    (hcl : ∀ p ∈ scope.names, p.2 = .free → (f.env.cells.lookup p.1).isSome = true)
    (h : awE b A f vs H (eval iter f.env) fun xv vs1 H1 => ∃ J xs, HasIter b A xv H1 J xs ∧ J H1 ∧ xs.length ≤ 2 ^ 24 ∧ ∀ f2 : Fm, f2.env.scope.names = relabelN ns scope.names → ACmp b A f2 H1 x ifs elt xs (compVs ns vs1 scope.names) fun ys =>
      ∀ r, awU b A f vs1 ((r, AO.list ys) :: H1) (storeName f.env y (.ref r)) fun _ vs2 H2 => Q .next vs2 H2)
    (hkind : scope.kind = .function := by rfl) (hnd : (scope.names.map (·.1)).Nodup := by decide) (hcell : ∀ p ∈ scope.names, p.2 ≠ .cell := by decide) (hs : ∀ x, foldedSetIterable iter f.env x = pure x := by intro _; rfl) :
    awF b A f vs H (exec (.Assign [.Name y py] (.ListComp elt [⟨.Name x px, iter, ifs, 0⟩] scope pos) spos) f.env) Q := by
  exact fun P G s S => x_asg_comp hn (swaps_local S.fo hn j e hl) hcl h hkind hnd hcell hs P G s S
end


theorem ACmp.ofE {b : Bs} {A : Around} {f : Fm} {H : Led} {α : Type} {x : Str} {ifs : List Expr} {elt : Expr} (f' : α → AV) (g : α → Option AV) (VS : Vs → Prop) (l : List α) (zs : List AV) (hz : l.filterMap g = zs) {vs : Vs} {Q : List AV → Prop} (h0 : VS vs)
    (step : ∀ a ∈ l, ∀ vs, VS vs → ∀ v, (f' a).is v → awU b A f vs H (storeName f.env x v) fun _ vs1 H1 => H1 = H ∧ awTests b A f vs1 H ifs fun ok vs2 H2 =>
      (ok = true → awE b A f vs2 H2 (eval elt f.env) fun z vs3 H3 => g a = some z ∧ H.Sublist H3 ∧ VS vs3) ∧ (ok = false → g a = none ∧ H.Sublist H2 ∧ VS vs2))
    (hQ : Q zs) : ACmp b A f H x ifs elt (l.map f') vs Q := ACmp.of f' g VS l vs Q h0 step (hz ▸ hQ)
noncomputable def leftP (c : Int) (due : List Int) : List Int := (List.range (c + 1 - 1).toNat).filterMap fun (i : Nat) => if (!due.any (· == (1 + (i : Int) * 1))) = true then some (1 + (i : Int) * 1) else none
noncomputable def dueP (deeds : List Nat) : Nat → Nat → List Int → Option (List Int)
  | 0, _, due => some due
  | n + 1, k, due => if ([deeds.getD k 0] == [41]) = true then
      (if k = 0 ∨ (sliceS deeds none (some k) none).length > deeds.length then none else match leftP (cntN 40 (sliceS deeds none (some k) none)) due with
        | [] => none
        | a :: l => dueP deeds n (k + 1) (due ++ [if ([deeds.getD (k - 1) 0] == [40]) = true then (a :: l).getLastD 0 else a]))
    else dueP deeds n (k + 1) due
section
variable {b : Bs} {A : Around} {H : Led}
theorem any_int (due : List Int) (v : Int) : ((due.map AV.int).any fun y => aeq y (.int v)) = due.any (· == v) := by
  rw [List.any_map]; rfl
theorem getLast_at : ∀ (a : Int) (l : List Int), ((a :: l).map AV.int)[(-1 + (((a :: l).map AV.int).length : Int)).toNat]? = some (.int ((a :: l).getLastD 0)) := by
  intro a l
  have e : (-1 + (((a :: l).map AV.int).length : Int)).toNat = l.length := by simp; omega
  rw [e, List.getElem?_map]
  have : (a :: l)[l.length]? = some ((a :: l).getLastD 0) := by
    rw [List.getLastD_eq_getLast?, List.getLast?_eq_getElem?]
    simp
  rw [this]; rfl
theorem all_ints (l : List Int) : (l.map AV.int).all scal = true := by
  rw [List.all_map]; exact List.all_eq_true.mpr fun _ _ => rfl
set_option maxHeartbeats 4000000 in
theorem h_due (B : Blt b) {a : Addr} (F : FnIs b a (stAt 16)) {n : Nat} (R : Room A (n + 1)) {deeds : List Nat} (hz : deeds.length ≤ 12) {due : List Int} (hd : dueP deeds deeds.length 0 [] = some due) {ws : List Value} (hw : Is2 [.str deeds] ws) {Q : AV → Led → Prop}
    (h : ∀ r, Q (.ref r) ((r, .list (due.map AV.int)) :: H)) : ahC b A H (.call (.ref a) ⟨ws, []⟩) Q := by
  refine ahC.post_sub ?_
  refine h_code (ns := [("deeds", .local), ("due", .cell), ("k", .local), ("left", .local), ("range", .globalImplicit), ("len", .globalImplicit)]) F R hw ["deeds"] (by rfl) (by rfl) (by rfl) (by decide) (fun fd ws hw => ?_) (fun f A' hn ho hc hR => ?_)
  · obtain ⟨_, rfl, _⟩ := Is2.inv1 hw
    rfl
  · obtain ⟨c1, hcc⟩ : ∃ c1, f.env.cells = [(Str.ofString "due", c1)] := by
      have e : f.env.cells.map (·.1) = [Str.ofString "due"] := hc
      exact fst1 e
    show awF _ _ _ [some (.str deeds), none, none, none, none, none] _ _ _
    refine x_cons ?_
    refine x_asg ?_
    refine e_list ?_
    refine l_nil ?_
    refine ⟨Nat.zero_le _, fun da => ?_⟩
    intro v hv
    refine u_cell hn ho 1 (by rfl) c1 (by rw [hcc]; rfl) hv ?_
    refine x_cons ?_
    refine x_for ?_
    refine e_call ?_
    refine e_blt (av := .con (.type "range")) hn 4 (by rfl) B.range.1 B.range.2 (by rfl) ?_
    refine ⟨trivial, ?_⟩
    refine l_cons ?_
    refine e_call ?_
    refine e_blt (av := .con (.builtin "len")) hn 5 (by rfl) B.len.1 B.len.2 (by rfl) ?_
    refine ⟨trivial, ?_⟩
    refine l_cons ?_
    walk_at "nm"
    refine l_nil ?_
    refine k_len_str (by omega) ?_
    refine l_nil ?_
    refine k_range1 (fun rg => ?_)
    refine ⟨_, _, hasIter_range hR.handled (.head _) (by omega) (by omega) (by omega) (by omega), ?_⟩
    refine AFor.range (fun k vs H1 => ∃ dd w w2 X, vs = [some (.str deeds), some (.ref da), w, w2, none, none] ∧ H1 = X ++ (da, .list (dd.map AV.int)) :: H ∧ dueP deeds (deeds.length - k) k dd = some due ∧ dd.length ≤ k) ?_ ?_ ⟨[], none, none, [(rg, aoRange 0 deeds.length 1)], rfl, rfl, hd, Nat.zero_le _⟩
    · rintro vs H1 ⟨dd, w, w2, X, rfl, rfl, e, _⟩
      rw [Nat.sub_self] at e
      cases e
      refine x_cons ?_
      refine x_ret ?_
      walk_at "nc"
      exact ⟨_, List.sublist_append_right _ _, h da⟩
    · rintro k hk vs H1 ⟨dd, w, w2, X, rfl, rfl, e, hdl⟩ v hv
      obtain ⟨m, hm⟩ : ∃ m, deeds.length - k = m + 1 := ⟨deeds.length - k - 1, by omega⟩
      have em : m = deeds.length - (k + 1) := by omega
      rw [hm, dueP, em] at e
      have hck : deeds[(k : Int).toNat]? = some (deeds.getD k 0) := by rw [Int.toNat_natCast, List.getElem?_eq_getElem hk]; simp [hk]
      refine u_name ?_
      walk_at "nu"
      refine x_cons ?_
      refine x_if ?_
      refine t_cmp (by rfl) ?_
      refine e_sub ?_
      walk_at "nm"
      walk_at "nm"
      refine g_sign hck (by omega) (by omega) ?_
      refine e_str (l := [41]) (by rfl) ?_
      refine c_eqs ?_
      refine ⟨_, rfl, fun h1 => ?_, fun h1 => ?_⟩
      · rw [if_pos h1] at e
        split at e
        · cases e
        · rename_i hg
          have hk0 : k ≠ 0 := fun q => hg (.inl q)
          have hsl : (sliceS deeds none (some k) none).length ≤ deeds.length := Nat.le_of_not_lt fun q => hg (.inr q)
          refine x_cons ?_
          refine x_compL hn 3 (by rfl) (by rfl) (cl_ok hc (by decide)) ?_
          refine e_call ?_
          refine e_blt (av := .con (.type "range")) hn 4 (by rfl) B.range.1 B.range.2 (by rfl) ?_
          refine ⟨trivial, ?_⟩
          refine l_cons ?_
          refine e_int ?_
          refine l_cons ?_
          refine e_bin ?_
          refine e_meth PySem.F.plainAttrs_str PySem.F.slot_str_count PySem.F.type_str_count ?_
          refine e_slice_str ?_
          walk_at "nm"
          show awE _ _ _ _ _ _ _
          walk_at "nm"
          refine ⟨_, rfl, ?_⟩
          refine ⟨deeds, rfl, by omega, hsl, by simp, ?_⟩
          refine ⟨rfl, ?_⟩
          refine l_cons ?_
          refine e_str (l := [40]) (by rfl) ?_
          refine l_nil ?_
          refine k_count ?_
          refine e_int ?_
          refine b_add ?_
          refine l_nil ?_
          refine k_range2 (fun rg2 => ?_)
          have hcnt : cntN 40 (sliceS deeds none (some k) none) ≤ 12 := by
            unfold cntN
            exact Nat.le_trans (List.countP_le_length) (by omega)
          refine ⟨_, _, hasIter_range hR.handled (.head _) (by omega) (by omega) (by omega) (by omega), trivial, by rw [rangeL, rangeN_length]; omega, fun f2 hn2 => ?_⟩
          have hn3 : f2.env.scope.names = [(Str.ofString ".0", NameKind.local), (Str.ofString "v", NameKind.local), (Str.ofString "due", NameKind.cell)] := hn2
          unfold rangeL rangeN
          have el : List.filterMap (fun i : Nat => (if (!dd.any (· == (1 + (i : Int) * 1))) = true then some (1 + (i : Int) * 1) else none).map AV.int) (List.range ((cntN 40 (sliceS deeds none (some k) none) : Int) + 1 - 1).toNat) = (leftP (cntN 40 (sliceS deeds none (some k) none)) dd).map AV.int := by
            unfold leftP
            rw [List.map_filterMap]
          refine ACmp.ofE (fun i : Nat => AV.int (1 + (i : Int) * 1)) (fun i => (if (!dd.any (· == (1 + (i : Int) * 1))) = true then some (1 + (i : Int) * 1) else none).map AV.int) (fun vs => ∃ w, vs = [none, w, some (.ref da)]) _ _ el ⟨none, rfl⟩ ?_ ?_
          · rintro i hi vs ⟨w, rfl⟩ v hv
            walk_at "nu"
            refine ⟨rfl, ?_⟩
            show awB _ _ _ _ _ _ _
            refine t_cmp (by rfl) ?_
            walk_at "nm"
            walk_at "nc"
            refine c_notinl (.tail _ (List.mem_append_right _ (.head _))) (all_ints dd) rfl ?_
            rw [any_int]
            refine ⟨_, rfl, fun h2 => ?_, fun h2 => ?_⟩
            · walk_at "nm"
              rw [if_pos h2]
              exact ⟨rfl, List.Sublist.refl _, _, rfl⟩
            · rw [if_neg (by rw [h2]; decide)]
              exact ⟨rfl, List.Sublist.refl _, _, rfl⟩
          · intro lf
            refine u_loc hn 3 (by rfl) (av := .ref lf) rfl ?_
            split at e
            · cases e
            · rename_i a0 l0 el0
              rw [el0]
              refine x_cons ?_
              refine x_expr ?_
              refine e_meth PySem.F.plainAttrs_list PySem.F.slot_list_append PySem.F.type_list_append ?_
              walk_at "nc"
              refine ⟨⟨rfl, _, .tail _ (.tail _ (List.mem_append_right _ (.head _)))⟩, ?_⟩
              refine l_cons ?_
              refine aw_mono (Q := fun z vs1 H1 => z = .int (if ([deeds.getD (k - 1) 0] == [40]) = true then (a0 :: l0).getLastD 0 else a0) ∧ vs1 = [some (.str deeds), some (.ref da), some (.int k), some (.ref lf), none, none] ∧ H1 = (lf, .list ((a0 :: l0).map AV.int)) :: (rg2, aoRange 1 ((cntN 40 (sliceS deeds none (some k) none) : Int) + 1) 1) :: (X ++ (da, .list (dd.map AV.int)) :: H)) ?_ ?_
              · have hck1 : deeds[((k : Int) - 1).toNat]? = some (deeds.getD (k - 1) 0) := by
                  rw [show ((k : Int) - 1).toNat = k - 1 by omega, List.getElem?_eq_getElem (show k - 1 < deeds.length by omega)]
                  simp [show k - 1 < deeds.length by omega]
                refine e_if ?_
                refine t_cmp (by rfl) ?_
                refine e_sub ?_
                walk_at "nm"
                refine e_bin ?_
                walk_at "nm"
                refine e_int ?_
                refine b_sub ?_
                refine g_sign hck1 (by omega) (by omega) ?_
                refine e_str (l := [40]) (by rfl) ?_
                refine c_eqs ?_
                refine ⟨_, rfl, fun h3 => ?_, fun h3 => ?_⟩
                · refine e_sub ?_
                  walk_at "nm"
                  refine e_un ?_
                  refine e_int ?_
                  refine o_neg ?_
                  refine g_itemN (.head _) (getLast_at a0 l0) (by omega) (by simp; omega) (by omega) ?_
                  rw [if_pos h3]
                  exact ⟨rfl, rfl, rfl⟩
                · refine e_sub ?_
                  walk_at "nm"
                  refine e_int ?_
                  refine g_item (x := .int a0) (.head _) rfl (by omega) (by omega) ?_
                  rw [if_neg (by rw [h3]; decide)]
                  exact ⟨rfl, rfl, rfl⟩
              · rintro z vs1 H1 ⟨rfl, rfl, rfl⟩
                refine l_nil ?_
                refine k_append (.tail (.tail (LUpd.skip .head X))) (by simp; omega) ?_
                refine x_nil ?_
                refine x_nil ?_
                refine ⟨_, _, _, (lf, .list ((a0 :: l0).map AV.int)) :: (rg2, aoRange 1 ((cntN 40 (sliceS deeds none (some k) none) : Int) + 1) 1) :: X, rfl, ?_, e, by simp; omega⟩
                rw [List.map_append]
                rfl
      · rw [if_neg (by rw [h1]; decide)] at e
        refine x_nil ?_
        refine x_nil ?_
        exact ⟨dd, _, _, X, rfl, rfl, e, by omega⟩
end

end Mine

namespace Mine

/-- the names of a frame -/
structure NS (f : Fm) (ns : List (Str × NameKind)) : Prop where
  eq : f.env.scope.names = ns
section
variable {b : Bs} {A : Around} {f : Fm} {vs : Vs} {H : Led}
theorem e_locN {ns : List (Str × NameKind)} {x : Str} {av : AV} {pos : Pos} {Q : AV → Vs → Led → Prop} (hn : NS f ns) (j : Nat) (e : ns[j]? = some (x, NameKind.local)) (hv : vs[j]? = some (some av)) (h : Q av vs H) (hd : (x == ("__debug__" : Str)) = false := by decide) :
    awE b A f vs H (eval (.Name x pos) f.env) Q := e_loc hn.eq j e hv h hd
theorem e_cellN {ns : List (Str × NameKind)} {x : Str} {av : AV} {pos : Pos} {Q : AV → Vs → Led → Prop} (hn : NS f ns) (j : Nat) (e : ns[j]? = some (x, NameKind.cell)) (hv : vs[j]? = some (some av)) (h : Q av vs H) (hd : (x == ("__debug__" : Str)) = false := by decide) :
    awE b A f vs H (eval (.Name x pos) f.env) Q := e_cell hn.eq j e hv h hd
theorem n_locN {ns : List (Str × NameKind)} {x : Str} {av : AV} {Q : AV → Vs → Led → Prop} (hn : NS f ns) (j : Nat) (e : ns[j]? = some (x, NameKind.local)) (hv : vs[j]? = some (some av)) (h : Q av vs H) :
    awE b A f vs H (loadName f.env x) Q := n_loc hn.eq j e hv h
theorem u_locN {ns : List (Str × NameKind)} {x : Str} {av : AV} {v : Value} {Q : Unit → Vs → Led → Prop} (hn : NS f ns) (j : Nat) (e : ns[j]? = some (x, NameKind.local)) (hav : av.is v) (h : Q () (vs.set j (some av)) H) :
    awU b A f vs H (storeName f.env x v) Q := u_loc hn.eq j e hav h
theorem x_asgLN {ns : List (Str × NameKind)} {x : Str} {p pos : Pos} {value : Expr} {Q : AF → Vs → Led → Prop} (hn : NS f ns) (j : Nat) (e : ns[j]? = some (x, NameKind.local)) (h : awE b A f vs H (eval value f.env) (KStL j Q))
    (hs : swapsWith value (some (.Name x p)) pos.line f.env = pure false := by rfl) : awF b A f vs H (exec (.Assign [.Name x p] value pos) f.env) Q := x_asgL hn.eq j e h hs
theorem x_augLN {ns : List (Str × NameKind)} {x : Str} {p pos : Pos} {op : Operator} {value : Expr} {Q : AF → Vs → Led → Prop} (hn : NS f ns) (j : Nat) (e : ns[j]? = some (x, NameKind.local)) (h : awE b A f vs H (loadName f.env x) (KIn b A f value op (KStL j Q))) :
    awF b A f vs H (exec (.AugAssign (.Name x p) op value pos) f.env) Q := x_augL hn.eq j e h
end
local macro_rules | `(tactic| walk_at "nm") => `(tactic| first
  | refine e_locN (by assumption) 0 (by rfl) (by rfl) ?_ | refine e_locN (by assumption) 1 (by rfl) (by rfl) ?_ | refine e_locN (by assumption) 2 (by rfl) (by rfl) ?_ | refine e_locN (by assumption) 3 (by rfl) (by rfl) ?_ | refine e_locN (by assumption) 4 (by rfl) (by rfl) ?_ | refine e_locN (by assumption) 5 (by rfl) (by rfl) ?_ | refine e_locN (by assumption) 6 (by rfl) (by rfl) ?_ | refine e_locN (by assumption) 7 (by rfl) (by rfl) ?_ | refine e_locN (by assumption) 8 (by rfl) (by rfl) ?_ | refine e_locN (by assumption) 9 (by rfl) (by rfl) ?_ | refine e_locN (by assumption) 10 (by rfl) (by rfl) ?_ | refine e_locN (by assumption) 11 (by rfl) (by rfl) ?_ | refine e_locN (by assumption) 12 (by rfl) (by rfl) ?_ | refine e_locN (by assumption) 13 (by rfl) (by rfl) ?_ | refine e_locN (by assumption) 14 (by rfl) (by rfl) ?_ | refine e_locN (by assumption) 15 (by rfl) (by rfl) ?_)
local macro_rules | `(tactic| walk_at "nc") => `(tactic| first
  | refine e_cellN (by assumption) 0 (by rfl) (by rfl) ?_ | refine e_cellN (by assumption) 1 (by rfl) (by rfl) ?_ | refine e_cellN (by assumption) 2 (by rfl) (by rfl) ?_ | refine e_cellN (by assumption) 3 (by rfl) (by rfl) ?_ | refine e_cellN (by assumption) 4 (by rfl) (by rfl) ?_ | refine e_cellN (by assumption) 5 (by rfl) (by rfl) ?_ | refine e_cellN (by assumption) 6 (by rfl) (by rfl) ?_ | refine e_cellN (by assumption) 7 (by rfl) (by rfl) ?_ | refine e_cellN (by assumption) 8 (by rfl) (by rfl) ?_ | refine e_cellN (by assumption) 9 (by rfl) (by rfl) ?_ | refine e_cellN (by assumption) 10 (by rfl) (by rfl) ?_ | refine e_cellN (by assumption) 11 (by rfl) (by rfl) ?_)
local macro_rules | `(tactic| walk_at "nl") => `(tactic| first
  | refine n_locN (by assumption) 0 (by rfl) (by rfl) ?_ | refine n_locN (by assumption) 1 (by rfl) (by rfl) ?_ | refine n_locN (by assumption) 2 (by rfl) (by rfl) ?_ | refine n_locN (by assumption) 3 (by rfl) (by rfl) ?_ | refine n_locN (by assumption) 4 (by rfl) (by rfl) ?_ | refine n_locN (by assumption) 5 (by rfl) (by rfl) ?_ | refine n_locN (by assumption) 6 (by rfl) (by rfl) ?_ | refine n_locN (by assumption) 7 (by rfl) (by rfl) ?_ | refine n_locN (by assumption) 8 (by rfl) (by rfl) ?_ | refine n_locN (by assumption) 9 (by rfl) (by rfl) ?_ | refine n_locN (by assumption) 10 (by rfl) (by rfl) ?_ | refine n_locN (by assumption) 11 (by rfl) (by rfl) ?_ | refine n_locN (by assumption) 12 (by rfl) (by rfl) ?_ | refine n_locN (by assumption) 13 (by rfl) (by rfl) ?_ | refine n_locN (by assumption) 14 (by rfl) (by rfl) ?_ | refine n_locN (by assumption) 15 (by rfl) (by rfl) ?_)
local macro_rules | `(tactic| walk_at "nu") => `(tactic| first
  | refine u_locN (by assumption) 0 (by rfl) (by assumption) ?_ | refine u_locN (by assumption) 1 (by rfl) (by assumption) ?_ | refine u_locN (by assumption) 2 (by rfl) (by assumption) ?_ | refine u_locN (by assumption) 3 (by rfl) (by assumption) ?_ | refine u_locN (by assumption) 4 (by rfl) (by assumption) ?_ | refine u_locN (by assumption) 5 (by rfl) (by assumption) ?_ | refine u_locN (by assumption) 6 (by rfl) (by assumption) ?_ | refine u_locN (by assumption) 7 (by rfl) (by assumption) ?_ | refine u_locN (by assumption) 8 (by rfl) (by assumption) ?_ | refine u_locN (by assumption) 9 (by rfl) (by assumption) ?_ | refine u_locN (by assumption) 10 (by rfl) (by assumption) ?_ | refine u_locN (by assumption) 11 (by rfl) (by assumption) ?_ | refine u_locN (by assumption) 12 (by rfl) (by assumption) ?_ | refine u_locN (by assumption) 13 (by rfl) (by assumption) ?_ | refine u_locN (by assumption) 14 (by rfl) (by assumption) ?_ | refine u_locN (by assumption) 15 (by rfl) (by assumption) ?_)
local macro_rules | `(tactic| walk_at "join") => `(tactic| ((with_reducible refine e_meth PySem.F.plainAttrs_str PySem.F.slot_str_join PySem.F.type_str_join ?_ ?h1 ?h2 ?h3 ?h4 ?h5); (case h1 => rfl); (case h2 => rfl); (case h3 => rfl); (case h4 => rfl); (case h5 => rfl)))
local macro_rules | `(tactic| walk_at "as") => `(tactic| first
  | refine x_asgLN (by assumption) 0 (by rfl) ?_ | refine x_asgLN (by assumption) 1 (by rfl) ?_ | refine x_asgLN (by assumption) 2 (by rfl) ?_ | refine x_asgLN (by assumption) 3 (by rfl) ?_ | refine x_asgLN (by assumption) 4 (by rfl) ?_ | refine x_asgLN (by assumption) 5 (by rfl) ?_ | refine x_asgLN (by assumption) 6 (by rfl) ?_ | refine x_asgLN (by assumption) 7 (by rfl) ?_ | refine x_asgLN (by assumption) 8 (by rfl) ?_ | refine x_asgLN (by assumption) 9 (by rfl) ?_ | refine x_asgLN (by assumption) 10 (by rfl) ?_ | refine x_asgLN (by assumption) 11 (by rfl) ?_ | refine x_asgLN (by assumption) 12 (by rfl) ?_ | refine x_asgLN (by assumption) 13 (by rfl) ?_ | refine x_asgLN (by assumption) 14 (by rfl) ?_ | refine x_asgLN (by assumption) 15 (by rfl) ?_)
local macro_rules | `(tactic| walk_at "au") => `(tactic| first
  | refine x_augLN (by assumption) 0 (by rfl) ?_ | refine x_augLN (by assumption) 1 (by rfl) ?_ | refine x_augLN (by assumption) 2 (by rfl) ?_ | refine x_augLN (by assumption) 3 (by rfl) ?_ | refine x_augLN (by assumption) 4 (by rfl) ?_ | refine x_augLN (by assumption) 5 (by rfl) ?_ | refine x_augLN (by assumption) 6 (by rfl) ?_ | refine x_augLN (by assumption) 7 (by rfl) ?_ | refine x_augLN (by assumption) 8 (by rfl) ?_ | refine x_augLN (by assumption) 9 (by rfl) ?_ | refine x_augLN (by assumption) 10 (by rfl) ?_ | refine x_augLN (by assumption) 11 (by rfl) ?_ | refine x_augLN (by assumption) 12 (by rfl) ?_ | refine x_augLN (by assumption) 13 (by rfl) ?_ | refine x_augLN (by assumption) 14 (by rfl) ?_ | refine x_augLN (by assumption) 15 (by rfl) ?_)
local macro_rules | `(tactic| walk_at "append") => `(tactic| ((with_reducible refine e_meth PySem.F.plainAttrs_list PySem.F.slot_list_append PySem.F.type_list_append ?_ ?h1 ?h2 ?h3 ?h4 ?h5); (case h1 => rfl); (case h2 => rfl); (case h3 => rfl); (case h4 => rfl); (case h5 => rfl)))

/-! bisect_left -/
noncomputable def bisP (a : List (List Nat)) (x : List Nat) : Nat → Nat → Nat → Nat
  | 0, lo, _ => lo
  | n + 1, lo, hi => if lo < hi then (if a.getD ((lo + hi) / 2) [] < x then bisP a x n ((lo + hi) / 2 + 1) hi else bisP a x n lo ((lo + hi) / 2)) else lo
theorem bisP_le (a : List (List Nat)) (x : List Nat) : ∀ n lo hi, lo ≤ hi → bisP a x n lo hi ≤ hi
  | 0, lo, hi, h => h
  | n + 1, lo, hi, h => by
    unfold bisP
    split
    · split
      · exact bisP_le a x n _ _ (by omega)
      · exact Nat.le_trans (bisP_le a x n _ _ (by omega)) (by omega)
    · exact h
structure BisFn (b : Bs) (a : Addr) : Prop where
  ex : ∃ (fd : FuncData) (T d : Addr) (o : Obj) (t : Tok) (n : Nat) (hh : Int) (tk : Tok) (nn : Nat), FnAt b a fd (bodyOf (stAt 5)) ∧ fd.scope = scopeOf (stAt 5) ∧ fd.params = paramsOf (stAt 5) ∧
    fd.defaults = .ref T ∧ b.h₀.get? T = some o ∧ o.data = .seq #[.int 0 t, .none] n ∧ fd.kwdefaults = .ref d ∧ b.h₀.get? d = some (dictOf [⟨hh, .str "key" tk, .none⟩] nn)
section
variable {b : Bs} {A : Around} {H : Led}
theorem BisFn.keep {b : Bs} {a : Addr} (F : BisFn b a) : KeepOk b (.ref a) := by
  obtain ⟨fd, _, _, _, _, _, _, _, _, ⟨⟨o, ho, hd⟩, _⟩, _⟩ := F
  exact ⟨o, fd, ho, hd⟩
theorem bis_binds {s : Shared} {fd : FuncData} {T d : Addr} {o : Obj} {t : Tok} {n : Nat} {hh : Int} {tk : Tok} {nn : Nat} (hp : fd.params = paramsOf (stAt 5)) (hd : fd.defaults = .ref T) (ho : s.heap.get? T = some o) (hs : o.data = .seq #[.int 0 t, .none] n)
    (hk : fd.kwdefaults = .ref d) (hns : s.heap.get? d = some (dictOf [⟨hh, .str "key" tk, .none⟩] nn)) (v w : Value) :
    BindsTo s fd ⟨[v, w], []⟩ [("a", v), ("x", w), ("lo", .int 0 t), ("hi", .none), ("key", .none)] := by
  intro M A E Q hq
  obtain ⟨c1, c2, c3, c4, c5, c6, c7, c8, c9, c10, c11, c12, c13, c14, c15⟩ := fd
  simp only at hp hd hk
  subst hp hd hk
  show wpAny M A (seqItems? (.ref T) >>= _) Q E s
  refine wpAny_bind (wpAny_seqItems ho hs ?_)
  refine wpAny_bind (m := loadPart d _) (wpAny_loadPart hns ?_)
  exact wpAny_pure hq
theorem h_bisect (B : Blt b) {a : Addr} (F : BisFn b a) {n : Nat} (R : Room A (n + 1)) {la : Addr} {xs : List (List Nat)} {x : List Nat} (hm : (la, AO.list (xs.map AV.str)) ∈ H) (hz : xs.length ≤ 100) {ws : List Value} (hw : Is2 [.ref la, .str x] ws) {Q : AV → Led → Prop}
    (h : Q (.int (bisP xs x xs.length 0 xs.length : Nat)) H) : ahC b A H (.call (.ref a) ⟨ws, []⟩) Q := by
  obtain ⟨fd, T, d, o, t, n', hh, tk, nn, F, e1, e2, e3, e4, e5, e6, e7⟩ := F
  intro P G s Rr S hR
  refine h_fnC (avs := [.ref la, .str x]) (avs' := [.ref la, .str x, .int 0, .none, .none]) (ps := ["a", "x", "lo", "hi", "key"]) F e1 R.limit (by rfl) (by rfl) (by decide) (fun P G s ws S hw => ?_) (fun f A' hsc hown hcells hD hcq => ?_) (by decide) (by rfl) (by rfl) (by rfl) P G s ws Rr S hw hR
  · obtain ⟨v, w, rfl, hw1, hw2⟩ := Is2.inv2 hw
    exact ⟨[v, w, .int 0 t, .none, .none], ⟨hw1, hw2, ⟨t, rfl⟩, rfl, rfl, trivial⟩, bis_binds e2 e3 (S.old e4) e5 e6 (S.old e7) v w⟩
  · have hN : NS f [("a", .local), ("x", .local), ("lo", .local), ("hi", .local), ("key", .local), ("mid", .local), ("ValueError", .globalImplicit), ("len", .globalImplicit)] := ⟨by rw [hsc]; rfl⟩
    show awF _ _ _ [some (.ref la), some (.str x), some (.int 0), some .none, some .none, none, none, none] _ _ _
    refine x_cons ?_
    refine x_if ?_
    refine t_cmp (by rfl) ?_
    walk_at "nm"
    refine e_int ?_
    refine c_lt ?_
    refine ⟨_, rfl, fun q => absurd q (by decide), fun _ => ?_⟩
    refine x_nil ?_
    refine x_cons ?_
    refine x_if ?_
    refine t_cmp (by rfl) ?_
    walk_at "nm"
    refine e_none ?_
    refine c_isnone (fun w q => by cases q) ?_
    refine ⟨_, rfl, fun _ => ?_, fun q => absurd q (by decide)⟩
    refine x_cons ?_
    walk_at "as"
    refine e_call ?_
    refine e_blt (av := .con (.builtin "len")) hN.eq 7 (by rfl) B.len.1 B.len.2 (by rfl) ?_
    refine ⟨trivial, ?_⟩
    refine l_cons ?_
    walk_at "nm"
    refine l_nil ?_
    refine k_len_list hm (by rw [List.length_map]; omega) ?_
    rw [List.length_map]
    refine x_nil ?_
    refine x_cons ?_
    refine x_if ?_
    refine t_cmp (by rfl) ?_
    walk_at "nm"
    refine e_none ?_
    refine c_isnone (fun w q => by cases q) ?_
    refine ⟨_, rfl, fun _ => ?_, fun q => absurd q (by decide)⟩
    refine x_cons ?_
    refine x_while (fun m vs H1 => ∃ (lo hi fuel : Nat) (w : Option AV), H1 = H ∧ vs = [some (.ref la), some (.str x), some (.int lo), some (.int hi), some .none, w, none, none] ∧ m = hi - lo ∧ hi - lo ≤ fuel ∧ hi ≤ xs.length ∧ bisP xs x fuel lo hi = bisP xs x xs.length 0 xs.length)
      (xs.length - 0) ⟨0, xs.length, xs.length, none, rfl, rfl, rfl, Nat.le_refl _, Nat.le_refl _, rfl⟩ ?_
    rintro m vs H1 ⟨lo, hi, fuel, w, rfl, rfl, rfl, hf, hhi, e⟩
    refine t_cmp (by rfl) ?_
    walk_at "nm"
    walk_at "nm"
    refine c_lt ?_
    refine ⟨_, rfl, fun h1 => ?_, fun h1 => ?_⟩
    · have h1 : lo < hi := by have := of_decide_eq_true h1; omega
      obtain ⟨fuel, rfl⟩ : ∃ k, fuel = k + 1 := ⟨fuel - 1, by omega⟩
      rw [bisP, if_pos h1] at e
      refine x_cons ?_
      walk_at "as"
      refine e_bin ?_
      refine e_bin ?_
      walk_at "nm"
      walk_at "nm"
      refine b_add ?_
      refine e_int ?_
      refine b_div (by omega) (PyProof.noPylong_small (by decide)) ?_
      have em : ((lo : Int) + (hi : Int)) / 2 = ((lo + hi) / 2 : Nat) := by omega
      rw [em]
      have hmid : (lo + hi) / 2 < xs.length := by omega
      refine x_cons ?_
      refine x_if ?_
      refine t_cmp (by rfl) ?_
      refine e_sub ?_
      walk_at "nm"
      walk_at "nm"
      refine g_item (x := .str (xs.getD ((lo + hi) / 2) [])) hm ?_ (by omega) (by omega) ?_
      · rw [Int.toNat_natCast, List.getElem?_map, List.getElem?_eq_getElem hmid]
        simp [hmid]
      walk_at "nm"
      refine c_lts ?_
      refine ⟨_, rfl, fun h2 => ?_, fun h2 => ?_⟩
      · rw [if_pos (of_decide_eq_true h2)] at e
        refine x_cons ?_
        walk_at "as"
        refine e_bin ?_
        walk_at "nm"
        refine e_int ?_
        refine b_add ?_
        refine x_nil ?_
        refine x_nil ?_
        exact ⟨hi - ((lo + hi) / 2 + 1), by omega, (lo + hi) / 2 + 1, hi, fuel, _, rfl, rfl, rfl, by omega, hhi, e⟩
      · rw [if_neg (of_decide_eq_false h2)] at e
        refine x_cons ?_
        walk_at "as"
        walk_at "nm"
        refine x_nil ?_
        refine x_nil ?_
        exact ⟨(lo + hi) / 2 - lo, by omega, lo, (lo + hi) / 2, fuel, _, rfl, rfl, rfl, by omega, by omega, e⟩
    · have h1 : ¬ lo < hi := by have := of_decide_eq_false h1; omega
      have e' : bisP xs x fuel lo hi = lo := by
        cases fuel with
        | zero => rfl
        | succ k => rw [bisP, if_neg h1]
      refine x_nil ?_
      refine x_cons ?_
      refine x_ret ?_
      walk_at "nm"
      rw [← e, e'] at h
      exact h
end

noncomputable def rowsP : List (List Nat) → List (List Nat) → List (List Nat) → List Nat → List (List Nat) × List (List Nat) × List Nat
  | [], u, l, g => (u, l, g)
  | v :: r, u, l, g => if bisP u v u.length 0 u.length = u.length then rowsP r (u ++ [v]) l (g ++ [40]) else rowsP r (u.set (bisP u v u.length 0 u.length) v) (l ++ [u.getD (bisP u v u.length 0 u.length) []]) (g ++ [41])
noncomputable def sgnP (g : Int) : Int := if decide (g < 0) = true then -1 else if decide (g > 0) = true then 1 else 0
noncomputable def runsP : List Int → Nat → Nat → List Int → List Int
  | fs, n + 1, k, rs =>
    let rs' := if (k == 0) = true ∨ decide (fs.getD k 0 < fs.getD (k - 1) 0) = true then rs ++ [0] else rs
    runsP fs n (k + 1) (rs'.set (rs'.length - 1) (64 * rs'.getD (rs'.length - 1) 0 + fs.getD k 0))
  | _, 0, _, rs => rs
section
variable {b : Bs} {A : Around} {H : Led}
theorem map_set {α β : Type} (f : α → β) : ∀ (l : List α) (i : Nat) (a : α), (l.set i a).map f = (l.map f).set i (f a)
  | [], _, _ => rfl
  | _ :: _, 0, _ => rfl
  | x :: l, i + 1, a => by simp [map_set f l i a]
theorem h_rows (B : Blt b) {a fb : Addr} (F : FnIs b a (stAt 17)) (FB : BisFn b fb) (hfb : b.mg "bisect_left" = some (.ref fb)) {n : Nat} (R : Room A (n + 2)) {ra : Addr} {row : List (List Nat)} (hm : (ra, AO.list (row.map AV.str)) ∈ H) (hz : row.length ≤ 6) {ws : List Value} (hw : Is2 [.ref ra] ws) {Q : AV → Led → Prop}
    (h : ∀ t lo up, Q (.ref t) ((t, .tuple [.ref up, .ref lo, .str (rowsP row [] [] []).2.2]) :: (lo, .list ((rowsP row [] [] []).2.1.map AV.str)) :: (up, .list ((rowsP row [] [] []).1.map AV.str)) :: H)) : ahC b A H (.call (.ref a) ⟨ws, []⟩) Q := by
  refine h_code (ns := [("row", .local), ("upper", .local), ("lower", .local), ("grown", .local), ("word", .local), ("place", .local), ("bisect_left", .globalImplicit), ("len", .globalImplicit)]) F R hw ["row"] (by rfl) (by rfl) (by rfl) (by decide) (fun fd ws hw => ?_) (fun f A' hn ho hc hR => ?_)
  · obtain ⟨_, rfl, _⟩ := Is2.inv1 hw
    rfl
  · have hN := NS.mk hn
    show awF _ _ _ [some (.ref ra), none, none, none, none, none, none, none] _ _ _
    refine x_cons ?_
    walk_at "as"
    refine e_list ?_
    refine l_nil ?_
    refine ⟨Nat.zero_le _, fun up => ?_⟩
    refine x_cons ?_
    walk_at "as"
    refine e_list ?_
    refine l_nil ?_
    refine ⟨Nat.zero_le _, fun lo => ?_⟩
    refine x_cons ?_
    walk_at "as"
    refine e_str (l := []) (by rfl) ?_
    refine x_cons ?_
    refine x_for ?_
    walk_at "nm"
    refine ⟨_, _, hasIter_list hR.handled (.tail _ (.tail _ hm)), ?_⟩
    refine AFor.of AV.str (fun l vs H1 => ∃ u lw g w1 w2, vs = [some (.ref ra), some (.ref up), some (.ref lo), some (.str g), w1, w2, none, none] ∧ H1 = (lo, .list (lw.map AV.str)) :: (up, .list (u.map AV.str)) :: H ∧ rowsP l u lw g = rowsP row [] [] [] ∧ u.length + l.length ≤ 6 ∧ lw.length + l.length ≤ 6 ∧ g.length + l.length ≤ 6) ?_ ?_ ?_ _ _ _
      ⟨[], [], [], none, none, rfl, rfl, rfl, by simpa using hz, by simpa using hz, by simpa using hz⟩
    · rintro l vs H1 ⟨u, lw, g, w1, w2, rfl, rfl, _⟩
      exact .tail _ (.tail _ hm)
    · rintro vs H1 ⟨u, lw, g, w1, w2, rfl, rfl, e, _⟩
      rw [rowsP] at e
      refine x_cons ?_
      refine x_ret ?_
      refine e_tup ?_
      refine l_cons ?_
      walk_at "nm"
      refine l_cons ?_
      walk_at "nm"
      refine l_cons ?_
      walk_at "nm"
      refine l_nil ?_
      refine ⟨Nat.le_of_ble_eq_true rfl, fun t => ?_⟩
      have := h t lo up
      rw [← e] at this
      exact this
    · rintro wd l vs H1 ⟨u, lw, g, w1, w2, rfl, rfl, e, l1, l2, l3⟩ v hv
      simp only [List.length_cons] at l1 l2 l3
      refine u_name ?_
      walk_at "nu"
      refine x_cons ?_
      walk_at "as"
      refine e_call ?_
      refine e_glob (av := .ref fb) hN.eq 6 (by rfl) hfb (by rfl) ?_
      refine ⟨FB.keep, ?_⟩
      refine l_cons ?_
      walk_at "nm"
      refine l_cons ?_
      walk_at "nm"
      refine l_nil ?_
      intro gv ws hg hws
      cases hg
      refine aw_of_ah (ahC.toE (h_bisect B FB hR (xs := u) (x := wd) (.tail _ (.head _)) (by omega) hws ?_))
      have hple := bisP_le u wd u.length 0 u.length (Nat.zero_le _)
      refine x_cons ?_
      refine x_if ?_
      refine t_cmp (by rfl) ?_
      walk_at "nm"
      refine e_call ?_
      refine e_blt (av := .con (.builtin "len")) hN.eq 7 (by rfl) B.len.1 B.len.2 (by rfl) ?_
      refine ⟨trivial, ?_⟩
      refine l_cons ?_
      walk_at "nm"
      refine l_nil ?_
      refine k_len_list (.tail _ (.head _)) (by rw [List.length_map]; omega) ?_
      rw [List.length_map]
      refine c_eq ?_
      refine ⟨_, rfl, fun h1 => ?_, fun h1 => ?_⟩
      · have h1 : bisP u wd u.length 0 u.length = u.length := by have := beq_iff_eq.mp h1; omega
        rw [rowsP, if_pos h1] at e
        refine x_cons ?_
        refine x_expr ?_
        walk_at "append"
        walk_at "nm"
        refine ⟨⟨rfl, _, .tail _ (.head _)⟩, ?_⟩
        refine l_cons ?_
        walk_at "nm"
        refine l_nil ?_
        refine k_append (.tail .head) (by rw [List.length_map]; omega) ?_
        refine x_cons ?_
        refine x_aug ?_
        walk_at "nl"
        refine e_str (l := [40]) (by rfl) ?_
        refine i_cat (by simp; omega) ?_
        intro u' hu'
        walk_at "nu"
        refine x_nil ?_
        refine x_nil ?_
        exact ⟨u ++ [wd], lw, _, _, _, rfl, by rw [List.map_append]; rfl, e, by simp; omega, by omega, by simp; omega⟩
      · have h1 : ¬ bisP u wd u.length 0 u.length = u.length := by
          have := beq_eq_false_iff_ne.mp h1; omega
        rw [rowsP, if_neg h1] at e
        have hlt : bisP u wd u.length 0 u.length < u.length := by omega
        refine x_cons ?_
        refine x_expr ?_
        walk_at "append"
        walk_at "nm"
        refine ⟨⟨rfl, _, .head _⟩, ?_⟩
        refine l_cons ?_
        refine e_sub ?_
        walk_at "nm"
        walk_at "nm"
        refine g_item (x := .str (u.getD (bisP u wd u.length 0 u.length) [])) (.tail _ (.head _)) ?_ (by omega) (by omega) ?_
        · rw [Int.toNat_natCast, List.getElem?_map, List.getElem?_eq_getElem hlt]
          simp [hlt]
        refine l_nil ?_
        refine k_append .head (by rw [List.length_map]; omega) ?_
        refine x_cons ?_
        refine x_setItem ?_
        walk_at "nm"
        walk_at "nm"
        walk_at "nm"
        refine g_set (.tail .head) (by omega) (by rw [List.length_map]; omega) (by omega) ?_
        refine x_cons ?_
        refine x_aug ?_
        walk_at "nl"
        refine e_str (l := [41]) (by rfl) ?_
        refine i_cat (by simp; omega) ?_
        intro u' hu'
        walk_at "nu"
        refine x_nil ?_
        refine x_nil ?_
        exact ⟨u.set (bisP u wd u.length 0 u.length) wd, lw ++ [u.getD (bisP u wd u.length 0 u.length) []], _, _, _, rfl, by rw [List.map_append, map_set, Int.toNat_natCast]; rfl, e, by simp; omega, by simp; omega, by simp; omega⟩
end

theorem sorted_unique : ∀ {a c : List Int}, a.Perm c → a.Pairwise (· ≤ ·) → c.Pairwise (· ≤ ·) → a = c
  | [], c, p, _, _ => (List.nil_perm.mp p).symm
  | x :: a, [], p, _, _ => by cases (List.perm_nil.mp p)
  | x :: a, y :: c, p, h1, h2 => by
    have hx : x ∈ y :: c := p.subset (.head _)
    have hy : y ∈ x :: a := p.symm.subset (.head _)
    have e : x = y := by
      rcases List.mem_cons.mp hx with q | q
      · exact q
      · rcases List.mem_cons.mp hy with r | r
        · exact r.symm
        · have h3 := List.rel_of_pairwise_cons h2 q
          have h4 := List.rel_of_pairwise_cons h1 r
          omega
    subst e
    rw [sorted_unique p.cons_inv (List.Pairwise.of_cons h1) (List.Pairwise.of_cons h2)]
section
variable {b : Bs} {A : Around} {H : Led}
theorem h_sides (B : Blt b) {a : Addr} (F : FnIs b a (stAt 19)) {n : Nat} (R : Room A (n + 1)) {ga : Addr} {gaps : List Int} (hm : (ga, AO.list (gaps.map AV.int)) ∈ H) (hz : gaps.length < 64) {ws : List Value} (hw : Is2 [.ref ga] ws) {Q : AV → Led → Prop}
    (h : ∀ r ms, List.Perm ms (gaps.map sgnP) → ms.Pairwise (· ≤ ·) → Q (.ref r) ((r, .list (ms.map AV.int)) :: H)) : ahC b A H (.call (.ref a) ⟨ws, []⟩) Q := by
  refine ahC.post_sub ?_
  refine h_code (ns := [("gaps", .local), ("sorted", .globalImplicit)]) F R hw ["gaps"] (by rfl) (by rfl) (by rfl) (by decide) (fun fd ws hw => ?_) (fun f A' hn ho hc hR => ?_)
  · obtain ⟨_, rfl, _⟩ := Is2.inv1 hw
    rfl
  · have hN := NS.mk hn
    show awF _ _ _ [some (.ref ga), none] _ _ _
    refine x_cons ?_
    refine x_ret ?_
    refine e_call ?_
    refine e_blt (av := .con (.builtin "sorted")) hN.eq 1 (by rfl) B.sorted.1 B.sorted.2 (by rfl) ?_
    refine ⟨trivial, ?_⟩
    refine l_cons ?_
    refine e_comp hn (cl_ok hc (by decide)) ?_
    walk_at "nm"
    refine ⟨_, _, hasIter_list hR.handled hm, hm, by rw [List.length_map]; omega, fun f2 hn2 => ?_⟩
    have hN2 : NS f2 [(Str.ofString ".0", NameKind.local), (Str.ofString "gap", NameKind.local)] := ⟨hn2⟩
    refine ACmp.ofE AV.int (fun g => some (AV.int (sgnP g))) (fun vs => ∃ w, vs = [none, w]) _ ((gaps.map sgnP).map AV.int) (by rw [List.filterMap_eq_map', List.map_map]; rfl) ⟨none, rfl⟩ ?_ ?_
    · rintro g hg vs ⟨w, rfl⟩ v hv
      walk_at "nu"
      refine ⟨rfl, ?_, fun q => by cases q⟩
      intro _
      unfold sgnP
      refine e_if ?_
      refine t_cmp (by rfl) ?_
      walk_at "nm"
      refine e_int ?_
      refine c_lt ?_
      refine ⟨_, rfl, fun h1 => ?_, fun h1 => ?_⟩
      · refine e_un ?_
        refine e_int ?_
        refine o_neg ?_
        rw [if_pos h1]
        exact ⟨rfl, List.Sublist.refl _, _, rfl⟩
      · rw [if_neg (by rw [h1]; decide)]
        refine e_if ?_
        refine t_cmp (by rfl) ?_
        walk_at "nm"
        refine e_int ?_
        refine c_gt ?_
        refine ⟨_, rfl, fun h2 => ?_, fun h2 => ?_⟩
        · refine e_int ?_
          rw [if_pos h2]
          exact ⟨rfl, List.Sublist.refl _, _, rfl⟩
        · refine e_int ?_
          rw [if_neg (by rw [h2]; decide)]
          exact ⟨rfl, List.Sublist.refl _, _, rfl⟩
    · intro r
      refine l_nil ?_
      refine k_sorted (.head _) (by rw [List.length_map]; omega) (fun r2 ms hp hs => ?_)
      exact ⟨_, .cons_cons _ (List.sublist_cons_self _ _), h r2 ms hp hs⟩

theorem h_runs (B : Blt b) {a : Addr} (F : FnIs b a (stAt 21)) {n : Nat} (R : Room A (n + 1)) {fa : Addr} {fs : List Int} (hm : (fa, AO.list (fs.map AV.int)) ∈ H) (hz : fs.length ≤ 6) {ws : List Value} (hw : Is2 [.ref fa] ws) {Q : AV → Led → Prop}
    (h : ∀ r, Q (.ref r) ((r, .list ((runsP fs fs.length 0 []).map AV.int)) :: H)) : ahC b A H (.call (.ref a) ⟨ws, []⟩) Q := by
  refine ahC.post_sub ?_
  refine h_code (ns := [("figures", .local), ("runs", .local), ("k", .local), ("range", .globalImplicit), ("len", .globalImplicit)]) F R hw ["figures"] (by rfl) (by rfl) (by rfl) (by decide) (fun fd ws hw => ?_) (fun f A' hn ho hc hR => ?_)
  · obtain ⟨_, rfl, _⟩ := Is2.inv1 hw
    rfl
  · have hN := NS.mk hn
    show awF _ _ _ [some (.ref fa), none, none, none, none] _ _ _
    refine x_cons ?_
    walk_at "as"
    refine e_list ?_
    refine l_nil ?_
    refine ⟨Nat.zero_le _, fun ra => ?_⟩
    refine x_cons ?_
    refine x_for ?_
    refine e_call ?_
    refine e_blt (av := .con (.type "range")) hN.eq 3 (by rfl) B.range.1 B.range.2 (by rfl) ?_
    refine ⟨trivial, ?_⟩
    refine l_cons ?_
    refine e_call ?_
    refine e_blt (av := .con (.builtin "len")) hN.eq 4 (by rfl) B.len.1 B.len.2 (by rfl) ?_
    refine ⟨trivial, ?_⟩
    refine l_cons ?_
    walk_at "nm"
    refine l_nil ?_
    refine k_len_list (.tail _ hm) (by rw [List.length_map]; omega) ?_
    rw [List.length_map]
    refine l_nil ?_
    refine k_range1 (fun rg => ?_)
    refine ⟨_, _, hasIter_range hR.handled (.head _) (by omega) (by omega) (by omega) (by omega), ?_⟩
    refine AFor.range (fun k vs H1 => ∃ rs w, vs = [some (.ref fa), some (.ref ra), w, none, none] ∧ H1 = (rg, aoRange 0 fs.length 1) :: (ra, .list (rs.map AV.int)) :: H ∧ runsP fs (fs.length - k) k rs = runsP fs fs.length 0 [] ∧ rs.length ≤ k ∧ (k ≠ 0 → rs ≠ [])) ?_ ?_ ⟨[], none, rfl, rfl, rfl, Nat.le_refl _, fun q => absurd rfl q⟩
    · rintro vs H1 ⟨rs, w, rfl, rfl, e, _⟩
      rw [Nat.sub_self] at e
      refine x_cons ?_
      refine x_ret ?_
      walk_at "nm"
      have e2 : rs = runsP fs fs.length 0 [] := by rw [← e]; cases fs <;> rfl
      rw [e2]
      exact ⟨_, List.sublist_cons_self _ _, h ra⟩
    · rintro k hk vs H1 ⟨rs, w, rfl, rfl, e, hl, hne⟩ v hv
      obtain ⟨m, hmm⟩ : ∃ m, fs.length - k = m + 1 := ⟨fs.length - k - 1, by omega⟩
      have em : m = fs.length - (k + 1) := by omega
      rw [hmm, runsP, em] at e
      have hkf : (fs.map AV.int)[(k : Int).toNat]? = some (.int (fs.getD k 0)) := by
        rw [Int.toNat_natCast, List.getElem?_map, List.getElem?_eq_getElem hk]; simp [hk]
      refine u_name ?_
      walk_at "nu"
      refine x_cons ?_
      refine aw_mono (Q := fun fl vs H1 => fl = .next ∧ vs = [some (.ref fa), some (.ref ra), some (.int k), none, none] ∧ H1 = (rg, aoRange 0 fs.length 1) :: (ra, .list ((if (k == 0) = true ∨ decide (fs.getD k 0 < fs.getD (k - 1) 0) = true then rs ++ [0] else rs).map AV.int)) :: H) ?_ ?_
      · refine x_if ?_
        refine aw_mono (Q := fun c vs H1 => c = decide ((k == 0) = true ∨ decide (fs.getD k 0 < fs.getD (k - 1) 0) = true) ∧ vs = [some (.ref fa), some (.ref ra), some (.int k), none, none] ∧ H1 = (rg, aoRange 0 fs.length 1) :: (ra, .list (rs.map AV.int)) :: H) ?_ ?_
        · refine t_boolop ?_
          refine t_or_cons ?_
          refine t_cmp (by rfl) ?_
          walk_at "nm"
          refine e_int ?_
          refine c_eq ?_
          refine ⟨_, rfl, fun h1 => ?_, fun h1 => ?_⟩
          · have : (k == 0) = true := by have := beq_iff_eq.mp h1; simp; omega
            exact ⟨(decide_eq_true (.inl this)).symm, rfl, rfl⟩
          · have hk0 : k ≠ 0 := by have := beq_eq_false_iff_ne.mp h1; omega
            have hkf1 : (fs.map AV.int)[((k : Int) - 1).toNat]? = some (.int (fs.getD (k - 1) 0)) := by
              rw [show ((k : Int) - 1).toNat = k - 1 by omega, List.getElem?_map, List.getElem?_eq_getElem (show k - 1 < fs.length by omega)]; simp [show k - 1 < fs.length by omega]
            refine t_or_cons ?_
            refine t_cmp (by rfl) ?_
            refine e_sub ?_
            walk_at "nm"
            walk_at "nm"
            refine g_item (.tail _ (.tail _ hm)) hkf (by omega) (by omega) ?_
            refine e_sub ?_
            walk_at "nm"
            refine e_bin ?_
            walk_at "nm"
            refine e_int ?_
            refine b_sub ?_
            refine g_item (.tail _ (.tail _ hm)) hkf1 (by omega) (by omega) ?_
            refine c_lt ?_
            refine ⟨_, rfl, fun h2 => ?_, fun h2 => ?_⟩
            · exact ⟨(decide_eq_true (.inr h2)).symm, rfl, rfl⟩
            · refine t_or_nil ?_
              refine ⟨(decide_eq_false ?_).symm, rfl, rfl⟩
              rintro (q | q)
              · simp at q; omega
              · rw [h2] at q; cases q
        · rintro c vs' H' ⟨hcnd, rfl, rfl⟩
          refine ⟨fun q => ?_, fun q => ?_⟩
          · have hp := of_decide_eq_true (hcnd.symm.trans q)
            rw [if_pos hp]
            refine x_cons ?_
            refine x_expr ?_
            walk_at "append"
            walk_at "nm"
            refine ⟨⟨rfl, _, .tail _ (.head _)⟩, ?_⟩
            refine l_cons ?_
            refine e_int ?_
            refine l_nil ?_
            refine k_append (.tail .head) (by rw [List.length_map]; omega) ?_
            refine x_nil ?_
            exact ⟨rfl, rfl, by rw [List.map_append]; rfl⟩
          · have hp := of_decide_eq_false (hcnd.symm.trans q)
            rw [if_neg hp]
            refine x_nil ?_
            exact ⟨rfl, rfl, rfl⟩
      · rintro fl vs' H' ⟨rfl, rfl, rfl⟩
        generalize hrs : (if (k == 0) = true ∨ decide (fs.getD k 0 < fs.getD (k - 1) 0) = true then rs ++ [0] else rs) = rs' at e ⊢
        have hne' : rs' ≠ [] := by
          rw [← hrs]
          split
          · simp
          · rename_i hc2
            exact hne (fun q => hc2 (.inl (by simp [q])))
        have hl' : rs'.length ≤ k + 1 := by
          rw [← hrs]; split
          · simp; omega
          · omega
        have hpos : 0 < rs'.length := List.length_pos_iff.mpr hne'
        have ei : (-1 + ((rs'.map AV.int).length : Int)).toNat = rs'.length - 1 := by rw [List.length_map]; omega
        have hlast : (rs'.map AV.int)[(-1 + ((rs'.map AV.int).length : Int)).toNat]? = some (.int (rs'.getD (rs'.length - 1) 0)) := by
          rw [ei, List.getElem?_map, List.getElem?_eq_getElem (show rs'.length - 1 < rs'.length by omega)]; simp [show rs'.length - 1 < rs'.length by omega]
        refine x_cons ?_
        refine x_setItem ?_
        refine e_bin ?_
        refine e_bin ?_
        refine e_int ?_
        refine e_sub ?_
        walk_at "nm"
        refine e_un ?_
        refine e_int ?_
        refine o_neg ?_
        refine g_itemN (.tail _ (.head _)) hlast (by omega) (by rw [List.length_map]; omega) (by omega) ?_
        refine b_mul (IntMulOk.of_left (by decide)) ?_
        refine e_sub ?_
        walk_at "nm"
        walk_at "nm"
        refine g_item (.tail _ (.tail _ hm)) hkf (by omega) (by omega) ?_
        refine b_add ?_
        walk_at "nm"
        refine e_un ?_
        refine e_int ?_
        refine o_neg ?_
        refine g_setN (.tail .head) (by omega) (by rw [List.length_map]; omega) (by omega) ?_
        refine x_nil ?_
        refine ⟨_, _, rfl, ?_, e, by simp; omega, fun _ => by simp [hne']⟩
        rw [map_set, ei]
end

/-! the plain law -/
noncomputable def pathsF (m : Nat) : Nat → List Nat → List (List Nat)
  | 0, d => [d]
  | n + 1, d => if cntN 40 d < m then (if 2 * cntN 40 d = d.length then pathsF m n (d ++ [40]) else pathsF m n (d ++ [40]) ++ pathsF m n (d ++ [41])) else pathsF m n (d ++ [41])
theorem fold_mem (m : Nat) : ∀ (xs : List Int) (d : List Nat), xs.foldl (deedStep m) d ∈ pathsF m xs.length d
  | [], d => .head _
  | x :: xs, d => by
    rw [List.foldl_cons, List.length_cons, pathsF]
    have h40 := fold_mem m xs (d ++ [40])
    have h41 := fold_mem m xs (d ++ [41])
    unfold deedStep
    by_cases hc : cntN 40 d < m
    · rw [if_pos hc]
      by_cases h2 : 2 * cntN 40 d = d.length
      · rw [if_pos h2, if_pos ⟨by omega, .inl (beq_iff_eq.mpr (by omega))⟩]
        exact h40
      · rw [if_neg h2]
        split
        · exact List.mem_append_left _ h40
        · exact List.mem_append_right _ h41
    · rw [if_neg hc, if_neg (fun q => hc (by have := q.1; omega))]
      exact h41

/-- bisect and rows on places -/
noncomputable def bisI (a : List Nat) (x : Nat) : Nat → Nat → Nat → Nat
  | 0, lo, _ => lo
  | n + 1, lo, hi => if lo < hi then (if a.getD ((lo + hi) / 2) 0 < x then bisI a x n ((lo + hi) / 2 + 1) hi else bisI a x n lo ((lo + hi) / 2)) else lo
noncomputable def rowsI : List Nat → List Nat → List Nat → List Nat → List Nat × List Nat × List Nat
  | [], u, l, g => (u, l, g)
  | v :: r, u, l, g => if bisI u v u.length 0 u.length = u.length then rowsI r (u ++ [v]) l (g ++ [40]) else rowsI r (u.set (bisI u v u.length 0 u.length) v) (l ++ [u.getD (bisI u v u.length 0 u.length) 0]) (g ++ [41])
noncomputable def parP : List Nat → Int → Bool
  | [], o => o == 0
  | c :: r, o => if c = 40 then parP r (o + 1) else if c = 41 then (if o - 1 < 0 then false else parP r (o - 1)) else parP r o
noncomputable def midE (faces : List Nat) (k : Nat) : Nat → Nat → Option Nat
  | 0, _ => none
  | f + 1, e => if e ≤ faces.length then (if parP ((faces.drop k).take (e - k)) 0 = true then some e else midE faces k f (e + 2)) else none
noncomputable def midP (faces : List Nat) : List Int := (List.range faces.length).filterMap fun k => (midE faces k 6 (k + 2)).map fun e => (k : Int) + e - faces.length
noncomputable def lastP (half : List Nat) (k : Nat) : Bool := decide (k + 1 = half.length) || (half.drop k).take 2 == [40, 41]
noncomputable def octP (half : List Nat) (figs : List Int) : List Int := (List.range half.length).map fun k => figs.getD k 0 + (if lastP half k = true then 0 else 64) + 128 * ((k % 2 : Nat) : Int)
/-- the numbers read: a number under way, or none -/
noncomputable def varP : Option Int → List Int → List Int
  | _, [] => []
  | none, o :: r => if Builtin.bitAnd o 64 = 0 then Builtin.bitAnd o 63 :: varP none r else varP (some (Builtin.bitAnd o 63)) r
  | some v, o :: r => if Builtin.bitAnd o 64 = 0 then Builtin.bitOr (v * 2 ^ 6) (Builtin.bitAnd o 63) :: varP none r else varP (some (Builtin.bitOr (v * 2 ^ 6) (Builtin.bitAnd o 63))) r
noncomputable def hungP (size : Nat) (u : List Nat) : List Nat := (List.range size).map fun i => if u.contains i then 40 else 41
noncomputable def facesP (g hung : List Nat) : List Nat := g ++ hung.reverse.map fun c => if c = 40 then 41 else 40
noncomputable def placesP (size : Nat) (due : List Int) : List Int := (List.range size).map fun (i : Nat) => ((due.idxOf ((i : Int) + 1) : Nat) : Int) + 1
noncomputable def checkP (size : Nat) (deeds : List Nat) : Bool :=
  match loP size deeds 0 [] 0, dueP deeds deeds.length 0 [] with
  | some out, some due =>
    let r := rowsI out [] [] []
    let hung := hungP size r.1
    let faces := facesP r.2.2 hung
    out.length == size && out.all (· < size) && (out.map fun (i : Nat) => (i : Int) + 1) == due
      && r.1 == (List.range size).filter (r.1.contains ·) && r.2.1 == (List.range size).filter (fun i => !r.1.contains i) && r.2.2.length == size
      && ((midP faces).map sgnP).isPerm (((List.range size).map fun (k : Nat) => (k : Int) + 1 - due.getD k 0).map sgnP)
      && varP none (octP r.2.2 due) == runsP due due.length 0 []
      && varP none (octP hung (placesP size due)) == runsP (placesP size due) (placesP size due).length 0 []
      && (placesP size due).all (fun p => decide (1 ≤ p) && decide (p ≤ 6)) && due.all (fun p => decide (1 ≤ p) && decide (p ≤ 6)) && (List.range size).all (fun (i : Nat) => due.contains ((i : Int) + 1))
  | _, _ => false
theorem all_cut {α : Type} {f : α → Bool} {l : List α} (n : Nat) (h1 : (l.take n).all f = true) (h2 : (l.drop n).all f = true) : l.all f = true := by
  rw [← List.take_append_drop n l, List.all_append, h1, h2]; rfl
theorem check4 : ((pathsF 4 7 [40]).all (checkP 4)) = true := by decide +kernel
theorem check5 : ((pathsF 5 9 [40]).all (checkP 5)) = true := by
  refine all_cut 14 (by decide +kernel) ?_
  refine all_cut 14 (by decide +kernel) (by decide +kernel)
theorem check6 : ((pathsF 6 11 [40]).all (checkP 6)) = true := by
  refine all_cut 12 (by decide +kernel) ?_
  refine all_cut 12 (by decide +kernel) ?_
  refine all_cut 12 (by decide +kernel) ?_
  refine all_cut 12 (by decide +kernel) ?_
  refine all_cut 12 (by decide +kernel) ?_
  refine all_cut 12 (by decide +kernel) ?_
  refine all_cut 12 (by decide +kernel) ?_
  refine all_cut 12 (by decide +kernel) ?_
  refine all_cut 12 (by decide +kernel) ?_
  refine all_cut 12 (by decide +kernel) (by decide +kernel)

section
variable {prog : Program} {w : World} {A : Around} {R : GenEnd} {Y : Protocol} {n : Nat} {s₀ : Shared} {c : Code} {fs : List Frame} {s : Shared} {env : Env}
  {K : Flow → Sem Fin} {Hh : Value → Sem Fin} {gd : Bool → Bool} {lv : List Value → List Value}
theorem seg_If {test : Expr} {body orelse : List Stmt} {pos : Pos}
    (h : wpAny (model prog w) (A.over c fs) (isTrue test env (eval test env)) (fun t s' => if t = true then Seg (model prog w) A R Y n s₀ c ((execs body env).wrap K Hh gd lv) fs s' else Seg (model prog w) A R Y n s₀ c ((execs orelse env).wrap K Hh gd lv) fs s')
      (fun _ _ => False) s) :
    Seg (model prog w) A R Y n s₀ c ((exec (.If test body orelse pos) env).wrap K Hh gd lv) fs s := by
  rw [exec_If]
  refine seg_at ?_
  show Seg _ A R Y n s₀ c (Sem.wrap _ _ _ _ (isTrue test env (eval test env) >>= fun t => if t = true then execs body env else execs orelse env)) fs s
  refine seg_bind_wrap (wpAny_mono h (fun t s' ht => ?_) fun _ _ e => e.elim)
  cases t with
  | true => exact ht
  | false => exact ht
/-- what stands above a loop's code -/
noncomputable abbrev ownK (env : Env) (K : Flow → Sem Fin) (Hh : Value → Sem Fin) (gd : Bool → Bool) (lv : List Value → List Value) : Result → Sem Fin := fun r =>
  ((match r with | .ok f => (.pure f : Sem Flow) | .error e => .raise e).onRaise fun (x : Value) => do
        if (← field x 1) == Value.none then unsupported "frame.own-activation:exception-without-traceback"
        setFlight x env.frame).wrap K Hh gd lv
theorem seg_For {target iter : Expr} {body orelse : List Stmt} {pos : Pos}
    (h : wpAny (model prog w) (A.over c fs) (eval iter env) (fun x s₁ => wpAny (model prog w) (A.over c fs) (pyIter x) (fun it s₂ => ∀ p,
      Seg (model prog w) A R Y n s₀ (.forLoop target it body orelse env) ((model prog w).den (.forLoop target it body orelse env)) (.ret (ownK env K Hh gd lv) none (gd false) (lv []) c p [] :: fs) s₂) (fun _ _ => False) s₁) (fun _ _ => False) s)
    (hs : ∀ x, foldedSetIterable iter env x = pure x := by intro _; rfl) :
    Seg (model prog w) A R Y n s₀ c ((exec (.For target iter body orelse pos) env).wrap K Hh gd lv) fs s := by
  rw [exec_For]
  refine seg_at ?_
  show Seg _ A R Y n s₀ c (Sem.wrap _ _ _ _ (eval iter env >>= fun x => foldedSetIterable iter env x >>= fun x => standAt iter.pos >>= fun _ => holding [x] (pyIter x) >>= fun it => runOwn (.forLoop target it body orelse env) env)) fs s
  refine seg_bind_wrap (wpAny_mono h (fun x s₁ h₁ => ?_) fun _ _ e => e.elim)
  rw [hs]
  refine seg_bind_wrap (wpAny_pure ?_)
  refine seg_bind_wrap (wpAny_standAt ?_)
  refine seg_bind_wrap (wpAny_holding (wpAny_mono h₁ (fun it s₂ h₂ => ?_) fun _ _ e => e.elim))
  exact seg_call h₂
theorem seg_forLoop {target : Expr} {it : Value} {body orelse : List Stmt}
    (h : wpAny (model prog w) (A.over (.forLoop target it body orelse env) fs) (pyNext it) (fun r s₁ => match r with
      | none => Seg (model prog w) A R Y n s₀ (.block orelse env) ((model prog w).den (.block orelse env)) fs s₁
      | some v => wpAny (model prog w) (A.over (.forLoop target it body orelse env) fs) (letOwnedTupleGo target it v) (fun _ s₂ => wpAny (model prog w) (A.over (.forLoop target it body orelse env) fs) (assign target env v) (fun _ s₃ =>
          Seg (model prog w) A R Y n s₀ (.forLoop target it body orelse env) ((execs body env).wrap (fun f => match f with
            | .next | .cont => .pure (.again (.forLoop target it body orelse env))
            | .brk => .pure (.done .next)
            | .ret v => .pure (.done (.ret v))) (fun e => (do noteFrame e env; theTreesLotGoes e : Sem Unit).wrap (fun _ => .raise e) .raise id id) id id) fs s₃) (fun _ _ => False) s₂) (fun _ _ => False) s₁) (fun _ _ => False) s) :
    Seg (model prog w) A R Y n s₀ (.forLoop target it body orelse env) ((model prog w).den (.forLoop target it body orelse env)) fs s := by
  show Seg _ A R Y n s₀ _ ((forTurn target it body orelse env).onRaise (fun x => do noteFrame x env; theTreesLotGoes x)) fs s
  unfold forTurn
  rw [Sem.onRaise_eq_wrap]
  refine seg_bind_wrap (wpAny_standAt ?_)
  refine seg_bind_wrap (wpAny_onRaise (wpAny_mono h (fun r s₁ h₁ => ?_) fun _ _ e => e.elim))
  cases r with
  | none => exact seg_again rfl h₁
  | some v =>
    refine seg_bind_wrap (wpAny_mono h₁ (fun _ s₂ h₂ => ?_) fun _ _ e => e.elim)
    refine seg_bind_wrap (wpAny_mono h₂ (fun _ s₃ h₃ => ?_) fun _ _ e => e.elim)
    rw [Sem.bind_eq_wrap', Sem.wrap_wrap]
    rw [Sem.wrap_congr (execs body env) _ _ (K' := fun f => match f with
            | .next | .cont => .pure (.again (.forLoop target it body orelse env))
            | .brk => .pure (.done .next)
            | .ret v => .pure (.done (.ret v))) (H' := (fun e => (do noteFrame e env; theTreesLotGoes e : Sem Unit).wrap (fun _ => .raise e) .raise id id))
        (fun f => by cases f <;> rfl)
        (fun e => by first | exact Sem.bind_eq_wrap _ _ | (show (do noteFrame e env; theTreesLotGoes e : Sem Unit).bind (fun _ => .raise e) = _; rw [Sem.bind_eq_wrap]))]
    exact h₃
theorem seg_block_nil {k : Result → Sem Fin} {hd : Option Value} {g : Bool} {l : List Value} {p kp} (h : Seg (model prog w) A R Y n s₀ c (k (.ok .next)) fs s) :
    Seg (model prog w) A R Y n s₀ (.block [] env) ((model prog w).den (.block [] env)) (.ret k hd g l c p kp :: fs) s := by
  show Seg _ A R Y n s₀ _ (leafOf (.ok .next)) _ s
  exact seg_leaf _ h
end

noncomputable def aoEnum (I : Addr) (i : Nat) : AO := .raw fun o => ∃ old, o = { cls := .type "enumerate", dict := none, data := .fields #[.none, .bool false, .ref I, rawInt (i : Nat), .none, old], slots := #[] }
noncomputable def aoEnumOut (I : Addr) (i : Nat) (t : Addr) : AO := .raw fun o => ∃ item, o = { cls := .type "enumerate", dict := none, data := .fields #[rawInt (t : Nat), .bool false, .ref I, rawInt (i : Nat), .none, item], slots := #[] }
section
variable {b : Bs} {A : Around} {f : Fm} {vs : Vs} {H : Led}
theorem SH.redo {P : Prot} {G : GProt} {s : Shared} {H' : Led} {h' : Heap} {t : Nat} (S : SH b P G H s) (hk : ∀ a o, a ∉ keys H → s.heap.get? a = some o → h'.get? a = some o) (hkeys : ∀ a ∈ keys H', a ∈ keys H ∨ s.heap.objs.size ≤ a) (nd : (keys H').Nodup) (ho : ∀ p ∈ H', OR h' p.1 p.2) :
    SH b P G H' { s with heap := h', toks := t } :=
  ⟨S.ok, S.base, fun a o e => hk a o (fun q => S.apart a q o e) (S.keep a o e), fun a ha o e => by
    rcases hkeys a ha with q | q
    · exact S.apart a q o e
    · exact absurd (Heap.lt_size (S.keep _ _ e)) (Nat.not_lt.mpr q), nd, ho, S.gk, S.gb, S.os⟩
theorem St.redo {P : Prot} {G : GProt} {s : Shared} {H' : Led} {h' : Heap} {t : Nat} (S : St b P G f vs H s) (hk : ∀ a o, a ∉ keys H → s.heap.get? a = some o → h'.get? a = some o) (hkeys : ∀ a ∈ keys H', a ∈ keys H ∨ s.heap.objs.size ≤ a) (nd : (keys H').Nodup) (ho : ∀ p ∈ H', OR h' p.1 p.2) :
    St b P G f vs H' { s with heap := h', toks := t } := S.up (S.down.redo hk hkeys nd ho)

theorem n_enum_item {E I : Addr} {l : List Nat} {i c : Nat} {H0 : Led} {Q : Option AV → Vs → Led → Prop} (hh : A.handled = none) (hc : l[i]? = some c)
    (h : ∀ t, Q (some (.ref t)) vs ((t, .tuple [.int i, .str [c]]) :: (E, aoEnumOut I (i + 1) t) :: (I, aoStrIt l (i + 1)) :: H0)) :
    ∀ w, (AV.ref E).is w → aw b A f vs ((E, aoEnum I i) :: (I, aoStrIt l i) :: H0) OptIs (pyNext w) Q := by
  intro w hw P G s S
  cases hw
  obtain ⟨oE, hoE, old, e⟩ := S.sh.led _ (.head _)
  subst e
  obtain ⟨oI, hoI, hcl, t, hd⟩ := S.sh.led _ (.tail _ (.head _))
  have nd := S.sh.nodup
  simp only [keys, List.map_cons, List.nodup_cons, List.mem_cons, not_or] at nd
  have hne : E ≠ I := nd.1.1
  refine wpAny_pyNext_enum_itemD (i := i) (Draws.strAscii (A := A.in1) hh I ⟨l.toArray⟩ t) hoE ⟨oI, hoI, hcl, hd⟩ (by simpa using (List.getElem?_eq_some_iff.mp hc).1) hne (by simpa using hne) fun x h' tk hx heo hst htup hsz hk => ?_
  obtain ⟨c', u, hc', rfl⟩ := hx
  have ec : c' = c := by
    have : l[i]? = some c' := by simpa using hc'
    rw [hc] at this; cases this; rfl
  subst ec
  obtain ⟨o', ho', hcl', hd'⟩ := hst
  have fr := S.sh.fresh
  refine ⟨some (.ref _), vs, _, ⟨_, rfl, rfl⟩, S.redo (H' := (s.heap.objs.size, .tuple [.int i, .str [c']]) :: (E, aoEnumOut I (i + 1) s.heap.objs.size) :: (I, aoStrIt l (i + 1)) :: H0) (fun a o ha e => hk a o ?_ ?_ e) ?_ ?_ ?_, h _⟩
  · rintro rfl; exact ha (.head _)
  · rintro rfl; exact ha (.tail _ (.head _))
  · intro a ha
    rcases List.mem_cons.mp ha with rfl | q
    · exact .inr (Nat.le_refl _)
    · exact .inl q
  · exact List.nodup_cons.mpr ⟨fr.1, S.sh.nodup⟩
  · intro p hp
    rcases List.mem_cons.mp hp with rfl | hp
    · exact ⟨[.int i tk, .str ⟨#[c']⟩ u], 0, htup, ⟨tk, rfl⟩, ⟨u, rfl⟩, trivial⟩
    rcases List.mem_cons.mp hp with rfl | hp
    · exact ⟨_, heo, _, rfl⟩
    rcases List.mem_cons.mp hp with rfl | hp
    · exact ⟨o', ho', hcl', t, hd'⟩
    · have hp' : p ∈ ((E, aoEnum I i) :: (I, aoStrIt l i) :: H0) := .tail _ (.tail _ hp)
      have hk0 : p.1 ∈ keys H0 := List.mem_map_of_mem (f := (·.1)) hp
      exact (S.sh.led p hp').mono fun o e => hk _ o (fun q => nd.1.2 (q ▸ hk0)) (fun q => nd.2.1 (q ▸ hk0)) e
noncomputable def aoAny : AO := .raw fun _ => True
/-- the iterator over signs is at its end: it is still there -/
theorem nextOf_end {E : Value → Shared → Prop} {s : Shared} {Q : Value → Shared → Prop} {I : Addr} {o : Obj} {x : Str} {t : Tok} {i : Nat} (hh : A.handled = none) (ho : s.heap.get? I = some o) (hc : o.cls = .type "str_ascii_iterator") (hd : o.data = .fields #[.str x t, .int (i : Nat) 0]) (hx : x.cps[i]? = none)
    (hE : ∀ h' e, Heap.ExtBut I s.heap h' → (∃ o', h'.get? I = some o') → (∃ oe, h'.get? e = some oe ∧ oe.cls = .type "StopIteration") → E (.ref e) { s with heap := h' }) :
    wpAny (M b) A (Builtin.SmallTypes.nextOf (.ref I)) Q E s := by
  have hT : s.TypeIs (.ref I) "str_ascii_iterator" := ⟨o, ho, hc⟩
  unfold Builtin.SmallTypes.nextOf
  refine wpAny_bind (wpAny_callSpecial?_slot (name := Str.ofString "__next__") hT PySem.F.slot_str_ascii_iterator_next (wpAny_call_entry PySem.F.slot_str_ascii_iterator_next hT PySem.F.entry_str_ascii_iterator_next ?_ (PySem.F.args_str_ascii_iterator_next_1 _)))
  show wpAny _ _ (field (.ref I) 0 >>= _) _ _ s
  refine wpAny_bind (wpAny_field ho hd (x := .str x t) rfl ?_)
  show wpAny _ _ (field (.ref I) 1 >>= _) _ _ s
  refine wpAny_bind (wpAny_field ho hd (x := .int i 0) rfl ?_)
  simp only [Int.toNat_natCast, hx]
  have hd1 := Obj.data_mapFields hd (·.setIfInBounds 0 Value.none)
  have ho1 := Heap.get?_update_self (Obj.mapFields (·.setIfInBounds 0 Value.none)) ho (Obj.isFreed_of_fields hd1)
  refine wpAny_bind (wpAny_rule (wpAny_bind (wpAny_setField ho hd (by simp) (wpAny_bind (wpAny_letGo ?_)))))
  show wpAny _ _ (newExc (.type "StopIteration") [] >>= _) _ _ _
  refine wpAny_bind ?_
  simp only [newExc, newTuple]
  refine wpAny_bind (wpAny_newObj_type ?_ (by size_fits))
  refine wpAny_bind (m := firstArgMember _ _) (wpAny_of_eq (a := Value.none) (by first | rfl | (simp only [firstArgMember]; rfl)) ?_)
  refine wpAny_newObj_type ?_ (by size_fits)
  simp only [raiseNew]
  refine wpAny_bind (wpAny_handled ?_)
  rw [show A.in1.handled = none from hh]
  refine wpAny_bind (wpAny_pure (wpAny_throw ?_))
  exact hE _ _ (((Heap.SameBut.update ..).extBut.push _).push _) ⟨_, Heap.get?_push_of_some _ (Heap.get?_push_of_some _ ho1)⟩ ⟨_, Heap.get?_push_size _ rfl, rfl⟩
theorem n_enum_end {E I : Addr} {l : List Nat} {H0 : Led} {Q : Option AV → Vs → Led → Prop} (hh : A.handled = none)
    (h : Q none vs ((E, aoEnum I l.length) :: (I, aoAny) :: H0)) :
    ∀ w, (AV.ref E).is w → aw b A f vs ((E, aoEnum I l.length) :: (I, aoStrIt l l.length) :: H0) OptIs (pyNext w) Q := by
  intro w hw P G s S
  cases hw
  obtain ⟨oE, hoE, old, e⟩ := S.sh.led _ (.head _)
  subst e
  obtain ⟨oI, hoI, hcl, t, hd⟩ := S.sh.led _ (.tail _ (.head _))
  have nd := S.sh.nodup
  simp only [keys, List.map_cons, List.nodup_cons, List.mem_cons, not_or] at nd
  have hT : s.TypeIs (.ref E) "enumerate" := ⟨_, hoE, rfl⟩
  unfold pyNext
  refine wpAny_bind (wpAny_attempt (wpAny_callSpecial?_slot (name := Str.ofString "__next__") hT PySem.F.slot_enumerate_next (wpAny_call_entry PySem.F.slot_enumerate_next hT PySem.F.entry_enumerate_next ?_ (PySem.F.args_enumerate_next_1 _))))
  show wpAny _ _ (field (.ref E) 2 >>= _) _ _ _
  refine wpAny_bind (wpAny_field hoE rfl (x := .ref I) rfl ?_)
  refine wpAny_bind (nextOf_end (A := A.in1) hh hoI hcl hd (by simp) fun h' x hs hI hx' => ?_)
  obtain ⟨o, ho, hc⟩ := hx'
  obtain ⟨oI', hoI'⟩ := hI
  refine wpAny_bind (wpAny_isInstance (T := "StopIteration") (b := true) ⟨o, ho, hc⟩ isSubtype_stop ?_)
  refine wpAny_pure ⟨none, vs, _, rfl, S.redo (t := s.toks) (H' := (E, aoEnum I l.length) :: (I, aoAny) :: H0) (fun a o ha e => hs a o (fun q => ha (q ▸ .tail _ (.head _))) e) ?_ ?_ ?_, h⟩
  · intro a ha
    exact .inl ha
  · exact S.sh.nodup
  · intro p hp
    rcases List.mem_cons.mp hp with rfl | hp
    · exact ⟨_, hs _ _ nd.1.1 hoE, old, rfl⟩
    rcases List.mem_cons.mp hp with rfl | hp
    · exact ⟨oI', hoI', trivial⟩
    · have hp' : p ∈ ((E, aoEnum I l.length) :: (I, aoStrIt l l.length) :: H0) := .tail _ (.tail _ hp)
      have hk0 : p.1 ∈ keys H0 := List.mem_map_of_mem (f := (·.1)) hp
      exact (S.sh.led p hp').mono fun o e => hs _ o (fun q => nd.2.1 (q ▸ hk0)) e
theorem u_letgo {E I t : Addr} {i : Nat} {x : AO} {elts : List Expr} {k : Nat} {pos : Pos} {H0 : Led} {Q : Unit → Vs → Led → Prop} (h : Q () vs ((t, x) :: (E, aoEnum I i) :: H0)) :
    ∀ v w, (AV.ref E).is v → (AV.ref t).is w → awU b A f vs ((t, x) :: (E, aoEnumOut I i t) :: H0) (letOwnedTupleGo (.Tuple elts k pos) v w) Q := by
  intro v w hv hw P G s S
  cases hv; cases hw
  obtain ⟨oE, hoE, item, e⟩ := S.sh.led _ (.tail _ (.head _))
  subst e
  exact wpAny_letOwnedTupleGo_enum hoE fun h' he hs => ⟨(), vs, _, trivial, S.upd (t := s.toks) (o := aoEnumOut I i t) (o' := aoEnum I i) (.tail .head) hs.extBut ⟨_, he, _, rfl⟩, h⟩
theorem k_enumerate {l : List Nat} (hl : l.all (· < 128) = true) {Q : AV → Vs → Led → Prop} (h : ∀ E I, Q (.ref E) vs ((E, aoEnum I 0) :: (I, aoStrIt l 0) :: H)) :
    ∀ g ws, (AV.con (.type "enumerate")).is g → Is2 [.str l] ws → awE b A f vs H (call g ws []) Q := by
  intro g ws hg hw P G s S
  cases hg
  replace hw := Is2.inv1 hw
  obtain ⟨w, rfl, ⟨t, hw⟩⟩ := hw
  subst hw
  have ety : strIterType ⟨l.toArray⟩ = "str_ascii_iterator" := by
    unfold strIterType
    rw [if_pos (by simpa using hl)]
  refine call_enumerate_str fun h' he hit hsz hk => ?_
  rw [ety] at hit
  obtain ⟨oI, hoI, hcl, hd⟩ := hit
  have fr := S.sh.fresh
  have fresh : ∀ a, s.heap.objs.size ≤ a → a ∉ keys H := fun a ha q => by
    obtain ⟨o, ho⟩ := S.sh.key_some q
    exact absurd (Heap.lt_size ho) (Nat.not_lt.mpr ha)
  refine ⟨.ref _, vs, _, rfl, S.redo (t := s.toks) (H' := (s.heap.objs.size + 1, aoEnum s.heap.objs.size 0) :: (s.heap.objs.size, aoStrIt l 0) :: H) (fun a o _ e => hk a o e) ?_ ?_ ?_, h _ _⟩
  · intro a ha
    rcases List.mem_cons.mp ha with rfl | q
    · exact .inr (Nat.le_succ _)
    rcases List.mem_cons.mp q with rfl | q
    · exact .inr (Nat.le_refl _)
    · exact .inl q
  · refine List.nodup_cons.mpr ⟨?_, List.nodup_cons.mpr ⟨fr.1, S.sh.nodup⟩⟩
    intro q
    rcases List.mem_cons.mp q with q | q
    · exact absurd q (Nat.succ_ne_self _)
    · exact fresh _ (Nat.le_succ _) q
  · intro p hp
    rcases List.mem_cons.mp hp with rfl | hp
    · exact ⟨_, he, _, rfl⟩
    rcases List.mem_cons.mp hp with rfl | hp
    · exact ⟨oI, hoI, hcl, t, hd⟩
    · exact (S.sh.led p hp).mono fun o e => hk _ o e
end

/-! the generator of signs with their backslashes -/
noncomputable def escG : List Nat → Nat → Bool → List (Nat × List Nat)
  | [], i, esc => if esc = true then [(i - 1, [92])] else []
  | c :: r, i, esc => if esc = true then (i, [92] ++ [c]) :: escG r (i + 1) false else if ([c] == [92]) = true then escG r (i + 1) true else (i, [c]) :: escG r (i + 1) false
noncomputable def stmtOr (x : Option Stmt) : Stmt := match x with | some s => s | none => .Pass default
noncomputable def genFor : Stmt := stmtOr ((bodyOf (stAt 1))[2]?)
noncomputable def genIf : Stmt := stmtOr ((bodyOf (stAt 1))[3]?)
noncomputable def forTgt : Stmt → Expr
  | .For t .. => t
  | _ => default
noncomputable def forBody : Stmt → List Stmt
  | .For _ _ b .. => b
  | _ => []
noncomputable def ifTest : Stmt → Expr
  | .If t .. => t
  | _ => default
noncomputable def ifThen : Stmt → List Stmt
  | .If _ b .. => b
  | _ => []
noncomputable def ifElse : Stmt → List Stmt
  | .If _ _ o _ => o
  | _ => []
noncomputable def ifPos : Stmt → Pos
  | .If _ _ _ p => p
  | _ => default
noncomputable def genScope : List (Str × NameKind) := [("addr", .local), ("pos", .local), ("escape", .local), ("ch", .local), ("enumerate", .globalImplicit)]

/-- all that stood, but some -/
noncomputable def PL (h : Heap) (B : List Addr) : Prot := fun a o => h.get? a = some o ∧ a ∉ B
noncomputable def gensOf (s : Shared) : GProt := fun j x => s.gens[j]? = some x
/-- how a segment ends -/
noncomputable def RG (L E I : Addr) : GenEnd := fun n (s₀ : Shared) r (s : Shared) => r = .ok (.ret .none) ∧ n = 0 ∧ (∀ a o, s₀.heap.get? a = some o → a ∉ [L, E, I] → s.heap.get? a = some o) ∧ (∀ (j : Nat) (x : GenState), s₀.gens[j]? = some x → s.gens[j]? = some x) ∧ (∀ x ∈ s.gens, x.bare = true) ∧ s.os = s₀.os
/-- what a yield hands out -/
noncomputable def YG (b : Bs) (f : Fm) (T : List (Nat × List Nat)) (E I : Addr) : Protocol := fun m s₀ v s kap =>
  ∃ t p x vs H, v = .ref t ∧ T[T.length - (m + 1)]? = some (p, x) ∧ m < T.length ∧ t ≠ f.env.locals ∧ t ∉ keys H ∧ (∀ o, ¬ PL s₀.heap [f.env.locals, E, I] t o) ∧
    St b (PL s₀.heap [f.env.locals, E, I]) (gensOf s₀) f vs ((t, .tuple [.int (p : Nat), .str x]) :: H) s ∧ keys H = [E, I] ∧ s.os = s₀.os ∧
    ∀ s'', St b (PL s''.heap [f.env.locals, E, I]) (gensOf s'') f vs H s'' → kap (.send .none) s''

section
variable {b : Bs} {A : Around} {f : Fm} {vs : Vs} {H : Led}
theorem St.sub {P : Prot} {G : GProt} {s : Shared} {H' : Led} (S : St b P G f vs H s) (hs : H'.Sublist H) : St b P G f vs H' s :=
  ⟨S.fo, S.sh.sub hs, S.La, fun q => S.Lk ((hs.map _).subset q), fun p hp q => S.ck p hp ((hs.map _).subset q), S.cown, S.cdef, S.loc, S.cel⟩
theorem St.weak {P P' : Prot} {G G' : GProt} {s : Shared} (S : St b P G f vs H s) (hb : ∀ a o, b.h₀.get? a = some o → P' a o) (h : ∀ a o, P' a o → P a o) (hg : ∀ i x, G' i x → G i x) : St b P' G' f vs H s :=
  ⟨S.fo, S.sh.weaken hb h hg, fun o q => S.La o (h _ _ q), S.Lk, S.ck, fun hown p hp o q => S.cown hown p hp o (h _ _ q), S.cdef, S.loc, S.cel⟩
theorem over_handled {c c' : Code} {k : Result → Sem PySem.Fin} {g : Bool} {l kp : List Value} {p : Pos} (h : A.handled = none) : (A.over c [.ret k none g l c' p kp]).handled = none := by
  show (marksOver _ (A.handled, A.handled)).1 = none
  rw [h]; rfl
theorem over_handled0 {c : Code} (h : A.handled = none) : (A.over c []).handled = none := by
  show (marksOver _ (A.handled, A.handled)).1 = none
  rw [h]; rfl

theorem seg_yield_pair {T : List (Nat × List Nat)} {E I : Addr} {P : Prot} {s₀ s : Shared} {c : Code} {fs : List Frame} {K : Flow → Sem PySem.Fin} {Hh : Value → Sem PySem.Fin} {gd : Bool → Bool} {lv : List Value → List Value} {n p : Nat} {x : List Nat} {es : List Expr} {k : Nat} {tp yp pos : Pos}
    (hfs : splitAtGen fs = none) (hgd : gd false = false) (hfg : fs.any Frame.guarded = false) (hco : f.env.scope.isCoroutine = false) (hkf : f.env.scope.kind = .function)
    (hev : awE b (A.over c fs) f vs H (eval (.Tuple es k tp) f.env) fun v vs' H' => ∃ t, v = .ref t ∧ vs' = vs ∧ H' = (t, AO.tuple [.int (p : Nat), .str x]) :: H) (S : St b P (gensOf s₀) f vs H s) (hkH : keys H = [E, I])
    (hP : ∀ a o, PL s₀.heap [f.env.locals, E, I] a o → P a o) (hbP : ∀ a o, b.h₀.get? a = some o → PL s₀.heap [f.env.locals, E, I] a o) (hos : s₀.os = b.os) (hT : T[T.length - (n + 1)]? = some (p, x)) (hn : n < T.length)
    (next : ∀ s'', St b (PL s''.heap [f.env.locals, E, I]) (gensOf s'') f vs H s'' → Seg (M b) A (RG f.env.locals E I) (YG b f T E I) n s'' c (K .next) fs s'') :
    Seg (M b) A (RG f.env.locals E I) (YG b f T E I) (n + 1) s₀ c ((exec (.Expr (.Yield (some (.Tuple es k tp)) yp) pos) f.env).wrap K Hh gd lv) fs s := by
  refine seg_Expr_Yield hfs hgd hfg (aw_use (hev P _ s S) (fun v s' z vs' H' hz S' hr9 => ?_)) hco (by unfold interactive; rw [hkf]; rfl)
  obtain ⟨t, e1, e2, e3⟩ := hr9
  subst e1; subst e2; subst e3
  cases hz
  intro kap hk
  have nd := S'.sh.nodup
  have hL : t ≠ f.env.locals := fun q => S'.Lk (q ▸ .head _)
  exact ⟨t, p, x, _, H, rfl, hT, hn, hL, (List.nodup_cons.mp nd).1, fun o q => S'.sh.apart t (.head _) o (hP t o q), S'.weak hbP hP fun _ _ e => e, hkH, S'.sh.os.trans hos.symm, fun s'' S'' => hk .none s'' (next s'' S'')⟩

noncomputable abbrev genK0 : Flow → Sem PySem.Fin := fun f => .pure (.done (.ret (match f with | .ret v => v | _ => .none)))
noncomputable abbrev genH0 (env : Env) : Value → Sem PySem.Fin := fun e => (leaving env e).wrap (fun _ => .raise e) .raise id id
noncomputable abbrev genK1 (env : Env) : Flow → Sem PySem.Fin := fun f => match f with | .next => (execs [genIf] env).wrap genK0 (genH0 env) id id | f => genK0 f
noncomputable abbrev genKb (env : Env) (E : Addr) : Flow → Sem PySem.Fin := fun f => match f with
            | .next | .cont => .pure (.again (.forLoop (forTgt genFor) (.ref E) (forBody genFor) [] env))
            | .brk => .pure (.done .next)
            | .ret v => .pure (.done (.ret v))
theorem gen_end {T : List (Nat × List Nat)} {E I : Addr} {P : Prot} {s₀ s : Shared} {c : Code} (S : St b P (gensOf s₀) f vs H s) (hP : ∀ a o, PL s₀.heap [f.env.locals, E, I] a o → P a o) (hos : s₀.os = b.os) :
    Seg (M b) A (RG f.env.locals E I) (YG b f T E I) 0 s₀ c (genK0 .next) [] s :=
  seg_end (.ok (.ret .none)) ⟨rfl, rfl, fun a o e hn => S.sh.keep a o (hP a o ⟨e, hn⟩), fun j x e => S.sh.gk j x e, S.sh.gb, S.sh.os.trans hos.symm⟩
theorem gen_last {T : List (Nat × List Nat)} {E I : Addr} {P : Prot} {s₀ s : Shared} {c : Code} {l : List Nat} {i : Nat} {esc : Bool} {w1 w2 : Option AV} (hA : A.handled = none) (hN : NS f genScope)
    (S : St b P (gensOf s₀) f [some (.str l), w1, some (.bool esc), w2, none] H s) (hw : esc = true → w1 = some (.int ((i - 1 : Nat) : Int))) (hkH : keys H = [E, I]) (hP : ∀ a o, PL s₀.heap [f.env.locals, E, I] a o → P a o) (hos : s₀.os = b.os)
    (hT : ∃ pre, T = pre ++ escG [] i esc) (hbP : ∀ a o, b.h₀.get? a = some o → PL s₀.heap [f.env.locals, E, I] a o) (hco : f.env.scope.isCoroutine = false) (hkf : f.env.scope.kind = .function) :
    Seg (M b) A (RG f.env.locals E I) (YG b f T E I) (escG [] i esc).length s₀ c (genK1 f.env .next) [] s := by
  refine seg_execs_cons ?_
  rw [show genIf = Stmt.If (ifTest genIf) (ifThen genIf) (ifElse genIf) (ifPos genIf) from rfl]
  refine seg_If ?_
  cases esc with
  | false =>
    refine aw_use ((t_val (Q := fun c vs' H' => c = false ∧ vs' = [some (.str l), w1, some (.bool false), w2, none] ∧ H' = H) (e_locN hN 2 (by rfl) (by rfl) ⟨false, rfl, rfl, rfl, rfl⟩) : awB b (A.over c []) f _ _ (isTrue _ f.env (eval _ f.env)) _) P (gensOf s₀) s S) (fun t s1 d vs1 H1 hd S1 hr9 => ?_)
    obtain ⟨e1, e2, e3⟩ := hr9
    subst hd; subst e1; subst e2; subst e3
    rw [if_neg (by decide)]
    exact gen_end S1 hP hos
  | true =>
    have hw1 := hw rfl
    subst hw1
    refine aw_use ((t_val (Q := fun c vs' H' => c = true ∧ vs' = [some (.str l), some (.int ((i - 1 : Nat) : Int)), some (.bool true), w2, none] ∧ H' = H) (e_locN hN 2 (by rfl) (by rfl) ⟨true, rfl, rfl, rfl, rfl⟩) : awB b (A.over c []) f _ _ (isTrue _ f.env (eval _ f.env)) _) P (gensOf s₀) s S) (fun t s1 d vs1 H1 hd S1 hr9 => ?_)
    obtain ⟨e1, e2, e3⟩ := hr9
    subst hd; subst e1; subst e2; subst e3
    rw [if_pos rfl]
    refine seg_execs_cons ?_
    obtain ⟨pre, rfl⟩ := hT
    have ee : escG [] i true = [(i - 1, [92])] := rfl
    rw [ee]
    refine seg_yield_pair (p := i - 1) (x := [92]) rfl rfl rfl hco hkf ?_ S1 hkH hP hbP hos (by simp) (by simp) fun s'' S'' => ?_
    · refine e_tup ?_
      refine l_cons ?_
      walk_at "nm"
      refine l_cons ?_
      refine e_str (l := [92]) (by rfl) ?_
      refine l_nil ?_
      exact ⟨Nat.le_of_ble_eq_true rfl, fun t => ⟨t, rfl, rfl, rfl⟩⟩
    · exact gen_end S'' (fun _ _ e => e) S''.sh.os
end

noncomputable def genIn : Stmt := stmtOr ((forBody genFor)[0]?)
noncomputable def genIn2 : Stmt := stmtOr ((ifElse genIn)[0]?)
section
variable {b : Bs} {A : Around} {f : Fm} {vs : Vs} {H : Led}
noncomputable abbrev genHb (env : Env) : Value → Sem PySem.Fin := fun e => (do noteFrame e env; theTreesLotGoes e : Sem Unit).wrap (fun _ => .raise e) .raise id id
theorem gen_loop {T : List (Nat × List Nat)} {E I : Addr} {l : List Nat} {c0 : Code} {p0 : Pos} (hA : A.handled = none) (hN : NS f genScope) (hco : f.env.scope.isCoroutine = false) (hkf : f.env.scope.kind = .function) :
    ∀ (r : List Nat) (i : Nat) (esc : Bool) (w1 w2 : Option AV) (P : Prot) (s₀ s : Shared), l.drop i = r → i ≤ l.length →
      St b P (gensOf s₀) f [some (.str l), w1, some (.bool esc), w2, none] [(E, aoEnum I i), (I, aoStrIt l i)] s → (esc = true → w1 = some (.int ((i - 1 : Nat) : Int))) →
      (∀ a o, PL s₀.heap [f.env.locals, E, I] a o → P a o) → (∀ a o, b.h₀.get? a = some o → PL s₀.heap [f.env.locals, E, I] a o) → s₀.os = b.os → (∃ pre, T = pre ++ escG r i esc) →
      Seg (M b) A (RG f.env.locals E I) (YG b f T E I) (escG r i esc).length s₀ (.forLoop (forTgt genFor) (.ref E) (forBody genFor) [] f.env) ((M b).den (.forLoop (forTgt genFor) (.ref E) (forBody genFor) [] f.env))
        [.ret (ownK f.env (genK1 f.env) (genH0 f.env) id id) none false [] c0 p0 []] s
  | [], i, esc, w1, w2, P, s₀, s, hd, hi, S, hw, hP, hbP, hos, hT => by
    have hi' : i = l.length := by
      have := congrArg List.length hd
      simp at this
      omega
    subst hi'
    refine seg_forLoop (aw_use (n_enum_end (over_handled hA) (Q := fun x vs' H' => x = none ∧ vs' = [some (.str l), w1, some (.bool esc), w2, none] ∧ H' = [(E, aoEnum I l.length), (I, aoAny)]) ⟨rfl, rfl, rfl⟩ (.ref E) rfl P _ s S) (fun rr s1 x vs' H' hx S1 hr9 => ?_))
    obtain ⟨e1, e2, e3⟩ := hr9
    subst e1; subst e2; subst e3
    cases hx
    refine seg_block_nil ?_
    show Seg _ _ _ _ _ _ _ (genK1 f.env .next) [] s1
    exact gen_last hA hN S1 hw rfl hP hos hT hbP hco hkf
  | c :: r, i, esc, w1, w2, P, s₀, s, hd, hi, S, hw, hP, hbP, hos, hT => by
    have hilt : i < l.length := by
      have := congrArg List.length hd
      simp at this
      omega
    have hc : l[i]? = some c := by
      rw [List.drop_eq_getElem_cons hilt] at hd
      injection hd with h1 h2
      rw [List.getElem?_eq_getElem hilt, h1]
    have hd' : l.drop (i + 1) = r := by
      rw [List.drop_eq_getElem_cons hilt] at hd
      injection hd
    refine seg_forLoop (aw_use (n_enum_item (over_handled hA) hc (Q := fun x vs' H' => ∃ t, x = some (.ref t) ∧ vs' = [some (.str l), w1, some (.bool esc), w2, none] ∧ H' = (t, AO.tuple [.int i, .str [c]]) :: (E, aoEnumOut I (i + 1) t) :: (I, aoStrIt l (i + 1)) :: [])
      (fun t => ⟨t, rfl, rfl, rfl⟩) (.ref E) rfl P _ s S) (fun rr s1 x vs' H' hx S1 ⟨t, e1, e2, e3⟩ => ?_))
    subst e1; subst e2; subst e3
    obtain ⟨v, rfl, hv⟩ := hx
    cases hv
    refine aw_use (u_letgo (Q := fun _ vs' H' => vs' = [some (.str l), w1, some (.bool esc), w2, none] ∧ H' = (t, AO.tuple [.int i, .str [c]]) :: (E, aoEnum I (i + 1)) :: (I, aoStrIt l (i + 1)) :: []) ⟨rfl, rfl⟩ (.ref E) (.ref t) rfl rfl P _ s1 S1) (fun _ s2 _ vs' H' _ S2 hr9 => ?_)
    obtain ⟨e1, e2⟩ := hr9
    subst e1; subst e2
    have hasg : awU b (A.over (.forLoop (forTgt genFor) (.ref E) (forBody genFor) [] f.env) [.ret (ownK f.env (genK1 f.env) (genH0 f.env) id id) none false [] c0 p0 []]) f [some (.str l), w1, some (.bool esc), w2, none] ((t, AO.tuple [.int i, .str [c]]) :: (E, aoEnum I (i + 1)) :: (I, aoStrIt l (i + 1)) :: []) (assign (forTgt genFor) f.env (.ref t))
        fun _ vs' H' => vs' = [some (.str l), some (.int i), some (.bool esc), some (.str [c]), none] ∧ H' = (t, AO.tuple [.int i, .str [c]]) :: (E, aoEnum I (i + 1)) :: (I, aoStrIt l (i + 1)) :: [] := by
      refine u_tup (over_handled hA) (.head _) (by rfl) (by rfl) ?_ (.ref t) rfl
      intro v hv
      refine u_name ?_
      refine u_locN hN 1 (by rfl) hv ?_
      intro v hv
      refine u_name ?_
      refine u_locN hN 3 (by rfl) hv ?_
      exact ⟨rfl, rfl⟩
    refine aw_use (hasg P _ s2 S2) (fun _ s3 _ vs' H' _ S3 hr9 => ?_)
    obtain ⟨e1, e2⟩ := hr9
    subst e1; subst e2
    have S4 := S3.sub (List.sublist_cons_self _ _)
    have again : ∀ (esc' : Bool) (w1' w2' : Option AV) (P' : Prot) (s₀' s' : Shared), St b P' (gensOf s₀') f [some (.str l), w1', some (.bool esc'), w2', none] [(E, aoEnum I (i + 1)), (I, aoStrIt l (i + 1))] s' → (esc' = true → w1' = some (.int ((i + 1 - 1 : Nat) : Int))) →
        (∀ a o, PL s₀'.heap [f.env.locals, E, I] a o → P' a o) → (∀ a o, b.h₀.get? a = some o → PL s₀'.heap [f.env.locals, E, I] a o) → s₀'.os = b.os → (∃ pre, T = pre ++ escG r (i + 1) esc') →
        Seg (M b) A (RG f.env.locals E I) (YG b f T E I) (escG r (i + 1) esc').length s₀' (.forLoop (forTgt genFor) (.ref E) (forBody genFor) [] f.env) (genKb f.env E .next) [.ret (ownK f.env (genK1 f.env) (genH0 f.env) id id) none false [] c0 p0 []] s' :=
      fun esc' w1' w2' P' s₀' s' S' hw' hP' hbP' hos' hT' => seg_again rfl (gen_loop hA hN hco hkf r (i + 1) esc' w1' w2' P' s₀' s' hd' hilt S' hw' hP' hbP' hos' hT')
    rw [show forBody genFor = [genIn] from rfl]
    refine seg_execs_cons ?_
    rw [show genIn = Stmt.If (ifTest genIn) (ifThen genIn) (ifElse genIn) (ifPos genIn) from rfl]
    refine seg_If ?_
    obtain ⟨pre, hTe⟩ := hT
    have hkk : keys [(E, aoEnum I (i + 1)), (I, aoStrIt l (i + 1))] = [E, I] := rfl
    cases esc with
    | true =>
      refine aw_use ((t_val (Q := fun c' vs' H' => c' = true ∧ vs' = [some (.str l), some (.int i), some (.bool true), some (.str [c]), none] ∧ H' = [(E, aoEnum I (i + 1)), (I, aoStrIt l (i + 1))]) (e_locN hN 2 (by rfl) (by rfl) ⟨true, rfl, rfl, rfl, rfl⟩) : awB b _ f _ _ (isTrue _ f.env (eval _ f.env)) _) P (gensOf s₀) s3 S4) (fun t' s5 d vs1 H1 hd5 S5 hr9 => ?_)
      obtain ⟨e1, e2, e3⟩ := hr9
      subst hd5; subst e1; subst e2; subst e3
      rw [if_pos rfl]
      refine seg_execs_cons ?_
      have ee : escG (c :: r) i true = (i, [92] ++ [c]) :: escG r (i + 1) false := rfl
      rw [ee, List.length_cons]
      refine seg_yield_pair (p := i) (x := [92] ++ [c]) rfl rfl rfl hco hkf ?_ S5 hkk hP hbP hos (by rw [hTe, ee]; simp) (by rw [hTe, ee]; simp; omega) fun s'' S'' => ?_
      · refine e_tup ?_
        refine l_cons ?_
        walk_at "nm"
        refine l_cons ?_
        refine e_bin ?_
        refine e_str (l := [92]) (by rfl) ?_
        walk_at "nm"
        refine b_cat (by simp) ?_
        refine l_nil ?_
        exact ⟨Nat.le_of_ble_eq_true rfl, fun t => ⟨t, rfl, rfl, rfl⟩⟩
      · refine seg_execs_cons ?_
        have hx : awF b (A.over (.forLoop (forTgt genFor) (.ref E) (forBody genFor) [] f.env) [.ret (ownK f.env (genK1 f.env) (genH0 f.env) id id) none false [] c0 p0 []]) f [some (.str l), some (.int i), some (.bool true), some (.str [c]), none] [(E, aoEnum I (i + 1)), (I, aoStrIt l (i + 1))] (exec (stmtOr ((ifThen genIn)[1]?)) f.env)
            fun fl vs' H' => fl = .next ∧ vs' = [some (.str l), some (.int i), some (.bool false), some (.str [c]), none] ∧ H' = [(E, aoEnum I (i + 1)), (I, aoStrIt l (i + 1))] := by
          refine x_asg ?_
          refine e_bool ?_
          intro v hv
          refine u_locN hN 2 (by rfl) hv ?_
          exact ⟨rfl, rfl, rfl⟩
        refine seg_wrap (aw_use (hx _ _ s'' S'') (fun fl s6 x vs' H' hfl S6 hr9 => ?_))
        obtain ⟨e1, e2, e3⟩ := hr9
        subst e1; subst e2; subst e3
        cases hfl
        exact again false _ _ _ s'' s6 S6 (fun q => by cases q) (fun _ _ e => e) S''.sh.base S''.sh.os ⟨pre ++ [(i, [92] ++ [c])], by rw [hTe, ee]; simp⟩
    | false =>
      refine aw_use ((t_val (Q := fun c' vs' H' => c' = false ∧ vs' = [some (.str l), some (.int i), some (.bool false), some (.str [c]), none] ∧ H' = [(E, aoEnum I (i + 1)), (I, aoStrIt l (i + 1))]) (e_locN hN 2 (by rfl) (by rfl) ⟨false, rfl, rfl, rfl, rfl⟩) : awB b _ f _ _ (isTrue _ f.env (eval _ f.env)) _) P (gensOf s₀) s3 S4) (fun t' s5 d vs1 H1 hd5 S5 hr9 => ?_)
      obtain ⟨e1, e2, e3⟩ := hr9
      subst hd5; subst e1; subst e2; subst e3
      rw [if_neg (by decide)]
      rw [show ifElse genIn = [genIn2] from rfl]
      refine seg_execs_cons ?_
      rw [show genIn2 = Stmt.If (ifTest genIn2) (ifThen genIn2) (ifElse genIn2) (ifPos genIn2) from rfl]
      refine seg_If ?_
      have htest : awB b (A.over (.forLoop (forTgt genFor) (.ref E) (forBody genFor) [] f.env) [.ret (ownK f.env (genK1 f.env) (genH0 f.env) id id) none false [] c0 p0 []]) f [some (.str l), some (.int i), some (.bool false), some (.str [c]), none] [(E, aoEnum I (i + 1)), (I, aoStrIt l (i + 1))] (isTrue (ifTest genIn2) f.env (eval (ifTest genIn2) f.env))
          fun c' vs' H' => c' = ([c] == [92]) ∧ vs' = [some (.str l), some (.int i), some (.bool false), some (.str [c]), none] ∧ H' = [(E, aoEnum I (i + 1)), (I, aoStrIt l (i + 1))] := by
        refine t_cmp (by rfl) ?_
        walk_at "nm"
        refine e_str (l := [92]) (by rfl) ?_
        refine c_eqs ?_
        exact ⟨_, rfl, rfl, rfl, rfl⟩
      refine aw_use (htest P (gensOf s₀) s5 S5) (fun t' s6 d vs1 H1 hd6 S6 hr9 => ?_)
      obtain ⟨e1, e2, e3⟩ := hr9
      subst hd6; subst e2; subst e3
      cases hb : ([c] == [92]) with
      | true =>
        rw [hb] at e1
        subst e1
        rw [if_pos rfl]
        refine seg_execs_cons ?_
        have ee : escG (c :: r) i false = escG r (i + 1) true := by rw [escG, if_neg (by decide), if_pos hb]
        rw [ee]
        have hx : awF b (A.over (.forLoop (forTgt genFor) (.ref E) (forBody genFor) [] f.env) [.ret (ownK f.env (genK1 f.env) (genH0 f.env) id id) none false [] c0 p0 []]) f [some (.str l), some (.int i), some (.bool false), some (.str [c]), none] [(E, aoEnum I (i + 1)), (I, aoStrIt l (i + 1))] (exec (stmtOr ((ifThen genIn2)[0]?)) f.env)
            fun fl vs' H' => fl = .next ∧ vs' = [some (.str l), some (.int i), some (.bool true), some (.str [c]), none] ∧ H' = [(E, aoEnum I (i + 1)), (I, aoStrIt l (i + 1))] := by
          refine x_asg ?_
          refine e_bool ?_
          intro v hv
          refine u_locN hN 2 (by rfl) hv ?_
          exact ⟨rfl, rfl, rfl⟩
        refine seg_wrap (aw_use (hx P _ s6 S6) (fun fl s7 x vs' H' hfl S7 hr9 => ?_))
        obtain ⟨e1, e2, e3⟩ := hr9
        subst e1; subst e2; subst e3
        cases hfl
        exact again true _ _ P s₀ s7 S7 (fun _ => rfl) hP hbP hos ⟨pre, by rw [hTe, ee]⟩
      | false =>
        rw [hb] at e1
        subst e1
        rw [if_neg (by decide)]
        refine seg_execs_cons ?_
        have ee : escG (c :: r) i false = (i, [c]) :: escG r (i + 1) false := by rw [escG, if_neg (by decide), if_neg (by rw [hb]; decide)]
        rw [ee, List.length_cons]
        refine seg_yield_pair (p := i) (x := [c]) rfl rfl rfl hco hkf ?_ S6 hkk hP hbP hos (by rw [hTe, ee]; simp) (by rw [hTe, ee]; simp; omega) fun s'' S'' => ?_
        · refine e_tup ?_
          refine l_cons ?_
          walk_at "nm"
          refine l_cons ?_
          walk_at "nm"
          refine l_nil ?_
          exact ⟨Nat.le_of_ble_eq_true rfl, fun t => ⟨t, rfl, rfl, rfl⟩⟩
        · exact again false _ _ _ s'' s'' S'' (fun q => by cases q) (fun _ _ e => e) S''.sh.base S''.sh.os ⟨pre ++ [(i, [c])], by rw [hTe, ee]; simp⟩
end

section
variable {b : Bs} {A : Around} {f : Fm} {vs : Vs} {H : Led}
theorem st_loc {P : Prot} {G : GProt} {s : Shared} {ns : List (Str × NameKind)} {x : Str} {av : AV} {v : Value} {E : Value → Shared → Prop} (S : St b P G f vs H s) (hn : f.env.scope.names = ns) (j : Nat) (e : ns[j]? = some (x, NameKind.local)) (hav : av.is v) :
    wpAny (M b) A (storeName f.env x v) (fun _ s' => St b P G f (vs.set j (some av)) H s' ∧ s'.heap.objs.size = s.heap.objs.size) E s := by
  subst hn
  obtain ⟨m, hm, hl⟩ := S.loc
  refine wpAny_storeName_local (S.fo.kindOf e) hm (fun h' hn' hs => ⟨?_, hs.1⟩)
    (by show (f.env.scope.kind == .class || (f.env.scope.kind == .module && f.env.locals != f.env.globals)) = false; rw [S.fo.kind]; rfl)
  have hne : ∀ i y k w, f.env.scope.names[i]? = some (y, k) → (vs.set j (some av))[i]? = some (some w) → (i = j ∧ w = av) ∨ (i ≠ j ∧ vs[i]? = some (some w)) := fun i y k w ei ew => by
    by_cases q : i = j
    · subst q
      rw [List.getElem?_set_self'] at ew
      cases hvi : vs[i]? with
      | none => rw [hvi] at ew; cases ew
      | some z => rw [hvi] at ew; simp at ew; exact .inl ⟨rfl, ew.symm⟩
    · rw [List.getElem?_set_ne (Ne.symm q)] at ew; exact .inr ⟨q, ew⟩
  refine ⟨S.fo, S.sh.but S.Lk S.La hs.extBut, S.La, S.Lk, S.ck, S.cown, fun p hp => ?_, ⟨_, hn', fun i y w ei ew => ?_⟩, fun i y k w ei hk ew => ?_⟩
  · obtain ⟨o, v', ho, hd⟩ := S.cdef p hp
    exact ⟨o, v', (hs.2 _ (S.fo.Lc p hp)).trans ho, hd⟩
  · rcases hne i y _ w ei ew with ⟨rfl, rfl⟩ | ⟨q, ew'⟩
    · rw [e] at ei; cases ei; exact ⟨v, if_pos rfl, hav⟩
    · obtain ⟨v', hv', hw⟩ := hl i y w ei ew'
      refine ⟨v', ?_, hw⟩
      have : y ≠ x := by
        rintro rfl
        have hi : i < f.env.scope.names.length := (List.getElem?_eq_some_iff.mp ei).1
        have hj : j < f.env.scope.names.length := (List.getElem?_eq_some_iff.mp e).1
        have h1 : (f.env.scope.names.map (·.1))[i]? = some y := by rw [List.getElem?_map, ei]; rfl
        have h2 : (f.env.scope.names.map (·.1))[j]? = some y := by rw [List.getElem?_map, e]; rfl
        exact q ((List.getElem?_inj (by simpa using hi) S.fo.nd).mp (h1.trans h2.symm))
      rw [if_neg this]; exact hv'
  · rcases hne i y _ w ei ew with ⟨rfl, rfl⟩ | ⟨q, ew'⟩
    · rw [e] at ei; cases ei; rcases hk with q | q <;> cases q
    · obtain ⟨a, o, v', hl', ho, hd, hw⟩ := S.cel i y k w ei hk ew'
      exact ⟨a, o, v', hl', (hs.2 _ (S.fo.Lc _ (mem_of_lookup hl'))).trans ho, hd, hw⟩
theorem st_asg {P : Prot} {G : GProt} {s : Shared} {ns : List (Str × NameKind)} {x : Str} {p pos : Pos} {value : Expr} {av : AV} {E : Value → Shared → Prop} (S : St b P G f vs H s) (hn : f.env.scope.names = ns) (j : Nat) (e : ns[j]? = some (x, NameKind.local))
    (hv : wpAny (M b) A (eval value f.env) (fun v s' => av.is v ∧ St b P G f vs H s' ∧ s'.heap.objs.size = s.heap.objs.size) E s) (hs : swapsWith value (some (.Name x p)) pos.line f.env = pure false := by rfl) :
    wpAny (M b) A (exec (.Assign [.Name x p] value pos) f.env) (fun fl s' => fl = .next ∧ St b P G f (vs.set j (some av)) H s' ∧ s'.heap.objs.size = s.heap.objs.size) E s :=
  wpAny_Assign_Name (wpAny_mono hv (fun v s1 ⟨hav, S1, hz⟩ => wpAny_mono (st_loc S1 hn j e hav) (fun _ s2 ⟨S2, hz2⟩ => ⟨rfl, S2, hz2.trans hz⟩) fun _ _ e => e) fun _ _ e => e) hs
theorem st_enum {P : Prot} {G : GProt} {s : Shared} {l : List Nat} {v : Value} {E : Value → Shared → Prop} (S : St b P G f vs H s) (hl : l.all (· < 128) = true) (hv : (AV.str l).is v) :
    wpAny (M b) A (call (.type "enumerate") [v] []) (fun r s' => r = .ref (s.heap.objs.size + 1) ∧ St b P G f vs ((s.heap.objs.size + 1, aoEnum s.heap.objs.size 0) :: (s.heap.objs.size, aoStrIt l 0) :: H) s') E s := by
  obtain ⟨t, rfl⟩ := hv
  have ety : strIterType ⟨l.toArray⟩ = "str_ascii_iterator" := by
    unfold strIterType
    rw [if_pos (by simpa using hl)]
  refine call_enumerate_str fun h' he hit hsz hk => ?_
  rw [ety] at hit
  obtain ⟨oI, hoI, hcl, hd⟩ := hit
  have fr := S.sh.fresh
  have fresh : ∀ a, s.heap.objs.size ≤ a → a ∉ keys H := fun a ha q => by
    obtain ⟨o, ho⟩ := S.sh.key_some q
    exact absurd (Heap.lt_size ho) (Nat.not_lt.mpr ha)
  refine ⟨rfl, S.redo (t := s.toks) (H' := (s.heap.objs.size + 1, aoEnum s.heap.objs.size 0) :: (s.heap.objs.size, aoStrIt l 0) :: H) (fun a o _ e => hk a o e) ?_ ?_ ?_⟩
  · intro a ha
    rcases List.mem_cons.mp ha with rfl | q
    · exact .inr (Nat.le_succ _)
    rcases List.mem_cons.mp q with rfl | q
    · exact .inr (Nat.le_refl _)
    · exact .inl q
  · refine List.nodup_cons.mpr ⟨?_, List.nodup_cons.mpr ⟨fr.1, S.sh.nodup⟩⟩
    intro q
    rcases List.mem_cons.mp q with q | q
    · exact absurd q (Nat.succ_ne_self _)
    · exact fresh _ (Nat.le_succ _) q
  · intro p hp
    rcases List.mem_cons.mp hp with rfl | hp
    · exact ⟨_, he, _, rfl⟩
    rcases List.mem_cons.mp hp with rfl | hp
    · exact ⟨oI, hoI, hcl, t, hd⟩
    · exact (S.sh.led p hp).mono fun o e => hk _ o e
/-- pyIter of an enumerate -/
theorem st_iter_enum {P : Prot} {G : GProt} {s : Shared} {Ea I : Addr} {i : Nat} {E : Value → Shared → Prop} (S : St b P G f vs H s) (hm : (Ea, aoEnum I i) ∈ H) {Q : Value → Shared → Prop} (h : Q (.ref Ea) s) : wpAny (M b) A (pyIter (.ref Ea)) Q E s := by
  obtain ⟨o, ho, old, e⟩ := S.sh.led _ hm
  subst e
  exact wpAny_pyIter_enum ho h

noncomputable def genA1 : Stmt := stmtOr ((bodyOf (stAt 1))[0]?)
noncomputable def genA2 : Stmt := stmtOr ((bodyOf (stAt 1))[1]?)
noncomputable def forIter : Stmt → Expr
  | .For _ i .. => i
  | _ => default
noncomputable def forPos : Stmt → Pos
  | .For _ _ _ _ p => p
  | _ => default
theorem gen_start (B : Blt b) {l : List Nat} (ha : l.all (· < 128) = true) {s₀ : Shared} (hA : A.handled = none) (hN : NS f genScope) (hco : f.env.scope.isCoroutine = false) (hkf : f.env.scope.kind = .function)
    (S : St b (PL s₀.heap [f.env.locals]) (gensOf s₀) f [some (.str l), none, none, none, none] [] s₀) :
    Seg (M b) A (RG f.env.locals (s₀.heap.objs.size + 1) s₀.heap.objs.size) (YG b f (escG l 0 false) (s₀.heap.objs.size + 1) s₀.heap.objs.size) (escG l 0 false).length s₀ (.func (bodyOf (stAt 1)) f.env) ((M b).den (.func (bodyOf (stAt 1)) f.env)) [] s₀ := by
  refine seg_func ?_
  rw [show bodyOf (stAt 1) = [genA1, genA2, genFor, genIf] from rfl]
  refine seg_execs_cons ?_
  refine seg_wrap (wpAny_mono (st_asg (av := .int 0) S hN.eq 1 (by rfl) (wpAny_Constant_int ⟨⟨_, rfl⟩, S.tok _, rfl⟩) (by rfl)) (fun fl s1 ⟨e, S1, z1⟩ => ?_) fun _ _ e => e)
  subst e
  refine seg_execs_cons ?_
  refine seg_wrap (wpAny_mono (st_asg (av := .bool false) S1 hN.eq 2 (by rfl) (wpAny_Constant_bool ⟨rfl, S1, rfl⟩) (by rfl)) (fun fl s2 ⟨e, S2, z2⟩ => ?_) fun _ _ e => e)
  subst e
  have hz : s2.heap.objs.size = s₀.heap.objs.size := z2.trans z1
  refine seg_execs_cons ?_
  rw [show genFor = Stmt.For (forTgt genFor) (forIter genFor) (forBody genFor) [] (forPos genFor) from rfl]
  refine seg_For ?_ (by intro _; rfl)
  have hcall : wpAny (M b) (A.over (.func [genA1, genA2, genFor, genIf] f.env) []) (eval (forIter genFor) f.env) (fun r s' => r = .ref (s2.heap.objs.size + 1) ∧ St b (PL s₀.heap [f.env.locals]) (gensOf s₀) f [some (.str l), some (.int 0), some (.bool false), none, none] ((s2.heap.objs.size + 1, aoEnum s2.heap.objs.size 0) :: (s2.heap.objs.size, aoStrIt l 0) :: []) s') (fun _ _ => False) s2 := by
    refine wpAny_Call_NameR (wpAny_Name ?_ (by decide))
    rw [loadName_read S2.fo.kind (S2.fo.kindOf (j := 4) (by rw [hN.eq]; rfl))]
    refine loadGlobal_builtin (by rw [S2.fo.glob]; exact S2.sh.globals) B.enumerate.1 (by rw [S2.fo.bi]; exact S2.sh.builtins) B.enumerate.2 ?_
    obtain ⟨m, hm, hlm⟩ := S2.loc
    obtain ⟨v, hx, hav⟩ := hlm 0 (Str.ofString "addr") (.str l) (by rw [hN.eq]; rfl) rfl
    refine callWith_of (P := fun _ => True) rfl (fun hp hb => ⟨.machine, .inr (.inl rfl), Looks.of_pure rfl⟩) (Calls.evalArgs_plain (wpAny_items_cons (wpAny_Name ?_ (by decide)) rfl))
    refine wpAny_loadName_local S2.fo.kind (S2.fo.kindOf (j := 0) (by rw [hN.eq]; rfl)) hm hx ?_
    exact wpAny_items_nil ⟨trivial, st_enum S2 ha hav⟩
  refine wpAny_mono hcall (fun r s3 ⟨e, S3⟩ => ?_) fun _ _ e => e
  subst e
  refine st_iter_enum S3 (.head _) fun p => ?_
  rw [hz] at S3 ⊢
  have hlt : ∀ a o, s₀.heap.get? a = some o → a ≠ s₀.heap.objs.size + 1 ∧ a ≠ s₀.heap.objs.size := fun a o e => by
    have := Heap.lt_size e
    exact ⟨Nat.ne_of_lt (Nat.lt_succ_of_lt this), Nat.ne_of_lt this⟩
  exact gen_loop hA hN hco hkf l 0 false _ _ (PL s₀.heap [f.env.locals]) s₀ s3 rfl (Nat.zero_le _) S3 (fun q => by cases q)
    (fun a o q => ⟨q.1, fun m => q.2 (by simp only [List.mem_singleton] at m; subst m; exact .head _)⟩)
    (fun a o e => by
      have hb := S.sh.base a o e
      have h2 := hlt a o hb.1
      refine ⟨hb.1, fun m => ?_⟩
      simp only [List.mem_cons, List.not_mem_nil, or_false] at m
      rcases m with m | m | m
      · exact hb.2 (by simp [m])
      · exact h2.1 m
      · exact h2.2 m) S.sh.os ⟨[], rfl⟩
end

section
variable {b : Bs} {A : Around} {f : Fm} {vs : Vs} {H : Led}
/-- one more thing out of a generator -/
theorem next_gen {E : Value → Shared → Prop} {s : Shared} {a : Addr} {g n : Nat} {gs : GenState} {R : GenEnd} {Y : Protocol} {Q : Option Value → Shared → Prop} (hh : A.handled = none) (hl : s.heap.NoLimit) (hroom : A.depth < recursionLimit) (hg : s.heap.IsGen a g) (hgs : s.gens[g]? = some gs)
    (hgo : gs.Goes (M b) A.in1 R Y n (.send .none) (s.setGen g .running))
    (hR : ∀ r s₁, R n (s.setGen g .running) r s₁ → r = .ok (.ret .none) ∧ ∀ h', (∀ b o, s₁.heap.get? b = some o → h'.get? b = some o) → Q none { s₁.setGen g .finished with heap := h' })
    (hY : ∀ v s₁ gs', gs'.bare = true → Y (n - 1) (s.setGen g .running) v s₁ (fun r' s'' => match n with
        | 0 => False
        | m + 1 => gs'.Goes (M b) A.in1 R Y m r' s'') → Q (some v) (s₁.setGen g gs')) :
    wpAny (M b) A (pyNext (.ref a)) Q E s := by
  unfold pyNext
  have hT := hg.typeIs
  refine wpAny_bind (wpAny_attempt (wpAny_callSpecial?_slot (name := Str.ofString "__next__") hT slot_gen_next (wpAny_call_entry slot_gen_next hT entry_gen_next ?_ (args_gen_next _))))
  show wpAny _ _ (Builtin.Generator.genWake (.ref a) (.send .none)) _ _ s
  unfold Builtin.Generator.genWake
  refine wpAny_bind (wpAny_holding (wpAny_genNumber hg (wpAny_bind (wpAny_genState hgs ?_))))
  have fin : ∀ r s₁, R n (s.setGen g .running) r s₁ → r = .ok (.ret .none) := fun r s₁ h => (hR r s₁ h).1
  cases gs with
  | running => exact hgo.elim
  | finished => exact hgo.elim
  | _ =>
    refine wpAny_bind (wpAny_roomToWake hl hroom ?_)
    refine wpAny_resumeQ hgs hgo (fun x s₁ hx => ?_) (fun v s₁ gs' hb hv => wpAny_pure ⟨v, rfl, wpAny_pure (hY v s₁ gs' hb hv)⟩)
    obtain ⟨rfl, hq⟩ := hR x s₁ hx
    show wpAny _ _ (newExc (.type "StopIteration") [] >>= _) _ _ _
    refine wpAny_bind ?_
    simp only [newExc, newTuple]
    refine wpAny_bind (wpAny_newObj_type ?_ (by size_fits))
    refine wpAny_bind (m := firstArgMember _ _) (wpAny_of_eq (a := Value.none) (by first | rfl | (simp only [firstArgMember]; rfl)) ?_)
    refine wpAny_newObj_type ?_ (by size_fits)
    simp only [raiseNew]
    refine wpAny_bind (wpAny_bind (wpAny_handled ?_))
    rw [show A.in1.handled = none from hh]
    refine wpAny_throw ?_
    refine wpAny_bind (wpAny_isInstance (T := "StopIteration") (b := true) ⟨_, Heap.get?_push_size _ rfl, rfl⟩ isSubtype_stop ?_)
    exact wpAny_pure (hq _ fun b o hb => Heap.get?_push_of_some _ (Heap.get?_push_of_some _ hb))

/-- the generator's own things stand as they stood -/
theorem own_move {B : List Addr} {fg : Fm} {vsg : Vs} {Hg : Led} {s s' : Shared} (S : St b (PL s.heap B) (gensOf s) fg vsg Hg s) (hL : fg.env.locals ∈ B) (hk : ∀ a ∈ keys Hg, a ∈ B) (hcl : fg.env.cells = [])
    (hs : ∀ a o, (a = fg.env.locals ∨ a ∈ keys Hg) → s.heap.get? a = some o → s'.heap.get? a = some o) (hb : ∀ a o, b.h₀.get? a = some o → s'.heap.get? a = some o) (hg : ∀ x ∈ s'.gens, x.bare = true) (hos : s'.os = b.os) :
    St b (PL s'.heap B) (gensOf s') fg vsg Hg s' := by
  obtain ⟨m, hm, hl⟩ := S.loc
  refine ⟨S.fo, ⟨S.sh.ok, fun a o e => ⟨hb a o e, (S.sh.base a o e).2⟩, fun a o q => q.1, fun a ha o q => q.2 (hk a ha), S.sh.nodup, fun p hp => (S.sh.led p hp).mono fun o e => hs _ o (.inr (List.mem_map_of_mem (f := (·.1)) hp)) e, fun i x q => q, hg, hos⟩,
    fun o q => q.2 hL, S.Lk, fun p hp => absurd hp (by rw [hcl]; exact List.not_mem_nil), fun _ p hp => absurd hp (by rw [hcl]; exact List.not_mem_nil), fun p hp => absurd hp (by rw [hcl]; exact List.not_mem_nil), ⟨m, hm.at' fun o e => hs _ o (.inl rfl) e, hl⟩, fun j x k av ej hkk hv => ?_⟩
  obtain ⟨a, o, v, hl', _⟩ := S.cel j x k av ej hkk hv
  rw [hcl] at hl'
  cases hl'
end

/-- P, and the things of X as they stand -/
noncomputable def heldL (P : Prot) (s : Shared) (X : List Addr) : Prot := fun a o => P a o ∨ (a ∈ X ∧ s.heap.get? a = some o)
section
variable {b : Bs} {A : Around} {f : Fm} {vs : Vs} {H : Led}
/-- what the things hidden in X keep apart from -/
theorem held_apart {P : Prot} {G : GProt} {s : Shared} {X : List Addr} (S : St b (heldL P s X) G f vs H s) (hown : f.own = true) {a : Addr} (ha : a ∈ X) : a ∉ keys H ∧ a ≠ f.env.locals ∧ (∀ p ∈ f.env.cells, a ≠ p.2) := by
  refine ⟨fun q => ?_, fun q => ?_, fun p hp q => ?_⟩
  · obtain ⟨o, ho⟩ := S.sh.key_some q
    exact S.sh.apart a q o (.inr ⟨ha, ho⟩)
  · obtain ⟨m, ⟨oL, _, _, hL, _⟩, _⟩ := S.loc
    exact S.La oL (.inr ⟨q ▸ ha, hL⟩)
  · obtain ⟨o, v, ho, _⟩ := S.cdef p hp
    exact S.cown hown p hp o (.inr ⟨q ▸ ha, ho⟩)
theorem St.carry {P : Prot} {G : GProt} {s s' : Shared} {X : List Addr} (S : St b (heldL P s X) G f vs H s) (hown : f.own = true) (hPd : ∀ a ∈ X, ∀ o, ¬ P a o) (hb : ∀ a o, b.h₀.get? a = some o → P a o)
    (hk : ∀ a o, s.heap.get? a = some o → a ∉ X → s'.heap.get? a = some o) (hG : ∀ i x, G i x → s'.gens[i]? = some x) (hgb : ∀ x ∈ s'.gens, x.bare = true) (hos : s'.os = b.os) : St b P G f vs H s' := by
  have nX : ∀ a, (a ∈ keys H ∨ a = f.env.locals ∨ (∃ p ∈ f.env.cells, a = p.2)) → a ∉ X := fun a q hx => by
    obtain ⟨h1, h2, h3⟩ := held_apart S hown hx
    rcases q with q | q | ⟨p, hp, q⟩
    · exact h1 q
    · exact h2 q
    · exact h3 p hp q
  obtain ⟨m, hm, hl⟩ := S.loc
  refine ⟨S.fo, ⟨S.sh.ok, hb, fun a o e => hk a o (S.sh.keep a o (.inl e)) (fun q => hPd a q o e), fun a ha o e => S.sh.apart a ha o (.inl e), S.sh.nodup,
    fun p hp => (S.sh.led p hp).mono fun o e => hk _ o e (nX _ (.inl (List.mem_map_of_mem (f := (·.1)) hp))), hG, hgb, hos⟩, fun o e => S.La o (.inl e), S.Lk, S.ck, fun hown p hp o e => S.cown hown p hp o (.inl e),
    fun p hp => ?_, ⟨m, hm.at' fun o e => hk _ o e (nX _ (.inr (.inl rfl))), hl⟩, fun j x k av ej hkk hv => ?_⟩
  · obtain ⟨o, v, ho, hd⟩ := S.cdef p hp
    exact ⟨o, v, hk _ o ho (nX _ (.inr (.inr ⟨p, hp, rfl⟩))), hd⟩
  · obtain ⟨a, o, v, hl', ho, r⟩ := S.cel j x k av ej hkk hv
    exact ⟨a, o, v, hl', hk _ o ho (nX _ (.inr (.inr ⟨_, mem_of_lookup hl', rfl⟩))), r⟩
theorem St.hideL {P : Prot} {G : GProt} {s : Shared} {X : List Addr} (S : St b P G f vs H s) (hX : ∀ a ∈ X, a ∉ keys H ∧ a ≠ f.env.locals ∧ (∀ p ∈ f.env.cells, a ≠ p.2)) : St b (heldL P s X) G f vs H s :=
  ⟨S.fo, S.sh.protect fun a o e => ⟨e.2, (hX a e.1).1⟩, fun o e => e.elim (S.La o) fun e => (hX _ e.1).2.1 rfl, S.Lk, S.ck, fun hown p hp o e => e.elim (S.cown hown p hp o) fun e => (hX _ e.1).2.2 p hp rfl, S.cdef, S.loc, S.cel⟩
theorem St.addL {P : Prot} {G : GProt} {s : Shared} {a : Addr} {ao : AO} (S : St b P G f vs H s) (hk : a ∉ keys H) (hP : ∀ o, ¬ P a o) (hL : a ≠ f.env.locals) (hc : ∀ p ∈ f.env.cells, a ≠ p.2) (ho : OR s.heap a ao) : St b P G f vs ((a, ao) :: H) s :=
  S.up (S.down.add hk (fun o e => e.elim (hP o) fun e => by
    rcases e.1 with q | ⟨p, hp, q⟩
    · exact hL q
    · exact hc p hp q) ho)
/-- a state of the generator alone, as it stands here -/
theorem own_here {P : Prot} {G : GProt} {B : List Addr} {fg : Fm} {vsg : Vs} {Hg : Led} {x : Addr × AO} {s : Shared} (S : St b P G fg vsg (x :: Hg) s) (hbB : ∀ a o, b.h₀.get? a = some o → a ∉ B) (hL : fg.env.locals ∈ B) (hk : ∀ a ∈ keys Hg, a ∈ B) (hcl : fg.env.cells = []) :
    St b (PL s.heap B) (gensOf s) fg vsg Hg s := by
  have S1 := S.sub (List.sublist_cons_self x Hg)
  refine ⟨S.fo, ⟨S.sh.ok, fun a o e => ⟨S.sh.old e, hbB a o e⟩, fun a o q => q.1, fun a ha o q => q.2 (hk a ha), S1.sh.nodup, S1.sh.led, fun i x q => q, S.sh.gb, S.sh.os⟩,
    fun o q => q.2 hL, S1.Lk, S1.ck, fun _ p hp => absurd hp (by rw [hcl]; exact List.not_mem_nil), S.cdef, S.loc, S.cel⟩

/-- a generator that has n things left -/
structure GI (b : Bs) (A : Around) (T : List (Nat × List Nat)) (ga : Addr) (g : Nat) (fg : Fm) (E I : Addr) (n : Nat) (s : Shared) : Prop where
  isgen : s.heap.IsGen ga g
  own : ∃ gs vsg Hg, s.gens[g]? = some gs ∧ gs.bare = true ∧ St b (PL s.heap [fg.env.locals, E, I]) (gensOf s) fg vsg Hg s ∧ keys Hg = [E, I] ∧
    ∀ s'', St b (PL s''.heap [fg.env.locals, E, I]) (gensOf s'') fg vsg Hg s'' → gs.Goes (M b) A.in1 (RG fg.env.locals E I) (YG b fg T E I) n (.send .none) s''
theorem GI.move {T : List (Nat × List Nat)} {ga : Addr} {g : Nat} {fg : Fm} {E I : Addr} {n : Nat} {s s' : Shared} (X : GI b A T ga g fg E I n s) (hcl : fg.env.cells = [])
    (hs : ∀ a o, a ∈ [ga, fg.env.locals, E, I] → s.heap.get? a = some o → s'.heap.get? a = some o) (hg' : ∀ x, s.gens[g]? = some x → s'.gens[g]? = some x) (hb : ∀ a o, b.h₀.get? a = some o → s'.heap.get? a = some o) (hg : ∀ x ∈ s'.gens, x.bare = true) (hos : s'.os = b.os) :
    GI b A T ga g fg E I n s' := by
  obtain ⟨⟨o, nm, qn, ho, r⟩, gs, vsg, Hg, h1, h2, h3, h4, h5⟩ := X
  refine ⟨⟨o, nm, qn, hs _ _ (.head _) ho, r⟩, gs, vsg, Hg, hg' _ h1, h2, own_move h3 (.head _) (fun a ha => by rw [h4] at ha; exact .tail _ ha) hcl (fun a o q e => hs a o ?_ e) hb hg hos, h4, h5⟩
  rcases q with rfl | q
  · exact .tail _ (.head _)
  · rw [h4] at q; exact .tail _ (.tail _ q)
end

section
variable {b : Bs} {A : Around} {f : Fm} {vs : Vs} {H : Led}
theorem gens_set_ne {s : Shared} {i g : Nat} {x y : GenState} (h : s.gens[i]? = some x) (hne : i ≠ g) : (s.setGen g y).gens[i]? = some x := by
  show (s.gens.setIfInBounds g y)[i]? = some x
  rw [Array.getElem?_setIfInBounds_ne (Ne.symm hne)]
  exact h
theorem gens_set_bare {s : Shared} {g : Nat} {y : GenState} (h : ∀ x ∈ s.gens, x.bare = true) (hy : y.bare = true) : ∀ x ∈ (s.setGen g y).gens, x.bare = true := by
  intro x hx
  have hx : x ∈ s.gens.setIfInBounds g y := hx
  obtain ⟨i, hi, e⟩ := Array.mem_iff_getElem.mp hx
  have hi' : i < s.gens.size := by simpa using hi
  rw [Array.getElem_setIfInBounds hi'] at e
  split at e
  · rw [← e]; exact hy
  · rw [← e]; exact h _ (Array.getElem_mem hi')
theorem gi_next0 {T : List (Nat × List Nat)} {ga : Addr} {g : Nat} {fg : Fm} {E I : Addr} {n k : Nat} {P : Prot} {G : GProt} {s : Shared} {gs : GenState} (R : Room A k) (hcl : fg.env.cells = []) (S : St b (heldL P s [ga, fg.env.locals, E, I]) G f vs H s) (hown : f.own = true)
    (hPd : ∀ a ∈ [ga, fg.env.locals, E, I], ∀ o, ¬ P a o) (hb : ∀ a o, b.h₀.get? a = some o → P a o) (hgG : ∀ i x, G i x → i ≠ g) (hne : ga ∉ [fg.env.locals, E, I]) (hgen : s.heap.IsGen ga g) (hgs : s.gens[g]? = some gs)
    (hgo : gs.Goes (M b) A.in1 (RG fg.env.locals E I) (YG b fg T E I) n (.send .none) (s.setGen g .running)) :
    wpAny (M b) A (pyNext (.ref ga)) (fun r s' => (n = 0 ∧ r = none ∧ St b P G f vs H s') ∨ (∃ m t p x, n = m + 1 ∧ r = some (.ref t) ∧ T[T.length - (m + 1)]? = some (p, x) ∧ m < T.length ∧
      St b (heldL P s' [ga, fg.env.locals, E, I]) G f vs ((t, .tuple [.int (p : Nat), .str x]) :: H) s' ∧ GI b A T ga g fg E I m s')) (fun _ _ => False) s := by
  have hBs : ∀ a o, b.h₀.get? a = some o → a ∉ [fg.env.locals, E, I] := fun a o e q => hPd a (.tail _ q) o (hb a o e)
  have hglt : g < s.gens.size := (Array.getElem?_eq_some_iff.mp hgs).1
  have notX : ∀ a o, s.heap.get? a = some o → a ∉ [ga, fg.env.locals, E, I] → a ∉ [fg.env.locals, E, I] := fun a o _ q r => q (.tail _ r)
  refine next_gen R.handled S.sh.nolim R.limit hgen hgs hgo (fun r s₁ hr => ?_) (fun v s₁ gs' hb' hy => ?_)
  · obtain ⟨h1, h2, h3, h4, h5, h6⟩ := hr
    refine ⟨h1, fun h' hk => .inl ⟨h2, rfl, ?_⟩⟩
    refine S.carry hown hPd hb (fun a o e q => hk a o (h3 a o e (notX a o e q))) (fun i x q => ?_) (gens_set_bare h5 rfl) (h6.trans S.sh.os)
    exact gens_set_ne (h4 i x (gens_set_ne (S.sh.gk i x q) (hgG i x q))) (hgG i x q)
  · obtain ⟨t, p, x, vs1, H1, e1, hT, hm, htL, htk, htP, S1, hk1, hos1, hkap⟩ := hy
    subst e1
    have hcl' := hcl
    cases n with
    | zero =>
      exact (hkap s₁ (own_here S1 hBs (.head _) (fun a ha => by rw [hk1] at ha; exact .tail _ ha) hcl)).elim
    | succ m =>
      have keep : ∀ a o, s.heap.get? a = some o → a ∉ [fg.env.locals, E, I] → s₁.heap.get? a = some o := fun a o e q => S1.sh.keep a o ⟨e, q⟩
      have tne : ∀ a o, s.heap.get? a = some o → a ∉ [fg.env.locals, E, I] → t ≠ a := fun a o e q r => htP o (by rw [r]; exact ⟨e, q⟩)
      have gb2 : ∀ x ∈ (s₁.setGen g gs').gens, x.bare = true := gens_set_bare S1.sh.gb hb'
      have hG2 : ∀ i x, G i x → (s₁.setGen g gs').gens[i]? = some x := fun i x q => gens_set_ne (S1.sh.gk i x (gens_set_ne (S.sh.gk i x q) (hgG i x q))) (hgG i x q)
      have os2 : (s₁.setGen g gs').os = b.os := S1.sh.os
      have C : St b P G f vs H (s₁.setGen g gs') := S.carry hown hPd hb (fun a o e q => keep a o e (notX a o e q)) hG2 gb2 os2
      have hXa : ∀ a ∈ [ga, fg.env.locals, E, I], a ∉ keys H ∧ a ≠ f.env.locals ∧ (∀ p ∈ f.env.cells, a ≠ p.2) := fun a ha => held_apart S hown ha
      obtain ⟨og, nm, qn, hog, rg⟩ := hgen
      have tX : t ∉ [ga, fg.env.locals, E, I] := by
        intro q
        rcases List.mem_cons.mp q with q | q
        · exact tne ga og hog hne q
        · rcases List.mem_cons.mp q with q | q
          · exact htL q
          · exact htk (by rw [hk1]; exact q)
      have tH : t ∉ keys H := fun q => by
        obtain ⟨o, ho⟩ := S.sh.key_some q
        exact tne t o ho (fun r => (hXa t (.tail _ r)).1 q) rfl
      have tP : ∀ o, ¬ P t o := fun o q => tne t o (S.sh.keep t o (.inl q)) (fun r => hPd t (.tail _ r) o q) rfl
      have tL : t ≠ f.env.locals := fun q => by
        obtain ⟨mm, ⟨oL, _, _, hL, _⟩, _⟩ := S.loc
        exact tne t oL (q ▸ hL) (fun r => (hXa t (.tail _ r)).2.1 q) rfl
      have tc : ∀ p ∈ f.env.cells, t ≠ p.2 := fun p hp q => by
        obtain ⟨o', v', ho', _⟩ := S.cdef p hp
        exact tne t o' (q ▸ ho') (fun r => (hXa t (.tail _ r)).2.2 p hp q) rfl
      have C2 := C.addL (a := t) (ao := .tuple [.int (p : Nat), .str x]) tH tP tL tc (S1.sh.led _ (.head _))
      have C3 : St b (heldL P (s₁.setGen g gs') [ga, fg.env.locals, E, I]) G f vs ((t, .tuple [.int (p : Nat), .str x]) :: H) (s₁.setGen g gs') := C2.hideL fun a ha => ⟨fun q => by
        rcases List.mem_cons.mp q with q | q
        · exact tX (by have q' : a = t := q; rw [← q']; exact ha)
        · exact (hXa a ha).1 q, (hXa a ha).2⟩
      have og1 : s₁.heap.get? ga = some og := keep ga og hog hne
      have glt1 : g < s₁.gens.size := by
        have := S1.sh.gk g .running (by
          show (s.gens.setIfInBounds g .running)[g]? = some .running
          rw [Array.getElem?_setIfInBounds_self_of_lt hglt])
        exact (Array.getElem?_eq_some_iff.mp this).1
      have own1 := own_here S1 hBs (.head _) (fun a ha => by rw [hk1] at ha; exact .tail _ ha) hcl
      refine .inr ⟨m, t, p, x, rfl, rfl, hT, hm, C3, ⟨og, nm, qn, og1, rg⟩, gs', vs1, H1, ?_, hb', own_move own1 (.head _) (fun a ha => by rw [hk1] at ha; exact .tail _ ha) hcl (fun _ _ _ e => e) (fun a o e => S1.sh.old e) gb2 os2, hk1, fun s'' S'' => hkap s'' S''⟩
      show (s₁.gens.setIfInBounds g gs')[g]? = some gs'
      rw [Array.getElem?_setIfInBounds_self_of_lt glt1]
theorem GI.goes {T : List (Nat × List Nat)} {ga : Addr} {g : Nat} {fg : Fm} {E I : Addr} {n : Nat} {P : Prot} {G : GProt} {s : Shared} (Y : GI b A T ga g fg E I n s) (hcl : fg.env.cells = []) (S : SH b P G H s) :
    ∃ gs, s.gens[g]? = some gs ∧ gs.Goes (M b) A.in1 (RG fg.env.locals E I) (YG b fg T E I) n (.send .none) (s.setGen g .running) := by
  obtain ⟨hgen, gs, vsg, Hg, hgs, hbare, hSg, hkHg, hgo⟩ := Y
  exact ⟨gs, hgs, hgo _ (own_move hSg (.head _) (fun a ha => by rw [hkHg] at ha; exact .tail _ ha) hcl (fun _ _ _ e => e) (fun a o e => S.old e) (gens_set_bare S.gb rfl) S.os)⟩
theorem GI.objs {T : List (Nat × List Nat)} {ga : Addr} {g : Nat} {fg : Fm} {E I : Addr} {n : Nat} {s : Shared} (Y : GI b A T ga g fg E I n s) : ∀ a ∈ [ga, fg.env.locals, E, I], ∃ o, s.heap.get? a = some o := by
  obtain ⟨⟨o, nm, qn, ho, r⟩, gs, vsg, Hg, hgs, hbare, hSg, hkHg, hgo⟩ := Y
  intro a ha
  rcases List.mem_cons.mp ha with rfl | ha
  · exact ⟨o, ho⟩
  rcases List.mem_cons.mp ha with rfl | ha
  · obtain ⟨m, ⟨oL, _, _, hL, _⟩, _⟩ := hSg.loc
    exact ⟨oL, hL⟩
  · exact hSg.sh.key_some (by rw [hkHg]; exact ha)
theorem St.gprot {P : Prot} {G G' : GProt} {s : Shared} (S : St b P G f vs H s) (h : ∀ i x, G' i x → s.gens[i]? = some x) : St b P G' f vs H s :=
  ⟨S.fo, ⟨S.sh.ok, S.sh.base, S.sh.keep, S.sh.apart, S.sh.nodup, S.sh.led, h, S.sh.gb, S.sh.os⟩, S.La, S.Lk, S.ck, S.cown, S.cdef, S.loc, S.cel⟩
theorem letgo_gen {M : Model} {Q : Unit → Shared → Prop} {E : Value → Shared → Prop} {s : Shared} {ga t : Addr} {g : Nat} {elts : List Expr} {k : Nat} {p : Pos} (hgen : s.heap.IsGen ga g) (h : Q () s) : wpAny M A (letOwnedTupleGo (.Tuple elts k p) (.ref ga) (.ref t)) Q E s := by
  obtain ⟨o, nm, qn, ho, hc, hd, _⟩ := hgen
  unfold letOwnedTupleGo
  refine wpAny_bind (wpAny_load ho ?_)
  rw [hc, hd]
  dsimp only
  rw [if_neg (by intro q; rw [Bool.and_eq_true] at q; exact absurd q.1 (by decide))]
  exact wpAny_pure h

/-- the loop over a generator -/
theorem c_forGen {T : List (Nat × List Nat)} {ga : Addr} {g : Nat} {fg : Fm} {n k : Nat} {P : Prot} {G : GProt} {s : Shared} {gs : GenState} {E I : Addr} {elts : List Expr} {kk : Nat} {tp : Pos} {body : List Stmt} {Q : AF → Vs → Led → Prop} (R : Room A k) (hcl : fg.env.cells = []) (hown : f.own = true)
    (hb : ∀ a o, b.h₀.get? a = some o → P a o) (hgG : ∀ i x, G i x → i ≠ g) (J : Nat → Vs → Led → Prop)
    (turn : ∀ n vs H, J n vs H → (n = 0 → Q .next vs H) ∧ ∀ m p x, n = m + 1 → T[T.length - (m + 1)]? = some (p, x) → ∀ t, awU b A f vs ((t, .tuple [.int (p : Nat), .str x]) :: H) (assign (.Tuple elts kk tp) f.env (.ref t)) fun _ vs1 H1 => awF b A f vs1 H1 (execs body f.env) fun fl vs2 H2 => match fl with
      | .next => J m vs2 H2
      | .cont => J m vs2 H2
      | .brk => Q .next vs2 H2
      | .ret w => Q (.ret w) vs2 H2)
    (S : St b (heldL P s [ga, fg.env.locals, E, I]) G f vs H s) (hPd : ∀ a ∈ [ga, fg.env.locals, E, I], ∀ o, ¬ P a o) (hne : ga ∉ [fg.env.locals, E, I]) (hgen : s.heap.IsGen ga g) (hgs : s.gens[g]? = some gs)
    (hgo : gs.Goes (M b) A.in1 (RG fg.env.locals E I) (YG b fg T E I) n (.send .none) (s.setGen g .running)) (h0 : J n vs H) :
    codeAny (M b) A (.forLoop (.Tuple elts kk tp) (.ref ga) body [] f.env) (FlowEnd b P G f Q) s := by
  refine codeAny_forLoop_any (fun n s => ∃ vs H gs E I, St b (heldL P s [ga, fg.env.locals, E, I]) G f vs H s ∧ (∀ a ∈ [ga, fg.env.locals, E, I], ∀ o, ¬ P a o) ∧ ga ∉ [fg.env.locals, E, I] ∧ s.heap.IsGen ga g ∧ s.gens[g]? = some gs ∧
    gs.Goes (M b) A.in1 (RG fg.env.locals E I) (YG b fg T E I) n (.send .none) (s.setGen g .running) ∧ J n vs H) ?_ n ⟨vs, H, gs, E, I, S, hPd, hne, hgen, hgs, hgo, h0⟩
  rintro n s ⟨vs, H, gs, E, I, S, hPd, hne, hgen, hgs, hgo, hJ⟩
  refine wpAny_false (wpAny_mono (gi_next0 R hcl S hown hPd hb hgG hne hgen hgs hgo) (fun r s1 hr => ?_) fun _ _ e => e)
  obtain ⟨t0, t1⟩ := turn n vs H hJ
  rcases hr with ⟨hn, rfl, S1⟩ | ⟨m, t, p, x, hn, rfl, hT, hm, S1, Y1⟩
  · exact wpAny_execs_nil ⟨.next, vs, H, rfl, S1, t0 hn⟩
  · refine letgo_gen Y1.isgen ?_
    obtain ⟨gs1, hgs1, _⟩ := Y1.goes hcl S1.sh
    have S2 : St b (heldL P s1 [ga, fg.env.locals, E, I]) (fun i x => G i x ∨ (i = g ∧ x = gs1)) f vs ((t, .tuple [.int (p : Nat), .str x]) :: H) s1 := S1.gprot fun i x q => q.elim (S1.sh.gk i x) fun q => by rw [q.1, q.2]; exact hgs1
    refine wpAny_false (aw_use (t1 m p x hn hT t _ _ _ S2) (fun _ s2 _ vs1 H1 _ S3 h1 => ?_))
    refine wpAny_false (aw_use (h1 _ _ _ S3) (fun fl s3 fx vs2 H2 hf S4 h2 => ?_))
    have S5 : St b P G f vs2 H2 s3 := S4.weak hb (fun _ _ e => .inl e) fun _ _ e => .inl e
    have keep : ∀ a o, a ∈ [ga, fg.env.locals, E, I] → s1.heap.get? a = some o → s3.heap.get? a = some o := fun a o ha e => S4.sh.keep a o (.inr ⟨ha, e⟩)
    have Y3 : GI b A T ga g fg E I m s3 := Y1.move hcl keep (fun x e => by rw [hgs1] at e; cases e; exact S4.sh.gk g gs1 (.inr ⟨rfl, rfl⟩)) (fun a o e => S4.sh.old e) S4.sh.gb S4.sh.os
    have again : J m vs2 H2 → ∃ m', m' < n ∧ ∃ vs H gs E I, St b (heldL P s3 [ga, fg.env.locals, E, I]) G f vs H s3 ∧ (∀ a ∈ [ga, fg.env.locals, E, I], ∀ o, ¬ P a o) ∧ ga ∉ [fg.env.locals, E, I] ∧ s3.heap.IsGen ga g ∧ s3.gens[g]? = some gs ∧
        gs.Goes (M b) A.in1 (RG fg.env.locals E I) (YG b fg T E I) m' (.send .none) (s3.setGen g .running) ∧ J m' vs H := fun hJ2 => by
      obtain ⟨gs3, hgs3, hgo3⟩ := Y3.goes hcl S4.sh
      refine ⟨m, by omega, vs2, H2, gs3, E, I, S4.weak (fun a o e => .inl (hb a o e)) (fun a o q => ?_) (fun _ _ e => .inl e), hPd, hne, Y3.isgen, hgs3, hgo3, hJ2⟩
      rcases q with q | ⟨ha, q⟩
      · exact .inl q
      · obtain ⟨o1, ho1⟩ := Y1.objs a ha
        have := keep a o1 ha ho1
        rw [q] at this
        cases this
        exact .inr ⟨ha, ho1⟩
    cases fx with
    | next => cases hf; exact again h2
    | cont => cases hf; exact again h2
    | brk => cases hf; exact ⟨.next, vs2, H2, rfl, S5, h2⟩
    | ret w => obtain ⟨w', rfl, hw⟩ := hf; exact ⟨.ret w, vs2, H2, ⟨w', rfl, hw⟩, S5, h2⟩
end

section
variable {b : Bs} {A : Around} {f : Fm} {vs : Vs} {H : Led}
theorem st_genCall {gaddr : Addr} (F : FnIs b gaddr (stAt 1)) {k : Nat} (R : Room A k) (B : Blt b) {l : List Nat} (ha : l.all (· < 128) = true) {v : Value} (hv : (AV.str l).is v) {P : Prot} {G : GProt} {s : Shared} (S : St b P G f vs H s) (hown : f.own = true) :
    wpAny (M b) A (call (.ref gaddr) [v] []) (fun r s' => ∃ ga g fg E I, r = .ref ga ∧ fg.env.cells = [] ∧ s'.heap.IsGen ga g ∧ (∀ i x, G i x → i ≠ g) ∧ ga ∉ [fg.env.locals, E, I] ∧ (∀ a ∈ [ga, fg.env.locals, E, I], ∀ o, ¬ P a o) ∧
      St b (heldL P s' [ga, fg.env.locals, E, I]) G f vs H s' ∧ ∃ gs : GenState, s'.gens[g]? = some gs ∧ ∀ A' : Around, A'.handled = none → gs.Goes (M b) A' (RG fg.env.locals E I) (YG b fg (escG l 0 false) E I) (escG l 0 false).length (.send .none) (s'.setGen g .running)) (fun _ _ => False) s := by
  obtain ⟨fd, FA, hsc, hpar, hdef⟩ := F
  obtain ⟨o, ho, hd⟩ := FA.there
  refine wpAny_call (codeAny_call_generator R.limit (S.sh.old ho) hd (by rw [hsc]; rfl) (by rw [hsc]; rfl) FA.body (FA.code.keeps fun a o e => S.sh.old e) ?_)
  refine binds_of (s := s) hpar hdef (binds := [("addr", v)]) rfl _ _ _ _ ?_
  rw [FA.clo, FA.glob, FA.bi]
  refine wpAny_newFunctionEnv (by rw [hsc]; decide) (fun y hy => ?_) (fun h₁ hns hsb => ?_) (by rw [hsc]; rfl)
  · simp only [List.mem_singleton] at hy; subst hy; rw [hsc]; rfl
  · have hz1 : h₁.objs.size = s.heap.objs.size + 1 := hsb.1.trans (Heap.size_push _ _)
    have keep1 : ∀ a o, s.heap.get? a = some o → h₁.get? a = some o := fun a o e => hsb.extBut a o (Nat.ne_of_lt (Heap.lt_size e)) (Heap.get?_push_of_some _ e)
    have T1 : SH b P G H { s with heap := h₁, toks := s.toks + [(Str.ofString "addr", v)].length } := S.sh.ext keep1
    refine ⟨T1.nolim, ?_⟩
    generalize hgo : ({ cls := .type "generator", data := .fields #[.int s.gens.size 0, .str fd.name (s.toks + [(Str.ofString "addr", v)].length), .str fd.qualname (s.toks + [(Str.ofString "addr", v)].length + 1)] } : Obj) = og
    generalize htk : s.toks + [(Str.ofString "addr", v)].length = tk at *
    have keep2 : ∀ a o, s.heap.get? a = some o → (h₁.push og).get? a = some o := fun a o e => Heap.get?_push_of_some _ (keep1 a o e)
    generalize hs' : ({ s with heap := h₁.push og, gens := s.gens.push (.fresh (.func (bodyOf (stAt 1)) (newEnv fd.scope s.heap.objs.size mainGlobals [] (fd.qualname ++ ".<locals>.") (some gaddr) fd.code none builtinsNs))), toks := tk + 1 + 1 } : Shared) = s'
    have eh : s'.heap = h₁.push og := by rw [← hs']
    have eg : s'.gens = s.gens.push (.fresh (.func (bodyOf (stAt 1)) (newEnv fd.scope s.heap.objs.size mainGlobals [] (fd.qualname ++ ".<locals>.") (some gaddr) fd.code none builtinsNs))) := by rw [← hs']
    have eo : s'.os = s.os := by rw [← hs']
    have hz2 : s'.heap.objs.size = s.heap.objs.size + 2 := by rw [eh, Heap.size_push, hz1]
    have hgb : ∀ x ∈ s'.gens, x.bare = true := fun x hx => by
      rw [eg] at hx
      rcases Array.mem_push.mp hx with q | rfl
      · exact S.sh.gb x q
      · rfl
    have hG : ∀ i x, G i x → s'.gens[i]? = some x := fun i x q => by
      have h1 := S.sh.gk i x q
      rw [eg, Array.getElem?_push_lt (Array.getElem?_eq_some_iff.mp h1).1]
      rw [← Array.getElem?_eq_getElem (Array.getElem?_eq_some_iff.mp h1).1]
      exact h1
    have C0 : St b P G f vs H s' := (S.weak (P' := heldL P s []) (G' := G) (fun a o e => .inl (S.sh.base a o e)) (fun a o q => q.elim id fun e => absurd e.1 List.not_mem_nil) fun _ _ e => e).carry hown (fun a ha => absurd ha List.not_mem_nil) S.sh.base
      (fun a o e _ => by rw [eh]; exact keep2 a o e) hG hgb (eo.trans S.sh.os)
    have big : ∀ a, s.heap.objs.size ≤ a → (a ∉ keys H ∧ a ≠ f.env.locals ∧ (∀ p ∈ f.env.cells, a ≠ p.2)) ∧ ∀ o, ¬ P a o := fun a hle => by
      have no : ∀ o, s.heap.get? a = some o → False := fun o e => absurd (Heap.lt_size e) (Nat.not_lt.mpr hle)
      refine ⟨⟨fun q => ?_, fun q => ?_, fun p hp q => ?_⟩, fun o q => no o (S.sh.keep a o q)⟩
      · obtain ⟨o, e⟩ := S.sh.key_some q
        exact no o e
      · obtain ⟨m, ⟨oL, _, _, hL, _⟩, _⟩ := S.loc
        exact no oL (q ▸ hL)
      · obtain ⟨o, v, e, _⟩ := S.cdef p hp
        exact no o (q ▸ e)
    have allX : ∀ a ∈ [h₁.objs.size, s.heap.objs.size, s'.heap.objs.size + 1, s'.heap.objs.size], s.heap.objs.size ≤ a := fun a ha => by
      simp only [List.mem_cons, List.not_mem_nil, or_false] at ha
      rcases ha with q | q | q | q
      · rw [q, hz1]; exact Nat.le_succ _
      · rw [q]; exact Nat.le_refl _
      · rw [q, hz2]; exact Nat.le_trans (Nat.le_add_right _ 2) (Nat.le_succ _)
      · rw [q, hz2]; exact Nat.le_add_right _ 2
    refine ⟨h₁.objs.size, s.gens.size, ⟨newEnv fd.scope s.heap.objs.size mainGlobals [] (fd.qualname ++ ".<locals>.") (some gaddr) fd.code none builtinsNs, true⟩, s'.heap.objs.size + 1, s'.heap.objs.size, rfl, rfl, ?_, ?_, ?_, fun a ha o q => (big a (allX a ha)).2 o q, C0.hideL fun a ha => (big a (allX a ha)).1, .fresh (.func (bodyOf (stAt 1)) (newEnv fd.scope s.heap.objs.size mainGlobals [] (fd.qualname ++ ".<locals>.") (some gaddr) fd.code none builtinsNs)), by rw [eg]; simp, fun A' hA' => ⟨rfl, ?_⟩⟩
    · rw [eh]
      exact ⟨og, _, _, Heap.get?_push_size _ (by rw [← hgo]; rfl), by rw [← hgo], by rw [← hgo], by rw [← hgo]⟩
    · intro i x q
      exact Nat.ne_of_lt (Array.getElem?_eq_some_iff.mp (S.sh.gk i x q)).1
    · rw [hz1, hz2]
      simp only [List.mem_cons, List.not_mem_nil, or_false, not_or]
      refine ⟨Nat.succ_ne_self _, ?_, ?_⟩
      · exact Nat.ne_of_lt (Nat.lt_succ_of_lt (Nat.lt_succ_self _))
      · exact Nat.ne_of_lt (Nat.lt_succ_self _)
    · have eh2 : (s'.setGen s.gens.size .running).heap = h₁.push og := eh
      refine gen_start (s₀ := s'.setGen s.gens.size .running) (f := ⟨newEnv fd.scope s.heap.objs.size mainGlobals [] (fd.qualname ++ ".<locals>.") (some gaddr) fd.code none builtinsNs, true⟩) B ha hA' ⟨by show fd.scope.names = _; rw [hsc]; rfl⟩ (by show fd.scope.isCoroutine = false; rw [hsc]; rfl) (by show fd.scope.kind = .function; rw [hsc]; rfl) ?_
      refine ⟨⟨by show fd.scope.kind = .function; rw [hsc]; rfl, rfl, rfl, by show (fd.scope.names.map (·.1)).Nodup; rw [hsc]; decide, by simp [newEnv], fun p hp => by simp [newEnv] at hp⟩,
        ⟨S.sh.ok, fun a o e => ⟨by rw [eh2]; exact keep2 a o (S.sh.old e), fun q => ?_⟩, fun a o q => q.1, fun a ha => by simp [keys] at ha, by simp [keys], fun p hp => by simp at hp, fun i x q => q, gens_set_bare hgb rfl, eo.trans S.sh.os⟩,
        fun o q => q.2 (.head _), by simp [keys], fun p hp => by simp [newEnv] at hp, fun _ p hp => by simp [newEnv] at hp, fun p hp => by simp [newEnv] at hp, ⟨_, by rw [eh2]; exact hns.push _, fun j x av hj hjv => ?_⟩, fun j x k av hj hk2 hjv => ?_⟩
      · simp only [List.mem_singleton] at q
        have := Heap.lt_size (S.sh.old e)
        rw [q] at this
        exact Nat.lt_irrefl _ this
      · have hj : fd.scope.names[j]? = some (x, NameKind.local) := hj
        rw [hsc] at hj
        match j with
        | 0 => cases hj; cases hjv; exact ⟨v, by simp, hv⟩
        | 1 => cases hjv
        | 2 => cases hjv
        | 3 => cases hjv
        | 4 => cases hjv
        | j + 5 => cases hjv
      · match j with
        | 0 =>
          have hj : fd.scope.names[0]? = some (x, k) := hj
          rw [hsc] at hj
          cases hj
          rcases hk2 with q | q <;> cases q
        | 1 => cases hjv
        | 2 => cases hjv
        | 3 => cases hjv
        | 4 => cases hjv
        | j + 5 => cases hjv
end

section
variable {b : Bs} {A : Around} {f : Fm} {vs : Vs} {H : Led}
noncomputable def GenTurn (b : Bs) (A : Around) (f : Fm) (elts : List Expr) (kk : Nat) (tp : Pos) (body : List Stmt) (Q : AF → Vs → Led → Prop) (T : List (Nat × List Nat)) (J : Nat → Vs → Led → Prop) : Prop :=
  ∀ n vs H, J n vs H → (n = 0 → Q .next vs H) ∧ ∀ m p x, n = m + 1 → T[T.length - (m + 1)]? = some (p, x) → ∀ t, awU b A f vs ((t, .tuple [.int (p : Nat), .str x]) :: H) (assign (.Tuple elts kk tp) f.env (.ref t)) fun _ vs1 H1 => awF b A f vs1 H1 (execs body f.env) (KLp (J m) Q)
theorem x_forGen {gaddr : Addr} (F : FnIs b gaddr (stAt 1)) {k : Nat} (R : Room A k) (B : Blt b) (hown : f.own = true) {x : Str} {p cp pos : Pos} {e : Expr} {elts : List Expr} {kk : Nat} {tp : Pos} {body : List Stmt} {Q : AF → Vs → Led → Prop}
    (h : awE b A f vs H (eval (.Name x p) f.env) fun fv vs1 H1 => fv = .ref gaddr ∧ awL b A f vs1 H1 (spliced (backTo cp (starEach [e] f.env))) fun xs vs2 H2 => ∃ l, xs = [.str l] ∧ l.all (· < 128) = true ∧
      ∃ J : Nat → Vs → Led → Prop, J (escG l 0 false).length vs2 H2 ∧ GenTurn b A f elts kk tp body Q (escG l 0 false) J)
    (he : starEach [e] f.env = (false, eval e f.env) :: starEach [] f.env := by rfl) (hp : (backTo cp (starEach [] f.env)).any (·.1) = false := by rfl)
    (hs : ∀ y, foldedSetIterable (.Call (.Name x p) [e] [] cp) f.env y = pure y := by intro _; rfl) :
    awF b A f vs H (exec (.For (.Tuple elts kk tp) (.Call (.Name x p) [e] [] cp) body [] pos) f.env) Q := fun P G s S => by
  refine wpAny_For (wpAny_Call_NameR (aw_use (h P G s S) (fun g s1 fv vs1 H1 hg S1 hr9 => ?_))) hs
  obtain ⟨hk, h1⟩ := hr9
  subst hk
  cases hg
  have h2 := h1 P G s1 S1
  rw [he] at h2 ⊢
  refine callWith_of (first := []) (P := fun hp => ∀ a o, b.h₀.get? a = some o → hp.get? a = some o) (by show ((false || (backTo cp (starEach [] f.env)).any (·.1)) || false) = false; rw [hp]; rfl)
    (fun hp hb => F.keep.looks (g := .ref gaddr) rfl hp hb) (Calls.evalArgs_plain (wpAny_mono h2 (fun ws s2 ⟨xs, vs2, H2, hx, S2, l, hxs, ha, J, h0, turn⟩ => ⟨fun a o e => S2.sh.old e, ?_⟩) fun _ _ e => e))
  subst hxs
  obtain ⟨w, rfl, hw⟩ := Is2.inv1 hx
  refine wpAny_mono (st_genCall F R B ha hw S2 hown) (fun r s3 ⟨ga, g, fg, E, I, hr, hcl, hgen, hgG, hne, hPd, S3, gs, hgs, hgo⟩ => ?_) fun _ _ e => e.elim
  subst hr
  refine wpAny_pyIter_gen hgen ?_
  refine codeAny_mono (c_forGen R hcl hown S2.sh.base hgG J turn S3 hPd hne hgen hgs (hgo A.in1 R.handled) h0) fun r s' hr => ?_
  cases r with
  | ok fl => exact hr
  | error e => exact hr.elim
end

theorem sliceS_le (l : List Nat) (lo hi : Option Int) : (sliceS l lo hi none).length ≤ l.length := by
  unfold sliceS
  simp only
  split
  · exact Nat.le_refl _
  · exact Nat.le_trans (List.length_filterMap_le _ _) (PyProof.Rows.indices_len_le lo hi l.length)
theorem escG_length : ∀ (l : List Nat) (i : Nat) (e : Bool), (escG l i e).length ≤ l.length + 1
  | [], i, e => by rw [escG]; split <;> simp
  | c :: r, i, e => by
    have h1 := escG_length r (i + 1) false
    have h2 := escG_length r (i + 1) true
    rw [escG]
    split
    · simp only [List.length_cons]; omega
    · split <;> simp only [List.length_cons] <;> omega
noncomputable def stripS (l : List Nat) : List (Nat × List Nat) → Nat → Option Nat → List (List Nat) → Nat × List (List Nat)
  | [], st, _, res => (st, res)
  | (p, x) :: r, st, op, res =>
    if (x == [34]) = true then match op with
      | none => stripS l r st (some p) res
      | some q => stripS l r (p + 1) none (if ((st : Int) != (q : Int)) = true then res ++ [sliceS l (some (st : Int)) (some (q : Int)) none] else res)
    else stripS l r st op res
theorem stripS_skip {l : List Nat} {p : Nat} {x : List Nat} {r : List (Nat × List Nat)} {st : Nat} {op : Option Nat} {res : List (List Nat)} (h : (x == [34]) = false) : stripS l ((p, x) :: r) st op res = stripS l r st op res := by
  cases op <;> rw [stripS, if_neg (by rw [h]; decide)]
noncomputable def stripP (l : List Nat) : List Nat :=
  if decide (34 ∈ l) = true then
    let sr := stripS l (escG l 0 false) 0 none []
    catL (if decide ((sr.1 : Int) < (l.length : Int)) = true then sr.2 ++ [sliceS l (some (sr.1 : Int)) none none] else sr.2)
  else l
noncomputable def opAV : Option Nat → AV
  | none => .none
  | some q => .int (q : Nat)
theorem catL_append (a c : List (List Nat)) : catL (a ++ c) = catL a ++ catL c := by
  induction a with
  | nil => rfl
  | cons x r ih => simp [catL, ih]
section
variable {b : Bs} {A : Around} {H : Led}
theorem h_strip (B : Blt b) {a ga : Addr} (F : FnIs b a (stAt 2)) (FG : FnIs b ga (stAt 1)) (hg : b.mg "_iter_escaped_chars" = some (.ref ga)) {n : Nat} (R : Room A (n + 1)) {l : List Nat} (ha : l.all (· < 128) = true) (hz : l.length ≤ 100) {ws : List Value} (hw : Is2 [.str l] ws) {Q : AV → Led → Prop}
    (h : Q (.str (stripP l)) H) : ahC b A H (.call (.ref a) ⟨ws, []⟩) Q := by
  refine ahC.post_sub ?_
  refine h_code (ns := [("addr", .local), ("start", .local), ("open_pos", .local), ("result", .local), ("pos", .local), ("ch", .local), ("_iter_escaped_chars", .globalImplicit), ("len", .globalImplicit)]) F R hw ["addr"] (by rfl) (by rfl) (by rfl) (by decide) (fun fd ws hw => ?_) (fun f A' hn ho hc hR => ?_)
  · obtain ⟨_, rfl, _⟩ := Is2.inv1 hw
    rfl
  · have hN := NS.mk hn
    show awF _ _ _ [some (.str l), none, none, none, none, none, none, none] _ _ _
    refine x_cons ?_
    refine x_if ?_
    refine t_cmp (by rfl) ?_
    refine e_str (l := [34]) (by rfl) ?_
    walk_at "nm"
    refine c_notins ?_
    refine ⟨_, rfl, fun h1 => ?_, fun h1 => ?_⟩
    · refine x_cons ?_
      refine x_ret ?_
      walk_at "nm"
      rw [stripP, if_neg (by simpa using h1)] at h
      exact ⟨_, List.Sublist.refl _, h⟩
    refine x_nil ?_
    rw [stripP, if_pos (by simpa using h1)] at h
    refine x_cons ?_
    walk_at "as"
    refine e_int ?_
    refine x_cons ?_
    walk_at "as"
    refine e_none ?_
    refine x_cons ?_
    walk_at "as"
    refine e_list ?_
    refine l_nil ?_
    refine ⟨Nat.zero_le _, fun ra => ?_⟩
    refine x_cons ?_
    refine x_forGen FG hR B ho ?_
    refine e_glob (av := .ref ga) hN.eq 6 (by rfl) hg (by rfl) ?_
    refine ⟨rfl, ?_⟩
    refine l_cons ?_
    walk_at "nm"
    refine l_nil ?_
    generalize hT : escG l 0 false = T at *
    have hTl : T.length ≤ l.length + 1 := by rw [← hT]; exact escG_length l 0 false
    refine ⟨l, rfl, ha, fun n vs H1 => n ≤ T.length ∧ ∃ (st : Nat) (op : Option Nat) (res : List (List Nat)) (w1 w2 : Option AV), vs = [some (.str l), some (.int st), some (opAV op), some (.ref ra), w1, w2, none, none] ∧ H1 = (ra, .list (res.map AV.str)) :: H ∧ stripS l (T.drop (T.length - n)) st op res = stripS l T 0 none [] ∧ res.length + n ≤ T.length ∧ (catL res).length ≤ res.length * l.length, ?_, ?_⟩
    · rw [hT]
      exact ⟨Nat.le_refl _, 0, none, [], none, none, rfl, rfl, by simp, by simp, by simp [catL]⟩
    · rw [hT]
      rintro n vs H1 ⟨hnT, st, op, res, w1, w2, rfl, rfl, e, l1, l2⟩
      refine ⟨fun hn0 => ?_, fun m p x hm hx t => ?_⟩
      · subst hn0
        rw [show T.length - 0 = T.length from rfl, List.drop_length, stripS] at e
        refine x_cons ?_
        refine x_if ?_
        refine t_cmp (by rfl) ?_
        walk_at "nm"
        refine e_call ?_
        refine e_blt (av := .con (.builtin "len")) hN.eq 7 (by rfl) B.len.1 B.len.2 (by rfl) ?_
        refine ⟨trivial, ?_⟩
        refine l_cons ?_
        walk_at "nm"
        refine l_nil ?_
        refine k_len_str (by omega) ?_
        refine c_lt ?_
        rw [← e] at h
        simp only at h
        have hmul : res.length * l.length ≤ 101 * 100 := Nat.mul_le_mul (by omega) hz
        refine ⟨_, rfl, fun h2 => ?_, fun h2 => ?_⟩
        · rw [if_pos h2] at h
          refine x_cons ?_
          refine x_expr ?_
          walk_at "append"
          walk_at "nm"
          refine ⟨⟨rfl, _, .head _⟩, ?_⟩
          refine l_cons ?_
          refine e_slice_str ?_
          walk_at "nm"
          show awE _ _ _ _ _ _ _
          walk_at "nm"
          refine ⟨_, rfl, ?_⟩
          refine ⟨l, rfl, by omega, sliceS_le l _ _, by decide, ?_⟩
          refine l_nil ?_
          have hsl := sliceS_le l (some (st : Int)) none
          refine k_append .head (by rw [List.length_map]; omega) ?_
          refine x_nil ?_
          refine x_cons ?_
          refine x_ret ?_
          walk_at "join"
          refine e_str (l := []) (by rfl) ?_
          refine ⟨rfl, ?_⟩
          refine l_cons ?_
          walk_at "nm"
          refine l_nil ?_
          refine k_join (ls := res ++ [sliceS l (some (st : Int)) none none]) (by rw [List.map_append]; exact .head _) (by rw [catL_append]; simp only [catL, List.append_nil, List.length_append]; omega) ?_
          exact ⟨_, List.sublist_cons_self _ _, h⟩
        · rw [if_neg (by rw [h2]; decide)] at h
          refine x_nil ?_
          refine x_cons ?_
          refine x_ret ?_
          walk_at "join"
          refine e_str (l := []) (by rfl) ?_
          refine ⟨rfl, ?_⟩
          refine l_cons ?_
          walk_at "nm"
          refine l_nil ?_
          refine k_join (ls := res) (.head _) (by omega) ?_
          exact ⟨_, List.sublist_cons_self _ _, h⟩
      · have hlt : T.length - (m + 1) < T.length := by omega
        have hT2 : T.drop (T.length - n) = (p, x) :: T.drop (T.length - m) := by
          rw [hm, List.drop_eq_getElem_cons hlt]
          rw [List.getElem?_eq_getElem hlt] at hx
          rw [Option.some.inj hx]
          rw [show T.length - (m + 1) + 1 = T.length - m from by omega]
        rw [hT2] at e
        refine u_tup hR.handled (.head _) (by rfl) (by rfl) ?_ (.ref t) rfl
        intro v hv
        refine u_name ?_
        walk_at "nu"
        intro v hv
        refine u_name ?_
        walk_at "nu"
        refine aw_sub (List.sublist_cons_self _ _) ?_
        refine x_cons ?_
        refine x_if ?_
        refine t_cmp (by rfl) ?_
        walk_at "nm"
        refine e_str (l := [34]) (by rfl) ?_
        refine c_eqs ?_
        refine ⟨_, rfl, fun h2 => ?_, fun h2 => ?_⟩
        · refine x_cons ?_
          refine x_if ?_
          refine t_cmp (by rfl) ?_
          walk_at "nm"
          refine e_none ?_
          cases op with
          | none =>
            rw [stripS, if_pos h2] at e
            refine c_isnone (by intro w q; cases q) ?_
            refine ⟨_, rfl, fun h3 => ?_, fun h3 => absurd h3 (by decide)⟩
            refine x_cons ?_
            walk_at "as"
            walk_at "nm"
            refine x_nil ?_
            refine x_nil ?_
            refine x_nil ?_
            exact ⟨by omega, st, some p, res, _, _, rfl, rfl, e, by omega, l2⟩
          | some q =>
            rw [stripS, if_pos h2] at e
            refine c_isnone (by intro w q; cases q) ?_
            refine ⟨_, rfl, fun h3 => absurd (show false = true from h3) (by decide), fun h3 => ?_⟩
            refine x_cons ?_
            refine x_if ?_
            refine t_cmp (by rfl) ?_
            walk_at "nm"
            walk_at "nm"
            refine c_ne ?_
            refine ⟨_, rfl, fun h4 => ?_, fun h4 => ?_⟩
            · rw [if_pos h4] at e
              refine x_cons ?_
              refine x_expr ?_
              walk_at "append"
              walk_at "nm"
              refine ⟨⟨rfl, _, .head _⟩, ?_⟩
              refine l_cons ?_
              refine e_slice_str ?_
              walk_at "nm"
              show awE _ _ _ _ _ _ _
              walk_at "nm"
              refine ⟨_, rfl, ?_⟩
              show awE _ _ _ _ _ _ _
              walk_at "nm"
              refine ⟨_, rfl, ?_⟩
              refine ⟨l, rfl, by omega, sliceS_le l _ _, by decide, ?_⟩
              refine l_nil ?_
              have hsl := sliceS_le l (some (st : Int)) (some (q : Int))
              refine k_append .head (by rw [List.length_map]; omega) ?_
              refine x_nil ?_
              refine x_cons ?_
              walk_at "as"
              refine e_bin ?_
              walk_at "nm"
              refine e_int ?_
              refine b_add ?_
              refine x_cons ?_
              walk_at "as"
              refine e_none ?_
              refine x_nil ?_
              refine x_nil ?_
              refine x_nil ?_
              refine ⟨by omega, p + 1, none, res ++ [sliceS l (some (st : Int)) (some (q : Int)) none], _, _, rfl, by rw [List.map_append]; rfl, e, by rw [List.length_append]; simp only [List.length_cons, List.length_nil]; omega, ?_⟩
              rw [catL_append, List.length_append, List.length_append, Nat.add_mul]
              simp only [catL, List.append_nil, List.length_cons, List.length_nil, Nat.zero_add, Nat.one_mul]
              omega
            · rw [if_neg (by rw [h4]; decide)] at e
              refine x_nil ?_
              refine x_cons ?_
              walk_at "as"
              refine e_bin ?_
              walk_at "nm"
              refine e_int ?_
              refine b_add ?_
              refine x_cons ?_
              walk_at "as"
              refine e_none ?_
              refine x_nil ?_
              refine x_nil ?_
              refine x_nil ?_
              exact ⟨by omega, p + 1, none, res, _, _, rfl, rfl, e, by omega, l2⟩
        · rw [stripS_skip h2] at e
          refine x_nil ?_
          refine x_nil ?_
          exact ⟨by omega, st, op, res, _, _, rfl, rfl, e, by omega, l2⟩
end

noncomputable def chkS : List (Nat × List Nat) → Int → Option Int
  | [], n => some n
  | (_, x) :: r, n => if (x == [40]) = true then chkS r (n + 1) else if (x == [41]) = true then (if decide (n - 1 < 0) = true then none else chkS r (n - 1)) else chkS r n
noncomputable def chkP (l : List Nat) : Bool := match chkS (escG (stripP l) 0 false) 0 with
  | none => false
  | some n => n == 0
theorem catL_all : ∀ {ls : List (List Nat)}, (∀ l ∈ ls, l.all (· < 128) = true) → (catL ls).all (· < 128) = true
  | [], _ => rfl
  | l :: r, h => by
    rw [catL, List.all_append, h l (List.mem_cons_self), catL_all fun x hx => h x (List.mem_cons_of_mem _ hx)]
    rfl
theorem sliceS_all {l : List Nat} (h : l.all (· < 128) = true) (lo hi : Option Int) : (sliceS l lo hi none).all (· < 128) = true := by
  unfold sliceS
  simp only
  split
  · exact h
  · rw [List.all_eq_true] at h ⊢
    intro x hx
    obtain ⟨i, _, hi⟩ := List.mem_filterMap.mp hx
    exact h x (List.mem_of_getElem? hi)
theorem stripS_all {l : List Nat} (h : l.all (· < 128) = true) : ∀ (T : List (Nat × List Nat)) (st : Nat) (op : Option Nat) (res : List (List Nat)), (∀ x ∈ res, x.all (· < 128) = true) → ∀ x ∈ (stripS l T st op res).2, x.all (· < 128) = true
  | [], st, op, res, hr => hr
  | (p, x) :: r, st, op, res, hr => by
    by_cases hx : (x == [34]) = true
    · cases op with
      | none => rw [stripS, if_pos hx]; exact stripS_all h r _ _ _ hr
      | some q =>
        rw [stripS, if_pos hx]
        refine stripS_all h r _ _ _ ?_
        split
        · intro y hy
          rcases List.mem_append.mp hy with q | q
          · exact hr y q
          · rw [List.mem_singleton] at q; rw [q]; exact sliceS_all h _ _
        · exact hr
    · rw [stripS_skip (by simpa using hx)]
      exact stripS_all h r _ _ _ hr
theorem stripP_all {l : List Nat} (h : l.all (· < 128) = true) : (stripP l).all (· < 128) = true := by
  unfold stripP
  split
  · refine catL_all fun x hx => ?_
    have h2 := stripS_all h (escG l 0 false) 0 none [] (fun x hx => absurd hx List.not_mem_nil)
    split at hx
    · rcases List.mem_append.mp hx with q | q
      · exact h2 x q
      · rw [List.mem_singleton] at q; rw [q]; exact sliceS_all h _ _
    · exact h2 x hx
  · exact h
section
variable {b : Bs} {A : Around} {H : Led}
theorem h_check (B : Blt b) {a sa ga : Addr} (F : FnIs b a (stAt 3)) (FS : FnIs b sa (stAt 2)) (FG : FnIs b ga (stAt 1)) (hs : b.mg "_strip_quoted_realnames" = some (.ref sa)) (hg : b.mg "_iter_escaped_chars" = some (.ref ga)) {n : Nat} (R : Room A (n + 2)) {l : List Nat} (ha : l.all (· < 128) = true) (hz : l.length ≤ 100) {ws : List Value} (hw : Is2 [.str l] ws) {Q : AV → Led → Prop}
    (h : Q (.bool (chkP l)) H) : ahC b A H (.call (.ref a) ⟨ws, []⟩) Q := by
  refine h_code (ns := [("addr", .local), ("opens", .local), ("pos", .local), ("ch", .local), ("_strip_quoted_realnames", .globalImplicit), ("_iter_escaped_chars", .globalImplicit)]) F R hw ["addr"] (by rfl) (by rfl) (by rfl) (by decide) (fun fd ws hw => ?_) (fun f A' hn ho hc hR => ?_)
  · obtain ⟨_, rfl, _⟩ := Is2.inv1 hw
    rfl
  · have hN := NS.mk hn
    show awF _ _ _ [some (.str l), none, none, none, none, none] _ _ _
    refine x_cons ?_
    walk_at "as"
    refine e_call ?_
    refine e_glob (av := .ref sa) hN.eq 4 (by rfl) hs (by rfl) ?_
    refine ⟨FS.keep, ?_⟩
    refine l_cons ?_
    walk_at "nm"
    refine l_nil ?_
    intro gv ws hg hws
    cases hg
    refine aw_of_ah (ahC.toE (h_strip B FS FG (by assumption) hR ha hz hws ?_))
    have ha2 := stripP_all ha
    rw [chkP] at h
    generalize stripP l = l2 at *
    refine x_cons ?_
    walk_at "as"
    refine e_int ?_
    refine x_cons ?_
    refine x_forGen FG (hR.weaken (Nat.le_refl _)) B ho ?_
    refine e_glob (av := .ref ga) hN.eq 5 (by rfl) (by assumption) (by rfl) ?_
    refine ⟨rfl, ?_⟩
    refine l_cons ?_
    walk_at "nm"
    refine l_nil ?_
    generalize hT : escG l2 0 false = T at *
    refine ⟨l2, rfl, ha2, fun n vs H1 => n ≤ T.length ∧ ∃ (k : Int) (w1 w2 : Option AV), vs = [some (.str l2), some (.int k), w1, w2, none, none] ∧ H1 = H ∧ chkS (T.drop (T.length - n)) k = chkS T 0, ?_, ?_⟩
    · rw [hT]
      exact ⟨Nat.le_refl _, 0, none, none, rfl, rfl, by simp⟩
    · rw [hT]
      rintro n vs H1 ⟨hnT, k, w1, w2, rfl, rfl, e⟩
      refine ⟨fun hn0 => ?_, fun m p x hm hx t => ?_⟩
      · subst hn0
        rw [show T.length - 0 = T.length from rfl, List.drop_length, chkS] at e
        rw [← e] at h
        refine x_cons ?_
        refine x_ret ?_
        refine e_cmp (by rfl) ?_
        walk_at "nm"
        refine e_int ?_
        refine c_eq ?_
        exact h
      · have hlt : T.length - (m + 1) < T.length := by omega
        have hT2 : T.drop (T.length - n) = (p, x) :: T.drop (T.length - m) := by
          rw [hm, List.drop_eq_getElem_cons hlt]
          rw [List.getElem?_eq_getElem hlt] at hx
          rw [Option.some.inj hx]
          rw [show T.length - (m + 1) + 1 = T.length - m from by omega]
        rw [hT2, chkS] at e
        refine u_tup hR.handled (.head _) (by rfl) (by rfl) ?_ (.ref t) rfl
        intro v hv
        refine u_name ?_
        walk_at "nu"
        intro v hv
        refine u_name ?_
        walk_at "nu"
        refine aw_sub (List.sublist_cons_self _ _) ?_
        refine x_cons ?_
        refine x_if ?_
        refine t_cmp (by rfl) ?_
        walk_at "nm"
        refine e_str (l := [40]) (by rfl) ?_
        refine c_eqs ?_
        refine ⟨_, rfl, fun h2 => ?_, fun h2 => ?_⟩
        · rw [if_pos h2] at e
          refine x_cons ?_
          walk_at "au"
          walk_at "nl"
          refine e_int ?_
          refine i_add ?_
          refine x_nil ?_
          refine x_nil ?_
          exact ⟨by omega, k + 1, _, _, rfl, rfl, e⟩
        · rw [if_neg (by rw [h2]; decide)] at e
          refine x_cons ?_
          refine x_if ?_
          refine t_cmp (by rfl) ?_
          walk_at "nm"
          refine e_str (l := [41]) (by rfl) ?_
          refine c_eqs ?_
          refine ⟨_, rfl, fun h3 => ?_, fun h3 => ?_⟩
          · rw [if_pos h3] at e
            refine x_cons ?_
            walk_at "au"
            walk_at "nl"
            refine e_int ?_
            refine i_sub ?_
            refine x_cons ?_
            refine x_if ?_
            refine t_cmp (by rfl) ?_
            walk_at "nm"
            refine e_int ?_
            refine c_lt ?_
            refine ⟨_, rfl, fun h4 => ?_, fun h4 => ?_⟩
            · rw [if_pos h4] at e
              rw [← e] at h
              refine x_cons ?_
              refine x_ret ?_
              refine e_bool ?_
              exact h
            · rw [if_neg (by rw [h4]; decide)] at e
              refine x_nil ?_
              refine x_nil ?_
              refine x_nil ?_
              refine x_nil ?_
              exact ⟨by omega, k - 1, _, _, rfl, rfl, e⟩
          · rw [if_neg (by rw [h3]; decide)] at e
            refine x_nil ?_
            refine x_nil ?_
            refine x_nil ?_
            exact ⟨by omega, k, _, _, rfl, rfl, e⟩
end

theorem ix_none (a len : Nat) : Builtin.Str.strSliceIndices (some (a : Int)) none 1 len = Builtin.Str.strSliceIndices (some (a : Int)) (some (len : Int)) 1 len := by
  unfold Builtin.Str.strSliceIndices
  simp only [show (1 : Int) > 0 from by decide, if_true]
  rw [if_neg (show ¬ ((len : Int) < 0) by omega)]
  congr 1
  omega
theorem sliceS_two {l : List Nat} {a c : Nat} (hab : a ≤ c) (hb : c ≤ l.length) : sliceS l (some (a : Int)) (some (c : Int)) none = (l.drop a).take (c - a) := by
  have h := StrLaws.strSliceIndices_plain hab hb
  unfold sliceS
  simp only [Option.getD_none]
  rw [h]
  simp only [List.length_map, List.length_range]
  split
  · rename_i q
    have q2 : c - a = l.length := by simpa using q
    have : a = 0 := by omega
    subst this
    rw [List.drop_zero, q2, List.take_length]
  · exact StrLaws.picks l (c - a) a (by omega)
theorem sliceS_from {l : List Nat} {a : Nat} (hab : a ≤ l.length) : sliceS l (some (a : Int)) none none = l.drop a := by
  have : sliceS l (some (a : Int)) none none = sliceS l (some (a : Int)) (some (l.length : Int)) none := by
    unfold sliceS
    simp only [Option.getD_none]
    rw [ix_none]
  rw [this, sliceS_two hab (Nat.le_refl _), List.take_of_length_le (by simp)]
noncomputable def dressL (i : Nat) : List Nat := [[], [92, 40], [34, 41, 34], [92, 92], [92, 34], [34, 40, 34]].getD i []
noncomputable def blk (p : Nat × Nat) : List Nat := p.1 :: dressL p.2
noncomputable def unq (p : Nat × Nat) : Nat × Nat := if p.2 = 2 ∨ p.2 = 5 then (p.1, 0) else p
noncomputable def okB (p : Nat × Nat) : Prop := (p.1 = 40 ∨ p.1 = 41) ∧ p.2 < 6
theorem chk_blk : ∀ (ps : List (Nat × Nat)) (i : Nat) (n : Int), (∀ p ∈ ps, okB p ∧ p.2 ≠ 2 ∧ p.2 ≠ 5) →
    (match chkS (escG (catL (ps.map blk)) i false) n with | none => false | some m => m == 0) = parP (ps.map (·.1)) n
  | [], i, n, _ => by simp [catL, escG, chkS, parP]
  | p :: ps, i, n, h => by
    have ih := fun j m => chk_blk ps j m fun q hq => h q (List.mem_cons_of_mem _ hq)
    obtain ⟨⟨h1, h2⟩, h3, h4⟩ := h p List.mem_cons_self
    obtain ⟨c, d⟩ := p
    simp only at h1 h2 h3 h4
    rw [List.map_cons, catL, List.map_cons]
    have hd : d = 0 ∨ d = 1 ∨ d = 3 ∨ d = 4 := by omega
    rcases h1 with rfl | rfl
    · rcases hd with rfl | rfl | rfl | rfl <;> simp [blk, dressL, escG, chkS, parP, ih]
    · rcases hd with rfl | rfl | rfl | rfl <;> simp only [blk, dressL, parP] <;> simp [escG, chkS] <;> by_cases hn : n - 1 < 0 <;> simp [hn, ih]

noncomputable def drp (l : List Nat) (r : Nat × List (List Nat)) : List Nat := catL r.2 ++ l.drop r.1
theorem strip_blk (l : List Nat) : ∀ (ps : List (Nat × Nat)) (pre : List Nat) (st : Nat) (res : List (List Nat)), l = pre ++ catL (ps.map blk) → st ≤ pre.length → (∀ p ∈ ps, okB p) →
    drp l (stripS l (escG (catL (ps.map blk)) pre.length false) st none res) = catL res ++ pre.drop st ++ catL (ps.map fun p => blk (unq p)) ∧ (stripS l (escG (catL (ps.map blk)) pre.length false) st none res).1 ≤ l.length
  | [], pre, st, res, hl, hst, _ => by
    have hl2 : l = pre := by simpa [catL] using hl
    subst hl2
    simp [catL, escG, stripS, drp, hst]
  | p :: ps, pre, st, res, hl, hst, hp => by
    have ih := fun pre' st' res' h1 h2 => strip_blk l ps pre' st' res' h1 h2 fun q hq => hp q (List.mem_cons_of_mem _ hq)
    obtain ⟨h1, h2⟩ := hp p List.mem_cons_self
    obtain ⟨c, d⟩ := p
    simp only at h1 h2
    rw [List.map_cons, catL] at hl
    rw [List.map_cons, catL, List.map_cons, catL]
    have go : ∀ b : List Nat, blk (c, d) = b → blk (unq (c, d)) = b → stripS l (escG (b ++ catL (ps.map blk)) pre.length false) st none res = stripS l (escG (catL (ps.map blk)) (pre.length + b.length) false) st none res →
        drp l (stripS l (escG (blk (c, d) ++ catL (ps.map blk)) pre.length false) st none res) = catL res ++ pre.drop st ++ (blk (unq (c, d)) ++ catL (ps.map fun p => blk (unq p))) ∧ (stripS l (escG (blk (c, d) ++ catL (ps.map blk)) pre.length false) st none res).1 ≤ l.length := by
      intro b e1 e2 e3
      have i1 := ih (pre ++ b) st res (by rw [hl, e1, List.append_assoc]) (by rw [List.length_append]; omega)
      rw [e1, e2, e3]
      rw [List.length_append] at i1
      rw [List.drop_append_of_le_length hst] at i1
      refine ⟨i1.1.trans ?_, i1.2⟩
      simp only [List.append_assoc]
    have goq : ∀ x : Nat, (x = 40 ∨ x = 41) → blk (c, d) = [c, 34, x, 34] → blk (unq (c, d)) = [c] →
        drp l (stripS l (escG (blk (c, d) ++ catL (ps.map blk)) pre.length false) st none res) = catL res ++ pre.drop st ++ (blk (unq (c, d)) ++ catL (ps.map fun p => blk (unq p))) ∧ (stripS l (escG (blk (c, d) ++ catL (ps.map blk)) pre.length false) st none res).1 ≤ l.length := by
      intro x hx e1 e2
      have hlen : l.length = pre.length + 4 + (catL (ps.map blk)).length := by rw [hl, e1]; simp; omega
      have i1 := ih (pre ++ [c, 34, x, 34]) (pre.length + 4) (res ++ [(l.drop st).take (pre.length + 1 - st)]) (by rw [hl, e1, List.append_assoc]) (by simp)
      rw [e1, e2]
      have e3 : stripS l (escG ([c, 34, x, 34] ++ catL (ps.map blk)) pre.length false) st none res = stripS l (escG (catL (ps.map blk)) (pre.length + 4) false) (pre.length + 4) none (res ++ [(l.drop st).take (pre.length + 1 - st)]) := by
        have hsl := sliceS_two (l := l) (a := st) (c := pre.length + 1) (by omega) (by omega)
        have hne : ((st : Int) != ((pre.length + 1 : Nat) : Int)) = true := by simp; omega
        rcases h1 with rfl | rfl <;> rcases hx with rfl | rfl <;> simp [escG, stripS] <;> (rw [if_neg (by omega), show ((pre.length : Int) + 1) = ((pre.length + 1 : Nat) : Int) from rfl, hsl])
      rw [e3]
      simp only [List.length_append, List.length_cons, List.length_nil] at i1
      refine ⟨i1.1.trans ?_, i1.2⟩
      rw [catL_append]
      have e4 : (l.drop st).take (pre.length + 1 - st) = pre.drop st ++ [c] := by
        rw [hl, e1, List.drop_append_of_le_length hst, List.take_append, List.length_drop]
        rw [List.take_of_length_le (by rw [List.length_drop]; omega), show pre.length + 1 - st - (pre.length - st) = 1 from by omega]
        rfl
      rw [e4, List.drop_of_length_le (l := pre ++ [c, 34, x, 34]) (by simp)]
      simp [catL]
    have hd : d = 0 ∨ d = 1 ∨ d = 2 ∨ d = 3 ∨ d = 4 ∨ d = 5 := by omega
    rcases hd with rfl | rfl | rfl | rfl | rfl | rfl
    · exact go [c] rfl (by simp [unq, blk, dressL]) (by rcases h1 with rfl | rfl <;> simp [escG, stripS])
    · exact go [c, 92, 40] rfl (by simp [unq, blk, dressL]) (by rcases h1 with rfl | rfl <;> simp [escG, stripS])
    · exact goq 41 (.inr rfl) rfl (by simp [unq, blk, dressL])
    · exact go [c, 92, 92] rfl (by simp [unq, blk, dressL]) (by rcases h1 with rfl | rfl <;> simp [escG, stripS])
    · exact go [c, 92, 34] rfl (by simp [unq, blk, dressL]) (by rcases h1 with rfl | rfl <;> simp [escG, stripS])
    · exact goq 40 (.inl rfl) rfl (by simp [unq, blk, dressL])

theorem blk_no34 : ∀ (ps : List (Nat × Nat)), (∀ p ∈ ps, okB p) → 34 ∉ catL (ps.map blk) → ∀ p ∈ ps, unq p = p
  | [], _, _, p, hp => absurd hp List.not_mem_nil
  | q :: ps, h, hn, p, hp => by
    rw [List.map_cons, catL, List.mem_append, not_or] at hn
    rcases List.mem_cons.mp hp with rfl | hp
    · obtain ⟨c, d⟩ := p
      unfold unq
      split
      · rename_i hd
        refine absurd ?_ hn.1
        simp only at hd
        rcases hd with rfl | rfl <;> simp [blk, dressL]
      · rfl
    · exact blk_no34 ps (fun x hx => h x (List.mem_cons_of_mem _ hx)) hn.2 p hp
theorem stripP_blk (ps : List (Nat × Nat)) (h : ∀ p ∈ ps, okB p) : stripP (catL (ps.map blk)) = catL ((ps.map unq).map blk) := by
  unfold stripP
  rw [List.map_map]
  split
  · obtain ⟨h1, h2⟩ := strip_blk (catL (ps.map blk)) ps [] 0 [] rfl (Nat.le_refl _) h
    simp only [List.length_nil, catL, List.drop_nil, List.nil_append, List.append_nil] at h1 h2
    generalize stripS (catL (ps.map blk)) (escG (catL (ps.map blk)) 0 false) 0 none [] = r at *
    unfold drp at h1
    simp only
    split
    · rw [catL_append, sliceS_from h2]
      simp only [catL, List.append_nil]
      exact h1
    · rename_i hlt
      simp only [decide_eq_true_eq] at hlt
      rw [List.drop_of_length_le (by omega), List.append_nil] at h1
      exact h1
  · rename_i hn
    have h3 := blk_no34 ps h (by simpa using hn)
    congr 1
    exact List.map_congr_left fun p hp => by show blk p = blk (unq p); rw [h3 p hp]
theorem chkP_blk (ps : List (Nat × Nat)) (h : ∀ p ∈ ps, okB p) : chkP (catL (ps.map blk)) = parP (ps.map (·.1)) 0 := by
  unfold chkP
  rw [stripP_blk ps h]
  refine Eq.trans (chk_blk (ps.map unq) 0 0 ?_) ?_
  rotate_left
  · rw [List.map_map]
    congr 1
    refine List.map_congr_left fun p _ => ?_
    show (unq p).1 = p.1
    unfold unq
    split <;> rfl
  · intro p hp
    obtain ⟨q, hq, rfl⟩ := List.mem_map.mp hp
    obtain ⟨h1, h2⟩ := h q hq
    unfold unq
    split
    · exact ⟨⟨h1, show 0 < 6 by decide⟩, show (0 : Nat) ≠ 2 by decide, show (0 : Nat) ≠ 5 by decide⟩
    · rename_i hne
      rw [not_or] at hne
      exact ⟨⟨h1, h2⟩, hne⟩

noncomputable def dresI (d : Int) : Nat := (d / 2 % 6).toNat
noncomputable def pieceP (faces : List Nat) (drawn : List Int) : List (Nat × Nat) := (List.range faces.length).map fun k => (faces.getD k 0, dresI (drawn.getD k 0))
theorem pieceP_ok {faces : List Nat} (hf : ∀ c ∈ faces, c = 40 ∨ c = 41) (drawn : List Int) : ∀ p ∈ pieceP faces drawn, okB p := by
  intro p hp
  obtain ⟨k, hk, rfl⟩ := List.mem_map.mp hp
  have hk := List.mem_range.mp hk
  refine ⟨?_, ?_⟩
  · show faces.getD k 0 = 40 ∨ _
    rw [List.getD_eq_getElem?_getD, List.getElem?_eq_getElem hk]
    exact hf _ (List.getElem_mem hk)
  · show dresI _ < 6
    unfold dresI
    omega
theorem pieceP_fst (faces : List Nat) (drawn : List Int) : (pieceP faces drawn).map (·.1) = faces := by
  unfold pieceP
  rw [List.map_map]
  refine List.ext_getElem (by simp) fun i h1 h2 => ?_
  simp [List.getD_eq_getElem?_getD, List.getElem?_eq_getElem h2]
theorem small_two {a c : Int} (h1 : 0 ≤ a) (h2 : a < 100) (h3 : 0 ≤ c) (h4 : c < 100) : Builtin.Range.small a c 2 = true := by
  unfold Builtin.Range.small Builtin.Range.rangeSize
  simp only [Builtin.Range.rangeFitsLong, Bool.and_eq_true, Bool.or_eq_true, decide_eq_true_eq, beq_iff_eq, show (2 : Int) > 0 by decide, if_true]
  split <;> omega
theorem size_two {k n : Nat} (h : k < n) : Builtin.Range.rangeSize ((k : Int) + 2) ((n : Int) + 1) 2 = ((n - k) / 2 : Nat) := by
  unfold Builtin.Range.rangeSize
  rw [if_pos (by decide)]
  split <;> omega
theorem pylong_small {a : Int} : Builtin.divisionGoesByPylong a 2 = false := by
  unfold Builtin.divisionGoesByPylong
  exact Bool.and_eq_false_iff.mpr (.inl (by decide))

theorem dress_get (d : Int) : ([AV.str [], .str [92, 40], .str [34, 41, 34], .str [92, 92], .str [92, 34], .str [34, 40, 34]])[(d / 2 % 6).toNat]? = some (.str (dressL (dresI d))) := by
  unfold dresI
  have : (d / 2 % 6).toNat < 6 := by omega
  generalize (d / 2 % 6).toNat = k at *
  match k, this with
  | 0, _ => rfl
  | 1, _ => rfl
  | 2, _ => rfl
  | 3, _ => rfl
  | 4, _ => rfl
  | 5, _ => rfl
theorem dress_len (k : Nat) : (dressL k).length ≤ 3 := by
  match k with
  | 0 => decide
  | 1 => decide
  | 2 => decide
  | 3 => decide
  | 4 => decide
  | 5 => decide
  | k + 6 => simp [dressL]
theorem blk_len (p : Nat × Nat) : (blk p).length ≤ 4 := by
  have := dress_len p.2
  unfold blk
  simp only [List.length_cons]
  omega
theorem blks_len : ∀ ps : List (Nat × Nat), (catL (ps.map blk)).length ≤ 4 * ps.length
  | [] => Nat.le_refl _
  | p :: ps => by
    have h1 := blk_len p
    have h2 := blks_len ps
    rw [List.map_cons, catL, List.length_append, List.length_cons]
    omega
theorem blk_all {p : Nat × Nat} (h : okB p) : (blk p).all (· < 128) = true := by
  obtain ⟨c, d⟩ := p
  obtain ⟨h1, h2⟩ := h
  simp only at h1 h2
  match d, h2 with
  | 0, _ => rcases h1 with rfl | rfl <;> decide
  | 1, _ => rcases h1 with rfl | rfl <;> decide
  | 2, _ => rcases h1 with rfl | rfl <;> decide
  | 3, _ => rcases h1 with rfl | rfl <;> decide
  | 4, _ => rcases h1 with rfl | rfl <;> decide
  | 5, _ => rcases h1 with rfl | rfl <;> decide
theorem sliceL_two {α : Type} (xs : List α) (a c : Nat) (hac : a ≤ c) (hc : c ≤ xs.length) : sliceL xs (some (a : Int)) (some (c : Int)) none = (xs.drop a).take (c - a) := by
  unfold sliceL idxL
  rw [sliceBounds_plain]
  simp only [Option.elim, clipAt_nat]
  rw [Nat.min_eq_left (Nat.le_trans hac hc), Nat.min_eq_left hc, sliceRange_one]
  have : ∀ (n : Nat) (a : Nat), a + n ≤ xs.length → ((List.range n).map fun k => a + k).filterMap (xs[·]?) = (xs.drop a).take n := by
    intro n
    induction n with
    | zero => intro a _; simp
    | succ n ih =>
      intro a h
      rw [List.range_succ_eq_map, List.map_cons, List.filterMap_cons]
      have e : xs[a + 0]? = some xs[a] := List.getElem?_eq_getElem (by omega)
      rw [e]
      simp only
      rw [List.drop_eq_getElem_cons (by omega : a < xs.length), List.take_succ_cons]
      congr 1
      rw [← ih (a + 1) (by omega), List.map_map]
      congr 1
      apply List.map_congr_left
      intro k _
      show a + (k + 1) = a + 1 + k
      omega
  exact this (c - a) a (by omega)
noncomputable def midsP (faces : List Nat) : Nat → Nat → List Int → List Int
  | 0, _, acc => acc
  | n + 1, k, acc => midsP faces n (k + 1) (match midE faces k 6 (k + 2) with | some e => acc ++ [(k : Int) + e - faces.length] | none => acc)
section
variable {b : Bs} {A : Around} {H : Led}
theorem h_middles (B : Blt b) {a ca sa ga : Addr} (F : FnIs b a (stAt 18)) (FC : FnIs b ca (stAt 3)) (FS : FnIs b sa (stAt 2)) (FG : FnIs b ga (stAt 1)) (hcg : b.mg "_check_parenthesis" = some (.ref ca)) (hs : b.mg "_strip_quoted_realnames" = some (.ref sa)) (hg : b.mg "_iter_escaped_chars" = some (.ref ga)) {n : Nat} (R : Room A (n + 3)) {faces : List Nat} {da : Addr} {drawn : List Int}
    (hm : (da, AO.list (drawn.map AV.int)) ∈ H) (hf : ∀ c ∈ faces, c = 40 ∨ c = 41) (hz : faces.length ≤ 12) (hdl : drawn.length = faces.length) (hd0 : ∀ d ∈ drawn, 0 ≤ d ∧ d < 72) {ws : List Value} (hw : Is2 [.str faces, .ref da] ws) {Q : AV → Led → Prop}
    (h : ∀ r, Q (.ref r) ((r, .list ((midsP faces faces.length 0 []).map AV.int)) :: H)) : ahC b A H (.call (.ref a) ⟨ws, []⟩) Q := by
  refine ahC.post_sub ?_
  refine h_code (ns := [("faces", .cell), ("drawn", .cell), ("dress", .cell), ("k", .local), ("pieces", .local), ("middles", .local), ("end", .local), ("told", .local), ("range", .globalImplicit), ("len", .globalImplicit), ("_check_parenthesis", .globalImplicit)]) F R hw ["faces", "drawn"] (by rfl) (by rfl) (by rfl) (by decide) (fun fd ws hw => ?_) (fun f A' hn ho hc hR => ?_)
  · obtain ⟨_, _, rfl, _, _⟩ := Is2.inv2 hw
    rfl
  · have hN := NS.mk hn
    obtain ⟨c1, c2, c3, hcc⟩ : ∃ c1 c2 c3, f.env.cells = [(Str.ofString "dress", c1), (Str.ofString "drawn", c2), (Str.ofString "faces", c3)] := by
      have e : f.env.cells.map (·.1) = [Str.ofString "dress", Str.ofString "drawn", Str.ofString "faces"] := hc
      exact fst3 e
    show awF _ _ _ [some (.str faces), some (.ref da), none, none, none, none, none, none, none, none, none] _ _ _
    refine x_cons ?_
    refine x_asg ?_
    refine e_list ?_
    refine l_cons ?_
    refine e_str (l := []) (by rfl) ?_
    refine l_cons ?_
    refine e_str (l := [92, 40]) (by rfl) ?_
    refine l_cons ?_
    refine e_str (l := [34, 41, 34]) (by rfl) ?_
    refine l_cons ?_
    refine e_str (l := [92, 92]) (by rfl) ?_
    refine l_cons ?_
    refine e_str (l := [92, 34]) (by rfl) ?_
    refine l_cons ?_
    refine e_str (l := [34, 40, 34]) (by rfl) ?_
    refine l_nil ?_
    refine ⟨by decide, fun dr => ?_⟩
    intro v hv
    refine u_cell hn ho 2 (by rfl) c1 (by rw [hcc]; rfl) hv ?_
    refine x_cons ?_
    refine x_compL hn 4 (by rfl) (by rfl) (cl_ok hc (by decide)) ?_
    refine e_call ?_
    refine e_blt (av := .con (.type "range")) hN.eq 8 (by rfl) B.range.1 B.range.2 (by rfl) ?_
    refine ⟨trivial, ?_⟩
    refine l_cons ?_
    refine e_call ?_
    refine e_blt (av := .con (.builtin "len")) hN.eq 9 (by rfl) B.len.1 B.len.2 (by rfl) ?_
    refine ⟨trivial, ?_⟩
    refine l_cons ?_
    walk_at "nc"
    refine l_nil ?_
    refine k_len_str (by omega) ?_
    refine l_nil ?_
    refine k_range1 (fun rg => ?_)
    refine ⟨_, _, hasIter_range hR.handled (.head _) (by omega) (by omega) (by omega) (by omega), trivial, by rw [rangeL, rangeN_length]; omega, fun f2 hn2 => ?_⟩
    have hN2 : NS f2 [(Str.ofString ".0", NameKind.local), (Str.ofString "k", NameKind.local), (Str.ofString "drawn", NameKind.cell), (Str.ofString "dress", NameKind.cell), (Str.ofString "faces", NameKind.cell)] := ⟨hn2⟩
    unfold rangeL rangeN
    refine ACmp.ofE (fun i : Nat => AV.int (0 + (i : Int) * 1)) (fun i => some (AV.str (blk (faces.getD i 0, dresI (drawn.getD i 0))))) (fun vs => ∃ w, vs = [none, w, some (.ref da), some (.ref dr), some (.str faces)]) _ (((pieceP faces drawn).map blk).map AV.str) (by
      rw [show ((faces.length : Int) - 0).toNat = faces.length by omega]
      unfold pieceP
      rw [List.filterMap_eq_map', List.map_map, List.map_map]; rfl) ⟨none, rfl⟩ ?_ ?_
    · rintro i hi vs ⟨w, rfl⟩ v hv
      rw [show ((faces.length : Int) - 0).toNat = faces.length by omega] at hi
      have hi := List.mem_range.mp hi
      obtain ⟨c, hck⟩ : ∃ c, faces[i]? = some c := ⟨_, List.getElem?_eq_getElem hi⟩
      obtain ⟨d, hdk⟩ : ∃ d, drawn[i]? = some d := ⟨_, List.getElem?_eq_getElem (by omega)⟩
      have hdd := hd0 d (List.mem_of_getElem? hdk)
      walk_at "nu"
      refine ⟨rfl, ?_, fun q => by cases q⟩
      intro _
      refine e_bin ?_
      refine e_sub ?_
      walk_at "nc"
      walk_at "nm"
      refine g_sign (c := c) (by rw [show (0 + (i : Int) * 1).toNat = i by omega]; exact hck) (by omega) (by omega) ?_
      refine e_sub ?_
      walk_at "nc"
      refine e_bin ?_
      refine e_bin ?_
      refine e_sub ?_
      walk_at "nc"
      walk_at "nm"
      refine g_item (.tail _ (.tail _ hm)) (x := .int d) (by rw [show (0 + (i : Int) * 1).toNat = i by omega, List.getElem?_map, hdk]; rfl) (by omega) (by omega) ?_
      refine e_int ?_
      refine b_div (by omega) (PyProof.noPylong_small (by decide)) ?_
      refine e_int ?_
      refine b_mod (by omega) ?_
      refine g_item (.tail _ (.head _)) (x := .str (dressL (dresI d))) (dress_get d) (by omega) (by omega) ?_
      refine b_cat (by have := dress_len (dresI d); simp only [List.length_cons, List.length_nil]; omega) ?_
      refine ⟨?_, List.Sublist.refl _, _, rfl⟩
      rw [List.getD_eq_getElem?_getD, List.getD_eq_getElem?_getD, hck, hdk]
      rfl
    · intro pc
      refine u_loc hn 4 (by rfl) (av := .ref pc) rfl ?_
      refine x_cons ?_
      walk_at "as"
      refine e_list ?_
      refine l_nil ?_
      refine ⟨Nat.zero_le _, fun ra => ?_⟩
      refine x_cons ?_
      refine x_for ?_
      refine e_call ?_
      refine e_blt (av := .con (.type "range")) hN.eq 8 (by rfl) B.range.1 B.range.2 (by rfl) ?_
      refine ⟨trivial, ?_⟩
      refine l_cons ?_
      refine e_call ?_
      refine e_blt (av := .con (.builtin "len")) hN.eq 9 (by rfl) B.len.1 B.len.2 (by rfl) ?_
      refine ⟨trivial, ?_⟩
      refine l_cons ?_
      walk_at "nc"
      refine l_nil ?_
      refine k_len_str (by omega) ?_
      refine l_nil ?_
      refine k_range1 (fun rg2 => ?_)
      refine ⟨_, _, hasIter_range hR.handled (.head _) (by omega) (by omega) (by omega) (by omega), ?_⟩
      rw [show rangeL 0 (faces.length : Int) = rangeN 0 1 faces.length by rw [rangeL, show ((faces.length : Int) - 0).toNat = faces.length by omega]]
      refine AFor.rangeN (fun k vs H1 => ∃ (ms : List Int) (w3 w6 w7 : Option AV), vs = [some (.str faces), some (.ref da), some (.ref dr), w3, some (.ref pc), some (.ref ra), w6, w7, none, none, none] ∧
        List.Sublist ((ra, .list (ms.map AV.int)) :: (pc, .list (((pieceP faces drawn).map blk).map AV.str)) :: H) H1 ∧ midsP faces (faces.length - k) k ms = midsP faces faces.length 0 [] ∧ ms.length ≤ k) ?_ ?_ ?_
      · rintro vs H1 ⟨ms, w3, w6, w7, rfl, hS, e, hl⟩
        rw [Nat.sub_self, midsP] at e
        refine x_cons ?_
        refine x_ret ?_
        walk_at "nm"
        rw [← e] at h
        exact ⟨_, (List.Sublist.cons_cons _ (List.sublist_cons_self _ _)).trans hS, h ra⟩
      · rintro k hk vs H1 ⟨ms, w3, w6, w7, rfl, hS, e, hl⟩ v hv
        refine aw_sub hS ?_
        rw [show (0 : Int) + (k : Int) * 1 = k by omega] at hv
        refine u_name ?_
        walk_at "nu"
        rw [show faces.length - k = (faces.length - (k + 1)) + 1 by omega, midsP] at e
        refine x_cons ?_
        refine aw_mono (Q := fun fl vs H2 => fl = .next ∧ ∃ (w6 w7 : Option AV), vs = [some (.str faces), some (.ref da), some (.ref dr), some (.int k), some (.ref pc), some (.ref ra), w6, w7, none, none, none] ∧
          List.Sublist ((ra, .list ((match midE faces k 6 (k + 2) with | some e => ms ++ [(k : Int) + e - faces.length] | none => ms).map AV.int)) :: (pc, .list (((pieceP faces drawn).map blk).map AV.str)) :: H) H2) ?_ ?_
        · refine x_for ?_
          refine e_call ?_
          refine e_blt (av := .con (.type "range")) hN.eq 8 (by rfl) B.range.1 B.range.2 (by rfl) ?_
          refine ⟨trivial, ?_⟩
          refine l_cons ?_
          refine e_bin ?_
          walk_at "nm"
          refine e_int ?_
          refine b_add ?_
          refine l_cons ?_
          refine e_bin ?_
          refine e_call ?_
          refine e_blt (av := .con (.builtin "len")) hN.eq 9 (by rfl) B.len.1 B.len.2 (by rfl) ?_
          refine ⟨trivial, ?_⟩
          refine l_cons ?_
          walk_at "nc"
          refine l_nil ?_
          refine k_len_str (by omega) ?_
          refine e_int ?_
          refine b_add ?_
          refine l_cons ?_
          refine e_int ?_
          refine l_nil ?_
          refine k_range3 (by decide) (PyProof.noPylong_small (by decide)) (fun rg3 => ?_)
          refine ⟨_, _, hasIter_rangeN hR.handled (.head _) (small_two (by omega) (by omega) (by omega) (by omega)) (size_two hk), ?_⟩
          refine AFor.rangeN (fun j vs H1 => ∃ (w6 w7 : Option AV), vs = [some (.str faces), some (.ref da), some (.ref dr), some (.int k), some (.ref pc), some (.ref ra), w6, w7, none, none, none] ∧
            List.Sublist ((ra, .list (ms.map AV.int)) :: (pc, .list (((pieceP faces drawn).map blk).map AV.str)) :: H) H1 ∧ midE faces k (6 - j) (k + 2 + 2 * j) = midE faces k 6 (k + 2) ∧ j ≤ (faces.length - k) / 2) ?_ ?_ ?_
          · rintro vs H1 ⟨w6, w7, rfl, hS1, e1, _⟩
            refine ⟨rfl, w6, w7, rfl, ?_⟩
            have hn : midE faces k 6 (k + 2) = none := by
              rw [← e1]
              generalize 6 - (faces.length - k) / 2 = fu
              cases fu with
              | zero => rfl
              | succ fu => rw [midE, if_neg (by omega)]
            rw [hn]
            exact hS1
          · rintro j hj vs H1 ⟨w6, w7, rfl, hS1, e1, hjl⟩ v hv
            rw [show (k : Int) + 2 + (j : Int) * 2 = ((k + 2 + 2 * j : Nat) : Int) by omega] at hv
            refine aw_sub hS1 ?_
            refine u_name ?_
            walk_at "nu"
            refine x_cons ?_
            walk_at "as"
            refine e_call ?_
            refine e_glob (av := .ref ca) hN.eq 10 (by rfl) hcg (by rfl) ?_
            refine ⟨FC.keep, ?_⟩
            refine l_cons ?_
            walk_at "join"
            refine e_str (l := []) (by rfl) ?_
            refine ⟨rfl, ?_⟩
            refine l_cons ?_
            refine e_slice_list ?_
            walk_at "nm"
            show awE _ _ _ _ _ _ _
            walk_at "nm"
            refine ⟨_, rfl, ?_⟩
            show awE _ _ _ _ _ _ _
            walk_at "nm"
            refine ⟨_, rfl, ?_⟩
            have hpl : (pieceP faces drawn).length = faces.length := by unfold pieceP; rw [List.length_map, List.length_range]
            refine ⟨pc, _, rfl, .tail _ (.head _), by rw [List.length_map, List.length_map, hpl]; omega, by decide, fun sl => ?_⟩
            have esl : sliceL (((pieceP faces drawn).map blk).map AV.str) (some (k : Int)) (some ((k + 2 + 2 * j : Nat) : Int)) none = ((((pieceP faces drawn).drop k).take (2 + 2 * j)).map blk).map AV.str := by
              rw [sliceL_two _ _ _ (by omega) (by rw [List.length_map, List.length_map, hpl]; omega), show k + 2 + 2 * j - k = 2 + 2 * j by omega, List.map_take, List.map_take, List.map_drop, List.map_drop]
            rw [esl]
            have hsub : ∀ p ∈ ((pieceP faces drawn).drop k).take (2 + 2 * j), okB p := fun p hp => pieceP_ok hf drawn p (List.mem_of_mem_drop (List.mem_of_mem_take hp))
            have hlen : (catL ((((pieceP faces drawn).drop k).take (2 + 2 * j)).map blk)).length ≤ 48 := by
              refine Nat.le_trans (blks_len _) ?_
              rw [List.length_take, List.length_drop, hpl]
              omega
            have hall : (catL ((((pieceP faces drawn).drop k).take (2 + 2 * j)).map blk)).all (· < 128) = true := catL_all fun x hx => by
              obtain ⟨p, hp, rfl⟩ := List.mem_map.mp hx
              exact blk_all (hsub p hp)
            refine l_nil ?_
            refine k_join (.head _) (by omega) ?_
            refine l_nil ?_
            intro gv ws hg2 hws
            cases hg2
            refine aw_of_ah (ahC.toE (h_check B FC FS FG hs hg hR hall (by omega) hws ?_))
            have hok := pieceP_ok hf drawn
            have ech : chkP (catL ((((pieceP faces drawn).drop k).take (2 + 2 * j)).map blk)) = parP ((faces.drop k).take (k + 2 + 2 * j - k)) 0 := by
              rw [chkP_blk _ fun p hp => hok p (List.mem_of_mem_drop (List.mem_of_mem_take hp)), List.map_take, List.map_drop, pieceP_fst, show k + 2 + 2 * j - k = 2 + 2 * j by omega]
            have emid : midE faces k (6 - j) (k + 2 + 2 * j) = if parP ((faces.drop k).take (k + 2 + 2 * j - k)) 0 = true then some (k + 2 + 2 * j) else midE faces k (6 - (j + 1)) (k + 2 + 2 * (j + 1)) := by
              rw [show 6 - j = (6 - (j + 1)) + 1 by omega, midE, if_pos (by omega)]
              rfl
            rw [ech]
            rw [emid] at e1
            generalize parP ((faces.drop k).take (k + 2 + 2 * j - k)) 0 = tl at *
            refine aw_sub (List.sublist_cons_self _ _) ?_
            refine x_cons ?_
            refine x_if ?_
            refine t_cmp (by rfl) ?_
            walk_at "nm"
            refine e_bool ?_
            refine c_isb ?_
            refine ⟨_, rfl, fun h2 => ?_, fun h2 => ?_⟩
            · have h3 : tl = true := by cases tl with | true => rfl | false => cases h2
              subst h3
              rw [if_pos rfl] at e1
              rw [← e1]
              refine x_cons ?_
              refine x_expr ?_
              walk_at "append"
              walk_at "nm"
              refine ⟨⟨rfl, _, .head _⟩, ?_⟩
              refine l_cons ?_
              refine e_bin ?_
              refine e_bin ?_
              walk_at "nm"
              walk_at "nm"
              refine b_add ?_
              refine e_call ?_
              refine e_blt (av := .con (.builtin "len")) hN.eq 9 (by rfl) B.len.1 B.len.2 (by rfl) ?_
              refine ⟨trivial, ?_⟩
              refine l_cons ?_
              walk_at "nc"
              refine l_nil ?_
              refine k_len_str (by omega) ?_
              refine b_sub ?_
              refine l_nil ?_
              refine k_append .head (by rw [List.length_map]; omega) ?_
              refine x_cons ?_
              refine x_brk ?_
              refine ⟨rfl, _, _, rfl, ?_⟩
              simp only [List.map_append, List.map_cons, List.map_nil]
              exact List.Sublist.refl _
            · have h3 : tl = false := by cases tl with | false => rfl | true => cases h2
              subst h3
              rw [if_neg (by decide)] at e1
              refine x_nil ?_
              refine x_cons ?_
              refine x_if ?_
              refine t_cmp (by rfl) ?_
              walk_at "nm"
              refine e_bool ?_
              refine c_isnotb ?_
              refine ⟨_, rfl, fun h2 => absurd h2 (by decide), fun h2 => ?_⟩
              refine x_nil ?_
              refine x_nil ?_
              exact ⟨_, _, rfl, List.Sublist.refl _, e1, by omega⟩
          · exact ⟨_, _, rfl, List.sublist_cons_self _ _, rfl, Nat.zero_le _⟩
        · rintro fl vs2 H2 ⟨rfl, w6', w7', rfl, hS2⟩
          refine x_nil ?_
          refine ⟨_, _, _, _, rfl, hS2, e, ?_⟩
          split
          · rw [List.length_append]; simp only [List.length_cons, List.length_nil]; omega
          · omega
      · exact ⟨[], none, none, none, rfl, .cons _ (.cons_cons _ (.cons_cons _ (.cons _ (.cons _ (List.Sublist.refl _))))), rfl, Nat.le_refl _⟩
end

section
variable {b : Bs} {A : Around} {H : Led}
theorem h_fnRaw {a : Addr} {fd : FuncData} {body : List Stmt} {sc : Scope} {ps : List Str} {avs avs' : List AV} {P : Prot} {G : GProt} {s : Shared} {ws : List Value} {R : Result → Shared → Prop} (F : FnAt b a fd body) (hsc : fd.scope = sc) (hroom : A.depth < recursionLimit)
    (hps : (sc.names.map (·.1)).take ps.length = ps) (hlen : avs'.length = ps.length)
    (hpk : ∀ p ∈ sc.names.take ps.length, p.2 = .local ∨ p.2 = .cell)
    (hbind : ∀ P G s ws, SH b P G H s → Is2 avs ws → ∃ ws', Is2 avs' ws' ∧ BindsTo s fd ⟨ws, []⟩ (ps.zip ws'))
    (S : SH b P G H s) (hw : Is2 avs ws)
    (h : ∀ (f : Fm) (s' : Shared), f.env.scope = sc → f.own = true → f.env.cells.map (·.1) = ((sc.names.filter (·.2 == .cell)).map (·.1)).reverse → (f.env.code = fd.code ∧ f.env.qual = fd.qualname ++ ".<locals>.") → f.env.frame = some f.env.locals →
      St b P G f (avs'.map some ++ List.replicate (sc.names.length - ps.length) none) H s' →
      wpAny (M b) (A.deeper f.env) (execs body f.env) (fun fl s2 => R (.ok (.ret (flowVal fl))) s2) (fun e s2 => wpAny (M b) (A.deeper f.env) (leaving f.env e) (fun _ s3 => R (.error e) s3) (fun e' s3 => R (.error e') s3) s2) s')
    (hnd : (sc.names.map (·.1)).Nodup := by decide) (hco : sc.isCoroutine = false := by rfl) (hgen : sc.isGenerator = false := by rfl) (hk : sc.kind = .function := by rfl) :
    codeAny (M b) A (.call (.ref a) ⟨ws, []⟩) R s := by
  subst hsc
  obtain ⟨o, ho, hd⟩ := F.there
  obtain ⟨ws', hw', hb⟩ := hbind P G s ws S hw
  have hl' : ws'.length = ps.length := by rw [← hw'.length, hlen]
  have zkeys : (ps.zip ws').map (·.1) = ps := by rw [List.map_fst_zip]; omega
  have znd : ((ps.zip ws').map (·.1)).Nodup := by rw [zkeys, ← hps]; exact hnd.sublist (List.take_sublist _ _)
  have kmem : ∀ x ∈ ps, ∃ k, (k = .local ∨ k = .cell) ∧ fd.scope.names.lookup x = some k ∧ (x, k) ∈ fd.scope.names := fun x hx => by
    rw [← hps, ← List.map_take] at hx
    obtain ⟨p, hp, rfl⟩ := List.mem_map.mp hx
    have hm := List.mem_of_mem_take hp
    exact ⟨p.2, hpk p hp, lookup_of_mem (x := p.1) (a := p.2) hnd hm, hm⟩
  refine codeAny_call_function hroom (S.old ho) hd hco hgen F.body (F.code.keeps fun a o e => S.old e) ?_
  refine hb _ _ _ _ ?_
  rw [F.clo]
  refine wpAny_newFunctionEnv_cells hk (fun p hp => ?_) fun env he s' x => ?_
  · have hx : p.1 ∈ ps := by rw [← zkeys]; exact List.mem_map_of_mem (f := (·.1)) hp
    obtain ⟨k, hk2, hl, hm⟩ := kmem _ hx
    rcases hk2 with rfl | rfl
    · exact .inl hl
    · refine .inr ⟨hl, ?_⟩
      have : p.1 ∈ (cellsFrom (s.heap.objs.size + 1) fd.scope.names []).map (·.1) := by
        rw [cellsFrom_keys]
        simp only [List.map_nil, List.append_nil, List.mem_reverse]
        exact List.mem_map.mpr ⟨(p.1, .cell), List.mem_filter.mpr ⟨hm, rfl⟩, rfl⟩
      obtain ⟨q, hq, e⟩ := List.mem_map.mp this
      have cnd : ((cellsFrom (s.heap.objs.size + 1) fd.scope.names []).map (·.1)).Nodup := by
        rw [cellsFrom_keys]
        simp only [List.map_nil, List.append_nil]
        exact List.pairwise_reverse.mpr ((hnd.sublist (List.Sublist.map _ List.filter_sublist)).imp Ne.symm)
      rw [← e, lookup_of_mem (x := q.1) (a := q.2) cnd hq]; rfl
  · have ckeys : env.cells.map (·.1) = ((fd.scope.names.filter (·.2 == .cell)).map (·.1)).reverse := by
      rw [he]
      show (cellsFrom _ _ _).map _ = _
      rw [cellsFrom_keys]; simp
    have cnd : (env.cells.map (·.1)).Nodup := by
      rw [ckeys]
      exact List.pairwise_reverse.mpr ((hnd.sublist (List.Sublist.map _ List.filter_sublist)).imp Ne.symm)
    have hL : env.locals = s.heap.objs.size := by rw [he]; rfl
    have hsce : env.scope = fd.scope := by rw [he]; rfl
    have hkind : ∀ y, env.kindOf y = fd.scope.names.lookup y := fun y => by show env.scope.names.lookup y = _; rw [hsce]
    obtain ⟨h', tk, e, keep⟩ := x.toInCall.done
    have S' : SH b P G H s' := by rw [e]; exact S.ext keep
    have above : ∀ p ∈ env.cells, s.heap.objs.size < p.2 := fun p hp => by rw [← hL]; exact x.above p.1 p.2 hp
    have big : ∀ X : Addr, s.heap.objs.size ≤ X → X ∉ keys H ∧ ∀ o, ¬ P X o := fun X hX => ⟨fun q => by
      obtain ⟨o, ho⟩ := S.key_some q
      exact absurd (Heap.lt_size ho) (Nat.not_lt.mpr hX), fun o q => absurd (Heap.lt_size (S.keep _ _ q)) (Nat.not_lt.mpr hX)⟩
    have hcell : ∀ p ∈ env.cells, s'.heap.IsCell p.2 (bindC env.kindOf (ps.zip ws') (fun _ => none) p.1) := fun p hp => x.cell p.1 p.2 (lookup_of_mem (x := p.1) (a := p.2) cnd hp)
    have zget : ∀ (j : Nat) (x : Str) (av : AV), fd.scope.names.length = fd.scope.names.length → ((fd.scope.names.map (·.1))[j]? = some x) → (avs'.map some ++ List.replicate (fd.scope.names.length - ps.length) (none : Option AV))[j]? = some (some av) → ∃ v, (x, v) ∈ ps.zip ws' ∧ av.is v := fun j x av _ hx hv => by
      have hj : j < avs'.length := by
        by_cases hj : j < avs'.length
        · exact hj
        · exfalso
          rw [List.getElem?_append_right (by simpa using Nat.not_lt.mp hj), List.getElem?_replicate] at hv
          split at hv <;> cases hv
      rw [List.getElem?_append_left (by simpa using hj), List.getElem?_map] at hv
      cases ha : avs'[j]? with
      | none => rw [ha] at hv; cases hv
      | some z =>
        rw [ha] at hv; simp at hv; subst hv
        obtain ⟨v, hv, hz⟩ := hw'.get ha
        refine ⟨v, ?_, hz⟩
        have hp : ps[j]? = some x := by
          rw [← hps, List.getElem?_take, if_pos (by omega)]; exact hx
        have : (ps.zip ws')[j]? = some (x, v) := by
          rw [List.getElem?_zip_eq_some]; exact ⟨hp, hv⟩
        exact List.mem_of_getElem? this
    have St' : St b P G ⟨env, true⟩ (avs'.map some ++ List.replicate (fd.scope.names.length - ps.length) none) H s' := by
      refine ⟨⟨by rw [hsce]; exact hk, by rw [he]; exact F.glob, by rw [he]; exact F.bi, by rw [hsce]; exact hnd, ?_, fun p hp => by rw [hL]; exact Nat.ne_of_gt (above p hp)⟩, S', by rw [hL]; exact (big _ (Nat.le_refl _)).2, by rw [hL]; exact (big _ (Nat.le_refl _)).1,
        fun p hp => (big _ (Nat.le_of_lt (above p hp))).1, fun _ p hp => (big _ (Nat.le_of_lt (above p hp))).2, fun p hp => let ⟨o, ho, hd⟩ := hcell p hp; ⟨o, _, ho, hd⟩, ⟨_, x.toInCall.ns, fun j y av ej ev => ?_⟩, fun j y k av ej hk2 ev => ?_⟩
      · have := x.apart
        exact List.pairwise_map.mpr this
      · rw [hsce] at ej
        obtain ⟨v, hm, hv⟩ := zget j y av rfl (by rw [List.getElem?_map, ej]; rfl) ev
        exact ⟨v, bindL_get znd hm (by rw [hkind]; exact lookup_of_nodup hnd ej), hv⟩
      · rw [hsce] at ej
        obtain ⟨v, hm, hv⟩ := zget j y av rfl (by rw [List.getElem?_map, ej]; rfl) ev
        have hkk : env.kindOf y = some k := by rw [hkind]; exact lookup_of_nodup hnd ej
        have hy : y ∈ ps := by rw [← zkeys]; exact List.mem_map_of_mem (f := (·.1)) hm
        obtain ⟨k', hk', hl', hm'⟩ := kmem y hy
        rw [hkind, hl'] at hkk
        cases hkk
        have hkc : k = .cell := by
          rcases hk' with rfl | rfl
          · rcases hk2 with q | q <;> cases q
          · rfl
        subst hkc
        have : y ∈ env.cells.map (·.1) := by
          rw [ckeys, List.mem_reverse]
          exact List.mem_map.mpr ⟨(y, .cell), List.mem_filter.mpr ⟨hm', rfl⟩, rfl⟩
        obtain ⟨q, hq, eq⟩ := List.mem_map.mp this
        obtain ⟨oc, hoc, hdc⟩ := hcell q hq
        refine ⟨q.2, oc, v, by rw [← eq]; exact lookup_of_mem (x := q.1) (a := q.2) cnd hq, hoc, ?_, hv⟩
        rw [hdc, eq, bindC_get znd hm (by rw [hkind, hl']; simp)]
    refine ⟨S'.nolim, ?_⟩
    have hh := h ⟨env, true⟩ s' hsce rfl ckeys (by rw [he]; exact ⟨rfl, rfl⟩) (by rw [he]; rfl) St'
    refine codeAny_func (wpAny_mono hh (fun fl s2 hr => ?_) fun _ _ e => e)
    cases fl <;> exact hr
end

/-! frames that an exception leaves: their locals stay but for the slots -/
noncomputable def upTo (oL : Obj) : AO := .raw fun o => ∃ sl, o = { oL with slots := sl }
inductive FrOk : List Env → Led → Prop
  | nil : FrOk [] []
  | cons {env : Env} {L : Addr} {oL : Obj} {outer : List Env} {FL : Led} : env.scope.kind = .function → env.frame = some L → (∃ es n, oL.data = .dict es n) → FrOk outer FL → FrOk (env :: outer) ((L, upTo oL) :: FL)
theorem FrOk.frames {l : List Env} {FL : Led} (h : FrOk l FL) : l.filterMap (·.frame) = keys FL := by
  induction h with
  | nil => rfl
  | cons hk hf hd _ ih => rw [List.filterMap_cons, hf]; exact congrArg _ ih
theorem FrOk.fun {l : List Env} {FL : Led} (h : FrOk l FL) {hp base : Heap} : (∀ p ∈ FL, OR hp p.1 p.2) → (∀ a ∈ keys FL, base.get? a = none) → hp.FunFrames base l := by
  induction h with
  | nil => intro _ _; trivial
  | @cons env L oL outer FL hk hf hd _ ih =>
    intro h1 h2
    obtain ⟨o, ho, sl, rfl⟩ := h1 _ (.head _)
    obtain ⟨es, n, hd⟩ := hd
    refine ⟨by rw [hk]; decide, ⟨L, _, hf, h2 L (.head _), ho, fun vs q => by rw [show ({ oL with slots := sl } : Obj).data = oL.data from rfl, hd] at q; cases q⟩, ih (fun p hp => h1 p (.tail _ hp)) fun a ha => h2 a (.tail _ ha)⟩
theorem FrOk.entry {l : List Env} {FL : Led} (h : FrOk l FL) : ∀ p ∈ FL, ∃ oL, p.2 = upTo oL ∧ ∃ es n, oL.data = .dict es n := by
  induction h with
  | nil => intro p hp; cases hp
  | @cons env L oL outer FL hk hf hd _ ih =>
    intro p hp
    rcases List.mem_cons.mp hp with rfl | q
    · exact ⟨oL, rfl, hd⟩
    · exact ih p q

section
variable {b : Bs} {A : Around} {f : Fm} {vs : Vs} {P : Prot} {G : GProt} {FL H : Led} {s : Shared}
structure Fly (b : Bs) (P : Prot) (G : GProt) (FL H : Led) (outer : List Env) (base : Heap) (s : Shared) : Prop where
  sh : SH b P G (FL ++ H) s
  ok : FrOk outer FL
  hold : ∀ a o, (P a o ∨ a ∈ keys H) → s.heap.get? a = some o → base.get? a = some o
theorem Fly.step {outer : List Env} {base h' : Heap} (X : Fly b P G FL H outer base s) (st : base.StaysIn h') (up : s.heap.UpToSlots h') : Fly b P G FL H outer base { s with heap := h' } := by
  have S := X.sh
  have hkeep : ∀ a o, (P a o ∨ a ∈ keys H) → s.heap.get? a = some o → h'.get? a = some o := fun a o q e => st a o (X.hold a o q e)
  refine ⟨⟨S.ok, S.base, fun a o e => hkeep a o (.inl e) (S.keep a o e), S.apart, S.nodup, fun p hp => ?_, S.gk, S.gb, S.os⟩, X.ok, fun a o q e => ?_⟩
  · rcases List.mem_append.mp hp with q | q
    · obtain ⟨oL, e, es, n, hd⟩ := X.ok.entry p q
      have ho := S.led p hp
      rw [e] at ho ⊢
      obtain ⟨o, ho, sl, rfl⟩ := ho
      obtain ⟨sl', hs⟩ := up _ _ ho (fun vs q => by rw [show ({ oL with slots := sl } : Obj).data = oL.data from rfl, hd] at q; cases q)
      exact ⟨_, hs, sl', rfl⟩
    · exact (S.led p hp).mono fun o e => hkeep _ o (.inr (List.mem_map_of_mem (f := (·.1)) q)) e
  · rcases q with q | q
    · exact X.hold a o (.inl q) (S.keep a o q)
    · obtain ⟨p, hp, rfl⟩ := List.mem_map.mp q
      obtain ⟨o', ho'⟩ := (S.led p (List.mem_append_right _ hp)).some
      have := hkeep _ _ (.inr q) ho'
      simp only at e
      rw [this] at e
      cases e
      exact X.hold _ _ (.inr q) ho'

/-! one more item of a list's iterator, or none -/
theorem k_next_item {I ta : Addr} {xs : List AV} {i : Nat} {x : AV} {H' : Led} {Q : AV → Vs → Led → Prop} (u : LUpd I (aoListIt ta i) (aoListIt ta (i + 1)) H H') (hm : (ta, AO.list xs) ∈ H) (hx : xs[i]? = some x) (h : Q x vs H') :
    ∀ g ws, (AV.con (.builtin "next")).is g → Is2 [.ref I] ws → awE b A f vs H (call g ws []) Q := by
  intro g ws hg hw P G s S
  cases hg
  replace hw := Is2.inv1 hw
  obtain ⟨w, rfl, hw⟩ := hw
  cases hw
  obtain ⟨o, ho, hcl, hd⟩ := S.sh.led _ u.mem
  have hit : s.heap.IsListIter I ta i := ⟨o, ho, hcl, hd⟩
  obtain ⟨us, hl, h2⟩ := (S.sh.led _ hm).isList
  obtain ⟨ol, hol, hlc, nl, hdl⟩ := id hl
  obtain ⟨v, hv, hxv⟩ := h2.get hx
  refine call_function_entry (by decide +kernel) (by decide +kernel) kdk_entry_next (kdk_args_next _) ?_
  unfold Builtin.«next»
  refine wpAny_bind (m := someArgs "next" 1 2 _) (wpAny_of_eq (a := [Value.ref I]) (by first | rfl | kernel_rfl!) ?_)
  dsimp only
  refine wpAny_bind (wpAny_specialOf (name := Str.ofString "__next__") (⟨o, ho, hcl⟩ : s.TypeIs (.ref I) "list_iterator") slot_listiter_next.lookup ?_)
  refine wpAny_ite_split (fun hab => absurd hab (by decide)) (fun _ => ?_)
  dsimp only [List.headD]
  refine wpAny_bind (wpAny_callSpecial?_slot (name := Str.ofString "__next__") hit.typeIs slot_listiter_next
    (wpAny_call_entry slot_listiter_next hit.typeIs entry_listiter_next ?_ (args_listiter_next _)))
  show wpAny _ _ (field (.ref I) 0 >>= _) _ _ s
  refine wpAny_bind (wpAny_field ho hd (x := .ref ta) rfl ?_)
  show wpAny _ _ (if (Value.ref ta == Value.none) = true then _ else _) _ _ s
  rw [if_neg (show ¬ ((Value.ref ta == Value.none) = true) from Bool.false_ne_true)]
  show wpAny _ _ (field (.ref I) 1 >>= _) _ _ s
  refine wpAny_bind (wpAny_field ho hd (x := .int i 0) rfl ?_)
  show wpAny _ _ (seqItems? (.ref ta) >>= _) _ _ s
  refine wpAny_bind (wpAny_seqItems hol hdl ?_)
  have hx' : us.toArray[i]? = some v := by simpa using hv
  simp only [Int.toNat_natCast, hx']
  refine wpAny_bind (wpAny_setField ho hd (by simp) (wpAny_pure ⟨_, rfl, wpAny_pure ⟨v, rfl, x, vs, H', hxv, S.upd u (Heap.SameBut.update ..).extBut ⟨_, Heap.get?_update_self _ ho (Obj.isFreed_of_fields (Obj.data_mapFields hd _)), ?_, ?_⟩, h⟩⟩))
  · exact (Obj.cls_mapFields ..).trans hcl
  · rw [Obj.data_mapFields hd]; simp [rawInt]
end

section
variable {b : Bs} {A : Around} {f : Fm} {vs : Vs} {P : Prot} {G : GProt} {FL H : Led} {s : Shared}
/-- an exception that has just been made, h₁ the heap ahead of it -/
structure Fresh (T : String) (h₁ : Heap) (ea : Addr) (h' : Heap) : Prop where
  keep : ∀ a o, h₁.get? a = some o → h'.get? a = some o
  new : h₁.get? ea = none
  ex : ∃ oe vs a0, h'.get? ea = some oe ∧ oe.cls = .type T ∧ oe.data = .fields vs ∧ vs[1]? = some .none ∧ vs[0]? = some a0
theorem next_raise (hh : A.handled = none) {I ta : Addr} {xs : List AV} {i : Nat} (S : SH b P G ((I, aoListIt ta i) :: H) s) (hm : (ta, AO.list xs) ∈ H) (hi : xs.length ≤ i) :
    wpAny (M b) A (call (.builtin "next") [.ref I] []) (fun _ _ => False) (fun e s' => ∃ h₁ ea, e = .ref ea ∧ SH b P G H { s with heap := h₁ } ∧ Fresh "StopIteration" h₁ ea s'.heap ∧ s' = { s with heap := s'.heap }) s := by
  obtain ⟨o, ho, hcl, hd⟩ := S.led _ (.head _)
  have hit : s.heap.IsListIter I ta i := ⟨o, ho, hcl, hd⟩
  obtain ⟨us, hl, h2⟩ := (S.led _ (.tail _ hm)).isList
  obtain ⟨ol, hol, hlc, nl, hdl⟩ := id hl
  refine call_function_entry (by decide +kernel) (by decide +kernel) kdk_entry_next (kdk_args_next _) ?_
  unfold Builtin.«next»
  refine wpAny_bind (m := someArgs "next" 1 2 _) (wpAny_of_eq (a := [Value.ref I]) (by first | rfl | kernel_rfl!) ?_)
  dsimp only
  refine wpAny_bind (wpAny_specialOf (name := Str.ofString "__next__") (⟨o, ho, hcl⟩ : s.TypeIs (.ref I) "list_iterator") slot_listiter_next.lookup ?_)
  refine wpAny_ite_split (fun hab => absurd hab (by decide)) (fun _ => ?_)
  dsimp only [List.headD]
  refine wpAny_bind (wpAny_callSpecial?_slot (name := Str.ofString "__next__") hit.typeIs slot_listiter_next
    (wpAny_call_entry slot_listiter_next hit.typeIs entry_listiter_next ?_ (args_listiter_next _)))
  show wpAny _ _ (field (.ref I) 0 >>= _) _ _ s
  refine wpAny_bind (wpAny_field ho hd (x := .ref ta) rfl ?_)
  show wpAny _ _ (if (Value.ref ta == Value.none) = true then _ else _) _ _ s
  rw [if_neg (show ¬ ((Value.ref ta == Value.none) = true) from Bool.false_ne_true)]
  show wpAny _ _ (field (.ref I) 1 >>= _) _ _ s
  refine wpAny_bind (wpAny_field ho hd (x := .int i 0) rfl ?_)
  show wpAny _ _ (seqItems? (.ref ta) >>= _) _ _ s
  refine wpAny_bind (wpAny_seqItems hol hdl ?_)
  have hx' : us.toArray[i]? = none := by
    have := h2.length
    simp; omega
  simp only [Int.toNat_natCast, hx']
  refine wpAny_bind (wpAny_rule (wpAny_bind (wpAny_setField ho hd (by simp) ?_)))
  show wpAny _ _ (newExc (.type "StopIteration") [] >>= _) _ _ _
  refine wpAny_bind ?_
  simp only [newExc, newTuple]
  refine wpAny_bind (wpAny_newObj_type ?_ (by size_fits))
  refine wpAny_bind (m := firstArgMember _ _) (wpAny_of_eq (a := Value.none) (by first | rfl | (simp only [firstArgMember]; rfl)) ?_)
  refine wpAny_newObj_type ?_ (by size_fits)
  simp only [raiseNew]
  refine wpAny_bind (wpAny_handled ?_)
  first | rw [show A.in1.handled = none from hh] | rw [show A.in1.in1.handled = none from hh] | rw [hh]
  refine wpAny_bind (wpAny_pure (wpAny_throw ?_))
  have hI : I ∉ keys H := (List.nodup_cons.mp S.nodup).1
  have S1 : SH b P G H { s with heap := s.heap.update I (Obj.mapFields (·.setIfInBounds 0 Value.none)), toks := s.toks } := (S.sub (List.sublist_cons_self _ _)).but hI (S.apart I (.head _)) (Heap.SameBut.update ..).extBut
  refine ⟨_, _, rfl, S1, ⟨fun a o e => Heap.get?_push_of_some _ (Heap.get?_push_of_some _ e), Heap.get?_none_of_le (by simp), _, _, _, Heap.get?_push_size _ rfl, rfl, rfl, rfl, rfl⟩, rfl⟩
end

section
variable {b : Bs} {A : Around} {f : Fm} {vs : Vs} {P : Prot} {G : GProt} {FL H : Led} {s : Shared}
theorem FrOk.inv {env : Env} {outer : List Env} {p : Addr × AO} {FL : Led} (h : FrOk (env :: outer) (p :: FL)) : env.frame = some p.1 ∧ env.scope.kind = .function ∧ FrOk outer FL := by
  cases h with | cons hk hf _ h => exact ⟨hf, hk, h⟩
theorem leave_fresh {env : Env} {outer : List Env} {L : Addr} {oL : Obj} {T : String} {h₁ : Heap} {ea : Addr} {Q : Unit → Shared → Prop} {E : Value → Shared → Prop} (hfr : A.frames = some (env :: outer)) (hok : FrOk (env :: outer) ((L, upTo oL) :: FL))
    (S : SH b P G ((L, upTo oL) :: (FL ++ H)) { s with heap := h₁ }) (X : Fresh T h₁ ea s.heap)
    (h : ∀ base a0 h', Heap.FlyingW base outer ea (.type T) a0 h' → Fly b P G FL H outer base { s with heap := h' } → Q () { s with heap := h' }) :
    wpAny (M b) A (leaving env (.ref ea)) Q E s := by
  obtain ⟨oe, us, a0, he, hcl, hd, h1, h0⟩ := X.ex
  have hf : env.frame = some L := hok.inv.1
  have hok2 : FrOk outer FL := hok.inv.2.2
  have hstay : (hideAll h₁ (L :: keys FL)).StaysIn s.heap := fun a o e => X.keep a o (of_hideAll _ e)
  have hnone : ∀ a ∈ L :: keys FL, (hideAll h₁ (L :: keys FL)).get? a = none := fun a ha => hideAll_none _ ha
  have S2 : SH b P G ((L, upTo oL) :: (FL ++ H)) s := S.ext (h' := s.heap) (t := s.toks) X.keep
  have hfun : s.heap.FunFrames (hideAll h₁ (L :: keys FL)) (env :: outer) := hok.fun (fun p hp => S2.led p (by
    rcases List.mem_cons.mp hp with rfl | q
    · exact .head _
    · exact .tail _ (List.mem_append_left _ q))) hnone
  have hen : (hideAll h₁ (L :: keys FL)).get? ea = none := by
    cases hq : (hideAll h₁ (L :: keys FL)).get? ea with
    | none => rfl
    | some o => have := of_hideAll _ hq; rw [X.new] at this; cases this
  refine wpAny_leaving_firstW hfr hfun hf he hstay hen hd h1 h0 fun h' hL => ?_
  obtain ⟨k1, ⟨_, _, k2⟩, k3, k4⟩ := hL
  rw [hcl] at k3
  have nd := S.nodup
  refine h _ a0 h' ⟨k1, hen, k2, k3⟩ (Fly.step (s := s) ⟨S2.sub (List.sublist_cons_self _ _), hok2, fun a o q e => ?_⟩ k1 k4)
  have hk : h₁.get? a = some o := by
    rcases q with q | q
    · exact S.keep a o q
    · obtain ⟨p, hp, rfl⟩ := List.mem_map.mp q
      obtain ⟨o', ho'⟩ := (S.led p (.tail _ (List.mem_append_right _ hp))).some
      have := X.keep _ _ ho'
      rw [this] at e
      cases e
      exact ho'
  refine hideAll_get _ hk fun hm => ?_
  rcases q with q | q
  · refine S.apart a ?_ o q
    rcases List.mem_cons.mp hm with rfl | hm
    · exact .head _
    · show a ∈ L :: keys (FL ++ H)
      rw [show keys (FL ++ H) = keys FL ++ keys H from List.map_append]
      exact .tail _ (List.mem_append_left _ hm)
  · have nd2 : (L :: (keys FL ++ keys H)).Nodup := by
      rw [← show keys (FL ++ H) = keys FL ++ keys H from List.map_append]; exact nd
    have nd3 : ((L :: keys FL) ++ keys H).Nodup := nd2
    exact (List.nodup_append.mp nd3).2.2 a hm a q rfl
end

theorem and63 {o : Int} (h : 0 ≤ o) : 0 ≤ Builtin.bitAnd o 63 ∧ Builtin.bitAnd o 63 ≤ 63 := by
  rw [bitAnd_pp h (by decide)]
  have : o.toNat &&& (63 : Int).toNat ≤ (63 : Int).toNat := Nat.and_le_right
  have e : (63 : Int).toNat = 63 := rfl
  rw [e] at this ⊢
  omega
theorem or_le {x y : Int} (hx : 0 ≤ x) (hy : 0 ≤ y) : 0 ≤ Builtin.bitOr x y ∧ Builtin.bitOr x y ≤ x + y := by
  rw [bitOr_and, bitAnd_pp hx hy]
  have h1 : x.toNat &&& y.toNat ≤ x.toNat := Nat.and_le_left
  omega
/-- one number off the list -/
noncomputable def oneP : Option Int → List Int → Option (Int × List Int)
  | _, [] => none
  | none, o :: r => if Builtin.bitAnd o 64 = 0 then some (Builtin.bitAnd o 63, r) else oneP (some (Builtin.bitAnd o 63)) r
  | some v, o :: r => if Builtin.bitAnd o 64 = 0 then some (Builtin.bitOr (v * 2 ^ 6) (Builtin.bitAnd o 63), r) else oneP (some (Builtin.bitOr (v * 2 ^ 6) (Builtin.bitAnd o 63))) r
theorem varP_one : ∀ (l : List Int) (u : Option Int) (v : Int) (r : List Int), oneP u l = some (v, r) → varP u l = v :: varP none r
  | [], u, v, r, h => by cases u <;> simp [oneP] at h
  | o :: l, none, v, r, h => by
    rw [oneP] at h; rw [varP]
    split at h
    · rename_i hc; rw [if_pos hc]; cases h; rfl
    · rename_i hc; rw [if_neg hc]; exact varP_one l _ _ _ h
  | o :: l, some u, v, r, h => by
    rw [oneP] at h; rw [varP]
    split at h
    · rename_i hc; rw [if_pos hc]; cases h; rfl
    · rename_i hc; rw [if_neg hc]; exact varP_one l _ _ _ h
theorem oneP_len : ∀ (l : List Int) (u : Option Int) (v : Int) (r : List Int), oneP u l = some (v, r) → r.length < l.length ∧ r <:+ l
  | [], u, v, r, h => by cases u <;> simp [oneP] at h
  | o :: l, none, v, r, h => by
    rw [oneP] at h
    split at h
    · cases h; exact ⟨by simp, List.suffix_cons _ _⟩
    · have := oneP_len l _ _ _ h; exact ⟨by simp; omega, this.2.trans (List.suffix_cons _ _)⟩
  | o :: l, some u, v, r, h => by
    rw [oneP] at h
    split at h
    · cases h; exact ⟨by simp, List.suffix_cons _ _⟩
    · have := oneP_len l _ _ _ h; exact ⟨by simp; omega, this.2.trans (List.suffix_cons _ _)⟩
section
variable {b : Bs} {A : Around} {H : Led}
theorem h_varint (B : Blt b) {a : Addr} (F : FnIs b a (stAt 7)) {n : Nat} (R : Room A (n + 1)) {I ta : Addr} {ns : List Int} {i : Nat} {V : Int} {r : List Int} (hm : (ta, AO.list (ns.map AV.int)) ∈ H) (hz : ns.length ≤ 6) (hn0 : ∀ o ∈ ns, 0 ≤ o) (h1 : oneP none (ns.drop i) = some (V, r)) {ws : List Value} (hw : Is2 [.ref I] ws) {Q : AV → Led → Prop}
    (h : ∀ j, ns.drop j = r → j ≤ ns.length → Q (.int V) ((I, aoListIt ta j) :: H)) : ahC b A ((I, aoListIt ta i) :: H) (.call (.ref a) ⟨ws, []⟩) Q := by
  refine h_code (ns := [("iterator", .local), ("b", .local), ("val", .local), ("next", .globalImplicit)]) F R hw ["iterator"] (by rfl) (by rfl) (by rfl) (by decide) (fun fd ws hw => ?_) (fun f A' hn ho hc hR => ?_)
  · obtain ⟨_, rfl, _⟩ := Is2.inv1 hw
    rfl
  · have hN := NS.mk hn
    show awF _ _ _ [some (.ref I), none, none, none] _ _ _
    have hlt : i < ns.length := by
      by_cases q : i < ns.length
      · exact q
      · rw [List.drop_of_length_le (by omega)] at h1; simp [oneP] at h1
    have hdr : ∀ k, (hk : k < ns.length) → ns.drop k = ns[k] :: ns.drop (k + 1) := fun k hk => List.drop_eq_getElem_cons hk
    have hat : ∀ k, (hk : k < ns.length) → (ns.map AV.int)[k]? = some (AV.int ns[k]) := fun k hk => by rw [List.getElem?_map, List.getElem?_eq_getElem hk]; rfl
    rw [hdr i hlt, oneP] at h1
    have ho0 := hn0 _ (List.getElem_mem hlt)
    refine x_cons ?_
    walk_at "as"
    refine e_call ?_
    refine e_blt (av := .con (.builtin "next")) hN.eq 3 (by rfl) B.next.1 B.next.2 (by rfl) ?_
    refine ⟨trivial, ?_⟩
    refine l_cons ?_
    walk_at "nm"
    refine l_nil ?_
    refine k_next_item .head (.tail _ hm) (hat i hlt) ?_
    refine x_cons ?_
    walk_at "as"
    refine e_bin ?_
    walk_at "nm"
    refine e_int ?_
    refine b_and ?_
    refine x_cons ?_
    refine x_while (fun m vs H1 => ∃ (k : Nat) (o v : Int), vs = [some (.ref I), some (.int o), some (.int v), none] ∧ H1 = (I, aoListIt ta k) :: H ∧ m = ns.length - k ∧ k ≤ ns.length ∧ 0 ≤ o ∧ 0 ≤ v ∧ v < 64 ^ k ∧ (if Builtin.bitAnd o 64 = 0 then some (v, ns.drop k) else oneP (some v) (ns.drop k)) = some (V, r)) (ns.length - (i + 1)) ?_ ?_
    · refine ⟨i + 1, ns[i], Builtin.bitAnd ns[i] 63, rfl, rfl, rfl, hlt, ho0, (and63 ho0).1, ?_, h1⟩
      have := (and63 ho0).2
      have h64 : (64 : Int) ^ 1 ≤ 64 ^ (i + 1) := by
        have := Nat.pow_le_pow_right (n := 64) (by decide) (show 1 ≤ i + 1 by omega)
        exact_mod_cast this
      omega
    · rintro m vs H1 ⟨k, o, v, rfl, rfl, rfl, hk, ho1, hv0, hv1, he⟩
      refine t_val ?_
      refine e_bin ?_
      walk_at "nm"
      refine e_int ?_
      refine b_and ?_
      refine ⟨_, rfl, fun hc => ?_, fun hc => ?_⟩
      · have hne : ¬ Builtin.bitAnd o 64 = 0 := by simpa using hc
        rw [if_neg hne] at he
        have hlt : k < ns.length := by
          by_cases q : k < ns.length
          · exact q
          · rw [List.drop_of_length_le (by omega)] at he; simp [oneP] at he
        rw [hdr k hlt, oneP] at he
        have ho2 := hn0 _ (List.getElem_mem hlt)
        have hpw : (64 : Int) ^ k ≤ 64 ^ 6 := by
          have := Nat.pow_le_pow_right (n := 64) (by decide) (show k ≤ 6 by omega)
          exact_mod_cast this
        refine x_cons ?_
        walk_at "au"
        walk_at "nl"
        refine e_int ?_
        refine i_shl (by decide) (by decide) (by omega) ?_
        refine x_cons ?_
        walk_at "as"
        refine e_call ?_
        refine e_blt (av := .con (.builtin "next")) hN.eq 3 (by rfl) B.next.1 B.next.2 (by rfl) ?_
        refine ⟨trivial, ?_⟩
        refine l_cons ?_
        walk_at "nm"
        refine l_nil ?_
        refine k_next_item .head (.tail _ hm) (hat k hlt) ?_
        refine x_cons ?_
        walk_at "au"
        walk_at "nl"
        refine e_bin ?_
        walk_at "nm"
        refine e_int ?_
        refine b_and ?_
        refine i_or ?_
        refine x_nil ?_
        have hb := and63 ho2
        have hv2 : 0 ≤ v * 2 ^ 6 := Int.mul_nonneg hv0 (by decide)
        have ho3 := or_le hv2 hb.1
        refine ⟨ns.length - (k + 1), by omega, k + 1, ns[k], _, rfl, rfl, rfl, hlt, ho2, ho3.1, ?_, he⟩
        have e1 : ((6 : Int).toNat) = 6 := rfl
        rw [e1, Int.pow_succ 64 k]
        have e2 : v * 2 ^ 6 = v * 64 := rfl
        generalize Builtin.bitOr (v * 2 ^ 6) (Builtin.bitAnd ns[k] 63) = z at *
        omega
      · have he0 : Builtin.bitAnd o 64 = 0 := by simpa using hc
        rw [if_pos he0] at he
        cases he
        refine x_cons ?_
        refine x_ret ?_
        walk_at "nm"
        exact h k rfl hk
end

section
variable {b : Bs} {A : Around} {f : Fm} {vs : Vs} {H : Led}
/-- t raises, and X says what then holds -/
noncomputable def awX (b : Bs) (A : Around) (f : Fm) (vs : Vs) (H : Led) {α : Type} (t : Sem α) (X : Prot → GProt → Value → Shared → Prop) : Prop :=
  ∀ P G s, St b P G f vs H s → wpAny (M b) A t (fun _ _ => False) (X P G) s
variable {X : Prot → GProt → Value → Shared → Prop}
theorem X_cons {st : Stmt} {r : List Stmt} (h : awX b A f vs H (exec st f.env) X) : awX b A f vs H (execs (st :: r) f.env) X := fun P G s S =>
  wpAny_execs_cons (wpAny_mono (h P G s S) (fun _ _ e => e.elim) fun _ _ e => e)
theorem X_asg {x : Str} {p pos : Pos} {value : Expr} (h : awX b A f vs H (eval value f.env) X) (hs : swapsWith value (some (.Name x p)) pos.line f.env = pure false := by rfl) :
    awX b A f vs H (exec (.Assign [.Name x p] value pos) f.env) X := fun P G s S => wpAny_Assign_Name (wpAny_mono (h P G s S) (fun _ _ e => e.elim) fun _ _ e => e) hs
theorem X_expr {e : Expr} {pos : Pos} (h : awX b A f vs H (eval e f.env) X) (hs : swapsWith e none pos.line f.env = pure false := by rfl) : awX b A f vs H (exec (.Expr e pos) f.env) X := fun P G s S =>
  wpAny_Expr_any (wpAny_mono (h P G s S) (fun _ _ e => e.elim) fun _ _ e => e) (by unfold interactive; rw [S.fo.kind]; rfl) hs
theorem X_args {pos : Pos} {e : Expr} {r : List Expr} (h : awX b A f vs H (eval e f.env) X) (he : starEach (e :: r) f.env = (false, eval e f.env) :: starEach r f.env := by rfl) :
    awX b A f vs H (spliced (backTo pos (starEach (e :: r) f.env))) X := fun P G s S =>
  wpAny_items_cons (wpAny_mono (h P G s S) (fun _ _ e => e.elim) fun _ _ e => e) he
theorem X_call {x : Str} {p pos : Pos} {e : Expr} {r : List Expr} (h : awE b A f vs H (eval (.Name x p) f.env) fun fv vs1 H1 => KeepOk b fv ∧
      awL b A f vs1 H1 (spliced (backTo pos (starEach (e :: r) f.env))) fun xs vs2 H2 => ∀ g ws, fv.is g → Is2 xs ws → awX b A f vs2 H2 (call g ws []) X)
    (he : starEach (e :: r) f.env = (false, eval e f.env) :: starEach r f.env := by rfl) (hp : (backTo pos (starEach r f.env)).any (·.1) = false := by rfl) :
    awX b A f vs H (eval (.Call (.Name x p) (e :: r) [] pos) f.env) X := fun P G s S => by
  refine wpAny_Call_NameR (aw_use (h P G s S) (fun g s1 fv vs1 H1 hg S1 hr9 => ?_))
  obtain ⟨hk, h1⟩ := hr9
  have h2 := h1 P G s1 S1
  rw [he] at h2 ⊢
  refine callWith_of (first := []) (P := fun hp => ∀ a o, b.h₀.get? a = some o → hp.get? a = some o) (by show ((false || (backTo pos (starEach r f.env)).any (·.1)) || false) = false; rw [hp]; rfl) (fun hp hb => hk.looks hg hp hb)
    (Calls.evalArgs_plain (wpAny_mono h2 (fun ws s2 ⟨xs, vs2, H2, hx, S2, h3⟩ => ⟨fun a o e => S2.sh.old e, h3 g ws hg hx P G s2 S2⟩) fun _ _ e => e.elim))
theorem X_meth {o : Expr} {name : Str} {apos pos : Pos} {e : Expr} {r : List Expr} {T id : String} (pa : PlainAttrs T) (slot : Slot T name id)
    (hty : typeOf (.builtin id) = pure (.type "method_descriptor"))
    (h : awE b A f vs H (eval o f.env) fun ov vs1 H1 => MTy ov T H1 ∧ awX b A f vs1 H1 (spliced (backTo pos (starEach (e :: r) f.env))) X)
    (hbase : attributeBase o name f.env (eval o f.env) = eval o f.env := by rfl)
    (hfew : ((backTo pos (starEach (e :: r) f.env)).all (fun x => !x.1) && (backToKw pos (keywordEach [] f.env)).all (fun x => x.1.isSome) && decide ((e :: r).length + ([] : List Keyword).length + (if ([] : List Keyword).isEmpty then 0 else 1) < 30)) = true := by rfl)
    (hline : (apos.endLine == pos.line) = true := by rfl)
    (he : starEach (e :: r) f.env = (false, eval e f.env) :: starEach r f.env := by rfl) (hp : (backTo pos (starEach (e :: r) f.env)).any (·.1) = false := by rfl) :
    awX b A f vs H (eval (.Call (.Attribute o name apos) (e :: r) [] pos) f.env) X := fun P G s S => by
  refine wpAny_Call_method hbase hfew hline pa slot hty (aw_use (h P G s S) (fun ov s1 x vs1 H1 hx S1 ⟨ht, h1⟩ => ⟨?_, ?_, ?_⟩))
  · unfold MTy at ht
    split at ht
    · obtain ⟨t, rfl⟩ := hx; subst ht; exact typeIs_str _ _ _
    · cases hx; obtain ⟨rfl, xs, hm⟩ := ht
      obtain ⟨ws, hL, _⟩ := (S1.sh.led _ hm).isList
      exact hL.typeIs
    · exact ht.elim
  · rintro a rfl
    unfold MTy at ht
    split at ht
    · obtain ⟨t, q⟩ := hx; cases q
    · cases hx; obtain ⟨rfl, xs, hm⟩ := ht
      obtain ⟨ws, n, ho, _⟩ := S1.sh.led _ hm
      exact ⟨_, ho, rfl⟩
    · exact ht.elim
  · refine callWith_builtin hp ?_
    have h2 := h1 P G s1 S1
    rw [he] at h2 ⊢
    exact Calls.evalArgs_plain (wpAny_mono h2 (fun _ _ e => e.elim) fun _ _ e => e)
/-- the frame's own object as an entry of the ledger -/
theorem St.frame {P : Prot} {G : GProt} {s : Shared} (S : St b P G f vs H s) : ∃ oL : Obj, (∃ es n, oL.data = .dict es n) ∧ SH b P G ((f.env.locals, upTo oL) :: H) s := by
  obtain ⟨m, ⟨oL, es, ep, hL, hd, _⟩, _⟩ := S.loc
  exact ⟨oL, ⟨es, ep, hd⟩, S.sh.add S.Lk S.La ⟨oL, hL, oL.slots, rfl⟩⟩

/-- what is known when StopIteration has left a called function -/
noncomputable def Thrown (b : Bs) (P : Prot) (G : GProt) (FL H : Led) (outer : List Env) (e : Value) (s' : Shared) : Prop :=
  ∃ ea base a0, e = .ref ea ∧ Heap.FlyingW base outer ea (.type "StopIteration") a0 s'.heap ∧ Fly b P G FL H outer base s'
theorem h_varint_end (B : Blt b) {a : Addr} (F : FnIs b a (stAt 7)) {n : Nat} (R : Room A (n + 1)) {outer : List Env} {FL : Led} (hfr : A.frames = some outer) (hok : FrOk outer FL) {I ta : Addr} {xs : List AV} {i : Nat} (hm : (ta, AO.list xs) ∈ H) (hi : xs.length ≤ i)
    {P : Prot} {G : GProt} {s : Shared} (S : SH b P G (FL ++ (I, aoListIt ta i) :: H) s) {ws : List Value} (hw : Is2 [.ref I] ws) :
    codeAny (M b) A (.call (.ref a) ⟨ws, []⟩) (fun r s' => ∃ e, r = .error e ∧ Thrown b P G FL H outer e s') s := by
  obtain ⟨fd, F, e1, e2, e3⟩ := F
  have hns : (scopeOf (stAt 7)).names = ([("iterator", .local), ("b", .local), ("val", .local), ("next", .globalImplicit)] : List (Str × NameKind)) := by rfl
  refine h_fnRaw (avs := [.ref I]) (avs' := [.ref I]) (ps := ["iterator"]) F e1 R.limit (by rfl) (by rfl) (by rw [hns]; decide) (fun P G s ws S hw => ⟨ws, hw, binds_of e2 e3 ?_⟩) S hw ?_ (by rw [hns]; decide) (by rfl) (by rfl) (by rfl)
  · obtain ⟨_, rfl, _⟩ := Is2.inv1 hw
    rfl
  · intro f s1 hs hown hc hcode hframe S1
    have hn : f.env.scope.names = ([("iterator", .local), ("b", .local), ("val", .local), ("next", .globalImplicit)] : List (Str × NameKind)) := by rw [hs]; exact hns
    have hN := NS.mk hn
    have S1 : St b P G f [some (.ref I), none, none, none] (FL ++ (I, aoListIt ta i) :: H) s1 := S1
    have key : awX b (A.deeper f.env) f [some (.ref I), none, none, none] (FL ++ (I, aoListIt ta i) :: H) (execs (bodyOf (stAt 7)) f.env) (fun P G e s2 => wpAny (M b) (A.deeper f.env) (leaving f.env e) (fun _ s3 => Thrown b P G FL H outer e s3) (fun _ _ => False) s2) := by
      refine X_cons ?_
      refine X_asg ?_
      refine X_call ?_
      refine e_blt (av := .con (.builtin "next")) hN.eq 3 (by rfl) B.next.1 B.next.2 (by rfl) ?_
      refine ⟨trivial, ?_⟩
      refine l_cons ?_
      walk_at "nm"
      refine l_nil ?_
      intro g ws hg hws P G s S
      cases hg
      obtain ⟨w, rfl, hw⟩ := Is2.inv1 hws
      cases hw
      obtain ⟨oL, hoL, T⟩ := S.frame
      have hp : ((f.env.locals, upTo oL) :: (FL ++ (I, aoListIt ta i) :: H)).Perm ((I, aoListIt ta i) :: ((f.env.locals, upTo oL) :: (FL ++ H))) :=
        (List.Perm.cons _ List.perm_middle).trans (List.Perm.swap _ _ _)
      refine wpAny_mono (next_raise (show (A.deeper f.env).handled = none from R.handled) (T.perm hp) (.tail _ (List.mem_append_right _ hm)) hi) (fun _ _ e => e) ?_
      rintro e s2 ⟨h₁, ea, rfl, T1, X1, e2⟩
      have hfr2 : (A.deeper f.env).frames = some (f.env :: outer) := Around.frames_deeper hfr
      refine leave_fresh (T := "StopIteration") hfr2 (.cons S.fo.kind hframe hoL hok) (h₁ := h₁) (by rw [e2]; exact T1) X1 fun base a0 h' x1 x2 => ⟨ea, base, a0, rfl, x1, x2⟩
    refine wpAny_mono (key P G s1 S1) (fun _ _ e => e.elim) fun e s2 h => ?_
    refine wpAny_mono h (fun _ s3 h => ?_) fun _ _ e => e.elim
    exact ⟨e, rfl, h⟩
end

theorem stop_exc : isSubtype (.type "StopIteration") (.type "BaseException") = pure true := by rw [isSubtype_type]; kernel_rfl
theorem stop_tup : isSubtype (.type ((Manifest.find? "StopIteration").elim "type" fun x => x.metatype)) (.type "tuple") = pure false := by rw [isSubtype_type]; kernel_rfl
section
variable {b : Bs} {A : Around} {f : Fm} {vs : Vs} {H : Led}
/-- what stays of a frame while its locals' object is an entry of the ledger -/
structure Saved (b : Bs) (P : Prot) (f : Fm) (vs : Vs) (oL : Obj) : Prop where
  fo : FmOk f
  La : ∀ o, ¬ P f.env.locals o
  cells : f.env.cells = []
  loc : ∃ es ep, oL.data = .dict es ep ∧ StrKeys es ∧ ∃ m : Str → Option Value, (∀ name, nsFind es name = m name) ∧ ∀ (j : Nat) (x : Str) (av : AV), f.env.scope.names[j]? = some (x, NameKind.local) → vs[j]? = some (some av) → ∃ v, m x = some v ∧ av.is v
  cel : ∀ (j : Nat) (x : Str) (k : NameKind) (av : AV), f.env.scope.names[j]? = some (x, k) → (k = NameKind.cell ∨ k = NameKind.free) → vs[j]? = some (some av) → False
theorem St.save {P : Prot} {G : GProt} {s : Shared} (S : St b P G f vs H s) (hc : f.env.cells = []) : ∃ oL, Saved b P f vs oL ∧ SH b P G ((f.env.locals, upTo oL) :: H) s := by
  obtain ⟨m, ⟨oL, es, ep, hL, hd, hk, hf⟩, hl⟩ := S.loc
  refine ⟨oL, ⟨S.fo, S.La, hc, ⟨es, ep, hd, hk, m, hf, hl⟩, fun j x k av e hk hv => ?_⟩, S.sh.add S.Lk S.La ⟨oL, hL, oL.slots, rfl⟩⟩
  obtain ⟨a, o, v, hl, _⟩ := S.cel j x k av e hk hv
  rw [hc] at hl
  cases hl
theorem Saved.dict {P : Prot} {oL : Obj} (V : Saved b P f vs oL) : ∃ es n, oL.data = .dict es n := let ⟨es, ep, h, _⟩ := V.loc; ⟨es, ep, h⟩
theorem Saved.back {P : Prot} {G : GProt} {s : Shared} {oL : Obj} (V : Saved b P f vs oL) (S : SH b P G ((f.env.locals, upTo oL) :: H) s) : St b P G f vs H s := by
  obtain ⟨o, ho, sl, rfl⟩ := S.led _ (.head _)
  obtain ⟨es, ep, hd, hk, m, hf, hl⟩ := V.loc
  have nd := List.nodup_cons.mp S.nodup
  refine ⟨V.fo, S.sub (List.sublist_cons_self _ _), V.La, nd.1, fun p hp => ?_, fun _ p hp => ?_, fun p hp => ?_, ⟨m, ⟨_, es, ep, ho, hd, hk, hf⟩, hl⟩, fun j x k av e hk hv => (V.cel j x k av e hk hv).elim⟩
  · rw [V.cells] at hp; cases hp
  · rw [V.cells] at hp; cases hp
  · rw [V.cells] at hp; cases hp

/-- what the try asks of an exception that its body lets out -/
noncomputable def TryE (b : Bs) (A : Around) (f : Fm) (hs : List ExceptHandler) (Q : AF → Vs → Led → Prop) (P : Prot) (G : GProt) (e : Value) (s₁ : Shared) : Prop :=
  wpAny (M b) A (noteFrame e f.env) (fun _ s₂ => wpAny (M b) A (setFlight e none) (fun _ s₃ => wpAny (M b) A (handleBy e f.env hs) (fun a s' => ∃ x vs' H', AF.is x a ∧ St b P G f vs' H' s' ∧ Q x vs' H') (fun _ _ => False) s₃) (fun _ _ => False) s₂) (fun _ _ => False) s₁
theorem x_try {body : List Stmt} {h₀ : ExceptHandler} {hs : List ExceptHandler} {pos : Pos} {Q : AF → Vs → Led → Prop} (h : awX b A f vs H (execs body f.env) (TryE b A f (h₀ :: hs) Q)) :
    awF b A f vs H (exec (.Try body (h₀ :: hs) [] [] pos) f.env) Q := fun P G s S => wpAny_Try_except (wpAny_mono (h P G s S) (fun _ _ e => e.elim) fun _ _ e => e)
theorem X_while {test : Expr} {body : List Stmt} {pos : Pos} {X : Prot → GProt → Value → Shared → Prop} (hE : ∀ P G, PassesOwn (M b) A f.env (X P G)) (I : Nat → Vs → Led → Prop) (n : Nat) (h0 : I n vs H)
    (turn : ∀ n vs H, I n vs H → awB b A f vs H (isTrue test f.env (eval test f.env)) fun c vs1 H1 => c = true ∧ (awX b A f vs1 H1 (execs body f.env) X ∨ awF b A f vs1 H1 (execs body f.env) fun fl vs2 H2 => match fl with
        | .next => ∃ m, m < n ∧ I m vs2 H2
        | .cont => ∃ m, m < n ∧ I m vs2 H2
        | .brk => False
        | .ret v => False)) :
    awX b A f vs H (exec (.While test body [] pos) f.env) X := fun P G s S => by
  refine wpAny_While (codeAny_whileLoop (fun n s => ∃ vs H, St b P G f vs H s ∧ I n vs H) ?_ n ⟨vs, H, S, h0⟩)
  rintro n s ⟨vs, H, S, hI⟩
  refine wpAny_false (aw_use (turn n vs H hI P G s S) (fun c s1 d vs1 H1 hd S1 hr9 => ?_))
  obtain ⟨hc, h1⟩ := hr9
  cases hd
  subst hc
  simp only [if_true]
  rcases h1 with h1 | h1
  · exact wpAny_mono (h1 P G s1 S1) (fun _ _ e => e.elim) (hE P G)
  · refine wpAny_false (aw_use (h1 P G s1 S1) (fun fl s2 x vs2 H2 hx S2 h2 => ?_))
    cases x with
    | next => cases hx; obtain ⟨m, hm, hI⟩ := h2; exact ⟨m, hm, vs2, H2, S2, hI⟩
    | cont => cases hx; obtain ⟨m, hm, hI⟩ := h2; exact ⟨m, hm, vs2, H2, S2, hI⟩
    | brk => exact h2.elim
    | ret v => exact h2.elim
theorem TryE.passes {hs : List ExceptHandler} {Q : AF → Vs → Led → Prop} (P : Prot) (G : GProt) : PassesOwn (M b) A f.env (TryE b A f hs Q P G) :=
  PassesOwn.looking (K := fun e s₂ => wpAny (M b) A (setFlight e none) (fun _ s₃ => wpAny (M b) A (handleBy e f.env hs) (fun a s' => ∃ x vs' H', AF.is x a ∧ St b P G f vs' H' s' ∧ Q x vs' H') (fun _ _ => False) s₃) (fun _ _ => False) s₂)
theorem TryE.lands {outer : List Env} (hfr : A.frames = some (f.env :: outer)) (hframe : f.env.frame = some f.env.locals) {ns : List (Str × NameKind)} (hn : f.env.scope.names = ns) (jn : Nat) (en : ns[jn]? = some (Str.ofString "StopIteration", NameKind.globalImplicit))
    (hg : b.mg "StopIteration" = none) (hb : b.mb "StopIteration" = some (.type "StopIteration")) {suite : List Stmt} {b₀ : Stmt} {np hpos : Pos} {Q : AF → Vs → Led → Prop} {vs' : Vs} {FL H1 : Led} {oL : Obj} {P : Prot} {G : GProt} {e : Value} {s1 : Shared}
    (V : Saved b P f vs' oL) (T : Thrown b P G ((f.env.locals, upTo oL) :: FL) H1 (f.env :: outer) e s1)
    (hsuite : ∀ A', awF b A' f vs' (FL ++ H1) (execs (b₀ :: suite) f.env) Q) :
    TryE b A f [.ExceptHandler (some (.Name (Str.ofString "StopIteration") np)) none (b₀ :: suite) hpos] Q P G e s1 := by
  subst hn
  obtain ⟨ea, base, a0, rfl, hfl, X⟩ := T
  refine wpAny_looks_onW hfr hframe hfl fun h₄ hheld₄ hsm₄ => ?_
  have X4 := X.step hheld₄.1 hsm₄
  refine wpAny_landsW hheld₄ fun h₅ hfl5 hsm₅ => ?_
  have X5 := X4.step hfl5.1 hsm₅
  have S5 := V.back X5.sh
  obtain ⟨ob, hob, hobc⟩ := hfl5.there
  refine wpAny_handleBy_builtin (X := "StopIteration") (T := "StopIteration") (b := true) stop_exc stop_tup isSubtype_stop (wpAny_Name ?_ (by decide))
  rw [loadName_read S5.fo.kind (S5.fo.kindOf en)]
  refine loadGlobal_builtin (by rw [S5.fo.glob]; exact S5.sh.globals) hg (by rw [S5.fo.bi]; exact S5.sh.builtins) hb ⟨rfl, ⟨ob, hob, hobc⟩, ?_⟩
  refine lands_againW hfl5 fun h₆ hfl₆ hsm₆ => ?_
  have X6 := X5.step hfl₆.1 hsm₆
  have S6 := V.back X6.sh
  exact wpAny_passesOwnAt PassesOwnAt.never (hsuite (A.mark (some (.ref ea))) P G _ S6)
end

theorem oneP_some : ∀ (l : List Int) (u : Option Int) (hl : l ≠ []), Builtin.bitAnd (l.getLast hl) 64 = 0 → ∃ v r, oneP u l = some (v, r)
  | [], u, hl, _ => absurd rfl hl
  | [o], none, hl, h => by
    rw [List.getLast_singleton] at h
    exact ⟨_, _, by rw [oneP, if_pos h]⟩
  | [o], some u, hl, h => by
    rw [List.getLast_singleton] at h
    exact ⟨_, _, by rw [oneP, if_pos h]⟩
  | o :: o2 :: l, none, hl, h => by
    rw [List.getLast_cons (List.cons_ne_nil _ _)] at h
    obtain ⟨v, r, e⟩ := oneP_some (o2 :: l) (some (Builtin.bitAnd o 63)) (List.cons_ne_nil _ _) h
    by_cases hc : Builtin.bitAnd o 64 = 0
    · exact ⟨_, _, by rw [oneP, if_pos hc]⟩
    · exact ⟨v, r, by rw [oneP, if_neg hc]; exact e⟩
  | o :: o2 :: l, some u, hl, h => by
    rw [List.getLast_cons (List.cons_ne_nil _ _)] at h
    obtain ⟨v, r, e⟩ := oneP_some (o2 :: l) (some (Builtin.bitOr (u * 2 ^ 6) (Builtin.bitAnd o 63))) (List.cons_ne_nil _ _) h
    by_cases hc : Builtin.bitAnd o 64 = 0
    · exact ⟨_, _, by rw [oneP, if_pos hc]⟩
    · exact ⟨v, r, by rw [oneP, if_neg hc]; exact e⟩
noncomputable def octK (half : List Nat) (figs : List Int) (k : Nat) : Int := figs.getD k 0 + (if lastP half k = true then 0 else 64) + 128 * ((k % 2 : Nat) : Int)
theorem octP_map (half : List Nat) (figs : List Int) : octP half figs = (List.range half.length).map (octK half figs) := rfl
theorem octP_len (half : List Nat) (figs : List Int) : (octP half figs).length = half.length := by rw [octP_map, List.length_map, List.length_range]
theorem figs_at {figs : List Int} (hf : ∀ x ∈ figs, 1 ≤ x ∧ x ≤ 6) (k : Nat) : 0 ≤ figs.getD k 0 ∧ figs.getD k 0 ≤ 6 := by
  rw [List.getD_eq_getElem?_getD]
  cases h : figs[k]? with
  | none => exact ⟨by decide, by decide⟩
  | some x => have := hf x (List.mem_of_getElem? h); show 0 ≤ x ∧ x ≤ 6; omega
theorem octP_nonneg {half : List Nat} {figs : List Int} (hf : ∀ x ∈ figs, 1 ≤ x ∧ x ≤ 6) : ∀ o ∈ octP half figs, 0 ≤ o := by
  intro o ho
  rw [octP_map] at ho
  obtain ⟨k, _, rfl⟩ := List.mem_map.mp ho
  have := (figs_at hf k).1
  unfold octK
  split <;> omega
theorem octK_last {half : List Nat} {figs : List Int} (hf : ∀ x ∈ figs, 1 ≤ x ∧ x ≤ 6) {k : Nat} (hk : k + 1 = half.length) : Builtin.bitAnd (octK half figs k) 64 = 0 := by
  have h1 := figs_at hf k
  have h2 : lastP half k = true := by unfold lastP; rw [Bool.or_eq_true]; exact .inl (decide_eq_true hk)
  unfold octK
  rw [if_pos h2]
  generalize figs.getD k 0 = x at *
  have h3 : k % 2 = 0 ∨ k % 2 = 1 := by omega
  have h4 : x = 0 ∨ x = 1 ∨ x = 2 ∨ x = 3 ∨ x = 4 ∨ x = 5 ∨ x = 6 := by omega
  rcases h3 with h3 | h3 <;> rw [h3] <;> rcases h4 with rfl | rfl | rfl | rfl | rfl | rfl | rfl <;> rfl
theorem octP_one {half : List Nat} {figs : List Int} (hf : ∀ x ∈ figs, 1 ≤ x ∧ x ≤ 6) {i : Nat} (hi : i < half.length) (u : Option Int) : ∃ v r, oneP u ((octP half figs).drop i) = some (v, r) := by
  have hne : (octP half figs).drop i ≠ [] := by
    intro q
    have := congrArg List.length q
    rw [List.length_drop, octP_len] at this
    simp at this; omega
  refine oneP_some _ u hne ?_
  rw [List.getLast_drop]
  rw [List.getLast_eq_getElem]
  simp only [octP_map, List.getElem_map, List.getElem_range, List.length_map, List.length_range]
  exact octK_last hf (by omega)
section
variable {b : Bs} {A : Around} {H : Led}
theorem h_lawread (B : Blt b) (hst : b.mg "StopIteration" = none ∧ b.mb "StopIteration" = some (.type "StopIteration")) {a va : Addr} (F : FnIs b a (stAt 20)) (FV : FnIs b va (stAt 7)) (hpv : b.mg "_parse_varint" = some (.ref va)) {n : Nat} (R : Room A (n + 2))
    {envL : Env} {L : Addr} {oL : Obj} (hfr : A.frames = some [envL]) (hLk : envL.scope.kind = .function) (hLf : envL.frame = some L) (hoL : ∃ es n, oL.data = .dict es n)
    {half : List Nat} {figs : List Int} {fa : Addr} (hm : (fa, AO.list (figs.map AV.int)) ∈ H) (hz : half.length ≤ 6) (hl : figs.length = half.length) (hf : ∀ x ∈ figs, 1 ≤ x ∧ x ≤ 6) {ws : List Value} (hw : Is2 [.str half, .ref fa] ws) {Q : AV → Led → Prop}
    (h : ∀ r, Q (.ref r) ((L, upTo oL) :: (r, .list ((varP none (octP half figs)).map AV.int)) :: H)) : ahC b A ((L, upTo oL) :: H) (.call (.ref a) ⟨ws, []⟩) Q := by
  obtain ⟨fd, F, e1, e2, e3⟩ := F
  have hns : (scopeOf (stAt 20)).names = ([("half", .local), ("figures", .local), ("octets", .local), ("k", .local), ("last", .local), ("tape", .local), ("told", .local), ("range", .globalImplicit), ("len", .globalImplicit), ("iter", .globalImplicit), ("_parse_varint", .globalImplicit), ("StopIteration", .globalImplicit)] : List (Str × NameKind)) := by rfl
  intro P G s R' S hR
  refine h_fnRaw (avs := [.str half, .ref fa]) (avs' := [.str half, .ref fa]) (ps := ["half", "figures"]) F e1 R.limit (by rfl) (by rfl) (by rw [hns]; decide) (fun P G s ws S hw => ⟨ws, hw, binds_of e2 e3 ?_⟩) S hw ?_ (by rw [hns]; decide) (by rfl) (by rfl) (by rfl)
  · obtain ⟨_, _, rfl, _, _⟩ := Is2.inv2 hw
    rfl
  intro f s1 hs hown hc hcode hframe S1
  have hn : f.env.scope.names = ([("half", .local), ("figures", .local), ("octets", .local), ("k", .local), ("last", .local), ("tape", .local), ("told", .local), ("range", .globalImplicit), ("len", .globalImplicit), ("iter", .globalImplicit), ("_parse_varint", .globalImplicit), ("StopIteration", .globalImplicit)] : List (Str × NameKind)) := by rw [hs]; exact hns
  have hN := NS.mk hn
  have hcells : f.env.cells = [] := List.map_eq_nil_iff.mp (by rw [hc, hns]; rfl)
  have hR2 : Room (A.deeper f.env) (n + 1) := R.deeper ⟨rfl, rfl, rfl⟩
  have hfr2 : (A.deeper f.env).frames = some [f.env, envL] := Around.frames_deeper hfr
  have hkind := S1.fo.kind
  have S1 : St b P G f [some (.str half), some (.ref fa), none, none, none, none, none, none, none, none, none, none] ((L, upTo oL) :: H) s1 := S1
  have key : awF b (A.deeper f.env) f [some (.str half), some (.ref fa), none, none, none, none, none, none, none, none, none, none] ((L, upTo oL) :: H) (execs (bodyOf (stAt 20)) f.env) fun fl vs' H' => ∃ r, fl = .ret (.ref r) ∧ ((L, upTo oL) :: (r, .list ((varP none (octP half figs)).map AV.int)) :: H).Sublist H' := by
    generalize hA2 : A.deeper f.env = A2 at *
    refine x_cons ?_
    walk_at "as"
    refine e_list ?_
    refine l_nil ?_
    refine ⟨Nat.zero_le _, fun oc => ?_⟩
    refine x_cons ?_
    refine x_for ?_
    refine e_call ?_
    refine e_blt (av := .con (.type "range")) hN.eq 7 (by rfl) B.range.1 B.range.2 (by rfl) ?_
    refine ⟨trivial, ?_⟩
    refine l_cons ?_
    refine e_call ?_
    refine e_blt (av := .con (.builtin "len")) hN.eq 8 (by rfl) B.len.1 B.len.2 (by rfl) ?_
    refine ⟨trivial, ?_⟩
    refine l_cons ?_
    walk_at "nm"
    refine l_nil ?_
    refine k_len_str (by omega) ?_
    refine l_nil ?_
    refine k_range1 (fun rg => ?_)
    refine ⟨_, _, hasIter_range hR2.handled (.head _) (by omega) (by omega) (by omega) (by omega), ?_⟩
    refine AFor.range (fun k vs H1 => ∃ w3 w4, vs = [some (.str half), some (.ref fa), some (.ref oc), w3, w4, none, none, none, none, none, none, none] ∧ H1 = (rg, aoRange 0 half.length 1) :: (oc, .list (((List.range k).map (octK half figs)).map AV.int)) :: (L, upTo oL) :: H) ?_ ?_ ⟨none, none, rfl, rfl⟩
    · rintro vs H1 ⟨w3, w4, rfl, rfl⟩
      rw [← octP_map]
      refine aw_sub (List.sublist_cons_self _ _) ?_
      refine x_cons ?_
      walk_at "as"
      refine e_call ?_
      refine e_blt (av := .con (.builtin "iter")) hN.eq 9 (by rfl) B.iter.1 B.iter.2 (by rfl) ?_
      refine ⟨trivial, ?_⟩
      refine l_cons ?_
      walk_at "nm"
      refine l_nil ?_
      refine k_iter_list (.head _) (fun I => ?_)
      refine x_cons ?_
      walk_at "as"
      refine e_list ?_
      refine l_nil ?_
      refine ⟨Nat.zero_le _, fun td => ?_⟩
      refine aw_perm (List.Perm.swap _ _ _) ?_
      have hol := octP_len half figs
      have honn := octP_nonneg (half := half) hf
      have hone := fun (i : Nat) (hi : i < half.length) => octP_one (half := half) hf hi none
      generalize octP half figs = ns at *
      refine x_cons ?_
      refine x_try ?_
      refine X_cons ?_
      refine X_while TryE.passes (fun m vs H1 => ∃ (i : Nat) (acc : List Int), vs = [some (.str half), some (.ref fa), some (.ref oc), w3, w4, some (.ref I), some (.ref td), none, none, none, none, none] ∧ H1 = (I, aoListIt oc i) :: (td, .list (acc.map AV.int)) :: (oc, .list (ns.map AV.int)) :: (L, upTo oL) :: H ∧ m = ns.length - i ∧ i ≤ ns.length ∧ acc.length ≤ i ∧ acc ++ varP none (ns.drop i) = varP none ns) ns.length ⟨0, [], rfl, rfl, rfl, Nat.zero_le _, Nat.le_refl _, rfl⟩ ?_
      rintro m vs H1 ⟨i, acc, rfl, rfl, rfl, hi, hal, he⟩
      refine t_val ?_
      refine e_bool ?_
      refine ⟨_, rfl, rfl, ?_⟩
      by_cases hlt : i < ns.length
      · obtain ⟨V, r, h1⟩ := hone i (by omega)
        have hlen := oneP_len _ _ _ _ h1
        rw [varP_one _ _ _ _ h1] at he
        refine .inr ?_
        refine x_cons ?_
        refine x_expr ?_
        walk_at "append"
        walk_at "nm"
        refine ⟨⟨rfl, _, .tail _ (.head _)⟩, ?_⟩
        refine l_cons ?_
        refine e_call ?_
        refine e_glob (av := .ref va) hN.eq 10 (by rfl) hpv (by rfl) ?_
        refine ⟨FV.keep, ?_⟩
        refine l_cons ?_
        walk_at "nm"
        refine l_nil ?_
        intro g ws hg hws
        cases hg
        refine aw_of_ah (ahC.toE (h_varint B FV hR2 (.tail _ (.head _)) (by omega) honn h1 hws fun j hj hjl => ?_))
        refine l_nil ?_
        refine k_append (.tail .head) (by rw [List.length_map]; omega) ?_
        refine x_nil ?_
        refine ⟨ns.length - j, ?_, j, acc ++ [V], rfl, by rw [List.map_append]; rfl, rfl, hjl, ?_, ?_⟩
        · rw [← hj, List.length_drop, List.length_drop] at hlen
          omega
        · rw [← hj, List.length_drop, List.length_drop] at hlen
          rw [List.length_append]; simp only [List.length_cons, List.length_nil]; omega
        · rw [List.append_assoc, hj]; exact he
      · refine .inl ?_
        rw [List.drop_of_length_le (by omega)] at he
        have he2 : acc = varP none ns := by rw [← he]; simp [varP]
        refine X_cons ?_
        refine X_expr ?_
        refine X_meth PySem.F.plainAttrs_list PySem.F.slot_list_append PySem.F.type_list_append ?_
        walk_at "nm"
        refine ⟨⟨rfl, _, .tail _ (.head _)⟩, ?_⟩
        refine X_args ?_
        refine X_call ?_
        refine e_glob (av := .ref va) hN.eq 10 (by rfl) hpv (by rfl) ?_
        refine ⟨FV.keep, ?_⟩
        refine l_cons ?_
        walk_at "nm"
        refine l_nil ?_
        intro g ws hg hws P G s S
        cases hg
        obtain ⟨oF, V, T⟩ := S.save hcells
        have hp : ((f.env.locals, upTo oF) :: (I, aoListIt oc i) :: (td, .list (acc.map AV.int)) :: (oc, .list (ns.map AV.int)) :: (L, upTo oL) :: H).Perm ([(f.env.locals, upTo oF), (L, upTo oL)] ++ (I, aoListIt oc i) :: (td, .list (acc.map AV.int)) :: (oc, .list (ns.map AV.int)) :: H) :=
          List.Perm.cons _ (List.perm_middle (l₁ := [(I, aoListIt oc i), (td, .list (acc.map AV.int)), (oc, .list (ns.map AV.int))]))
        refine wpAny_call (codeAny_mono (h_varint_end B FV hR2 hfr2 (FL := [(f.env.locals, upTo oF), (L, upTo oL)]) (.cons hkind hframe V.dict (.cons hLk hLf hoL .nil)) (.tail _ (.head _)) (by rw [List.length_map]; omega) (T.perm hp) hws) ?_)
        rintro r s' ⟨e, rfl, hT⟩
        refine TryE.lands hfr2 hframe hN.eq 11 (by rfl) hst.1 hst.2 V hT (fun A' => ?_)
        refine x_cons ?_
        refine x_ret ?_
        walk_at "nm"
        subst he2
        exact ⟨td, rfl, .cons_cons _ (.cons_cons _ (.cons _ (List.Sublist.refl _)))⟩
    · rintro k hk vs H1 ⟨w3, w4, rfl, rfl⟩ v hv
      obtain ⟨fg, hfg⟩ : ∃ fg, figs[k]? = some fg := ⟨_, List.getElem?_eq_getElem (by omega)⟩
      have eo : octK half figs k = fg + (if lastP half k = true then 0 else 64) + 128 * ((k % 2 : Nat) : Int) := by
        unfold octK
        rw [List.getD_eq_getElem?_getD, hfg]
        rfl
      refine u_name ?_
      walk_at "nu"
      refine x_cons ?_
      refine aw_mono (Q := fun fl vs H2 => fl = .next ∧ vs = [some (.str half), some (.ref fa), some (.ref oc), some (.int k), some (.bool (lastP half k)), none, none, none, none, none, none, none] ∧ H2 = (rg, aoRange 0 half.length 1) :: (oc, .list (((List.range k).map (octK half figs)).map AV.int)) :: (L, upTo oL) :: H) ?_ ?_
      · refine x_asg ?_
        refine e_or2 ?_
        refine e_cmp (by rfl) ?_
        refine e_bin ?_
        walk_at "nm"
        refine e_int ?_
        refine b_add ?_
        refine e_call ?_
        refine e_blt (av := .con (.builtin "len")) hN.eq 8 (by rfl) B.len.1 B.len.2 (by rfl) ?_
        refine ⟨trivial, ?_⟩
        refine l_cons ?_
        walk_at "nm"
        refine l_nil ?_
        refine k_len_str (by omega) ?_
        refine c_eq ?_
        refine ⟨_, rfl, fun h1 => ?_, fun h1 => ?_⟩
        · intro v hv
          walk_at "nu"
          have h2 : k + 1 = half.length := by have := beq_iff_eq.mp h1; omega
          have e : lastP half k = true := by unfold lastP; rw [Bool.or_eq_true]; exact .inl (decide_eq_true h2)
          rw [e]
          refine ⟨rfl, ?_, rfl⟩
          have : ((k : Int) + 1 == (half.length : Int)) = true := h1
          rw [this]
          rfl
        · have h2 : ¬ k + 1 = half.length := fun q => by
            have : ((k : Int) + 1 == (half.length : Int)) = true := beq_iff_eq.mpr (by omega)
            rw [this] at h1; cases h1
          have e : lastP half k = ((half.drop k).take 2 == [40, 41]) := by unfold lastP; rw [decide_eq_false h2, Bool.false_or]
          refine e_cmp (by rfl) ?_
          refine e_slice_str ?_
          walk_at "nm"
          show awE _ _ _ _ _ _ _
          walk_at "nm"
          refine ⟨_, rfl, ?_⟩
          show awE _ _ _ _ _ _ _
          refine e_bin ?_
          walk_at "nm"
          refine e_int ?_
          refine b_add ?_
          refine ⟨_, rfl, ?_⟩
          refine ⟨half, rfl, by omega, sliceS_le half _ _, by decide, ?_⟩
          refine e_str (l := [40, 41]) (by rfl) ?_
          refine c_eqs ?_
          intro v hv
          walk_at "nu"
          rw [e]
          rw [show ((k : Int) + 2) = ((k + 2 : Nat) : Int) from rfl, sliceS_two (by omega) (by omega), show k + 2 - k = 2 by omega]
          exact ⟨rfl, rfl, rfl⟩
      · rintro fl vs2 H2 ⟨rfl, rfl, rfl⟩
        refine x_cons ?_
        refine x_expr ?_
        walk_at "append"
        walk_at "nm"
        refine ⟨⟨rfl, _, .tail _ (.head _)⟩, ?_⟩
        refine l_cons ?_
        refine e_bin ?_
        refine e_bin ?_
        refine e_sub ?_
        walk_at "nm"
        walk_at "nm"
        refine g_item (.tail _ (.tail _ (.tail _ hm))) (x := .int fg) (by rw [Int.toNat_natCast, List.getElem?_map, hfg]; rfl) (by omega) (by omega) ?_
        refine aw_mono (Q := fun x vs' H' => x = .int (if lastP half k = true then 0 else 64) ∧ vs' = [some (.str half), some (.ref fa), some (.ref oc), some (.int k), some (.bool (lastP half k)), none, none, none, none, none, none, none] ∧ H' = (rg, aoRange 0 half.length 1) :: (oc, .list (((List.range k).map (octK half figs)).map AV.int)) :: (L, upTo oL) :: H) ?_ ?_
        · refine e_if ?_
          refine t_val ?_
          walk_at "nm"
          refine ⟨_, rfl, fun h1 => ?_, fun h1 => ?_⟩
          · refine e_int ?_
            rw [if_pos h1]
            exact ⟨rfl, rfl, rfl⟩
          · refine e_int ?_
            rw [if_neg (by rw [h1]; decide)]
            exact ⟨rfl, rfl, rfl⟩
        · rintro x vs' H' ⟨rfl, rfl, rfl⟩
          refine b_add ?_
          refine e_bin ?_
          refine e_int ?_
          refine e_bin ?_
          walk_at "nm"
          refine e_int ?_
          refine b_mod (by decide) ?_
          refine b_mul (IntMulOk.of_left (by decide)) ?_
          refine b_add ?_
          refine l_nil ?_
          refine k_append (.tail .head) (by rw [List.length_map, List.length_map, List.length_range]; omega) ?_
          refine x_nil ?_
          refine ⟨_, _, rfl, ?_⟩
          rw [List.range_succ, List.map_append, List.map_append]
          simp only [List.map_cons, List.map_nil]
          rw [eo, show (((k % 2 : Nat)) : Int) = (k : Int) % 2 by omega]
  refine aw_use (key P G s1 S1) (fun fl s2 x vs' H' hx S2 hr9 => ?_)
  obtain ⟨r, e, hsub⟩ := hr9
  subst e
  obtain ⟨w, rfl, hw2⟩ := hx
  exact hR _ _ _ _ hw2 (S2.sh.sub hsub) (h r)
end

/-! the law itself -/
noncomputable abbrev lawNs : List (Str × NameKind) := [("script", .local), ("drawn", .cell), ("size", .local), ("deeds", .local), ("words", .cell), ("text", .local), ("reader", .local), ("line", .local), ("row", .local), ("due", .cell), ("upper", .cell), ("lower", .local), ("grown", .local), ("hung", .local), ("faces", .local), ("places", .local),
  ("_law_drawn", .globalImplicit), ("len", .globalImplicit), ("_law_deeds", .globalImplicit), ("range", .globalImplicit), ("_law_text", .globalImplicit), ("_law_lexer", .globalImplicit), ("_law_let_out", .globalImplicit), ("_law_due", .globalImplicit), ("_law_rows", .globalImplicit), ("_law_sides", .globalImplicit), ("_law_middles", .globalImplicit), ("_law_read", .globalImplicit), ("_law_runs", .globalImplicit)]
noncomputable def lawTail (i : Nat) : List Stmt := (bodyOf (stAt 22)).drop i
theorem law_names : (scopeOf (stAt 22)).names = lawNs := by rfl
structure LNet (b : Bs) where
  N : Net b
  B : Blt b
  F : LexFn b
  aDrawn : Addr
  aDeeds : Addr
  aText : Addr
  aOut : Addr
  aDue : Addr
  aRows : Addr
  aMid : Addr
  aSides : Addr
  aRead : Addr
  aRuns : Addr
  aBis : Addr
  aChk : Addr
  aStrip : Addr
  aIter : Addr
  aVar : Addr
  isDrawn : FnIs b aDrawn (stAt 11)
  isDeeds : FnIs b aDeeds (stAt 12)
  isText : FnIs b aText (stAt 13)
  isOut : FnIs b aOut (stAt 15)
  isDue : FnIs b aDue (stAt 16)
  isRows : FnIs b aRows (stAt 17)
  isMid : FnIs b aMid (stAt 18)
  isSides : FnIs b aSides (stAt 19)
  isRead : FnIs b aRead (stAt 20)
  isRuns : FnIs b aRuns (stAt 21)
  isBis : BisFn b aBis
  isChk : FnIs b aChk (stAt 3)
  isStrip : FnIs b aStrip (stAt 2)
  isIter : FnIs b aIter (stAt 1)
  isVar : FnIs b aVar (stAt 7)
  nDrawn : b.mg "_law_drawn" = some (.ref aDrawn)
  nDeeds : b.mg "_law_deeds" = some (.ref aDeeds)
  nText : b.mg "_law_text" = some (.ref aText)
  nLexer : b.mg "_law_lexer" = some (.ref F.a)
  nOut : b.mg "_law_let_out" = some (.ref aOut)
  nDue : b.mg "_law_due" = some (.ref aDue)
  nRows : b.mg "_law_rows" = some (.ref aRows)
  nMid : b.mg "_law_middles" = some (.ref aMid)
  nSides : b.mg "_law_sides" = some (.ref aSides)
  nRead : b.mg "_law_read" = some (.ref aRead)
  nRuns : b.mg "_law_runs" = some (.ref aRuns)
  nBis : b.mg "bisect_left" = some (.ref aBis)
  nChk : b.mg "_check_parenthesis" = some (.ref aChk)
  nStrip : b.mg "_strip_quoted_realnames" = some (.ref aStrip)
  nIter : b.mg "_iter_escaped_chars" = some (.ref aIter)
  nVar : b.mg "_parse_varint" = some (.ref aVar)
  nCls : b.mg "_netrclex" = some (.ref N.C)

noncomputable def sufP (d : Int) : List Nat := [[], [32], [34], [92], [10], [35]].getD (d / 12).toNat []
noncomputable def wordP (k : Nat) (d : Int) : List Nat := [97 + k] ++ sufP d
noncomputable def wordsP (size : Nat) (drawn : List Int) : List (List Nat) := (List.range size).map fun k => wordP k (drawn.getD k 0)
noncomputable def msP (size : Nat) (drawn : List Int) : List Int := (drawn.drop size).map fun x => x / 12 % 3
theorem suf_get {d : Int} (h0 : 0 ≤ d) (h1 : d < 72) : ([AV.str [], .str [32], .str [34], .str [92], .str [10], .str [35]])[(d / 12).toNat]? = some (.str (sufP d)) := by
  unfold sufP
  have : (d / 12).toNat < 6 := by omega
  generalize (d / 12).toNat = k at *
  match k, this with
  | 0, _ => rfl
  | 1, _ => rfl
  | 2, _ => rfl
  | 3, _ => rfl
  | 4, _ => rfl
  | 5, _ => rfl
theorem suf_cases (d : Int) : sufP d = [] ∨ ∃ s, sufP d = [s] ∧ s ∈ [32, 34, 92, 10, 35] := by
  unfold sufP
  generalize (d / 12).toNat = k
  match k with
  | 0 => exact .inl rfl
  | 1 => exact .inr ⟨_, rfl, by decide⟩
  | 2 => exact .inr ⟨_, rfl, by decide⟩
  | 3 => exact .inr ⟨_, rfl, by decide⟩
  | 4 => exact .inr ⟨_, rfl, by decide⟩
  | 5 => exact .inr ⟨_, rfl, by decide⟩
  | k + 6 => exact .inl (by simp)
theorem word_ok {k : Nat} (hk : k < 6) (d : Int) : okW (wordP k d) = true ∧ (wordP k d).length ≤ 2 ∧ wordP k d ≠ [] ∧ (wordP k d).all (· < 128) = true := by
  have h97 : 97 + k ∈ [97, 98, 99, 100, 101, 102] := by
    have : k = 0 ∨ k = 1 ∨ k = 2 ∨ k = 3 ∨ k = 4 ∨ k = 5 := by omega
    rcases this with rfl | rfl | rfl | rfl | rfl | rfl <;> decide
  unfold wordP
  rcases suf_cases d with e | ⟨s, e, hs⟩
  · rw [e]
    refine ⟨?_, by simp, by simp, by simp; omega⟩
    show decide (97 + k ∈ [97, 98, 99, 100, 101, 102]) = true
    exact decide_eq_true h97
  · rw [e]
    refine ⟨?_, by simp, by simp, ?_⟩
    · show (decide (97 + k ∈ [97, 98, 99, 100, 101, 102]) && decide (s ∈ [32, 34, 92, 10, 35])) = true
      rw [decide_eq_true h97, decide_eq_true hs]; rfl
    · have : s < 128 := by
        simp only [List.mem_cons, List.not_mem_nil, or_false] at hs
        omega
      simp; omega
theorem words_ok {size : Nat} (hs : size ≤ 6) (drawn : List Int) : ∀ w ∈ wordsP size drawn, okW w = true ∧ w.length ≤ 2 ∧ w ≠ [] ∧ w.all (· < 128) = true := by
  intro w hw
  obtain ⟨k, hk, rfl⟩ := List.mem_map.mp hw
  have := List.mem_range.mp hk
  exact word_ok (by omega) _
theorem words_len (size : Nat) (drawn : List Int) : (wordsP size drawn).length = size := by unfold wordsP; rw [List.length_map, List.length_range]
theorem sliceL_from {α : Type} (xs : List α) (a : Nat) (ha : a ≤ xs.length) : sliceL xs (some (a : Int)) none none = xs.drop a := by
  have : sliceL xs (some (a : Int)) none none = sliceL xs (some (a : Int)) (some (xs.length : Int)) none := by
    unfold sliceL idxL
    rw [sliceBounds_plain, sliceBounds_plain]
    simp only [Option.elim, clipAt_nat, Nat.min_self]
  rw [this, sliceL_two xs a xs.length ha (Nat.le_refl _), List.take_of_length_le (by simp)]
section
variable {b : Bs} {A : Around} {f : Fm} {vs : Vs} {H : Led}
theorem x_asgX {x : Str} {p pos : Pos} {value : Expr} {Q : AF → Vs → Led → Prop} (hs : FmOk f → swapsWith value (some (.Name x p)) pos.line f.env = pure false)
    (h : awE b A f vs H (eval value f.env) (KSt b A f x Q)) : awF b A f vs H (exec (.Assign [.Name x p] value pos) f.env) Q := fun P G s S =>
  wpAny_Assign_Name (aw_use (h P G s S) (fun v s1 av vs1 H1 hav S1 h1 => aw_use (h1 v hav P G s1 S1) (fun _ s2 _ vs2 H2 _ S2 h2 => ⟨.next, vs2, H2, rfl, S2, h2⟩))) (hs S.fo)
theorem swaps_cell {f : Fm} {ns : List (Str × NameKind)} (hn : f.env.scope.names = ns) (j : Nat) {y : Str} (e : ns[j]? = some (y, NameKind.cell)) {elt : Expr} {gens : List Comprehension} {scope : Scope} {py pos : Pos} {line : Nat} (hk : FmOk f) :
    swapsWith (.ListComp elt gens scope pos) (some (.Name y py)) line f.env = pure false := by
  subst hn
  show (pure (f.env.blockKind == .function && f.env.kindOf y == some .local && py.line == pos.line && !(scope.names.any fun (n, k) => n == y && (k == .local || k == .cell))) : Sem Bool) = _
  rw [hk.kindOf e]
  have : ((some NameKind.cell : Option NameKind) == some .local) = false := rfl
  rw [this, Bool.and_false, Bool.false_and, Bool.false_and]
end

theorem sliceL_last {α : Type} (xs : List α) : sliceL xs none (some (-1)) none = xs.take (xs.length - 1) := by
  rw [← List.drop_zero (l := xs.take (xs.length - 1)), List.drop_zero]
  unfold sliceL idxL
  rw [sliceBounds_plain]
  have e : (some (-1 : Int)).elim xs.length (clipAt xs.length) = xs.length - 1 := clipAt_neg xs.length 1 (Nat.le_refl _)
  simp only [Option.elim] at e ⊢
  rw [e, show ((0 : Nat) : Int) = (0 : Nat) from rfl, sliceRange_one]
  have h := sliceL_two xs 0 (xs.length - 1) (Nat.zero_le _) (Nat.sub_le _ _)
  unfold sliceL idxL at h
  rw [sliceBounds_plain] at h
  simp only [Option.elim, clipAt_nat] at h
  rw [Nat.min_eq_left (Nat.zero_le _), Nat.min_eq_left (Nat.sub_le _ _), sliceRange_one] at h
  rw [h]
  simp
structure LFr (f : Fm) : Prop where
  hn : f.env.scope.names = lawNs
  ho : f.own = true
  hc : f.env.cells.map (·.1) = [Str.ofString "upper", Str.ofString "due", Str.ofString "words", Str.ofString "drawn"]
theorem LFr.cells {f : Fm} (X : LFr f) : ∃ c1 c2 c3 c4, f.env.cells = [(Str.ofString "upper", c4), (Str.ofString "due", c3), (Str.ofString "words", c2), (Str.ofString "drawn", c1)] := by
  obtain ⟨c4, c3, c2, c1, e⟩ := fst4 X.hc
  exact ⟨c1, c2, c3, c4, e⟩
section
variable {b : Bs} {A : Around} {f : Fm} {vs : Vs} {H : Led}
set_option maxHeartbeats 2000000 in
theorem law_A (W : LNet b) {n : Nat} (R : Room A (n + 6)) (X : LFr f) {sa : Addr} {script drawn : List Int} {size : Nat} (hs : ∀ H, Lst b H sa (script.map AV.int)) (hz : script.length ≤ 63) (hd : drawnP script = drawn) (hsz : sizeP script = size) {Q : AF → Vs → Led → Prop}
    (h : ∀ da wa, awF b A f [some (.ref sa), some (.ref da), some (.int (size : Nat)), some (.str (deedsP drawn)), some (.ref wa), some (.str (textP 0 (wordsP size drawn) (msP size drawn))), none, none, none, none, none, none, none, none, none, none, none, none, none, none, none, none, none, none, none, none, none, none, none] ((wa, .list ((wordsP size drawn).map AV.str)) :: (da, .list (drawn.map AV.int)) :: H) (execs (lawTail 5) f.env) Q) :
    awF b A f [some (.ref sa), none, none, none, none, none, none, none, none, none, none, none, none, none, none, none, none, none, none, none, none, none, none, none, none, none, none, none, none] H (execs (lawTail 0) f.env) Q := by
  have hN := NS.mk X.hn
  have hn := X.hn
  have ho := X.ho
  have hc := X.hc
  obtain ⟨c1, c2, c3, c4, hcc⟩ := X.cells
  have B := W.B
  have hsz6 : 4 ≤ size ∧ size ≤ 6 := by rw [← hsz]; unfold sizeP; omega
  have hdl : drawn.length = 2 * size := by rw [← hd, ← hsz]; unfold drawnP; rw [List.length_map, List.length_range]
  have hd0 : ∀ d ∈ drawn, 0 ≤ d ∧ d < 72 := by
    rw [← hd]
    intro d hdm
    obtain ⟨k, _, rfl⟩ := List.mem_map.mp hdm
    omega
  refine x_cons ?_
  refine x_asg ?_
  refine e_call ?_
  refine e_glob (av := .ref W.aDrawn) hN.eq 16 (by rfl) W.nDrawn (by rfl) ?_
  refine ⟨W.isDrawn.keep, ?_⟩
  refine l_cons ?_
  walk_at "nm"
  refine l_nil ?_
  intro gv ws hg hws
  cases hg
  refine aw_of_ah (ahC.toE (h_drawn B W.isDrawn (R.weaken (m := 0 + 1) (by omega)) hs hz hws fun da => ?_))
  rw [hd]
  intro v hv
  refine u_cell hn ho 1 (by rfl) c1 (by rw [hcc]; rfl) hv ?_
  refine x_cons ?_
  walk_at "as"
  refine e_bin ?_
  refine e_call ?_
  refine e_blt (av := .con (.builtin "len")) hN.eq 17 (by rfl) B.len.1 B.len.2 (by rfl) ?_
  refine ⟨trivial, ?_⟩
  refine l_cons ?_
  walk_at "nc"
  refine l_nil ?_
  refine k_len_list (.head _) (by rw [List.length_map]; omega) ?_
  refine e_int ?_
  refine b_div (by omega) (PyProof.noPylong_small (by decide)) ?_
  have es : (((drawn.map AV.int).length : Nat) : Int) / 2 = (size : Nat) := by rw [List.length_map, hdl]; omega
  rw [es]
  refine x_cons ?_
  walk_at "as"
  refine e_call ?_
  refine e_glob (av := .ref W.aDeeds) hN.eq 18 (by rfl) W.nDeeds (by rfl) ?_
  refine ⟨W.isDeeds.keep, ?_⟩
  refine l_cons ?_
  walk_at "nc"
  refine l_nil ?_
  intro gv ws hg hws
  cases hg
  refine aw_of_ah (ahC.toE (h_deeds B W.isDeeds (R.weaken (m := 0 + 1) (by omega)) (.head _) (by omega) (by rw [sliceL_last, List.length_take]; omega) hws ?_))
  refine x_cons ?_
  refine x_asgX (fun hk => swaps_cell hn 4 (by rfl) hk) ?_
  refine e_comp hn (cl_ok hc (by decide)) ?_
  refine e_call ?_
  refine e_blt (av := .con (.type "range")) hN.eq 19 (by rfl) B.range.1 B.range.2 (by rfl) ?_
  refine ⟨trivial, ?_⟩
  refine l_cons ?_
  walk_at "nm"
  refine l_nil ?_
  refine k_range1 (fun rg => ?_)
  refine ⟨_, _, hasIter_range R.handled (.head _) (by omega) (by omega) (by omega) (by omega), trivial, by rw [rangeL, rangeN_length]; omega, fun f2 hn2 => ?_⟩
  have hN2 : NS f2 [(Str.ofString ".0", NameKind.local), (Str.ofString "k", NameKind.local), (Str.ofString "drawn", NameKind.cell)] := ⟨hn2⟩
  unfold rangeL rangeN
  refine ACmp.ofE (fun i : Nat => AV.int (0 + (i : Int) * 1)) (fun i => some (AV.str (wordP i (drawn.getD i 0)))) (fun vs => ∃ w, vs = [none, w, some (.ref da)]) _ ((wordsP size drawn).map AV.str) (by
    rw [show ((size : Int) - 0).toNat = size by omega]
    unfold wordsP
    rw [List.filterMap_eq_map', List.map_map]; rfl) ⟨none, rfl⟩ ?_ ?_
  · rintro i hi vs ⟨w, rfl⟩ v hv
    rw [show ((size : Int) - 0).toNat = size by omega] at hi
    have hi := List.mem_range.mp hi
    obtain ⟨d, hdk⟩ : ∃ d, drawn[i]? = some d := ⟨_, List.getElem?_eq_getElem (by omega)⟩
    have hdd := hd0 d (List.mem_of_getElem? hdk)
    walk_at "nu"
    refine ⟨rfl, ?_, fun q => by cases q⟩
    intro _
    refine e_bin ?_
    refine e_sub ?_
    refine e_str (l := [97, 98, 99, 100, 101, 102]) (by rfl) ?_
    walk_at "nm"
    refine g_sign (c := 97 + i) (by
      rw [show (0 + (i : Int) * 1).toNat = i by omega]
      have : i = 0 ∨ i = 1 ∨ i = 2 ∨ i = 3 ∨ i = 4 ∨ i = 5 := by omega
      rcases this with rfl | rfl | rfl | rfl | rfl | rfl <;> rfl) (by omega) (by omega) ?_
    refine e_sub ?_
    refine e_list ?_
    refine l_cons ?_
    refine e_str (l := []) (by rfl) ?_
    refine l_cons ?_
    refine e_str (l := [32]) (by rfl) ?_
    refine l_cons ?_
    refine e_str (l := [34]) (by rfl) ?_
    refine l_cons ?_
    refine e_str (l := [92]) (by rfl) ?_
    refine l_cons ?_
    refine e_str (l := [10]) (by rfl) ?_
    refine l_cons ?_
    refine e_str (l := [35]) (by rfl) ?_
    refine l_nil ?_
    refine ⟨by decide, fun sr => ?_⟩
    refine e_bin ?_
    refine e_sub ?_
    walk_at "nc"
    walk_at "nm"
    refine g_item (.tail _ (.tail _ (.head _))) (x := .int d) (by rw [show (0 + (i : Int) * 1).toNat = i by omega, List.getElem?_map, hdk]; rfl) (by omega) (by omega) ?_
    refine e_int ?_
    refine b_div (by omega) (PyProof.noPylong_small (by decide)) ?_
    refine g_item (.head _) (x := .str (sufP d)) (suf_get hdd.1 hdd.2) (by omega) (by omega) ?_
    have hsl : (sufP d).length ≤ 1 := by rcases suf_cases d with e | ⟨s, e, _⟩ <;> rw [e] <;> simp
    refine b_cat (by simp only [List.length_cons, List.length_nil]; omega) ?_
    refine ⟨?_, List.sublist_cons_self _ _, _, rfl⟩
    rw [List.getD_eq_getElem?_getD, hdk]
    rfl
  intro wa v hv
  refine u_cell hn ho 4 (by rfl) c2 (by rw [hcc]; rfl) hv ?_
  refine aw_sub (List.Sublist.cons_cons _ (List.sublist_cons_self _ _)) ?_
  refine x_cons ?_
  walk_at "as"
  refine e_call ?_
  refine e_glob (av := .ref W.aText) hN.eq 20 (by rfl) W.nText (by rfl) ?_
  refine ⟨W.isText.keep, ?_⟩
  refine l_cons ?_
  walk_at "nc"
  refine l_cons ?_
  refine e_comp hn (cl_ok hc (by decide)) ?_
  refine e_slice_list ?_
  walk_at "nc"
  show awE _ _ _ _ _ _ _
  walk_at "nm"
  refine ⟨_, rfl, ?_⟩
  refine ⟨da, _, rfl, .tail _ (.head _), by rw [List.length_map]; omega, by decide, fun sl => ?_⟩
  rw [sliceL_from _ _ (by rw [List.length_map]; omega), ← List.map_drop]
  refine ⟨_, _, hasIter_list R.handled (.head _), .head _, by rw [List.length_map, List.length_drop]; omega, fun f2 hn2 => ?_⟩
  have hN2 : NS f2 [(Str.ofString ".0", NameKind.local), (Str.ofString "x", NameKind.local)] := ⟨hn2⟩
  refine ACmp.ofE AV.int (fun x => some (AV.int (x / 12 % 3))) (fun vs => ∃ w, vs = [none, w]) _ ((msP size drawn).map AV.int) (by
    unfold msP
    rw [List.filterMap_eq_map', List.map_map]; rfl) ⟨none, rfl⟩ ?_ ?_
  · rintro x hx vs ⟨w, rfl⟩ v hv
    have hxx := hd0 x (List.mem_of_mem_drop hx)
    walk_at "nu"
    refine ⟨rfl, ?_, fun q => by cases q⟩
    intro _
    refine e_bin ?_
    refine e_bin ?_
    walk_at "nm"
    refine e_int ?_
    refine b_div (by omega) (PyProof.noPylong_small (by decide)) ?_
    refine e_int ?_
    refine b_mod (by omega) ?_
    exact ⟨rfl, List.Sublist.refl _, _, rfl⟩
  intro ma
  refine l_nil ?_
  intro gv ws hg hws
  cases hg
  have hwk := words_ok hsz6.2 drawn
  refine aw_of_ah (ahC.toE (h_text B W.isText (R.weaken (m := 0 + 1) (by omega)) (.tail _ (.tail _ (.head _))) (.head _) (by rw [words_len]; unfold msP; rw [List.length_map, List.length_drop]; omega) (by rw [words_len]; omega) (fun w hw => (hwk w hw).2) hws ?_))
  refine aw_sub ((List.sublist_cons_self _ _).trans (List.sublist_cons_self _ _)) ?_
  exact h da wa
end

section
variable {b : Bs} {A : Around} {f : Fm} {vs : Vs} {H : Led}
theorem aw_postperm {α β : Type} {R : β → α → Prop} {t : Sem α} {Q' Q : β → Vs → Led → Prop} (h : aw b A f vs H R t Q') (k : ∀ x vs' H', Q' x vs' H' → ∃ H2, H'.Perm H2 ∧ Q x vs' H2) : aw b A f vs H R t Q := fun P G s S =>
  wpAny_mono (h P G s S) (fun _ _ ⟨x, vs', H', hr, T, hq⟩ => let ⟨H2, hp, hq2⟩ := k x vs' H' hq
    ⟨x, vs', H2, hr, ⟨T.fo, T.sh.perm hp, T.La, fun q => T.Lk ((hp.map (·.1)).mem_iff.mpr q), fun p hp2 q => T.ck p hp2 ((hp.map (·.1)).mem_iff.mpr q), T.cown, T.cdef, T.loc, T.cel⟩, hq2⟩) fun _ _ e => e
theorem aw_absurd {α β : Type} {R : β → α → Prop} {t : Sem α} {Q : β → Vs → Led → Prop} {a : Addr} (hm : (a, AO.raw fun _ => False) ∈ H) : aw b A f vs H R t Q := fun P G s S => by
  obtain ⟨o, _, h⟩ := S.sh.led _ hm
  exact h.elim
theorem lam_dflt (env : Env) : defaultsOf lamParams env = ([], []) := by rfl
theorem lam_free {env : Env} {cl : Addr} (h : env.cells = [(Str.ofString "signs", cl)]) : ∀ p ∈ lamScope.names, p.2 = .free → (env.cells.lookup p.1).isSome = true := by
  rw [h]
  have e : lamScope.names = [(Str.ofString "count", NameKind.local), (Str.ofString "next", NameKind.globalImplicit), (Str.ofString "signs", NameKind.free)] ∨ True := .inr trivial
  intro p hp hf
  have : ∀ p ∈ lamScope.names, p.2 = .free → p.1 = Str.ofString "signs" := by decide
  rw [this p hp hf]
  simp
theorem lam_clo {env : Env} {cl : Addr} (h : env.cells = [(Str.ofString "signs", cl)]) : clOf env lamScope.names = [(Str.ofString "signs", cl)] := by
  unfold clOf
  rw [h]
  rfl

/-- the first lexer -/
theorem h_lexer1 (N : Net b) (B : Blt b) (F : LexFn b) (hmg : b.mg "_netrclex" = some (.ref N.C)) {n : Nat} (R : Room A (n + 3)) {text : List Nat} (ht : text.all (· < 128) = true) {ws : List Value} (hw : Is2 [.str text] ws)
    {Q : AV → Led → Prop} (h : ∀ k cc, Q (.ref k.x) (lexNew N F.q cc k text ++ ((cc, aoCode F.q) :: (F.P, aoTab (tabOf lamPos cc)) :: H))) :
    ahC b A ((F.P, aoTab #[]) :: H) (.call (.ref F.a) ⟨ws, []⟩) Q := by
  refine h_lexer N B F hmg R ht (H1 := fun cc => (cc, aoCode F.q) :: (F.P, aoTab (tabOf lamPos cc)) :: H) hw (fun f A' vs D cl Q hcode hqual hcells k => ?_) h
  refine aw_perm (List.perm_middle) ?_
  have hlc := lam_clo hcells
  have hq : f.env.qual ++ "<lambda>" = F.q := by rw [hqual]; rfl
  refine aw_postperm (e_lam (Q := fun x vs' H' => vs' = vs ∧ ∃ g cc, x = .ref g ∧ H' = (g, aoLam F.q lamParams lamBody lamScope [("signs", cl)] cc) :: (cc, aoCode F.q) :: (F.P, aoTab (tabOf lamPos cc)) :: (D ++ H)) F.L hcode (lam_dflt f.env) (lam_free hcells) (fun g cc => ⟨rfl, g, cc, rfl, ?_⟩)) ?_
  · rw [hq, hlc]
  · rintro x vs' H' ⟨rfl, g, cc, rfl, rfl⟩
    refine ⟨_, ?_, k g cc⟩
    refine List.Perm.cons _ ?_
    exact ((List.perm_middle.trans (List.Perm.cons _ List.perm_middle))).symm
/-- the second one: the lambda's code object is the same -/
theorem h_lexer2 (N : Net b) (B : Blt b) (F : LexFn b) (hmg : b.mg "_netrclex" = some (.ref N.C)) {n : Nat} (R : Room A (n + 3)) {text : List Nat} (ht : text.all (· < 128) = true) {cc : Addr} (hm : (F.P, aoTab (tabOf lamPos cc)) ∈ H) {ws : List Value} (hw : Is2 [.str text] ws)
    {Q : AV → Led → Prop} (h : ∀ k, Q (.ref k.x) (lexNew N F.q cc k text ++ H)) (hno : ∀ x H', (F.P, AO.raw fun _ => False) ∈ H' → Q x H') :
    ahC b A H (.call (.ref F.a) ⟨ws, []⟩) Q := by
  refine h_lexer N B F hmg R ht (H1 := fun c2 => if c2 = cc then H else [(F.P, AO.raw fun _ => False)]) hw (fun f A' vs D cl Q hcode hqual hcells k => ?_) (fun k c2 => ?_)
  · have hlc := lam_clo hcells
    have hq : f.env.qual ++ "<lambda>" = F.q := by rw [hqual]; rfl
    refine e_lam_again F.L hcode (lam_dflt f.env) (lam_free hcells) (List.mem_append_right D hm) (fun g => ?_)
    have := k g cc
    rw [if_pos rfl] at this
    rw [hq, hlc]
    exact this
  · by_cases e : c2 = cc
    · subst e
      rw [if_pos rfl]
      exact h k
    · rw [if_neg e]
      exact hno _ _ (List.mem_append_right _ (.head _))
theorem lexNew_core (N : Net b) (q : Str) (cc : Addr) (k : LexA) (text : List Nat) : ∃ L : Led, L.Sublist (lexNew N q cc k text) ∧ L.Perm (core N q cc k text text []) := by
  have e1 : text.length - text.length = 0 := Nat.sub_self _
  have e2 : (1 + (cntN 10 text : Nat) - (cntN 10 text : Nat) : Int) = 1 := by omega
  unfold core
  rw [e1, e2]
  refine ⟨[(k.c, .cell (.ref k.I)), (k.pb, .list []), (k.x, aoInst N.C k.dx), (k.dx, aoDict (lexFs 1 (.ref k.st) k.pb)), (k.g, aoLam q lamParams lamBody lamScope [("signs", k.c)] cc), (k.st, aoInst N.C k.dst), (k.dst, aoDict (lexFsR k.pb2 k.g)), (k.I, aoStrIt text 0)], ?_, ?_⟩
  · exact .cons_cons _ (.cons_cons _ (.cons_cons _ (.cons_cons _ (.cons_cons _ (.cons _ (.cons_cons _ (.cons_cons _ (.cons_cons _ .slnil))))))))
  · generalize (k.c, AO.cell (.ref k.I)) = a1
    generalize (k.pb, AO.list []) = a2
    generalize (k.x, aoInst N.C k.dx) = a3
    generalize (k.dx, aoDict (lexFs 1 (.ref k.st) k.pb)) = a4
    generalize (k.g, aoLam q lamParams lamBody lamScope [(Str.ofString "signs", k.c)] cc) = a5
    generalize (k.st, aoInst N.C k.dst) = a6
    generalize (k.dst, aoDict (lexFsR k.pb2 k.g)) = a7
    generalize (k.I, aoStrIt text 0) = a8
    refine List.Perm.cons _ ?_
    -- [2,3,4,5,6,7,8] ~ [8,3,4,2,6,7,5]
    have h1 : [a2, a3, a4, a5, a6, a7, a8].Perm ([a3, a4] ++ a2 :: [a5, a6, a7, a8]) := (List.perm_middle (l₁ := [a3, a4])).symm
    have h2 : [a5, a6, a7, a8].Perm ([a6, a7] ++ a5 :: [a8]) := (List.perm_middle (l₁ := [a6, a7])).symm
    have h3 : ([a3, a4] ++ a2 :: [a5, a6, a7, a8]).Perm ([a3, a4] ++ a2 :: ([a6, a7] ++ a5 :: [a8])) := (h2.cons a2).append_left _
    have h4 : ([a3, a4, a2, a6, a7, a5] ++ a8 :: []).Perm (a8 :: ([a3, a4, a2, a6, a7, a5] ++ [])) := List.perm_middle
    exact (h1.trans h3).trans h4
end

section
variable {b : Bs} {A : Around} {f : Fm} {vs : Vs} {H : Led}
theorem St.part {P : Prot} {G : GProt} {s : Shared} {H0 : Led} (S : St b P G f vs (H0 ++ H) s) : St b (heldP P H0 s) G f vs H s := by
  have hk : keys (H0 ++ H) = keys H0 ++ keys H := List.map_append
  refine ⟨S.fo, S.sh.part, fun o q => ?_, fun q => S.Lk (by rw [hk]; exact List.mem_append_right _ q), fun p hp q => S.ck p hp (by rw [hk]; exact List.mem_append_right _ q), fun ho p hp o q => ?_, S.cdef, S.loc, S.cel⟩
  · rcases q with q | ⟨q, _⟩
    · exact S.La o q
    · exact S.Lk (by rw [hk]; exact List.mem_append_left _ q)
  · rcases q with q | ⟨q, _⟩
    · exact S.cown ho p hp o q
    · exact S.ck p hp (by rw [hk]; exact List.mem_append_left _ q)
theorem St.whole {P : Prot} {G : GProt} {s s' : Shared} {H0 H' : Led} {vs' : Vs} (S : St b P G f vs (H0 ++ H) s) (T : St b (heldP P H0 s) G f vs' H' s') : St b P G f vs' (H0 ++ H') s' := by
  have hk : keys (H0 ++ H) = keys H0 ++ keys H := List.map_append
  have hk' : keys (H0 ++ H') = keys H0 ++ keys H' := List.map_append
  refine ⟨S.fo, S.sh.whole T.sh, fun o q => T.La o (.inl q), fun q => ?_, fun p hp q => ?_, fun ho p hp o q => T.cown ho p hp o (.inl q), T.cdef, T.loc, T.cel⟩
  · rw [hk'] at q
    rcases List.mem_append.mp q with q | q
    · exact S.Lk (by rw [hk]; exact List.mem_append_left _ q)
    · exact T.Lk q
  · rw [hk'] at q
    rcases List.mem_append.mp q with q | q
    · exact S.ck p hp (by rw [hk]; exact List.mem_append_left _ q)
    · exact T.ck p hp q
theorem aw_frame {H0 : Led} {α β : Type} {R : β → α → Prop} {t : Sem α} {Q : β → Vs → Led → Prop} (h : aw b A f vs H R t Q) : aw b A f vs (H0 ++ H) R t fun x vs' H' => ∃ K, H' = H0 ++ K ∧ Q x vs' K := fun P G s S =>
  wpAny_mono (h _ G s S.part) (fun _ s' ⟨x, vs', H', hr, T, hq⟩ => ⟨x, vs', H0 ++ H', hr, S.whole T, H', rfl, hq⟩) fun _ _ e => e
theorem LexFn.keep {b : Bs} (F : LexFn b) : KeepOk b (.ref F.a) := by
  obtain ⟨o, ho, hd⟩ := F.F.there
  exact ⟨o, F.fd, ho, hd⟩
theorem law_B (W : LNet b) {n : Nat} (R : Room A (n + 6)) (X : LFr f) {a0 a1 a2 : AV} {deeds text : List Nat} {words : List (List Nat)} {ms : List Int} {wa da : Addr} {od : AO} (ht : text = textP 0 words ms) (h128 : text.all (· < 128) = true) (hlen : text.length ≤ 1000)
    (hl : words.length = ms.length) (hz : words.length ≤ 6) (hw : ∀ w ∈ words, okW w = true) (hm : ∀ m ∈ ms, m = 0 ∨ m = 1 ∨ m = 2) (h8 : deeds.all (· < 128) = true) (hdl : deeds.length ≤ 12) {out : List Nat} (hout : loP words.length deeds 0 [] 0 = some out) {due : List Int} (hdue : dueP deeds deeds.length 0 [] = some due) {Q : AF → Vs → Led → Prop}
    (h : ∀ k1 k2 cc ra du rest, RdOk words ms text words.length rest → awF b A f [some a0, some a1, some a2, some (.str deeds), some (.ref wa), some (.str text), some (.ref k1.x), some (.ref k2.x), some (.ref ra), some (.ref du), none, none, none, none, none, none, none, none, none, none, none, none, none, none, none, none, none, none, none]
      ((du, .list (due.map AV.int)) :: (ra, .list (out.map fun i => AV.str (words.getD i []))) :: (core W.N W.F.q cc k1 text rest [] ++ (core W.N W.F.q cc k2 [] [] [] ++ (cc, aoCode W.F.q) :: [(wa, .list (words.map AV.str)), (da, od)]))) (execs (lawTail 9) f.env) Q) :
    awF b A f [some a0, some a1, some a2, some (.str deeds), some (.ref wa), some (.str text), none, none, none, none, none, none, none, none, none, none, none, none, none, none, none, none, none, none, none, none, none, none, none] [(wa, .list (words.map AV.str)), (da, od), (W.F.P, aoTab #[])] (execs (lawTail 5) f.env) fun fl vs' H' => ∃ K cc, H' = (W.F.P, aoTab (tabOf lamPos cc)) :: K ∧ Q fl vs' K := by
  have hN := NS.mk X.hn
  have hn := X.hn
  have ho := X.ho
  obtain ⟨c1, c2, c3, c4, hcc⟩ := X.cells
  have B := W.B
  have hp : [(wa, .list (words.map AV.str)), (da, od), (W.F.P, aoTab #[])].Perm ((W.F.P, aoTab #[]) :: [(wa, .list (words.map AV.str)), (da, od)]) := List.perm_middle (l₁ := [(wa, .list (words.map AV.str)), (da, od)]) (l₂ := []) (a := (W.F.P, aoTab #[]))
  refine x_cons ?_
  walk_at "as"
  refine e_call ?_
  refine e_glob (av := .ref W.F.a) hN.eq 21 (by rfl) W.nLexer (by rfl) ?_
  refine ⟨W.F.keep, ?_⟩
  refine l_cons ?_
  walk_at "nm"
  refine l_nil ?_
  intro gv ws hg hws
  cases hg
  refine aw_of_ah (ahC.toE (ahC.perm hp (h_lexer1 W.N B W.F W.nCls (R.weaken (m := 0 + 3) (by omega)) h128 hws fun k1 cc => ?_)))
  refine x_cons ?_
  walk_at "as"
  refine e_call ?_
  refine e_glob (av := .ref W.F.a) hN.eq 21 (by rfl) W.nLexer (by rfl) ?_
  refine ⟨W.F.keep, ?_⟩
  refine l_cons ?_
  refine e_str (l := []) (by rfl) ?_
  refine l_nil ?_
  intro gv ws hg hws
  cases hg
  refine aw_of_ah (ahC.toE (h_lexer2 W.N B W.F W.nCls (R.weaken (m := 0 + 3) (by omega)) (text := []) (by rfl) (cc := cc) (List.mem_append_right _ (.tail _ (.head _))) hws (fun k2 => ?_) (fun x H' hm => aw_absurd hm)))
  obtain ⟨L1, s1, p1⟩ := lexNew_core W.N W.F.q cc k1 text
  obtain ⟨L2, s2, p2⟩ := lexNew_core W.N W.F.q cc k2 []
  refine aw_sub (H' := L2 ++ (L1 ++ ((cc, aoCode W.F.q) :: (W.F.P, aoTab (tabOf lamPos cc)) :: [(wa, .list (words.map AV.str)), (da, od)]))) (s2.append (s1.append (List.Sublist.refl _))) ?_
  have q1 : (L2 ++ (L1 ++ ((cc, aoCode W.F.q) :: (W.F.P, aoTab (tabOf lamPos cc)) :: [(wa, .list (words.map AV.str)), (da, od)]))).Perm ((W.F.P, aoTab (tabOf lamPos cc)) :: (L2 ++ (L1 ++ ((cc, aoCode W.F.q) :: [(wa, .list (words.map AV.str)), (da, od)])))) := by
    have := List.perm_middle (a := (W.F.P, aoTab (tabOf lamPos cc))) (l₁ := L2 ++ (L1 ++ [(cc, aoCode W.F.q)])) (l₂ := [(wa, .list (words.map AV.str)), (da, od)])
    simpa only [List.append_assoc, List.cons_append, List.nil_append] using this
  refine aw_perm (q1.trans (List.Perm.cons _ ((p2.append (p1.append (List.Perm.refl _))).trans (List.perm_append_comm_assoc _ _ _)))) ?_
  refine aw_mono (aw_frame (H0 := [(W.F.P, aoTab (tabOf lamPos cc))]) (Q := Q) ?_) (fun fl vs' H' ⟨K, e, hq⟩ => ⟨K, cc, e, hq⟩)
  refine x_cons ?_
  walk_at "as"
  refine e_call ?_
  refine e_glob (av := .ref W.aOut) hN.eq 22 (by rfl) W.nOut (by rfl) ?_
  refine ⟨W.isOut.keep, ?_⟩
  refine l_cons ?_
  walk_at "nm"
  refine l_cons ?_
  walk_at "nm"
  refine l_cons ?_
  walk_at "nm"
  refine l_nil ?_
  intro gv ws hg hws
  cases hg
  refine aw_of_ah (ahC.toE (h_letout W.N B W.isOut (R.weaken (m := 0 + 5) (by omega)) ht hlen hl hz hw hm h8 hdl hout hws fun ra rest hrd => ?_))
  refine x_cons ?_
  refine x_asg ?_
  refine e_call ?_
  refine e_glob (av := .ref W.aDue) hN.eq 23 (by rfl) W.nDue (by rfl) ?_
  refine ⟨W.isDue.keep, ?_⟩
  refine l_cons ?_
  walk_at "nm"
  refine l_nil ?_
  intro gv ws hg hws
  cases hg
  refine aw_of_ah (ahC.toE (h_due B W.isDue (R.weaken (m := 0 + 1) (by omega)) hdl hdue hws fun du => ?_))
  intro v hv
  refine u_cell hn ho 9 (by rfl) c3 (by rw [hcc]; rfl) hv ?_
  exact h k1 k2 cc ra du rest hrd
end

theorem perm2 {α : Type} (D K HH E : List α) (c : α) : ((D ++ (K ++ HH)) ++ (E ++ [c])).Perm ((D ++ (HH ++ E)) ++ (K ++ [c])) := by
  have h1 : (D ++ (K ++ HH)).Perm (D ++ (HH ++ K)) := List.perm_append_comm.append_left D
  have h2 : ((D ++ (HH ++ K)) ++ (E ++ [c])).Perm ((D ++ (HH ++ E)) ++ (K ++ [c])) := by
    simp only [List.append_assoc]
    exact ((List.perm_append_comm_assoc K E [c]).append_left HH).append_left D
  exact (h1.append_right _).trans h2
section
variable {b : Bs} {A : Around} {f : Fm} {vs : Vs} {H : Led}
/-- an if whose test is false -/
theorem x_ifF {test : Expr} {body : List Stmt} {pos : Pos} {r : List Stmt} {Q : AF → Vs → Led → Prop} (h : awB b A f vs H (isTrue test f.env (eval test f.env)) fun c vs1 H1 => c = false ∧ awF b A f vs1 H1 (execs r f.env) Q) :
    awF b A f vs H (execs (.If test body [] pos :: r) f.env) Q := by
  refine x_cons (x_if (aw_mono h ?_))
  rintro c vs1 H1 ⟨e, h⟩
  subst e
  exact ⟨(fun q => nomatch q), fun _ => x_nil h⟩
theorem law_C (W : LNet b) {n : Nat} (R : Room A (n + 6)) (X : LFr f) {a0 a1 a2 a3 : AV} {text rest : List Nat} {words : List (List Nat)} {ms : List Int} {wa da ra du cc : Addr} {od : AO} {k1 k2 : LexA} {out : List Nat} {due : List Int}
    (hlen : text.length ≤ 1000) (hrd : RdOk words ms text words.length rest) (hl : words.length = ms.length) (hz : words.length ≤ 6) (hdz : due.length ≤ 6) (hd1 : ∀ v ∈ due, 1 ≤ v ∧ v ≤ words.length)
    (heq : (out.map fun i => AV.str (words.getD i [])) = due.map fun v => AV.str (words.getD (v - 1).toNat [])) {Q : AF → Vs → Led → Prop}
    (h : awF b A f [some a0, some a1, some a2, some a3, some (.ref wa), some (.str text), some (.ref k1.x), some (.ref k2.x), some (.ref ra), some (.ref du), none, none, none, none, none, none, none, none, none, none, none, none, none, none, none, none, none, none, none]
      [(du, .list (due.map AV.int)), (ra, .list (out.map fun i => AV.str (words.getD i []))), (wa, .list (words.map AV.str)), (da, od)] (execs (lawTail 11) f.env) Q) :
    awF b A f [some a0, some a1, some a2, some a3, some (.ref wa), some (.str text), some (.ref k1.x), some (.ref k2.x), some (.ref ra), some (.ref du), none, none, none, none, none, none, none, none, none, none, none, none, none, none, none, none, none, none, none]
      ((du, .list (due.map AV.int)) :: (ra, .list (out.map fun i => AV.str (words.getD i []))) :: (core W.N W.F.q cc k1 text rest [] ++ (core W.N W.F.q cc k2 [] [] [] ++ (cc, aoCode W.F.q) :: [(wa, .list (words.map AV.str)), (da, od)]))) (execs (lawTail 9) f.env) Q := by
  have hN := NS.mk X.hn
  have hn := X.hn
  have ho := X.ho
  have hc := X.hc
  have B := W.B
  have hstr : ∀ l : List (List Nat), (l.map AV.str).all scal = true := fun l => by rw [List.all_eq_true]; intro x hx; obtain ⟨y, _, rfl⟩ := List.mem_map.mp hx; rfl
  refine x_ifF ?_
  refine t_cmp (by rfl) ?_
  walk_at "nm"
  refine e_comp hn (cl_ok hc (by decide)) ?_
  walk_at "nc"
  refine ⟨_, _, hasIter_list R.handled (.head _), .head _, by rw [List.length_map]; omega, fun f2 hn2 => ?_⟩
  have hN2 : NS f2 [(Str.ofString ".0", NameKind.local), (Str.ofString "v", NameKind.local), (Str.ofString "words", NameKind.cell)] := ⟨hn2⟩
  refine ACmp.ofE AV.int (fun v => some (AV.str (words.getD (v - 1).toNat []))) (fun vs => ∃ w, vs = [none, w, some (.ref wa)]) _ (due.map fun v => AV.str (words.getD (v - 1).toNat [])) (by
    rw [List.filterMap_eq_map']) ⟨none, rfl⟩ ?_ ?_
  · rintro x hx vs ⟨w, rfl⟩ v hv
    have hxx := hd1 x hx
    walk_at "nu"
    refine ⟨rfl, ?_, fun q => by cases q⟩
    intro _
    refine e_sub ?_
    walk_at "nc"
    refine e_bin ?_
    walk_at "nm"
    refine e_int ?_
    refine b_sub ?_
    have hlt : (x - 1).toNat < words.length := by omega
    refine g_item (.tail _ (.tail _ (List.mem_append_right _ (List.mem_append_right _ (.tail _ (.head _)))))) (x := .str (words.getD (x - 1).toNat [])) (by rw [List.getElem?_map, List.getElem?_eq_getElem hlt, List.getD_eq_getElem?_getD, List.getElem?_eq_getElem hlt]; rfl) (by omega) (by omega) ?_
    exact ⟨rfl, List.Sublist.refl _, _, rfl⟩
  intro cr
  refine c_nel (.tail _ (.tail _ (.head _))) (.head _) (by rw [show (out.map fun i => AV.str (words.getD i [])) = (out.map fun i => words.getD i []).map AV.str by rw [List.map_map]; rfl]; exact hstr _) (by rw [show (due.map fun v => AV.str (words.getD (v - 1).toNat [])) = (due.map fun v => words.getD (v - 1).toNat []).map AV.str by rw [List.map_map]; rfl]; exact hstr _) R.line ?_
  refine ⟨_, rfl, ?_, ?_⟩
  · rw [heq]; simp
  refine aw_sub (List.sublist_cons_self _ _) ?_
  refine x_ifF ?_
  refine t_cmp (by rfl) ?_
  refine e_list ?_
  refine l_cons ?_
  refine e_methI ?_
  walk_at "nm"
  refine m_cls W.N.X (x := k1.x) (dx := k1.dx) (.tail _ (.tail _ (List.mem_append_left _ (.tail _ (.tail _ (.head _)))))) (.tail _ (.tail _ (List.mem_append_left _ (.tail _ (.tail _ (.tail _ (.head _))))))) W.N.mG (by rfl) ?_
  refine k_callF0 (kept_old W.N.isG.keep rfl) (fun P G s S a o e => S.old e) ?_
  refine aw_perm (((perm1 (core W.N W.F.q cc k1 text rest []) _ _ (cc, aoCode W.F.q)).cons _).cons _) ?_
  have hrest : lexM rest = none := by
    rw [hrd.lex, List.drop_of_length_le (Nat.le_refl _), List.drop_of_length_le (Nat.le_of_eq hl.symm)]
    rfl
  refine aw_of_ah (ahC.toE ((ahC.frame (H0 := [(du, AO.list (due.map AV.int)), (ra, AO.list (out.map fun i => AV.str (words.getD i [])))] ++ (core W.N W.F.q cc k2 [] [] [] ++ [(wa, AO.list (words.map AV.str)), (da, od)])) (h_token W.N B (R.weaken (m := 0 + 4) (by omega)) (k := k1) (ws := [.ref k1.x]) ⟨rfl, trivial⟩ hrd.suf (fun tok fin' e hf => ?_) (fun e => ?_) hlen))))
  · rw [hrest] at e; cases e
  have hall : rest.all isWs = true := by
    rw [hrd.ws, List.drop_of_length_le (Nat.le_refl _), List.drop_of_length_le (Nat.le_of_eq hl.symm)]
    rfl
  refine ⟨hall, ?_⟩
  refine l_cons ?_
  refine e_methI ?_
  walk_at "nm"
  refine m_cls W.N.X (x := k2.x) (dx := k2.dx) (List.mem_append_left _ (List.mem_append_right _ (List.mem_append_left _ (.tail _ (.tail _ (.head _)))))) (List.mem_append_left _ (List.mem_append_right _ (List.mem_append_left _ (.tail _ (.tail _ (.tail _ (.head _))))))) W.N.mG (by rfl) ?_
  refine k_callF0 (kept_old W.N.isG.keep rfl) (fun P G s S a o e => S.old e) ?_
  let EE : Led := [(k1.c, .cell (.ref k1.I)), (k1.x, aoInst W.N.C k1.dx), (k1.dx, aoDict (lexFs (1 + (cntN 10 text : Nat) - (cntN 10 [] : Nat)) (.ref k1.st) k1.pb)), (k1.pb, .list []), (k1.st, aoInst W.N.C k1.dst), (k1.dst, aoDict (lexFsR k1.pb2 k1.g)), (k1.g, aoLam W.F.q lamParams lamBody lamScope [("signs", k1.c)] cc)]
  refine aw_perm (perm2 [(du, AO.list (due.map AV.int)), (ra, AO.list (out.map fun i => AV.str (words.getD i [])))] (core W.N W.F.q cc k2 [] [] []) [(wa, AO.list (words.map AV.str)), (da, od)] EE (cc, aoCode W.F.q)) ?_
  refine aw_of_ah (ahC.toE ((ahC.frame (H0 := [(du, AO.list (due.map AV.int)), (ra, AO.list (out.map fun i => AV.str (words.getD i [])))] ++ ([(wa, AO.list (words.map AV.str)), (da, od)] ++ EE)) (h_token W.N B (R.weaken (m := 0 + 4) (by omega)) (k := k2) (text := []) (rest := []) (ws := [.ref k2.x]) ⟨rfl, trivial⟩ (List.suffix_refl _) (fun tok fin' e hf => by cases e) (fun e => ⟨rfl, ?_⟩) (by simp)))))
  refine l_cons ?_
  refine e_attr ?_
  walk_at "nm"
  intro v hv
  refine aw_of_ah (h_getOwn W.N.X (x := k1.x) (dx := k1.dx) (List.mem_append_left _ (List.mem_append_right _ (List.mem_append_right _ (.tail _ (.head _))))) (List.mem_append_left _ (List.mem_append_right _ (List.mem_append_right _ (.tail _ (.tail _ (.head _)))))) W.N.nL (av := .int (1 + (cntN 10 text : Nat) - (cntN 10 [] : Nat))) (by rfl) (fun w q => by cases q) ?_ v hv)
  refine l_nil ?_
  refine ⟨Nat.le_of_ble_eq_true rfl, fun r1 => ?_⟩
  refine e_list ?_
  refine l_cons ?_
  refine e_str (l := []) (by rfl) ?_
  refine l_cons ?_
  refine e_str (l := []) (by rfl) ?_
  refine l_cons ?_
  refine e_bin ?_
  refine e_int ?_
  refine e_meth PySem.F.plainAttrs_str PySem.F.slot_str_count PySem.F.type_str_count ?_
  walk_at "nm"
  refine ⟨rfl, ?_⟩
  refine l_cons ?_
  refine e_str (l := [10]) (by rfl) ?_
  refine l_nil ?_
  refine k_count ?_
  refine b_add ?_
  refine l_nil ?_
  refine ⟨Nat.le_of_ble_eq_true rfl, fun r2 => ?_⟩
  refine c_nel (.tail _ (.head _)) (.head _) (by rfl) (by rfl) R.line ?_
  refine ⟨_, rfl, ?_, ?_⟩
  · have : (1 + (cntN 10 text : Nat) - (cntN 10 [] : Nat) : Int) = 1 + (cntN 10 text : Nat) := by
      rw [show cntN 10 [] = 0 from rfl]; omega
    rw [this]; simp
  refine aw_sub (H' := [(du, .list (due.map AV.int)), (ra, .list (out.map fun i => AV.str (words.getD i []))), (wa, .list (words.map AV.str)), (da, od)]) ?_ h
  refine .cons _ (.cons _ ?_)
  refine List.Sublist.trans ?_ (List.sublist_append_left _ _)
  exact .cons_cons _ (.cons_cons _ (.cons_cons _ (.cons_cons _ (List.nil_sublist _))))
end

theorem fm_congr {α β : Type} {p q : α → Option β} : ∀ (l : List α), (∀ a ∈ l, p a = q a) → l.filterMap p = l.filterMap q
  | [], _ => rfl
  | a :: l, h => by
    rw [List.filterMap_cons, List.filterMap_cons, h a (.head _), fm_congr l fun x hx => h x (.tail _ hx)]
theorem sliceS_rev (l : List Nat) : sliceS l none none (some (-1)) = l.reverse := by
  unfold sliceS
  simp only [Option.getD_some]
  rw [picked_rev]
  have e0 : ((-1 : Int) == 1 && ((List.range l.length).map fun k => l.length - 1 - k).length == l.length) = false := rfl
  rw [if_neg (by rw [e0]; decide), List.filterMap_map]
  have : ∀ k ∈ List.range l.length, ((fun x => l[x]?) ∘ fun k => l.length - 1 - k) k = (some ∘ fun k => l.getD (l.length - 1 - k) 0) k := fun k hk => by
    have := List.mem_range.mp hk
    show l[l.length - 1 - k]? = some (l.getD (l.length - 1 - k) 0)
    rw [List.getD_eq_getElem?_getD, List.getElem?_eq_getElem (by omega)]
    rfl
  rw [fm_congr _ this, List.filterMap_eq_map]
  refine List.ext_getElem (by simp) fun i h1 h2 => ?_
  simp only [List.length_map, List.length_range] at h1
  simp [List.getD_eq_getElem?_getD, List.getElem_reverse]
  rw [List.getElem?_eq_getElem (by omega)]
  rfl
theorem any_str (us : List (List Nat)) (w : List Nat) : ((us.map AV.str).any fun y => aeq y (.str w)) = us.any (· == w) := by
  rw [List.any_map]; rfl
theorem catL_single {α : Type} (l : List α) (g : α → Nat) : catL (l.map fun x => [g x]) = l.map g := by
  induction l with
  | nil => rfl
  | cons x r ih => simp only [List.map_cons, catL, ih, List.cons_append, List.nil_append]
noncomputable def hungW (us words : List (List Nat)) : List Nat := words.map fun w => if us.any (· == w) = true then 40 else 41
noncomputable def facesW (g hung : List Nat) : List Nat := g ++ hung.reverse.map fun c => if ([c] == [40]) = true then 41 else 40
section
variable {b : Bs} {A : Around} {f : Fm} {vs : Vs} {H : Led}
set_option maxHeartbeats 1000000 in
theorem law_D (W : LNet b) {n : Nat} (R : Room A (n + 6)) (X : LFr f) {a0 a1 a2 a3 a5 a6 a7 a9 : AV} {words row us lo : List (List Nat)} {gr : List Nat} {wa da ra du : Addr} {od oe : AO}
    (hz : words.length ≤ 6) (hrz : row.length ≤ 6) (hrows : rowsP row [] [] [] = (us, lo, gr)) (hgz : gr.length ≤ 6) (hU : us = words.filter fun w => us.any (· == w)) (hL : lo = words.filter fun w => !us.any (· == w)) {Q : AF → Vs → Led → Prop}
    (h : ∀ up lw, awF b A f [some a0, some a1, some a2, some a3, some (.ref wa), some a5, some a6, some a7, some (.ref ra), some a9, some (.ref up), some (.ref lw), some (.str gr), some (.str (hungW us words)), some (.str (facesW gr (hungW us words))), none, none, none, none, none, none, none, none, none, none, none, none, none, none]
      [(du, oe), (da, od)] (execs (lawTail 16) f.env) Q) :
    awF b A f [some a0, some a1, some a2, some a3, some (.ref wa), some a5, some a6, some a7, some (.ref ra), some a9, none, none, none, none, none, none, none, none, none, none, none, none, none, none, none, none, none, none, none]
      [(du, oe), (ra, .list (row.map AV.str)), (wa, .list (words.map AV.str)), (da, od)] (execs (lawTail 11) f.env) Q := by
  have hN := NS.mk X.hn
  have hn := X.hn
  have ho := X.ho
  have hc := X.hc
  have B := W.B
  obtain ⟨c1, c2, c3, c4, hcc⟩ := X.cells
  have hstr : ∀ l : List (List Nat), (l.map AV.str).all scal = true := fun l => by rw [List.all_eq_true]; intro x hx; obtain ⟨y, _, rfl⟩ := List.mem_map.mp hx; rfl
  refine x_cons ?_
  refine x_asg_tup ?_
  refine e_call ?_
  refine e_glob (av := .ref W.aRows) hN.eq 24 (by rfl) W.nRows (by rfl) ?_
  refine ⟨W.isRows.keep, ?_⟩
  refine l_cons ?_
  walk_at "nm"
  refine l_nil ?_
  intro gv ws hg hws
  cases hg
  refine aw_of_ah (ahC.toE (h_rows B W.isRows W.isBis W.nBis (R.weaken (m := 0 + 2) (by omega)) (.tail _ (.head _)) hrz hws fun t lw up => ?_))
  rw [hrows]
  refine u_tup R.handled (.head _) (by rfl) (by rfl) ?_
  intro v hv
  refine u_name ?_
  refine u_cell hn ho 10 (by rfl) c4 (by rw [hcc]; rfl) hv ?_
  intro v hv
  refine u_name ?_
  walk_at "nu"
  intro v hv
  refine u_name ?_
  walk_at "nu"
  refine aw_sub (List.sublist_cons_self _ _) ?_
  -- the upper row
  refine x_ifF ?_
  refine t_cmp (by rfl) ?_
  walk_at "nc"
  refine e_comp hn (cl_ok hc (by decide)) ?_
  walk_at "nc"
  refine ⟨_, _, hasIter_list R.handled (.tail _ (.tail _ (.tail _ (.tail _ (.head _))))), .tail _ (.tail _ (.tail _ (.tail _ (.head _)))), by rw [List.length_map]; omega, fun f2 hn2 => ?_⟩
  have hN2 : NS f2 [(Str.ofString ".0", NameKind.local), (Str.ofString "word", NameKind.local), (Str.ofString "upper", NameKind.cell)] := ⟨hn2⟩
  refine ACmp.ofE AV.str (fun w => if us.any (· == w) = true then some (AV.str w) else none) (fun vs => ∃ w, vs = [none, w, some (.ref up)]) _ (us.map AV.str) (by
    conv => rhs; rw [hU]
    rw [← List.filterMap_eq_filter, List.map_filterMap]
    congr 1
    funext w
    by_cases q : us.any (· == w) = true
    · simp only [q, if_true, Option.guard, Option.map_some]
    · simp only [q, Option.guard, Bool.false_eq_true, if_false, Option.map_none]) ⟨none, rfl⟩ ?_ ?_
  · rintro x hx vs ⟨w, rfl⟩ v hv
    walk_at "nu"
    refine ⟨rfl, ?_⟩
    refine t_cmp (by rfl) ?_
    walk_at "nm"
    walk_at "nc"
    refine c_inl (.tail _ (.head _)) (hstr _) (by rfl) ?_
    rw [any_str]
    refine ⟨_, rfl, fun h1 => ?_, fun h1 => ?_⟩
    · walk_at "nm"
      rw [if_pos h1]
      exact ⟨rfl, List.Sublist.refl _, _, rfl⟩
    · rw [if_neg (by rw [h1]; decide)]
      exact ⟨rfl, List.Sublist.refl _, _, rfl⟩
  intro cr
  refine c_nel (.tail _ (.tail _ (.head _))) (.head _) (hstr _) (hstr _) R.line ?_
  refine ⟨_, rfl, by simp, ?_⟩
  refine aw_sub (List.sublist_cons_self _ _) ?_
  -- the lower row
  refine x_ifF ?_
  refine t_cmp (by rfl) ?_
  walk_at "nm"
  refine e_comp hn (cl_ok hc (by decide)) ?_
  walk_at "nc"
  refine ⟨_, _, hasIter_list R.handled (.tail _ (.tail _ (.tail _ (.tail _ (.head _))))), .tail _ (.tail _ (.tail _ (.tail _ (.head _)))), by rw [List.length_map]; omega, fun f2 hn2 => ?_⟩
  have hN2 : NS f2 [(Str.ofString ".0", NameKind.local), (Str.ofString "word", NameKind.local), (Str.ofString "upper", NameKind.cell)] := ⟨hn2⟩
  refine ACmp.ofE AV.str (fun w => if (!us.any (· == w)) = true then some (AV.str w) else none) (fun vs => ∃ w, vs = [none, w, some (.ref up)]) _ (lo.map AV.str) (by
    conv => rhs; rw [hL]
    rw [← List.filterMap_eq_filter, List.map_filterMap]
    congr 1
    funext w
    by_cases q : (!us.any (· == w)) = true
    · simp only [q, if_true, Option.guard, Option.map_some]
    · simp only [q, Option.guard, Bool.false_eq_true, if_false, Option.map_none]) ⟨none, rfl⟩ ?_ ?_
  · rintro x hx vs ⟨w, rfl⟩ v hv
    walk_at "nu"
    refine ⟨rfl, ?_⟩
    refine t_cmp (by rfl) ?_
    walk_at "nm"
    walk_at "nc"
    refine c_notinl (.tail _ (.head _)) (hstr _) (by rfl) ?_
    rw [any_str]
    refine ⟨_, rfl, fun h1 => ?_, fun h1 => ?_⟩
    · walk_at "nm"
      rw [if_pos h1]
      exact ⟨rfl, List.Sublist.refl _, _, rfl⟩
    · rw [if_neg (by rw [h1]; decide)]
      exact ⟨rfl, List.Sublist.refl _, _, rfl⟩
  intro cr
  refine c_nel (.tail _ (.head _)) (.head _) (hstr _) (hstr _) R.line ?_
  refine ⟨_, rfl, by simp, ?_⟩
  refine aw_sub (List.sublist_cons_self _ _) ?_
  -- hung
  refine x_cons ?_
  walk_at "as"
  walk_at "join"
  refine e_str (l := []) (by rfl) ?_
  refine ⟨rfl, ?_⟩
  refine l_cons ?_
  refine e_comp hn (cl_ok hc (by decide)) ?_
  walk_at "nc"
  refine ⟨_, _, hasIter_list R.handled (.tail _ (.tail _ (.tail _ (.tail _ (.head _))))), .tail _ (.tail _ (.tail _ (.tail _ (.head _)))), by rw [List.length_map]; omega, fun f2 hn2 => ?_⟩
  have hN2 : NS f2 [(Str.ofString ".0", NameKind.local), (Str.ofString "word", NameKind.local), (Str.ofString "upper", NameKind.cell)] := ⟨hn2⟩
  refine ACmp.ofE AV.str (fun w => some (AV.str [if us.any (· == w) = true then 40 else 41])) (fun vs => ∃ w, vs = [none, w, some (.ref up)]) _ ((words.map fun w => [if us.any (· == w) = true then 40 else 41]).map AV.str) (by
    rw [List.filterMap_eq_map', List.map_map]; rfl) ⟨none, rfl⟩ ?_ ?_
  · rintro x hx vs ⟨w, rfl⟩ v hv
    walk_at "nu"
    refine ⟨rfl, ?_, fun q => by cases q⟩
    intro _
    refine e_if ?_
    refine t_cmp (by rfl) ?_
    walk_at "nm"
    walk_at "nc"
    refine c_inl (.tail _ (.head _)) (hstr _) (by rfl) ?_
    rw [any_str]
    refine ⟨_, rfl, fun h1 => ?_, fun h1 => ?_⟩
    · refine e_str (l := [40]) (by rfl) ?_
      rw [if_pos h1]
      exact ⟨rfl, List.Sublist.refl _, _, rfl⟩
    · refine e_str (l := [41]) (by rfl) ?_
      rw [if_neg (by rw [h1]; decide)]
      exact ⟨rfl, List.Sublist.refl _, _, rfl⟩
  intro cr
  refine l_nil ?_
  have ehung : catL (words.map fun w => [if us.any (· == w) = true then 40 else 41]) = hungW us words := catL_single words _
  have hhl : (hungW us words).length ≤ 6 := by unfold hungW; rw [List.length_map]; exact hz
  have hh8 : (hungW us words).all (· < 128) = true := by
    unfold hungW
    rw [List.all_map, List.all_eq_true]
    intro x _
    show decide ((if us.any (· == x) = true then 40 else 41) < 128) = true
    split <;> rfl
  refine k_join (.head _) (by rw [ehung]; omega) ?_
  rw [ehung]
  refine aw_sub (List.sublist_cons_self _ _) ?_
  generalize hungW us words = hung at *
  -- faces
  refine x_cons ?_
  walk_at "as"
  refine e_bin ?_
  walk_at "nm"
  walk_at "join"
  refine e_str (l := []) (by rfl) ?_
  refine ⟨rfl, ?_⟩
  refine l_cons ?_
  refine e_comp hn (cl_ok hc (by decide)) ?_
  refine e_slice_str ?_
  walk_at "nm"
  show awE _ _ _ _ _ _ _
  refine e_un ?_
  refine e_int ?_
  refine o_neg ?_
  refine ⟨_, rfl, ?_⟩
  refine ⟨hung, rfl, by omega, by rw [sliceS_rev, List.length_reverse]; exact Nat.le_refl _, by decide, ?_⟩
  rw [sliceS_rev]
  refine ⟨_, _, hasIter_str R.handled (by rw [List.all_reverse]; exact hh8), trivial, by simp only [signs, List.length_map, List.length_reverse]; omega, fun f2 hn2 => ?_⟩
  have hN2 : NS f2 [(Str.ofString ".0", NameKind.local), (Str.ofString "sign", NameKind.local)] := ⟨hn2⟩
  refine ACmp.ofE (fun c : Nat => AV.str [c]) (fun c => some (AV.str [if ([c] == [40]) = true then 41 else 40])) (fun vs => ∃ w, vs = [none, w]) _ ((hung.reverse.map fun c => [if ([c] == [40]) = true then 41 else 40]).map AV.str) (by
    rw [List.filterMap_eq_map', List.map_map]; rfl) ⟨none, rfl⟩ ?_ ?_
  · rintro x hx vs ⟨w, rfl⟩ v hv
    walk_at "nu"
    refine ⟨rfl, ?_, fun q => by cases q⟩
    intro _
    refine e_if ?_
    refine t_cmp (by rfl) ?_
    walk_at "nm"
    refine e_str (l := [40]) (by rfl) ?_
    refine c_eqs ?_
    refine ⟨_, rfl, fun h1 => ?_, fun h1 => ?_⟩
    · refine e_str (l := [41]) (by rfl) ?_
      rw [if_pos h1]
      exact ⟨rfl, List.Sublist.refl _, _, rfl⟩
    · refine e_str (l := [40]) (by rfl) ?_
      rw [if_neg (by rw [h1]; decide)]
      exact ⟨rfl, List.Sublist.refl _, _, rfl⟩
  intro cr
  refine l_nil ?_
  have efc : catL (hung.reverse.map fun c => [if ([c] == [40]) = true then 41 else 40]) = hung.reverse.map fun c => if ([c] == [40]) = true then 41 else 40 := catL_single hung.reverse _
  refine k_join (.head _) (by rw [efc, List.length_map, List.length_reverse]; omega) ?_
  rw [efc]
  refine b_cat (by rw [List.length_map, List.length_reverse]; show gr.length + _ ≤ _; omega) ?_
  refine aw_sub (H' := [(du, oe), (da, od)]) ?_ (h up lw)
  exact .cons _ (.cons _ (.cons _ (.cons_cons _ (.cons _ (.cons _ (.cons_cons _ (List.Sublist.refl _)))))))
end

theorem midsP_len (faces : List Nat) : ∀ (n k : Nat) (acc : List Int), (midsP faces n k acc).length ≤ acc.length + n
  | 0, k, acc => Nat.le_refl _
  | n + 1, k, acc => by
    rw [midsP]
    refine Nat.le_trans (midsP_len faces n (k + 1) _) ?_
    split
    · rw [List.length_append]; simp only [List.length_cons, List.length_nil]; omega
    · omega
theorem all_ints' (l : List Int) : (l.map AV.int).all scal = true := by
  rw [List.all_eq_true]; intro x hx; obtain ⟨y, _, rfl⟩ := List.mem_map.mp hx; rfl
section
variable {b : Bs} {A : Around} {f : Fm} {vs : Vs} {H : Led}
/-- a step that may turn the slots of the frame's own object -/
theorem aw_frameL {α β : Type} {R : β → α → Prop} {t : Sem α} {Q : β → Vs → Led → Prop}
    (h : ∀ oL : Obj, (∃ es n, oL.data = .dict es n) → ah b A ((f.env.locals, upTo oL) :: H) R t fun x K => ∃ H', K = (f.env.locals, upTo oL) :: H' ∧ Q x vs H') : aw b A f vs H R t Q := fun P G s S => by
  obtain ⟨m, ⟨oL, es, ep, hL, hd, hk, hf⟩, hl⟩ := S.loc
  have T0 : SH b (fun a o => P a o ∨ ((∃ p ∈ f.env.cells, a = p.2) ∧ s.heap.get? a = some o)) G H s := S.sh.protect fun a o h => ⟨h.2, by
    obtain ⟨⟨p, hp, rfl⟩, _⟩ := h
    exact S.ck p hp⟩
  have T : SH b (fun a o => P a o ∨ ((∃ p ∈ f.env.cells, a = p.2) ∧ s.heap.get? a = some o)) G ((f.env.locals, upTo oL) :: H) s := T0.add S.Lk (fun o q => by
    rcases q with q | ⟨⟨p, hp, e⟩, _⟩
    · exact S.La o q
    · exact S.fo.Lc p hp e.symm) ⟨oL, hL, oL.slots, rfl⟩
  refine wpAny_mono (h oL ⟨es, ep, hd⟩ _ G s T) (fun a s' ⟨x, K, hr, T', H', e, hq⟩ => ?_) fun _ _ e => e
  subst e
  obtain ⟨o, ho, sl, rfl⟩ := T'.led _ (.head _)
  have nd := List.nodup_cons.mp T'.nodup
  have kc : ∀ p ∈ f.env.cells, ∀ o, s.heap.get? p.2 = some o → s'.heap.get? p.2 = some o := fun p hp o e => T'.keep _ _ (.inr ⟨⟨p, hp, rfl⟩, e⟩)
  refine ⟨x, vs, H', hr, ⟨S.fo, (T'.sub (List.sublist_cons_self _ _)).weaken S.sh.base (fun _ _ e => .inl e) (fun _ _ e => e), S.La, nd.1, fun p hp q => ?_, S.cown, fun p hp => ?_, ⟨m, ⟨_, es, ep, ho, hd, hk, hf⟩, hl⟩, fun j x k av e hk hv => ?_⟩, hq⟩
  · obtain ⟨o, v, ho, _⟩ := S.cdef p hp
    exact T'.apart _ (.tail _ q) o (.inr ⟨⟨p, hp, rfl⟩, ho⟩)
  · obtain ⟨o, v, ho, hd⟩ := S.cdef p hp
    exact ⟨o, v, kc p hp o ho, hd⟩
  · obtain ⟨a, o, v, hl, ho, r⟩ := S.cel j x k av e hk hv
    exact ⟨a, o, v, hl, kc _ (mem_of_lookup hl) o ho, r⟩

theorem law_E (W : LNet b) {n : Nat} (R : Room A (n + 6)) (X : LFr f) {a0 a3 a4 a5 a6 a7 a8 aup alw agr ahu : AV} {faces : List Nat} {drawn due : List Int} {size : Nat} {da du : Addr}
    (hs6 : size ≤ 6) (hdl : drawn.length = 2 * size) (hd0 : ∀ d ∈ drawn, 0 ≤ d ∧ d < 72) (hdul : due.length = size) (hf : ∀ c ∈ faces, c = 40 ∨ c = 41) (hfl : faces.length = 2 * size)
    (hperm : ((midsP faces faces.length 0 []).map sgnP).Perm (((List.range size).map fun (k : Nat) => (k : Int) + 1 - due.getD k 0).map sgnP)) {Q : AF → Vs → Led → Prop}
    (h : awF b A f [some a0, some (.ref da), some (.int (size : Nat)), some a3, some a4, some a5, some a6, some a7, some a8, some (.ref du), some aup, some alw, some agr, some ahu, some (.str faces), none, none, none, none, none, none, none, none, none, none, none, none, none, none]
      [(du, .list (due.map AV.int)), (da, .list (drawn.map AV.int))] (execs (lawTail 17) f.env) Q) :
    awF b A f [some a0, some (.ref da), some (.int (size : Nat)), some a3, some a4, some a5, some a6, some a7, some a8, some (.ref du), some aup, some alw, some agr, some ahu, some (.str faces), none, none, none, none, none, none, none, none, none, none, none, none, none, none]
      [(du, .list (due.map AV.int)), (da, .list (drawn.map AV.int))] (execs (lawTail 16) f.env) Q := by
  have hN := NS.mk X.hn
  have hn := X.hn
  have hc := X.hc
  have B := W.B
  have hml := midsP_len faces faces.length 0 []
  simp only [List.length_nil, Nat.zero_add] at hml
  refine x_ifF ?_
  refine t_cmp (by rfl) ?_
  refine e_call ?_
  refine e_glob (av := .ref W.aSides) hN.eq 25 (by rfl) W.nSides (by rfl) ?_
  refine ⟨W.isSides.keep, ?_⟩
  refine l_cons ?_
  refine e_call ?_
  refine e_glob (av := .ref W.aMid) hN.eq 26 (by rfl) W.nMid (by rfl) ?_
  refine ⟨W.isMid.keep, ?_⟩
  refine l_cons ?_
  walk_at "nm"
  refine l_cons ?_
  walk_at "nc"
  refine l_nil ?_
  intro gv ws hg hws
  cases hg
  refine aw_of_ah (ahC.toE (h_middles B W.isMid W.isChk W.isStrip W.isIter W.nChk W.nStrip W.nIter (R.weaken (m := 0 + 3) (by omega)) (.tail _ (.head _)) hf (by omega) (by omega) hd0 hws fun mr => ?_))
  refine l_nil ?_
  intro gv ws hg hws
  cases hg
  refine aw_of_ah (ahC.toE (h_sides B W.isSides (R.weaken (m := 0 + 1) (by omega)) (.head _) (by omega) hws fun r1 ms1 p1 s1 => ?_))
  refine e_call ?_
  refine e_glob (av := .ref W.aSides) hN.eq 25 (by rfl) W.nSides (by rfl) ?_
  refine ⟨W.isSides.keep, ?_⟩
  refine l_cons ?_
  refine e_comp hn (cl_ok hc (by decide)) ?_
  refine e_call ?_
  refine e_blt (av := .con (.type "range")) hN.eq 19 (by rfl) B.range.1 B.range.2 (by rfl) ?_
  refine ⟨trivial, ?_⟩
  refine l_cons ?_
  walk_at "nm"
  refine l_nil ?_
  refine k_range1 (fun rg => ?_)
  refine ⟨_, _, hasIter_range R.handled (.head _) (by omega) (by omega) (by omega) (by omega), trivial, by rw [rangeL, rangeN_length]; omega, fun f2 hn2 => ?_⟩
  have hN2 : NS f2 [(Str.ofString ".0", NameKind.local), (Str.ofString "k", NameKind.local), (Str.ofString "due", NameKind.cell)] := ⟨hn2⟩
  unfold rangeL rangeN
  refine ACmp.ofE (fun i : Nat => AV.int (0 + (i : Int) * 1)) (fun i => some (AV.int ((i : Int) + 1 - due.getD i 0))) (fun vs => ∃ w, vs = [none, w, some (.ref du)]) _ (((List.range size).map fun (k : Nat) => (k : Int) + 1 - due.getD k 0).map AV.int) (by
    rw [show ((size : Int) - 0).toNat = size by omega]
    rw [List.filterMap_eq_map', List.map_map]; rfl) ⟨none, rfl⟩ ?_ ?_
  · rintro i hi vs ⟨w, rfl⟩ v hv
    rw [show ((size : Int) - 0).toNat = size by omega] at hi
    have hi := List.mem_range.mp hi
    obtain ⟨d, hdk⟩ : ∃ d, due[i]? = some d := ⟨_, List.getElem?_eq_getElem (by omega)⟩
    rw [show (0 + (i : Int) * 1) = i by omega] at hv
    walk_at "nu"
    refine ⟨rfl, ?_, fun q => by cases q⟩
    intro _
    refine e_bin ?_
    refine e_bin ?_
    walk_at "nm"
    refine e_int ?_
    refine b_add ?_
    refine e_sub ?_
    walk_at "nc"
    walk_at "nm"
    refine g_item (.tail _ (.tail _ (.tail _ (.head _)))) (x := .int d) (by rw [Int.toNat_natCast, List.getElem?_map, hdk]; rfl) (by omega) (by omega) ?_
    refine b_sub ?_
    refine ⟨?_, List.Sublist.refl _, _, rfl⟩
    rw [List.getD_eq_getElem?_getD, hdk]
    rfl
  intro cr
  refine l_nil ?_
  intro gv ws hg hws
  cases hg
  refine aw_of_ah (ahC.toE (h_sides B W.isSides (R.weaken (m := 0 + 1) (by omega)) (.head _) (by rw [List.length_map, List.length_range]; omega) hws fun r2 ms2 p2 s2 => ?_))
  have e : ms1 = ms2 := sorted_unique (p1.trans (hperm.trans p2.symm)) s1 s2
  subst e
  refine c_nel (.tail _ (.tail _ (.tail _ (.head _)))) (.head _) (all_ints' _) (all_ints' _) R.line ?_
  refine ⟨_, rfl, by simp, ?_⟩
  refine aw_sub ?_ h
  exact .cons _ (.cons _ (.cons _ (.cons _ (.cons _ (List.Sublist.refl _)))))

theorem law_F (W : LNet b) {n : Nat} (R : Room A (n + 6)) (X : LFr f) (hfr : A.frames = some [f.env]) (hframe : f.env.frame = some f.env.locals) (hkind : f.env.scope.kind = .function) {a0 a1 a3 a4 a5 a6 a7 a8 aup alw afc : AV} {gr hung : List Nat} {due : List Int} {size : Nat} {du : Addr}
    (hs6 : size ≤ 6) (hgl : gr.length = size) (hhl : hung.length = size) (hdul : due.length = size) (hdu : ∀ x ∈ due, 1 ≤ x ∧ x ≤ 6) (hpl : ∀ x ∈ placesP size due, 1 ≤ x ∧ x ≤ 6) (hlay : PyData.layable0 (.list (due.map .int)) = true) (hin : ∀ i < size, ((i : Int) + 1) ∈ due)
    (h1 : varP none (octP gr due) = runsP due due.length 0 []) (h2 : varP none (octP hung (placesP size due)) = runsP (placesP size due) (placesP size due).length 0 []) :
    awF b A f [some a0, some a1, some (.int (size : Nat)), some a3, some a4, some a5, some a6, some a7, some a8, some (.ref du), some aup, some alw, some (.str gr), some (.str hung), some afc, none, none, none, none, none, none, none, none, none, none, none, none, none, none]
      ((du, .list (due.map AV.int)) :: H) (execs (lawTail 17) f.env) fun fl _ _ => fl = .ret (.bool true) := by
  have hN := NS.mk X.hn
  have hn := X.hn
  have hc := X.hc
  have B := W.B
  refine x_ifF ?_
  refine t_cmp (by rfl) ?_
  refine e_call ?_
  refine e_glob (av := .ref W.aRead) hN.eq 27 (by rfl) W.nRead (by rfl) ?_
  refine ⟨W.isRead.keep, ?_⟩
  refine l_cons ?_
  walk_at "nm"
  refine l_cons ?_
  walk_at "nc"
  refine l_nil ?_
  intro gv ws hg hws
  cases hg
  refine aw_frameL (fun oL hoL => ahC.toE (h_lawread B B.stop W.isRead W.isVar W.nVar (R.weaken (m := 0 + 2) (by omega)) hfr hkind hframe hoL (.head _) (by omega) (by omega) hdu hws fun r1 => ⟨_, rfl, ?_⟩))
  refine e_call ?_
  refine e_glob (av := .ref W.aRuns) hN.eq 28 (by rfl) W.nRuns (by rfl) ?_
  refine ⟨W.isRuns.keep, ?_⟩
  refine l_cons ?_
  walk_at "nc"
  refine l_nil ?_
  intro gv ws hg hws
  cases hg
  refine aw_of_ah (ahC.toE (h_runs B W.isRuns (R.weaken (m := 0 + 1) (by omega)) (.tail _ (.head _)) (by omega) hws fun r2 => ?_))
  refine c_nel (.tail _ (.head _)) (.head _) (all_ints' _) (all_ints' _) R.line ?_
  refine ⟨_, rfl, by rw [h1]; simp, ?_⟩
  refine aw_sub ((List.sublist_cons_self _ _).trans (List.sublist_cons_self _ _)) ?_
  refine x_cons ?_
  refine x_compL hn 15 (by rfl) (by rfl) (cl_ok hc (by decide)) ?_
  refine e_call ?_
  refine e_blt (av := .con (.type "range")) hN.eq 19 (by rfl) B.range.1 B.range.2 (by rfl) ?_
  refine ⟨trivial, ?_⟩
  refine l_cons ?_
  refine e_int ?_
  refine l_cons ?_
  refine e_bin ?_
  walk_at "nm"
  refine e_int ?_
  refine b_add ?_
  refine l_nil ?_
  refine k_range2 (fun rg => ?_)
  refine ⟨_, _, hasIter_range R.handled (.head _) (by omega) (by omega) (by omega) (by omega), trivial, by rw [rangeL, rangeN_length]; omega, fun f2 hn2 => ?_⟩
  have hN2 : NS f2 [(Str.ofString ".0", NameKind.local), (Str.ofString "v", NameKind.local), (Str.ofString "due", NameKind.cell)] := ⟨hn2⟩
  unfold rangeL rangeN
  have hidx : ∀ i : Nat, due.idxOf ((i : Int) + 1) = due.idxOf (1 + (i : Int) * 1) := fun i => by rw [show (1 + (i : Int) * 1) = (i : Int) + 1 by omega]
  refine ACmp.ofE (fun i : Nat => AV.int (1 + (i : Int) * 1)) (fun i => some (AV.int (((due.idxOf (1 + (i : Int) * 1) : Nat) : Int) + 1))) (fun vs => ∃ w, vs = [none, w, some (.ref du)]) _ ((placesP size due).map AV.int) (by
    rw [show ((size : Int) + 1 - 1).toNat = size by omega]
    unfold placesP
    rw [List.filterMap_eq_map', List.map_map]
    refine List.map_congr_left fun i _ => ?_
    show AV.int _ = AV.int _
    dsimp only
    rw [hidx]) ⟨none, rfl⟩ ?_ ?_
  · rintro i hi vs ⟨w, rfl⟩ v hv
    rw [show ((size : Int) + 1 - 1).toNat = size by omega] at hi
    have hi := List.mem_range.mp hi
    walk_at "nu"
    refine ⟨rfl, ?_, fun q => by cases q⟩
    intro _
    refine e_bin ?_
    refine e_meth PySem.F.plainAttrs_list PySem.F.slot_list_index PySem.F.type_list_index ?_
    walk_at "nc"
    refine ⟨⟨rfl, _, .tail _ (.head _)⟩, ?_⟩
    refine l_cons ?_
    walk_at "nm"
    refine l_nil ?_
    refine k_index (.tail _ (.head _)) hlay (by rw [show (1 + (i : Int) * 1) = (i : Int) + 1 by omega]; exact hin i hi) ?_
    refine e_int ?_
    refine b_add ?_
    exact ⟨rfl, List.Sublist.refl _, _, rfl⟩
  intro pr
  refine u_loc hn 15 (by rfl) (av := .ref pr) rfl ?_
  have hpz : (placesP size due).length = size := by unfold placesP; rw [List.length_map, List.length_range]
  generalize placesP size due = pl at *
  refine x_cons ?_
  refine x_ret ?_
  refine e_cmp (by rfl) ?_
  refine e_call ?_
  refine e_glob (av := .ref W.aRead) hN.eq 27 (by rfl) W.nRead (by rfl) ?_
  refine ⟨W.isRead.keep, ?_⟩
  refine l_cons ?_
  walk_at "nm"
  refine l_cons ?_
  walk_at "nm"
  refine l_nil ?_
  intro gv ws hg hws
  cases hg
  refine aw_frameL (fun oL hoL => ahC.toE (h_lawread B B.stop W.isRead W.isVar W.nVar (R.weaken (m := 0 + 2) (by omega)) hfr hkind hframe hoL (.head _) (by omega) (by omega) hpl hws fun r1 => ⟨_, rfl, ?_⟩))
  refine e_call ?_
  refine e_glob (av := .ref W.aRuns) hN.eq 28 (by rfl) W.nRuns (by rfl) ?_
  refine ⟨W.isRuns.keep, ?_⟩
  refine l_cons ?_
  walk_at "nm"
  refine l_nil ?_
  intro gv ws hg hws
  cases hg
  refine aw_of_ah (ahC.toE (h_runs B W.isRuns (R.weaken (m := 0 + 1) (by omega)) (.tail _ (.head _)) (by omega) hws fun r2 => ?_))
  refine c_eql (.tail _ (.head _)) (.head _) (all_ints' _) (all_ints' _) R.line ?_
  rw [h2]
  simp
end

/-! from words to places -/
theorem cons_lt (a c : Nat) (s t : List Nat) : (a :: s) < (c :: t) ↔ a < c ∨ (a = c ∧ s < t) := List.cons_lt_cons_iff
structure Mono (w : Nat → List Nat) (n : Nat) : Prop where
  lt : ∀ i j, i < n → j < n → (w i < w j ↔ i < j)
  inj : ∀ i j, i < n → j < n → w i = w j → i = j
theorem words_get {size : Nat} {drawn : List Int} {i : Nat} (h : i < size) : (wordsP size drawn).getD i [] = wordP i (drawn.getD i 0) := by
  unfold wordsP
  rw [List.getD_eq_getElem?_getD, List.getElem?_map, List.getElem?_range h]
  rfl
theorem words_mono (size : Nat) (drawn : List Int) : Mono (fun i => (wordsP size drawn).getD i []) size := by
  have h1 : ∀ i j, i < size → j < size → ((wordsP size drawn).getD i [] < (wordsP size drawn).getD j [] ↔ i < j) := fun i j hi hj => by
    rw [words_get hi, words_get hj]
    unfold wordP
    show ((97 + i) :: sufP _) < ((97 + j) :: sufP _) ↔ _
    rw [cons_lt]
    constructor
    · rintro (h | ⟨h, h2⟩)
      · omega
      · have : i = j := by omega
        subst this
        exact absurd h2 (List.lt_irrefl _)
    · intro h; left; omega
  refine ⟨h1, fun i j hi hj e => ?_⟩
  have e : (wordsP size drawn).getD i [] = (wordsP size drawn).getD j [] := e
  rw [words_get hi, words_get hj] at e
  unfold wordP at e
  have e : (97 + i) :: sufP _ = (97 + j) :: sufP _ := e
  have := (List.cons.inj e).1
  omega
theorem bis_eq {w : Nat → List Nat} {n : Nat} (M : Mono w n) {u : List Nat} (hu : ∀ x ∈ u, x < n) {v : Nat} (hv : v < n) : ∀ fu lo hi, hi ≤ u.length → bisP (u.map w) (w v) fu lo hi = bisI u v fu lo hi
  | 0, lo, hi, _ => rfl
  | fu + 1, lo, hi, h => by
    rw [bisP, bisI]
    by_cases hl : lo < hi
    · have hm : (lo + hi) / 2 < u.length := by omega
      have e : (u.map w).getD ((lo + hi) / 2) [] = w (u.getD ((lo + hi) / 2) 0) := by
        rw [List.getD_eq_getElem?_getD, List.getD_eq_getElem?_getD, List.getElem?_map, List.getElem?_eq_getElem hm]; rfl
      have hx : u.getD ((lo + hi) / 2) 0 < n := by
        rw [List.getD_eq_getElem?_getD, List.getElem?_eq_getElem hm]; exact hu _ (List.getElem_mem hm)
      rw [if_pos hl, if_pos hl, e]
      by_cases q : u.getD ((lo + hi) / 2) 0 < v
      · rw [if_pos q, if_pos ((M.lt _ _ hx hv).mpr q)]
        exact bis_eq M hu hv fu _ _ h
      · rw [if_neg q, if_neg (fun z => q ((M.lt _ _ hx hv).mp z))]
        exact bis_eq M hu hv fu _ _ (by omega)
    · rw [if_neg hl, if_neg hl]
theorem bisI_le (u : List Nat) (v : Nat) : ∀ fu lo hi, lo ≤ hi → bisI u v fu lo hi ≤ hi
  | 0, lo, hi, h => h
  | fu + 1, lo, hi, h => by
    rw [bisI]
    split
    · split
      · exact bisI_le u v fu _ _ (by omega)
      · exact Nat.le_trans (bisI_le u v fu _ _ (by omega)) (by omega)
    · exact h
theorem rows_eq {w : Nat → List Nat} {n : Nat} (M : Mono w n) : ∀ (l u lo g : List Nat), (∀ x ∈ l, x < n) → (∀ x ∈ u, x < n) → rowsP (l.map w) (u.map w) (lo.map w) g = ((rowsI l u lo g).1.map w, (rowsI l u lo g).2.1.map w, (rowsI l u lo g).2.2)
  | [], u, lo, g, _, _ => rfl
  | v :: l, u, lo, g, hl, hu => by
    have hv := hl v (.head _)
    have hl2 : ∀ x ∈ l, x < n := fun x hx => hl x (.tail _ hx)
    rw [List.map_cons, rowsP, rowsI, List.length_map, bis_eq M hu hv _ _ _ (Nat.le_refl _)]
    have hle := bisI_le u v u.length 0 u.length (Nat.zero_le _)
    generalize bisI u v u.length 0 u.length = p at *
    by_cases q : p = u.length
    · rw [if_pos q, if_pos q]
      have := rows_eq M l (u ++ [v]) lo (g ++ [40]) hl2 (fun x hx => by
        rcases List.mem_append.mp hx with h | h
        · exact hu x h
        · rw [List.mem_singleton] at h; rw [h]; exact hv)
      rw [List.map_append] at this
      exact this
    · rw [if_neg q, if_neg q]
      have hlt : p < u.length := by omega
      have := rows_eq M l (u.set p v) (lo ++ [u.getD p 0]) (g ++ [41]) hl2 (fun x hx => by
        rcases List.mem_or_eq_of_mem_set hx with h | h
        · exact hu x h
        · rw [h]; exact hv)
      rw [map_set, List.map_append] at this
      have e : (u.map w).getD p [] = w (u.getD p 0) := by
        rw [List.getD_eq_getElem?_getD, List.getD_eq_getElem?_getD, List.getElem?_map, List.getElem?_eq_getElem hlt]; rfl
      rw [e]
      exact this
theorem rowsI_ok (n : Nat) : ∀ (l u lo g : List Nat), (∀ x ∈ l, x < n) → (∀ x ∈ u, x < n) → (∀ x ∈ g, x = 40 ∨ x = 41) → (∀ x ∈ (rowsI l u lo g).1, x < n) ∧ (∀ x ∈ (rowsI l u lo g).2.2, x = 40 ∨ x = 41)
  | [], u, lo, g, _, hu, hg => ⟨hu, hg⟩
  | v :: l, u, lo, g, hl, hu, hg => by
    have hl2 : ∀ x ∈ l, x < n := fun x hx => hl x (.tail _ hx)
    have hg2 : ∀ c, c = 40 ∨ c = 41 → ∀ x ∈ g ++ [c], x = 40 ∨ x = 41 := fun c hc x hx => by
      rcases List.mem_append.mp hx with h | h
      · exact hg x h
      · rw [List.mem_singleton] at h; rw [h]; exact hc
    rw [rowsI]
    split
    · refine rowsI_ok n l _ _ _ hl2 (fun x hx => ?_) (hg2 40 (.inl rfl))
      rcases List.mem_append.mp hx with h | h
      · exact hu x h
      · rw [List.mem_singleton] at h; rw [h]; exact hl v (.head _)
    · refine rowsI_ok n l _ _ _ hl2 (fun x hx => ?_) (hg2 41 (.inr rfl))
      rcases List.mem_or_eq_of_mem_set hx with h | h
      · exact hu x h
      · rw [h]; exact hl v (.head _)
theorem any_inj {w : Nat → List Nat} {n : Nat} (M : Mono w n) {u : List Nat} (hu : ∀ x ∈ u, x < n) {i : Nat} (hi : i < n) : (u.map w).any (· == w i) = u.contains i := by
  rw [Bool.eq_iff_iff, List.any_eq_true, List.contains_iff_mem]
  constructor
  · rintro ⟨x, hx, e⟩
    obtain ⟨j, hj, rfl⟩ := List.mem_map.mp hx
    have := M.inj j i (hu j hj) hi (by simpa using e)
    exact this ▸ hj
  · intro h
    exact ⟨w i, List.mem_map_of_mem h, by simp⟩
theorem words_map (size : Nat) (drawn : List Int) : wordsP size drawn = (List.range size).map fun i => (wordsP size drawn).getD i [] := by
  conv => lhs; unfold wordsP
  refine List.map_congr_left fun i hi => ?_
  rw [words_get (List.mem_range.mp hi)]
theorem filter_words {w : Nat → List Nat} {n : Nat} (p : List Nat → Bool) (q : Nat → Bool) (h : ∀ i < n, p (w i) = q i) : ((List.range n).map w).filter p = ((List.range n).filter q).map w := by
  rw [List.filter_map]
  congr 1
  refine List.filter_congr fun i hi => ?_
  exact h i (List.mem_range.mp hi)
theorem mids_eq (faces : List Nat) : ∀ (n k : Nat) (acc : List Int), midsP faces n k acc = acc ++ (List.range n).filterMap fun i => (midE faces (k + i) 6 (k + i + 2)).map fun e => ((k + i : Nat) : Int) + e - faces.length
  | 0, k, acc => by simp [midsP]
  | n + 1, k, acc => by
    rw [midsP, mids_eq faces n (k + 1), List.range_succ_eq_map, List.filterMap_cons, Nat.add_zero, List.filterMap_map]
    have e : (fun i => (midE faces (k + 1 + i) 6 (k + 1 + i + 2)).map fun e => ((k + 1 + i : Nat) : Int) + e - faces.length) = ((fun i => (midE faces (k + i) 6 (k + i + 2)).map fun e => ((k + i : Nat) : Int) + e - faces.length) ∘ Nat.succ) := by
      funext i
      show _ = (midE faces (k + (i + 1)) 6 (k + (i + 1) + 2)).map fun e => ((k + (i + 1) : Nat) : Int) + e - faces.length
      rw [show k + (i + 1) = k + 1 + i by omega]
    rw [e]
    cases midE faces k 6 (k + 2) with
    | none => rfl
    | some x => simp only [List.append_assoc, List.cons_append, List.nil_append]; rfl
theorem mids_mid (faces : List Nat) : midsP faces faces.length 0 [] = midP faces := by
  rw [mids_eq]
  simp only [List.nil_append, Nat.zero_add]
  rfl
theorem deeds_len (m : Nat) : ∀ (xs : List Int) (d : List Nat), (xs.foldl (deedStep m) d).length = d.length + xs.length ∧ ((d.all (· < 128) = true) → (xs.foldl (deedStep m) d).all (· < 128) = true)
  | [], d => ⟨rfl, fun h => h⟩
  | x :: xs, d => by
    have h1 := deeds_len m xs (deedStep m d x)
    have h2 : (deedStep m d x).length = d.length + 1 := by unfold deedStep; split <;> simp
    have h3 : d.all (· < 128) = true → (deedStep m d x).all (· < 128) = true := fun h => by unfold deedStep; split <;> simp_all
    rw [List.foldl_cons]
    refine ⟨by rw [h1.1, h2, List.length_cons]; omega, fun h => h1.2 (h3 h)⟩
theorem enc_all {w : List Nat} (h : w.all (· < 128) = true) (m : Int) : (encW w m).all (· < 128) = true := by
  have h0 : ∀ (l : List Nat), l.all (· < 128) = true → (escA l).all (· < 128) = true := fun l hl => by
    unfold escA
    refine catL_all fun x hx => ?_
    obtain ⟨c, hc, rfl⟩ := List.mem_map.mp hx
    have := List.all_eq_true.mp hl c hc
    simp at this ⊢; exact this
  have h1 : (escQ w).all (· < 128) = true := by
    unfold escQ
    refine catL_all fun x hx => ?_
    obtain ⟨c, hc, rfl⟩ := List.mem_map.mp hx
    have := List.all_eq_true.mp h c hc
    split <;> simp at this ⊢ <;> exact this
  unfold encW
  split
  · rw [List.all_append, List.all_append, h1]; rfl
  · split
    · exact h0 w h
    · rw [List.all_append, h0 (w.drop 1) (List.all_eq_true.mpr fun x hx => List.all_eq_true.mp h x (List.mem_of_mem_drop hx)), Bool.and_true]
      exact List.all_eq_true.mpr fun x hx => List.all_eq_true.mp h x (List.mem_of_mem_take hx)
theorem text_ok : ∀ (ws : List (List Nat)) (ms : List Int) (k : Nat), (∀ w ∈ ws, w.length ≤ 2 ∧ w.all (· < 128) = true) → (textP k ws ms).length ≤ 8 * ws.length ∧ (textP k ws ms).all (· < 128) = true
  | [], ms, k, _ => ⟨Nat.le_refl _, rfl⟩
  | w :: ws, [], k, _ => ⟨Nat.zero_le _, rfl⟩
  | w :: ws, m :: ms, k, h => by
    obtain ⟨h1, h2⟩ := text_ok ws ms (k + 1) fun x hx => h x (.tail _ hx)
    obtain ⟨h3, h4⟩ := h w (.head _)
    have h5 := encW_len w m
    have h6 : sepOf k < 128 := by
      unfold sepOf
      have : k % 4 < 4 := Nat.mod_lt _ (by decide)
      generalize k % 4 = j at this
      revert j; decide
    rw [textP]
    refine ⟨?_, ?_⟩
    · simp only [List.length_append, List.length_cons, List.length_nil]; omega
    · rw [List.all_append, List.all_append, enc_all h4, h2]
      simp [h6]

theorem small_weight {x : Int} (h1 : 1 ≤ x) (h6 : x ≤ 6) : PyData.weight (.int x) ≤ 3 := by
  have : x = 1 ∨ x = 2 ∨ x = 3 ∨ x = 4 ∨ x = 5 ∨ x = 6 := by omega
  rcases this with rfl | rfl | rfl | rfl | rfl | rfl <;> simp [PyData.weight] <;> decide
theorem small_all : ∀ (ns : List Int), (∀ x ∈ ns, 1 ≤ x ∧ x ≤ 6) → PyData.canLayAll0 (ns.map .int) = true ∧ PyData.depthAll (ns.map .int) = 0 ∧ PyData.weightAll (ns.map .int) ≤ 4 * ns.length
  | [], _ => ⟨by simp [PyData.canLayAll0], by simp [PyData.depthAll], by simp [PyData.weightAll]⟩
  | x :: ns, h => by
    obtain ⟨h1, h2, h3⟩ := small_all ns fun y hy => h y (.tail _ hy)
    have h4 := h x (.head _)
    have h5 := small_weight h4.1 h4.2
    refine ⟨?_, ?_, ?_⟩
    · rw [List.map_cons, PyData.canLayAll0, h1]
      simp [PyData.canLay0]
    · rw [List.map_cons, PyData.depthAll, h2]
      simp [PyData.depth]
    · rw [List.map_cons, PyData.weightAll, List.length_cons]
      omega
theorem small_layable {ns : List Int} (h : ∀ x ∈ ns, 1 ≤ x ∧ x ≤ 6) (hl : ns.length ≤ 6) : PyData.layable0 (.list (ns.map .int)) = true := by
  obtain ⟨h1, h2, h3⟩ := small_all ns h
  unfold PyData.layable0
  rw [Bool.and_eq_true, Bool.and_eq_true]
  refine ⟨⟨?_, ?_⟩, ?_⟩
  · simp only [PyData.canLay0]; exact h1
  · rw [decide_eq_true_eq]; simp only [PyData.depth]; rw [h2]; decide
  · rw [decide_eq_true_eq]; simp only [PyData.weight]; omega
structure Chk (size : Nat) (deeds out : List Nat) (due : List Int) : Prop where
  out_ : loP size deeds 0 [] 0 = some out
  due_ : dueP deeds deeds.length 0 [] = some due
  len : out.length = size
  lt : ∀ i ∈ out, i < size
  eq : (out.map fun (i : Nat) => (i : Int) + 1) = due
  up : (rowsI out [] [] []).1 = (List.range size).filter ((rowsI out [] [] []).1.contains ·)
  lo : (rowsI out [] [] []).2.1 = (List.range size).filter fun i => !(rowsI out [] [] []).1.contains i
  gl : (rowsI out [] [] []).2.2.length = size
  perm : ((midP (facesP (rowsI out [] [] []).2.2 (hungP size (rowsI out [] [] []).1))).map sgnP).Perm (((List.range size).map fun (k : Nat) => (k : Int) + 1 - due.getD k 0).map sgnP)
  v1 : varP none (octP (rowsI out [] [] []).2.2 due) = runsP due due.length 0 []
  v2 : varP none (octP (hungP size (rowsI out [] [] []).1) (placesP size due)) = runsP (placesP size due) (placesP size due).length 0 []
  pl : ∀ x ∈ placesP size due, 1 ≤ x ∧ x ≤ 6
  du : ∀ x ∈ due, 1 ≤ x ∧ x ≤ 6
  mem : ∀ i < size, ((i : Int) + 1) ∈ due
theorem chk_of {size : Nat} {deeds : List Nat} (h : checkP size deeds = true) : ∃ out due, Chk size deeds out due := by
  unfold checkP at h
  split at h
  · rename_i out due h1 h2
    simp only [Bool.and_eq_true] at h
    obtain ⟨⟨⟨⟨⟨⟨⟨⟨⟨⟨⟨g1, g2⟩, g3⟩, g4⟩, g5⟩, g6⟩, g7⟩, g8⟩, g9⟩, g10⟩, g11⟩, g12⟩ := h
    refine ⟨out, due, h1, h2, by simpa using g1, fun i hi => by simpa using List.all_eq_true.mp g2 i hi, by simpa using g3, by simpa using g4, by simpa using g5, by simpa using g6, List.isPerm_iff.mp g7, by simpa using g8, by simpa using g9, fun x hx => by simpa using List.all_eq_true.mp g10 x hx, fun x hx => by simpa using List.all_eq_true.mp g11 x hx, fun i hi => by simpa using List.all_eq_true.mp g12 i (List.mem_range.mpr hi)⟩
  · cases h
theorem chk_paths {size : Nat} (h4 : 4 ≤ size) (h6 : size ≤ 6) {deeds : List Nat} (hd : deeds ∈ pathsF size (2 * size - 1) [40]) : ∃ out due, Chk size deeds out due := by
  have : size = 4 ∨ size = 5 ∨ size = 6 := by omega
  rcases this with rfl | rfl | rfl
  · exact chk_of (List.all_eq_true.mp check4 _ hd)
  · exact chk_of (List.all_eq_true.mp check5 _ hd)
  · exact chk_of (List.all_eq_true.mp check6 _ hd)
theorem filter_words' {w : Nat → List Nat} {n : Nat} {words : List (List Nat)} (e : words = (List.range n).map w) (p : List Nat → Bool) (q : Nat → Bool) (h : ∀ i < n, p (w i) = q i) : words.filter p = ((List.range n).filter q).map w := by
  subst e
  exact filter_words p q h
theorem hung_eq {w : Nat → List Nat} {size : Nat} (M : Mono w size) {words : List (List Nat)} (e : words = (List.range size).map w) {u : List Nat} (hu : ∀ x ∈ u, x < size) : hungW (u.map w) words = hungP size u := by
  subst e
  unfold hungW hungP
  rw [List.map_map]
  refine List.map_congr_left fun i hi => ?_
  have hi := List.mem_range.mp hi
  show (if (List.map _ u).any (· == w i) = true then 40 else 41) = _
  rw [any_inj M hu hi]
theorem faces_eq (g hung : List Nat) : facesW g hung = facesP g hung := by
  unfold facesW facesP
  congr 1
  refine List.map_congr_left fun c _ => ?_
  by_cases h : c = 40
  · subst h; rfl
  · rw [if_neg h, if_neg (by simpa using h)]
theorem faces_ok {g hung : List Nat} (hg : ∀ x ∈ g, x = 40 ∨ x = 41) : ∀ c ∈ facesP g hung, c = 40 ∨ c = 41 := by
  intro c hc
  unfold facesP at hc
  rcases List.mem_append.mp hc with h | h
  · exact hg c h
  · obtain ⟨x, _, rfl⟩ := List.mem_map.mp h
    split
    · exact .inr rfl
    · exact .inl rfl
section
variable {b : Bs} {A : Around} {f : Fm} {vs : Vs} {H : Led}
theorem law_body (W : LNet b) {n : Nat} (R : Room A (n + 6)) (X : LFr f) (hfr : A.frames = some [f.env]) (hframe : f.env.frame = some f.env.locals) (hkind : f.env.scope.kind = .function) {sa : Addr} {script : List Int} (hs : ∀ H, Lst b H sa (script.map AV.int)) (hz : script.length ≤ 63) :
    awF b A f [some (.ref sa), none, none, none, none, none, none, none, none, none, none, none, none, none, none, none, none, none, none, none, none, none, none, none, none, none, none, none, none] [(W.F.P, aoTab #[])] (execs (lawTail 0) f.env) fun fl _ H' => fl = .ret (.bool true) ∧ ∃ K cc, H' = (W.F.P, aoTab (tabOf lamPos cc)) :: K := by
  have hsz6 : 4 ≤ sizeP script ∧ sizeP script ≤ 6 := by unfold sizeP; omega
  have hdl : (drawnP script).length = 2 * sizeP script := by unfold drawnP; rw [List.length_map, List.length_range]
  have hd0 : ∀ d ∈ drawnP script, 0 ≤ d ∧ d < 72 := by
    intro d hdm
    obtain ⟨k, _, rfl⟩ := List.mem_map.mp hdm
    omega
  refine law_A W R X hs hz rfl rfl fun da wa => ?_
  generalize drawnP script = drawn at *
  generalize sizeP script = size at *
  have hst : (sliceL drawn none (some (-1)) none).length = 2 * size - 1 := by rw [sliceL_last, List.length_take]; omega
  have hdp : deedsP drawn ∈ pathsF size (2 * size - 1) [40] := by
    have := fold_mem size (sliceL drawn none (some (-1)) none) [40]
    rw [hst] at this
    unfold deedsP
    rw [hdl, show 2 * size / 2 = size by omega]
    exact this
  obtain ⟨hdlen, hd128⟩ := deeds_len (drawn.length / 2) (sliceL drawn none (some (-1)) none) [40]
  have hdlen : (deedsP drawn).length = 2 * size := by unfold deedsP; rw [hdlen, hst, List.length_cons, List.length_nil]; omega
  have hd128 : (deedsP drawn).all (· < 128) = true := hd128 rfl
  obtain ⟨out, due, C⟩ := chk_paths hsz6.1 hsz6.2 hdp
  have hwk := words_ok hsz6.2 drawn
  have hwl := words_len size drawn
  have hmono := words_mono size drawn
  have hml : (msP size drawn).length = size := by unfold msP; rw [List.length_map, List.length_drop]; omega
  have hms : ∀ m ∈ msP size drawn, m = 0 ∨ m = 1 ∨ m = 2 := fun m hm => by
    obtain ⟨x, _, rfl⟩ := List.mem_map.mp hm
    omega
  obtain ⟨ht1, ht2⟩ := text_ok (wordsP size drawn) (msP size drawn) 0 fun w hw => ⟨(hwk w hw).2.1, (hwk w hw).2.2.2⟩
  have hdul : due.length = size := by rw [← C.eq, List.length_map, C.len]
  have hd1 : ∀ v ∈ due, 1 ≤ v ∧ v ≤ (wordsP size drawn).length := fun v hv => by
    rw [← C.eq] at hv
    obtain ⟨i, hi, rfl⟩ := List.mem_map.mp hv
    have := C.lt i hi
    rw [hwl]
    omega
  have heq : (out.map fun i => AV.str ((wordsP size drawn).getD i [])) = due.map fun v => AV.str ((wordsP size drawn).getD (v - 1).toNat []) := by
    rw [← C.eq, List.map_map]
    refine List.map_congr_left fun i _ => ?_
    show _ = AV.str ((wordsP size drawn).getD ((i : Int) + 1 - 1).toNat [])
    rw [show ((i : Int) + 1 - 1).toNat = i by omega]
  refine aw_mono (Q := fun fl _ H' => ∃ K cc, H' = (W.F.P, aoTab (tabOf lamPos cc)) :: K ∧ fl = .ret (.bool true)) ?_ (fun fl vs' H' ⟨K, cc, e, hq⟩ => ⟨hq, K, cc, e⟩)
  refine law_B (Q := fun fl _ _ => fl = .ret (.bool true)) W R X rfl ht2 (by omega) (by omega) (by omega) (fun w hw => (hwk w hw).1) hms hd128 (by omega) (by rw [hwl]; exact C.out_) C.due_ fun k1 k2 cc ra du rest hrd => ?_
  refine law_C W R X (by omega) hrd (by omega) (by omega) (by omega) hd1 heq ?_
  obtain ⟨hul, hgl⟩ := rowsI_ok size out [] [] [] C.lt (fun x hx => absurd hx List.not_mem_nil) (fun x hx => absurd hx List.not_mem_nil)
  have hrow : (out.map fun i => AV.str ((wordsP size drawn).getD i [])) = (out.map fun i => (wordsP size drawn).getD i []).map AV.str := by rw [List.map_map]; rfl
  rw [hrow]
  have hrows := rows_eq hmono out [] [] [] C.lt (fun x hx => absurd hx List.not_mem_nil)
  have hany : ∀ i < size, ((rowsI out [] [] []).1.map fun i => (wordsP size drawn).getD i []).any (· == (wordsP size drawn).getD i []) = (rowsI out [] [] []).1.contains i := fun i hi => any_inj hmono hul hi
  refine law_D W R X (by omega) (by rw [List.length_map, C.len]; omega) hrows (by rw [C.gl]; omega) ?_ ?_ fun up lw => ?_
  · rw [filter_words' (words_map size drawn) _ (fun i => (rowsI out [] [] []).1.contains i) hany, ← C.up]
  · rw [filter_words' (words_map size drawn) _ (fun i => !(rowsI out [] [] []).1.contains i) (fun i hi => by rw [hany i hi]), ← C.lo]
  rw [hung_eq hmono (words_map size drawn) hul, faces_eq]
  have hhl : (hungP size (rowsI out [] [] []).1).length = size := by unfold hungP; rw [List.length_map, List.length_range]
  have hfl : (facesP (rowsI out [] [] []).2.2 (hungP size (rowsI out [] [] []).1)).length = 2 * size := by
    unfold facesP
    rw [List.length_append, List.length_map, List.length_reverse, hhl, C.gl]; omega
  refine law_E W R X hsz6.2 hdl hd0 hdul (faces_ok hgl) hfl (by rw [mids_mid]; exact C.perm) ?_
  exact law_F W R X hfr hframe hkind hsz6.2 C.gl hhl hdul C.du C.pl (small_layable C.du (by omega)) C.mem C.v1 C.v2
end

/-! the head: what the top leaves, looked at in one check -/
noncomputable def kOb_3 (P : Params) : Obj := { cls := .type "dict", data := .dict #[{ hash := PyData.keyHash P (Str.ofString "__name__"), key := .str (Str.ofString "__name__") 165, val := .str (Str.ofString "law_us0005_01") 308 }, { hash := PyData.keyHash P (Str.ofString "__doc__"), key := .str (Str.ofString "__doc__") 166, val := .none }, { hash := PyData.keyHash P (Str.ofString "__package__"), key := .str (Str.ofString "__package__") 167, val := .none }, { hash := PyData.keyHash P (Str.ofString "__loader__"), key := .str (Str.ofString "__loader__") 168, val := .builtin "__main__.__loader__#opaque" }, { hash := PyData.keyHash P (Str.ofString "__spec__"), key := .str (Str.ofString "__spec__") 169, val := .none }, { hash := PyData.keyHash P (Str.ofString "__annotations__"), key := .str (Str.ofString "__annotations__") 170, val := .ref 6 }, { hash := PyData.keyHash P (Str.ofString "__builtins__"), key := .str (Str.ofString "__builtins__") 171, val := .ref 4 }, { hash := PyData.keyHash P (Str.ofString "__file__"), key := .str (Str.ofString "__file__") 173, val := .str (Str.ofString "/claim/cut.py") 172 }, { hash := PyData.keyHash P (Str.ofString "__cached__"), key := .str (Str.ofString "__cached__") 174, val := .none }, { hash := PyData.keyHash P (Str.ofString "_iter_escaped_chars"), key := .str (Str.ofString "_iter_escaped_chars") 198, val := .ref 21 }, { hash := PyData.keyHash P (Str.ofString "_strip_quoted_realnames"), key := .str (Str.ofString "_strip_quoted_realnames") 210, val := .ref 28 }, { hash := PyData.keyHash P (Str.ofString "_check_parenthesis"), key := .str (Str.ofString "_check_parenthesis") 220, val := .ref 35 }, { hash := PyData.keyHash P (Str.ofString "bisect_left"), key := .str (Str.ofString "bisect_left") 236, val := .ref 44 }, { hash := PyData.keyHash P (Str.ofString "_parse_varint"), key := .str (Str.ofString "_parse_varint") 247, val := .ref 51 }, { hash := PyData.keyHash P (Str.ofString "_netrclex"), key := .str (Str.ofString "_netrclex") 307, val := .ref 89 }, { hash := PyData.keyHash P (Str.ofString "_law_drawn"), key := .str (Str.ofString "_law_drawn") 315, val := .ref 98 }, { hash := PyData.keyHash P (Str.ofString "_law_deeds"), key := .str (Str.ofString "_law_deeds") 325, val := .ref 105 }, { hash := PyData.keyHash P (Str.ofString "_law_text"), key := .str (Str.ofString "_law_text") 331, val := .ref 110 }, { hash := PyData.keyHash P (Str.ofString "_law_lexer"), key := .str (Str.ofString "_law_lexer") 340, val := .ref 117 }, { hash := PyData.keyHash P (Str.ofString "_law_let_out"), key := .str (Str.ofString "_law_let_out") 353, val := .ref 124 }, { hash := PyData.keyHash P (Str.ofString "_law_due"), key := .str (Str.ofString "_law_due") 359, val := .ref 129 }, { hash := PyData.keyHash P (Str.ofString "_law_rows"), key := .str (Str.ofString "_law_rows") 371, val := .ref 136 }, { hash := PyData.keyHash P (Str.ofString "_law_middles"), key := .str (Str.ofString "_law_middles") 377, val := .ref 141 }, { hash := PyData.keyHash P (Str.ofString "_law_sides"), key := .str (Str.ofString "_law_sides") 383, val := .ref 146 }, { hash := PyData.keyHash P (Str.ofString "_law_read"), key := .str (Str.ofString "_law_read") 396, val := .ref 153 }, { hash := PyData.keyHash P (Str.ofString "_law_runs"), key := .str (Str.ofString "_law_runs") 405, val := .ref 160 }, { hash := PyData.keyHash P (Str.ofString "law"), key := .str (Str.ofString "law") 411, val := .ref 165 }] 27 }
noncomputable def kOb_11 (P : Params) : Obj := { cls := .type "tuple", data := .seq #[] }
noncomputable def kOb_12 (P : Params) : Obj := { cls := .none, data := .fields #[.int 2 0, .int 0 0, .ref 20, .int 15 0, .int 0 0, .ref 27, .int 33 0, .int 0 0, .ref 34, .int 45 0, .int 0 0, .ref 43, .int 66 0, .int 0 0, .ref 50, .int 75 0, .int 0 0, .ref 57, .int 119 0, .int 0 0, .ref 97, .int 123 0, .int 0 0, .ref 104, .int 132 0, .int 0 0, .ref 109, .int 143 0, .int 0 0, .ref 116, .int 148 0, .int 0 0, .ref 123, .int 163 0, .int 0 0, .ref 128, .int 170 0, .int 0 0, .ref 135, .int 184 0, .int 0 0, .ref 140, .int 197 0, .int 0 0, .ref 145, .int 199 0, .int 0 0, .ref 152, .int 211 0, .int 0 0, .ref 159, .int 218 0, .int 0 0, .ref 164] }
noncomputable def kOb_13 (P : Params) : Obj := { cls := .type "code", data := .fields #[.str (Str.ofString "<module>") 182, .str (Str.ofString "<module>") 183, .str (Str.ofString "/claim/cut.py") 184, .int 1 0, .int 0 0, .int 0 0, .int 0 0, .int 0 0, .ref 11, .bool false, .int 181 0, .ref 12, .none, .none, .none, .none, .int 185 0, .int 1 0, .str (Str.ofString "/claim/cut.py") 186] }
noncomputable def kOb_14 (P : Params) : Obj := { cls := .type "frame", slots := #[some (.ref 13), some (.ref 3), some (.ref 3), none, some (.str (Str.ofString "__main__") 164), none, some (.ref 0)] }
noncomputable def kOb_15 (P : Params) : Obj := { cls := .type "tuple", data := .seq #[] }
noncomputable def kOb_16 (P : Params) : Obj := { cls := .none, data := .fields #[] }
noncomputable def kOb_17 (P : Params) : Obj := { cls := .type "tuple", data := .seq #[.str (Str.ofString "addr") 192, .str (Str.ofString "pos") 193, .str (Str.ofString "escape") 194, .str (Str.ofString "ch") 195] }
noncomputable def kOb_18 (P : Params) : Obj := { cls := .type "tuple", data := .seq #[] }
noncomputable def kOb_19 (P : Params) : Obj := { cls := .none, data := .func { name := Str.ofString "_iter_escaped_chars", qualname := Str.ofString "_iter_escaped_chars", params := paramsOf (stAt 1), body := FuncBody.stmts (bodyOf (stAt 1)), scope := scopeOf (stAt 1), globals := 0, closure := [], defaults := .none, kwdefaults := .none } }
noncomputable def kOb_20 (P : Params) : Obj := { cls := .type "code", data := .fields #[.str (Str.ofString "_iter_escaped_chars") 189, .str (Str.ofString "_iter_escaped_chars") 190, .str (Str.ofString "/claim/cut.py") 191, .int 2 0, .int 1 0, .int 0 0, .int 0 0, .int 35 0, .ref 15, .bool Bool.true, .int 181 0, .ref 16, .none, .ref 17, .ref 18, .ref 19, .int 196 0, .int 2 0, .str (Str.ofString "/claim/cut.py") 197] }
noncomputable def kOb_21 (P : Params) : Obj := { cls := .type "function", data := .func { name := Str.ofString "_iter_escaped_chars", qualname := Str.ofString "_iter_escaped_chars", params := paramsOf (stAt 1), body := FuncBody.stmts (bodyOf (stAt 1)), scope := scopeOf (stAt 1), globals := 3, closure := [], defaults := .none, kwdefaults := .none, pyModule := .str (Str.ofString "cpy313.email.utils") 187, code := .ref 20 } }
noncomputable def kOb_22 (P : Params) : Obj := { cls := .type "tuple", data := .seq #[] }
noncomputable def kOb_23 (P : Params) : Obj := { cls := .none, data := .fields #[] }
noncomputable def kOb_24 (P : Params) : Obj := { cls := .type "tuple", data := .seq #[.str (Str.ofString "addr") 202, .str (Str.ofString "start") 203, .str (Str.ofString "open_pos") 204, .str (Str.ofString "result") 205, .str (Str.ofString "pos") 206, .str (Str.ofString "ch") 207] }
noncomputable def kOb_25 (P : Params) : Obj := { cls := .type "tuple", data := .seq #[] }
noncomputable def kOb_26 (P : Params) : Obj := { cls := .none, data := .func { name := Str.ofString "_strip_quoted_realnames", qualname := Str.ofString "_strip_quoted_realnames", params := paramsOf (stAt 2), body := FuncBody.stmts (bodyOf (stAt 2)), scope := scopeOf (stAt 2), globals := 0, closure := [], defaults := .none, kwdefaults := .none } }
noncomputable def kOb_27 (P : Params) : Obj := { cls := .type "code", data := .fields #[.str (Str.ofString "_strip_quoted_realnames") 199, .str (Str.ofString "_strip_quoted_realnames") 200, .str (Str.ofString "/claim/cut.py") 201, .int 15 0, .int 1 0, .int 0 0, .int 0 0, .int 3 0, .ref 22, .bool Bool.true, .int 181 0, .ref 23, .none, .ref 24, .ref 25, .ref 26, .int 208 0, .int 15 0, .str (Str.ofString "/claim/cut.py") 209] }
noncomputable def kOb_28 (P : Params) : Obj := { cls := .type "function", data := .func { name := Str.ofString "_strip_quoted_realnames", qualname := Str.ofString "_strip_quoted_realnames", params := paramsOf (stAt 2), body := FuncBody.stmts (bodyOf (stAt 2)), scope := scopeOf (stAt 2), globals := 3, closure := [], defaults := .none, kwdefaults := .none, pyModule := .str (Str.ofString "cpy313.email.utils") 187, code := .ref 27 } }
noncomputable def kOb_29 (P : Params) : Obj := { cls := .type "tuple", data := .seq #[] }
noncomputable def kOb_30 (P : Params) : Obj := { cls := .none, data := .fields #[] }
noncomputable def kOb_31 (P : Params) : Obj := { cls := .type "tuple", data := .seq #[.str (Str.ofString "addr") 214, .str (Str.ofString "opens") 215, .str (Str.ofString "pos") 216, .str (Str.ofString "ch") 217] }
noncomputable def kOb_32 (P : Params) : Obj := { cls := .type "tuple", data := .seq #[] }
noncomputable def kOb_33 (P : Params) : Obj := { cls := .none, data := .func { name := Str.ofString "_check_parenthesis", qualname := Str.ofString "_check_parenthesis", params := paramsOf (stAt 3), body := FuncBody.stmts (bodyOf (stAt 3)), scope := scopeOf (stAt 3), globals := 0, closure := [], defaults := .none, kwdefaults := .none } }
noncomputable def kOb_34 (P : Params) : Obj := { cls := .type "code", data := .fields #[.str (Str.ofString "_check_parenthesis") 211, .str (Str.ofString "_check_parenthesis") 212, .str (Str.ofString "/claim/cut.py") 213, .int 33 0, .int 1 0, .int 0 0, .int 0 0, .int 3 0, .ref 29, .bool Bool.true, .int 181 0, .ref 30, .none, .ref 31, .ref 32, .ref 33, .int 218 0, .int 33 0, .str (Str.ofString "/claim/cut.py") 219] }
noncomputable def kOb_35 (P : Params) : Obj := { cls := .type "function", data := .func { name := Str.ofString "_check_parenthesis", qualname := Str.ofString "_check_parenthesis", params := paramsOf (stAt 3), body := FuncBody.stmts (bodyOf (stAt 3)), scope := scopeOf (stAt 3), globals := 3, closure := [], defaults := .none, kwdefaults := .none, pyModule := .str (Str.ofString "cpy313.email.utils") 187, code := .ref 34 } }
noncomputable def kOb_36 (P : Params) : Obj := { cls := .type "tuple", data := .seq #[.int 0 223, .none] }
noncomputable def kOb_37 (P : Params) : Obj := { cls := .type "dict", data := .dict #[{ hash := PyData.keyHash P (Str.ofString "key"), key := .str (Str.ofString "key") 224, val := .none }] 1 }
noncomputable def kOb_38 (P : Params) : Obj := { cls := .type "tuple", data := .seq #[] }
noncomputable def kOb_39 (P : Params) : Obj := { cls := .none, data := .fields #[] }
noncomputable def kOb_40 (P : Params) : Obj := { cls := .type "tuple", data := .seq #[.str (Str.ofString "a") 228, .str (Str.ofString "x") 229, .str (Str.ofString "lo") 230, .str (Str.ofString "hi") 231, .str (Str.ofString "key") 232, .str (Str.ofString "mid") 233] }
noncomputable def kOb_41 (P : Params) : Obj := { cls := .type "tuple", data := .seq #[] }
noncomputable def kOb_42 (P : Params) : Obj := { cls := .none, data := .func { name := Str.ofString "bisect_left", qualname := Str.ofString "bisect_left", params := paramsOf (stAt 5), body := FuncBody.stmts (bodyOf (stAt 5)), scope := scopeOf (stAt 5), globals := 0, closure := [], defaults := .none, kwdefaults := .none } }
noncomputable def kOb_43 (P : Params) : Obj := { cls := .type "code", data := .fields #[.str (Str.ofString "bisect_left") 225, .str (Str.ofString "bisect_left") 226, .str (Str.ofString "/claim/cut.py") 227, .int 45 0, .int 4 0, .int 0 0, .int 1 0, .int 3 0, .ref 38, .bool Bool.true, .int 181 0, .ref 39, .none, .ref 40, .ref 41, .ref 42, .int 234 0, .int 45 0, .str (Str.ofString "/claim/cut.py") 235] }
noncomputable def kOb_44 (P : Params) : Obj := { cls := .type "function", data := .func { name := Str.ofString "bisect_left", qualname := Str.ofString "bisect_left", params := paramsOf (stAt 5), body := FuncBody.stmts (bodyOf (stAt 5)), scope := scopeOf (stAt 5), globals := 3, closure := [], defaults := .ref 36, kwdefaults := .ref 37, pyModule := .str (Str.ofString "cpy313.bisect") 221, code := .ref 43 } }
noncomputable def kOb_45 (P : Params) : Obj := { cls := .type "tuple", data := .seq #[] }
noncomputable def kOb_46 (P : Params) : Obj := { cls := .none, data := .fields #[] }
noncomputable def kOb_47 (P : Params) : Obj := { cls := .type "tuple", data := .seq #[.str (Str.ofString "iterator") 242, .str (Str.ofString "b") 243, .str (Str.ofString "val") 244] }
noncomputable def kOb_48 (P : Params) : Obj := { cls := .type "tuple", data := .seq #[] }
noncomputable def kOb_49 (P : Params) : Obj := { cls := .none, data := .func { name := Str.ofString "_parse_varint", qualname := Str.ofString "_parse_varint", params := paramsOf (stAt 7), body := FuncBody.stmts (bodyOf (stAt 7)), scope := scopeOf (stAt 7), globals := 0, closure := [], defaults := .none, kwdefaults := .none } }
noncomputable def kOb_50 (P : Params) : Obj := { cls := .type "code", data := .fields #[.str (Str.ofString "_parse_varint") 239, .str (Str.ofString "_parse_varint") 240, .str (Str.ofString "/claim/cut.py") 241, .int 66 0, .int 1 0, .int 0 0, .int 0 0, .int 3 0, .ref 45, .bool Bool.true, .int 181 0, .ref 46, .none, .ref 47, .ref 48, .ref 49, .int 245 0, .int 66 0, .str (Str.ofString "/claim/cut.py") 246] }
noncomputable def kOb_51 (P : Params) : Obj := { cls := .type "function", data := .func { name := Str.ofString "_parse_varint", qualname := Str.ofString "_parse_varint", params := paramsOf (stAt 7), body := FuncBody.stmts (bodyOf (stAt 7)), scope := scopeOf (stAt 7), globals := 3, closure := [], defaults := .none, kwdefaults := .none, pyModule := .str (Str.ofString "cpy313.dis") 237, code := .ref 50 } }
noncomputable def kOb_52 (P : Params) : Obj := { cls := .type "tuple", data := .seq #[] }
noncomputable def kOb_53 (P : Params) : Obj := { cls := .type "builtin_function_or_method", data := .fields #[.builtin "type.__prepare__", .type "type"] }
noncomputable def kOb_54 (P : Params) : Obj := { cls := .type "dict", data := .dict #[{ hash := PyData.keyHash P (Str.ofString "__module__"), key := .str (Str.ofString "__module__") 257, val := .str (Str.ofString "cpy313.netrc") 248 }, { hash := PyData.keyHash P (Str.ofString "__qualname__"), key := .str (Str.ofString "__qualname__") 259, val := .str (Str.ofString "_netrclex") 258 }, { hash := PyData.keyHash P (Str.ofString "__firstlineno__"), key := .str (Str.ofString "__firstlineno__") 261, val := .int 75 260 }, { hash := PyData.keyHash P (Str.ofString "__init__"), key := .str (Str.ofString "__init__") 269, val := .ref 65 }, { hash := PyData.keyHash P (Str.ofString "_read_char"), key := .str (Str.ofString "_read_char") 277, val := .ref 72 }, { hash := PyData.keyHash P (Str.ofString "get_token"), key := .str (Str.ofString "get_token") 287, val := .ref 79 }, { hash := PyData.keyHash P (Str.ofString "push_token"), key := .str (Str.ofString "push_token") 295, val := .ref 86 }, { hash := PyData.keyHash P (Str.ofString "__static_attributes__"), key := .str (Str.ofString "__static_attributes__") 300, val := .ref 87 }] 8 }
noncomputable def kOb_55 (P : Params) : Obj := { cls := .type "tuple", data := .seq #[] }
noncomputable def kOb_56 (P : Params) : Obj := { cls := .none, data := .fields #[.int 77 0, .int 4 0, .ref 64, .int 83 0, .int 4 0, .ref 71, .int 89 0, .int 4 0, .ref 78, .int 116 0, .int 4 0, .ref 85] }
noncomputable def kOb_57 (P : Params) : Obj := { cls := .type "code", data := .fields #[.str (Str.ofString "_netrclex") 252, .str (Str.ofString "_netrclex") 253, .str (Str.ofString "/claim/cut.py") 254, .int 75 0, .int 0 0, .int 0 0, .int 0 0, .int 0 0, .ref 55, .bool false, .int 181 0, .ref 56, .none, .none, .none, .none, .int 255 0, .int 75 0, .str (Str.ofString "/claim/cut.py") 256] }
noncomputable def kOb_58 (P : Params) : Obj := { cls := .type "frame", slots := #[some (.ref 57), some (.ref 3), some (.ref 54), none, some (.str (Str.ofString "cpy313.netrc") 248), none, some (.ref 0)] }
noncomputable def kOb_59 (P : Params) : Obj := { cls := .type "tuple", data := .seq #[] }
noncomputable def kOb_60 (P : Params) : Obj := { cls := .none, data := .fields #[] }
noncomputable def kOb_61 (P : Params) : Obj := { cls := .type "tuple", data := .seq #[.str (Str.ofString "self") 265, .str (Str.ofString "fp") 266] }
noncomputable def kOb_62 (P : Params) : Obj := { cls := .type "tuple", data := .seq #[] }
noncomputable def kOb_63 (P : Params) : Obj := { cls := .none, data := .func { name := Str.ofString "__init__", qualname := Str.ofString "_netrclex.__init__", params := paramsOf (meAt 0), body := FuncBody.stmts (bodyOf (meAt 0)), scope := scopeOf (meAt 0), globals := 0, closure := [], defaults := .none, kwdefaults := .none } }
noncomputable def kOb_64 (P : Params) : Obj := { cls := .type "code", data := .fields #[.str (Str.ofString "__init__") 262, .str (Str.ofString "_netrclex.__init__") 263, .str (Str.ofString "/claim/cut.py") 264, .int 77 0, .int 2 0, .int 0 0, .int 0 0, .int 3 0, .ref 59, .bool Bool.true, .int 181 0, .ref 60, .none, .ref 61, .ref 62, .ref 63, .int 267 0, .int 77 0, .str (Str.ofString "/claim/cut.py") 268] }
noncomputable def kOb_65 (P : Params) : Obj := { cls := .type "function", data := .func { name := Str.ofString "__init__", qualname := Str.ofString "_netrclex.__init__", params := paramsOf (meAt 0), body := FuncBody.stmts (bodyOf (meAt 0)), scope := scopeOf (meAt 0), globals := 3, closure := [], defaults := .none, kwdefaults := .none, pyModule := .str (Str.ofString "cpy313.netrc") 248, code := .ref 64 } }
noncomputable def kOb_66 (P : Params) : Obj := { cls := .type "tuple", data := .seq #[] }
noncomputable def kOb_67 (P : Params) : Obj := { cls := .none, data := .fields #[] }
noncomputable def kOb_68 (P : Params) : Obj := { cls := .type "tuple", data := .seq #[.str (Str.ofString "self") 273, .str (Str.ofString "ch") 274] }
noncomputable def kOb_69 (P : Params) : Obj := { cls := .type "tuple", data := .seq #[] }
noncomputable def kOb_70 (P : Params) : Obj := { cls := .none, data := .func { name := Str.ofString "_read_char", qualname := Str.ofString "_netrclex._read_char", params := paramsOf (meAt 1), body := FuncBody.stmts (bodyOf (meAt 1)), scope := scopeOf (meAt 1), globals := 0, closure := [], defaults := .none, kwdefaults := .none } }
noncomputable def kOb_71 (P : Params) : Obj := { cls := .type "code", data := .fields #[.str (Str.ofString "_read_char") 270, .str (Str.ofString "_netrclex._read_char") 271, .str (Str.ofString "/claim/cut.py") 272, .int 83 0, .int 1 0, .int 0 0, .int 0 0, .int 3 0, .ref 66, .bool Bool.true, .int 181 0, .ref 67, .none, .ref 68, .ref 69, .ref 70, .int 275 0, .int 83 0, .str (Str.ofString "/claim/cut.py") 276] }
noncomputable def kOb_72 (P : Params) : Obj := { cls := .type "function", data := .func { name := Str.ofString "_read_char", qualname := Str.ofString "_netrclex._read_char", params := paramsOf (meAt 1), body := FuncBody.stmts (bodyOf (meAt 1)), scope := scopeOf (meAt 1), globals := 3, closure := [], defaults := .none, kwdefaults := .none, pyModule := .str (Str.ofString "cpy313.netrc") 248, code := .ref 71 } }
noncomputable def kOb_73 (P : Params) : Obj := { cls := .type "tuple", data := .seq #[] }
noncomputable def kOb_74 (P : Params) : Obj := { cls := .none, data := .fields #[] }
noncomputable def kOb_75 (P : Params) : Obj := { cls := .type "tuple", data := .seq #[.str (Str.ofString "self") 281, .str (Str.ofString "token") 282, .str (Str.ofString "fiter") 283, .str (Str.ofString "ch") 284] }
noncomputable def kOb_76 (P : Params) : Obj := { cls := .type "tuple", data := .seq #[] }
noncomputable def kOb_77 (P : Params) : Obj := { cls := .none, data := .func { name := Str.ofString "get_token", qualname := Str.ofString "_netrclex.get_token", params := paramsOf (meAt 2), body := FuncBody.stmts (bodyOf (meAt 2)), scope := scopeOf (meAt 2), globals := 0, closure := [], defaults := .none, kwdefaults := .none } }
noncomputable def kOb_78 (P : Params) : Obj := { cls := .type "code", data := .fields #[.str (Str.ofString "get_token") 278, .str (Str.ofString "_netrclex.get_token") 279, .str (Str.ofString "/claim/cut.py") 280, .int 89 0, .int 1 0, .int 0 0, .int 0 0, .int 3 0, .ref 73, .bool Bool.true, .int 181 0, .ref 74, .none, .ref 75, .ref 76, .ref 77, .int 285 0, .int 89 0, .str (Str.ofString "/claim/cut.py") 286] }
noncomputable def kOb_79 (P : Params) : Obj := { cls := .type "function", data := .func { name := Str.ofString "get_token", qualname := Str.ofString "_netrclex.get_token", params := paramsOf (meAt 2), body := FuncBody.stmts (bodyOf (meAt 2)), scope := scopeOf (meAt 2), globals := 3, closure := [], defaults := .none, kwdefaults := .none, pyModule := .str (Str.ofString "cpy313.netrc") 248, code := .ref 78 } }
noncomputable def kOb_80 (P : Params) : Obj := { cls := .type "tuple", data := .seq #[] }
noncomputable def kOb_81 (P : Params) : Obj := { cls := .none, data := .fields #[] }
noncomputable def kOb_82 (P : Params) : Obj := { cls := .type "tuple", data := .seq #[.str (Str.ofString "self") 291, .str (Str.ofString "token") 292] }
noncomputable def kOb_83 (P : Params) : Obj := { cls := .type "tuple", data := .seq #[] }
noncomputable def kOb_84 (P : Params) : Obj := { cls := .none, data := .func { name := Str.ofString "push_token", qualname := Str.ofString "_netrclex.push_token", params := paramsOf (meAt 3), body := FuncBody.stmts (bodyOf (meAt 3)), scope := scopeOf (meAt 3), globals := 0, closure := [], defaults := .none, kwdefaults := .none } }
noncomputable def kOb_85 (P : Params) : Obj := { cls := .type "code", data := .fields #[.str (Str.ofString "push_token") 288, .str (Str.ofString "_netrclex.push_token") 289, .str (Str.ofString "/claim/cut.py") 290, .int 116 0, .int 2 0, .int 0 0, .int 0 0, .int 3 0, .ref 80, .bool Bool.true, .int 181 0, .ref 81, .none, .ref 82, .ref 83, .ref 84, .int 293 0, .int 116 0, .str (Str.ofString "/claim/cut.py") 294] }
noncomputable def kOb_86 (P : Params) : Obj := { cls := .type "function", data := .func { name := Str.ofString "push_token", qualname := Str.ofString "_netrclex.push_token", params := paramsOf (meAt 3), body := FuncBody.stmts (bodyOf (meAt 3)), scope := scopeOf (meAt 3), globals := 3, closure := [], defaults := .none, kwdefaults := .none, pyModule := .str (Str.ofString "cpy313.netrc") 248, code := .ref 85 } }
noncomputable def kOb_87 (P : Params) : Obj := { cls := .type "tuple", data := .seq #[.str (Str.ofString "instream") 296, .str (Str.ofString "lineno") 297, .str (Str.ofString "pushback") 298, .str (Str.ofString "whitespace") 299] }
noncomputable def kOb_88 (P : Params) : Obj := { cls := .type "dict", data := .dict #[{ hash := PyData.keyHash P (Str.ofString "__module__"), key := .str (Str.ofString "__module__") 257, val := .str (Str.ofString "cpy313.netrc") 248 }, { hash := PyData.keyHash P (Str.ofString "__firstlineno__"), key := .str (Str.ofString "__firstlineno__") 261, val := .int 75 260 }, { hash := PyData.keyHash P (Str.ofString "__init__"), key := .str (Str.ofString "__init__") 269, val := .ref 65 }, { hash := PyData.keyHash P (Str.ofString "_read_char"), key := .str (Str.ofString "_read_char") 277, val := .ref 72 }, { hash := PyData.keyHash P (Str.ofString "get_token"), key := .str (Str.ofString "get_token") 287, val := .ref 79 }, { hash := PyData.keyHash P (Str.ofString "push_token"), key := .str (Str.ofString "push_token") 295, val := .ref 86 }, { hash := PyData.keyHash P (Str.ofString "__static_attributes__"), key := .str (Str.ofString "__static_attributes__") 300, val := .ref 87 }, { hash := PyData.keyHash P (Str.ofString "__dict__"), key := .str (Str.ofString "__dict__") 302, val := .ref 90 }, { hash := PyData.keyHash P (Str.ofString "__weakref__"), key := .str (Str.ofString "__weakref__") 304, val := .ref 91 }, { hash := PyData.keyHash P (Str.ofString "__doc__"), key := .str (Str.ofString "__doc__") 305, val := .none }] 4 }
noncomputable def kOb_89 (P : Params) : Obj := { cls := .type "type", data := .cls { name := Str.ofString "_netrclex", bases := [.type "object"], mro := [.ref 89, .type "object"], ns := 88, qualname := Str.ofString "_netrclex" }, slots := #[none, none, some (.str (Str.ofString "_netrclex") 250), some (.str (Str.ofString "_netrclex") 258), some (.builtin "object.__new__"), some (.bool Bool.true)] }
noncomputable def kOb_90 (P : Params) : Obj := { cls := .type "getset_descriptor", data := .fields #[.str (Str.ofString "__dict__") 301, .ref 89, .builtin "function.__dict__", .builtin "function.__dict__#set"] }
noncomputable def kOb_91 (P : Params) : Obj := { cls := .type "getset_descriptor", data := .fields #[.str (Str.ofString "__weakref__") 303, .ref 89, .builtin "ExceptionGroup.__weakref__", .none] }
noncomputable def kOb_92 (P : Params) : Obj := { cls := .type "super", data := .fields #[.ref 89, .ref 89, .ref 89] }
noncomputable def kOb_93 (P : Params) : Obj := { cls := .type "builtin_function_or_method", data := .fields #[.builtin "object.__init_subclass__", .ref 89] }
noncomputable def kOb_94 (P : Params) : Obj := { cls := .type "tuple", data := .seq #[] }
noncomputable def kOb_95 (P : Params) : Obj := { cls := .none, data := .fields #[] }
noncomputable def kOb_96 (P : Params) : Obj := { cls := .none, data := .func { name := Str.ofString "_law_drawn", qualname := Str.ofString "_law_drawn", params := paramsOf (stAt 11), body := FuncBody.stmts (bodyOf (stAt 11)), scope := scopeOf (stAt 11), globals := 0, closure := [], defaults := .none, kwdefaults := .none } }
noncomputable def kOb_97 (P : Params) : Obj := { cls := .type "code", data := .fields #[.str (Str.ofString "_law_drawn") 310, .str (Str.ofString "_law_drawn") 311, .str (Str.ofString "/claim/cut.py") 312, .int 119 0, .int 1 0, .int 0 0, .int 0 0, .int 3 0, .ref 94, .bool Bool.true, .int 181 0, .ref 95, .none, .none, .none, .ref 96, .int 313 0, .int 119 0, .str (Str.ofString "/claim/cut.py") 314] }
noncomputable def kOb_98 (P : Params) : Obj := { cls := .type "function", data := .func { name := Str.ofString "_law_drawn", qualname := Str.ofString "_law_drawn", params := paramsOf (stAt 11), body := FuncBody.stmts (bodyOf (stAt 11)), scope := scopeOf (stAt 11), globals := 3, closure := [], defaults := .none, kwdefaults := .none, pyModule := .str (Str.ofString "law_us0005_01") 308, code := .ref 97 } }
noncomputable def kOb_99 (P : Params) : Obj := { cls := .type "tuple", data := .seq #[] }
noncomputable def kOb_100 (P : Params) : Obj := { cls := .none, data := .fields #[] }
noncomputable def kOb_101 (P : Params) : Obj := { cls := .type "tuple", data := .seq #[.str (Str.ofString "drawn") 319, .str (Str.ofString "deeds") 320, .str (Str.ofString "x") 321, .str (Str.ofString "came") 322] }
noncomputable def kOb_102 (P : Params) : Obj := { cls := .type "tuple", data := .seq #[] }
noncomputable def kOb_103 (P : Params) : Obj := { cls := .none, data := .func { name := Str.ofString "_law_deeds", qualname := Str.ofString "_law_deeds", params := paramsOf (stAt 12), body := FuncBody.stmts (bodyOf (stAt 12)), scope := scopeOf (stAt 12), globals := 0, closure := [], defaults := .none, kwdefaults := .none } }
noncomputable def kOb_104 (P : Params) : Obj := { cls := .type "code", data := .fields #[.str (Str.ofString "_law_deeds") 316, .str (Str.ofString "_law_deeds") 317, .str (Str.ofString "/claim/cut.py") 318, .int 123 0, .int 1 0, .int 0 0, .int 0 0, .int 3 0, .ref 99, .bool Bool.true, .int 181 0, .ref 100, .none, .ref 101, .ref 102, .ref 103, .int 323 0, .int 123 0, .str (Str.ofString "/claim/cut.py") 324] }
noncomputable def kOb_105 (P : Params) : Obj := { cls := .type "function", data := .func { name := Str.ofString "_law_deeds", qualname := Str.ofString "_law_deeds", params := paramsOf (stAt 12), body := FuncBody.stmts (bodyOf (stAt 12)), scope := scopeOf (stAt 12), globals := 3, closure := [], defaults := .none, kwdefaults := .none, pyModule := .str (Str.ofString "law_us0005_01") 308, code := .ref 104 } }
noncomputable def kOb_106 (P : Params) : Obj := { cls := .type "tuple", data := .seq #[] }
noncomputable def kOb_107 (P : Params) : Obj := { cls := .none, data := .fields #[] }
noncomputable def kOb_108 (P : Params) : Obj := { cls := .none, data := .func { name := Str.ofString "_law_text", qualname := Str.ofString "_law_text", params := paramsOf (stAt 13), body := FuncBody.stmts (bodyOf (stAt 13)), scope := scopeOf (stAt 13), globals := 0, closure := [], defaults := .none, kwdefaults := .none } }
noncomputable def kOb_109 (P : Params) : Obj := { cls := .type "code", data := .fields #[.str (Str.ofString "_law_text") 326, .str (Str.ofString "_law_text") 327, .str (Str.ofString "/claim/cut.py") 328, .int 132 0, .int 2 0, .int 0 0, .int 0 0, .int 3 0, .ref 106, .bool Bool.true, .int 181 0, .ref 107, .none, .none, .none, .ref 108, .int 329 0, .int 132 0, .str (Str.ofString "/claim/cut.py") 330] }
noncomputable def kOb_110 (P : Params) : Obj := { cls := .type "function", data := .func { name := Str.ofString "_law_text", qualname := Str.ofString "_law_text", params := paramsOf (stAt 13), body := FuncBody.stmts (bodyOf (stAt 13)), scope := scopeOf (stAt 13), globals := 3, closure := [], defaults := .none, kwdefaults := .none, pyModule := .str (Str.ofString "law_us0005_01") 308, code := .ref 109 } }
noncomputable def kOb_111 (P : Params) : Obj := { cls := .type "tuple", data := .seq #[] }
noncomputable def kOb_112 (P : Params) : Obj := { cls := .none, data := .fields #[] }
noncomputable def kOb_113 (P : Params) : Obj := { cls := .type "tuple", data := .seq #[.str (Str.ofString "text") 335, .str (Str.ofString "stand") 336] }
noncomputable def kOb_114 (P : Params) : Obj := { cls := .type "tuple", data := .seq #[.str (Str.ofString "signs") 337] }
noncomputable def kOb_115 (P : Params) : Obj := { cls := .none, data := .func { name := Str.ofString "_law_lexer", qualname := Str.ofString "_law_lexer", params := paramsOf (stAt 14), body := FuncBody.stmts (bodyOf (stAt 14)), scope := scopeOf (stAt 14), globals := 0, closure := [], defaults := .none, kwdefaults := .none } }
noncomputable def kOb_116 (P : Params) : Obj := { cls := .type "code", data := .fields #[.str (Str.ofString "_law_lexer") 332, .str (Str.ofString "_law_lexer") 333, .str (Str.ofString "/claim/cut.py") 334, .int 143 0, .int 1 0, .int 0 0, .int 0 0, .int 3 0, .ref 111, .bool Bool.true, .int 181 0, .ref 112, .none, .ref 113, .ref 114, .ref 115, .int 338 0, .int 143 0, .str (Str.ofString "/claim/cut.py") 339] }
noncomputable def kOb_117 (P : Params) : Obj := { cls := .type "function", data := .func { name := Str.ofString "_law_lexer", qualname := Str.ofString "_law_lexer", params := paramsOf (stAt 14), body := FuncBody.stmts (bodyOf (stAt 14)), scope := scopeOf (stAt 14), globals := 3, closure := [], defaults := .none, kwdefaults := .none, pyModule := .str (Str.ofString "law_us0005_01") 308, code := .ref 116 } }
noncomputable def kOb_118 (P : Params) : Obj := { cls := .type "tuple", data := .seq #[] }
noncomputable def kOb_119 (P : Params) : Obj := { cls := .none, data := .fields #[] }
noncomputable def kOb_120 (P : Params) : Obj := { cls := .type "tuple", data := .seq #[.str (Str.ofString "deeds") 344, .str (Str.ofString "reader") 345, .str (Str.ofString "line") 346, .str (Str.ofString "row") 347, .str (Str.ofString "word") 348, .str (Str.ofString "ahead") 349, .str (Str.ofString "deed") 350] }
noncomputable def kOb_121 (P : Params) : Obj := { cls := .type "tuple", data := .seq #[] }
noncomputable def kOb_122 (P : Params) : Obj := { cls := .none, data := .func { name := Str.ofString "_law_let_out", qualname := Str.ofString "_law_let_out", params := paramsOf (stAt 15), body := FuncBody.stmts (bodyOf (stAt 15)), scope := scopeOf (stAt 15), globals := 0, closure := [], defaults := .none, kwdefaults := .none } }
noncomputable def kOb_123 (P : Params) : Obj := { cls := .type "code", data := .fields #[.str (Str.ofString "_law_let_out") 341, .str (Str.ofString "_law_let_out") 342, .str (Str.ofString "/claim/cut.py") 343, .int 148 0, .int 3 0, .int 0 0, .int 0 0, .int 3 0, .ref 118, .bool Bool.true, .int 181 0, .ref 119, .none, .ref 120, .ref 121, .ref 122, .int 351 0, .int 148 0, .str (Str.ofString "/claim/cut.py") 352] }
noncomputable def kOb_124 (P : Params) : Obj := { cls := .type "function", data := .func { name := Str.ofString "_law_let_out", qualname := Str.ofString "_law_let_out", params := paramsOf (stAt 15), body := FuncBody.stmts (bodyOf (stAt 15)), scope := scopeOf (stAt 15), globals := 3, closure := [], defaults := .none, kwdefaults := .none, pyModule := .str (Str.ofString "law_us0005_01") 308, code := .ref 123 } }
noncomputable def kOb_125 (P : Params) : Obj := { cls := .type "tuple", data := .seq #[] }
noncomputable def kOb_126 (P : Params) : Obj := { cls := .none, data := .fields #[] }
noncomputable def kOb_127 (P : Params) : Obj := { cls := .none, data := .func { name := Str.ofString "_law_due", qualname := Str.ofString "_law_due", params := paramsOf (stAt 16), body := FuncBody.stmts (bodyOf (stAt 16)), scope := scopeOf (stAt 16), globals := 0, closure := [], defaults := .none, kwdefaults := .none } }
noncomputable def kOb_128 (P : Params) : Obj := { cls := .type "code", data := .fields #[.str (Str.ofString "_law_due") 354, .str (Str.ofString "_law_due") 355, .str (Str.ofString "/claim/cut.py") 356, .int 163 0, .int 1 0, .int 0 0, .int 0 0, .int 3 0, .ref 125, .bool Bool.true, .int 181 0, .ref 126, .none, .none, .none, .ref 127, .int 357 0, .int 163 0, .str (Str.ofString "/claim/cut.py") 358] }
noncomputable def kOb_129 (P : Params) : Obj := { cls := .type "function", data := .func { name := Str.ofString "_law_due", qualname := Str.ofString "_law_due", params := paramsOf (stAt 16), body := FuncBody.stmts (bodyOf (stAt 16)), scope := scopeOf (stAt 16), globals := 3, closure := [], defaults := .none, kwdefaults := .none, pyModule := .str (Str.ofString "law_us0005_01") 308, code := .ref 128 } }
noncomputable def kOb_130 (P : Params) : Obj := { cls := .type "tuple", data := .seq #[] }
noncomputable def kOb_131 (P : Params) : Obj := { cls := .none, data := .fields #[] }
noncomputable def kOb_132 (P : Params) : Obj := { cls := .type "tuple", data := .seq #[.str (Str.ofString "row") 363, .str (Str.ofString "upper") 364, .str (Str.ofString "lower") 365, .str (Str.ofString "grown") 366, .str (Str.ofString "word") 367, .str (Str.ofString "place") 368] }
noncomputable def kOb_133 (P : Params) : Obj := { cls := .type "tuple", data := .seq #[] }
noncomputable def kOb_134 (P : Params) : Obj := { cls := .none, data := .func { name := Str.ofString "_law_rows", qualname := Str.ofString "_law_rows", params := paramsOf (stAt 17), body := FuncBody.stmts (bodyOf (stAt 17)), scope := scopeOf (stAt 17), globals := 0, closure := [], defaults := .none, kwdefaults := .none } }
noncomputable def kOb_135 (P : Params) : Obj := { cls := .type "code", data := .fields #[.str (Str.ofString "_law_rows") 360, .str (Str.ofString "_law_rows") 361, .str (Str.ofString "/claim/cut.py") 362, .int 170 0, .int 1 0, .int 0 0, .int 0 0, .int 3 0, .ref 130, .bool Bool.true, .int 181 0, .ref 131, .none, .ref 132, .ref 133, .ref 134, .int 369 0, .int 170 0, .str (Str.ofString "/claim/cut.py") 370] }
noncomputable def kOb_136 (P : Params) : Obj := { cls := .type "function", data := .func { name := Str.ofString "_law_rows", qualname := Str.ofString "_law_rows", params := paramsOf (stAt 17), body := FuncBody.stmts (bodyOf (stAt 17)), scope := scopeOf (stAt 17), globals := 3, closure := [], defaults := .none, kwdefaults := .none, pyModule := .str (Str.ofString "law_us0005_01") 308, code := .ref 135 } }
noncomputable def kOb_137 (P : Params) : Obj := { cls := .type "tuple", data := .seq #[] }
noncomputable def kOb_138 (P : Params) : Obj := { cls := .none, data := .fields #[] }
noncomputable def kOb_139 (P : Params) : Obj := { cls := .none, data := .func { name := Str.ofString "_law_middles", qualname := Str.ofString "_law_middles", params := paramsOf (stAt 18), body := FuncBody.stmts (bodyOf (stAt 18)), scope := scopeOf (stAt 18), globals := 0, closure := [], defaults := .none, kwdefaults := .none } }
noncomputable def kOb_140 (P : Params) : Obj := { cls := .type "code", data := .fields #[.str (Str.ofString "_law_middles") 372, .str (Str.ofString "_law_middles") 373, .str (Str.ofString "/claim/cut.py") 374, .int 184 0, .int 2 0, .int 0 0, .int 0 0, .int 3 0, .ref 137, .bool Bool.true, .int 181 0, .ref 138, .none, .none, .none, .ref 139, .int 375 0, .int 184 0, .str (Str.ofString "/claim/cut.py") 376] }
noncomputable def kOb_141 (P : Params) : Obj := { cls := .type "function", data := .func { name := Str.ofString "_law_middles", qualname := Str.ofString "_law_middles", params := paramsOf (stAt 18), body := FuncBody.stmts (bodyOf (stAt 18)), scope := scopeOf (stAt 18), globals := 3, closure := [], defaults := .none, kwdefaults := .none, pyModule := .str (Str.ofString "law_us0005_01") 308, code := .ref 140 } }
noncomputable def kOb_142 (P : Params) : Obj := { cls := .type "tuple", data := .seq #[] }
noncomputable def kOb_143 (P : Params) : Obj := { cls := .none, data := .fields #[] }
noncomputable def kOb_144 (P : Params) : Obj := { cls := .none, data := .func { name := Str.ofString "_law_sides", qualname := Str.ofString "_law_sides", params := paramsOf (stAt 19), body := FuncBody.stmts (bodyOf (stAt 19)), scope := scopeOf (stAt 19), globals := 0, closure := [], defaults := .none, kwdefaults := .none } }
noncomputable def kOb_145 (P : Params) : Obj := { cls := .type "code", data := .fields #[.str (Str.ofString "_law_sides") 378, .str (Str.ofString "_law_sides") 379, .str (Str.ofString "/claim/cut.py") 380, .int 197 0, .int 1 0, .int 0 0, .int 0 0, .int 3 0, .ref 142, .bool Bool.true, .int 181 0, .ref 143, .none, .none, .none, .ref 144, .int 381 0, .int 197 0, .str (Str.ofString "/claim/cut.py") 382] }
noncomputable def kOb_146 (P : Params) : Obj := { cls := .type "function", data := .func { name := Str.ofString "_law_sides", qualname := Str.ofString "_law_sides", params := paramsOf (stAt 19), body := FuncBody.stmts (bodyOf (stAt 19)), scope := scopeOf (stAt 19), globals := 3, closure := [], defaults := .none, kwdefaults := .none, pyModule := .str (Str.ofString "law_us0005_01") 308, code := .ref 145 } }
noncomputable def kOb_147 (P : Params) : Obj := { cls := .type "tuple", data := .seq #[] }
noncomputable def kOb_148 (P : Params) : Obj := { cls := .none, data := .fields #[] }
noncomputable def kOb_149 (P : Params) : Obj := { cls := .type "tuple", data := .seq #[.str (Str.ofString "half") 387, .str (Str.ofString "figures") 388, .str (Str.ofString "octets") 389, .str (Str.ofString "k") 390, .str (Str.ofString "last") 391, .str (Str.ofString "tape") 392, .str (Str.ofString "told") 393] }
noncomputable def kOb_150 (P : Params) : Obj := { cls := .type "tuple", data := .seq #[] }
noncomputable def kOb_151 (P : Params) : Obj := { cls := .none, data := .func { name := Str.ofString "_law_read", qualname := Str.ofString "_law_read", params := paramsOf (stAt 20), body := FuncBody.stmts (bodyOf (stAt 20)), scope := scopeOf (stAt 20), globals := 0, closure := [], defaults := .none, kwdefaults := .none } }
noncomputable def kOb_152 (P : Params) : Obj := { cls := .type "code", data := .fields #[.str (Str.ofString "_law_read") 384, .str (Str.ofString "_law_read") 385, .str (Str.ofString "/claim/cut.py") 386, .int 199 0, .int 2 0, .int 0 0, .int 0 0, .int 3 0, .ref 147, .bool Bool.true, .int 181 0, .ref 148, .none, .ref 149, .ref 150, .ref 151, .int 394 0, .int 199 0, .str (Str.ofString "/claim/cut.py") 395] }
noncomputable def kOb_153 (P : Params) : Obj := { cls := .type "function", data := .func { name := Str.ofString "_law_read", qualname := Str.ofString "_law_read", params := paramsOf (stAt 20), body := FuncBody.stmts (bodyOf (stAt 20)), scope := scopeOf (stAt 20), globals := 3, closure := [], defaults := .none, kwdefaults := .none, pyModule := .str (Str.ofString "law_us0005_01") 308, code := .ref 152 } }
noncomputable def kOb_154 (P : Params) : Obj := { cls := .type "tuple", data := .seq #[] }
noncomputable def kOb_155 (P : Params) : Obj := { cls := .none, data := .fields #[] }
noncomputable def kOb_156 (P : Params) : Obj := { cls := .type "tuple", data := .seq #[.str (Str.ofString "figures") 400, .str (Str.ofString "runs") 401, .str (Str.ofString "k") 402] }
noncomputable def kOb_157 (P : Params) : Obj := { cls := .type "tuple", data := .seq #[] }
noncomputable def kOb_158 (P : Params) : Obj := { cls := .none, data := .func { name := Str.ofString "_law_runs", qualname := Str.ofString "_law_runs", params := paramsOf (stAt 21), body := FuncBody.stmts (bodyOf (stAt 21)), scope := scopeOf (stAt 21), globals := 0, closure := [], defaults := .none, kwdefaults := .none } }
noncomputable def kOb_159 (P : Params) : Obj := { cls := .type "code", data := .fields #[.str (Str.ofString "_law_runs") 397, .str (Str.ofString "_law_runs") 398, .str (Str.ofString "/claim/cut.py") 399, .int 211 0, .int 1 0, .int 0 0, .int 0 0, .int 3 0, .ref 154, .bool Bool.true, .int 181 0, .ref 155, .none, .ref 156, .ref 157, .ref 158, .int 403 0, .int 211 0, .str (Str.ofString "/claim/cut.py") 404] }
noncomputable def kOb_160 (P : Params) : Obj := { cls := .type "function", data := .func { name := Str.ofString "_law_runs", qualname := Str.ofString "_law_runs", params := paramsOf (stAt 21), body := FuncBody.stmts (bodyOf (stAt 21)), scope := scopeOf (stAt 21), globals := 3, closure := [], defaults := .none, kwdefaults := .none, pyModule := .str (Str.ofString "law_us0005_01") 308, code := .ref 159 } }
noncomputable def kOb_161 (P : Params) : Obj := { cls := .type "tuple", data := .seq #[] }
noncomputable def kOb_162 (P : Params) : Obj := { cls := .none, data := .fields #[] }
noncomputable def kOb_163 (P : Params) : Obj := { cls := .none, data := .func { name := Str.ofString "law", qualname := Str.ofString "law", params := paramsOf (stAt 22), body := FuncBody.stmts (bodyOf (stAt 22)), scope := scopeOf (stAt 22), globals := 0, closure := [], defaults := .none, kwdefaults := .none } }
noncomputable def kOb_164 (P : Params) : Obj := { cls := .type "code", data := .fields #[.str (Str.ofString "law") 406, .str (Str.ofString "law") 407, .str (Str.ofString "/claim/cut.py") 408, .int 218 0, .int 1 0, .int 0 0, .int 0 0, .int 3 0, .ref 161, .bool Bool.true, .int 181 0, .ref 162, .none, .none, .none, .ref 163, .int 409 0, .int 218 0, .str (Str.ofString "/claim/cut.py") 410] }
noncomputable def kOb_165 (P : Params) : Obj := { cls := .type "function", data := .func { name := Str.ofString "law", qualname := Str.ofString "law", params := paramsOf (stAt 22), body := FuncBody.stmts (bodyOf (stAt 22)), scope := scopeOf (stAt 22), globals := 3, closure := [], defaults := .none, kwdefaults := .none, pyModule := .str (Str.ofString "law_us0005_01") 308, code := .ref 164 } }
noncomputable def kOi_44 (P : Params) : Obj := { cls := .none, data := .fields #[] }
noncomputable def kOi_49 (P : Params) : Obj := { cls := .type "dict", data := .dict #[{ hash := PyData.keyHash P (Str.ofString "__name__"), key := .str (Str.ofString "__name__") 165, val := .str (Str.ofString "cpy313.netrc") 248 }, { hash := PyData.keyHash P (Str.ofString "__doc__"), key := .str (Str.ofString "__doc__") 166, val := .none }, { hash := PyData.keyHash P (Str.ofString "__package__"), key := .str (Str.ofString "__package__") 167, val := .none }, { hash := PyData.keyHash P (Str.ofString "__loader__"), key := .str (Str.ofString "__loader__") 168, val := .builtin "__main__.__loader__#opaque" }, { hash := PyData.keyHash P (Str.ofString "__spec__"), key := .str (Str.ofString "__spec__") 169, val := .none }, { hash := PyData.keyHash P (Str.ofString "__annotations__"), key := .str (Str.ofString "__annotations__") 170, val := .ref 6 }, { hash := PyData.keyHash P (Str.ofString "__builtins__"), key := .str (Str.ofString "__builtins__") 171, val := .ref 4 }, { hash := PyData.keyHash P (Str.ofString "__file__"), key := .str (Str.ofString "__file__") 173, val := .str (Str.ofString "/claim/cut.py") 172 }, { hash := PyData.keyHash P (Str.ofString "__cached__"), key := .str (Str.ofString "__cached__") 174, val := .none }, { hash := PyData.keyHash P (Str.ofString "_iter_escaped_chars"), key := .str (Str.ofString "_iter_escaped_chars") 198, val := .ref 21 }, { hash := PyData.keyHash P (Str.ofString "_strip_quoted_realnames"), key := .str (Str.ofString "_strip_quoted_realnames") 210, val := .ref 28 }, { hash := PyData.keyHash P (Str.ofString "_check_parenthesis"), key := .str (Str.ofString "_check_parenthesis") 220, val := .ref 35 }, { hash := PyData.keyHash P (Str.ofString "bisect_left"), key := .str (Str.ofString "bisect_left") 236, val := .ref 44 }, { hash := PyData.keyHash P (Str.ofString "_parse_varint"), key := .str (Str.ofString "_parse_varint") 247, val := .ref 51 }] 14 }
noncomputable def kOi_50 (P : Params) : Obj := { cls := .none, data := .fields #[.int 2 0, .int 0 0, .ref 20, .int 15 0, .int 0 0, .ref 27, .int 33 0, .int 0 0, .ref 34, .int 45 0, .int 0 0, .ref 43, .int 66 0, .int 0 0, .ref 50] }
noncomputable def kOi_88 (P : Params) : Obj := { cls := .type "dict", data := .dict #[{ hash := PyData.keyHash P (Str.ofString "__name__"), key := .str (Str.ofString "__name__") 165, val := .str (Str.ofString "law_us0005_01") 308 }, { hash := PyData.keyHash P (Str.ofString "__doc__"), key := .str (Str.ofString "__doc__") 166, val := .none }, { hash := PyData.keyHash P (Str.ofString "__package__"), key := .str (Str.ofString "__package__") 167, val := .none }, { hash := PyData.keyHash P (Str.ofString "__loader__"), key := .str (Str.ofString "__loader__") 168, val := .builtin "__main__.__loader__#opaque" }, { hash := PyData.keyHash P (Str.ofString "__spec__"), key := .str (Str.ofString "__spec__") 169, val := .none }, { hash := PyData.keyHash P (Str.ofString "__annotations__"), key := .str (Str.ofString "__annotations__") 170, val := .ref 6 }, { hash := PyData.keyHash P (Str.ofString "__builtins__"), key := .str (Str.ofString "__builtins__") 171, val := .ref 4 }, { hash := PyData.keyHash P (Str.ofString "__file__"), key := .str (Str.ofString "__file__") 173, val := .str (Str.ofString "/claim/cut.py") 172 }, { hash := PyData.keyHash P (Str.ofString "__cached__"), key := .str (Str.ofString "__cached__") 174, val := .none }, { hash := PyData.keyHash P (Str.ofString "_iter_escaped_chars"), key := .str (Str.ofString "_iter_escaped_chars") 198, val := .ref 21 }, { hash := PyData.keyHash P (Str.ofString "_strip_quoted_realnames"), key := .str (Str.ofString "_strip_quoted_realnames") 210, val := .ref 28 }, { hash := PyData.keyHash P (Str.ofString "_check_parenthesis"), key := .str (Str.ofString "_check_parenthesis") 220, val := .ref 35 }, { hash := PyData.keyHash P (Str.ofString "bisect_left"), key := .str (Str.ofString "bisect_left") 236, val := .ref 44 }, { hash := PyData.keyHash P (Str.ofString "_parse_varint"), key := .str (Str.ofString "_parse_varint") 247, val := .ref 51 }, { hash := PyData.keyHash P (Str.ofString "_netrclex"), key := .str (Str.ofString "_netrclex") 307, val := .ref 89 }, { hash := PyData.keyHash P (Str.ofString "_law_drawn"), key := .str (Str.ofString "_law_drawn") 315, val := .ref 98 }, { hash := PyData.keyHash P (Str.ofString "_law_deeds"), key := .str (Str.ofString "_law_deeds") 325, val := .ref 105 }] 17 }
noncomputable def kOi_89 (P : Params) : Obj := { cls := .none, data := .fields #[.int 2 0, .int 0 0, .ref 20, .int 15 0, .int 0 0, .ref 27, .int 33 0, .int 0 0, .ref 34, .int 45 0, .int 0 0, .ref 43, .int 66 0, .int 0 0, .ref 50, .int 75 0, .int 0 0, .ref 57, .int 119 0, .int 0 0, .ref 97, .int 123 0, .int 0 0, .ref 104] }
noncomputable def kFrag (P : Params) : Frag :=
 [(3, kOb_3 P), (20, kOb_20 P), (21, kOb_21 P), (27, kOb_27 P), (28, kOb_28 P), (34, kOb_34 P), (35, kOb_35 P), (36, kOb_36 P), (37, kOb_37 P), (43, kOb_43 P), (44, kOb_44 P), (50, kOb_50 P), (51, kOb_51 P), (64, kOb_64 P), (65, kOb_65 P), (71, kOb_71 P), (72, kOb_72 P), (78, kOb_78 P), (79, kOb_79 P), (85, kOb_85 P), (86, kOb_86 P), (88, kOb_88 P), (89, kOb_89 P), (97, kOb_97 P), (98, kOb_98 P), (104, kOb_104 P), (105, kOb_105 P), (109, kOb_109 P), (110, kOb_110 P), (116, kOb_116 P), (117, kOb_117 P), (123, kOb_123 P), (124, kOb_124 P), (128, kOb_128 P), (129, kOb_129 P), (135, kOb_135 P), (136, kOb_136 P), (140, kOb_140 P), (141, kOb_141 P), (145, kOb_145 P), (146, kOb_146 P), (152, kOb_152 P), (153, kOb_153 P), (159, kOb_159 P), (160, kOb_160 P), (164, kOb_164 P), (165, kOb_165 P)]
noncomputable def kAt : List Addr := [3, 20, 21, 27, 28, 34, 35, 36, 37, 43, 44, 50, 51, 64, 65, 71, 72, 78, 79, 85, 86, 88, 89, 97, 98, 104, 105, 109, 110, 116, 117, 123, 124, 128, 129, 135, 136, 140, 141, 145, 146, 152, 153, 159, 160, 164, 165]
theorem kAt_eq : ∀ P, kAt = (kFrag P).map (·.1) := fun _ => by kernel_rfl
noncomputable def kHk : Hook := kmHook kFrag kAt kAt_eq [112]
noncomputable def kView : Program := PySem.W.view Challenge.rw_us0005_01.row.toRowW.prog [1, 2, 3, 7, 9, 11, 12, 13, 14, 15, 16, 17, 18, 19, 20, 21, 22]
noncomputable def kSeen (s : Shared) : Bool := xlAt kView [] s && recOk (RowW.records Challenge.rw_us0005_01.row.toRowW) s
noncomputable def kT_47 (P : Params) : BT := .node (boot_o_0 P) (.node (boot_o_1 P) (.node (boot_o_3 P) (.node (boot_o_7 P) .nil .nil) (.node (kOb_11 P) .nil .nil)) (.node (boot_o_5 P) (.node (boot_o_9 P) .nil .nil) (.node (kOb_13 P) .nil .nil))) (.node (boot_o_2 P) (.node (boot_o_4 P) (.node (boot_o_8 P) .nil .nil) (.node (kOi_44 P) .nil .nil)) (.node (boot_o_6 P) (.node (boot_o_10 P) .nil .nil) (.node (kOb_14 P) .nil .nil)))
noncomputable def kT_87 (P : Params) : BT := .node (boot_o_0 P) (.node (boot_o_1 P) (.node (kOi_49 P) (.node (boot_o_7 P) (.node (kOb_15 P) (.node (kOb_31 P) .nil .nil) (.node (kOb_47 P) .nil .nil)) (.node (kOb_23 P) (.node (kOb_39 P) .nil .nil) .nil)) (.node (kOb_11 P) (.node (kOb_19 P) (.node (kOb_35 P) .nil .nil) (.node (kOb_51 P) .nil .nil)) (.node (kOb_27 P) (.node (kOb_43 P) .nil .nil) .nil))) (.node (boot_o_5 P) (.node (boot_o_9 P) (.node (kOb_17 P) (.node (kOb_33 P) .nil .nil) (.node (kOb_49 P) .nil .nil)) (.node (kOb_25 P) (.node (kOb_41 P) .nil .nil) .nil)) (.node (kOb_13 P) (.node (kOb_21 P) (.node (kOb_37 P) .nil .nil) .nil) (.node (kOb_29 P) (.node (kOb_45 P) .nil .nil) .nil)))) (.node (boot_o_2 P) (.node (boot_o_4 P) (.node (boot_o_8 P) (.node (kOb_16 P) (.node (kOb_32 P) .nil .nil) (.node (kOb_48 P) .nil .nil)) (.node (kOb_24 P) (.node (kOb_40 P) .nil .nil) .nil)) (.node (kOi_50 P) (.node (kOb_20 P) (.node (kOb_36 P) .nil .nil) .nil) (.node (kOb_28 P) (.node (kOb_44 P) .nil .nil) .nil))) (.node (boot_o_6 P) (.node (boot_o_10 P) (.node (kOb_18 P) (.node (kOb_34 P) .nil .nil) (.node (kOb_50 P) .nil .nil)) (.node (kOb_26 P) (.node (kOb_42 P) .nil .nil) .nil)) (.node (kOb_14 P) (.node (kOb_22 P) (.node (kOb_38 P) .nil .nil) .nil) (.node (kOb_30 P) (.node (kOb_46 P) .nil .nil) .nil))))
noncomputable def kT_143 (P : Params) : BT := .node (boot_o_0 P) (.node (boot_o_1 P) (.node (kOi_88 P) (.node (boot_o_7 P) (.node (kOb_15 P) (.node (kOb_31 P) (.node (kOb_63 P) .nil .nil) (.node (kOb_95 P) .nil .nil)) (.node (kOb_47 P) (.node (kOb_79 P) .nil .nil) .nil)) (.node (kOb_23 P) (.node (kOb_39 P) (.node (kOb_71 P) .nil .nil) (.node (kOb_103 P) .nil .nil)) (.node (kOb_55 P) (.node (kOb_87 P) .nil .nil) .nil))) (.node (kOb_11 P) (.node (kOb_19 P) (.node (kOb_35 P) (.node (kOb_67 P) .nil .nil) (.node (kOb_99 P) .nil .nil)) (.node (kOb_51 P) (.node (kOb_83 P) .nil .nil) .nil)) (.node (kOb_27 P) (.node (kOb_43 P) (.node (kOb_75 P) .nil .nil) .nil) (.node (kOb_59 P) (.node (kOb_91 P) .nil .nil) .nil)))) (.node (boot_o_5 P) (.node (boot_o_9 P) (.node (kOb_17 P) (.node (kOb_33 P) (.node (kOb_65 P) .nil .nil) (.node (kOb_97 P) .nil .nil)) (.node (kOb_49 P) (.node (kOb_81 P) .nil .nil) .nil)) (.node (kOb_25 P) (.node (kOb_41 P) (.node (kOb_73 P) .nil .nil) (.node (kOb_105 P) .nil .nil)) (.node (kOb_57 P) (.node (kOb_89 P) .nil .nil) .nil))) (.node (kOb_13 P) (.node (kOb_21 P) (.node (kOb_37 P) (.node (kOb_69 P) .nil .nil) (.node (kOb_101 P) .nil .nil)) (.node (kOb_53 P) (.node (kOb_85 P) .nil .nil) .nil)) (.node (kOb_29 P) (.node (kOb_45 P) (.node (kOb_77 P) .nil .nil) .nil) (.node (kOb_61 P) (.node (kOb_93 P) .nil .nil) .nil))))) (.node (boot_o_2 P) (.node (boot_o_4 P) (.node (boot_o_8 P) (.node (kOb_16 P) (.node (kOb_32 P) (.node (kOb_64 P) .nil .nil) (.node (kOb_96 P) .nil .nil)) (.node (kOb_48 P) (.node (kOb_80 P) .nil .nil) .nil)) (.node (kOb_24 P) (.node (kOb_40 P) (.node (kOb_72 P) .nil .nil) (.node (kOb_104 P) .nil .nil)) (.node (kOb_56 P) (.node (kOb_88 P) .nil .nil) .nil))) (.node (kOi_89 P) (.node (kOb_20 P) (.node (kOb_36 P) (.node (kOb_68 P) .nil .nil) (.node (kOb_100 P) .nil .nil)) (.node (kOb_52 P) (.node (kOb_84 P) .nil .nil) .nil)) (.node (kOb_28 P) (.node (kOb_44 P) (.node (kOb_76 P) .nil .nil) .nil) (.node (kOb_60 P) (.node (kOb_92 P) .nil .nil) .nil)))) (.node (boot_o_6 P) (.node (boot_o_10 P) (.node (kOb_18 P) (.node (kOb_34 P) (.node (kOb_66 P) .nil .nil) (.node (kOb_98 P) .nil .nil)) (.node (kOb_50 P) (.node (kOb_82 P) .nil .nil) .nil)) (.node (kOb_26 P) (.node (kOb_42 P) (.node (kOb_74 P) .nil .nil) .nil) (.node (kOb_58 P) (.node (kOb_90 P) .nil .nil) .nil))) (.node (kOb_14 P) (.node (kOb_22 P) (.node (kOb_38 P) (.node (kOb_70 P) .nil .nil) (.node (kOb_102 P) .nil .nil)) (.node (kOb_54 P) (.node (kOb_86 P) .nil .nil) .nil)) (.node (kOb_30 P) (.node (kOb_46 P) (.node (kOb_78 P) .nil .nil) .nil) (.node (kOb_62 P) (.node (kOb_94 P) .nil .nil) .nil)))))
noncomputable def kT_205 (P : Params) : BT := .node (boot_o_0 P) (.node (boot_o_1 P) (.node (kOb_3 P) (.node (boot_o_7 P) (.node (kOb_15 P) (.node (kOb_31 P) (.node (kOb_63 P) (.node (kOb_127 P) .nil .nil) .nil) (.node (kOb_95 P) (.node (kOb_159 P) .nil .nil) .nil)) (.node (kOb_47 P) (.node (kOb_79 P) (.node (kOb_143 P) .nil .nil) .nil) (.node (kOb_111 P) .nil .nil))) (.node (kOb_23 P) (.node (kOb_39 P) (.node (kOb_71 P) (.node (kOb_135 P) .nil .nil) .nil) (.node (kOb_103 P) .nil .nil)) (.node (kOb_55 P) (.node (kOb_87 P) (.node (kOb_151 P) .nil .nil) .nil) (.node (kOb_119 P) .nil .nil)))) (.node (kOb_11 P) (.node (kOb_19 P) (.node (kOb_35 P) (.node (kOb_67 P) (.node (kOb_131 P) .nil .nil) .nil) (.node (kOb_99 P) (.node (kOb_163 P) .nil .nil) .nil)) (.node (kOb_51 P) (.node (kOb_83 P) (.node (kOb_147 P) .nil .nil) .nil) (.node (kOb_115 P) .nil .nil))) (.node (kOb_27 P) (.node (kOb_43 P) (.node (kOb_75 P) (.node (kOb_139 P) .nil .nil) .nil) (.node (kOb_107 P) .nil .nil)) (.node (kOb_59 P) (.node (kOb_91 P) (.node (kOb_155 P) .nil .nil) .nil) (.node (kOb_123 P) .nil .nil))))) (.node (boot_o_5 P) (.node (boot_o_9 P) (.node (kOb_17 P) (.node (kOb_33 P) (.node (kOb_65 P) (.node (kOb_129 P) .nil .nil) .nil) (.node (kOb_97 P) (.node (kOb_161 P) .nil .nil) .nil)) (.node (kOb_49 P) (.node (kOb_81 P) (.node (kOb_145 P) .nil .nil) .nil) (.node (kOb_113 P) .nil .nil))) (.node (kOb_25 P) (.node (kOb_41 P) (.node (kOb_73 P) (.node (kOb_137 P) .nil .nil) .nil) (.node (kOb_105 P) .nil .nil)) (.node (kOb_57 P) (.node (kOb_89 P) (.node (kOb_153 P) .nil .nil) .nil) (.node (kOb_121 P) .nil .nil)))) (.node (kOb_13 P) (.node (kOb_21 P) (.node (kOb_37 P) (.node (kOb_69 P) (.node (kOb_133 P) .nil .nil) .nil) (.node (kOb_101 P) (.node (kOb_165 P) .nil .nil) .nil)) (.node (kOb_53 P) (.node (kOb_85 P) (.node (kOb_149 P) .nil .nil) .nil) (.node (kOb_117 P) .nil .nil))) (.node (kOb_29 P) (.node (kOb_45 P) (.node (kOb_77 P) (.node (kOb_141 P) .nil .nil) .nil) (.node (kOb_109 P) .nil .nil)) (.node (kOb_61 P) (.node (kOb_93 P) (.node (kOb_157 P) .nil .nil) .nil) (.node (kOb_125 P) .nil .nil)))))) (.node (boot_o_2 P) (.node (boot_o_4 P) (.node (boot_o_8 P) (.node (kOb_16 P) (.node (kOb_32 P) (.node (kOb_64 P) (.node (kOb_128 P) .nil .nil) .nil) (.node (kOb_96 P) (.node (kOb_160 P) .nil .nil) .nil)) (.node (kOb_48 P) (.node (kOb_80 P) (.node (kOb_144 P) .nil .nil) .nil) (.node (kOb_112 P) .nil .nil))) (.node (kOb_24 P) (.node (kOb_40 P) (.node (kOb_72 P) (.node (kOb_136 P) .nil .nil) .nil) (.node (kOb_104 P) .nil .nil)) (.node (kOb_56 P) (.node (kOb_88 P) (.node (kOb_152 P) .nil .nil) .nil) (.node (kOb_120 P) .nil .nil)))) (.node (kOb_12 P) (.node (kOb_20 P) (.node (kOb_36 P) (.node (kOb_68 P) (.node (kOb_132 P) .nil .nil) .nil) (.node (kOb_100 P) (.node (kOb_164 P) .nil .nil) .nil)) (.node (kOb_52 P) (.node (kOb_84 P) (.node (kOb_148 P) .nil .nil) .nil) (.node (kOb_116 P) .nil .nil))) (.node (kOb_28 P) (.node (kOb_44 P) (.node (kOb_76 P) (.node (kOb_140 P) .nil .nil) .nil) (.node (kOb_108 P) .nil .nil)) (.node (kOb_60 P) (.node (kOb_92 P) (.node (kOb_156 P) .nil .nil) .nil) (.node (kOb_124 P) .nil .nil))))) (.node (boot_o_6 P) (.node (boot_o_10 P) (.node (kOb_18 P) (.node (kOb_34 P) (.node (kOb_66 P) (.node (kOb_130 P) .nil .nil) .nil) (.node (kOb_98 P) (.node (kOb_162 P) .nil .nil) .nil)) (.node (kOb_50 P) (.node (kOb_82 P) (.node (kOb_146 P) .nil .nil) .nil) (.node (kOb_114 P) .nil .nil))) (.node (kOb_26 P) (.node (kOb_42 P) (.node (kOb_74 P) (.node (kOb_138 P) .nil .nil) .nil) (.node (kOb_106 P) .nil .nil)) (.node (kOb_58 P) (.node (kOb_90 P) (.node (kOb_154 P) .nil .nil) .nil) (.node (kOb_122 P) .nil .nil)))) (.node (kOb_14 P) (.node (kOb_22 P) (.node (kOb_38 P) (.node (kOb_70 P) (.node (kOb_134 P) .nil .nil) .nil) (.node (kOb_102 P) .nil .nil)) (.node (kOb_54 P) (.node (kOb_86 P) (.node (kOb_150 P) .nil .nil) .nil) (.node (kOb_118 P) .nil .nil))) (.node (kOb_30 P) (.node (kOb_46 P) (.node (kOb_78 P) (.node (kOb_142 P) .nil .nil) .nil) (.node (kOb_110 P) .nil .nil)) (.node (kOb_62 P) (.node (kOb_94 P) (.node (kOb_158 P) .nil .nil) .nil) (.node (kOb_126 P) .nil .nil))))))
noncomputable def kH_46 (P : Params) : Heap := { objs := { toList := [boot_o_0 P, boot_o_1 P, boot_o_2 P, boot_o_3 P, boot_o_4 P, boot_o_5 P, boot_o_6 P, boot_o_7 P, boot_o_8 P, boot_o_9 P, boot_o_10 P, kOb_11 P, kOi_44 P, kOb_13 P, kOb_14 P] } }
noncomputable def kH_206 (P : Params) : Heap := { objs := { toList := [boot_o_0 P, boot_o_1 P, boot_o_2 P, kOb_3 P, boot_o_4 P, boot_o_5 P, boot_o_6 P, boot_o_7 P, boot_o_8 P, boot_o_9 P, boot_o_10 P, kOb_11 P, kOb_12 P, kOb_13 P, kOb_14 P, kOb_15 P, kOb_16 P, kOb_17 P, kOb_18 P, kOb_19 P, kOb_20 P, kOb_21 P, kOb_22 P, kOb_23 P, kOb_24 P, kOb_25 P, kOb_26 P, kOb_27 P, kOb_28 P, kOb_29 P, kOb_30 P, kOb_31 P, kOb_32 P, kOb_33 P, kOb_34 P, kOb_35 P, kOb_36 P, kOb_37 P, kOb_38 P, kOb_39 P, kOb_40 P, kOb_41 P, kOb_42 P, kOb_43 P, kOb_44 P, kOb_45 P, kOb_46 P, kOb_47 P, kOb_48 P, kOb_49 P, kOb_50 P, kOb_51 P, kOb_52 P, kOb_53 P, kOb_54 P, kOb_55 P, kOb_56 P, kOb_57 P, kOb_58 P, kOb_59 P, kOb_60 P, kOb_61 P, kOb_62 P, kOb_63 P, kOb_64 P, kOb_65 P, kOb_66 P, kOb_67 P, kOb_68 P, kOb_69 P, kOb_70 P, kOb_71 P, kOb_72 P, kOb_73 P, kOb_74 P, kOb_75 P, kOb_76 P, kOb_77 P, kOb_78 P, kOb_79 P, kOb_80 P, kOb_81 P, kOb_82 P, kOb_83 P, kOb_84 P, kOb_85 P, kOb_86 P, kOb_87 P, kOb_88 P, kOb_89 P, kOb_90 P, kOb_91 P, kOb_92 P, kOb_93 P, kOb_94 P, kOb_95 P, kOb_96 P, kOb_97 P, kOb_98 P, kOb_99 P, kOb_100 P, kOb_101 P, kOb_102 P, kOb_103 P, kOb_104 P, kOb_105 P, kOb_106 P, kOb_107 P, kOb_108 P, kOb_109 P, kOb_110 P, kOb_111 P, kOb_112 P, kOb_113 P, kOb_114 P, kOb_115 P, kOb_116 P, kOb_117 P, kOb_118 P, kOb_119 P, kOb_120 P, kOb_121 P, kOb_122 P, kOb_123 P, kOb_124 P, kOb_125 P, kOb_126 P, kOb_127 P, kOb_128 P, kOb_129 P, kOb_130 P, kOb_131 P, kOb_132 P, kOb_133 P, kOb_134 P, kOb_135 P, kOb_136 P, kOb_137 P, kOb_138 P, kOb_139 P, kOb_140 P, kOb_141 P, kOb_142 P, kOb_143 P, kOb_144 P, kOb_145 P, kOb_146 P, kOb_147 P, kOb_148 P, kOb_149 P, kOb_150 P, kOb_151 P, kOb_152 P, kOb_153 P, kOb_154 P, kOb_155 P, kOb_156 P, kOb_157 P, kOb_158 P, kOb_159 P, kOb_160 P, kOb_161 P, kOb_162 P, kOb_163 P, kOb_164 P, kOb_165 P] } }
noncomputable abbrev kPr : Program := Challenge.rw_us0005_01.row.toRowW.prog
noncomputable def kEnv : Env := { scope := kPr.main.scope, locals := mainNs, globals := mainNs, cells := [], code := Value.ref 13, frame := some 14 }
noncomputable def kB : List Stmt := behindTheImports kPr
noncomputable def kS1 : List Stmt := kB.take 9
noncomputable def kS2 : List Stmt := (kB.drop 9).take 4
noncomputable def kS3 : List Stmt := kB.drop 13
theorem kS_eq : behindTheImports kPr = kS1 ++ (kS2 ++ (kS3 ++ [])) := by kernel_rfl
noncomputable abbrev kCo : Code := .body (behindTheImports kPr) kEnv
noncomputable abbrev kP0 : Pos := ⟨0, 0, 0, 0⟩
theorem k_pre (w : World) (os : OsState) : topGo treeTable kPr w 11 (some (.ref 6)) 12 ⟨boot_heap w.params, Array.mk [], boot_drawn, boot_toks, os⟩ (topStub kPr) = some (⟨kH_46 w.params, Array.mk [], {}, 187, os⟩, ⟨denote treeTable kCo, kCo, kP0, [topFrame kP0]⟩) := by kernel_rfl
theorem k_block (w : World) (os : OsState) : segRun treeTable kPr w 11 (some (.ref 6)) 1 1 ⟨kH_46 w.params, Array.mk [], {}, 187, os⟩ (blockOf (behindTheImports kPr) kEnv kCo kP0 [topFrame kP0]) = some (.next, SharedT.abs ⟨kT_47 w.params, 15, {}, Array.mk [], {}, 187, os⟩, kCo, kP0) := by kernel_rfl
theorem k_run1 (w : World) (os : OsState) : segRunT treeTable kPr w 11 (some (.ref 6)) 1 207 ⟨kT_47 w.params, 15, {}, Array.mk [], {}, 187, os⟩ (piecesOf kS1 kEnv kCo kP0 [topFrame kP0]) = some (.next, ⟨kT_87 w.params, 52, {}, Array.mk [], {}, 250, os⟩, kCo, ⟨74, 0, 74, 8⟩) := by kernel_rfl
theorem k_run2 (w : World) (os : OsState) : segRunT treeTable kPr w 11 (some (.ref 6)) 1 391 ⟨kT_87 w.params, 52, {}, Array.mk [], {}, 250, os⟩ (piecesOf kS2 kEnv kCo ⟨74, 0, 74, 8⟩ [topFrame kP0]) = some (.next, ⟨kT_143 w.params, 106, {}, Array.mk [], {}, 326, os⟩, kCo, ⟨123, 0, 131, 16⟩) := by kernel_rfl
theorem k_run3 (w : World) (os : OsState) : segRunT treeTable kPr w 11 (some (.ref 6)) 1 297 ⟨kT_143 w.params, 106, {}, Array.mk [], {}, 326, os⟩ (piecesOf kS3 kEnv kCo ⟨123, 0, 131, 16⟩ [topFrame kP0]) = some (.next, ⟨kT_205 w.params, 166, {}, Array.mk [], {}, 412, os⟩, kCo, ⟨218, 0, 244, 55⟩) := by kernel_rfl
theorem k_end (w : World) (os : OsState) : topRun treeTable kPr w 11 (some (.ref 6)) 2 (SharedT.abs ⟨kT_205 w.params, 166, {}, Array.mk [], {}, 412, os⟩) ⟨doneF .next, kCo, ⟨218, 0, 244, 55⟩, [topFrame kP0]⟩ = some ⟨kH_206 w.params, Array.mk [], {}, 412, os⟩ := by kernel_rfl
theorem k_run (w : World) (os : OsState) : topRun treeTable kPr w 11 (some (.ref 6)) (12 + (1 + (207 + (391 + (297 + 2))))) ⟨boot_heap w.params, Array.mk [], boot_drawn, boot_toks, os⟩ (topStub kPr) = some ⟨kH_206 w.params, Array.mk [], {}, 412, os⟩ := by
  refine go_top (k_pre w os) ?_
  refine piece_block (k_block w os) ?_
  rw [kS_eq]
  refine piece_app (segRun_of (k_run1 w os)) ?_
  refine piece_app (segRun_of (k_run2 w os)) ?_
  refine piece_app (segRun_of (k_run3 w os)) ?_
  exact piece_nil (k_end w os)
theorem k_size (w : World) : ((boot_heap w.params).isNs mainGlobals && (Array.mk ([] : List GenState)).size == 0, (boot_heap w.params).objs.size, (boot_heap w.params).nsMap mainGlobals "__annotations__") = (true, 11, some (.ref 6)) := by kernel_rfl
theorem k_left : LeftO Challenge.rw_us0005_01.row.toRowW.prog kView [Str.ofString "bisect_left"] kSeen kHk.obs kHk.val 1910 :=
  LeftO.of_pieces (H₀ := boot_heap) (H₁ := kH_206) (gs₀ := Array.mk []) (gs₁ := Array.mk []) (d₀ := boot_drawn) (d₁ := {}) (k₀ := boot_toks) (k₁ := 412) (m₀ := 11) (ann := some (.ref 6)) (M := 12 + (1 + (207 + (391 + (297 + 2)))))
    (boot_open (by kernel_rfl) (by rfl) fun s => by kernel_rfl) k_size k_run (by rfl) fun w => by kernel_rfl

set_option maxHeartbeats 4000000 in
theorem k_said : Challenge.rw_us0005_01.wellSaid = true := by
  unfold OpenLaw.wellSaid
  repeat' with_reducible refine look_both ?_ ?_
  all_goals (first
    | (with_reducible show OpenRow.wellSaid _ = true
       unfold OpenRow.wellSaid
       repeat' with_reducible refine look_both ?_ ?_)
    | skip)
  all_goals (first
    | (with_reducible show OpenRow.partSaid _ = true
       unfold OpenRow.partSaid
       repeat' with_reducible refine look_both ?_ ?_)
    | skip)
  all_goals (first
    | (with_reducible show looksOpen _ = true
       unfold looksOpen
       repeat' with_reducible refine look_both ?_ ?_)
    | skip)
  all_goals decide +kernel
theorem k_head (hc : WalkO kView [Str.ofString "bisect_left"] (XL kView []) kHk.says Challenge.rw_us0005_01.row.toRowW ⟨"law", paramsOf (stAt 22), bodyOf (stAt 22), scopeOf (stAt 22), ⟨218, 0, 244, 55⟩⟩ [] fun f vs => PySem.call f vs) : Challenge.rw_us0005_01.Holds := by
  w_on
  refine holds_law (l := Challenge.rw_us0005_01) k_said fun said => ?_
  refine holds_open (q := kView) (loose := [Str.ofString "bisect_left"]) (Xt := kSeen) (XP := XL kView []) (Yf := kHk.obs) (Ya := kHk.val) (YP := kHk.says) (N := 1910) k_left (Hook.of kHk) (Hook.keeps kHk) (fun s e => xl_of s (Bool.and_eq_true_iff.mp e).1) XL.keeps (by kernel_rfl) (by kernel_rfl) (by kernel_rfl) (fun s e => recFacts_of (Bool.and_eq_true_iff.mp e).2) (by rfl) said (by decide +kernel) ⟨rfl, rfl, rfl, rfl, rfl, by decide +kernel⟩ ?hw hc
  case hw => w_witness2

/-! what the head's written part says of the text's functions -/
noncomputable def fdIn (K : Frag) (a : Addr) : FuncData := match K.lookup a with
  | some ⟨_, _, .func fd, _⟩ => fd
  | _ => { name := "", qualname := "", params := paramsOf none, body := .stmts [], scope := default, globals := 0, closure := [], defaults := .none, kwdefaults := .none, doc := .none, pyModule := .none, annotations := none, code := .none, closureTuple := .none, builtins := 0 }
theorem fn_look {K : Frag} {h : Heap} (X : K.In h) {a : Addr} (h1 : fnIn K a = true) : ∃ o, h.get? a = some o ∧ o.data = .func (fdIn K a) := by
  unfold fnIn at h1
  unfold fdIn
  split at h1
  · rename_i e
    rw [e]
    exact ⟨_, X _ _ e, rfl⟩
  · cases h1
theorem fnAt_of {b : Bs} {K : Frag} (X : K.In b.h₀) {a : Addr} {body : List Stmt} (h1 : fnIn K a = true) (h2 : codeIn K (fdIn K a).code (fdIn K a).qualname = true) (h3 : (fdIn K a).body = .stmts body) (h4 : (fdIn K a).closure = []) (h5 : (fdIn K a).globals = mainGlobals) (h6 : (fdIn K a).builtins = builtinsNs) :
    FnAt b a (fdIn K a) body := ⟨fn_look X h1, codeRec_of X h2, h3, h4, h5, h6⟩
theorem fnIs_of {b : Bs} {K : Frag} (X : K.In b.h₀) {a : Addr} {st : Option Stmt} (h1 : fnIn K a = true) (h2 : codeIn K (fdIn K a).code (fdIn K a).qualname = true) (h3 : (fdIn K a).body = .stmts (bodyOf st)) (h4 : (fdIn K a).closure = []) (h5 : (fdIn K a).globals = mainGlobals) (h6 : (fdIn K a).builtins = builtinsNs)
    (h7 : (fdIn K a).scope = scopeOf st) (h8 : (fdIn K a).params = paramsOf st) (h9 : (fdIn K a).defaults = .none) : FnIs b a st := ⟨_, fnAt_of X h1 h2 h3 h4 h5 h6, h7, h8, h9⟩
section
variable {b : Bs} {p : Params}
theorem k_isDrawn (X : (kFrag p).In b.h₀) : FnIs b 98 (stAt 11) := fnIs_of X (by kernel_rfl) (by kernel_rfl) (by kernel_rfl) (by kernel_rfl) (by kernel_rfl) (by kernel_rfl) (by kernel_rfl) (by kernel_rfl) (by kernel_rfl)
theorem k_isDeeds (X : (kFrag p).In b.h₀) : FnIs b 105 (stAt 12) := fnIs_of X (by kernel_rfl) (by kernel_rfl) (by kernel_rfl) (by kernel_rfl) (by kernel_rfl) (by kernel_rfl) (by kernel_rfl) (by kernel_rfl) (by kernel_rfl)
theorem k_isText (X : (kFrag p).In b.h₀) : FnIs b 110 (stAt 13) := fnIs_of X (by kernel_rfl) (by kernel_rfl) (by kernel_rfl) (by kernel_rfl) (by kernel_rfl) (by kernel_rfl) (by kernel_rfl) (by kernel_rfl) (by kernel_rfl)
theorem k_isOut (X : (kFrag p).In b.h₀) : FnIs b 124 (stAt 15) := fnIs_of X (by kernel_rfl) (by kernel_rfl) (by kernel_rfl) (by kernel_rfl) (by kernel_rfl) (by kernel_rfl) (by kernel_rfl) (by kernel_rfl) (by kernel_rfl)
theorem k_isDue (X : (kFrag p).In b.h₀) : FnIs b 129 (stAt 16) := fnIs_of X (by kernel_rfl) (by kernel_rfl) (by kernel_rfl) (by kernel_rfl) (by kernel_rfl) (by kernel_rfl) (by kernel_rfl) (by kernel_rfl) (by kernel_rfl)
theorem k_isRows (X : (kFrag p).In b.h₀) : FnIs b 136 (stAt 17) := fnIs_of X (by kernel_rfl) (by kernel_rfl) (by kernel_rfl) (by kernel_rfl) (by kernel_rfl) (by kernel_rfl) (by kernel_rfl) (by kernel_rfl) (by kernel_rfl)
theorem k_isMid (X : (kFrag p).In b.h₀) : FnIs b 141 (stAt 18) := fnIs_of X (by kernel_rfl) (by kernel_rfl) (by kernel_rfl) (by kernel_rfl) (by kernel_rfl) (by kernel_rfl) (by kernel_rfl) (by kernel_rfl) (by kernel_rfl)
theorem k_isSides (X : (kFrag p).In b.h₀) : FnIs b 146 (stAt 19) := fnIs_of X (by kernel_rfl) (by kernel_rfl) (by kernel_rfl) (by kernel_rfl) (by kernel_rfl) (by kernel_rfl) (by kernel_rfl) (by kernel_rfl) (by kernel_rfl)
theorem k_isRead (X : (kFrag p).In b.h₀) : FnIs b 153 (stAt 20) := fnIs_of X (by kernel_rfl) (by kernel_rfl) (by kernel_rfl) (by kernel_rfl) (by kernel_rfl) (by kernel_rfl) (by kernel_rfl) (by kernel_rfl) (by kernel_rfl)
theorem k_isRuns (X : (kFrag p).In b.h₀) : FnIs b 160 (stAt 21) := fnIs_of X (by kernel_rfl) (by kernel_rfl) (by kernel_rfl) (by kernel_rfl) (by kernel_rfl) (by kernel_rfl) (by kernel_rfl) (by kernel_rfl) (by kernel_rfl)
theorem k_isChk (X : (kFrag p).In b.h₀) : FnIs b 35 (stAt 3) := fnIs_of X (by kernel_rfl) (by kernel_rfl) (by kernel_rfl) (by kernel_rfl) (by kernel_rfl) (by kernel_rfl) (by kernel_rfl) (by kernel_rfl) (by kernel_rfl)
theorem k_isStrip (X : (kFrag p).In b.h₀) : FnIs b 28 (stAt 2) := fnIs_of X (by kernel_rfl) (by kernel_rfl) (by kernel_rfl) (by kernel_rfl) (by kernel_rfl) (by kernel_rfl) (by kernel_rfl) (by kernel_rfl) (by kernel_rfl)
theorem k_isIter (X : (kFrag p).In b.h₀) : FnIs b 21 (stAt 1) := fnIs_of X (by kernel_rfl) (by kernel_rfl) (by kernel_rfl) (by kernel_rfl) (by kernel_rfl) (by kernel_rfl) (by kernel_rfl) (by kernel_rfl) (by kernel_rfl)
theorem k_isVar (X : (kFrag p).In b.h₀) : FnIs b 51 (stAt 7) := fnIs_of X (by kernel_rfl) (by kernel_rfl) (by kernel_rfl) (by kernel_rfl) (by kernel_rfl) (by kernel_rfl) (by kernel_rfl) (by kernel_rfl) (by kernel_rfl)
theorem k_isI (X : (kFrag p).In b.h₀) : FnIs b 65 (meAt 0) := fnIs_of X (by kernel_rfl) (by kernel_rfl) (by kernel_rfl) (by kernel_rfl) (by kernel_rfl) (by kernel_rfl) (by kernel_rfl) (by kernel_rfl) (by kernel_rfl)
theorem k_mI : Meth (kFrag p) 89 "__init__" 65 := ⟨by kernel_rfl, by kernel_rfl, by kernel_rfl, by kernel_rfl, by decide⟩
theorem k_isR (X : (kFrag p).In b.h₀) : FnIs b 72 (meAt 1) := fnIs_of X (by kernel_rfl) (by kernel_rfl) (by kernel_rfl) (by kernel_rfl) (by kernel_rfl) (by kernel_rfl) (by kernel_rfl) (by kernel_rfl) (by kernel_rfl)
theorem k_mR : Meth (kFrag p) 89 "_read_char" 72 := ⟨by kernel_rfl, by kernel_rfl, by kernel_rfl, by kernel_rfl, by decide⟩
theorem k_isG (X : (kFrag p).In b.h₀) : FnIs b 79 (meAt 2) := fnIs_of X (by kernel_rfl) (by kernel_rfl) (by kernel_rfl) (by kernel_rfl) (by kernel_rfl) (by kernel_rfl) (by kernel_rfl) (by kernel_rfl) (by kernel_rfl)
theorem k_mG : Meth (kFrag p) 89 "get_token" 79 := ⟨by kernel_rfl, by kernel_rfl, by kernel_rfl, by kernel_rfl, by decide⟩
theorem k_isP (X : (kFrag p).In b.h₀) : FnIs b 86 (meAt 3) := fnIs_of X (by kernel_rfl) (by kernel_rfl) (by kernel_rfl) (by kernel_rfl) (by kernel_rfl) (by kernel_rfl) (by kernel_rfl) (by kernel_rfl) (by kernel_rfl)
theorem k_mP : Meth (kFrag p) 89 "push_token" 86 := ⟨by kernel_rfl, by kernel_rfl, by kernel_rfl, by kernel_rfl, by decide⟩
theorem k_cls (X : (kFrag p).In b.h₀) : Cls b (kFrag p) 89 := ⟨X, by kernel_rfl, by kernel_rfl, by kernel_rfl, by kernel_rfl⟩
noncomputable def k_net (X : (kFrag p).In b.h₀) : Net b where
  K := kFrag p
  C := 89
  fI := 65
  fR := 72
  fG := 79
  fP := 86
  X := k_cls X
  makes := by kernel_rfl
  keeps := by kernel_rfl
  mI := k_mI
  mR := k_mR
  mG := k_mG
  mP := k_mP
  nL := by kernel_rfl
  nS := by kernel_rfl
  nW := by kernel_rfl
  nB := by kernel_rfl
  nD := by kernel_rfl
  isI := k_isI X
  isR := k_isR X
  isG := k_isG X
  isP := k_isP X
theorem k_bis (X : (kFrag p).In b.h₀) : BisFn b 44 :=
  ⟨fdIn (kFrag p) 44, 36, 37, { cls := .type "tuple", data := .seq #[.int 0 223, .none] 0 }, 223, 0, PyData.keyHash p "key", 224, 1, fnAt_of X (by kernel_rfl) (by kernel_rfl) (by kernel_rfl) (by kernel_rfl) (by kernel_rfl) (by kernel_rfl), by kernel_rfl, by kernel_rfl, by kernel_rfl,
    X 36 _ (by kernel_rfl), rfl, by kernel_rfl, X 37 _ (by kernel_rfl)⟩
end

section
variable {b : Bs} {p : Params}
theorem k_blt (X : (kFrag p).In b.h₀) (Tg : b.h₀.Ns mainGlobals b.mg) (Tb : ∀ x : Str, x ≠ "__name__" → b.mb x = bootBuiltins x) : Blt b where
  next := ⟨mg_none_of X Tg (by kernel_rfl), (Tb _ (by decide)).trans (by kernel_rfl)⟩
  iter := ⟨mg_none_of X Tg (by kernel_rfl), (Tb _ (by decide)).trans (by kernel_rfl)⟩
  len := ⟨mg_none_of X Tg (by kernel_rfl), (Tb _ (by decide)).trans (by kernel_rfl)⟩
  range := ⟨mg_none_of X Tg (by kernel_rfl), (Tb _ (by decide)).trans (by kernel_rfl)⟩
  sum := ⟨mg_none_of X Tg (by kernel_rfl), (Tb _ (by decide)).trans (by kernel_rfl)⟩
  sorted := ⟨mg_none_of X Tg (by kernel_rfl), (Tb _ (by decide)).trans (by kernel_rfl)⟩
  enumerate := ⟨mg_none_of X Tg (by kernel_rfl), (Tb _ (by decide)).trans (by kernel_rfl)⟩
  stop := ⟨mg_none_of X Tg (by kernel_rfl), (Tb _ (by decide)).trans (by kernel_rfl)⟩
noncomputable def k_lex (X : (kFrag p).In b.h₀) (L : LamAt b 116 112) : LexFn b where
  a := 117
  fd := fdIn (kFrag p) 117
  c := 116
  P := 112
  F := fnAt_of X (by kernel_rfl) (by kernel_rfl) (by kernel_rfl) (by kernel_rfl) (by kernel_rfl) (by kernel_rfl)
  sc := by kernel_rfl
  params := by kernel_rfl
  dflt := by kernel_rfl
  code := by kernel_rfl
  L := L
noncomputable def k_lnet (X : (kFrag p).In b.h₀) (Tg : b.h₀.Ns mainGlobals b.mg) (Tb : ∀ x : Str, x ≠ "__name__" → b.mb x = bootBuiltins x) (L : LamAt b 116 112) : LNet b where
  N := k_net X
  B := k_blt X Tg Tb
  F := k_lex X L
  aDrawn := 98
  aDeeds := 105
  aText := 110
  aOut := 124
  aDue := 129
  aRows := 136
  aMid := 141
  aSides := 146
  aRead := 153
  aRuns := 160
  aBis := 44
  aChk := 35
  aStrip := 28
  aIter := 21
  aVar := 51
  isDrawn := k_isDrawn X
  isDeeds := k_isDeeds X
  isText := k_isText X
  isOut := k_isOut X
  isDue := k_isDue X
  isRows := k_isRows X
  isMid := k_isMid X
  isSides := k_isSides X
  isRead := k_isRead X
  isRuns := k_isRuns X
  isBis := k_bis X
  isChk := k_isChk X
  isStrip := k_isStrip X
  isIter := k_isIter X
  isVar := k_isVar X
  nDrawn := mg_of X Tg (by kernel_rfl)
  nDeeds := mg_of X Tg (by kernel_rfl)
  nText := mg_of X Tg (by kernel_rfl)
  nLexer := mg_of X Tg (by kernel_rfl)
  nOut := mg_of X Tg (by kernel_rfl)
  nDue := mg_of X Tg (by kernel_rfl)
  nRows := mg_of X Tg (by kernel_rfl)
  nMid := mg_of X Tg (by kernel_rfl)
  nSides := mg_of X Tg (by kernel_rfl)
  nRead := mg_of X Tg (by kernel_rfl)
  nRuns := mg_of X Tg (by kernel_rfl)
  nBis := mg_of X Tg (by kernel_rfl)
  nChk := mg_of X Tg (by kernel_rfl)
  nStrip := mg_of X Tg (by kernel_rfl)
  nIter := mg_of X Tg (by kernel_rfl)
  nVar := mg_of X Tg (by kernel_rfl)
  nCls := mg_of X Tg (by kernel_rfl)
theorem k_law (X : (kFrag p).In b.h₀) : FnIs b 165 (stAt 22) := fnIs_of X (by kernel_rfl) (by kernel_rfl) (by kernel_rfl) (by kernel_rfl) (by kernel_rfl) (by kernel_rfl) (by kernel_rfl) (by kernel_rfl) (by kernel_rfl)
theorem law_call (F : FnIs b 165 (stAt 22)) (W : LNet b) {A : Around} {n : Nat} (R : Room A (n + 7)) (hfr : A.frames = some []) {P : Prot} {G : GProt} {s : Shared} {l : Addr} {script : List Int} (S : SH b P G [(W.F.P, aoTab #[])] s) (hs : ∀ H, Lst b H l (script.map AV.int)) (hz : script.length ≤ 63) :
    codeAny (M b) A (.call (.ref 165) ⟨[.ref l], []⟩) (fun r s' => r = .ok (.ret (.bool true)) ∧ ∃ K cc, SH b P G ((W.F.P, aoTab (tabOf lamPos cc)) :: K) s') s := by
  obtain ⟨fd, F, e1, e2, e3⟩ := F
  refine h_fnRaw (avs := [.ref l]) (avs' := [.ref l]) (ps := ["script"]) F e1 R.limit (by rfl) (by rfl) (by rw [law_names]; decide) (fun P G s ws S hw => ⟨ws, hw, binds_of e2 e3 ?_⟩) S ⟨rfl, trivial⟩ ?_ (by rw [law_names]; decide) (by rfl) (by rfl) (by rfl)
  · obtain ⟨_, rfl, _⟩ := Is2.inv1 hw
    rfl
  · intro f s1 hsc hown hc hcode hframe S1
    have hn : f.env.scope.names = lawNs := by rw [hsc]; exact law_names
    have Xf : LFr f := ⟨hn, hown, by rw [hc, law_names]; rfl⟩
    have R2 : Room (A.deeper f.env) (n + 6) := R.deeper ⟨rfl, rfl, rfl⟩
    have key := law_body W R2 Xf (Around.frames_deeper hfr) hframe S1.fo.kind hs hz
    have S1 : St b P G f [some (.ref l), none, none, none, none, none, none, none, none, none, none, none, none, none, none, none, none, none, none, none, none, none, none, none, none, none, none, none, none] [(W.F.P, aoTab #[])] s1 := S1
    refine aw_use (key P G s1 S1) (fun fl s2 x vs' H' hx S2 hr9 => ?_)
    obtain ⟨e, K, cc, e2⟩ := hr9
    subst e e2
    obtain ⟨w, rfl, hw⟩ := hx
    cases hw
    exact ⟨rfl, K, cc, S2.sh⟩
end

noncomputable def tabs1 : List (Addr × Addr) := [(116, 112)]
theorem old_of {b : Bs} {P : Prot} {G : GProt} {H : Led} {s₁ s' : Shared} {ps : Array Value} (hT : TabsAt tabs1 s₁.heap) (hb : b.h₀ = ghostOf s₁.heap tabs1) (S : SH b P G ((112, aoTab ps) :: H) s') : OldK s₁.heap s'.heap := by
  obtain ⟨oP, hP, rfl⟩ := S.led _ (.head _)
  have hT1 := hT (116, 112) (.head _)
  have keep : ∀ a o, a ≠ 112 → s₁.heap.get? a = some o → s'.heap.get? a = some o := fun a o ha e => S.old (by
    rw [hb]
    refine ghost_ne e fun q => ?_
    have : a ∈ [112] := q
    exact ha (List.mem_singleton.mp this))
  refine ⟨fun a o e => ?_, fun a o e => ?_⟩
  · by_cases ha : a = 112
    · subst ha
      have e2 := hT1.2
      rw [e] at e2
      cases e2
      exact .inr (.inl ⟨(hT1.1.tab hT1.2).isCodeTable, rfl, #[], ps, rfl, by rw [Array.empty_append]; exact hP⟩)
    · exact .inl (keep a o ha e)
  · by_cases ha : a = 112
    · subst ha; exact ⟨_, hP⟩
    · exact ⟨o, keep a o ha e⟩
theorem room_caller : Room callerA 20 := ⟨rfl, by decide, by decide⟩
theorem bAt_of {h₁ : Heap} {p : Program} {loose : List Str} {mean : ExcName → Option Value} {mg mb : Str → Option Value} (T : Top p loose mean mg mb (ghostOf h₁ tabs1)) : (ghostOf h₁ tabs1).BuiltinsAt mg 112 := by
  obtain ⟨bm, ob, h1, h2, h3, h4, h5, h6⟩ := T.bmain
  refine ⟨bm, ob, h1, h2, ?_, ?_, h3, h4, h5, h6⟩
  · rintro rfl
    obtain ⟨o, es, ep, ho, hd, _⟩ := T.g
    rw [h3] at ho
    cases ho
    rw [h6] at hd
    cases hd
  · rintro rfl
    have : (ghostOf h₁ tabs1).get? 112 = none := hideAll_none _ (List.mem_singleton.mpr rfl)
    rw [h3] at this
    cases this
theorem join {w : World} {s₁ : Shared} {fa l : Addr} {mg mb : Str → Option Value} {p : Program} {loose : List Str} {mean : ExcName → Option Value} {vs : List Value} {script : List Int} {R : Result → Shared → Prop}
    (KX : (kFrag w.params).In s₁.heap) (hT : TabsAt tabs1 s₁.heap) (T : Top p loose mean mg mb s₁.heap) (hmg : mg "law" = some (.ref fa)) (hg : s₁.gens = #[]) (hL : s₁.heap.IsList l vs.toArray) (hI : IntsAre vs script) (hz : script.length ≤ 63)
    (hR : ∀ s', OldK s₁.heap s'.heap → s'.os = s₁.os → (∀ x ∈ s'.gens, GenState.bare x = true) → R (.ok (.ret (.bool true))) s') :
    codeAny (model Challenge.rw_us0005_01.row.prog w) callerA (.call (.ref fa) ⟨[.ref l], []⟩) R s₁ := by
  have X : (kFrag w.params).In (ghostOf s₁.heap tabs1) := ghost_K hT KX (by kernel_rfl)
  have T' := ghost_top hT T
  have hfa : fa = 165 := by
    have e : mg "law" = some (.ref 165) := mg_of KX T.g (by kernel_rfl)
    rw [e] at hmg
    cases hmg
    rfl
  subst hfa
  let b : Bs := ⟨Challenge.rw_us0005_01.row.prog, w, ghostOf s₁.heap tabs1, s₁.os, mg, mb⟩
  have L : LamAt b 116 112 := ⟨(ghost_code hT).1, bAt_of T'⟩
  let W : LNet b := k_lnet (b := b) X T'.g T'.builtins L
  have hnone : (ghostOf s₁.heap tabs1).get? 112 = none := hideAll_none _ (List.mem_singleton.mpr rfl)
  have S : SH b (fun a o => b.h₀.get? a = some o) (fun _ _ => False) [(W.F.P, aoTab #[])] s₁ :=
    { ok := ⟨T'.nolimit, T'.g, T'.b⟩
      base := fun _ _ e => e
      keep := fun a o e => of_hideAll _ e
      apart := fun a ha o e => by
        have : a = 112 := List.mem_singleton.mp ha
        subst this
        have e : (ghostOf s₁.heap tabs1).get? 112 = some o := e
        rw [hnone] at e
        cases e
      nodup := List.nodup_cons.mpr ⟨List.not_mem_nil, List.nodup_nil⟩
      led := fun q hq => by
        have : q = (112, aoTab #[]) := List.mem_singleton.mp hq
        subst this
        exact ⟨_, (hT (116, 112) (.head _)).2, rfl⟩
      gk := fun _ _ e => e.elim
      gb := fun x hx => by rw [hg] at hx; simp at hx
      os := rfl }
  refine codeAny_mono (law_call (b := b) (k_law X) W (n := 13) room_caller rfl S (fun H => Lst.old (ghost_list hT hL) (is2_ints hI)) hz) ?_
  rintro r s' ⟨rfl, K, cc, S'⟩
  exact hR s' (old_of hT rfl S') S'.os S'.gb

theorem whole : PySem.Challenge.rw_us0005_01.Holds := k_head (by
  intro w s₀ s₁ mg mb G Y fa o pm cd doc dV kV ho hd hcd hD hmg hg args vals as hpre hlay hrd hwl hlo
  have Y : (kmHook kFrag kAt kAt_eq [112]).says w s₁.heap := Y
  have KX := km_in_of Y
  have hT8 := km_tabs_of Y
  refine Ground.open G ?_
  intro T B D TE TW
  have hT9 : TabsAt tabs1 s₁.heap := fun q hq => by
    have : q = (116, 112) := List.mem_singleton.mp hq
    subst this
    exact ⟨codeHd_of_K (c := 116) (P := 112) KX (by kernel_rfl), hT8 112 (List.mem_singleton.mpr rfl)⟩
  wrow_args hpre hlay hrd hwl hlo
  rename_i script x1 x2 x3 x4 x5 x6 x7 l vs x8 hL x9 x10 x11 hI x12 hc1 hc2
  refine enter_call ?_
  refine join KX hT9 T hmg hg hL hI (by omega) fun s' k1 k2 k3 => ?_
  exact ⟨.inl ⟨.bool true, .bool true, [], rfl, fun _ => rfl, .bool true, by kernel_rfl, fun _ => ⟨.nil, fun _ ha => nomatch ha⟩⟩, k1, k2, k3⟩)

end Mine
theorem PySem.Challenge.cw_us0005_01_holds : PySem.Challenge.rw_us0005_01.Holds := by
  exact Mine.whole
