import PyProof.Rows.All
import Wide.All
import OpenK.AllK
import Wide.FinOn
import KE.KPar
import KE.KFromBytes
import OpenK.KRaise
import OpenK.KOwn
import KE.KxPercentT
import KE.KUnpack
import KE.LcSums
import KE.KEqSeq
import Wide.WTab
import KE.KLcPair
import KE.KAnyBase
import KE.BitLaws
import PySem.Challenge.RW_bm0037_01
set_option Elab.async false
set_option maxRecDepth 100000
set_option maxHeartbeats 0
set_option linter.all false
namespace Mine
section
open PySem PySem.W PyProof.Rows
open_top hd for PySem.Challenge.rw_bm0037_01
end
section
open PySem PySem.W PySem.Calls PyProof.Rows
abbrev Vars := List (Str × Option Value)
abbrev Cels := List (Str × Addr × Option Value)
abbrev Ledg := List (Addr × Obj)
/-- what is known of the world outside and of the generators -/
abbrev OsP := OsState → Array GenState → Drawn → Prop

def lk (l : Vars) : Str → Option Value := fun y => (l.lookup y).join

structure Ev (env : Env) (ln cn : List Str) : Prop where
  kf : env.scope.kind = .function
  loc : ∀ x ∈ ln, env.kindOf x = some .local ∧ (x == ("__debug__" : Str)) = false
  cel : ∀ x ∈ cn, (env.kindOf x = some .cell ∨ env.kindOf x = some .free) ∧ (x == ("__debug__" : Str)) = false ∧ (x == ("__classdict__" : Str)) = false
  nd : ln.Nodup

structure St (o : OsP) (B : Heap) (env : Env) (l : Vars) (c : Cels) (n : Ledg) (s : Shared) : Prop where
  fr : Fr B env.locals s.heap (lk l)
  nw : News B env.locals s.heap n
  ord : (n.map (·.1)).Pairwise (· > ·)
  cel : ∀ p ∈ c, env.cells.lookup p.1 = some p.2.1 ∧ ∃ ob, (p.2.1, ob) ∈ n ∧ ob.data = .cell p.2.2
  cnd : (c.map (·.2.1)).Nodup
  ev : Ev env (l.map (·.1)) (c.map (·.1))
  os : o s.os s.gens s.drawn

section
variable {o : OsP} {B : Heap} {env : Env} {l l' : Vars} {c c' : Cels} {n n' pre post : Ledg} {s s' : Shared}

theorem lookup_mem {α β : Type} [BEq α] [LawfulBEq α] {x : α} {v : β} : ∀ {l : List (α × β)}, (l.map (·.1)).Nodup → (x, v) ∈ l → l.lookup x = some v
  | (y, u) :: r, hn, hm => by
    rw [List.map_cons, List.nodup_cons] at hn
    rcases List.mem_cons.mp hm with e | hm'
    · cases e; rw [List.lookup_cons, beq_self_eq_true]
    · have : (x == y) = false := by
        rw [beq_eq_false_iff_ne]; intro e
        exact hn.1 (List.mem_map.mpr ⟨(x, v), hm', e⟩)
      rw [List.lookup_cons, this]
      exact lookup_mem hn.2 hm'

theorem St.var (S : St o B env l c n s) {x : Str} {v : Option Value} (h : (x, v) ∈ l) : lk l x = v := by
  unfold lk; rw [lookup_mem S.ev.nd h]; rfl

/-- one entry of a store is another one now -/
inductive Put {α : Type} (a b : α) : List α → List α → Prop
  | head {r} : Put a b (a :: r) (b :: r)
  | tail {p r r'} : Put a b r r' → Put a b (p :: r) (p :: r')
theorem Put.split {α : Type} {a b : α} : ∀ {l l' : List α}, Put a b l l' → ∃ pre post, l = pre ++ a :: post ∧ l' = pre ++ b :: post
  | _, _, .head => ⟨[], _, rfl, rfl⟩
  | _, _, .tail (p := p) h => let ⟨pre, post, e1, e2⟩ := h.split; ⟨p :: pre, post, by rw [e1]; rfl, by rw [e2]; rfl⟩
theorem Put.at {α : Type} {a b : α} : ∀ (pre post : List α), Put a b (pre ++ a :: post) (pre ++ b :: post)
  | [], _ => .head
  | _ :: pre, post => .tail (Put.at pre post)
theorem Put.app {α : Type} {a b : α} {l l' : List α} (pre : List α) (h : Put a b l l') : Put a b (pre ++ l) (pre ++ l') := by
  induction pre with
  | nil => exact h
  | cons p r ih => exact .tail ih
theorem Put.appR {α : Type} {a b : α} {l l' : List α} (post : List α) (h : Put a b l l') : Put a b (l ++ post) (l' ++ post) := by
  induction h with
  | head => exact .head
  | tail _ ih => exact .tail ih
theorem Put.mem {α : Type} {a b : α} {l l' : List α} (h : Put a b l l') : a ∈ l := by
  obtain ⟨pre, post, rfl, _⟩ := h.split; simp
theorem Put.mem' {α : Type} {a b : α} {l l' : List α} (h : Put a b l l') : b ∈ l' := by
  obtain ⟨pre, post, _, rfl⟩ := h.split; simp
theorem Put.back {α : Type} {a b : α} {l l' : List α} (h : Put a b l l') {x : α} (hx : x ∈ l') : x = b ∨ x ∈ l := by
  obtain ⟨pre, post, rfl, rfl⟩ := h.split
  simp only [List.mem_append, List.mem_cons] at hx ⊢
  rcases hx with hx | rfl | hx
  · exact .inr (.inl hx)
  · exact .inl rfl
  · exact .inr (.inr (.inr hx))
theorem Put.map {α β : Type} {a b : α} {l l' : List α} (f : α → β) (h : Put a b l l') (e : f a = f b := by rfl) : l'.map f = l.map f := by
  obtain ⟨pre, post, rfl, rfl⟩ := h.split
  simp [e]

theorem Put.lookup {x : Str} {u v : Option Value} : ∀ {l l' : Vars}, Put (x, u) (x, v) l l' → (l.map (·.1)).Nodup → ∀ y, l'.lookup y = if y = x then some v else l.lookup y
  | _, _, .head, _, y => by
    by_cases h : y = x
    · subst h; simp [List.lookup_cons]
    · have : (y == x) = false := beq_eq_false_iff_ne.mpr h
      simp [List.lookup_cons, this, h]
  | (z, w) :: r, _, .tail h, hn, y => by
    rw [List.map_cons, List.nodup_cons] at hn
    have ih := h.lookup hn.2 y
    have hx : x ≠ z := by rintro rfl; exact hn.1 (List.mem_map.mpr ⟨_, h.mem, rfl⟩)
    by_cases hy : y = z
    · subst hy
      simp [List.lookup_cons, Ne.symm hx]
    · have : (y == z) = false := beq_eq_false_iff_ne.mpr hy
      rw [List.lookup_cons, List.lookup_cons, this]
      exact ih

theorem St.tok (S : St o B env l c n s) (t : Nat) : St o B env l c n { s with toks := t } := ⟨S.fr, S.nw, S.ord, S.cel, S.cnd, S.ev, S.os⟩

/-- a local name is stored -/
theorem St.store (S : St o B env l c n s) {x : Str} {u v : Option Value} (hp : Put (x, u) (x, v) l l') {h' : Heap} {t : Nat}
    (hn : h'.Ns env.locals (fun y => if y = x then v else lk l y)) (hs : Heap.SameBut env.locals s.heap h') : St o B env l' c n { s with heap := h', toks := t } := by
  have e : (fun y => if y = x then v else lk l y) = lk l' := by
    funext y
    unfold lk
    rw [hp.lookup S.ev.nd y]
    by_cases h : y = x <;> simp [h]
  rw [e] at hn
  exact ⟨S.fr.set hn hs, S.nw.set hs, S.ord, S.cel, S.cnd, by rw [Put.map (fun p : Str × Option Value => p.1) hp]; exact S.ev, S.os⟩

theorem Put.keep {α : Type} {a b : α} {l l' : List α} (h : Put a b l l') {x : α} (hx : x ∈ l) : x = a ∨ x ∈ l' := by
  obtain ⟨pre, post, rfl, rfl⟩ := h.split
  simp only [List.mem_append, List.mem_cons] at hx ⊢
  rcases hx with hx | rfl | hx
  · exact .inr (.inl hx)
  · exact .inl rfl
  · exact .inr (.inr (.inr hx))

/-- an object of the ledger is another one now: frame and ledger -/
theorem St.mk' (S : St o B env l c n s) {a : Addr} {x y : Obj} (hp : Put (a, x) (a, y) n n') {h' : Heap} {t : Nat} (hF : Fr B env.locals h' (lk l)) (hN : News B env.locals h' n')
    (hc : ∀ v, x.data ≠ .cell v) : St o B env l c n' { s with heap := h', toks := t } := by
  have em := Put.map (fun p : Addr × Obj => p.1) hp
  refine ⟨hF, hN, by rw [em]; exact S.ord, fun p hp' => ?_, S.cnd, S.ev, S.os⟩
  obtain ⟨c1, ob, hm, hd⟩ := S.cel p hp'
  refine ⟨c1, ob, ?_, hd⟩
  rcases hp.keep hm with e | hm
  · cases e; exact absurd hd (hc _)
  · exact hm

theorem news_put (ho : (n.map (·.1)).Pairwise (· > ·)) {a : Addr} {x y : Obj} (hp : Put (a, x) (a, y) n n') {h h' : Heap} {L : Addr} (N : News B L h n) (hs : Heap.SameBut a h h') (hy : h'.get? a = some y) : News B L h' n' := by
  obtain ⟨pre, post, rfl, rfl⟩ := hp.split
  rw [List.map_append, List.map_cons] at ho
  refine news_set N (fun p hp => ?_) (fun p hp => ?_) hs hy
  · exact Nat.ne_of_gt ((List.pairwise_append.mp ho).2.2 p.1 (List.mem_map_of_mem hp) a (.head _))
  · exact Nat.ne_of_lt ((List.pairwise_cons.mp (List.pairwise_append.mp ho).2.1).1 p.1 (List.mem_map_of_mem hp))

theorem St.upd (S : St o B env l c n s) {a : Addr} {x y : Obj} (hp : Put (a, x) (a, y) n n') {h' : Heap} {t : Nat} (hs : Heap.SameBut a s.heap h') (hy : h'.get? a = some y) (hc : ∀ v, x.data ≠ .cell v) :
    St o B env l c n' { s with heap := h', toks := t } := by
  have z := S.nw _ hp.mem
  exact S.mk' hp (S.fr.change hs z.2.1 z.2.2) (news_put S.ord hp S.nw hs hy) hc

/-- a cell is stored -/
theorem St.storeC (S : St o B env l c n s) {x : Str} {a : Addr} {u v : Option Value} {ob ob' : Obj} (hp : Put (x, a, u) (x, a, v) c c') (hq : Put (a, ob) (a, ob') n n') (hd : ob'.data = .cell v) {h' : Heap}
    (hc : h'.get? a = some ob') (hs : Heap.SameBut a s.heap h') : St o B env l c' n' { s with heap := h' } := by
  have z := S.nw _ hq.mem
  have em := Put.map (fun p : Addr × Obj => p.1) hq
  refine ⟨S.fr.change hs z.2.1 z.2.2, news_put S.ord hq S.nw hs hc, by rw [em]; exact S.ord, fun p hp' => ?_, by rw [Put.map (fun p : Str × Addr × Option Value => p.2.1) hp]; exact S.cnd,
    by rw [Put.map (fun p : Str × Addr × Option Value => p.1) hp]; exact S.ev, S.os⟩
  obtain ⟨c1, _⟩ := S.cel _ hp.mem
  obtain ⟨pre, post, e1, e2⟩ := hp.split
  have hnd := S.cnd
  rw [e1] at hnd
  simp only [List.map_append, List.map_cons] at hnd
  rw [List.nodup_append] at hnd
  obtain ⟨_, h2, h3⟩ := hnd
  rw [List.nodup_cons] at h2
  have other : p ∈ pre ∨ p ∈ post → env.cells.lookup p.1 = some p.2.1 ∧ ∃ ob, (p.2.1, ob) ∈ n' ∧ ob.data = .cell p.2.2 := fun q => by
    have hm : p ∈ c := by rw [e1]; simp only [List.mem_append, List.mem_cons]; exact q.imp id .inr
    obtain ⟨d1, ob₁, hm₁, hd₁⟩ := S.cel p hm
    have ne : p.2.1 ≠ a := by
      intro e
      rcases q with q | q
      · exact h3 p.2.1 (List.mem_map.mpr ⟨p, q, rfl⟩) a (.head _) e
      · exact h2.1 (e ▸ List.mem_map.mpr ⟨p, q, rfl⟩)
    refine ⟨d1, ob₁, ?_, hd₁⟩
    rcases hq.keep hm₁ with e | hm₁
    · exact absurd (congrArg Prod.fst e) ne
    · exact hm₁
  rw [e2] at hp'
  rcases List.mem_append.mp hp' with q | q
  · exact other (.inl q)
  · rcases List.mem_cons.mp q with rfl | q
    · exact ⟨c1, ob', hq.mem', hd⟩
    · exact other (.inr q)

/-- a new object -/
theorem St.push (S : St o B env l c n s) (ob : Obj) (hf : ob.isFreed = false := by rfl) : St o B env l c ((s.heap.objs.size, ob) :: n) { s with heap := s.heap.push ob } := by
  refine ⟨S.fr.push ob, S.nw.push S.fr ob hf, ?_, fun p hp => let ⟨a, ob', b, d⟩ := S.cel p hp; ⟨a, ob', .tail _ b, d⟩, S.cnd, S.ev, S.os⟩
  refine List.Pairwise.cons (fun b hb => ?_) S.ord
  obtain ⟨⟨b', ob⟩, hp, rfl⟩ := List.mem_map.mp hb
  exact Heap.lt_size (S.nw.get hp)

/-- some objects are no longer looked at -/
theorem St.drop (S : St o B env l c n s) (h : n'.Sublist n) (hc : ∀ p ∈ c, ∀ ob, (p.2.1, ob) ∈ n → (p.2.1, ob) ∈ n') : St o B env l c n' s :=
  ⟨S.fr, fun p hp => S.nw p (h.subset hp), S.ord.sublist (h.map _), fun p hp => let ⟨a, ob, b, d⟩ := S.cel p hp; ⟨a, ob, hc p hp ob b, d⟩, S.cnd, S.ev, S.os⟩
theorem St.dropC (S : St o B env l c n s) : St o B env l [] n s := ⟨S.fr, S.nw, S.ord, fun _ hp => (nomatch hp), .nil, ⟨S.ev.kf, S.ev.loc, fun _ hp => (nomatch hp), S.ev.nd⟩, S.os⟩
theorem St.drop0 (S : St o B env l c n s) (h : n'.Sublist n) : St o B env l [] n' s := S.dropC.drop h fun _ hp => (nomatch hp)
end
end
section
open PySem PySem.W PySem.Calls PyProof.Rows
structure Base (K : Frag) (mg mb : Str → Option Value) (B : Heap) : Prop where
  kin : K.In B
  g : B.Ns mainGlobals mg
  b : B.Ns builtinsNs mb
  nolim : B.NoLimit
  nodig : ∃ mc, B.Ns cStatics mc ∧ mc (Str.ofString "sys.int_max_str_digits") = none
  bb : ∀ x : Str, x ≠ "__name__" → mb x = bootBuiltins x
theorem Base.keeps {K : Frag} {mg mb : Str → Option Value} {B B' : Heap} (T : Base K mg mb B) (k : ∀ b o, B.get? b = some o → B'.get? b = some o) : Base K mg mb B' :=
  ⟨T.kin.keeps k, T.g.keeps k, T.b.keeps k, T.nolim.keeps k, let ⟨mc, a, b⟩ := T.nodig; ⟨mc, a.keeps k, b⟩, T.bb⟩

/-- the frame's room -/
structure Room (A : Around) (d u : Nat) : Prop where
  depth : A.depth + d < recursionLimit
  units : A.units + u < cLine
  handled : A.handled = none
theorem Room.le {A : Around} {d u d' u' : Nat} (R : Room A d u) (h1 : d' ≤ d := by omega) (h2 : u' ≤ u := by omega) : Room A d' u' :=
  ⟨Nat.lt_of_le_of_lt (Nat.add_le_add_left h1 _) R.depth, Nat.lt_of_le_of_lt (Nat.add_le_add_left h2 _) R.units, R.handled⟩
theorem Room.deeper {A : Around} {d u : Nat} {env : Env} (R : Room A (d + 1) (u + 3)) : Room (A.deeper env) d u :=
  ⟨by have := R.depth; show A.depth + 1 + d < _; omega, by have := R.units; show A.units + 3 + u < _; omega, R.handled⟩
theorem Room.in1 {A : Around} {d u : Nat} (R : Room A d (u + 1)) : Room A.in1 d u :=
  ⟨R.depth, by have := R.units; show A.units + 1 + u < _; omega, R.handled⟩
theorem Room.dep {A : Around} {d u : Nat} (R : Room A d u) : A.depth < recursionLimit := Nat.lt_of_le_of_lt (Nat.le_add_right _ _) R.depth
theorem Room.uni {A : Around} {d u : Nat} (R : Room A d u) : A.units < cLine := Nat.lt_of_le_of_lt (Nat.le_add_right _ _) R.units

/-- the names of a block, looked at once -/
def evOk (sc : Scope) (ln cn : List Str) : Bool :=
  sc.kind == .function && ln.all (fun x => sc.names.lookup x == some .local && !(x == ("__debug__" : Str))) &&
    cn.all (fun x => (sc.names.lookup x == some .cell || sc.names.lookup x == some .free) && !(x == ("__debug__" : Str)) && !(x == ("__classdict__" : Str))) && decide ln.Nodup
theorem Ev.of {env : Env} {ln cn : List Str} (h : evOk env.scope ln cn = true) : Ev env ln cn := by
  simp only [evOk, Bool.and_eq_true, List.all_eq_true, beq_iff_eq, Bool.not_eq_true', Bool.or_eq_true, decide_eq_true_eq] at h
  obtain ⟨⟨⟨h1, h2⟩, h3⟩, h4⟩ := h
  exact ⟨h1, h2, fun x hx => ⟨(h3 x hx).1.1, (h3 x hx).1.2, (h3 x hx).2⟩, h4⟩

def envF (fd : FuncData) (L f : Addr) : Env := newEnv fd.scope L fd.globals (cellsFrom (L + 1) fd.scope.names []) (fd.qualname ++ ".<locals>.") (some f) fd.code none fd.builtins

def bindsIn (binds : List (Str × Value)) (x : Str) : Option Value := (binds.reverse.lookup x)
def locsOf (ln : List Str) (binds : List (Str × Value)) : Vars := ln.map fun x => (x, binds.lookup x)
def celsOf (fd : FuncData) (L : Addr) (binds : List (Str × Value)) : Cels := (cellsFrom (L + 1) fd.scope.names []).map fun p => (p.1, p.2, binds.lookup p.1)

def fnOk (fd : FuncData) (bn : List Str) (ln cn : List Str) : Bool :=
  evOk fd.scope ln cn && fd.closure.isEmpty && !fd.scope.isCoroutine && !fd.scope.isGenerator && decide bn.Nodup &&
    (cellsFrom 0 fd.scope.names []).map (·.1) == cn && decide cn.Nodup && bn.all (fun x => ln.contains x || cn.contains x) && cn.all (fun x => fd.scope.names.lookup x == some .cell) && (ln.all fun x => !cn.contains x)

theorem evOk_kind {sc : Scope} {ln cn : List Str} (h : evOk sc ln cn = true) : sc.kind = .function := by
  simp only [evOk, Bool.and_eq_true, beq_iff_eq] at h
  exact h.1.1.1

theorem lookup_none {α β : Type} [BEq α] [LawfulBEq α] {x : α} : ∀ {l : List (α × β)}, x ∉ l.map (·.1) → l.lookup x = none
  | [], _ => rfl
  | (y, v) :: r, h => by
    rw [List.map_cons, List.mem_cons, not_or] at h
    rw [List.lookup_cons, beq_eq_false_iff_ne.mpr h.1]
    exact lookup_none h.2
theorem lookup_some {α β : Type} [BEq α] [LawfulBEq α] {x : α} {v : β} : ∀ {l : List (α × β)}, l.lookup x = some v → (x, v) ∈ l
  | (y, u) :: r, h => by
    rw [List.lookup_cons] at h
    split at h
    · rename_i e; cases h; rw [beq_iff_eq.mp e]; exact .head _
    · exact .tail _ (lookup_some h)

theorem bindL_eq {ko : Str → Option NameKind} {x : Str} : ∀ {binds : List (Str × Value)} {m : Str → Option Value}, (binds.map (·.1)).Nodup →
    bindL ko binds m x = if ko x = some .local then (binds.lookup x).or (m x) else m x
  | [], m, _ => by simp [bindL]
  | (y, v) :: r, m, hn => by
    rw [List.map_cons, List.nodup_cons] at hn
    unfold bindL
    rw [bindL_eq hn.2]
    by_cases hy : x = y
    · subst hy
      have hl : r.lookup x = none := lookup_none hn.1
      by_cases hk : ko x = some .local <;> simp [hk, hl, List.lookup_cons]
    · have hb : (x == y) = false := beq_eq_false_iff_ne.mpr hy
      by_cases hk : ko y = some .local <;> simp [hk, List.lookup_cons, hb, hy]
theorem bindC_eq {ko : Str → Option NameKind} {x : Str} : ∀ {binds : List (Str × Value)} {m : Str → Option Value}, (binds.map (·.1)).Nodup →
    bindC ko binds m x = if ko x = some .local then m x else (binds.lookup x).or (m x)
  | [], m, _ => by simp [bindC]
  | (y, v) :: r, m, hn => by
    rw [List.map_cons, List.nodup_cons] at hn
    unfold bindC
    rw [bindC_eq hn.2]
    by_cases hy : x = y
    · subst hy
      have hl : r.lookup x = none := lookup_none hn.1
      by_cases hk : ko x = some .local <;> simp [hk, hl, List.lookup_cons]
    · have hb : (x == y) = false := beq_eq_false_iff_ne.mpr hy
      by_cases hk : ko y = some .local <;> simp [hk, List.lookup_cons, hb, hy]

theorem lk_map {ln : List Str} {f : Str → Option Value} (y : Str) : lk (ln.map fun x => (x, f x)) y = if y ∈ ln then f y else none := by
  unfold lk
  induction ln with
  | nil => simp
  | cons x r ih =>
    rw [List.map_cons, List.lookup_cons]
    by_cases h : y = x
    · subst h; simp
    · rw [beq_eq_false_iff_ne.mpr h]
      simp only [ih, List.mem_cons, h, false_or]

section
variable {K : Frag} {mg mb : Str → Option Value} {prog : Program} {w : World} {A : Around} {E : Value → Shared → Prop} {o : OsP} {B : Heap} {env : Env} {l l' : Vars} {c c' : Cels} {n n' pre post : Ledg} {s s' : Shared} {R : Result → Shared → Prop}

/-- the cells of a frame, as a ledger -/
inductive CellsIn : Cels → Ledg → Prop
  | nil : CellsIn [] []
  | cons {x : Str} {a : Addr} {v : Option Value} {ob : Obj} {c : Cels} {n : Ledg} : ob.data = .cell v → CellsIn c n → CellsIn ((x, a, v) :: c) ((a, ob) :: n)
theorem CellsIn.mem {c : Cels} {n : Ledg} (h : CellsIn c n) : ∀ p ∈ c, ∃ ob, (p.2.1, ob) ∈ n ∧ ob.data = .cell p.2.2 := by
  induction h with
  | nil => exact fun _ hp => (nomatch hp)
  | cons hd _ ih =>
    intro p hp
    rcases List.mem_cons.mp hp with rfl | hp
    · exact ⟨_, .head _, hd⟩
    · obtain ⟨ob, a, b⟩ := ih p hp; exact ⟨ob, .tail _ a, b⟩
theorem CellsIn.adr {c : Cels} {n : Ledg} (h : CellsIn c n) : n.map (·.1) = c.map (·.2.1) := by
  induction h with
  | nil => rfl
  | cons _ _ ih => simp [ih]

def cellE (o : Obj) : Bool := match o.data with | .cell _ => true | _ => false
/-- the cells of a ledger are still there -/
def KeepsC (n n' : Ledg) : Prop := ∀ q ∈ n, cellE q.2 = true → q ∈ n'
theorem KeepsC.refl {n : Ledg} : KeepsC n n := fun _ h _ => h
theorem KeepsC.trans {n n' n'' : Ledg} (h : KeepsC n n') (h' : KeepsC n' n'') : KeepsC n n'' := fun q hq hc => h' q (h q hq hc) hc
theorem KeepsC.app {n n' : Ledg} (pre : Ledg) (h : KeepsC n n') : KeepsC (pre ++ n) (pre ++ n') := fun q hq hc => (List.mem_append.mp hq).elim (fun x => List.mem_append.mpr (.inl x)) fun x => List.mem_append.mpr (.inr (h q x hc))
theorem KeepsC.cons {n n' : Ledg} {p : Addr × Obj} (h : KeepsC n n') : KeepsC (p :: n) (p :: n') := fun q hq hc => (List.mem_cons.mp hq).elim (fun e => e ▸ .head _) fun x => .tail _ (h q x hc)
theorem KeepsC.change {n n' : Ledg} {a : Addr} {x y : Obj} (e : cellE x = false) (h : KeepsC n n') : KeepsC ((a, x) :: n) ((a, y) :: n') := fun q hq hc => (List.mem_cons.mp hq).elim (fun e' => by subst e'; rw [e] at hc; cases hc) fun x => .tail _ (h q x hc)
theorem KeepsC.new {n n' : Ledg} {p : Addr × Obj} (h : KeepsC n n') : KeepsC n (p :: n') := fun q hq hc => .tail _ (h q hq hc)
theorem KeepsC.gone {n n' : Ledg} {p : Addr × Obj} (e : cellE p.2 = false) (h : KeepsC n n') : KeepsC (p :: n) n' := fun q hq hc => (List.mem_cons.mp hq).elim (fun e' => by subst e'; rw [e] at hc; cases hc) fun x => h q x hc
theorem KeepsC.newApp {n n' : Ledg} (pre : Ledg) (h : KeepsC n n') : KeepsC n (pre ++ n') := fun q hq hc => List.mem_append.mpr (.inr (h q hq hc))

/-- the callee comes back: its ledger is the caller's -/
def Back (o : OsP) (B : Heap) (env : Env) (l : Vars) (c : Cels) (n : Ledg) (g : Heap) (R : Result → Shared → Prop) (v : Value) (s' : Shared) : Prop :=
  ∃ (env' : Env) (l' : Vars) (c' : Cels) (n' : Ledg), St o g env' l' c' n' s' ∧ KeepsC n n' ∧ (St o B env l c n' s' → R (.ok (.ret v)) s')

theorem St.ghost (S : St o B env l c n s) (T : Base K mg mb B) :
    (∀ b ob, B.get? b = some ob → (hideAll s.heap (n.map (·.1))).get? b = some ob) ∧ ∀ v s', Back o B env l c n (hideAll s.heap (n.map (·.1))) R v s' → R (.ok (.ret v)) s' := by
  have nm : ∀ b ob, B.get? b = some ob → b ∉ n.map (·.1) := fun b ob e q => by
    obtain ⟨p, hp, rfl⟩ := List.mem_map.mp q
    rw [(S.nw p hp).2.2] at e; cases e
  have st : ∀ b ob, B.get? b = some ob → (hideAll s.heap (n.map (·.1))).get? b = some ob := fun b ob e => hideAll_get _ (S.fr.keep b ob e) (nm b ob e)
  refine ⟨st, fun v s' ⟨env', l', c', n', S', hc, k⟩ => k ?_⟩
  obtain ⟨oL, es, ep, hL, hLd, hLk, hLf⟩ := S.fr.ns
  have nL : env.locals ∉ n.map (·.1) := fun q => by
    obtain ⟨p, hp, e⟩ := List.mem_map.mp q
    exact (S.nw p hp).2.1 e
  have hLg := hideAll_get (n.map (·.1)) hL nL
  refine ⟨⟨⟨oL, es, ep, S'.fr.keep _ _ hLg, hLd, hLk, hLf⟩, fun b ob e => S'.fr.keep b ob (st b ob e), S.fr.above⟩, fun p hp => ⟨(S'.nw p hp).1, fun q => ?_, ?_⟩, S'.ord, fun p hp => let ⟨c1, ob, c2, c3⟩ := S.cel p hp; ⟨c1, ob, hc _ c2 (by show cellE ob = true; unfold cellE; rw [c3]), c3⟩, S.cnd, S.ev, S'.os⟩
  · have := (S'.nw p hp).2.2; rw [q, hLg] at this; cases this
  · cases q : B.get? p.1 with
    | none => rfl
    | some ob => have := (S'.nw p hp).2.2; rw [st _ _ q] at this; cases this

theorem cells_desc (names : List (Str × NameKind)) (i : Nat) : ((cellsFrom i names []).map (·.2)).Pairwise (· > ·) := by
  have key : ∀ (names : List (Str × NameKind)) (i : Nat) (acc : List (Str × Addr)), (acc.map (·.2)).Pairwise (· > ·) → (∀ p ∈ acc, p.2 < i) → ((cellsFrom i names acc).map (·.2)).Pairwise (· > ·) := by
    intro names
    induction names with
    | nil => intro i acc h _; exact h
    | cons a r ih =>
      intro i acc h hlt
      obtain ⟨a1, a2⟩ := a
      unfold cellsFrom
      split
      · refine ih _ _ ?_ fun p hp => ?_
        · refine List.Pairwise.cons (fun b hb => ?_) h
          obtain ⟨p, hp, rfl⟩ := List.mem_map.mp hb
          exact hlt p hp
        · rcases List.mem_cons.mp hp with rfl | hp
          · exact Nat.lt_succ_self _
          · exact Nat.lt_succ_of_lt (hlt p hp)
      · exact ih _ _ h hlt
  exact key names i [] .nil fun _ hp => (nomatch hp)

theorem fn_callX {f : Addr} {oc : Value} {od : Option Addr} {osl : Array (Option Value)} {fd : FuncData} {body : List Stmt} {args : Args} {binds : List (Str × Value)} {ln cn : List Str}
    (S : St o B env l c n s) (T : Base K mg mb B) (hroom : A.depth < recursionLimit)
    (ho : K.lookup f = some ⟨oc, od, .func fd, osl⟩) (hcd : codeIn K fd.code fd.qualname = true) (hbody : fd.body = .stmts body) (hok : fnOk fd (binds.map (·.1)) ln cn = true)
    (hbind : BindsTo s fd args binds)
    (hl : locsOf ln binds = l')
    (h : ∀ g L' cls s', CellsIn (celsOf fd L' binds) cls → St o g (envF fd L' f) l' (celsOf fd L' binds) (cls ++ n) s' → Base K mg mb g → (∀ b ob, B.get? b = some ob → g.get? b = some ob) → g = hideAll s.heap (n.map (·.1)) →
      wpAny (model prog w) (A.deeper (envF fd L' f)) (execs body (envF fd L' f)) (fun fl s'' => Back o B env l c n g R (match fl with | .ret v => v | _ => .none) s'')
        (fun e s' => wpAny (model prog w) (A.deeper (envF fd L' f)) (leaving (envF fd L' f) e) (fun _ s'' => R (.error e) s'') (fun e' s'' => R (.error e') s'') s') s') :
    codeAny (model prog w) A (.call (.ref f) args) R s := by
  simp only [fnOk, Bool.and_eq_true, Bool.not_eq_true', beq_iff_eq, decide_eq_true_eq, List.all_eq_true, Bool.or_eq_true, List.contains_iff_mem, List.isEmpty_iff] at hok
  obtain ⟨⟨⟨⟨⟨⟨⟨⟨⟨k1, k2⟩, k3⟩, k4⟩, k5⟩, k6⟩, k7⟩, k8⟩, k9⟩, k10⟩ := hok
  obtain ⟨st, bk⟩ := S.ghost (R := R) T
  have X := T.kin.keeps S.fr.keep
  have ev := Ev.of (env := envF fd s.heap.objs.size f) k1
  have hk := evOk_kind k1
  have names : (cellsFrom (s.heap.objs.size + 1) fd.scope.names []).map (·.1) = cn := (cellsFrom_names fd.scope.names 0 (s.heap.objs.size + 1) [] [] rfl) ▸ k6
  refine codeAny_call_function hroom (X _ _ ho) rfl k3 k4 hbody (codeRec_of X hcd) (hbind _ _ _ _ ?_)
  rw [k2]
  refine wpAny_newFunctionEnv_cells hk (fun x hx => ?_) fun env' he s' x => ?_
  · rcases k8 x.1 (List.mem_map.mpr ⟨x, hx, rfl⟩) with q | q
    · exact .inl (ev.loc _ q).1
    · right
      have hin := q
      rw [← names] at hin
      obtain ⟨p, hp, e⟩ := List.mem_map.mp hin
      have : ((cellsFrom (s.heap.objs.size + 1) fd.scope.names []).lookup x.1).isSome = true := by
        rw [lookup_mem (v := p.2) (by rw [names]; exact k7) (by rw [← e]; exact hp)]; rfl
      exact ⟨k9 _ q, this⟩
  · subst he
    refine ⟨T.nolim.keeps fun b ob e => x.toInCall.keep _ _ (S.fr.keep _ _ e), codeAny_func ?_⟩
    obtain ⟨h₁, tk, rfl, hk₁⟩ := x.done
    have kd : ∀ y, (envF fd s.heap.objs.size f).kindOf y = fd.scope.names.lookup y := fun _ => rfl
    have small : ∀ p ∈ n, p.1 < s.heap.objs.size := fun p hp => Heap.lt_size (S.nw p hp).1
    have new : ∀ a, s.heap.objs.size ≤ a → (hideAll s.heap (n.map (·.1))).get? a = none := fun a ha => by
      cases q : (hideAll s.heap (n.map (·.1))).get? a with
      | none => rfl
      | some ob => exact absurd (Heap.lt_size (of_hideAll _ q)) (Nat.not_lt.mpr ha)
    have cellsAt : ∀ p ∈ cellsFrom (s.heap.objs.size + 1) fd.scope.names [], (cellsFrom (s.heap.objs.size + 1) fd.scope.names []).lookup p.1 = some p.2 := fun p hp => lookup_mem (by rw [names]; exact k7) hp
    have cellNow : ∀ q ∈ cellsFrom (s.heap.objs.size + 1) fd.scope.names [], h₁.IsCell q.2 (binds.lookup q.1) := fun q hq => by
      have h1 := x.cell q.1 q.2 (cellsAt q hq)
      have hqn : q.1 ∈ cn := by rw [← names]; exact List.mem_map_of_mem hq
      have e : bindC (envF fd s.heap.objs.size f).kindOf binds (fun _ => none) q.1 = binds.lookup q.1 := by
        rw [bindC_eq k5, kd, if_neg (by rw [k9 _ hqn]; exact fun z => by cases z), Option.or_none]
      exact e ▸ h1
    have made : ∀ cl : List (Str × Addr), (∀ q ∈ cl, h₁.IsCell q.2 (binds.lookup q.1)) → ∃ cls, CellsIn (cl.map fun p => (p.1, p.2, binds.lookup p.1)) cls ∧ ∀ p ∈ cls, h₁.get? p.1 = some p.2 := by
      intro cl
      induction cl with
      | nil => exact fun _ => ⟨[], .nil, fun _ hp => (nomatch hp)⟩
      | cons q r ih =>
        intro hq
        obtain ⟨cls, a, b⟩ := ih fun q' hq' => hq q' (.tail _ hq')
        obtain ⟨ob, c1, c2⟩ := hq q (.head _)
        refine ⟨(q.2, ob) :: cls, .cons c2 a, fun p hp => ?_⟩
        rcases List.mem_cons.mp hp with rfl | hp
        · exact c1
        · exact b p hp
    obtain ⟨cls, X1, X2⟩ := made _ cellNow
    have adr := X1.adr
    have adr' : cls.map (·.1) = (cellsFrom (s.heap.objs.size + 1) fd.scope.names []).map (·.2) := by rw [adr, List.map_map]; rfl
    have inCl : ∀ p ∈ cls, ∃ q ∈ cellsFrom (s.heap.objs.size + 1) fd.scope.names [], q.2 = p.1 := fun p hp => by
      have := List.mem_map_of_mem (f := (·.1)) hp
      rw [adr'] at this
      exact List.mem_map.mp this
    have S' : St o (hideAll s.heap (n.map (·.1))) (envF fd s.heap.objs.size f) l' (celsOf fd s.heap.objs.size binds) (cls ++ n) { s with heap := h₁, toks := tk } := by
      rw [← hl]
      refine ⟨⟨?_, fun b ob e => hk₁ b ob (of_hideAll _ e), Nat.le_of_eq (hideAll_size _ _)⟩, fun p hp => ?_, ?_, fun p hp => ?_, ?_, ?_, S.os⟩
      · have e : bindL (envF fd s.heap.objs.size f).kindOf binds (fun _ => none) = lk (locsOf ln binds) := by
          funext y
          rw [bindL_eq k5, locsOf, lk_map, kd, Option.or_none]
          by_cases hy : y ∈ ln
          · rw [if_pos hy, if_pos (show List.lookup y fd.scope.names = some NameKind.local from (ev.loc _ hy).1)]
          · rw [if_neg hy]
            split
            · rename_i hky
              refine lookup_none fun hb => ?_
              rcases k8 y hb with q | q
              · exact hy q
              · have := k9 y q; rw [hky] at this; cases this
            · rfl
        have := x.toInCall.ns
        rw [← e]; exact this
      · rcases List.mem_append.mp hp with hp | hp
        · obtain ⟨q, hq, e⟩ := inCl p hp
          have ab := x.above q.1 q.2 hq
          rw [e] at ab
          exact ⟨X2 p hp, Nat.ne_of_gt ab, new _ (Nat.le_of_lt ab)⟩
        · exact ⟨hk₁ _ _ (S.nw p hp).1, Nat.ne_of_lt (small p hp), hideAll_none _ (List.mem_map_of_mem hp)⟩
      · rw [List.map_append, List.pairwise_append]
        refine ⟨?_, S.ord, fun a ha b hb => ?_⟩
        · rw [adr']; exact cells_desc _ _
        · obtain ⟨p, hp, rfl⟩ := List.mem_map.mp ha
          obtain ⟨p', hp', rfl⟩ := List.mem_map.mp hb
          obtain ⟨q, hq, e⟩ := inCl p hp
          have ab := x.above q.1 q.2 hq
          rw [e] at ab
          exact Nat.lt_trans (small p' hp') ab
      · obtain ⟨ob, a, b⟩ := X1.mem p hp
        refine ⟨?_, ob, List.mem_append.mpr (.inl a), b⟩
        obtain ⟨q, hq, rfl⟩ := List.mem_map.mp hp
        exact cellsAt q hq
      · have e : (celsOf fd s.heap.objs.size binds).map (·.2.1) = (cellsFrom (s.heap.objs.size + 1) fd.scope.names []).map (·.2) := by
          unfold celsOf; rw [List.map_map]; rfl
        rw [e]
        exact (List.pairwise_map.mpr x.apart)
      · have e1 : (locsOf ln binds).map (·.1) = ln := by unfold locsOf; rw [List.map_map]; exact List.map_id'' (fun _ => rfl) _
        have e2 : (celsOf fd s.heap.objs.size binds).map (·.1) = cn := by unfold celsOf; rw [List.map_map]; exact names
        rw [e1, e2]; exact ev
    exact wpAny_mono (h _ _ cls _ X1 S' (T.keeps st) st rfl) (fun fl s'' hb => bk _ _ hb) fun _ _ y => y

theorem fn_call {f : Addr} {oc : Value} {od : Option Addr} {osl : Array (Option Value)} {fd : FuncData} {body : List Stmt} {args : Args} {binds : List (Str × Value)} {ln cn : List Str}
    (S : St o B env l c n s) (T : Base K mg mb B) (hroom : A.depth < recursionLimit)
    (ho : K.lookup f = some ⟨oc, od, .func fd, osl⟩) (hcd : codeIn K fd.code fd.qualname = true) (hbody : fd.body = .stmts body) (hok : fnOk fd (binds.map (·.1)) ln cn = true)
    (hbind : BindsTo s fd args binds)
    (hl : locsOf ln binds = l')
    (h : ∀ g L' cls s', CellsIn (celsOf fd L' binds) cls → St o g (envF fd L' f) l' (celsOf fd L' binds) (cls ++ n) s' → Base K mg mb g → (∀ b ob, B.get? b = some ob → g.get? b = some ob) →
      wpAny (model prog w) (A.deeper (envF fd L' f)) (execs body (envF fd L' f)) (fun fl s'' => Back o B env l c n g R (match fl with | .ret v => v | _ => .none) s'')
        (fun e s' => wpAny (model prog w) (A.deeper (envF fd L' f)) (leaving (envF fd L' f) e) (fun _ s'' => R (.error e) s'') (fun e' s'' => R (.error e') s'') s') s') :
    codeAny (model prog w) A (.call (.ref f) args) R s :=
  fn_callX S T hroom ho hcd hbody hok hbind hl fun g L' cls s' hc S' T' k _ => h g L' cls s' hc S' T' k

theorem fn_callN {f : Addr} {oc : Value} {od : Option Addr} {osl : Array (Option Value)} {fd : FuncData} {body : List Stmt} {args : Args} {binds : List (Str × Value)} {ln cn : List Str} {d u : Nat}
    (S : St o B env l c n s) (T : Base K mg mb B) (hroom : Room A (d + 1) (u + 3))
    (ho : K.lookup f = some ⟨oc, od, .func fd, osl⟩) (hcd : codeIn K fd.code fd.qualname = true) (hbody : fd.body = .stmts body) (hok : fnOk fd (binds.map (·.1)) ln cn = true)
    (hbind : BindsTo s fd args binds) (hl : locsOf ln binds = l')
    (h : ∀ g L' A' cls s', Room A' d u → CellsIn (celsOf fd L' binds) cls → St o g (envF fd L' f) l' (celsOf fd L' binds) (cls ++ n) s' → Base K mg mb g → (∀ b ob, B.get? b = some ob → g.get? b = some ob) →
      wpAny (model prog w) A' (execs body (envF fd L' f)) (fun fl s'' => Back o B env l c n g R (match fl with | .ret v => v | _ => .none) s'') (fun _ _ => False) s') :
    codeAny (model prog w) A (.call (.ref f) args) R s :=
  fn_call S T hroom.dep ho hcd hbody hok hbind hl fun g L' cls s' hc S' T' k => wpAny_mono (h g L' _ cls s' hroom.deeper hc S' T' k) (fun _ _ x => x) fun _ _ x => x.elim

/-- a plain function, no cells, that raises nothing -/
theorem fn_call0 {f : Addr} {oc : Value} {od : Option Addr} {osl : Array (Option Value)} {fd : FuncData} {body : List Stmt} {args : Args} {binds : List (Str × Value)} {ln : List Str} {d u : Nat}
    (S : St o B env l c n s) (T : Base K mg mb B) (hroom : Room A (d + 1) (u + 3))
    (ho : K.lookup f = some ⟨oc, od, .func fd, osl⟩) (hcd : codeIn K fd.code fd.qualname = true) (hbody : fd.body = .stmts body) (hok : fnOk fd (binds.map (·.1)) ln [] = true)
    (hbind : BindsTo s fd args binds) (hl : locsOf ln binds = l')
    (h : ∀ g L' A' s', Room A' d u → St o g (envF fd L' f) l' [] n s' → Base K mg mb g → (∀ b ob, B.get? b = some ob → g.get? b = some ob) →
      wpAny (model prog w) A' (execs body (envF fd L' f)) (fun fl s'' => Back o B env l c n g R (match fl with | .ret v => v | _ => .none) s'') (fun _ _ => False) s') :
    codeAny (model prog w) A (.call (.ref f) args) R s := by
  refine fn_callN S T hroom ho hcd hbody hok hbind hl fun g L' A' cls s' hr hc S' T' k => ?_
  have e0 : (cellsFrom 0 fd.scope.names []).map (·.1) = [] := by
    simp only [fnOk, Bool.and_eq_true, beq_iff_eq] at hok
    exact hok.1.1.1.1.2
  have e1 : (cellsFrom (L' + 1) fd.scope.names []).map (·.1) = [] := (cellsFrom_names fd.scope.names 0 (L' + 1) [] [] rfl) ▸ e0
  have e2 : celsOf fd L' binds = [] := by unfold celsOf; rw [List.map_eq_nil_iff.mp e1]; rfl
  rw [e2] at hc S'
  cases hc
  exact h g L' A' s' hr S' T' k

theorem back_ {g : Heap} {v : Value} (S : St o g env l c n' s') {env₀ : Env} {l₀ : Vars} {c₀ : Cels} {n'' : Ledg} (hs : n''.Sublist n') (hc : KeepsC n n'') (h : St o B env₀ l₀ c₀ n'' s' → R (.ok (.ret v)) s') : Back o B env₀ l₀ c₀ n g R v s' :=
  ⟨env, l, [], n'', S.drop0 hs, hc, h⟩
end
end
section
open PySem PySem.W PySem.Calls PyProof.Rows
/-- what follows a statement -/
def SeqQ (M : Model) (A : Around) (rest : List Stmt) (env : Env) (Q : Flow → Shared → Prop) (E : Value → Shared → Prop) (fl : Flow) (s' : Shared) : Prop := match fl with
  | .next => wpAny M A (execs rest env) Q E s'
  | f => Q f s'

structure EvG (env : Env) (gn : List Str) : Prop where
  kf : env.scope.kind = .function
  glo : ∀ x ∈ gn, env.kindOf x = some .globalImplicit ∧ (x == ("__debug__" : Str)) = false
def gnOk (sc : Scope) (gn : List Str) : Bool := sc.kind == .function && gn.all fun x => sc.names.lookup x == some .globalImplicit && !(x == ("__debug__" : Str))
theorem EvG.of {env : Env} {gn : List Str} (h : gnOk env.scope gn = true) (hg : env.globals = mainGlobals) (hb : env.builtins = builtinsNs) : EvG env gn ∧ env.globals = mainGlobals ∧ env.builtins = builtinsNs := by
  simp only [gnOk, Bool.and_eq_true, List.all_eq_true, beq_iff_eq, Bool.not_eq_true'] at h
  exact ⟨⟨h.1, h.2⟩, hg, hb⟩

/-- what a name of the module's top stands for -/
def Gl (K : Frag) (x : Str) (v : Value) : Prop := nsIn K mainGlobals x = some (some v) ∨ (nsIn K mainGlobals x = some none ∧ bootBuiltins x = some v ∧ x ≠ "__name__")

section
variable {K : Frag} {mg mb : Str → Option Value} {prog : Program} {w : World} {A : Around} {E : Value → Shared → Prop} {o : OsP} {B : Heap} {env : Env} {l l' : Vars} {c c' : Cels} {n n' pre post : Ledg} {s s' : Shared} {R : Result → Shared → Prop}

theorem x_nil {Q : Flow → Shared → Prop} (h : Q .next s) : wpAny (model prog w) A (execs [] env) Q E s := wpAny_execs_nil h
theorem x_cons {st : Stmt} {rest : List Stmt} {Q : Flow → Shared → Prop} (h : wpAny (model prog w) A (exec st env) (SeqQ (model prog w) A rest env Q E) E s) : wpAny (model prog w) A (execs (st :: rest) env) Q E s :=
  wpAny_execs_cons (wpAny_mono h (fun f s' h => by cases f <;> exact h) fun _ _ x => x)
theorem x_next {rest : List Stmt} {Q : Flow → Shared → Prop} (h : wpAny (model prog w) A (execs rest env) Q E s) : SeqQ (model prog w) A rest env Q E .next s := h
theorem x_ret {rest : List Stmt} {Q : Flow → Shared → Prop} {v : Value} (h : Q (.ret v) s) : SeqQ (model prog w) A rest env Q E (.ret v) s := h
theorem x_brk {rest : List Stmt} {Q : Flow → Shared → Prop} (h : Q .brk s) : SeqQ (model prog w) A rest env Q E .brk s := h

theorem r_name (S : St o B env l c n s) {x : Str} {pos : Pos} {v : Value} {Q : Value → Shared → Prop} (hv : (x, some v) ∈ l) (h : Q v s) : wpAny (model prog w) A (eval (.Name x pos) env) Q E s :=
  have e := S.ev.loc x (List.mem_map.mpr ⟨_, hv, rfl⟩)
  wpAny_Name (wpAny_loadName_local S.ev.kf e.1 S.fr.ns (S.var hv) h) e.2
theorem r_load (S : St o B env l c n s) {x : Str} {v : Value} {Q : Value → Shared → Prop} (hv : (x, some v) ∈ l) (h : Q v s) : wpAny (model prog w) A (loadName env x) Q E s :=
  have e := S.ev.loc x (List.mem_map.mpr ⟨_, hv, rfl⟩)
  wpAny_loadName_local S.ev.kf e.1 S.fr.ns (S.var hv) h
theorem r_loadC (S : St o B env l c n s) {x : Str} {a : Addr} {v : Value} {Q : Value → Shared → Prop} (hv : (x, a, some v) ∈ c) (h : Q v s) : wpAny (model prog w) A (loadName env x) Q E s := by
  obtain ⟨e1, e2, e3⟩ := S.ev.cel x (List.mem_map.mpr ⟨_, hv, rfl⟩)
  obtain ⟨c1, ob, hm, hd⟩ := S.cel _ hv
  have c2 : s.heap.IsCell a (some v) := ⟨ob, S.nw.get hm, hd⟩
  rcases e1 with e1 | e1
  · exact wpAny_loadName_cell S.ev.kf e1 c1 c2 h
  · exact wpAny_loadName_free S.ev.kf e1 c1 c2 h e3
theorem r_nameC (S : St o B env l c n s) {x : Str} {pos : Pos} {a : Addr} {v : Value} {Q : Value → Shared → Prop} (hv : (x, a, some v) ∈ c) (h : Q v s) : wpAny (model prog w) A (eval (.Name x pos) env) Q E s :=
  wpAny_Name (r_loadC S hv h) (S.ev.cel x (List.mem_map.mpr ⟨_, hv, rfl⟩)).2.1
theorem r_nameG (S : St o B env l c n s) (T : Base K mg mb B) {gn : List Str} (G : EvG env gn ∧ env.globals = mainGlobals ∧ env.builtins = builtinsNs) {x : Str} {pos : Pos} {v : Value} {Q : Value → Shared → Prop} (hx : x ∈ gn) (hv : Gl K x v) (h : Q v s) :
    wpAny (model prog w) A (eval (.Name x pos) env) Q E s := by
  obtain ⟨G, g1, g2⟩ := G
  have e := G.glo x hx
  rcases hv with e' | ⟨e', hb, hn⟩
  · exact Name_function_global G.kf e.1 (loadGlobal_global (env := env) (g1 ▸ T.g.keeps S.fr.keep) (mg_of T.kin T.g e') h) e.2
  · exact Name_function_global G.kf e.1 (loadGlobal_builtin (env := env) (g1 ▸ T.g.keeps S.fr.keep) (mg_none_of T.kin T.g e') (g2 ▸ T.b.keeps S.fr.keep) ((T.bb x hn).trans hb) h) e.2

theorem r_store (S : St o B env l c n s) {x : Str} {u : Option Value} {v : Value} {Q : Unit → Shared → Prop} (hp : Put (x, u) (x, some v) l l') (h : ∀ s', St o B env l' c n s' → Q () s') : wpAny (model prog w) A (storeName env x v) Q E s :=
  have e := S.ev.loc x (List.mem_map.mpr ⟨_, hp.mem, rfl⟩)
  wpAny_storeName_local e.1 S.fr.ns (fun h' hn hs => h _ (S.store hp hn hs)) (by rw [S.ev.kf]; rfl)
theorem r_storeC (S : St o B env l c n s) {x : Str} {a : Addr} {u : Option Value} {v : Value} {ob : Obj} {n' : Obj → Ledg} {Q : Unit → Shared → Prop} (hp : Put (x, a, u) (x, a, some v) c c') (hq : ∀ ob', Put (a, ob) (a, ob') n (n' ob')) (hk : env.kindOf x = some .cell)
    (h : ∀ ob' s', ob'.data = .cell (some v) → St o B env l c' (n' ob') s' → Q () s') :
    wpAny (model prog w) A (storeName env x v) Q E s := by
  obtain ⟨c1, ob₁, hm, hd⟩ := S.cel _ hp.mem
  exact wpAny_storeName_cell S.ev.kf hk c1 ⟨ob₁, S.nw.get hm, hd⟩ fun h' hc hs => by
    obtain ⟨ob', hc1, hc2⟩ := hc
    exact h ob' _ hc2 (S.storeC hp (hq ob') hc2 hc1 hs)

theorem r_int (S : St o B env l c n s) {i : Int} {k pos} {Q : Value → Shared → Prop} (h : ∀ t s', St o B env l c n s' → Q (.int i t) s') : wpAny (model prog w) A (eval (.Constant (.int i) k pos) env) Q E s :=
  wpAny_Constant_int (h _ _ (S.tok _))
theorem r_str (S : St o B env l c n s) {x : Str} {k pos} {Q : Value → Shared → Prop} (h : ∀ t s', St o B env l c n s' → Q (.str x t) s') : wpAny (model prog w) A (eval (.Constant (.str x) k pos) env) Q E s :=
  wpAny_Constant_str (h _ _ (S.tok _))

theorem r_add (S : St o B env l c n s) {a b : Int} {t u : Tok} {Q : Value → Shared → Prop} (h : ∀ t s', St o B env l c n s' → Q (.int (a + b) t) s') : wpAny (model prog w) A (binaryOp .Add (.int a t) (.int b u)) Q E s := add_int (h _ _ (S.tok _))
theorem r_sub (S : St o B env l c n s) {a b : Int} {t u : Tok} {Q : Value → Shared → Prop} (h : ∀ t s', St o B env l c n s' → Q (.int (a - b) t) s') : wpAny (model prog w) A (binaryOp .Sub (.int a t) (.int b u)) Q E s := sub_int (h _ _ (S.tok _))
theorem r_iadd (S : St o B env l c n s) {a b : Int} {t u : Tok} {Q : Value → Shared → Prop} (h : ∀ t s', St o B env l c n s' → Q (.int (a + b) t) s') : wpAny (model prog w) A (inplaceOp .Add (.int a t) (.int b u)) Q E s := wpAny_iadd_int (h _ _ (S.tok _))
theorem r_isub (S : St o B env l c n s) {a b : Int} {t u : Tok} {Q : Value → Shared → Prop} (h : ∀ t s', St o B env l c n s' → Q (.int (a - b) t) s') : wpAny (model prog w) A (inplaceOp .Sub (.int a t) (.int b u)) Q E s := isub_int (h _ _ (S.tok _))
theorem r_ior (S : St o B env l c n s) {a b : Int} {t u : Tok} {Q : Value → Shared → Prop} (h : ∀ t s', St o B env l c n s' → Q (.int (Builtin.bitOr a b) t) s') : wpAny (model prog w) A (inplaceOp .BitOr (.int a t) (.int b u)) Q E s := ior_int (h _ _ (S.tok _))
theorem r_mul (S : St o B env l c n s) {a b : Int} {t u : Tok} {Q : Value → Shared → Prop} (hm : IntMulOk a b) (h : ∀ t s', St o B env l c n s' → Q (.int (a * b) t) s') : wpAny (model prog w) A (binaryOp .Mult (.int a t) (.int b u)) Q E s := mul_int (h _ _ (S.tok _)) hm
theorem r_fdiv (S : St o B env l c n s) {a b : Int} {t u : Tok} {Q : Value → Shared → Prop} (hb : b ≠ 0) (hp : Builtin.divisionGoesByPylong a b = false) (h : ∀ t s', St o B env l c n s' → Q (.int (a.fdiv b) t) s') : wpAny (model prog w) A (binaryOp .FloorDiv (.int a t) (.int b u)) Q E s := floordiv_int hb (h _ _ (S.tok _)) (.inl hp)
theorem r_mod (S : St o B env l c n s) {a b : Int} {t u : Tok} {Q : Value → Shared → Prop} (hb : b ≠ 0) (h : ∀ t s', St o B env l c n s' → Q (.int (a.fmod b) t) s') : wpAny (model prog w) A (binaryOp .Mod (.int a t) (.int b u)) Q E s := mod_int' hb (h _ _ (S.tok _))
theorem r_shr (S : St o B env l c n s) {a b : Int} {t u : Tok} {Q : Value → Shared → Prop} (hb : 0 ≤ b) (h : ∀ t s', St o B env l c n s' → Q (.int (a.fdiv (2 ^ b.toNat)) t) s') : wpAny (model prog w) A (binaryOp .RShift (.int a t) (.int b u)) Q E s := rshift_int hb (h _ _ (S.tok _))
theorem r_shl (S : St o B env l c n s) {a b : Int} {t u : Tok} {Q : Value → Shared → Prop} (hb : 0 ≤ b) (hb' : b ≤ 1000000) (ha : a.natAbs < 2 ^ 64) (h : ∀ t s', St o B env l c n s' → Q (.int (a * 2 ^ b.toNat) t) s') : wpAny (model prog w) A (binaryOp .LShift (.int a t) (.int b u)) Q E s := lshift_int_small hb hb' ha (h _ _ (S.tok _))
theorem r_and (S : St o B env l c n s) {a b : Int} {t u : Tok} {Q : Value → Shared → Prop} (h : ∀ t s', St o B env l c n s' → Q (.int (Builtin.bitAnd a b) t) s') : wpAny (model prog w) A (binaryOp .BitAnd (.int a t) (.int b u)) Q E s := and_int (h _ _ (S.tok _))
theorem r_xor (S : St o B env l c n s) {a b : Int} {t u : Tok} {Q : Value → Shared → Prop} (h : ∀ t s', St o B env l c n s' → Q (.int (Builtin.bitXor a b) t) s') : wpAny (model prog w) A (binaryOp .BitXor (.int a t) (.int b u)) Q E s := xor_int (h _ _ (S.tok _))

theorem r_itePos {p : Prop} [Decidable p] {P1 P2 : Prop} (hp : p) (h : P1) : if decide p = true then P1 else P2 := by rw [if_pos (decide_eq_true hp)]; exact h
theorem r_iteNeg {p : Prop} [Decidable p] {P1 P2 : Prop} (hp : ¬ p) (h : P2) : if decide p = true then P1 else P2 := by rw [if_neg (by rw [decide_eq_true_eq]; exact hp)]; exact h
theorem r_iteD {p : Prop} [Decidable p] {P1 P2 : Prop} (h1 : p → P1) (h2 : ¬ p → P2) : if decide p = true then P1 else P2 := by
  by_cases hp : p
  · exact r_itePos hp (h1 hp)
  · exact r_iteNeg hp (h2 hp)
theorem r_iteB {b : Bool} {P1 P2 : Prop} (h1 : b = true → P1) (h2 : b = false → P2) : if b = true then P1 else P2 := by
  cases b
  · rw [if_neg Bool.false_ne_true]; exact h2 rfl
  · rw [if_pos rfl]; exact h1 rfl

/-- a list's item, the list's facts given -/
theorem r_item {value slice : Expr} {a : Addr} {vs : List Value} {k : Int} {u : Tok} {v : Value} {Q : Value → Shared → Prop} (hl : s.heap.IsList a vs.toArray) (h0 : 0 ≤ k) (hhi : k < 2 ^ 63) (hx : vs[k.toNat]? = some v) (h : Q v s)
    (hs : subscripted slice false (.ref a) (.int k u) = operate [.ref a, .int k u] (getItem (.ref a) (.int k u)) := by with_unfolding_all rfl) :
    wpAny (model prog w) A (subscriptTail value slice (.ref a) (.int k u)) Q E s :=
  tail_any hl.typeIs slot_list_getitem.lookup (wpAny_getItem_list hl h0 hhi (by simpa using hx) h) hs
end
end
section
open PySem PySem.W PySem.Calls PyProof.Rows
def Has (B : Heap) (n : Ledg) (a : Addr) (ob : Obj) : Prop := (a, ob) ∈ n ∨ B.get? a = some ob

theorem Has.n {B : Heap} {n : Ledg} {a : Addr} {ob : Obj} (h : (a, ob) ∈ n) : Has B n a ob := .inl h
theorem Has.b {B : Heap} {n : Ledg} {a : Addr} {ob : Obj} (h : B.get? a = some ob) : Has B n a ob := .inr h
theorem Has.cons {B : Heap} {n : Ledg} {a : Addr} {ob : Obj} {p : Addr × Obj} (h : Has B n a ob) : Has B (p :: n) a ob := h.elim (fun h => .inl (.tail _ h)) .inr
/-- the attribute is no one of the class's own -/
def attrOk (K : Frag) (C : Addr) (name : Str) : Bool := plainGet K C name && hasDictIn K C && (match findIn K (.ref C) name with | some a => noGet K a | none => false)
def methOk (K : Frag) (C : Addr) (name : Str) (f : Addr) : Bool := plainGet K C name && findIn K (.ref C) name == some (some (.ref f)) && isFn K (.ref f)
def setOk (K : Frag) (C : Addr) (name : Str) : Bool := findIn K (.ref C) "__setattr__" == some (some (.builtin "object.__setattr__")) && plainOver K C && takerIn K C name == some none && hasDictIn K C

section
variable {K : Frag} {mg mb : Str → Option Value} {prog : Program} {w : World} {A : Around} {E : Value → Shared → Prop} {o : OsP} {B : Heap} {env : Env} {l l' : Vars} {c c' : Cels} {n n' pre post : Ledg} {s s' : Shared} {R : Result → Shared → Prop}

theorem St.has (S : St o B env l c n s) {a : Addr} {ob : Obj} (h : Has B n a ob) : s.heap.get? a = some ob := h.elim S.nw.get (S.fr.keep _ _)
theorem St.isList (S : St o B env l c n s) {a : Addr} {vs : Array Value} {k : Nat} (h : Has B n a (listOf vs k)) : s.heap.IsList a vs := ⟨_, S.has h, rfl, k, rfl⟩
theorem St.inst (S : St o B env l c n s) {x C dx : Addr} {od : Obj} (h1 : Has B n x (instObj C dx)) (h2 : Has B n dx od) : InstAt s.heap x (instObj C dx) C (some od) := ⟨S.has h1, rfl, rfl, S.has h2⟩

theorem Put.upd {a : Addr} {x y : Obj} {n n' : Ledg} (h : Put (a, x) (a, y) n n') (ho : (n.map (·.1)).Pairwise (· > ·)) : Upd a x y n n' := by
  induction n generalizing n' with
  | nil => cases h
  | cons p r ih =>
    rw [List.map_cons, List.pairwise_cons] at ho
    cases h with
    | head => exact .head fun q hq => Nat.ne_of_lt (ho.1 _ (List.mem_map_of_mem hq))
    | tail h => exact .tail (Nat.ne_of_gt (ho.1 _ (List.mem_map.mpr ⟨_, h.mem, rfl⟩))) (ih h ho.2)

theorem r_attr (S : St o B env l c n s) (T : Base K mg mb B) {x C dx : Addr} {es : List DictEntry} {k : Nat} {name : Str} {v : Value} {expr : Bool} {Q : Value → Shared → Prop}
    (h1 : Has B n x (instObj C dx)) (h2 : Has B n dx (dictOf es k)) (ha : attrOk K C name = true) (hl : getL name es = some (some v)) (hv : handedIn v = true) (h : ∀ s', St o B env l c n s' → Q v s') :
    wpAny (model prog w) A (getAttr (.ref x) name expr) Q E s := by
  simp only [attrOk, Bool.and_eq_true] at ha
  obtain ⟨⟨a1, a2⟩, a3⟩ := ha
  split at a3
  · rename_i a e
    exact get_own S.fr T.kin (S.inst h1 h2) a1 a2 e a3 hl hv (h _ (S.tok _))
  · cases a3
theorem r_meth (S : St o B env l c n s) (T : Base K mg mb B) {x C dx f : Addr} {es : List DictEntry} {k : Nat} {name : Str} {pl : Sem Bool} {Q : Value × List Value → Shared → Prop}
    (h1 : Has B n x (instObj C dx)) (h2 : Has B n dx (dictOf es k)) (ha : methOk K C name f = true) (hl : getL name es = some none) (h : Q (.ref f, [.ref x]) s) :
    wpAny (model prog w) A (getMethod (.ref x) name pl) Q E s := by
  simp only [methOk, Bool.and_eq_true, beq_iff_eq] at ha
  obtain ⟨⟨a1, a2⟩, a3⟩ := ha
  exact method_inst S.fr T.kin (S.inst h1 h2) a1 a2 a3 hl h

theorem r_setattr (S : St o B env l c n s) (T : Base K mg mb B) {x C dx : Addr} {es : List DictEntry} {es' : Tok → List DictEntry} {k k' : Nat} {name : Str} {v : Value} {n' : Tok → Ledg} {Q : Unit → Shared → Prop}
    (h1 : Has B n x (instObj C dx)) (h2 : (dx, dictOf es k) ∈ n) (ha : setOk K C name = true) (hl : (getL name es).isSome = true)
    (he : ∀ t, (putL name (PyData.keyHash w.params name) (.str name t) v es, putN name es k) = (es' t, k')) (hp : ∀ t, Put (dx, dictOf es k) (dx, dictOf (es' t) k') n (n' t)) (hz : ∀ t, (es' t).length ≤ 1000)
    (h : ∀ t s', St o B env l c (n' t) s' → Q () s') :
    wpAny (model prog w) A (setAttr (.ref x) name v) Q E s := by
  simp only [setOk, Bool.and_eq_true, beq_iff_eq] at ha
  obtain ⟨⟨⟨a1, a2⟩, a3⟩, a4⟩ := ha
  exact set_dict S.fr T.kin S.nw (S.inst h1 (.inl h2)) rfl a1 a2 a3 a4 hl (he _) ((hp _).upd S.ord) (hz _) fun h' F' N' => h (s.toks + 1) _ (S.mk' (hp _) F' N' fun v => by simp)

theorem r_append (S : St o B env l c n s) {a : Addr} {vs : Array Value} {k : Nat} {v : Value} {Q : Value → Shared → Prop} (hp : Put (a, listOf vs k) (a, listOf (vs.push v) (k + 1)) n n') (hz : vs.size ≤ sizeLine) (h : ∀ s', St o B env l c n' s' → Q .none s') :
    wpAny (model prog w) A (call (.builtin "list.append") [.ref a, v]) Q E s :=
  append_at (hsz := hz) (S.nw.get hp.mem) fun h' hs ho => h _ (S.upd (t := s.toks) hp hs ho fun v => by simp)

theorem r_newList (S : St o B env l c n s) {vs : List Value} {Q : Value → Shared → Prop} (hz : vs.length ≤ sizeLine) (h : ∀ a s', St o B env l c ((a, listOf vs.toArray 0) :: n) s' → Q (.ref a) s') : wpAny (model prog w) A (newList vs) Q E s :=
  wpAny_newObj_type (h _ _ (S.push (listOf vs.toArray 0))) (by show vs.toArray.size ≤ sizeLine; rw [List.size_toArray]; exact hz)
theorem r_newTuple (S : St o B env l c n s) {vs : List Value} {Q : Value → Shared → Prop} (hz : vs.length ≤ sizeLine) (h : ∀ a s', St o B env l c ((a, { cls := .type "tuple", data := .seq vs.toArray }) :: n) s' → Q (.ref a) s') : wpAny (model prog w) A (newTuple vs) Q E s :=
  wpAny_newObj_type (h _ _ (S.push { cls := .type "tuple", data := .seq vs.toArray })) (by show vs.toArray.size ≤ sizeLine; rw [List.size_toArray]; exact hz)

theorem r_callF (S : St o B env l c n s) (T : Base K mg mb B) {pos : Pos} {f : Addr} {first : List Value} {e : Expr} {rest : List Expr} {Q : Value → Shared → Prop} (hk : keepIn K (.ref f) = true)
    (h : wpAny (model prog w) A (spliced (backTo pos (starEach (e :: rest) env))) (fun vs s₁ => K.In s₁.heap ∧ wpAny (model prog w) A (call (.ref f) (first ++ vs)) Q E s₁) E s)
    (he : starEach (e :: rest) env = (false, eval e env) :: starEach rest env := by rfl) (hplain : (backTo pos (starEach rest env)).any (·.1) = false := by rfl) :
    wpAny (model prog w) A (callWith pos (.ref f) first (backTo pos (starEach (e :: rest) env)) []) Q E s := callWith_K T.kin hk h he hplain
theorem r_callF0 (S : St o B env l c n s) (T : Base K mg mb B) {pos : Pos} {f : Addr} {first : List Value} {Q : Value → Shared → Prop} (hk : keepIn K (.ref f) = true)
    (h : wpAny (model prog w) A (call (.ref f) (first ++ [])) Q E s) : wpAny (model prog w) A (callWith pos (.ref f) first (backTo pos (starEach [] env)) []) Q E s := callWith_K0 (T.kin.keeps S.fr.keep) hk h
theorem r_argsK (S : St o B env l c n s) (T : Base K mg mb B) {P : Prop} (h : P) : K.In s.heap ∧ P := ⟨T.kin.keeps S.fr.keep, h⟩
theorem r_callB {pos : Pos} {id : String} {first : List Value} {e : Expr} {rest : List Expr} {Q : Value → Shared → Prop}
    (h : wpAny (model prog w) A (spliced (backTo pos (starEach (e :: rest) env))) (fun vs s₁ => wpAny (model prog w) A (call (.builtin id) (first ++ vs)) Q E s₁) E s)
    (he : starEach (e :: rest) env = (false, eval e env) :: starEach rest env := by rfl) (hplain : (backTo pos (starEach (e :: rest) env)).any (·.1) = false := by rfl) :
    wpAny (model prog w) A (callWith pos (.builtin id) first (backTo pos (starEach (e :: rest) env)) []) Q E s := by
  refine callWith_builtin hplain ?_
  rw [he] at h ⊢
  exact evalArgs_plain h
theorem r_itemsN {pos : Pos} {Q : List Value → Shared → Prop} (h : Q [] s) : wpAny (model prog w) A (spliced (backTo pos (starEach [] env))) Q E s := wpAny_items_nil h

theorem r_lenInts (S : St o B env l c n s) {a : Addr} {vs : List Value} {k : Nat} {ns : List Int} {Q : Value → Shared → Prop} (hl : Has B n a (listOf vs.toArray k)) (hi : IntsAre vs ns) (hz : ns.length < 2 ^ 62) (h : ∀ t s', St o B env l c n s' → Q (.int ns.length t) s') :
    wpAny (model prog w) A (call (.builtin "len") [.ref a]) Q E s := len_ints_fit (S.isList hl) hi hz (h _ _ (S.tok _))

theorem pylong_small {a b : Int} (h : b.natAbs < 2 ^ 64) : Builtin.divisionGoesByPylong a b = false := by
  unfold Builtin.divisionGoesByPylong
  have : ¬ ((if (b == 0) = true then 0 else b.natAbs.log2 / 30 + 1) > 300) := by
    split
    · omega
    · rename_i hb
      have : b.natAbs ≠ 0 := by
        intro e; apply hb; rw [Int.natAbs_eq_zero.mp e]; rfl
      have := (Nat.log2_lt this).mpr h
      omega
  simp only [this, decide_false, Bool.false_and]
end
end
section
open PySem PySem.W PySem.Calls PyProof.Rows
section
variable {K : Frag} {mg mb : Str → Option Value} {prog : Program} {w : World} {A : Around} {E : Value → Shared → Prop} {o : OsP} {B : Heap} {env : Env} {l l' : Vars} {c c' : Cels} {n n' pre post : Ledg} {s s' : Shared} {R : Result → Shared → Prop}

theorem x_assign {x : Str} {pos' : Pos} {value : Expr} {pos : Pos} {Q : Flow → Shared → Prop} (hs : swapsWith value (some (.Name x pos')) pos.line env = pure false)
    (h : wpAny (model prog w) A (eval value env) (fun v s₁ => wpAny (model prog w) A (storeName env x v) (fun _ => Q .next) E s₁) E s) : wpAny (model prog w) A (exec (.Assign [.Name x pos'] value pos) env) Q E s := wpAny_Assign_Name h hs
theorem x_assignA {ob : Expr} {attr : Str} {pos' : Pos} {value : Expr} {pos : Pos} {Q : Flow → Shared → Prop} (hs : swapsWith value (some (ob.Attribute attr pos')) pos.line env = pure false)
    (h : wpAny (model prog w) A (eval value env) (fun v s₁ => wpAny (model prog w) A (eval ob env) (fun ov s₂ => wpAny (model prog w) A (setAttr ov attr v) (fun _ => Q .next) E s₂) E s₁) E s) : wpAny (model prog w) A (exec (.Assign [ob.Attribute attr pos'] value pos) env) Q E s := plainObj_wpAny_Assign_Attribute h hs
theorem x_expr {e : Expr} {pos : Pos} {Q : Flow → Shared → Prop} (hi : interactive env = false) (hs : swapsWith e none pos.line env = pure false)
    (h : wpAny (model prog w) A (eval e env) (fun v s' => v = .none ∧ Q .next s') E s) : wpAny (model prog w) A (exec (.Expr e pos) env) Q E s :=
  wpAny_Expr (wpAny_mono h (fun v s' ⟨e, q⟩ => by subst e; exact q) fun _ _ x => x) hi hs
theorem x_none {P : Prop} (h : P) : (Value.none = Value.none) ∧ P := ⟨rfl, h⟩
theorem x_cmp {l : Expr} {op : CmpOp} {r : Expr} {pos : Pos} {Q : Value → Shared → Prop} (hm : behindInMarks op r = false)
    (h : wpAny (model prog w) A (eval l env) (fun a s₁ => wpAny (model prog w) A (eval r env) (fun b s₂ => wpAny (model prog w) A (compareOp op a b) Q E s₂) E s₁) E s) : wpAny (model prog w) A (eval (.Compare l [op] [r] pos) env) Q E s := wpAny_Compare1 h hm
theorem x_tcmp {l : Expr} {op : CmpOp} {r : Expr} {pos : Pos} {whole : Sem Value} {Q : Bool → Shared → Prop} (hm : behindInMarks op r = false)
    (h : wpAny (model prog w) A (eval l env) (fun a s₁ => wpAny (model prog w) A (eval r env) (fun b s₂ => wpAny (model prog w) A (compareOp op a b) (fun c s₃ => wpAny (model prog w) A (truthy c) Q E s₃) E s₂) E s₁) E s) :
    wpAny (model prog w) A (isTrue (.Compare l [op] [r] pos) env whole) Q E s := wpAny_isTrue_Compare1 h hm
theorem x_tplain {e : Expr} {whole : Sem Value} {Q : Bool → Shared → Prop} (he : isTrue e env whole = (do let v ← whole; standAt e.pos; holding [v] (truthy v)))
    (h : wpAny (model prog w) A whole (fun v s₁ => wpAny (model prog w) A (truthy v) Q E s₁) E s) : wpAny (model prog w) A (isTrue e env whole) Q E s := isTrue_plain h he
theorem x_attr {value : Expr} {attr : Str} {pos : Pos} {Q : Value → Shared → Prop}
    (he : eval (.Attribute value attr pos) env = (do
      let o ← eval value env
      standAt pos.atName
      let r ← holding [o] (getAttr o attr true)
      letTemporaryGo value o r
      pure r))
    (h : wpAny (model prog w) A (eval value env) (fun o s₁ => wpAny (model prog w) A (getAttr o attr true) Q E s₁) E s) : wpAny (model prog w) A (eval (.Attribute value attr pos) env) Q E s := Attribute_any_ h he
theorem x_meth {ob : Expr} {name : Str} {apos pos : Pos} {args : List Expr} {Q : Value → Shared → Prop}
    (he : eval ((ob.Attribute name apos).Call args [] pos) env = (do
      let ov ← eval ob env
      standAt apos.atName
      let __x ← holding [ov] (getMethod ov name (do return (← importBound ob env).getD true))
      match __x with
        | (f, first) => callWith pos f first (backTo pos (starEach args env)) []))
    (h : wpAny (model prog w) A (eval ob env) (fun ov s₁ => wpAny (model prog w) A (getMethod ov name (do return (← importBound ob env).getD true)) (fun fx s₂ => wpAny (model prog w) A (callWith pos fx.1 fx.2 (backTo pos (starEach args env)) []) Q E s₂) E s₁) E s) :
    wpAny (model prog w) A (eval ((ob.Attribute name apos).Call args [] pos) env) Q E s := MethodCall_ h he
theorem x_call {func : Expr} {args : List Expr} {pos : Pos} {Q : Value → Shared → Prop}
    (he : eval (func.Call args [] pos) env = (do callWith pos (← eval func env) [] (backTo pos (starEach args env)) (backToKw pos (keywordEach [] env))))
    (h : wpAny (model prog w) A (eval func env) (fun f s₁ => wpAny (model prog w) A (callWith pos f [] (backTo pos (starEach args env)) []) Q E s₁) E s) : wpAny (model prog w) A (eval (func.Call args [] pos) env) Q E s := Call_ h he
theorem x_items {pos : Pos} {e : Expr} {rest : List Expr} {Q : List Value → Shared → Prop} (he : starEach (e :: rest) env = (false, eval e env) :: starEach rest env)
    (h : wpAny (model prog w) A (eval e env) (fun v s₁ => wpAny (model prog w) A (spliced (backTo pos (starEach rest env))) (fun vs s₂ => Q (v :: vs) s₂) E s₁) E s) : wpAny (model prog w) A (spliced (backTo pos (starEach (e :: rest) env))) Q E s := wpAny_items_cons h he
theorem x_callF (T : Base K mg mb B) {pos : Pos} {f : Addr} {first : List Value} {e : Expr} {rest : List Expr} {Q : Value → Shared → Prop} (hk : keepIn K (.ref f) = true)
    (he : starEach (e :: rest) env = (false, eval e env) :: starEach rest env) (hplain : (backTo pos (starEach rest env)).any (·.1) = false)
    (h : wpAny (model prog w) A (spliced (backTo pos (starEach (e :: rest) env))) (fun vs s₁ => K.In s₁.heap ∧ wpAny (model prog w) A (call (.ref f) (first ++ vs)) Q E s₁) E s) :
    wpAny (model prog w) A (callWith pos (.ref f) first (backTo pos (starEach (e :: rest) env)) []) Q E s := callWith_K T.kin hk h he hplain
theorem x_callB {pos : Pos} {id : String} {first : List Value} {e : Expr} {rest : List Expr} {Q : Value → Shared → Prop}
    (he : starEach (e :: rest) env = (false, eval e env) :: starEach rest env) (hplain : (backTo pos (starEach (e :: rest) env)).any (·.1) = false)
    (h : wpAny (model prog w) A (spliced (backTo pos (starEach (e :: rest) env))) (fun vs s₁ => wpAny (model prog w) A (call (.builtin id) (first ++ vs)) Q E s₁) E s) :
    wpAny (model prog w) A (callWith pos (.builtin id) first (backTo pos (starEach (e :: rest) env)) []) Q E s := r_callB h he hplain
theorem x_augA {ob value : Expr} {attr : Str} {tpos pos : Pos} {op : Operator} {Q : Flow → Shared → Prop}
    (h : wpAny (model prog w) A (eval ob env) (fun ov s₁ => wpAny (model prog w) A (getAttr ov attr true) (fun old s₂ => wpAny (model prog w) A (eval value env) (fun v s₃ => wpAny (model prog w) A (inplaceOp op old v)
      (fun new s₄ => wpAny (model prog w) A (setAttr ov attr new) (fun _ => Q .next) E s₄) E s₃) E s₂) E s₁) E s) : wpAny (model prog w) A (exec (.AugAssign (ob.Attribute attr tpos) op value pos) env) Q E s := wpAny_AugAssign_AttributeAny h
theorem x_augS {ob i value : Expr} {tpos pos : Pos} {op : Operator} {Q : Flow → Shared → Prop}
    (ha : ∀ ov iv new : Value, augStore i ov iv new = (do holding [new, ov, iv] (setItem ov iv new); release [new, ov, iv] []; pure .next))
    (h : wpAny (model prog w) A (eval ob env) (fun ov s₁ => wpAny (model prog w) A (eval i env) (fun iv s₂ => wpAny (model prog w) A (getItem ov iv) (fun old s₃ => wpAny (model prog w) A (eval value env) (fun v s₄ => wpAny (model prog w) A (inplaceOp op old v)
      (fun new s₅ => wpAny (model prog w) A (setItem ov iv new) (fun _ => Q .next) E s₅) E s₄) E s₃) E s₂) E s₁) E s) : wpAny (model prog w) A (exec (.AugAssign (ob.Subscript i tpos) op value pos) env) Q E s := wpAny_AugAssign_SubscriptAny h ha
theorem x_if {test : Expr} {body orelse : List Stmt} {pos : Pos} {Q : Flow → Shared → Prop}
    (h : wpAny (model prog w) A (isTrue test env (eval test env)) (fun b s₂ => if b = true then wpAny (model prog w) A (execs body env) Q E s₂ else wpAny (model prog w) A (execs orelse env) Q E s₂) E s) :
    wpAny (model prog w) A (exec (.If test body orelse pos) env) Q E s := wpAny_If h
theorem x_aug {x : Str} {pos' : Pos} {op : Operator} {value : Expr} {pos : Pos} {Q : Flow → Shared → Prop}
    (h : wpAny (model prog w) A (loadName env x) (fun old s₁ => wpAny (model prog w) A (eval value env) (fun v s₂ => wpAny (model prog w) A (inplaceOp op old v) (fun r s₃ => wpAny (model prog w) A (storeName env x r) (fun _ => Q .next) E s₃) E s₂) E s₁) E s) :
    wpAny (model prog w) A (exec (.AugAssign (.Name x pos') op value pos) env) Q E s := wpAny_AugAssign_Name h
theorem x_retE {e : Expr} {pos : Pos} {Q : Flow → Shared → Prop} (h : wpAny (model prog w) A (eval e env) (fun v => Q (.ret v)) E s) : wpAny (model prog w) A (exec (.Return (some e) pos) env) Q E s := wpAny_Return_some h
theorem x_bin {l : Expr} {op : Operator} {r : Expr} {pos : Pos} {Q : Value → Shared → Prop}
    (h : wpAny (model prog w) A (eval l env) (fun a s₁ => wpAny (model prog w) A (eval r env) (fun b s₂ => wpAny (model prog w) A (binaryOp op a b) Q E s₂) E s₁) E s) : wpAny (model prog w) A (eval (l.BinOp op r pos) env) Q E s := wpAny_BinOp h
theorem x_sub {value slice : Expr} {pos : Pos} {Q : Value → Shared → Prop}
    (h : wpAny (model prog w) A (eval value env) (fun o s₁ => wpAny (model prog w) A (eval slice env) (fun i s₂ => wpAny (model prog w) A (subscriptTail value slice o i) Q E s₂) E s₁) E s) : wpAny (model prog w) A (eval (value.Subscript slice pos) env) Q E s := Subscript_ h
theorem x_truthyB {b : Bool} {Q : Bool → Shared → Prop} (h : Q b s) : wpAny (model prog w) A (truthy (.bool b)) Q E s := wpAny_truthy_bool h
theorem x_items0 {pos : Pos} {Q : List Value → Shared → Prop} (h : Q [] s) : wpAny (model prog w) A (spliced (backTo pos (starEach [] env))) Q E s := wpAny_items_nil h

theorem x_lt {a b : Int} {t u : Tok} {Q : Value → Shared → Prop} (h : Q (.bool (decide (a < b))) s) : wpAny (model prog w) A (compareOp .Lt (.int a t) (.int b u)) Q E s := lt_int h
theorem x_le {a b : Int} {t u : Tok} {Q : Value → Shared → Prop} (h : Q (.bool (decide (a ≤ b))) s) : wpAny (model prog w) A (compareOp .LtE (.int a t) (.int b u)) Q E s := le_int h
theorem x_gt {a b : Int} {t u : Tok} {Q : Value → Shared → Prop} (h : Q (.bool (decide (b < a))) s) : wpAny (model prog w) A (compareOp .Gt (.int a t) (.int b u)) Q E s := gt_int h
theorem x_ge {a b : Int} {t u : Tok} {Q : Value → Shared → Prop} (h : Q (.bool (decide (b ≤ a))) s) : wpAny (model prog w) A (compareOp .GtE (.int a t) (.int b u)) Q E s := ge_int h
theorem x_eq {a b : Int} {t u : Tok} {Q : Value → Shared → Prop} (h : Q (.bool (decide (a = b))) s) : wpAny (model prog w) A (compareOp .Eq (.int a t) (.int b u)) Q E s := eq_int h
theorem x_ne {a b : Int} {t u : Tok} {Q : Value → Shared → Prop} (h : Q (.bool (decide (¬ a = b))) s) : wpAny (model prog w) A (compareOp .NotEq (.int a t) (.int b u)) Q E s := ne_int (by
  have : (a != b) = decide (¬ a = b) := by simp [bne, BEq.beq]
  rw [this]; exact h)

theorem x_callB0 {pos : Pos} {id : String} {e : Expr} {rest : List Expr} {Q : Value → Shared → Prop}
    (he : starEach (e :: rest) env = (false, eval e env) :: starEach rest env) (hplain : (backTo pos (starEach (e :: rest) env)).any (·.1) = false)
    (h : wpAny (model prog w) A (spliced (backTo pos (starEach (e :: rest) env))) (fun vs s₁ => wpAny (model prog w) A (call (.builtin id) vs) Q E s₁) E s) :
    wpAny (model prog w) A (callWith pos (.builtin id) [] (backTo pos (starEach (e :: rest) env)) []) Q E s := r_callB h he hplain
theorem x_callB1 {pos : Pos} {id : String} {a : Value} {e : Expr} {rest : List Expr} {Q : Value → Shared → Prop}
    (he : starEach (e :: rest) env = (false, eval e env) :: starEach rest env) (hplain : (backTo pos (starEach (e :: rest) env)).any (·.1) = false)
    (h : wpAny (model prog w) A (spliced (backTo pos (starEach (e :: rest) env))) (fun vs s₁ => wpAny (model prog w) A (call (.builtin id) (a :: vs)) Q E s₁) E s) :
    wpAny (model prog w) A (callWith pos (.builtin id) [a] (backTo pos (starEach (e :: rest) env)) []) Q E s := r_callB h he hplain
theorem x_callF0 (T : Base K mg mb B) {pos : Pos} {f : Addr} {e : Expr} {rest : List Expr} {Q : Value → Shared → Prop} (hk : keepIn K (.ref f) = true)
    (he : starEach (e :: rest) env = (false, eval e env) :: starEach rest env) (hplain : (backTo pos (starEach rest env)).any (·.1) = false)
    (h : wpAny (model prog w) A (spliced (backTo pos (starEach (e :: rest) env))) (fun vs s₁ => K.In s₁.heap ∧ wpAny (model prog w) A (call (.ref f) vs) Q E s₁) E s) :
    wpAny (model prog w) A (callWith pos (.ref f) [] (backTo pos (starEach (e :: rest) env)) []) Q E s := callWith_K T.kin hk h he hplain
theorem x_callF1 (T : Base K mg mb B) {pos : Pos} {f : Addr} {a : Value} {e : Expr} {rest : List Expr} {Q : Value → Shared → Prop} (hk : keepIn K (.ref f) = true)
    (he : starEach (e :: rest) env = (false, eval e env) :: starEach rest env) (hplain : (backTo pos (starEach rest env)).any (·.1) = false)
    (h : wpAny (model prog w) A (spliced (backTo pos (starEach (e :: rest) env))) (fun vs s₁ => K.In s₁.heap ∧ wpAny (model prog w) A (call (.ref f) (a :: vs)) Q E s₁) E s) :
    wpAny (model prog w) A (callWith pos (.ref f) [a] (backTo pos (starEach (e :: rest) env)) []) Q E s := callWith_K T.kin hk h he hplain
theorem x_callF00 (S : St o B env l c n s) (T : Base K mg mb B) {pos : Pos} {f : Addr} {Q : Value → Shared → Prop} (hk : keepIn K (.ref f) = true)
    (h : wpAny (model prog w) A (call (.ref f) []) Q E s) : wpAny (model prog w) A (callWith pos (.ref f) [] (backTo pos (starEach [] env)) []) Q E s := callWith_K0 (T.kin.keeps S.fr.keep) hk h
theorem x_callF10 (S : St o B env l c n s) (T : Base K mg mb B) {pos : Pos} {f : Addr} {a : Value} {Q : Value → Shared → Prop} (hk : keepIn K (.ref f) = true)
    (h : wpAny (model prog w) A (call (.ref f) [a]) Q E s) : wpAny (model prog w) A (callWith pos (.ref f) [a] (backTo pos (starEach [] env)) []) Q E s := callWith_K0 (T.kin.keeps S.fr.keep) hk h

theorem r_methAppend (S : St o B env l c n s) {a : Addr} {vs : Array Value} {k : Nat} {pl : Sem Bool} {Q : Value × List Value → Shared → Prop} (hm : (a, listOf vs k) ∈ n) (h : Q (.builtin "list.append", [.ref a]) s) :
    wpAny (model prog w) A (getMethod (.ref a) "append" pl) Q E s := listMethod_K S.nw hm PySem.F.slot_list_append PySem.F.type_list_append h

theorem r_appendI (S : St o B env l c n s) {a : Addr} {vs : List Value} {ns : List Int} {k : Nat} {i : Int} {t : Tok} {n' : List Value → Ledg} {Q : Value → Shared → Prop} (hi : IntsAre vs ns) (hz : ns.length ≤ 1000000)
    (hp : ∀ vs', Put (a, listOf vs.toArray k) (a, listOf vs'.toArray (k + 1)) n (n' vs')) (h : ∀ vs' s', IntsAre vs' (ns ++ [i]) → St o B env l c (n' vs') s' → Q .none s') :
    wpAny (model prog w) A (call (.builtin "list.append") [.ref a, .int i t]) Q E s :=
  r_append (vs := vs.toArray) (k := k) (n' := n' (vs ++ [.int i t])) S (by rw [List.push_toArray]; exact hp (vs ++ [.int i t])) (by rw [List.size_toArray, hi.length, sizeLine_eq]; omega) fun s' S' => h _ _ (hi.append (.cons _ _ .nil)) S'

theorem r_getI (S : St o B env l c n s) {a : Addr} {vs : List Value} {ns : List Int} {k : Nat} {i : Int} {u : Tok} {Q : Value → Shared → Prop} (hl : Has B n a (listOf vs.toArray k)) (hi : IntsAre vs ns) (h0 : 0 ≤ i) (h1 : i < ns.length) (h2 : i < 2 ^ 63)
    (h : ∀ t, Q (.int (ns.getD i.toNat 0) t) s) : wpAny (model prog w) A (getItem (.ref a) (.int i u)) Q E s := getItem_intsK (S.isList hl) hi h0 h1 h2 h
theorem r_itemI (S : St o B env l c n s) {value slice : Expr} {a : Addr} {vs : List Value} {ns : List Int} {k : Nat} {i : Int} {u : Tok} {Q : Value → Shared → Prop} (hs : subscripted slice false (.ref a) (.int i u) = operate [.ref a, .int i u] (getItem (.ref a) (.int i u)))
    (hl : Has B n a (listOf vs.toArray k)) (hi : IntsAre vs ns) (h0 : 0 ≤ i) (h1 : i < ns.length) (h2 : i < 2 ^ 63)
    (h : ∀ t, Q (.int (ns.getD i.toNat 0) t) s) : wpAny (model prog w) A (subscriptTail value slice (.ref a) (.int i u)) Q E s :=
  tail_any (S.isList hl).typeIs slot_list_getitem.lookup (getItem_intsK (S.isList hl) hi h0 h1 h2 h) hs

theorem ki_setL_some : ∀ {l : List Value} {k : Nat} {v : Value}, k < l.length → ki_setL l k v = some (l.set k v)
  | x :: r, 0, v, _ => rfl
  | x :: r, k + 1, v, h => by
    unfold ki_setL
    rw [ki_setL_some (Nat.lt_of_succ_lt_succ h)]
    rfl
theorem r_setI (S : St o B env l c n s) {a : Addr} {vs : List Value} {ns : List Int} {k : Nat} {i x : Int} {u t : Tok} {n' : List Value → Ledg} {Q : Unit → Shared → Prop} (hi : IntsAre vs ns) (h0 : 0 ≤ i) (h1 : i < ns.length) (h2 : i < 2 ^ 63)
    (hp : ∀ vs', Put (a, listOf vs.toArray k) (a, listOf vs'.toArray k) n (n' vs')) (h : ∀ vs' s', IntsAre vs' (ns.set i.toNat x) → St o B env l c (n' vs') s' → Q () s') :
    wpAny (model prog w) A (setItem (.ref a) (.int i u) (.int x t)) Q E s :=
  ki_set (its := vs.toArray) (n := k) (q := vs.set i.toNat (.int x t)) S.fr S.nw h0 h2 (ki_setL_some (by rw [hi.length]; omega)) ((hp _).upd S.ord) fun h' F' N' => h _ _ (ints_set hi _) (S.mk' (t := s.toks) (hp _) F' N' fun v => by simp)
end
end
section
open PySem PySem.W PySem.Calls PyProof.Rows
/-- an iterator: what it hands out, turn by turn -/
structure Iter (prog : Program) (w : World) (A : Around) (it : Addr) (N : Nat) (itP : Nat → Obj → Prop) (item : Nat → Value → Prop) (needs : Heap → Prop) : Prop where
  nocell : ∀ i ob, itP i ob → cellE ob = false
  step : ∀ i (s : Shared) ob (Q : Option Value → Shared → Prop) (E : Value → Shared → Prop), i < N → s.heap.get? it = some ob → itP i ob → needs s.heap →
    (∀ v h' tk ob', item i v → h'.get? it = some ob' → itP (i + 1) ob' → Heap.SameBut it s.heap h' → Q (some v) { s with heap := h', toks := tk }) → wpAny (model prog w) A (pyNext (.ref it)) Q E s
  fin : ∀ (s : Shared) ob (Q : Option Value → Shared → Prop) (E : Value → Shared → Prop), s.heap.get? it = some ob → itP N ob → needs s.heap →
    (∀ h' tk, Heap.ExtBut it s.heap h' → Q none { s with heap := h', toks := tk }) → wpAny (model prog w) A (pyNext (.ref it)) Q E s

def listItP (a : Addr) (i : Nat) (ob : Obj) : Prop := ob.cls = .type "list_iterator" ∧ ob.data = .fields #[.ref a, .int (i : Int) 0]
def rangeItP (a st : Int) (N : Nat) (i : Nat) (ob : Obj) : Prop := ob = { cls := .type "range_iterator", data := .fields #[rawInt (a + i * st), rawInt ((N : Int) - i), rawInt st] }
def tupItP (a : Addr) (i : Nat) (ob : Obj) : Prop := ob.cls = .type "tuple_iterator" ∧ ob.data = .fields #[.ref a, .int (i : Int) 0]

section
variable {K : Frag} {mg mb : Str → Option Value} {prog : Program} {w : World} {A : Around} {E : Value → Shared → Prop} {o : OsP} {B : Heap} {env : Env} {l l' : Vars} {c c' : Cels} {n n' pre post : Ledg} {s s' : Shared} {R : Result → Shared → Prop}

theorem cellE_of_fields {ob : Obj} {vs : Array Value} (h : ob.data = .fields vs) : cellE ob = false := by unfold cellE; rw [h]
theorem cellE_no {ob : Obj} (h : cellE ob = false) : ∀ v, ob.data ≠ .cell v := fun v e => by unfold cellE at h; rw [e] at h; cases h

theorem iter_list (hh : A.handled = none) {it a : Addr} (items : List Value) : Iter prog w A it items.length (listItP a) (fun i v => items[i]? = some v) (fun h => h.IsList a items.toArray) where
  nocell := fun _ _ h => cellE_of_fields h.2
  step := fun i s ob Q E hi hg hp hn h => by
    refine wpAny_pyNext_list_item (l := a) (i := i) (items := items.toArray) (x := items[i]) ⟨ob, hg, hp.1, hp.2⟩ hn (by simp [hi]) fun h' hit hs => ?_
    obtain ⟨ob', g, c, d⟩ := hit
    exact h _ h' s.toks ob' (by simp [hi]) g ⟨c, d⟩ hs
  fin := fun s ob Q E hg hp hn h => wpAny_pyNext_list_end (l := a) hh ⟨ob, hg, hp.1, hp.2⟩ hn (by simp) fun h' he => h h' s.toks he

theorem iter_tuple (hh : A.handled = none) {it a : Addr} (items : List Value) : Iter prog w A it items.length (tupItP a) (fun i v => items[i]? = some v) (fun h => h.IsTuple a items.toArray) where
  nocell := fun _ _ h => cellE_of_fields h.2
  step := fun i s ob Q E hi hg hp hn h => by
    refine wpAny_pyNext_tuple_item (t := a) (i := i) (items := items.toArray) (x := items[i]) ⟨ob, hg, hp.1, hp.2⟩ hn (by simp [hi]) fun h' hit hs => ?_
    obtain ⟨ob', g, c, d⟩ := hit
    exact h _ h' s.toks ob' (by simp [hi]) g ⟨c, d⟩ hs
  fin := fun s ob Q E hg hp hn h => wpAny_pyNext_tuple_end (t := a) hh ⟨ob, hg, hp.1, hp.2⟩ hn (by simp) fun h' he => h h' s.toks he

theorem iter_range (hh : A.handled = none) {it : Addr} (a st : Int) (N : Nat) : Iter prog w A it N (rangeItP a st N) (fun i v => ∃ t, v = .int (a + i * st) t) (fun _ => True) where
  nocell := fun _ _ h => by subst h; rfl
  step := fun i s ob Q E hi hg hp hn h => by
    unfold rangeItP at hp
    subst hp
    refine wpAny_pyNext_range_item (x := a + i * st) (left := (N : Int) - i) (step := st) hg (by omega) fun h' hit hs => ?_
    refine h _ h' (s.toks + 1) _ ⟨_, rfl⟩ hit ?_ hs
    unfold rangeItP
    have e1 : a + (i : Int) * st + st = a + ((i + 1 : Nat) : Int) * st := by rw [Int.natCast_succ, Int.add_mul]; omega
    have e2 : (N : Int) - i - 1 = (N : Int) - ((i + 1 : Nat) : Int) := by omega
    rw [e1, e2]
  fin := fun s ob Q E hg hp hn h => by
    unfold rangeItP at hp
    subst hp
    exact wpAny_pyNext_range_end (x := a + N * st) (left := (N : Int) - N) (step := st) hh hg (by omega) fun h' he => h h' s.toks he

/-- an entry of the ledger is let go -/
theorem St.extBut {it : Addr} {ob : Obj} {hi lo : Ledg} (S : St o B env l c (hi ++ (it, ob) :: lo) s) (hc : cellE ob = false) {h' : Heap} {tk : Nat} (he : Heap.ExtBut it s.heap h') : St o B env l c (hi ++ lo) { s with heap := h', toks := tk } := by
  have z := S.nw (it, ob) (by simp)
  have ho := S.ord
  rw [List.map_append, List.map_cons, List.pairwise_append] at ho
  have ne : ∀ p ∈ hi ++ lo, p.1 ≠ it := fun p hp => by
    rcases List.mem_append.mp hp with hp | hp
    · exact Nat.ne_of_gt (ho.2.2 p.1 (List.mem_map_of_mem hp) it (.head _))
    · exact Nat.ne_of_lt ((List.pairwise_cons.mp ho.2.1).1 p.1 (List.mem_map_of_mem hp))
  have sub : (hi ++ lo).Sublist (hi ++ (it, ob) :: lo) := List.Sublist.append (List.Sublist.refl _) (List.sublist_cons_self _ _)
  refine ⟨⟨S.fr.ns.extBut he (Ne.symm z.2.1), fun b ob' e => he b ob' (fun q => ?_) (S.fr.keep b ob' e), S.fr.above⟩, fun p hp => ⟨he _ _ (ne p hp) (S.nw p (sub.subset hp)).1, (S.nw p (sub.subset hp)).2⟩, S.ord.sublist (sub.map _), fun p hp => ?_, S.cnd, S.ev, S.os⟩
  · rw [q, z.2.2] at e; cases e
  · obtain ⟨c1, ob', hm, hd⟩ := S.cel p hp
    refine ⟨c1, ob', ?_, hd⟩
    rcases List.mem_append.mp hm with hm | hm
    · exact List.mem_append.mpr (.inl hm)
    · rcases List.mem_cons.mp hm with e | hm
      · cases e; exact absurd hd (cellE_no hc _)
      · exact List.mem_append.mpr (.inr hm)

/-- what a loop's code is to do -/
def LoopS (prog : Program) (w : World) (A : Around) (target : Expr) (body : List Stmt) (env : Env) (Q : Flow → Shared → Prop) (E : Value → Shared → Prop) (it : Value) (s : Shared) : Prop :=
  codeAny (model prog w) A (.forLoop target it body [] env) (fun r s' => match r with | .ok f => Q f s' | .error e => cameBackBy (model prog w) A env E e s') s

theorem x_for {target iter : Expr} {body : List Stmt} {pos : Pos} {Q : Flow → Shared → Prop} (hf : ∀ x : Value, foldedSetIterable iter env x = pure x)
    (h : wpAny (model prog w) A (eval iter env) (fun x s₁ => wpAny (model prog w) A (pyIter x) (LoopS prog w A target body env Q E) E s₁) E s) : wpAny (model prog w) A (exec (.For target iter body [] pos) env) Q E s := wpAny_For h hf

def TurnQ {X : Type} (o : OsP) (B : Heap) (env : Env) (it : Addr) (ob : Obj) (lF : Option Value → Nat → X → Vars) (cF : Nat → X → Cels) (hi lo : Nat → X → Ledg) (P : Nat → X → Prop) (Q : Flow → Shared → Prop) (i : Nat) (fl : Flow) (s' : Shared) : Prop := match fl with
  | .brk => Q .next s'
  | .ret v => Q (.ret v) s'
  | _ => ∃ y u, P (i + 1) y ∧ St o B env (lF u (i + 1) y) (cF (i + 1) y) (hi (i + 1) y ++ (it, ob) :: lo (i + 1) y) s'

theorem for_rule {X : Type} {it : Addr} {N : Nat} {x : Str} {px : Pos} {body : List Stmt} {itP : Nat → Obj → Prop} {item : Nat → Value → Prop} {needs : Heap → Prop} {Q : Flow → Shared → Prop}
    (lF : Option Value → Nat → X → Vars) (cF : Nat → X → Cels) (hi lo : Nat → X → Ledg) (P : Nat → X → Prop) (y₀ : X) {u₀ : Option Value} {ob₀ : Obj}
    (I : Iter prog w A it N itP item needs) (hob : itP 0 ob₀) (S : St o B env (lF u₀ 0 y₀) (cF 0 y₀) (hi 0 y₀ ++ (it, ob₀) :: lo 0 y₀) s) (h0 : P 0 y₀)
    (hput : ∀ u v i y, Put (x, u) (x, v) (lF u i y) (lF v i y))
    (hneeds : ∀ ob u i y s, St o B env (lF u i y) (cF i y) (hi i y ++ (it, ob) :: lo i y) s → needs s.heap)
    (turn : ∀ i y ob v s, i < N → P i y → item i v → itP (i + 1) ob → St o B env (lF (some v) i y) (cF i y) (hi i y ++ (it, ob) :: lo i y) s →
      wpAny (model prog w) A (execs body env) (TurnQ o B env it ob lF cF hi lo P Q i) (fun _ _ => False) s)
    (done : ∀ u y s, P N y → St o B env (lF u N y) (cF N y) (hi N y ++ lo N y) s → Q .next s) :
    LoopS prog w A (.Name x px) body env Q E (.ref it) s := by
  refine codeAny_forLoop (fun k s' => ∃ i y u ob, P i y ∧ itP i ob ∧ St o B env (lF u i y) (cF i y) (hi i y ++ (it, ob) :: lo i y) s' ∧ i ≤ N ∧ k = N - i) ?_ N ⟨0, y₀, u₀, ob₀, h0, hob, S, Nat.zero_le _, rfl⟩
  rintro k s' ⟨i, y, u, ob, hP, hob, S', hi', rfl⟩
  have hg := S'.nw.get (a := it) (o := ob) (by simp)
  have hn := hneeds _ _ _ _ _ S'
  have nc := I.nocell _ _ hob
  by_cases hlt : i < N
  · refine I.step i s' ob _ _ hlt hg hob hn fun v h' tk ob' hv hg' hob' hs => ?_
    have S₁ := S'.upd (t := tk) (Put.at (hi i y) (lo i y)) hs hg' (cellE_no nc)
    refine wpAny_assign_Name (r_store S₁ (hput u (some v) i y) fun s₂ S₂ => ?_)
    refine wpAny_mono (turn i y ob' v s₂ hlt hP hv hob' S₂) (fun fl s₃ ht => ?_) fun _ _ x => x.elim
    cases fl with
    | brk => exact ht
    | ret v => exact ht
    | next => obtain ⟨y', u', hp, st⟩ := ht; exact ⟨N - (i + 1), by omega, i + 1, y', u', ob', hp, hob', st, hlt, rfl⟩
    | cont => obtain ⟨y', u', hp, st⟩ := ht; exact ⟨N - (i + 1), by omega, i + 1, y', u', ob', hp, hob', st, hlt, rfl⟩
  · obtain rfl : i = N := by omega
    exact I.fin s' ob _ _ hg hob hn fun h' tk he => wpAny_execs_nil (done _ _ _ hP (S'.extBut nc he))

theorem r_iterList (S : St o B env l c n s) {a : Addr} {vs : List Value} {k : Nat} {Q : Value → Shared → Prop} (hl : Has B n a (listOf vs.toArray k)) (h : ∀ it ob s', listItP a 0 ob → St o B env l c ((it, ob) :: n) s' → Q (.ref it) s') : wpAny (model prog w) A (pyIter (.ref a)) Q E s :=
  wpAny_pyIter_list (S.isList hl) (h _ _ _ ⟨rfl, rfl⟩ (S.push { cls := .type "list_iterator", data := .fields #[.ref a, .int 0 0] }))
end
end
section
open PySem PySem.W PySem.Calls PyProof.Rows
def rangeOb (a b st : Int) (t u v : Tok) : Obj := { cls := .type "range", data := .fields #[.int a t, .int b u, .int st v] }

section
variable {K : Frag} {mg mb : Str → Option Value} {prog : Program} {w : World} {A : Around} {E : Value → Shared → Prop} {o : OsP} {B : Heap} {env : Env} {l l' : Vars} {c c' : Cels} {n n' pre post : Ledg} {s s' : Shared} {R : Result → Shared → Prop}

theorem x_callT {pos : Pos} {T : String} {e : Expr} {rest : List Expr} {Q : Value → Shared → Prop} (he : starEach (e :: rest) env = (false, eval e env) :: starEach rest env) (hplain : (backTo pos (starEach rest env)).any (·.1) = false)
    (h : wpAny (model prog w) A (spliced (backTo pos (starEach (e :: rest) env))) (fun vs s₁ => wpAny (model prog w) A (call (.type T) vs) Q E s₁) E s) :
    wpAny (model prog w) A (callWith pos (.type T) [] (backTo pos (starEach (e :: rest) env)) []) Q E s := Pv.callWith_type1 h he hplain

theorem r_range1 (S : St o B env l c n s) {b : Int} {t : Tok} {Q : Value → Shared → Prop} (h : ∀ a t₁ t₂ t₃ s', St o B env l c ((a, rangeOb 0 b 1 t₁ t₂ t₃) :: n) s' → Q (.ref a) s') : wpAny (model prog w) A (call (.type "range") [.int b t]) Q E s :=
  call_range_1 (h _ _ _ _ _ ((S.push (rangeOb 0 b 1 s.toks t (s.toks + 1))).tok _))
theorem r_range2 (S : St o B env l c n s) {a b : Int} {t u : Tok} {Q : Value → Shared → Prop} (h : ∀ r t₁ t₂ t₃ s', St o B env l c ((r, rangeOb a b 1 t₁ t₂ t₃) :: n) s' → Q (.ref r) s') : wpAny (model prog w) A (call (.type "range") [.int a t, .int b u]) Q E s :=
  call_range_2 (h _ _ _ _ _ ((S.push (rangeOb a b 1 t u s.toks)).tok _))
theorem r_range3 (S : St o B env l c n s) {a b st : Int} {t u v : Tok} {Q : Value → Shared → Prop} (hc : st ≠ 0) (hc' : st.natAbs < 2 ^ 64) (h : ∀ r t₁ t₂ t₃ s', St o B env l c ((r, rangeOb a b st t₁ t₂ t₃) :: n) s' → Q (.ref r) s') :
    wpAny (model prog w) A (call (.type "range") [.int a t, .int b u, .int st v]) Q E s :=
  call_range_3 hc (h _ _ _ _ _ (S.push (rangeOb a b st t u v))) (.inl (pylong_small hc'))

theorem r_iterRange {r : Addr} {a b st : Int} {t u v : Tok} {N : Nat} (S : St o B env l c ((r, rangeOb a b st t u v) :: n) s) {Q : Value → Shared → Prop} (hs : Builtin.Range.small a b st = true) (hN : Builtin.Range.rangeSize a b st = N)
    (h : ∀ it ob s', rangeItP a st N 0 ob → St o B env l c ((it, ob) :: n) s' → Q (.ref it) s') : wpAny (model prog w) A (pyIter (.ref r)) Q E s := by
  refine wpAny_pyIter_range (a := a) (b := b) (c := st) (t := t) (u := u) (v := v) (S.nw.get (.head _)) hs ?_
  have S' := S.push { cls := .type "range_iterator", data := .fields #[rawInt a, rawInt (Builtin.Range.rangeSize a b st), rawInt st] }
  refine h _ _ _ ?_ (S'.drop (.cons_cons _ (List.sublist_cons_self _ _)) fun p hp ob hm => ?_)
  · unfold rangeItP
    rw [hN]
    congr 3
    simp
  · rcases List.mem_cons.mp hm with e | hm
    · exact e ▸ .head _
    · rcases List.mem_cons.mp hm with e | hm
      · obtain ⟨_, ob', hm', hd⟩ := S.cel p hp
        exfalso
        cases e
        have h1 := S.nw _ hm'
        have h2 := S.nw.get (.head _)
        rw [h2] at h1
        have := Option.some.inj h1.1
        have hd' : (rangeOb a b st t u v).data = .cell p.2.2 := this ▸ hd
        cases hd'
      · exact .tail _ hm

theorem rangeSize_up {a b : Int} : Builtin.Range.rangeSize a b 1 = ((b - a).toNat : Int) := by
  rw [rangeSize_one]
  split <;> omega
theorem fits_of {x : Int} (h : x.natAbs < 2 ^ 62) : Builtin.Range.rangeFitsLong x = true := by
  unfold Builtin.Range.rangeFitsLong
  simp only [Bool.and_eq_true, decide_eq_true_eq]
  omega
theorem small_of {a b st : Int} (h1 : a.natAbs < 2 ^ 60) (h2 : b.natAbs < 2 ^ 60) (h3 : st.natAbs < 2 ^ 60) : Builtin.Range.small a b st = true := by
  have h4 : (Builtin.Range.rangeSize a b st).natAbs < 2 ^ 62 := by
    unfold Builtin.Range.rangeSize
    split
    · split
      · have h5 : (b - a - 1) / st ≤ b - a - 1 := Int.ediv_le_self _ (by omega)
        have h6 : 0 ≤ (b - a - 1) / st := Int.ediv_nonneg (by omega) (by omega)
        omega
      · decide
    · split
      · have h5 : (a - b - 1) / -st ≤ a - b - 1 := Int.ediv_le_self _ (by omega)
        have h6 : 0 ≤ (a - b - 1) / -st := Int.ediv_nonneg (by omega) (by omega)
        omega
      · decide
  unfold Builtin.Range.small
  rw [fits_of (by omega), fits_of (by omega), fits_of (by omega), fits_of h4]
  simp only [Bool.and_self, Bool.true_and, Bool.or_eq_true]
  right
  split <;> exact fits_of (by omega)
end
end
section
open PySem PySem.W PySem.Calls PyProof.Rows
def newOk (K : Frag) (C fI : Addr) : Bool := makesIn K C && findIn K (.ref C) "__init__" == some (some (.ref fI)) && isFn K (.ref fI)
def lenOk (K : Frag) (C f : Addr) : Bool := findIn K (.ref C) "__len__" == some (some (.ref f)) && isFn K (.ref f)

section
variable {K : Frag} {mg mb : Str → Option Value} {prog : Program} {w : World} {A : Around} {E : Value → Shared → Prop} {o : OsP} {B : Heap} {env : Env} {l l' : Vars} {c c' : Cels} {n n' pre post : Ledg} {s s' : Shared} {R : Result → Shared → Prop}

theorem Room.make {C : Addr} {vals : List Value} {kw : List (Str × Value)} {d u : Nat} (h : Room A (d + 1) (u + 1)) : Room (A.under (.builtin "type.__call__" ⟨.ref C :: vals, kw⟩)) d u :=
  ⟨by have := h.depth; show A.depth + 1 + d < _; omega, by have := h.units; show A.units + (1 + 3 * 0) + u < _; omega, h.handled⟩

/-- a frame and a longer ledger -/
theorem St.more (S : St o B env l c n s) {add : Ledg} {h' : Heap} {t : Nat} (hF : Fr B env.locals h' (lk l)) (hN : News B env.locals h' (add ++ n)) (ho : ((add ++ n).map (·.1)).Pairwise (· > ·)) : St o B env l c (add ++ n) { s with heap := h', toks := t } :=
  ⟨hF, hN, ho, fun p hp => let ⟨c1, ob, c2, c3⟩ := S.cel p hp; ⟨c1, ob, List.mem_append.mpr (.inr c2), c3⟩, S.cnd, S.ev, S.os⟩

theorem r_new {C fI : Addr} {vals : List Value} {kw : List (Str × Value)} {Q : Value → Shared → Prop} (S : St o B env l c n s) (T : Base K mg mb B) (hm : newOk K C fI = true)
    (h : ∀ x dx s', St o B env l c ((x, instObj C dx) :: (dx, dictOf [] 0) :: n) s' →
      codeAny (model prog w) (A.under (.builtin "type.__call__" ⟨.ref C :: vals, kw⟩)) (.call (.ref fI) ⟨.ref x :: vals, kw⟩) (InitBack x fun r s' => match r with | .ok (.ret v) => Q v s' | .ok _ => False | .error e => E e s') s') :
    wpAny (model prog w) A (call (.ref C) vals kw) Q E s := by
  simp only [newOk, Bool.and_eq_true, beq_iff_eq] at hm
  refine call_cls S.fr T.kin S.nw hm.1.1 hm.1.2 hm.2 fun x dx h' F' N' h1 h2 => h x dx _ ?_
  refine S.more (add := [(x, instObj C dx), (dx, dictOf [] 0)]) (t := s.toks) F' N' ?_
  refine List.Pairwise.cons (fun a ha => ?_) (List.Pairwise.cons (fun a ha => ?_) S.ord)
  · rcases List.mem_cons.mp ha with rfl | ha
    · exact h2
    · obtain ⟨p, hp, rfl⟩ := List.mem_map.mp ha
      exact Nat.lt_trans (h1 p hp) h2
  · obtain ⟨p, hp, rfl⟩ := List.mem_map.mp ha
    exact h1 p hp

theorem r_lenInst (S : St o B env l c n s) (T : Base K mg mb B) {x C dx f : Addr} {od : Obj} {Q : Value → Shared → Prop} (h1 : Has B n x (instObj C dx)) (h2 : Has B n dx od) (ha : lenOk K C f = true)
    (h : wpAny (model prog w) A.in1 (call (.ref f) [.ref x]) (W.LenBack Q) E s) : wpAny (model prog w) A (call (.builtin "len") [.ref x]) Q E s := by
  simp only [lenOk, Bool.and_eq_true, beq_iff_eq] at ha
  exact len_K S.fr T.kin (S.inst h1 h2) ha.1 ha.2 h
theorem lenBack_ (S : St o B env l c n s) {m : Int} {t : Tok} {Q : Value → Shared → Prop} (h0 : 0 ≤ m) (h1 : m < 2 ^ 63) (h : ∀ t' s', St o B env l c n s' → Q (.int m t') s') : W.LenBack Q (.int m t) s := ⟨⟨h0, h1⟩, h _ _ (S.tok _)⟩
end
end
section
open PySem PySem.W PySem.Calls PyProof.Rows
abbrev tupOf (vs : List Value) : Obj := { cls := .type "tuple", data := .seq vs.toArray }

/-- a dict of int keys, read off -/
def intEs : List DictEntry → Option (List (Int × Value))
  | [] => some []
  | ⟨h, .int k _, v⟩ :: r => if h = hashInt k then (intEs r).map ((k, v) :: ·) else none
  | _ => none
theorem intEs_pairs {prog : Program} {w : World} : ∀ {es : List DictEntry} {kvs : List (Int × Value)}, intEs es = some kvs → Pairs (intKind prog w) es kvs ∧ ∀ e ∈ es, ∃ k, (intKind prog w).is k e.key = true ∧ e.hash = (intKind prog w).hash k
  | [], kvs, h => by cases h; exact ⟨.nil, fun _ h => nomatch h⟩
  | ⟨h, .int k t, v⟩ :: r, kvs, e => by
    unfold intEs at e
    split at e
    · rename_i hh
      simp only [Option.map_eq_some_iff] at e
      obtain ⟨ms, h1, rfl⟩ := e
      have ih := intEs_pairs (prog := prog) (w := w) h1
      have hk : (intKind prog w).is k (.int k t) = true := intKind_is _ _ _ _
      refine ⟨.cons hk rfl ih.1, fun e he => ?_⟩
      rcases List.mem_cons.mp he with rfl | he
      · exact ⟨k, hk, hh⟩
      · exact ih.2 e he
    · cases e

section
variable {K : Frag} {mg mb : Str → Option Value} {prog : Program} {w : World} {A : Around} {E : Value → Shared → Prop} {o : OsP} {B : Heap} {env : Env} {l l' : Vars} {c c' : Cels} {n n' pre post : Ledg} {s s' : Shared} {R : Result → Shared → Prop}

theorem r_ifT {b : Bool} {P1 P2 : Prop} (hb : b = true) (h : P1) : if b = true then P1 else P2 := by rw [if_pos hb]; exact h
theorem r_ifF {b : Bool} {P1 P2 : Prop} (hb : b = false) (h : P2) : if b = true then P1 else P2 := by rw [hb]; exact h

theorem St.isTup (S : St o B env l c n s) {a : Addr} {vs : List Value} (h : Has B n a (tupOf vs)) : s.heap.IsTuple a vs.toArray := ⟨_, S.has h, rfl, 0, rfl⟩
theorem St.intD (S : St o B env l c n s) {a : Addr} {es : List DictEntry} {k : Nat} {kvs : List (Int × Value)} (h : Has B n a (dictOf es k)) (he : intEs es = some kvs) (hn : (kvs.map (·.1)).Nodup) : s.heap.DictOf (intKind prog w) a kvs :=
  have p := intEs_pairs (prog := prog) (w := w) he
  ⟨_, es.toArray, k, S.has h, ⟨rfl, rfl, rfl⟩, rfl, fun e hx => p.2 e (by simpa using hx), p.1, hn⟩

theorem r_dictI (S : St o B env l c n s) {a : Addr} {es : List DictEntry} {k : Nat} {kvs : List (Int × Value)} {i : Int} {u : Tok} {v : Value} {Q : Value → Shared → Prop} (h : Has B n a (dictOf es k)) (he : intEs es = some kvs) (hn : (kvs.map (·.1)).Nodup)
    (hv : valueAt kvs i = some v) (hq : ∀ s', St o B env l c n s' → Q v s') : wpAny (model prog w) A (getItem (.ref a) (.int i u)) Q E s :=
  wpAny_getItem_of (intKind_is _ _ _ _) (S.intD (prog := prog) (w := w) h he hn).mapOf hv (hq _ (S.tok _))
theorem r_dictSub (S : St o B env l c n s) {value slice : Expr} {a : Addr} {es : List DictEntry} {k : Nat} {kvs : List (Int × Value)} {i : Int} {u : Tok} {v : Value} {Q : Value → Shared → Prop} (h : Has B n a (dictOf es k)) (he : intEs es = some kvs) (hn : (kvs.map (·.1)).Nodup)
    (hv : valueAt kvs i = some v) (hq : ∀ s', St o B env l c n s' → Q v s')
    (hs : subscripted slice false (.ref a) (.int i u) = operate [.ref a, .int i u] (getItem (.ref a) (.int i u)) := by with_unfolding_all rfl) : wpAny (model prog w) A (subscriptTail value slice (.ref a) (.int i u)) Q E s :=
  tail_any (S.intD (prog := prog) (w := w) h he hn).typeIs slot_dict_getitem.lookup (r_dictI S h he hn hv hq) hs
theorem r_dictIn (S : St o B env l c n s) {a : Addr} {es : List DictEntry} {k : Nat} {kvs : List (Int × Value)} {i : Int} {u : Tok} {Q : Value → Shared → Prop} (h : Has B n a (dictOf es k)) (hsys : (a == sysModules) = false) (he : intEs es = some kvs) (hn : (kvs.map (·.1)).Nodup)
    (hq : ∀ s', St o B env l c n s' → Q (.bool (valueAt kvs i).isSome) s') : wpAny (model prog w) A (compareOp .In (.int i u) (.ref a)) Q E s :=
  wpAny_in_of (intKind_is _ _ _ _) hsys (S.intD (prog := prog) (w := w) h he hn).mapOf (hq _ (S.tok _))
theorem r_dictNotIn (S : St o B env l c n s) {a : Addr} {es : List DictEntry} {k : Nat} {kvs : List (Int × Value)} {i : Int} {u : Tok} {Q : Value → Shared → Prop} (h : Has B n a (dictOf es k)) (hsys : (a == sysModules) = false) (he : intEs es = some kvs) (hn : (kvs.map (·.1)).Nodup)
    (hq : ∀ s', St o B env l c n s' → Q (.bool (!(valueAt kvs i).isSome)) s') : wpAny (model prog w) A (compareOp .NotIn (.int i u) (.ref a)) Q E s :=
  wpAny_notIn_of (intKind_is _ _ _ _) hsys (S.intD (prog := prog) (w := w) h he hn).mapOf (hq _ (S.tok _))

theorem r_notInTup (S : St o B env l c n s) {a : Addr} {vs : List Value} {ns : List Int} {i : Int} {u : Tok} {Q : Value → Shared → Prop} (h : Has B n a (tupOf vs)) (hi : IntsAre vs ns) (hq : Q (.bool (!(ns.any (· == i)))) s) :
    wpAny (model prog w) A (compareOp .NotIn (.int i u) (.ref a)) Q E s :=
  PySem.SeqAt.notIn_tupleAt (isInt i) (S.isTup h) (fun y hy => (eq_isInt i u hi y (by simpa using hy)).at _ _) (by rw [← Array.any_toList, show vs.toArray.toList = vs from rfl, any_isInt i hi]; exact hq)
theorem r_notInList (S : St o B env l c n s) {a : Addr} {vs : List Value} {k : Nat} {ns : List Int} {i : Int} {u : Tok} {Q : Value → Shared → Prop} (h : Has B n a (listOf vs.toArray k)) (hi : IntsAre vs ns) (hq : Q (.bool (!(ns.any (· == i)))) s) :
    wpAny (model prog w) A (compareOp .NotIn (.int i u) (.ref a)) Q E s := notin_list_ints (S.isList h) hi hq
end
end
section
open PySem PySem.W PySem.Calls PyProof.Rows Builtin
theorem slot_isdigit : Slot "bytes" "isdigit" "bytes.isdigit" :=
  .of (owner := "bytes") (n := "isdigit") (by rw [typeLookup_type, builtinLookup_eq_fast]; kernel_rfl) (by decide +kernel) (by decide +kernel) (by decide +kernel)
    (by first | exact .inl (by decide +kernel) | exact .inr (by decide +kernel)) (by rw [isSubtype_type]; kernel_rfl)
theorem entry_isdigit : entryFor table "bytes.isdigit" = some Builtin.«bytes.isdigit» := entryFor_of_tree (by kernel_rfl)
theorem args_isdigit (a : Value) : argsOk "bytes.isdigit" ⟨[a], []⟩ := by unfold argsOk; kernel_rfl
theorem type_isdigit : typeOf (.builtin "bytes.isdigit") = pure (.type "method_descriptor") := by show builtinType _ = _; rw [builtinType_eq_fast]; kernel_rfl
theorem gives_isdigit (b : Array UInt8) (t : Tok) : Gives («bytes.isdigit» ⟨[.bytes b t], []⟩) (.val (.bool (Bytes.allOf Bytes.isDigit b.toList))) := .of_eq (by kernel_rfl)
theorem slot_find : Slot "bytes" "find" "bytes.find" :=
  .of (owner := "bytes") (n := "find") (by rw [typeLookup_type, builtinLookup_eq_fast]; kernel_rfl) (by decide +kernel) (by decide +kernel) (by decide +kernel)
    (by first | exact .inl (by decide +kernel) | exact .inr (by decide +kernel)) (by rw [isSubtype_type]; kernel_rfl)
theorem entry_find : entryFor table "bytes.find" = some Builtin.«bytes.find» := entryFor_of_tree (by kernel_rfl)
theorem args_find (a b : Value) : argsOk "bytes.find" ⟨[a, b], []⟩ := by unfold argsOk; kernel_rfl
theorem type_find : typeOf (.builtin "bytes.find") = pure (.type "method_descriptor") := by show builtinType _ = _; rw [builtinType_eq_fast]; kernel_rfl
theorem args_decode (a b : Value) : argsOk "bytes.decode" ⟨[a, b], []⟩ := by unfold argsOk; kernel_rfl
theorem args_inB (a b : Value) : argsOk "bytes.__contains__" ⟨[a, b], []⟩ := FB.args_bytes_contains_2 a b

theorem window_eq (n : Nat) : Bytes.window n none none = (0, (n : Int)) := by
  unfold Bytes.window
  simp only [Option.getD_none]
  rw [if_neg (by omega), if_neg (by omega), Int.min_self]
theorem search_eq (b c : Array UInt8) (t u : Tok) : Bytes.searchArgs .bytes "find" ⟨[.bytes b t, .bytes c u], []⟩ = pure (b, c, if (b.size : Int) - 0 < c.size then none else some (0, b.size)) := by
  show (Bytes.buffer? _ (.bytes c u) >>= fun r => _) = _
  rw [KBy.buffer_eq]
  show (match Bytes.window b.size none none with | (lo, hi) => (pure (b, c, if hi - lo < c.size then none else some (lo.toNat, hi.toNat)) : Sem (Array UInt8 × Array UInt8 × Option (Nat × Nat)))) = _
  rw [window_eq]
  rfl
theorem gives_find (b c : Array UInt8) (t u : Tok) (i : Nat) (h : Bytes.find? b c 0 b.size = some i) (hs : c.size ≤ b.size) : Gives («bytes.find» ⟨[.bytes b t, .bytes c u], []⟩) (.int i) := by
  refine .of_wp fun M A E s Q hq => ?_
  show wpAny _ _ (Bytes.searchArgs .bytes "find" ⟨[.bytes b t, .bytes c u], []⟩ >>= fun r => _) _ _ _
  refine wpAny_bind (wpAny_of_eq (search_eq b c t u) ?_)
  rw [if_neg (by omega)]
  show wpAny _ _ (match Bytes.find? b c 0 b.size with | some i => retInt i | none => _) _ _ _
  rw [h]
  exact wpAny_bind (wpAny_mkInt (wpAny_pure ⟨_, rfl, hq⟩))
theorem gives_inB (b : Array UInt8) (i : Int) (t u : Tok) (h0 : 0 ≤ i) (h1 : i < 256) : Gives («bytes.__contains__» ⟨[.bytes b t, .int i u], []⟩) (.val (.bool (b.contains i.toNat.toUInt8))) := by
  refine .of_wp fun M A E s Q hq => ?_
  show wpAny _ _ (Bytes.containsIn "bytes.__contains__" (.bytes b t) (.int i u) >>= fun r => ret (.bool r)) _ _ _
  refine wpAny_bind ?_
  unfold Bytes.containsIn
  refine wpAny_bind (wpAny_attempt ?_)
  refine wpAny_of_eq (show asIndex (.int i u) = pure i from rfl) ?_
  refine wpAny_bind (wpAny_of_eq KBy.buffer_eq ?_)
  show wpAny _ _ (if (decide (i < 0) || decide (i ≥ 256)) = true then _ else pure _) _ _ _
  rw [if_neg (by simp; omega)]
  exact wpAny_pure (wpAny_pure ⟨_, rfl, hq⟩)
theorem find_ascii {f : Bool} {b : Array UInt8} {p c : Nat} (h : (b.getD p 0).toNat = c) (hc : c < 128) : _codecs.asciiDecoder.find f b p = .char c (p + 1) := by
  unfold _codecs.asciiDecoder
  show (if (b.getD p 0).toNat < 128 then _ else _) = _
  rw [h, if_pos hc]
theorem road_A {id : String} {b : Array UInt8} : _codecs.decodeRoad id b (PySem.Str.ofString "ascii") none [] = (_codecs.runDecoder id _codecs.asciiDecoder none true b 0 [] >>= fun r => mkStr ⟨r.1⟩) := by kernel_rfl
theorem check_A {id f wh : String} {u : Tok} : Bytes.checkCodecArg id f wh (some (.str (PySem.Str.ofString "ascii") u)) = pure () := by
  have e1 : (PySem.Str.ofString "ascii").cps.any PySem.Str.isSurrogate = false := by decide +kernel
  have e2 : (PySem.Str.ofString "ascii").cps.contains 0 = false := by decide +kernel
  show (if (PySem.Str.ofString "ascii").cps.any PySem.Str.isSurrogate = true then _ else if (PySem.Str.ofString "ascii").cps.contains 0 = true then _ else _) = _
  rw [e1, e2]
  rfl
theorem entry_decA (c : UInt8) (cs : List UInt8) (t u : Tok) : «bytes.decode» ⟨[.bytes (c :: cs).toArray t, .str (PySem.Str.ofString "ascii") u], []⟩ = (mkStr (PySem.Str.ofString "utf-8") >>= fun _ => mkStr (PySem.Str.ofString "ascii") >>= fun e => mkStr (PySem.Str.ofString "bytes.decode") >>= fun d =>
    call (.builtin "_codecs.decode.text") [.bytes (c :: cs).toArray t, e, .none, d] >>= fun v => ret v) := by
  show (Bytes.checkCodecArg _ _ _ (some (.str (PySem.Str.ofString "ascii") u)) >>= fun _ => _) = _
  rw [check_A]
  kernel_rfl
theorem run1 {id : String} (F : Bool → Array UInt8 → Nat → _codecs.Found) (b : Array UInt8) (hb : b.size = 1) (c : Nat) (n o) (h : F true b 0 = .text [c] 1) : _codecs.runDecoder id ⟨n, o, F⟩ none true b 0 [] = pure (#[c], 1) := by
  unfold _codecs.runDecoder
  rw [hb]
  simp [Std.Legacy.Range.forIn_eq_forIn_range', List.range', h]
theorem run2 {id : String} (F : Bool → Array UInt8 → Nat → _codecs.Found) (b : Array UInt8) (hb : b.size = 2) (c d : Nat) (n o) (h : F true b 0 = .text [c] 1) (h' : F true b 1 = .text [d] 2) : _codecs.runDecoder id ⟨n, o, F⟩ none true b 0 [] = pure (#[c, d], 2) := by
  unfold _codecs.runDecoder
  rw [hb]
  simp [Std.Legacy.Range.forIn_eq_forIn_range', h, h', List.range', sizeLine]
theorem run3 {id : String} (F : Bool → Array UInt8 → Nat → _codecs.Found) (b : Array UInt8) (hb : b.size = 3) (c d e : Nat) (n o) (h : F true b 0 = .text [c] 1) (h' : F true b 1 = .text [d] 2) (h'' : F true b 2 = .text [e] 3) : _codecs.runDecoder id ⟨n, o, F⟩ none true b 0 [] = pure (#[c, d, e], 3) := by
  unfold _codecs.runDecoder
  rw [hb]
  simp [Std.Legacy.Range.forIn_eq_forIn_range', h, h', h'', List.range', sizeLine]

section
variable {b : Array UInt8} {c : UInt8} {cs : List UInt8} {t : Tok} {x : PySem.Str} {n : Nat}
theorem meets_textA {t1 t2 : Tok} {d : PySem.Str} (hd : ∀ id, _codecs.runDecoder id _codecs.asciiDecoder none true b 0 [] = pure (x.cps, n)) :
    Meets («_codecs.decode.text» ⟨[.bytes b t, .str (PySem.Str.ofString "ascii") t1, .none, .str d t2], []⟩) (fun _ R s => x.length ≤ sizeLine ∧ R (.ok (.ret (.str x s.toks))) { s with toks := s.toks + 1 }) := by
  refine .of_wp fun prog w A R s hS => ?_
  obtain ⟨hsz, h⟩ := hS
  show wpAny _ _ (Bytes.bytesLike _ (.bytes b t) >>= fun r => _) _ _ s
  refine wpAny_bind (wpAny_of_eq KBd.like_eq ?_)
  refine wpAny_bind (wpAny_of_eq KBd.held_eq ?_)
  show wpAny _ _ (_codecs.decodeRoad _ b (PySem.Str.ofString "ascii") none [] >>= fun v => _) _ _ s
  rw [road_A, hd]
  refine wpAny_bind (wpAny_bind (wpAny_pure ?_))
  exact wpAny_mkStr (wpAny_pure ⟨_, rfl, h⟩) hsz
theorem meets_decodeA {u : Tok} (hd : ∀ id, _codecs.runDecoder id _codecs.asciiDecoder none true (c :: cs).toArray 0 [] = pure (x.cps, n)) :
    Meets («bytes.decode» ⟨[.bytes (c :: cs).toArray t, .str (PySem.Str.ofString "ascii") u], []⟩) (fun _ R s => x.length ≤ sizeLine ∧ ∀ t' k, R (.ok (.ret (.str x t'))) { s with toks := k }) := by
  refine .of_wp fun prog w A R s hS => ?_
  obtain ⟨hsz, h⟩ := hS
  rw [entry_decA]
  refine wpAny_bind (wpAny_mkStr ?_ (by decide))
  refine wpAny_bind (wpAny_mkStr ?_ (by decide))
  refine wpAny_bind (wpAny_mkStr ?_ (by decide))
  exact wpAny_bind (call_function_meets KBd.kind_text KBd.plain_text KBd.entry_text (KBd.args_text _ _ _ _) (meets_textA hd) ⟨hsz, wpAny_pure ⟨_, rfl, h _ _⟩⟩)
theorem run_ascii {b : Array UInt8} {cs : List Nat} (hc : b.toList.map (·.toNat) = cs) (hl : cs.length = 1 ∨ cs.length = 2 ∨ cs.length = 3) (hs : ∀ c ∈ cs, c < 128) :
    ∃ n, ∀ id, _codecs.runDecoder id _codecs.asciiDecoder none true b 0 [] = pure (cs.toArray, n) := by
  subst hc
  have hz : b.toList.map (·.toNat) = (b.toList.map (·.toNat)) := rfl
  rcases b with ⟨l⟩
  match l, hl with
  | [c], _ =>
    simp at hs
    exact ⟨1, fun id => run1 _ _ rfl _ _ _ (find_ascii (f := true) (p := 0) rfl (by simpa using hs))⟩
  | [c, d], _ =>
    simp at hs
    exact ⟨2, fun id => run2 _ _ rfl _ _ _ _ (find_ascii (f := true) (p := 0) rfl (by simpa using hs.1)) (find_ascii (f := true) (p := 1) rfl (by simpa using hs.2))⟩
  | [c, d, e], _ =>
    simp at hs
    exact ⟨3, fun id => run3 _ _ rfl _ _ _ _ _ (find_ascii (f := true) (p := 0) rfl (by simpa using hs.1)) (find_ascii (f := true) (p := 1) rfl (by simpa using hs.2.1)) (find_ascii (f := true) (p := 2) rfl (by simpa using hs.2.2))⟩
  | [], hl => simp at hl
  | _ :: _ :: _ :: _ :: _, hl => simp at hl
end

theorem int1 : ∀ a < 10, PySem.intText? ⟨#[48 + a]⟩ = some (a : Int) := by decide +kernel
theorem int2 : ∀ a < 10, ∀ b < 10, PySem.intText? ⟨#[48 + a, 48 + b]⟩ = some (10 * a + b : Nat) := by decide +kernel
theorem int3 : ∀ a < 10, ∀ b < 10, ∀ c < 10, PySem.intText? ⟨#[48 + a, 48 + b, 48 + c]⟩ = some (100 * a + 10 * b + c : Nat) := by decide +kernel

open KBw in
abbrev bI (b : Array UInt8) : List Int := bInts b
section
variable {K : Frag} {mg mb : Str → Option Value} {prog : Program} {w : World} {A : Around} {E : Value → Shared → Prop} {o : OsP} {B : Heap} {env : Env} {l l' : Vars} {c c' : Cels} {n n' pre post : Ledg} {s s' : Shared} {R : Result → Shared → Prop}
  {b : Array UInt8} {t : Tok} {ns : List Int}

/-- another heap, the frame and the ledger as they were -/
theorem St.same (S : St o B env l c n s) {h' : Heap} {k : Nat} (F : Fr B env.locals h' (lk l)) (N : News B env.locals h' n) : St o B env l c n { s with heap := h', toks := k } := ⟨F, N, S.ord, S.cel, S.cnd, S.ev, S.os⟩

theorem x_slSS {lo up : Expr} {p : Pos} {Q : Value → Shared → Prop}
    (h : wpAny (model prog w) A (eval lo env) (fun l s₁ => wpAny (model prog w) A (eval up env) (fun u s₂ => Q (.ref s₂.heap.objs.size) { s₂ with heap := s₂.heap.push { cls := .type "slice", data := .fields #[l, u, .none] } }) E s₁) E s) : wpAny (model prog w) A (eval (.Slice (some lo) (some up) none p) env) Q E s :=
  wpAny_Slice (wpAny_mono h (fun _ _ h => wpAny_mono h (fun _ _ h => wpAny_pure h) fun _ _ x => x) fun _ _ x => x)
theorem x_slSN {lo : Expr} {p : Pos} {Q : Value → Shared → Prop}
    (h : wpAny (model prog w) A (eval lo env) (fun l s₁ => Q (.ref s₁.heap.objs.size) { s₁ with heap := s₁.heap.push { cls := .type "slice", data := .fields #[l, .none, .none] } }) E s) : wpAny (model prog w) A (eval (.Slice (some lo) none none p) env) Q E s :=
  wpAny_Slice (wpAny_mono h (fun _ _ h => wpAny_pure (wpAny_pure h)) fun _ _ x => x)
theorem x_slNS {up : Expr} {p : Pos} {Q : Value → Shared → Prop}
    (h : wpAny (model prog w) A (eval up env) (fun u s₁ => Q (.ref s₁.heap.objs.size) { s₁ with heap := s₁.heap.push { cls := .type "slice", data := .fields #[.none, u, .none] } }) E s) : wpAny (model prog w) A (eval (.Slice none (some up) none p) env) Q E s :=
  wpAny_Slice (wpAny_pure (wpAny_mono h (fun _ _ h => wpAny_pure h) fun _ _ x => x))

theorem r_lenB (S : St o B env l c n s) {Q : Value → Shared → Prop} (hk : KBw.bInts b = ns) (hz : ns.length ≤ 1000000) (h : ∀ t' s', St o B env l c n s' → Q (.int ns.length t') s') : wpAny (model prog w) A (call (.builtin "len") [.bytes b t]) Q E s :=
  KBw.len_K hk (by omega) (h _ _ (S.tok _))
theorem r_sliceB (S : St o B env l c n s) {value slice : Expr} {Q : Value → Shared → Prop} {p q : Value} {lo hi : Option Int} (hs : subscripted slice false (.bytes b t) (.ref s.heap.objs.size) = operate [.ref s.heap.objs.size, .bytes b t] (getItem (.bytes b t) (.ref s.heap.objs.size)))
    (ht : ∀ r, letTemporaryGo value (.bytes b t) r = pure ()) (hk : KBw.bInts b = ns) (hl : IsPart p lo) (hu : IsPart q hi) (hz : ns.length ≤ 1000000)
    (h : ∀ b' t' s', KBw.bInts b' = (ns.drop (lo.elim 0 (clipAt ns.length))).take (hi.elim ns.length (clipAt ns.length) - lo.elim 0 (clipAt ns.length)) → St o B env l c n s' → Q (.bytes b' t') s') :
    wpAny (model prog w) A (subscriptTail value slice (.bytes b t) (.ref s.heap.objs.size)) Q E { s with heap := s.heap.push { cls := .type "slice", data := .fields #[p, q, .none] } } :=
  KBc.slice_K S.fr S.nw hk hl hu (by omega) (fun h' t' k F N e => h _ _ _ e (S.same F N)) hs ht
theorem r_methB {name : Str} {id : String} {pl : Sem Bool} {Q : Value × List Value → Shared → Prop} (slot : Slot "bytes" name id) (ty : typeOf (.builtin id) = pure (.type "method_descriptor")) (h : Q (.builtin id, [.bytes b t]) s) :
    wpAny (model prog w) A (getMethod (.bytes b t) name pl) Q E s := KBd.method_of (.bytes b t) (typeIs_bytes _ _ _) slot ty KBd.noRef h
theorem r_isdigit {Q : Value → Shared → Prop} (h : Q (.bool (Bytes.allOf Bytes.isDigit b.toList)) s) : wpAny (model prog w) A (call (.builtin "bytes.isdigit") [.bytes b t]) Q E s :=
  call_gives slot_isdigit (typeIs_bytes _ _ _) entry_isdigit (args_isdigit _) (gives_isdigit b t) h
theorem r_find (S : St o B env l c n s) {d : Array UInt8} {u : Tok} {i : Nat} {Q : Value → Shared → Prop} (hf : Bytes.find? b d 0 b.size = some i) (hz : d.size ≤ b.size) (h : ∀ t' s', St o B env l c n s' → Q (.int i t') s') :
    wpAny (model prog w) A (call (.builtin "bytes.find") [.bytes b t, .bytes d u]) Q E s :=
  call_gives slot_find (typeIs_bytes _ _ _) entry_find (args_find _ _) (gives_find b d t u i hf hz) (h _ _ (S.tok _))
theorem r_inB {i : Int} {u : Tok} {Q : Value → Shared → Prop} (h0 : 0 ≤ i) (h1 : i < 256) (h : Q (.bool (b.contains i.toNat.toUInt8)) s) : wpAny (model prog w) A (compareOp .In (.int i u) (.bytes b t)) Q E s :=
  In_slot (typeIs_bytes _ _ _) FB.slot_bytes_contains (call_gives FB.slot_bytes_contains (typeIs_bytes _ _ _) FB.entry_bytes_contains (FB.args_bytes_contains_2 _ _) (gives_inB b i t u h0 h1) (wpAny_truthy_bool h))
theorem r_decode (S : St o B env l c n s) {u : Tok} {cs : List Nat} {Q : Value → Shared → Prop} (hc : b.toList.map (·.toNat) = cs) (hl : cs.length = 1 ∨ cs.length = 2 ∨ cs.length = 3) (hs : ∀ c ∈ cs, c < 128)
    (h : ∀ t' s', St o B env l c n s' → Q (.str ⟨cs.toArray⟩ t') s') : wpAny (model prog w) A (call (.builtin "bytes.decode") [.bytes b t, .str (Str.ofString "ascii") u]) Q E s := by
  obtain ⟨m, hr⟩ := run_ascii hc hl hs
  rcases b with ⟨bl⟩
  cases bl with
  | nil => subst hc; simp at hl
  | cons x xs =>
    refine call_meets FB.slot_bytes_decode (typeIs_bytes _ _ _) FB.entry_bytes_decode (args_decode _ _) (meets_decodeA (x := ⟨cs.toArray⟩) hr) ⟨?_, fun t' k => h _ _ (S.tok k)⟩
    rw [sizeLine_eq]
    show cs.toArray.size ≤ _
    rw [List.size_toArray]; omega
theorem r_intText (S : St o B env l c n s) {x : Str} {i : Int} {Q : Value → Shared → Prop} (hn : PySem.intText? x = some i) (hl : x.length ≤ 640) (h : ∀ t' s', St o B env l c n s' → Q (.int i t') s') : wpAny (model prog w) A (call (.type "int") [.str x t]) Q E s :=
  KIN.call_text hn hl (h _ _ (S.tok _))

def bytItP (b : Array UInt8) (t : Tok) (i : Nat) (ob : Obj) : Prop := ob.cls = .type "bytes_iterator" ∧ ob.data = .fields #[.bytes b t, .int i 0]
theorem iter_bytes (hh : A.handled = none) {it : Addr} (b : Array UInt8) (t : Tok) : Iter prog w A it b.size (bytItP b t) (fun i v => ∃ c u, b[i]? = some c ∧ v = .int (c.toNat : Int) u) (fun _ => True) where
  nocell := fun _ _ h => cellE_of_fields h.2
  step := fun i s ob Q E hi hg hp _ h => by
    refine KBw.next_item (b := b) (t := t) (i := i) (c := b[i]) ⟨ob, hg, hp.1, hp.2⟩ (by simp [hi]) fun h' hit hs => ?_
    obtain ⟨ob', g, c, d⟩ := hit
    exact h _ h' _ ob' ⟨_, _, by simp [hi], rfl⟩ g ⟨c, d⟩ hs
  fin := fun s ob Q E hg hp _ h => KBw.next_end hh ⟨ob, hg, hp.1, hp.2⟩ (by simp) fun h' he => h h' s.toks he
theorem r_iterBytes (S : St o B env l c n s) {Q : Value → Shared → Prop} (h : ∀ it ob s', bytItP b t 0 ob → St o B env l c ((it, ob) :: n) s' → Q (.ref it) s') : wpAny (model prog w) A (pyIter (.bytes b t)) Q E s :=
  KBw.pyIter_bytes (h _ _ _ ⟨rfl, rfl⟩ (S.push { cls := .type "bytes_iterator", data := .fields #[.bytes b t, .int 0 0] }))
end
end
section
open PySem PySem.W PySem.Calls PyProof.Rows
abbrev CompT := Expr × Expr × List Expr

/-- what is left of a comprehension once its first iterator stands -/
def CompS (prog : Program) (w : World) (A : Around) (elt : Expr) (gens : List Comprehension) (scope : Scope) (pos : Pos) (env : Env) (cl : List (Str × Addr)) (Q : Value → Shared → Prop) (E : Value → Shared → Prop) (it : Value) (s : Shared) : Prop :=
  wpAny (model prog w) A (newList []) (fun acc s₃ => wpAny (model prog w) A (newFunctionEnv scope env.globals cl [] env.qual none .none (some env)) (fun cenv s₄ =>
    codeAny (model prog w) A (.compStart (.ListComp elt gens scope pos) 0 it acc { cenv with scope := relabel scope env }) (compPost (model prog w) A E none Q acc cenv.locals) s₄) E s₃) E s

def compOk (scope : Scope) : Bool := scope.kind == .function && scope.names.all (fun y => !(y.2 == .cell) && (!(y.2 == .local) || scope.names.lookup y.1 == some .local))
theorem compOk_of {scope : Scope} (h : compOk scope = true) : scope.kind = .function ∧ (∀ y ∈ scope.names, y.2 ≠ .cell) ∧ (∀ y ∈ scope.names, y.2 = .local → scope.names.lookup y.1 = some .local) := by
  simp only [compOk, Bool.and_eq_true, beq_iff_eq, List.all_eq_true, Bool.not_eq_true', Bool.or_eq_true, beq_eq_false_iff_ne] at h
  exact ⟨h.1, fun y hy => (h.2 y hy).1, fun y hy e => (h.2 y hy).2.resolve_left fun q => q e⟩

section
variable {K : Frag} {mg mb : Str → Option Value} {prog : Program} {w : World} {A : Around} {E : Value → Shared → Prop} {o : OsP} {B : Heap} {env : Env} {l l' : Vars} {c c' : Cels} {n n' pre post : Ledg} {s s' : Shared} {R : Result → Shared → Prop}

theorem x_comp {cl : List (Str × Addr)} {elt : Expr} {g : Comprehension} {gs : List Comprehension} {scope : Scope} {pos : Pos} {Q : Value → Shared → Prop} (ha : g.is_async = 0) (hclos : closureFor scope env = pure cl) (hok : compOk scope = true)
    (hf : ∀ x : Value, foldedSetIterable g.iter env x = pure x)
    (h : wpAny (model prog w) A (eval g.iter env) (fun x s₁ => wpAny (model prog w) A (pyIter x) (CompS prog w A elt (g :: gs) scope pos env cl Q E) E s₁) E s) :
    wpAny (model prog w) A (eval (.ListComp elt (g :: gs) scope pos) env) Q E s := by
  obtain ⟨k1, k2, k3⟩ := compOk_of hok
  obtain ⟨target, iter, ifs, ia⟩ := g
  obtain rfl : ia = 0 := ha
  rw [arm_eval_ListComp]
  exact wpAny_comprehension_free (use := none) rfl hf hclos k1 k3 h

/-- back to the frame around: only what was kept counts -/
theorem St.unghost (S : St o B env l c n s) (hk : ∀ b ob, (hideAll s.heap (n.map (·.1))).get? b = some ob → s'.heap.get? b = some ob)
    (hn : ∀ p ∈ n', s'.heap.get? p.1 = some p.2 ∧ (hideAll s.heap (n.map (·.1))).get? p.1 = none) (ho : (n'.map (·.1)).Pairwise (· > ·)) (hc : KeepsC n n') (hos : o s'.os s'.gens s'.drawn) : St o B env l c n' s' := by
  have nm : ∀ b ob, B.get? b = some ob → b ∉ n.map (·.1) := fun b ob e q => by
    obtain ⟨p, hp, rfl⟩ := List.mem_map.mp q
    rw [(S.nw p hp).2.2] at e; cases e
  have st : ∀ b ob, B.get? b = some ob → (hideAll s.heap (n.map (·.1))).get? b = some ob := fun b ob e => hideAll_get _ (S.fr.keep b ob e) (nm b ob e)
  obtain ⟨oL, es, ep, hL, hLd, hLk, hLf⟩ := S.fr.ns
  have nL : env.locals ∉ n.map (·.1) := fun q => by
    obtain ⟨p, hp, e⟩ := List.mem_map.mp q
    exact (S.nw p hp).2.1 e
  have hLg := hideAll_get (n.map (·.1)) hL nL
  refine ⟨⟨⟨oL, es, ep, hk _ _ hLg, hLd, hLk, hLf⟩, fun b ob e => hk b ob (st b ob e), S.fr.above⟩, fun p hp => ⟨(hn p hp).1, fun q => ?_, ?_⟩, ho, fun p hp => let ⟨c1, ob, c2, c3⟩ := S.cel p hp; ⟨c1, ob, hc _ c2 (by show cellE ob = true; unfold cellE; rw [c3]), c3⟩, S.cnd, S.ev, hos⟩
  · have := (hn p hp).2; rw [q, hLg] at this; cases this
  · cases q : B.get? p.1 with
    | none => rfl
    | some ob => have := (hn p hp).2; rw [st _ _ q] at this; cases this

theorem lk_none {l : Vars} (h : ∀ p ∈ l, p.2 = none) : lk l = fun _ => none := by
  funext y
  unfold lk
  cases e : l.lookup y with
  | none => rfl
  | some v =>
    have : v = none := h _ (lookup_some e)
    rw [this]; rfl

/-- the comprehension's frame -/
theorem comp_enter {cl : List (Str × Addr)} {elt : Expr} {gens : List Comprehension} {scope : Scope} {pos : Pos} {it : Value} {Q : Value → Shared → Prop} {lc : Vars} {cc : Cels} (S : St o B env l c n s) (T : Base K mg mb B)
    (hok : compOk scope = true) (hev : evOk (relabel scope env) (lc.map (·.1)) (cc.map (·.1)) = true) (hlc : ∀ p ∈ lc, p.2 = none) (hcc : cc.Sublist c) (hcl : ∀ p ∈ cc, cl.lookup p.1 = some p.2.1)
    (h : ∀ g C acc s₁, St o g (compEnvC scope cl C env) lc cc ((acc, listOf ([] : List Value).toArray 0) :: n) s₁ → Base K mg mb g → (∀ b ob, B.get? b = some ob → g.get? b = some ob) →
      codeAny (model prog w) A (.compStart (.ListComp elt gens scope pos) 0 it (.ref acc) (compEnvC scope cl C env))
        (fun r s' => match r with
          | .ok _ => ∃ (l' : Vars) (c' : Cels) (n' : Ledg), St o g (compEnvC scope cl C env) l' c' n' s' ∧ KeepsC n n' ∧ ∀ s'', St o B env l c n' s'' → Q (.ref acc) s''
          | .error _ => False) s₁) :
    CompS prog w A elt gens scope pos env cl Q E it s := by
  obtain ⟨k1, k2, k3⟩ := compOk_of hok
  unfold CompS
  refine wpAny_newObj_type (wpAny_newFunctionEnv k2 (by intro y hy; simp at hy) (fun h₁ hns hsb => ?_) k1)
  have S₁ : St o B env l c ((s.heap.objs.size, listOf ([] : List Value).toArray 0) :: n) { s with heap := s.heap.push (listOf ([] : List Value).toArray 0) } := S.push _
  dsimp only at hns hsb ⊢
  generalize hs₁ : ({ s with heap := s.heap.push (listOf ([] : List Value).toArray 0) } : Shared) = s₁ at S₁
  have eh : s.heap.push { cls := .type "list", dict := none, data := .seq ([] : List Value).toArray } = s₁.heap := by rw [← hs₁]
  rw [eh] at hns hsb ⊢
  obtain ⟨st, _⟩ := S₁.ghost (R := fun _ _ => True) T
  generalize hn₁ : ((s.heap.objs.size, listOf ([] : List Value).toArray 0) :: n : Ledg) = n₁ at S₁ st
  have kept : ∀ b ob, s₁.heap.get? b = some ob → h₁.get? b = some ob := fun b ob e => hsb.extBut b ob (Nat.ne_of_lt (Heap.lt_size e)) (Heap.get?_push_of_some _ e)
  have small : ∀ p ∈ n₁, p.1 < s₁.heap.objs.size := fun p hp => Heap.lt_size (S₁.nw p hp).1
  have newC : (hideAll s₁.heap (n₁.map (·.1))).get? s₁.heap.objs.size = none := by
    cases q : (hideAll s₁.heap (n₁.map (·.1))).get? s₁.heap.objs.size with
    | none => rfl
    | some ob => exact absurd (Heap.lt_size (of_hideAll _ q)) (Nat.lt_irrefl _)
  have S₂ : St o (hideAll s₁.heap (n₁.map (·.1))) (compEnvC scope cl s₁.heap.objs.size env) lc cc n₁ { s with heap := h₁, toks := s.toks + 0 } := by
    refine ⟨⟨?_, fun b ob e => kept b ob (of_hideAll _ e), Nat.le_of_eq (hideAll_size _ _)⟩, fun p hp => ⟨kept _ _ (S₁.nw p hp).1, Nat.ne_of_lt (small p hp), hideAll_none _ (List.mem_map_of_mem hp)⟩, S₁.ord, fun p hp => ?_, ?_, Ev.of hev, S.os⟩
    · rw [lk_none hlc]; exact hns
    · obtain ⟨_, ob, hm, hd⟩ := S₁.cel p (hcc.subset hp)
      exact ⟨hcl p hp, ob, hm, hd⟩
    · exact S.cnd.sublist (hcc.map _)
  subst hn₁
  refine codeAny_mono (h _ _ _ _ S₂ (T.keeps st) st) fun r s' hr => ?_
  cases r with
  | error e => exact hr.elim
  | ok f =>
    obtain ⟨l', c', n', S', hc, k⟩ := hr
    refine ⟨_, S'.fr.ns, fun h' hs' => k _ ?_⟩
    refine S₁.unghost (s' := { s' with heap := h' }) (fun b ob e => hs'.extBut b ob (fun q => ?_) (S'.fr.keep b ob e)) (fun p hp => ⟨hs'.extBut _ _ (S'.nw p hp).2.1 (S'.nw p hp).1, (S'.nw p hp).2.2⟩) S'.ord (fun q hq hcq => ?_) S'.os
    · have q' : b = s₁.heap.objs.size := q
      rw [q', newC] at e; cases e
    · rcases List.mem_cons.mp hq with e | hq
      · subst e; cases hcq
      · exact hc q hq hcq

/-- one `for` of a comprehension, its turns -/
theorem comp_rule {X : Type} {it acc : Addr} {N : Nat} {target iter elt : Expr} {ifs : List Expr} {scope : Scope} {pos : Pos} {cenv : Env} {itP : Nat → Obj → Prop} {item : Nat → Value → Prop} {needs : Heap → Prop} {g : Heap}
    (lF : Nat → X → Vars) (cc : Cels) (hi lo : Nat → X → Ledg) (P : Nat → X → Prop) (y₀ : X) {ob₀ : Obj}
    (I : Iter prog w A it N itP item needs) (hself : ∀ (s : Shared) i ob (Q : Value → Shared → Prop) E, s.heap.get? it = some ob → itP i ob → Q (.ref it) s → wpAny (model prog w) A (pyIter (.ref it)) Q E s)
    (hob : itP 0 ob₀) (S : St o g cenv (lF 0 y₀) cc (hi 0 y₀ ++ (it, ob₀) :: lo 0 y₀) s) (h0 : P 0 y₀)
    (ht : ∀ v, letOwnedTupleGo target (.ref it) v = pure ())
    (hneeds : ∀ ob i y s, St o g cenv (lF i y) cc (hi i y ++ (it, ob) :: lo i y) s → needs s.heap)
    (turn : ∀ i y ob v s, i < N → P i y → item i v → itP (i + 1) ob → St o g cenv (lF i y) cc (hi i y ++ (it, ob) :: lo i y) s →
      wpAny (model prog w) A (assign target cenv v) (fun _ s₂ => wpAny (model prog w) A (forIn ifs true fun c r => if r = true then do let ok ← isTrue c cenv (eval c cenv); pure (ForInStep.yield ok) else pure (ForInStep.yield r))
        (fun ok s₃ => if ok = true then wpAny (model prog w) A (eval elt cenv) (fun x s₄ => wpAny (model prog w) A (call (.builtin "list.append") [.ref acc, x]) (fun _ s₅ => ∃ y, P (i + 1) y ∧ St o g cenv (lF (i + 1) y) cc (hi (i + 1) y ++ (it, ob) :: lo (i + 1) y) s₅) (fun _ _ => False) s₄) (fun _ _ => False) s₃
          else ∃ y, P (i + 1) y ∧ St o g cenv (lF (i + 1) y) cc (hi (i + 1) y ++ (it, ob) :: lo (i + 1) y) s₃) (fun _ _ => False) s₂) (fun _ _ => False) s)
    (done : ∀ y s, P N y → St o g cenv (lF N y) cc (hi N y ++ lo N y) s → R (.ok .next) s) :
    codeAny (model prog w) A (.compStart (.ListComp elt [⟨target, iter, ifs, 0⟩] scope pos) 0 (.ref it) (.ref acc) cenv) R s := by
  have loop : codeAny (model prog w) A (.compLoop (.ListComp elt [⟨target, iter, ifs, 0⟩] scope pos) 0 (.ref it) (.ref acc) cenv) R s := by
    refine codeAny_compLoop_tests (fun k s' => ∃ i y ob, P i y ∧ itP i ob ∧ St o g cenv (lF i y) cc (hi i y ++ (it, ob) :: lo i y) s' ∧ i ≤ N ∧ k = N - i) ?_ N ⟨0, y₀, ob₀, h0, hob, S, Nat.zero_le _, rfl⟩ ht
    rintro k s' ⟨i, y, ob, hP, hob, S', hi', rfl⟩
    have hg := S'.nw.get (a := it) (o := ob) (by simp)
    have hn := hneeds _ _ _ _ S'
    have nc := I.nocell _ _ hob
    by_cases hlt : i < N
    · refine I.step i s' ob _ _ hlt hg hob hn fun v h' tk ob' hv hg' hob' hs => ?_
      have S₁ := S'.upd (t := tk) (Put.at (hi i y) (lo i y)) hs hg' (cellE_no nc)
      have nx : ∀ s₅, (∃ y, P (i + 1) y ∧ St o g cenv (lF (i + 1) y) cc (hi (i + 1) y ++ (it, ob') :: lo (i + 1) y) s₅) → ∃ m, m < N - i ∧ ∃ i y ob, P i y ∧ itP i ob ∧ St o g cenv (lF i y) cc (hi i y ++ (it, ob) :: lo i y) s₅ ∧ i ≤ N ∧ m = N - i :=
        fun s₅ ⟨y', hp, st⟩ => ⟨N - (i + 1), by omega, i + 1, y', ob', hp, hob', st, hlt, rfl⟩
      refine wpAny_mono (turn i y ob' v _ hlt hP hv hob' S₁) (fun _ s₂ h₂ => wpAny_mono h₂ (fun ok s₃ h₃ => ?_) fun _ _ x => x.elim) fun _ _ x => x.elim
      cases ok with
      | false => exact nx _ h₃
      | true => exact wpAny_mono h₃ (fun x s₄ h₄ => wpAny_mono h₄ (fun _ s₅ h₅ => nx _ h₅) fun _ _ x => x.elim) fun _ _ x => x.elim
    · obtain rfl : i = N := by omega
      exact I.fin s' ob _ _ hg hob hn fun h' tk he => done _ _ hP (S'.extBut nc he)
  refine codeAny_compStart_list loop ?_
  exact hself s 0 ob₀ _ _ (S.nw.get (by simp)) hob loop
end
end
section
open PySem PySem.W PySem.Calls PyProof.Rows
theorem compTurn_outer (elt t0 i0 t1 i1 : Expr) (f0 f1 : List Expr) (scope : Scope) (pos : Pos) (it acc : Value) (env : Env) :
    compTurn (.ListComp elt [⟨t0, i0, f0, 0⟩, ⟨t1, i1, f1, 0⟩] scope pos) 0 it acc env = (do
      standAt i0.pos
      match ← pyNext it with
      | none => pure (.done .next)
      | some v =>
        letOwnedTupleGo t0 it v
        assign t0 env v
        let mut ok := true
        for c in f0 do
          if ok then ok ← isTrue c env (eval c env)
        if ok then
          let x ← eval i1 env
          standAt i1.pos
          let x ← foldedSetIterable i1 env x
          let _ ← runOwn (.compStart (.ListComp elt [⟨t0, i0, f0, 0⟩, ⟨t1, i1, f1, 0⟩] scope pos) 1 (← holding [x] (pyIter x)) acc env) env
        again (.compLoop (.ListComp elt [⟨t0, i0, f0, 0⟩, ⟨t1, i1, f1, 0⟩] scope pos) 0 it acc env)) := by rfl
theorem compTurn_inner (elt t0 i0 t1 i1 : Expr) (f0 f1 : List Expr) (scope : Scope) (pos : Pos) (it acc : Value) (env : Env) :
    compTurn (.ListComp elt [⟨t0, i0, f0, 0⟩, ⟨t1, i1, f1, 0⟩] scope pos) 1 it acc env = (do
      standAt i1.pos
      match ← pyNext it with
      | none => pure (.done .next)
      | some v =>
        letOwnedTupleGo t1 it v
        assign t1 env v
        let mut ok := true
        for c in f1 do
          if ok then ok ← isTrue c env (eval c env)
        if ok then
          (do let _ ← call (.builtin "list.append") [acc, ← eval elt env])
        again (.compLoop (.ListComp elt [⟨t0, i0, f0, 0⟩, ⟨t1, i1, f1, 0⟩] scope pos) 1 it acc env)) := by rfl

section
variable {K : Frag} {mg mb : Str → Option Value} {prog : Program} {w : World} {A : Around} {E : Value → Shared → Prop} {o : OsP} {B : Heap} {env : Env} {l l' : Vars} {c c' : Cels} {n n' pre post : Ledg} {s s' : Shared} {R : Result → Shared → Prop}

theorem codeAny_compLoop_inner {elt t0 i0 t1 i1 : Expr} {f0 f1 : List Expr} {scope : Scope} {pos : Pos} {it acc : Value} {env : Env} (I : Nat → Shared → Prop)
    (turn : ∀ n s, I n s → wpAny (model prog w) A (pyNext it) (fun r s₁ => match r with
      | none => R (.ok .next) s₁
      | some v => wpAny (model prog w) A (assign t1 env v) (fun _ s₂ =>
          wpAny (model prog w) A (forIn f1 true fun c r => if r = true then do let ok ← isTrue c env (eval c env); pure (ForInStep.yield ok) else pure (ForInStep.yield r)) (fun ok s₃ =>
            if ok = true then wpAny (model prog w) A (eval elt env) (fun x s₄ =>
              wpAny (model prog w) A (call (.builtin "list.append") [acc, x]) (fun _ s₅ => ∃ m, m < n ∧ I m s₅) (notedBy (model prog w) A env fun e s' => R (.error e) s') s₄) (notedBy (model prog w) A env fun e s' => R (.error e) s') s₃
            else ∃ m, m < n ∧ I m s₃) (notedBy (model prog w) A env fun e s' => R (.error e) s') s₂) (notedBy (model prog w) A env fun e s' => R (.error e) s') s₁) (notedBy (model prog w) A env fun e s' => R (.error e) s') s)
    (n : Nat) (h : I n s) (ht : ∀ v, letOwnedTupleGo t1 it v = pure ()) :
    codeAny (model prog w) A (.compLoop (.ListComp elt [⟨t0, i0, f0, 0⟩, ⟨t1, i1, f1, 0⟩] scope pos) 1 it acc env) R s := by
  refine codeAny_loop rfl I (fun n s hI => ?_) n h
  show wpAny _ A ((compTurn (.ListComp elt [⟨t0, i0, f0, 0⟩, ⟨t1, i1, f1, 0⟩] scope pos) 1 it acc env).onRaise (fun x => do noteFrame x env; theTreesLotGoes x)) _ _ s
  refine wpAny_noted ?_
  rw [compTurn_inner]
  refine wpAny_bind (wpAny_standAt (wpAny_bind (wpAny_mono (turn n s hI) (fun r s₁ h₁ => ?_) fun _ _ h' => h')))
  cases r with
  | none => exact wpAny_pure h₁
  | some v =>
    refine wpAny_bind (wpAny_of_eq (ht v) ?_)
    refine wpAny_bind (wpAny_mono h₁ (fun _ s₂ h₂ => wpAny_bind (wpAny_mono h₂ (fun ok s₃ h₃ => ?_) fun _ _ h' => h')) fun _ _ h' => h')
    cases ok with
    | false => exact wpAny_pure ⟨rfl, h₃⟩
    | true =>
      exact wpAny_bind (wpAny_bind (wpAny_mono h₃ (fun x s₄ h₄ => wpAny_bind (wpAny_mono h₄ (fun _ s₅ h₅ => wpAny_pure (wpAny_pure ⟨rfl, h₅⟩)) fun _ _ h' => h')) fun _ _ h' => h'))

theorem codeAny_compLoop_outer {elt t0 i0 t1 i1 : Expr} {f0 f1 : List Expr} {scope : Scope} {pos : Pos} {it acc : Value} {env : Env} (I : Nat → Shared → Prop)
    (turn : ∀ n s, I n s → wpAny (model prog w) A (pyNext it) (fun r s₁ => match r with
      | none => R (.ok .next) s₁
      | some v => wpAny (model prog w) A (assign t0 env v) (fun _ s₂ =>
          wpAny (model prog w) A (forIn f0 true fun c r => if r = true then do let ok ← isTrue c env (eval c env); pure (ForInStep.yield ok) else pure (ForInStep.yield r)) (fun ok s₃ =>
            if ok = true then wpAny (model prog w) A (eval i1 env) (fun x s₄ =>
              wpAny (model prog w) A (pyIter x) (fun it' s₅ => codeAny (model prog w) A (.compStart (.ListComp elt [⟨t0, i0, f0, 0⟩, ⟨t1, i1, f1, 0⟩] scope pos) 1 it' acc env)
                (fun r s₆ => match r with | .ok _ => ∃ m, m < n ∧ I m s₆ | .error _ => False) s₅) (notedBy (model prog w) A env fun e s' => R (.error e) s') s₄) (notedBy (model prog w) A env fun e s' => R (.error e) s') s₃
            else ∃ m, m < n ∧ I m s₃) (notedBy (model prog w) A env fun e s' => R (.error e) s') s₂) (notedBy (model prog w) A env fun e s' => R (.error e) s') s₁) (notedBy (model prog w) A env fun e s' => R (.error e) s') s)
    (n : Nat) (h : I n s) (ht : ∀ v, letOwnedTupleGo t0 it v = pure ()) (hf : ∀ x : Value, foldedSetIterable i1 env x = pure x) :
    codeAny (model prog w) A (.compLoop (.ListComp elt [⟨t0, i0, f0, 0⟩, ⟨t1, i1, f1, 0⟩] scope pos) 0 it acc env) R s := by
  refine codeAny_loop rfl I (fun n s hI => ?_) n h
  show wpAny _ A ((compTurn (.ListComp elt [⟨t0, i0, f0, 0⟩, ⟨t1, i1, f1, 0⟩] scope pos) 0 it acc env).onRaise (fun x => do noteFrame x env; theTreesLotGoes x)) _ _ s
  refine wpAny_noted ?_
  rw [compTurn_outer]
  refine wpAny_bind (wpAny_standAt (wpAny_bind (wpAny_mono (turn n s hI) (fun r s₁ h₁ => ?_) fun _ _ h' => h')))
  cases r with
  | none => exact wpAny_pure h₁
  | some v =>
    refine wpAny_bind (wpAny_of_eq (ht v) ?_)
    refine wpAny_bind (wpAny_mono h₁ (fun _ s₂ h₂ => wpAny_bind (wpAny_mono h₂ (fun ok s₃ h₃ => ?_) fun _ _ h' => h')) fun _ _ h' => h')
    cases ok with
    | false => exact wpAny_pure ⟨rfl, h₃⟩
    | true =>
      refine wpAny_bind (wpAny_mono h₃ (fun x s₄ h₄ => wpAny_bind (wpAny_standAt (wpAny_bind (wpAny_of_eq (hf x) (wpAny_bind (wpAny_holding (wpAny_mono h₄ (fun it' s₅ h₅ => ?_) fun _ _ h' => h'))))))) fun _ _ h' => h')
      refine wpAny_bind (wpAny_runOwn (codeAny_mono h₅ fun r s₆ h₆ => ?_))
      cases r with
      | ok f => exact wpAny_pure ⟨rfl, h₆⟩
      | error e => exact h₆.elim

theorem codeAny_compStart_inner {elt t0 i0 t1 i1 : Expr} {f0 f1 : List Expr} {scope : Scope} {pos : Pos} {it acc : Value} {env : Env}
    (h0 : codeAny (model prog w) A (.compLoop (.ListComp elt [⟨t0, i0, f0, 0⟩, ⟨t1, i1, f1, 0⟩] scope pos) 1 it acc env) R s)
    (h : wpAny (model prog w) A (pyIter it) (fun it' s' => codeAny (model prog w) A (.compLoop (.ListComp elt [⟨t0, i0, f0, 0⟩, ⟨t1, i1, f1, 0⟩] scope pos) 1 it' acc env) R s')
      (notedBy (model prog w) A env fun x s' => R (.error x) s') s) :
    codeAny (model prog w) A (.compStart (.ListComp elt [⟨t0, i0, f0, 0⟩, ⟨t1, i1, f1, 0⟩] scope pos) 1 it acc env) R s := by
  refine codeAny_of_tree ?_
  show wpAny _ _ ((compStart (.ListComp elt [⟨t0, i0, f0, 0⟩, ⟨t1, i1, f1, 0⟩] scope pos) 1 it acc env).onRaise (fun x => do noteFrame x env; standAt theWindowsPlace)) _ _ s
  refine wpAny_notedAt ?_
  unfold compStart
  show wpAny _ _ (ask >>= _) _ _ s
  refine wpAny_bind (wpAny_askSetting (wpAny_ite ?_))
  split
  · first
      | exact wpAny_bind (wpAny_pure (wpAny_pure (And.intro rfl h0)))
      | exact wpAny_pure (And.intro rfl h0)
  · first
      | exact wpAny_bind (wpAny_rule (wpAny_bind (wpAny_standAt (wpAny_bind (wpAny_mono h (fun it' s' h' => wpAny_pure (And.intro rfl h')) fun _ _ x => x)))))
      | (refine wpAny_bind (wpAny_rule ?_); show wpAny _ _ (standAt i1.pos >>= _) _ _ s; exact wpAny_bind (wpAny_standAt (wpAny_bind (wpAny_mono h (fun it' s' h' => wpAny_pure (And.intro rfl h')) fun _ _ x => x))))

/-- the inner `for` of two -/
theorem comp_rule1 {X : Type} {it acc : Addr} {N : Nat} {target iter elt t0 i0 : Expr} {ifs f0 : List Expr} {scope : Scope} {pos : Pos} {cenv : Env} {itP : Nat → Obj → Prop} {item : Nat → Value → Prop} {needs : Heap → Prop} {g : Heap}
    (lF : Nat → X → Vars) (cc : Cels) (hi lo : Nat → X → Ledg) (P : Nat → X → Prop) (y₀ : X) {ob₀ : Obj}
    (I : Iter prog w A it N itP item needs) (hself : ∀ (s : Shared) i ob (Q : Value → Shared → Prop) E, s.heap.get? it = some ob → itP i ob → Q (.ref it) s → wpAny (model prog w) A (pyIter (.ref it)) Q E s)
    (hob : itP 0 ob₀) (S : St o g cenv (lF 0 y₀) cc (hi 0 y₀ ++ (it, ob₀) :: lo 0 y₀) s) (h0 : P 0 y₀)
    (ht : ∀ v, letOwnedTupleGo target (.ref it) v = pure ())
    (hneeds : ∀ ob i y s, St o g cenv (lF i y) cc (hi i y ++ (it, ob) :: lo i y) s → needs s.heap)
    (turn : ∀ i y ob v s, i < N → P i y → item i v → itP (i + 1) ob → St o g cenv (lF i y) cc (hi i y ++ (it, ob) :: lo i y) s →
      wpAny (model prog w) A (assign target cenv v) (fun _ s₂ => wpAny (model prog w) A (forIn ifs true fun c r => if r = true then do let ok ← isTrue c cenv (eval c cenv); pure (ForInStep.yield ok) else pure (ForInStep.yield r))
        (fun ok s₃ => if ok = true then wpAny (model prog w) A (eval elt cenv) (fun x s₄ => wpAny (model prog w) A (call (.builtin "list.append") [.ref acc, x]) (fun _ s₅ => ∃ y, P (i + 1) y ∧ St o g cenv (lF (i + 1) y) cc (hi (i + 1) y ++ (it, ob) :: lo (i + 1) y) s₅) (fun _ _ => False) s₄) (fun _ _ => False) s₃
          else ∃ y, P (i + 1) y ∧ St o g cenv (lF (i + 1) y) cc (hi (i + 1) y ++ (it, ob) :: lo (i + 1) y) s₃) (fun _ _ => False) s₂) (fun _ _ => False) s)
    (done : ∀ y s, P N y → St o g cenv (lF N y) cc (hi N y ++ lo N y) s → R (.ok .next) s) :
    codeAny (model prog w) A (.compStart (.ListComp elt [⟨t0, i0, f0, 0⟩, ⟨target, iter, ifs, 0⟩] scope pos) 1 (.ref it) (.ref acc) cenv) R s := by
  have loop : codeAny (model prog w) A (.compLoop (.ListComp elt [⟨t0, i0, f0, 0⟩, ⟨target, iter, ifs, 0⟩] scope pos) 1 (.ref it) (.ref acc) cenv) R s := by
    refine codeAny_compLoop_inner (fun k s' => ∃ i y ob, P i y ∧ itP i ob ∧ St o g cenv (lF i y) cc (hi i y ++ (it, ob) :: lo i y) s' ∧ i ≤ N ∧ k = N - i) ?_ N ⟨0, y₀, ob₀, h0, hob, S, Nat.zero_le _, rfl⟩ ht
    rintro k s' ⟨i, y, ob, hP, hob, S', hi', rfl⟩
    have hg := S'.nw.get (a := it) (o := ob) (by simp)
    have hn := hneeds _ _ _ _ S'
    have nc := I.nocell _ _ hob
    by_cases hlt : i < N
    · refine I.step i s' ob _ _ hlt hg hob hn fun v h' tk ob' hv hg' hob' hs => ?_
      have S₁ := S'.upd (t := tk) (Put.at (hi i y) (lo i y)) hs hg' (cellE_no nc)
      have nx : ∀ s₅, (∃ y, P (i + 1) y ∧ St o g cenv (lF (i + 1) y) cc (hi (i + 1) y ++ (it, ob') :: lo (i + 1) y) s₅) → ∃ m, m < N - i ∧ ∃ i y ob, P i y ∧ itP i ob ∧ St o g cenv (lF i y) cc (hi i y ++ (it, ob) :: lo i y) s₅ ∧ i ≤ N ∧ m = N - i :=
        fun s₅ ⟨y', hp, st⟩ => ⟨N - (i + 1), by omega, i + 1, y', ob', hp, hob', st, hlt, rfl⟩
      refine wpAny_mono (turn i y ob' v _ hlt hP hv hob' S₁) (fun _ s₂ h₂ => wpAny_mono h₂ (fun ok s₃ h₃ => ?_) fun _ _ x => x.elim) fun _ _ x => x.elim
      cases ok with
      | false => exact nx _ h₃
      | true => exact wpAny_mono h₃ (fun x s₄ h₄ => wpAny_mono h₄ (fun _ s₅ h₅ => nx _ h₅) fun _ _ x => x.elim) fun _ _ x => x.elim
    · obtain rfl : i = N := by omega
      exact I.fin s' ob _ _ hg hob hn fun h' tk he => done _ _ hP (S'.extBut nc he)
  refine codeAny_compStart_inner loop ?_
  exact hself s 0 ob₀ _ _ (S.nw.get (by simp)) hob loop

/-- the outer `for` of two -/
theorem comp_rule0 {X : Type} {it acc : Addr} {N : Nat} {target iter elt t1 i1 : Expr} {ifs f1 : List Expr} {scope : Scope} {pos : Pos} {cenv : Env} {itP : Nat → Obj → Prop} {item : Nat → Value → Prop} {needs : Heap → Prop} {g : Heap}
    (lF : Nat → X → Vars) (cc : Cels) (hi lo : Nat → X → Ledg) (P : Nat → X → Prop) (y₀ : X) {ob₀ : Obj}
    (I : Iter prog w A it N itP item needs) (hself : ∀ (s : Shared) i ob (Q : Value → Shared → Prop) E, s.heap.get? it = some ob → itP i ob → Q (.ref it) s → wpAny (model prog w) A (pyIter (.ref it)) Q E s)
    (hob : itP 0 ob₀) (S : St o g cenv (lF 0 y₀) cc (hi 0 y₀ ++ (it, ob₀) :: lo 0 y₀) s) (h0 : P 0 y₀)
    (ht : ∀ v, letOwnedTupleGo target (.ref it) v = pure ()) (hf1 : ∀ x : Value, foldedSetIterable i1 cenv x = pure x)
    (hneeds : ∀ ob i y s, St o g cenv (lF i y) cc (hi i y ++ (it, ob) :: lo i y) s → needs s.heap)
    (turn : ∀ i y ob v s, i < N → P i y → item i v → itP (i + 1) ob → St o g cenv (lF i y) cc (hi i y ++ (it, ob) :: lo i y) s →
      wpAny (model prog w) A (assign target cenv v) (fun _ s₂ => wpAny (model prog w) A (forIn ifs true fun c r => if r = true then do let ok ← isTrue c cenv (eval c cenv); pure (ForInStep.yield ok) else pure (ForInStep.yield r))
        (fun ok s₃ => if ok = true then wpAny (model prog w) A (eval i1 cenv) (fun x s₄ => wpAny (model prog w) A (pyIter x) (fun it' s₅ => codeAny (model prog w) A (.compStart (.ListComp elt [⟨target, iter, ifs, 0⟩, ⟨t1, i1, f1, 0⟩] scope pos) 1 it' (.ref acc) cenv) (fun r s₆ => match r with | .ok _ => ∃ y, P (i + 1) y ∧ St o g cenv (lF (i + 1) y) cc (hi (i + 1) y ++ (it, ob) :: lo (i + 1) y) s₆ | .error _ => False) s₅) (fun _ _ => False) s₄) (fun _ _ => False) s₃
          else ∃ y, P (i + 1) y ∧ St o g cenv (lF (i + 1) y) cc (hi (i + 1) y ++ (it, ob) :: lo (i + 1) y) s₃) (fun _ _ => False) s₂) (fun _ _ => False) s)
    (done : ∀ y s, P N y → St o g cenv (lF N y) cc (hi N y ++ lo N y) s → R (.ok .next) s) :
    codeAny (model prog w) A (.compStart (.ListComp elt [⟨target, iter, ifs, 0⟩, ⟨t1, i1, f1, 0⟩] scope pos) 0 (.ref it) (.ref acc) cenv) R s := by
  have loop : codeAny (model prog w) A (.compLoop (.ListComp elt [⟨target, iter, ifs, 0⟩, ⟨t1, i1, f1, 0⟩] scope pos) 0 (.ref it) (.ref acc) cenv) R s := by
    refine codeAny_compLoop_outer (fun k s' => ∃ i y ob, P i y ∧ itP i ob ∧ St o g cenv (lF i y) cc (hi i y ++ (it, ob) :: lo i y) s' ∧ i ≤ N ∧ k = N - i) ?_ N ⟨0, y₀, ob₀, h0, hob, S, Nat.zero_le _, rfl⟩ ht hf1
    rintro k s' ⟨i, y, ob, hP, hob, S', hi', rfl⟩
    have hg := S'.nw.get (a := it) (o := ob) (by simp)
    have hn := hneeds _ _ _ _ S'
    have nc := I.nocell _ _ hob
    by_cases hlt : i < N
    · refine I.step i s' ob _ _ hlt hg hob hn fun v h' tk ob' hv hg' hob' hs => ?_
      have S₁ := S'.upd (t := tk) (Put.at (hi i y) (lo i y)) hs hg' (cellE_no nc)
      have nx : ∀ s₅, (∃ y, P (i + 1) y ∧ St o g cenv (lF (i + 1) y) cc (hi (i + 1) y ++ (it, ob') :: lo (i + 1) y) s₅) → ∃ m, m < N - i ∧ ∃ i y ob, P i y ∧ itP i ob ∧ St o g cenv (lF i y) cc (hi i y ++ (it, ob) :: lo i y) s₅ ∧ i ≤ N ∧ m = N - i :=
        fun s₅ ⟨y', hp, st⟩ => ⟨N - (i + 1), by omega, i + 1, y', ob', hp, hob', st, hlt, rfl⟩
      refine wpAny_mono (turn i y ob' v _ hlt hP hv hob' S₁) (fun _ s₂ h₂ => wpAny_mono h₂ (fun ok s₃ h₃ => ?_) fun _ _ x => x.elim) fun _ _ x => x.elim
      cases ok with
      | false => exact nx _ h₃
      | true => exact wpAny_mono h₃ (fun x s₄ h₄ => wpAny_mono h₄ (fun it' s₅ h₅ => codeAny_mono h₅ fun r s₆ h₆ => by
          cases r with
          | ok f => exact nx _ h₆
          | error e => exact h₆.elim) fun _ _ x => x.elim) fun _ _ x => x.elim
    · obtain rfl : i = N := by omega
      exact I.fin s' ob _ _ hg hob hn fun h' tk he => done _ _ hP (S'.extBut nc he)
  refine codeAny_compStart_list loop ?_
  exact hself s 0 ob₀ _ _ (S.nw.get (by simp)) hob loop
end
end
section
open PySem PySem.W PySem.Calls PyProof.Rows
abbrev pairOb (a b : Value) : Obj := { cls := .type "tuple", data := .seq #[a, b] }
abbrev zipOb (f0 : Value) (TI TO : Addr) : Obj := { cls := .type "zip", dict := none, data := .fields #[f0, .bool false, .bool false, .ref TI, .ref TO], slots := #[] }
theorem zip_new_in {prog : Program} {w : World} (a b : Value) : MeetsIn prog w (Builtin.«zip.__new__» ⟨[.type "zip", a, b], []⟩) (fun A R s => wpAny (model prog w) A.in1 (pyIter a) (fun i1 s₁ => wpAny (model prog w) A.in1 (pyIter b)
    (fun i2 s₂ => R (.ok (.ret (.ref (s₂.heap.objs.size + 2)))) { s₂ with heap := ((s₂.heap.push (pairOb i1 i2)).push (pairOb .none .none)).push (zipOb .none s₂.heap.objs.size (s₂.heap.objs.size + 1)) }) (fun e s' => R (.error e) s') s₁) (fun e s' => R (.error e) s') s) :=
  .of_wp fun A R s h => by
    have hsub := sub_zip
    show wpAny _ _ (isSubtype (.type "zip") (.type "zip") >>= fun r => _) _ _ s
    rw [hsub]
    refine wpAny_bind (wpAny_pure ?_)
    show wpAny _ _ (Builtin.SmallTypes.iterAll [a, b] >>= fun its => newTuple its >>= fun t => newTuple (its.map fun _ => .none) >>= fun u => Builtin.SmallTypes.newRecord (.type "zip") (Builtin.SmallTypes.ownedTupleFields ++ [.bool false, t, u]) >>= fun r => ret r) _ _ s
    refine wpAny_bind ?_
    unfold Builtin.SmallTypes.iterAll
    simp only [List.forIn_cons, List.forIn_nil]
    refine wpAny_bind (wpAny_bind (wpAny_bind (wpAny_holding (wpAny_mono h (fun i1 s₁ h₁ => ?_) fun _ _ x => x))))
    refine wpAny_pure (wpAny_bind (wpAny_bind (wpAny_holding (wpAny_mono h₁ (fun i2 s₂ h₂ => ?_) fun _ _ x => x))))
    refine wpAny_pure (wpAny_pure (wpAny_pure ?_))
    show wpAny _ _ (newTuple [i1, i2] >>= _) _ _ _
    refine wpAny_bind (wpAny_newObj_type ?_ (by size_fits))
    refine wpAny_bind (wpAny_newObj_type ?_ (by exact Nat.le_of_ble_eq_true rfl))
    refine wpAny_bind ?_
    show wpAny _ _ (newObj (.type "zip") (.fields #[.none, .bool false, .bool false, _, _])) _ _ _
    refine wpAny_newObj_type ?_
    refine wpAny_pure ⟨_, rfl, ?_⟩
    have e1 : (s₂.heap.push (pairOb i1 i2)).objs.size = s₂.heap.objs.size + 1 := Heap.size_push ..
    have e2 : ((s₂.heap.push (pairOb i1 i2)).push (pairOb .none .none)).objs.size = s₂.heap.objs.size + 2 := by rw [Heap.size_push, e1]
    show R (.ok (.ret (.ref ((s₂.heap.push (pairOb i1 i2)).push (pairOb .none .none)).objs.size))) { s₂ with heap := ((s₂.heap.push (pairOb i1 i2)).push (pairOb .none .none)).push (zipOb .none s₂.heap.objs.size (s₂.heap.push (pairOb i1 i2)).objs.size) }
    rw [e1, e2]
    exact h₂

/-- a comprehension whose list a name takes -/
def CompA (prog : Program) (w : World) (A : Around) (elt : Expr) (gens : List Comprehension) (scope : Scope) (pos : Pos) (env : Env) (cl : List (Str × Addr)) (y : Str) (py : Pos) (Q : Flow → Shared → Prop) (E : Value → Shared → Prop) (it : Value) (s : Shared) : Prop :=
  wpAny (model prog w) A (newList []) (fun acc s₃ => wpAny (model prog w) A (newFunctionEnv scope env.globals cl [] env.qual none .none (some env)) (fun cenv s₄ =>
    codeAny (model prog w) A (.compStart (.ListComp elt gens scope pos) 0 it acc { cenv with scope := relabel scope env }) (compPost (model prog w) A E (some (assign (.Name y py) env)) (fun _ s' => Q .next s') acc cenv.locals) s₄) E s₃) E s

section
variable {K : Frag} {mg mb : Str → Option Value} {prog : Program} {w : World} {A : Around} {E : Value → Shared → Prop} {o : OsP} {B : Heap} {env : Env} {l l' : Vars} {c c' : Cels} {n n' pre post : Ledg} {s s' : Shared} {R : Result → Shared → Prop}

theorem x_compA {cl : List (Str × Addr)} {elt : Expr} {g : Comprehension} {gs : List Comprehension} {scope : Scope} {pos spos py : Pos} {y : Str} {Q : Flow → Shared → Prop} (hsw : swapsWith (.ListComp elt (g :: gs) scope pos) (some (.Name y py)) spos.line env = pure true) (ha : g.is_async = 0) (hclos : closureFor scope env = pure cl) (hok : compOk scope = true)
    (hf : ∀ x : Value, foldedSetIterable g.iter env x = pure x)
    (h : wpAny (model prog w) A (eval g.iter env) (fun x s₁ => wpAny (model prog w) A (pyIter x) (CompA prog w A elt (g :: gs) scope pos env cl y py Q E) E s₁) E s) :
    wpAny (model prog w) A (exec (.Assign [.Name y py] (.ListComp elt (g :: gs) scope pos) spos) env) Q E s := by
  obtain ⟨k1, k2, k3⟩ := compOk_of hok
  obtain ⟨target, iter, ifs, ia⟩ := g
  obtain rfl : ia = 0 := ha
  rw [exec_Assign_Name_used _ _ _ _ hsw]
  refine wpAny_bind (wpAny_standAt (wpAny_bind ?_))
  show wpAny _ A (do let _ ← comprehension (.ListComp elt (⟨target, iter, ifs, 0⟩ :: gs) scope pos) scope env _ (newList []) false (eval iter env) (some (assign (.Name y py) env))) _ _ s
  exact wpAny_bind (wpAny_mono (wpAny_comprehension_free (use := some (assign (.Name y py) env)) (Q := fun _ s' => Q .next s') rfl hf hclos k1 k3 h) (fun _ s' hq => wpAny_pure (wpAny_pure hq)) fun _ _ e => e)

/-- an object of which the state says nothing changes -/
theorem St.off (S : St o B env l c n s) {C : Addr} {h' : Heap} {k : Nat} (hs : Heap.SameBut C s.heap h') (h1 : C ≠ env.locals) (h2 : ∀ p ∈ n, p.1 ≠ C) (h3 : B.get? C = none) : St o B env l c n { s with heap := h', toks := k } :=
  S.same (S.fr.change hs h1 h3) fun p hp => ⟨hs.extBut _ _ (h2 p hp) (S.nw p hp).1, (S.nw p hp).2⟩

theorem comp_core {cl : List (Str × Addr)} {elt : Expr} {gens : List Comprehension} {scope : Scope} {pos : Pos} {it : Value} {lc : Vars} {cc : Cels} {RR : Value → Addr → Result → Shared → Prop} (S : St o B env l c n s) (T : Base K mg mb B)
    (hok : compOk scope = true) (hev : evOk (relabel scope env) (lc.map (·.1)) (cc.map (·.1)) = true) (hlc : ∀ p ∈ lc, p.2 = none) (hcc : cc.Sublist c) (hcl : ∀ p ∈ cc, cl.lookup p.1 = some p.2.1)
    (h : ∀ g C acc s₁, St o g (compEnvC scope cl C env) lc cc ((acc, listOf ([] : List Value).toArray 0) :: n) s₁ → Base K mg mb g → (∀ b ob, B.get? b = some ob → g.get? b = some ob) →
      codeAny (model prog w) A (.compStart (.ListComp elt gens scope pos) 0 it (.ref acc) (compEnvC scope cl C env))
        (fun r s' => match r with
          | .ok _ => ∃ (l' : Vars) (c' : Cels) (n' : Ledg), St o g (compEnvC scope cl C env) l' c' n' s' ∧ KeepsC n n' ∧
              ((∃ m, s'.heap.Ns C m) → C ≠ env.locals → (∀ p ∈ n', p.1 ≠ C) → B.get? C = none → St o B env l c n' s' → RR (.ref acc) C r s')
          | .error _ => False) s₁) :
    wpAny (model prog w) A (newList []) (fun acc s₃ => wpAny (model prog w) A (newFunctionEnv scope env.globals cl [] env.qual none .none (some env)) (fun cenv s₄ =>
      codeAny (model prog w) A (.compStart (.ListComp elt gens scope pos) 0 it acc { cenv with scope := relabel scope env }) (RR acc cenv.locals) s₄) E s₃) E s := by
  obtain ⟨k1, k2, k3⟩ := compOk_of hok
  refine wpAny_newObj_type (wpAny_newFunctionEnv k2 (by intro y hy; simp at hy) (fun h₁ hns hsb => ?_) k1)
  have S₁ : St o B env l c ((s.heap.objs.size, listOf ([] : List Value).toArray 0) :: n) { s with heap := s.heap.push (listOf ([] : List Value).toArray 0) } := S.push _
  dsimp only at hns hsb ⊢
  generalize hs₁ : ({ s with heap := s.heap.push (listOf ([] : List Value).toArray 0) } : Shared) = s₁ at S₁
  have eh : s.heap.push { cls := .type "list", dict := none, data := .seq ([] : List Value).toArray } = s₁.heap := by rw [← hs₁]
  rw [eh] at hns hsb ⊢
  obtain ⟨st, _⟩ := S₁.ghost (R := fun _ _ => True) T
  generalize hn₁ : ((s.heap.objs.size, listOf ([] : List Value).toArray 0) :: n : Ledg) = n₁ at S₁ st
  have kept : ∀ b ob, s₁.heap.get? b = some ob → h₁.get? b = some ob := fun b ob e => hsb.extBut b ob (Nat.ne_of_lt (Heap.lt_size e)) (Heap.get?_push_of_some _ e)
  have small : ∀ p ∈ n₁, p.1 < s₁.heap.objs.size := fun p hp => Heap.lt_size (S₁.nw p hp).1
  have newC : (hideAll s₁.heap (n₁.map (·.1))).get? s₁.heap.objs.size = none := by
    cases q : (hideAll s₁.heap (n₁.map (·.1))).get? s₁.heap.objs.size with
    | none => rfl
    | some ob => exact absurd (Heap.lt_size (of_hideAll _ q)) (Nat.lt_irrefl _)
  have S₂ : St o (hideAll s₁.heap (n₁.map (·.1))) (compEnvC scope cl s₁.heap.objs.size env) lc cc n₁ { s with heap := h₁, toks := s.toks + 0 } := by
    refine ⟨⟨?_, fun b ob e => kept b ob (of_hideAll _ e), Nat.le_of_eq (hideAll_size _ _)⟩, fun p hp => ⟨kept _ _ (S₁.nw p hp).1, Nat.ne_of_lt (small p hp), hideAll_none _ (List.mem_map_of_mem hp)⟩, S₁.ord, fun p hp => ?_, ?_, Ev.of hev, S.os⟩
    · rw [lk_none hlc]; exact hns
    · obtain ⟨_, ob, hm, hd⟩ := S₁.cel p (hcc.subset hp)
      exact ⟨hcl p hp, ob, hm, hd⟩
    · exact S.cnd.sublist (hcc.map _)
  subst hn₁
  refine codeAny_mono (h _ _ _ _ S₂ (T.keeps st) st) fun r s' hr => ?_
  cases r with
  | error e => exact hr.elim
  | ok f =>
    obtain ⟨l', c', n', S', hc, k⟩ := hr
    refine k ⟨_, S'.fr.ns⟩ (Nat.ne_of_gt S₁.fr.ns.lt) (fun p hp => (S'.nw p hp).2.1) ?_ ?_
    · show B.get? s₁.heap.objs.size = none
      cases q : B.get? s₁.heap.objs.size with
      | none => rfl
      | some ob => rw [st _ _ q] at newC; cases newC
    refine S₁.unghost S'.fr.keep (fun p hp => ⟨(S'.nw p hp).1, (S'.nw p hp).2.2⟩) S'.ord (fun q hq hcq => ?_) S'.os
    rcases List.mem_cons.mp hq with e | hq
    · subst e; cases hcq
    · exact hc q hq hcq

theorem comp_enterA {cl : List (Str × Addr)} {elt : Expr} {gens : List Comprehension} {scope : Scope} {pos py : Pos} {y : Str} {u : Option Value} {it : Value} {Q : Flow → Shared → Prop} {lc : Vars} {l' : Addr → Vars} {cc : Cels} (S : St o B env l c n s) (T : Base K mg mb B)
    (hok : compOk scope = true) (hev : evOk (relabel scope env) (lc.map (·.1)) (cc.map (·.1)) = true) (hlc : ∀ p ∈ lc, p.2 = none) (hcc : cc.Sublist c) (hcl : ∀ p ∈ cc, cl.lookup p.1 = some p.2.1)
    (hput : ∀ acc, Put (y, u) (y, some (.ref acc)) l (l' acc))
    (h : ∀ g C acc s₁, St o g (compEnvC scope cl C env) lc cc ((acc, listOf ([] : List Value).toArray 0) :: n) s₁ → Base K mg mb g → (∀ b ob, B.get? b = some ob → g.get? b = some ob) →
      codeAny (model prog w) A (.compStart (.ListComp elt gens scope pos) 0 it (.ref acc) (compEnvC scope cl C env))
        (fun r s' => match r with
          | .ok _ => ∃ (l₁ : Vars) (c' : Cels) (n' : Ledg), St o g (compEnvC scope cl C env) l₁ c' n' s' ∧ KeepsC n n' ∧ ∀ s'', St o B env (l' acc) c n' s'' → Q .next s''
          | .error _ => False) s₁) :
    CompA prog w A elt gens scope pos env cl y py Q E it s := by
  refine comp_core S T hok hev hlc hcc hcl fun g C acc s₁ S₁ T₁ ext => codeAny_mono (h g C acc s₁ S₁ T₁ ext) fun r s' hr => ?_
  cases r with
  | error e => exact hr
  | ok f =>
    obtain ⟨l₁, c', n', S', hc, k⟩ := hr
    refine ⟨l₁, c', n', S', hc, fun ⟨m, hns⟩ h1 h2 h3 S₂ => ?_⟩
    have e := S₂.ev.loc y (List.mem_map.mpr ⟨_, (hput acc).mem, rfl⟩)
    show wpAny _ A (assign (.Name y py) env (.ref acc)) _ _ _
    refine wpAny_assign_Name (wpAny_storeName_local e.1 S₂.fr.ns (fun h₂ hn₂ hs₂ => ⟨m, hns.sameBut hs₂ h1, fun h₃ hs₃ => ?_⟩) (by rw [S₂.ev.kf]; rfl))
    exact k _ ((S₂.store (hput acc) hn₂ hs₂).off hs₃ h1 h2 h3)
end
end
section
open PySem PySem.W PySem.Calls PyProof.Rows
/-- a zip being made, its iterators at hand -/
def ZipS (Q : Value → Shared → Prop) (i1 i2 : Value) (s : Shared) : Prop :=
  ∀ h', h' = ((s.heap.push (pairOb i1 i2)).push (pairOb .none .none)).push (zipOb .none s.heap.objs.size (s.heap.objs.size + 1)) → Q (.ref (s.heap.objs.size + 2)) { s with heap := h' }

section
variable {K : Frag} {mg mb : Str → Option Value} {prog : Program} {w : World} {A : Around} {E : Value → Shared → Prop} {o : OsP} {B : Heap} {env : Env} {l l' : Vars} {c c' : Cels} {n n' pre post : Ledg} {s s' : Shared} {R : Result → Shared → Prop}

theorem r_zip {a b : Value} {Q : Value → Shared → Prop} (h : wpAny (model prog w) A.in1.in1 (pyIter a) (fun i1 s₁ => wpAny (model prog w) A.in1.in1 (pyIter b) (ZipS Q i1) E s₁) E s) : wpAny (model prog w) A (call (.type "zip") [a, b]) Q E s := by
  refine callType_newIn F.called_zip (by decide) (F.typeCall_zip_2 _ _) (F.newCall_zip_2 _ _) (fun obj => F.args_object_init_3 obj _ _) F.entry_zip_new (zip_new_in a b) ?_
  refine wpAny_mono h (fun i1 s₁ h₁ => wpAny_mono h₁ (fun i2 s₂ h₂ => ?_) fun _ _ x => x) fun _ _ x => x
  have e1 : (s₂.heap.push (pairOb i1 i2)).objs.size = s₂.heap.objs.size + 1 := Heap.size_push ..
  have e2 : ((s₂.heap.push (pairOb i1 i2)).push (pairOb .none .none)).objs.size = s₂.heap.objs.size + 2 := by rw [Heap.size_push, e1]
  refine ⟨⟨zipOb .none s₂.heap.objs.size (s₂.heap.objs.size + 1), ?_, rfl⟩, h₂ _ rfl⟩
  show (((s₂.heap.push (pairOb i1 i2)).push (pairOb .none .none)).push _).get? (s₂.heap.objs.size + 2) = _
  rw [← e2]
  exact Heap.get?_push_size _ rfl
theorem r_zipS (S : St o B env l c n s) {i1 i2 : Value} {Q : Value → Shared → Prop}
    (h : ∀ z TO TI s', St o B env l c ((z, zipOb .none TI TO) :: (TO, pairOb .none .none) :: (TI, pairOb i1 i2) :: n) s' → Q (.ref z) s') : ZipS Q i1 i2 s := by
  rintro h' rfl
  have S₁ := S.push (pairOb i1 i2)
  have S₂ := S₁.push (pairOb .none .none)
  have S₃ := S₂.push (zipOb .none s.heap.objs.size (s.heap.objs.size + 1))
  have e1 : (s.heap.push (pairOb i1 i2)).objs.size = s.heap.objs.size + 1 := Heap.size_push ..
  have e2 : ((s.heap.push (pairOb i1 i2)).push (pairOb .none .none)).objs.size = s.heap.objs.size + 2 := by rw [Heap.size_push, e1]
  dsimp only at S₃
  rw [e2, e1] at S₃
  exact h _ _ _ _ S₃

/-- the entries' objects are others now, the addresses as they were; maybe one more -/
theorem St.re (S : St o B env l c n s) {h' : Heap} {k : Nat} (ha : n'.map (·.1) = n.map (·.1)) (hg : ∀ p ∈ n', h'.get? p.1 = some p.2) (hk : ∀ b ob, b ∉ n.map (·.1) → s.heap.get? b = some ob → h'.get? b = some ob) (hc : KeepsC n n') :
    St o B env l c n' { s with heap := h', toks := k } := by
  have nm : ∀ b ob, B.get? b = some ob → b ∉ n.map (·.1) := fun b ob e q => by
    obtain ⟨p, hp, rfl⟩ := List.mem_map.mp q
    rw [(S.nw p hp).2.2] at e; cases e
  have nL : env.locals ∉ n.map (·.1) := fun q => by
    obtain ⟨p, hp, e⟩ := List.mem_map.mp q
    exact (S.nw p hp).2.1 e
  obtain ⟨oL, es, ep, hL, r⟩ := S.fr.ns
  refine ⟨⟨⟨oL, es, ep, hk _ _ nL hL, r⟩, fun b ob e => hk _ _ (nm b ob e) (S.fr.keep b ob e), S.fr.above⟩, fun p hp => ?_, by rw [ha]; exact S.ord, fun p hp => ?_, S.cnd, S.ev, S.os⟩
  · have : p.1 ∈ n.map (·.1) := by rw [← ha]; exact List.mem_map_of_mem hp
    obtain ⟨q, hq, e⟩ := List.mem_map.mp this
    refine ⟨hg p hp, ?_, ?_⟩
    · rw [← e]; exact (S.nw q hq).2.1
    · rw [← e]; exact (S.nw q hq).2.2
  · obtain ⟨c1, ob, c2, c3⟩ := S.cel p hp
    exact ⟨c1, ob, hc _ c2 (by show cellE ob = true; unfold cellE; rw [c3]), c3⟩

abbrev zseg (z TO TI i2 i1 : Addr) (f0 a b : Value) (ob2 ob1 : Obj) (lo : Ledg) : Ledg := (z, zipOb f0 TI TO) :: (TO, pairOb a b) :: (TI, pairOb (.ref i1) (.ref i2)) :: (i2, ob2) :: (i1, ob1) :: lo

theorem isList_ne {h : Heap} {l a : Addr} {xs : Array Value} {ob : Obj} (hl : h.IsList l xs) (ha : h.get? a = some ob) (hc : ob.cls ≠ .type "list") : l ≠ a := by
  rintro rfl
  obtain ⟨o, ho, hcl, _⟩ := hl
  rw [ha] at ho; cases ho; exact hc hcl

theorem zip_apart {hi lo : Ledg} {z TO TI i2 i1 l1 l2 : Addr} {f0 a b : Value} {ob2 ob1 : Obj} {k1 k2 : Nat} {xs ys : Array Value} (S : St o B env l c (hi ++ zseg z TO TI i2 i1 f0 a b ob2 ob1 lo) s) (p1 : listItP l1 k1 ob1) (p2 : listItP l2 k2 ob2)
    (hl1 : s.heap.IsList l1 xs) (hl2 : s.heap.IsList l2 ys) : PySem.ZipApart z TI TO i1 i2 l1 l2 := by
  have ho := S.ord
  rw [List.map_append, List.pairwise_append] at ho
  have ho := ho.2.1
  simp only [List.map_cons, List.pairwise_cons, List.mem_cons, forall_eq_or_imp] at ho
  obtain ⟨⟨a1, a2, a3, a4, _⟩, ⟨b1, b2, b3, _⟩, ⟨c1, c2, _⟩, ⟨d1, _⟩, _⟩ := ho
  have gz := S.nw.get (a := z) (o := zipOb f0 TI TO) (by simp)
  have gTO := S.nw.get (a := TO) (o := pairOb a b) (by simp)
  have gi1 := S.nw.get (a := i1) (o := ob1) (by simp)
  have gi2 := S.nw.get (a := i2) (o := ob2) (by simp)
  have cz : (zipOb f0 TI TO).cls ≠ .type "list" := fun e => by have e' : Value.type "zip" = .type "list" := e; injection e' with e'; exact absurd e' (by decide)
  have ct : (pairOb a b).cls ≠ .type "list" := fun e => by have e' : Value.type "tuple" = .type "list" := e; injection e' with e'; exact absurd e' (by decide)
  have n1 : ob1.cls ≠ .type "list" := by rw [p1.1]; decide
  have n2 : ob2.cls ≠ .type "list" := by rw [p2.1]; decide
  exact ⟨Nat.ne_of_lt a2, Nat.ne_of_lt a1, Nat.ne_of_lt a4, Nat.ne_of_lt a3, Nat.ne_of_lt b1, Nat.ne_of_gt c2, Nat.ne_of_gt c1, Nat.ne_of_gt b3, Nat.ne_of_gt b2, Nat.ne_of_lt d1,
    isList_ne hl1 gz cz, isList_ne hl1 gTO ct, isList_ne hl1 gi1 n1, isList_ne hl1 gi2 n2, isList_ne hl2 gz cz, isList_ne hl2 gTO ct, isList_ne hl2 gi1 n1, isList_ne hl2 gi2 n2⟩

theorem keepsC_of {n n' : Ledg} (h : ∀ q ∈ n, cellE q.2 = true → q ∈ n') : KeepsC n n' := h

theorem zip_step {hi lo : Ledg} {z TO TI i2 i1 l1 l2 : Addr} {a b x y : Value} {ob2 ob1 : Obj} {k : Nat} {xs ys : Array Value} {Q : Option Value → Shared → Prop} (S : St o B env l c (hi ++ zseg z TO TI i2 i1 .none a b ob2 ob1 lo) s) (p1 : listItP l1 k ob1) (p2 : listItP l2 k ob2)
    (hl1 : s.heap.IsList l1 xs) (hl2 : s.heap.IsList l2 ys) (hx : xs[k]? = some x) (hy : ys[k]? = some y)
    (h : ∀ T ob2' ob1' s', listItP l1 (k + 1) ob1' → listItP l2 (k + 1) ob2' → St o B env l c ((T, pairOb x y) :: (hi ++ zseg z TO TI i2 i1 (rawInt T) x y ob2' ob1' lo)) s' → Q (some (.ref T)) s') :
    wpAny (model prog w) A (pyNext (.ref z)) Q E s := by
  have D := zip_apart S p1 p2 hl1 hl2
  have g : ∀ p ∈ zseg z TO TI i2 i1 .none a b ob2 ob1 lo, s.heap.get? p.1 = some p.2 := fun p hp => (S.nw p (List.mem_append_right _ hp)).1
  refine PySem.wpAny_pyNext_zip_item D (g (z, zipOb .none TI TO) (by simp)) (g (TI, pairOb (.ref i1) (.ref i2)) (by simp)) (g (TO, pairOb a b) (by simp)) ⟨ob1, g (i1, _) (by simp), p1.1, p1.2⟩ ⟨ob2, g (i2, _) (by simp), p2.1, p2.2⟩ hl1 hl2 hx hy ?_
  intro h' hz' hTO' ⟨ob1', q1, q1c, q1d⟩ ⟨ob2', q2, q2c, q2d⟩ hT hsz hk
  have ho := S.ord
  have nd : ∀ p ∈ hi ++ lo, p.1 ≠ z ∧ p.1 ≠ TO ∧ p.1 ≠ i1 ∧ p.1 ≠ i2 := by
    rw [List.map_append, List.pairwise_append] at ho
    obtain ⟨_, o2, o3⟩ := ho
    intro p hp
    rcases List.mem_append.mp hp with hp | hp
    · have q := fun a ha => o3 p.1 (List.mem_map_of_mem hp) a ha
      exact ⟨Nat.ne_of_gt (q z (by simp)), Nat.ne_of_gt (q TO (by simp)), Nat.ne_of_gt (q i1 (by simp)), Nat.ne_of_gt (q i2 (by simp))⟩
    · simp only [List.map_cons, List.pairwise_cons, List.mem_cons, forall_eq_or_imp] at o2
      have hm := List.mem_map_of_mem (f := (·.1)) hp
      exact ⟨Nat.ne_of_lt (o2.1.2.2.2.2 _ hm), Nat.ne_of_lt (o2.2.1.2.2.2 _ hm), Nat.ne_of_lt (o2.2.2.2.2.1 _ hm), Nat.ne_of_lt (o2.2.2.2.1.2 _ hm)⟩
  have S₁ : St o B env l c (hi ++ zseg z TO TI i2 i1 (rawInt s.heap.objs.size) x y ob2' ob1' lo) { s with heap := h', toks := s.toks } := by
    refine S.re (by simp) (fun p hp => ?_) (fun b ob hb e => hk b ob (fun q => hb (by simp [q])) (fun q => hb (by simp [q])) (fun q => hb (by simp [q])) (fun q => hb (by simp [q])) e) fun q hq hc => ?_
    · rcases List.mem_append.mp hp with hp | hp
      · have q := nd p (List.mem_append_left _ hp)
        exact hk _ _ q.1 q.2.1 q.2.2.1 q.2.2.2 (S.nw p (List.mem_append_left _ hp)).1
      · simp only [List.mem_cons] at hp
        rcases hp with rfl | rfl | rfl | rfl | rfl | hp
        · exact hz'
        · exact hTO'
        · exact hk TI _ D.TIz D.TITO D.TIi1 D.TIi2 (g (TI, _) (by simp))
        · exact q2
        · exact q1
        · have q := nd p (List.mem_append_right _ hp)
          exact hk _ _ q.1 q.2.1 q.2.2.1 q.2.2.2 (g p (by simp [hp]))
    · rcases List.mem_append.mp hq with hq | hq
      · exact List.mem_append_left _ hq
      · refine List.mem_append_right _ ?_
        simp only [List.mem_cons] at hq ⊢
        rcases hq with rfl | rfl | rfl | rfl | rfl | hq
        · cases hc
        · cases hc
        · exact .inr (.inr (.inl rfl))
        · rw [cellE_of_fields p2.2] at hc; cases hc
        · rw [cellE_of_fields p1.2] at hc; cases hc
        · exact .inr (.inr (.inr (.inr (.inr hq))))
  have lt : ∀ p ∈ hi ++ zseg z TO TI i2 i1 (rawInt s.heap.objs.size) x y ob2' ob1' lo, p.1 < s.heap.objs.size := fun p hp => by
    have : p.1 ∈ (hi ++ zseg z TO TI i2 i1 .none a b ob2 ob1 lo).map (·.1) := by
      have := List.mem_map_of_mem (f := (·.1)) hp
      simpa using this
    obtain ⟨q, hq, e⟩ := List.mem_map.mp this
    rw [← e]; exact Heap.lt_size (S.nw q hq).1
  refine h _ ob2' ob1' _ ⟨q1c, q1d⟩ ⟨q2c, q2d⟩ ⟨S₁.fr, fun p hp => ?_, List.Pairwise.cons (fun b hb => ?_) S₁.ord, fun p hp => let ⟨c1, ob, c2, c3⟩ := S₁.cel p hp; ⟨c1, ob, .tail _ c2, c3⟩, S₁.cnd, S₁.ev, S₁.os⟩
  · rcases List.mem_cons.mp hp with rfl | hp
    · refine ⟨hT, Nat.ne_of_gt S.fr.ns.lt, ?_⟩
      show B.get? s.heap.objs.size = none
      cases q : B.get? s.heap.objs.size with
      | none => rfl
      | some ob => exact absurd (Heap.lt_size (S.fr.keep _ _ q)) (Nat.lt_irrefl _)
    · exact S₁.nw p hp
  · obtain ⟨p, hp, rfl⟩ := List.mem_map.mp hb
    exact lt p hp

theorem zip_fin {hi lo : Ledg} {z TO TI i2 i1 l1 l2 : Addr} {a b : Value} {ob2 ob1 : Obj} {k : Nat} {xs ys : Array Value} {Q : Option Value → Shared → Prop} (hh : A.handled = none) (S : St o B env l c (hi ++ zseg z TO TI i2 i1 .none a b ob2 ob1 lo) s) (p1 : listItP l1 k ob1) (p2 : listItP l2 k ob2)
    (hl1 : s.heap.IsList l1 xs) (hl2 : s.heap.IsList l2 ys) (he : xs[k]? = none ∨ ys[k]? = none) (h : ∀ s', St o B env l c (hi ++ lo) s' → Q none s') :
    wpAny (model prog w) A (pyNext (.ref z)) Q E s := by
  have D := zip_apart S p1 p2 hl1 hl2
  have g : ∀ p ∈ zseg z TO TI i2 i1 .none a b ob2 ob1 lo, s.heap.get? p.1 = some p.2 := fun p hp => (S.nw p (List.mem_append_right _ hp)).1
  refine PySem.wpAny_pyNext_zip_end hh D (g (z, zipOb .none TI TO) (by simp)) (g (TI, pairOb (.ref i1) (.ref i2)) (by simp)) (g (TO, pairOb a b) (by simp)) ⟨ob1, g (i1, _) (by simp), p1.1, p1.2⟩ ⟨ob2, g (i2, _) (by simp), p2.1, p2.2⟩ hl1 hl2 he ?_
  intro h' hk
  have ho := S.ord
  have nd : ∀ p ∈ hi ++ lo, p.1 ≠ z ∧ p.1 ≠ TO ∧ p.1 ≠ i1 ∧ p.1 ≠ i2 := by
    rw [List.map_append, List.pairwise_append] at ho
    obtain ⟨_, o2, o3⟩ := ho
    intro p hp
    rcases List.mem_append.mp hp with hp | hp
    · have q := fun a ha => o3 p.1 (List.mem_map_of_mem hp) a ha
      exact ⟨Nat.ne_of_gt (q z (by simp)), Nat.ne_of_gt (q TO (by simp)), Nat.ne_of_gt (q i1 (by simp)), Nat.ne_of_gt (q i2 (by simp))⟩
    · simp only [List.map_cons, List.pairwise_cons, List.mem_cons, forall_eq_or_imp] at o2
      have hm := List.mem_map_of_mem (f := (·.1)) hp
      exact ⟨Nat.ne_of_lt (o2.1.2.2.2.2 _ hm), Nat.ne_of_lt (o2.2.1.2.2.2 _ hm), Nat.ne_of_lt (o2.2.2.2.2.1 _ hm), Nat.ne_of_lt (o2.2.2.2.1.2 _ hm)⟩
  have sub : (hi ++ lo).Sublist (hi ++ zseg z TO TI i2 i1 .none a b ob2 ob1 lo) :=
    List.Sublist.append (List.Sublist.refl _) ((List.sublist_append_right [_, _, _, _, _] lo))
  have S₁ : St o B env l c (hi ++ lo) s := S.drop sub fun p hp ob hm => by
    obtain ⟨_, ob', hm', hd⟩ := S.cel p hp
    have e1 := (S.nw _ hm).1
    have e2 := (S.nw _ hm').1
    rw [show (p.2.1, ob).1 = (p.2.1, ob').1 from rfl, e2] at e1
    cases e1
    rcases List.mem_append.mp hm with q | q
    · exact List.mem_append_left _ q
    · refine List.mem_append_right _ ?_
      simp only [List.mem_cons, Prod.mk.injEq] at q
      rcases q with ⟨_, rfl⟩ | ⟨_, rfl⟩ | ⟨_, rfl⟩ | ⟨_, rfl⟩ | ⟨_, rfl⟩ | q
      · cases hd
      · cases hd
      · cases hd
      · rw [p2.2] at hd; cases hd
      · rw [p1.2] at hd; cases hd
      · exact q
  have nz := (S.nw (z, zipOb .none TI TO) (by simp)).2
  have nTO := (S.nw (TO, pairOb a b) (by simp)).2
  have n1 := (S.nw (i1, ob1) (by simp)).2
  have n2 := (S.nw (i2, ob2) (by simp)).2
  have q : ∀ d ob a, B.get? d = some ob → B.get? a = none → d ≠ a := fun d ob a e e' z => by subst z; rw [e'] at e; cases e
  have hkB : ∀ d ob, B.get? d = some ob → h'.get? d = some ob := fun d ob e =>
    hk d ob (q d ob z e nz.2) (q d ob TO e nTO.2) (q d ob i1 e n1.2) (q d ob i2 e n2.2) (S.fr.keep d ob e)
  obtain ⟨oL, es, ep, hL, r⟩ := S.fr.ns
  exact h _ (S₁.same (k := s.toks) ⟨⟨oL, es, ep, hk _ _ (Ne.symm nz.1) (Ne.symm nTO.1) (Ne.symm n1.1) (Ne.symm n2.1) hL, r⟩, hkB, S.fr.above⟩
    fun p hp => ⟨hk _ _ (nd p hp).1 (nd p hp).2.1 (nd p hp).2.2.1 (nd p hp).2.2.2 (S₁.nw p hp).1, (S₁.nw p hp).2⟩)

theorem zip_go {hi lo : Ledg} {z TO TI i2 i1 T : Addr} {x y : Value} {ob2 ob1 : Obj} {elts : List Expr} {k : Nat} {pos : Pos} {Q : Unit → Shared → Prop} (S : St o B env l c (hi ++ zseg z TO TI i2 i1 (rawInt T) x y ob2 ob1 lo) s)
    (h : ∀ s', St o B env l c (hi ++ zseg z TO TI i2 i1 .none x y ob2 ob1 lo) s' → Q () s') : wpAny (model prog w) A (letOwnedTupleGo (.Tuple elts k pos) (.ref z) (.ref T)) Q E s :=
  PySem.wpAny_letOwnedTupleGo_zip (S.nw.get (a := z) (o := zipOb (rawInt T) TI TO) (by simp)) fun h' hz hs => h _ (S.upd (t := s.toks) (Put.at hi _) hs hz fun v e => by cases e)

/-- two names take a pair -/
theorem x_pair {T : Addr} {x y : Str} {px py pos : Pos} {k : Nat} {u v : Value} {Q : Unit → Shared → Prop} (hh : A.handled = none) (S : St o B env l c n s) (hT : Has B n T (pairOb u v))
    (h : ∀ s', St o B env l c n s' → wpAny (model prog w) A (storeName env x u) (fun _ s₂ => wpAny (model prog w) A (storeName env y v) Q E s₂) E s') :
    wpAny (model prog w) A (assign (.Tuple [.Name x px, .Name y py] k pos) env (.ref T)) Q E s := by
  refine wpAny_assign_Tuple (items := #[u, v]) hh ⟨_, S.has hT, rfl, 0, rfl⟩ rfl rfl fun h' he => ?_
  have S' : St o B env l c n { s with heap := h', toks := s.toks } := S.same ⟨S.fr.ns.extBut he (Nat.ne_of_lt S.fr.ns.lt), fun b ob e => he b ob (Nat.ne_of_lt (Heap.lt_size (S.fr.keep b ob e))) (S.fr.keep b ob e), S.fr.above⟩
    fun p hp => ⟨he _ _ (Nat.ne_of_lt (Heap.lt_size (S.nw p hp).1)) (S.nw p hp).1, (S.nw p hp).2⟩
  show wpAny _ _ (assignInOrder [assign (.Name x px) env, assign (.Name y py) env] [u, v]) _ _ _
  exact wpAny_bind (wpAny_holding (wpAny_mono (wpAny_assign_Name (h _ S')) (fun _ s₂ h₂ => wpAny_bind (wpAny_holding (wpAny_mono (wpAny_assign_Name h₂) (fun _ s₃ h₃ => wpAny_pure h₃) fun _ _ x => x))) fun _ _ x => x))
end
end
section
open PySem PySem.W PySem.Calls PyProof.Rows
section
variable {K : Frag} {mg mb : Str → Option Value} {prog : Program} {w : World} {A : Around} {E : Value → Shared → Prop} {o : OsP} {B : Heap} {env : Env} {l l' : Vars} {c c' : Cels} {n n' pre post : Ledg} {s s' : Shared} {R : Result → Shared → Prop}

theorem Has.app {a : Addr} {ob : Obj} (pre : Ledg) (h : Has B n a ob) : Has B (pre ++ n) a ob := h.elim (fun h => .inl (List.mem_append_right _ h)) .inr
theorem Has.to {g : Heap} {a : Addr} {ob : Obj} (h : Has B n a ob) (ext : ∀ b ob, B.get? b = some ob → g.get? b = some ob) : Has g n a ob := h.elim .inl fun h => .inr (ext _ _ h)
/-- a new entry above all -/
theorem St.put1 (S : St o B env l c n s) {D : Addr} {ob : Obj} {h' : Heap} {k : Nat} (F : Fr B env.locals h' (lk l)) (N : News B env.locals h' ((D, ob) :: n)) (hD : ∀ p ∈ n, p.1 < D) : St o B env l c ((D, ob) :: n) { s with heap := h', toks := k } :=
  S.more (add := [(D, ob)]) F N (List.Pairwise.cons (fun b hb => by obtain ⟨p, hp, rfl⟩ := List.mem_map.mp hb; exact hD p hp) S.ord)

theorem self_list {it a : Addr} (s : Shared) (i : Nat) (ob : Obj) (Q : Value → Shared → Prop) (E : Value → Shared → Prop) (hg : s.heap.get? it = some ob) (hp : listItP a i ob) (h : Q (.ref it) s) : wpAny (model prog w) A (pyIter (.ref it)) Q E s :=
  wpAny_pyIter_listiter (l := a) (i := i) ⟨ob, hg, hp.1, hp.2⟩ h
theorem self_tuple {it a : Addr} (s : Shared) (i : Nat) (ob : Obj) (Q : Value → Shared → Prop) (E : Value → Shared → Prop) (hg : s.heap.get? it = some ob) (hp : tupItP a i ob) (h : Q (.ref it) s) : wpAny (model prog w) A (pyIter (.ref it)) Q E s :=
  wpAny_pyIter_tupleiter (t := a) (i := i) ⟨ob, hg, hp.1, hp.2⟩ h
theorem self_range {it : Addr} {a st : Int} {N : Nat} (s : Shared) (i : Nat) (ob : Obj) (Q : Value → Shared → Prop) (E : Value → Shared → Prop) (hg : s.heap.get? it = some ob) (hp : rangeItP a st N i ob) (h : Q (.ref it) s) : wpAny (model prog w) A (pyIter (.ref it)) Q E s := by
  unfold rangeItP at hp
  subst hp
  exact wpAny_pyIter_rangeiter hg h
theorem self_bytes {it : Addr} {b : Array UInt8} {t : Tok} (s : Shared) (i : Nat) (ob : Obj) (Q : Value → Shared → Prop) (E : Value → Shared → Prop) (hg : s.heap.get? it = some ob) (hp : bytItP b t i ob) (h : Q (.ref it) s) : wpAny (model prog w) A (pyIter (.ref it)) Q E s :=
  KBw.pyIter_self (b := b) (t := t) (i := i) ⟨ob, hg, hp.1, hp.2⟩ h

theorem r_truthyL (S : St o B env l c n s) {a : Addr} {vs : List Value} {k : Nat} {Q : Bool → Shared → Prop} (hl : Has B n a (listOf vs.toArray k)) (hz : vs.length ≤ 1000000) (h : ∀ s', St o B env l c n s' → Q (!vs.isEmpty) s') : wpAny (model prog w) A (truthy (.ref a)) Q E s := by
  refine wpAny_truthy_list (S.isList hl) (by rw [List.size_toArray]; omega) ?_
  have e : (!vs.toArray.isEmpty) = !vs.isEmpty := by cases vs <;> rfl
  rw [e]
  exact h _ (S.tok _)
theorem r_truthyI {i : Int} {t : Tok} {Q : Bool → Shared → Prop} (h : Q (decide (i ≠ 0)) s) : wpAny (model prog w) A (truthy (.int i t)) Q E s := by
  have e : (i != 0) = decide (i ≠ 0) := by simp [bne, BEq.beq]
  exact PySem.P.truthy_int (by rw [e]; exact h)
theorem r_neg (S : St o B env l c n s) {a : Int} {t : Tok} {Q : Value → Shared → Prop} (h : ∀ t s', St o B env l c n s' → Q (.int (-a) t) s') : wpAny (model prog w) A (unaryOp .USub (.int a t)) Q E s := PySem.P.neg_int (h _ _ (S.tok _))

theorem r_sliceL (S : St o B env l c n s) {value slice : Expr} {a : Addr} {vs : List Value} {k : Nat} {p q : Value} {lo hi : Option Int} {Q : Value → Shared → Prop}
    (hs : subscripted slice false (.ref a) (.ref s.heap.objs.size) = operate [.ref s.heap.objs.size, .ref a] (getItem (.ref a) (.ref s.heap.objs.size))) (ht : ∀ r, letTemporaryGo value (.ref a) r = pure ())
    (hl : Has B n a (listOf vs.toArray k)) (pl : IsPart p lo) (pu : IsPart q hi) (hz : vs.length ≤ 1000000)
    (h : ∀ D s', St o B env l c ((D, listOf (slicePick vs.toArray lo hi none).toList.toArray 0) :: n) s' → Q (.ref D) s') :
    wpAny (model prog w) A (subscriptTail value slice (.ref a) (.ref s.heap.objs.size)) Q E { s with heap := s.heap.push { cls := .type "slice", data := .fields #[p, q, .none] } } :=
  kmk_slice_lit S.fr S.nw (S.isList hl) pl pu rfl (fun D h' F N hD => h D _ (S.put1 (k := s.toks) F N hD)) hs ht (by rw [List.size_toArray, sizeLine_eq]; omega)
theorem r_addL (S : St o B env l c n s) {a b : Addr} {vs ws : List Value} {k j : Nat} {Q : Value → Shared → Prop} (ha : Has B n a (listOf vs.toArray k)) (hb : Has B n b (listOf ws.toArray j)) (hz : vs.length + ws.length ≤ 1000000)
    (h : ∀ D s', St o B env l c ((D, listOf (vs ++ ws).toArray 0) :: n) s' → Q (.ref D) s') : wpAny (model prog w) A (binaryOp .Add (.ref a) (.ref b)) Q E s :=
  kmk_add_lit S.fr S.nw (S.isList ha) (S.isList hb) rfl (fun D h' F N hD => h D _ (S.put1 (k := s.toks) F N hD)) (by rw [sizeLine_eq]; simpa using Nat.le_trans hz (by decide))
theorem r_mulL (S : St o B env l c n s) {a : Addr} {vs : List Value} {k : Nat} {x : Int} {u : Tok} {Q : Value → Shared → Prop} (ha : Has B n a (listOf vs.toArray k)) (h1 : x < 2 ^ 62) (h0 : -(2 ^ 62) < x) (hz : vs.length * x.toNat ≤ 256)
    (h : ∀ D s', St o B env l c ((D, listOf (List.replicate x.toNat vs).flatten.toArray 0) :: n) s' → Q (.ref D) s') : wpAny (model prog w) A (binaryOp .Mult (.ref a) (.int x u)) Q E s :=
  KMa.mul S.fr S.nw (S.isList ha) (by omega) (by omega) hz rfl (fun D h' F N hD => h D _ (S.put1 (k := s.toks) F N hD))
theorem r_extend (S : St o B env l c n s) {a b : Addr} {vs ws : List Value} {k j : Nat} {n' : Nat → Ledg} {Q : Value → Shared → Prop} (hb : Has B n b (listOf ws.toArray j)) (hp : ∀ k', Put (a, listOf vs.toArray k) (a, listOf (vs ++ ws).toArray k') n (n' k')) (hz : vs.length + ws.length ≤ 1000000)
    (h : ∀ k' s', St o B env l c (n' k') s' → Q .none s') : wpAny (model prog w) A (call (.builtin "list.extend") [.ref a, .ref b]) Q E s := by
  have ga := S.nw.get (hp 0).mem
  have hz' : vs.toArray.size + ws.toArray.size ≤ sizeLine := by rw [List.size_toArray, List.size_toArray, sizeLine_eq]; omega
  refine call_meets PySem.F.slot_list_extend ⟨_, ga, rfl⟩ PySem.F.entry_list_extend (PySem.F.args_list_extend_2 _ _) (AutoSeq1.list_extend_list_list_0 a vs.toArray k b ws.toArray j (extend_door hz') (Nat.le_trans (Nat.le_add_right _ _) hz')) ⟨ga, S.has hb, ?_⟩
  have e : vs.toArray ++ ws.toArray = (vs ++ ws).toArray := by simp
  have ho' : (s.heap.update a (Obj.mapSeq fun x => x ++ ws.toArray)).get? a = some (listOf (vs ++ ws).toArray (if (vs.toArray ++ ws.toArray).size == vs.toArray.size then k else k + 1)) := by
    rw [Heap.get?_update_self _ ga (by rw [mapSeq_app]; rfl), mapSeq_app, e]
  exact h _ _ (S.upd (hp _) (Heap.SameBut.update ..) ho' fun v => by simp)

theorem x_while {test : Expr} {body : List Stmt} {pos : Pos} {Q : Flow → Shared → Prop} (I : Nat → Shared → Prop) (k : Nat) (h0 : I k s)
    (turn : ∀ k s, I k s → wpAny (model prog w) A (isTrue test env (eval test env)) (fun b s₂ =>
        if b = true then wpAny (model prog w) A (execs body env) (fun f s₃ => match f with
            | .next | .cont => ∃ m, m < k ∧ I m s₃
            | .brk => Q .next s₃
            | .ret v => Q (.ret v) s₃) (fun _ _ => False) s₂
        else Q .next s₂) (fun _ _ => False) s) : wpAny (model prog w) A (exec (.While test body [] pos) env) Q E s := by
  refine wpAny_While (codeAny_whileLoop I (fun k s hI => ?_) k h0)
  refine wpAny_mono (turn k s hI) (fun b s₂ h₂ => ?_) fun _ _ x => x.elim
  cases b with
  | true => exact wpAny_mono h₂ (fun f s₃ h₃ => by cases f <;> exact h₃) fun _ _ x => x.elim
  | false => exact wpAny_execs_nil h₂

def TurnU {X : Type} (o : OsP) (B : Heap) (env : Env) (it : Addr) (ob : Obj) (lF : Option Value → Nat → X → Vars) (cF : Nat → X → Cels) (hi lo : Nat → X → Ledg) (P : Option Value → Nat → X → Prop) (Q : Flow → Shared → Prop) (i : Nat) (fl : Flow) (s' : Shared) : Prop := match fl with
  | .brk => Q .next s'
  | .ret v => Q (.ret v) s'
  | _ => ∃ y u, P u (i + 1) y ∧ St o B env (lF u (i + 1) y) (cF (i + 1) y) (hi (i + 1) y ++ (it, ob) :: lo (i + 1) y) s'

theorem for_ruleU {X : Type} {it : Addr} {N : Nat} {x : Str} {px : Pos} {body : List Stmt} {itP : Nat → Obj → Prop} {item : Nat → Value → Prop} {needs : Heap → Prop} {Q : Flow → Shared → Prop}
    (lF : Option Value → Nat → X → Vars) (cF : Nat → X → Cels) (hi lo : Nat → X → Ledg) (P : Option Value → Nat → X → Prop) (y₀ : X) {u₀ : Option Value} {ob₀ : Obj}
    (I : Iter prog w A it N itP item needs) (hob : itP 0 ob₀) (S : St o B env (lF u₀ 0 y₀) (cF 0 y₀) (hi 0 y₀ ++ (it, ob₀) :: lo 0 y₀) s) (h0 : P u₀ 0 y₀)
    (hput : ∀ u v i y, Put (x, u) (x, v) (lF u i y) (lF v i y))
    (hneeds : ∀ ob u i y s, St o B env (lF u i y) (cF i y) (hi i y ++ (it, ob) :: lo i y) s → needs s.heap)
    (turn : ∀ u i y ob v s, i < N → P u i y → item i v → itP (i + 1) ob → St o B env (lF (some v) i y) (cF i y) (hi i y ++ (it, ob) :: lo i y) s →
      wpAny (model prog w) A (execs body env) (TurnU o B env it ob lF cF hi lo P Q i) (fun _ _ => False) s)
    (done : ∀ u y s, P u N y → St o B env (lF u N y) (cF N y) (hi N y ++ lo N y) s → Q .next s) :
    LoopS prog w A (.Name x px) body env Q E (.ref it) s := by
  refine codeAny_forLoop (fun k s' => ∃ i y u ob, P u i y ∧ itP i ob ∧ St o B env (lF u i y) (cF i y) (hi i y ++ (it, ob) :: lo i y) s' ∧ i ≤ N ∧ k = N - i) ?_ N ⟨0, y₀, u₀, ob₀, h0, hob, S, Nat.zero_le _, rfl⟩
  rintro k s' ⟨i, y, u, ob, hP, hob, S', hi', rfl⟩
  have hg := S'.nw.get (a := it) (o := ob) (by simp)
  have hn := hneeds _ _ _ _ _ S'
  have nc := I.nocell _ _ hob
  by_cases hlt : i < N
  · refine I.step i s' ob _ _ hlt hg hob hn fun v h' tk ob' hv hg' hob' hs => ?_
    have S₁ := S'.upd (t := tk) (Put.at (hi i y) (lo i y)) hs hg' (cellE_no nc)
    refine wpAny_assign_Name (r_store S₁ (hput u (some v) i y) fun s₂ S₂ => ?_)
    refine wpAny_mono (turn u i y ob' v s₂ hlt hP hv hob' S₂) (fun fl s₃ ht => ?_) fun _ _ x => x.elim
    cases fl with
    | brk => exact ht
    | ret v => exact ht
    | next => obtain ⟨y', u', hp, st⟩ := ht; exact ⟨N - (i + 1), by omega, i + 1, y', u', ob', hp, hob', st, hlt, rfl⟩
    | cont => obtain ⟨y', u', hp, st⟩ := ht; exact ⟨N - (i + 1), by omega, i + 1, y', u', ob', hp, hob', st, hlt, rfl⟩
  · obtain rfl : i = N := by omega
    exact I.fin s' ob _ _ hg hob hn fun h' tk he => wpAny_execs_nil (done _ _ _ hP (S'.extBut nc he))


theorem loop_mono {target : Expr} {body : List Stmt} {Q Q' : Flow → Shared → Prop} {it : Value} (h : LoopS prog w A target body env Q' E it s) (hq : ∀ fl s', Q' fl s' → Q fl s') : LoopS prog w A target body env Q E it s :=
  codeAny_mono h fun r s' hr => by
    cases r with
    | ok f => exact hq _ _ hr
    | error e => exact hr
end
end
section
open PySem PySem.W PySem.Calls PyProof.Rows
def subOk (K : Frag) (C f : Addr) : Bool := findIn K (.ref C) "__getitem__" == some (some (.ref f)) && fnIn K f && isFn K (.ref f)
def iterOk (K : Frag) (C f : Addr) : Bool := findIn K (.ref C) "__iter__" == some (some (.ref f)) && isFn K (.ref f)
def modOk (K : Frag) (C f : Addr) : Bool := selfFirst K C && findIn K (.ref C) (PySem.dunder "mod") == some (some (.ref f)) && isFn K (.ref f)
section
variable {K : Frag} {mg mb : Str → Option Value} {prog : Program} {w : World} {A : Around} {E : Value → Shared → Prop} {o : OsP} {B : Heap} {env : Env} {l l' : Vars} {c c' : Cels} {n n' pre post : Ledg} {s s' : Shared} {R : Result → Shared → Prop}

theorem r_subInst (S : St o B env l c n s) (T : Base K mg mb B) {value slice : Expr} {x C d f : Addr} {od : Obj} {i : Value} {Q : Value → Shared → Prop} (hsl : subscripted slice true (.ref x) i = runValue (.builtin "lifetime.subscript" ⟨[.ref x, i], []⟩))
    (h1 : Has B n x (instObj C d)) (h2 : Has B n d od) (hk : subOk K C f = true) (h : wpAny (model prog w) A.in1 (call (.ref f) [.ref x, i]) Q E s) : wpAny (model prog w) A (subscriptTail value slice (.ref x) i) Q E s := by
  simp only [subOk, Bool.and_eq_true, beq_iff_eq] at hk
  exact sub_K S.fr T.kin (S.inst h1 h2) hk.1.1 hk.1.2 hk.2 h hsl
theorem r_subInstSl (S : St o B env l c n s) (T : Base K mg mb B) {value slice : Expr} {x C d f : Addr} {od : Obj} {i : Value} {Q : Value → Shared → Prop} (hsl : subscripted slice true (.ref x) i = operate [i, .ref x] (getItem (.ref x) i))
    (h1 : Has B n x (instObj C d)) (h2 : Has B n d od) (hk : subOk K C f = true) (hq : noSeq K C = true) (h : wpAny (model prog w) A (call (.ref f) [.ref x, i]) Q E s) : wpAny (model prog w) A (subscriptTail value slice (.ref x) i) Q E s := by
  simp only [subOk, Bool.and_eq_true, beq_iff_eq] at hk
  have X := T.kin.keeps S.fr.keep
  have I := S.inst h1 h2
  have hf := hk.1.2
  unfold fnIn at hf
  split at hf
  · rename_i e
    unfold subscriptTail getitemInPython
    refine wpAny_bind (wpAny_bind (wpAny_bind (I.type.here ((looks_findIn X hk.1.1).here ?_))))
    dsimp only
    refine wpAny_bind (wpAny_load (X _ _ e) (wpAny_pure ?_))
    dsimp only
    rw [hsl]
    refine wpAny_bind (wpAny_operating (getItem_K S.fr T.kin I hq hk.1.1 hk.2 (wpAny_mono h (fun v s' z => ?_) fun _ _ z => z)))
    show wpAny (model prog w) A (letTemporaryGo value (.ref x) v >>= fun _ => pure v) Q E s'
    exact wpAny_bind (wpAny_letTemporaryGo (wpAny_pure z))
  · cases hf
theorem r_modInst (S : St o B env l c n s) (T : Base K mg mb B) {x y C d e f : Addr} {od oe : Obj} {Q : Value → Shared → Prop}
    (h1 : Has B n x (instObj C d)) (h2 : Has B n d od) (g1 : Has B n y (instObj C e)) (g2 : Has B n e oe) (hk : modOk K C f = true) (h : wpAny (model prog w) A (call (.ref f) [.ref x, .ref y]) (W.CmpBack Q) E s) : wpAny (model prog w) A (binaryOp .Mod (.ref x) (.ref y)) Q E s := by
  simp only [modOk, Bool.and_eq_true, beq_iff_eq] at hk
  exact binop_K S.fr T.kin (S.inst h1 h2) (S.inst g1 g2).type hk.1.1 hk.1.2 hk.2 h
theorem r_iterInst (S : St o B env l c n s) (T : Base K mg mb B) {x C d f : Addr} {od : Obj} {Q : Value → Shared → Prop}
    (h1 : Has B n x (instObj C d)) (h2 : Has B n d od) (hk : iterOk K C f = true) (h : wpAny (model prog w) A (call (.ref f) [.ref x]) (OwitIt (model prog w) A Q E) E s) : wpAny (model prog w) A (pyIter (.ref x)) Q E s := by
  simp only [iterOk, Bool.and_eq_true, beq_iff_eq] at hk
  exact owit_iter S.fr T.kin (S.inst h1 h2) hk.1 hk.2 h
theorem owit_list (S : St o B env l c n s) {it a : Addr} {i : Nat} {ob : Obj} {Q : Value → Shared → Prop} (hm : (it, ob) ∈ n) (hp : listItP a i ob) (h : Q (.ref it) s) : OwitIt (model prog w) A Q E (.ref it) s := by
  unfold OwitIt
  exact wpAny_specialOf ⟨ob, S.nw.get hm, hp.1⟩ slot_listiter_next.lookup h

theorem r_iterF {x : Value} {Q : Value → Shared → Prop} (h : wpAny (model prog w) A.in1 (pyIter x) Q E s) : wpAny (model prog w) A (call (.builtin "iter") [x]) Q E s := by
  refine call_function_entry (by decide +kernel) (by decide +kernel) kdk_entry_iter (kdk_args_iter _) ?_
  unfold Builtin.«iter»
  refine wpAny_bind (m := someArgs "iter" 1 2 _) (wpAny_of_eq (a := [x]) (by kernel_rfl) ?_)
  show wpAny _ _ (pyIter x >>= _) _ _ _
  exact wpAny_bind (wpAny_mono h (fun v s' h' => wpAny_pure ⟨_, rfl, h'⟩) fun _ _ x => x)
theorem mod_back {v : Value} {Q : Value → Shared → Prop} (hv : v ≠ .notImplemented) (h : Q v s) : W.CmpBack Q v s := by
  cases v <;> first | exact h | exact absurd rfl hv

theorem St.isSlice (S : St o B env l c n s) {a : Addr} {p q r : Value} (h : Has B n a { cls := .type "slice", data := .fields #[p, q, r] }) : s.heap.IsSliceOf a p q r := ⟨_, S.has h, rfl, rfl⟩
theorem r_getSlice (S : St o B env l c n s) {a sl : Addr} {vs : List Value} {k : Nat} {p q : Value} {lo hi : Option Int} {Q : Value → Shared → Prop} (hl : Has B n a (listOf vs.toArray k)) (hsl : Has B n sl { cls := .type "slice", data := .fields #[p, q, .none] }) (pl : IsPart p lo) (pu : IsPart q hi) (hz : vs.length ≤ 1000000)
    (h : ∀ D s', St o B env l c ((D, listOf (slicePick vs.toArray lo hi none) 0) :: n) s' → Q (.ref D) s') : wpAny (model prog w) A (getItem (.ref a) (.ref sl)) Q E s :=
  wpAny_getItem_list_slice (S.isList hl) (S.isSlice hsl) pl pu .none (by simp) (h _ _ (S.push (listOf (slicePick vs.toArray lo hi none) 0))) (by rw [List.size_toArray, sizeLine_eq]; omega)
theorem r_subSlice (S : St o B env l c n s) {value slice : Expr} {a sl : Addr} {vs : List Value} {k : Nat} {p q : Value} {lo hi : Option Int} {Q : Value → Shared → Prop} (hs : subscripted slice false (.ref a) (.ref sl) = operate [.ref a, .ref sl] (getItem (.ref a) (.ref sl)))
    (hl : Has B n a (listOf vs.toArray k)) (hsl : Has B n sl { cls := .type "slice", data := .fields #[p, q, .none] }) (pl : IsPart p lo) (pu : IsPart q hi) (hz : vs.length ≤ 1000000)
    (h : ∀ D s', St o B env l c ((D, listOf (slicePick vs.toArray lo hi none) 0) :: n) s' → Q (.ref D) s') : wpAny (model prog w) A (subscriptTail value slice (.ref a) (.ref sl)) Q E s :=
  tail_any (S.isList hl).typeIs slot_list_getitem.lookup (r_getSlice S hl hsl pl pu hz h) hs
end
end
section
open PySem PySem.W PySem.Calls PyProof.Rows
section
variable {K : Frag} {mg mb : Str → Option Value} {prog : Program} {w : World} {A : Around} {E : Value → Shared → Prop} {o : OsP} {B : Heap} {env : Env} {l l' : Vars} {c c' : Cels} {n n' pre post : Ledg} {s s' : Shared} {R : Result → Shared → Prop}

theorem evg_st (_ : St o B env l c n s) (gn : List Str) (h : gnOk env.scope gn = true) (hg : env.globals = mainGlobals) (hb : env.builtins = builtinsNs) : EvG env gn ∧ env.globals = mainGlobals ∧ env.builtins = builtinsNs := EvG.of h hg hb
theorem ints_at {u : Value} : ∀ {vs : List Value} {ns : List Int} {i : Nat}, IntsAre vs ns → vs[i]? = some u → ∃ a t, ns[i]? = some a ∧ u = .int a t
  | _, _, _, .nil, h => by simp at h
  | _, _, 0, .cons a t _, h => ⟨a, t, by simp, by simpa using h.symm⟩
  | _, _, i + 1, .cons a t r, h => by simpa using ints_at r (by simpa using h)
theorem ite_join {p : Prop} [Decidable p] {body : List Stmt} {Q : Flow → Shared → Prop} (J : Shared → Prop) (h1 : p → wpAny (model prog w) A (execs body env) (fun fl s' => fl = .next ∧ J s') (fun _ _ => False) s) (h2 : ¬ p → J s) (h : ∀ s', J s' → Q .next s') :
    if decide p = true then wpAny (model prog w) A (execs body env) Q E s else wpAny (model prog w) A (execs [] env) Q E s :=
  r_iteD (fun hp => wpAny_mono (h1 hp) (fun fl s' ⟨e, j⟩ => by subst e; exact h s' j) fun _ _ x => x.elim) fun hp => wpAny_execs_nil (h s (h2 hp))
theorem r_methExtend (S : St o B env l c n s) {a : Addr} {vs : Array Value} {k : Nat} {pl : Sem Bool} {Q : Value × List Value → Shared → Prop} (hm : (a, listOf vs k) ∈ n) (h : Q (.builtin "list.extend", [.ref a]) s) :
    wpAny (model prog w) A (getMethod (.ref a) "extend" pl) Q E s := listMethod_K S.nw hm PySem.F.slot_list_extend PySem.F.type_list_extend h
/-- the pair is let go once its names are bound -/
theorem pair_bound {T : Addr} {x y : Str} {px py pos : Pos} {k : Nat} {u v : Value} {Q : Unit → Shared → Prop} (hh : A.handled = none) (S : St o B env l c ((T, pairOb u v) :: n) s)
    (h : ∀ s', St o B env l c n s' → wpAny (model prog w) A (storeName env x u) (fun _ s₂ => wpAny (model prog w) A (storeName env y v) Q E s₂) E s') :
    wpAny (model prog w) A (assign (.Tuple [.Name x px, .Name y py] k pos) env (.ref T)) Q E s :=
  x_pair hh S (.n (.head _)) fun s' S' => h s' (S'.drop (List.sublist_cons_self _ _) fun p hp ob hm => by
    rcases List.mem_cons.mp hm with e | hm
    · obtain ⟨_, ob', hm', hd⟩ := S'.cel p hp
      have e1 := (S'.nw _ hm).1
      have e2 := (S'.nw _ hm').1
      rw [show (p.2.1, ob).1 = (p.2.1, ob').1 from rfl, e2] at e1
      cases e1
      cases e; cases hd
    · exact hm)

theorem zip_comp {X : Type} {z TO TI i2 i1 l1 l2 acc : Addr} {xs ys : Array Value} {x x' : Str} {px px' tp : Pos} {tk : Nat} {iter elt : Expr} {scope : Scope} {pos : Pos} {cenv : Env} {g : Heap} {a₀ b₀ : Value} {ob2 ob1 : Obj} (hh : A.handled = none)
    (lF : Nat → X → Vars) (cc : Cels) (hi : Nat → X → Ledg) (lo : Ledg) (P : Nat → X → Prop) (y₀ : X)
    (p1 : listItP l1 0 ob1) (p2 : listItP l2 0 ob2) (S : St o g cenv (lF 0 y₀) cc (hi 0 y₀ ++ zseg z TO TI i2 i1 .none a₀ b₀ ob2 ob1 lo) s) (h0 : P 0 y₀)
    (hneeds : ∀ u v ob2 ob1 i y s, St o g cenv (lF i y) cc (hi i y ++ zseg z TO TI i2 i1 .none u v ob2 ob1 lo) s → s.heap.IsList l1 xs ∧ s.heap.IsList l2 ys)
    (turn : ∀ i y u v ob2 ob1 s, P i y → xs[i]? = some u → ys[i]? = some v → St o g cenv (lF i y) cc (hi i y ++ zseg z TO TI i2 i1 .none u v ob2 ob1 lo) s →
      wpAny (model prog w) A (storeName cenv x u) (fun _ s₂ => wpAny (model prog w) A (storeName cenv x' v) (fun _ s₃ => wpAny (model prog w) A (eval elt cenv) (fun e s₄ => wpAny (model prog w) A (call (.builtin "list.append") [.ref acc, e])
        (fun _ s₅ => ∃ y', P (i + 1) y' ∧ St o g cenv (lF (i + 1) y') cc (hi (i + 1) y' ++ zseg z TO TI i2 i1 .none u v ob2 ob1 lo) s₅) (fun _ _ => False) s₄) (fun _ _ => False) s₃) (fun _ _ => False) s₂) (fun _ _ => False) s)
    (done : ∀ y s, P (min xs.size ys.size) y → St o g cenv (lF (min xs.size ys.size) y) cc (hi (min xs.size ys.size) y ++ lo) s → R (.ok .next) s) :
    codeAny (model prog w) A (.compStart (.ListComp elt [⟨.Tuple [.Name x px, .Name x' px'] tk tp, iter, [], 0⟩] scope pos) 0 (.ref z) (.ref acc) cenv) R s := by
  have loop : codeAny (model prog w) A (.compLoop (.ListComp elt [⟨.Tuple [.Name x px, .Name x' px'] tk tp, iter, [], 0⟩] scope pos) 0 (.ref z) (.ref acc) cenv) R s := by
    refine LCp.codeAny_compLoop_pair (fun k s' => ∃ i y u v ob2 ob1, P i y ∧ listItP l1 i ob1 ∧ listItP l2 i ob2 ∧ St o g cenv (lF i y) cc (hi i y ++ zseg z TO TI i2 i1 .none u v ob2 ob1 lo) s' ∧ i ≤ min xs.size ys.size ∧ k = min xs.size ys.size - i) ?_ (min xs.size ys.size)
      ⟨0, y₀, a₀, b₀, ob2, ob1, h0, p1, p2, S, Nat.zero_le _, rfl⟩
    rintro k s' ⟨i, y, u, v, ob2, ob1, hP, p1, p2, S', hi', rfl⟩
    obtain ⟨hl1, hl2⟩ := hneeds _ _ _ _ _ _ _ S'
    by_cases hlt : i < min xs.size ys.size
    · have hx : xs[i]? = some xs[i] := by simp
      have hy : ys[i]? = some ys[i] := by simp
      refine zip_step S' p1 p2 hl1 hl2 hx hy fun T ob2' ob1' s₁ q1 q2 S₁ => ?_
      refine zip_go (hi := (T, pairOb _ _) :: hi i y) S₁ fun s₂ S₂ => ?_
      refine pair_bound hh S₂ fun s₃ S₃ => ?_
      refine wpAny_mono (turn i y _ _ ob2' ob1' _ hP hx hy S₃) (fun _ s₄ h₄ => wpAny_mono h₄ (fun _ s₅ h₅ => wpAny_mono h₅ (fun e s₆ h₆ => wpAny_mono h₆ (fun _ s₇ ⟨y', hp', S₇⟩ => ?_) fun _ _ x => x.elim) fun _ _ x => x.elim) fun _ _ x => x.elim) fun _ _ x => x.elim
      exact ⟨min xs.size ys.size - (i + 1), by omega, i + 1, y', _, _, ob2', ob1', hp', q1, q2, S₇, hlt, rfl⟩
    · obtain rfl : i = min xs.size ys.size := by omega
      refine zip_fin hh S' p1 p2 hl1 hl2 ?_ fun s₁ S₁ => done _ _ hP S₁
      rcases Nat.le_total xs.size ys.size with h | h
      · left; rw [Nat.min_eq_left h]; simp
      · right; rw [Nat.min_eq_right h]; simp
  refine codeAny_compStart_list loop ?_
  exact PySem.wpAny_pyIter_zip (S.nw.get (a := z) (o := zipOb .none TI TO) (by simp)) loop

/-- `for x, y in zip(..)` -/
theorem zip_for {X : Type} {z TO TI i2 i1 l1 l2 : Addr} {xs ys : Array Value} {x x' : Str} {px px' tp : Pos} {tk : Nat} {body : List Stmt} {Q : Flow → Shared → Prop} {a₀ b₀ : Value} {ob2 ob1 : Obj} (hh : A.handled = none)
    (lF : Nat → X → Vars) (cF : Cels) (hi : Nat → X → Ledg) (lo : Nat → X → Ledg) (P : Nat → X → Prop) (y₀ : X)
    (p1 : listItP l1 0 ob1) (p2 : listItP l2 0 ob2) (S : St o B env (lF 0 y₀) cF (hi 0 y₀ ++ zseg z TO TI i2 i1 .none a₀ b₀ ob2 ob1 (lo 0 y₀)) s) (h0 : P 0 y₀)
    (hneeds : ∀ u v ob2 ob1 i y s, St o B env (lF i y) cF (hi i y ++ zseg z TO TI i2 i1 .none u v ob2 ob1 (lo i y)) s → s.heap.IsList l1 xs ∧ s.heap.IsList l2 ys)
    (turn : ∀ i y u v ob2 ob1 s, P i y → xs[i]? = some u → ys[i]? = some v → St o B env (lF i y) cF (hi i y ++ zseg z TO TI i2 i1 .none u v ob2 ob1 (lo i y)) s →
      wpAny (model prog w) A (storeName env x u) (fun _ s₂ => wpAny (model prog w) A (storeName env x' v) (fun _ s₃ => wpAny (model prog w) A (execs body env)
        (fun f s₅ => match f with
          | .next | .cont => ∃ y', P (i + 1) y' ∧ St o B env (lF (i + 1) y') cF (hi (i + 1) y' ++ zseg z TO TI i2 i1 .none u v ob2 ob1 (lo (i + 1) y')) s₅
          | _ => False) (fun _ _ => False) s₃) (fun _ _ => False) s₂) (fun _ _ => False) s)
    (done : ∀ y s, P (min xs.size ys.size) y → St o B env (lF (min xs.size ys.size) y) cF (hi (min xs.size ys.size) y ++ lo (min xs.size ys.size) y) s → Q .next s) :
    LoopS prog w A (.Tuple [.Name x px, .Name x' px'] tk tp) body env Q E (.ref z) s := by
  refine codeAny_forLoop_any (fun k s' => ∃ i y u v ob2 ob1, P i y ∧ listItP l1 i ob1 ∧ listItP l2 i ob2 ∧ St o B env (lF i y) cF (hi i y ++ zseg z TO TI i2 i1 .none u v ob2 ob1 (lo i y)) s' ∧ i ≤ min xs.size ys.size ∧ k = min xs.size ys.size - i) ?_ (min xs.size ys.size)
    ⟨0, y₀, a₀, b₀, ob2, ob1, h0, p1, p2, S, Nat.zero_le _, rfl⟩
  rintro k s' ⟨i, y, u, v, ob2, ob1, hP, p1, p2, S', hi', rfl⟩
  obtain ⟨hl1, hl2⟩ := hneeds _ _ _ _ _ _ _ S'
  by_cases hlt : i < min xs.size ys.size
  · have hx : xs[i]? = some xs[i] := by simp
    have hy : ys[i]? = some ys[i] := by simp
    refine zip_step S' p1 p2 hl1 hl2 hx hy fun T ob2' ob1' s₁ q1 q2 S₁ => ?_
    refine zip_go (hi := (T, pairOb _ _) :: hi i y) S₁ fun s₂ S₂ => ?_
    refine pair_bound hh S₂ fun s₃ S₃ => ?_
    refine wpAny_mono (turn i y _ _ ob2' ob1' _ hP hx hy S₃) (fun _ s₄ h₄ => wpAny_mono h₄ (fun _ s₅ h₅ => wpAny_mono h₅ (fun f s₆ h₆ => ?_) fun _ _ x => x.elim) fun _ _ x => x.elim) fun _ _ x => x.elim
    cases f with
    | brk => exact h₆.elim
    | ret v => exact h₆.elim
    | next => obtain ⟨y', hp', S₇⟩ := h₆; exact ⟨min xs.size ys.size - (i + 1), by omega, i + 1, y', _, _, ob2', ob1', hp', q1, q2, S₇, hlt, rfl⟩
    | cont => obtain ⟨y', hp', S₇⟩ := h₆; exact ⟨min xs.size ys.size - (i + 1), by omega, i + 1, y', _, _, ob2', ob1', hp', q1, q2, S₇, hlt, rfl⟩
  · obtain rfl : i = min xs.size ys.size := by omega
    refine zip_fin hh S' p1 p2 hl1 hl2 ?_ fun s₁ S₁ => wpAny_execs_nil (done _ _ hP S₁)
    rcases Nat.le_total xs.size ys.size with h | h
    · left; rw [Nat.min_eq_left h]; simp
    · right; rw [Nat.min_eq_right h]; simp
end
end
section
open PySem PySem.W PySem.Calls PyProof.Rows
def ownNewOk (K : Frag) (C sm fN : Addr) : Bool := (match K.lookup C with
  | some ⟨_, _, .cls cd, sl⟩ => (sl.toList[4]?).join == some .none && !cd.mro.isEmpty && cd.mro.contains (.ref C) && specialIn K (.ref C) "__call__" == some (some (.builtin "type.__call__")) && instIn K (.ref C) (.type "type") == some true
  | _ => false) && findIn K (.ref C) "__init__" == some (some (.builtin "object.__init__")) && subIn K (.ref C) (.type "object") == some true &&
  typeIn K (.ref C) == some (.type "type") && readsIn K C (.type "type") && (match recIn K sm "staticmethod" with | some (f :: _) => f == .ref fN | _ => false)

section
variable {K : Frag} {mg mb : Str → Option Value} {prog : Program} {w : World} {A : Around} {E : Value → Shared → Prop} {o : OsP} {B : Heap} {env : Env} {l l' : Vars} {c c' : Cels} {n n' pre post : Ledg} {s s' : Shared} {R : Result → Shared → Prop}

theorem x_doc {x : Str} {k : Nat} {p pos : Pos} {Q : Flow → Shared → Prop} (hi : interactive env = false) (hs : swapsWith (.Constant (.str x) k p) none pos.line env = pure false) (S : St o B env l c n s) (h : ∀ s', St o B env l c n s' → Q .next s') :
    wpAny (model prog w) A (exec (.Expr (.Constant (.str x) k p) pos) env) Q E s := wpAny_Expr (r_str S fun t s' S' => h s' S') hi hs
theorem oi_args3 (a b c : Value) : argsOk "object.__init__" ⟨[a, b, c], []⟩ := F.args_object_init_3 a b c

theorem own_new {C sm fN : Addr} {a b : Value} (X₀ : K.In s.heap) (hk : ownNewOk K C sm fN = true) (hf : findCls K (.ref C) (.type "type") "__new__" = some (.get (.builtin "staticmethod.__get__") (.ref sm) .none (.ref C)))
    (h : ∀ s₁, s₁ = { s with toks := s.toks + 1 } → wpAny (model prog w) (A.under (.builtin "type.__call__" ⟨[.ref C, a, b], []⟩)) (call (.ref fN) [.ref C, a, b]) (fun v s' => ∃ x ob, v = .ref x ∧ s'.heap.get? x = some ob ∧ ob.cls = .ref C ∧ K.In s'.heap ∧ R (.ok (.ret (.ref x))) s') (fun e s' => R (.error e) s') s₁) :
    codeAny (model prog w) A (.call (.ref C) ⟨[a, b], []⟩) R s := by
  simp only [ownNewOk, Bool.and_eq_true, beq_iff_eq] at hk
  obtain ⟨⟨⟨⟨⟨k1, k2⟩, k3⟩, k4⟩, k5⟩, k6⟩ := hk
  split at k1
  · rename_i oc od cd sl ho
    simp only [Bool.and_eq_true, Bool.not_eq_true', beq_iff_eq] at k1
    obtain ⟨⟨⟨⟨e3, e4⟩, e5⟩, e7⟩, e8⟩ := k1
    have hC := X₀ _ _ ho
    have hc : clsIn K C = some cd := by unfold clsIn; rw [ho]
    have hm : ∀ h, K.In h → Looks (model prog w) h (mroOf (.ref C)) cd.mro := fun h X => (looks_clsIn X hc).andThen .now
    obtain ⟨c0, l0, hl0⟩ : ∃ c l, cd.mro = c :: l := by cases q : cd.mro with | nil => rw [q] at e4; cases e4 | cons c l => exact ⟨c, l, rfl⟩
    have made : ∀ h, K.In h → Looks (model prog w) h (Bind.madeBy (.ref C)) none := by
      intro h X A Q E s k q
      unfold Bind.madeBy
      refine wpAny_bind (hm h X A _ E s k ?_)
      rw [hl0, List.forIn_cons]
      refine wpAny_bind (wpAny_bind (wpAny_bind (wpAny_bind (wpAny_loadPart (k _ _ (X _ _ ho)) (wpAny_pure ?_)))))
      dsimp only
      rw [← Array.getElem?_toList, e3]
      exact wpAny_pure (wpAny_pure (wpAny_pure q))
    have call_ : Looks (model prog w) s.heap (specialOf (.ref C) "__call__") (some (.builtin "type.__call__")) := looks_specialIn X₀ e7
    have typ : Looks (model prog w) s.heap (isInstance (.ref C) (.type "type")) true := looks_instIn X₀ e8
    obtain ⟨rest, k6⟩ : ∃ rest, recIn K sm "staticmethod" = some (.ref fN :: rest) := by
      split at k6
      · rename_i f rest e; rw [beq_iff_eq] at k6; exact ⟨rest, k6 ▸ e⟩
      · cases k6
    refine codeAny_of_tree ?_
    show wpAny _ _ (callAny (.ref C) _) _ _ _
    refine nd_load hC ?_
    show wpAny _ _ (callAny.viaDunder (.ref C) _) _ _ _
    unfold callAny.viaDunder
    refine wpAny_bind (call_.at ?_)
    dsimp only
    rw [tc_bind]
    refine wpAny_bind (wpAny_pure (wpAny_bind (wpAny_pure ?_)))
    refine wpAny_pure (a := Fin.again (.call (.builtin "type.__call__") ⟨.ref C :: [a, b], []⟩)) (And.intro rfl ?_)
    refine codeAny_call_builtin_at (Code.quiet_builtin _ (by decide +kernel)) entry_typeCall (check_slot tc_kind tc_split typ (tc_args _ _ _) ?_)
    unfold Builtin.«type.__call__»
    refine wpAny_bind ((hm _ X₀).at ?_)
    rw [if_neg (by rw [e4]; decide)]
    refine wpAny_bind ((made _ X₀).at ?_)
    refine wpAny_bind (cls_bind X₀ k5 hf (wpAny_call (sm_get (s := { s with toks := s.toks + 1 }) X₀ k6 (handed_on rfl ?_))))
    refine wpAny_bind (wpAny_holding (wpAny_mono (h _ rfl) (fun v s' hv => ?_) fun _ _ x => x))
    obtain ⟨x, ob, rfl, hx, hcx, X', hR⟩ := hv
    have tx : Looks (model prog w) s'.heap (typeOf (.ref x)) (.ref C) := hcx ▸ (Looks.ld hx).andThen .now
    have i1 : Looks (model prog w) s'.heap (isInstance (.ref x) (.ref C)) true := tx.andThen (looks_mroIn X' (by unfold mroIn; rw [hc, Option.bind_some, if_neg (by rw [e4]; decide), e5]))
    refine wpAny_bind (i1.at ?_)
    rw [if_neg (by decide)]
    have t2 : Looks (model prog w) s'.heap (isInstance (.ref x) (.type "object")) true := tx.andThen (looks_subIn X' k3)
    have li := looks_findIn (M := model prog w) X' k2
    have lb : Looks (model prog w) s'.heap (bindSpecial (.builtin "object.__init__") (.ref x)) (.builtin "object.__init__", [.ref x]) := Looks.of_pure (oi_bind _)
    refine wpAny_bind (wpAny_holding ?_)
    show wpAny _ _ (callSpecial? (.ref x) "__init__" [a, b]) _ _ s'
    refine wpAny_bind (wpAny_bind (tx.here (li.here (wpAny_holding (wpAny_bind (lb.here (wpAny_bind (wpAny_call ?_))))))))
    refine codeAny_call_builtin oi_plain entry_oi (@check_slot (model prog w) _ _ _ "object.__init__" "object" "__init__" (.ref x) [a, b] [] _ oi_kind oi_split t2 (oi_args3 (.ref x) a b) ?_)
    unfold Builtin.«object.__init__»
    refine wpAny_bind (tx.here ?_)
    refine wpAny_bind (li.here ?_)
    refine wpAny_bind ((made _ X').here ?_)
    show wpAny _ _ (if (some (Value.builtin "object.__init__") != some (Value.builtin "object.__init__")) = true then _ else (if (!(false || (none != some "object.__new__"))) = true then _ else ret .none)) _ _ s'
    rw [if_neg (by simp), if_neg (by decide)]
    refine wpAny_pure ?_
    refine wpAny_pure ?_
    show wpAny _ _ (if (Value.none != Value.none) = true then _ else ret (.ref x)) _ _ s'
    rw [if_neg (by simp)]
    exact wpAny_pure hR
  · cases k1
end
end
section
open PySem PySem.W PySem.Calls PyProof.Rows
section
variable {K : Frag} {mg mb : Str → Option Value} {prog : Program} {w : World} {A : Around} {E : Value → Shared → Prop} {o : OsP} {B : Heap} {env : Env} {l l' : Vars} {c c' : Cels} {n n' pre post : Ledg} {s s' : Shared} {R : Result → Shared → Prop}

/-- a function called from a frame of which nothing is said: the whole heap stays -/
theorem fn_callT {f : Addr} {oc : Value} {od : Option Addr} {osl : Array (Option Value)} {fd : FuncData} {body : List Stmt} {args : Args} {binds : List (Str × Value)} {ln : List Str} {d u : Nat}
    (T : Base K mg mb s.heap) (hos : o s.os s.gens s.drawn) (hroom : Room A (d + 1) (u + 3))
    (ho : K.lookup f = some ⟨oc, od, .func fd, osl⟩) (hcd : codeIn K fd.code fd.qualname = true) (hbody : fd.body = .stmts body) (hok : fnOk fd (binds.map (·.1)) ln [] = true)
    (hbind : BindsTo s fd args binds)
    (hl : locsOf ln binds = l')
    (h : ∀ L' A' s', Room A' d u → St o s.heap (envF fd L' f) l' [] [] s' →
      wpAny (model prog w) A' (execs body (envF fd L' f)) (fun fl s'' => ∃ (env' : Env) (l' : Vars) (c' : Cels) (n' : Ledg), St o s.heap env' l' c' n' s'' ∧ R (.ok (.ret (match fl with | .ret v => v | _ => .none))) s'') (fun _ _ => False) s') :
    codeAny (model prog w) A (.call (.ref f) args) R s := by
  simp only [fnOk, Bool.and_eq_true, Bool.not_eq_true', beq_iff_eq, decide_eq_true_eq, List.all_eq_true, Bool.or_eq_true, List.contains_iff_mem, List.isEmpty_iff] at hok
  obtain ⟨⟨⟨⟨⟨⟨⟨⟨⟨k1, k2⟩, k3⟩, k4⟩, k5⟩, k6⟩, k7⟩, k8⟩, k9⟩, k10⟩ := hok
  have X := T.kin
  have ev := Ev.of (env := envF fd s.heap.objs.size f) k1
  have hk := evOk_kind k1
  refine codeAny_call_function hroom.dep (X _ _ ho) rfl k3 k4 hbody (codeRec_of X hcd) (hbind _ _ _ _ ?_)
  rw [k2]
  refine wpAny_newFunctionEnv_cells hk (fun x hx => ?_) fun env' he s' x => ?_
  · rcases k8 x.1 (List.mem_map.mpr ⟨x, hx, rfl⟩) with q | q
    · exact .inl (ev.loc _ q).1
    · exact absurd q (by simp)
  · subst he
    refine ⟨T.nolim.keeps fun b ob e => x.toInCall.keep _ _ e, codeAny_func ?_⟩
    obtain ⟨h₁, tk, rfl, hk₁⟩ := x.done
    have kd : ∀ y, (envF fd s.heap.objs.size f).kindOf y = fd.scope.names.lookup y := fun _ => rfl
    have S' : St o s.heap (envF fd s.heap.objs.size f) l' [] [] { s with heap := h₁, toks := tk } := by
      rw [← hl]
      refine ⟨⟨?_, hk₁, Nat.le_refl _⟩, fun p hp => (nomatch hp), .nil, fun p hp => (nomatch hp), .nil, ?_, hos⟩
      · have e : bindL (envF fd s.heap.objs.size f).kindOf binds (fun _ => none) = lk (locsOf ln binds) := by
          funext y
          rw [bindL_eq k5, locsOf, lk_map, kd, Option.or_none]
          by_cases hy : y ∈ ln
          · rw [if_pos hy, if_pos (show List.lookup y fd.scope.names = some NameKind.local from (ev.loc _ hy).1)]
          · rw [if_neg hy]
            split
            · rename_i hky
              refine lookup_none fun hb => ?_
              rcases k8 y hb with q | q
              · exact hy q
              · exact absurd q (by simp)
            · rfl
        have := x.toInCall.ns
        rw [← e]; exact this
      · have e1 : (locsOf ln binds).map (·.1) = ln := by unfold locsOf; rw [List.map_map]; exact List.map_id'' (fun _ => rfl) _
        rw [e1]; exact ev
    exact wpAny_mono (h _ _ _ hroom.deeper S') (fun fl s'' ⟨_, _, _, _, _, hR⟩ => hR) fun _ _ y => y.elim
end
end
section
open PySem PySem.W PySem.Calls PyProof.Rows
/-- the state's world outside, where generators come and go -/
def osB (o₀ : OsState) : OsP := fun os g _ => os = o₀ ∧ AllBare g
/-- the state's world outside, where nothing comes and goes -/
def osE (s : Shared) : OsP := fun os g d => os = s.os ∧ g = s.gens ∧ d = s.drawn

structure BaseG (K : Frag) (mg mb : Str → Option Value) (B : Heap) : Prop extends Base K mg mb B where
  bm : ∃ bm ob, BMod B mainGlobals mg bm ob

abbrev recOb (ps : Array Value) : Obj := { cls := .none, data := .fields ps }
def CodeBase (B : Heap) (c P : Addr) : Prop :=
  ∃ o vs file tf flags tg inF text tt, B.get? c = some o ∧ o.cls = .type "code" ∧ o.data = .fields vs ∧ vs[11]? = some (.ref P) ∧ vs.getD 11 .none = .ref P ∧ vs.getD 18 .none = .str file tf ∧
    vs.getD 7 .none = .int flags tg ∧ vs.getD 9 .none = .bool inF ∧ vs.getD 10 .none = .int text tt ∧ c ≠ P
/-- a function's code, and what it has made so far, in the ledger -/
def CodeLed (B : Heap) (n : Ledg) (c P : Addr) : Prop := CodeBase B c P ∧ ∃ ps, (P, recOb ps) ∈ n ∧ TriplesOk ps.toList

def putAt (n : Ledg) (a : Addr) (ob : Obj) : Ledg := n.map fun p => if p.1 = a then (a, ob) else p
theorem putAt_adr (n : Ledg) (a : Addr) (ob : Obj) : (putAt n a ob).map (·.1) = n.map (·.1) := by
  unfold putAt
  rw [List.map_map]
  refine List.map_congr_left fun p _ => ?_
  show (if p.1 = a then (a, ob) else p).1 = p.1
  split <;> simp_all
theorem putAt_put {n : Ledg} {a : Addr} {x ob : Obj} (hm : (a, x) ∈ n) (ho : (n.map (·.1)).Pairwise (· > ·)) : Put (a, x) (a, ob) n (putAt n a ob) := by
  induction n with
  | nil => cases hm
  | cons p r ih =>
    rw [List.map_cons, List.pairwise_cons] at ho
    unfold putAt
    rw [List.map_cons]
    rcases List.mem_cons.mp hm with e | hm
    · subst e
      rw [if_pos rfl]
      have : r.map (fun p => if p.1 = a then (a, ob) else p) = r := by
        conv => rhs; rw [← List.map_id r]
        refine List.map_congr_left fun q hq => ?_
        rw [if_neg (Nat.ne_of_lt (ho.1 q.1 (List.mem_map_of_mem hq)))]
        rfl
      rw [this]
      exact .head
    · rw [if_neg (Nat.ne_of_gt (ho.1 _ (List.mem_map.mpr ⟨_, hm, rfl⟩)))]
      exact .tail (ih hm ho.2)
theorem putAt_keep {n : Ledg} {a b : Addr} {ob x : Obj} (h : (b, x) ∈ n) (hne : b ≠ a) : (b, x) ∈ putAt n a ob :=
  List.mem_map.mpr ⟨(b, x), h, by rw [if_neg hne]⟩
theorem putAt_mem {n : Ledg} {a : Addr} {ob : Obj} {p : Addr × Obj} (h : p ∈ putAt n a ob) : (p.1 = a ∧ p.2 = ob) ∨ p ∈ n := by
  obtain ⟨q, hq, e⟩ := List.mem_map.mp h
  split at e
  · subst e; exact .inl ⟨rfl, rfl⟩
  · subst e; exact .inr hq
theorem CodeLed.put {B : Heap} {n : Ledg} {c P P' : Addr} {ps : Array Value} (h : CodeLed B n c P) (ht : TriplesOk ps.toList) : CodeLed B (putAt n P' (recOb ps)) c P := by
  obtain ⟨h1, ps₀, hm, hp⟩ := h
  by_cases e : P = P'
  · subst e
    refine ⟨h1, ps, List.mem_map.mpr ⟨_, hm, by rw [if_pos rfl]⟩, ht⟩
  · exact ⟨h1, ps₀, putAt_keep hm e, hp⟩
theorem CodeLed.to {B B' : Heap} {n : Ledg} {c P : Addr} (h : CodeLed B n c P) (k : ∀ b o, B.get? b = some o → B'.get? b = some o) : CodeLed B' n c P :=
  let ⟨⟨o, vs, file, tf, flags, tg, inF, text, tt, e, r⟩, q⟩ := h; ⟨⟨o, vs, file, tf, flags, tg, inF, text, tt, k _ _ e, r⟩, q⟩
theorem CodeLed.sub {B : Heap} {n n' : Ledg} {c P : Addr} (h : CodeLed B n c P) (k : ∀ ps, (P, recOb ps) ∈ n → (P, recOb ps) ∈ n') : CodeLed B n' c P :=
  let ⟨a, ps, b, d⟩ := h; ⟨a, ps, k _ b, d⟩
theorem BaseG.keeps {K : Frag} {mg mb : Str → Option Value} {B B' : Heap} (T : BaseG K mg mb B) (k : ∀ b o, B.get? b = some o → B'.get? b = some o) : BaseG K mg mb B' :=
  ⟨T.toBase.keeps k, let ⟨bm, ob, x⟩ := T.bm; ⟨bm, ob, x.keeps k⟩⟩

section
variable {K : Frag} {mg mb : Str → Option Value} {prog : Program} {w : World} {A : Around} {E : Value → Shared → Prop} {o : OsP} {B : Heap} {env : Env} {l l' : Vars} {c c' : Cels} {n n' pre post : Ledg} {s s' : Shared} {R : Result → Shared → Prop}

theorem CodeLed.facts {cA P : Addr} (h : CodeLed B n cA P) (S : St o B env l c n s) : ∃ ps, (P, recOb ps) ∈ n ∧ s.heap.IsCode cA P ps ∧ s.heap.TableAt cA P ps := by
  obtain ⟨⟨o', vs, file, tf, flags, tg, inF, text, tt, h1, h2, h3, h4, h5, h6, h7, h8, h9, h10⟩, ps, hm, hp⟩ := h
  exact ⟨ps, hm, ⟨o', vs, file, tf, flags, tg, inF, text, tt, recOb ps, S.fr.keep _ _ h1, h3, h5, h6, h7, h8, h9, S.nw.get hm, rfl, hp, h10⟩, ⟨o', vs, S.fr.keep _ _ h1, h2, h3, h4⟩, S.nw.get hm⟩

/-- an entry changes, the rest of the heap stays -/
theorem St.putX (S : St o B env l c n s) {a : Addr} {x y : Obj} (hm : (a, x) ∈ n) (hc : cellE x = false) {h' : Heap} {tk : Nat} (he : Heap.ExtBut a s.heap h') (hy : h'.get? a = some y) : St o B env l c (putAt n a y) { s with heap := h', toks := tk } := by
  have z := S.nw _ hm
  refine S.mk' (putAt_put hm S.ord) ⟨S.fr.ns.extBut he (Ne.symm z.2.1), fun b ob e => he b ob (fun q => ?_) (S.fr.keep b ob e), S.fr.above⟩ (fun p hp => ?_) (cellE_no hc)
  · rw [q, z.2.2] at e; cases e
  · obtain ⟨q, hq, e⟩ := List.mem_map.mp hp
    split at e
    · rename_i hqa
      subst e
      exact ⟨hy, z.2.1, z.2.2⟩
    · rename_i hqa
      subst e
      exact ⟨he _ _ hqa (S.nw q hq).1, (S.nw q hq).2⟩

theorem gen_code (S : St o B env l c n s) {cA P : Addr} (L : CodeLed B n cA P) (hcode : env.code = .ref cA) {pos : Pos} {qn : Str} {scope : Scope} {Q : Value → Shared → Prop}
    (h : ∀ code ps tk h', TriplesOk ps.toList → Heap.ExtBut P s.heap h' → s.heap.objs.size ≤ h'.objs.size → St o B env l c (putAt n P (recOb ps)) { s with heap := h', toks := tk } → Q code { s with heap := h', toks := tk }) : wpAny (model prog w) A (genexprCode env pos qn scope) Q E s := by
  obtain ⟨ps, hm, h1, h2⟩ := L.facts S
  cases hf : codeAmong pos ps.toList with
  | some cv =>
    refine wpAny_genexprCode_hit hcode h1 hf ?_
    have ht : TriplesOk ps.toList := let ⟨_, _, _, _, _, _, _, _, _, _, _, _, _, _, _, _, _, _, _, t, _⟩ := h1; t
    exact h cv ps s.toks s.heap ht (Heap.ExtBut.refl _ _) (Nat.le_refl _) (S.putX hm rfl (Heap.ExtBut.refl _ _) (S.nw.get hm))
  | none =>
    refine wpAny_genexprCodeX hcode h1 h2 hf fun c' h' tk hx hge hlt hcd _ htab _ => ?_
    have ht : TriplesOk (ps ++ #[rawInt pos.line, rawInt pos.col, .ref c']).toList := let ⟨_, _, _, _, _, _, _, _, _, _, _, _, _, _, _, _, _, _, _, t, _⟩ := hcd; t
    exact h _ _ tk h' ht hx (Nat.le_trans hge (Nat.le_of_lt hlt)) (S.putX hm rfl hx htab.2)

theorem iter_walks {I : Addr} {N : Nat} {itP : Nat → Obj → Prop} {item : Nat → Value → Prop} {needs : Heap → Prop} (X : Iter prog w A I N itP item needs) (fp : List Addr) (hI : I ∉ fp)
    (hn : ∀ h h', needs h → (∀ b ∈ fp, ∀ o, h.get? b = some o → h'.get? b = some o) → needs h')
    (hself : ∀ (s : Shared) i ob (Q : Value → Shared → Prop) E, s.heap.get? I = some ob → itP i ob → Q (.ref I) s → wpAny (model prog w) A (pyIter (.ref I)) Q E s) :
    Walks prog w A I (I :: fp) [I] N item (fun i h => (∃ ob, h.get? I = some ob ∧ itP i ob) ∧ needs h) where
  sub := fun b hb => by simp at hb; simp [hb]
  frame := fun i h h' ⟨⟨ob, e, p⟩, q⟩ hk => ⟨⟨ob, hk I (by simp) _ e, p⟩, hn h h' q fun b hb => hk b (by simp [hb])⟩
  item := fun i s Q E hi ⟨⟨ob, e, p⟩, q⟩ hQ => by
    refine X.step i s ob _ _ hi e p q fun v h' tk ob' hv hg' hob' hs => hQ v h' tk hv ⟨⟨ob', hg', hob'⟩, hn _ _ q fun b hb o e => ?_⟩ fun b o hb e => hs.extBut b o (fun h => hb (by simp [h])) e
    exact hs.extBut b o (fun h => hI (h ▸ hb)) e
  done := fun s Q E ⟨⟨ob, e, p⟩, q⟩ hQ => X.fin s ob _ _ e p q fun h' tk he => hQ h' tk fun b o hb e => he b o (fun h => hb (by simp [h])) e
  self := fun i s Q E ⟨⟨ob, e, p⟩, q⟩ hQ => hself s i ob Q E e p hQ

/-- a generator expression over an iterator of the ledger -/
theorem r_genexp {o₀ : OsState} {elt iter : Expr} {x : Str} {px : Pos} {scope : Scope} {cl : List (Str × Addr)} {pos : Pos} {Q : Value → Shared → Prop} (T : BaseG K mg mb B) (hgl : env.globals = mainGlobals)
    (hh : A.handled = none) (hco : scope.isCoroutine = false) (hclos : closureFor scope env = pure cl) (hcell : ∀ y ∈ scope.names, y.2 ≠ .cell) (h0 : scope.names.lookup (".0" : Str) = some NameKind.local)
    (hx : scope.names.lookup x = some .local) (hkind : scope.kind = .function) (hroom : A.depth < recursionLimit)
    (hs : ∀ x, genFold iter env x = pure x)
    (h : wpAny (model prog w) A (eval iter env) (fun xv s₁ => wpAny (model prog w) A (pyIter xv) (fun it s₂ => ∃ (n : Ledg) (cA P I : Addr) (ob : Obj) (N : Nat) (itP : Nat → Obj → Prop) (item : Nat → Value → Prop) (needs : Heap → Prop) (fp : List Addr) (F : Nat → Value → Prop),
      it = .ref I ∧ env.code = .ref cA ∧ St (osB o₀) B env l c ((I, ob) :: n) s₂ ∧ CodeLed B n cA P ∧ itP 0 ob ∧ env.locals < I ∧ (∀ A' : Around, A'.handled = none → Iter prog w A' I N itP item needs) ∧
      (∀ (A' : Around) (s : Shared) i ob (Q : Value → Shared → Prop) E, s.heap.get? I = some ob → itP i ob → Q (.ref I) s → wpAny (model prog w) A' (pyIter (.ref I)) Q E s) ∧
      (I ∉ fp ∧ (∀ b ∈ fp, b < I) ∧ P ∉ fp ∧ needs s₂.heap ∧ ∀ h h', needs h → (∀ b ∈ fp, ∀ o, h.get? b = some o → h'.get? b = some o) → needs h') ∧
      (∀ (A' : Around) E' i v (t : Shared) m₂ C code, A'.handled = none → A'.depth ≤ A.depth + 1 → A'.units ≤ A.units + 8 → item i v → t.heap.Ns C m₂ → m₂ x = some v → (∀ b ob, B.get? b = some ob → t.heap.get? b = some ob) → (∀ p ∈ n, p.1 ≠ P → t.heap.get? p.1 = some p.2) →
        wpAny (model prog w) A' (eval elt (genEnv scope cl C code builtinsNs env)) (fun y s₃ => F i y ∧ Keeps t s₃) E' t) ∧
      (∀ a K ps s₅, TriplesOk ps.toList → (∀ p ∈ putAt n P (recOb ps), p.1 ≤ K) → env.locals ≤ K → St (osB o₀) B env l c (putAt n P (recOb ps)) s₅ → Gen prog w A K a N F s₅ → Q (.ref a) s₅)) E s₁) E s) :
    wpAny (model prog w) A (eval (.GeneratorExp elt [⟨.Name x px, iter, [], 0⟩] scope pos) env) Q E s := by
  refine wpAny_GeneratorExp_walksQD hh hco hclos hcell h0 hx hkind hroom (wpAny_mono h (fun xv s₁ h₁' => wpAny_mono h₁' (fun it s₂ h₂ => ?_) fun _ _ e => e) fun _ _ e => e) hs
  obtain ⟨n, cA, P, I, ob, N, itP, item, needs, fp, F, rfl, hcode, S, L, hob, hLI, hI, hself, ⟨hIfp, hfp, hPfp, hneeds, hfr⟩, helt, hQ⟩ := h₂
  have hsub : n.Sublist ((I, ob) :: n) := List.sublist_cons_self _ _
  have hIo := S.ord
  rw [List.map_cons, List.pairwise_cons] at hIo
  obtain ⟨ps₀, hm₀, _⟩ := L.2
  have hPI : P < I := hIo.1 P (List.mem_map.mpr ⟨_, hm₀, rfl⟩)
  have hIlt : I < s₂.heap.objs.size := Heap.lt_size (S.nw _ (.head _)).1
  refine ⟨T.nolim.keeps S.fr.keep, gen_code S (L.sub (n' := (I, ob) :: n) fun ps hp => .tail _ hp) hcode fun code ps tk h₃ ht hx₃ hge S₃ => ?_⟩
  have e₃ : putAt ((I, ob) :: n) P (recOb ps) = (I, ob) :: putAt n P (recOb ps) := by
    unfold putAt
    rw [List.map_cons, if_neg (Nat.ne_of_gt hPI)]
  rw [e₃] at S₃
  obtain ⟨bm, obm, M⟩ := T.bm
  have M₃ := M.keeps S₃.fr.keep
  refine wpAny_builtinsFor (m := mg) (by rw [hgl]; exact M₃.ns) M₃.name M₃.ne M₃.obj M₃.cls M₃.dict M₃.data ?_
  have hI₃ : h₃.get? I = some ob := (S₃.nw _ (.head _)).1
  have hn₃ : needs h₃ := hfr _ _ hneeds fun b hb o e => hx₃ b o (fun q => hPfp (q ▸ hb)) e
  have hIB : B.get? I = none := (S₃.nw _ (.head _)).2.2
  have hcI : cStatics < I := by
    obtain ⟨_, hn, _⟩ := T.nolim
    obtain ⟨oc, _, _, e, _⟩ := hn
    exact Nat.lt_of_lt_of_le (Heap.lt_size e) (Nat.le_trans S.fr.above (Nat.le_of_lt hLI))
  refine ⟨I, I :: fp, [I], N, item, _, fun _ => true, F, rfl, fun A' hA => iter_walks (hI A' hA) fp hIfp hfr (hself A'), ⟨⟨ob, hI₃, hob⟩, hn₃⟩, ?_, T.nolim.keeps S₃.fr.keep, ?_, ?_, ?_⟩
  · intro b hb
    rcases List.mem_cons.mp hb with rfl | hb
    · exact Nat.lt_of_lt_of_le hIlt hge
    · exact Nat.lt_of_lt_of_le (Nat.lt_trans (hfp b hb) hIlt) hge
  · intro hm
    rw [List.mem_singleton] at hm
    exact Nat.ne_of_lt hcI hm
  · intro href hhref
    have inB : ∀ (t : Shared), (∀ b ∈ List.range h₃.objs.size, b ∉ [I] → ∀ o, href.get? b = some o → t.heap.get? b = some o) → ∀ b o, b ≠ I → h₃.get? b = some o → t.heap.get? b = some o := fun t hkp b o hb e =>
      hkp b (List.mem_range.mpr (Heap.lt_size e)) (by simpa using hb) o (hhref b o e)
    refine ⟨fun A' E' i v t m₂ hA hD hU hP hn hm hkp => ?_, fun A' E' i v t m₂ hA hD hU hP hp hn hm hkp => ?_⟩
    · rw [List.forIn_nil]
      exact wpAny_pure ⟨rfl, t.heap, t.toks, rfl, fun _ _ e => e⟩
    · refine helt A' E' i v t m₂ _ _ hA hD hU hP hn hm (fun b ob' e => inB t hkp b ob' (fun q => ?_) (S₃.fr.keep b ob' e)) fun p hp hne => inB t hkp _ _ (Nat.ne_of_lt (hIo.1 p.1 (List.mem_map_of_mem hp))) ?_
      · rw [q, hIB] at e; cases e
      · exact (S₃.nw (p.1, p.2) (.tail _ (putAt_keep hp hne))).1
  · intro a h₅ tk₅ gs hgb hag hsz₅ hk₅ W hat
    have S₅ : St (osB o₀) B env l c (putAt n P (recOb ps)) { s₂ with gens := s₂.gens.push gs, toks := tk₅, heap := h₅ } := by
      have S₄ := S₃.drop (List.sublist_cons_self (I, ob) (putAt n P (recOb ps))) ?_
      · refine ⟨S₄.fr.keeps hk₅, fun p hp => ⟨hk₅ _ _ (S₄.nw p hp).1, (S₄.nw p hp).2⟩, S₄.ord, S₄.cel, S₄.cnd, S₄.ev, ?_⟩
        have ho : osB o₀ s₂.os s₂.gens s₂.drawn := S.os
        exact ⟨ho.1, ho.2.push hgb⟩
      · intro p hp ob' hm
        rcases List.mem_cons.mp hm with e | hm
        · exfalso
          obtain ⟨_, ob₁, hm₁, hd₁⟩ := S₃.cel p hp
          have ei : p.2.1 = I := congrArg Prod.fst e
          rw [ei] at hm₁
          have h1 := (S₃.nw _ hm₁).1
          rw [hI₃] at h1
          have hnc := (hI A hh).nocell 0 ob hob
          have eo : ob = ob₁ := Option.some.inj h1
          rw [← eo] at hd₁
          exact cellE_no hnc _ hd₁
        · exact hm
    have hord := S₃.ord
    rw [List.map_cons, List.pairwise_cons] at hord
    have hpos : 0 < I := Nat.lt_of_le_of_lt (Nat.zero_le _) hLI
    have hp1 : passing (fun _ => true) N 0 = List.range N := by simp [passing]
    refine hQ a (I - 1) ps _ ht (fun p hp => Nat.le_sub_one_of_lt (hord.1 p.1 (List.mem_map_of_mem hp))) (Nat.le_sub_one_of_lt hLI) S₅ ?_
    have W' : WalksS prog w A.in4 a (a :: h₃.objs.size :: List.range h₃.objs.size) [h₃.objs.size, I] (GenOnlyQ s₂.gens.size) N F (GenAt prog w A.in4 a s₂.gens.size h₃.objs.size (List.range h₃.objs.size) [I] (fun _ => true) N F) := by
      have hlen : (passing (fun _ => true) N 0).length = N := by rw [hp1, List.length_range]
      dsimp only at W
      rw [hlen] at W
      refine ⟨W.sub, W.grefl, W.gtrans, W.frame, fun i s' Q E hi st hq => W.item i s' Q E hi st fun v s'' ⟨k, hk, hF⟩ => ?_, W.done, W.self⟩
      rw [hp1, List.getElem?_range hi] at hk
      cases hk
      exact hq v s'' hF
    refine ⟨_, _, _, _, W', hat, fun i s' st => st.1.typeIs, List.mem_cons_self, ?_, ?_⟩
    · intro b hb
      show b < h₅.objs.size
      rw [hsz₅]
      dsimp only at hag
      rcases List.mem_cons.mp hb with rfl | hb
      · exact Nat.lt_succ_self _
      · rcases List.mem_cons.mp hb with rfl | hb
        · exact Nat.lt_succ_of_lt hag
        · exact Nat.lt_succ_of_lt (Nat.lt_trans (List.mem_range.mp hb) hag)
    · intro b hb
      have : I < h₃.objs.size := Nat.lt_of_lt_of_le hIlt hge
      rcases List.mem_cons.mp hb with rfl | hb
      · exact Nat.lt_of_le_of_lt (Nat.sub_le I 1) this
      · rw [List.mem_singleton] at hb
        rw [hb]
        exact Nat.sub_lt hpos Nat.zero_lt_one
end
end
section
open PySem PySem.W PySem.Calls PyProof.Rows
section
variable {K : Frag} {mg mb : Str → Option Value} {prog : Program} {w : World} {A : Around} {E : Value → Shared → Prop} {o : OsP} {B : Heap} {env : Env} {l l' : Vars} {c c' : Cels} {n n' pre post : Ledg} {s s' : Shared} {R : Result → Shared → Prop}

theorem St.later {o₀ : OsState} {k : Addr} (S : St (osB o₀) B env l c n s) (hn : ∀ p ∈ n, p.1 ≤ k) (_ : env.locals ≤ k) (hF : Fr B env.locals s'.heap (lk l)) (hG : AllBare s'.gens) (hos : s'.os = s.os) (hk : ∀ b o, b ≤ k → s.heap.get? b = some o → s'.heap.get? b = some o) : St (osB o₀) B env l c n s' :=
  ⟨hF, fun p hp => ⟨hk _ _ (hn p hp) (S.nw p hp).1, (S.nw p hp).2⟩, S.ord, S.cel, S.cnd, S.ev, hos.trans S.os.1, hG⟩
theorem r_sumGen {o₀ : OsState} {k a : Addr} {N : Nat} {F : Nat → Value → Prop} {Q : Value → Shared → Prop} (S : St (osB o₀) B env l c n s) (X : Gen prog w A k a N F s) (hn : ∀ p ∈ n, p.1 ≤ k) (hL : env.locals ≤ k) (val : Nat → Int) (hval : ∀ j v, F j v → ∃ t, v = .int (val j) t)
    (h : ∀ t s', St (osB o₀) B env l c n s' → Q (.int (preSum val N) t) s') : wpAny (model prog w) A (call (.builtin "sum") [.ref a]) Q E s :=
  sum_rowsKA S.fr S.os.2 X hL val hval fun s' t' F' G' hos hk => h t' s' (S.later hn hL F' G' hos hk)
theorem r_allGen {o₀ : OsState} {k a : Addr} {N : Nat} {F : Nat → Value → Prop} {Q : Value → Shared → Prop} (S : St (osB o₀) B env l c n s) (X : Gen prog w A k a N F s) (hn : ∀ p ∈ n, p.1 ≤ k) (hL : env.locals ≤ k) (tr : Nat → Bool) (htr : ∀ j v, F j v → v = .bool (tr j))
    (h : ∀ s', St (osB o₀) B env l c n s' → Q (.bool ((List.range N).all tr)) s') : wpAny (model prog w) A (call (.builtin "all") [.ref a]) Q E s :=
  all_rowsK S.fr S.os.2 X hL tr (by
    intro i v Q' E' s' hv hq
    rw [htr i v hv]
    exact wpAny_truthy_bool hq) fun s' F' G' hos hk => h s' (S.later hn hL F' G' hos hk)
theorem r_typeOf (S : St o B env l c n s) {x C dx : Addr} {d : Data} {Q : Value → Shared → Prop} (h : Q (.ref C) s) (hx : Has B n x { cls := .ref C, dict := some dx, data := d }) : wpAny (model prog w) A (call (.type "type") [.ref x]) Q E s := by
  have hg := S.has hx
  obtain ⟨hh, g, d, t, os⟩ := s
  exact call_type_obj hg rfl h
end
end
section
open PySem PySem.W PySem.Calls PyProof.Rows
theorem binds_peek {K : Frag} {s : Shared} {fd : FuncData} {args : Args} {binds : List (Str × Value)} (X : K.In s.heap) (e : ∀ S, peek K S (bindArgs fd args) = some binds) : BindsTo s fd args binds := kp_binds X e
section
variable {K : Frag} {mg mb : Str → Option Value} {prog : Program} {w : World} {A : Around} {E : Value → Shared → Prop} {o : OsP} {B : Heap} {env : Env} {l l' : Vars} {c c' : Cels} {n n' pre post : Ledg} {s s' : Shared} {R : Result → Shared → Prop}
theorem St.kin (S : St o B env l c n s) (T : Base K mg mb B) : K.In s.heap := T.kin.keeps S.fr.keep
theorem x_isRefNone {x : Addr} {Q : Value → Shared → Prop} (h : Q (.bool false) s) : wpAny (model prog w) A (compareOp .Is (.ref x) .none) Q E s := wpAny_of_eq (show compareOp .Is (.ref x) .none = pure (.bool false) by kernel_rfl) h
theorem x_isIntNone {i : Int} {t : Tok} {Q : Value → Shared → Prop} (h : Q (.bool false) s) : wpAny (model prog w) A (compareOp .Is (.int i t) .none) Q E s := wpAny_of_eq (show compareOp .Is (.int i t) .none = pure (.bool false) by kernel_rfl) h
theorem x_isNoneNone {Q : Value → Shared → Prop} (h : Q (.bool true) s) : wpAny (model prog w) A (compareOp .Is .none .none) Q E s := wpAny_of_eq (show compareOp .Is .none .none = pure (.bool true) by kernel_rfl) h

/-- a place that no one has is taken and given up -/
theorem St.grown (S : St o B env l c n s) {h' : Heap} {tk : Nat} (he : Heap.ExtBut s.heap.objs.size s.heap h') : St o B env l c n { s with heap := h', toks := tk } := by
  have key : ∀ b ob, s.heap.get? b = some ob → h'.get? b = some ob := fun b ob e => he b ob (Nat.ne_of_lt (Heap.lt_size e)) e
  exact S.same (S.fr.keeps key) fun p hp => ⟨key _ _ (S.nw p hp).1, (S.nw p hp).2⟩
theorem r_unpack (hh : A.handled = none) (S : St o B env l c n s) {t : Addr} {vs : List Value} {k : Nat} {Q : List Value → Shared → Prop} (ht : Has B n t (tupOf vs)) (hn : k = vs.length) (h : ∀ s', St o B env l c n s' → Q vs s') : wpAny (model prog w) A (unpackItems (.ref t) k none) Q E s := by
  subst hn
  have e : vs.length = vs.toArray.size := by simp
  rw [e]
  exact wpAny_unpackItems_tuple hh (S.isTup ht) fun h' he => h _ (S.grown (tk := s.toks) he)
theorem x_assignT {elts : List Expr} {k : Nat} {tpos : Pos} {value : Expr} {pos : Pos} {Q : Flow → Shared → Prop}
    (hs : swapsWithSole [.Tuple elts k tpos] value pos.line env = pure false)
    (hw : swappedStores [.Tuple elts k tpos] value env = pure none)
    (h : wpAny (model prog w) A (eval value env) (fun v s₁ => wpAny (model prog w) A (assign (.Tuple elts k tpos) env v) (fun _ => Q .next) E s₁) E s) :
    wpAny (model prog w) A (exec (.Assign [.Tuple elts k tpos] value pos) env) Q E s := Assign_Tuple h hs hw
theorem x_assignTS {elts : List Expr} {k : Nat} {tpos : Pos} {value : Expr} {pos : Pos} {names : List Str} {Q : Flow → Shared → Prop}
    (hs : swapsWithSole [.Tuple elts k tpos] value pos.line env = pure false)
    (hw : swappedStores [.Tuple elts k tpos] value env = pure (some names))
    (h : wpAny (model prog w) A (eval value env) (fun v s₁ => wpAny (model prog w) A (unpackItems v names.length none) (fun items s₂ =>
      wpAny (model prog w) A (assignInOrder (names.reverse.map fun n => bindName env n) items.reverse) (fun _ => Q .next) E s₂) E s₁) E s) :
    wpAny (model prog w) A (exec (.Assign [.Tuple elts k tpos] value pos) env) Q E s := Assign_Tuple_swapped h hs hw
theorem x_orderC {f : Value → Sem Unit} {fs : List (Value → Sem Unit)} {v : Value} {vs : List Value} {Q : Unit → Shared → Prop}
    (h : wpAny (model prog w) A (f v) (fun _ s' => wpAny (model prog w) A (assignInOrder fs vs) Q E s') E s) : wpAny (model prog w) A (assignInOrder (f :: fs) (v :: vs)) Q E s := by
  show wpAny _ _ (do holding vs (f v); assignInOrder fs vs) _ _ _
  exact wpAny_bind (wpAny_holding h)
theorem x_orderN {Q : Unit → Shared → Prop} (h : Q () s) : wpAny (model prog w) A (assignInOrder [] []) Q E s := wpAny_pure h
theorem x_bindName {x : Str} {v : Value} {Q : Unit → Shared → Prop} (h : wpAny (model prog w) A (storeName env x v) Q E s) : wpAny (model prog w) A (bindName env x v) Q E s := wpAny_bindName h
theorem x_asgName {x : Str} {pos : Pos} {v : Value} {Q : Unit → Shared → Prop} (h : wpAny (model prog w) A (storeName env x v) Q E s) : wpAny (model prog w) A (assign (.Name x pos) env v) Q E s := wpAny_assign_Name h
theorem x_asgTup (hh : A.handled = none) (S : St o B env l c n s) {elts : List Expr} {k : Nat} {tpos : Pos} {t : Addr} {vs : List Value} {Q : Unit → Shared → Prop} (ht : Has B n t (tupOf vs))
    (hn : (assignEach elts env).length = vs.length) (hstar : (assignEach elts env).findIdx? (·.1) = none)
    (h : ∀ s', St o B env l c n s' → wpAny (model prog w) A (assignInOrder ((assignEach elts env).map (·.2)) vs) Q E s') : wpAny (model prog w) A (assign (.Tuple elts k tpos) env (.ref t)) Q E s :=
  wpAny_assign_Tuple hh (S.isTup ht) (by simpa using hn) hstar fun h' he => by simpa using h _ (S.grown (tk := s.toks) he)
end
end
section
open PySem PySem.W PySem.Calls PyProof.Rows
theorem adjust_ab (a b n : Nat) (hab : a ≤ b) (hb : b ≤ n) : Builtin.Slice.sliceAdjust (some (a : Int)) (some (b : Int)) 1 (n : Int) = ((a : Int), (b : Int)) := by
  unfold Builtin.Slice.sliceAdjust
  have h1 : ¬ ((1 : Int) < 0) := by omega
  have h2 : ¬ ((a : Int) < 0) := by omega
  have h3 : ¬ ((b : Int) < 0) := by omega
  simp only [h1, h2, h3, if_false]
  congr 1 <;> omega
theorem places_ab (a b : Nat) (hab : a ≤ b) : Builtin.Slice.slicePlaces (a : Int) (b : Int) 1 = b - a := by
  unfold Builtin.Slice.slicePlaces
  have h1 : (1 : Int) > 0 := by omega
  simp only [h1, if_true, Int.ediv_one]
  split <;> omega
theorem pick_ab (vs : List Value) (a k : Nat) (h : a + k ≤ vs.length) : ((List.range k).filterMap fun (j : Nat) => vs.toArray[((a : Int) + (j : Int) * 1).toNat]?) = (vs.drop a).take k := by
  have e : (fun (j : Nat) => vs.toArray[((a : Int) + (j : Int) * 1).toNat]?) = fun j => (vs.drop a)[j]? := by
    funext j
    have : ((a : Int) + (j : Int) * 1).toNat = a + j := by omega
    rw [this]
    simp
  rw [e]
  induction k with
  | zero => simp
  | succ k ih =>
    rw [List.range_succ, List.filterMap_append, ih (by omega), List.take_add_one]
    congr 1
section
variable {K : Frag} {mg mb : Str → Option Value} {prog : Program} {w : World} {A : Around} {E : Value → Shared → Prop} {o : OsP} {B : Heap} {env : Env} {l l' : Vars} {c c' : Cels} {n n' pre post : Ledg} {s s' : Shared} {R : Result → Shared → Prop}
theorem St.isT (S : St o B env l c n s) {a : Addr} {vs : List Value} (h : Has B n a (tupOf vs)) : IsTup s.heap a vs.toArray := ⟨_, S.has h, rfl, 0, rfl⟩
theorem applied_ab {sl : Addr} {a b n : Nat} {u v : Tok} {Q : Int × Int × Nat → Shared → Prop} (hs : s.heap.IsSliceOf sl (.int a u) (.int b v) .none) (ha : a ≤ b) (hb : b ≤ n) (h : Q ((a : Int), 1, b - a) s) :
    wpAny (model prog w) A (Builtin.Slice.sliceApplied (.ref sl) (pure (n : Int))) Q E s := by
  obtain ⟨os, hos, hcs, hds⟩ := id hs
  unfold Builtin.Slice.sliceApplied Builtin.Slice.sliceFields
  refine wpAny_bind (wpAny_bind (wpAny_field hos hds (x := .int a u) rfl (wpAny_bind (wpAny_field hos hds (x := .int b v) rfl (wpAny_bind (wpAny_field hos hds (x := .none) rfl (wpAny_pure ?_)))))))
  refine wpAny_bind (slicePart_none ?_)
  show wpAny _ _ (if ((1 : Int) == 0) = true then _ else _) _ _ s
  rw [if_neg (by decide)]
  refine wpAny_bind (slicePart_int (wpAny_bind (slicePart_int (wpAny_bind (wpAny_pure ?_)))))
  show wpAny _ _ (match Builtin.Slice.sliceAdjust (some (a : Int)) (some (b : Int)) 1 (n : Int) with | (lo, hi) => pure (lo, (1 : Int), Builtin.Slice.slicePlaces lo hi 1)) _ _ s
  rw [adjust_ab a b n ha hb]
  show wpAny _ _ (pure ((a : Int), (1 : Int), Builtin.Slice.slicePlaces (a : Int) (b : Int) 1)) _ _ s
  rw [places_ab a b ha]
  exact wpAny_pure h
/-- a tuple's slice: a new one, or the tuple itself where it is the whole -/
theorem r_sliceT (S : St o B env l c n s) {value slice : Expr} {t : Addr} {vs : List Value} {a b : Nat} {i j : Int} {u v : Tok} {Q : Value → Shared → Prop} (hi : i = a) (hj : j = b)
    (hs : subscripted slice false (.ref t) (.ref s.heap.objs.size) = operate [.ref s.heap.objs.size, .ref t] (getItem (.ref t) (.ref s.heap.objs.size))) (ht : ∀ r, letTemporaryGo value (.ref t) r = pure ())
    (hl : Has B n t (tupOf vs)) (hab : a ≤ b) (hb : b ≤ vs.length) (hz : vs.length ≤ 1000)
    (h : ∀ D add s', Has B (add ++ n) D (tupOf ((vs.drop a).take (b - a))) → (∀ p ∈ add, cellE p.2 = false) → St o B env l c (add ++ n) s' → Q (.ref D) s') :
    wpAny (model prog w) A (subscriptTail value slice (.ref t) (.ref s.heap.objs.size)) Q E { s with heap := s.heap.push { cls := .type "slice", data := .fields #[.int i u, .int j v, .none] } } := by
  subst hi hj
  have S₁ := S.push { cls := .type "slice", data := .fields #[.int a u, .int b v, .none] }
  have hsl : ({ s with heap := s.heap.push { cls := .type "slice", data := .fields #[.int a u, .int b v, .none] } } : Shared).heap.IsSliceOf s.heap.objs.size (.int a u) (.int b v) .none := Heap.IsSliceOf.new ..
  have hT : IsTup (s.heap.push { cls := .type "slice", data := .fields #[.int a u, .int b v, .none] }) t vs.toArray := S₁.isT (Has.cons hl)
  refine subscriptTail_ops (s := { s with heap := s.heap.push { cls := .type "slice", data := .fields #[.int a u, .int b v, .none] } }) hT.typeIs PyProof.Rows.slot_tuple_getitem.lookup ?_ hs ht
  have S₀ : St o B env l c n { s with heap := s.heap.push { cls := .type "slice", data := .fields #[.int a u, .int b v, .none] } } := S.same (S.fr.push _) fun p hp => ⟨Heap.get?_push_of_some _ (S.nw p hp).1, (S.nw p hp).2⟩
  generalize s.heap.objs.size = sl at *
  generalize ({ s with heap := s.heap.push { cls := .type "slice", data := .fields #[.int a u, .int b v, .none] } } : Shared) = s₁ at *
  clear S₁
  have hT' : IsTup s₁.heap t vs.toArray := S₀.isT hl
  clear hT
  have hT := hT'
  obtain ⟨os, hos, hcs, hds⟩ := id hsl
  have hTs : s₁.TypeIs (.ref sl) "slice" := ⟨os, hos, hcs⟩
  unfold getItem
  try with_reducible refine wpAny_holding ?_
  first | refine wpAny_bind (wpAny_pure ?_) | skip
  refine wpAny_bind (wpAny_sequenceKey hT.typeIs (by decide) ?_)
  refine wpAny_bind (wpAny_callSpecial?_slot (name := Str.ofString "__getitem__") hT.typeIs PyProof.Rows.slot_tuple_getitem
    (wpAny_call_entry PyProof.Rows.slot_tuple_getitem hT.typeIs PyProof.Rows.entry_tuple_getitem ?_ (args_tuple_getitem _ _)))
  show wpAny _ _ (Builtin.Tuple.tupleItemsOf (.ref t) >>= _) _ _ s₁
  refine wpAny_bind (tupleItemsOf_ hT ?_)
  refine wpAny_bind (wpAny_typeOf hTs ?_)
  rw [if_pos (by decide)]
  have hz' : vs.toArray.size = vs.length := by simp
  refine wpAny_bind (applied_ab hsl hab (by rw [hz']; exact hb) ?_)
  by_cases hw : a = 0 ∧ b = vs.length
  · obtain ⟨rfl, rfl⟩ := hw
    show wpAny _ _ (if (((0 : Nat) : Int) == 0 && (1 : Int) == 1 && (vs.length - 0) == vs.toArray.size) = true then _ else _) _ _ s₁
    rw [if_pos (by simp)]
    refine wpAny_bind (wpAny_bind (wpAny_typeOf hT.typeIs (wpAny_pure ?_)))
    rw [if_pos (by decide)]
    have hq := h t [] _ (by simpa using hl) (fun _ hp => nomatch hp) S₀
    first
      | exact wpAny_bind (wpAny_rule (wpAny_pure ⟨_, rfl, wpAny_pure hq⟩))
      | exact wpAny_rule (wpAny_pure ⟨_, rfl, wpAny_pure hq⟩)
      | exact wpAny_bind (wpAny_rule (wpAny_bind (wpAny_pure (wpAny_pure ⟨_, rfl, wpAny_pure hq⟩))))
      | exact wpAny_rule (wpAny_bind (wpAny_pure (wpAny_pure ⟨_, rfl, wpAny_pure hq⟩)))
  · have hno : ¬ (((a : Int) == 0 && (1 : Int) == 1 && (b - a) == vs.toArray.size) = true) := by
      rw [hz']
      simp only [Bool.and_eq_true, beq_iff_eq, not_and]
      intro h1 h2
      omega
    show wpAny _ _ (if ((a : Int) == 0 && (1 : Int) == 1 && (b - a) == vs.toArray.size) = true then _ else _) _ _ s₁
    rw [if_neg hno, pick_ab vs a (b - a) (by omega)]
    have hq := h s₁.heap.objs.size [(s₁.heap.objs.size, tupOf ((vs.drop a).take (b - a)))] _ (.n (.head _)) (by simp [cellE]) (S₀.push (tupOf ((vs.drop a).take (b - a))))
    have hsz : sizeOk (.seq ((vs.drop a).take (b - a)).toArray) := by
      show (List.toArray _).size ≤ sizeLine
      rw [List.size_toArray, List.length_take, sizeLine_eq]; omega
    first
      | exact wpAny_bind (m := Builtin.Tuple.tupleExact _) (wpAny_newObj_type (wpAny_pure ⟨_, rfl, wpAny_pure hq⟩) hsz)
      | exact wpAny_bind (m := Builtin.Tuple.tupleExact _) (wpAny_newObj_type (wpAny_bind (wpAny_pure (wpAny_pure ⟨_, rfl, wpAny_pure hq⟩))) hsz)
      | exact wpAny_bind (wpAny_bind (m := Builtin.Tuple.tupleExact _) (wpAny_newObj_type (wpAny_pure (wpAny_pure ⟨_, rfl, wpAny_pure hq⟩)) hsz))
      | exact wpAny_bind (wpAny_bind (m := Builtin.Tuple.tupleExact _) (wpAny_newObj_type (wpAny_pure ⟨_, rfl, wpAny_pure hq⟩) hsz))
theorem r_itemT (S : St o B env l c n s) {value slice : Expr} {t : Addr} {vs : List Value} {k : Int} {u : Tok} {v : Value} {Q : Value → Shared → Prop} (hl : Has B n t (tupOf vs)) (h0 : 0 ≤ k) (hx : vs[k.toNat]? = some v) (hz : vs.length ≤ 1000) (h : Q v s)
    (hs : subscripted slice false (.ref t) (.int k u) = operate [.ref t, .int k u] (getItem (.ref t) (.int k u))) (hg : ∀ r, letTemporaryGo value (.ref t) r = pure ()) :
    wpAny (model prog w) A (subscriptTail value slice (.ref t) (.int k u)) Q E s := by
  have hk : k.toNat < vs.length := by
    by_cases hl : k.toNat < vs.length
    · exact hl
    · rw [List.getElem?_eq_none (Nat.le_of_not_lt hl)] at hx; cases hx
  refine item_tupleL (j := k.toNat) (S.isT hl) (by omega) (by omega) ?_ hx h hs hg
  unfold seqIndex?
  have : ¬ k < 0 := by omega
  simp only [this, if_false]
  rw [if_pos (by simp; omega)]
theorem r_lenT (S : St o B env l c n s) {t : Addr} {vs : List Value} {Q : Value → Shared → Prop} (hl : Has B n t (tupOf vs)) (hz : vs.length ≤ 1000) (h : ∀ t s', St o B env l c n s' → Q (.int vs.length t) s') : wpAny (model prog w) A (call (.builtin "len") [.ref t]) Q E s :=
  PyProof.Rows.len_tuple (S.isT hl) (by simp; omega) (by simpa using h _ _ (S.tok _))
end
end
section
open PySem PySem.W PySem.Calls PyProof.Rows
section
variable {K : Frag} {mg mb : Str → Option Value} {prog : Program} {w : World} {A : Around} {E : Value → Shared → Prop} {o : OsP} {B : Heap} {env : Env} {l l' : Vars} {c c' : Cels} {n n' pre post : Ledg} {s s' : Shared} {R : Result → Shared → Prop}
theorem r_appendV (S : St o B env l c n s) {a : Addr} {vs : List Value} {k : Nat} {v : Value} {Q : Value → Shared → Prop} (hp : Put (a, listOf vs.toArray k) (a, listOf (vs ++ [v]).toArray (k + 1)) n n') (hz : vs.length ≤ 1000000) (h : ∀ s', St o B env l c n' s' → Q .none s') :
    wpAny (model prog w) A (call (.builtin "list.append") [.ref a, v]) Q E s :=
  r_append (vs := vs.toArray) S (by rw [List.push_toArray]; exact hp) (by rw [List.size_toArray, sizeLine_eq]; omega) h
theorem x_eachC {e : Expr} {es : List Expr} {v : Value} {vs : List Value} {Q : Unit → Shared → Prop} (he : assignEach (e :: es) env = (false, assign e env) :: assignEach es env)
    (h : wpAny (model prog w) A (assign e env v) (fun _ s' => wpAny (model prog w) A (assignInOrder ((assignEach es env).map (·.2)) vs) Q E s') E s) : wpAny (model prog w) A (assignInOrder ((assignEach (e :: es) env).map (·.2)) (v :: vs)) Q E s := by
  rw [he]
  exact x_orderC h
theorem x_eachN {Q : Unit → Shared → Prop} (h : Q () s) : wpAny (model prog w) A (assignInOrder ((assignEach [] env).map (·.2)) []) Q E s := x_orderN h
end
end
section
open PySem PySem.W PySem.Calls PyProof.Rows
theorem putAt_self {n : Ledg} {a : Addr} {x : Obj} (hm : (a, x) ∈ n) (ho : (n.map (·.1)).Pairwise (· > ·)) : putAt n a x = n := by
  unfold putAt
  conv => rhs; rw [← List.map_id n]
  refine List.map_congr_left fun q hq => ?_
  split
  · rename_i e
    have : q = (a, x) := by
      induction n with
      | nil => cases hm
      | cons p r ih =>
        rw [List.map_cons, List.pairwise_cons] at ho
        rcases List.mem_cons.mp hq with eq | hq
        · subst eq
          rcases List.mem_cons.mp hm with e' | hm
          · exact e'.symm
          · exact absurd e (Nat.ne_of_gt (ho.1 _ (List.mem_map.mpr ⟨_, hm, rfl⟩)))
        · rcases List.mem_cons.mp hm with e' | hm
          · exact absurd (e.trans (congrArg Prod.fst e')) (Nat.ne_of_lt (ho.1 _ (List.mem_map.mpr ⟨_, hq, rfl⟩)))
          · exact ih hm ho.2 hq
    rw [this]; rfl
  · rfl
theorem mem_same {n : Ledg} {a : Addr} {x y : Obj} (ho : (n.map (·.1)).Pairwise (· > ·)) (h1 : (a, x) ∈ n) (h2 : (a, y) ∈ n) : x = y := by
  induction n with
  | nil => cases h1
  | cons p r ih =>
    rw [List.map_cons, List.pairwise_cons] at ho
    rcases List.mem_cons.mp h1 with e1 | k1
    · rcases List.mem_cons.mp h2 with e2 | k2
      · exact congrArg Prod.snd (e1.trans e2.symm)
      · exact absurd (congrArg Prod.fst e1).symm (Nat.ne_of_gt (ho.1 _ (List.mem_map.mpr ⟨_, k2, rfl⟩)))
    · rcases List.mem_cons.mp h2 with e2 | k2
      · exact absurd (congrArg Prod.fst e2).symm (Nat.ne_of_gt (ho.1 _ (List.mem_map.mpr ⟨_, k1, rfl⟩)))
      · exact ih ho.2 k1 k2
theorem putAt_keepsC {n : Ledg} {a : Addr} {x y : Obj} (hm : (a, x) ∈ n) (hc : cellE x = false) (ho : (n.map (·.1)).Pairwise (· > ·)) : KeepsC n (putAt n a y) := fun q hq hqc => by
  by_cases e : q.1 = a
  · exfalso
    have : q.2 = x := mem_same ho (a := a) (by rw [← e]; exact hq) hm
    rw [this, hc] at hqc; cases hqc
  · exact putAt_keep (x := q.2) hq e
/-- what else stays in a ledger when a record grows -/
theorem putAt_still {n : Ledg} {a b : Addr} {ps ps' : Array Value} {x : Obj} (hm : (a, recOb ps) ∈ n) (ho : (n.map (·.1)).Pairwise (· > ·)) (h : (b, x) ∈ n) (hx : x.cls ≠ .none) : (b, x) ∈ putAt n a (recOb ps') := by
  refine putAt_keep h fun e => ?_
  subst e
  have := mem_same ho h hm
  rw [this] at hx
  exact hx rfl
section
variable {K : Frag} {mg mb : Str → Option Value} {prog : Program} {w : World} {A : Around} {E : Value → Shared → Prop} {o : OsP} {B : Heap} {env : Env} {l l' : Vars} {c c' : Cels} {n n' pre post : Ledg} {s s' : Shared} {R : Result → Shared → Prop}
theorem t_nameG (T : Base K mg mb s.heap) {gn : List Str} (G : EvG env gn ∧ env.globals = mainGlobals ∧ env.builtins = builtinsNs) {x : Str} {pos : Pos} {v : Value} {Q : Value → Shared → Prop} (hx : x ∈ gn) (hv : Gl K x v) (h : Q v s) :
    wpAny (model prog w) A (eval (.Name x pos) env) Q E s := by
  obtain ⟨G, g1, g2⟩ := G
  have e := G.glo x hx
  rcases hv with e' | ⟨e', hb, hn⟩
  · exact Name_function_global G.kf e.1 (loadGlobal_global (env := env) (g1 ▸ T.g) (mg_of T.kin T.g e') h) e.2
  · exact Name_function_global G.kf e.1 (loadGlobal_builtin (env := env) (g1 ▸ T.g) (mg_none_of T.kin T.g e') (g2 ▸ T.b) ((T.bb x hn).trans hb) h) e.2
theorem t_nameL {m : Str → Option Value} {x : Str} {pos : Pos} {v : Value} {Q : Value → Shared → Prop} (kf : env.scope.kind = .function) (hk : env.kindOf x = some .local) (hd : (x == ("__debug__" : Str)) = false) (hn : s.heap.Ns env.locals m) (hm : m x = some v) (h : Q v s) :
    wpAny (model prog w) A (eval (.Name x pos) env) Q E s := wpAny_Name (wpAny_loadName_local kf hk hn hm h) hd
theorem Keeps.refl (s : Shared) : Keeps s s := ⟨s.heap, s.toks, rfl, fun _ _ e => e⟩
theorem Keeps.tok {s s' : Shared} (h : Keeps s s') (t : Nat) : Keeps s { s' with toks := t } := let ⟨h', tk, e, k⟩ := h; ⟨h', t, by rw [e], k⟩
theorem x_callB10 {pos : Pos} {id : String} {a : Value} {Q : Value → Shared → Prop} (h : wpAny (model prog w) A (call (.builtin id) [a]) Q E s) : wpAny (model prog w) A (callWith pos (.builtin id) [a] (backTo pos (starEach [] env)) []) Q E s := by
  refine callWith_builtin (by rfl) ?_
  exact evalArgs_nil3 h
end
end
section
open PySem PySem.W PySem.Calls PyProof.Rows
section
variable {K : Frag} {mg mb : Str → Option Value} {prog : Program} {w : World} {A : Around} {E : Value → Shared → Prop} {o : OsP} {B : Heap} {env : Env} {l l' : Vars} {c c' : Cels} {n n' pre post : Ledg} {s s' : Shared} {R : Result → Shared → Prop}
theorem r_iterListL (S : St o B env l c n s) {a : Addr} {vs : List Value} {k : Nat} {Q : Value → Shared → Prop} (hl : Has B n a (listOf vs.toArray k)) (h : ∀ it ob s', listItP a 0 ob → env.locals < it → a < it → St o B env l c ((it, ob) :: n) s' → Q (.ref it) s') : wpAny (model prog w) A (pyIter (.ref a)) Q E s :=
  wpAny_pyIter_list (S.isList hl) (h _ _ _ ⟨rfl, rfl⟩ S.fr.ns.lt (Heap.lt_size (S.has hl)) (S.push { cls := .type "list_iterator", data := .fields #[.ref a, .int 0 0] }))
theorem r_iterBytesL (S : St o B env l c n s) {b : Array UInt8} {t : Tok} {Q : Value → Shared → Prop} (h : ∀ it ob s', bytItP b t 0 ob → env.locals < it → St o B env l c ((it, ob) :: n) s' → Q (.ref it) s') : wpAny (model prog w) A (pyIter (.bytes b t)) Q E s :=
  KBw.pyIter_bytes (h _ _ _ ⟨rfl, rfl⟩ S.fr.ns.lt (S.push { cls := .type "bytes_iterator", data := .fields #[.bytes b t, .int 0 0] }))
end
end
section
open PySem PySem.W PySem.Calls PyProof.Rows
theorem putAt_cons {n : Ledg} {a : Addr} {p : Addr × Obj} {y : Obj} (h : p.1 ≠ a) : putAt (p :: n) a y = p :: putAt n a y := by
  unfold putAt; rw [List.map_cons, if_neg h]
theorem putAt_app {n : Ledg} {a : Addr} {pre : Ledg} {y : Obj} (h : ∀ p ∈ pre, p.1 ≠ a) : putAt (pre ++ n) a y = pre ++ putAt n a y := by
  induction pre with
  | nil => rfl
  | cons p r ih => rw [List.cons_append, putAt_cons (h p (.head _)), ih fun q hq => h q (.tail _ hq)]; rfl
section
variable {K : Frag} {mg mb : Str → Option Value} {prog : Program} {w : World} {A : Around} {E : Value → Shared → Prop} {o : OsP} {B : Heap} {env : Env} {l l' : Vars} {c c' : Cels} {n n' pre post : Ledg} {s s' : Shared} {R : Result → Shared → Prop}
theorem x_isBytes {b : Array UInt8} {t : Tok} {Q : Value → Shared → Prop} (h : Q (.bool true) s) : wpAny (model prog w) A (call (.builtin "isinstance") [.bytes b t, .type "bytes"]) Q E s :=
  call_isinstance (isinstance_true (Tx := "bytes") F.isi_meta_bytes F.isi_self_bytes) ⟨rfl, h⟩
theorem x_isInt {i : Int} {t : Tok} {Q : Value → Shared → Prop} (h : Q (.bool true) s) : wpAny (model prog w) A (call (.builtin "isinstance") [.int i t, .type "int"]) Q E s :=
  call_isinstance (isinstance_true (Tx := "int") F.isi_meta_int F.sub_int_int) ⟨rfl, h⟩
/-- what stands above a record of the ledger has another address -/
theorem St.aboveP (S : St o B env l c (pre ++ n) s) {a : Addr} {x : Obj} (hm : (a, x) ∈ n) : ∀ p ∈ pre, p.1 ≠ a := fun p hp => by
  have ho := S.ord
  rw [List.map_append, List.pairwise_append] at ho
  exact Nat.ne_of_gt (ho.2.2 p.1 (List.mem_map_of_mem hp) a (List.mem_map.mpr ⟨_, hm, rfl⟩))
end
end
section
open PySem PySem.W PySem.Calls PyProof.Rows
section
variable {K : Frag} {mg mb : Str → Option Value} {prog : Program} {w : World} {A : Around} {E : Value → Shared → Prop} {o : OsP} {B : Heap} {env : Env} {l l' : Vars} {c c' : Cels} {n n' pre post : Ledg} {s s' : Shared} {R : Result → Shared → Prop}
theorem r_max2 (hh : A.handled = none) (S : St o B env l c n s) {a b : Int} {t u : Tok} {Q : Value → Shared → Prop} (h : ∀ t' s', St o B env l c n s' → Q (.int (max a b) t') s') : wpAny (model prog w) A (call (.builtin "max") [.int a t, .int b u]) Q E s := by
  have e : (if b > a then b else a) = max a b := by omega
  exact max_two_N hh S.fr S.nw fun h' tk F N => by rw [e]; exact h _ _ (S.same F N)
theorem r_min2 (hh : A.handled = none) (S : St o B env l c n s) {a b : Int} {t u : Tok} {Q : Value → Shared → Prop} (h : ∀ t' s', St o B env l c n s' → Q (.int (min a b) t') s') : wpAny (model prog w) A (call (.builtin "min") [.int a t, .int b u]) Q E s := by
  have e : (if b < a then b else a) = min a b := by omega
  exact min_two_N hh S.fr S.nw fun h' tk F N => by rw [e]; exact h _ _ (S.same F N)
end
end
section
open PySem PySem.W PySem.Calls PyProof.Rows
section
variable {K : Frag} {mg mb : Str → Option Value} {prog : Program} {w : World} {A : Around} {E : Value → Shared → Prop} {o : OsP} {B : Heap} {env : Env} {l l' : Vars} {c c' : Cels} {n n' pre post : Ledg} {s s' : Shared} {R : Result → Shared → Prop}
theorem St.keepsAll (S : St o B env l c n s) {h' : Heap} {k : Nat} (hk : ∀ b o, s.heap.get? b = some o → h'.get? b = some o) : St o B env l c n { s with heap := h', toks := k } := S.same (S.fr.keeps hk) fun p hp => ⟨hk _ _ (S.nw p hp).1, (S.nw p hp).2⟩
theorem r_bytes (hh : A.handled = none) (S : St o B env l c n s) {a : Addr} {vs : List Value} {k : Nat} {ns : List Int} {Q : Value → Shared → Prop} (hl : Has B n a (listOf vs.toArray k)) (hi : IntsAre vs ns) (hr : ∀ x ∈ ns, 0 ≤ x ∧ x < 256) (hz : ns.length ≤ 100000)
    (h : ∀ b t s', KBw.bInts b = ns → St o B env l c n s' → Q (.bytes b t) s') : wpAny (model prog w) A (call (.type "bytes") [.ref a]) Q E s :=
  KBa.make_K S.fr S.nw hh (S.isList hl) hi hr (by omega) fun h' t' k' F N hin => h _ _ _ (KBa.ints_make hr) (S.same F N)
/-- the number that words stand for, the high ones first -/
def bigN (ns : List Int) : Int := KFB.value ns
theorem grownN {x : Nat} {Q : Value → Shared → Prop} (hx : x < 2 ^ 8000) (h : Q (.int (x : Int) s.toks) { s with toks := s.toks + 1 }) : wpAny (model prog w) A (mkIntGrown (x : Int)) Q E s := by
  unfold mkIntGrown
  have hb : bitsLine = 134217728 := by first | rfl | decide
  rw [if_neg ?_]
  · exact wpAny_mkInt h
  · rw [Int.natAbs_natCast, hb]
    rcases Nat.eq_zero_or_pos x with rfl | hp
    · decide
    · have := (Nat.log2_lt (Nat.ne_of_gt hp)).mpr hx
      omega
theorem from_big {b : Array UInt8} {t u : Tok} {P : Fin → Shared → Prop} (hl : b.size ≤ 1000) (h : P (.done (.ret (.int (bigN (KBw.bInts b)) s.toks))) { s with toks := s.toks + 1 }) :
    wpAny (model prog w) A (Builtin.«int.from_bytes» ⟨[.type "int", .bytes b t, .str (PySem.Str.ofString "big") u], []⟩) P E s := by
  have hv : ((b.toList.foldl (fun (acc : Nat) (b : UInt8) => acc * 256 + b.toNat) 0 : Nat) : Int) = bigN (KBw.bInts b) := KFB.fold_cast b.toList 0
  have hx : b.toList.foldl (fun (acc : Nat) (b : UInt8) => acc * 256 + b.toNat) 0 < 2 ^ 8000 := by
    have h1 := KFB.fold_lt b.toList 0
    rw [Nat.zero_add, Nat.one_mul, Array.length_toList] at h1
    refine Nat.lt_of_lt_of_le h1 ?_
    rw [show (256 : Nat) = 2 ^ 8 from rfl, ← Nat.pow_mul]
    exact Nat.pow_le_pow_right (by decide) (by omega)
  unfold Builtin.«int.from_bytes»
  refine wpAny_bind (wpAny_of_eq (a := true) KFB.type_int (KFB.if_not rfl ?_))
  refine wpAny_bind (wpAny_of_eq (a := true) F.conv_sub_int (KFB.if_not rfl ?_))
  refine wpAny_bind (wpAny_of_eq (a := [some (.bytes b t), some (.str (PySem.Str.ofString "big") u), none]) (by kernel_rfl) ?_)
  refine wpAny_bind (wpAny_of_eq (a := PySem.Str.ofString "big") (by kernel_rfl) (wpAny_bind (wpAny_of_eq (a := false) rfl ?_)))
  refine wpAny_bind (wpAny_of_eq (a := false) (by kernel_rfl) (wpAny_bind (wpAny_of_eq (a := b) rfl ?_)))
  show wpAny _ _ (mkIntGrown (b.toList.foldl (fun (acc : Int) (b : UInt8) => acc * 256 + (b.toNat : Int)) ((0 : Nat) : Int)) >>= fun v => _) _ _ _
  rw [KFB.foldI_eq]
  refine wpAny_bind (grownN hx ?_)
  rw [hv]
  exact KFB.if_so (by decide +kernel) (wpAny_bind (wpAny_pure (wpAny_pure h)))
/-- int.from_bytes, looked up and called -/
theorem r_fromM (S : St o B env l c n s) (T : Base K mg mb B) {pl : Sem Bool} {Q : Value × List Value → Shared → Prop} (e : findCls K (.type "int") (.type "type") (PySem.Str.ofString "from_bytes") = some (.get (.builtin "classmethod_descriptor.__get__") (.builtin "int.from_bytes") .none (.type "int")))
    (h : ∀ x s', St o B env l c ((x, KFB.bound) :: n) s' → Q (.ref x, []) s') : wpAny (model prog w) A (getMethod (.type "int") (PySem.Str.ofString "from_bytes") pl) Q E s :=
  KFB.getm S.fr S.nw T.kin e fun x h' F N hx => h x _ (S.put1 F N hx)
theorem x_callFB {pos : Pos} {x : Addr} {e : Expr} {rest : List Expr} {Q : Value → Shared → Prop} (S : St o B env l c n s) (hx : (x, KFB.bound) ∈ n)
    (he : starEach (e :: rest) env = (false, eval e env) :: starEach rest env) (hplain : (backTo pos (starEach rest env)).any (·.1) = false)
    (h : wpAny (model prog w) A (spliced (backTo pos (starEach (e :: rest) env))) (fun vs s₁ => KFB.StandsAt x s₁.heap ∧ wpAny (model prog w) A (call (.ref x) vs) Q E s₁) E s) :
    wpAny (model prog w) A (callWith pos (.ref x) [] (backTo pos (starEach (e :: rest) env)) []) Q E s := KFB.callWith_bound S.nw hx h he hplain
theorem r_stands (S : St o B env l c n s) {x : Addr} {P : Prop} (hx : (x, KFB.bound) ∈ n) (h : P) : KFB.StandsAt x s.heap ∧ P := ⟨KFB.at_of S.nw hx, h⟩
theorem r_from (S : St o B env l c n s) {x : Addr} {b : Array UInt8} {t u : Tok} {ks : List Int} {Q : Value → Shared → Prop} (hx : (x, KFB.bound) ∈ n) (hb : KBw.bInts b = ks) (hz : ks.length ≤ 1000) (h : ∀ t' s', St o B env l c n s' → Q (.int (bigN ks) t') s') :
    wpAny (model prog w) A (call (.ref x) [.bytes b t, .str (PySem.Str.ofString "big") u]) Q E s := by
  subst hb
  exact KFB.call_of (KFB.at_of S.nw hx) (fun z => from_big (by rw [← KBw.ints_length]; exact hz) z) (h _ _ (S.tok _))
end
end
section
open PySem PySem.W PySem.Calls PyProof.Rows
/-- a change of an entry far down -/
theorem KeepsC.of_put {n n' : Ledg} {a : Addr} {x y : Obj} (h : Put (a, x) (a, y) n n') (e : cellE x = false) : KeepsC n n' := by
  induction h with
  | head => exact .change e .refl
  | tail _ ih => exact ih.cons
section
variable {K : Frag} {mg mb : Str → Option Value} {prog : Program} {w : World} {A : Around} {E : Value → Shared → Prop} {o : OsP} {B : Heap} {env : Env} {l l' : Vars} {c c' : Cels} {n n' pre post : Ledg} {s s' : Shared} {R : Result → Shared → Prop}
theorem St.regroup {hi rest : Ledg} (pre : Ledg) (S : St o B env l c (pre ++ (hi ++ rest)) s) : ∃ hi2, (∀ p ∈ hi, p ∈ hi2) ∧ St o B env l c (hi2 ++ rest) s :=
  ⟨pre ++ hi, fun p hp => List.mem_append_right _ hp, by rw [List.append_assoc]; exact S⟩
theorem bits7 : Builtin.Int.intBits 7 = 3 := by decide
theorem r_pow7 (S : St o B env l c n s) {b : Nat} {t u : Tok} {Q : Value → Shared → Prop} (hb : b ≤ 1000) (h : ∀ t s', St o B env l c n s' → Q (.int ((7 ^ b : Nat) : Int) t) s') : wpAny (model prog w) A (binaryOp .Pow (.int 7 t) (.int b u)) Q E s := by
  rcases Nat.eq_zero_or_pos b with rfl | hp
  · exact AutoIntOps.pow_0 (by decide) (by decide) (h _ _ (S.tok _))
  · have e : (7 : Int) ^ ((b : Nat) : Int).toNat = ((7 ^ b : Nat) : Int) := by rw [Int.toNat_natCast]; push_cast; rfl
    refine AutoIntOps.pow_4 (by omega) (by simp; omega) (by decide) (by decide) ?_ ?_
    · rw [bits7]
      unfold Builtin.Int.intTooBig
      have hb' : bitsLine = 134217728 := by first | rfl | decide
      simp only [hb', decide_eq_true_eq]
      omega
    · rw [e]
      exact h _ _ (S.tok _)
theorem r_strItem (S : St o B env l c n s) {value slice : Expr} {x : Str} {t u : Tok} {i : Int} {ch : Nat} {Q : Value → Shared → Prop} (hs : subscripted slice false (.str x t) (.int i u) = operate [.str x t, .int i u] (getItem (.str x t) (.int i u)))
    (h0 : 0 ≤ i) (h1 : i < 100000) (hc : x.cps[i.toNat]? = some ch) (h : ∀ t s', St o B env l c n s' → Q (.str ⟨#[ch]⟩ t) s') : wpAny (model prog w) A (subscriptTail value slice (.str x t) (.int i u)) Q E s := by
  have hlt : i.toNat < x.cps.size := by
    by_cases hl : i.toNat < x.cps.size
    · exact hl
    · rw [Array.getElem?_eq_none (Nat.le_of_not_lt hl)] at hc; cases hc
  refine tail_any (typeIs_str _ _ _) PySem.F.slot_str_getitem.lookup (PySem.P.getItem_str (c := ch) ?_ ?_ (h _ _ (S.tok _))) hs
  · simp; omega
  · have : seqIndex? i x.length = some i.toNat := by
      unfold seqIndex?
      have h3 : ¬ i < 0 := by omega
      simp only [h3, if_false]
      rw [if_pos]
      have hx : (i : Int) < ((x.length : Nat) : Int) := by show i < ((x.cps.size : Nat) : Int); omega
      simp only [Bool.and_eq_true, decide_eq_true_eq]
      exact ⟨h0, hx⟩
    rw [this]
    exact hc
theorem r_ord (S : St o B env l c n s) {ch : Nat} {t : Tok} {Q : Value → Shared → Prop} (h : ∀ t s', St o B env l c n s' → Q (.int ch t) s') : wpAny (model prog w) A (call (.builtin "ord") [.str ⟨#[ch]⟩ t]) Q E s := PySem.P.ord_of_char (h _ _ (S.tok _))
end
end
section
open PySem PySem.W PySem.Calls PyProof.Rows
section
variable {K : Frag} {mg mb : Str → Option Value} {prog : Program} {w : World} {A : Around} {E : Value → Shared → Prop} {o : OsP} {B : Heap} {env : Env} {l l' : Vars} {c c' : Cels} {n n' pre post : Ledg} {s s' : Shared} {R : Result → Shared → Prop}
theorem St.regroup2 {hi rest : Ledg} (pre : Ledg) (S : St o B env l c (pre ++ (hi ++ rest)) s) : ∃ hi2, (∀ p ∈ pre, p ∈ hi2) ∧ (∀ p ∈ hi, p ∈ hi2) ∧ St o B env l c (hi2 ++ rest) s :=
  ⟨pre ++ hi, fun p hp => List.mem_append_left _ hp, fun p hp => List.mem_append_right _ hp, by rw [List.append_assoc]; exact S⟩
theorem r_powN (S : St o B env l c n s) {a b : Nat} {t u : Tok} {Q : Value → Shared → Prop} (ha : 2 ≤ a) (ha' : a ≤ 256) (hb : b ≤ 1000) (h : ∀ t s', St o B env l c n s' → Q (.int ((a ^ b : Nat) : Int) t) s') : wpAny (model prog w) A (binaryOp .Pow (.int a t) (.int b u)) Q E s := by
  rcases Nat.eq_zero_or_pos b with rfl | hp
  · exact AutoIntOps.pow_0 (by decide) (by decide) (h _ _ (S.tok _))
  · have e : (a : Int) ^ ((b : Nat) : Int).toNat = ((a ^ b : Nat) : Int) := by rw [Int.toNat_natCast]; push_cast; first | done | rfl
    refine AutoIntOps.pow_4 (by omega) (by simp; omega) (by simp <;> omega) (by simp <;> omega) ?_ ?_
    · have hbits : Builtin.Int.intBits a ≤ 9 := by
        unfold Builtin.Int.intBits
        split
        · omega
        · have : (a : Int).natAbs.log2 < 9 := by rw [Int.natAbs_natCast]; exact (Nat.log2_lt (by omega)).mpr (by omega)
          omega
      unfold Builtin.Int.intTooBig
      have hb' : bitsLine = 134217728 := by first | rfl | decide
      simp only [hb', decide_eq_true_eq]
      have h1 : ((Builtin.Int.intBits a : Nat) : Int) * (b : Int) ≤ 9 * 1000 := Int.mul_le_mul (by omega) (by omega) (by omega) (by omega)
      omega
    · rw [e]
      exact h _ _ (S.tok _)
end
end
section
open PySem PySem.W PySem.Calls PyProof.Rows
section
variable {K : Frag} {mg mb : Str → Option Value} {prog : Program} {w : World} {A : Around} {E : Value → Shared → Prop} {o : OsP} {B : Heap} {env : Env} {l l' : Vars} {c c' : Cels} {n n' pre post : Ledg} {s s' : Shared} {R : Result → Shared → Prop}
/-- enter a def; what comes after it is told of the outcome alone -/
theorem fn_callZ {f : Addr} {oc : Value} {od : Option Addr} {osl : Array (Option Value)} {fd : FuncData} {body : List Stmt} {args : Args} {binds : List (Str × Value)} {ln cn : List Str}
    (S : St o B env l c n s) (T : Base K mg mb B) (hroom : A.depth < recursionLimit)
    (ho : K.lookup f = some ⟨oc, od, .func fd, osl⟩) (hcd : codeIn K fd.code fd.qualname = true) (hbody : fd.body = .stmts body) (hok : fnOk fd (binds.map (·.1)) ln cn = true)
    (hbind : BindsTo s fd args binds)
    (hl : locsOf ln binds = l')
    (h : ∀ g L' cls s', CellsIn (celsOf fd L' binds) cls → St o g (envF fd L' f) l' (celsOf fd L' binds) (cls ++ n) s' → Base K mg mb g → (∀ b ob, B.get? b = some ob → g.get? b = some ob) → g = hideAll s.heap (n.map (·.1)) →
      wpAny (model prog w) (A.deeper (envF fd L' f)) (execs body (envF fd L' f)) (fun fl s'' => R (.ok (.ret (match fl with | .ret v => v | _ => .none))) s'')
        (fun e s' => wpAny (model prog w) (A.deeper (envF fd L' f)) (leaving (envF fd L' f) e) (fun _ s'' => R (.error e) s'') (fun e' s'' => R (.error e') s'') s') s') :
    codeAny (model prog w) A (.call (.ref f) args) R s := by
  simp only [fnOk, Bool.and_eq_true, Bool.not_eq_true', beq_iff_eq, decide_eq_true_eq, List.all_eq_true, Bool.or_eq_true, List.contains_iff_mem, List.isEmpty_iff] at hok
  obtain ⟨⟨⟨⟨⟨⟨⟨⟨⟨k1, k2⟩, k3⟩, k4⟩, k5⟩, k6⟩, k7⟩, k8⟩, k9⟩, k10⟩ := hok
  obtain ⟨st, _⟩ := S.ghost (R := R) T
  have X := T.kin.keeps S.fr.keep
  have ev := Ev.of (env := envF fd s.heap.objs.size f) k1
  have hk := evOk_kind k1
  have names : (cellsFrom (s.heap.objs.size + 1) fd.scope.names []).map (·.1) = cn := (cellsFrom_names fd.scope.names 0 (s.heap.objs.size + 1) [] [] rfl) ▸ k6
  refine codeAny_call_function hroom (X _ _ ho) rfl k3 k4 hbody (codeRec_of X hcd) (hbind _ _ _ _ ?_)
  rw [k2]
  refine wpAny_newFunctionEnv_cells hk (fun x hx => ?_) fun env' he s' x => ?_
  · rcases k8 x.1 (List.mem_map.mpr ⟨x, hx, rfl⟩) with q | q
    · exact .inl (ev.loc _ q).1
    · right
      have hin := q
      rw [← names] at hin
      obtain ⟨p, hp, e⟩ := List.mem_map.mp hin
      have : ((cellsFrom (s.heap.objs.size + 1) fd.scope.names []).lookup x.1).isSome = true := by
        rw [lookup_mem (v := p.2) (by rw [names]; exact k7) (by rw [← e]; exact hp)]; rfl
      exact ⟨k9 _ q, this⟩
  · subst he
    refine ⟨T.nolim.keeps fun b ob e => x.toInCall.keep _ _ (S.fr.keep _ _ e), codeAny_func ?_⟩
    obtain ⟨h₁, tk, rfl, hk₁⟩ := x.done
    have kd : ∀ y, (envF fd s.heap.objs.size f).kindOf y = fd.scope.names.lookup y := fun _ => rfl
    have small : ∀ p ∈ n, p.1 < s.heap.objs.size := fun p hp => Heap.lt_size (S.nw p hp).1
    have new : ∀ a, s.heap.objs.size ≤ a → (hideAll s.heap (n.map (·.1))).get? a = none := fun a ha => by
      cases q : (hideAll s.heap (n.map (·.1))).get? a with
      | none => rfl
      | some ob => exact absurd (Heap.lt_size (of_hideAll _ q)) (Nat.not_lt.mpr ha)
    have cellsAt : ∀ p ∈ cellsFrom (s.heap.objs.size + 1) fd.scope.names [], (cellsFrom (s.heap.objs.size + 1) fd.scope.names []).lookup p.1 = some p.2 := fun p hp => lookup_mem (by rw [names]; exact k7) hp
    have cellNow : ∀ q ∈ cellsFrom (s.heap.objs.size + 1) fd.scope.names [], h₁.IsCell q.2 (binds.lookup q.1) := fun q hq => by
      have h1 := x.cell q.1 q.2 (cellsAt q hq)
      have hqn : q.1 ∈ cn := by rw [← names]; exact List.mem_map_of_mem hq
      have e : bindC (envF fd s.heap.objs.size f).kindOf binds (fun _ => none) q.1 = binds.lookup q.1 := by
        rw [bindC_eq k5, kd, if_neg (by rw [k9 _ hqn]; exact fun z => by cases z), Option.or_none]
      exact e ▸ h1
    have made : ∀ cl : List (Str × Addr), (∀ q ∈ cl, h₁.IsCell q.2 (binds.lookup q.1)) → ∃ cls, CellsIn (cl.map fun p => (p.1, p.2, binds.lookup p.1)) cls ∧ ∀ p ∈ cls, h₁.get? p.1 = some p.2 := by
      intro cl
      induction cl with
      | nil => exact fun _ => ⟨[], .nil, fun _ hp => (nomatch hp)⟩
      | cons q r ih =>
        intro hq
        obtain ⟨cls, a, b⟩ := ih fun q' hq' => hq q' (.tail _ hq')
        obtain ⟨ob, c1, c2⟩ := hq q (.head _)
        refine ⟨(q.2, ob) :: cls, .cons c2 a, fun p hp => ?_⟩
        rcases List.mem_cons.mp hp with rfl | hp
        · exact c1
        · exact b p hp
    obtain ⟨cls, X1, X2⟩ := made _ cellNow
    have adr := X1.adr
    have adr' : cls.map (·.1) = (cellsFrom (s.heap.objs.size + 1) fd.scope.names []).map (·.2) := by rw [adr, List.map_map]; rfl
    have inCl : ∀ p ∈ cls, ∃ q ∈ cellsFrom (s.heap.objs.size + 1) fd.scope.names [], q.2 = p.1 := fun p hp => by
      have := List.mem_map_of_mem (f := (·.1)) hp
      rw [adr'] at this
      exact List.mem_map.mp this
    have S' : St o (hideAll s.heap (n.map (·.1))) (envF fd s.heap.objs.size f) l' (celsOf fd s.heap.objs.size binds) (cls ++ n) { s with heap := h₁, toks := tk } := by
      rw [← hl]
      refine ⟨⟨?_, fun b ob e => hk₁ b ob (of_hideAll _ e), Nat.le_of_eq (hideAll_size _ _)⟩, fun p hp => ?_, ?_, fun p hp => ?_, ?_, ?_, S.os⟩
      · have e : bindL (envF fd s.heap.objs.size f).kindOf binds (fun _ => none) = lk (locsOf ln binds) := by
          funext y
          rw [bindL_eq k5, locsOf, lk_map, kd, Option.or_none]
          by_cases hy : y ∈ ln
          · rw [if_pos hy, if_pos (show List.lookup y fd.scope.names = some NameKind.local from (ev.loc _ hy).1)]
          · rw [if_neg hy]
            split
            · rename_i hky
              refine lookup_none fun hb => ?_
              rcases k8 y hb with q | q
              · exact hy q
              · have := k9 y q; rw [hky] at this; cases this
            · rfl
        have := x.toInCall.ns
        rw [← e]; exact this
      · rcases List.mem_append.mp hp with hp | hp
        · obtain ⟨q, hq, e⟩ := inCl p hp
          have ab := x.above q.1 q.2 hq
          rw [e] at ab
          exact ⟨X2 p hp, Nat.ne_of_gt ab, new _ (Nat.le_of_lt ab)⟩
        · exact ⟨hk₁ _ _ (S.nw p hp).1, Nat.ne_of_lt (small p hp), hideAll_none _ (List.mem_map_of_mem hp)⟩
      · rw [List.map_append, List.pairwise_append]
        refine ⟨?_, S.ord, fun a ha b hb => ?_⟩
        · rw [adr']; exact cells_desc _ _
        · obtain ⟨p, hp, rfl⟩ := List.mem_map.mp ha
          obtain ⟨p', hp', rfl⟩ := List.mem_map.mp hb
          obtain ⟨q, hq, e⟩ := inCl p hp
          have ab := x.above q.1 q.2 hq
          rw [e] at ab
          exact Nat.lt_trans (small p' hp') ab
      · obtain ⟨ob, a, b⟩ := X1.mem p hp
        refine ⟨?_, ob, List.mem_append.mpr (.inl a), b⟩
        obtain ⟨q, hq, rfl⟩ := List.mem_map.mp hp
        exact cellsAt q hq
      · have e : (celsOf fd s.heap.objs.size binds).map (·.2.1) = (cellsFrom (s.heap.objs.size + 1) fd.scope.names []).map (·.2) := by
          unfold celsOf; rw [List.map_map]; rfl
        rw [e]
        exact (List.pairwise_map.mpr x.apart)
      · have e1 : (locsOf ln binds).map (·.1) = ln := by unfold locsOf; rw [List.map_map]; exact List.map_id'' (fun _ => rfl) _
        have e2 : (celsOf fd s.heap.objs.size binds).map (·.1) = cn := by unfold celsOf; rw [List.map_map]; exact names
        rw [e1, e2]; exact ev
    exact h _ _ cls _ X1 S' (T.keeps st) st rfl


/-- the stack below a call -/
theorem below_ghost {A₀ : Around} {base : Heap} {outer : List Env} (K₀ : Below A₀ base outer B) (S : St o B env l c n s) (hk : env.scope.kind = .function) (hf : env.frame = some env.locals) :
    Below (A₀.deeper env) base (env :: outer) (hideAll s.heap (n.map (·.1))) := by
  have nm : ∀ b ob, B.get? b = some ob → b ∉ n.map (·.1) := fun b ob e q => by
    obtain ⟨p, hp, rfl⟩ := List.mem_map.mp q
    rw [(S.nw p hp).2.2] at e; cases e
  have st : ∀ b ob, B.get? b = some ob → (hideAll s.heap (n.map (·.1))).get? b = some ob := fun b ob e => hideAll_get _ (S.fr.keep b ob e) (nm b ob e)
  have hnew : base.get? env.locals = none := by
    cases hq : base.get? env.locals with
    | none => rfl
    | some o => exact absurd (Nat.lt_of_lt_of_le (Heap.lt_size (K₀.stays _ o hq)) S.fr.above) (Nat.lt_irrefl _)
  have nL : env.locals ∉ n.map (·.1) := fun q => by
    obtain ⟨p, hp, e⟩ := List.mem_map.mp q
    exact (S.nw p hp).2.1 e
  obtain ⟨oL, es, ep, hL, hLd, hLk, hLf⟩ := S.fr.ns
  refine ⟨Around.frames_deeper K₀.stack, fun b o e => st b o (K₀.stays b o e), ?_, ⟨env.locals, oL, hf, hnew, hideAll_get _ hL nL, fun vs q => ?_⟩, K₀.frames.of_keeps fun b o e _ => ⟨o, st b o e, rfl⟩⟩
  · rw [hk]; decide
  · rw [hLd] at q; cases q
end
end
section
open PySem PySem.W PySem.Calls PyProof.Rows PySem.Spec
section
variable {K : Frag} {mg mb : Str → Option Value} {B : Heap}
def keyStrs (es : Array DictEntry) : List Str := es.toList.filterMap fun e => match e.key with | .str n _ => some n | _ => none
theorem topRead_ofB (T : Base K mg mb B) (p : Program) : ∃ loose, TopRead p loose mg mb B := by
  obtain ⟨o, es, ep, ho, hd, hk, hf⟩ := T.g
  refine ⟨keyStrs es, T.g, T.b, T.nolim, T.bb, fun x _ hx _ _ _ => ?_⟩
  rw [← hf]
  unfold nsFind findBy
  have : es.find? (fun e => e.key.isStr x) = none := by
    rw [Array.find?_eq_none]
    intro e he
    obtain ⟨n, t, q⟩ := hk e he
    intro hq
    refine hx (List.mem_filterMap.mpr ⟨e, Array.mem_toList_iff.mpr he, ?_⟩)
    rw [q] at hq ⊢
    have : n = x := by simpa [Value.isStr] using hq
    rw [this]
  rw [this]
  rfl
end
section
variable {prog : Program} {w : World} {A : Around} {E : Value → Shared → Prop} {s : Shared} {env : Env}
/-- a text of an f-string, its length bounded -/
theorem jp_c {x out : Str} {k N M : Nat} {pos : Pos} {rest : List (Sem Value)} {Q : Value → Shared → Prop} (hN : out.length ≤ N) (hx : x.length ≤ M) (hM : N + M ≤ 10000)
    (h : ∀ (out' : Str) tk, out'.length ≤ N + M → wpAny (model prog w) A (joinParts out' rest) Q E { s with toks := tk }) :
    wpAny (model prog w) A (joinParts out (eval (.Constant (.str x) k pos) env :: rest)) Q E s := by
  refine joinParts_cons (wpAny_Constant_str ?_)
  have e : (out ++ x).length ≤ N + M := by rw [strLen_append]; omega
  exact ⟨Nat.le_trans e (Nat.le_trans hM (by decide)), h _ _ e⟩
/-- the text of a number in an f-string -/
theorem jp_s {value : Expr} {out : Str} {N : Nat} {pos : Pos} {rest : List (Sem Value)} {Q : Value → Shared → Prop} (hN : out.length ≤ N) (hM : N + 10 ≤ 10000)
    (h : wpAny (model prog w) A (eval value env) (fun v s₁ => ∃ (a : Int) (t : Tok), v = .int a t ∧ 0 ≤ a ∧ a < 10 ^ 10 ∧ ∀ (out' : Str) tk, out'.length ≤ N + 10 → wpAny (model prog w) A (joinParts out' rest) Q E { s₁ with toks := tk }) E s) :
    wpAny (model prog w) A (joinParts out (eval (.FormattedValue value 115 none pos) env :: rest)) Q E s := by
  refine joinParts_cons (wpAny_FormattedValue_s (wpAny_mono h (fun v s₁ h₁ => ?_) fun _ _ y => y))
  obtain ⟨a, t, rfl, h0, h1, hk⟩ := h₁
  have hl := toString_length_le h0 (k := 10) (by decide) h1
  have e : (out ++ Str.ofString (toString a)).length ≤ N + 10 := by rw [strLen_append]; omega
  have hz : (out ++ Str.ofString (toString a)).length ≤ sizeLine := Nat.le_trans e (Nat.le_trans hM (by decide))
  have hlog : a.natAbs.log2 < 1920 := by
    have h2 : a.natAbs < 2 ^ 1920 := by
      have : a.natAbs < 10 ^ 10 := by omega
      exact Nat.lt_of_lt_of_le this (by decide +kernel)
    rcases Nat.eq_zero_or_pos a.natAbs with q | q
    · rw [q]; decide
    · exact (Nat.log2_lt (by omega)).mpr h2
  show wpAny (model prog w) A (pyStrObj (.int a t)) _ E s₁
  refine pyStrObj_int hlog ?_
  exact formatField_str (fun t' tk => ⟨hz, hk _ _ e⟩) (Nat.le_trans hl (by decide))
theorem jp_nil {out : Str} {Q : Value → Shared → Prop} (hN : out.length ≤ 10000) (h : ∀ t tk, Q (.str out t) { s with toks := tk }) : wpAny (model prog w) A (joinParts out []) Q E s :=
  joinParts_nil (h _ _) (Nat.le_trans hN (by decide))
end
end
section
open PySem PySem.W PySem.Calls PyProof.Rows PySem.Spec
section
variable {prog : Program} {w : World} {A₀ : Around} {E : Value → Shared → Prop} {s' : Shared} {b h : Heap} {outer : List Env} {L a e t : Addr} {m : Str → Option Value} {name : Str} {scope : Scope} {cd : Value}
  {vs : List Value} {b₀ : Stmt} {suite : List Stmt} {pos np : Pos} {rest : List ExceptHandler} {Q : Flow → Shared → Prop} {news : Ledg} {KF : Frag} {C : Addr} {bmB : List Value} {newId : String}
  {loose : List Str} {mg mb : Str → Option Value} {x : Str}
/-- an exception of a class of the text's own is caught by that class, in a frame that is not the outermost -/
theorem catch_own (hst : A₀.frames = some outer) (F : Fr b L h m) (hsm : h.UpToSlots s'.heap) (R : RaisedK b (envOf name scope L a cd :: outer) e (.ref C) t vs news s'.heap)
    (X : KF.In b) (T : TopRead prog loose mg mb b) (ex : nsIn KF mainGlobals x = some (some (.ref C))) (q : excIn KF C bmB newId = true) (hbase : bmB.contains (.type "BaseException") = true)
    (hk : scope.kind = .function) (hx : (envOf name scope L a cd).kindOf x = some .globalImplicit) (hd : (x == ("__debug__" : Str)) = false)
    (k : ∀ h', b.StaysIn h' → h.UpToSlots h' → (∀ q ∈ news, h'.get? q.1 = some q.2 ∧ b.get? q.1 = none) →
      wpAny (model prog w) ((A₀.deeper (envOf name scope L a cd)).mark (some (.ref e))) (execs (b₀ :: suite) (envOf name scope L a cd)) Q (fun _ _ => False) { s' with heap := h' }) :
    wpAny (model prog w) (A₀.deeper (envOf name scope L a cd)) (noteFrame (.ref e) (envOf name scope L a cd))
      (fun _ s₂ => wpAny (model prog w) (A₀.deeper (envOf name scope L a cd)) (setFlight (.ref e) none) (fun _ s₃ =>
        wpAny (model prog w) (A₀.deeper (envOf name scope L a cd)) (handleBy (.ref e) (envOf name scope L a cd) (.ExceptHandler (some (.Name x np)) none (b₀ :: suite) pos :: rest)) Q (fun _ _ => False) s₃) (fun _ _ => False) s₂) (fun _ _ => False) s' := by
  obtain ⟨⟨B', hB, hl, hfl, _⟩, _⟩ := R
  refine wpAny_looks_onW (Around.frames_deeper hst) rfl hfl fun h₁ hheld up₁ => ?_
  refine wpAny_landsW hheld fun h₂ hfl₂ up₂ => ?_
  have up := hsm.trans (up₁.trans up₂)
  have low := flyingW_base hB hfl₂
  have F₂ := F.of_stays low.1 up
  obtain ⟨ob, hob, hobc⟩ := low.there
  refine wpAny_handleBy_cons (codeAny_handlers_test (name_K F₂ X T ex ?_ hk hx hd)) (by intro z; cases z)
  obtain ⟨_, _, _, _, _, _, _, _, _, _, _, _, _, _, _, _, _, hC, _, _, TL⟩ := ((own_of_in X T ex q).keeps F₂.keep).obj
  refine wpAny_excMatches_sub_self hC hob hobc (TL.hasType hbase) (codeAny_handlers_suite ?_)
  refine lands_againW hfl₂ fun h₃ hfl₃ up₃ => ?_
  exact wpAny_passesOwnAt (PassesOwnAt.never) (k h₃ (flyingW_base hB hfl₃).1 (up.trans up₃) fun q hq => ⟨hfl₃.1 _ _ (hl q hq).1, (hl q hq).2⟩)
end
section
variable {K : Frag} {mg mb : Str → Option Value} {prog : Program} {w : World} {A : Around} {E : Value → Shared → Prop} {o : OsP} {B g : Heap} {env env' : Env} {l l' : Vars} {c c' : Cels} {n n' pre post : Ledg} {s s' : Shared} {R : Result → Shared → Prop}
/-- the frame's own dict, the ledger hidden -/
theorem St.nsHid (S : St o B env l c n s) : (hideAll s.heap (n.map (·.1))).Ns env.locals (lk l) := by
  obtain ⟨oL, es, ep, hL, hLd, hLk, hLf⟩ := S.fr.ns
  refine ⟨oL, es, ep, hideAll_get _ hL fun q => ?_, hLd, hLk, hLf⟩
  obtain ⟨p, hp, e⟩ := List.mem_map.mp q
  exact (S.nw p hp).2.1 e
theorem St.stayHid (S : St o B env l c n s) : B.StaysIn (hideAll s.heap (n.map (·.1))) := fun b ob e => hideAll_get _ (S.fr.keep b ob e) fun q => by
  obtain ⟨p, hp, rfl⟩ := List.mem_map.mp q
  rw [(S.nw p hp).2.2] at e; cases e
/-- the caller's state behind an exception that was caught in its callee -/
theorem St.caught (S : St o B env l c n s) {h' : Heap} (hst : B.StaysIn h') (hns : h'.Ns env.locals (lk l)) (hnw : ∀ q ∈ n', h'.get? q.1 = some q.2 ∧ B.get? q.1 = none) (hadr : n'.map (·.1) = n.map (·.1)) (hkc : KeepsC n n') (hos : o s'.os s'.gens s'.drawn) :
    St o B env l c n' { s' with heap := h' } := by
  refine ⟨⟨hns, hst, S.fr.above⟩, fun p hp => ⟨(hnw p hp).1, ?_, (hnw p hp).2⟩, by rw [hadr]; exact S.ord, fun p hp => ?_, S.cnd, S.ev, hos⟩
  · have : p.1 ∈ n.map (·.1) := by rw [← hadr]; exact List.mem_map_of_mem hp
    obtain ⟨q, hq, e⟩ := List.mem_map.mp this
    rw [← e]
    exact (S.nw q hq).2.1
  · obtain ⟨c1, ob, hm, hd⟩ := S.cel p hp
    exact ⟨c1, ob, hkc _ hm (by show cellE ob = true; unfold cellE; rw [hd]), hd⟩
end
end
section
open PySem PySem.W PySem.Calls PyProof.Rows PySem.Spec PySem.SeqAt
theorem contains_range (r : Addr) (a b c : Int) (t u v : Tok) (x : Int) (tx : Tok) :
    Meets (Builtin.«range.__contains__» ⟨[.ref r, .int x tx], []⟩) (fun _ R s => s.heap.get? r = some { cls := .type "range", dict := none, data := .fields #[.int a t, .int b u, .int c v], slots := #[] } ∧ R (.ok (.ret (.bool (Builtin.Range.rangePlace? a b c x).isSome))) s) :=
  .of_wp fun prog w A R s h => by obtain ⟨hp, g, d, tk, os⟩ := s; obtain ⟨hl, h⟩ := h; wp_walk; exact ⟨_, rfl, h⟩
section
variable {K : Frag} {mg mb : Str → Option Value} {prog : Program} {w : World} {A : Around} {E : Value → Shared → Prop} {o : OsP} {B : Heap} {env : Env} {l l' : Vars} {c c' : Cels} {n n' pre post : Ledg} {s s' : Shared} {R : Result → Shared → Prop}
theorem r_notInRange (S : St o B env l c n s) {r : Addr} {b x : Int} {t u v tx : Tok} {Q : Value → Shared → Prop} (hm : Has B n r (rangeOb 0 b 1 t u v)) (h : Q (.bool (!decide (0 ≤ x ∧ x < b))) s) : wpAny (model prog w) A (compareOp .NotIn (.int x tx) (.ref r)) Q E s := by
  have hg := S.has hm
  refine SeqRoads2.notIn_meets ⟨_, hg, rfl⟩ PySem.F.slot_range_contains PySem.F.entry_range_contains (PySem.F.args_range_contains_2 _ _) (contains_range r 0 b 1 t u v x tx) ⟨hg, _, rfl, ?_⟩
  have e : (Builtin.Range.rangePlace? 0 b 1 x).isSome = decide (0 ≤ x ∧ x < b) := by
    unfold Builtin.Range.rangePlace?
    by_cases h1 : 0 ≤ x <;> by_cases h2 : x < b <;> simp [h1, h2, Int.emod_one]
  rw [e]; exact h
/-- a statement, and what is so behind it -/
theorem x_cut {a : Stmt} {rest : List Stmt} {Q : Flow → Shared → Prop} (J : Shared → Prop) (h1 : wpAny (model prog w) A (exec a env) (fun fl s' => fl = .next ∧ J s') (fun _ _ => False) s) (h2 : ∀ s', J s' → wpAny (model prog w) A (execs rest env) Q E s') :
    wpAny (model prog w) A (execs (a :: rest) env) Q E s :=
  x_cons (wpAny_mono h1 (fun fl s' ⟨e, j⟩ => by subst e; exact x_next (h2 s' j)) fun _ _ x => x.elim)
theorem x_asgLst (hh : A.handled = none) (S : St o B env l c n s) {elts : List Expr} {k j : Nat} {tpos : Pos} {a : Addr} {vs : List Value} {Q : Unit → Shared → Prop} (hl : Has B n a (listOf vs.toArray j))
    (hn : (assignEach elts env).length = vs.length) (hstar : (assignEach elts env).findIdx? (·.1) = none)
    (h : ∀ s', St o B env l c n s' → wpAny (model prog w) A (assignInOrder ((assignEach elts env).map (·.2)) vs) Q E s') : wpAny (model prog w) A (assign (.Tuple elts k tpos) env (.ref a)) Q E s :=
  kun_list S.fr S.nw (S.isList hl) hh (by simpa using hn) hstar fun h' F N => by simpa using h _ (S.same (k := s.toks) F N)
theorem r_sumInts (hh : A.handled = none) (S : St o B env l c n s) {a : Addr} {vs : List Value} {k : Nat} {ns : List Int} {Q : Value → Shared → Prop} (hl : Has B n a (listOf vs.toArray k)) (hi : IntsAre vs ns)
    (h : ∀ t s', St o B env l c n s' → Q (.int ns.sum t) s') : wpAny (model prog w) A (call (.builtin "sum") [.ref a]) Q E s :=
  LSm.sum_ints S.fr S.nw hh (S.isList hl) hi fun h' tk t' F N => h t' _ (S.same F N)
theorem r_eqInts (S : St o B env l c n s) {a b : Addr} {vs ws : List Value} {k j : Nat} {ns ms : List Int} {Q : Value → Shared → Prop} (ha : Has B n a (listOf vs.toArray k)) (hb : Has B n b (listOf ws.toArray j)) (hi : IntsAre vs ns) (hj : IntsAre ws ms) (hu : A.units + 64 < cLine)
    (h : Q (.bool (decide (ns = ms))) s) : wpAny (model prog w) A (compareOp .Eq (.ref a) (.ref b)) Q E s := ke_eq_ints (S.isList ha) (S.isList hb) hi hj hu h
theorem r_neInts (S : St o B env l c n s) {a b : Addr} {vs ws : List Value} {k j : Nat} {ns ms : List Int} {Q : Value → Shared → Prop} (ha : Has B n a (listOf vs.toArray k)) (hb : Has B n b (listOf ws.toArray j)) (hi : IntsAre vs ns) (hj : IntsAre ws ms) (hu : A.units + 64 < cLine)
    (h : Q (.bool (!decide (ns = ms))) s) : wpAny (model prog w) A (compareOp .NotEq (.ref a) (.ref b)) Q E s := ke_ne_ints (S.isList ha) (S.isList hb) hi hj hu h
theorem r_listStr (S : St o B env l c n s) {a : Addr} {vs : List Value} {k : Nat} {x : Str} {t : Tok} {Q : Value → Shared → Prop} (ha : Has B n a (listOf vs.toArray k)) (hu : A.units < cLine) (h : Q (.bool false) s) : wpAny (model prog w) A (compareOp .Eq (.ref a) (.str x t)) Q E s :=
  RcAt.list_str x t (S.isList ha) hu prog w E Q h
theorem r_strStr {x y : Str} {t u : Tok} {Q : Value → Shared → Prop} (h : Q (.bool (x == y)) s) : wpAny (model prog w) A (compareOp .Eq (.str x t) (.str y u)) Q E s := RcAt.str_str x t y u prog w E Q h
/-- two pairs of an int and bytes that say the same -/
theorem pair_eq (S : St o B env l c n s) {A' : Around} {a b : Addr} {x : Int} {t t' tb tb' : Tok} {y y' : Array UInt8} (ha : Has B n a (tupOf [.int x t, .bytes y tb])) (hb : Has B n b (tupOf [.int x t', .bytes y' tb'])) (hy : y.toList = y'.toList) (hu : A'.units < cLine) :
    EqAt A' s (.ref a) (.ref b) true := by
  by_cases e : a = b
  · subst e; exact EqAt.same _
  have h1 : s.heap.IsTuple a #[.int x t, .bytes y tb] := ⟨_, S.has ha, rfl, 0, rfl⟩
  have h2 : s.heap.IsTuple b #[.int x t', .bytes y' tb'] := ⟨_, S.has hb, rfl, 0, rfl⟩
  have := RcAt.tuples (A := A') (e := fun _ => true) h1 h2 hu fun j j1 j2 => by
    match j, j1 with
    | 0, _ => have := EqAt.int_int (A := A'.in1) (s := s) x t x t'; simpa using this
    | 1, _ => intro prog w E Q hq; exact eqBool_bytes (by simpa [hy] using hq)
  exact EqAt.of_refs e this
end
end
section
open PySem PySem.W PySem.Calls PyProof.Rows
section
variable {K : Frag} {mg mb : Str → Option Value} {prog : Program} {w : World} {A : Around} {E : Value → Shared → Prop} {o : OsP} {B : Heap} {env : Env} {l l' : Vars} {c c' : Cels} {n n' pre post : Ledg} {s s' : Shared} {R : Result → Shared → Prop}
/-- the outermost call -/
theorem fn_callTop {f : Addr} {oc : Value} {od : Option Addr} {osl : Array (Option Value)} {fd : FuncData} {body : List Stmt} {args : Args} {binds : List (Str × Value)} {ln cn : List Str}
    (hn : ∀ p ∈ n, s.heap.get? p.1 = some p.2) (hord : (n.map (·.1)).Pairwise (· > ·)) (hos : o s.os s.gens s.drawn) (T : Base K mg mb (hideAll s.heap (n.map (·.1)))) (hroom : A.depth < recursionLimit)
    (ho : K.lookup f = some ⟨oc, od, .func fd, osl⟩) (hcd : codeIn K fd.code fd.qualname = true) (hbody : fd.body = .stmts body) (hok : fnOk fd (binds.map (·.1)) ln cn = true)
    (hbind : BindsTo s fd args binds)
    (hl : locsOf ln binds = l')
    (h : ∀ L' cls s', CellsIn (celsOf fd L' binds) cls → St o (hideAll s.heap (n.map (·.1))) (envF fd L' f) l' (celsOf fd L' binds) (cls ++ n) s' →
      wpAny (model prog w) (A.deeper (envF fd L' f)) (execs body (envF fd L' f)) (fun fl s'' => R (.ok (.ret (match fl with | .ret v => v | _ => .none))) s'') (fun _ _ => False) s') :
    codeAny (model prog w) A (.call (.ref f) args) R s := by
  simp only [fnOk, Bool.and_eq_true, Bool.not_eq_true', beq_iff_eq, decide_eq_true_eq, List.all_eq_true, Bool.or_eq_true, List.contains_iff_mem, List.isEmpty_iff] at hok
  obtain ⟨⟨⟨⟨⟨⟨⟨⟨⟨k1, k2⟩, k3⟩, k4⟩, k5⟩, k6⟩, k7⟩, k8⟩, k9⟩, k10⟩ := hok
  have st0 : ∀ b ob, (hideAll s.heap (n.map (·.1))).get? b = some ob → s.heap.get? b = some ob := fun b ob e => of_hideAll _ e
  have X := T.kin.keeps st0
  have ev := Ev.of (env := envF fd s.heap.objs.size f) k1
  have hk := evOk_kind k1
  have names : (cellsFrom (s.heap.objs.size + 1) fd.scope.names []).map (·.1) = cn := (cellsFrom_names fd.scope.names 0 (s.heap.objs.size + 1) [] [] rfl) ▸ k6
  refine codeAny_call_function hroom (X _ _ ho) rfl k3 k4 hbody (codeRec_of X hcd) (hbind _ _ _ _ ?_)
  rw [k2]
  refine wpAny_newFunctionEnv_cells hk (fun x hx => ?_) fun env' he s' x => ?_
  · rcases k8 x.1 (List.mem_map.mpr ⟨x, hx, rfl⟩) with q | q
    · exact .inl (ev.loc _ q).1
    · right
      have hin := q
      rw [← names] at hin
      obtain ⟨p, hp, e⟩ := List.mem_map.mp hin
      have : ((cellsFrom (s.heap.objs.size + 1) fd.scope.names []).lookup x.1).isSome = true := by
        rw [lookup_mem (v := p.2) (by rw [names]; exact k7) (by rw [← e]; exact hp)]; rfl
      exact ⟨k9 _ q, this⟩
  · subst he
    refine ⟨T.nolim.keeps fun b ob e => x.toInCall.keep _ _ (st0 _ _ e), codeAny_func ?_⟩
    obtain ⟨h₁, tk, rfl, hk₁⟩ := x.done
    have kd : ∀ y, (envF fd s.heap.objs.size f).kindOf y = fd.scope.names.lookup y := fun _ => rfl
    have small : ∀ p ∈ n, p.1 < s.heap.objs.size := fun p hp => Heap.lt_size (hn p hp)
    have new : ∀ a, s.heap.objs.size ≤ a → (hideAll s.heap (n.map (·.1))).get? a = none := fun a ha => by
      cases q : (hideAll s.heap (n.map (·.1))).get? a with
      | none => rfl
      | some ob => exact absurd (Heap.lt_size (of_hideAll _ q)) (Nat.not_lt.mpr ha)
    have cellsAt : ∀ p ∈ cellsFrom (s.heap.objs.size + 1) fd.scope.names [], (cellsFrom (s.heap.objs.size + 1) fd.scope.names []).lookup p.1 = some p.2 := fun p hp => lookup_mem (by rw [names]; exact k7) hp
    have cellNow : ∀ q ∈ cellsFrom (s.heap.objs.size + 1) fd.scope.names [], h₁.IsCell q.2 (binds.lookup q.1) := fun q hq => by
      have h1 := x.cell q.1 q.2 (cellsAt q hq)
      have hqn : q.1 ∈ cn := by rw [← names]; exact List.mem_map_of_mem hq
      have e : bindC (envF fd s.heap.objs.size f).kindOf binds (fun _ => none) q.1 = binds.lookup q.1 := by
        rw [bindC_eq k5, kd, if_neg (by rw [k9 _ hqn]; exact fun z => by cases z), Option.or_none]
      exact e ▸ h1
    have made : ∀ cl : List (Str × Addr), (∀ q ∈ cl, h₁.IsCell q.2 (binds.lookup q.1)) → ∃ cls, CellsIn (cl.map fun p => (p.1, p.2, binds.lookup p.1)) cls ∧ ∀ p ∈ cls, h₁.get? p.1 = some p.2 := by
      intro cl
      induction cl with
      | nil => exact fun _ => ⟨[], .nil, fun _ hp => (nomatch hp)⟩
      | cons q r ih =>
        intro hq
        obtain ⟨cls, a, b⟩ := ih fun q' hq' => hq q' (.tail _ hq')
        obtain ⟨ob, c1, c2⟩ := hq q (.head _)
        refine ⟨(q.2, ob) :: cls, .cons c2 a, fun p hp => ?_⟩
        rcases List.mem_cons.mp hp with rfl | hp
        · exact c1
        · exact b p hp
    obtain ⟨cls, X1, X2⟩ := made _ cellNow
    have adr := X1.adr
    have adr' : cls.map (·.1) = (cellsFrom (s.heap.objs.size + 1) fd.scope.names []).map (·.2) := by rw [adr, List.map_map]; rfl
    have inCl : ∀ p ∈ cls, ∃ q ∈ cellsFrom (s.heap.objs.size + 1) fd.scope.names [], q.2 = p.1 := fun p hp => by
      have := List.mem_map_of_mem (f := (·.1)) hp
      rw [adr'] at this
      exact List.mem_map.mp this
    have S' : St o (hideAll s.heap (n.map (·.1))) (envF fd s.heap.objs.size f) l' (celsOf fd s.heap.objs.size binds) (cls ++ n) { s with heap := h₁, toks := tk } := by
      rw [← hl]
      refine ⟨⟨?_, fun b ob e => hk₁ b ob (of_hideAll _ e), Nat.le_of_eq (hideAll_size _ _)⟩, fun p hp => ?_, ?_, fun p hp => ?_, ?_, ?_, hos⟩
      · have e : bindL (envF fd s.heap.objs.size f).kindOf binds (fun _ => none) = lk (locsOf ln binds) := by
          funext y
          rw [bindL_eq k5, locsOf, lk_map, kd, Option.or_none]
          by_cases hy : y ∈ ln
          · rw [if_pos hy, if_pos (show List.lookup y fd.scope.names = some NameKind.local from (ev.loc _ hy).1)]
          · rw [if_neg hy]
            split
            · rename_i hky
              refine lookup_none fun hb => ?_
              rcases k8 y hb with q | q
              · exact hy q
              · have := k9 y q; rw [hky] at this; cases this
            · rfl
        have := x.toInCall.ns
        rw [← e]; exact this
      · rcases List.mem_append.mp hp with hp | hp
        · obtain ⟨q, hq, e⟩ := inCl p hp
          have ab := x.above q.1 q.2 hq
          rw [e] at ab
          exact ⟨X2 p hp, Nat.ne_of_gt ab, new _ (Nat.le_of_lt ab)⟩
        · exact ⟨hk₁ _ _ (hn p hp), Nat.ne_of_lt (small p hp), hideAll_none _ (List.mem_map_of_mem hp)⟩
      · rw [List.map_append, List.pairwise_append]
        refine ⟨?_, hord, fun a ha b hb => ?_⟩
        · rw [adr']; exact cells_desc _ _
        · obtain ⟨p, hp, rfl⟩ := List.mem_map.mp ha
          obtain ⟨p', hp', rfl⟩ := List.mem_map.mp hb
          obtain ⟨q, hq, e⟩ := inCl p hp
          have ab := x.above q.1 q.2 hq
          rw [e] at ab
          exact Nat.lt_trans (small p' hp') ab
      · obtain ⟨ob, a, b⟩ := X1.mem p hp
        refine ⟨?_, ob, List.mem_append.mpr (.inl a), b⟩
        obtain ⟨q, hq, rfl⟩ := List.mem_map.mp hp
        exact cellsAt q hq
      · have e : (celsOf fd s.heap.objs.size binds).map (·.2.1) = (cellsFrom (s.heap.objs.size + 1) fd.scope.names []).map (·.2) := by
          unfold celsOf; rw [List.map_map]; rfl
        rw [e]
        exact (List.pairwise_map.mpr x.apart)
      · have e1 : (locsOf ln binds).map (·.1) = ln := by unfold locsOf; rw [List.map_map]; exact List.map_id'' (fun _ => rfl) _
        have e2 : (celsOf fd s.heap.objs.size binds).map (·.1) = cn := by unfold celsOf; rw [List.map_map]; exact names
        rw [e1, e2]; exact ev
    exact wpAny_mono (h _ cls _ X1 S') (fun _ _ y => y) fun _ _ y => y.elim
end
end
section
open PySem PySem.W PySem.Calls PyProof.Rows
section
variable {K : Frag} {mg mb : Str → Option Value} {prog : Program} {w : World} {A : Around} {E : Value → Shared → Prop} {o : OsP} {B : Heap} {env : Env} {l l' : Vars} {c c' : Cels} {n n' pre post : Ledg} {s s' : Shared} {R : Result → Shared → Prop}
/-- `[.. for x, y in LIST]` over a list of pairs -/
theorem comp_pairL {X : Type} {it acc la : Addr} {items : List Value} {elts : List Expr} {tp : Pos} {tk : Nat} {iter elt : Expr} {scope : Scope} {pos : Pos} {cenv : Env} {g : Heap} {ob₀ : Obj} (hh : A.handled = none)
    (lF : Nat → X → Vars) (cc : Cels) (hi lo : Nat → X → Ledg) (P : Nat → X → Prop) (y₀ : X)
    (hob : listItP la 0 ob₀) (S : St o g cenv (lF 0 y₀) cc (hi 0 y₀ ++ (it, ob₀) :: lo 0 y₀) s) (h0 : P 0 y₀)
    (hneeds : ∀ ob i y s, St o g cenv (lF i y) cc (hi i y ++ (it, ob) :: lo i y) s → s.heap.IsList la items.toArray) (href : ∀ v ∈ items, ∃ T, v = .ref T)
    (turn : ∀ i y ob T s, P i y → items[i]? = some (.ref T) → listItP la (i + 1) ob → St o g cenv (lF i y) cc (hi i y ++ (it, ob) :: lo i y) s →
      wpAny (model prog w) A (assign (.Tuple elts tk tp) cenv (.ref T)) (fun _ s₂ => wpAny (model prog w) A (eval elt cenv) (fun x s₄ => wpAny (model prog w) A (call (.builtin "list.append") [.ref acc, x])
        (fun _ s₅ => ∃ y, P (i + 1) y ∧ St o g cenv (lF (i + 1) y) cc (hi (i + 1) y ++ (it, ob) :: lo (i + 1) y) s₅) (fun _ _ => False) s₄) (fun _ _ => False) s₂) (fun _ _ => False) s)
    (done : ∀ y s, P items.length y → St o g cenv (lF items.length y) cc (hi items.length y ++ lo items.length y) s → R (.ok .next) s) :
    codeAny (model prog w) A (.compStart (.ListComp elt [⟨.Tuple elts tk tp, iter, [], 0⟩] scope pos) 0 (.ref it) (.ref acc) cenv) R s := by
  have I := iter_list (prog := prog) (w := w) (it := it) (a := la) hh items
  have loop : codeAny (model prog w) A (.compLoop (.ListComp elt [⟨.Tuple elts tk tp, iter, [], 0⟩] scope pos) 0 (.ref it) (.ref acc) cenv) R s := by
    refine LCp.codeAny_compLoop_pair (fun k s' => ∃ i y ob, P i y ∧ listItP la i ob ∧ St o g cenv (lF i y) cc (hi i y ++ (it, ob) :: lo i y) s' ∧ i ≤ items.length ∧ k = items.length - i) ?_ items.length ⟨0, y₀, ob₀, h0, hob, S, Nat.zero_le _, rfl⟩
    rintro k s' ⟨i, y, ob, hP, hob, S', hi', rfl⟩
    have hg := S'.nw.get (a := it) (o := ob) (by simp)
    have hn := hneeds _ _ _ _ S'
    have nc := I.nocell _ _ hob
    by_cases hlt : i < items.length
    · refine I.step i s' ob _ _ hlt hg hob hn fun v h' tk ob' hv hg' hob' hs => ?_
      have S₁ := S'.upd (t := tk) (Put.at (hi i y) (lo i y)) hs hg' (cellE_no nc)
      obtain ⟨T, rfl⟩ := href v (List.mem_of_getElem? hv)
      refine wpAny_letOwnedTupleGo_listiter (l := la) (i := i + 1) ⟨ob', hg', hob'.1, hob'.2⟩ ?_
      refine wpAny_mono (turn i y ob' T _ hP hv hob' S₁) (fun _ s₂ h₂ => wpAny_mono h₂ (fun x s₃ h₃ => wpAny_mono h₃ (fun _ s₄ ⟨y', hp, st⟩ => ?_) fun _ _ x => x.elim) fun _ _ x => x.elim) fun _ _ x => x.elim
      exact ⟨items.length - (i + 1), by omega, i + 1, y', ob', hp, hob', st, hlt, rfl⟩
    · obtain rfl : i = items.length := by omega
      exact I.fin s' ob _ _ hg hob hn fun h' tk he => done _ _ hP (S'.extBut nc he)
  refine codeAny_compStart_list loop ?_
  exact self_list s 0 ob₀ _ _ (S.nw.get (by simp)) hob loop
/-- a call with one argument and one by its name -/
theorem x_callKw {func e v : Expr} {kn : Str} {kp pos : Pos} {Q : Value → Shared → Prop} (T : Base K mg mb B)
    (he : eval (func.Call [e] [⟨some kn, v, kp⟩] pos) env = (do callWith pos (← eval func env) [] (backTo pos (starEach [e] env)) (backToKw pos (keywordEach [⟨some kn, v, kp⟩] env))))
    (hs : starEach [e] env = (false, eval e env) :: starEach [] env)
    (h : wpAny (model prog w) A (eval func env) (fun f s₀ => keepIn K f = true ∧ wpAny (model prog w) A (eval e env) (fun a s₁ => wpAny (model prog w) A (eval v env) (fun b s₂ => K.In s₂.heap ∧ wpAny (model prog w) A (call f [a] [(kn, b)]) Q E s₂) E s₁) E s₀) E s) :
    wpAny (model prog w) A (eval (func.Call [e] [⟨some kn, v, kp⟩] pos) env) Q E s := by
  rw [he]
  refine wpAny_bind (wpAny_mono h (fun f s₀ ⟨hk, h₀⟩ => ?_) fun _ _ x => x)
  refine callWith_KW T.kin hk rfl ?_ (by rw [hs]; rfl) hs
  refine wpAny_items_cons (wpAny_mono h₀ (fun a s₁ h₁ => wpAny_items_nil ?_) fun _ _ x => x) hs
  exact kwAll_cons (wpAny_mono h₁ (fun b s₂ h₂ => kwAll_nil h₂) fun _ _ x => x)
/-- the last item of a list of ints -/
theorem r_itemLast (S : St o B env l c n s) {value slice : Expr} {a : Addr} {vs : List Value} {ns : List Int} {k : Nat} {u : Tok} {Q : Value → Shared → Prop} (hs : subscripted slice false (.ref a) (.int (-1) u) = operate [.ref a, .int (-1) u] (getItem (.ref a) (.int (-1) u)))
    (hl : Has B n a (listOf vs.toArray k)) (hi : IntsAre vs ns) (h0 : 1 ≤ ns.length) (h : ∀ t, Q (.int (ns.getD (ns.length - 1) 0) t) s) : wpAny (model prog w) A (subscriptTail value slice (.ref a) (.int (-1) u)) Q E s := by
  have hvl := hi.length
  obtain ⟨x, t, h1, h2⟩ := ints_at (u := vs[ns.length - 1]'(by omega)) hi (List.getElem?_eq_getElem (by omega))
  refine tail_any (S.isList hl).typeIs slot_list_getitem.lookup (wpAny_getItem_list_neg (x := .int x t) (S.isList hl) (by decide) (by rw [List.size_toArray]; omega) (by decide) ?_ ?_) hs
  · have e : ((-1 : Int) + ((vs.toArray.size : Nat) : Int)).toNat = ns.length - 1 := by rw [List.size_toArray]; omega
    rw [e, ← h2]
    simp [List.getElem?_eq_getElem]
  · have := h t
    rw [List.getD_eq_getElem?_getD, h1] at this
    exact this
/-- the one test of a comprehension -/
theorem x_test1 {cnd : Expr} {Q : Bool → Shared → Prop} (h : wpAny (model prog w) A (PySem.isTrue cnd env (eval cnd env)) Q E s) :
    wpAny (model prog w) A (forIn [cnd] true fun c r => if r = true then do let ok ← PySem.isTrue c env (eval c env); pure (ForInStep.yield ok) else pure (ForInStep.yield r)) Q E s := by
  rw [List.forIn_cons]
  refine wpAny_bind (wpAny_ite_split (fun _ => ?_) fun q => absurd rfl q)
  exact wpAny_bind (wpAny_mono h (fun b s' hb => wpAny_pure (by show wpAny _ _ (forIn [] b _) _ _ _; rw [List.forIn_nil]; exact wpAny_pure hb)) fun _ _ x => x)
end
end
section
open PySem PySem.W PySem.Calls PyProof.Rows
noncomputable abbrev KK := Mine.hd.heap_39
noncomputable def fs249 : { fd : FuncData // ∀ P, (KK P).lookup 249 = some ⟨.type "function", none, .func fd, #[]⟩ } := ⟨_, fun _ => rfl⟩
theorem cd249 (P : Params) : codeIn (KK P) fs249.1.code fs249.1.qualname = true := by kernel_rfl
theorem ok249 : fnOk fs249.1 ["n"] ["n"] [] = true := by kernel_rfl
theorem gn249 : gnOk fs249.1.scope ["ValueError", "LOG_TABLE"] = true := by kernel_rfl
theorem kp249 (P : Params) : keepIn (KK P) (.ref 249) = true := by kernel_rfl
noncomputable def fs256 : { fd : FuncData // ∀ P, (KK P).lookup 256 = some ⟨.type "function", none, .func fd, #[]⟩ } := ⟨_, fun _ => rfl⟩
theorem cd256 (P : Params) : codeIn (KK P) fs256.1.code fs256.1.qualname = true := by kernel_rfl
theorem ok256 : fnOk fs256.1 ["n"] ["n"] [] = true := by kernel_rfl
theorem gn256 : gnOk fs256.1.scope ["EXP_TABLE"] = true := by kernel_rfl
theorem kp256 (P : Params) : keepIn (KK P) (.ref 256) = true := by kernel_rfl
noncomputable def fs270 : { fd : FuncData // ∀ P, (KK P).lookup 270 = some ⟨.type "function", none, .func fd, #[]⟩ } := ⟨_, fun _ => rfl⟩
theorem cd270 (P : Params) : codeIn (KK P) fs270.1.code fs270.1.qualname = true := by kernel_rfl
theorem ok270 : fnOk fs270.1 ["self", "num", "shift"] ["self", "num", "shift", "offset"] [] = true := by kernel_rfl
theorem gn270 : gnOk fs270.1.scope ["Exception", "len", "range"] = true := by kernel_rfl
theorem kp270 (P : Params) : keepIn (KK P) (.ref 270) = true := by kernel_rfl
noncomputable def fs277 : { fd : FuncData // ∀ P, (KK P).lookup 277 = some ⟨.type "function", none, .func fd, #[]⟩ } := ⟨_, fun _ => rfl⟩
theorem cd277 (P : Params) : codeIn (KK P) fs277.1.code fs277.1.qualname = true := by kernel_rfl
theorem ok277 : fnOk fs277.1 ["self", "index"] ["self", "index"] [] = true := by kernel_rfl
theorem gn277 : gnOk fs277.1.scope [] = true := by kernel_rfl
theorem kp277 (P : Params) : keepIn (KK P) (.ref 277) = true := by kernel_rfl
noncomputable def fs284 : { fd : FuncData // ∀ P, (KK P).lookup 284 = some ⟨.type "function", none, .func fd, #[]⟩ } := ⟨_, fun _ => rfl⟩
theorem cd284 (P : Params) : codeIn (KK P) fs284.1.code fs284.1.qualname = true := by kernel_rfl
theorem ok284 : fnOk fs284.1 ["self"] ["self"] [] = true := by kernel_rfl
theorem gn284 : gnOk fs284.1.scope ["iter"] = true := by kernel_rfl
theorem kp284 (P : Params) : keepIn (KK P) (.ref 284) = true := by kernel_rfl
noncomputable def fs291 : { fd : FuncData // ∀ P, (KK P).lookup 291 = some ⟨.type "function", none, .func fd, #[]⟩ } := ⟨_, fun _ => rfl⟩
theorem cd291 (P : Params) : codeIn (KK P) fs291.1.code fs291.1.qualname = true := by kernel_rfl
theorem ok291 : fnOk fs291.1 ["self"] ["self"] [] = true := by kernel_rfl
theorem gn291 : gnOk fs291.1.scope ["len"] = true := by kernel_rfl
theorem kp291 (P : Params) : keepIn (KK P) (.ref 291) = true := by kernel_rfl
noncomputable def fs303 : { fd : FuncData // ∀ P, (KK P).lookup 303 = some ⟨.type "function", none, .func fd, #[]⟩ } := ⟨_, fun _ => rfl⟩
theorem cd303 (P : Params) : codeIn (KK P) fs303.1.code fs303.1.qualname = true := by kernel_rfl
theorem ok303 : fnOk fs303.1 ["self", "other"] ["self", "other", "difference", "num"] ["ratio"] = true := by kernel_rfl
theorem gn303 : gnOk fs303.1.scope ["len", "glog", "zip", "Polynomial"] = true := by kernel_rfl
theorem kp303 (P : Params) : keepIn (KK P) (.ref 303) = true := by kernel_rfl
noncomputable def fs328 : { fd : FuncData // ∀ P, (KK P).lookup 328 = some ⟨.type "function", none, .func fd, #[]⟩ } := ⟨_, fun _ => rfl⟩
theorem cd328 (P : Params) : codeIn (KK P) fs328.1.code fs328.1.qualname = true := by kernel_rfl
theorem ok328 : fnOk fs328.1 ["_cls", "total_count", "data_count"] ["_cls", "total_count", "data_count"] [] = true := by kernel_rfl
theorem gn328 : gnOk fs328.1.scope ["tuple"] = true := by kernel_rfl
theorem kp328 (P : Params) : keepIn (KK P) (.ref 328) = true := by kernel_rfl
noncomputable def fs388 : { fd : FuncData // ∀ P, (KK P).lookup 388 = some ⟨.type "function", none, .func fd, #[]⟩ } := ⟨_, fun _ => rfl⟩
theorem cd388 (P : Params) : codeIn (KK P) fs388.1.code fs388.1.qualname = true := by kernel_rfl
theorem ok388 : fnOk fs388.1 ["version", "error_correction"] ["version", "error_correction", "offset", "rs_block", "blocks", "i", "count", "total_count", "data_count", "_"] [] = true := by kernel_rfl
theorem gn388 : gnOk fs388.1.scope ["RS_BLOCK_OFFSET", "Exception", "RS_BLOCK_TABLE", "range", "len", "RSBlock"] = true := by kernel_rfl
theorem kp388 (P : Params) : keepIn (KK P) (.ref 388) = true := by kernel_rfl
noncomputable def fs412 : { fd : FuncData // ∀ P, (KK P).lookup 412 = some ⟨.type "function", none, .func fd, #[]⟩ } := ⟨_, fun _ => rfl⟩
theorem cd412 (P : Params) : codeIn (KK P) fs412.1.code fs412.1.qualname = true := by kernel_rfl
theorem ok412 : fnOk fs412.1 ["version"] ["version"] [] = true := by kernel_rfl
theorem gn412 : gnOk fs412.1.scope ["MODE_SIZE_SMALL", "MODE_SIZE_MEDIUM", "MODE_SIZE_LARGE"] = true := by kernel_rfl
theorem kp412 (P : Params) : keepIn (KK P) (.ref 412) = true := by kernel_rfl
noncomputable def fs419 : { fd : FuncData // ∀ P, (KK P).lookup 419 = some ⟨.type "function", none, .func fd, #[]⟩ } := ⟨_, fun _ => rfl⟩
theorem cd419 (P : Params) : codeIn (KK P) fs419.1.code fs419.1.qualname = true := by kernel_rfl
theorem ok419 : fnOk fs419.1 ["mode", "version"] ["mode", "version"] [] = true := by kernel_rfl
theorem gn419 : gnOk fs419.1.scope ["MODE_NUMBER", "MODE_ALPHA_NUM", "MODE_8BIT_BYTE", "MODE_KANJI", "TypeError", "check_version", "mode_sizes_for_version"] = true := by kernel_rfl
theorem kp419 (P : Params) : keepIn (KK P) (.ref 419) = true := by kernel_rfl
noncomputable def fs426 : { fd : FuncData // ∀ P, (KK P).lookup 426 = some ⟨.type "function", none, .func fd, #[]⟩ } := ⟨_, fun _ => rfl⟩
theorem cd426 (P : Params) : codeIn (KK P) fs426.1.code fs426.1.qualname = true := by kernel_rfl
theorem ok426 : fnOk fs426.1 ["version"] ["version"] [] = true := by kernel_rfl
theorem gn426 : gnOk fs426.1.scope ["ValueError"] = true := by kernel_rfl
theorem kp426 (P : Params) : keepIn (KK P) (.ref 426) = true := by kernel_rfl
noncomputable def fs433 : { fd : FuncData // ∀ P, (KK P).lookup 433 = some ⟨.type "function", none, .func fd, #[]⟩ } := ⟨_, fun _ => rfl⟩
theorem cd433 (P : Params) : codeIn (KK P) fs433.1.code fs433.1.qualname = true := by kernel_rfl
theorem ok433 : fnOk fs433.1 ["data"] ["data"] [] = true := by kernel_rfl
theorem gn433 : gnOk fs433.1.scope ["isinstance", "bytes", "str"] = true := by kernel_rfl
theorem kp433 (P : Params) : keepIn (KK P) (.ref 433) = true := by kernel_rfl
noncomputable def fs440 : { fd : FuncData // ∀ P, (KK P).lookup 440 = some ⟨.type "function", none, .func fd, #[]⟩ } := ⟨_, fun _ => rfl⟩
theorem cd440 (P : Params) : codeIn (KK P) fs440.1.code fs440.1.qualname = true := by kernel_rfl
theorem ok440 : fnOk fs440.1 ["data"] ["data"] [] = true := by kernel_rfl
theorem gn440 : gnOk fs440.1.scope ["MODE_NUMBER", "all", "MODE_ALPHA_NUM", "MODE_8BIT_BYTE"] = true := by kernel_rfl
theorem kp440 (P : Params) : keepIn (KK P) (.ref 440) = true := by kernel_rfl
noncomputable def fs455 : { fd : FuncData // ∀ P, (KK P).lookup 455 = some ⟨.type "function", none, .func fd, #[]⟩ } := ⟨_, fun _ => rfl⟩
theorem cd455 (P : Params) : codeIn (KK P) fs455.1.code fs455.1.qualname = true := by kernel_rfl
theorem ok455 : fnOk fs455.1 ["self", "data", "mode", "check_data"] ["self", "data", "mode", "check_data"] [] = true := by kernel_rfl
theorem gn455 : gnOk fs455.1.scope ["to_bytestring", "optimal_mode", "MODE_NUMBER", "MODE_ALPHA_NUM", "MODE_8BIT_BYTE", "TypeError", "ValueError"] = true := by kernel_rfl
theorem kp455 (P : Params) : keepIn (KK P) (.ref 455) = true := by kernel_rfl
noncomputable def fs462 : { fd : FuncData // ∀ P, (KK P).lookup 462 = some ⟨.type "function", none, .func fd, #[]⟩ } := ⟨_, fun _ => rfl⟩
theorem cd462 (P : Params) : codeIn (KK P) fs462.1.code fs462.1.qualname = true := by kernel_rfl
theorem ok462 : fnOk fs462.1 ["self"] ["self"] [] = true := by kernel_rfl
theorem gn462 : gnOk fs462.1.scope ["len"] = true := by kernel_rfl
theorem kp462 (P : Params) : keepIn (KK P) (.ref 462) = true := by kernel_rfl
noncomputable def fs469 : { fd : FuncData // ∀ P, (KK P).lookup 469 = some ⟨.type "function", none, .func fd, #[]⟩ } := ⟨_, fun _ => rfl⟩
theorem cd469 (P : Params) : codeIn (KK P) fs469.1.code fs469.1.qualname = true := by kernel_rfl
theorem ok469 : fnOk fs469.1 ["self", "buffer"] ["self", "buffer", "i", "chars", "bit_length", "data", "c"] [] = true := by kernel_rfl
theorem gn469 : gnOk fs469.1.scope ["MODE_NUMBER", "range", "len", "NUMBER_LENGTH", "int", "MODE_ALPHA_NUM", "ALPHA_NUM"] = true := by kernel_rfl
theorem kp469 (P : Params) : keepIn (KK P) (.ref 469) = true := by kernel_rfl
noncomputable def fs497 : { fd : FuncData // ∀ P, (KK P).lookup 497 = some ⟨.type "function", none, .func fd, #[]⟩ } := ⟨_, fun _ => rfl⟩
theorem cd497 (P : Params) : codeIn (KK P) fs497.1.code fs497.1.qualname = true := by kernel_rfl
theorem ok497 : fnOk fs497.1 ["self"] ["self"] [] = true := by kernel_rfl
theorem gn497 : gnOk fs497.1.scope [] = true := by kernel_rfl
theorem kp497 (P : Params) : keepIn (KK P) (.ref 497) = true := by kernel_rfl
noncomputable def fs516 : { fd : FuncData // ∀ P, (KK P).lookup 516 = some ⟨.type "function", none, .func fd, #[]⟩ } := ⟨_, fun _ => rfl⟩
theorem cd516 (P : Params) : codeIn (KK P) fs516.1.code fs516.1.qualname = true := by kernel_rfl
theorem ok516 : fnOk fs516.1 ["self", "num", "length"] ["self", "num", "length", "i"] [] = true := by kernel_rfl
theorem gn516 : gnOk fs516.1.scope ["range"] = true := by kernel_rfl
theorem kp516 (P : Params) : keepIn (KK P) (.ref 516) = true := by kernel_rfl
noncomputable def fs523 : { fd : FuncData // ∀ P, (KK P).lookup 523 = some ⟨.type "function", none, .func fd, #[]⟩ } := ⟨_, fun _ => rfl⟩
theorem cd523 (P : Params) : codeIn (KK P) fs523.1.code fs523.1.qualname = true := by kernel_rfl
theorem ok523 : fnOk fs523.1 ["self"] ["self"] [] = true := by kernel_rfl
theorem gn523 : gnOk fs523.1.scope [] = true := by kernel_rfl
theorem kp523 (P : Params) : keepIn (KK P) (.ref 523) = true := by kernel_rfl
noncomputable def fs530 : { fd : FuncData // ∀ P, (KK P).lookup 530 = some ⟨.type "function", none, .func fd, #[]⟩ } := ⟨_, fun _ => rfl⟩
theorem cd530 (P : Params) : codeIn (KK P) fs530.1.code fs530.1.qualname = true := by kernel_rfl
theorem ok530 : fnOk fs530.1 ["self", "bit"] ["self", "bit", "buf_index"] [] = true := by kernel_rfl
theorem gn530 : gnOk fs530.1.scope ["len"] = true := by kernel_rfl
theorem kp530 (P : Params) : keepIn (KK P) (.ref 530) = true := by kernel_rfl
noncomputable def fs542 : { fd : FuncData // ∀ P, (KK P).lookup 542 = some ⟨.type "function", none, .func fd, #[]⟩ } := ⟨_, fun _ => rfl⟩
theorem cd542 (P : Params) : codeIn (KK P) fs542.1.code fs542.1.qualname = true := by kernel_rfl
theorem ok542 : fnOk fs542.1 ["buffer", "rs_blocks"] ["rs_blocks", "maxDcCount", "maxEcCount", "dcdata", "ecdata", "rs_block", "dcCount", "ecCount", "i", "current_dc", "rsPoly", "rawPoly", "modPoly", "current_ec", "mod_offset", "modIndex", "data", "dc", "ec"] ["offset", "buffer"] = true := by kernel_rfl
theorem gn542 : gnOk fs542.1.scope ["max", "range", "rsPoly_LUT", "Polynomial", "gexp", "len"] = true := by kernel_rfl
theorem kp542 (P : Params) : keepIn (KK P) (.ref 542) = true := by kernel_rfl
noncomputable def fs549 : { fd : FuncData // ∀ P, (KK P).lookup 549 = some ⟨.type "function", none, .func fd, #[]⟩ } := ⟨_, fun _ => rfl⟩
theorem cd549 (P : Params) : codeIn (KK P) fs549.1.code fs549.1.qualname = true := by kernel_rfl
theorem ok549 : fnOk fs549.1 ["version", "error_correction", "data_list"] ["version", "error_correction", "data_list", "buffer", "data", "rs_blocks", "bit_limit", "_", "delimit", "bytes_to_fill", "i"] [] = true := by kernel_rfl
theorem gn549 : gnOk fs549.1.scope ["BitBuffer", "len", "length_in_bits", "rs_blocks_base", "sum", "DataOverflowError", "range", "min", "PAD0", "PAD1", "create_bytes"] = true := by kernel_rfl
theorem kp549 (P : Params) : keepIn (KK P) (.ref 549) = true := by kernel_rfl
noncomputable def fs577 : { fd : FuncData // ∀ P, (KK P).lookup 577 = some ⟨.type "function", none, .func fd, #[]⟩ } := ⟨_, fun _ => rfl⟩
theorem cd577 (P : Params) : codeIn (KK P) fs577.1.code fs577.1.qualname = true := by kernel_rfl
theorem ok577 : fnOk fs577.1 ["mode", "count"] ["mode", "count"] [] = true := by kernel_rfl
theorem gn577 : gnOk fs577.1.scope [] = true := by kernel_rfl
theorem kp577 (P : Params) : keepIn (KK P) (.ref 577) = true := by kernel_rfl
noncomputable def fs582 : { fd : FuncData // ∀ P, (KK P).lookup 582 = some ⟨.type "function", none, .func fd, #[]⟩ } := ⟨_, fun _ => rfl⟩
theorem cd582 (P : Params) : codeIn (KK P) fs582.1.code fs582.1.qualname = true := by kernel_rfl
theorem ok582 : fnOk fs582.1 ["numbers", "room", "over"] ["numbers", "room", "over", "parts", "number", "count", "head", "fits", "values"] ["rest", "mode"] = true := by kernel_rfl
theorem gn582 : gnOk fs582.1.scope ["_law_size", "range", "bytes"] = true := by kernel_rfl
theorem kp582 (P : Params) : keepIn (KK P) (.ref 582) = true := by kernel_rfl
noncomputable def fs589 : { fd : FuncData // ∀ P, (KK P).lookup 589 = some ⟨.type "function", none, .func fd, #[]⟩ } := ⟨_, fun _ => rfl⟩
theorem cd589 (P : Params) : codeIn (KK P) fs589.1.code fs589.1.qualname = true := by kernel_rfl
theorem ok589 : fnOk fs589.1 ["version", "level", "rows"] ["version", "level", "rows"] [] = true := by kernel_rfl
theorem gn589 : gnOk fs589.1.scope ["create_data", "DataOverflowError"] = true := by kernel_rfl
theorem kp589 (P : Params) : keepIn (KK P) (.ref 589) = true := by kernel_rfl
noncomputable def fs596 : { fd : FuncData // ∀ P, (KK P).lookup 596 = some ⟨.type "function", none, .func fd, #[]⟩ } := ⟨_, fun _ => rfl⟩
theorem cd596 (P : Params) : codeIn (KK P) fs596.1.code fs596.1.qualname = true := by kernel_rfl
theorem ok596 : fnOk fs596.1 ["words", "at", "width"] ["words", "at", "width", "number"] [] = true := by kernel_rfl
theorem gn596 : gnOk fs596.1.scope ["int", "bytes", "len"] = true := by kernel_rfl
theorem kp596 (P : Params) : keepIn (KK P) (.ref 596) = true := by kernel_rfl
noncomputable def fs601 : { fd : FuncData // ∀ P, (KK P).lookup 601 = some ⟨.type "function", none, .func fd, #[]⟩ } := ⟨_, fun _ => rfl⟩
theorem cd601 (P : Params) : codeIn (KK P) fs601.1.code fs601.1.qualname = true := by kernel_rfl
theorem ok601 : fnOk fs601.1 ["words"] ["words", "parts", "at", "bits", "mode", "width", "count", "signs", "step", "left"] ["value", "many", "radix"] = true := by kernel_rfl
theorem gn601 : gnOk fs601.1.scope ["len", "_law_taken", "_law_size", "range", "min", "bytes"] = true := by kernel_rfl
theorem kp601 (P : Params) : keepIn (KK P) (.ref 601) = true := by kernel_rfl
noncomputable def fs606 : { fd : FuncData // ∀ P, (KK P).lookup 606 = some ⟨.type "function", none, .func fd, #[]⟩ } := ⟨_, fun _ => rfl⟩
theorem cd606 (P : Params) : codeIn (KK P) fs606.1.code fs606.1.qualname = true := by kernel_rfl
theorem ok606 : fnOk fs606.1 ["script"] ["script", "first", "second", "version", "level", "checks", "room", "parts", "over", "rows", "told", "k", "owners", "word", "powers", "logs", "block", "worth", "words", "heard", "at", "end"] ["blocks", "count", "sizes"] = true := by kernel_rfl
theorem gn606 : gnOk fs606.1.scope ["_law_kinds", "sum", "len", "_law_parts", "_law_made", "range", "zip", "_law_powers", "_law_more", "_law_logs", "_law_high", "_law_told", "min", "_law_taken"] = true := by kernel_rfl
theorem kp606 (P : Params) : keepIn (KK P) (.ref 606) = true := by kernel_rfl
theorem gl_BitBuffer (P : Params) : Gl (KK P) "BitBuffer" (.ref 533) := .inl (by kernel_rfl)
theorem gl_DataOverflowError (P : Params) : Gl (KK P) "DataOverflowError" (.ref 398) := .inl (by kernel_rfl)
theorem gl_EXP_TABLE (P : Params) : Gl (KK P) "EXP_TABLE" (.ref 79) := .inl (by kernel_rfl)
theorem gl_Exception (P : Params) : Gl (KK P) "Exception" (.type "Exception") := .inr ⟨by kernel_rfl, by kernel_rfl, by decide⟩
theorem gl_LOG_TABLE (P : Params) : Gl (KK P) "LOG_TABLE" (.ref 80) := .inl (by kernel_rfl)
theorem gl_Polynomial (P : Params) : Gl (KK P) "Polynomial" (.ref 306) := .inl (by kernel_rfl)
theorem gl_QRData (P : Params) : Gl (KK P) "QRData" (.ref 479) := .inl (by kernel_rfl)
theorem gl_RSBlock (P : Params) : Gl (KK P) "RSBlock" (.ref 378) := .inl (by kernel_rfl)
theorem gl_RS_BLOCK_OFFSET (P : Params) : Gl (KK P) "RS_BLOCK_OFFSET" (.ref 81) := .inl (by kernel_rfl)
theorem gl_TypeError (P : Params) : Gl (KK P) "TypeError" (.type "TypeError") := .inr ⟨by kernel_rfl, by kernel_rfl, by decide⟩
theorem gl_ValueError (P : Params) : Gl (KK P) "ValueError" (.type "ValueError") := .inr ⟨by kernel_rfl, by kernel_rfl, by decide⟩
theorem gl__law_made (P : Params) : Gl (KK P) "_law_made" (.ref 589) := .inl (by kernel_rfl)
theorem gl__law_parts (P : Params) : Gl (KK P) "_law_parts" (.ref 582) := .inl (by kernel_rfl)
theorem gl__law_size (P : Params) : Gl (KK P) "_law_size" (.ref 577) := .inl (by kernel_rfl)
theorem gl__law_taken (P : Params) : Gl (KK P) "_law_taken" (.ref 596) := .inl (by kernel_rfl)
theorem gl__law_told (P : Params) : Gl (KK P) "_law_told" (.ref 601) := .inl (by kernel_rfl)
theorem gl_all (P : Params) : Gl (KK P) "all" (.builtin "all") := .inr ⟨by kernel_rfl, by kernel_rfl, by decide⟩
theorem gl_bytes (P : Params) : Gl (KK P) "bytes" (.type "bytes") := .inr ⟨by kernel_rfl, by kernel_rfl, by decide⟩
theorem gl_check_version (P : Params) : Gl (KK P) "check_version" (.ref 426) := .inl (by kernel_rfl)
theorem gl_create_bytes (P : Params) : Gl (KK P) "create_bytes" (.ref 542) := .inl (by kernel_rfl)
theorem gl_create_data (P : Params) : Gl (KK P) "create_data" (.ref 549) := .inl (by kernel_rfl)
theorem gl_gexp (P : Params) : Gl (KK P) "gexp" (.ref 256) := .inl (by kernel_rfl)
theorem gl_glog (P : Params) : Gl (KK P) "glog" (.ref 249) := .inl (by kernel_rfl)
theorem gl_int (P : Params) : Gl (KK P) "int" (.type "int") := .inr ⟨by kernel_rfl, by kernel_rfl, by decide⟩
theorem gl_isinstance (P : Params) : Gl (KK P) "isinstance" (.builtin "isinstance") := .inr ⟨by kernel_rfl, by kernel_rfl, by decide⟩
theorem gl_iter (P : Params) : Gl (KK P) "iter" (.builtin "iter") := .inr ⟨by kernel_rfl, by kernel_rfl, by decide⟩
theorem gl_len (P : Params) : Gl (KK P) "len" (.builtin "len") := .inr ⟨by kernel_rfl, by kernel_rfl, by decide⟩
theorem gl_length_in_bits (P : Params) : Gl (KK P) "length_in_bits" (.ref 419) := .inl (by kernel_rfl)
theorem gl_max (P : Params) : Gl (KK P) "max" (.builtin "max") := .inr ⟨by kernel_rfl, by kernel_rfl, by decide⟩
theorem gl_min (P : Params) : Gl (KK P) "min" (.builtin "min") := .inr ⟨by kernel_rfl, by kernel_rfl, by decide⟩
theorem gl_mode_sizes_for_version (P : Params) : Gl (KK P) "mode_sizes_for_version" (.ref 412) := .inl (by kernel_rfl)
theorem gl_optimal_mode (P : Params) : Gl (KK P) "optimal_mode" (.ref 440) := .inl (by kernel_rfl)
theorem gl_ord (P : Params) : Gl (KK P) "ord" (.builtin "ord") := .inr ⟨by kernel_rfl, by kernel_rfl, by decide⟩
theorem gl_range (P : Params) : Gl (KK P) "range" (.type "range") := .inr ⟨by kernel_rfl, by kernel_rfl, by decide⟩
theorem gl_rsPoly_LUT (P : Params) : Gl (KK P) "rsPoly_LUT" (.ref 22) := .inl (by kernel_rfl)
theorem gl_rs_blocks_base (P : Params) : Gl (KK P) "rs_blocks_base" (.ref 388) := .inl (by kernel_rfl)
theorem gl_str (P : Params) : Gl (KK P) "str" (.type "str") := .inr ⟨by kernel_rfl, by kernel_rfl, by decide⟩
theorem gl_sum (P : Params) : Gl (KK P) "sum" (.builtin "sum") := .inr ⟨by kernel_rfl, by kernel_rfl, by decide⟩
theorem gl_to_bytestring (P : Params) : Gl (KK P) "to_bytestring" (.ref 433) := .inl (by kernel_rfl)
theorem gl_tuple (P : Params) : Gl (KK P) "tuple" (.type "tuple") := .inr ⟨by kernel_rfl, by kernel_rfl, by decide⟩
theorem gl_zip (P : Params) : Gl (KK P) "zip" (.type "zip") := .inr ⟨by kernel_rfl, by kernel_rfl, by decide⟩
theorem gl_MODE_8BIT_BYTE (P : Params) : Gl (KK P) "MODE_8BIT_BYTE" (.int 4 2177) := .inl (by kernel_rfl)
theorem gl_MODE_ALPHA_NUM (P : Params) : Gl (KK P) "MODE_ALPHA_NUM" (.int 2 2175) := .inl (by kernel_rfl)
theorem gl_MODE_KANJI (P : Params) : Gl (KK P) "MODE_KANJI" (.int 8 2179) := .inl (by kernel_rfl)
theorem gl_MODE_NUMBER (P : Params) : Gl (KK P) "MODE_NUMBER" (.int 1 2173) := .inl (by kernel_rfl)
theorem gl_MODE_SIZE_SMALL (P : Params) : Gl (KK P) "MODE_SIZE_SMALL" (.ref 402) := .inl (by kernel_rfl)
theorem gl_NUMBER_LENGTH (P : Params) : Gl (KK P) "NUMBER_LENGTH" (.ref 405) := .inl (by kernel_rfl)
theorem gl_PAD0 (P : Params) : Gl (KK P) "PAD0" (.int 236 2220) := .inl (by kernel_rfl)
theorem gl_PAD1 (P : Params) : Gl (KK P) "PAD1" (.int 17 2222) := .inl (by kernel_rfl)
theorem gl_RS_BLOCK_TABLE (P : Params) : Gl (KK P) "RS_BLOCK_TABLE" (.ref 242) := .inl (by kernel_rfl)
theorem gl__law_high (P : Params) : Gl (KK P) "_law_high" (.ref 570) := .inl (by kernel_rfl)
theorem gl__law_kinds (P : Params) : Gl (KK P) "_law_kinds" (.ref 566) := .inl (by kernel_rfl)
theorem gl__law_logs (P : Params) : Gl (KK P) "_law_logs" (.ref 569) := .inl (by kernel_rfl)
theorem gl__law_more (P : Params) : Gl (KK P) "_law_more" (.ref 568) := .inl (by kernel_rfl)
theorem gl__law_powers (P : Params) : Gl (KK P) "_law_powers" (.ref 567) := .inl (by kernel_rfl)
theorem at533_buffer (P : Params) : attrOk (KK P) 533 "buffer" = true := by kernel_rfl
theorem so533_buffer (P : Params) : setOk (KK P) 533 "buffer" = true := by kernel_rfl
theorem at533_length (P : Params) : attrOk (KK P) 533 "length" = true := by kernel_rfl
theorem so533_length (P : Params) : setOk (KK P) 533 "length" = true := by kernel_rfl
theorem at479_mode (P : Params) : attrOk (KK P) 479 "mode" = true := by kernel_rfl
theorem so479_mode (P : Params) : setOk (KK P) 479 "mode" = true := by kernel_rfl
theorem at479_data (P : Params) : attrOk (KK P) 479 "data" = true := by kernel_rfl
theorem so479_data (P : Params) : setOk (KK P) 479 "data" = true := by kernel_rfl
theorem at306_num (P : Params) : attrOk (KK P) 306 "num" = true := by kernel_rfl
theorem so306_num (P : Params) : setOk (KK P) 306 "num" = true := by kernel_rfl
theorem me533_put_bit (P : Params) : methOk (KK P) 533 "put_bit" 530 = true := by kernel_rfl
theorem me533_put (P : Params) : methOk (KK P) 533 "put" 516 = true := by kernel_rfl
theorem me479_write (P : Params) : methOk (KK P) 479 "write" 469 = true := by kernel_rfl
theorem nw533 (P : Params) : newOk (KK P) 533 497 = true := by kernel_rfl
theorem kc533 (P : Params) : keepIn (KK P) (.ref 533) = true := by kernel_rfl
theorem nw479 (P : Params) : newOk (KK P) 479 455 = true := by kernel_rfl
theorem kc479 (P : Params) : keepIn (KK P) (.ref 479) = true := by kernel_rfl
theorem nw306 (P : Params) : newOk (KK P) 306 270 = true := by kernel_rfl
theorem kc306 (P : Params) : keepIn (KK P) (.ref 306) = true := by kernel_rfl
theorem ln533 (P : Params) : lenOk (KK P) 533 523 = true := by kernel_rfl
theorem ln479 (P : Params) : lenOk (KK P) 479 462 = true := by kernel_rfl
theorem ln306 (P : Params) : lenOk (KK P) 306 291 = true := by kernel_rfl
end
open PySem PySem.W PySem.Calls PyProof.Rows
theorem rangeSize_st {b : Int} {st : Int} (hb : 0 ≤ b) (hs : 0 < st) : Builtin.Range.rangeSize 0 b st = (((b + st - 1) / st).toNat : Int) := by
  have e : (b + st - 1) / st = (b - 1) / st + 1 := by
    rw [show b + st - 1 = (b - 1) + 1 * st by omega, Int.add_mul_ediv_right _ _ (by omega)]
  unfold Builtin.Range.rangeSize
  by_cases h0 : b = 0
  · subst h0
    have h1 : (st - 1) / st = 0 := Int.ediv_eq_zero_of_lt (by omega) (by omega)
    simp [hs, h1]
  · have : 0 ≤ (b - 1) / st := Int.ediv_nonneg (by omega) (by omega)
    simp [hs, show (0 : Int) < b by omega]
    rw [e]; omega
local macro_rules | `(tactic| tb_rel) => `(tactic| first | with_reducible exact List.mem_cons_self | ((with_reducible refine List.mem_cons_of_mem _ ?_); tb_rel) | ((with_reducible refine List.mem_append_right _ ?_); tb_rel) | with_reducible assumption)
local macro_rules | `(tactic| tb_start) => `(tactic| first | with_reducible exact Put.head | ((with_reducible refine' Put.tail ?a); (case a => tb_start)) | ((with_reducible refine' Put.app _ ?a); (case a => tb_start)))
local macro_rules | `(tactic| got_up) => `(tactic| first | with_reducible assumption | exact Has.n (by tb_rel) | exact Has.b (by assumption) | ((with_reducible refine Has.cons ?_); got_up) | ((with_reducible refine Has.app _ ?_); got_up))
local macro_rules | `(tactic| kln_le) => `(tactic| first | assumption | decide | omega | (simp only [List.length_cons, List.length_nil, List.length_append, List.length_map, List.length_range]; omega))
local macro_rules | `(tactic| cell_call) => `(tactic| first
  | ((with_reducible show wpAny _ _ (eval _ _) _ _ _); first
    | with_reducible refine r_name (by assumption) (by tb_rel) ?_
    | ((with_reducible refine r_int (by assumption) ?_); intro _ _ _)
    | ((with_reducible refine x_attr ?he ?_); (case he => kernel_rfl))
    | with_reducible refine x_bin ?_
    | ((with_reducible refine x_meth ?he ?_); (case he => kernel_rfl))
    | ((with_reducible refine x_call ?he ?_); (case he => kernel_rfl))
    | with_reducible refine x_sub ?_
    | with_reducible refine r_nameG (by assumption) (by assumption) (by assumption) (by tb_rel) (by kt_ors) ?_
    | with_reducible refine r_nameC (by assumption) (by tb_rel) ?_
    | ((with_reducible refine x_cmp ?hm ?_); (case hm => kernel_rfl))
    | with_reducible refine IfExp_ ?_
    | with_reducible refine UnaryOp_ ?_
    | ((with_reducible refine r_str (by assumption) ?_); intro _ _ _)
    | with_reducible refine wpAny_Constant_none ?_
    | with_reducible refine wpAny_Constant_bool ?_
    | with_reducible refine x_slSS ?_
    | with_reducible refine x_slSN ?_
    | with_reducible refine x_slNS ?_
    | with_reducible refine Tuple_ ?_
    | with_reducible refine List_ ?_)
  | ((with_reducible show wpAny _ _ (execs _ _) _ _ _); first
    | with_reducible refine x_cons ?_
    | with_reducible refine x_nil ?_)
  | ((with_reducible show SeqQ _ _ _ _ _ _ _ _); first
    | with_reducible refine x_next ?_
    | with_reducible refine x_ret ?_
    | with_reducible refine x_brk ?_)
  | ((with_reducible show wpAny _ _ (exec _ _) _ _ _); (fail_if_success (with_reducible show wpAny _ _ (exec (PySem.Stmt.Assign _ (PySem.Expr.ListComp _ _ _ _) _) _) _ _ _)); first
    | ((with_reducible refine x_assign ?hs ?_); (case hs => kernel_rfl))
    | with_reducible refine x_if ?_
    | with_reducible refine x_retE ?_
    | ((with_reducible refine x_doc ?hi ?hs (by assumption) ?_); (case hi => kernel_rfl); (case hs => kernel_rfl); intro _ _)
    | ((with_reducible refine x_expr ?hi ?hs ?_); (case hi => kernel_rfl); (case hs => kernel_rfl))
    | with_reducible refine x_aug ?_
    | with_reducible refine x_augA ?_
    | ((with_reducible refine x_augS ?ha ?_); (case ha => (intro _ _ _; kernel_rfl)))
    | ((with_reducible refine x_assignA ?hs ?_); (case hs => kernel_rfl))
    | ((with_reducible refine x_for ?hf ?_); (case hf => (intro _; kernel_rfl)))
    | with_reducible refine wpAny_Break ?_
    | ((fail_if_success (with_reducible show wpAny _ _ (exec (PySem.Stmt.Assign [PySem.Expr.Tuple _ _ _] (PySem.Expr.Tuple _ _ _) _) _) _ _ _)); (with_reducible refine x_assignT ?hs ?hw ?_); (case hw => kernel_rfl); (case hs => kernel_rfl)))
  | ((with_reducible show wpAny _ _ (getAttr _ _ _) _ _ _); with_reducible refine r_attr (by assumption) (by assumption) (by got_up) (by got_up) (by kt_eqs) (by k_get) (by kernel_rfl) ?_; intro _ _)
  | ((with_reducible show wpAny _ _ (storeName _ _ _) _ _ _); first
    | ((with_reducible refine r_store (by assumption) (by tb_start) ?_); intro _ _)
    | ((with_reducible refine r_storeC (by assumption) (by tb_start) (by (intro _; tb_start)) ?hk ?_); (case hk => kernel_rfl); intro _ _ _ _))
  | ((with_reducible show wpAny _ _ (binaryOp _ _ _) _ _ _); first
    | ((with_reducible refine r_fdiv (by assumption) (by kln_le) (pylong_small (by kln_le)) ?_); intro _ _ _)
    | ((with_reducible refine r_mod (by assumption) (by kln_le) ?_); intro _ _ _)
    | ((with_reducible refine r_add (by assumption) ?_); intro _ _ _)
    | ((with_reducible refine r_sub (by assumption) ?_); intro _ _ _)
    | ((with_reducible refine r_addL (by assumption) (by got_up) (by got_up) (by kln_le) ?_); intro _ _ _)
    | ((with_reducible refine r_mulL (by assumption) (by got_up) (by kln_le) (by kln_le) (by kln_le) ?_); intro _ _ _)
    | ((with_reducible refine r_shr (by assumption) (by kln_le) ?_); intro _ _ _)
    | ((with_reducible refine r_and (by assumption) ?_); intro _ _ _)
    | ((with_reducible refine r_xor (by assumption) ?_); intro _ _ _)
    | ((with_reducible refine r_mul (by assumption) (by first | assumption | exact IntMulOk.of_right (by decide) | exact IntMulOk.of_left (by decide)) ?_); intro _ _ _))
  | ((with_reducible show wpAny _ _ (compareOp _ _ _) _ _ _); first
    | with_reducible refine x_le ?_
    | with_reducible refine x_lt ?_
    | with_reducible refine x_gt ?_
    | with_reducible refine x_ge ?_
    | with_reducible refine x_eq ?_
    | with_reducible refine x_ne ?_
    | with_reducible refine x_isRefNone ?_
    | with_reducible refine x_isIntNone ?_
    | with_reducible refine x_isNoneNone ?_)
  | ((with_reducible show wpAny _ _ (PySem.isTrue _ _ _) _ _ _); first
    | ((with_reducible refine x_tcmp ?hm ?_); (case hm => kernel_rfl))
    | with_reducible refine isTrue_not ?_
    | with_reducible refine isTrue_and_nil ?_
    | with_reducible refine isTrue_or_nil ?_
    | with_reducible refine isTrue_and ?_
    | with_reducible refine isTrue_or ?_
    | ((with_reducible refine x_tplain ?he ?_); (case he => kernel_rfl)))
  | with_reducible refine x_truthyB ?_
  | ((with_reducible show wpAny _ _ (truthy _) _ _ _); first
    | with_reducible refine r_truthyI ?_
    | ((with_reducible refine r_truthyL (by assumption) (by got_up) (by kln_le) ?_); intro _ _))
  | ((with_reducible show wpAny _ _ (unaryOp _ _) _ _ _); ((with_reducible refine r_neg (by assumption) ?_); intro _ _ _))
  | ((with_reducible show wpAny _ _ (callWith _ _ _ _ _) _ _ _); first
    | with_reducible refine x_callB10 ?_
    | ((with_reducible refine x_callB0 ?he ?hp ?_); (case he => kernel_rfl); (case hp => kernel_rfl))
    | ((with_reducible refine x_callB1 ?he ?hp ?_); (case he => kernel_rfl); (case hp => kernel_rfl))
    | ((with_reducible refine x_callF0 (by assumption) ?hk ?he ?hp ?_); (case hk => kt_eqs); (case he => kernel_rfl); (case hp => kernel_rfl))
    | ((with_reducible refine x_callF1 (by assumption) ?hk ?he ?hp ?_); (case hk => kt_eqs); (case he => kernel_rfl); (case hp => kernel_rfl))
    | ((with_reducible refine x_callT ?he ?hp ?_); (case he => kernel_rfl); (case hp => kernel_rfl))
    | ((with_reducible refine x_callF00 (by assumption) (by assumption) ?hk ?_); (case hk => kt_eqs))
    | ((with_reducible refine x_callF10 (by assumption) (by assumption) ?hk ?_); (case hk => kt_eqs)))
  | ((with_reducible show wpAny _ _ (spliced _) _ _ _); first
    | ((with_reducible refine x_items ?he ?_); (case he => kernel_rfl))
    | with_reducible refine x_items0 ?_)
  | ((with_reducible show wpAny _ _ (getMethod _ _ _) _ _ _); first
    | (with_reducible refine r_meth (by assumption) (by assumption) (by got_up) (by got_up) (by kt_eqs) (by k_get) ?_)
    | with_reducible refine r_methAppend (by assumption) (by tb_rel) ?_
    | with_reducible refine r_methExtend (by assumption) (by tb_rel) ?_
    | with_reducible refine r_methB slot_find type_find ?_
    | with_reducible refine r_methB FB.slot_bytes_decode FB.type_bytes_decode ?_
    | with_reducible refine r_methB slot_isdigit type_isdigit ?_)
  | ((with_reducible show wpAny _ _ (inplaceOp _ _ _) _ _ _); first
    | ((with_reducible refine r_iadd (by assumption) ?_); intro _ _ _)
    | ((with_reducible refine r_isub (by assumption) ?_); intro _ _ _)
    | ((with_reducible refine r_ior (by assumption) ?_); intro _ _ _))
  | ((with_reducible show wpAny _ _ (loadName _ _) _ _ _); first | with_reducible refine r_load (by assumption) (by tb_rel) ?_ | with_reducible refine r_loadC (by assumption) (by tb_rel) ?_)
  | with_reducible refine x_none ?_
  | ((with_reducible show wpAny _ _ (newList _) _ _ _); ((with_reducible refine r_newList (by assumption) (by first | decide | exact Nat.le_of_ble_eq_true rfl) ?_); intro _ _ _))
  | ((with_reducible show wpAny _ _ (newTuple _) _ _ _); ((with_reducible refine r_newTuple (by assumption) (by first | decide | exact Nat.le_of_ble_eq_true rfl) ?_); intro _ _ _))
  | ((with_reducible show wpAny _ _ (pyIter _) _ _ _); first
    | ((with_reducible refine' r_iterRange ?hS ?ha ?hb ?hQ); (case hS => assumption); (case ha => exact small_of (by kln_le) (by kln_le) (by decide)); (case hb => exact rangeSize_up); intro _ _ _ _ _)
    | ((with_reducible refine' r_iterRange ?hS ?ha ?hb ?hQ); (case hS => assumption); (case ha => exact small_of (by kln_le) (by kln_le) (by decide)); (case hb => exact rangeSize_st (by kln_le) (by decide)); intro _ _ _ _ _)
    | ((with_reducible refine r_iterBytes (by assumption) ?_); intro _ _ _ _ _))
  | ((with_reducible show wpAny _ _ (subscriptTail _ _ _ (Value.int _ _)) _ _ _); first
    | ((with_reducible refine' r_itemI ?hS ?hs ?hu ?hi ?h0 ?h1 ?h2 ?hQ); (case hS => assumption); (case hs => kernel_rfl); (case hu => got_up); (case hi => assumption); (case h0 => kln_le); (case h1 => kln_le); (case h2 => first | omega | kln_le); intro _)
    | ((with_reducible refine' r_itemT ?hS ?hu ?h0 ?hx ?hz ?hq ?hs ?hg); (case hS => assumption); (case hu => got_up); (case h0 => kln_le); (case hx => rfl); (case hz => kln_le); (case hs => kernel_rfl); (case hg => (intro _; kernel_rfl)); (case' hq => skip)))
  | ((with_reducible show wpAny _ _ (subscriptTail _ _ (Value.bytes _ _) (Value.ref _)) _ _ _); ((with_reducible refine' r_sliceB (by assumption) ?hs ?ht (by assumption) (by first | exact IsPart.int _ _ | exact IsPart.none) (by first | exact IsPart.int _ _ | exact IsPart.none) (by kln_le) ?hQ); (case hs => kernel_rfl); (case ht => (intro _; kernel_rfl)); intro _ _ _ _ _))
  | ((with_reducible show wpAny _ _ (subscriptTail _ _ (Value.ref _) (Value.ref _)) _ _ _); ((with_reducible refine' r_sliceL (by assumption) ?hs ?ht ?hu (by first | exact IsPart.int _ _ | exact IsPart.none) (by first | exact IsPart.int _ _ | exact IsPart.none) ?hz ?hQ); (case hu => got_up); (case hz => kln_le); (case hs => kernel_rfl); (case ht => (intro _; kernel_rfl)); intro _ _ _))
  | ((with_reducible show wpAny _ _ (getItem _ _) _ _ _); ((with_reducible refine r_getI (by assumption) (by got_up) (by assumption) (by kln_le) (by kln_le) (by kln_le) ?_); intro _))
  | ((with_reducible show wpAny _ _ (setItem _ _ _) _ _ _); ((with_reducible refine r_setI (by assumption) (by assumption) (by kln_le) (by kln_le) (by kln_le) (by (intro _; tb_start)) ?_); intro _ _ _ _))
  | ((with_reducible show wpAny _ _ (setAttr _ _ _) _ _ _); ((with_reducible refine r_setattr (by assumption) (by assumption) (by got_up) (by tb_rel) (by kt_eqs) (by k_get) (by (intro _; k_put)) (by (intro _; tb_start)) (by (intro _; exact Nat.le_of_ble_eq_true rfl)) ?_); intro _ _ _))
  | ((with_reducible show wpAny _ _ (assign (PySem.Expr.Tuple _ _ _) _ _) _ _ _); ((with_reducible refine' x_asgTup (by assumption) (by assumption) (by got_up) ?hn ?ht ?hQ); (case hn => rfl); (case ht => kernel_rfl); intro _ _))
  | ((with_reducible show wpAny _ _ (assignInOrder _ _) _ _ _); first
    | with_reducible refine x_orderC ?_
    | with_reducible refine x_orderN ?_
    | ((with_reducible refine x_eachC ?he ?_); (case he => kernel_rfl))
    | with_reducible refine x_eachN ?_)
  | ((with_reducible show wpAny _ _ (unpackItems _ _ _) _ _ _); ((with_reducible refine' r_unpack (by assumption) (by assumption) (by got_up) ?hn ?hQ); (case hn => rfl); intro _ _))
  | with_reducible refine x_bindName ?_
  | with_reducible refine x_asgName ?_
  | with_reducible refine r_ifF (rfl : false = false) ?_
  | with_reducible refine r_ifT (rfl : true = true) ?_
  | with_reducible refine r_ifF (Bool.not_true : (!true) = false) ?_
  | with_reducible refine r_ifT (Bool.not_false : (!false) = true) ?_
  | ((with_reducible show wpAny _ _ (call (Value.builtin "len") _ _) _ _ _); first
    | ((with_reducible refine' r_lenB ?hS ?hk ?hz ?hQ); (case hS => assumption); (case hk => assumption); (case hz => kln_le); intro _ _ _)
    | ((with_reducible refine' r_lenInts ?hS ?hu ?hi ?hz ?hQ); (case hS => assumption); (case hu => got_up); (case hi => assumption); (case hz => kln_le); intro _ _ _)
    | ((with_reducible refine' r_lenT ?hS ?hu ?hz ?hQ); (case hS => assumption); (case hu => got_up); (case hz => kln_le); intro _ _ _))
  | ((with_reducible show wpAny _ _ (call (Value.builtin "list.append") _ _) _ _ _); first
    | ((with_reducible refine' r_appendI ?hS ?hi ?hz ?hp ?hQ); (case hS => assumption); (case hi => assumption); (case hz => kln_le); (case hp => (intro _; tb_start)); intro _ _ _ _)
    | ((with_reducible refine' r_appendV ?hS ?hp ?hz ?hQ); (case hS => assumption); (case hp => tb_start); (case hz => kln_le); intro _ _))
  | ((with_reducible show wpAny _ _ (call (Value.builtin "max") _ _) _ _ _); ((with_reducible refine r_max2 (by assumption) (by assumption) ?_); intro _ _ _))
  | ((with_reducible show wpAny _ _ (call (Value.builtin "min") _ _) _ _ _); ((with_reducible refine r_min2 (by assumption) (by assumption) ?_); intro _ _ _))
  | ((with_reducible show wpAny _ _ (call (Value.type "range") _ _) _ _ _); first
    | ((with_reducible refine r_range1 (by assumption) ?_); intro _ _ _ _ _ _)
    | ((with_reducible refine r_range2 (by assumption) ?_); intro _ _ _ _ _ _)
    | ((with_reducible refine r_range3 (by assumption) (by decide) (by decide) ?_); intro _ _ _ _ _ _))
  | ((with_reducible show (Frag.In _ _ ∧ _)); with_reducible refine r_argsK (by assumption) (by assumption) ?_)
  )
local macro_rules | `(tactic| kaf_pre) => `(tactic| first | with_reducible exact KeepsC.refl | ((with_reducible refine KeepsC.app _ ?_); kaf_pre) | ((with_reducible refine KeepsC.cons ?_); kaf_pre) | ((with_reducible refine KeepsC.change ?e ?_); (case e => rfl); kaf_pre) | ((with_reducible refine KeepsC.new ?_); kaf_pre))
local macro_rules | `(tactic| kmk_sum) => `(tactic| first | with_reducible exact List.Sublist.refl _ | ((with_reducible refine List.Sublist.cons_cons _ ?_); kmk_sum) | ((with_reducible refine List.Sublist.cons _ ?_); kmk_sum) | ((with_reducible refine List.Sublist.append (List.Sublist.refl _) ?_); kmk_sum))
section
open PySem PySem.W PySem.Calls PyProof.Rows
local macro_rules | `(tactic| kt_eqs) => `(tactic| first | with_reducible exact at533_buffer _ | with_reducible exact at533_length _ | with_reducible exact so533_length _ | exact at533_buffer _ | exact at533_length _ | exact so533_length _)
local macro_rules | `(tactic| kt_ors) => `(tactic| first | with_reducible exact gl_len _ | with_reducible exact gl_EXP_TABLE _ | exact gl_len _ | exact gl_EXP_TABLE _)
section
variable {mg mb : Str → Option Value} {prog : Program} {w : World} {A : Around} {E : Value → Shared → Prop} {o : OsP} {B : Heap} {env : Env} {l l' : Vars} {c c' : Cels} {n n' pre post : Ledg} {s s' : Shared} {R : Result → Shared → Prop}

abbrev bufD (P : Params) (t1 t2 : Tok) (lb : Addr) (len : Int) (t3 : Tok) : List DictEntry := [⟨PyData.keyHash P "buffer", .str "buffer" t1, .ref lb⟩, ⟨PyData.keyHash P "length", .str "length" t2, .int len t3⟩]
def putL1 (ns : List Int) (len : Int) : List Int := if (ns.length : Int) ≤ len / 8 then ns ++ [0] else ns
def putL (ns : List Int) (len : Int) (bit : Bool) : List Int := if bit then (putL1 ns len).set (len / 8).toNat (Builtin.bitOr ((putL1 ns len).getD (len / 8).toNat 0) (Int.fdiv 128 (2 ^ (len % 8).toNat))) else putL1 ns len

theorem put_bit_spec {x d lb : Addr} {t1 t2 t3 : Tok} {len : Int} {vs : List Value} {ns : List Int} {ep : Nat} {bit : Bool}
    (S : St o B env l c (pre ++ (lb, listOf vs.toArray ep) :: (x, instObj 533 d) :: (d, dictOf (bufD w.params t1 t2 lb len t3) 2) :: post) s)
    (T : Base (KK w.params) mg mb B) (hr : Room A 2 10) (hi : IntsAre vs ns) (h0 : 0 ≤ len) (hlen : (ns.length : Int) = (len + 7) / 8) (hsz : len < 1000000)
    (h : ∀ vs' ep' t s', IntsAre vs' (putL ns len bit) → St o B env l c (pre ++ (lb, listOf vs'.toArray ep') :: (x, instObj 533 d) :: (d, dictOf (bufD w.params t1 t2 lb (len + 1) t) 2) :: post) s' → R (.ok (.ret .none)) s') :
    codeAny (model prog w) A (.call (.ref 530) ⟨[.ref x, .bool bit], []⟩) R s := by
  refine fn_call0 (d := 1) (u := 7) (binds := [("self", .ref x), ("bit", .bool bit)]) (l' := [("self", some (.ref x)), ("bit", some (.bool bit)), ("buf_index", none)]) S T hr (fs530.2 _) (cd530 _) rfl ok530 (BindsTo.of_eq (by kernel_rfl)) (by kernel_rfl) ?_
  clear S T hr
  intro g L A s hr S T ext
  have G := EvG.of (env := envF fs530.1 L 530) gn530 rfl rfl
  have e1 : len.fdiv 8 = len / 8 := by rw [Int.fdiv_eq_ediv_of_nonneg _ (by decide)]
  have e2 : len.fmod 8 = len % 8 := by rw [Int.fmod_eq_emod_of_nonneg _ (by decide)]
  repeat cell_call
  rw [e1] at *
  refine r_iteD (fun hb => ?_) (fun hb => ?_)
  · have hp : putL1 ns len = ns ++ [0] := if_pos hb
    repeat cell_call
    rename_i hi' S'
    rw [← hp] at hi'
    have hl : ((putL1 ns len).length : Int) = (len + 8) / 8 := by rw [hp, List.length_append]; simp; omega
    refine r_iteB (fun hbit => ?_) (fun hbit => ?_)
    · subst hbit
      repeat cell_call
      rw [e2] at *
      repeat cell_call
      exact back_ (by assumption) (List.Sublist.refl _) (by kaf_pre) (fun S' => h _ _ _ _ (by assumption) S')
    · subst hbit
      repeat cell_call
      exact back_ (by assumption) (List.Sublist.refl _) (by kaf_pre) (fun S' => h _ _ _ _ (by assumption) S')
  · have hp : putL1 ns len = ns := if_neg hb
    repeat cell_call
    rw [← hp] at hi
    have hl : ((putL1 ns len).length : Int) = (len + 7) / 8 := by rw [hp, hlen]
    refine r_iteB (fun hbit => ?_) (fun hbit => ?_)
    · subst hbit
      repeat cell_call
      rw [e2] at *
      repeat cell_call
      exact back_ (by assumption) (List.Sublist.refl _) (by kaf_pre) (fun S' => h _ _ _ _ (by assumption) S')
    · subst hbit
      repeat cell_call
      exact back_ (by assumption) (List.Sublist.refl _) (by kaf_pre) (fun S' => h _ _ _ _ (by assumption) S')
end
end
section
open PySem PySem.W PySem.Calls PyProof.Rows
local macro_rules | `(tactic| kt_eqs) => `(tactic| first | with_reducible exact me533_put_bit _ | with_reducible exact kp530 _ | exact me533_put_bit _ | exact kp530 _)
local macro_rules | `(tactic| kt_ors) => `(tactic| first | with_reducible exact gl_range _ | exact gl_range _)
section
variable {mg mb : Str → Option Value} {prog : Program} {w : World} {A : Around} {E : Value → Shared → Prop} {o : OsP} {B : Heap} {env : Env} {l l' : Vars} {c c' : Cels} {n n' pre post : Ledg} {s s' : Shared} {R : Result → Shared → Prop}

theorem putL1_length {ns : List Int} {len : Int} (hlen : (ns.length : Int) = (len + 7) / 8) : ((putL1 ns len).length : Int) = (len + 8) / 8 := by
  unfold putL1
  split
  · rw [List.length_append]; simp; omega
  · omega
theorem putL_length {ns : List Int} {len : Int} {b : Bool} (hlen : (ns.length : Int) = (len + 7) / 8) : ((putL ns len b).length : Int) = (len + 1 + 7) / 8 := by
  unfold putL
  split
  · rw [List.length_set, putL1_length hlen]; omega
  · rw [putL1_length hlen]; omega
def putAll : List Int → Int → List Bool → List Int
  | ns, _, [] => ns
  | ns, len, b :: bs => putAll (putL ns len b) (len + 1) bs
theorem putAll_snoc (b : Bool) : ∀ (bs : List Bool) (ns : List Int) (len : Int), putAll ns len (bs ++ [b]) = putL (putAll ns len bs) (len + bs.length) b
  | [], ns, len => by simp [putAll]
  | x :: bs, ns, len => by
    rw [List.cons_append, putAll, putAll, putAll_snoc b bs]
    congr 1
    simp; omega
theorem putAll_append : ∀ (bs cs : List Bool) (ns : List Int) (len : Int), putAll ns len (bs ++ cs) = putAll (putAll ns len bs) (len + bs.length) cs
  | [], cs, ns, len => by simp [putAll]
  | x :: bs, cs, ns, len => by
    rw [List.cons_append, putAll, putAll, putAll_append bs cs]
    congr 1
    simp; omega
theorem putAll_length {ns : List Int} {len : Int} (bs : List Bool) (hlen : (ns.length : Int) = (len + 7) / 8) : ((putAll ns len bs).length : Int) = (len + bs.length + 7) / 8 := by
  induction bs generalizing ns len with
  | nil => simpa [putAll] using hlen
  | cons b bs ih => rw [putAll, ih (putL_length hlen), List.length_cons]; congr 1; simp; omega
/-- the bits of a number, the high ones first -/
def bitAt (num : Int) (k i : Nat) : Bool := decide (Builtin.bitAnd (Int.fdiv num (2 ^ ((k : Int) - i - 1).toNat)) 1 = 1)
def bitsOf (num : Int) (k : Nat) : List Bool := (List.range k).map (bitAt num k)
theorem bitsOf_length (num : Int) (k : Nat) : (bitsOf num k).length = k := by simp [bitsOf]
theorem bitsOf_take (num : Int) (k i : Nat) (h : i < k) : (bitsOf num k).take (i + 1) = (bitsOf num k).take i ++ [bitAt num k i] := by
  rw [List.take_add_one]
  congr 1
  simp [bitsOf, h]

theorem put_bit_call {x d lb : Addr} {t1 t2 t3 : Tok} {len : Int} {vs : List Value} {ns : List Int} {ep : Nat} {bit : Bool} {Q : Value → Shared → Prop}
    (S : St o B env l c (pre ++ (lb, listOf vs.toArray ep) :: (x, instObj 533 d) :: (d, dictOf (bufD w.params t1 t2 lb len t3) 2) :: post) s)
    (T : Base (KK w.params) mg mb B) (hr : Room A 2 10) (hi : IntsAre vs ns) (h0 : 0 ≤ len) (hlen : (ns.length : Int) = (len + 7) / 8) (hsz : len < 1000000)
    (h : ∀ vs' ep' t s', IntsAre vs' (putL ns len bit) → St o B env l c (pre ++ (lb, listOf vs'.toArray ep') :: (x, instObj 533 d) :: (d, dictOf (bufD w.params t1 t2 lb (len + 1) t) 2) :: post) s' → Q .none s') :
    wpAny (model prog w) A (call (.ref 530) [.ref x, .bool bit]) Q E s := wpAny_call (put_bit_spec S T hr hi h0 hlen hsz h)

structure BufY where
  vs : List Value
  ep : Nat
  t : Tok

theorem put_spec {x d lb : Addr} {t1 t2 t3 u1 u2 : Tok} {len num : Int} {k : Nat} {vs : List Value} {ns : List Int} {ep : Nat}
    (S : St o B env l c (pre ++ (lb, listOf vs.toArray ep) :: (x, instObj 533 d) :: (d, dictOf (bufD w.params t1 t2 lb len t3) 2) :: post) s)
    (T : Base (KK w.params) mg mb B) (hr : Room A 3 20) (hi : IntsAre vs ns) (h0 : 0 ≤ len) (hlen : (ns.length : Int) = (len + 7) / 8) (hsz : len + k < 1000000)
    (h : ∀ vs' ep' t s', IntsAre vs' (putAll ns len (bitsOf num k)) → St o B env l c (pre ++ (lb, listOf vs'.toArray ep') :: (x, instObj 533 d) :: (d, dictOf (bufD w.params t1 t2 lb (len + k) t) 2) :: post) s' → R (.ok (.ret .none)) s') :
    codeAny (model prog w) A (.call (.ref 516) ⟨[.ref x, .int num u1, .int k u2], []⟩) R s := by
  refine fn_call0 (d := 2) (u := 17) (binds := [("self", .ref x), ("num", .int num u1), ("length", .int k u2)]) (l' := [("self", some (.ref x)), ("num", some (.int num u1)), ("length", some (.int k u2)), ("i", none)]) S T hr (fs516.2 _) (cd516 _) rfl ok516 (BindsTo.of_eq (by kernel_rfl)) (by kernel_rfl) ?_
  clear S T hr
  intro g L A s hr S T ext
  have G := EvG.of (env := envF fs516.1 L 516) gn516 rfl rfl
  repeat cell_call
  rename_i it ob s hob S
  have e0 : ((k : Int) - 0).toNat = k := by omega
  rw [e0] at hob
  refine for_rule (X := BufY) (lF := fun v i y => [("self", some (.ref x)), ("num", some (.int num u1)), ("length", some (.int k u2)), ("i", v)]) (cF := fun _ _ => []) (hi := fun _ _ => [])
    (lo := fun i y => pre ++ (lb, listOf y.vs.toArray y.ep) :: (x, instObj 533 d) :: (d, dictOf (bufD w.params t1 t2 lb (len + (i : Nat)) y.t) 2) :: post)
    (P := fun i y => IntsAre y.vs (putAll ns len ((bitsOf num k).take i))) ⟨vs, ep, t3⟩ (iter_range hr.handled 0 1 k) hob (by simpa using S) hi (fun _ _ _ _ => by tb_start) (fun _ _ _ _ _ _ => trivial) ?_ ?_
  · clear S hob s
    rintro i y ob v s hik hP ⟨t, rfl⟩ hob S
    have e1 : (0 + (i : Int) * 1) = i := by omega
    rw [List.nil_append, e1] at S
    repeat cell_call
    rename_i S'
    refine put_bit_call (pre := (it, ob) :: pre) S' (by assumption) hr.le hP (by omega) (putAll_length _ hlen |>.trans (by rw [List.length_take, bitsOf_length]; congr 1; omega)) (by omega) ?_
    intro vs' ep' t' s' hi' S'
    refine x_none (x_next (x_nil ?_))
    refine ⟨⟨vs', ep', t'⟩, some (.int i t), ?_, ?_⟩
    · show IntsAre vs' _
      rw [bitsOf_take _ _ _ hik, putAll_snoc, List.length_take, bitsOf_length, Nat.min_eq_left (Nat.le_of_lt hik)]
      exact hi'
    · show St _ _ _ _ _ ((it, ob) :: (pre ++ _)) _
      rw [show len + ((i + 1 : Nat) : Int) = len + (i : Int) + 1 by omega]
      exact S'
  · intro v y s hP S
    rw [List.nil_append] at S
    refine x_next (x_nil ?_)
    rw [List.take_of_length_le (by rw [bitsOf_length]; exact Nat.le_refl _)] at hP
    exact back_ S (List.Sublist.refl _) (by kaf_pre) (fun S' => h _ _ _ _ hP S')
end
end
section
open PySem PySem.W PySem.Calls PyProof.Rows
local macro_rules | `(tactic| kt_eqs) => `(tactic| first | with_reducible exact so533_buffer _ | with_reducible exact so533_length _ | with_reducible exact at533_length _ | exact so533_buffer _ | exact so533_length _ | exact at533_length _)
local macro_rules | `(tactic| kt_ors) => `(tactic| first | with_reducible exact gl_EXP_TABLE _ | with_reducible exact gl_LOG_TABLE _ | exact gl_EXP_TABLE _ | exact gl_LOG_TABLE _)
section
variable {mg mb : Str → Option Value} {prog : Program} {w : World} {A : Around} {E : Value → Shared → Prop} {o : OsP} {B : Heap} {env : Env} {l l' : Vars} {c c' : Cels} {n n' pre post : Ledg} {s s' : Shared} {R : Result → Shared → Prop}

theorem new_BitBuffer {Q : Value → Shared → Prop} (S : St o B env l c n s) (T : Base (KK w.params) mg mb B) (hr : Room A 3 20)
    (h : ∀ x d lb t1 t2 t3 s', St o B env l c ((lb, listOf ([] : List Value).toArray 0) :: (x, instObj 533 d) :: (d, dictOf (bufD w.params t1 t2 lb 0 t3) 2) :: n) s' → Q (.ref x) s') :
    wpAny (model prog w) A (call (.ref 533) []) Q E s := by
  refine r_new S T (nw533 _) fun x d s S => ?_
  have hr := hr.make (C := 533) (vals := []) (kw := [])
  generalize A.under (.builtin "type.__call__" ⟨[.ref 533], []⟩) = A at *
  refine fn_call0 (d := 1) (u := 16) (binds := [("self", .ref x)]) (l' := [("self", some (.ref x))]) S T hr.le (fs497.2 _) (cd497 _) rfl ok497 (BindsTo.of_eq (by kernel_rfl)) (by kernel_rfl) ?_
  clear S hr
  intro g L A s hr S T ext
  have G := EvG.of (env := envF fs497.1 L 497) gn497 rfl rfl
  repeat cell_call
  exact back_ (by assumption) (List.Sublist.refl _) (by kaf_pre) (fun S' => ⟨rfl, h _ _ _ _ _ _ _ S'⟩)

theorem len_BitBuffer {x d lb : Addr} {t1 t2 t3 : Tok} {len : Int} {Q : Value → Shared → Prop} (S : St o B env l c n s) (T : Base (KK w.params) mg mb B) (hr : Room A 3 20)
    (h1 : (x, instObj 533 d) ∈ n) (h2 : (d, dictOf (bufD w.params t1 t2 lb len t3) 2) ∈ n) (h0 : 0 ≤ len) (hsz : len < 1000000)
    (h : ∀ t s', St o B env l c n s' → Q (.int len t) s') :
    wpAny (model prog w) A (call (.builtin "len") [.ref x]) Q E s := by
  refine r_lenInst S T (Has.n h1) (Has.n h2) (ln533 _) (wpAny_call ?_)
  refine fn_call0 (d := 1) (u := 16) (binds := [("self", .ref x)]) (l' := [("self", some (.ref x))]) S T (Room.in1 hr.le) (fs523.2 _) (cd523 _) rfl ok523 (BindsTo.of_eq (by kernel_rfl)) (by kernel_rfl) ?_
  clear S hr
  intro g L A s hr S T ext
  have G := EvG.of (env := envF fs523.1 L 523) gn523 rfl rfl
  repeat cell_call
  rename_i S
  exact back_ S (List.Sublist.refl _) (by kaf_pre) (fun S' => lenBack_ S' h0 (by omega) h)

/-- the exponents and the logarithms of the text's tables -/
def expTab : List Int := [1, 2, 4, 8, 16, 32, 64, 128, 29, 58, 116, 232, 205, 135, 19, 38, 76, 152, 45, 90, 180, 117, 234, 201, 143, 3, 6, 12, 24, 48, 96, 192, 157, 39, 78, 156, 37, 74, 148, 53, 106, 212, 181, 119, 238, 193, 159, 35, 70, 140, 5, 10, 20, 40, 80, 160, 93, 186, 105, 210, 185, 111, 222, 161, 95, 190, 97, 194, 153, 47, 94, 188, 101, 202, 137, 15, 30, 60, 120, 240, 253, 231, 211, 187, 107, 214, 177, 127, 254, 225, 223, 163, 91, 182, 113, 226, 217, 175, 67, 134, 17, 34, 68, 136, 13, 26, 52, 104, 208, 189, 103, 206, 129, 31, 62, 124, 248, 237, 199, 147, 59, 118, 236, 197, 151, 51, 102, 204, 133, 23, 46, 92, 184, 109, 218, 169, 79, 158, 33, 66, 132, 21, 42, 84, 168, 77, 154, 41, 82, 164, 85, 170, 73, 146, 57, 114, 228, 213, 183, 115, 230, 209, 191, 99, 198, 145, 63, 126, 252, 229, 215, 179, 123, 246, 241, 255, 227, 219, 171, 75, 150, 49, 98, 196, 149, 55, 110, 220, 165, 87, 174, 65, 130, 25, 50, 100, 200, 141, 7, 14, 28, 56, 112, 224, 221, 167, 83, 166, 81, 162, 89, 178, 121, 242, 249, 239, 195, 155, 43, 86, 172, 69, 138, 9, 18, 36, 72, 144, 61, 122, 244, 245, 247, 243, 251, 235, 203, 139, 11, 22, 44, 88, 176, 125, 250, 233, 207, 131, 27, 54, 108, 216, 173, 71, 142, 1]
def logTab : List Int := [0, 0, 1, 25, 2, 50, 26, 198, 3, 223, 51, 238, 27, 104, 199, 75, 4, 100, 224, 14, 52, 141, 239, 129, 28, 193, 105, 248, 200, 8, 76, 113, 5, 138, 101, 47, 225, 36, 15, 33, 53, 147, 142, 218, 240, 18, 130, 69, 29, 181, 194, 125, 106, 39, 249, 185, 201, 154, 9, 120, 77, 228, 114, 166, 6, 191, 139, 98, 102, 221, 48, 253, 226, 152, 37, 179, 16, 145, 34, 136, 54, 208, 148, 206, 143, 150, 219, 189, 241, 210, 19, 92, 131, 56, 70, 64, 30, 66, 182, 163, 195, 72, 126, 110, 107, 58, 40, 84, 250, 133, 186, 61, 202, 94, 155, 159, 10, 21, 121, 43, 78, 212, 229, 172, 115, 243, 167, 87, 7, 112, 192, 247, 140, 128, 99, 13, 103, 74, 222, 237, 49, 197, 254, 24, 227, 165, 153, 119, 38, 184, 180, 124, 17, 68, 146, 217, 35, 32, 137, 46, 55, 63, 209, 91, 149, 188, 207, 205, 144, 135, 151, 178, 220, 252, 190, 97, 242, 86, 211, 171, 20, 42, 93, 158, 132, 60, 57, 83, 71, 109, 65, 162, 31, 45, 67, 216, 183, 123, 164, 118, 196, 23, 73, 236, 127, 12, 111, 246, 108, 161, 59, 82, 41, 157, 85, 170, 251, 96, 134, 177, 187, 204, 62, 90, 203, 89, 95, 176, 156, 169, 160, 81, 11, 245, 22, 235, 122, 117, 44, 215, 79, 174, 213, 233, 230, 231, 173, 232, 116, 214, 244, 234, 168, 80, 88, 175]
/-- a list of ints of the module's top -/
def intsOf : List Value → Option (List Int)
  | [] => some []
  | .int i _ :: r => (intsOf r).map (i :: ·)
  | _ => none
theorem intsAre_of : ∀ {vs : List Value} {ns : List Int}, intsOf vs = some ns → IntsAre vs ns
  | [], ns, h => by cases h; exact .nil
  | .int i t :: r, ns, h => by
    simp only [intsOf, Option.map_eq_some_iff] at h
    obtain ⟨ms, h1, rfl⟩ := h
    exact .cons i t (intsAre_of h1)
noncomputable def ob79 : { vs : List Value // ∀ P, (KK P).lookup 79 = some (listOf vs.toArray 0) } := ⟨_, fun _ => rfl⟩
noncomputable def ob80 : { vs : List Value // ∀ P, (KK P).lookup 80 = some (listOf vs.toArray 0) } := ⟨_, fun _ => rfl⟩
theorem in79 : IntsAre ob79.1 expTab := intsAre_of (by kernel_rfl)
theorem in80 : IntsAre ob80.1 logTab := intsAre_of (by kernel_rfl)

theorem gexp_call {k : Int} {u : Tok} {Q : Value → Shared → Prop} (S : St o B env l c n s) (T : Base (KK w.params) mg mb B) (hr : Room A 2 10)
    (h : ∀ t s', St o B env l c n s' → Q (.int (expTab.getD (k % 255).toNat 0) t) s') : wpAny (model prog w) A (call (.ref 256) [.int k u]) Q E s := by
  refine wpAny_call (fn_call0 (d := 1) (u := 7) (binds := [("n", .int k u)]) (l' := [("n", some (.int k u))]) S T hr (fs256.2 _) (cd256 _) rfl ok256 (BindsTo.of_eq (by kernel_rfl)) (by kernel_rfl) ?_)
  clear S hr
  intro g L A s hr S T ext
  have G := EvG.of (env := envF fs256.1 L 256) gn256 rfl rfl
  have e : k.fmod 255 = k % 255 := by rw [Int.fmod_eq_emod_of_nonneg _ (by decide)]
  have hz : expTab.length = 256 := by decide
  repeat cell_call
  rw [e]
  rename_i S
  refine r_itemI S (by with_unfolding_all rfl) (Has.b (T.kin _ _ (ob79.2 _))) in79 (by omega) (by rw [hz]; omega) (by omega) fun t => ?_
  repeat cell_call
  exact back_ S (List.Sublist.refl _) (by kaf_pre) (fun S' => h _ _ S')

theorem glog_call {k : Int} {u : Tok} {Q : Value → Shared → Prop} (S : St o B env l c n s) (T : Base (KK w.params) mg mb B) (hr : Room A 2 10) (h0 : 1 ≤ k) (h1 : k < 256)
    (h : ∀ t s', St o B env l c n s' → Q (.int (logTab.getD k.toNat 0) t) s') : wpAny (model prog w) A (call (.ref 249) [.int k u]) Q E s := by
  refine wpAny_call (fn_call0 (d := 1) (u := 7) (binds := [("n", .int k u)]) (l' := [("n", some (.int k u))]) S T hr (fs249.2 _) (cd249 _) rfl ok249 (BindsTo.of_eq (by kernel_rfl)) (by kernel_rfl) ?_)
  clear S hr
  intro g L A s hr S T ext
  have G := EvG.of (env := envF fs249.1 L 249) gn249 rfl rfl
  have hz : logTab.length = 256 := by decide
  repeat cell_call
  refine r_iteNeg (by omega) ?_
  repeat cell_call
  rename_i S
  refine r_itemI S (by with_unfolding_all rfl) (Has.b (T.kin _ _ (ob80.2 _))) in80 (by omega) (by rw [hz]; omega) (by omega) fun t => ?_
  repeat cell_call
  exact back_ S (List.Sublist.refl _) (by kaf_pre) (fun S' => h _ _ S')
end
end
section
open PySem PySem.W PySem.Calls PyProof.Rows
local macro_rules | `(tactic| kt_eqs) => `(tactic| first | with_reducible exact kp426 _ | with_reducible exact kp412 _ | exact kp426 _ | exact kp412 _)
local macro_rules | `(tactic| kt_ors) => `(tactic| first | with_reducible exact gl_MODE_NUMBER _ | with_reducible exact gl_MODE_ALPHA_NUM _ | with_reducible exact gl_MODE_8BIT_BYTE _ | with_reducible exact gl_MODE_KANJI _ | with_reducible exact gl_check_version _ | with_reducible exact gl_mode_sizes_for_version _ | with_reducible exact gl_MODE_SIZE_SMALL _ | exact gl_MODE_NUMBER _ | exact gl_MODE_ALPHA_NUM _ | exact gl_MODE_8BIT_BYTE _ | exact gl_MODE_KANJI _ | exact gl_check_version _ | exact gl_mode_sizes_for_version _ | exact gl_MODE_SIZE_SMALL _)
section
variable {mg mb : Str → Option Value} {prog : Program} {w : World} {A : Around} {E : Value → Shared → Prop} {o : OsP} {B : Heap} {env : Env} {l l' : Vars} {c c' : Cels} {n n' pre post : Ledg} {s s' : Shared} {R : Result → Shared → Prop}

theorem check_version_call {v : Int} {u : Tok} {Q : Value → Shared → Prop} (S : St o B env l c n s) (T : Base (KK w.params) mg mb B) (hr : Room A 2 10) (h1 : 1 ≤ v) (h2 : v ≤ 40)
    (h : ∀ s', St o B env l c n s' → Q .none s') : wpAny (model prog w) A (call (.ref 426) [.int v u]) Q E s := by
  refine wpAny_call (fn_call0 (d := 1) (u := 7) (binds := [("version", .int v u)]) (l' := [("version", some (.int v u))]) S T hr (fs426.2 _) (cd426 _) rfl ok426 (BindsTo.of_eq (by kernel_rfl)) (by kernel_rfl) ?_)
  clear S hr
  intro g L A s hr S T ext
  have G := EvG.of (env := envF fs426.1 L 426) gn426 rfl rfl
  repeat cell_call
  refine r_iteNeg (by omega) ?_
  repeat cell_call
  refine r_iteNeg (by omega) ?_
  repeat cell_call
  refine back_ (v := .none) (by assumption) (List.Sublist.refl _) (by kaf_pre) ?_
  exact fun S' => h _ S'

theorem mode_sizes_call {v : Int} {u : Tok} {Q : Value → Shared → Prop} (S : St o B env l c n s) (T : Base (KK w.params) mg mb B) (hr : Room A 2 10) (h2 : v < 10)
    (h : ∀ s', St o B env l c n s' → Q (.ref 402) s') : wpAny (model prog w) A (call (.ref 412) [.int v u]) Q E s := by
  refine wpAny_call (fn_call0 (d := 1) (u := 7) (binds := [("version", .int v u)]) (l' := [("version", some (.int v u))]) S T hr (fs412.2 _) (cd412 _) rfl ok412 (BindsTo.of_eq (by kernel_rfl)) (by kernel_rfl) ?_)
  clear S hr
  intro g L A s hr S T ext
  have G := EvG.of (env := envF fs412.1 L 412) gn412 rfl rfl
  repeat cell_call
  refine r_itePos (by omega) ?_
  repeat cell_call
  exact back_ (by assumption) (List.Sublist.refl _) (by kaf_pre) (fun S' => h _ S')

noncomputable def ob402 : { es : List DictEntry // ∀ P, (KK P).lookup 402 = some (dictOf es 4) } := ⟨_, fun _ => rfl⟩
theorem ints402 : intEs ob402.1 = some [(1, .int 10 2181), (2, .int 9 2182), (4, .int 8 2183), (8, .int 8 2184)] := by kernel_rfl

def lenBits (mode : Int) : Int := if mode = 1 then 10 else if mode = 2 then 9 else 8
theorem length_in_bits_call {m v : Int} {t u : Tok} {Q : Value → Shared → Prop} (S : St o B env l c n s) (T : Base (KK w.params) mg mb B) (hr : Room A 3 20) (hm : m = 1 ∨ m = 2 ∨ m = 4) (h1 : 1 ≤ v) (h2 : v < 10)
    (h : ∀ t s', St o B env l c n s' → Q (.int (lenBits m) t) s') : wpAny (model prog w) A (call (.ref 419) [.int m t, .int v u]) Q E s := by
  refine wpAny_call (fn_call0 (d := 2) (u := 17) (binds := [("mode", .int m t), ("version", .int v u)]) (l' := [("mode", some (.int m t)), ("version", some (.int v u))]) S T hr (fs419.2 _) (cd419 _) rfl ok419 (BindsTo.of_eq (by kernel_rfl)) (by kernel_rfl) ?_)
  clear S hr
  intro g L A s hr S T ext
  have G := EvG.of (env := envF fs419.1 L 419) gn419 rfl rfl
  repeat cell_call
  rename_i S
  refine r_notInTup S (.n (.head _)) (IntsAre.cons _ _ (.cons _ _ (.cons _ _ (.cons _ _ .nil)))) ?_
  repeat cell_call
  have e : (![1, 2, 4, 8].any fun x => x == m) = false := by rcases hm with rfl | rfl | rfl <;> rfl
  refine r_ifF e ?_
  repeat cell_call
  rename_i S
  refine check_version_call S (by assumption) hr.le h1 (by omega) fun s S => ?_
  repeat cell_call
  rename_i S'
  refine mode_sizes_call S (by assumption) hr.le h2 fun s S => ?_
  repeat cell_call
  have hv : ∃ t, valueAt [(1, Value.int 10 2181), (2, .int 9 2182), (4, .int 8 2183), (8, .int 8 2184)] m = some (.int (lenBits m) t) := by rcases hm with rfl | rfl | rfl <;> exact ⟨_, rfl⟩
  obtain ⟨t', hv⟩ := hv
  refine r_dictSub S (.b (T.kin _ _ (ob402.2 _))) ints402 (by decide) hv (fun s S => ?_) (by with_unfolding_all rfl)
  repeat cell_call
  exact back_ S (List.sublist_cons_self _ _) (by kaf_pre) (fun S' => h _ _ S')
end
end
section
open PySem PySem.W PySem.Calls PyProof.Rows
def alphaB : Array UInt8 := #[48, 49, 50, 51, 52, 53, 54, 55, 56, 57, 65, 66, 67, 68, 69, 70, 71, 72, 73, 74, 75, 76, 77, 78, 79, 80, 81, 82, 83, 84, 85, 86, 87, 88, 89, 90, 32, 36, 37, 42, 43, 45, 46, 47, 58]
theorem gl_ALPHA_NUM (P : Params) : Gl (KK P) "ALPHA_NUM" (.bytes alphaB 2208) := .inl (by kernel_rfl)
noncomputable def ob405 : { es : List DictEntry // ∀ P, (KK P).lookup 405 = some (dictOf es 3) } := ⟨_, fun _ => rfl⟩
theorem ints405 : intEs ob405.1 = some [(3, .int 10 2211), (2, .int 7 2213), (1, .int 4 2215)] := by kernel_rfl

/-- the signs of the second mode; the octets of a value; a part's fields: a number and its width -/
def signTab : List Nat := [48, 49, 50, 51, 52, 53, 54, 55, 56, 57, 65, 66, 67, 68, 69, 70, 71, 72, 73, 74, 75, 76, 77, 78, 79, 80, 81, 82, 83, 84, 85, 86, 87, 88, 89, 90, 32, 36, 37, 42, 43, 45, 46, 47, 58]
def octet (m : Nat) (v : Nat) : Nat := if m = 4 then v else signTab.getD v 0
def radixOf (m : Nat) : Nat := if m = 1 then 10 else if m = 2 then 45 else 256
def stepOf (m : Nat) : Nat := if m = 1 then 3 else if m = 2 then 2 else 1
def sizeOf (m k : Nat) : Nat := if m = 1 then 10 * (k / 3) + [0, 4, 7].getD (k % 3) 0 else if m = 2 then 11 * (k / 2) + 6 * (k % 2) else 8 * k
def numOf (r : Nat) (g : List Nat) : Nat := g.foldl (fun a v => r * a + v) 0
def grp (m : Nat) (vals : List Nat) (i : Nat) : List Nat := (vals.drop (stepOf m * i)).take (stepOf m)
def fld (m : Nat) (vals : List Nat) (i : Nat) : Nat × Nat := (numOf (radixOf m) (grp m vals i), sizeOf m (grp m vals i).length)
def nGrp (m : Nat) (vals : List Nat) : Nat := (vals.length + stepOf m - 1) / stepOf m
def flds (m : Nat) (vals : List Nat) : List (Nat × Nat) := (List.range (nGrp m vals)).map (fld m vals)
def bitsF (fs : List (Nat × Nat)) : List Bool := fs.flatMap fun f => bitsOf f.1 f.2
def octs (m : Nat) (vals : List Nat) : List Int := vals.map fun v => (octet m v : Int)
theorem bitsF_append (a b : List (Nat × Nat)) : bitsF (a ++ b) = bitsF a ++ bitsF b := by simp [bitsF]
theorem flds_take {m : Nat} {vals : List Nat} {i : Nat} (h : i < nGrp m vals) : (flds m vals).take (i + 1) = (flds m vals).take i ++ [fld m vals i] := by
  rw [List.take_add_one]
  congr 1
  simp [flds, h]
def wid (fs : List (Nat × Nat)) : Nat := (fs.map (·.2)).sum
theorem bitsF_length (fs : List (Nat × Nat)) : (bitsF fs).length = wid fs := by
  induction fs with
  | nil => rfl
  | cons f fs ih => simp [bitsF, wid, bitsOf_length] at ih ⊢

theorem alpha_find : ∀ v < 45, Builtin.Bytes.find? alphaB #[(signTab.getD v 0).toUInt8] 0 alphaB.size = some v := by decide +kernel
theorem sign_lt : ∀ v < 45, signTab.getD v 0 < 128 := by decide +kernel
theorem digit_sign : ∀ v < 10, signTab.getD v 0 = 48 + v := by decide +kernel
/-- bytes of given numbers -/
theorem byt_of {b : Array UInt8} {ks : List Nat} (h : KBw.bInts b = ks.map fun (k : Nat) => (k : Int)) : b.toList.map (·.toNat) = ks := by
  have h' : (b.toList.map fun c => (c.toNat : Int)) = ks.map fun (k : Nat) => (k : Int) := h
  have := congrArg (List.map Int.toNat) h'
  rw [List.map_map, List.map_map] at this
  have e1 : (Int.toNat ∘ fun k : Nat => (k : Int)) = id := by funext k; rfl
  have e2 : (Int.toNat ∘ fun c : UInt8 => (c.toNat : Int)) = (·.toNat) := by funext k; rfl
  rw [e1, e2, List.map_id] at this
  exact this
theorem byt_one {b : Array UInt8} {k : Nat} (h : KBw.bInts b = [(k : Int)]) : b = #[k.toUInt8] := by
  have h' := byt_of (ks := [k]) h
  rcases b with ⟨bl⟩
  match bl, h' with
  | [c], h' =>
    simp at h'
    subst h'
    simp
  | [], h' => simp at h'
  | _ :: _ :: _, h' => simp at h'
end
section
open PySem PySem.W PySem.Calls PyProof.Rows
local macro_rules | `(tactic| kt_eqs) => `(tactic| first | with_reducible exact at479_mode _ | with_reducible exact at479_data _ | with_reducible exact me533_put _ | with_reducible exact kp516 _ | exact at479_mode _ | exact at479_data _ | exact me533_put _ | exact kp516 _)
local macro_rules | `(tactic| kt_ors) => `(tactic| first | with_reducible exact gl_MODE_NUMBER _ | with_reducible exact gl_MODE_ALPHA_NUM _ | with_reducible exact gl_range _ | with_reducible exact gl_len _ | with_reducible exact gl_NUMBER_LENGTH _ | with_reducible exact gl_int _ | with_reducible exact gl_ALPHA_NUM _ | exact gl_MODE_NUMBER _ | exact gl_MODE_ALPHA_NUM _ | exact gl_range _ | exact gl_len _ | exact gl_NUMBER_LENGTH _ | exact gl_int _ | exact gl_ALPHA_NUM _)
section
variable {mg mb : Str → Option Value} {prog : Program} {w : World} {A : Around} {E : Value → Shared → Prop} {o : OsP} {B : Heap} {env : Env} {l l' : Vars} {c c' : Cels} {n n' pre post : Ledg} {s s' : Shared} {R : Result → Shared → Prop}
abbrev qrD (P : Params) (t1 t2 : Tok) (m : Int) (tm : Tok) (b : Array UInt8) (tb : Tok) : List DictEntry := [⟨PyData.keyHash P "mode", .str "mode" t1, .int m tm⟩, ⟨PyData.keyHash P "data", .str "data" t2, .bytes b tb⟩]

theorem put_call {x d lb : Addr} {t1 t2 t3 u1 u2 : Tok} {len num : Int} {k : Nat} {kk : Int} {vs : List Value} {ns : List Int} {ep : Nat} {Q : Value → Shared → Prop}
    (S : St o B env l c (pre ++ (lb, listOf vs.toArray ep) :: (x, instObj 533 d) :: (d, dictOf (bufD w.params t1 t2 lb len t3) 2) :: post) s)
    (T : Base (KK w.params) mg mb B) (hr : Room A 3 20) (hi : IntsAre vs ns) (hk : kk = k) (h0 : 0 ≤ len) (hlen : (ns.length : Int) = (len + 7) / 8) (hsz : len + k < 1000000)
    (h : ∀ vs' ep' t s', IntsAre vs' (putAll ns len (bitsOf num k)) → St o B env l c (pre ++ (lb, listOf vs'.toArray ep') :: (x, instObj 533 d) :: (d, dictOf (bufD w.params t1 t2 lb (len + k) t) 2) :: post) s' → Q .none s') :
    wpAny (model prog w) A (call (.ref 516) [.ref x, .int num u1, .int kk u2]) Q E s := by
  subst hk
  exact wpAny_call (put_spec S T hr hi h0 hlen hsz h)

structure WrY where
  vs : List Value
  ep : Nat
  t : Tok
  ch : Option Value
  bl : Option Value

theorem slice_nat (ns : List Int) (i k : Nat) : (ns.drop (clipAt ns.length (i : Int))).take (clipAt ns.length ((i : Int) + k) - clipAt ns.length (i : Int)) = (ns.drop i).take k := by
  rw [show (i : Int) + k = ((i + k : Nat) : Int) by omega, clipAt_nat, clipAt_nat]
  by_cases h : i ≤ ns.length
  · rw [Nat.min_eq_left h, List.take_eq_take_iff, List.length_drop]
    omega
  · rw [List.drop_of_length_le (l := ns) (i := min i ns.length) (by omega), List.drop_of_length_le (l := ns) (i := i) (by omega), List.take_nil, List.take_nil]

theorem dig_text {G : List Nat} (h : ∀ v ∈ G, v < 10) (h1 : G.length = 1 ∨ G.length = 2 ∨ G.length = 3) : PySem.intText? ⟨(G.map (octet 1)).toArray⟩ = some (numOf 10 G : Nat) := by
  have e : G.map (octet 1) = G.map (48 + ·) := List.map_congr_left fun v hv => digit_sign v (h v hv)
  rw [e]
  match G, h, h1 with
  | [a], h, _ => rw [show (numOf 10 [a] : Nat) = a by simp [numOf]]; exact int1 a (h a (.head _))
  | [a, b], h, _ => rw [show (numOf 10 [a, b] : Nat) = 10 * a + b by simp [numOf]]; exact int2 a (h a (.head _)) b (h b (.tail _ (.head _)))
  | [a, b, c], h, _ => rw [show (numOf 10 [a, b, c] : Nat) = 100 * a + 10 * b + c by simp [numOf]; omega]; exact int3 a (h a (.head _)) b (h b (.tail _ (.head _))) c (h c (.tail _ (.tail _ (.head _))))
  | [], _, h => simp at h
  | _ :: _ :: _ :: _ :: _, _, h => simp at h
theorem dig_width {G : List Nat} (h1 : G.length = 1 ∨ G.length = 2 ∨ G.length = 3) : ∃ t, valueAt [(3, Value.int 10 2211), (2, .int 7 2213), (1, .int 4 2215)] (G.length : Int) = some (.int (sizeOf 1 G.length : Nat) t) := by
  rcases h1 with h | h | h <;> rw [h]
  · exact ⟨2215, rfl⟩
  · exact ⟨2213, rfl⟩
  · exact ⟨2211, rfl⟩
theorem octs_ofNat (m : Nat) (vals : List Nat) : octs m vals = (vals.map (octet m)).map fun (k : Nat) => (k : Int) := by simp [octs]
theorem octs_len (m : Nat) (vals : List Nat) : (octs m vals).length = vals.length := by simp [octs]
theorem grp_slice (m : Nat) (vals : List Nat) (i : Nat) : ((octs m vals).drop (clipAt (octs m vals).length ((stepOf m * i : Nat) : Int))).take (clipAt (octs m vals).length (((stepOf m * i : Nat) : Int) + (stepOf m : Nat)) - clipAt (octs m vals).length ((stepOf m * i : Nat) : Int)) = octs m (grp m vals i) := by
  rw [slice_nat]
  simp [octs, grp, List.map_drop, List.map_take]

theorem wid_take {m : Nat} {vals : List Nat} {i : Nat} (h : i < nGrp m vals) : ∀ len : Int, len + (wid ((flds m vals).take (i + 1)) : Nat) = len + (wid ((flds m vals).take i) : Nat) + (fld m vals i).2 := by
  intro len
  rw [flds_take h]
  simp [wid]
  omega
theorem size_le (m k : Nat) : sizeOf m k ≤ 20 + 11 * k := by
  unfold sizeOf
  split
  · have : k % 3 = 0 ∨ k % 3 = 1 ∨ k % 3 = 2 := by omega
    rcases this with h | h | h <;> simp [h] <;> omega
  · split <;> omega
theorem fld_le (m : Nat) (vals : List Nat) (i : Nat) : (fld m vals i).2 ≤ 60 := by
  have h := size_le m (grp m vals i).length
  have h2 : (grp m vals i).length ≤ 3 := by
    have : stepOf m ≤ 3 := by unfold stepOf; split <;> (try split) <;> decide
    simp [grp]; omega
  show sizeOf m _ ≤ 60
  omega
theorem wid_take_le {m : Nat} {vals : List Nat} : ∀ i, wid ((flds m vals).take i) + 60 ≤ 60 * (i + 1) := by
  intro i
  have h : ∀ (l : List (Nat × Nat)), (∀ f ∈ l, f.2 ≤ 60) → wid l ≤ 60 * l.length := by
    intro l
    induction l with
    | nil => intro _; simp [wid]
    | cons f l ih =>
      intro hf
      have h1 := hf f (.head _)
      have h2 := ih fun g hg => hf g (.tail _ hg)
      simp [wid] at h2 ⊢
      omega
  have h3 := h ((flds m vals).take i) fun f hf => by
    obtain ⟨j, _, rfl⟩ := List.mem_map.mp (List.mem_of_mem_take hf)
    exact fld_le _ _ _
  have h4 : ((flds m vals).take i).length ≤ i := by simp; omega
  omega

theorem write1_spec {x d lb q dq : Addr} {t1 t2 t3 q1 q2 tm tb : Tok} {b : Array UInt8} {len : Int} {vals : List Nat} {vs : List Value} {ns : List Int} {ep : Nat}
    (S : St o B env l c (pre ++ (lb, listOf vs.toArray ep) :: (x, instObj 533 d) :: (d, dictOf (bufD w.params t1 t2 lb len t3) 2) :: post) s)
    (T : Base (KK w.params) mg mb B) (hr : Room A 4 30) (hi : IntsAre vs ns) (hb : KBw.bInts b = octs 1 vals) (hv : ∀ v ∈ vals, v < 10) (hz : vals.length ≤ 100) (hlen : (ns.length : Int) = (len + 7) / 8) (h0 : 0 ≤ len) (hsz : len < 10000)
    (g1 : (q, instObj 479 dq) ∈ post) (g2 : (dq, dictOf (qrD w.params q1 q2 1 tm b tb) 2) ∈ post)
    (h : ∀ vs' ep' t s', IntsAre vs' (putAll ns len (bitsF (flds 1 vals))) → St o B env l c (pre ++ (lb, listOf vs'.toArray ep') :: (x, instObj 533 d) :: (d, dictOf (bufD w.params t1 t2 lb (len + wid (flds 1 vals)) t) 2) :: post) s' → R (.ok (.ret .none)) s') :
    codeAny (model prog w) A (.call (.ref 469) ⟨[.ref q, .ref x], []⟩) R s := by
  refine fn_call0 (d := 3) (u := 27) (binds := [("self", .ref q), ("buffer", .ref x)]) (l' := [("self", some (.ref q)), ("buffer", some (.ref x)), ("i", none), ("chars", none), ("bit_length", none), ("data", none), ("c", none)]) S T hr (fs469.2 _) (cd469 _) rfl ok469 (BindsTo.of_eq (by kernel_rfl)) (by kernel_rfl) ?_
  clear S T hr
  intro g L A s hr S T ext
  have G := EvG.of (env := envF fs469.1 L 469) gn469 rfl rfl
  have hbl : (octs 1 vals).length = vals.length := by simp [octs]
  repeat cell_call
  refine r_itePos rfl ?_
  repeat cell_call
  rename_i it ob s hob S
  have eN : (((octs 1 vals).length : Int) + 3 - 1) / 3 = nGrp 1 vals := by rw [hbl]; unfold nGrp stepOf; simp; omega
  rw [eN, Int.toNat_natCast] at hob
  refine for_rule (X := WrY) (lF := fun v i y => [("self", some (.ref q)), ("buffer", some (.ref x)), ("i", v), ("chars", y.ch), ("bit_length", y.bl), ("data", none), ("c", none)]) (cF := fun _ _ => []) (hi := fun _ _ => [])
    (lo := fun i y => pre ++ (lb, listOf y.vs.toArray y.ep) :: (x, instObj 533 d) :: (d, dictOf (bufD w.params t1 t2 lb (len + (wid ((flds 1 vals).take i) : Nat)) y.t) 2) :: post)
    (P := fun i y => IntsAre y.vs (putAll ns len (bitsF ((flds 1 vals).take i)))) ⟨vs, ep, t3, none, none⟩ (iter_range hr.handled 0 3 (nGrp 1 vals)) hob (by simpa [wid] using S) (by simpa [bitsF, putAll] using hi) (fun _ _ _ _ => by tb_start) (fun _ _ _ _ _ _ => trivial) ?_ ?_
  · clear S hob s
    rintro i y ob v s hik hP ⟨t, rfl⟩ hob S
    have hik' : 3 * i < vals.length := by unfold nGrp stepOf at hik; simp at hik; omega
    have e1 : (0 + (i : Int) * 3) = ((3 * i : Nat) : Int) := by omega
    rw [List.nil_append, e1] at S
    repeat cell_call
    rename KBw.bInts _ = List.take _ _ => hb'
    have hb' := hb'.trans (grp_slice 1 vals i)
    have hGl : (octs 1 (grp 1 vals i)).length = (grp 1 vals i).length := octs_len _ _
    have hG : (grp 1 vals i).length = 1 ∨ (grp 1 vals i).length = 2 ∨ (grp 1 vals i).length = 3 := by
      have : (grp 1 vals i).length = min 3 (vals.length - 3 * i) := by simp [grp, stepOf]
      omega
    have hGv : ∀ v ∈ grp 1 vals i, v < 10 := fun v hv' => hv v (List.mem_of_mem_drop (List.mem_of_mem_take hv'))
    obtain ⟨tw, hw⟩ := dig_width hG
    have hnum := dig_text hGv hG
    have hfld : fld 1 vals i = (numOf 10 (grp 1 vals i), sizeOf 1 (grp 1 vals i).length) := rfl
    have hw : valueAt [(3, Value.int 10 2211), (2, .int 7 2213), (1, .int 4 2215)] ((octs 1 (grp 1 vals i)).length : Int) = some (.int (sizeOf 1 (grp 1 vals i).length : Nat) tw) := by rw [hGl]; exact hw
    repeat cell_call
    rename_i S
    refine r_dictSub (hs := ?hs) S (.b (T.kin _ _ (ob405.2 _))) ints405 (by decide) hw (fun s S => ?_)
    case hs => kernel_rfl
    repeat cell_call
    rename_i S
    refine r_decode S (byt_of (hb'.trans (octs_ofNat _ _))) (by rw [List.length_map]; exact hG) (fun k hk => ?_) fun t' s S => ?_
    · obtain ⟨v, hv', rfl⟩ := List.mem_map.mp hk
      exact sign_lt v (Nat.lt_trans (hGv v hv') (by decide))
    repeat cell_call
    refine r_intText S hnum (by show (List.toArray _).size ≤ 640; rw [List.size_toArray, List.length_map]; omega) fun t' s S => ?_
    repeat cell_call
    rename_i S
    refine put_call (pre := (it, ob) :: pre) S (by assumption) hr.le hP rfl (by omega) (putAll_length _ hlen |>.trans (by rw [bitsF_length])) ?_ ?_
    · have h1 := wid_take_le (m := 1) (vals := vals) i
      have h2 := fld_le 1 vals i
      rw [hfld] at h2
      have h3 : sizeOf 1 (grp 1 vals i).length ≤ 60 := h2
      omega
    intro vs' ep' t' s' hi' S'
    refine x_none (x_next (x_nil ?_))
    refine' ⟨⟨vs', ep', t', ?zch, ?zbl⟩, ?zu, ?zp, ?zs⟩
    case zs =>
      show St _ _ _ _ _ ((it, ob) :: (pre ++ _)) _
      rw [wid_take hik, hfld]
      exact S'
    case zp =>
      show IntsAre vs' _
      rw [flds_take hik, bitsF_append, putAll_append, bitsF_length]
      simpa [bitsF, hfld] using hi'
  · intro v y s hP S
    rw [List.nil_append] at S
    refine x_next (x_nil (x_next (x_nil ?_)))
    rw [List.take_of_length_le (by simp [flds])] at hP S
    exact back_ S (List.Sublist.refl _) (by kaf_pre) (fun S' => h _ _ _ _ hP S')
end
end
section
open PySem PySem.W PySem.Calls PyProof.Rows
local macro_rules | `(tactic| kt_eqs) => `(tactic| first | with_reducible exact at479_mode _ | with_reducible exact at479_data _ | with_reducible exact me533_put _ | with_reducible exact kp516 _ | exact at479_mode _ | exact at479_data _ | exact me533_put _ | exact kp516 _)
local macro_rules | `(tactic| kt_ors) => `(tactic| first | with_reducible exact gl_MODE_NUMBER _ | with_reducible exact gl_MODE_ALPHA_NUM _ | with_reducible exact gl_range _ | with_reducible exact gl_len _ | with_reducible exact gl_NUMBER_LENGTH _ | with_reducible exact gl_int _ | with_reducible exact gl_ALPHA_NUM _ | exact gl_MODE_NUMBER _ | exact gl_MODE_ALPHA_NUM _ | exact gl_range _ | exact gl_len _ | exact gl_NUMBER_LENGTH _ | exact gl_int _ | exact gl_ALPHA_NUM _)
section
variable {mg mb : Str → Option Value} {prog : Program} {w : World} {A : Around} {E : Value → Shared → Prop} {o : OsP} {B : Heap} {env : Env} {l l' : Vars} {c c' : Cels} {n n' pre post : Ledg} {s s' : Shared} {R : Result → Shared → Prop}

theorem find_sign {d : Array UInt8} {v : Nat} (hd : KBw.bInts d = octs 2 [v]) (hv : v < 45) : Builtin.Bytes.find? alphaB d 0 alphaB.size = some v ∧ d.size = 1 := by
  rw [byt_one (k := signTab.getD v 0) hd]
  exact ⟨alpha_find v hv, rfl⟩

theorem write2_spec {x d lb q dq : Addr} {t1 t2 t3 q1 q2 tm tb : Tok} {b : Array UInt8} {len : Int} {vals : List Nat} {vs : List Value} {ns : List Int} {ep : Nat}
    (S : St o B env l c (pre ++ (lb, listOf vs.toArray ep) :: (x, instObj 533 d) :: (d, dictOf (bufD w.params t1 t2 lb len t3) 2) :: post) s)
    (T : Base (KK w.params) mg mb B) (hr : Room A 4 30) (hi : IntsAre vs ns) (hb : KBw.bInts b = octs 2 vals) (hv : ∀ v ∈ vals, v < 45) (hz : vals.length ≤ 100) (hlen : (ns.length : Int) = (len + 7) / 8) (h0 : 0 ≤ len) (hsz : len < 10000)
    (g1 : (q, instObj 479 dq) ∈ post) (g2 : (dq, dictOf (qrD w.params q1 q2 2 tm b tb) 2) ∈ post)
    (h : ∀ vs' ep' t s', IntsAre vs' (putAll ns len (bitsF (flds 2 vals))) → St o B env l c (pre ++ (lb, listOf vs'.toArray ep') :: (x, instObj 533 d) :: (d, dictOf (bufD w.params t1 t2 lb (len + wid (flds 2 vals)) t) 2) :: post) s' → R (.ok (.ret .none)) s') :
    codeAny (model prog w) A (.call (.ref 469) ⟨[.ref q, .ref x], []⟩) R s := by
  refine fn_call0 (d := 3) (u := 27) (binds := [("self", .ref q), ("buffer", .ref x)]) (l' := [("self", some (.ref q)), ("buffer", some (.ref x)), ("i", none), ("chars", none), ("bit_length", none), ("data", none), ("c", none)]) S T hr (fs469.2 _) (cd469 _) rfl ok469 (BindsTo.of_eq (by kernel_rfl)) (by kernel_rfl) ?_
  clear S T hr
  intro g L A s hr S T ext
  have G := EvG.of (env := envF fs469.1 L 469) gn469 rfl rfl
  have hbl : (octs 2 vals).length = vals.length := by simp [octs]
  repeat cell_call
  refine r_iteNeg (by decide) ?_
  repeat cell_call
  refine r_itePos rfl ?_
  repeat cell_call
  rename_i it ob s hob S
  have eN : (((octs 2 vals).length : Int) + 2 - 1) / 2 = nGrp 2 vals := by rw [hbl]; unfold nGrp stepOf; simp; omega
  rw [eN, Int.toNat_natCast] at hob
  refine for_rule (X := WrY) (lF := fun v i y => [("self", some (.ref q)), ("buffer", some (.ref x)), ("i", v), ("chars", y.ch), ("bit_length", y.bl), ("data", none), ("c", none)]) (cF := fun _ _ => []) (hi := fun _ _ => [])
    (lo := fun i y => pre ++ (lb, listOf y.vs.toArray y.ep) :: (x, instObj 533 d) :: (d, dictOf (bufD w.params t1 t2 lb (len + (wid ((flds 2 vals).take i) : Nat)) y.t) 2) :: post)
    (P := fun i y => IntsAre y.vs (putAll ns len (bitsF ((flds 2 vals).take i)))) ⟨vs, ep, t3, none, none⟩ (iter_range hr.handled 0 2 (nGrp 2 vals)) hob (by simpa [wid] using S) (by simpa [bitsF, putAll] using hi) (fun _ _ _ _ => by tb_start) (fun _ _ _ _ _ _ => trivial) ?_ ?_
  · clear S hob s
    rintro i y ob v s hik hP ⟨t, rfl⟩ hob S
    have hik' : 2 * i < vals.length := by unfold nGrp stepOf at hik; simp at hik; omega
    have e1 : (0 + (i : Int) * 2) = ((2 * i : Nat) : Int) := by omega
    rw [List.nil_append, e1] at S
    repeat cell_call
    rename KBw.bInts _ = List.take _ _ => hb'
    have hb' := hb'.trans (grp_slice 2 vals i)
    have hG : (grp 2 vals i).length = 1 ∨ (grp 2 vals i).length = 2 := by
      have : (grp 2 vals i).length = min 2 (vals.length - 2 * i) := by simp [grp, stepOf]
      omega
    have hGv : ∀ v ∈ grp 2 vals i, v < 45 := fun v hv' => hv v (List.mem_of_mem_drop (List.mem_of_mem_take hv'))
    have hfld : fld 2 vals i = (numOf 45 (grp 2 vals i), sizeOf 2 (grp 2 vals i).length) := rfl
    have h1 := wid_take_le (m := 2) (vals := vals) i
    have hl1 := putAll_length (bitsF ((flds 2 vals).take i)) hlen
    rw [bitsF_length] at hl1
    have hab : (∃ a, grp 2 vals i = [a]) ∨ ∃ a a', grp 2 vals i = [a, a'] := by
      match grp 2 vals i, hG with
      | [a], _ => exact .inl ⟨a, rfl⟩
      | [a, a'], _ => exact .inr ⟨a, a', rfl⟩
      | [], hG => simp at hG
      | _ :: _ :: _ :: _, hG => simp at hG
    rcases hab with ⟨a, hab⟩ | ⟨a, a', hab⟩
    · rw [hab] at hb' hGv hfld
      obtain ⟨hf, hf1⟩ := find_sign hb' (hGv a (.head _))
      have hl0 : (octs 2 [a]).length ≤ 1000 := by simp [octs]
      repeat cell_call
      refine r_iteNeg (by show ¬ ((1 : Int) < 1); decide) ?_
      repeat cell_call
      rename_i S
      refine r_find S hf (by rw [hf1]; decide) fun t' s S => ?_
      repeat cell_call
      rename_i S
      refine put_call (pre := (it, ob) :: pre) (k := 6) S (by assumption) hr.le hP rfl (by omega) hl1 (by omega) ?_
      intro vs' ep' t' s' hi' S'
      refine x_none ?_
      repeat (refine x_next (x_nil ?_))
      refine' ⟨⟨vs', ep', t', ?zch, ?zbl⟩, ?zu, ?zp, ?zs⟩
      case zs =>
        show St _ _ _ _ _ ((it, ob) :: (pre ++ _)) _
        rw [wid_take hik, show (fld 2 vals i).2 = 6 by rw [hfld]; simp [sizeOf]]
        exact S'
      case zp =>
        show IntsAre vs' _
        rw [flds_take hik, bitsF_append, putAll_append, bitsF_length]
        simpa [bitsF, hfld, numOf, sizeOf] using hi'
    · rw [hab] at hb' hGv hfld
      have hl0 : (octs 2 [a, a']).length ≤ 1000 := by simp [octs]
      repeat cell_call
      refine r_itePos (by show ((1 : Int) < 2); decide) ?_
      repeat cell_call
      rename KBw.bInts _ = List.take _ _ => hb1
      have hb1 := hb1.trans (show _ = octs 2 [a] by simp [octs, clipAt]; rfl)
      obtain ⟨hf, hf1⟩ := find_sign hb1 (hGv a (.head _))
      rename_i S
      refine r_find S hf (by rw [hf1]; decide) fun t' s S => ?_
      repeat cell_call
      rename KBw.bInts _ = List.take _ _ => hb2
      have hb2 := hb2.trans (show _ = octs 2 [a'] by simp [octs, clipAt]; rfl)
      obtain ⟨hf, hf1⟩ := find_sign hb2 (hGv a' (.tail _ (.head _)))
      rename_i S
      refine r_find S hf (by rw [hf1]; decide) fun t' s S => ?_
      repeat cell_call
      rename_i S
      refine put_call (pre := (it, ob) :: pre) (k := 11) S (by assumption) hr.le hP rfl (by omega) hl1 (by omega) ?_
      intro vs' ep' t' s' hi' S'
      refine x_none ?_
      repeat (refine x_next (x_nil ?_))
      refine' ⟨⟨vs', ep', t', ?zch, ?zbl⟩, ?zu, ?zp, ?zs⟩
      case zs =>
        show St _ _ _ _ _ ((it, ob) :: (pre ++ _)) _
        rw [wid_take hik, show (fld 2 vals i).2 = 11 by rw [hfld]; simp [sizeOf]]
        exact S'
      case zp =>
        show IntsAre vs' _
        rw [flds_take hik, bitsF_append, putAll_append, bitsF_length]
        have e5 : (a : Int) * 45 + a' = ((45 * a + a' : Nat) : Int) := by omega
        rw [e5] at hi'
        simpa [bitsF, hfld, numOf, sizeOf] using hi'
  · intro v y s hP S
    rw [List.nil_append] at S
    repeat (refine x_next (x_nil ?_))
    rw [List.take_of_length_le (by simp [flds])] at hP S
    exact back_ S (List.Sublist.refl _) (by kaf_pre) (fun S' => h _ _ _ _ hP S')

structure WrZ where
  vs : List Value
  ep : Nat
  t : Tok
theorem write4_spec {x d lb q dq : Addr} {t1 t2 t3 q1 q2 tm tb : Tok} {b : Array UInt8} {len : Int} {vals : List Nat} {vs : List Value} {ns : List Int} {ep : Nat}
    (S : St o B env l c (pre ++ (lb, listOf vs.toArray ep) :: (x, instObj 533 d) :: (d, dictOf (bufD w.params t1 t2 lb len t3) 2) :: post) s)
    (T : Base (KK w.params) mg mb B) (hr : Room A 4 30) (hi : IntsAre vs ns) (hb : KBw.bInts b = octs 4 vals) (hz : vals.length ≤ 100) (hlen : (ns.length : Int) = (len + 7) / 8) (h0 : 0 ≤ len) (hsz : len < 10000)
    (g1 : (q, instObj 479 dq) ∈ post) (g2 : (dq, dictOf (qrD w.params q1 q2 4 tm b tb) 2) ∈ post)
    (h : ∀ vs' ep' t s', IntsAre vs' (putAll ns len (bitsF (flds 4 vals))) → St o B env l c (pre ++ (lb, listOf vs'.toArray ep') :: (x, instObj 533 d) :: (d, dictOf (bufD w.params t1 t2 lb (len + wid (flds 4 vals)) t) 2) :: post) s' → R (.ok (.ret .none)) s') :
    codeAny (model prog w) A (.call (.ref 469) ⟨[.ref q, .ref x], []⟩) R s := by
  refine fn_call0 (d := 3) (u := 27) (binds := [("self", .ref q), ("buffer", .ref x)]) (l' := [("self", some (.ref q)), ("buffer", some (.ref x)), ("i", none), ("chars", none), ("bit_length", none), ("data", none), ("c", none)]) S T hr (fs469.2 _) (cd469 _) rfl ok469 (BindsTo.of_eq (by kernel_rfl)) (by kernel_rfl) ?_
  clear S T hr
  intro g L A s hr S T ext
  have G := EvG.of (env := envF fs469.1 L 469) gn469 rfl rfl
  have hbl : (octs 4 vals).length = vals.length := by simp [octs]
  have hbz : b.size = nGrp 4 vals := by rw [← KBw.ints_length b, hb, hbl]; simp [nGrp, stepOf]
  repeat cell_call
  refine r_iteNeg (by decide) ?_
  repeat cell_call
  refine r_iteNeg (by decide) ?_
  repeat cell_call
  rename_i it ob s hob S
  have I := iter_bytes (prog := prog) (w := w) (A := A) hr.handled (it := it) b tb
  rw [hbz] at I
  refine for_rule (X := WrZ) (lF := fun v i y => [("self", some (.ref q)), ("buffer", some (.ref x)), ("i", none), ("chars", none), ("bit_length", none), ("data", some (.bytes b tb)), ("c", v)]) (cF := fun _ _ => []) (hi := fun _ _ => [])
    (lo := fun i y => pre ++ (lb, listOf y.vs.toArray y.ep) :: (x, instObj 533 d) :: (d, dictOf (bufD w.params t1 t2 lb (len + (wid ((flds 4 vals).take i) : Nat)) y.t) 2) :: post)
    (P := fun i y => IntsAre y.vs (putAll ns len (bitsF ((flds 4 vals).take i)))) ⟨vs, ep, t3⟩ I hob (by simpa [wid] using S) (by simpa [bitsF, putAll] using hi) (fun _ _ _ _ => by tb_start) (fun _ _ _ _ _ _ => trivial) ?_ ?_
  · clear S hob s
    rintro i y ob v s hik hP ⟨ch, t, hch, rfl⟩ hob S
    have hiv : i < vals.length := by simpa [nGrp, stepOf] using hik
    rw [List.nil_append] at S
    have hc := KBw.ints_get hch
    rw [hb] at hc
    have hc : (ch.toNat : Int) = ((vals.getD i 0 : Nat) : Int) := by
      unfold octs at hc
      rw [List.getElem?_map, List.getElem?_eq_getElem hiv, Option.map_some, Option.some.injEq] at hc
      rw [← hc, List.getD_eq_getElem?_getD, List.getElem?_eq_getElem hiv]
      rfl
    have hgrp : grp 4 vals i = [vals.getD i 0] := by
      have e : stepOf 4 = 1 := rfl
      unfold grp
      rw [e, Nat.one_mul, List.drop_eq_getElem_cons hiv, List.getD_eq_getElem?_getD, List.getElem?_eq_getElem hiv]
      rfl
    have hfld : fld 4 vals i = (vals.getD i 0, 8) := by
      unfold fld
      rw [hgrp]
      simp [numOf, sizeOf]
    rw [hc] at S
    have h1 := wid_take_le (m := 4) (vals := vals) i
    have hl1 := putAll_length (bitsF ((flds 4 vals).take i)) hlen
    rw [bitsF_length] at hl1
    repeat cell_call
    rename_i S
    refine put_call (pre := (it, ob) :: pre) (k := 8) S (by assumption) hr.le hP rfl (by omega) hl1 (by omega) ?_
    intro vs' ep' t' s' hi' S'
    refine x_none ?_
    repeat (refine x_next (x_nil ?_))
    refine ⟨⟨vs', ep', t'⟩, some (.int (vals.getD i 0 : Nat) t), ?_, ?_⟩
    · show IntsAre vs' _
      rw [flds_take hik, bitsF_append, putAll_append, bitsF_length]
      simpa [bitsF, hfld] using hi'
    · show St _ _ _ _ _ ((it, ob) :: (pre ++ _)) _
      rw [wid_take hik, show (fld 4 vals i).2 = 8 by rw [hfld]]
      exact S'
  · intro v y s hP S
    rw [List.nil_append] at S
    repeat (refine x_next (x_nil ?_))
    rw [List.take_of_length_le (by simp [flds])] at hP S
    exact back_ S (List.Sublist.refl _) (by kaf_pre) (fun S' => h _ _ _ _ hP S')

theorem write_call {x d lb q dq : Addr} {t1 t2 t3 q1 q2 tm tb : Tok} {b : Array UInt8} {len : Int} {m : Nat} {vals : List Nat} {vs : List Value} {ns : List Int} {ep : Nat} {Q : Value → Shared → Prop} (hm : m = 1 ∨ m = 2 ∨ m = 4)
    (S : St o B env l c (pre ++ (lb, listOf vs.toArray ep) :: (x, instObj 533 d) :: (d, dictOf (bufD w.params t1 t2 lb len t3) 2) :: post) s)
    (T : Base (KK w.params) mg mb B) (hr : Room A 4 30) (hi : IntsAre vs ns) (hb : KBw.bInts b = octs m vals) (hv : ∀ v ∈ vals, v < radixOf m) (hz : vals.length ≤ 100) (hlen : (ns.length : Int) = (len + 7) / 8) (h0 : 0 ≤ len) (hsz : len < 10000)
    (g1 : (q, instObj 479 dq) ∈ post) (g2 : (dq, dictOf (qrD w.params q1 q2 m tm b tb) 2) ∈ post)
    (h : ∀ vs' ep' t s', IntsAre vs' (putAll ns len (bitsF (flds m vals))) → St o B env l c (pre ++ (lb, listOf vs'.toArray ep') :: (x, instObj 533 d) :: (d, dictOf (bufD w.params t1 t2 lb (len + wid (flds m vals)) t) 2) :: post) s' → Q .none s') :
    wpAny (model prog w) A (call (.ref 469) [.ref q, .ref x]) Q E s := by
  refine wpAny_call ?_
  rcases hm with rfl | rfl | rfl
  · exact write1_spec S T hr hi hb hv hz hlen h0 hsz g1 g2 h
  · exact write2_spec S T hr hi hb hv hz hlen h0 hsz g1 g2 h
  · exact write4_spec S T hr hi hb hz hlen h0 hsz g1 g2 h
end
end
section
open PySem PySem.W PySem.Calls PyProof.Rows
local macro_rules | `(tactic| kt_eqs) => `(tactic| first | with_reducible exact at306_num _ | with_reducible exact so306_num _ | with_reducible exact kp270 _ | with_reducible exact kc306 _ | exact at306_num _ | exact so306_num _ | exact kp270 _ | exact kc306 _)
local macro_rules | `(tactic| kt_ors) => `(tactic| first | with_reducible exact gl_len _ | with_reducible exact gl_range _ | with_reducible exact gl_iter _ | with_reducible exact gl_glog _ | with_reducible exact gl_zip _ | with_reducible exact gl_Polynomial _ | exact gl_len _ | exact gl_range _ | exact gl_iter _ | exact gl_glog _ | exact gl_zip _ | exact gl_Polynomial _)
section
variable {mg mb : Str → Option Value} {prog : Program} {w : World} {A : Around} {E : Value → Shared → Prop} {o : OsP} {B : Heap} {env : Env} {l l' : Vars} {c c' : Cels} {n n' pre post : Ledg} {s s' : Shared} {R : Result → Shared → Prop}
abbrev polyD (P : Params) (t1 : Tok) (ln : Addr) : List DictEntry := [⟨PyData.keyHash P "num", .str "num" t1, .ref ln⟩]
/-- where the first number that is not zero stands, or else the last -/
def lead : List Int → Nat
  | [] => 0
  | [_] => 0
  | x :: y :: r => if x ≠ 0 then 0 else lead (y :: r) + 1
def strip (ns : List Int) : List Int := ns.drop (lead ns)
theorem lead_lt : ∀ {ns : List Int}, ns ≠ [] → lead ns < ns.length
  | [_], _ => Nat.zero_lt_one
  | x :: y :: r, _ => by
    unfold lead
    split
    · simp
    · have := lead_lt (ns := y :: r) (by simp)
      simp at this ⊢; omega
theorem lead_zero : ∀ {ns : List Int} {j : Nat}, j < lead ns → ns.getD j 0 = 0
  | [], _, h => by simp [lead] at h
  | [_], _, h => by simp [lead] at h
  | x :: y :: r, j, h => by
    unfold lead at h
    split at h
    · omega
    · rename_i hx
      cases j with
      | zero => simpa using hx
      | succ j => simpa using lead_zero (ns := y :: r) (j := j) (by omega)
theorem lead_stop : ∀ {ns : List Int} {i : Nat}, i < ns.length → (∀ j, j < i → ns.getD j 0 = 0) → (ns.getD i 0 ≠ 0 ∨ i + 1 = ns.length) → lead ns = i
  | [x], i, h, _, _ => by simp at h; subst h; rfl
  | x :: y :: r, i, h, hz, hs => by
    unfold lead
    cases i with
    | zero =>
      have : x ≠ 0 := by rcases hs with hs | hs
                         · simpa using hs
                         · simp at hs
      rw [if_pos this]
    | succ i =>
      have hx : x = 0 := by simpa using hz 0 (by omega)
      rw [if_neg (by simp [hx])]
      rw [lead_stop (ns := y :: r) (i := i) (by simpa using h) (fun j hj => by simpa using hz (j + 1) (by omega)) (by simpa using hs)]

theorem ints_rep (i : Int) (t : Tok) : ∀ k, IntsAre (List.replicate k [Value.int i t]).flatten (List.replicate k i)
  | 0 => .nil
  | k + 1 => .cons i t (ints_rep i t k)
theorem new_poly {ln : Addr} {k : Nat} {u : Tok} {shift : Nat} {vs : List Value} {ns : List Int} {Q : Value → Shared → Prop} (S : St o B env l c n s) (T : Base (KK w.params) mg mb B) (hr : Room A 3 20)
    (hl : Has B n ln (listOf vs.toArray k)) (hi : IntsAre vs ns) (hne : ns ≠ []) (hz : ns.length ≤ 1000) (hsh : shift ≤ 200)
    (h : ∀ x d lp t vs' s', IntsAre vs' (strip ns ++ List.replicate shift 0) → St o B env l c ((lp, listOf vs'.toArray 0) :: (x, instObj 306 d) :: (d, dictOf (polyD w.params t lp) 1) :: n) s' → Q (.ref x) s') :
    wpAny (model prog w) A (call (.ref 306) [.ref ln, .int shift u]) Q E s := by
  refine r_new S T (nw306 _) fun x d s S => ?_
  have hr := hr.make (C := 306) (vals := [.ref ln, .int shift u]) (kw := [])
  generalize A.under (.builtin "type.__call__" ⟨[.ref 306, .ref ln, .int shift u], []⟩) = A at *
  refine fn_call0 (d := 1) (u := 16) (binds := [("self", .ref x), ("num", .ref ln), ("shift", .int shift u)]) (l' := [("self", some (.ref x)), ("num", some (.ref ln)), ("shift", some (.int shift u)), ("offset", none)]) S T hr.le (fs270.2 _) (cd270 _) rfl ok270 (BindsTo.of_eq (by kernel_rfl)) (by kernel_rfl) ?_
  clear S hr
  intro g L A s hr S T ext
  have hl := hl.to ext
  have hvl := hi.length
  have hpos : 0 < ns.length := List.length_pos_iff.mpr hne
  have G := EvG.of (env := envF fs270.1 L 270) gn270 rfl rfl
  repeat cell_call
  refine r_ifF ?_ ?_
  · cases vs with
    | nil => simp at hvl; omega
    | cons _ _ => rfl
  repeat cell_call
  rename_i it ob s hob S
  have e0 : ((ns.length : Int) - 0).toNat = ns.length := by omega
  rw [e0] at hob
  refine loop_mono (Q' := fun fl s => fl = .next ∧ ∃ t, St o g (envF fs270.1 L 270) [("self", some (.ref x)), ("num", some (.ref ln)), ("shift", some (.int shift u)), ("offset", some (.int (lead ns) t))] [] ((x, instObj 306 d) :: (d, dictOf [] 0) :: n) s) ?_ ?_
  · refine for_ruleU (X := Unit) (lF := fun v i y => [("self", some (.ref x)), ("num", some (.ref ln)), ("shift", some (.int shift u)), ("offset", v)]) (cF := fun _ _ => []) (hi := fun _ _ => [])
      (lo := fun i y => (x, instObj 306 d) :: (d, dictOf [] 0) :: n) (P := fun v i y => (∀ j, j < i → ns.getD j 0 = 0) ∧ (0 < i → ∃ t, v = some (.int (i - 1 : Int) t))) () (iter_range hr.handled 0 1 ns.length) hob S ⟨fun j hj => absurd hj (Nat.not_lt_zero _), fun h => absurd h (Nat.lt_irrefl _)⟩ (fun _ _ _ _ => by tb_start) (fun _ _ _ _ _ _ => trivial) ?_ ?_
    · clear S hob s
      rintro v' i y ob v s hik ⟨hP, _⟩ ⟨t, rfl⟩ hob S
      have e1 : (0 + (i : Int) * 1) = i := by omega
      rw [List.nil_append, e1] at S
      repeat cell_call
      rename_i S
      refine r_iteD (fun hx => ?_) (fun hx => ?_)
      · refine x_cons (wpAny_Break (x_brk ?_))
        refine ⟨rfl, t, ?_⟩
        rw [lead_stop hik hP (.inl (by simpa using hx))]
        exact S.drop0 (List.sublist_cons_self _ _)
      · refine x_nil (x_next (x_nil ?_))
        refine ⟨(), some (.int i t), ⟨fun j hj => ?_, fun _ => ⟨t, by simp⟩⟩, S⟩
        rcases Nat.lt_succ_iff_lt_or_eq.mp hj with hj | rfl
        · exact hP j hj
        · simpa using hx
    · rintro v y s ⟨hP, hv⟩ S
      obtain ⟨t, rfl⟩ := hv hpos
      refine ⟨rfl, t, ?_⟩
      have : lead ns = ns.length - 1 := lead_stop (i := ns.length - 1) (by omega) (fun j hj => hP j (by omega)) (.inr (by omega))
      rw [show ((lead ns : Nat) : Int) = (ns.length : Int) - 1 by omega]
      exact S
  · rintro fl s' ⟨rfl, t, S⟩
    have hld := lead_lt hne
    have hld2 : ((lead ns : Nat) : Int) < 1000 := by omega
    repeat cell_call
    rename_i S
    have h1 := kmk_from (x := ((lead ns : Nat) : Int)) hi (by omega)
    rw [Int.toNat_natCast] at h1
    have h2 : ∀ t', IntsAre (List.replicate (shift : Int).toNat [Value.int 0 t']).flatten (List.replicate shift 0) := fun t' => by
      rw [Int.toNat_natCast]
      exact ints_rep 0 t' shift
    have hl1 := h1.length
    have hl2 := fun t => (h2 t).length
    rw [List.length_drop] at hl1
    simp only [List.length_replicate] at hl2
    refine r_addL S (by got_up) (by got_up) (by rw [hl2]; omega) ?_
    intro D s S
    repeat cell_call
    rename_i S
    refine back_ (n'' := (D, listOf _ 0) :: (x, instObj 306 d) :: (d, dictOf _ 1) :: n) S (.cons_cons _ (.cons _ (.cons _ (.cons _ (List.Sublist.refl _))))) (by kaf_pre) (fun S' => ⟨rfl, h _ _ _ _ _ _ (h1.append (h2 _)) S'⟩)
end
end
section
open PySem PySem.W PySem.Calls PyProof.Rows
theorem sub306 (P : Params) : subOk (KK P) 306 277 = true := by kernel_rfl
theorem nsq306 (P : Params) : noSeq (KK P) 306 = true := by kernel_rfl
theorem iter306 (P : Params) : iterOk (KK P) 306 284 = true := by kernel_rfl
theorem mod306 (P : Params) : modOk (KK P) 306 303 = true := by kernel_rfl
local macro_rules | `(tactic| kt_eqs) => `(tactic| first | with_reducible exact at306_num _ | exact at306_num _)
local macro_rules | `(tactic| kt_ors) => `(tactic| first | with_reducible exact gl_len _ | with_reducible exact gl_iter _ | exact gl_len _ | exact gl_iter _)
section
variable {mg mb : Str → Option Value} {prog : Program} {w : World} {A : Around} {E : Value → Shared → Prop} {o : OsP} {B : Heap} {env : Env} {l l' : Vars} {c c' : Cels} {n n' pre post : Ledg} {s s' : Shared} {R : Result → Shared → Prop}

/-- a polynomial of the ledger -/
structure Poly (P : Params) (n : Ledg) (x : Addr) (ns : List Int) (d lp : Addr) (t : Tok) (vs : List Value) (k : Nat) : Prop where
  x : (x, instObj 306 d) ∈ n
  d : (d, dictOf (polyD P t lp) 1) ∈ n
  l : (lp, listOf vs.toArray k) ∈ n
  ia : IntsAre vs ns
theorem Poly.cons {P : Params} {x d lp : Addr} {ns : List Int} {t : Tok} {vs : List Value} {k : Nat} {p : Addr × Obj} (h : Poly P n x ns d lp t vs k) : Poly P (p :: n) x ns d lp t vs k := ⟨.tail _ h.x, .tail _ h.d, .tail _ h.l, h.ia⟩

theorem len_poly {x d lp : Addr} {t : Tok} {ns : List Int} {vs : List Value} {k : Nat} {Q : Value → Shared → Prop} (S : St o B env l c n s) (T : Base (KK w.params) mg mb B) (hr : Room A 2 20) (hx : Poly w.params n x ns d lp t vs k) (hz : ns.length ≤ 1000)
    (h : ∀ t s', St o B env l c n s' → Q (.int ns.length t) s') : wpAny (model prog w) A (call (.builtin "len") [.ref x]) Q E s := by
  obtain ⟨h1, h2, h3, hi⟩ := hx
  refine r_lenInst S T (Has.n h1) (Has.n h2) (ln306 _) (wpAny_call ?_)
  refine fn_call0 (d := 1) (u := 16) (binds := [("self", .ref x)]) (l' := [("self", some (.ref x))]) S T (Room.in1 hr.le) (fs291.2 _) (cd291 _) rfl ok291 (BindsTo.of_eq (by kernel_rfl)) (by kernel_rfl) ?_
  clear S hr
  intro g L A s hr S T ext
  have G := EvG.of (env := envF fs291.1 L 291) gn291 rfl rfl
  repeat cell_call
  exact back_ (by assumption) (List.Sublist.refl _) (by kaf_pre) (fun S' => lenBack_ S' (by omega) (by omega) h)

theorem item_poly {value slice : Expr} {x d lp : Addr} {t u : Tok} {i : Int} {ns : List Int} {vs : List Value} {k : Nat} {Q : Value → Shared → Prop} (S : St o B env l c n s) (T : Base (KK w.params) mg mb B) (hr : Room A 2 20) (hx : Poly w.params n x ns d lp t vs k) (hz : ns.length ≤ 1000) (h0 : 0 ≤ i) (h1' : i < ns.length)
    (hsl : subscripted slice true (.ref x) (.int i u) = runValue (.builtin "lifetime.subscript" ⟨[.ref x, .int i u], []⟩))
    (h : ∀ t s', St o B env l c n s' → Q (.int (ns.getD i.toNat 0) t) s') : wpAny (model prog w) A (subscriptTail value slice (.ref x) (.int i u)) Q E s := by
  obtain ⟨h1, h2, h3, hi⟩ := hx
  refine r_subInst S T hsl (Has.n h1) (Has.n h2) (sub306 _) (wpAny_call ?_)
  refine fn_call0 (d := 1) (u := 16) (binds := [("self", .ref x), ("index", .int i u)]) (l' := [("self", some (.ref x)), ("index", some (.int i u))]) S T (Room.in1 hr.le) (fs277.2 _) (cd277 _) rfl ok277 (BindsTo.of_eq (by kernel_rfl)) (by kernel_rfl) ?_
  clear S hr
  intro g L A s hr S T ext
  repeat cell_call
  exact back_ (by assumption) (List.Sublist.refl _) (by kaf_pre) (fun S' => h _ _ S')

theorem slice_poly {value slice : Expr} {x d lp : Addr} {t : Tok} {p q : Value} {lo hi : Option Int} {ns : List Int} {vs : List Value} {k : Nat} {Q : Value → Shared → Prop} (S : St o B env l c n s) (T : Base (KK w.params) mg mb B) (hr : Room A 2 20) (hx : Poly w.params n x ns d lp t vs k) (hz : ns.length ≤ 1000) (pl : IsPart p lo) (pu : IsPart q hi)
    (hsl : subscripted slice true (.ref x) (.ref s.heap.objs.size) = operate [.ref s.heap.objs.size, .ref x] (getItem (.ref x) (.ref s.heap.objs.size)))
    (h : ∀ D s', St o B env l c ((D, listOf (slicePick vs.toArray lo hi none) 0) :: n) s' → Q (.ref D) s') :
    wpAny (model prog w) A (subscriptTail value slice (.ref x) (.ref s.heap.objs.size)) Q E { s with heap := s.heap.push { cls := .type "slice", data := .fields #[p, q, .none] } } := by
  have S := S.push { cls := .type "slice", data := .fields #[p, q, .none] }
  obtain ⟨h1, h2, h3, hi⟩ := hx.cons (p := (s.heap.objs.size, { cls := .type "slice", data := .fields #[p, q, .none] }))
  have hvl := hi.length
  have hsl1 : ((s.heap.objs.size, { cls := .type "slice", data := .fields #[p, q, .none] }) : Addr × Obj) ∈ ((s.heap.objs.size, { cls := .type "slice", data := .fields #[p, q, .none] }) :: n : Ledg) := .head _
  generalize s.heap.objs.size = sl at *
  refine r_subInstSl S T hsl (Has.n h1) (Has.n h2) (sub306 _) (nsq306 _) (wpAny_call ?_)
  refine fn_call0 (d := 1) (u := 16) (binds := [("self", .ref x), ("index", .ref sl)]) (l' := [("self", some (.ref x)), ("index", some (.ref sl))]) S T hr.le (fs277.2 _) (cd277 _) rfl ok277 (BindsTo.of_eq (by kernel_rfl)) (by kernel_rfl) ?_
  clear S hr
  intro g L A s hr S T ext
  repeat cell_call
  rename_i S
  refine r_subSlice S ?hs (Has.n h3) (Has.n hsl1) pl pu (by omega) ?_
  case hs => kernel_rfl
  intro D s S
  repeat cell_call
  exact back_ S (.cons_cons _ (List.sublist_cons_self _ _)) (.new (.gone rfl .refl)) (fun S' => h _ _ S')

theorem iter_poly {x d lp : Addr} {t : Tok} {ns : List Int} {vs : List Value} {k : Nat} {Q : Value → Shared → Prop} (S : St o B env l c n s) (T : Base (KK w.params) mg mb B) (hr : Room A 2 20) (hx : Poly w.params n x ns d lp t vs k)
    (h : ∀ it ob s', listItP lp 0 ob → St o B env l c ((it, ob) :: n) s' → Q (.ref it) s') : wpAny (model prog w) A (pyIter (.ref x)) Q E s := by
  obtain ⟨h1, h2, h3, hi⟩ := hx
  refine r_iterInst S T (Has.n h1) (Has.n h2) (iter306 _) (wpAny_call ?_)
  refine fn_call0 (d := 1) (u := 17) (binds := [("self", .ref x)]) (l' := [("self", some (.ref x))]) S T hr (fs284.2 _) (cd284 _) rfl ok284 (BindsTo.of_eq (by kernel_rfl)) (by kernel_rfl) ?_
  clear S hr
  intro g L A s hr S T ext
  have G := EvG.of (env := envF fs284.1 L 284) gn284 rfl rfl
  repeat cell_call
  rename_i S
  refine r_iterF (r_iterList S (Has.n h3) fun it ob s hp S => ?_)
  repeat cell_call
  exact back_ S (List.Sublist.refl _) (by kaf_pre) (fun S' => owit_list S' (.head _) hp (h _ _ _ hp S'))
end
end
section
open PySem PySem.W PySem.Calls PyProof.Rows
local macro_rules | `(tactic| kt_eqs) => `(tactic| first | with_reducible exact at306_num _ | with_reducible exact kp249 _ | with_reducible exact kp256 _ | with_reducible exact kc306 _ | exact at306_num _ | exact kp249 _ | exact kp256 _ | exact kc306 _)
local macro_rules | `(tactic| kt_ors) => `(tactic| first | with_reducible exact gl_len _ | with_reducible exact gl_glog _ | with_reducible exact gl_gexp _ | with_reducible exact gl_zip _ | with_reducible exact gl_Polynomial _ | exact gl_len _ | exact gl_glog _ | exact gl_gexp _ | exact gl_zip _ | exact gl_Polynomial _)
section
variable {mg mb : Str → Option Value} {prog : Program} {w : World} {A : Around} {E : Value → Shared → Prop} {o : OsP} {B : Heap} {env : Env} {l l' : Vars} {c c' : Cels} {n n' pre post : Ledg} {s s' : Shared} {R : Result → Shared → Prop}

def gexpP (k : Int) : Int := expTab.getD (k % 255).toNat 0
def glogP (k : Int) : Int := logTab.getD k.toNat 0
def modStep (ns ms : List Int) : List Int := List.zipWith (fun a b => Builtin.bitXor a (gexpP (glogP b + (glogP (ns.getD 0 0) - glogP (ms.getD 0 0))))) ns ms ++ ns.drop ms.length
def modP : Nat → List Int → List Int → List Int
  | 0, ns, _ => ns
  | k + 1, ns, ms => if ns.length < ms.length then ns else modP k (strip (modStep ns ms)) ms

/-- what the division needs of its numbers, step by step -/
def ModOk : Nat → List Int → List Int → Prop
  | 0, _, _ => False
  | k + 1, ns, ms => ns.length < ms.length ∨ ((1 ≤ ns.getD 0 0 ∧ ns.getD 0 0 < 256) ∧ modStep ns ms ≠ [] ∧ ModOk k (strip (modStep ns ms)) ms)

theorem Poly.app {P : Params} {n : Ledg} {x d lp : Addr} {ns : List Int} {t : Tok} {vs : List Value} {k : Nat} (pre : Ledg) (h : Poly P n x ns d lp t vs k) : Poly P (pre ++ n) x ns d lp t vs k := ⟨List.mem_append_right _ h.x, List.mem_append_right _ h.d, List.mem_append_right _ h.l, h.ia⟩
theorem Poly.skip {P : Params} {A n : Ledg} {a : Addr} {ob : Obj} {x d lp : Addr} {ns : List Int} {t : Tok} {vs : List Value} {k : Nat} (hc : cellE ob = true) (h : Poly P (A ++ (a, ob) :: n) x ns d lp t vs k) : Poly P (A ++ n) x ns d lp t vs k := by
  have key : ∀ q : Addr × Obj, cellE q.2 = false → q ∈ A ++ (a, ob) :: n → q ∈ A ++ n := fun q hq hm => by
    rcases List.mem_append.mp hm with hm | hm
    · exact List.mem_append_left _ hm
    · rcases List.mem_cons.mp hm with rfl | hm
      · rw [hc] at hq; cases hq
      · exact List.mem_append_right _ hm
  exact ⟨key _ rfl h.x, key _ rfl h.d, key _ rfl h.l, h.ia⟩
structure MdY where
  vs : List Value
  ep : Nat
  a : Option Value
  b : Option Value
theorem mod_spec {y e mp : Addr} {ty : Tok} {ms : List Int} {ws : List Value} {j : Nat} (hm : ∀ b ∈ ms, 1 ≤ b ∧ b < 256) (hm0 : ms ≠ []) (hmz : ms.length ≤ 100) : ∀ (f : Nat) {A : Around} {o : OsP} {B : Heap} {env : Env} {l : Vars} {c : Cels} {n : Ledg} {s : Shared} {R : Result → Shared → Prop} {x d lp : Addr} {t : Tok} {ns : List Int} {vs : List Value} {k : Nat}
    (_ : St o B env l c n s) (_ : Base (KK w.params) mg mb B) (_ : Room A (2 * f + 8) (8 * f + 60)) (_ : Poly w.params n x ns d lp t vs k) (_ : Poly w.params n y ms e mp ty ws j) (_ : ns.length ≤ 500) (_ : ModOk f ns ms)
    (_ : ∀ add z d lp t vs k s', Poly w.params (add ++ n) z (modP f ns ms) d lp t vs k → St o B env l c (add ++ n) s' → R (.ok (.ret (.ref z))) s'),
    codeAny (model prog w) A (.call (.ref 303) ⟨[.ref x, .ref y], []⟩) R s := by
  intro f
  induction f with
  | zero => intro A o B env l c n s R x d lp tx ns vs k S T hr hx hy hz hok; exact hok.elim
  | succ f ih =>
    intro A o B env l c n s R x d lp tx ns vs k S T hr hx hy hz hok h
    refine fn_callN (d := 2 * f + 9) (u := 8 * f + 65) (binds := [("self", .ref x), ("other", .ref y)]) (l' := [("self", some (.ref x)), ("other", some (.ref y)), ("difference", none), ("num", none)]) S T hr.le (fs303.2 _) (cd303 _) rfl ok303 (BindsTo.of_eq (by kernel_rfl)) (by kernel_rfl) ?_
    clear S T hr
    intro g L A cls s hr hcl S T ext
    have G := EvG.of (env := envF fs303.1 L 303) gn303 rfl rfl
    have hce : celsOf fs303.1 L [("self", .ref x), ("other", .ref y)] = ([((Str.ofString "ratio"), L + 1, none)] : Cels) := by kernel_rfl
    rw [hce] at S hcl
    cases hcl with
    | cons hcd hcl =>
    cases hcl
    rename_i ob
    rw [List.cons_append, List.nil_append] at S
    have hx0 := hx
    have hy0 := hy
    have hx := hx.cons (p := (L + 1, ob))
    have hy := hy.cons (p := (L + 1, ob))
    repeat cell_call
    rename_i S
    refine len_poly S T hr.le hx (by omega) fun t s S => ?_
    repeat cell_call
    rename_i S
    refine len_poly S T hr.le hy (by omega) fun t s S => ?_
    repeat cell_call
    rename_i S
    refine r_iteD (fun hlt => ?_) (fun hge => ?_)
    · have hlt' : ns.length < ms.length := by omega
      repeat cell_call
      rename_i S
      refine back_ (n'' := n) S (List.sublist_cons_self _ _) .refl (fun S' => h [] x d lp tx vs k _ ?_ S')
      rw [modP, if_pos hlt']
      exact hx0
    have hge' : ¬ ns.length < ms.length := by omega
    obtain ⟨hn0, hst, hok⟩ := hok.resolve_left hge'
    have hmp : 0 < ms.length := List.length_pos_iff.mpr hm0
    repeat cell_call
    rename_i S
    refine item_poly S T hr.le hx (by omega) (by omega) (by omega) ?_ fun t s S => ?_
    · kernel_rfl
    repeat cell_call
    rename_i S
    refine glog_call S T hr.le hn0.1 hn0.2 fun t s S => ?_
    repeat cell_call
    rename_i S
    refine item_poly S T hr.le hy (by omega) (by omega) (by omega) ?_ fun t s S => ?_
    · kernel_rfl
    have hm1 : 1 ≤ ms.getD 0 0 ∧ ms.getD 0 0 < 256 := by
      obtain ⟨m0, mr, rfl⟩ := List.exists_cons_of_ne_nil hm0
      exact hm m0 (.head _)
    repeat cell_call
    rename_i S
    refine glog_call S T hr.le hm1.1 hm1.2 fun t s S => ?_
    repeat cell_call
    rename_i obr s hor S
    refine x_compA (cl := [((Str.ofString "ratio"), L + 1)]) ?hsw ?ha ?hcl ?hok ?hf ?_
    case ha => rfl
    case hsw => kernel_rfl
    case hcl => kernel_rfl
    case hok => kernel_rfl
    case hf => (intro _; kernel_rfl)
    have hx := hx0.cons (p := (L + 1, obr))
    have hy := hy0.cons (p := (L + 1, obr))
    repeat cell_call
    rename_i S
    refine r_zip (iter_poly S T (Room.in1 (Room.in1 hr.le)) hx fun it1 ob1 s p1 S => ?_)
    refine iter_poly S T (Room.in1 (Room.in1 hr.le)) hy.cons fun it2 ob2 s p2 S => ?_
    refine r_zipS S fun z TO TI s S => ?_
    repeat cell_call
    refine PySem.wpAny_pyIter_zip (S.nw.get (.head _)) ?_
    refine' comp_enterA (lc := [((Str.ofString "item"), none), ((Str.ofString "other_item"), none)]) S T ?hok ?hev ?hlc (List.Sublist.refl _) ?hcl ?hput ?hbody
    case hok => kernel_rfl
    case hev => kernel_rfl
    case hlc => simp
    case hcl => simp
    case hput => (intro _; tb_start)
    case hbody =>
      intro g' C acc s S' T' ext'
      have G' := evg_st S' ["glog", "gexp"] (by kernel_rfl) rfl rfl
      have er : ∀ b, logTab.getD (b : Int).toNat 0 = glogP b := fun _ => rfl
      have f0 : (0 : Int).toNat = 0 := rfl
      simp only [er, f0] at S'
      refine zip_comp (X := MdY) (xs := vs.toArray) (ys := ws.toArray) hr.handled
        (fun i y => [((Str.ofString "item"), y.a), ((Str.ofString "other_item"), y.b)]) _ (fun i y => [(acc, listOf y.vs.toArray y.ep)]) ((L + 1, obr) :: n)
        (fun i y => IntsAre y.vs ((List.zipWith (fun a b => Builtin.bitXor a (gexpP (glogP b + (glogP (ns.getD 0 0) - glogP (ms.getD 0 0))))) ns ms).take i)) ⟨[], 0, none, none⟩ p1 p2 S' .nil ?_ ?_ ?_
      · intro u v ob2 ob1 i y s S
        exact ⟨S.isList (.n (.tail _ (.tail _ (.tail _ (.tail _ (.tail _ (.tail _ hx.l))))))), S.isList (.n (.tail _ (.tail _ (.tail _ (.tail _ (.tail _ (.tail _ hy.l)))))))⟩
      · intro i y u v ob2 ob1 s hP hx' hy' S
        obtain ⟨a, ta, ha, rfl⟩ := ints_at hx.ia (by simpa using hx')
        obtain ⟨b, tb, hb, rfl⟩ := ints_at hy.ia (by simpa using hy')
        have hbb := hm b (List.mem_of_getElem? hb)
        simp only [List.cons_append, List.nil_append] at S
        repeat cell_call
        rename_i S
        refine glog_call S T' hr.le hbb.1 hbb.2 fun t s S => ?_
        repeat cell_call
        rename_i S
        refine gexp_call S T' hr.le fun t s S => ?_
        have hln : ((List.zipWith (fun a b => Builtin.bitXor a (gexpP (glogP b + (glogP (ns.getD 0 0) - glogP (ms.getD 0 0))))) ns ms).take i).length ≤ 1000000 := by
          rw [List.length_take, List.length_zipWith]; omega
        repeat cell_call
        rename_i vs2 s hi2 S
        refine ⟨⟨vs2, _, some (.int a ta), some (.int b tb)⟩, ?_, S⟩
        show IntsAre vs2 _
        rw [List.take_add_one, List.getElem?_zipWith, ha, hb]
        exact hi2
      · intro y s hP S
        refine ⟨_, _, _, S, .gone rfl (.gone rfl (.gone rfl (.gone (cellE_of_fields p2.2) (.gone (cellE_of_fields p1.2) (.new .refl))))), fun s S => ?_⟩
        simp only [List.cons_append, List.nil_append] at S
        obtain ⟨vs2, ep2, _, _⟩ := y
        have hi2 : IntsAre vs2 _ := hP
        rw [List.take_of_length_le (by simp [hx.ia.length, hy.ia.length])] at hi2
        have hl2 := hi2.length
        rw [List.length_zipWith] at hl2
        have hx := hx.cons (p := (acc, listOf vs2.toArray ep2))
        have hy := hy.cons (p := (acc, listOf vs2.toArray ep2))
        repeat cell_call
        rename_i S
        refine ite_join (J := fun s' => ∃ (ep3 : Nat) (us : List Value) (pre : Ledg) (dt rt : Tok), IntsAre us (modStep ns ms) ∧ St o g (envF fs303.1 L 303) [(Str.ofString "self", some (Value.ref x)), (Str.ofString "other", some (Value.ref y)), (Str.ofString "difference", some (.int ((ns.length : Int) - ms.length) dt)), (Str.ofString "num", some (.ref acc))] [(Str.ofString "ratio", L + 1, some (.int (logTab.getD (ns.getD (0 : Int).toNat 0).toNat 0 - logTab.getD (ms.getD (0 : Int).toNat 0).toNat 0) rt))] (pre ++ (acc, listOf us.toArray ep3) :: (L + 1, obr) :: n) s') ?_ ?_ ?_
        · intro hd
          have hdl : ms.length < ns.length := by omega
          have hxa := (hx0.cons (p := (L + 1, obr))).cons (p := (acc, listOf vs2.toArray ep2))
          repeat cell_call
          rename_i S
          refine slice_poly S T hr.le hxa (by omega) (.int _ _) .none ?_ fun D s S => ?_
          · kernel_rfl
          have h3 := kmk_from_neg (x := -((ns.length : Int) - ms.length)) hx.ia (by omega)
          rw [show ns.length - (-(-((ns.length : Int) - ms.length))).toNat = ms.length by omega] at h3
          have hl3 := h3.length
          rw [List.length_drop] at hl3
          repeat cell_call
          refine r_extend (ws := (slicePick vs.toArray (some (-((ns.length : Int) - ms.length))) none none).toList) S (.n (.head _)) (by (intro _; tb_start)) (by rw [hl3]; show vs2.length + _ ≤ _; omega) fun k' s S => ?_
          repeat cell_call
          refine ⟨rfl, k', _, [(D, _)], _, _, hi2.append h3, S⟩
        · intro hd
          have hd' : ns.length = ms.length := by omega
          refine ⟨_, _, [], _, _, ?_, S⟩
          rw [modStep, List.drop_of_length_le (by omega), List.append_nil]
          exact hi2
        · rintro s ⟨ep3, us, pre, dt, rt, hus, S⟩
          have hul := hus.length
          have hml : (modStep ns ms).length ≤ 500 := by
            unfold modStep
            rw [List.length_append, List.length_zipWith, List.length_drop]; omega
          repeat cell_call
          rename_i S
          refine new_poly (shift := 0) S T hr.le (.n (List.mem_append_right _ (.head _))) hus hst (by omega) (by omega) fun x2 d2 lp2 t2 vs3 s hi3 S => ?_
          rw [List.replicate_zero, List.append_nil] at hi3
          repeat cell_call
          rename_i S
          have hp2 : Poly w.params ((lp2, listOf vs3.toArray 0) :: (x2, instObj 306 d2) :: (d2, dictOf (polyD w.params t2 lp2) 1) :: (pre ++ (acc, listOf us.toArray ep3) :: (L + 1, obr) :: n)) x2 _ d2 lp2 t2 vs3 0 := ⟨.tail _ (.head _), .tail _ (.tail _ (.head _)), .head _, hi3⟩
          have hy2 : Poly w.params ((lp2, listOf vs3.toArray 0) :: (x2, instObj 306 d2) :: (d2, dictOf (polyD w.params t2 lp2) 1) :: (pre ++ (acc, listOf us.toArray ep3) :: (L + 1, obr) :: n)) y ms e mp ty ws j :=
            ((hy0.cons.cons.app pre).cons).cons.cons
          refine r_modInst S T (.n hp2.x) (.n hp2.d) (.n hy2.x) (.n hy2.d) (mod306 _) (wpAny_call (ih S T hr.le hp2 hy2 (by unfold strip; rw [List.length_drop]; omega) hok ?_))
          intro add z d lp t vs k s hz S
          refine mod_back (by intro h; cases h) ?_
          repeat cell_call
          have e : add ++ (lp2, listOf vs3.toArray 0) :: (x2, instObj 306 d2) :: (d2, dictOf (polyD w.params t2 lp2) 1) :: (pre ++ (acc, listOf us.toArray ep3) :: (L + 1, obr) :: n) =
            (add ++ (lp2, listOf vs3.toArray 0) :: (x2, instObj 306 d2) :: (d2, dictOf (polyD w.params t2 lp2) 1) :: (pre ++ [(acc, listOf us.toArray ep3)])) ++ (L + 1, obr) :: n := by simp
          rw [e] at S hz
          refine back_ S (List.Sublist.append (List.Sublist.refl _) (List.sublist_cons_self _ _)) (.newApp _ .refl) (fun S' => h _ z d lp t vs k _ ?_ S')
          rw [modP, if_neg hge']
          exact hz.skip (by unfold cellE; rw [hor])
end
end
section
open PySem PySem.W PySem.Calls PyProof.Rows
theorem pk1 (P : Params) (prog : Program) (t : Addr) : peek (KK P) ⟨prog, P⟩ (checkBuiltinCall "tuple.__new__" ⟨[.ref 378, .ref t], []⟩) = some () := by kernel_rfl
theorem pk2 (P : Params) (prog : Program) : peek (KK P) ⟨prog, P⟩ (isType (.ref 378)) = some true := by kernel_rfl
theorem pk3 (P : Params) (prog : Program) : peek (KK P) ⟨prog, P⟩ (isSubtype (.ref 378) (.type "tuple")) = some true := by kernel_rfl
theorem pk4 (P : Params) (prog : Program) : peek (KK P) ⟨prog, P⟩ (Bind.madeHere "tuple.__new__" (.ref 378)) = some () := by kernel_rfl
theorem pk5 (P : Params) (prog : Program) : peek (KK P) ⟨prog, P⟩ (typeLookup (.ref 378) "__init__") = some (some (.builtin "object.__init__")) := by kernel_rfl
theorem pk6 (P : Params) (prog : Program) : peek (KK P) ⟨prog, P⟩ (classHasDel 378) = some false := by kernel_rfl

theorem fc1 (P : Params) : findCls (KK P) (.type "tuple") (.type "type") "__new__" = some (.val (.builtin "tuple.__new__")) := by kernel_rfl
theorem own378 (P : Params) : ownNewOk (KK P) 378 379 328 = true := by kernel_rfl
theorem fc378 (P : Params) : findCls (KK P) (.ref 378) (.type "type") "__new__" = some (.get (.builtin "staticmethod.__get__") (.ref 379) .none (.ref 378)) := by kernel_rfl
theorem typ_tuple : typeOf (.type "tuple") = pure (.type "type") := F.isi_meta_tuple
theorem stub_tuple : Manifest.isStub "tuple" = false := by kernel_rfl
local macro_rules | `(tactic| kt_eqs) => `(tactic| first | with_reducible exact kp328 _ | exact kp328 _)
local macro_rules | `(tactic| kt_ors) => `(tactic| first | with_reducible exact gl_tuple _ | exact gl_tuple _)
abbrev tupInst (C dx : Addr) (vs : List Value) : Obj := { cls := .ref C, dict := some dx, data := .seq vs.toArray }
section
variable {mg mb : Str → Option Value} {prog : Program} {w : World} {A : Around} {E : Value → Shared → Prop} {o : OsP} {B : Heap} {env : Env} {l l' : Vars} {c c' : Cels} {n n' pre post : Ledg} {s s' : Shared} {R : Result → Shared → Prop}
theorem tup_new {t : Addr} {a b : Value} (S : St o B env l c n s) (T : Base (KK w.params) mg mb B) (ht : Has B n t (tupOf [a, b]))
    (h : ∀ x dx s', St o B env l c ((x, tupInst 378 dx [a, b]) :: (dx, dictOf [] 0) :: n) s' → R (.ok (.ret (.ref x))) s') : codeAny (model prog w) A (.call (.builtin "tuple.__new__") ⟨[.ref 378, .ref t], []⟩) R s := by
  have X := T.kin.keeps S.fr.keep
  have lk1 : Looks (model prog w) s.heap (checkBuiltinCall "tuple.__new__" ⟨[.ref 378, .ref t], []⟩) () := Looks.of_peek X (pk1 _ _ _)
  have lk2 : Looks (model prog w) s.heap (isType (.ref 378)) true := Looks.of_peek X (pk2 _ _)
  have lk3 : Looks (model prog w) s.heap (isSubtype (.ref 378) (.type "tuple")) true := Looks.of_peek X (pk3 _ _)
  have lk4 : Looks (model prog w) s.heap (Bind.madeHere "tuple.__new__" (.ref 378)) () := Looks.of_peek X (pk4 _ _)
  have lk5 : Looks (model prog w) s.heap (typeLookup (.ref 378) "__init__") (some (.builtin "object.__init__")) := Looks.of_peek X (pk5 _ _)
  have lk6 : Looks (model prog w) s.heap (classHasDel 378) false := Looks.of_peek X (pk6 _ _)
  refine codeAny_call_builtin_code (Code.quiet_builtin _ (by decide +kernel)) (lk1.here ?_)
  refine codeAny_builtin F.entry_tuple_new ?_
  unfold Builtin.«tuple.__new__»
  refine wpAny_bind (lk2.here ?_)
  rw [if_neg (by decide)]
  refine wpAny_bind (lk3.here ?_)
  rw [if_neg (by decide)]
  refine wpAny_bind (lk4.here ?_)
  refine wpAny_bind (lk5.here ?_)
  rw [if_pos (by simp)]
  refine wpAny_bind (wpAny_of_eq (show noKeywords "tuple" ⟨[.ref 378, .ref t], []⟩ = pure () from rfl) ?_)
  refine wpAny_bind (wpAny_of_eq (show checkCount "tuple" 0 1 1 = pure () from rfl) ?_)
  show wpAny _ _ (if (Value.ref 378 == Value.type "tuple") = true then _ else (collect (.ref t) >>= fun r => pure r.toArray >>= fun xs => alloc { cls := .type "dict", data := .dict #[] } >>= fun d => newObj (.ref 378) (.seq xs) (some d) >>= fun v => ret v)) _ _ s
  rw [if_neg (by simp)]
  refine wpAny_bind (wpAny_collect_seq t (.inr rfl) (S.has ht) rfl rfl (fun h' hk => ?_) (by show (2 : Nat) ≤ sizeLine; decide))
  refine wpAny_bind (wpAny_pure (wpAny_bind (wpAny_alloc (wpAny_bind ?_))))
  have S₁ : St o B env l c n { s with heap := h', toks := s.toks } := S.same (S.fr.keeps hk) fun p hp => ⟨hk _ _ (S.nw p hp).1, (S.nw p hp).2⟩
  have S₂ := (S₁.push (dictOf [] 0)).push (tupInst 378 h'.objs.size [a, b])
  have lk7 := lk6.keeps (h' := (h'.push (dictOf [] 0)).push (tupInst 378 h'.objs.size [a, b])) fun b ob e => Heap.get?_push_of_some _ (Heap.get?_push_of_some _ (hk b ob e))
  show wpAny _ _ (newObjAsIs (.ref 378) (.seq #[a, b]) (some h'.objs.size)) _ _ _
  unfold newObjAsIs
  refine wpAny_bind (wpAny_alloc ?_)
  show wpAny _ _ (classHasDel 378 >>= fun r => _) _ _ _
  refine wpAny_bind (lk7.here ?_)
  rw [if_neg (by decide)]
  refine wpAny_pure (wpAny_pure ?_)
  exact h _ _ _ S₂

theorem r_methType {K : Frag} {Ty : String} {name : Str} {pl : Sem Bool} {v : Value} {Q : Value × List Value → Shared → Prop} (S : St o B env l c n s) (T : Base K mg mb B) (ht : typeOf (.type Ty) = pure (.type "type")) (hs : Manifest.isStub Ty = false)
    (e : findCls K (.type Ty) (.type "type") name = some (.val v)) (hh : handedIn v = true) (h : ∀ s', St o B env l c n s' → Q (v, []) s') : wpAny (model prog w) A (getMethod (.type Ty) name pl) Q E s :=
  method_type S.fr T.kin ht hs e hh (h _ (S.tok _))
theorem hand_tn : handedIn (.builtin "tuple.__new__") = true := by kernel_rfl
theorem meth_tuple_new {pl : Sem Bool} {Q : Value × List Value → Shared → Prop} (S : St o B env l c n s) (T : Base (KK w.params) mg mb B) (h : ∀ s', St o B env l c n s' → Q (.builtin "tuple.__new__", []) s') : wpAny (model prog w) A (getMethod (.type "tuple") "__new__" pl) Q E s := by
  refine r_methType (Ty := "tuple") (v := .builtin "tuple.__new__") S T ?_ ?_ ?_ ?_ ?_
  · exact typ_tuple
  · exact stub_tuple
  · exact fc1 _
  · exact hand_tn
  · exact h
theorem new_RSBlock {a b : Value} {Q : Value → Shared → Prop} (S : St o B env l c n s) (T : Base (KK w.params) mg mb B) (hr : Room A 4 30)
    (h : ∀ x dx s', St o B env l c ((x, tupInst 378 dx [a, b]) :: (dx, dictOf [] 0) :: n) s' → Q (.ref x) s') : wpAny (model prog w) A (call (.ref 378) [a, b]) Q E s := by
  refine wpAny_call (own_new (T.kin.keeps S.fr.keep) (own378 _) (fc378 _) ?_)
  rintro s₁ rfl
  have T₀ := T
  have S := S.tok (s.toks + 1)
  refine wpAny_call ?_
  have hr := (Room.make (C := 378) (vals := [a, b]) (kw := []) (d := 3) (u := 29) hr)
  generalize A.under (.builtin "type.__call__" ⟨[.ref 378, a, b], []⟩) = A at *
  refine fn_call0 (d := 2) (u := 26) (binds := [("_cls", .ref 378), ("total_count", a), ("data_count", b)]) (l' := [("_cls", some (.ref 378)), ("total_count", some a), ("data_count", some b)]) S T hr.le (fs328.2 _) (cd328 _) rfl ok328 (BindsTo.of_eq (by kernel_rfl)) (by kernel_rfl) ?_
  clear S hr
  intro g L A s hr S T ext
  have G := EvG.of (env := envF fs328.1 L 328) gn328 rfl rfl
  repeat cell_call
  rename_i S
  refine meth_tuple_new S T fun s S => ?_
  repeat cell_call
  rename_i S
  refine wpAny_call (tup_new S T (.n (.head _)) fun x dx s S => ?_)
  repeat cell_call
  refine back_ (n'' := (x, tupInst 378 dx [a, b]) :: (dx, dictOf [] 0) :: n) S (.cons_cons _ (.cons_cons _ (List.sublist_cons_self _ _))) (by kaf_pre) (fun S' => ⟨x, _, rfl, S'.nw.get (.head _), rfl, T₀.kin.keeps S'.fr.keep, h _ _ _ S'⟩)
end
end
section
open PySem PySem.W PySem.Calls PyProof.Rows
noncomputable def fs57 : { fd : FuncData // ∀ P, (KK P).lookup 57 = some ⟨.type "function", none, .func fd, #[]⟩ } := ⟨_, fun _ => rfl⟩
theorem cd57 (P : Params) : codeIn (KK P) fs57.1.code fs57.1.qualname = true := by kernel_rfl
theorem ok57 : fnOk fs57.1 ["self", "obj", "objtype"] ["self", "obj", "objtype"] [] = true := by kernel_rfl
theorem gn57 : gnOk fs57.1.scope ["issubclass", "type", "tuple"] = true := by kernel_rfl
theorem gl_issubclass (P : Params) : Gl (KK P) "issubclass" (.builtin "issubclass") := .inr ⟨by kernel_rfl, by kernel_rfl, by decide⟩
theorem gl_type (P : Params) : Gl (KK P) "type" (.type "type") := .inr ⟨by kernel_rfl, by kernel_rfl, by decide⟩
theorem at74_index (P : Params) : attrOk (KK P) 74 "index" = true := by kernel_rfl
theorem pq1 (P : Params) (prog : Program) : peek (KK P) ⟨prog, P⟩ (Builtin.«issubclass.nested» ⟨[.ref 378, .type "tuple", rawInt 0], []⟩) = some (.done (.ret (.bool true))) := by kernel_rfl
theorem pq2 (P : Params) (prog : Program) : peek (KK P) ⟨prog, P⟩ (isSubtype (.ref 378) (.type "tuple")) = some true := by kernel_rfl
theorem fo_data (P : Params) (od : Option Obj) : findObj (KK P) 378 od "data_count" = some (.bind (.ref 57) (.ref 373)) := by kernel_rfl
theorem fo_total (P : Params) (od : Option Obj) : findObj (KK P) 378 od "total_count" = some (.bind (.ref 57) (.ref 370)) := by kernel_rfl
theorem ga378 (P : Params) : findIn (KK P) (.ref 378) "__getattribute__" = some (some (.builtin "tuple.__getattribute__")) := by kernel_rfl
theorem gh378 (P : Params) : findIn (KK P) (.ref 378) "__getattr__" = some none := by kernel_rfl
theorem sb378 (P : Params) : subIn (KK P) (.ref 378) (.type "tuple") = some true := by kernel_rfl
theorem tg_kind : builtinKind "tuple.__getattribute__" = some .slot := by decide +kernel
theorem tg_split : splitId "tuple.__getattribute__" = some ("tuple", "__getattribute__") := by decide +kernel
theorem tg_plain : plainId "tuple.__getattribute__" = true := by decide +kernel
theorem tg_entry : entryFor table "tuple.__getattribute__" = some Builtin.«object.__getattribute__» := F.entry_tuple_ga
theorem tg_bind (x : Value) : bindSpecial (.builtin "tuple.__getattribute__") x = pure (.builtin "tuple.__getattribute__", [x]) := by kernel_rfl
section
variable {mg mb : Str → Option Value} {prog : Program} {w : World} {A : Around} {E : Value → Shared → Prop} {o : OsP} {B : Heap} {env : Env} {l l' : Vars} {c c' : Cels} {n n' pre post : Ledg} {s s' : Shared} {R : Result → Shared → Prop}
theorem get_tup {x g a : Addr} {ox : Obj} {od : Option Obj} {name : Str} {expr : Bool} {Q : Value → Shared → Prop} (X : (KK w.params).In s.heap) (I : InstAt s.heap x ox 378 od) (hf : findObj (KK w.params) 378 od name = some (.bind (.ref g) (.ref a)))
    (h : ∀ A', A'.handled = A.handled → A'.depth = A.depth → A'.units ≤ A.units + 4 → wpAny (model prog w) A' (call (.ref g) [.ref a, .ref x, .ref 378]) (fun v s' => handedIn v = true ∧ Q v s') (fun _ _ => False) { s with toks := s.toks + 1 }) :
    wpAny (model prog w) A (getAttr (.ref x) name expr) Q E s := by
  have L0 := I.type (M := model prog w)
  have L1 := looks_findIn (M := model prog w) X (ga378 _)
  have L2 := looks_findIn (M := model prog w) X (gh378 _)
  have L3 := looks_find (M := model prog w) X I hf
  have L4 : Looks (model prog w) s.heap (isInstance (.ref x) (.type "tuple")) true := L0.andThen (looks_subIn X (sb378 _))
  obtain ⟨hh, gg, d, t, os⟩ := s
  unfold getAttr getAttrBy
  refine wpAny_bind (wpAny_mkText (wpAny_holding (wpAny_bind (L0.at (wpAny_bind (L1.at ?_))))))
  show wpAny _ _ (getAttrByItsOwn (.ref x) _ (.ref 378) (.builtin "tuple.__getattribute__") true expr) _ _ _
  unfold getAttrByItsOwn
  refine wpAny_bind (L2.at ?_)
  refine wpAny_bind (wpAny_attempt (wpAny_holding ?_))
  have e : ∀ nm : Value, callGetattribute (.ref x) nm (.builtin "tuple.__getattribute__") expr = boundAndCalled (.builtin "tuple.__getattribute__") (.ref x) nm := fun nm => by cases expr <;> rfl
  rw [e]
  unfold boundAndCalled
  rw [tg_bind]
  refine wpAny_bind (wpAny_pure (wpAny_call ?_))
  refine codeAny_call_builtin tg_plain tg_entry (@check_slot (model prog w) _ _ _ "tuple.__getattribute__" "tuple" "__getattribute__" (.ref x) [.str name t] [] _ tg_kind tg_split L4 (F.args_tuple_getattribute_2 _ _) ?_)
  unfold Builtin.«object.__getattribute__»
  refine wpAny_bind (wpAny_pure (wpAny_bind (wpAny_pure ?_)))
  refine wpAny_bind (L0.at ?_)
  refine wpAny_bind (L3.at ?_)
  show wpAny _ _ (holding [.ref a] (call (.ref g) [.ref a, .ref x, .ref 378]) >>= fun v => ret v) _ _ _
  refine wpAny_bind (wpAny_holding (wpAny_mono (h A.in1 rfl rfl (Nat.add_le_add_left (by decide) _)) (fun v s' ⟨hv, hq⟩ => wpAny_pure ?_) fun _ _ x => x.elim))
  show wpAny _ _ (handedOut v) _ _ _
  rw [handedOut_of hv]
  exact wpAny_pure hq
end
theorem lk370 (P : Params) : (KK P).lookup 370 = some (instObj 74 369) := by kernel_rfl
theorem lk373 (P : Params) : (KK P).lookup 373 = some (instObj 74 372) := by kernel_rfl
end
section
open PySem PySem.W PySem.Calls PyProof.Rows
theorem fc_tg (P : Params) : findCls (KK P) (.type "tuple") (.type "type") "__getitem__" = some (.val (.builtin "tuple.__getitem__")) := by kernel_rfl
theorem hand_tg : handedIn (.builtin "tuple.__getitem__") = true := by kernel_rfl
theorem ti_kind : builtinKind "tuple.__getitem__" = some .slot := by decide +kernel
theorem ti_split : splitId "tuple.__getitem__" = some ("tuple", "__getitem__") := by decide +kernel
theorem ti_plain : plainId "tuple.__getitem__" = true := by decide +kernel
theorem is_entry : entryFor table "issubclass" = some Builtin.«issubclass» := F.entry_issubclass
theorem is_entryN : entryFor table "issubclass.nested" = some Builtin.«issubclass.nested» := F.entry_issubclass_nested
theorem is_kind : builtinKind "issubclass" = none := F.kind_issubclass
theorem is_plain : plainId "issubclass" = true := F.plain_issubclass
theorem is_args (a b : Value) : argsOk "issubclass" ⟨[a, b], []⟩ := F.args_issubclass_2 a b
theorem isN_plain : plainId "issubclass.nested" = true := by decide +kernel
theorem is_none (x : Addr) : compareOp .Is (.ref x) .none = pure (.bool false) := by kernel_rfl
section
variable {mg mb : Str → Option Value} {prog : Program} {w : World} {A : Around} {E : Value → Shared → Prop} {o : OsP} {B : Heap} {env : Env} {l l' : Vars} {c c' : Cels} {n n' pre post : Ledg} {s s' : Shared} {R : Result → Shared → Prop}
theorem r_issub (S : St o B env l c n s) (T : Base (KK w.params) mg mb B) {Q : Value → Shared → Prop} (h : Q (.bool true) s) : wpAny (model prog w) A (call (.builtin "issubclass") [.ref 378, .type "tuple"]) Q E s := by
  have X := T.kin.keeps S.fr.keep
  have L : Looks (model prog w) s.heap (Builtin.«issubclass.nested» ⟨[.ref 378, .type "tuple", rawInt 0], []⟩) (.done (.ret (.bool true))) := Looks.of_peek X (pq1 _ _)
  have Lc : checkBuiltinCall "issubclass" ⟨[.ref 378, .type "tuple"], []⟩ = pure () := by kernel_rfl
  refine wpAny_call (codeAny_call_builtin is_plain is_entry (wpAny_of_eq Lc ?_))
  refine wpAny_pure ⟨plainId_quiet isN_plain _, codeAny_builtin is_entryN ?_⟩
  exact L.here h
theorem r_tupItem (S : St o B env l c n s) (T : Base (KK w.params) mg mb B) {x dx : Addr} {vs : List Value} {i : Nat} {u : Tok} {v : Value} {Q : Value → Shared → Prop} (hx : Has B n x (tupInst 378 dx vs)) (hi : vs[i]? = some v) (hz : vs.length ≤ 1000) (h : ∀ s', St o B env l c n s' → Q v s') :
    wpAny (model prog w) A (call (.builtin "tuple.__getitem__") [.ref x, .int i u]) Q E s := by
  have X := T.kin.keeps S.fr.keep
  have L0 : Looks (model prog w) s.heap (typeOf (.ref x)) (.ref 378) := (Looks.ld (S.has hx)).andThen .now
  have L4 : Looks (model prog w) s.heap (isInstance (.ref x) (.type "tuple")) true := L0.andThen (looks_subIn X (sb378 _))
  refine wpAny_call (codeAny_call_builtin ti_plain PySem.F.entry_tuple_getitem (@check_slot (model prog w) _ _ _ "tuple.__getitem__" "tuple" "__getitem__" (.ref x) [.int i u] [] _ ti_kind ti_split L4 (PySem.F.args_tuple_getitem_2 _ _) ?_))
  unfold Builtin.«tuple.__getitem__»
  refine wpAny_bind (wpAny_pure (wpAny_bind ?_))
  unfold Builtin.Tuple.tupleItemsOf
  refine wpAny_bind (wpAny_seqItems (S.has hx) rfl (wpAny_pure ?_))
  have hl : i < vs.length := by
    by_cases hl : i < vs.length
    · exact hl
    · rw [List.getElem?_eq_none (Nat.le_of_not_lt hl)] at hi; cases hi
  refine wpAny_bind (wpAny_of_eq (show typeOf (.int (i : Int) u) = pure (.type "int") from rfl) ?_)
  rw [if_neg (by decide)]
  refine wpAny_bind (wpAny_specialOf (typeIs_int s (i : Int) u) PySem.F.slot_int_index.lookup ?_)
  rw [if_neg (by simp)]
  refine wpAny_bind (wpAny_of_eq (show asIndex (.int (i : Int) u) = pure (i : Int) from rfl) ?_)
  rw [if_neg (by simp; omega)]
  have e : (seqIndex? (i : Int) vs.toArray.size).bind (vs.toArray[·]?) = some v := by
    have : seqIndex? (i : Int) vs.toArray.size = some i := by
      unfold seqIndex?
      simp
      omega
    rw [this]
    simpa using hi
  show wpAny _ _ (match (seqIndex? (i : Int) vs.toArray.size).bind (vs.toArray[·]?) with | some x => ret x | none => _) _ _ _
  rw [e]
  exact wpAny_pure (h _ S)
end
end
section
open PySem PySem.W PySem.Calls PyProof.Rows
abbrev idxD (P : Params) (t1 t2 : Tok) (i : Int) (t3 : Tok) (v : Value) : List DictEntry := [⟨PyData.keyHash P "index", .str "index" t1, .int i t3⟩, ⟨PyData.keyHash P "__doc__", .str "__doc__" t2, v⟩]
theorem lk369 (P : Params) : (KK P).lookup 369 = some (dictOf (idxD P 2113 2115 0 2107 (.str "Alias for field number 0" 2108)) 2) := by kernel_rfl
theorem lk372 (P : Params) : (KK P).lookup 372 = some (dictOf (idxD P 2123 2125 1 2117 (.str "Alias for field number 1" 2118)) 2) := by kernel_rfl
theorem bd57 (P : Params) {a x : Addr} (S : Setting) : peek (KK P) S (bindArgs fs57.1 ⟨[.ref a, .ref x, .ref 378], []⟩) = some ([("self", .ref a), ("obj", .ref x), ("objtype", .ref 378)] : List (Str × Value)) := by kernel_rfl
local macro_rules | `(tactic| kt_eqs) => `(tactic| first | with_reducible exact at74_index _ | exact at74_index _)
local macro_rules | `(tactic| kt_ors) => `(tactic| first | with_reducible exact gl_issubclass _ | with_reducible exact gl_type _ | with_reducible exact gl_tuple _ | exact gl_issubclass _ | exact gl_type _ | exact gl_tuple _)
section
variable {mg mb : Str → Option Value} {prog : Program} {w : World} {A : Around} {E : Value → Shared → Prop} {o : OsP} {B : Heap} {env : Env} {l l' : Vars} {c c' : Cels} {n n' pre post : Ledg} {s s' : Shared} {R : Result → Shared → Prop}
theorem meth_tuple_item {pl : Sem Bool} {Q : Value × List Value → Shared → Prop} (S : St o B env l c n s) (T : Base (KK w.params) mg mb B) (h : ∀ s', St o B env l c n s' → Q (.builtin "tuple.__getitem__", []) s') : wpAny (model prog w) A (getMethod (.type "tuple") "__getitem__" pl) Q E s := by
  refine r_methType (Ty := "tuple") (v := .builtin "tuple.__getitem__") S T ?_ ?_ ?_ ?_ ?_
  · exact typ_tuple
  · exact stub_tuple
  · exact fc_tg _
  · exact hand_tg
  · exact h
theorem r_tupAttr {x dx : Addr} {vs : List Value} {v : Value} {expr : Bool} {name : Str} {i : Nat} {Q : Value → Shared → Prop} (S : St o B env l c n s) (T : Base (KK w.params) mg mb B) (hr : Room A 3 30) (hn : (name = "total_count" ∧ i = 0) ∨ (name = "data_count" ∧ i = 1))
    (hx : Has B n x (tupInst 378 dx vs)) (hdx : ∃ od, Has B n dx od) (hi : vs[i]? = some v) (hz : vs.length ≤ 1000) (hv : handedIn v = true)
    (h : ∀ s', St o B env l c n s' → Q v s') : wpAny (model prog w) A (getAttr (.ref x) name expr) Q E s := by
  obtain ⟨od, hod⟩ := hdx
  have I : InstAt s.heap x (tupInst 378 dx vs) 378 (some od) := ⟨S.has hx, rfl, rfl, S.has hod⟩
  have key : ∀ (a da : Addr) (t1 t2 t3 : Tok) (dv : Value), (KK w.params).lookup a = some (instObj 74 da) → (KK w.params).lookup da = some (dictOf (idxD w.params t1 t2 i t3 dv) 2) → findObj (KK w.params) 378 (some od) name = some (.bind (.ref 57) (.ref a)) → wpAny (model prog w) A (getAttr (.ref x) name expr) Q E s := by
    intro a da t1 t2 t3 dv ha hda hf
    refine get_tup (T.kin.keeps S.fr.keep) I hf fun A' h1 h2 h3 => ?_
    have hr : Room A' 3 26 := ⟨by rw [h2]; exact hr.depth, by have := hr.units; omega, by rw [h1]; exact hr.handled⟩
    refine wpAny_call (fn_call0 (d := 2) (u := 23) (binds := [("self", .ref a), ("obj", .ref x), ("objtype", .ref 378)]) (l' := [("self", some (.ref a)), ("obj", some (.ref x)), ("objtype", some (.ref 378))]) (S.tok _) T hr (fs57.2 _) (cd57 _) rfl ok57 (binds_peek ((S.tok 0).kin T) (bd57 _)) (by kernel_rfl) ?_)
    clear S hr I hf
    intro g L A s hr S T ext
    have hx := hx.to ext
    have G := EvG.of (env := envF fs57.1 L 57) gn57 rfl rfl
    have ha' := T.kin _ _ ha
    have hda' := T.kin _ _ hda
    repeat cell_call
    refine r_typeOf (by assumption) ?_ hx
    repeat cell_call
    refine r_issub (by assumption) T ?_
    repeat cell_call
    rename_i S
    refine meth_tuple_item S T fun s S => ?_
    repeat cell_call
    rename_i S
    refine r_tupItem S T hx hi hz fun s S => ?_
    repeat cell_call
    exact back_ S (List.Sublist.refl _) .refl fun S' => ⟨hv, h _ S'⟩
  rcases hn with ⟨rfl, rfl⟩ | ⟨rfl, rfl⟩
  · exact key 370 369 _ _ _ _ (lk370 _) (lk369 _) (fo_total _ _)
  · exact key 373 372 _ _ _ _ (lk373 _) (lk372 _) (fo_data _ _)
theorem t_tupAttr {x dx : Addr} {od : Obj} {vs : List Value} {v : Value} {expr : Bool} {name : Str} {i : Nat} {Q : Value → Shared → Prop} (T : Base (KK w.params) mg mb s.heap) (hr : Room A 3 30) (hn : (name = "total_count" ∧ i = 0) ∨ (name = "data_count" ∧ i = 1))
    (hx : s.heap.get? x = some (tupInst 378 dx vs)) (hod : s.heap.get? dx = some od) (hi : vs[i]? = some v) (hz : vs.length ≤ 1000) (hv : handedIn v = true)
    (h : ∀ s', Keeps s s' → Q v s') : wpAny (model prog w) A (getAttr (.ref x) name expr) Q E s := by
  have I : InstAt s.heap x (tupInst 378 dx vs) 378 (some od) := ⟨hx, rfl, rfl, hod⟩
  have key : ∀ (a da : Addr) (t1 t2 t3 : Tok) (dv : Value), (KK w.params).lookup a = some (instObj 74 da) → (KK w.params).lookup da = some (dictOf (idxD w.params t1 t2 i t3 dv) 2) → findObj (KK w.params) 378 (some od) name = some (.bind (.ref 57) (.ref a)) → wpAny (model prog w) A (getAttr (.ref x) name expr) Q E s := by
    intro a da t1 t2 t3 dv ha hda hf
    refine get_tup T.kin I hf fun A' h1 h2 h3 => ?_
    have hr : Room A' 3 26 := ⟨by rw [h2]; exact hr.depth, by have := hr.units; omega, by rw [h1]; exact hr.handled⟩
    refine wpAny_call (fn_callT (o := osE s) (s := { s with toks := s.toks + 1 }) (d := 2) (u := 23) (binds := [("self", .ref a), ("obj", .ref x), ("objtype", .ref 378)]) (l' := [("self", some (.ref a)), ("obj", some (.ref x)), ("objtype", some (.ref 378))]) T ⟨rfl, rfl, rfl⟩ hr (fs57.2 _) (cd57 _) rfl ok57 (binds_peek T.kin (bd57 _)) (by kernel_rfl) ?_)
    clear hr I hf
    intro L A t hr S
    have T : Base (KK w.params) mg mb s.heap := T
    have hx : Has s.heap [] x (tupInst 378 dx vs) := .b hx
    have G := EvG.of (env := envF fs57.1 L 57) gn57 rfl rfl
    have ha' := T.kin _ _ ha
    have hda' := T.kin _ _ hda
    have S : St (osE s) s.heap (envF fs57.1 L 57) [("self", some (.ref a)), ("obj", some (.ref x)), ("objtype", some (.ref 378))] [] [] t := S
    repeat cell_call
    refine r_typeOf (by assumption) ?_ hx
    repeat cell_call
    refine r_issub (by assumption) T ?_
    repeat cell_call
    rename_i S
    refine meth_tuple_item S T fun s S => ?_
    repeat cell_call
    rename_i S
    refine r_tupItem S T hx hi hz fun s' S => ?_
    repeat cell_call
    refine ⟨_, _, _, _, S, hv, h _ ?_⟩
    obtain ⟨o1, o2, o3⟩ := S.os
    refine ⟨s'.heap, s'.toks, ?_, S.fr.keep⟩
    cases s'; cases s
    simp at o1 o2 o3
    subst o1 o2 o3
    rfl
  rcases hn with ⟨rfl, rfl⟩ | ⟨rfl, rfl⟩
  · exact key 370 369 _ _ _ _ (lk370 _) (lk369 _) (fo_total _ _)
  · exact key 373 372 _ _ _ _ (lk373 _) (lk372 _) (fo_data _ _)
end
end
section
open PySem PySem.W PySem.Calls PyProof.Rows
noncomputable def ob242 : { vs : List Value // ∀ P, (KK P).lookup 242 = some (tupOf vs) } := ⟨_, fun _ => rfl⟩
noncomputable def ob81 : { es : List DictEntry // ∀ P, (KK P).lookup 81 = some (dictOf es 4) } := ⟨_, fun _ => rfl⟩
theorem ints81 : intEs ob81.1 = some [(1, .int 0 1054), (0, .int 1 1056), (3, .int 2 1058), (2, .int 3 1060)] := by kernel_rfl
theorem kc378 (P : Params) : keepIn (KK P) (.ref 378) = true := by kernel_rfl

/-- the blocks of a version, as the table's groups: how many, how long, how many data words -/
abbrev Grps := List (Nat × Nat × Nat)
def flatG (gs : Grps) : List Int := gs.flatMap fun g => [(g.1 : Int), g.2.1, g.2.2]
def blksOf (gs : Grps) : List (Nat × Nat) := gs.flatMap fun g => List.replicate g.1 g.2
theorem flatG_len (gs : Grps) : (flatG gs).length = 3 * gs.length := by
  induction gs with
  | nil => rfl
  | cons g gs ih => simp [flatG] at ih ⊢; omega
theorem flatG_at : ∀ (gs : Grps) (i : Nat) (g : Nat × Nat × Nat), gs[i]? = some g → ((flatG gs).drop (3 * i)).take 3 = [(g.1 : Int), g.2.1, g.2.2]
  | g' :: gs, 0, g, h => by simp at h; subst h; simp [flatG]
  | g' :: gs, i + 1, g, h => by
    have : flatG (g' :: gs) = (g'.1 : Int) :: g'.2.1 :: g'.2.2 :: flatG gs := rfl
    rw [this, show 3 * (i + 1) = 3 * i + 1 + 1 + 1 by omega, List.drop_succ_cons, List.drop_succ_cons, List.drop_succ_cons]
    exact flatG_at gs i g (by simpa using h)

/-- one block of the ledger; the blocks -/
def BlkAt (n : Ledg) (v : Value) (b : Nat × Nat) : Prop := ∃ x dx t1 t2, v = .ref x ∧ (x, tupInst 378 dx [.int b.1 t1, .int b.2 t2]) ∈ n ∧ (dx, dictOf [] 0) ∈ n
inductive BlksAre (n : Ledg) : List Value → List (Nat × Nat) → Prop
  | nil : BlksAre n [] []
  | cons {v : Value} {b : Nat × Nat} {vs : List Value} {bs : List (Nat × Nat)} : BlkAt n v b → BlksAre n vs bs → BlksAre n (v :: vs) (b :: bs)
theorem BlkAt.mono {n n' : Ledg} {v : Value} {b : Nat × Nat} (h : BlkAt n v b) (k : ∀ a C dx vs, (a, tupInst C dx vs) ∈ n → (a, tupInst C dx vs) ∈ n') (k' : ∀ a, (a, dictOf [] 0) ∈ n → (a, dictOf [] 0) ∈ n') : BlkAt n' v b :=
  let ⟨x, dx, t1, t2, e, h1, h2⟩ := h; ⟨x, dx, t1, t2, e, k _ _ _ _ h1, k' _ h2⟩
theorem BlksAre.mono' {n n' : Ledg} {vs : List Value} {bs : List (Nat × Nat)} (h : BlksAre n vs bs) (k : ∀ a C dx vs, (a, tupInst C dx vs) ∈ n → (a, tupInst C dx vs) ∈ n') (k' : ∀ a, (a, dictOf [] 0) ∈ n → (a, dictOf [] 0) ∈ n') : BlksAre n' vs bs := by
  induction h with
  | nil => exact .nil
  | cons hb _ ih => exact .cons (hb.mono k k') ih
theorem BlksAre.mono {n n' : Ledg} {vs : List Value} {bs : List (Nat × Nat)} (h : BlksAre n vs bs) (k : ∀ p ∈ n, p ∈ n') : BlksAre n' vs bs := h.mono' (fun _ _ _ _ => k _) fun _ => k _
theorem BlksAre.append {n : Ledg} {vs ws : List Value} {bs cs : List (Nat × Nat)} (h : BlksAre n vs bs) (h' : BlksAre n ws cs) : BlksAre n (vs ++ ws) (bs ++ cs) := by
  induction h with
  | nil => exact h'
  | cons hb _ ih => exact .cons hb ih
theorem BlksAre.length {n : Ledg} {vs : List Value} {bs : List (Nat × Nat)} (h : BlksAre n vs bs) : vs.length = bs.length := by
  induction h with
  | nil => rfl
  | cons _ _ ih => simp [ih]
theorem BlksAre.at {n : Ledg} {vs : List Value} {bs : List (Nat × Nat)} (h : BlksAre n vs bs) : ∀ {i : Nat} {v : Value}, vs[i]? = some v → ∃ b, bs[i]? = some b ∧ BlkAt n v b := by
  induction h with
  | nil => intro i v h; simp at h
  | cons hb _ ih =>
    intro i v h
    cases i with
    | zero => simp at h; subst h; exact ⟨_, rfl, hb⟩
    | succ i => exact ih (by simpa using h)

local macro_rules | `(tactic| kt_eqs) => `(tactic| first | with_reducible exact kc378 _ | exact kc378 _)
local macro_rules | `(tactic| kt_ors) => `(tactic| first | with_reducible exact gl_RS_BLOCK_OFFSET _ | with_reducible exact gl_RS_BLOCK_TABLE _ | with_reducible exact gl_range _ | with_reducible exact gl_len _ | with_reducible exact gl_RSBlock _ | exact gl_RS_BLOCK_OFFSET _ | exact gl_RS_BLOCK_TABLE _ | exact gl_range _ | exact gl_len _ | exact gl_RSBlock _)
section
variable {mg mb : Str → Option Value} {prog : Program} {w : World} {A : Around} {E : Value → Shared → Prop} {o : OsP} {B : Heap} {env : Env} {l l' : Vars} {c c' : Cels} {n n' pre post : Ledg} {s s' : Shared} {R : Result → Shared → Prop}
structure RsY where
  hi : Ledg
  vs : List Value
  ep : Nat
  a : Option Value
  b : Option Value
  d : Option Value
  u : Option Value
structure Rs2 where
  hi : Ledg
  vs : List Value
  ep : Nat
theorem rs_spec {ver lvl : Int} {u1 u2 tof : Tok} {off : Int} {ta : Addr} {ws : List Value} {gs : Grps} (S : St o B env l c n s) (T : Base (KK w.params) mg mb B) (hr : Room A 6 60)
    (hoff : valueAt [(1, Value.int 0 1054), (0, .int 1 1056), (3, .int 2 1058), (2, .int 3 1060)] lvl = some (.int off tof)) (h0 : 0 ≤ (ver - 1) * 4 + off) (htab : ob242.1[((ver - 1) * 4 + off).toNat]? = some (.ref ta))
    (hta : (KK w.params).lookup ta = some (tupOf ws)) (hws : IntsAre ws (flatG gs)) (hz : gs.length ≤ 10) (hz2 : ∀ g ∈ gs, g.1 ≤ 10 ∧ g.2.1 ≤ 1000 ∧ g.2.2 ≤ 1000)
    (h : ∀ add lb vs k s', BlksAre add vs (blksOf gs) → St o B env l c (add ++ (lb, listOf vs.toArray k) :: n) s' → R (.ok (.ret (.ref lb))) s') :
    codeAny (model prog w) A (.call (.ref 388) ⟨[.int ver u1, .int lvl u2], []⟩) R s := by
  refine fn_call0 (d := 5) (u := 57) (binds := [("version", .int ver u1), ("error_correction", .int lvl u2)]) (l' := [("version", some (.int ver u1)), ("error_correction", some (.int lvl u2)), ("offset", none), ("rs_block", none), ("blocks", none), ("i", none), ("count", none), ("total_count", none), ("data_count", none), ("_", none)]) S T hr (fs388.2 _) (cd388 _) rfl ok388 (BindsTo.of_eq (by kernel_rfl)) (by kernel_rfl) ?_
  clear S T hr
  intro g L A s hr S T ext
  have G := EvG.of (env := envF fs388.1 L 388) gn388 rfl rfl
  repeat cell_call
  rename_i S
  have hd := T.kin _ _ (ob81.2 w.params)
  refine r_dictNotIn S (.b hd) rfl ints81 (by decide) fun s S => ?_
  rw [hoff]
  refine x_truthyB (r_ifF rfl ?_)
  repeat cell_call
  rename_i S
  refine r_dictSub (hs := ?hs) S (.b hd) ints81 (by decide) hoff (fun s S => ?_)
  case hs => kernel_rfl
  repeat cell_call
  rename_i S
  refine r_itemT S (.b (T.kin _ _ (ob242.2 w.params))) h0 htab (by kln_le) ?_ ?hs ?hg
  case hs => kernel_rfl
  case hg => (intro _; kernel_rfl)
  have hta' := T.kin _ _ hta
  have hwl : ws.length = 3 * gs.length := hws.length.trans (flatG_len gs)
  have hwl2 : ws.length ≤ 1000 := by omega
  repeat cell_call
  rename_i lb _ _ _ _ _ _ _ _ _ _ _ _ _ _ _ _ _ _ _ it ob s hob S
  have eN : ((ws.length : Int) + 3 - 1) / 3 = (gs.length : Nat) := by rw [hwl]; omega
  rw [eN, Int.toNat_natCast] at hob
  refine for_rule (X := RsY) (lF := fun v i y => [("version", some (.int ver u1)), ("error_correction", some (.int lvl u2)), ("offset", some (.int off tof)), ("rs_block", some (.ref ta)), ("blocks", some (.ref lb)), ("i", v), ("count", y.a), ("total_count", y.b), ("data_count", y.d), ("_", y.u)]) (cF := fun _ _ => []) (hi := fun _ y => y.hi)
    (lo := fun i y => (lb, listOf y.vs.toArray y.ep) :: n) (P := fun i y => BlksAre y.hi y.vs (blksOf (gs.take i)) ∧ ∀ p ∈ y.hi, cellE p.2 = false) ⟨[], [], 0, none, none, none, none⟩ (iter_range hr.handled 0 3 gs.length) hob S ⟨.nil, by simp⟩ (fun _ _ _ _ => by tb_start) (fun _ _ _ _ _ _ => trivial) ?_ ?_
  · clear S hob s
    rintro i y ob v s hik hP ⟨t, rfl⟩ hob S
    have e1 : (0 + (i : Int) * 3) = ((3 * i : Nat) : Int) := by omega
    rw [e1] at S
    repeat cell_call
    rename_i S
    obtain ⟨gr, hgr⟩ : ∃ gr, gs[i]? = some gr := ⟨_, List.getElem?_eq_getElem hik⟩
    refine r_sliceT (a := 3 * i) (b := 3 * i + 3) S rfl (by omega) ?hs ?ht (.b hta') (by omega) (by omega) hwl2 ?_
    case hs => kernel_rfl
    case ht => (intro _; kernel_rfl)
    intro D add s hD hadd S
    have h3 := (hws.drop (3 * i)).take 3
    rw [flatG_at gs i gr hgr] at h3
    rw [show 3 * i + 3 - 3 * i = 3 by omega] at hD
    generalize (ws.drop (3 * i)).take 3 = w3 at h3 hD
    cases h3 with
    | cons _ t1 h3 =>
    cases h3 with
    | cons _ t2 h3 =>
    cases h3 with
    | cons _ t3 h3 =>
    cases h3
    have hh := hr.handled
    have hgb := hz2 gr (List.mem_of_getElem? hgr)
    repeat cell_call
    rename_i it2 ob2 s hob2 S
    have e0 : ((gr.1 : Int) - 0).toNat = gr.1 := by omega
    rw [e0] at hob2
    have e00 : ((0 : Nat) : Int) = 0 := rfl
    refine for_rule (X := Rs2) (lF := fun v _ _ => [("version", some (.int ver u1)), ("error_correction", some (.int lvl u2)), ("offset", some (.int off tof)), ("rs_block", some (.ref ta)), ("blocks", some (.ref lb)), ("i", some (.int (3 * i : Nat) t)), ("count", some (.int gr.1 t1)), ("total_count", some (.int gr.2.1 t2)), ("data_count", some (.int gr.2.2 t3)), ("_", v)]) (cF := fun _ _ => []) (hi := fun _ z => z.hi)
      (lo := fun _ z => add ++ (y.hi ++ (it, ob) :: (lb, listOf z.vs.toArray z.ep) :: n)) (P := fun j z => BlksAre (z.hi ++ y.hi) z.vs (blksOf (gs.take i) ++ List.replicate j gr.2) ∧ ∀ p ∈ z.hi, cellE p.2 = false) ⟨[], y.vs, y.ep⟩ (iter_range hh 0 1 gr.1) hob2 S ⟨by simpa using hP.1, by simp⟩ (fun _ _ _ _ => by tb_start) (fun _ _ _ _ _ _ => trivial) ?_ ?_
    · clear S hob2 s
      rintro j z ob2 v s hjk hQ ⟨t, rfl⟩ hob2 S
      have hvl : z.vs.length ≤ 1000 := by
        have h1 := hQ.1.length
        have h2 : ∀ (gs : Grps), (∀ g ∈ gs, g.1 ≤ 10 ∧ g.2.1 ≤ 1000 ∧ g.2.2 ≤ 1000) → (blksOf gs).length ≤ 10 * gs.length := by
          intro gs
          induction gs with
          | nil => intro _; simp [blksOf]
          | cons g gs ih =>
            intro h
            have h1 := ih fun g hg => h g (.tail _ hg)
            have h2 := h g (.head _)
            simp [blksOf] at h1 ⊢
            omega
        have h3 := h2 (gs.take i) fun g hg => hz2 g (List.mem_of_mem_take hg)
        have h4 : (gs.take i).length ≤ gs.length := by simp; omega
        simp at h1
        omega
      repeat cell_call
      rename_i S
      refine new_RSBlock S T hr.le fun x dx s S => ?_
      repeat cell_call
      rename_i S
      refine' ⟨⟨(x, tupInst 378 dx [.int gr.2.1 t2, .int gr.2.2 t3]) :: (dx, dictOf [] 0) :: z.hi, z.vs ++ [.ref x], z.ep + 1⟩, ?zu, ⟨?zp, ?zc⟩, ?zs⟩
      case zs => exact S
      case zp =>
        show BlksAre _ _ _
        rw [List.replicate_succ', ← List.append_assoc]
        refine (hQ.1.mono fun p hp => ?_).append (.cons ⟨x, dx, t2, t3, rfl, .head _, .tail _ (.head _)⟩ .nil)
        exact .tail _ (.tail _ hp)
      case zc =>
        intro p hp
        rcases List.mem_cons.mp hp with rfl | hp
        · rfl
        · rcases List.mem_cons.mp hp with rfl | hp
          · rfl
          · exact hQ.2 p hp
    · intro v z s hQ S
      refine x_next (x_nil ?_)
      have hbl : blksOf (gs.take (i + 1)) = blksOf (gs.take i) ++ List.replicate gr.1 gr.2 := by
        rw [List.take_add_one, hgr]
        simp [blksOf]
      refine' ⟨⟨z.hi ++ (add ++ y.hi), z.vs, z.ep, some (.int gr.1 t1), some (.int gr.2.1 t2), some (.int gr.2.2 t3), v⟩, some (.int (3 * i : Nat) t), ⟨?zp, ?zc⟩, ?zs⟩
      case zs => simpa using S
      case zp =>
        show BlksAre _ _ _
        rw [hbl]
        refine hQ.1.mono fun p hp => ?_
        rcases List.mem_append.mp hp with hp | hp
        · exact List.mem_append_left _ hp
        · exact List.mem_append_right _ (List.mem_append_right _ hp)
      case zc =>
        intro p hp
        rcases List.mem_append.mp hp with hp | hp
        · exact hQ.2 p hp
        · rcases List.mem_append.mp hp with hp | hp
          · exact hadd p hp
          · exact hP.2 p hp
  · intro v y s hP S
    repeat cell_call
    rename_i S
    rw [List.take_of_length_le (Nat.le_refl _)] at hP
    exact back_ S (List.Sublist.refl _) (.newApp _ (.new .refl)) (fun S' => h _ _ _ _ _ hP.1 S')
end
end
section
open PySem PySem.W PySem.Calls PyProof.Rows
/-- the mode that the text thinks the best -/
def alphaIn (c : UInt8) : Bool := alphaB.contains (c.toNat : Int).toNat.toUInt8
def optM (b : Array UInt8) : Int := if Builtin.Bytes.allOf Builtin.Bytes.isDigit b.toList = true then 1 else if b.toList.all alphaIn = true then 2 else 4
theorem all_range (b : Array UInt8) (f : UInt8 → Bool) : (List.range b.size).all (fun j => (b[j]?).elim true f) = b.toList.all f := by
  apply Bool.eq_iff_iff.mpr
  rw [List.all_eq_true, List.all_eq_true]
  constructor
  · intro h c hc
    obtain ⟨j, hj, rfl⟩ := List.mem_iff_getElem.mp hc
    have hj' : j < b.size := by simpa using hj
    have := h j (List.mem_range.mpr hj')
    rw [Array.getElem?_eq_getElem hj'] at this
    exact this
  · intro h j hj
    rw [List.mem_range] at hj
    rw [Array.getElem?_eq_getElem hj]
    exact h _ (by simp)
local macro_rules | `(tactic| kt_eqs) => `(tactic| first | with_reducible exact kc378 _ | exact kc378 _)
local macro_rules | `(tactic| kt_ors) => `(tactic| first | with_reducible exact gl_MODE_NUMBER _ | with_reducible exact gl_all _ | with_reducible exact gl_MODE_ALPHA_NUM _ | with_reducible exact gl_MODE_8BIT_BYTE _ | exact gl_MODE_NUMBER _ | exact gl_all _ | exact gl_MODE_ALPHA_NUM _ | exact gl_MODE_8BIT_BYTE _)
section
variable {mg mb : Str → Option Value} {prog : Program} {w : World} {A : Around} {E : Value → Shared → Prop} {o : OsP} {B : Heap} {env : Env} {l l' : Vars} {c c' : Cels} {n n' pre post : Ledg} {s s' : Shared} {R : Result → Shared → Prop}
theorem opt_spec {o₀ : OsState} {b : Array UInt8} {tb : Tok} (S : St (osB o₀) B env l c n s) (TG : BaseG (KK w.params) mg mb B) (hr : Room A 6 60) (Lc : CodeLed B n 439 435)
    (h : ∀ ps t s', TriplesOk ps.toList → St (osB o₀) B env l c (putAt n 435 (recOb ps)) s' → R (.ok (.ret (.int (optM b) t))) s') :
    codeAny (model prog w) A (.call (.ref 440) ⟨[.bytes b tb], []⟩) R s := by
  refine fn_call0 (d := 5) (u := 57) (binds := [("data", .bytes b tb)]) (l' := [("data", some (.bytes b tb))]) S TG.toBase hr (fs440.2 _) (cd440 _) rfl ok440 (BindsTo.of_eq (by kernel_rfl)) (by kernel_rfl) ?_
  clear S hr
  intro g L A s hr S T ext
  have TG := TG.keeps ext
  have Lc := Lc.to ext
  have G := EvG.of (env := envF fs440.1 L 440) gn440 rfl rfl
  have hord := S.ord
  obtain ⟨hcb, ps₀, hm₀, ht₀⟩ := id Lc
  repeat cell_call
  refine r_isdigit ?_
  refine x_truthyB (r_iteB (fun hd => ?_) (fun hd => ?_))
  · repeat cell_call
    rename_i S
    refine back_ (n'' := n) S (List.Sublist.refl _) .refl fun S' => ?_
    rw [show optM b = 1 from if_pos hd] at h
    exact h ps₀ _ _ ht₀ (by rw [putAt_self hm₀ hord]; exact S')
  · repeat cell_call
    rename_i S
    refine r_genexp (o₀ := o₀) (l := [("data", some (.bytes b tb))]) (c := []) (cl := []) TG rfl hr.handled rfl ?hclos ?hcell ?h0 ?hx rfl hr.dep ?hs ?_
    case hclos => kernel_rfl
    case hcell => decide +kernel
    case h0 => kernel_rfl
    case hx => kernel_rfl
    case hs => (intro _; kernel_rfl)
    refine r_name S (by tb_rel) ?_
    refine r_iterBytesL S fun it ob s hob hlt S => ?_
    refine ⟨n, 439, 435, it, ob, b.size, bytItP b tb, _, fun _ => True, [], fun i v => ∃ c, b[i]? = some c ∧ v = .bool (alphaIn c), rfl, rfl, S, Lc, hob, hlt, fun A' hA => iter_bytes hA b tb, fun A' s i ob Q E => self_bytes s i ob Q E, ⟨by simp, by simp, by simp, trivial, fun _ _ _ _ => trivial⟩, ?_, ?_⟩
    · intro A' E' i v t m₂ C code hA hd hu hit hns hm hB hn
      obtain ⟨ch, u, hch, rfl⟩ := hit
      have Tt := TG.toBase.keeps hB
      refine wpAny_Compare1 (t_nameL (m := m₂) rfl ?hk ?hdd hns hm (t_nameG Tt (gn := ["ALPHA_NUM"]) (EvG.of ?hg rfl rfl) (.head _) (gl_ALPHA_NUM _) (r_inB (by omega) (by have := ch.toNat_lt; omega) ⟨⟨ch, hch, rfl⟩, Keeps.refl _⟩))) ?hmm
      case hk => kernel_rfl
      case hdd => kernel_rfl
      case hg => kernel_rfl
      case hmm => kernel_rfl
    · intro a k ps s ht hn hL S X
      have hord := hord
      repeat cell_call
      refine r_allGen S X hn hL (fun j => (b[j]?).elim true alphaIn) (fun j v ⟨ch, h1, h2⟩ => by rw [h1]; exact h2) fun s S => ?_
      have e : (List.range b.size).all (fun j => (b[j]?).elim true alphaIn) = b.toList.all alphaIn := all_range b alphaIn
      rw [e]
      refine x_truthyB (r_iteB (fun ha => ?_) (fun ha => ?_))
      · repeat cell_call
        rename_i S
        refine back_ (n'' := putAt n 435 (recOb ps)) S (List.Sublist.refl _) (putAt_keepsC hm₀ rfl hord) fun S' => ?_
        rw [show optM b = 2 by unfold optM; rw [if_neg (by rw [hd]; decide), if_pos ha]] at h
        exact h ps _ _ ht S'
      · repeat cell_call
        rename_i S
        refine back_ (n'' := putAt n 435 (recOb ps)) S (List.Sublist.refl _) (putAt_keepsC hm₀ rfl hord) fun S' => ?_
        rw [show optM b = 4 by unfold optM; rw [if_neg (by rw [hd]; decide), if_neg (by rw [ha]; decide)]] at h
        exact h ps _ _ ht S'
end
end
section
open PySem PySem.W PySem.Calls PyProof.Rows
theorem bd455 (P : Params) {x : Addr} {b : Array UInt8} {tb u : Tok} {m : Int} (S : Setting) : peek (KK P) S (bindArgs fs455.1 ⟨[.ref x, .bytes b tb], [("mode", .int m u)]⟩) = some ([("self", .ref x), ("data", .bytes b tb), ("mode", .int m u), ("check_data", .bool true)] : List (Str × Value)) := by kernel_rfl
local macro_rules | `(tactic| kt_eqs) => `(tactic| first | with_reducible exact so479_mode _ | with_reducible exact so479_data _ | with_reducible exact kp433 _ | with_reducible exact kp440 _ | exact so479_mode _ | exact so479_data _ | exact kp433 _ | exact kp440 _)
local macro_rules | `(tactic| kt_ors) => `(tactic| first | with_reducible exact gl_MODE_NUMBER _ | with_reducible exact gl_MODE_ALPHA_NUM _ | with_reducible exact gl_MODE_8BIT_BYTE _ | with_reducible exact gl_isinstance _ | with_reducible exact gl_bytes _ | with_reducible exact gl_to_bytestring _ | with_reducible exact gl_optimal_mode _ | exact gl_MODE_NUMBER _ | exact gl_MODE_ALPHA_NUM _ | exact gl_MODE_8BIT_BYTE _ | exact gl_isinstance _ | exact gl_bytes _ | exact gl_to_bytestring _ | exact gl_optimal_mode _)
section
variable {mg mb : Str → Option Value} {prog : Program} {w : World} {A : Around} {E : Value → Shared → Prop} {o : OsP} {B : Heap} {env : Env} {l l' : Vars} {c c' : Cels} {n n' pre post : Ledg} {s s' : Shared} {R : Result → Shared → Prop}
theorem tobytes_call {b : Array UInt8} {tb : Tok} {Q : Value → Shared → Prop} (S : St o B env l c n s) (T : Base (KK w.params) mg mb B) (hr : Room A 2 10)
    (h : ∀ s', St o B env l c n s' → Q (.bytes b tb) s') : wpAny (model prog w) A (call (.ref 433) [.bytes b tb]) Q E s := by
  refine wpAny_call (fn_call0 (d := 1) (u := 7) (binds := [("data", .bytes b tb)]) (l' := [("data", some (.bytes b tb))]) S T hr (fs433.2 _) (cd433 _) rfl ok433 (BindsTo.of_eq (by kernel_rfl)) (by kernel_rfl) ?_)
  clear S hr
  intro g L A s hr S T ext
  have G := EvG.of (env := envF fs433.1 L 433) gn433 rfl rfl
  repeat cell_call
  refine x_isBytes ?_
  repeat cell_call
  exact back_ (by assumption) (List.Sublist.refl _) (by kaf_pre) (fun S' => h _ S')
theorem new_QRData {o₀ : OsState} {b : Array UInt8} {tb u : Tok} {m : Nat} {Q : Value → Shared → Prop} (S : St (osB o₀) B env l c n s) (TG : BaseG (KK w.params) mg mb B) (hr : Room A 9 90) (Lc : CodeLed B n 439 435)
    (hm : m = 1 ∨ m = 2 ∨ m = 4) (hopt : optM b ≤ m)
    (h : ∀ x d t1 t2 ps s', TriplesOk ps.toList → St (osB o₀) B env l c ((x, instObj 479 d) :: (d, dictOf (qrD w.params t1 t2 m u b tb) 2) :: putAt n 435 (recOb ps)) s' → Q (.ref x) s') :
    wpAny (model prog w) A (call (.ref 479) [.bytes b tb] [("mode", .int m u)]) Q E s := by
  refine r_new S TG.toBase (nw479 _) fun x d s S => ?_
  have hr := hr.make (C := 479) (vals := [.bytes b tb]) (kw := [("mode", .int m u)])
  generalize A.under (.builtin "type.__call__" ⟨[.ref 479, .bytes b tb], [("mode", .int m u)]⟩) = A at *
  refine fn_call0 (d := 7) (u := 86) (binds := [("self", .ref x), ("data", .bytes b tb), ("mode", .int m u), ("check_data", .bool true)]) (l' := [("self", some (.ref x)), ("data", some (.bytes b tb)), ("mode", some (.int m u)), ("check_data", some (.bool true))]) S TG.toBase hr.le (fs455.2 _) (cd455 _) rfl ok455 (binds_peek (S.kin TG.toBase) (bd455 _)) (by kernel_rfl) ?_
  clear S hr
  intro g L A s hr S T ext
  have TG := TG.keeps ext
  have Lc := Lc.to ext
  have G := EvG.of (env := envF fs455.1 L 455) gn455 rfl rfl
  repeat cell_call
  rename_i S
  refine tobytes_call S T hr.le fun s S => ?_
  repeat cell_call
  rename_i S
  refine r_notInTup S (.n (.head _)) (IntsAre.cons _ _ (.cons _ _ (.cons _ _ .nil))) ?_
  have e : (!([1, 2, 4] : List Int).any fun x => x == (m : Int)) = false := by rcases hm with rfl | rfl | rfl <;> rfl
  rw [e]
  repeat cell_call
  obtain ⟨ps₀, hm₀, ht₀⟩ := id Lc.2
  refine wpAny_call (opt_spec (o₀ := o₀) (b := b) (tb := tb) (by assumption) TG hr.le (Lc.sub fun ps hp => .tail _ (.tail _ (.tail _ hp))) fun ps t s ht S => ?_)
  have hlt : ¬ ((m : Int) < optM b) := by omega
  rename_i S₀
  have hab := S₀.aboveP (pre := [_, _, _]) hm₀
  rw [putAt_cons (hab _ (.head _)), putAt_cons (hab _ (.tail _ (.head _))), putAt_cons (hab _ (.tail _ (.tail _ (.head _))))] at S
  repeat cell_call
  refine r_iteNeg hlt ?_
  repeat cell_call
  rename_i S
  have hord := S₀.ord
  rw [List.map_cons, List.map_cons, List.map_cons, List.pairwise_cons, List.pairwise_cons, List.pairwise_cons] at hord
  exact back_ (n'' := (x, instObj 479 d) :: (d, dictOf _ 2) :: putAt n 435 (recOb ps)) S (List.sublist_cons_self _ _) (.cons (.change rfl (putAt_keepsC hm₀ rfl hord.2.2.2))) (fun S' => ⟨rfl, h _ _ _ _ _ _ ht S'⟩)
end
end
section
open PySem PySem.W PySem.Calls PyProof.Rows
/-- one row: a part of the ledger's; the rows -/
def RowAt (P : Params) (n : Ledg) (v : Value) (p : Nat × List Nat) : Prop :=
  ∃ q dq t1 t2 tm b tb, v = .ref q ∧ (q, instObj 479 dq) ∈ n ∧ (dq, dictOf (qrD P t1 t2 p.1 tm b tb) 2) ∈ n ∧ KBw.bInts b = octs p.1 p.2
inductive RowsAre (P : Params) (n : Ledg) : List Value → List (Nat × List Nat) → Prop
  | nil : RowsAre P n [] []
  | cons {v : Value} {p : Nat × List Nat} {vs : List Value} {ps : List (Nat × List Nat)} : RowAt P n v p → RowsAre P n vs ps → RowsAre P n (v :: vs) (p :: ps)
theorem RowsAre.mono {P : Params} {n n' : Ledg} {vs : List Value} {ps : List (Nat × List Nat)} (h : RowsAre P n vs ps) (k : ∀ p : Addr × Obj, p.2.cls ≠ .none → p ∈ n → p ∈ n') : RowsAre P n' vs ps := by
  induction h with
  | nil => exact .nil
  | cons hb _ ih =>
    obtain ⟨q, dq, t1, t2, tm, b, tb, e, h1, h2, h3⟩ := hb
    exact .cons ⟨q, dq, t1, t2, tm, b, tb, e, k _ (by simp [instObj]) h1, k _ (by simp [dictOf]) h2, h3⟩ ih
theorem RowsAre.append {P : Params} {n : Ledg} {vs ws : List Value} {ps qs : List (Nat × List Nat)} (h : RowsAre P n vs ps) (h' : RowsAre P n ws qs) : RowsAre P n (vs ++ ws) (ps ++ qs) := by
  induction h with
  | nil => exact h'
  | cons hb _ ih => exact .cons hb ih
theorem RowsAre.length {P : Params} {n : Ledg} {vs : List Value} {ps : List (Nat × List Nat)} (h : RowsAre P n vs ps) : vs.length = ps.length := by
  induction h with
  | nil => rfl
  | cons _ _ ih => simp [ih]
theorem RowsAre.at {P : Params} {n : Ledg} {vs : List Value} {ps : List (Nat × List Nat)} (h : RowsAre P n vs ps) : ∀ {i : Nat} {v : Value}, vs[i]? = some v → ∃ p, ps[i]? = some p ∧ RowAt P n v p := by
  induction h with
  | nil => intro i v h; simp at h
  | cons hb _ ih =>
    intro i v h
    cases i with
    | zero => simp at h; subst h; exact ⟨_, rfl, hb⟩
    | succ i => exact ih (by simpa using h)

/-- the fields of a part and of all parts -/
def lenB (m : Nat) : Nat := if m = 1 then 10 else if m = 2 then 9 else 8
def partF (p : Nat × List Nat) : List (Nat × Nat) := (p.1, 4) :: (p.2.length, lenB p.1) :: flds p.1 p.2
def allF (ps : List (Nat × List Nat)) : List (Nat × Nat) := ps.flatMap partF
theorem allF_take {ps : List (Nat × List Nat)} {i : Nat} {p : Nat × List Nat} (h : ps[i]? = some p) : allF (ps.take (i + 1)) = allF (ps.take i) ++ partF p := by
  rw [List.take_add_one, h]
  simp [allF]
theorem wid_append (a b : List (Nat × Nat)) : wid (a ++ b) = wid a + wid b := by simp [wid]
/-- a part as the law makes it -/
def PartOk (p : Nat × List Nat) : Prop := (p.1 = 1 ∨ p.1 = 2 ∨ p.1 = 4) ∧ (∀ v ∈ p.2, v < radixOf p.1) ∧ p.2.length ≤ 21
theorem size_of_wid {m : Nat} (hm : m = 1 ∨ m = 2 ∨ m = 4) (vals : List Nat) : wid (flds m vals) ≤ 20 + 60 * vals.length := by
  have h := wid_take_le (m := m) (vals := vals) (flds m vals).length
  rw [List.take_length] at h
  have : (flds m vals).length ≤ vals.length := by
    have : nGrp m vals ≤ vals.length := by
      unfold nGrp stepOf
      rcases hm with rfl | rfl | rfl <;> simp <;> omega
    simpa [flds] using this
  omega
theorem wid_part {p : Nat × List Nat} (hp : PartOk p) : wid (partF p) ≤ 1300 := by
  have h := size_of_wid hp.1 p.2
  have h2 := hp.2.2
  have h3 : lenB p.1 ≤ 10 := by unfold lenB; split <;> (try split) <;> omega
  simp [partF, wid] at h ⊢
  omega

local macro_rules | `(tactic| kt_eqs) => `(tactic| first | with_reducible exact at479_data _ | exact at479_data _)
local macro_rules | `(tactic| kt_ors) => `(tactic| first | with_reducible exact gl_len _ | exact gl_len _)
section
variable {mg mb : Str → Option Value} {prog : Program} {w : World} {A : Around} {E : Value → Shared → Prop} {o : OsP} {B : Heap} {env : Env} {l l' : Vars} {c c' : Cels} {n n' pre post : Ledg} {s s' : Shared} {R : Result → Shared → Prop}
theorem len_QRData {q dq : Addr} {t1 t2 tm tb : Tok} {m : Int} {b : Array UInt8} {ns : List Int} {Q : Value → Shared → Prop} (S : St o B env l c n s) (T : Base (KK w.params) mg mb B) (hr : Room A 3 20)
    (h1 : (q, instObj 479 dq) ∈ n) (h2 : (dq, dictOf (qrD w.params t1 t2 m tm b tb) 2) ∈ n) (hb : KBw.bInts b = ns) (hz : ns.length ≤ 1000)
    (h : ∀ t s', St o B env l c n s' → Q (.int ns.length t) s') :
    wpAny (model prog w) A (call (.builtin "len") [.ref q]) Q E s := by
  refine r_lenInst S T (Has.n h1) (Has.n h2) (ln479 _) (wpAny_call ?_)
  refine fn_call0 (d := 1) (u := 16) (binds := [("self", .ref q)]) (l' := [("self", some (.ref q))]) S T (Room.in1 hr.le) (fs462.2 _) (cd462 _) rfl ok462 (BindsTo.of_eq (by kernel_rfl)) (by kernel_rfl) ?_
  clear S hr
  intro g L A s hr S T ext
  have G := EvG.of (env := envF fs462.1 L 462) gn462 rfl rfl
  repeat cell_call
  exact back_ (by assumption) (List.Sublist.refl _) (by kaf_pre) (fun S' => lenBack_ S' (by omega) (by omega) h)
end
end
section
open PySem PySem.W PySem.Calls PyProof.Rows
/-- the version and the level, and the groups that the table has for them -/
def KindOk (P : Params) (ver lvl : Int) (gs : Grps) : Prop := ∃ off tof ta ws, valueAt [(1, Value.int 0 1054), (0, .int 1 1056), (3, .int 2 1058), (2, .int 3 1060)] lvl = some (.int off tof) ∧ 0 ≤ (ver - 1) * 4 + off ∧ ob242.1[((ver - 1) * 4 + off).toNat]? = some (.ref ta) ∧
  (KK P).lookup ta = some (tupOf ws) ∧ IntsAre ws (flatG gs) ∧ gs.length ≤ 10 ∧ (∀ g ∈ gs, g.1 ≤ 10 ∧ g.2.1 ≤ 1000 ∧ g.2.2 ≤ 1000)
theorem kc533' (P : Params) : keepIn (KK P) (.ref 533) = true := by kernel_rfl
theorem lenB_int {m : Nat} (hm : m = 1 ∨ m = 2 ∨ m = 4) : lenBits (m : Int) = (lenB m : Nat) := by rcases hm with rfl | rfl | rfl <;> rfl
local macro_rules | `(tactic| kt_eqs) => `(tactic| first | with_reducible exact kc533 _ | with_reducible exact me533_put_bit _ | with_reducible exact kp530 _ | with_reducible exact me533_put _ | with_reducible exact kp516 _ | with_reducible exact at479_mode _ | with_reducible exact kp419 _ | with_reducible exact me479_write _ | with_reducible exact kp469 _ | with_reducible exact kp388 _ | exact kc533 _ | exact me533_put_bit _ | exact kp530 _ | exact me533_put _ | exact kp516 _ | exact at479_mode _ | exact kp419 _ | exact me479_write _ | exact kp469 _ | exact kp388 _)
local macro_rules | `(tactic| kt_ors) => `(tactic| first | with_reducible exact gl_BitBuffer _ | with_reducible exact gl_len _ | with_reducible exact gl_length_in_bits _ | with_reducible exact gl_rs_blocks_base _ | with_reducible exact gl_sum _ | with_reducible exact gl_DataOverflowError _ | with_reducible exact gl_range _ | with_reducible exact gl_min _ | with_reducible exact gl_PAD0 _ | with_reducible exact gl_PAD1 _ | with_reducible exact gl_create_bytes _ | exact gl_BitBuffer _ | exact gl_len _ | exact gl_length_in_bits _ | exact gl_rs_blocks_base _ | exact gl_sum _ | exact gl_DataOverflowError _ | exact gl_range _ | exact gl_min _ | exact gl_PAD0 _ | exact gl_PAD1 _ | exact gl_create_bytes _)
section
variable {mg mb : Str → Option Value} {prog : Program} {w : World} {A : Around} {E : Value → Shared → Prop} {o : OsP} {B : Heap} {env : Env} {l l' : Vars} {c c' : Cels} {n n' pre post : Ledg} {s s' : Shared} {R : Result → Shared → Prop}
def limitOf (gs : Grps) : Nat := 8 * ((blksOf gs).map (·.2)).sum
def padN (limit W : Nat) : Nat := min (limit - W) 4
def delN (W : Nat) : Nat := (8 - W % 8) % 8
def fillN (limit W : Nat) : Nat := (limit - (W + padN limit W + delN (W + padN limit W))) / 8
def padB (k : Nat) : List Bool := (List.range k).flatMap fun i => bitsOf (if i % 2 = 0 then 236 else 17) 8
def allBits (limit : Nat) (parts : List (Nat × List Nat)) : List Bool :=
  bitsF (allF parts) ++ (List.replicate (padN limit (wid (allF parts))) false ++ (List.replicate (delN (wid (allF parts) + padN limit (wid (allF parts)))) false ++ padB (fillN limit (wid (allF parts)))))
theorem padB_take (i : Nat) : padB (i + 1) = padB i ++ bitsOf (if i % 2 = 0 then 236 else 17) 8 := by
  unfold padB
  rw [List.range_succ, List.flatMap_append]
  simp
theorem padB_length (i : Nat) : (padB i).length = 8 * i := by
  induction i with
  | zero => rfl
  | succ i ih => rw [padB_take i, List.length_append, ih, bitsOf_length]; omega
theorem limit_sum (gs : Grps) : preSum (fun j => ((blksOf gs).map fun b => (b.2 : Int) * 8).getD j 0) (blksOf gs).length = (limitOf gs : Nat) := by
  rw [preSum_getD, List.take_of_length_le (by simp)]
  unfold limitOf
  induction blksOf gs with
  | nil => rfl
  | cons b bs ih =>
    simp at ih ⊢
    omega
structure PdY where
  vs : List Value
  ep : Nat
  t : Tok
theorem putAll_rep (ns : List Int) (len : Int) (i : Nat) : putAll ns len (List.replicate (i + 1) false) = putL (putAll ns len (List.replicate i false)) (len + i) false := by
  rw [List.replicate_succ', putAll_snoc, List.length_replicate]
theorem pad_loop {L it x d lb : Addr} {ob : Obj} {t1 t2 t3 : Tok} {len : Int} {k : Nat} {vs : List Value} {ns : List Int} {ep : Nat} {px : Pos} {body : List Stmt} {lF : Option Value → Vars} {u₀ : Option Value} {Q : Flow → Shared → Prop} (hh : A.handled = none) (hr : Room A 4 40)
    (S : St o B (envF fs549.1 L 549) (lF u₀) [] ((it, ob) :: (pre ++ (lb, listOf vs.toArray ep) :: (x, instObj 533 d) :: (d, dictOf (bufD w.params t1 t2 lb len t3) 2) :: post)) s) (T : Base (KK w.params) mg mb B) (hob : rangeItP 0 1 k 0 ob)
    (hbody : ∀ v n s (QQ : Flow → Shared → Prop), St o B (envF fs549.1 L 549) (lF v) [] n s → (x, instObj 533 d) ∈ n → (∃ len t, (d, dictOf (bufD w.params t1 t2 lb len t) 2) ∈ n) → (∀ s', St o B (envF fs549.1 L 549) (lF v) [] n s' → wpAny (model prog w) A (call (.ref 530) [.ref x, .bool false]) (fun v s' => v = .none ∧ QQ .next s') (fun _ _ => False) s') → wpAny (model prog w) A (execs body (envF fs549.1 L 549)) QQ (fun _ _ => False) s)
    (hput : ∀ u v, Put (("_" : Str), u) ("_", v) (lF u) (lF v))
    (hi : IntsAre vs ns) (h0 : 0 ≤ len) (hlen : (ns.length : Int) = (len + 7) / 8) (hsz : len + k < 1000000)
    (h : ∀ u vs' ep' t s', IntsAre vs' (putAll ns len (List.replicate k false)) → St o B (envF fs549.1 L 549) (lF u) [] (pre ++ (lb, listOf vs'.toArray ep') :: (x, instObj 533 d) :: (d, dictOf (bufD w.params t1 t2 lb (len + k) t) 2) :: post) s' → Q .next s') :
    LoopS prog w A (.Name "_" px) body (envF fs549.1 L 549) Q E (.ref it) s := by
  refine for_rule (X := PdY) (lF := fun v _ _ => lF v) (cF := fun _ _ => []) (hi := fun _ _ => []) (lo := fun i y => pre ++ (lb, listOf y.vs.toArray y.ep) :: (x, instObj 533 d) :: (d, dictOf (bufD w.params t1 t2 lb (len + (i : Nat)) y.t) 2) :: post)
    (P := fun i y => IntsAre y.vs (putAll ns len (List.replicate i false))) ⟨vs, ep, t3⟩ (iter_range hh 0 1 k) hob (by simpa using S) hi (fun u v _ _ => hput u v) (fun _ _ _ _ _ _ => trivial) ?_ ?_
  · clear S hob
    rintro i y ob v s hik hP ⟨t, rfl⟩ hob S
    rw [List.nil_append] at S
    refine hbody _ _ _ _ S (.tail _ (List.mem_append_right _ (.tail _ (.head _)))) ⟨_, _, .tail _ (List.mem_append_right _ (.tail _ (.tail _ (.head _))))⟩ fun s S => ?_
    have hl0 := putAll_length (List.replicate i false) hlen
    rw [List.length_replicate] at hl0
    refine put_bit_call (pre := (it, ob) :: pre) S T hr.le hP (by omega) hl0 (by omega) fun vs' ep' t' s hi' S => ?_
    refine x_none ?_
    refine ⟨⟨vs', ep', t'⟩, some (.int (0 + (i : Int) * 1) t), ?_, ?_⟩
    rotate_left
    · show St _ _ _ _ _ ((it, ob) :: (pre ++ _)) _
      rw [show len + ((i + 1 : Nat) : Int) = len + (i : Int) + 1 by omega]
      exact S
    · show IntsAre vs' _
      rw [putAll_rep]
      exact hi'
  · intro v y s hP S
    rw [List.nil_append] at S
    exact h _ _ _ _ _ hP S
end
end
section
open PySem PySem.W PySem.Calls PyProof.Rows
/-- lists of ints of the ledger -/
def DatAt (n : Ledg) (v : Value) (xs : List Int) : Prop := ∃ a vs k, v = .ref a ∧ (a, listOf vs.toArray k) ∈ n ∧ IntsAre vs xs
inductive DatsAre (n : Ledg) : List Value → List (List Int) → Prop
  | nil : DatsAre n [] []
  | cons {v : Value} {b : List Int} {vs : List Value} {bs : List (List Int)} : DatAt n v b → DatsAre n vs bs → DatsAre n (v :: vs) (b :: bs)
theorem DatsAre.mono {n n' : Ledg} {vs : List Value} {bs : List (List Int)} (h : DatsAre n vs bs) (k : ∀ p ∈ n, p ∈ n') : DatsAre n' vs bs := by
  induction h with
  | nil => exact .nil
  | cons hb _ ih =>
    obtain ⟨a, ws, j, e, h1, h2⟩ := hb
    exact .cons ⟨a, ws, j, e, k _ h1, h2⟩ ih
theorem DatsAre.append {n : Ledg} {vs ws : List Value} {bs cs : List (List Int)} (h : DatsAre n vs bs) (h' : DatsAre n ws cs) : DatsAre n (vs ++ ws) (bs ++ cs) := by
  induction h with
  | nil => exact h'
  | cons hb _ ih => exact .cons hb ih
theorem DatsAre.length {n : Ledg} {vs : List Value} {bs : List (List Int)} (h : DatsAre n vs bs) : vs.length = bs.length := by
  induction h with
  | nil => rfl
  | cons _ _ ih => simp [ih]
theorem DatsAre.at {n : Ledg} {vs : List Value} {bs : List (List Int)} (h : DatsAre n vs bs) : ∀ {i : Nat} {v : Value}, vs[i]? = some v → ∃ b, bs[i]? = some b ∧ DatAt n v b := by
  induction h with
  | nil => intro i v h; simp at h
  | cons hb _ ih =>
    intro i v h
    cases i with
    | zero => simp at h; subst h; exact ⟨_, rfl, hb⟩
    | succ i => exact ih (by simpa using h)

/-- the data words of the blocks, the check words -/
def offs (bs : List (Nat × Nat)) : Nat := (bs.map (·.2)).sum
def dcOf (ns : List Int) (o k : Nat) : List Int := ((ns.drop o).take k).map (Builtin.bitAnd 255)
def ecAt (m : List Int) (ec i : Nat) : Int := if (0 : Int) ≤ (i : Int) + ((m.length : Int) - ec) then m.getD ((i : Int) + ((m.length : Int) - ec)).toNat 0 else 0
def rawOf (gen dc : List Int) : List Int := strip dc ++ List.replicate (gen.length - 1) 0
def ecOf (f : Nat) (gen : List Int) (ec : Nat) (dc : List Int) : List Int := (List.range ec).map (ecAt (modP f (rawOf gen dc) gen) ec)
def dcs (ns : List Int) : Nat → List (Nat × Nat) → List (List Int)
  | _, [] => []
  | o, b :: bs => dcOf ns o b.2 :: dcs ns (o + b.2) bs
def ecs (f : Nat) (genOf : Nat → List Int) (ns : List Int) : Nat → List (Nat × Nat) → List (List Int)
  | _, [] => []
  | o, b :: bs => ecOf f (genOf (b.1 - b.2)) (b.1 - b.2) (dcOf ns o b.2) :: ecs f genOf ns (o + b.2) bs
theorem dcs_take (ns : List Int) : ∀ (bs : List (Nat × Nat)) (o i : Nat) (b : Nat × Nat), bs[i]? = some b → dcs ns o (bs.take (i + 1)) = dcs ns o (bs.take i) ++ [dcOf ns (o + offs (bs.take i)) b.2]
  | b' :: bs, o, 0, b, h => by simp at h; subst h; simp [dcs, offs]
  | b' :: bs, o, i + 1, b, h => by
    rw [List.take_succ_cons, List.take_succ_cons]
    show dcOf ns o b'.2 :: dcs ns (o + b'.2) (bs.take (i + 1)) = dcOf ns o b'.2 :: dcs ns (o + b'.2) (bs.take i) ++ _
    rw [dcs_take ns bs (o + b'.2) i b (by simpa using h)]
    simp [offs, Nat.add_assoc]
theorem ecs_take (f : Nat) (genOf : Nat → List Int) (ns : List Int) : ∀ (bs : List (Nat × Nat)) (o i : Nat) (b : Nat × Nat), bs[i]? = some b → ecs f genOf ns o (bs.take (i + 1)) = ecs f genOf ns o (bs.take i) ++ [ecOf f (genOf (b.1 - b.2)) (b.1 - b.2) (dcOf ns (o + offs (bs.take i)) b.2)]
  | b' :: bs, o, 0, b, h => by simp at h; subst h; simp [ecs, offs]
  | b' :: bs, o, i + 1, b, h => by
    rw [List.take_succ_cons, List.take_succ_cons]
    show ecOf f _ _ _ :: ecs f genOf ns (o + b'.2) (bs.take (i + 1)) = ecOf f _ _ _ :: ecs f genOf ns (o + b'.2) (bs.take i) ++ _
    rw [ecs_take f genOf ns bs (o + b'.2) i b (by simpa using h)]
    simp [offs, Nat.add_assoc]
theorem offs_take {bs : List (Nat × Nat)} {i : Nat} {b : Nat × Nat} (h : bs[i]? = some b) : offs (bs.take (i + 1)) = offs (bs.take i) + b.2 := by
  rw [List.take_add_one, h]
  simp [offs]
theorem dcs_length (ns : List Int) : ∀ (bs : List (Nat × Nat)) (o : Nat), (dcs ns o bs).length = bs.length
  | [], _ => rfl
  | _ :: bs, o => by simp [dcs, dcs_length ns bs]
theorem ecs_length (f : Nat) (genOf : Nat → List Int) (ns : List Int) : ∀ (bs : List (Nat × Nat)) (o : Nat), (ecs f genOf ns o bs).length = bs.length
  | [], _ => rfl
  | _ :: bs, o => by simp [ecs, ecs_length f genOf ns bs]
theorem dcs_le (ns : List Int) : ∀ (bs : List (Nat × Nat)) (o : Nat), (∀ b ∈ bs, b.2 ≤ 100) → ∀ xs ∈ dcs ns o bs, xs.length ≤ 100
  | [], _, _, xs, h => by cases h
  | b :: bs, o, hb, xs, h => by
    rcases List.mem_cons.mp h with rfl | h
    · have := hb b (.head _)
      unfold dcOf; simp; omega
    · exact dcs_le ns bs _ (fun b h => hb b (.tail _ h)) xs h
theorem ecs_le (f : Nat) (genOf : Nat → List Int) (ns : List Int) : ∀ (bs : List (Nat × Nat)) (o : Nat), (∀ b ∈ bs, b.1 ≤ 100) → ∀ xs ∈ ecs f genOf ns o bs, xs.length ≤ 100
  | [], _, _, xs, h => by cases h
  | b :: bs, o, hb, xs, h => by
    rcases List.mem_cons.mp h with rfl | h
    · have := hb b (.head _)
      unfold ecOf; simp; omega
    · exact ecs_le f genOf ns bs _ (fun b h => hb b (.tail _ h)) xs h
def mxF (bs : List Nat) : Nat := bs.foldl max 0
theorem mxF_snoc (bs : List Nat) (b : Nat) : mxF (bs ++ [b]) = max (mxF bs) b := by simp [mxF]

/-- turn by turn -/
def pickAt (i : Nat) (l : List Int) : List Int := if i < l.length then [l.getD i 0] else []
def inter (k : Nat) (ls : List (List Int)) : List Int := (List.range k).flatMap fun i => ls.flatMap (pickAt i)
theorem inter_succ (i : Nat) (ls : List (List Int)) : inter (i + 1) ls = inter i ls ++ ls.flatMap (pickAt i) := by
  unfold inter
  rw [List.range_succ, List.flatMap_append]
  simp
theorem pickAt_length (i : Nat) (l : List Int) : (pickAt i l).length ≤ 1 := by unfold pickAt; split <;> simp
theorem picks_length (i : Nat) (ls : List (List Int)) : (ls.flatMap (pickAt i)).length ≤ ls.length := by
  induction ls with
  | nil => simp
  | cons l ls ih =>
    have := pickAt_length i l
    simp [List.flatMap_cons] at ih ⊢
    omega
theorem inter_length (k : Nat) (ls : List (List Int)) : (inter k ls).length ≤ k * ls.length := by
  induction k with
  | zero => simp [inter]
  | succ k ih =>
    have := picks_length k ls
    rw [inter_succ, List.length_append, Nat.succ_mul]
    omega
theorem mxF_le {bs : List Nat} {M : Nat} (h : ∀ b ∈ bs, b ≤ M) : mxF bs ≤ M := by
  have : ∀ (bs : List Nat) (a : Nat), a ≤ M → (∀ b ∈ bs, b ≤ M) → bs.foldl max a ≤ M := by
    intro bs
    induction bs with
    | nil => intro a ha _; exact ha
    | cons b bs ih => intro a ha hb; exact ih _ (Nat.max_le.mpr ⟨ha, hb b (.head _)⟩) fun c hc => hb c (.tail _ hc)
  exact this bs 0 (Nat.zero_le _) h
def cbOut (f : Nat) (genOf : Nat → List Int) (ns : List Int) (bs : List (Nat × Nat)) : List Int :=
  inter (mxF (bs.map (·.2))) (dcs ns 0 bs) ++ inter (mxF (bs.map fun b => b.1 - b.2)) (ecs f genOf ns 0 bs)
/-- the generator's polynomial in the text's table -/
noncomputable def ob22 : { es : List DictEntry // ∀ P, (KK P).lookup 22 = some (dictOf es 13) } := ⟨_, fun _ => rfl⟩
def kvs22 : List (Int × Value) := [(7, .ref 23), (10, .ref 24), (13, .ref 25), (15, .ref 26), (16, .ref 27), (17, .ref 28), (18, .ref 29), (20, .ref 30), (22, .ref 31), (24, .ref 32), (26, .ref 33), (28, .ref 34), (30, .ref 35)]
theorem ints22 : intEs ob22.1 = some kvs22 := by kernel_rfl
theorem nd22 : (kvs22.map (·.1)).Nodup := by decide
def GenOk (P : Params) (ec : Nat) (gen : List Int) : Prop := ∃ ga gvs, valueAt kvs22 ec = some (.ref ga) ∧ (KK P).lookup ga = some (listOf gvs.toArray 0) ∧ IntsAre gvs gen ∧ gen.length = ec + 1 ∧ (∀ b ∈ gen, 1 ≤ b ∧ b < 256)
theorem modP_length : ∀ (f : Nat) (ns ms : List Int), (modP f ns ms).length ≤ ns.length
  | 0, _, _ => Nat.le_refl _
  | f + 1, ns, ms => by
    unfold modP
    split
    · exact Nat.le_refl _
    · rename_i h
      refine Nat.le_trans (modP_length f _ ms) ?_
      unfold strip modStep
      rw [List.length_drop, List.length_append, List.length_zipWith, List.length_drop]
      omega
theorem strip_gen {gen : List Int} (h : ∀ b ∈ gen, 1 ≤ b ∧ b < 256) (h0 : gen ≠ []) : strip gen = gen := by
  have : lead gen = 0 := by
    match gen, h0 with
    | [x], _ => rfl
    | x :: y :: r, _ =>
      have := h x (.head _)
      unfold lead
      rw [if_pos (by omega)]
  unfold strip
  rw [this]; rfl
end
section
open PySem PySem.W PySem.Calls PyProof.Rows
local macro_rules | `(tactic| kt_eqs) => `(tactic| first | with_reducible exact at533_buffer _ | with_reducible exact kc306 _ | exact at533_buffer _ | exact kc306 _)
local macro_rules | `(tactic| kt_ors) => `(tactic| first | with_reducible exact gl_max _ | with_reducible exact gl_range _ | with_reducible exact gl_rsPoly_LUT _ | with_reducible exact gl_Polynomial _ | with_reducible exact gl_len _ | exact gl_max _ | exact gl_range _ | exact gl_rsPoly_LUT _ | exact gl_Polynomial _ | exact gl_len _)
section
variable {mg mb : Str → Option Value} {prog : Program} {w : World} {A : Around} {E : Value → Shared → Prop} {o : OsP} {B : Heap} {env : Env} {l l' : Vars} {c c' : Cels} {n n' pre post : Ledg} {s s' : Shared} {R : Result → Shared → Prop}
structure CbY where
  hi : Ledg
  dvs : List Value
  dep : Nat
  evs : List Value
  eep : Nat
  oo : Obj
  t1 : Tok
  t2 : Tok
  t3 : Tok
  a1 : Option Value
  a2 : Option Value
  a3 : Option Value
  a4 : Option Value
  a5 : Option Value
  a6 : Option Value
  a7 : Option Value
  a8 : Option Value
  a9 : Option Value
  a10 : Option Value
structure CeY where
  vs : List Value
  ep : Nat
  a : Option Value
structure InY where
  vs : List Value
  ep : Nat
  u : Option Value
structure In2 where
  vs : List Value
  ep : Nat
structure CcY where
  vs : List Value
  ep : Nat
  a : Option Value
theorem dcOf_at {ns : List Int} {o k j : Nat} (hj : j < k) (h : o + k ≤ ns.length) : (dcOf ns o k)[j]? = some (Builtin.bitAnd 255 (ns.getD (j + o) 0)) := by
  unfold dcOf
  have hlt : o + j < ns.length := by omega
  rw [List.getElem?_map, List.getElem?_take_of_lt hj, List.getElem?_drop, List.getElem?_eq_getElem hlt, List.getD_eq_getElem?_getD, Nat.add_comm j o, List.getElem?_eq_getElem hlt]
  rfl
theorem dcOf_length {ns : List Int} {o k : Nat} (h : o + k ≤ ns.length) : (dcOf ns o k).length = k := by
  unfold dcOf
  simp; omega
theorem cb_spec {x d lb bl : Addr} {t1 t2 t3 : Tok} {len : Int} {vs bvs : List Value} {ep bk : Nat} {ns : List Int} {bs : List (Nat × Nat)} {genOf : Nat → List Int} {f : Nat} (S : St o B env l c n s) (T : Base (KK w.params) mg mb B) (hr : Room A 100 1000)
    (hlb : (lb, listOf vs.toArray ep) ∈ n) (hx : (x, instObj 533 d) ∈ n) (hd : (d, dictOf (bufD w.params t1 t2 lb len t3) 2) ∈ n) (hi : IntsAre vs ns) (hbl : (bl, listOf bvs.toArray bk) ∈ n) (hbs : BlksAre n bvs bs)
    (hoff : offs bs ≤ ns.length) (hnz : ns.length ≤ 100) (hbz : bs.length ≤ 10) (hb : ∀ b ∈ bs, b.2 ≤ b.1 ∧ b.1 ≤ 100 ∧ 1 ≤ b.2 ∧ GenOk w.params (b.1 - b.2) (genOf (b.1 - b.2))) (hf : f ≤ 40)
    (h : ∀ add out vs' k s', (out, listOf vs'.toArray k) ∈ add → IntsAre vs' (cbOut f genOf ns bs) → St o B env l c (add ++ n) s' → R (.ok (.ret (.ref out))) s')
    (hmod : ∀ i b, bs[i]? = some b → ModOk f (rawOf (genOf (b.1 - b.2)) (dcOf ns (offs (bs.take i)) b.2)) (genOf (b.1 - b.2))) :
    codeAny (model prog w) A (.call (.ref 542) ⟨[.ref x, .ref bl], []⟩) R s := by
  refine fn_callN (d := 98) (u := 990) (binds := [("buffer", .ref x), ("rs_blocks", .ref bl)]) (l' := [("rs_blocks", some (.ref bl)), ("maxDcCount", none), ("maxEcCount", none), ("dcdata", none), ("ecdata", none), ("rs_block", none), ("dcCount", none), ("ecCount", none), ("i", none), ("current_dc", none), ("rsPoly", none), ("rawPoly", none), ("modPoly", none), ("current_ec", none), ("mod_offset", none), ("modIndex", none), ("data", none), ("dc", none), ("ec", none)]) S T hr.le (fs542.2 _) (cd542 _) rfl ok542 (BindsTo.of_eq (by kernel_rfl)) (by kernel_rfl) ?_
  clear S T hr
  intro g L A cls s hr hcl S T ext
  have G := EvG.of (env := envF fs542.1 L 542) gn542 rfl rfl
  have hce : celsOf fs542.1 L [("buffer", .ref x), ("rs_blocks", .ref bl)] = ([(("offset" : Str), L + 2, none), ("buffer", L + 1, some (.ref x))] : Cels) := by kernel_rfl
  rw [hce] at S hcl
  cases hcl with
  | cons hcd1 hcl =>
  cases hcl with
  | cons hcd2 hcl =>
  cases hcl
  rename_i ob1 ob2
  rw [List.cons_append, List.cons_append, List.nil_append] at S
  have hh := hr.handled
  repeat cell_call
  rename_i t3' _ _ ob' _ hob' _ tt1 _ _ _ _ tt2 _ _ _ _ dcd _ _ _ _ ecd _ _ s S
  refine r_iterList S (.n (.tail _ (.tail _ (.tail _ (.tail _ hbl))))) fun it ob s hob S => ?_
  have hbvl := hbs.length
  refine for_rule (X := CbY) (lF := fun v i y => [("rs_blocks", some (.ref bl)), ("maxDcCount", some (.int (mxF ((bs.take i).map (·.2)) : Nat) y.t1)), ("maxEcCount", some (.int (mxF ((bs.take i).map fun b => b.1 - b.2) : Nat) y.t2)), ("dcdata", some (.ref dcd)), ("ecdata", some (.ref ecd)), ("rs_block", v), ("dcCount", y.a1), ("ecCount", y.a2), ("i", y.a3), ("current_dc", y.a4), ("rsPoly", y.a5), ("rawPoly", y.a6), ("modPoly", y.a7), ("current_ec", y.a8), ("mod_offset", y.a9), ("modIndex", y.a10), ("data", none), ("dc", none), ("ec", none)])
    (cF := fun i y => [("offset", L + 2, some (.int (offs (bs.take i) : Nat) y.t3)), ("buffer", L + 1, some (.ref x))]) (hi := fun _ y => y.hi)
    (lo := fun _ y => (ecd, listOf y.evs.toArray y.eep) :: (dcd, listOf y.dvs.toArray y.dep) :: (L + 2, y.oo) :: (L + 1, ob2) :: n)
    (P := fun i y => DatsAre y.hi y.dvs (dcs ns 0 (bs.take i)) ∧ DatsAre y.hi y.evs (ecs f genOf ns 0 (bs.take i)) ∧ ∃ v, y.oo.data = .cell v) ⟨[], [], 0, [], 0, ob', tt1, tt2, t3', none, none, none, none, none, none, none, none, none, none⟩
    (iter_list hh bvs) hob S ⟨.nil, .nil, _, hob'⟩ (fun _ _ _ _ => by tb_start) (fun ob u i y s S => S.isList (.n (by tb_rel))) ?_ ?_
  · --CUT
    clear S hob s
    rintro i y ob v s hil hP hv hob S
    obtain ⟨hP1, hP2, oov, hP4⟩ := hP
    obtain ⟨b, hbi, xb, dxb, tb1, tb2, rfl, m1, m2⟩ := hbs.at hv
    obtain ⟨hb1, hb2, hb3, hb4⟩ := hb b (List.mem_of_getElem? hbi)
    repeat cell_call
    rename_i S
    refine r_tupAttr (i := 1) (v := .int b.2 tb2) S T hr.le (.inr ⟨rfl, rfl⟩) (.n (by tb_rel)) ⟨_, .n (by tb_rel)⟩ rfl (by simp) (by kernel_rfl) fun s S => ?_
    repeat cell_call
    rename_i S
    refine r_tupAttr (i := 0) (v := .int b.1 tb1) S T hr.le (.inl ⟨rfl, rfl⟩) (.n (by tb_rel)) ⟨_, .n (by tb_rel)⟩ rfl (by simp) (by kernel_rfl) fun s S => ?_
    have e1 : ((b.1 : Nat) : Int) - (b.2 : Nat) = ((b.1 - b.2 : Nat) : Int) := by omega
    have ho2 : offs (bs.take i) + b.2 ≤ ns.length := by
      have h1 : offs bs = offs (bs.take (i + 1)) + offs (bs.drop (i + 1)) := by
        unfold offs
        rw [← List.sum_append, ← List.map_append, List.take_append_drop]
      rw [offs_take hbi] at h1
      omega
    repeat cell_call
    rename_i S
    rw [e1] at S
    refine x_compA (cl := [(("offset" : Str), L + 2), ("buffer", L + 1)]) ?hsw ?ha ?hcl ?hok ?hf ?_
    case ha => rfl
    case hsw => kernel_rfl
    case hcl => kernel_rfl
    case hok => kernel_rfl
    case hf => (intro _; kernel_rfl)
    repeat cell_call
    rename_i it2 ob3 s hob2 S
    have e0 : ((b.2 : Nat) - 0 : Int).toNat = b.2 := by omega
    rw [e0] at hob2
    have nc3 : cellE ob3 = false := by unfold rangeItP at hob2; subst hob2; rfl
    refine' comp_enterA (lc := [(("i" : Str), none)]) S T ?hok ?hev ?hlc (List.Sublist.refl _) ?hcl ?hput ?hbody
    case hok => kernel_rfl
    case hev => kernel_rfl
    case hlc => simp
    case hcl =>
      intro p hp
      rcases List.mem_cons.mp hp with rfl | hp
      · kernel_rfl
      · rcases List.mem_cons.mp hp with rfl | hp
        · kernel_rfl
        · cases hp
    case hput => (intro _; tb_start)
    case hbody =>
      intro g' C acc s S' T' ext'
      refine comp_rule (X := CcY) (lF := fun _ z => [(("i" : Str), z.a)]) (cc := _) (hi := fun _ z => [(acc, listOf z.vs.toArray z.ep)]) (lo := fun _ _ => _) (P := fun j z => IntsAre z.vs ((dcOf ns (offs (bs.take i)) b.2).take j)) ⟨[], 0, none⟩ (iter_range hh 0 1 b.2) (fun s i ob Q E h1 h2 h3 => self_range s i ob Q E h1 h2 h3) hob2 S' .nil ?ht (fun _ _ _ _ _ => trivial) ?_ ?_
      case ht => (intro _; rfl)
      · rintro j z ob v s hj hP ⟨t, rfl⟩ hob S
        rw [List.cons_append, List.nil_append] at S
        have e1 : (0 + (j : Int) * 1) = j := by omega
        rw [e1]
        have hln : ((dcOf ns (offs (bs.take i)) b.2).take j).length ≤ 1000 := by rw [List.length_take, dcOf_length ho2]; omega
        repeat cell_call
        rw [List.forIn_nil]
        refine wpAny_pure (r_ifT rfl ?_)
        repeat cell_call
        rename_i vs2 s hi2 S
        refine ⟨⟨vs2, _, some (.int j t)⟩, ?_, S⟩
        show IntsAre vs2 _
        rw [List.take_add_one, dcOf_at hj ho2]
        rw [show ((j : Int) + (offs (bs.take i) : Nat)).toNat = j + offs (bs.take i) by omega] at hi2
        exact hi2
      · intro z s hP S
        refine ⟨_, _, _, S, .gone nc3 (.new .refl), fun s S => ?_⟩
        simp only [List.cons_append, List.nil_append] at S
        obtain ⟨cvs, cep, ca⟩ := z
        have hcv : IntsAre cvs (dcOf ns (offs (bs.take i)) b.2) := by
          have hP : IntsAre cvs _ := hP
          rw [List.take_of_length_le (by rw [dcOf_length ho2]; exact Nat.le_refl _)] at hP
          exact hP
        dsimp only at S
        have hclen := hcv.length
        rw [dcOf_length ho2] at hclen
        obtain ⟨ga, gvs, hga, hgl, hgi, hgn, hgb⟩ := hb4
        generalize hec : b.1 - b.2 = ec at *
        generalize hgen : genOf ec = gen at *
        have hg0 : gen ≠ [] := by intro h; rw [h] at hgn; cases hgn
        have hdc0 : dcOf ns (offs (bs.take i)) b.2 ≠ [] := by intro h; have := dcOf_length ho2; rw [h] at this; simp at this; omega
        generalize hdc : dcOf ns (offs (bs.take i)) b.2 = dc at *
        have hdl : dc.length = b.2 := by rw [← hdc, dcOf_length ho2]
        repeat cell_call
        rename_i _ _ _ oo' _ hoo S
        refine r_dictIn S (.b (T.kin _ _ (ob22.2 _))) rfl ints22 nd22 fun s S => ?_
        rw [hga]
        refine x_truthyB (r_ifT rfl ?_)
        repeat cell_call
        rename_i S
        refine r_dictSub (hs := ?hs) S (.b (T.kin _ _ (ob22.2 _))) ints22 nd22 hga (fun s S => ?_)
        case hs => kernel_rfl
        repeat cell_call
        rename_i S
        refine new_poly (shift := 0) S T hr.le (.b (T.kin _ _ hgl)) hgi hg0 (by omega) (by omega) fun xp dp lpp tp pvs s hpi S => ?_
        rw [List.replicate_zero, List.append_nil, strip_gen hgb hg0] at hpi
        repeat cell_call
        rename_i S
        refine len_poly (ns := gen) S T hr.le ⟨.tail _ (.head _), .tail _ (.tail _ (.head _)), .head _, hpi⟩ (by omega) fun t s S => ?_
        have e2 : ((gen.length : Nat) : Int) - 1 = ((gen.length - 1 : Nat) : Int) := by omega
        repeat cell_call
        rename_i S
        rw [e2]
        refine new_poly (shift := gen.length - 1) S T hr.le (.n (by tb_rel)) hcv hdc0 (by omega) (by omega) fun xr dr lpr tr rvs s hri S => ?_
        repeat cell_call
        rename_i S
        have hrl := hri.length
        have hsl : (strip dc).length ≤ dc.length := by unfold strip; rw [List.length_drop]; omega
        refine r_modInst S T (.n (.tail _ (.head _))) (.n (.tail _ (.tail _ (.head _)))) (.n (.tail _ (.tail _ (.tail _ (.tail _ (.head _)))))) (.n (.tail _ (.tail _ (.tail _ (.tail _ (.tail _ (.head _))))))) (mod306 _) (wpAny_call (mod_spec (ns := rawOf gen dc) hgb hg0 (by omega) f S T hr.le ⟨.tail _ (.head _), .tail _ (.tail _ (.head _)), .head _, hri⟩ ⟨.tail _ (.tail _ (.tail _ (.tail _ (.head _)))), .tail _ (.tail _ (.tail _ (.tail _ (.tail _ (.head _))))), .tail _ (.tail _ (.tail _ (.head _))), hpi⟩ ?hlen ?hmo ?_))
        case hlen => unfold rawOf; rw [List.length_append, List.length_replicate]; omega
        case hmo => have := hmod i b hbi; rw [hec, hgen, hdc] at this; exact this
        intro add z dz lpz tz zvs kz s hz S
        refine mod_back (by intro h; cases h) ?_
        have hrw : (rawOf gen dc).length ≤ 300 := by unfold rawOf; rw [List.length_append, List.length_replicate]; omega
        have hMl := modP_length f (rawOf gen dc) gen
        generalize hM : modP f (rawOf gen dc) gen = M at *
        repeat cell_call
        rename_i _ _ cec _ _ s S
        refine len_poly S T hr.le hz.cons (by omega) fun t s S => ?_
        repeat cell_call
        rename_i it3 ob4 s hob3 S
        have e3 : ((ec : Nat) - 0 : Int).toNat = ec := by omega
        rw [e3] at hob3
        refine for_rule (X := CeY) (lF := fun v j z => [("rs_blocks", some (.ref bl)), ("maxDcCount", _), ("maxEcCount", _), ("dcdata", some (.ref dcd)), ("ecdata", some (.ref ecd)), ("rs_block", _), ("dcCount", _), ("ecCount", some (.int ec _)), ("i", v), ("current_dc", some (.ref acc)), ("rsPoly", _), ("rawPoly", _), ("modPoly", some (.ref _)), ("current_ec", some (.ref cec)), ("mod_offset", some (.int ((M.length : Int) - (ec : Nat)) _)), ("modIndex", z.a), ("data", none), ("dc", none), ("ec", none)])
          (cF := fun _ _ => _) (hi := fun _ _ => []) (lo := fun _ z => (cec, listOf z.vs.toArray z.ep) :: _) (P := fun j z => IntsAre z.vs ((ecOf f gen ec dc).take j)) ⟨[], 0, _⟩ (iter_range hh 0 1 ec) hob3 S .nil (fun _ _ _ _ => by tb_start) (fun _ _ _ _ _ _ => trivial) ?_ ?_
        · clear S hob3
          rintro j z' ob5 v s hj hPj ⟨t, rfl⟩ hob5 S
          rw [List.nil_append] at S
          have e1 : (0 + (j : Int) * 1) = j := by omega
          rw [e1] at S
          have hz' := hz.cons (p := (cec, listOf z'.vs.toArray z'.ep))
          have hz' := hz'.cons (p := (it3, ob5))
          have hPj : IntsAre z'.vs _ := hPj
          have hlj : ((ecOf f gen ec dc).take j).length ≤ 1000 := by unfold ecOf; rw [List.length_take, List.length_map, List.length_range]; omega
          have hnx : (ecOf f gen ec dc).take (j + 1) = (ecOf f gen ec dc).take j ++ [ecAt M ec j] := by
            rw [List.take_add_one]
            congr 1
            unfold ecOf
            rw [List.getElem?_map, List.getElem?_range hj, hM]
            rfl
          repeat cell_call
          refine r_iteD (fun h0 => ?_) (fun h0 => ?_)
          · have hat : ecAt M ec j = M.getD ((j : Int) + ((M.length : Int) - ec)).toNat 0 := by unfold ecAt; rw [if_pos h0]
            repeat cell_call
            rename_i S
            refine item_poly S T hr.le hz' (by omega) h0 (by omega) ?_ fun t s S => ?_
            · kernel_rfl
            repeat cell_call
            rename_i vs2 s hi2 S
            refine' ⟨⟨vs2, z'.ep + 1, some (.int ((j : Int) + ((M.length : Int) - (ec : Nat))) ?tk)⟩, ?uu, ?zp, ?zs⟩
            case zs => exact S
            case zp =>
              show IntsAre vs2 _
              rw [hnx, hat]
              exact hi2
          · have hat : ecAt M ec j = 0 := by unfold ecAt; rw [if_neg h0]
            repeat cell_call
            rename_i vs2 s hi2 S
            refine' ⟨⟨vs2, z'.ep + 1, some (.int ((j : Int) + ((M.length : Int) - (ec : Nat))) ?tk)⟩, ?uu, ?zp, ?zs⟩
            case zs => exact S
            case zp =>
              show IntsAre vs2 _
              rw [hnx, hat]
              exact hi2
        · intro v z' s hPj S
          rw [List.nil_append] at S
          obtain ⟨ecv, ecp, eca⟩ := z'
          have hPj : IntsAre ecv _ := hPj
          rw [List.take_of_length_le (by unfold ecOf; simp)] at hPj
          dsimp only at S
          have hq1 := hP1.length
          have hq2 := hP2.length
          rw [dcs_length, List.length_take] at hq1
          rw [ecs_length, List.length_take] at hq2
          repeat cell_call
          rename_i S
          have he1 : ((mxF ((bs.take (i + 1)).map (·.2)) : Nat) : Int) = max ((mxF ((bs.take i).map (·.2)) : Nat) : Int) (b.2 : Nat) := by
            rw [List.take_add_one, hbi, List.map_append]
            show ((mxF (_ ++ [b.2]) : Nat) : Int) = _
            rw [mxF_snoc]; omega
          have he2 : ((mxF ((bs.take (i + 1)).map fun b => b.1 - b.2) : Nat) : Int) = max ((mxF ((bs.take i).map fun b => b.1 - b.2) : Nat) : Int) (ec : Nat) := by
            rw [List.take_add_one, hbi, List.map_append]
            show ((mxF (_ ++ [b.1 - b.2]) : Nat) : Int) = _
            rw [mxF_snoc, hec]; omega
          have he3 : ((offs (bs.take (i + 1)) : Nat) : Int) = (offs (bs.take i) : Nat) + (b.2 : Nat) := by rw [offs_take hbi]; omega
          rw [← he1, ← he2, ← he3] at S
          simp only [← List.cons_append, ← List.append_assoc] at S
          refine' ⟨⟨_, y.dvs ++ [.ref acc], _, y.evs ++ [.ref cec], _, oo', _, _, _, _, _, _, _, _, _, _, _, _, _⟩, some (.ref xb), ⟨?p1, ?p2, ⟨_, hoo⟩⟩, ?zs⟩
          case zs => exact S
          case p1 =>
            show DatsAre _ _ _
            rw [dcs_take ns bs 0 i b hbi, Nat.zero_add, hdc]
            exact (hP1.mono fun p hp => by simp [hp]).append (.cons ⟨acc, cvs, cep, rfl, by simp, hcv⟩ .nil)
          case p2 =>
            show DatsAre _ _ _
            rw [ecs_take f genOf ns bs 0 i b hbi, Nat.zero_add, hec, hgen, hdc]
            exact (hP2.mono fun p hp => by simp [hp]).append (.cons ⟨cec, ecv, ecp, rfl, by simp, hPj⟩ .nil)
  · intro v0 y s hP S
    have htk : bs.take bvs.length = bs := by rw [hbvl]; exact List.take_of_length_le (Nat.le_refl _)
    rw [htk] at hP S
    obtain ⟨hP1, hP2, _, _⟩ := hP
    have hP1 := hP1.mono (n' := y.hi ++ (ecd, listOf y.evs.toArray y.eep) :: (dcd, listOf y.dvs.toArray y.dep) :: (L + 2, y.oo) :: (L + 1, ob2) :: n) fun p hp => List.mem_append_left _ hp
    have hP2 := hP2.mono (n' := y.hi ++ (ecd, listOf y.evs.toArray y.eep) :: (dcd, listOf y.dvs.toArray y.dep) :: (L + 2, y.oo) :: (L + 1, ob2) :: n) fun p hp => List.mem_append_left _ hp
    have hm1 : (dcd, listOf y.dvs.toArray y.dep) ∈ y.hi ++ (ecd, listOf y.evs.toArray y.eep) :: (dcd, listOf y.dvs.toArray y.dep) :: (L + 2, y.oo) :: (L + 1, ob2) :: n := List.mem_append_right _ (.tail _ (.head _))
    have hm2 : (ecd, listOf y.evs.toArray y.eep) ∈ y.hi ++ (ecd, listOf y.evs.toArray y.eep) :: (dcd, listOf y.dvs.toArray y.dep) :: (L + 2, y.oo) :: (L + 1, ob2) :: n := List.mem_append_right _ (.head _)
    have hlenD := dcs_le ns bs 0 (fun b hb' => Nat.le_trans (hb b hb').1 (hb b hb').2.1)
    have hlenE := ecs_le f genOf ns bs 0 (fun b hb' => (hb b hb').2.1)
    have hnD : (dcs ns 0 bs).length ≤ 10 := by rw [dcs_length]; exact hbz
    have hnE : (ecs f genOf ns 0 bs).length ≤ 10 := by rw [ecs_length]; exact hbz
    have hmxD : mxF (bs.map (·.2)) ≤ 100 := mxF_le fun x hx => by
      obtain ⟨b, hb', rfl⟩ := List.mem_map.mp hx
      have := hb b hb'
      omega
    have hmxE : mxF (bs.map fun b => b.1 - b.2) ≤ 100 := mxF_le fun x hx => by
      obtain ⟨b, hb', rfl⟩ := List.mem_map.mp hx
      have := hb b hb'
      show b.1 - b.2 ≤ 100
      omega
    generalize hrest : y.hi ++ (ecd, listOf y.evs.toArray y.eep) :: (dcd, listOf y.dvs.toArray y.dep) :: (L + 2, y.oo) :: (L + 1, ob2) :: n = rest at *
    repeat cell_call
    rename_i dt _ _ _ _ _ _ _ _ _ _ itXD obXD s hobXDD S
    have eXD : (((mxF (bs.map (·.2))) : Nat) - 0 : Int).toNat = (mxF (bs.map (·.2))) := by omega
    rw [eXD] at hobXDD
    refine for_rule (X := InY) (lF := fun v i z => [("rs_blocks", some (.ref bl)), ("maxDcCount", some (.int (mxF (bs.map (·.2)) : Nat) y.t1)), ("maxEcCount", some (.int (mxF (bs.map fun b => b.1 - b.2) : Nat) y.t2)), ("dcdata", some (.ref dcd)), ("ecdata", some (.ref ecd)), ("rs_block", v0), ("dcCount", y.a1), ("ecCount", y.a2), ("i", v), ("current_dc", y.a4), ("rsPoly", y.a5), ("rawPoly", y.a6), ("modPoly", y.a7), ("current_ec", y.a8), ("mod_offset", y.a9), ("modIndex", y.a10), ("data", some (.ref dt)), ("dc", z.u), ("ec", none)])
      (cF := fun _ _ => _) (hi := fun _ _ => []) (lo := fun _ z => (dt, listOf z.vs.toArray z.ep) :: rest) (P := fun i z => IntsAre z.vs (inter i (dcs ns 0 bs))) ⟨[], 0, none⟩ (iter_range hh 0 1 (mxF (bs.map (·.2)))) hobXDD S .nil (fun _ _ _ _ => by tb_start) (fun _ _ _ _ _ _ => trivial) ?_ ?_
    · clear S hobXDD s
      rintro i z ob v s hil hPz ⟨t, rfl⟩ hob S
      rw [List.nil_append] at S
      have e1 : (0 + (i : Int) * 1) = i := by omega
      rw [e1] at S
      have hPz : IntsAre z.vs _ := hPz
      repeat cell_call
      rename_i S
      refine r_iterList S (.n (.tail _ (.tail _ hm1))) fun it2 ob2' s hob2 S => ?_
      refine for_rule (X := In2) (lF := fun v j zz => [("rs_blocks", some (.ref bl)), ("maxDcCount", some (.int (mxF (bs.map (·.2)) : Nat) y.t1)), ("maxEcCount", some (.int (mxF (bs.map fun b => b.1 - b.2) : Nat) y.t2)), ("dcdata", some (.ref dcd)), ("ecdata", some (.ref ecd)), ("rs_block", v0), ("dcCount", y.a1), ("ecCount", y.a2), ("i", some (.int i t)), ("current_dc", y.a4), ("rsPoly", y.a5), ("rawPoly", y.a6), ("modPoly", y.a7), ("current_ec", y.a8), ("mod_offset", y.a9), ("modIndex", y.a10), ("data", some (.ref dt)), ("dc", v), ("ec", none)])
        (cF := fun _ _ => _) (hi := fun _ _ => []) (lo := fun _ zz => (itXD, ob) :: (dt, listOf zz.vs.toArray zz.ep) :: rest) (P := fun j zz => IntsAre zz.vs (inter i (dcs ns 0 bs) ++ ((dcs ns 0 bs).take j).flatMap (pickAt i))) ⟨z.vs, z.ep⟩ (iter_list hh y.dvs) hob2 S (by simpa using hPz) (fun _ _ _ _ => by tb_start) (fun ob u j zz s S => S.isList (.n (.tail _ (.tail _ (.tail _ hm1))))) ?_ ?_
      · clear S hob2 s
        rintro j zz ob3 v s hjl hPj hv hob3 S
        rw [List.nil_append] at S
        obtain ⟨xs, hxs, a, ws, k, rfl, ham, hws⟩ := hP1.at hv
        have hwl := hlenD xs (List.mem_of_getElem? hxs)
        have hPj : IntsAre zz.vs _ := hPj
        have hnx : ((dcs ns 0 bs).take (j + 1)).flatMap (pickAt i) = ((dcs ns 0 bs).take j).flatMap (pickAt i) ++ pickAt i xs := by
          rw [List.take_add_one, hxs, List.flatMap_append]
          simp
        have hll : (inter i (dcs ns 0 bs) ++ ((dcs ns 0 bs).take j).flatMap (pickAt i)).length ≤ 3000 := by
          have h1 := inter_length i (dcs ns 0 bs)
          have h2 := picks_length i ((dcs ns 0 bs).take j)
          have h4 : i * (dcs ns 0 bs).length ≤ 100 * 10 := Nat.mul_le_mul (by omega) hnD
          have h5 := inter_length (mxF (bs.map (·.2))) (dcs ns 0 bs)
          have h6 : mxF (bs.map (·.2)) * (dcs ns 0 bs).length ≤ 100 * 10 := Nat.mul_le_mul hmxD hnD
          simp only [List.length_append, List.length_take] at h1 h2 h4 h5 h6 ⊢
          omega
        repeat cell_call
        refine r_iteD (fun h0 => ?_) (fun h0 => ?_)
        · have hpk : pickAt i xs = [xs.getD i 0] := if_pos (by omega)
          repeat cell_call
          rename_i vs2 s hi2 S
          refine' ⟨⟨vs2, zz.ep + 1⟩, some (.ref a), ?zp, ?zs⟩
          case zs => exact S
          case zp =>
            show IntsAre vs2 _
            rw [hnx, hpk, ← List.append_assoc]
            exact hi2
        · have hpk : pickAt i xs = [] := if_neg (by omega)
          repeat cell_call
          rename_i S
          refine' ⟨⟨zz.vs, zz.ep⟩, some (.ref a), ?zp, ?zs⟩
          case zs => exact S
          case zp =>
            show IntsAre zz.vs _
            rw [hnx, hpk, List.append_nil]
            exact hPj
      · intro v zz s hPj S
        rw [List.nil_append] at S
        have hPj : IntsAre zz.vs _ := hPj
        rw [List.take_of_length_le (by rw [← hP1.length]; exact Nat.le_refl _)] at hPj
        refine x_next (x_nil ?_)
        refine' ⟨⟨zz.vs, zz.ep, v⟩, some (.int i t), ?zp, ?zs⟩
        case zs => exact S
        case zp =>
          show IntsAre zz.vs _
          first
            | (rw [inter_succ, ← List.append_assoc]; exact hPj)
            | (rw [inter_succ]; exact hPj)
    intro uXD zXD s hPXD S
    rw [List.nil_append] at S
    have hPXD : IntsAre zXD.vs _ := hPXD
    repeat cell_call
    rename_i itXE obXE s hobXEE S
    have eXE : (((mxF (bs.map fun b => b.1 - b.2)) : Nat) - 0 : Int).toNat = (mxF (bs.map fun b => b.1 - b.2)) := by omega
    rw [eXE] at hobXEE
    refine for_rule (X := InY) (lF := fun v i z => [("rs_blocks", some (.ref bl)), ("maxDcCount", some (.int (mxF (bs.map (·.2)) : Nat) y.t1)), ("maxEcCount", some (.int (mxF (bs.map fun b => b.1 - b.2) : Nat) y.t2)), ("dcdata", some (.ref dcd)), ("ecdata", some (.ref ecd)), ("rs_block", v0), ("dcCount", y.a1), ("ecCount", y.a2), ("i", v), ("current_dc", y.a4), ("rsPoly", y.a5), ("rawPoly", y.a6), ("modPoly", y.a7), ("current_ec", y.a8), ("mod_offset", y.a9), ("modIndex", y.a10), ("data", some (.ref dt)), ("dc", zXD.u), ("ec", z.u)])
      (cF := fun _ _ => _) (hi := fun _ _ => []) (lo := fun _ z => (dt, listOf z.vs.toArray z.ep) :: rest) (P := fun i z => IntsAre z.vs (inter (mxF (bs.map (·.2))) (dcs ns 0 bs) ++ inter i (ecs f genOf ns 0 bs))) ⟨zXD.vs, zXD.ep, none⟩ (iter_range hh 0 1 (mxF (bs.map fun b => b.1 - b.2))) hobXEE S (by simpa [inter] using hPXD) (fun _ _ _ _ => by tb_start) (fun _ _ _ _ _ _ => trivial) ?_ ?_
    · clear S hobXEE s
      rintro i z ob v s hil hPz ⟨t, rfl⟩ hob S
      rw [List.nil_append] at S
      have e1 : (0 + (i : Int) * 1) = i := by omega
      rw [e1] at S
      have hPz : IntsAre z.vs _ := hPz
      repeat cell_call
      rename_i S
      refine r_iterList S (.n (.tail _ (.tail _ hm2))) fun it2 ob2' s hob2 S => ?_
      refine for_rule (X := In2) (lF := fun v j zz => [("rs_blocks", some (.ref bl)), ("maxDcCount", some (.int (mxF (bs.map (·.2)) : Nat) y.t1)), ("maxEcCount", some (.int (mxF (bs.map fun b => b.1 - b.2) : Nat) y.t2)), ("dcdata", some (.ref dcd)), ("ecdata", some (.ref ecd)), ("rs_block", v0), ("dcCount", y.a1), ("ecCount", y.a2), ("i", some (.int i t)), ("current_dc", y.a4), ("rsPoly", y.a5), ("rawPoly", y.a6), ("modPoly", y.a7), ("current_ec", y.a8), ("mod_offset", y.a9), ("modIndex", y.a10), ("data", some (.ref dt)), ("dc", zXD.u), ("ec", v)])
        (cF := fun _ _ => _) (hi := fun _ _ => []) (lo := fun _ zz => (itXE, ob) :: (dt, listOf zz.vs.toArray zz.ep) :: rest) (P := fun j zz => IntsAre zz.vs (inter (mxF (bs.map (·.2))) (dcs ns 0 bs) ++ inter i (ecs f genOf ns 0 bs) ++ ((ecs f genOf ns 0 bs).take j).flatMap (pickAt i))) ⟨z.vs, z.ep⟩ (iter_list hh y.evs) hob2 S (by simpa using hPz) (fun _ _ _ _ => by tb_start) (fun ob u j zz s S => S.isList (.n (.tail _ (.tail _ (.tail _ hm2))))) ?_ ?_
      · clear S hob2 s
        rintro j zz ob3 v s hjl hPj hv hob3 S
        rw [List.nil_append] at S
        obtain ⟨xs, hxs, a, ws, k, rfl, ham, hws⟩ := hP2.at hv
        have hwl := hlenE xs (List.mem_of_getElem? hxs)
        have hPj : IntsAre zz.vs _ := hPj
        have hnx : ((ecs f genOf ns 0 bs).take (j + 1)).flatMap (pickAt i) = ((ecs f genOf ns 0 bs).take j).flatMap (pickAt i) ++ pickAt i xs := by
          rw [List.take_add_one, hxs, List.flatMap_append]
          simp
        have hll : (inter (mxF (bs.map (·.2))) (dcs ns 0 bs) ++ inter i (ecs f genOf ns 0 bs) ++ ((ecs f genOf ns 0 bs).take j).flatMap (pickAt i)).length ≤ 3000 := by
          have h1 := inter_length i (ecs f genOf ns 0 bs)
          have h2 := picks_length i ((ecs f genOf ns 0 bs).take j)
          have h4 : i * (ecs f genOf ns 0 bs).length ≤ 100 * 10 := Nat.mul_le_mul (by omega) hnE
          have h5 := inter_length (mxF (bs.map (·.2))) (dcs ns 0 bs)
          have h6 : mxF (bs.map (·.2)) * (dcs ns 0 bs).length ≤ 100 * 10 := Nat.mul_le_mul hmxD hnD
          simp only [List.length_append, List.length_take] at h1 h2 h4 h5 h6 ⊢
          omega
        repeat cell_call
        refine r_iteD (fun h0 => ?_) (fun h0 => ?_)
        · have hpk : pickAt i xs = [xs.getD i 0] := if_pos (by omega)
          repeat cell_call
          rename_i vs2 s hi2 S
          refine' ⟨⟨vs2, zz.ep + 1⟩, some (.ref a), ?zp, ?zs⟩
          case zs => exact S
          case zp =>
            show IntsAre vs2 _
            rw [hnx, hpk, ← List.append_assoc]
            exact hi2
        · have hpk : pickAt i xs = [] := if_neg (by omega)
          repeat cell_call
          rename_i S
          refine' ⟨⟨zz.vs, zz.ep⟩, some (.ref a), ?zp, ?zs⟩
          case zs => exact S
          case zp =>
            show IntsAre zz.vs _
            rw [hnx, hpk, List.append_nil]
            exact hPj
      · intro v zz s hPj S
        rw [List.nil_append] at S
        have hPj : IntsAre zz.vs _ := hPj
        rw [List.take_of_length_le (by rw [← hP2.length]; exact Nat.le_refl _)] at hPj
        refine x_next (x_nil ?_)
        refine' ⟨⟨zz.vs, zz.ep, v⟩, some (.int i t), ?zp, ?zs⟩
        case zs => exact S
        case zp =>
          show IntsAre zz.vs _
          first
            | (rw [inter_succ, ← List.append_assoc]; exact hPj)
            | (rw [inter_succ]; exact hPj)
    intro uXE zXE s hPXE S
    rw [List.nil_append] at S
    have hPXE : IntsAre zXE.vs _ := hPXE
    repeat cell_call
    rename_i S
    rw [← hrest] at S
    refine back_ (n'' := (dt, listOf zXE.vs.toArray zXE.ep) :: (y.hi ++ (ecd, listOf y.evs.toArray y.eep) :: (dcd, listOf y.dvs.toArray y.dep) :: n)) S (.cons_cons _ (List.Sublist.append (List.Sublist.refl _) (.cons_cons _ (.cons_cons _ (.cons _ (.cons _ (List.Sublist.refl _))))))) (.new (.newApp _ (.new (.new .refl)))) fun S' => ?_
    exact h ((dt, listOf zXE.vs.toArray zXE.ep) :: (y.hi ++ [(ecd, listOf y.evs.toArray y.eep), (dcd, listOf y.dvs.toArray y.dep)])) dt zXE.vs zXE.ep _ (.head _) hPXE (by simpa using S')
end
end
section
open PySem PySem.W PySem.Calls PyProof.Rows
local macro_rules | `(tactic| kt_eqs) => `(tactic| first | with_reducible exact kc533 _ | with_reducible exact me533_put_bit _ | with_reducible exact kp530 _ | with_reducible exact me533_put _ | with_reducible exact kp516 _ | with_reducible exact at479_mode _ | with_reducible exact kp419 _ | with_reducible exact me479_write _ | with_reducible exact kp469 _ | with_reducible exact kp388 _ | with_reducible exact kp542 _ | exact kc533 _ | exact me533_put_bit _ | exact kp530 _ | exact me533_put _ | exact kp516 _ | exact at479_mode _ | exact kp419 _ | exact me479_write _ | exact kp469 _ | exact kp388 _ | exact kp542 _)
local macro_rules | `(tactic| kt_ors) => `(tactic| first | with_reducible exact gl_BitBuffer _ | with_reducible exact gl_len _ | with_reducible exact gl_length_in_bits _ | with_reducible exact gl_rs_blocks_base _ | with_reducible exact gl_sum _ | with_reducible exact gl_DataOverflowError _ | with_reducible exact gl_range _ | with_reducible exact gl_min _ | with_reducible exact gl_PAD0 _ | with_reducible exact gl_PAD1 _ | with_reducible exact gl_create_bytes _ | exact gl_BitBuffer _ | exact gl_len _ | exact gl_length_in_bits _ | exact gl_rs_blocks_base _ | exact gl_sum _ | exact gl_DataOverflowError _ | exact gl_range _ | exact gl_min _ | exact gl_PAD0 _ | exact gl_PAD1 _ | exact gl_create_bytes _)
section
variable {mg mb : Str → Option Value} {prog : Program} {w : World} {A : Around} {E : Value → Shared → Prop} {o : OsP} {B : Heap} {env : Env} {l l' : Vars} {c c' : Cels} {n n' pre post : Ledg} {s s' : Shared} {R : Result → Shared → Prop}
structure CdY where
  vs : List Value
  ep : Nat
  t : Tok
  dv : Option Value
theorem cd_spec {base : Heap} {outer : List Env} {o₀ : OsState} {ver : Nat} {lvl : Int} {u1 u2 : Tok} {dl : Addr} {rows : List Value} {kd : Nat} {parts : List (Nat × List Nat)} {gs : Grps} (S : St (osB o₀) B env l c n s) (TG : BaseG (KK w.params) mg mb B) (hr : Room A 140 1400) (K : Below A base outer (hideAll s.heap (n.map (·.1)))) (Lc : CodeLed B n 548 544)
    (hk : KindOk w.params ver lvl gs) (hver : 1 ≤ ver ∧ ver < 10) (hdl : (dl, listOf rows.toArray kd) ∈ n) (hrows : RowsAre w.params n rows parts) (hparts : ∀ p ∈ parts, PartOk p) (hz : parts.length ≤ 8) (hlm : limitOf gs ≤ 800) {genOf : Nat → List Int} {f : Nat} (hf : f ≤ 40) (hgz : (blksOf gs).length ≤ 10)
    (hgb : ∀ b ∈ blksOf gs, b.2 ≤ b.1 ∧ b.1 ≤ 100 ∧ 1 ≤ b.2 ∧ GenOk w.params (b.1 - b.2) (genOf (b.1 - b.2)))
    (hmod : wid (allF parts) ≤ limitOf gs → ∀ i b, (blksOf gs)[i]? = some b → ModOk f (rawOf (genOf (b.1 - b.2)) (dcOf (putAll [] 0 (allBits (limitOf gs) parts)) (offs ((blksOf gs).take i)) b.2)) (genOf (b.1 - b.2)))
    (h : wid (allF parts) ≤ limitOf gs → ∀ add out vs' k ps s', TriplesOk ps.toList → (out, listOf vs'.toArray k) ∈ add → IntsAre vs' (cbOut f genOf (putAll [] 0 (allBits (limitOf gs) parts)) (blksOf gs)) → St (osB o₀) B env l c (add ++ putAt n 544 (recOb ps)) s' → R (.ok (.ret (.ref out))) s')
    (h2 : limitOf gs < wid (allF parts) → ∀ (e t : Addr) (vs : List Value) ps (s' : Shared) (h' : Heap), TriplesOk ps.toList → RaisedK base outer e (.ref 398) t vs (putAt n 544 (recOb ps)) h' → (hideAll s.heap (n.map (·.1))).UpToSlots h' → osB o₀ s'.os s'.gens s'.drawn → R (.error (.ref e)) { s' with heap := h' }) :
    codeAny (model prog w) A (.call (.ref 549) ⟨[.int ver u1, .int lvl u2, .ref dl], []⟩) R s := by
  refine fn_callX (binds := [("version", .int ver u1), ("error_correction", .int lvl u2), ("data_list", .ref dl)]) (l' := [("version", some (.int ver u1)), ("error_correction", some (.int lvl u2)), ("data_list", some (.ref dl)), ("buffer", none), ("data", none), ("rs_blocks", none), ("bit_limit", none), ("_", none), ("delimit", none), ("bytes_to_fill", none), ("i", none)]) S TG.toBase hr.dep (fs549.2 _) (cd549 _) rfl ok549 (BindsTo.of_eq (by kernel_rfl)) (by kernel_rfl) ?_
  clear S
  intro g L cls s hcl S T ext hg
  rw [← hg] at K h2
  clear hg
  have hr : Room (A.deeper (envF fs549.1 L 549)) 139 1397 := hr.deeper
  generalize hA : A.deeper (envF fs549.1 L 549) = A' at *
  have hce : celsOf fs549.1 L [("version", .int ver u1), ("error_correction", .int lvl u2), ("data_list", .ref dl)] = [] := by kernel_rfl
  rw [hce] at S hcl
  cases hcl
  rw [List.nil_append] at S
  have hordn := S.ord
  have TG := TG.keeps ext
  have Lc := Lc.to ext
  have G := EvG.of (env := envF fs549.1 L 549) gn549 rfl rfl
  have hh := hr.handled
  repeat cell_call
  rename_i S
  refine new_BitBuffer S T hr.le fun x d lb t1 t2 t3 s S => ?_
  repeat cell_call
  rename_i S
  refine r_iterList S (.n (.tail _ (.tail _ (.tail _ hdl)))) fun it ob s hob S => ?_
  have hrl := hrows.length
  refine for_rule (X := CdY) (lF := fun v i y => [("version", some (.int ver u1)), ("error_correction", some (.int lvl u2)), ("data_list", some (.ref dl)), ("buffer", some (.ref x)), ("data", v), ("rs_blocks", none), ("bit_limit", none), ("_", none), ("delimit", none), ("bytes_to_fill", none), ("i", none)]) (cF := fun _ _ => []) (hi := fun _ _ => [])
    (lo := fun i y => (lb, listOf y.vs.toArray y.ep) :: (x, instObj 533 d) :: (d, dictOf (bufD w.params t1 t2 lb ((wid (allF (parts.take i)) : Nat) : Int) y.t) 2) :: n)
    (P := fun i y => IntsAre y.vs (putAll [] 0 (bitsF (allF (parts.take i)))) ∧ wid (allF (parts.take i)) ≤ 1300 * i) ⟨[], 0, t3, none⟩ (iter_list hh rows) hob S ⟨.nil, by simp [allF, wid]⟩ (fun _ _ _ _ => by tb_start) (fun ob u i y s S => S.isList (.n (.tail _ (.tail _ (.tail _ (.tail _ hdl)))))) ?_ ?_
  · --CUT
    clear S hob s
    rintro i y ob v s hi hP hv hob S
    rw [List.nil_append] at S
    obtain ⟨p, hp, q, dq, q1, q2, tm, b, tb, rfl, g1, g2, hb⟩ := hrows.at hv
    have hpo := hparts p (List.mem_of_getElem? hp)
    have hwp := wid_part hpo
    have hil : i < parts.length := by omega
    repeat cell_call
    rename_i S
    have hl0 := putAll_length (ns := []) (len := 0) (bitsF (allF (parts.take i))) (by simp)
    rw [bitsF_length] at hl0
    refine put_call (pre := [(it, ob)]) (k := 4) S (by assumption) hr.le hP.1 rfl (by omega) (by rw [hl0]; congr 1; omega) (by omega) fun vs1 ep1 t1' s hi1 S => ?_
    rw [List.cons_append, List.nil_append] at S
    repeat cell_call
    rename_i S
    have ho1 : (octs p.1 p.2).length = p.2.length := by simp [octs]
    refine len_QRData S T hr.le (.tail _ (.tail _ (.tail _ (.tail _ g1)))) (.tail _ (.tail _ (.tail _ (.tail _ g2)))) hb (by have := hpo.2.2; omega) fun t s S => ?_
    repeat cell_call
    rename_i S
    refine length_in_bits_call S T hr.le (by rcases hpo.1 with h | h | h <;> simp [h]) (by omega) (by omega) fun t s S => ?_
    rw [lenB_int hpo.1, ho1]
    have hl1 := putAll_length (ns := putAll [] 0 (bitsF (allF (parts.take i)))) (len := (wid (allF (parts.take i)) : Nat)) (bitsOf p.1 4) (by rw [hl0]; congr 1; omega)
    rw [bitsOf_length] at hl1
    have hlb : lenB p.1 ≤ 10 := by unfold lenB; split <;> (try split) <;> omega
    repeat cell_call
    rename_i S
    refine put_call (pre := [(it, ob)]) (k := lenB p.1) S (by assumption) hr.le hi1 rfl (by omega) hl1 (by omega) fun vs2 ep2 t2' s hi2 S => ?_
    rw [List.cons_append, List.nil_append] at S
    repeat cell_call
    rename_i S
    have hl2 := putAll_length (bitsOf (p.2.length : Nat) (lenB p.1)) hl1
    rw [bitsOf_length] at hl2
    refine write_call (pre := [(it, ob)]) (m := p.1) (vals := p.2) hpo.1 S T hr.le hi2 hb hpo.2.1 (by have := hpo.2.2; omega) hl2 (by omega) (by omega) g1 g2 fun vs3 ep3 t3' s hi3 S => ?_
    refine x_none ?_
    repeat (refine x_next (x_nil ?_))
    have hw : wid (allF (parts.take (i + 1))) = wid (allF (parts.take i)) + 4 + lenB p.1 + wid (flds p.1 p.2) := by
      rw [allF_take hp, wid_append]
      simp [partF, wid]
      omega
    have hwp' : wid (partF p) = 4 + lenB p.1 + wid (flds p.1 p.2) := by simp [partF, wid]; omega
    refine' ⟨⟨vs3, ep3, t3', none⟩, some (.ref q), ⟨?zp, ?zw⟩, ?zs⟩
    case zs =>
      show St _ _ _ _ _ ((it, ob) :: (lb, listOf vs3.toArray ep3) :: (x, instObj 533 d) :: (d, dictOf (bufD w.params t1 t2 lb ((wid (allF (parts.take (i + 1))) : Nat) : Int) t3') 2) :: n) _
      rw [hw]
      have e : ((wid (allF (parts.take i)) + 4 + lenB p.1 + wid (flds p.1 p.2) : Nat) : Int) = (wid (allF (parts.take i)) : Nat) + (4 : Nat) + (lenB p.1 : Nat) + (wid (flds p.1 p.2) : Nat) := by omega
      rw [e]
      exact S
    case zw => omega
    case zp =>
      show IntsAre vs3 _
      have e : bitsF (allF (parts.take (i + 1))) = bitsF (allF (parts.take i)) ++ (bitsOf p.1 4 ++ (bitsOf (p.2.length : Nat) (lenB p.1) ++ bitsF (flds p.1 p.2))) := by
        rw [allF_take hp, bitsF_append]
        simp [partF, bitsF]
      rw [e, putAll_append, putAll_append, putAll_append, bitsF_length, bitsOf_length, bitsOf_length]
      simpa using hi3
  · intro v y s hP S
    rw [List.nil_append] at S
    have htk : parts.take rows.length = parts := by rw [hrl]; exact List.take_of_length_le (Nat.le_refl _)
    rw [htk] at hP S
    generalize hW : wid (allF parts) = W at *
    obtain ⟨hvs, hW2⟩ := hP
    have hlt := hk
    obtain ⟨off, tof, ta, ws, k1, k2, k3, k4, k5, k6, k7⟩ := hlt
    repeat cell_call
    rename_i S
    refine wpAny_call (rs_spec S T hr.le k1 k2 k3 k4 k5 k6 k7 fun add bl bvs bk s hbl S => ?_)
    repeat cell_call
    rename_i S
    obtain ⟨ps₀, hm₀, ht₀⟩ := id Lc.2
    have hbn : ((bl, listOf bvs.toArray bk) : Addr × Obj) ∈ add ++ (bl, listOf bvs.toArray bk) :: (lb, listOf y.vs.toArray y.ep) :: (x, instObj 533 d) :: (d, dictOf (bufD w.params t1 t2 lb (W : Nat) y.t) 2) :: n := List.mem_append_right _ (.head _)
    have hPn : (544, recOb ps₀) ∈ add ++ (bl, listOf bvs.toArray bk) :: (lb, listOf y.vs.toArray y.ep) :: (x, instObj 533 d) :: (d, dictOf (bufD w.params t1 t2 lb (W : Nat) y.t) 2) :: n := List.mem_append_right _ (.tail _ (.tail _ (.tail _ (.tail _ hm₀))))
    have hbP : bl ≠ 544 := fun e => by
      subst e
      have := mem_same S.ord hbn hPn
      cases this
    refine r_genexp (o₀ := o₀) (l := [("version", some (.int ver u1)), ("error_correction", some (.int lvl u2)), ("data_list", some (.ref dl)), ("buffer", some (.ref x)), ("data", v), ("rs_blocks", some (.ref bl)), ("bit_limit", none), ("_", none), ("delimit", none), ("bytes_to_fill", none), ("i", none)]) (c := []) (cl := []) TG rfl hh rfl ?hclos ?hcell ?h0 ?hx rfl hr.dep ?hs ?_
    case hclos => kernel_rfl
    case hcell => decide +kernel
    case h0 => kernel_rfl
    case hx => kernel_rfl
    case hs => (intro _; kernel_rfl)
    have hord := S.ord
    have hab := St.aboveP (pre := add ++ [(bl, listOf bvs.toArray bk), (lb, listOf y.vs.toArray y.ep), (x, instObj 533 d), (d, dictOf (bufD w.params t1 t2 lb (W : Nat) y.t) 2)]) (n := n) (by simpa using S) hm₀
    have hE : ∀ z, putAt (add ++ (bl, listOf bvs.toArray bk) :: (lb, listOf y.vs.toArray y.ep) :: (x, instObj 533 d) :: (d, dictOf (bufD w.params t1 t2 lb (W : Nat) y.t) 2) :: n) 544 z = add ++ (bl, listOf bvs.toArray bk) :: (lb, listOf y.vs.toArray y.ep) :: (x, instObj 533 d) :: (d, dictOf (bufD w.params t1 t2 lb (W : Nat) y.t) 2) :: putAt n 544 z := fun z => by
      simpa using putAt_app (y := z) hab
    refine r_name S (by tb_rel) ?_
    refine r_iterListL S (.n hbn) fun it ob s hob hlt hlt2 S => ?_
    refine ⟨_, 548, 544, it, ob, bvs.length, listItP bl, _, fun h => h.IsList bl bvs.toArray, [bl], fun i v => ∃ t, v = .int (((blksOf gs).map fun b => (b.2 : Int) * 8).getD i 0) t, rfl, rfl, S, Lc.sub fun ps hp => List.mem_append_right _ (.tail _ (.tail _ (.tail _ (.tail _ hp)))), hob, hlt, fun A' hA => iter_list hA bvs, fun A' s i ob Q E => self_list s i ob Q E, ⟨by simpa using Nat.ne_of_gt hlt2, by simpa using hlt2, by simpa using Ne.symm hbP, S.isList (.n (.tail _ hbn)), fun h h' hl hk => hl.at fun o e => hk _ (.head _) _ e⟩, ?_, ?_⟩
    · intro A' E' i v t m₂ C code hA hd hu hit hns hm hB hn
      obtain ⟨b, hb, xb, dxb, tb1, tb2, rfl, m1, m2⟩ := hbl.at hit
      have Tt := TG.toBase.keeps hB
      have m1 := List.mem_append_left ((bl, listOf bvs.toArray bk) :: (lb, listOf y.vs.toArray y.ep) :: (x, instObj 533 d) :: (d, dictOf (bufD w.params t1 t2 lb (W : Nat) y.t) 2) :: n) m1
      have m2 := List.mem_append_left ((bl, listOf bvs.toArray bk) :: (lb, listOf y.vs.toArray y.ep) :: (x, instObj 533 d) :: (d, dictOf (bufD w.params t1 t2 lb (W : Nat) y.t) 2) :: n) m2
      have hxP : xb ≠ 544 := fun e => by subst e; have := mem_same hord m1 hPn; cases this
      have hdP : dxb ≠ 544 := fun e => by subst e; have := mem_same hord m2 hPn; cases this
      refine x_bin (x_attr ?he (t_nameL (m := m₂) rfl ?hk ?hdd hns hm (t_tupAttr (name := "data_count") (i := 1) (v := .int b.2 tb2) Tt ⟨by have := hr.depth; omega, by have := hr.units; omega, hA⟩ (.inr ⟨rfl, rfl⟩) (hn _ m1 hxP) (hn _ m2 hdP) rfl (by simp) (by kernel_rfl) fun s' hk => ?_)))
      case he => kernel_rfl
      case hk => kernel_rfl
      case hdd => kernel_rfl
      have hgd : ((blksOf gs).map fun b => (b.2 : Int) * 8).getD i 0 = (b.2 : Int) * 8 := by rw [List.getD_eq_getElem?_getD, List.getElem?_map, hb]; rfl
      exact wpAny_Constant_int (mul_int ⟨⟨s'.toks + 1, by rw [hgd]⟩, Keeps.tok hk _⟩ (IntMulOk.of_right (by decide)))
    · intro a k ps s ht hn hL S X
      rw [hE] at S hn
      repeat cell_call
      refine r_sumGen S X hn hL (fun j => ((blksOf gs).map fun b => (b.2 : Int) * 8).getD j 0) (fun j v ⟨t, h⟩ => ⟨t, h⟩) fun t s S => ?_
      rw [hbl.length, limit_sum]
      obtain ⟨pre, hpre⟩ : ∃ pre, add ++ [(bl, listOf bvs.toArray bk)] = pre := ⟨_, rfl⟩
      have e1 : ∀ r : Ledg, add ++ (bl, listOf bvs.toArray bk) :: r = pre ++ r := fun r => by rw [← hpre]; simp
      have hblp : (bl, listOf bvs.toArray bk) ∈ pre := by rw [← hpre]; simp
      have hbl := hbl.mono (n' := pre) fun p hp => by rw [← hpre]; exact List.mem_append_left _ hp
      rw [e1] at S
      clear hE hab hn hL X
      generalize hn₁ : putAt n 544 (recOb ps) = n₁ at *
      have h8 : limitOf gs % 8 = 0 := by unfold limitOf; omega
      generalize hlim : limitOf gs = limit at *
      repeat cell_call
      rename_i S
      refine len_BitBuffer (len := (W : Nat)) S T hr.le (List.mem_append_right _ (.tail _ (.head _))) (List.mem_append_right _ (.tail _ (.tail _ (.head _)))) (by omega) (by omega) fun t s S => ?_
      repeat cell_call
      refine r_iteD (fun hov => ?_) (fun hov => ?_)
      · have eE : envF fs549.1 L 549 = envOf "create_data" fs549.1.scope L 549 fs549.1.code := by kernel_rfl
        repeat cell_call
        rename_i S
        obtain ⟨loose, TR⟩ := topRead_ofB T prog
        have O := own_of_in (x := "DataOverflowError") (C := 398) (bmB := [.type "Exception", .type "BaseException", .type "object"]) (newId := "Exception.__new__") T.kin TR (by kernel_rfl) (by kernel_rfl)
        rw [eE]
        refine Raise_own2 S.fr T.g O PySem.F.excBase_Exception (by decide) PySem.F.excBase_Exception hh ?_
        rw [← eE]
        refine spliced_cons ?_
        refine JoinedStr_many (pos := ⟨0, 0, 0, 0⟩) ?_
        refine jp_c (N := 0) (M := 200) (Nat.zero_le _) (by decide) (by decide) fun out1 tk1 ho1 => ?_
        have S := S.tok tk1
        refine jp_s ho1 (by decide) ?_
        repeat cell_call
        rename_i S
        refine len_BitBuffer (len := (W : Nat)) S T hr.le (List.mem_append_right _ (.tail _ (.head _))) (List.mem_append_right _ (.tail _ (.tail _ (.head _)))) (by omega) (by omega) fun t s S => ?_
        refine ⟨_, _, rfl, by omega, by omega, fun out2 tk2 ho2 => ?_⟩
        have S := S.tok tk2
        refine jp_c (M := 100) ho2 (by decide) (by decide) fun out3 tk3 ho3 => ?_
        have S := S.tok tk3
        refine jp_s ho3 (by decide) ?_
        repeat cell_call
        refine ⟨_, _, rfl, by omega, by omega, fun out4 tk4 ho4 => ?_⟩
        have S := S.tok tk4
        refine jp_c (M := 10) ho4 (by decide) (by decide) fun out5 tk5 ho5 => ?_
        have S := S.tok tk5
        refine jp_nil (Nat.le_trans ho5 (by decide)) fun t6 tk6 => ?_
        have S := S.tok tk6
        refine spliced_nil ?_
        refine ⟨(show 1 ≤ sizeLine by decide), S.fr.keep, fun h' e hx => ?_⟩
        subst hA
        rw [eE]
        refine leave_raiseK (news := n₁) K hx S.fr (fun p hp => S.nw p (List.mem_append_right _ (.tail _ (.tail _ (.tail _ hp))))) fun h'' t' hr1 hr2 => ?_
        exact h2 (by omega) e t' _ ps _ h'' ht (by rw [hn₁]; exact hr1) hr2 S.os
      repeat cell_call
      rename_i S
      refine len_BitBuffer (len := (W : Nat)) S T hr.le (List.mem_append_right _ (.tail _ (.head _))) (List.mem_append_right _ (.tail _ (.tail _ (.head _)))) (by omega) (by omega) fun t s S => ?_
      repeat cell_call
      rename_i it ob s hob S
      have hWl : W ≤ limit := by omega
      have e0 : (min ((limit : Int) - (W : Nat)) 4 - 0).toNat = padN limit W := by unfold padN; omega
      rw [e0] at hob
      have hl0 := putAll_length (ns := []) (len := 0) (bitsF (allF parts)) (by simp)
      rw [bitsF_length, hW] at hl0
      refine pad_loop (lF := fun v => [("version", some (.int ver u1)), ("error_correction", some (.int lvl u2)), ("data_list", some (.ref dl)), ("buffer", some (.ref x)), ("data", _), ("rs_blocks", some (.ref bl)), ("bit_limit", some (.int limit _)), ("_", v), ("delimit", none), ("bytes_to_fill", none), ("i", none)]) (k := padN limit W) (len := (W : Nat)) (pre := pre) hh hr.le S T hob ?hbody (fun u v => by tb_start) hvs (by omega) (by rw [hl0]; congr 1; omega) (by unfold padN; omega) ?_
      case hbody =>
        intro v n s QQ S hx hd hc
        obtain ⟨len, t, hd⟩ := hd
        repeat cell_call
        rename_i S
        exact wpAny_mono (hc _ S) (fun v s' ⟨e, q⟩ => ⟨e, x_next (x_nil q)⟩) fun _ _ x => x
      intro u vs1 ep1 t1' s hi1 S
      generalize hz' : W + padN limit W = z at *
      have hzl : z ≤ limit := by rw [← hz']; unfold padN; omega
      have ez : ((W : Nat) : Int) + (padN limit W : Nat) = (z : Nat) := by omega
      rw [ez] at S
      have hl1 := putAll_length (List.replicate (padN limit W) false) (ns := putAll [] 0 (bitsF (allF parts))) (len := (W : Nat)) (by rw [hl0]; congr 1; omega)
      rw [List.length_replicate, ez] at hl1
      repeat cell_call
      rename_i S
      refine len_BitBuffer (len := (z : Nat)) S T hr.le (List.mem_append_right _ (.tail _ (.head _))) (List.mem_append_right _ (.tail _ (.tail _ (.head _)))) (by omega) (by omega) fun t s S => ?_
      have hfm : ((z : Nat) : Int).fmod 8 = ((z % 8 : Nat) : Int) := by rw [Int.fmod_eq_emod_of_nonneg _ (by decide)]; omega
      repeat cell_call
      rename_i S
      rw [hfm] at S ⊢
      refine ite_join (J := fun s' => ∃ (u : Option Value) (vs2 : List Value) (ep2 : Nat) (t2' td tl : Tok), IntsAre vs2 (putAll (putAll (putAll [] 0 (bitsF (allF parts))) (W : Nat) (List.replicate (padN limit W) false)) (z : Nat) (List.replicate (delN z) false)) ∧
        St (osB o₀) g (envF fs549.1 L 549) [("version", some (.int ver u1)), ("error_correction", some (.int lvl u2)), ("data_list", some (.ref dl)), ("buffer", some (.ref x)), ("data", v), ("rs_blocks", some (.ref bl)), ("bit_limit", some (.int limit tl)), ("_", u), ("delimit", some (.int (z % 8 : Nat) td)), ("bytes_to_fill", none), ("i", none)] [] (pre ++ (lb, listOf vs2.toArray ep2) :: (x, instObj 533 d) :: (d, dictOf (bufD w.params t1 t2 lb ((z + delN z : Nat) : Int) t2') 2) :: n₁) s') ?_ ?_ ?_
      · intro hd
        have hd' : z % 8 ≠ 0 := by omega
        repeat cell_call
        rename_i it ob s hob S
        have e0 : ((8 : Int) - (z % 8 : Nat) - 0).toNat = delN z := by unfold delN; omega
        rw [e0] at hob
        refine pad_loop (lF := fun v => [("version", some (.int ver u1)), ("error_correction", some (.int lvl u2)), ("data_list", some (.ref dl)), ("buffer", some (.ref x)), ("data", _), ("rs_blocks", some (.ref bl)), ("bit_limit", some (.int limit _)), ("_", v), ("delimit", some (.int (z % 8 : Nat) _)), ("bytes_to_fill", none), ("i", none)]) (k := delN z) (len := (z : Nat)) (pre := pre) hh hr.le S T hob ?hbody (fun u v => by tb_start) hi1 (by omega) hl1 (by unfold delN; omega) ?_
        case hbody =>
          intro v n s QQ S hx hd hc
          obtain ⟨len, t, hd⟩ := hd
          repeat cell_call
          rename_i S
          exact wpAny_mono (hc _ S) (fun v s' ⟨e, q⟩ => ⟨e, x_next (x_nil q)⟩) fun _ _ x => x
        intro u vs2 ep2 t2' s hi2 S
        refine' x_next (x_nil ⟨rfl, u, vs2, ep2, t2', ?td, ?tl, hi2, ?zs⟩)
        case zs =>
          have e : ((z + delN z : Nat) : Int) = (z : Nat) + (delN z : Nat) := by omega
          rw [e]
          exact S
      · intro hd
        have hd' : delN z = 0 := by unfold delN; omega
        refine' ⟨?zu, ?zv, ?zep, ?zt, ?ztd, ?ztl, ?zh, ?zS⟩
        case zS => rw [hd']; exact S
        case zh => rw [hd']; exact hi1
      rintro s ⟨u2', vs2, ep2, t2', td, tl, hi2, S⟩
      have hl2 := putAll_length (List.replicate (delN z) false) hl1
      rw [List.length_replicate] at hl2
      have ez2 : ((z + delN z : Nat) : Int) = (z : Nat) + (delN z : Nat) := by omega
      rw [← ez2] at hl2
      have hdz : delN z < 8 ∧ (z + delN z) % 8 = 0 := by unfold delN; omega
      generalize hy : z + delN z = yy at *
      repeat cell_call
      rename_i S
      refine len_BitBuffer (len := (yy : Nat)) S T hr.le (List.mem_append_right _ (.tail _ (.head _))) (List.mem_append_right _ (.tail _ (.tail _ (.head _)))) (by omega) (by omega) fun t s S => ?_
      repeat cell_call
      rename_i S
      have hyl : yy ≤ limit := by omega
      have hfill : fillN limit W = (limit - yy) / 8 := by unfold fillN; rw [hz', hy]
      have hfd : ((limit : Int) - (yy : Nat)).fdiv 8 = (fillN limit W : Nat) := by rw [Int.fdiv_eq_ediv_of_nonneg _ (by decide), hfill]; omega
      rw [hfd] at S
      generalize hF : fillN limit W = F at *
      repeat cell_call
      rename_i it ob s hob S
      have e0 : ((F : Nat) - 0 : Int).toNat = F := by omega
      rw [e0] at hob
      refine for_rule (X := PdY) (lF := fun v _ _ => [("version", some (.int ver u1)), ("error_correction", some (.int lvl u2)), ("data_list", some (.ref dl)), ("buffer", some (.ref x)), ("data", _), ("rs_blocks", some (.ref bl)), ("bit_limit", some (.int limit _)), ("_", _), ("delimit", some (.int (z % 8 : Nat) _)), ("bytes_to_fill", some (.int F _)), ("i", v)]) (cF := fun _ _ => []) (hi := fun _ _ => []) (lo := fun i y => pre ++ (lb, listOf y.vs.toArray y.ep) :: (x, instObj 533 d) :: (d, dictOf (bufD w.params t1 t2 lb ((yy : Nat) + ((8 * i : Nat) : Int)) y.t) 2) :: n₁)
        (P := fun i y => IntsAre y.vs (putAll (putAll (putAll (putAll [] 0 (bitsF (allF parts))) (W : Nat) (List.replicate (padN limit W) false)) (z : Nat) (List.replicate (delN z) false)) (yy : Nat) (padB i))) ⟨vs2, ep2, t2'⟩ (iter_range hh 0 1 F) hob (by simpa using S) hi2 (fun _ _ _ _ => by tb_start) (fun _ _ _ _ _ _ => trivial) ?_ ?_
      · clear S hob
        rintro i y ob v s hik hP ⟨t, rfl⟩ hob S
        rw [List.nil_append] at S
        have e1 : (0 + (i : Int) * 1) = i := by omega
        rw [e1] at S
        have hl3 := putAll_length (padB i) hl2
        rw [padB_length] at hl3
        have hpd : ∀ (pd : Int), (pd = if i % 2 = 0 then 236 else 17) → ∀ vs', IntsAre vs' (putAll (putAll (putAll (putAll (putAll [] 0 (bitsF (allF parts))) (W : Nat) (List.replicate (padN limit W) false)) (z : Nat) (List.replicate (delN z) false)) (yy : Nat) (padB i)) ((yy : Nat) + ((8 * i : Nat) : Int)) (bitsOf pd 8)) →
            IntsAre vs' (putAll (putAll (putAll (putAll [] 0 (bitsF (allF parts))) (W : Nat) (List.replicate (padN limit W) false)) (z : Nat) (List.replicate (delN z) false)) (yy : Nat) (padB (i + 1))) := by
          intro pd hpd vs' hi
          rw [padB_take, putAll_append, padB_length, ← hpd]
          exact hi
        have e8 : ((8 * (i + 1) : Nat) : Int) = ((8 * i : Nat) : Int) + (8 : Nat) := by omega
        repeat cell_call
        refine r_iteD (fun hp => ?_) (fun hp => ?_)
        · have hp' : i % 2 = 0 := by rw [Int.fmod_eq_emod_of_nonneg _ (by decide)] at hp; omega
          repeat cell_call
          rename_i S
          refine put_call (pre := (it, ob) :: pre) (k := 8) S (by assumption) hr.le hP rfl (by omega) hl3 (by omega) fun vs' ep' t' s hi' S => ?_
          refine x_none ?_
          repeat (refine x_next (x_nil ?_))
          refine ⟨⟨vs', ep', t'⟩, some (.int i t), hpd 236 (by rw [if_pos hp']) vs' hi', ?_⟩
          show St _ _ _ _ _ ((it, ob) :: (pre ++ (lb, listOf vs'.toArray ep') :: (x, instObj 533 d) :: (d, dictOf (bufD w.params t1 t2 lb ((yy : Nat) + ((8 * (i + 1) : Nat) : Int)) t') 2) :: n₁)) _
          rw [e8, ← Int.add_assoc]
          exact S
        · have hp' : ¬ i % 2 = 0 := by rw [Int.fmod_eq_emod_of_nonneg _ (by decide)] at hp; omega
          repeat cell_call
          rename_i S
          refine put_call (pre := (it, ob) :: pre) (k := 8) S (by assumption) hr.le hP rfl (by omega) hl3 (by omega) fun vs' ep' t' s hi' S => ?_
          refine x_none ?_
          repeat (refine x_next (x_nil ?_))
          refine ⟨⟨vs', ep', t'⟩, some (.int i t), hpd 17 (by rw [if_neg hp']) vs' hi', ?_⟩
          show St _ _ _ _ _ ((it, ob) :: (pre ++ (lb, listOf vs'.toArray ep') :: (x, instObj 533 d) :: (d, dictOf (bufD w.params t1 t2 lb ((yy : Nat) + ((8 * (i + 1) : Nat) : Int)) t') 2) :: n₁)) _
          rw [e8, ← Int.add_assoc]
          exact S
      · intro v y s hP S
        rw [List.nil_append] at S
        have hP : IntsAre y.vs _ := hP
        have hall : putAll (putAll (putAll (putAll [] 0 (bitsF (allF parts))) (W : Nat) (List.replicate (padN limit W) false)) (z : Nat) (List.replicate (delN z) false)) (yy : Nat) (padB F) = putAll [] 0 (allBits limit parts) := by
          unfold allBits
          rw [hW, hz', hF, putAll_append, putAll_append, putAll_append, bitsF_length, List.length_replicate, List.length_replicate, hW]
          rw [Int.zero_add, ez, ← ez2]
        rw [hall] at hP
        have hAl : (allBits limit parts).length = limit := by
          unfold allBits
          rw [List.length_append, List.length_append, List.length_append, bitsF_length, hW, List.length_replicate, List.length_replicate, padB_length, hz', hF]
          omega
        have hnl := putAll_length (ns := []) (len := 0) (allBits limit parts) (by simp)
        rw [hAl] at hnl
        have hoffs : limit = 8 * offs (blksOf gs) := by rw [← hlim]; rfl
        repeat cell_call
        rename_i S
        refine wpAny_call (cb_spec (genOf := genOf) (f := f) S T hr.le (List.mem_append_right _ (.head _)) (List.mem_append_right _ (.tail _ (.head _))) (List.mem_append_right _ (.tail _ (.tail _ (.head _)))) hP (List.mem_append_left _ hblp) (hbl.mono fun p hp => List.mem_append_left _ hp) (by omega) (by omega) hgz hgb hf ?_ (hmod hWl))
        intro add out ovs ok s hom hov S
        repeat cell_call
        have hKC : KeepsC n n₁ := by rw [← hn₁]; exact putAt_keepsC hm₀ rfl hordn
        refine back_ S (List.Sublist.refl _) (.newApp _ (.newApp _ (.new (.new (.new hKC))))) fun S' => ?_
        have eA : ∀ (a b c : Addr × Obj) (r : Ledg), add ++ (pre ++ a :: b :: c :: r) = (add ++ (pre ++ [a, b, c])) ++ r := by intros; simp
        rw [← hn₁, eA] at S'
        exact h hWl _ out ovs ok ps _ ht (List.mem_append_left _ hom) hov S'
end
end
section
open PySem PySem.W PySem.Calls PyProof.Rows
local macro_rules | `(tactic| kt_eqs) => `(tactic| first | with_reducible exact kp577 _ | exact kp577 _)
local macro_rules | `(tactic| kt_ors) => `(tactic| first | with_reducible exact gl_len _ | exact gl_len _)
section
variable {mg mb : Str → Option Value} {prog : Program} {w : World} {A : Around} {E : Value → Shared → Prop} {o : OsP} {B : Heap} {env : Env} {l l' : Vars} {c c' : Cels} {n n' pre post : Ledg} {s s' : Shared} {R : Result → Shared → Prop}
theorem size_call {m k : Nat} {t u : Tok} {Q : Value → Shared → Prop} (S : St o B env l c n s) (T : Base (KK w.params) mg mb B) (hr : Room A 2 10) (hm : m = 1 ∨ m = 2 ∨ m = 4) (hk : k < 1000000)
    (h : ∀ t s', St o B env l c n s' → Q (.int (sizeOf m k : Nat) t) s') : wpAny (model prog w) A (call (.ref 577) [.int m t, .int k u]) Q E s := by
  refine wpAny_call (fn_call0 (d := 1) (u := 7) (binds := [("mode", .int m t), ("count", .int k u)]) (l' := [("mode", some (.int m t)), ("count", some (.int k u))]) S T hr (fs577.2 _) (cd577 _) rfl ok577 (BindsTo.of_eq (by kernel_rfl)) (by kernel_rfl) ?_)
  clear S hr
  intro g L A s hr S T ext
  have e3 : (k : Int).fdiv 3 = ((k / 3 : Nat) : Int) := by rw [Int.fdiv_eq_ediv_of_nonneg _ (by decide)]; omega
  have e3' : (k : Int).fmod 3 = ((k % 3 : Nat) : Int) := by rw [Int.fmod_eq_emod_of_nonneg _ (by decide)]; omega
  have e2 : (k : Int).fdiv 2 = ((k / 2 : Nat) : Int) := by rw [Int.fdiv_eq_ediv_of_nonneg _ (by decide)]; omega
  have e2' : (k : Int).fmod 2 = ((k % 2 : Nat) : Int) := by rw [Int.fmod_eq_emod_of_nonneg _ (by decide)]; omega
  repeat cell_call
  refine r_iteD (fun h1 => ?_) (fun h1 => ?_)
  · obtain rfl : m = 1 := by omega
    repeat cell_call
    rename_i S
    rw [e3']
    refine r_itemI S ?hs (.n (.head _)) (IntsAre.cons _ _ (.cons _ _ (.cons _ _ .nil))) (by omega) (by simp only [List.length_cons, List.length_nil]; omega) (by omega) fun t => ?_
    case hs => kernel_rfl
    repeat cell_call
    rename_i S
    have e : 10 * (k : Int).fdiv 3 + ([0, 4, 7] : List Int).getD ((k % 3 : Nat) : Int).toNat 0 = (sizeOf 1 k : Nat) := by
      rw [e3, Int.toNat_natCast]
      have : k % 3 = 0 ∨ k % 3 = 1 ∨ k % 3 = 2 := by omega
      unfold sizeOf
      rcases this with h | h | h <;> simp [h]
    rw [e] at *
    exact back_ S (List.sublist_cons_self _ _) (by kaf_pre) (fun S' => h _ _ S')
  · repeat cell_call
    refine r_iteD (fun h2 => ?_) (fun h2 => ?_)
    · obtain rfl : m = 2 := by omega
      repeat cell_call
      rename_i S
      have e : 11 * (k : Int).fdiv 2 + 6 * (k : Int).fmod 2 = (sizeOf 2 k : Nat) := by
        rw [e2, e2']
        unfold sizeOf
        simp
      rw [e] at *
      exact back_ S (List.Sublist.refl _) (by kaf_pre) (fun S' => h _ _ S')
    · obtain rfl : m = 4 := by omega
      repeat cell_call
      rename_i S
      have e : 8 * (k : Int) = (sizeOf 4 k : Nat) := by
        unfold sizeOf
        simp
      rw [e] at *
      exact back_ S (List.Sublist.refl _) (by kaf_pre) (fun S' => h _ _ S')
end
end
section
open PySem PySem.W PySem.Calls PyProof.Rows
theorem fc_from (P : Params) : findCls (KK P) (.type "int") (.type "type") (PySem.Str.ofString "from_bytes") = some (.get (.builtin "classmethod_descriptor.__get__") (.builtin "int.from_bytes") .none (.type "int")) := by kernel_rfl
def takenOf (ns : List Int) (at' wd : Int) : Int := Int.fmod (Int.fdiv (bigN ns) (2 ^ (8 * (ns.length : Int) - at' - wd).toNat)) (1 * 2 ^ wd.toNat)
local macro_rules | `(tactic| kt_eqs) => `(tactic| first | with_reducible exact kp577 _ | exact kp577 _)
local macro_rules | `(tactic| kt_ors) => `(tactic| first | with_reducible exact gl_len _ | with_reducible exact gl_int _ | with_reducible exact gl_bytes _ | exact gl_len _ | exact gl_int _ | exact gl_bytes _)
section
variable {mg mb : Str → Option Value} {prog : Program} {w : World} {A : Around} {E : Value → Shared → Prop} {o : OsP} {B : Heap} {env : Env} {l l' : Vars} {c c' : Cels} {n n' pre post : Ledg} {s s' : Shared} {R : Result → Shared → Prop}
theorem taken_call {a : Addr} {vs : List Value} {k : Nat} {ns : List Int} {at' wd : Int} {t u : Tok} {Q : Value → Shared → Prop} (S : St o B env l c n s) (T : Base (KK w.params) mg mb B) (hr : Room A 2 10) (hl : Has B n a (listOf vs.toArray k)) (hi : IntsAre vs ns) (hb : ∀ x ∈ ns, 0 ≤ x ∧ x < 256) (hz : ns.length ≤ 100)
    (h0 : 0 ≤ at') (h1 : 0 ≤ wd) (h2 : at' + wd ≤ 8 * ns.length) (h3 : wd ≤ 63)
    (h : ∀ t s', St o B env l c n s' → Q (.int (takenOf ns at' wd) t) s') : wpAny (model prog w) A (call (.ref 596) [.ref a, .int at' t, .int wd u]) Q E s := by
  refine wpAny_call (fn_call0 (d := 1) (u := 7) (binds := [("words", .ref a), ("at", .int at' t), ("width", .int wd u)]) (l' := [("words", some (.ref a)), ("at", some (.int at' t)), ("width", some (.int wd u)), ("number", none)]) S T hr (fs596.2 _) (cd596 _) rfl ok596 (BindsTo.of_eq (by kernel_rfl)) (by kernel_rfl) ?_)
  clear S hr
  intro g L A s hr S T ext
  have hl := hl.to ext
  have G := EvG.of (env := envF fs596.1 L 596) gn596 rfl rfl
  have hh := hr.handled
  repeat cell_call
  rename_i S
  refine r_fromM S T (fc_from _) fun x s S => ?_
  refine x_callFB S (.head _) ?he ?hp ?_
  case he => kernel_rfl
  case hp => kernel_rfl
  repeat cell_call
  rename_i S
  refine r_bytes hh S (Has.cons hl) hi hb (by omega) fun b tb s hbi S => ?_
  repeat cell_call
  rename_i S
  refine r_stands S (.head _) (r_from S (.head _) hbi (by omega) fun tn s S => ?_)
  repeat cell_call
  rename_i S
  refine r_shl S h1 (by omega) (by decide) fun t s S => ?_
  have hne : (1 : Int) * 2 ^ wd.toNat ≠ 0 := by
    rw [Int.one_mul]
    exact Int.ne_of_gt (Int.pow_pos (by decide))
  refine r_mod S hne fun t s S => ?_
  repeat cell_call
  exact back_ S (List.sublist_cons_self _ _) (by kaf_pre) (fun S' => h _ _ S')
end
end
section
open PySem PySem.W PySem.Calls PyProof.Rows
/-- the law's parts, in plain -/
def modeOf (x : Int) : Nat := [1, 2, 4].getD (x % 3).toNat 0
def cntOf (x : Int) : Nat := (1 + (x / 3) % 20).toNat
def restOf (x : Int) : Int := x / 3 / 20
def headOf (m : Nat) : Nat := 4 + lenB m
def fitF (m : Nat) (room : Int) : Nat → Nat
  | 0 => 0
  | f + 1 => if room < (headOf m : Int) + (sizeOf m (f + 1) : Nat) then fitF m room f else f + 1
def fitsOf (over : Bool) (x room : Int) : Nat := if over = true ∧ fitF (modeOf x) room (cntOf x) < cntOf x then fitF (modeOf x) room (cntOf x) + 1 else fitF (modeOf x) room (cntOf x)
def valAt (rest : Int) (m t : Nat) : Nat := ((rest / ((7 ^ t : Nat) : Int) + t) % (radixOf m : Nat)).toNat
def valsOf (over : Bool) (x room : Int) : List Nat := (List.range (fitsOf over x room)).map (valAt (restOf x) (modeOf x))
def partsR (over : Bool) : List Int → Int → List (Nat × List Nat) → List (Nat × List Nat) × Bool
  | [], _, acc => (acc, false)
  | x :: xs, room, acc =>
    if 0 < fitsOf over x room then
      if room - ((headOf (modeOf x) : Int) + (sizeOf (modeOf x) (fitsOf over x room) : Nat)) < 0 then (acc ++ [(modeOf x, valsOf over x room)], true)
      else partsR over xs (room - ((headOf (modeOf x) : Int) + (sizeOf (modeOf x) (fitsOf over x room) : Nat))) (acc ++ [(modeOf x, valsOf over x room)])
    else partsR over xs room acc
def accR (over : Bool) (x room : Int) (acc : List (Nat × List Nat)) : List (Nat × List Nat) := if 0 < fitsOf over x room then acc ++ [(modeOf x, valsOf over x room)] else acc
def roomR (over : Bool) (x room : Int) : Int := if 0 < fitsOf over x room then room - ((headOf (modeOf x) : Int) + (sizeOf (modeOf x) (fitsOf over x room) : Nat)) else room
theorem partsR_cons {over : Bool} {x : Int} {xs : List Int} {room : Int} {acc : List (Nat × List Nat)} (h : 0 ≤ room) :
    partsR over (x :: xs) room acc = if roomR over x room < 0 then (accR over x room acc, true) else partsR over xs (roomR over x room) (accR over x room acc) := by
  unfold roomR accR
  conv => lhs; unfold partsR
  split
  · rfl
  · rw [if_neg (by omega)]
theorem accR_len (over : Bool) (x room : Int) (acc : List (Nat × List Nat)) : (accR over x room acc).length ≤ acc.length + 1 := by unfold accR; split <;> simp
theorem roomR_le (over : Bool) (x room : Int) : roomR over x room ≤ room := by unfold roomR; split <;> omega
theorem modeOf_ok (x : Int) : modeOf x = 1 ∨ modeOf x = 2 ∨ modeOf x = 4 := by
  unfold modeOf
  have : (x % 3).toNat = 0 ∨ (x % 3).toNat = 1 ∨ (x % 3).toNat = 2 := by omega
  rcases this with h | h | h <;> rw [h] <;> simp
theorem modeOf_int (x : Int) : ([1, 2, 4] : List Int).getD (x.fmod 3).toNat 0 = (modeOf x : Nat) := by
  have e : x.fmod 3 = x % 3 := by rw [Int.fmod_eq_emod_of_nonneg _ (by decide)]
  rw [e]
  unfold modeOf
  have : (x % 3).toNat = 0 ∨ (x % 3).toNat = 1 ∨ (x % 3).toNat = 2 := by omega
  rcases this with h | h | h <;> rw [h] <;> rfl
theorem headOf_int {m : Nat} (h : m = 1 ∨ m = 2 ∨ m = 4) : ([14, 13, 0, 12] : List Int).getD ((m : Int) - 1).toNat 0 = (headOf m : Nat) := by rcases h with rfl | rfl | rfl <;> rfl
theorem radix_int {m : Nat} (h : m = 1 ∨ m = 2 ∨ m = 4) : ([10, 45, 0, 256] : List Int).getD ((m : Int) - 1).toNat 0 = (radixOf m : Nat) := by rcases h with rfl | rfl | rfl <;> rfl
theorem cnt_int (x : Int) : 1 + (x.fdiv 3).fmod 20 = (cntOf x : Nat) := by
  rw [Int.fdiv_eq_ediv_of_nonneg _ (by decide), Int.fmod_eq_emod_of_nonneg _ (by decide)]
  unfold cntOf; omega
theorem rest_int (x : Int) : (x.fdiv 3).fdiv 20 = restOf x := by
  rw [Int.fdiv_eq_ediv_of_nonneg _ (by decide), Int.fdiv_eq_ediv_of_nonneg _ (by decide)]; rfl
theorem cntOf_le (x : Int) : 1 ≤ cntOf x ∧ cntOf x ≤ 20 := by unfold cntOf; omega
theorem fitF_le (m : Nat) (room : Int) : ∀ f, fitF m room f ≤ f
  | 0 => Nat.le_refl _
  | f + 1 => by
    unfold fitF
    split
    · exact Nat.le_succ_of_le (fitF_le m room f)
    · exact Nat.le_refl _
theorem fitsOf_le (over : Bool) (x room : Int) : fitsOf over x room ≤ 20 := by
  have h1 := cntOf_le x
  have h2 := fitF_le (modeOf x) room (cntOf x)
  unfold fitsOf
  split
  · rename_i h; omega
  · omega
theorem radix_pos {m : Nat} : 0 < radixOf m := by unfold radixOf; split <;> (try split) <;> omega
theorem valAt_lt (rest : Int) (m t : Nat) : valAt rest m t < radixOf m := by
  unfold valAt
  have h := radix_pos (m := m)
  have h1 := Int.emod_nonneg (rest / ((7 ^ t : Nat) : Int) + t) (b := (radixOf m : Nat)) (by omega)
  have h2 := Int.emod_lt_of_pos (rest / ((7 ^ t : Nat) : Int) + t) (b := ((radixOf m : Nat) : Int)) (by omega)
  omega
theorem val_int (rest : Int) (m t : Nat) : Int.fmod (Int.fdiv rest ((7 ^ t : Nat) : Int) + t) (radixOf m : Nat) = (valAt rest m t : Nat) := by
  have h := radix_pos (m := m)
  rw [Int.fdiv_eq_ediv_of_nonneg _ (Int.natCast_nonneg _), Int.fmod_eq_emod_of_nonneg _ (by omega)]
  have h1 := Int.emod_nonneg (rest / ((7 ^ t : Nat) : Int) + t) (b := (radixOf m : Nat)) (by omega)
  unfold valAt
  omega
theorem pow7_small {t : Nat} (h : t ≤ 20) : (((7 ^ t : Nat) : Int)).natAbs < 2 ^ 64 ∧ ((7 ^ t : Nat) : Int) ≠ 0 := by
  have h1 : 7 ^ t ≤ 7 ^ 20 := Nat.pow_le_pow_right (by decide) h
  have h2 : 0 < 7 ^ t := Nat.pow_pos (by decide)
  have h3 : (7 : Nat) ^ 20 < 2 ^ 64 := by decide
  omega
theorem part_ok (over : Bool) (x room : Int) : PartOk (modeOf x, valsOf over x room) := by
  refine ⟨modeOf_ok x, fun v hv => ?_, ?_⟩
  · obtain ⟨t, _, rfl⟩ := List.mem_map.mp hv
    exact valAt_lt _ _ _
  · unfold valsOf
    have := fitsOf_le over x room
    simp; omega
def signsS : Str := "0123456789ABCDEFGHIJKLMNOPQRSTUVWXYZ $%*+-./:"
theorem gl__law_signs (P : Params) : Gl (KK P) "_law_signs" (.str signsS 2419) := .inl (by kernel_rfl)
theorem signs_at : ∀ v < 45, signsS.cps[v]? = some (signTab.getD v 0) := by decide +kernel
theorem octs4 (vals : List Nat) : octs 4 vals = vals.map fun v => ((v : Nat) : Int) := by unfold octs octet; simp
theorem octs_no4 {m : Nat} (h : m ≠ 4) (vals : List Nat) : octs m vals = vals.map fun v => ((signTab.getD v 0 : Nat) : Int) := by unfold octs octet; simp [h]
/-- the tuples of the parts, in the ledger -/
def TupAt (n : Ledg) (v : Value) (p : Nat × List Nat) : Prop := ∃ t tm b tb, v = .ref t ∧ (t, tupOf [.int (p.1 : Nat) tm, .bytes b tb]) ∈ n ∧ KBw.bInts b = octs p.1 p.2
inductive TupsAre (n : Ledg) : List Value → List (Nat × List Nat) → Prop
  | nil : TupsAre n [] []
  | cons {v : Value} {p : Nat × List Nat} {vs : List Value} {ps : List (Nat × List Nat)} : TupAt n v p → TupsAre n vs ps → TupsAre n (v :: vs) (p :: ps)
theorem TupsAre.mono {n n' : Ledg} {vs : List Value} {ps : List (Nat × List Nat)} (h : TupsAre n vs ps) (k : ∀ p : Addr × Obj, p.2.cls = .type "tuple" → p ∈ n → p ∈ n') : TupsAre n' vs ps := by
  induction h with
  | nil => exact .nil
  | cons hb _ ih =>
    obtain ⟨t, tm, b, tb, e, h1, h2⟩ := hb
    exact .cons ⟨t, tm, b, tb, e, k _ rfl h1, h2⟩ ih
theorem TupsAre.append {n : Ledg} {vs ws : List Value} {ps qs : List (Nat × List Nat)} (h : TupsAre n vs ps) (h' : TupsAre n ws qs) : TupsAre n (vs ++ ws) (ps ++ qs) := by
  induction h with
  | nil => exact h'
  | cons hb _ ih => exact .cons hb ih
theorem TupsAre.length {n : Ledg} {vs : List Value} {ps : List (Nat × List Nat)} (h : TupsAre n vs ps) : vs.length = ps.length := by
  induction h with
  | nil => rfl
  | cons _ _ ih => simp [ih]
theorem TupsAre.at {n : Ledg} {vs : List Value} {ps : List (Nat × List Nat)} (h : TupsAre n vs ps) : ∀ {i : Nat} {v : Value}, vs[i]? = some v → ∃ p, ps[i]? = some p ∧ TupAt n v p := by
  induction h with
  | nil => intro i v h; simp at h
  | cons hb _ ih =>
    intro i v h
    cases i with
    | zero => simp at h; subst h; exact ⟨_, rfl, hb⟩
    | succ i => exact ih (by simpa using h)
end
section
open PySem PySem.W PySem.Calls PyProof.Rows
local macro_rules | `(tactic| kt_eqs) => `(tactic| first | with_reducible exact kp577 _ | exact kp577 _)
local macro_rules | `(tactic| kt_ors) => `(tactic| first | with_reducible exact gl__law_size _ | with_reducible exact gl_range _ | with_reducible exact gl_bytes _ | with_reducible exact gl_ord _ | with_reducible exact gl__law_signs _ | exact gl__law_size _ | exact gl_range _ | exact gl_bytes _ | exact gl_ord _ | exact gl__law_signs _)
section
variable {mg mb : Str → Option Value} {prog : Program} {w : World} {A : Around} {E : Value → Shared → Prop} {o : OsP} {B : Heap} {env : Env} {l l' : Vars} {c c' : Cels} {n n' pre post : Ledg} {s s' : Shared} {R : Result → Shared → Prop}
structure PpY where
  hi : Ledg
  pvs : List Value
  pk : Nat
  acc : List (Nat × List Nat)
  room : Int
  om : Obj
  or' : Obj
  cm : Option Value
  cr : Option Value
  tr : Tok
  a1 : Option Value
  a2 : Option Value
  a3 : Option Value
  a4 : Option Value
structure CeZ where
  vs : List Value
  ep : Nat
  a : Option Value
structure VcY where
  hi : Ledg
  vs : List Value
  ep : Nat
  a : Option Value
theorem parts_call {a : Addr} {vs : List Value} {k : Nat} {ns : List Int} {room : Int} {over : Bool} {t : Tok} {Q : Value → Shared → Prop} (S : St o B env l c n s) (T : Base (KK w.params) mg mb B) (hr : Room A 6 60) (hl : Has B n a (listOf vs.toArray k)) (hi : IntsAre vs ns) (hz : ns.length ≤ 8) (h0 : 0 ≤ room) (h1 : room ≤ 1000)
    (h : ∀ add pl tt pvs pk s', TupsAre add pvs (partsR over ns room []).1 → (pl, listOf pvs.toArray pk) ∈ add → (tt, tupOf [.ref pl, .bool (partsR over ns room []).2]) ∈ add → St o B env l c (add ++ n) s' → Q (.ref tt) s') :
    wpAny (model prog w) A (call (.ref 582) [.ref a, .int room t, .bool over]) Q E s := by
  refine wpAny_call (fn_callN (d := 5) (u := 57) (binds := [("numbers", .ref a), ("room", .int room t), ("over", .bool over)]) (l' := [("numbers", some (.ref a)), ("room", some (.int room t)), ("over", some (.bool over)), ("parts", none), ("number", none), ("count", none), ("head", none), ("fits", none), ("values", none)]) S T hr (fs582.2 _) (cd582 _) rfl ok582 (BindsTo.of_eq (by kernel_rfl)) (by kernel_rfl) ?_)
  clear S hr
  intro g L A cls s hr hcl S T ext
  have hl := hl.to ext
  have G := EvG.of (env := envF fs582.1 L 582) gn582 rfl rfl
  have hce : celsOf fs582.1 L [("numbers", .ref a), ("room", .int room t), ("over", .bool over)] = ([(("rest" : Str), L + 2, none), ("mode", L + 1, none)] : Cels) := by kernel_rfl
  rw [hce] at S hcl
  cases hcl with
  | cons hcd1 hcl =>
  cases hcl with
  | cons hcd2 hcl =>
  cases hcl
  rename_i ob1 ob2
  rw [List.cons_append, List.cons_append, List.nil_append] at S
  have hh := hr.handled
  repeat cell_call
  rename_i pl _ _ s S
  have hl2 : Has g ((pl, listOf ([] : List Value).toArray 0) :: (L + 2, ob1) :: (L + 1, ob2) :: n) a (listOf vs.toArray k) := hl.cons.cons.cons
  refine r_iterList S hl2 fun it ob s hob S => ?_
  have hvl := hi.length
  refine for_rule (X := PpY) (lF := fun v i y => [("numbers", some (.ref a)), ("room", some (.int y.room y.tr)), ("over", some (.bool over)), ("parts", some (.ref pl)), ("number", v), ("count", y.a1), ("head", y.a2), ("fits", y.a3), ("values", y.a4)])
    (cF := fun _ y => [(("rest" : Str), L + 2, y.cr), ("mode", L + 1, y.cm)]) (hi := fun _ y => y.hi) (lo := fun _ y => (pl, listOf y.pvs.toArray y.pk) :: (L + 2, y.or') :: (L + 1, y.om) :: n)
    (P := fun i y => TupsAre y.hi y.pvs y.acc ∧ y.acc.length ≤ i ∧ 0 ≤ y.room ∧ y.room ≤ 1000 ∧ partsR over (ns.drop i) y.room y.acc = partsR over ns room [] ∧ y.or'.data = .cell y.cr ∧ y.om.data = .cell y.cm)
    ⟨[], [], 0, [], room, ob2, ob1, none, none, t, none, none, none, none⟩ (iter_list hh vs) hob S ⟨.nil, Nat.le_refl _, h0, h1, rfl, hcd1, hcd2⟩ (fun _ _ _ _ => by tb_start) (fun ob u i y s S => S.isList (Has.app _ (hl.cons.cons.cons.cons))) ?_ ?_
  · clear S hob s
    rintro i y ob v s hil ⟨hP1, hP2, hP3, hP4, hP5, hP6, hP7⟩ hv hob S
    obtain ⟨hi', pvs, pk, acc, rm, om, or', cm, cr, tr, a1, a2, a3, a4⟩ := y
    dsimp only at hP1 hP2 hP3 hP4 hP5 hP6 hP7 S
    obtain ⟨x, tx, hx, rfl⟩ := ints_at hi hv
    have hm := modeOf_ok x
    have hc := cntOf_le x
    have em : x.fmod 3 = x % 3 := by rw [Int.fmod_eq_emod_of_nonneg _ (by decide)]
    repeat cell_call
    refine x_assignT ?hs ?hw ?_
    case hw => kernel_rfl
    case hs => kernel_rfl
    repeat cell_call
    rename_i S
    refine r_itemI S ?hs (.n (.head _)) (IntsAre.cons _ _ (.cons _ _ (.cons _ _ .nil))) (by omega) (by simp only [List.length_cons, List.length_nil]; omega) (by omega) fun t => ?_
    case hs => kernel_rfl
    rw [modeOf_int]
    repeat cell_call
    refine x_assignT ?hs ?hw ?_
    case hw => kernel_rfl
    case hs => kernel_rfl
    repeat cell_call
    rename_i or2 _ hor2 S
    rw [cnt_int, rest_int] at S
    rw [rest_int] at hor2
    refine x_assignTS (names := [("head" : Str), "fits"]) ?hs ?hw ?_
    case hw => kernel_rfl
    case hs => kernel_rfl
    repeat cell_call
    rename_i S
    refine r_itemI S ?hs (.n (.head _)) (IntsAre.cons _ _ (.cons _ _ (.cons _ _ (.cons _ _ .nil)))) (by omega) (by simp only [List.length_cons, List.length_nil]; omega) (by omega) fun t => ?_
    case hs => kernel_rfl
    rw [headOf_int hm]
    repeat cell_call
    show wpAny _ _ (assignInOrder [bindName _ ("fits" : Str), bindName _ ("head" : Str)] [_, _]) _ _ _
    repeat cell_call
    rename_i tf _ _ _ _ _ _ s S
    obtain ⟨hi2, hsub, S⟩ := St.regroup (hi := hi') [_, _, _, _, _] S
    have hmd : ∃ (om2 : Obj) (td th tc tq : Tok), om2.data = .cell (some (.int (modeOf x : Nat) td)) ∧ St o g (envF fs582.1 L 582) [("numbers", some (.ref a)), ("room", some (.int rm tr)), ("over", some (.bool over)), ("parts", some (.ref pl)), ("number", some (.int x tx)), ("count", some (.int (cntOf x : Nat) tc)), ("head", some (.int (headOf (modeOf x) : Nat) th)), ("fits", some (.int (cntOf x : Nat) tc)), ("values", a4)]
      [(("rest" : Str), L + 2, some (.int (restOf x) tq)), ("mode", L + 1, some (.int (modeOf x : Nat) td))] (hi2 ++ (it, ob) :: (pl, listOf pvs.toArray pk) :: (L + 2, or2) :: (L + 1, om2) :: n) s ∧ or2.data = .cell (some (.int (restOf x) tq)) := ⟨_, _, _, _, _, by assumption, S, hor2⟩
    clear S
    obtain ⟨om2, td, th, tc, tq, hom2, S, hor2⟩ := hmd
    generalize hfit : fitF (modeOf x) rm (cntOf x) = F0 at *
    refine wpAny_mono (x_while (Q := fun fl s => fl = .next ∧ ∃ tf, St o g (envF fs582.1 L 582) [("numbers", some (.ref a)), ("room", some (.int rm tr)), ("over", some (.bool over)), ("parts", some (.ref pl)), ("number", some (.int x tx)), ("count", some (.int (cntOf x : Nat) tc)), ("head", some (.int (headOf (modeOf x) : Nat) th)), ("fits", some (.int (F0 : Nat) tf)), ("values", a4)]
      [(("rest" : Str), L + 2, some (.int (restOf x) tq)), ("mode", L + 1, some (.int (modeOf x : Nat) td))] (hi2 ++ (it, ob) :: (pl, listOf pvs.toArray pk) :: (L + 2, or2) :: (L + 1, om2) :: n) s) (E := fun _ _ => False)
      (I := fun f s => ∃ tf, fitF (modeOf x) rm f = F0 ∧ f ≤ 20 ∧ St o g (envF fs582.1 L 582) [("numbers", some (.ref a)), ("room", some (.int rm tr)), ("over", some (.bool over)), ("parts", some (.ref pl)), ("number", some (.int x tx)), ("count", some (.int (cntOf x : Nat) tc)), ("head", some (.int (headOf (modeOf x) : Nat) th)), ("fits", some (.int (f : Nat) tf)), ("values", a4)]
      [(("rest" : Str), L + 2, some (.int (restOf x) tq)), ("mode", L + 1, some (.int (modeOf x : Nat) td))] (hi2 ++ (it, ob) :: (pl, listOf pvs.toArray pk) :: (L + 2, or2) :: (L + 1, om2) :: n) s) (cntOf x) ⟨_, hfit, hc.2, S⟩ ?_) ?_ (fun _ _ x => x.elim)
    · clear S
      rintro f s ⟨tf, hf1, hf2, S⟩
      repeat cell_call
      refine r_iteD (fun hf0 => ?_) (fun hf0 => ?_)
      · obtain ⟨f', rfl⟩ : ∃ f', f = f' + 1 := ⟨f - 1, by omega⟩
        repeat cell_call
        rename_i S
        refine size_call S T hr.le hm (by omega) fun t s S => ?_
        repeat cell_call
        refine r_iteD (fun hgt => ?_) (fun hgt => ?_)
        · repeat cell_call
          rename_i S
          rw [show ((f' + 1 : Nat) : Int) - 1 = (f' : Nat) by omega] at S
          refine ⟨f', Nat.lt_succ_self _, _, ?_, by omega, S⟩
          rw [← hf1]
          conv => rhs; unfold fitF
          rw [if_pos hgt]
        · repeat cell_call
          rename_i S
          refine ⟨rfl, tf, ?_⟩
          have : F0 = f' + 1 := by
            rw [← hf1]
            conv => lhs; unfold fitF
            rw [if_neg hgt]
          rw [this]
          exact S
      · obtain rfl : f = 0 := by omega
        repeat cell_call
        rename_i S
        refine ⟨rfl, tf, ?_⟩
        have : F0 = 0 := by rw [← hf1]; rfl
        rw [this]
        exact S
    · rintro fl s ⟨rfl, tf, S⟩
      have hF0 : F0 ≤ cntOf x := by rw [← hfit]; exact fitF_le _ _ _
      have hP1 := hP1.mono (n' := hi2) fun p _ hp => hsub p hp
      clear hsub
      have hFi : fitsOf over x rm = if over = true ∧ F0 < cntOf x then F0 + 1 else F0 := by unfold fitsOf; rw [hfit]
      have hFl := fitsOf_le over x rm
      generalize hF : fitsOf over x rm = F at *
      refine x_next (x_cons ?_)
      refine wpAny_mono (Q := fun fl s => fl = .next ∧ ∃ tf, St o g (envF fs582.1 L 582) [("numbers", some (.ref a)), ("room", some (.int rm tr)), ("over", some (.bool over)), ("parts", some (.ref pl)), ("number", some (.int x tx)), ("count", some (.int (cntOf x : Nat) tc)), ("head", some (.int (headOf (modeOf x) : Nat) th)), ("fits", some (.int (F : Nat) tf)), ("values", a4)]
        [(("rest" : Str), L + 2, some (.int (restOf x) tq)), ("mode", L + 1, some (.int (modeOf x : Nat) td))] (hi2 ++ (it, ob) :: (pl, listOf pvs.toArray pk) :: (L + 2, or2) :: (L + 1, om2) :: n) s) ?_ (fun fl s ⟨e, j⟩ => ?_) (fun _ _ (x : False) => x.elim)
      · repeat cell_call
        refine r_iteB (fun ho => ?_) (fun ho => ?_)
        · repeat cell_call
          refine r_iteD (fun hlt => ?_) (fun hlt => ?_)
          · repeat cell_call
            rename_i S
            have e5 : ((F : Nat) : Int) = (F0 : Nat) + 1 := by rw [hFi, if_pos ⟨ho, by omega⟩]; omega
            rw [← e5] at S
            exact ⟨rfl, _, S⟩
          · repeat cell_call
            rename_i S
            have e5 : F0 = F := by rw [hFi, if_neg (by omega)]
            rw [e5] at S
            exact ⟨rfl, _, S⟩
        · repeat cell_call
          have e5 : F0 = F := by rw [hFi, if_neg (by rw [ho]; simp)]
          rename_i S
          rw [e5] at S
          exact ⟨rfl, _, S⟩
      clear S
      subst e
      obtain ⟨tf, S⟩ := j
      refine x_next (x_cons ?_)
      have hvl2 : (valsOf over x rm).length = F := by unfold valsOf; rw [hF]; simp
      have hacc : accR over x rm acc = if 0 < F then acc ++ [(modeOf x, valsOf over x rm)] else acc := by unfold accR; rw [hF]
      have hroom : roomR over x rm = if 0 < F then rm - ((headOf (modeOf x) : Int) + (sizeOf (modeOf x) F : Nat)) else rm := by unfold roomR; rw [hF]
      refine wpAny_mono (Q := fun fl s => fl = .next ∧ ∃ hi3 pvs2 pk2 a4' tr', TupsAre hi3 pvs2 (accR over x rm acc) ∧ St o g (envF fs582.1 L 582) [("numbers", some (.ref a)), ("room", some (.int (roomR over x rm) tr')), ("over", some (.bool over)), ("parts", some (.ref pl)), ("number", some (.int x tx)), ("count", some (.int (cntOf x : Nat) tc)), ("head", some (.int (headOf (modeOf x) : Nat) th)), ("fits", some (.int (F : Nat) tf)), ("values", a4')]
        [(("rest" : Str), L + 2, some (.int (restOf x) tq)), ("mode", L + 1, some (.int (modeOf x : Nat) td))] (hi3 ++ (it, ob) :: (pl, listOf pvs2.toArray pk2) :: (L + 2, or2) :: (L + 1, om2) :: n) s) ?_ (fun fl s ⟨e, j⟩ => ?_) (fun _ _ (x : False) => x.elim)
      · repeat cell_call
        refine r_iteD (fun hF0 => ?_) (fun hF0 => ?_)
        · rw [if_pos (by omega)] at hacc hroom
          rw [hacc, hroom]
          repeat cell_call
          refine x_compA (cl := [(("rest" : Str), L + 2), ("mode", L + 1)]) ?hsw ?ha ?hcl ?hok ?hf ?_
          case ha => rfl
          case hsw => kernel_rfl
          case hcl => kernel_rfl
          case hok => kernel_rfl
          case hf => (intro _; kernel_rfl)
          repeat cell_call
          rename_i it2 ob3 s hob2 S
          have e0 : ((F : Nat) - 0 : Int).toNat = F := by omega
          rw [e0] at hob2
          have nc3 : cellE ob3 = false := by unfold rangeItP at hob2; subst hob2; rfl
          refine' comp_enterA (lc := [(("turn" : Str), none)]) S T ?hok ?hev ?hlc (List.Sublist.refl _) ?hcl ?hput ?hbody
          case hok => kernel_rfl
          case hev => kernel_rfl
          case hlc => simp
          case hcl =>
            intro p hp
            rcases List.mem_cons.mp hp with rfl | hp
            · kernel_rfl
            · rcases List.mem_cons.mp hp with rfl | hp
              · kernel_rfl
              · cases hp
          case hput => (intro _; tb_start)
          case hbody =>
            intro g' C acv s S' T' ext'
            refine comp_rule (X := VcY) (lF := fun _ z => [(("turn" : Str), z.a)]) (cc := _) (hi := fun _ z => z.hi ++ [(acv, listOf z.vs.toArray z.ep)]) (lo := fun _ _ => _) (P := fun j z => IntsAre z.vs (((valsOf over x rm).take j).map fun v => ((v : Nat) : Int)) ∧ ∀ p ∈ z.hi, cellE p.2 = false) ⟨[], [], 0, none⟩ (iter_range hh 0 1 F) (fun s i ob Q E h1 h2 h3 => self_range s i ob Q E h1 h2 h3) hob2 S' ⟨.nil, by simp⟩ ?ht (fun _ _ _ _ _ => trivial) ?_ ?_
            case ht => (intro _; rfl)
            · rintro j z ob v s hj ⟨hPz, hPc⟩ ⟨t, rfl⟩ hob S
              have e1 : (0 + (j : Int) * 1) = j := by omega
              rw [e1]
              have hPz : IntsAre z.vs _ := hPz
              simp only [List.append_assoc, List.cons_append, List.nil_append] at S
              repeat cell_call
              rw [List.forIn_nil]
              refine wpAny_pure (r_ifT rfl ?_)
              repeat cell_call
              rename_i S
              refine r_pow7 S (by omega) fun t7 s S => ?_
              obtain ⟨h71, h72⟩ := pow7_small (t := j) (by omega)
              refine r_fdiv S h72 (pylong_small h71) fun t s S => ?_
              repeat cell_call
              rename_i S
              refine r_itemI S ?hs (.n (.head _)) (IntsAre.cons _ _ (.cons _ _ (.cons _ _ (.cons _ _ .nil)))) (by omega) (by simp only [List.length_cons, List.length_nil]; omega) (by omega) fun t => ?_
              case hs => kernel_rfl
              rw [radix_int hm]
              refine r_mod S (by have := radix_pos (m := modeOf x); omega) fun t s S => ?_
              rw [val_int]
              have hln : (((valsOf over x rm).take j).map fun v => ((v : Nat) : Int)).length ≤ 1000 := by rw [List.length_map, List.length_take, hvl2]; omega
              repeat cell_call
              rename_i vs2 s hi2' S
              rw [← List.cons_append, List.append_cons] at S
              refine' ⟨⟨_, vs2, _, _⟩, ⟨?p1, ?p2⟩, S⟩
              case p1 =>
                show IntsAre vs2 _
                rw [List.take_add_one, List.map_append]
                have : (valsOf over x rm)[j]? = some (valAt (restOf x) (modeOf x) j) := by
                  unfold valsOf
                  rw [List.getElem?_map, List.getElem?_range (by rw [hF]; exact hj)]
                  rfl
                rw [this]
                exact hi2'
              case p2 =>
                intro p hp
                rcases List.mem_cons.mp hp with rfl | hp
                · rfl
                · exact hPc p hp
            · intro z s ⟨hPz, hPc⟩ S
              simp only [List.append_assoc, List.cons_append, List.nil_append] at S
              obtain ⟨zhi, zvs, zep, za⟩ := z
              have hPz : IntsAre zvs _ := hPz
              rw [List.take_of_length_le (by rw [hvl2]; exact Nat.le_refl _)] at hPz
              dsimp only at S
              refine ⟨_, _, _, S, .gone nc3 (.newApp _ (.new .refl)), fun s S => ?_⟩
              repeat cell_call
              refine size_call S T hr.le hm (by omega) fun t s S => ?_
              have hpl : pvs.length ≤ 10 := by have := hP1.length; omega
              have hvlt : ∀ v ∈ valsOf over x rm, v < radixOf (modeOf x) := (part_ok over x rm).2.1
              have hvz : zvs.length = F := by rw [hPz.length, List.length_map, hvl2]
              repeat cell_call
              refine r_iteD (fun h4 => ?_) (fun h4 => ?_)
              · have h4' : modeOf x = 4 := by omega
                repeat cell_call
                rename_i S
                refine r_bytes hh S (.n (by tb_rel)) hPz ?_ (by rw [List.length_map, hvl2]; omega) fun bb tb s hbb S => ?_
                · intro y hy
                  obtain ⟨v, hv', rfl⟩ := List.mem_map.mp hy
                  have := hvlt v hv'
                  rw [h4'] at this
                  have e : radixOf 4 = 256 := rfl
                  omega
                have hbb : KBw.bInts bb = octs (modeOf x) (valsOf over x rm) := by rw [hbb, h4', octs4]
                repeat cell_call
                rename_i tt _ _ s S
                simp only [← List.cons_append, ← List.append_assoc] at S
                refine' ⟨rfl, _, pvs ++ [.ref tt], _, _, _, ?zt, S⟩
                case zt => exact (hP1.mono fun p _ hp => by simp [hp]).append (.cons ⟨tt, td, bb, tb, rfl, by simp, hbb⟩ .nil)
              · have h4' : modeOf x ≠ 4 := by omega
                repeat cell_call
                refine x_comp (cl := []) ?ha ?hcl ?hok ?hf ?_
                case ha => rfl
                case hcl => kernel_rfl
                case hok => kernel_rfl
                case hf => (intro _; kernel_rfl)
                repeat cell_call
                rename_i S
                refine r_iterList S (.n (by tb_rel)) fun it3 ob4 s hob3 S => ?_
                refine' comp_enter (lc := [(("value" : Str), none)]) (cc := []) S T ?hok ?hev ?hlc (List.nil_sublist _) ?hcl ?hbody
                case hok => kernel_rfl
                case hev => kernel_rfl
                case hlc => simp
                case hcl => simp
                case hbody =>
                  intro g'' C2 ac2 s S' T'' ext''
                  have G' := evg_st S' ["ord", "_law_signs"] (by kernel_rfl) rfl rfl
                  refine comp_rule (X := CeZ) (lF := fun _ z => [(("value" : Str), z.a)]) (cc := []) (hi := fun _ z => [(ac2, listOf z.vs.toArray z.ep)]) (lo := fun _ _ => _) (P := fun j z => IntsAre z.vs ((octs (modeOf x) (valsOf over x rm)).take j)) ⟨[], 0, none⟩ (iter_list hh zvs) (fun s i ob Q E h1 h2 h3 => self_list s i ob Q E h1 h2 h3) hob3 S' .nil ?ht ?hn ?_ ?_
                  case ht => (intro _; rfl)
                  case hn => (intro ob i y s S; exact S.isList (.n (by tb_rel)))
                  · rintro j z ob v s hj hPj hv hob S
                    rw [List.cons_append, List.nil_append] at S
                    have hPj : IntsAre z.vs _ := hPj
                    obtain ⟨v', tv, hv', rfl⟩ := ints_at hPz hv
                    rw [List.getElem?_map, Option.map_eq_some_iff] at hv'
                    obtain ⟨vn, hvn, rfl⟩ := hv'
                    have hv45 : vn < 45 := by
                      have := hvlt vn (List.mem_of_getElem? hvn)
                      have e : radixOf (modeOf x) ≤ 45 := by rcases hm with h | h | h <;> rw [h] <;> first | decide | exact absurd h h4'
                      omega
                    have hln : ((octs (modeOf x) (valsOf over x rm)).take j).length ≤ 1000 := by rw [List.length_take, octs_len, hvl2]; omega
                    repeat cell_call
                    rw [List.forIn_nil]
                    refine wpAny_pure (r_ifT rfl ?_)
                    repeat cell_call
                    rename_i S
                    refine' r_strItem S ?hs ?h0 ?h1 ?hc ?hk
                    case hs => kernel_rfl
                    case h0 => omega
                    case h1 => omega
                    case hc => rw [Int.toNat_natCast]; exact signs_at vn hv45
                    intro t s S
                    repeat cell_call
                    rename_i S
                    refine r_ord S fun t s S => ?_
                    repeat cell_call
                    rename_i vs2 s hi2' S
                    refine ⟨⟨vs2, _, _⟩, ?_, S⟩
                    show IntsAre vs2 _
                    rw [List.take_add_one]
                    have : (octs (modeOf x) (valsOf over x rm))[j]? = some ((signTab.getD vn 0 : Nat) : Int) := by
                      rw [octs_no4 h4', List.getElem?_map, hvn]
                      rfl
                    rw [this]
                    exact hi2'
                  · intro z s hPj S
                    obtain ⟨wvs, wep, wa⟩ := z
                    have hPj : IntsAre wvs _ := hPj
                    rw [List.take_of_length_le (by rw [octs_len, hvl2, hvz]; exact Nat.le_refl _)] at hPj
                    refine ⟨_, _, _, S, .gone (cellE_of_fields hob3.2) (.new .refl), fun s S => ?_⟩
                    simp only [List.cons_append, List.nil_append] at S
                    repeat cell_call
                    rename_i S
                    refine r_bytes hh S (.n (by tb_rel)) hPj ?_ (by rw [octs_len, hvl2]; omega) fun bb tb s hbb S => ?_
                    · intro y hy
                      rw [octs_no4 h4'] at hy
                      obtain ⟨v, hv', rfl⟩ := List.mem_map.mp hy
                      have h1 := hvlt v hv'
                      have e : radixOf (modeOf x) ≤ 45 := by rcases hm with h | h | h <;> rw [h] <;> first | decide | exact absurd h h4'
                      have := sign_lt v (by omega)
                      omega
                    repeat cell_call
                    rename_i tt _ _ s S
                    simp only [← List.cons_append, ← List.append_assoc] at S
                    refine' ⟨rfl, _, pvs ++ [.ref tt], _, _, _, ?zt, S⟩
                    case zt => exact (hP1.mono fun p _ hp => by simp [hp]).append (.cons ⟨tt, td, bb, tb, rfl, by simp, hbb⟩ .nil)
        · rw [if_neg (by omega)] at hacc hroom
          rw [hacc, hroom]
          repeat cell_call
          rename_i S
          exact ⟨rfl, hi2, pvs, pk, a4, tr, hP1, S⟩
      clear S
      subst e
      obtain ⟨hi3, pvs2, pk2, a4', tr', hT, S⟩ := j
      have hdr : ns.drop i = x :: ns.drop (i + 1) := by
        rw [List.drop_eq_getElem_cons (by omega)]
        congr 1
        have := (List.getElem?_eq_some_iff.mp hx).2
        exact this
      rw [hdr, partsR_cons hP3] at hP5
      have hal := accR_len over x rm acc
      have hrl := roomR_le over x rm
      repeat cell_call
      refine r_iteD (fun hneg => ?_) (fun hneg => ?_)
      · rw [if_pos hneg] at hP5
        repeat cell_call
        rename_i tt s S
        dsimp only [TurnQ, SeqQ]
        refine back_ (n'' := (tt, tupOf [.ref pl, .bool true]) :: (hi3 ++ (it, ob) :: (pl, listOf pvs2.toArray pk2) :: n)) S (.cons_cons _ (List.Sublist.append (List.Sublist.refl _) (.cons_cons _ (.cons_cons _ (.cons _ (.cons _ (List.Sublist.refl _))))))) (.new (.newApp _ (.new (.new .refl)))) fun S' => ?_
        have e1 : (partsR over ns room []).1 = accR over x rm acc := by rw [← hP5]
        have e2 : (partsR over ns room []).2 = true := by rw [← hP5]
        refine h ((tt, tupOf [.ref pl, .bool true]) :: (hi3 ++ [(it, ob), (pl, listOf pvs2.toArray pk2)])) pl tt pvs2 pk2 _ ?_ (by simp) (by rw [e2]; exact .head _) (by simpa using S')
        rw [e1]
        exact hT.mono fun p _ hp => .tail _ (List.mem_append_left _ hp)
      · rw [if_neg hneg] at hP5
        repeat cell_call
        rename_i S
        refine' ⟨⟨hi3, pvs2, pk2, accR over x rm acc, roomR over x rm, om2, or2, some (.int (modeOf x : Nat) td), some (.int (restOf x) tq), tr', some (.int (cntOf x : Nat) tc), some (.int (headOf (modeOf x) : Nat) th), some (.int (F : Nat) tf), a4'⟩, some (.int x tx), ⟨hT, ?q1, ?q0, ?q2, hP5, hor2, hom2⟩, S⟩
        case q0 => show 0 ≤ roomR over x rm; omega
        case q1 => show (accR over x rm acc).length ≤ i + 1; omega
        case q2 => show roomR over x rm ≤ 1000; omega
  · intro v y s ⟨hP1, hP2, hP3, hP4, hP5, hP6, hP7⟩ S
    obtain ⟨hi', pvs, pk, acc, rm, om, or', cm, cr, tr, a1, a2, a3, a4⟩ := y
    dsimp only at hP1 hP2 hP3 hP4 hP5 hP6 hP7 S
    rw [List.drop_of_length_le (by omega)] at hP5
    repeat cell_call
    rename_i tt s S
    refine back_ (n'' := (tt, tupOf [.ref pl, .bool false]) :: (hi' ++ (pl, listOf pvs.toArray pk) :: n)) S (.cons_cons _ (List.Sublist.append (List.Sublist.refl _) (.cons_cons _ (.cons _ (.cons _ (List.Sublist.refl _)))))) (.new (.newApp _ (.new .refl))) fun S' => ?_
    have e1 : (partsR over ns room []).1 = acc := by rw [← hP5]; rfl
    have e2 : (partsR over ns room []).2 = false := by rw [← hP5]; rfl
    refine h ((tt, tupOf [.ref pl, .bool false]) :: (hi' ++ [(pl, listOf pvs.toArray pk)])) pl tt pvs pk _ ?_ (by simp) (by rw [e2]; exact .head _) (by simpa using S')
    rw [e1]
    exact hP1.mono fun p _ hp => .tail _ (List.mem_append_left _ hp)
end
end
section
open PySem PySem.W PySem.Calls PyProof.Rows
/-- the fields of a list stand in the words, one behind the other -/
def Told (ns : List Int) (fs : List (Nat × Nat)) : Prop := wid fs ≤ 8 * ns.length ∧ ∀ pre f post, fs = pre ++ f :: post → takenOf ns (wid pre : Nat) (f.2 : Nat) = (f.1 : Nat)
theorem widths {m : Nat} (h : m = 1 ∨ m = 2 ∨ m = 4) : ([10, 9, 0, 8] : List Int).getD ((m : Int) - 1).toNat 0 = (lenB m : Nat) := by rcases h with rfl | rfl | rfl <;> rfl
theorem steps {m : Nat} (h : m = 1 ∨ m = 2 ∨ m = 4) : ([3, 2, 0, 1] : List Int).getD ((m : Int) - 1).toNat 0 = (stepOf m : Nat) := by rcases h with rfl | rfl | rfl <;> rfl
/-- a group's number is less than the radix to its length; its digits -/
theorem fold_split (r : Nat) : ∀ (g : List Nat) (b : Nat), g.foldl (fun a v => r * a + v) b = b * r ^ g.length + numOf r g
  | [], b => by simp [numOf]
  | v :: g, b => by
    have h1 := fold_split r g (r * b + v)
    have h2 := fold_split r g (r * 0 + v)
    unfold numOf at *
    rw [List.foldl_cons, List.foldl_cons, h1, h2, List.length_cons, Nat.pow_succ]
    have e1 : (r * b + v) * r ^ g.length = b * (r ^ g.length * r) + v * r ^ g.length := by rw [Nat.add_mul]; congr 1; rw [Nat.mul_comm r b, Nat.mul_assoc, Nat.mul_comm r]
    rw [e1, Nat.mul_zero, Nat.zero_add]
    omega
theorem numOf_lt {r : Nat} : ∀ {g : List Nat}, (∀ v ∈ g, v < r) → numOf r g < r ^ g.length
  | [], _ => by simp [numOf]
  | v :: g, h => by
    have h1 := numOf_lt fun x hx => h x (.tail _ hx)
    have h2 := h v (.head _)
    have h3 := fold_split r g (r * 0 + v)
    have e : numOf r (v :: g) = v * r ^ g.length + numOf r g := by
      show g.foldl (fun a v => r * a + v) (r * 0 + v) = _
      rw [h3, Nat.mul_zero, Nat.zero_add]
    rw [e, List.length_cons, Nat.pow_succ]
    have h4 : (v + 1) * r ^ g.length ≤ r * r ^ g.length := Nat.mul_le_mul_right _ h2
    rw [Nat.add_mul, Nat.one_mul] at h4
    rw [Nat.mul_comm (r ^ g.length)]
    omega
theorem digit_at {r : Nat} : ∀ {g : List Nat} {j v : Nat}, (∀ v ∈ g, v < r) → g[j]? = some v → numOf r g / r ^ (g.length - 1 - j) % r = v
  | [], j, v, _, h => by simp at h
  | x :: g, j, v, hr, h => by
    have h1 := numOf_lt fun y hy => hr y (List.mem_cons_of_mem x hy)
    have h0 := hr x (.head _)
    have e : numOf r (x :: g) = x * r ^ g.length + numOf r g := by
      show g.foldl (fun a v => r * a + v) (r * 0 + x) = _
      rw [fold_split r g, Nat.mul_zero, Nat.zero_add]
    have hp : 0 < r := by omega
    cases j with
    | zero =>
      obtain rfl : x = v := by simpa using h
      rw [e, List.length_cons, Nat.add_sub_cancel, Nat.sub_zero, Nat.mul_comm x, Nat.mul_add_div (Nat.pow_pos hp), Nat.div_eq_of_lt h1, Nat.add_zero, Nat.mod_eq_of_lt h0]
    | succ j =>
      have h' : g[j]? = some v := by simpa using h
      have hjl : j < g.length := by
        by_cases hl : j < g.length
        · exact hl
        · rw [List.getElem?_eq_none (Nat.le_of_not_lt hl)] at h'; cases h'
      have ih := digit_at (fun y hy => hr y (List.mem_cons_of_mem x hy)) h'
      have ex : (x :: g).length - 1 - (j + 1) = g.length - 1 - j := by simp; omega
      rw [e, ex]
      have ep : x * r ^ g.length = r ^ (g.length - 1 - j) * (r * (x * r ^ j)) := by
        have : r ^ g.length = r ^ (g.length - 1 - j) * (r * r ^ j) := by
          rw [← Nat.pow_succ', ← Nat.pow_add]
          congr 1
          omega
        rw [this, Nat.mul_left_comm, Nat.mul_left_comm x r]
      rw [ep, Nat.mul_add_div (Nat.pow_pos hp), Nat.mul_add_mod]
      exact ih
theorem grp_length (m : Nat) (vals : List Nat) (i : Nat) : (grp m vals i).length = min (stepOf m) (vals.length - stepOf m * i) := by simp [grp]
theorem wid_pre {m : Nat} (hm : m = 1 ∨ m = 2 ∨ m = 4) (vals : List Nat) : ∀ i, i ≤ nGrp m vals → wid ((flds m vals).take i) = sizeOf m (min (stepOf m * i) vals.length)
  | 0, _ => by
    have : sizeOf m 0 = 0 := by rcases hm with rfl | rfl | rfl <;> rfl
    simp [wid, this]
  | i + 1, h => by
    have ih := wid_pre hm vals i (by omega)
    rw [flds_take (by omega), wid_append, ih]
    have e : wid [fld m vals i] = sizeOf m (grp m vals i).length := by simp [wid, fld]
    rw [e, grp_length]
    have hlt : stepOf m * i < vals.length := by
      unfold nGrp stepOf at h
      unfold stepOf
      rcases hm with rfl | rfl | rfl <;> simp at h ⊢ <;> omega
    rw [Nat.min_eq_left (Nat.le_of_lt hlt)]
    unfold sizeOf stepOf at *
    rcases hm with rfl | rfl | rfl
    · simp at *
      have hc : vals.length = 3 * i + 1 ∨ vals.length = 3 * i + 2 ∨ 3 * i + 3 ≤ vals.length := by omega
      rcases hc with hc | hc | hc
      · rw [hc]
        have e1 : min 3 (3 * i + 1 - 3 * i) = 1 := by omega
        have e2 : min (3 * (i + 1)) (3 * i + 1) = 3 * i + 1 := by omega
        have e3 : (3 * i + 1) / 3 = i := by omega
        have e4 : (3 * i + 1) % 3 = 1 := by omega
        rw [e1, e2, e3, e4]
        simp
      · rw [hc]
        have e1 : min 3 (3 * i + 2 - 3 * i) = 2 := by omega
        have e2 : min (3 * (i + 1)) (3 * i + 2) = 3 * i + 2 := by omega
        have e3 : (3 * i + 2) / 3 = i := by omega
        have e4 : (3 * i + 2) % 3 = 2 := by omega
        rw [e1, e2, e3, e4]
        simp
      · have e1 : min 3 (vals.length - 3 * i) = 3 := by omega
        have e2 : min (3 * (i + 1)) vals.length = 3 * (i + 1) := by omega
        have e3 : 3 * (i + 1) / 3 = i + 1 := by omega
        have e4 : 3 * (i + 1) % 3 = 0 := by omega
        rw [e1, e2, e3, e4]
        simp
        omega
    · simp at *
      omega
    · simp at *
      omega
theorem wid_flds {m : Nat} (hm : m = 1 ∨ m = 2 ∨ m = 4) (vals : List Nat) : wid (flds m vals) = sizeOf m vals.length := by
  have h := wid_pre hm vals (nGrp m vals) (Nat.le_refl _)
  rw [List.take_of_length_le (by simp [flds])] at h
  rw [h]
  congr 1
  unfold nGrp stepOf
  rcases hm with rfl | rfl | rfl <;> simp <;> omega
theorem allF_split {ps : List (Nat × List Nat)} {i : Nat} {p : Nat × List Nat} (h : ps[i]? = some p) : allF ps = allF (ps.take i) ++ (partF p ++ allF (ps.drop (i + 1))) := by
  have hlt : i < ps.length := by
    by_cases hl : i < ps.length
    · exact hl
    · rw [List.getElem?_eq_none (Nat.le_of_not_lt hl)] at h; cases h
  have e : ps = ps.take i ++ p :: ps.drop (i + 1) := by
    conv => lhs; rw [← List.take_append_drop i ps, List.drop_eq_getElem_cons hlt]
    rw [List.getElem?_eq_getElem hlt] at h
    rw [Option.some.inj h]
  conv => lhs; rw [e]
  unfold allF
  rw [List.flatMap_append, List.flatMap_cons]
/-- what is read at a part -/
theorem told_mode {ns : List Int} {ps : List (Nat × List Nat)} {i : Nat} {p : Nat × List Nat} (T : Told ns (allF ps)) (h : ps[i]? = some p) : takenOf ns (wid (allF (ps.take i)) : Nat) 4 = (p.1 : Nat) :=
  T.2 (allF (ps.take i)) (p.1, 4) ((p.2.length, lenB p.1) :: flds p.1 p.2 ++ allF (ps.drop (i + 1))) (by rw [allF_split h]; rfl)
theorem told_count {ns : List Int} {ps : List (Nat × List Nat)} {i : Nat} {p : Nat × List Nat} (T : Told ns (allF ps)) (h : ps[i]? = some p) : takenOf ns ((wid (allF (ps.take i)) : Nat) + 4) (lenB p.1 : Nat) = (p.2.length : Nat) := by
  have := T.2 (allF (ps.take i) ++ [(p.1, 4)]) (p.2.length, lenB p.1) (flds p.1 p.2 ++ allF (ps.drop (i + 1))) (by rw [allF_split h]; simp [partF])
  rw [wid_append] at this
  have e : wid [(p.1, 4)] = 4 := rfl
  rw [e] at this
  push_cast at this
  exact this
theorem told_fld {ns : List Int} {ps : List (Nat × List Nat)} {i j : Nat} {p : Nat × List Nat} (T : Told ns (allF ps)) (h : ps[i]? = some p) (hj : j < nGrp p.1 p.2) :
    takenOf ns ((wid (allF (ps.take i)) : Nat) + (4 + (lenB p.1 : Nat)) + (wid ((flds p.1 p.2).take j) : Nat)) (sizeOf p.1 (grp p.1 p.2 j).length : Nat) = (numOf (radixOf p.1) (grp p.1 p.2 j) : Nat) := by
  have hfl : j < (flds p.1 p.2).length := by simpa [flds] using hj
  have e0 : flds p.1 p.2 = (flds p.1 p.2).take j ++ fld p.1 p.2 j :: (flds p.1 p.2).drop (j + 1) := by
    conv => lhs; rw [← List.take_append_drop j (flds p.1 p.2), List.drop_eq_getElem_cons hfl]
    congr 2
    simp [flds]
  have := T.2 (allF (ps.take i) ++ ([(p.1, 4), (p.2.length, lenB p.1)] ++ (flds p.1 p.2).take j)) (fld p.1 p.2 j) ((flds p.1 p.2).drop (j + 1) ++ allF (ps.drop (i + 1))) (by
    rw [allF_split h]
    unfold partF
    conv => lhs; rw [e0]
    simp)
  rw [wid_append, wid_append] at this
  have e : wid [(p.1, 4), (p.2.length, lenB p.1)] = 4 + lenB p.1 := by simp [wid]
  rw [e] at this
  push_cast at this
  rw [← Int.add_assoc] at this
  exact this
theorem told_wid {ns : List Int} {ps : List (Nat × List Nat)} {i : Nat} {p : Nat × List Nat} (T : Told ns (allF ps)) (hm : p.1 = 1 ∨ p.1 = 2 ∨ p.1 = 4) (h : ps[i]? = some p) : wid (allF (ps.take i)) + (4 + lenB p.1) + sizeOf p.1 p.2.length ≤ 8 * ns.length ∧ wid (allF (ps.take (i + 1))) = wid (allF (ps.take i)) + (4 + lenB p.1) + sizeOf p.1 p.2.length := by
  have e : wid (partF p) = 4 + lenB p.1 + sizeOf p.1 p.2.length := by
    rw [← wid_flds hm]
    simp [partF, wid]
    omega
  have h1 := T.1
  rw [allF_split h, wid_append, wid_append, e] at h1
  rw [allF_take h, wid_append, e]
  omega
theorem step_ok {m : Nat} : 1 ≤ stepOf m ∧ stepOf m ≤ 3 := by unfold stepOf; split <;> (try split) <;> omega
theorem ngrp_le {m : Nat} (hm : m = 1 ∨ m = 2 ∨ m = 4) {vals : List Nat} {j : Nat} (hj : j < nGrp m vals) : stepOf m * j < vals.length := by
  unfold nGrp stepOf at *
  rcases hm with rfl | rfl | rfl <;> simp at hj ⊢ <;> omega
theorem down_size {m : Nat} (hm : m = 1 ∨ m = 2 ∨ m = 4) (vals : List Nat) : Builtin.Range.rangeSize (vals.length : Int) 0 (-(stepOf m : Nat)) = (nGrp m vals : Nat) := by
  unfold Builtin.Range.rangeSize nGrp stepOf
  rcases hm with rfl | rfl | rfl
  all_goals
    by_cases h0 : vals.length = 0
    · simp [h0]
    · have h1 : 0 < vals.length := by omega
      have h2 : (vals.length : Int) > 0 := by omega
      simp only [Nat.reduceEqDiff, if_true, if_false]
      simp [h1]
      try omega
theorem many_int {m : Nat} (hm : m = 1 ∨ m = 2 ∨ m = 4) {vals : List Nat} {j : Nat} (hj : j < nGrp m vals) : min ((vals.length : Int) + (j : Int) * (-(stepOf m : Nat))) (stepOf m : Nat) = ((grp m vals j).length : Nat) := by
  have h := ngrp_le hm hj
  rw [grp_length]
  unfold stepOf at *
  rcases hm with rfl | rfl | rfl <;> simp at h ⊢ <;> omega
theorem vals_take {m : Nat} {vals : List Nat} {j : Nat} : vals.take (stepOf m * (j + 1)) = vals.take (stepOf m * j) ++ grp m vals j := by
  unfold grp
  rw [Nat.mul_succ, List.take_add]
theorem radix_ok {m : Nat} (hm : m = 1 ∨ m = 2 ∨ m = 4) : 2 ≤ radixOf m ∧ radixOf m ≤ 256 := by rcases hm with rfl | rfl | rfl <;> decide
theorem wid_step {m : Nat} (hm : m = 1 ∨ m = 2 ∨ m = 4) {vals : List Nat} {j : Nat} (hj : j < nGrp m vals) : wid ((flds m vals).take (j + 1)) = wid ((flds m vals).take j) + sizeOf m (grp m vals j).length ∧ wid ((flds m vals).take (j + 1)) ≤ sizeOf m vals.length := by
  constructor
  · rw [flds_take hj, wid_append]
    simp [wid, fld]
  · rw [← wid_flds hm]
    conv => rhs; rw [← List.take_append_drop (j + 1) (flds m vals), wid_append]
    exact Nat.le_add_right _ _
theorem powr_small {a e : Nat} (h0 : 2 ≤ a) (h : a ≤ 256) (he : e ≤ 3) : (((a ^ e : Nat) : Int)).natAbs < 2 ^ 64 ∧ ((a ^ e : Nat) : Int) ≠ 0 := by
  have h1 : a ^ e ≤ 256 ^ e := Nat.pow_le_pow_left h e
  have h3 : 256 ^ e ≤ 256 ^ 3 := Nat.pow_le_pow_right (by decide) he
  have h2 : 0 < a ^ e := Nat.pow_pos (by omega)
  have h4 : (256 : Nat) ^ 3 < 2 ^ 64 := by decide
  rw [Int.natAbs_natCast]
  generalize a ^ e = q at *
  omega
theorem digit_int {r e x : Nat} (h : 0 < r) : Int.fmod (Int.fdiv (x : Nat) ((r ^ e : Nat) : Int)) (r : Nat) = ((x / r ^ e % r : Nat) : Int) := by
  rw [Int.fdiv_eq_ediv_of_nonneg _ (Int.natCast_nonneg _), Int.fmod_eq_emod_of_nonneg _ (Int.natCast_nonneg _)]
  push_cast
  rfl
end
section
open PySem PySem.W PySem.Calls PyProof.Rows
local macro_rules | `(tactic| kt_eqs) => `(tactic| first | with_reducible exact kp577 _ | with_reducible exact kp596 _ | exact kp577 _ | exact kp596 _)
local macro_rules | `(tactic| kt_ors) => `(tactic| first | with_reducible exact gl__law_size _ | with_reducible exact gl_range _ | with_reducible exact gl_bytes _ | with_reducible exact gl_ord _ | with_reducible exact gl__law_signs _ | with_reducible exact gl_len _ | with_reducible exact gl_min _ | with_reducible exact gl__law_taken _ | exact gl__law_size _ | exact gl_range _ | exact gl_bytes _ | exact gl_ord _ | exact gl__law_signs _ | exact gl_len _ | exact gl_min _ | exact gl__law_taken _)
section
variable {mg mb : Str → Option Value} {prog : Program} {w : World} {A : Around} {E : Value → Shared → Prop} {o : OsP} {B : Heap} {env : Env} {l l' : Vars} {c c' : Cels} {n n' pre post : Ledg} {s s' : Shared} {R : Result → Shared → Prop}
structure TdY where
  hi : Ledg
  pvs : List Value
  pk : Nat
  ta : Tok
  o1 : Obj
  o2 : Obj
  o3 : Obj
  c1 : Option Value
  c2 : Option Value
  c3 : Option Value
  a1 : Option Value
  a2 : Option Value
  a3 : Option Value
  a4 : Option Value
  a5 : Option Value
  a6 : Option Value
structure TwY where
  hi : Ledg
  sg : Addr
  svs : List Value
  sk : Nat
  ta : Tok
  o1 : Obj
  o2 : Obj
  c1 : Option Value
  c2 : Option Value
  aw : Option Value
theorem ngrp_all {m : Nat} (hm : m = 1 ∨ m = 2 ∨ m = 4) {vals : List Nat} : vals.length ≤ stepOf m * nGrp m vals := by
  unfold nGrp
  rcases hm with rfl | rfl | rfl
  · show _ ≤ 3 * ((_ + 3 - 1) / 3); omega
  · show _ ≤ 2 * ((_ + 2 - 1) / 2); omega
  · show _ ≤ 1 * ((_ + 1 - 1) / 1); omega
theorem told_call {a : Addr} {vs : List Value} {k : Nat} {ns : List Int} {parts : List (Nat × List Nat)} {Q : Value → Shared → Prop} (S : St o B env l c n s) (T : Base (KK w.params) mg mb B) (hr : Room A 6 60) (hl : Has B n a (listOf vs.toArray k)) (hi : IntsAre vs ns) (hbs : ∀ x ∈ ns, 0 ≤ x ∧ x < 256) (hz : ns.length ≤ 100)
    (hp : ∀ p ∈ parts, PartOk p) (ht : Told ns (allF parts)) (hend : 8 * ns.length < wid (allF parts) + 4 ∨ takenOf ns (wid (allF parts) : Nat) 4 = 0) (hpz : parts.length ≤ 10)
    (h : ∀ add pl tt t pvs pk s', TupsAre add pvs parts → (pl, listOf pvs.toArray pk) ∈ add → (tt, tupOf [.ref pl, .int (wid (allF parts) : Nat) t]) ∈ add → St o B env l c (add ++ n) s' → Q (.ref tt) s') :
    wpAny (model prog w) A (call (.ref 601) [.ref a]) Q E s := by
  refine wpAny_call (fn_callN (d := 5) (u := 57) (binds := [("words", .ref a)]) (l' := [("words", some (.ref a)), ("parts", none), ("at", none), ("bits", none), ("mode", none), ("width", none), ("count", none), ("signs", none), ("step", none), ("left", none)]) S T hr (fs601.2 _) (cd601 _) rfl ok601 (BindsTo.of_eq (by kernel_rfl)) (by kernel_rfl) ?_)
  clear S hr
  intro g L A cls s hr hcl S T ext
  have hl := hl.to ext
  have G := EvG.of (env := envF fs601.1 L 601) gn601 rfl rfl
  have hce : celsOf fs601.1 L [("words", .ref a)] = ([(("value" : Str), L + 3, none), ("many", L + 2, none), ("radix", L + 1, none)] : Cels) := by kernel_rfl
  rw [hce] at S hcl
  cases hcl with
  | cons hcd1 hcl =>
  cases hcl with
  | cons hcd2 hcl =>
  cases hcl with
  | cons hcd3 hcl =>
  cases hcl
  rename_i ob1 ob2 ob3
  rw [List.cons_append, List.cons_append, List.cons_append, List.nil_append] at S
  have hh := hr.handled
  have hvl := hi.length
  have hlc : Has g ((L + 3, ob1) :: (L + 2, ob2) :: (L + 1, ob3) :: n) a (listOf vs.toArray k) := hl.cons.cons.cons
  refine x_cons (x_assignTS (names := [("parts" : Str), "at", "bits"]) ?hs ?hw ?_)
  case hw => kernel_rfl
  case hs => kernel_rfl
  repeat cell_call
  show wpAny _ _ (assignInOrder [bindName _ ("bits" : Str), bindName _ ("at" : Str), bindName _ ("parts" : Str)] [_, _, _]) _ _ _
  repeat cell_call
  rename_i pl _ _ t0 _ _ t8 _ _ t1 _ _ tb _ _ _ _ _ _ _ _ _ _ _ s S
  refine wpAny_mono (x_while (Q := fun fl s => fl = .next ∧ ∃ y : TdY, TupsAre y.hi y.pvs parts ∧ St o g (envF fs601.1 L 601) [("words", some (.ref a)), ("parts", some (.ref pl)), ("at", some (.int (wid (allF (parts)) : Nat) y.ta)), ("bits", some (.int (8 * (ns.length : Int)) tb)), ("mode", y.a1), ("width", y.a2), ("count", y.a3), ("signs", y.a4), ("step", y.a5), ("left", y.a6)] [(("value" : Str), L + 3, y.c1), ("many", L + 2, y.c2), ("radix", L + 1, y.c3)] (y.hi ++ (pl, listOf y.pvs.toArray y.pk) :: (L + 3, y.o1) :: (L + 2, y.o2) :: (L + 1, y.o3) :: n) s) (E := fun _ _ => False)
    (I := fun k s => ∃ (i : Nat) (y : TdY), k = parts.length - i ∧ i ≤ parts.length ∧ TupsAre y.hi y.pvs (parts.take i) ∧ y.o1.data = .cell y.c1 ∧ y.o2.data = .cell y.c2 ∧ y.o3.data = .cell y.c3 ∧ St o g (envF fs601.1 L 601) [("words", some (.ref a)), ("parts", some (.ref pl)), ("at", some (.int (wid (allF (parts.take i)) : Nat) y.ta)), ("bits", some (.int (8 * (ns.length : Int)) tb)), ("mode", y.a1), ("width", y.a2), ("count", y.a3), ("signs", y.a4), ("step", y.a5), ("left", y.a6)] [(("value" : Str), L + 3, y.c1), ("many", L + 2, y.c2), ("radix", L + 1, y.c3)] (y.hi ++ (pl, listOf y.pvs.toArray y.pk) :: (L + 3, y.o1) :: (L + 2, y.o2) :: (L + 1, y.o3) :: n) s)
    parts.length ⟨0, ⟨[_], [], 0, t0, ob1, ob2, ob3, none, none, none, none, none, none, none, none, none⟩, rfl, Nat.zero_le _, .nil, hcd1, hcd2, hcd3, S⟩ ?_) ?_ (fun _ _ (x : False) => x.elim)
  · clear S
    rintro k' s ⟨i, y, rfl, hil, hT, hc1, hc2, hc3, S⟩
    obtain ⟨hi', pvs, pk, ta, o1, o2, o3, c1, c2, c3, a1, a2, a3, a4, a5, a6⟩ := y
    dsimp only at hT hc1 hc2 hc3 S
    by_cases hlt : i < parts.length
    · obtain ⟨p, hpi⟩ : ∃ p, parts[i]? = some p := ⟨_, List.getElem?_eq_getElem hlt⟩
      obtain ⟨hm, hpv, hpl⟩ := hp p (List.mem_of_getElem? hpi)
      obtain ⟨hw1, hw2⟩ := told_wid ht hm hpi
      have hlb : lenB p.1 ≤ 10 := by unfold lenB; split <;> (try split) <;> omega
      have hsz := size_le p.1 p.2.length
      have htm := told_mode ht hpi
      have htc := told_count ht hpi
      generalize hat : wid (allF (parts.take i)) = at0 at *
      repeat cell_call
      refine r_itePos (by omega) ?_
      repeat cell_call
      rename_i S
      refine taken_call S T hr.le (by got_up) hi hbs hz (by omega) (by omega) (by omega) (by omega) fun t s S => ?_
      rw [htm]
      repeat cell_call
      refine r_itePos (by omega) ?_
      repeat cell_call
      rename_i S
      refine taken_call S T hr.le (by got_up) hi hbs hz (by omega) (by omega) (by omega) (by omega) fun t s S => ?_
      rw [htm]
      repeat cell_call
      rename_i S
      refine r_notInList S (.n (.head _)) (IntsAre.cons _ _ (.cons _ _ (.cons _ _ .nil))) ?_
      have e : (!([1, 2, 4] : List Int).any fun x => x == (p.1 : Int)) = false := by rcases hm with h | h | h <;> rw [h] <;> rfl
      rw [e]
      have hho := headOf_int hm
      have hhd : headOf p.1 = 4 + lenB p.1 := rfl
      repeat cell_call
      rename_i S
      refine r_itemI S ?hs (.n (.head _)) (IntsAre.cons _ _ (.cons _ _ (.cons _ _ (.cons _ _ .nil)))) (by omega) (by simp only [List.length_cons, List.length_nil]; omega) (by omega) fun t => ?_
      case hs => kernel_rfl
      rw [hho]
      repeat cell_call
      refine r_iteNeg (by omega) ?_
      repeat cell_call
      rename_i S
      refine r_itemI S ?hs (.n (.head _)) (IntsAre.cons _ _ (.cons _ _ (.cons _ _ (.cons _ _ .nil)))) (by omega) (by simp only [List.length_cons, List.length_nil]; omega) (by omega) fun t => ?_
      case hs => kernel_rfl
      rw [widths hm]
      repeat cell_call
      rename_i S
      refine taken_call S T hr.le (by got_up) hi hbs hz (by omega) (by omega) (by omega) (by omega) fun t s S => ?_
      rw [htc]
      repeat cell_call
      rename_i S
      refine size_call S T hr.le hm (by omega) fun t s S => ?_
      repeat cell_call
      refine r_iteNeg (by omega) ?_
      repeat cell_call
      rename_i sg _ _ s S
      obtain ⟨hi2, hpr, hsub, S⟩ := St.regroup2 (hi := hi') [_, _, _, _] S
      have hsg0 := hpr _ (.head _)
      clear hpr
      have hT2 := hT.mono (n' := hi2) fun p _ hp => hsub p hp
      clear hsub
      refine x_assignT ?hs ?hw ?_
      case hw => kernel_rfl
      case hs => kernel_rfl
      repeat cell_call
      rename_i S
      refine r_itemI S ?hs (.n (.head _)) (IntsAre.cons _ _ (.cons _ _ (.cons _ _ (.cons _ _ .nil)))) (by omega) (by simp only [List.length_cons, List.length_nil]; omega) (by omega) fun t => ?_
      case hs => kernel_rfl
      rw [steps hm]
      repeat cell_call
      rename_i S
      refine r_itemI S ?hs (.n (.head _)) (IntsAre.cons _ _ (.cons _ _ (.cons _ _ (.cons _ _ .nil)))) (by omega) (by simp only [List.length_cons, List.length_nil]; omega) (by omega) fun t => ?_
      case hs => kernel_rfl
      rw [radix_int hm]
      repeat cell_call
      rename_i or2 _ hor2 _ _ _ _ _ s S
      obtain ⟨hi3, hpr, hsub, S⟩ := St.regroup2 (hi := hi2) [_, _, _] S
      clear hpr
      have hsg1 := hsub _ hsg0
      have hT3 := hT2.mono (n' := hi3) fun p _ hp => hsub p hp
      clear hsub hT2 hsg0
      have hst := step_ok (m := p.1)
      refine r_range3 S (by omega) (by omega) fun r tr1 tr2 tr3 s S => ?_
      repeat cell_call
      refine r_iterRange S (small_of (by omega) (by omega) (by omega)) (down_size hm p.2) fun it2 ob2' s hob2 S => ?_
      have hrt : (((at0 : Nat) : Int) + (4 + (lenB p.1 : Nat))) + ((wid ((flds p.1 p.2).take 0) : Nat) : Int) = ((at0 : Nat) : Int) + (4 + (lenB p.1 : Nat)) := by simp [wid]
      rw [← hrt] at S
      refine for_rule (X := TwY) (lF := fun v j z => [("words", some (.ref a)), ("parts", some (.ref pl)), ("at", some (.int (((at0 : Nat) : Int) + (4 + (lenB p.1 : Nat)) + ((wid ((flds p.1 p.2).take j) : Nat) : Int)) z.ta)), ("bits", some (.int (8 * (ns.length : Int)) tb)), ("mode", some (.int (p.1 : Nat) _)), ("width", z.aw), ("count", some (.int (p.2.length : Nat) _)), ("signs", some (.ref z.sg)), ("step", some (.int (stepOf p.1 : Nat) _)), ("left", v)])
        (cF := fun _ z => [(("value" : Str), L + 3, z.c1), ("many", L + 2, z.c2), ("radix", L + 1, some (.int (radixOf p.1 : Nat) _))]) (hi := fun _ z => z.hi) (lo := fun _ z => hi3 ++ (pl, listOf pvs.toArray pk) :: (L + 3, z.o1) :: (L + 2, z.o2) :: (L + 1, or2) :: n)
        (P := fun j z => (z.sg, listOf z.svs.toArray z.sk) ∈ z.hi ++ hi3 ∧ IntsAre z.svs ((p.2.take (stepOf p.1 * j)).map fun v => ((v : Nat) : Int)) ∧ z.o1.data = .cell z.c1 ∧ z.o2.data = .cell z.c2) ⟨[], sg, [], 0, _, o1, o2, c1, c2, _⟩ (iter_range hh _ _ _) hob2 S ⟨hsg1, .nil, hc1, hc2⟩ (fun _ _ _ _ => by tb_start) (fun _ _ _ _ _ _ => trivial) ?_ ?_
      · clear S hob2
        rintro j z ob v s hj ⟨hz1, hz2, hz3, hz4⟩ ⟨t, rfl⟩ hob S
        obtain ⟨zhi, zsg, zsv, zsk, zta, zo1, zo2, zc1, zc2, zaw⟩ := z
        dsimp only at hz1 hz2 hz3 hz4 S
        have hmn := many_int hm hj
        have hgl := grp_length p.1 p.2 j
        have htf := told_fld ht hpi hj
        rw [hat] at htf
        obtain ⟨hj1, hj2⟩ := wid_step hm hj
        obtain ⟨hrd1, hrd2⟩ := radix_ok hm
        have hgs := size_le p.1 (grp p.1 p.2 j).length
        have hgl3 : (grp p.1 p.2 j).length ≤ 3 := by omega
        have hgv : ∀ v ∈ grp p.1 p.2 j, v < radixOf p.1 := fun v hv => hpv v (List.mem_of_mem_drop (List.mem_of_mem_take hv))
        have hnl := numOf_lt hgv
        repeat cell_call
        rename_i om2 _ hom2 S
        rw [hmn] at S hom2 ⊢
        refine size_call S T hr.le hm (by omega) fun t s S => ?_
        repeat cell_call
        rename_i S
        refine taken_call S T hr.le (by got_up) hi hbs hz (by omega) (by omega) (by omega) (by omega) fun t s S => ?_
        rw [htf]
        repeat cell_call
        rename_i S
        refine r_powN S hrd1 hrd2 (by omega) fun t s S => ?_
        repeat cell_call
        refine r_iteNeg (by omega) ?_
        repeat cell_call
        refine x_comp (cl := [(("value" : Str), L + 3), ("radix", L + 1), ("many", L + 2)]) ?ha ?hcl ?hok ?hf ?_
        case ha => rfl
        case hcl => kernel_rfl
        case hok => kernel_rfl
        case hf => (intro _; kernel_rfl)
        repeat cell_call
        rename_i it3 ob4 s hob3 S
        have e0 : (((grp p.1 p.2 j).length : Nat) - 0 : Int).toNat = (grp p.1 p.2 j).length := by omega
        rw [e0] at hob3
        have nc4 : cellE ob4 = false := by unfold rangeItP at hob3; subst hob3; rfl
        refine' comp_enter (lc := [(("turn" : Str), none)]) S T ?hok ?hev ?hlc (List.Sublist.refl _) ?hcl ?hbody
        case hok => kernel_rfl
        case hev => kernel_rfl
        case hlc => simp
        case hcl =>
          intro q hq
          rcases List.mem_cons.mp hq with rfl | hq
          · kernel_rfl
          · rcases List.mem_cons.mp hq with rfl | hq
            · kernel_rfl
            · rcases List.mem_cons.mp hq with rfl | hq
              · kernel_rfl
              · cases hq
        case hbody =>
          intro g' C ac s S' T' ext'
          refine comp_rule (X := CeZ) (lF := fun _ z => [(("turn" : Str), z.a)]) (cc := _) (hi := fun _ z => [(ac, listOf z.vs.toArray z.ep)]) (lo := fun _ _ => _) (P := fun j2 z => IntsAre z.vs (((grp p.1 p.2 j).take j2).map fun v => ((v : Nat) : Int))) ⟨[], 0, none⟩ (iter_range hh 0 1 (grp p.1 p.2 j).length) (fun s i ob Q E h1 h2 h3 => self_range s i ob Q E h1 h2 h3) hob3 S' .nil ?ht (fun _ _ _ _ _ => trivial) ?_ ?_
          case ht => (intro _; rfl)
          · rintro j2 z ob v s hj2 hPz ⟨t, rfl⟩ hob S
            rw [List.cons_append, List.nil_append] at S
            have e1 : (0 + (j2 : Int) * 1) = j2 := by omega
            rw [e1]
            have hPz : IntsAre z.vs _ := hPz
            have ee : (((grp p.1 p.2 j).length : Nat) : Int) - 1 - (j2 : Nat) = (((grp p.1 p.2 j).length - 1 - j2 : Nat) : Int) := by omega
            obtain ⟨hq1, hq2⟩ := powr_small (e := (grp p.1 p.2 j).length - 1 - j2) hrd1 hrd2 (by omega)
            have hln : (((grp p.1 p.2 j).take j2).map fun v => ((v : Nat) : Int)).length ≤ 1000 := by rw [List.length_map, List.length_take]; omega
            obtain ⟨dg, hdg⟩ : ∃ dg, (grp p.1 p.2 j)[j2]? = some dg := ⟨_, List.getElem?_eq_getElem hj2⟩
            have hdv := digit_at hgv hdg
            repeat cell_call
            rw [List.forIn_nil]
            refine wpAny_pure (r_ifT rfl ?_)
            repeat cell_call
            rename_i S
            rw [ee]
            refine r_powN S hrd1 hrd2 (by omega) fun t s S => ?_
            refine r_fdiv S hq2 (pylong_small hq1) fun t s S => ?_
            repeat cell_call
            rename_i vs2 s hi2' S
            rw [digit_int (by omega), hdv] at hi2'
            refine ⟨⟨vs2, _, _⟩, ?_, S⟩
            show IntsAre vs2 _
            rw [List.take_add_one, hdg, List.map_append]
            exact hi2'
          · intro z s hPz S
            obtain ⟨wvs, wep, wa⟩ := z
            have hPz : IntsAre wvs _ := hPz
            rw [List.take_of_length_le (Nat.le_refl _)] at hPz
            refine ⟨_, _, _, S, .gone nc4 (.new .refl), fun s S => ?_⟩
            simp only [List.cons_append, List.nil_append] at S
            have hzl := hz2.length
            have hwl := hPz.length
            rw [List.length_map] at hwl
            rw [List.length_map, List.length_take] at hzl
            refine' r_addL S (.n ?m1) (.n (.head _)) ?m2 ?m3
            case m1 =>
              rcases List.mem_append.mp hz1 with hq | hq
              · exact .tail _ (List.mem_append_left _ hq)
              · exact .tail _ (List.mem_append_right _ (.tail _ (List.mem_append_left _ hq)))
            case m2 => omega
            intro D s S
            repeat cell_call
            rename_i S
            have e5 : (((at0 : Nat) : Int) + (4 + (lenB p.1 : Nat)) + ((wid ((flds p.1 p.2).take j) : Nat) : Int)) + ((sizeOf p.1 (grp p.1 p.2 j).length : Nat) : Int) = ((at0 : Nat) : Int) + (4 + (lenB p.1 : Nat)) + ((wid ((flds p.1 p.2).take (j + 1)) : Nat) : Int) := by rw [hj1]; push_cast; omega
            rw [e5] at S
            simp only [← List.cons_append, ← List.append_assoc] at S
            simp only [List.append_assoc] at S
            refine' ⟨⟨(D, listOf (zsv ++ wvs).toArray 0) :: (ac, listOf wvs.toArray wep) :: zhi, D, zsv ++ wvs, 0, _, _, _, _, _, _⟩, _, ⟨.head _, ?z1, ?z2, ?z3⟩, ?zs⟩
            case zs => exact S
            case z1 =>
              show IntsAre (zsv ++ wvs) _
              rw [vals_take, List.map_append]
              exact hz2.append hPz
            case z2 => assumption
            case z3 => assumption
      · rintro v z s ⟨hz1, hz2, hz3, hz4⟩ S
        obtain ⟨zhi, zsg, zsv, zsk, zta, zo1, zo2, zc1, zc2, zaw⟩ := z
        dsimp only at hz1 hz2 hz3 hz4 S
        have hfl : (flds p.1 p.2).length = nGrp p.1 p.2 := by simp [flds]
        rw [List.take_of_length_le (by rw [hfl]; exact Nat.le_refl _), wid_flds hm] at S
        rw [List.take_of_length_le (ngrp_all hm)] at hz2
        have hpl : pvs.length ≤ 10 := by have := hT.length; rw [List.length_take] at this; omega
        have hvz : zsv.length = p.2.length := by rw [hz2.length, List.length_map]
        have e7 : (((at0 : Nat) : Int) + (4 + (lenB p.1 : Nat))) + ((sizeOf p.1 p.2.length : Nat) : Int) = ((wid (allF (parts.take (i + 1))) : Nat) : Int) := by omega
        rw [e7] at S
        have hgot : Has g (zhi ++ (hi3 ++ (pl, listOf pvs.toArray pk) :: (L + 3, zo1) :: (L + 2, zo2) :: (L + 1, or2) :: n)) zsg (listOf zsv.toArray zsk) := .n (by
          rcases List.mem_append.mp hz1 with hq | hq
          · exact List.mem_append_left _ hq
          · exact List.mem_append_right _ (List.mem_append_left _ hq))
        repeat cell_call
        refine r_iteD (fun h4 => ?_) (fun h4 => ?_)
        · have h4' : p.1 = 4 := by omega
          repeat cell_call
          rename_i S
          refine r_bytes hh S hgot hz2 ?_ (by rw [List.length_map]; omega) fun bb tb s hbb S => ?_
          · intro y hy
            obtain ⟨v, hv', rfl⟩ := List.mem_map.mp hy
            have := hpv v hv'
            rw [h4'] at this
            have e : radixOf 4 = 256 := rfl
            omega
          have hbb : KBw.bInts bb = octs p.1 p.2 := by rw [hbb, h4', octs4]
          repeat cell_call
          rename_i tt _ _ s S
          simp only [← List.cons_append, ← List.append_assoc] at S
          show ∃ m, _
          refine' ⟨parts.length - (i + 1), by omega, i + 1, ⟨_, pvs ++ [.ref tt], _, _, _, _, _, _, _, _, _, _, _, _, _, _⟩, rfl, by omega, ?zt, ?y1, ?y2, ?y3, ?zs⟩
          case zs => exact S
          case y1 => exact hz3
          case y2 => exact hz4
          case y3 => exact hor2
          case zt =>
            show TupsAre _ (pvs ++ _) _
            rw [List.take_add_one, hpi]
            exact (hT3.mono fun p _ hp => by simp [hp]).append (.cons ⟨tt, _, bb, _, rfl, .head _, hbb⟩ .nil)
        · have h4' : p.1 ≠ 4 := by omega
          repeat cell_call
          refine x_comp (cl := []) ?ha ?hcl ?hok ?hf ?_
          case ha => rfl
          case hcl => kernel_rfl
          case hok => kernel_rfl
          case hf => (intro _; kernel_rfl)
          repeat cell_call
          rename_i S
          refine r_iterList S hgot fun it3 ob4 s hob3 S => ?_
          refine' comp_enter (lc := [(("value" : Str), none)]) (cc := []) S T ?hok ?hev ?hlc (List.nil_sublist _) ?hcl ?hbody
          case hok => kernel_rfl
          case hev => kernel_rfl
          case hlc => simp
          case hcl => simp
          case hbody =>
            intro g'' C2 ac2 s S' T'' ext''
            have G' := evg_st S' ["ord", "_law_signs"] (by kernel_rfl) rfl rfl
            refine comp_rule (X := CeZ) (lF := fun _ z => [(("value" : Str), z.a)]) (cc := []) (hi := fun _ z => [(ac2, listOf z.vs.toArray z.ep)]) (lo := fun _ _ => _) (P := fun j z => IntsAre z.vs ((octs p.1 p.2).take j)) ⟨[], 0, none⟩ (iter_list hh zsv) (fun s i ob Q E h1 h2 h3 => self_list s i ob Q E h1 h2 h3) hob3 S' .nil ?ht ?hn ?_ ?_
            case ht => (intro _; rfl)
            case hn => (intro ob i y s S; exact S.isList (hgot.to ext''  |>.cons.cons))
            · rintro j z ob v s hj hPj hv hob S
              rw [List.cons_append, List.nil_append] at S
              have hPj : IntsAre z.vs _ := hPj
              obtain ⟨v', tv, hv', rfl⟩ := ints_at hz2 hv
              rw [List.getElem?_map, Option.map_eq_some_iff] at hv'
              obtain ⟨vn, hvn, rfl⟩ := hv'
              have hv45 : vn < 45 := by
                have := hpv vn (List.mem_of_getElem? hvn)
                have e : radixOf p.1 ≤ 45 := by rcases hm with h | h | h <;> rw [h] <;> first | decide | exact absurd h h4'
                omega
              have hln : ((octs p.1 p.2).take j).length ≤ 1000 := by rw [List.length_take, octs_len]; omega
              repeat cell_call
              rw [List.forIn_nil]
              refine wpAny_pure (r_ifT rfl ?_)
              repeat cell_call
              rename_i S
              refine' r_strItem S ?hs ?h0 ?h1 ?hc ?hk
              case hs => kernel_rfl
              case h0 => omega
              case h1 => omega
              case hc => rw [Int.toNat_natCast]; exact signs_at vn hv45
              intro t s S
              repeat cell_call
              rename_i S
              refine r_ord S fun t s S => ?_
              repeat cell_call
              rename_i vs2 s hi2' S
              refine ⟨⟨vs2, _, _⟩, ?_, S⟩
              show IntsAre vs2 _
              rw [List.take_add_one]
              have : (octs p.1 p.2)[j]? = some ((signTab.getD vn 0 : Nat) : Int) := by
                rw [octs_no4 h4', List.getElem?_map, hvn]
                rfl
              rw [this]
              exact hi2'
            · intro z s hPj S
              obtain ⟨wvs, wep, wa⟩ := z
              have hPj : IntsAre wvs _ := hPj
              rw [List.take_of_length_le (by rw [octs_len, hvz]; exact Nat.le_refl _)] at hPj
              refine ⟨_, _, _, S, .gone (cellE_of_fields hob3.2) (.new .refl), fun s S => ?_⟩
              simp only [List.cons_append, List.nil_append] at S
              repeat cell_call
              rename_i S
              refine r_bytes hh S (.n (by tb_rel)) hPj ?_ (by rw [octs_len]; omega) fun bb tb s hbb S => ?_
              · intro y hy
                rw [octs_no4 h4'] at hy
                obtain ⟨v, hv', rfl⟩ := List.mem_map.mp hy
                have h1 := hpv v hv'
                have e : radixOf p.1 ≤ 45 := by rcases hm with h | h | h <;> rw [h] <;> first | decide | exact absurd h h4'
                have := sign_lt v (by omega)
                omega
              repeat cell_call
              rename_i tt _ _ s S
              simp only [← List.cons_append, ← List.append_assoc] at S
              show ∃ m, _
              refine' ⟨parts.length - (i + 1), by omega, i + 1, ⟨_, pvs ++ [.ref tt], _, _, _, _, _, _, _, _, _, _, _, _, _, _⟩, rfl, by omega, ?zt, ?y1, ?y2, ?y3, ?zs⟩
              case zs => exact S
              case y1 => exact hz3
              case y2 => exact hz4
              case y3 => exact hor2
              case zt =>
                show TupsAre _ (pvs ++ _) _
                rw [List.take_add_one, hpi]
                exact (hT3.mono fun p _ hp => by simp [hp]).append (.cons ⟨tt, _, bb, _, rfl, .head _, hbb⟩ .nil)
    · obtain rfl : i = parts.length := by omega
      rw [List.take_of_length_le (Nat.le_refl _)] at hT S
      have hw := ht.1
      repeat cell_call
      refine r_iteD (fun h4 => ?_) (fun h4 => ?_)
      · have h0 : takenOf ns (wid (allF parts) : Nat) 4 = 0 := hend.resolve_left (by omega)
        repeat cell_call
        rename_i S
        refine taken_call S T hr.le (by got_up) hi hbs hz (by omega) (by omega) (by omega) (by omega) fun t s S => ?_
        rw [h0]
        repeat cell_call
        refine r_iteNeg (by simp) ?_
        repeat cell_call
        rename_i S
        exact ⟨rfl, ⟨hi', pvs, pk, ta, o1, o2, o3, c1, c2, c3, a1, a2, a3, a4, a5, a6⟩, hT, S⟩
      · repeat cell_call
        rename_i S
        exact ⟨rfl, ⟨hi', pvs, pk, ta, o1, o2, o3, c1, c2, c3, a1, a2, a3, a4, a5, a6⟩, hT, S⟩
  · rintro fl s ⟨rfl, y, hT, S⟩
    repeat cell_call
    rename_i tt s S
    refine back_ (n'' := (tt, tupOf [.ref pl, .int (wid (allF parts) : Nat) y.ta]) :: (y.hi ++ (pl, listOf y.pvs.toArray y.pk) :: n)) S (.cons_cons _ (List.Sublist.append (List.Sublist.refl _) (.cons_cons _ (.cons _ (.cons _ (.cons _ (List.Sublist.refl _))))))) (.new (.newApp _ (.new .refl))) fun S' => ?_
    exact h ((tt, tupOf [.ref pl, .int (wid (allF parts) : Nat) y.ta]) :: (y.hi ++ [(pl, listOf y.pvs.toArray y.pk)])) pl tt y.ta y.pvs y.pk _ (hT.mono fun p _ hp => .tail _ (List.mem_append_left _ hp)) (by simp) (.head _) (by simpa using S')
end
end
section
open PySem PySem.W PySem.Calls PyProof.Rows
local macro_rules | `(tactic| kt_eqs) => `(tactic| first | with_reducible exact kp549 _ | exact kp549 _)
local macro_rules | `(tactic| kt_ors) => `(tactic| first | with_reducible exact gl_create_data _ | exact gl_create_data _)
section
variable {mg mb : Str → Option Value} {prog : Program} {w : World} {A : Around} {E : Value → Shared → Prop} {o : OsP} {B : Heap} {env : Env} {l l' : Vars} {c c' : Cels} {n n' pre post : Ledg} {s s' : Shared} {R : Result → Shared → Prop}
theorem made_call {A₀ : Around} {outer : List Env} {o₀ : OsState} {ver : Nat} {lvl : Int} {u1 u2 : Tok} {dl : Addr} {rows : List Value} {kd : Nat} {parts : List (Nat × List Nat)} {gs : Grps} {Q : Value → Shared → Prop} (S : St (osB o₀) B env l c n s) (TG : BaseG (KK w.params) mg mb B)
    (hfk : env.scope.kind = .function) (hff : env.frame = some env.locals) (K₀ : Below A₀ B outer B) (hr : Room (A₀.deeper env) 141 1410) (Lc : CodeLed B n 548 544)
    (hk : KindOk w.params ver lvl gs) (hver : 1 ≤ ver ∧ ver < 10) (hdl : (dl, listOf rows.toArray kd) ∈ n) (hrows : RowsAre w.params n rows parts) (hparts : ∀ p ∈ parts, PartOk p) (hz : parts.length ≤ 8) (hlm : limitOf gs ≤ 800) {genOf : Nat → List Int} {f : Nat} (hf : f ≤ 40) (hgz : (blksOf gs).length ≤ 10)
    (hgb : ∀ b ∈ blksOf gs, b.2 ≤ b.1 ∧ b.1 ≤ 100 ∧ 1 ≤ b.2 ∧ GenOk w.params (b.1 - b.2) (genOf (b.1 - b.2)))
    (hmod : wid (allF parts) ≤ limitOf gs → ∀ i b, (blksOf gs)[i]? = some b → ModOk f (rawOf (genOf (b.1 - b.2)) (dcOf (putAll [] 0 (allBits (limitOf gs) parts)) (offs ((blksOf gs).take i)) b.2)) (genOf (b.1 - b.2)))
    (h : wid (allF parts) ≤ limitOf gs → ∀ add out vs' k ps s', TriplesOk ps.toList → (out, listOf vs'.toArray k) ∈ add → IntsAre vs' (cbOut f genOf (putAll [] 0 (allBits (limitOf gs) parts)) (blksOf gs)) → St (osB o₀) B env l c (add ++ putAt n 544 (recOb ps)) s' → Q (.ref out) s')
    (h2 : limitOf gs < wid (allF parts) → ∀ t ps s', TriplesOk ps.toList → St (osB o₀) B env l c (putAt n 544 (recOb ps)) s' → Q (.str "refused" t) s') :
    wpAny (model prog w) (A₀.deeper env) (call (.ref 589) [.int ver u1, .int lvl u2, .ref dl]) Q E s := by
  obtain ⟨ps₀, hm₀, _⟩ := id Lc.2
  have hKC : ∀ ps, KeepsC n (putAt n 544 (recOb ps)) := fun ps => putAt_keepsC hm₀ rfl S.ord
  have K₁ := below_ghost K₀ S hfk hff
  have S₀ := S
  have TG₀ := TG
  refine wpAny_call (fn_callZ (binds := [("version", .int ver u1), ("level", .int lvl u2), ("rows", .ref dl)]) (l' := [("version", some (.int ver u1)), ("level", some (.int lvl u2)), ("rows", some (.ref dl))]) S TG.toBase hr.dep (fs589.2 _) (cd589 _) rfl ok589 (BindsTo.of_eq (by kernel_rfl)) (by kernel_rfl) ?_)
  clear S
  intro g L cls s hcl S T ext hg
  rw [← hg] at K₁
  have hst := K₁.stack
  have hr : Room ((A₀.deeper env).deeper (envF fs589.1 L 589)) 140 1407 := hr.deeper
  have hce : celsOf fs589.1 L [("version", .int ver u1), ("level", .int lvl u2), ("rows", .ref dl)] = [] := by kernel_rfl
  rw [hce] at S hcl
  cases hcl
  rw [List.nil_append] at S
  have TG := TG.keeps ext
  have Lc := Lc.to ext
  have G := EvG.of (env := envF fs589.1 L 589) gn589 rfl rfl
  have hh := hr.handled
  have eE : envF fs589.1 L 589 = envOf "_law_made" fs589.1.scope L 589 fs589.1.code := by kernel_rfl
  have hK2 : ∀ ps : Array Value, KeepsC n (putAt n 544 (recOb ps)) := hKC
  refine wpAny_mono (E := fun _ _ => False) (x_cons (wpAny_Try_except ?_)) (fun _ _ x => x) (fun _ _ x => x.elim)
  repeat cell_call
  rename_i S
  have K₂ := below_ghost K₁ S rfl rfl
  have S₂ := S
  refine wpAny_call (cd_spec (base := B) (outer := envF fs589.1 L 589 :: env :: outer) (genOf := genOf) (f := f) S TG hr.le K₂ Lc hk hver hdl hrows hparts hz hlm hf hgz hgb hmod ?_ ?_)
  · intro hfit add out vs' k ps s' hps hm hi S
    refine x_ret (x_ret ?_)
    have hb := (S₀.ghost (R := fun r s' => match r with | .ok (.ret v) => Q v s' | _ => False) TG₀.toBase).2 (.ref out) s'
    rw [← hg] at hb
    exact hb (back_ S (List.Sublist.refl _) (.newApp _ (hKC ps)) fun S' => h hfit add out vs' k ps s' hps hm hi S')
  · intro hov e t vs ps s' h' hps hR hup hos
    obtain ⟨loose, TR⟩ := topRead_ofB (TG₀.toBase) prog
    show wpAny _ _ (noteFrame (.ref e) _) _ _ _
    rw [eE]
    refine catch_own (x := "DataOverflowError") (C := 398) (bmB := [.type "Exception", .type "BaseException", .type "object"]) (newId := "Exception.__new__") (m := lk [("version", some (.int ver u1)), ("level", some (.int lvl u2)), ("rows", some (.ref dl))]) hst ?_ hup (by rw [← eE]; exact hR) TG₀.kin TR (by kernel_rfl) (by kernel_rfl) (by decide) rfl (by kernel_rfl) (by decide) fun h'' hst'' hup'' hnw => ?_
    · refine ⟨S₂.nsHid, fun b ob q => S₂.stayHid b ob (ext b ob q), ?_⟩
      have h1 : (hideAll _ (n.map (·.1))).Ns env.locals (lk l) := S₀.nsHid
      rw [← hg] at h1
      obtain ⟨_, _, _, h2, _⟩ := h1
      exact Nat.le_trans (Nat.le_trans S₀.fr.above (Nat.le_of_lt (Heap.lt_size h2))) S₂.fr.above
    · refine x_cons (x_retE (wpAny_Constant_str (x_ret (x_ret ?_))))
      have h1 : (hideAll _ (n.map (·.1))).Ns env.locals (lk l) := S₀.nsHid
      rw [← hg] at h1
      exact h2 hov _ ps _ hps (S₀.caught (s' := { s' with toks := _ }) hst'' (hup''.ns (h1.keeps fun b ob q => S₂.stayHid b ob q)) hnw (putAt_adr _ _ _) (hKC ps) hos)
end
end
section
open PySem PySem.W PySem.Calls PyProof.Rows
/-- the number that bits stand for, the high ones first -/
def numB (l : List Bool) : Nat := l.foldl (fun a b => 2 * a + b.toNat) 0
theorem numB_fold : ∀ (l : List Bool) (a : Nat), l.foldl (fun a b => 2 * a + b.toNat) a = a * 2 ^ l.length + numB l
  | [], a => by simp [numB]
  | b :: l, a => by
    unfold numB
    rw [List.foldl_cons, List.foldl_cons, numB_fold l, numB_fold l (2 * 0 + b.toNat), List.length_cons, Nat.pow_succ]
    rw [Nat.add_mul, Nat.mul_comm 2 a, Nat.mul_assoc, Nat.mul_comm 2 (2 ^ l.length), Nat.mul_zero, Nat.zero_add]
    omega
theorem numB_append (a b : List Bool) : numB (a ++ b) = numB a * 2 ^ b.length + numB b := by
  show (a ++ b).foldl _ 0 = _
  rw [List.foldl_append, numB_fold]; rfl
theorem numB_snoc (l : List Bool) (b : Bool) : numB (l ++ [b]) = 2 * numB l + b.toNat := by simp [numB]
theorem numB_lt : ∀ l : List Bool, numB l < 2 ^ l.length
  | [] => by decide
  | b :: l => by
    have h := numB_lt l
    have e : numB (b :: l) = b.toNat * 2 ^ l.length + numB l := by
      show l.foldl _ (2 * 0 + b.toNat) = _
      rw [numB_fold, Nat.mul_zero, Nat.zero_add]
    rw [e, List.length_cons, Nat.pow_succ]
    cases b <;> simp <;> omega
theorem numB_part {l : List Bool} {a w : Nat} (h : a + w ≤ l.length) : numB l / 2 ^ (l.length - a - w) % 2 ^ w = numB ((l.drop a).take w) := by
  have e : l = l.take a ++ ((l.drop a).take w ++ (l.drop a).drop w) := by rw [List.take_append_drop, List.take_append_drop]
  have l2 : ((l.drop a).drop w).length = l.length - a - w := by simp; omega
  have l1 : ((l.drop a).take w).length = w := by simp; omega
  have q2 := numB_lt ((l.drop a).drop w)
  have q1 := numB_lt ((l.drop a).take w)
  rw [l2] at q2
  rw [l1] at q1
  conv => lhs; rw [e, numB_append, numB_append]
  rw [List.length_append, l2, l1]
  conv => lhs; lhs; rhs; rw [← e]
  have e3 : numB (l.take a) * 2 ^ (w + (l.length - a - w)) = 2 ^ (l.length - a - w) * (numB (l.take a) * 2 ^ w) := by
    rw [Nat.pow_add, ← Nat.mul_assoc, Nat.mul_comm]
  rw [e3, Nat.mul_add_div (Nat.pow_pos (by decide)), Nat.mul_comm (numB ((l.drop a).take w)), Nat.mul_add_div (Nat.pow_pos (by decide)), Nat.div_eq_of_lt q2, Nat.add_zero, Nat.mul_comm, Nat.mul_add_mod, Nat.mod_eq_of_lt q1]
theorem bitAt_nat {n k i : Nat} (h : i < k) : bitAt (n : Int) k i = decide (n / 2 ^ (k - 1 - i) % 2 = 1) := by
  unfold bitAt
  rw [bitAnd_m1]
  have e : ((k : Int) - i - 1).toNat = k - 1 - i := by omega
  rw [e, Int.fdiv_eq_ediv_of_nonneg _ (Int.le_of_lt (Int.pow_pos (by decide)))]
  have e2 : (n : Int) / 2 ^ (k - 1 - i) % 2 = ((n / 2 ^ (k - 1 - i) % 2 : Nat) : Int) := by push_cast; rfl
  rw [e2]
  apply decide_eq_decide.mpr
  omega
theorem bitsOf_succ (n k : Nat) : bitsOf (n : Int) (k + 1) = bitsOf ((n / 2 : Nat) : Int) k ++ [decide (n % 2 = 1)] := by
  unfold bitsOf
  rw [List.range_succ, List.map_append]
  congr 1
  · refine List.map_congr_left fun i hi => ?_
    have hi := List.mem_range.mp hi
    rw [bitAt_nat (by omega), bitAt_nat hi]
    have e : k + 1 - 1 - i = 1 + (k - 1 - i) := by omega
    rw [e, Nat.pow_add, Nat.pow_one, Nat.div_div_eq_div_mul]
  · show [bitAt (n : Int) (k + 1) k] = _
    rw [bitAt_nat (by omega)]
    have e : k + 1 - 1 - k = 0 := by omega
    rw [e, Nat.pow_zero, Nat.div_one]
theorem numB_bits : ∀ (k n : Nat), numB (bitsOf (n : Int) k) = n % 2 ^ k
  | 0, n => by simp [bitsOf, numB, Nat.mod_one]
  | k + 1, n => by
    rw [bitsOf_succ, numB_snoc, numB_bits k, Nat.pow_succ, Nat.mul_comm (2 ^ k) 2, Nat.mod_mul]
    have : (decide (n % 2 = 1)).toNat = n % 2 := by
      rcases Nat.mod_two_eq_zero_or_one n with h | h <;> rw [h] <;> rfl
    rw [this]; omega
theorem numB_zero : ∀ {l : List Bool}, numB l = 0 → ∀ b ∈ l, b = false
  | [], _, _, h => by cases h
  | b :: l, h, c, hc => by
    have e : numB (b :: l) = b.toNat * 2 ^ l.length + numB l := by
      show l.foldl _ (2 * 0 + b.toNat) = _
      rw [numB_fold, Nat.mul_zero, Nat.zero_add]
    have hp : 0 < 2 ^ l.length := Nat.pow_pos (by decide)
    rw [e] at h
    have hb : b = false := by
      cases b
      · rfl
      · simp at h
    rcases List.mem_cons.mp hc with rfl | hc
    · exact hb
    · exact numB_zero (by omega) c hc
theorem numB_falses : ∀ k, numB (List.replicate k false) = 0
  | 0 => rfl
  | k + 1 => by rw [List.replicate_succ', numB_snoc, numB_falses k]; rfl
/-- bits in eights -/
def pack : Nat → List Bool → List Int
  | 0, _ => []
  | k + 1, bits => (numB (bits.take 8) : Int) :: pack k (bits.drop 8)
theorem pack_length : ∀ (k : Nat) (bits : List Bool), (pack k bits).length = k
  | 0, _ => rfl
  | k + 1, bits => by simp [pack, pack_length k]
theorem pack_byte : ∀ (k : Nat) (bits : List Bool), ∀ x ∈ pack k bits, 0 ≤ x ∧ x < 256
  | 0, _, x, h => by cases h
  | k + 1, bits, x, h => by
    rcases List.mem_cons.mp h with rfl | h
    · have h1 := numB_lt (bits.take 8)
      have h2 : (bits.take 8).length ≤ 8 := by rw [List.length_take]; omega
      have h3 : 2 ^ (bits.take 8).length ≤ 2 ^ 8 := Nat.pow_le_pow_right (by decide) h2
      have h4 : (2 : Nat) ^ 8 = 256 := by decide
      omega
    · exact pack_byte k _ x h
theorem putL_new (ns : List Int) (b : Bool) : putL ns (8 * (ns.length : Int)) b = ns ++ [if b then 128 else 0] := by
  have e1 : (8 * (ns.length : Int)) / 8 = ns.length := by omega
  have e2 : (8 * (ns.length : Int)) % 8 = 0 := by omega
  unfold putL putL1
  rw [e1, e2, if_pos (Int.le_refl _)]
  have e3 : ((ns.length : Nat) : Int).toNat = ns.length := by omega
  rw [e3]
  cases b
  · simp
  · simp; decide
theorem putL_old (ns : List Int) (x : Int) (r : Nat) (h : 1 ≤ r) (h8 : r < 8) (b : Bool) : putL (ns ++ [x]) (8 * (ns.length : Int) + r) b = ns ++ [if b then Builtin.bitOr x (Int.fdiv 128 (2 ^ r)) else x] := by
  have e1 : (8 * (ns.length : Int) + r) / 8 = ns.length := by omega
  have e2 : (8 * (ns.length : Int) + r) % 8 = r := by omega
  have hneg : ¬ (((ns ++ [x]).length : Int) ≤ ns.length) := by rw [List.length_append, List.length_singleton]; omega
  have hp : putL1 (ns ++ [x]) (8 * (ns.length : Int) + r) = ns ++ [x] := by unfold putL1; rw [e1, if_neg hneg]
  have e3 : ((ns.length : Nat) : Int).toNat = ns.length := by omega
  have e4 : ((r : Nat) : Int).toNat = r := by omega
  unfold putL
  rw [hp, e1, e2, e3, e4]
  cases b
  · simp
  · simp
def byteOf (b0 b1 b2 b3 b4 b5 b6 b7 : Bool) : Int :=
  let x0 : Int := if b0 then 128 else 0
  let x1 := if b1 then Builtin.bitOr x0 (Int.fdiv 128 (2 ^ 1)) else x0
  let x2 := if b2 then Builtin.bitOr x1 (Int.fdiv 128 (2 ^ 2)) else x1
  let x3 := if b3 then Builtin.bitOr x2 (Int.fdiv 128 (2 ^ 3)) else x2
  let x4 := if b4 then Builtin.bitOr x3 (Int.fdiv 128 (2 ^ 4)) else x3
  let x5 := if b5 then Builtin.bitOr x4 (Int.fdiv 128 (2 ^ 5)) else x4
  let x6 := if b6 then Builtin.bitOr x5 (Int.fdiv 128 (2 ^ 6)) else x5
  if b7 then Builtin.bitOr x6 (Int.fdiv 128 (2 ^ 7)) else x6
theorem byteOf_num : ∀ b0 b1 b2 b3 b4 b5 b6 b7 : Bool, byteOf b0 b1 b2 b3 b4 b5 b6 b7 = (numB [b0, b1, b2, b3, b4, b5, b6, b7] : Int) := by decide +kernel
theorem putAll_eight (ns : List Int) (b0 b1 b2 b3 b4 b5 b6 b7 : Bool) : putAll ns (8 * (ns.length : Int)) [b0, b1, b2, b3, b4, b5, b6, b7] = ns ++ [(numB [b0, b1, b2, b3, b4, b5, b6, b7] : Int)] := by
  rw [← byteOf_num]
  simp only [putAll]
  have s1 : 8 * (ns.length : Int) + 1 + 1 = 8 * (ns.length : Int) + (2 : Nat) := by omega
  have s2 : 8 * (ns.length : Int) + (2 : Nat) + 1 = 8 * (ns.length : Int) + (3 : Nat) := by omega
  have s3 : 8 * (ns.length : Int) + (3 : Nat) + 1 = 8 * (ns.length : Int) + (4 : Nat) := by omega
  have s4 : 8 * (ns.length : Int) + (4 : Nat) + 1 = 8 * (ns.length : Int) + (5 : Nat) := by omega
  have s5 : 8 * (ns.length : Int) + (5 : Nat) + 1 = 8 * (ns.length : Int) + (6 : Nat) := by omega
  have s6 : 8 * (ns.length : Int) + (6 : Nat) + 1 = 8 * (ns.length : Int) + (7 : Nat) := by omega
  have s0 : 8 * (ns.length : Int) + 1 = 8 * (ns.length : Int) + (1 : Nat) := by omega
  rw [s1, s2, s3, s4, s5, s6, s0, putL_new, putL_old _ _ 1 (by decide) (by decide), putL_old _ _ 2 (by decide) (by decide), putL_old _ _ 3 (by decide) (by decide), putL_old _ _ 4 (by decide) (by decide), putL_old _ _ 5 (by decide) (by decide), putL_old _ _ 6 (by decide) (by decide), putL_old _ _ 7 (by decide) (by decide)]
  rfl
theorem eight_of {l : List Bool} (h : l.length = 8) : ∃ b0 b1 b2 b3 b4 b5 b6 b7, l = [b0, b1, b2, b3, b4, b5, b6, b7] := by
  match l, h with
  | [b0, b1, b2, b3, b4, b5, b6, b7], _ => exact ⟨b0, b1, b2, b3, b4, b5, b6, b7, rfl⟩
theorem putAll_pack : ∀ (k : Nat) (ns : List Int) (bits : List Bool), bits.length = 8 * k → putAll ns (8 * (ns.length : Int)) bits = ns ++ pack k bits
  | 0, ns, bits, h => by
    have : bits = [] := List.eq_nil_of_length_eq_zero (by omega)
    subst this
    simp [putAll, pack]
  | k + 1, ns, bits, h => by
    obtain ⟨b0, b1, b2, b3, b4, b5, b6, b7, he⟩ := eight_of (l := bits.take 8) (by simp; omega)
    conv => lhs; rw [← List.take_append_drop 8 bits, putAll_append, he, putAll_eight]
    rw [pack, he]
    have e : 8 * (ns.length : Int) + ((([b0, b1, b2, b3, b4, b5, b6, b7] : List Bool).length : Nat) : Int) = 8 * (((ns ++ [(numB [b0, b1, b2, b3, b4, b5, b6, b7] : Int)]).length : Nat) : Int) := by simp; omega
    rw [e, putAll_pack k _ _ (by simp; omega), List.append_assoc]
    rfl
theorem value_cons (x : Int) (xs : List Int) : bigN (x :: xs) = x * 256 ^ xs.length + bigN xs := by
  have key : ∀ (l : List Int) (a : Int), l.foldl (fun a k => a * 256 + k) a = a * 256 ^ l.length + l.foldl (fun a k => a * 256 + k) 0 := by
    intro l
    induction l with
    | nil => intro a; simp
    | cons y l ih =>
      intro a
      rw [List.foldl_cons, List.foldl_cons, ih (a * 256 + y), ih (0 * 256 + y), List.length_cons, Int.pow_succ, Int.add_mul, Int.mul_assoc, Int.mul_comm 256 (256 ^ l.length), Int.zero_mul, Int.zero_add, Int.add_assoc]
  show (x :: xs).foldl _ 0 = _
  rw [List.foldl_cons, key xs (0 * 256 + x), Int.zero_mul, Int.zero_add]
  rfl
theorem bigN_pack : ∀ (k : Nat) (bits : List Bool), bits.length = 8 * k → bigN (pack k bits) = (numB bits : Nat)
  | 0, bits, h => by
    have : bits = [] := List.eq_nil_of_length_eq_zero (by omega)
    subst this; rfl
  | k + 1, bits, h => by
    rw [pack, value_cons, pack_length, bigN_pack k _ (by simp; omega)]
    conv => rhs; rw [← List.take_append_drop 8 bits, numB_append]
    have e : (bits.drop 8).length = 8 * k := by simp; omega
    rw [e, Nat.pow_mul]
    push_cast
    rfl
theorem taken_pack {k : Nat} {bits : List Bool} (h : bits.length = 8 * k) {a w : Nat} (hw : a + w ≤ 8 * k) : takenOf (pack k bits) (a : Nat) (w : Nat) = (numB ((bits.drop a).take w) : Nat) := by
  unfold takenOf
  rw [bigN_pack k bits h, pack_length]
  have e : (8 * (k : Int) - (a : Nat) - (w : Nat)).toNat = bits.length - a - w := by omega
  have e2 : ((w : Nat) : Int).toNat = w := by omega
  rw [e, e2, Int.one_mul, Int.fdiv_eq_ediv_of_nonneg _ (Int.le_of_lt (Int.pow_pos (by decide))), Int.fmod_eq_emod_of_nonneg _ (Int.le_of_lt (Int.pow_pos (by decide))), ← numB_part (l := bits) (a := a) (w := w) (by omega)]
  push_cast
  rfl
theorem pack_drop : ∀ (o k : Nat) (bits : List Bool), (pack k bits).drop o = pack (k - o) (bits.drop (8 * o))
  | 0, k, bits => by simp
  | o + 1, 0, bits => by simp [pack]
  | o + 1, k + 1, bits => by
    rw [pack, List.drop_succ_cons, pack_drop o k, List.drop_drop]
    congr 1
    · omega
    · congr 1; omega
theorem pack_take : ∀ (o k : Nat) (bits : List Bool), o ≤ k → (pack k bits).take o = pack o bits
  | 0, k, bits, _ => by simp [pack]
  | o + 1, 0, bits, h => by omega
  | o + 1, k + 1, bits, h => by
    rw [pack, pack, List.take_succ_cons, pack_take o k _ (by omega)]
theorem pack_eq : ∀ (k : Nat) (a b : List Bool), a.take (8 * k) = b.take (8 * k) → pack k a = pack k b
  | 0, _, _, _ => rfl
  | k + 1, a, b, h => by
    rw [pack, pack]
    have h1 : a.take 8 = b.take 8 := by
      have := congrArg (List.take 8) h
      rw [List.take_take, List.take_take] at this
      have e : min 8 (8 * (k + 1)) = 8 := by omega
      rw [e] at this; exact this
    have h2 : (a.drop 8).take (8 * k) = (b.drop 8).take (8 * k) := by
      have := congrArg (List.drop 8) h
      rw [List.drop_take, List.drop_take] at this
      have e : 8 * (k + 1) - 8 = 8 * k := by omega
      rw [e] at this; exact this
    rw [h1, pack_eq k _ _ h2]
theorem pack_zero : ∀ (k : Nat) (bits : List Bool), bits.length = 8 * k → (∀ x ∈ pack k bits, x = 0) → ∀ b ∈ bits, b = false
  | 0, bits, h, _, b, hb => by
    have : bits = [] := List.eq_nil_of_length_eq_zero (by omega)
    subst this; cases hb
  | k + 1, bits, h, hz, b, hb => by
    have h0 := hz _ (.head _)
    rw [← List.take_append_drop 8 bits] at hb
    rcases List.mem_append.mp hb with hb | hb
    · exact numB_zero (by omega) b hb
    · exact pack_zero k _ (by simp; omega) (fun x hx => hz x (.tail _ hx)) b hb
end
section
open PySem PySem.W PySem.Calls PyProof.Rows
/-- times alpha, in the field; powers of it -/
def xt (a : Nat) : Nat := (2 * a) ^^^ (if a.testBit 7 then 285 else 0)
def Ap : Nat → Nat → Nat
  | 0, a => a
  | r + 1, a => xt (Ap r a)
theorem two_xor (a b : Nat) : 2 * (a ^^^ b) = (2 * a) ^^^ (2 * b) := by
  apply Nat.eq_of_testBit_eq
  intro i
  rw [Nat.testBit_xor]
  cases i with
  | zero => simp [Nat.testBit_zero]
  | succ i => simp [Nat.testBit_succ, Nat.testBit_xor]
theorem xlc (a b c : Nat) : a ^^^ (b ^^^ c) = b ^^^ (a ^^^ c) := by rw [← Nat.xor_assoc, Nat.xor_comm a b, Nat.xor_assoc]
theorem xt_xor (a b : Nat) : xt (a ^^^ b) = xt a ^^^ xt b := by
  unfold xt
  rw [two_xor, Nat.testBit_xor]
  cases ha : a.testBit 7 <;> cases hb : b.testBit 7
  · simp
  · simp [Nat.xor_assoc]
  · simp only [Bool.xor_false, if_true, Bool.false_eq_true, if_false, Nat.xor_zero]
    rw [Nat.xor_assoc, Nat.xor_assoc, Nat.xor_comm 285]
  · simp only [Bool.xor_self, if_true, Bool.false_eq_true, if_false, Nat.xor_zero]
    rw [Nat.xor_assoc (2 * a), xlc 285, Nat.xor_self, Nat.xor_zero]
theorem Ap_xor : ∀ (r a b : Nat), Ap r (a ^^^ b) = Ap r a ^^^ Ap r b
  | 0, _, _ => rfl
  | r + 1, a, b => by unfold Ap; rw [Ap_xor r, xt_xor]
theorem Ap_add : ∀ (q r a : Nat), Ap (q + r) a = Ap q (Ap r a)
  | 0, r, a => by rw [Nat.zero_add]; rfl
  | q + 1, r, a => by rw [show q + 1 + r = (q + r) + 1 by omega]; show xt (Ap (q + r) a) = xt (Ap q (Ap r a)); rw [Ap_add q]
theorem Ap_comm (q r a : Nat) : Ap q (Ap r a) = Ap r (Ap q a) := by rw [← Ap_add, Nat.add_comm, Ap_add]
theorem Ap_zero : ∀ r, Ap r 0 = 0
  | 0 => rfl
  | r + 1 => by unfold Ap; rw [Ap_zero r]; decide
/-- the value of words at a power of alpha, the high ones first -/
def horA (r : Nat) (a : Nat) (xs : List Int) : Nat := xs.foldl (fun acc x => x.toNat ^^^ Ap r acc) a
def hor (r : Nat) (xs : List Int) : Nat := horA r 0 xs
theorem horA_split (r : Nat) : ∀ (xs : List Int) (a : Nat), horA r a xs = Ap (r * xs.length) a ^^^ hor r xs
  | [], a => by simp [horA, hor, Ap]
  | x :: xs, a => by
    have h1 := horA_split r xs (x.toNat ^^^ Ap r a)
    have h2 := horA_split r xs (x.toNat ^^^ Ap r 0)
    show horA r (x.toNat ^^^ Ap r a) xs = _ ^^^ horA r (x.toNat ^^^ Ap r 0) xs
    rw [h1, h2, Ap_zero, Nat.xor_zero, Ap_xor, ← Ap_add, List.length_cons, Nat.mul_succ, Nat.xor_comm (Ap (r * xs.length) x.toNat), Nat.xor_assoc]
theorem hor_append (r : Nat) (xs ys : List Int) : hor r (xs ++ ys) = Ap (r * ys.length) (hor r xs) ^^^ hor r ys := by
  show (xs ++ ys).foldl _ 0 = _
  rw [List.foldl_append]
  exact horA_split r ys _
theorem hor_cons0 (r : Nat) (xs : List Int) : hor r (0 :: xs) = hor r xs := by
  show horA r (0 ^^^ Ap r 0) xs = _
  rw [Ap_zero]; rfl
theorem hor_zeros (r : Nat) (xs : List Int) : ∀ k, hor r (List.replicate k 0 ++ xs) = hor r xs
  | 0 => rfl
  | k + 1 => by rw [List.replicate_succ, List.cons_append, hor_cons0, hor_zeros r xs k]
theorem hor_rep (r k : Nat) : hor r (List.replicate k 0) = 0 := by
  have := hor_zeros r [] k
  rw [List.append_nil] at this
  rw [this]; rfl
theorem strip_cons (x y : Int) (r : List Int) : strip (x :: y :: r) = if x ≠ 0 then x :: y :: r else strip (y :: r) := by
  unfold strip
  conv => lhs; unfold lead
  split
  · rfl
  · rfl
theorem hor_strip (r : Nat) : ∀ xs : List Int, hor r (strip xs) = hor r xs
  | [] => rfl
  | [x] => rfl
  | x :: y :: xs => by
    rw [strip_cons]
    split
    · rfl
    · rename_i h
      have : x = 0 := by simpa using h
      subst this
      rw [hor_strip r (y :: xs), hor_cons0]
theorem strip_head : ∀ xs : List Int, (strip xs).getD 0 0 ≠ 0 ∨ (strip xs).length ≤ 1
  | [] => .inr (by decide)
  | [x] => .inr (by simp [strip, lead])
  | x :: y :: xs => by
    rw [strip_cons]
    split
    · rename_i h; exact .inl (by simpa using h)
    · exact strip_head (y :: xs)
theorem strip_len (xs : List Int) : (strip xs).length ≤ xs.length := by unfold strip; simp
theorem strip_len0 : ∀ {xs : List Int}, xs.getD 0 0 = 0 → 2 ≤ xs.length → (strip xs).length + 1 ≤ xs.length
  | x :: y :: xs, h, _ => by
    have : x = 0 := by simpa using h
    subst this
    rw [strip_cons, if_neg (by simp)]
    have := strip_len (y :: xs)
    simp at this ⊢; omega
theorem strip_mem {xs : List Int} {x : Int} (h : x ∈ strip xs) : x ∈ xs := List.mem_of_mem_drop h
theorem strip_nz : ∀ {xs : List Int}, (∃ x ∈ xs, x ≠ 0) → (strip xs).getD 0 0 ≠ 0
  | [x], h => by
    obtain ⟨y, hy, h0⟩ := h
    simp at hy; subst hy
    simpa [strip, lead] using h0
  | x :: y :: xs, h => by
    rw [strip_cons]
    split
    · rename_i h; simpa using h
    · rename_i h0
      refine strip_nz ?_
      obtain ⟨z, hz, hz0⟩ := h
      rcases List.mem_cons.mp hz with rfl | hz
      · exact absurd hz0 h0
      · exact ⟨z, hz, hz0⟩
/-- bytes -/
def Byts (xs : List Int) : Prop := ∀ x ∈ xs, 0 ≤ x ∧ x < 256
theorem xor_nat {a b : Int} (ha : 0 ≤ a) (hb : 0 ≤ b) : Builtin.bitXor a b = ((a.toNat ^^^ b.toNat : Nat) : Int) := by
  rw [bitXor_and, bitAnd_pp ha hb]
  have key : ∀ m n : Nat, (m ^^^ n) + 2 * (m &&& n) = m + n := by
    intro m
    induction m using Nat.strongRecOn with
    | ind m ih =>
      intro n
      by_cases h0 : m = 0
      · subst h0; simp
      · have ih' := ih (m / 2) (by omega) (n / 2)
        rw [← Nat.xor_div_two, ← Nat.and_div_two] at ih'
        have o1 := @Nat.xor_mod_two_eq_one m n
        have a1 := @Nat.and_mod_two_eq_one m n
        omega
  have := key a.toNat b.toNat
  omega
theorem xor_byte {a b : Nat} (ha : a < 256) (hb : b < 256) : a ^^^ b < 256 := Nat.xor_lt_two_pow (n := 8) ha hb
theorem exp_step : ∀ j < 255, expTab.getD ((j + 1) % 255) 0 = (xt (expTab.getD j 0).toNat : Nat) := by decide +kernel
theorem exp_byte : ∀ j < 255, 0 ≤ expTab.getD j 0 ∧ expTab.getD j 0 < 256 := by decide +kernel
theorem exp_log : ∀ b < 256, b ≠ 0 → expTab.getD ((logTab.getD b 0).toNat % 255) 0 = (b : Int) ∧ 0 ≤ logTab.getD b 0 := by decide +kernel
theorem exp_mul : ∀ (q l : Nat), expTab.getD ((l + q) % 255) 0 = (Ap q (expTab.getD (l % 255) 0).toNat : Nat)
  | 0, l => by
    have := exp_byte (l % 255) (Nat.mod_lt _ (by decide))
    rw [Nat.add_zero]
    show _ = (((expTab.getD (l % 255) 0).toNat : Nat) : Int)
    omega
  | q + 1, l => by
    have h1 := exp_step ((l + q) % 255) (Nat.mod_lt _ (by decide))
    have e : ((l + q) % 255 + 1) % 255 = (l + (q + 1)) % 255 := by omega
    rw [e, exp_mul q l] at h1
    rw [h1]; rfl
theorem gexp_mul {b : Nat} (h0 : b ≠ 0) (hb : b < 256) (k : Int) : gexpP (glogP (b : Int) + k) = (Ap (k % 255).toNat b : Nat) := by
  obtain ⟨h1, h2⟩ := exp_log b hb h0
  unfold gexpP glogP
  rw [Int.toNat_natCast]
  generalize hl : logTab.getD b 0 = l at *
  have e : ((l + k) % 255).toNat = (l.toNat + (k % 255).toNat) % 255 := by omega
  rw [e, exp_mul, h1]
  rfl
theorem Ap_byte {b : Nat} (hb : b < 256) (q : Nat) (hq : q < 255) : Ap q b < 256 := by
  by_cases h0 : b = 0
  · subst h0; rw [Ap_zero]; decide
  · have := gexp_mul h0 hb q
    obtain ⟨h1, h2⟩ := exp_log b hb h0
    have e : ((q : Int) % 255).toNat = q := by omega
    rw [e] at this
    have h3 := exp_byte ((glogP (b : Int) + q) % 255).toNat (by omega)
    unfold gexpP at this
    omega
/-- one step of the division -/
theorem zip_hor (r q : Nat) : ∀ (ms ns : List Int) (a b : Nat), ms.length ≤ ns.length → (∀ x ∈ ms, 1 ≤ x ∧ x < 256) → Byts ns →
    horA r (a ^^^ Ap q b) (List.zipWith (fun x y => Builtin.bitXor x (Ap q y.toNat : Nat)) ns ms ++ ns.drop ms.length) = horA r a ns ^^^ Ap (r * (ns.length - ms.length)) (Ap q (horA r b ms))
  | [], ns, a, b, _, _, hn => by
    simp only [List.zipWith_nil_right, List.length_nil, List.drop_zero, List.nil_append, Nat.sub_zero]
    rw [horA_split r ns (a ^^^ Ap q b), horA_split r ns a, Ap_xor]
    show _ = _ ^^^ Ap (r * ns.length) (Ap q b)
    rw [Nat.xor_assoc, Nat.xor_comm (Ap (r * ns.length) (Ap q b)), ← Nat.xor_assoc]
  | m :: ms, [], _, _, h, _, _ => by simp at h
  | m :: ms, n :: ns, a, b, h, hm, hn => by
    simp only [List.zipWith_cons_cons, List.length_cons, List.drop_succ_cons, List.cons_append]
    have h1 := zip_hor r q ms ns (n.toNat ^^^ Ap r a) (m.toNat ^^^ Ap r b) (by simpa using h) (fun x hx => hm x (.tail _ hx)) (fun x hx => hn x (.tail _ hx))
    have e : (Builtin.bitXor n (Ap q m.toNat : Nat)).toNat ^^^ Ap r (a ^^^ Ap q b) = (n.toNat ^^^ Ap r a) ^^^ Ap q (m.toNat ^^^ Ap r b) := by
      rw [xor_nat (hn n (.head _)).1 (Int.natCast_nonneg _), Int.toNat_natCast, Int.toNat_natCast, Ap_xor, Ap_xor, Ap_comm r q, Nat.xor_assoc, Nat.xor_assoc]
      congr 1
      rw [xlc]
    show horA r (_ ^^^ Ap r (a ^^^ Ap q b)) _ = horA r (n.toNat ^^^ Ap r a) ns ^^^ Ap (r * (ns.length + 1 - (ms.length + 1))) (Ap q (horA r (m.toNat ^^^ Ap r b) ms))
    rw [e, h1, Nat.add_sub_add_right]
theorem step_zip (k : Int) : ∀ (ms ns : List Int), (∀ x ∈ ms, 1 ≤ x ∧ x < 256) → List.zipWith (fun a b => Builtin.bitXor a (gexpP (glogP b + k))) ns ms = List.zipWith (fun x y => Builtin.bitXor x (Ap (k % 255).toNat y.toNat : Nat)) ns ms
  | [], ns, _ => by simp
  | m :: ms, [], _ => by simp
  | m :: ms, n :: ns, hm => by
    rw [List.zipWith_cons_cons, List.zipWith_cons_cons, step_zip k ms ns fun x hx => hm x (.tail _ hx)]
    have h := hm m (.head _)
    have e := gexp_mul (b := m.toNat) (by omega) (by omega) k
    have e2 : ((m.toNat : Nat) : Int) = m := by omega
    rw [e2] at e
    rw [e]
theorem modStep_eq {ns ms : List Int} (hm : ∀ x ∈ ms, 1 ≤ x ∧ x < 256) : ∃ q, q < 255 ∧ modStep ns ms = List.zipWith (fun x y => Builtin.bitXor x (Ap q y.toNat : Nat)) ns ms ++ ns.drop ms.length := by
  refine ⟨((glogP (ns.getD 0 0) - glogP (ms.getD 0 0)) % 255).toNat, ?_, ?_⟩
  · omega
  · unfold modStep
    rw [step_zip _ _ _ hm]
theorem modStep_byts {ns ms : List Int} (hm : ∀ x ∈ ms, 1 ≤ x ∧ x < 256) (hn : Byts ns) : Byts (modStep ns ms) := by
  obtain ⟨q, hq, e⟩ := modStep_eq (ns := ns) hm
  rw [e]
  intro x hx
  rcases List.mem_append.mp hx with hx | hx
  · obtain ⟨i, hi, rfl⟩ := List.mem_iff_getElem.mp hx
    rw [List.getElem_zipWith]
    have h1 := hn _ (List.getElem_mem (l := ns) (n := i) (by simp at hi; omega))
    have h2 := hm _ (List.getElem_mem (l := ms) (n := i) (by simp at hi; omega))
    rw [xor_nat h1.1 (Int.natCast_nonneg _), Int.toNat_natCast]
    have h3 := Ap_byte (b := (ms[i]'(by simp at hi; omega)).toNat) (by omega) q hq
    have := xor_byte (a := (ns[i]'(by simp at hi; omega)).toNat) (by omega) h3
    omega
  · exact hn x (List.mem_of_mem_drop hx)
theorem modStep_hor {r : Nat} {ns ms : List Int} (hl : ms.length ≤ ns.length) (hm : ∀ x ∈ ms, 1 ≤ x ∧ x < 256) (hn : Byts ns) (h0 : hor r ms = 0) : hor r (modStep ns ms) = hor r ns := by
  obtain ⟨q, hq, e⟩ := modStep_eq (ns := ns) hm
  rw [e]
  have := zip_hor r q ms ns 0 0 hl hm hn
  rw [Ap_zero, Nat.xor_self] at this
  show horA r 0 _ = _
  rw [this]
  have h0 : horA r 0 ms = 0 := h0
  rw [h0, Ap_zero, Ap_zero, Nat.xor_zero]
  rfl
theorem modStep_length {ns ms : List Int} (hl : ms.length ≤ ns.length) : (modStep ns ms).length = ns.length := by
  unfold modStep
  rw [List.length_append, List.length_zipWith, List.length_drop]
  omega
theorem modStep_head {ns ms : List Int} (hl : ms.length ≤ ns.length) (hm : ∀ x ∈ ms, 1 ≤ x ∧ x < 256) (hm0 : 1 ≤ ms.length) (hn : Byts ns) (h0 : ns.getD 0 0 ≠ 0) : (modStep ns ms).getD 0 0 = 0 := by
  match ns, ms, hl, hm0 with
  | n :: ns, m :: ms, hl, _ =>
    unfold modStep
    simp only [List.zipWith_cons_cons, List.cons_append, List.getD_cons_zero] at h0 ⊢
    have h1 := hn n (.head _)
    have e : glogP m + (glogP n - glogP m) = glogP ((n.toNat : Nat) : Int) + 0 := by
      have : ((n.toNat : Nat) : Int) = n := by omega
      rw [this]; omega
    rw [e, gexp_mul (b := n.toNat) (by omega) (by omega) 0]
    show Builtin.bitXor n ((n.toNat : Nat) : Int) = 0
    have : ((n.toNat : Nat) : Int) = n := by omega
    rw [this, bitXor_self]
theorem modOk_of : ∀ (k : Nat) (ns ms : List Int), (∀ b ∈ ms, 1 ≤ b ∧ b < 256) → 2 ≤ ms.length → Byts ns → (ns.getD 0 0 ≠ 0 ∨ ns.length < ms.length) → ns.length < ms.length + k → ModOk (k + 1) ns ms
  | 0, ns, ms, _, _, _, _, h => .inl (by omega)
  | k + 1, ns, ms, hm, h2, hn, h0, h => by
    by_cases hlt : ns.length < ms.length
    · exact .inl hlt
    · have h0 := h0.resolve_right hlt
      have hl : ms.length ≤ ns.length := by omega
      have hne : modStep ns ms ≠ [] := by
        intro e
        have := modStep_length hl
        rw [e] at this
        simp at this; omega
      have hb : 1 ≤ ns.getD 0 0 ∧ ns.getD 0 0 < 256 := by
        match ns, hl with
        | [], hl => have : ms.length ≤ 0 := hl; exact absurd h2 (by omega)
        | n :: ns, _ =>
          have := hn n (.head _)
          simp at h0 ⊢; omega
      have hml := modStep_length hl
      have hs := strip_len0 (modStep_head hl hm (by omega) hn h0) (by omega)
      refine .inr ⟨hb, hne, modOk_of k _ ms hm h2 (fun x hx => modStep_byts hm hn x (strip_mem hx)) ?_ (by omega)⟩
      rcases strip_head (modStep ns ms) with h | h
      · exact .inl h
      · exact .inr (by omega)
theorem modP_hor {r : Nat} : ∀ (k : Nat) (ns ms : List Int), (∀ b ∈ ms, 1 ≤ b ∧ b < 256) → Byts ns → ModOk k ns ms → hor r ms = 0 → hor r (modP k ns ms) = hor r ns ∧ (modP k ns ms).length < ms.length ∧ Byts (modP k ns ms)
  | 0, _, _, _, _, h, _ => h.elim
  | k + 1, ns, ms, hm, hn, hok, h0 => by
    unfold modP
    split
    · rename_i h; exact ⟨rfl, h, hn⟩
    · rename_i h
      obtain ⟨_, _, hok⟩ := hok.resolve_left h
      obtain ⟨h1, h2, h3⟩ := modP_hor k _ ms hm (fun x hx => modStep_byts hm hn x (strip_mem hx)) hok h0
      exact ⟨by rw [h1, hor_strip, modStep_hor (by omega) hm hn h0], h2, h3⟩
theorem ecOf_eq {f : Nat} {gen dc : List Int} {ec : Nat} (hl : (modP f (rawOf gen dc) gen).length ≤ ec) : ecOf f gen ec dc = List.replicate (ec - (modP f (rawOf gen dc) gen).length) 0 ++ modP f (rawOf gen dc) gen := by
  unfold ecOf
  generalize modP f (rawOf gen dc) gen = M at *
  apply List.ext_getElem
  · simp; omega
  · intro i h1 h2
    rw [List.getElem_map, List.getElem_range]
    unfold ecAt
    simp at h1
    split
    · rename_i h
      rw [List.getElem_append_right (by simp; omega)]
      have e : ((i : Int) + ((M.length : Int) - ec)).toNat = i - (ec - M.length) := by omega
      rw [e, List.getD_eq_getElem?_getD, List.getElem?_eq_getElem (by omega)]
      simp
    · rename_i h
      rw [List.getElem_append_left (by simp; omega)]
      simp
theorem raw_byts {gen dc : List Int} (hd : Byts dc) : Byts (rawOf gen dc) := by
  intro x hx
  rcases List.mem_append.mp hx with hx | hx
  · exact hd x (strip_mem hx)
  · have := List.eq_of_mem_replicate hx
    subst this
    decide
theorem raw_ok {f : Nat} {gen dc : List Int} (hg : ∀ b ∈ gen, 1 ≤ b ∧ b < 256) (h2 : 2 ≤ gen.length) (hd : Byts dc) (hnz : ∃ x ∈ dc, x ≠ 0) (hf : dc.length ≤ f) : ModOk (f + 1) (rawOf gen dc) gen := by
  refine modOk_of f _ _ hg h2 (raw_byts hd) (.inl ?_) ?_
  · have := strip_nz hnz
    have hs : strip dc ≠ [] := by intro e; rw [e] at this; exact this rfl
    obtain ⟨a, t, e⟩ := List.exists_cons_of_ne_nil hs
    unfold rawOf
    rw [e] at this ⊢
    exact this
  · unfold rawOf
    have := strip_len dc
    rw [List.length_append, List.length_replicate]
    omega
/-- a block's words and its check words give nought at a root of the generator -/
theorem block_ok {f r ec : Nat} {gen dc : List Int} (hg : ∀ b ∈ gen, 1 ≤ b ∧ b < 256) (hgl : gen.length = ec + 1) (hd : Byts dc) (hok : ModOk f (rawOf gen dc) gen) (h0 : hor r gen = 0) : hor r (dc ++ ecOf f gen ec dc) = 0 ∧ Byts (ecOf f gen ec dc) := by
  obtain ⟨h1, h2, h3⟩ := modP_hor (r := r) f _ gen hg (raw_byts hd) hok h0
  have e := ecOf_eq (f := f) (gen := gen) (dc := dc) (ec := ec) (by omega)
  constructor
  · have hl : (ecOf f gen ec dc).length = ec := by simp [ecOf]
    rw [hor_append, hl, e, hor_zeros, h1]
    unfold rawOf
    rw [hor_append, hor_rep, hor_strip, List.length_replicate, Nat.xor_zero, hgl, Nat.add_sub_cancel, Nat.xor_self]
  · rw [e]
    intro x hx
    rcases List.mem_append.mp hx with hx | hx
    · have := List.eq_of_mem_replicate hx
      subst this
      decide
    · exact h3 x hx
/-- the law's own way of it -/
theorem hor_step {r acc : Nat} {x : Int} (hr : r < 255) (ha : acc < 256) (hx : 0 ≤ x ∧ x < 256) :
    ((x.toNat ^^^ Ap r acc : Nat) : Int) = (if acc = 0 then x else Builtin.bitXor x (gexpP (glogP (acc : Nat) + (r : Nat)))) ∧ x.toNat ^^^ Ap r acc < 256 := by
  constructor
  · split
    · rename_i h; subst h; rw [Ap_zero, Nat.xor_zero]; omega
    · rename_i h
      have e : (((r : Nat) : Int) % 255).toNat = r := by omega
      rw [gexp_mul h ha, e, xor_nat hx.1 (Int.natCast_nonneg _), Int.toNat_natCast]
  · exact xor_byte (by omega) (Ap_byte ha r hr)
end
section
open PySem PySem.W PySem.Calls PyProof.Rows
theorem pack_append : ∀ (a b : Nat) (x y : List Bool), x.length = 8 * a → pack (a + b) (x ++ y) = pack a x ++ pack b y
  | 0, b, x, y, h => by
    have : x = [] := List.eq_nil_of_length_eq_zero (by omega)
    subst this
    simp [pack]
  | a + 1, b, x, y, h => by
    rw [show a + 1 + b = (a + b) + 1 by omega, pack, pack, List.take_append_of_le_length (by omega), List.drop_append_of_le_length (by omega), pack_append a b _ _ (by simp; omega)]
    rfl
theorem pack_one (v : Nat) (h : v < 256) : pack 1 (bitsOf (v : Int) 8) = [(v : Int)] := by
  rw [pack, pack, List.take_of_length_le (by rw [bitsOf_length]; exact Nat.le_refl _), numB_bits, Nat.mod_eq_of_lt (by simpa using h)]
theorem pack_padB : ∀ k, pack k (padB k) = (List.range k).map fun i => if i % 2 = 0 then (236 : Int) else 17
  | 0 => rfl
  | k + 1 => by
    rw [padB_take, pack_append k 1 _ _ (padB_length k), pack_padB k, List.range_succ, List.map_append]
    congr 1
    have h1 := pack_one 236 (by decide)
    have h2 := pack_one 17 (by decide)
    show pack 1 (bitsOf (if k % 2 = 0 then 236 else 17) 8) = [if k % 2 = 0 then (236 : Int) else 17]
    split
    · exact h1
    · exact h2
theorem pads_eq : ∀ k < 47, ((List.range k).map fun i => if i % 2 = 0 then (236 : Int) else 17) = ((List.replicate 23 [(236 : Int), 17]).flatten).take k := by decide +kernel
/-- the fields that are there are small -/
theorem size_lt {m : Nat} (hm : m = 1 ∨ m = 2 ∨ m = 4) {g : List Nat} (hg : ∀ v ∈ g, v < radixOf m) (hl : g.length ≤ stepOf m) : numOf (radixOf m) g < 2 ^ sizeOf m g.length ∧ sizeOf m g.length ≤ 11 := by
  have h1 := numOf_lt hg
  have key : (radixOf m) ^ g.length ≤ 2 ^ sizeOf m g.length ∧ sizeOf m g.length ≤ 11 := by
    rcases hm with rfl | rfl | rfl
    · have hl : g.length ≤ 3 := hl
      have : g.length = 0 ∨ g.length = 1 ∨ g.length = 2 ∨ g.length = 3 := by omega
      rcases this with h | h | h | h <;> rw [h] <;> decide
    · have hl : g.length ≤ 2 := hl
      have : g.length = 0 ∨ g.length = 1 ∨ g.length = 2 := by omega
      rcases this with h | h | h <;> rw [h] <;> decide
    · have hl : g.length ≤ 1 := hl
      have : g.length = 0 ∨ g.length = 1 := by omega
      rcases this with h | h <;> rw [h] <;> decide
  exact ⟨Nat.lt_of_lt_of_le h1 key.1, key.2⟩
theorem grp_ok {m : Nat} {vals : List Nat} (hv : ∀ v ∈ vals, v < radixOf m) (i : Nat) : (∀ v ∈ grp m vals i, v < radixOf m) ∧ (grp m vals i).length ≤ stepOf m := by
  constructor
  · intro v h
    exact hv v (List.mem_of_mem_drop (List.mem_of_mem_take h))
  · rw [grp_length]; omega
theorem fld_ok {p : Nat × List Nat} (hp : PartOk p) : ∀ f ∈ partF p, f.1 < 2 ^ f.2 := by
  intro f hf
  obtain ⟨hm, hv, hl⟩ := hp
  rcases List.mem_cons.mp hf with rfl | hf
  · rcases hm with h | h | h <;> rw [h] <;> decide
  · rcases List.mem_cons.mp hf with rfl | hf
    · have : (2 : Nat) ^ 8 ≤ 2 ^ lenB p.1 := Nat.pow_le_pow_right (by decide) (by unfold lenB; split <;> (try split) <;> omega)
      have h8 : (2 : Nat) ^ 8 = 256 := by decide
      dsimp only
      omega
    · obtain ⟨i, _, rfl⟩ := List.mem_map.mp hf
      obtain ⟨h1, h2⟩ := grp_ok hv i
      exact (size_lt hm h1 h2).1
theorem allF_ok {ps : List (Nat × List Nat)} (hp : ∀ p ∈ ps, PartOk p) : ∀ f ∈ allF ps, f.1 < 2 ^ f.2 := by
  intro f hf
  obtain ⟨p, hpm, hf⟩ := List.mem_flatMap.mp hf
  exact fld_ok (hp p hpm) f hf
theorem allBits_len {room : Nat} {ps : List (Nat × List Nat)} (h8 : room % 8 = 0) (hw : wid (allF ps) ≤ room) : (allBits room ps).length = room := by
  unfold allBits
  rw [List.length_append, List.length_append, List.length_append, bitsF_length, List.length_replicate, List.length_replicate, padB_length]
  unfold fillN padN delN
  omega
/-- what is told of the data words -/
theorem words_ok {room : Nat} {ps : List (Nat × List Nat)} (h8 : room % 8 = 0) (h368 : room ≤ 368) (hp : ∀ p ∈ ps, PartOk p) (hw : wid (allF ps) ≤ room) {wd : List Int} (hwd : wd = putAll [] 0 (allBits room ps)) :
    wd = pack (room / 8) (allBits room ps) ∧ Byts wd ∧ 8 * wd.length = room ∧ Told wd (allF ps) ∧ (8 * wd.length < wid (allF ps) + 4 ∨ takenOf wd (wid (allF ps) : Nat) 4 = 0) ∧
      takenOf wd (wid (allF ps) : Nat) ((padN room (wid (allF ps)) + delN (wid (allF ps) + padN room (wid (allF ps))) : Nat) : Int) = 0 ∧
      wd.drop ((wid (allF ps) + padN room (wid (allF ps)) + delN (wid (allF ps) + padN room (wid (allF ps)))) / 8) = ((List.replicate 23 [(236 : Int), 17]).flatten).take (wd.length - (wid (allF ps) + padN room (wid (allF ps)) + delN (wid (allF ps) + padN room (wid (allF ps)))) / 8) := by
  have hl := allBits_len h8 hw
  have hk : (allBits room ps).length = 8 * (room / 8) := by omega
  have e : wd = pack (room / 8) (allBits room ps) := by
    have := putAll_pack (room / 8) [] (allBits room ps) hk
    rw [hwd]
    simpa using this
  have hlen : wd.length = room / 8 := by rw [e, pack_length]
  have hb0 : (allBits room ps).drop (wid (allF ps)) = List.replicate (padN room (wid (allF ps))) false ++ (List.replicate (delN (wid (allF ps) + padN room (wid (allF ps)))) false ++ padB (fillN room (wid (allF ps)))) := by
    unfold allBits
    rw [List.drop_append_of_le_length (by rw [bitsF_length]; exact Nat.le_refl _), List.drop_of_length_le (by rw [bitsF_length]; exact Nat.le_refl _)]
    rfl
  generalize hW : wid (allF ps) = W at *
  have hpd : padN room W ≤ 4 ∧ W + padN room W ≤ room := by unfold padN; omega
  have hdl : delN (W + padN room W) < 8 ∧ (W + padN room W + delN (W + padN room W)) % 8 = 0 := by unfold delN; omega
  have hen : W + padN room W + delN (W + padN room W) ≤ room := by omega
  refine ⟨e, by rw [e]; exact pack_byte _ _, by omega, ⟨by omega, fun pre f post hf => ?_⟩, ?_, ?_, ?_⟩
  · have hfo := allF_ok hp f (by rw [hf]; simp)
    have hwp : wid pre + f.2 ≤ W := by
      rw [← hW, hf, wid_append]
      simp [wid]
    rw [e, taken_pack hk (by omega)]
    have hdr : ((allBits room ps).drop (wid pre)).take f.2 = bitsOf f.1 f.2 := by
      unfold allBits
      rw [hf, bitsF_append, List.append_assoc, List.drop_append_of_le_length (by rw [bitsF_length]; exact Nat.le_refl _), List.drop_of_length_le (by rw [bitsF_length]; exact Nat.le_refl _), List.nil_append]
      have : bitsF (f :: post) = bitsOf f.1 f.2 ++ bitsF post := by simp [bitsF]
      rw [this, List.append_assoc, List.take_append_of_le_length (by rw [bitsOf_length]; exact Nat.le_refl _), List.take_of_length_le (by rw [bitsOf_length]; exact Nat.le_refl _)]
    rw [hdr, numB_bits, Nat.mod_eq_of_lt hfo]
  · by_cases h4 : W + 4 ≤ room
    · right
      have hp4 : padN room W = 4 := by unfold padN; omega
      have := taken_pack hk (a := W) (w := 4) (by omega)
      rw [e]
      have e4 : ((4 : Nat) : Int) = 4 := rfl
      rw [e4] at this
      rw [this, hb0, hp4, List.take_append_of_le_length (by simp), List.take_of_length_le (by simp), numB_falses]
      rfl
    · left; omega
  · rw [e, taken_pack hk (by omega), hb0, ← List.append_assoc, List.take_append_of_le_length (by simp), List.take_of_length_le (by simp), List.replicate_append_replicate, numB_falses]
    rfl
  · have hd : (allBits room ps).drop (8 * ((W + padN room W + delN (W + padN room W)) / 8)) = padB (fillN room W) := by
      rw [show 8 * ((W + padN room W + delN (W + padN room W)) / 8) = W + (padN room W + delN (W + padN room W)) by omega, ← List.drop_drop, hb0, ← List.append_assoc, List.drop_append_of_le_length (by simp), List.drop_of_length_le (by simp)]
      rfl
    have hF : room / 8 - (W + padN room W + delN (W + padN room W)) / 8 = fillN room W := by unfold fillN; omega
    rw [hlen, hF, e, pack_drop, hd, hF, pack_padB, pads_eq _ (by unfold fillN; omega)]
end
section
open PySem PySem.W PySem.Calls PyProof.Rows
theorem dats_of {n : Ledg} : ∀ {vs : List Value} {bs : List (List Int)}, vs.length = bs.length → (∀ (i : Nat) (v : Value) (b : List Int), vs[i]? = some v → bs[i]? = some b → DatAt n v b) → DatsAre n vs bs
  | [], [], _, _ => .nil
  | v :: vs, b :: bs, hl, h => .cons (h 0 v b rfl rfl) (dats_of (by simpa using hl) fun i v b h1 h2 => h (i + 1) v b (by simpa using h1) (by simpa using h2))
  | [], _ :: _, hl, _ => by simp at hl
  | _ :: _, [], hl, _ => by simp at hl
/-- one of some lists grows -/
theorem dats_put {n : Ledg} {vs : List Value} {bs : List (List Int)} (h : DatsAre n vs bs) (hnd : vs.Nodup) {k : Nat} {a : Addr} {b' : List Int} {ws : List Value} {ep : Nat} (hk : vs[k]? = some (.ref a)) (hm : ∃ x, (a, x) ∈ n) (hi : IntsAre ws b') :
    DatsAre (putAt n a (listOf ws.toArray ep)) vs (bs.set k b') := by
  have hl := h.length
  refine dats_of (by simpa using hl) fun i v b h1 h2 => ?_
  obtain ⟨b₀, hb₀, a', ws', ep', rfl, hm', hi'⟩ := h.at h1
  by_cases hik : i = k
  · subst hik
    rw [hk] at h1
    cases h1
    have hlt : i < bs.length := by
      by_cases q : i < bs.length
      · exact q
      · rw [List.getElem?_eq_none (by omega)] at hb₀; cases hb₀
    rw [List.getElem?_set_self hlt] at h2
    cases h2
    obtain ⟨x, hx⟩ := hm
    exact ⟨a, ws, ep, rfl, List.mem_map.mpr ⟨_, hx, by rw [if_pos rfl]⟩, hi⟩
  · rw [List.getElem?_set_ne (Ne.symm hik), hb₀] at h2
    cases h2
    refine ⟨a', ws', ep', rfl, putAt_keep hm' fun e => hik ?_, hi'⟩
    subst e
    have hlt : i < vs.length := by
      by_cases q : i < vs.length
      · exact q
      · rw [List.getElem?_eq_none (by omega)] at h1; cases h1
    exact (List.getElem?_inj hlt hnd).mp (h1.trans hk.symm)
theorem putAt_left {a : Addr} {ob : Obj} : ∀ {hi lo : Ledg} {x : Obj}, (a, x) ∈ hi → ((hi ++ lo).map (·.1)).Pairwise (· > ·) → putAt (hi ++ lo) a ob = putAt hi a ob ++ lo := by
  intro hi lo x hm ho
  unfold putAt
  rw [List.map_append]
  congr 1
  conv => rhs; rw [← List.map_id lo]
  refine List.map_congr_left fun q hq => ?_
  rw [List.map_append, List.pairwise_append] at ho
  have := ho.2.2 a (List.mem_map.mpr ⟨_, hm, rfl⟩) q.1 (List.mem_map_of_mem hq)
  rw [if_neg (Nat.ne_of_lt this)]
  rfl
theorem dats_adr {n : Ledg} {vs : List Value} {bs : List (List Int)} (h : DatsAre n vs bs) : ∀ v ∈ vs, ∃ a x, v = .ref a ∧ (a, x) ∈ n := fun v hv => by
  obtain ⟨i, hi, rfl⟩ := List.mem_iff_getElem.mp hv
  obtain ⟨_, _, a, ws, k, e, hm, _⟩ := h.at (List.getElem?_eq_getElem hi)
  exact ⟨a, _, e, hm⟩
end
section
open PySem PySem.W PySem.Calls PyProof.Rows
/-- a part as the law draws it -/
def PartG (p : Nat × List Nat) : Prop := PartOk p ∧ p.2 ≠ [] ∧ ∃ rest, p.2 = (List.range p.2.length).map (valAt rest p.1)
theorem wid_partF {p : Nat × List Nat} (hm : p.1 = 1 ∨ p.1 = 2 ∨ p.1 = 4) : wid (partF p) = headOf p.1 + sizeOf p.1 p.2.length := by
  rw [← wid_flds hm]
  simp [partF, wid, headOf]
  omega
theorem parts_inv (over : Bool) : ∀ (xs : List Int) (room : Int) (acc : List (Nat × List Nat)), 0 ≤ room → (∀ p ∈ acc, PartG p) →
    (∀ p ∈ (partsR over xs room acc).1, PartG p) ∧ (partsR over xs room acc).1.length ≤ acc.length + xs.length ∧ (partsR over xs room acc).2 = decide (room + (wid (allF acc) : Nat) < (wid (allF (partsR over xs room acc).1) : Nat))
  | [], room, acc, h0, ha => by
    refine ⟨ha, by simp [partsR], ?_⟩
    show false = decide (_ < ((wid (allF acc) : Nat) : Int))
    rw [decide_eq_false (by omega)]
  | x :: xs, room, acc, h0, ha => by
    have hacc : (∀ p ∈ accR over x room acc, PartG p) ∧ roomR over x room + (wid (allF (accR over x room acc)) : Nat) = room + (wid (allF acc) : Nat) := by
      unfold accR roomR
      split
      · rename_i hf
        have hpg : PartG (modeOf x, valsOf over x room) := by
          refine ⟨part_ok over x room, ?_, restOf x, ?_⟩
          · intro e
            have e' : valsOf over x room = [] := e
            have : (valsOf over x room).length = fitsOf over x room := by simp [valsOf]
            rw [e'] at this
            simp at this
            omega
          · simp [valsOf]
        refine ⟨fun p hp => ?_, ?_⟩
        · rcases List.mem_append.mp hp with hp | hp
          · exact ha p hp
          · rw [List.mem_singleton] at hp
            subst hp
            exact hpg
        · have e1 : allF (acc ++ [(modeOf x, valsOf over x room)]) = allF acc ++ partF (modeOf x, valsOf over x room) := by simp [allF]
          rw [e1, wid_append, wid_partF hpg.1.1]
          have : (valsOf over x room).length = fitsOf over x room := by simp [valsOf]
          dsimp only
          rw [this]
          push_cast
          omega
      · exact ⟨ha, rfl⟩
    have hal := accR_len over x room acc
    rw [partsR_cons h0]
    split
    · rename_i hlt
      refine ⟨hacc.1, by simp only [List.length_cons]; omega, ?_⟩
      dsimp only
      rw [decide_eq_true (by omega)]
    · rename_i hge
      have ih := parts_inv over xs (roomR over x room) (accR over x room acc) (by omega) hacc.1
      refine ⟨ih.1, by have := ih.2.1; simp only [List.length_cons]; omega, ?_⟩
      rw [ih.2.2, hacc.2]
/-- turn by turn -/
theorem flatMap_pick (l : List Int) : ∀ m, (List.range m).flatMap (fun t => pickAt t l) = l.take m
  | 0 => by simp
  | m + 1 => by
    rw [List.range_succ, List.flatMap_append, flatMap_pick l m, List.take_add_one]
    congr 1
    unfold pickAt
    by_cases h : m < l.length
    · simp [h]
    · simp [h, List.getElem?_eq_none (Nat.le_of_not_lt h)]
theorem zip_flatMap (f g : Nat → List Int) : ∀ (m : Nat), (∀ t, (f t).length = (g t).length) → ((List.range m).flatMap f).zip ((List.range m).flatMap g) = (List.range m).flatMap fun t => (f t).zip (g t)
  | 0, _ => by simp
  | m + 1, h => by
    rw [List.range_succ, List.flatMap_append, List.flatMap_append, List.flatMap_append]
    have hl : ((List.range m).flatMap f).length = ((List.range m).flatMap g).length := by
      induction m with
      | zero => simp
      | succ m ih => rw [List.range_succ, List.flatMap_append, List.flatMap_append, List.length_append, List.length_append, ih]; simp [h]
    rw [List.zip_append hl, zip_flatMap f g m h]
    simp
/-- whose turn it is -/
def ownA (m : Nat) (szs : List Nat) : List Int := (List.range m).flatMap fun t => ((List.range szs.length).filter fun k => decide (t < szs.getD k 0)).map fun (k : Nat) => (k : Int)
theorem ownA_succ (m : Nat) (szs : List Nat) : ownA (m + 1) szs = ownA m szs ++ ((List.range szs.length).filter fun k => decide (m < szs.getD k 0)).map fun (k : Nat) => (k : Int) := by
  unfold ownA
  rw [List.range_succ, List.flatMap_append]
  simp
theorem ownA_len (m : Nat) (szs : List Nat) : (ownA m szs).length ≤ m * szs.length := by
  induction m with
  | zero => simp [ownA]
  | succ m ih =>
    rw [ownA_succ, List.length_append, List.length_map, Nat.succ_mul]
    have := List.length_filter_le (fun k => decide (m < szs.getD k 0)) (List.range szs.length)
    rw [List.length_range] at this
    omega
def ownB (m c : Nat) : List Int := (List.range m).flatMap fun _ => (List.range c).map fun (k : Nat) => (k : Int)
theorem ownB_succ (m c : Nat) : ownB (m + 1) c = ownB m c ++ (List.range c).map fun (k : Nat) => (k : Int) := by
  unfold ownB
  rw [List.range_succ, List.flatMap_append]
  simp
theorem ownB_len (m c : Nat) : (ownB m c).length = m * c := by
  induction m with
  | zero => simp [ownB]
  | succ m ih => rw [ownB_succ, List.length_append, List.length_map, List.length_range, Nat.succ_mul, ih]
/-- dealt out -/
def dist (c : Nat) (ps : List (Int × Int)) : List (List Int) := (List.range c).map fun (j : Nat) => (ps.filter fun p => p.2 == (j : Int)).map (·.1)
theorem dist_nil (c : Nat) : dist c [] = List.replicate c [] := by
  unfold dist
  simp only [List.filter_nil, List.map_nil]
  exact List.map_const' .. |>.trans (by rw [List.length_range])
theorem dist_at {c j : Nat} (ps : List (Int × Int)) (h : j < c) : (dist c ps)[j]? = some ((ps.filter fun p => p.2 == (j : Int)).map (·.1)) := by
  unfold dist
  rw [List.getElem?_map, List.getElem?_range h]; rfl
theorem dist_snoc {c j : Nat} (ps : List (Int × Int)) (x : Int) (h : j < c) : dist c (ps ++ [(x, (j : Int))]) = (dist c ps).set j ((ps.filter fun p => p.2 == (j : Int)).map (·.1) ++ [x]) := by
  apply List.ext_getElem?
  intro i
  by_cases hi : i < c
  · rw [dist_at _ hi]
    by_cases e : j = i
    · subst e
      rw [List.getElem?_set_self (by simp [dist, h])]
      simp [List.filter_append, List.filter_cons]
    · rw [List.getElem?_set_ne e, dist_at _ hi]
      have : ((j : Int) == (i : Int)) = false := by rw [beq_eq_false_iff_ne]; omega
      simp [List.filter_append, List.filter_cons, this]
  · rw [List.getElem?_eq_none (by simp [dist]; omega), List.getElem?_eq_none (by simp [dist]; omega)]
theorem own_mem {m k c : Nat} {szs : List Nat} (hc : szs.length = c) {x : Int} (h : x ∈ ownA m szs ++ ownB k c) : ∃ j : Nat, x = j ∧ j < c := by
  rcases List.mem_append.mp h with h | h
  · obtain ⟨t, _, ht⟩ := List.mem_flatMap.mp h
    obtain ⟨j, hj, rfl⟩ := List.mem_map.mp ht
    exact ⟨j, rfl, by rw [← hc]; exact List.mem_range.mp (List.mem_filter.mp hj).1⟩
  · obtain ⟨t, _, ht⟩ := List.mem_flatMap.mp h
    obtain ⟨j, hj, rfl⟩ := List.mem_map.mp ht
    exact ⟨j, rfl, List.mem_range.mp hj⟩
/-- the data words of blocks -/
def wdOf (bks : List (List Int)) (szs : List Nat) (m : Nat) : List Int := (List.range m).flatMap fun k => (bks.getD k []).take (szs.getD k 0)
theorem wdOf_succ (bks : List (List Int)) (szs : List Nat) (m : Nat) : wdOf bks szs (m + 1) = wdOf bks szs m ++ (bks.getD m []).take (szs.getD m 0) := by
  unfold wdOf
  rw [List.range_succ, List.flatMap_append]
  simp
theorem wdOf_len {bks : List (List Int)} {szs : List Nat} (h : ∀ b ∈ bks, b.length ≤ 100) (m : Nat) : (wdOf bks szs m).length ≤ 100 * m := by
  induction m with
  | zero => simp [wdOf]
  | succ m ih =>
    rw [wdOf_succ, List.length_append, List.length_take]
    have : (bks.getD m []).length ≤ 100 := by
      rw [List.getD_eq_getElem?_getD]
      rcases e : bks[m]? with _ | b
      · simp
      · exact h b (List.mem_of_getElem? e)
    omega
theorem hor_take {r j : Nat} {b : List Int} {x : Int} (h : b[j]? = some x) : hor r (b.take (j + 1)) = x.toNat ^^^ Ap r (hor r (b.take j)) := by
  rw [List.take_add_one, h]
  show (b.take j ++ [x]).foldl _ 0 = _
  rw [List.foldl_append]
  rfl
theorem hor_lt {r : Nat} (hr : r < 255) : ∀ (b : List Int), Byts b → hor r b < 256 := by
  have key : ∀ (b : List Int) (a : Nat), a < 256 → Byts b → horA r a b < 256 := by
    intro b
    induction b with
    | nil => intro a ha _; exact ha
    | cons x b ih =>
      intro a ha hb
      exact ih _ (hor_step hr ha (hb x (.head _))).2 fun y hy => hb y (.tail _ hy)
  exact fun b hb => key b 0 (by decide) hb
theorem pow_at {k : Int} (h0 : 0 ≤ k) (h1 : k < 255) : (expTab.take 255).getD k.toNat 0 = expTab.getD k.toNat 0 := by
  rw [List.getD_eq_getElem?_getD, List.getElem?_take_of_lt (by omega), List.getD_eq_getElem?_getD]
/-- whose turn it is, block by block -/
def ownT (t : Nat) : Nat → List (List Int) → List Int
  | _, [] => []
  | o, l :: ls => (if t < l.length then [(o : Int)] else []) ++ ownT t (o + 1) ls
def pickT (t : Nat) : Nat → List (List Int) → List (Int × Int)
  | _, [] => []
  | o, l :: ls => (if t < l.length then [(l.getD t 0, (o : Int))] else []) ++ pickT t (o + 1) ls
theorem pickT_zip (t : Nat) : ∀ (o : Nat) (ls : List (List Int)), (ls.flatMap (pickAt t)).length = (ownT t o ls).length ∧ (ls.flatMap (pickAt t)).zip (ownT t o ls) = pickT t o ls
  | o, [] => by simp [ownT, pickT]
  | o, l :: ls => by
    obtain ⟨h1, h2⟩ := pickT_zip t (o + 1) ls
    rw [List.flatMap_cons, ownT, pickT]
    by_cases h : t < l.length
    · rw [if_pos h, if_pos h, show pickAt t l = [l.getD t 0] from if_pos h]
      refine ⟨by rw [List.length_append, List.length_append, h1]; rfl, ?_⟩
      show (_ :: _).zip (_ :: _) = _ :: _
      rw [List.zip_cons_cons]
      exact congrArg _ h2
    · rw [if_neg h, if_neg h, show pickAt t l = [] from if_neg h]
      exact ⟨h1, h2⟩
theorem pickT_filter (t j : Nat) : ∀ (o : Nat) (ls : List (List Int)), ((pickT t o ls).filter fun p => p.2 == (j : Int)).map (·.1) = if o ≤ j then pickAt t (ls.getD (j - o) []) else []
  | o, [] => by simp [pickT, pickAt]
  | o, l :: ls => by
    rw [pickT, List.filter_append, List.map_append, pickT_filter t j (o + 1) ls]
    by_cases hoj : o = j
    · subst hoj
      rw [if_neg (show ¬ o + 1 ≤ o by omega), if_pos (Nat.le_refl o), Nat.sub_self, List.append_nil]
      unfold pickAt
      by_cases h : t < l.length <;> simp [h]
    · have hne : ((o : Int) == (j : Int)) = false := by rw [beq_eq_false_iff_ne]; omega
      have e : ((if t < l.length then [(l.getD t 0, (o : Int))] else []).filter fun p : Int × Int => p.2 == (j : Int)) = [] := by
        by_cases h : t < l.length <;> simp [h, hne]
      rw [e, List.map_nil, List.nil_append]
      by_cases hle : o ≤ j
      · rw [if_pos (show o + 1 ≤ j by omega), if_pos hle]
        have : j - o = (j - (o + 1)) + 1 := by omega
        rw [this]
        rfl
      · rw [if_neg (show ¬ o + 1 ≤ j by omega), if_neg hle]
theorem ownT_filter (t : Nat) : ∀ (o : Nat) (ls : List (List Int)), ownT t o ls = ((List.range' o ls.length).filter fun k => decide (t < (ls.map List.length).getD (k - o) 0)).map fun (k : Nat) => (k : Int)
  | o, [] => by simp [ownT]
  | o, l :: ls => by
    rw [ownT, ownT_filter t (o + 1) ls, List.length_cons, List.range'_succ, List.filter_cons]
    have e : (List.range' (o + 1) ls.length).filter (fun k => decide (t < (((l :: ls).map List.length).getD (k - o) 0))) = (List.range' (o + 1) ls.length).filter fun k => decide (t < (ls.map List.length).getD (k - (o + 1)) 0) := by
      refine List.filter_congr fun k hk => ?_
      have := (List.mem_range'_1.mp hk).1
      have e1 : k - o = (k - (o + 1)) + 1 := by omega
      rw [e1]
      rfl
    rw [e]
    have e0 : ((l :: ls).map List.length).getD (o - o) 0 = l.length := by rw [Nat.sub_self]; rfl
    rw [e0]
    by_cases h : t < l.length <;> simp [h]
theorem flatMap_same {α : Type} {f g : Nat → List α} {m : Nat} (h : ∀ t, t < m → f t = g t) : (List.range m).flatMap f = (List.range m).flatMap g := by
  unfold List.flatMap
  rw [List.map_congr_left fun t ht => h t (List.mem_range.mp ht)]
theorem ownA_T (m : Nat) (ls : List (List Int)) : ownA m (ls.map List.length) = (List.range m).flatMap fun t => ownT t 0 ls := by
  refine flatMap_same fun t _ => ?_
  rw [ownT_filter, List.length_map, List.range_eq_range']
  rfl
theorem ownB_T (m : Nat) (ls : List (List Int)) (h : ∀ l ∈ ls, l.length = m) : ownB m ls.length = (List.range m).flatMap fun t => ownT t 0 ls := by
  refine flatMap_same fun t ht => ?_
  have key : ∀ (o : Nat) (ls : List (List Int)), (∀ l ∈ ls, l.length = m) → ownT t o ls = (List.range' o ls.length).map fun (k : Nat) => (k : Int) := by
    intro o ls
    induction ls generalizing o with
    | nil => intro _; rfl
    | cons l ls ih =>
      intro h
      rw [ownT, ih (o + 1) (fun l hl => h l (.tail _ hl)), if_pos (by rw [h l (.head _)]; exact ht), List.length_cons, List.range'_succ]
      rfl
  rw [key 0 ls h, List.range_eq_range']
theorem dist_flat (m : Nat) (ls : List (List Int)) (j : Nat) : ((((List.range m).flatMap fun t => ls.flatMap (pickAt t)).zip ((List.range m).flatMap fun t => ownT t 0 ls)).filter fun p => p.2 == (j : Int)).map (·.1) = (ls.getD j []).take m := by
  rw [zip_flatMap _ _ m fun t => (pickT_zip t 0 ls).1]
  have e : ((List.range m).flatMap fun t => (ls.flatMap (pickAt t)).zip (ownT t 0 ls)) = (List.range m).flatMap fun t => pickT t 0 ls := by
    exact flatMap_same fun t _ => (pickT_zip t 0 ls).2
  rw [e, List.filter_flatMap, List.map_flatMap, ← flatMap_pick]
  refine flatMap_same fun t _ => ?_
  rw [pickT_filter, if_pos (Nat.zero_le _), Nat.sub_zero]
/-- dealing out turns the interleaving back -/
theorem dist_eq {mx chk : Nat} {ls es : List (List Int)} (hl : es.length = ls.length) (h1 : ∀ l ∈ ls, l.length ≤ mx) (h2 : ∀ e ∈ es, e.length = chk) :
    (inter mx ls ++ inter chk es).length = (ownA mx (ls.map List.length) ++ ownB chk ls.length).length ∧ dist ls.length ((inter mx ls ++ inter chk es).zip (ownA mx (ls.map List.length) ++ ownB chk ls.length)) = List.zipWith (· ++ ·) ls es := by
  have hz : ∀ (m : Nat) (ls : List (List Int)), ((List.range m).flatMap fun t => ls.flatMap (pickAt t)).length = ((List.range m).flatMap fun t => ownT t 0 ls).length := by
    intro m ls
    induction m with
    | zero => rfl
    | succ m ih => rw [List.range_succ, List.flatMap_append, List.flatMap_append, List.length_append, List.length_append, ih]; simp [(pickT_zip m 0 ls).1]
  have e2 := ownB_T chk es h2
  rw [hl] at e2
  rw [ownA_T, e2]
  have hA := hz mx ls
  have hB := hz chk es
  unfold inter
  refine ⟨by rw [List.length_append, List.length_append, hA, hB], ?_⟩
  rw [List.zip_append hA]
  apply List.ext_getElem?
  intro j
  by_cases hj : j < ls.length
  · rw [dist_at _ hj, List.filter_append, List.map_append, dist_flat, dist_flat]
    have hj2 : j < es.length := by omega
    rw [List.getElem?_zipWith, List.getElem?_eq_getElem hj, List.getElem?_eq_getElem hj2]
    rw [List.getD_eq_getElem?_getD, List.getElem?_eq_getElem hj, List.getD_eq_getElem?_getD, List.getElem?_eq_getElem hj2]
    show some (ls[j].take mx ++ es[j].take chk) = some (ls[j] ++ es[j])
    rw [List.take_of_length_le (h1 _ (List.getElem_mem hj)), List.take_of_length_le (Nat.le_of_eq (h2 _ (List.getElem_mem hj2)))]
  · rw [List.getElem?_eq_none (by simp [dist]; omega), List.getElem?_eq_none (by simp; omega)]
end
section
open PySem PySem.W PySem.Calls PyProof.Rows
/-- the noughts at the end, as long as nowhere 72 stand in a row -/
def scan : Nat → List Bool → Option Nat
  | z, [] => some z
  | _, true :: r => scan 0 r
  | z, false :: r => if z + 1 < 72 then scan (z + 1) r else none
theorem scan_append : ∀ (a b : List Bool) (z : Nat), scan z (a ++ b) = (scan z a).bind fun k => scan k b
  | [], b, z => rfl
  | true :: a, b, z => scan_append a b 0
  | false :: a, b, z => by
    show (if z + 1 < 72 then scan (z + 1) (a ++ b) else none) = (if z + 1 < 72 then scan (z + 1) a else none).bind _
    split
    · exact scan_append a b (z + 1)
    · rfl
def Tr (z : Nat) (l : List Bool) (z' : Nat) : Prop := ∀ k, k ≤ z → ∃ k', scan k l = some k' ∧ k' ≤ z'
theorem Tr.trans {z z' z'' : Nat} {a b : List Bool} (h : Tr z a z') (h' : Tr z' b z'') : Tr z (a ++ b) z'' := fun k hk => by
  obtain ⟨k', e, hk'⟩ := h k hk
  obtain ⟨k'', e', hk''⟩ := h' k' hk'
  exact ⟨k'', by rw [scan_append, e]; exact e', hk''⟩
theorem Tr.mono {z z' y y' : Nat} {l : List Bool} (h : Tr z l z') (h1 : y ≤ z) (h2 : z' ≤ y') : Tr y l y' := fun k hk => let ⟨k', e, q⟩ := h k (Nat.le_trans hk h1); ⟨k', e, Nat.le_trans q h2⟩
theorem Tr.nil (z : Nat) : Tr z [] z := fun k hk => ⟨k, rfl, hk⟩
theorem Tr.any : ∀ (l : List Bool) (z : Nat), z + l.length ≤ 71 → Tr z l (z + l.length)
  | [], z, _ => fun k hk => ⟨k, rfl, by simpa using hk⟩
  | true :: l, z, h => fun k hk => by
    obtain ⟨k', e, q⟩ := Tr.any l 0 (by simp at h; omega) 0 (Nat.le_refl _)
    exact ⟨k', e, by simp; omega⟩
  | false :: l, z, h => fun k hk => by
    simp only [List.length_cons] at h
    obtain ⟨k', e, q⟩ := Tr.any l (z + 1) (by omega) (k + 1) (by omega)
    refine ⟨k', ?_, by simp only [List.length_cons]; omega⟩
    show (if k + 1 < 72 then scan (k + 1) l else none) = _
    rw [if_pos (by omega)]
    exact e
theorem Tr.one : ∀ (l : List Bool) (z : Nat), true ∈ l → z + l.length ≤ 71 → Tr z l (l.length - 1)
  | true :: l, z, _, h => fun k hk => by
    simp only [List.length_cons] at h
    obtain ⟨k', e, q⟩ := Tr.any l 0 (by omega) 0 (Nat.le_refl _)
    exact ⟨k', e, by simp only [List.length_cons]; omega⟩
  | false :: l, z, hm, h => fun k hk => by
    have hm' : true ∈ l := by simpa using hm
    simp only [List.length_cons] at h
    obtain ⟨k', e, q⟩ := Tr.one l (z + 1) hm' (by omega) (k + 1) (by omega)
    refine ⟨k', ?_, by simp only [List.length_cons]; omega⟩
    show (if k + 1 < 72 then scan (k + 1) l else none) = _
    rw [if_pos (by omega)]
    exact e
theorem scan_run : ∀ (n k : Nat), 72 ≤ k + n → 0 < n → scan k (List.replicate n false) = none
  | n + 1, k, h, _ => by
    rw [List.replicate_succ]
    show (if k + 1 < 72 then scan (k + 1) (List.replicate n false) else none) = none
    split
    · exact scan_run n (k + 1) (by omega) (by omega)
    · rfl
theorem no_run {l : List Bool} {z : Nat} (h : Tr 0 l z) {o n : Nat} (hn : 72 ≤ n) (hl : o + n ≤ l.length) : ∃ b ∈ (l.drop o).take n, b = true := by
  refine Classical.byContradiction fun hc => ?_
  have hall : (l.drop o).take n = List.replicate n false := by
    refine List.eq_replicate_iff.mpr ⟨by rw [List.length_take, List.length_drop]; omega, fun b hb => ?_⟩
    cases b
    · rfl
    · exact absurd ⟨true, hb, rfl⟩ hc
  have e : l = l.take o ++ (List.replicate n false ++ (l.drop o).drop n) := by rw [← hall, List.take_append_drop, List.take_append_drop]
  obtain ⟨k', hk, _⟩ := h 0 (Nat.le_refl _)
  rw [e, scan_append] at hk
  cases hq : scan 0 (l.take o) with
  | none => rw [hq] at hk; cases hk
  | some q =>
    rw [hq] at hk
    have hk : scan q (List.replicate n false ++ (l.drop o).drop n) = some k' := hk
    rw [scan_append, scan_run n q (by omega) (by omega)] at hk
    cases hk
theorem bits_true {n w : Nat} (h0 : n ≠ 0) (h : n < 2 ^ w) : true ∈ bitsOf (n : Int) w := by
  refine Classical.byContradiction fun hc => h0 ?_
  have hall : bitsOf (n : Int) w = List.replicate w false := by
    refine List.eq_replicate_iff.mpr ⟨bitsOf_length _ _, fun b hb => ?_⟩
    cases b
    · rfl
    · exact absurd hb hc
  have := numB_bits w n
  rw [hall, numB_falses, Nat.mod_eq_of_lt h] at this
  exact this.symm
theorem Tr.fieldN {n w z : Nat} (h0 : n ≠ 0) (h : n < 2 ^ w) (hw : w ≤ 11) (hz : z ≤ 60) : Tr z (bitsOf (n : Int) w) 10 :=
  (Tr.one _ z (bits_true h0 h) (by rw [bitsOf_length]; omega)).mono (Nat.le_refl _) (by rw [bitsOf_length]; omega)
theorem Tr.fieldA {n w z : Nat} (hw : w ≤ 11) (hz : z ≤ 60) : Tr z (bitsOf (n : Int) w) (z + 11) :=
  (Tr.any _ z (by rw [bitsOf_length]; omega)).mono (Nat.le_refl _) (by rw [bitsOf_length]; omega)
/-- no two neighbours are nought -/
def NoTwo : List (Nat × Nat) → Prop
  | [] => True
  | [_] => True
  | a :: b :: r => (a.1 ≠ 0 ∨ b.1 ≠ 0) ∧ NoTwo (b :: r)
theorem Tr.groups : ∀ (fs : List (Nat × Nat)), (∀ f ∈ fs, f.1 < 2 ^ f.2 ∧ f.2 ≤ 11) → NoTwo fs → Tr 10 (bitsF fs) 21 ∧ (∀ f r, fs = f :: r → f.1 ≠ 0 → Tr 21 (bitsF fs) 21)
  | [], _, _ => ⟨(Tr.nil 10).mono (Nat.le_refl _) (by omega), fun f r e => by cases e⟩
  | [f], h, _ => by
    obtain ⟨h1, h2⟩ := h f (.head _)
    have e : bitsF [f] = bitsOf (f.1 : Int) f.2 := by simp [bitsF]
    rw [e]
    refine ⟨(Tr.fieldA h2 (by omega)).mono (Nat.le_refl _) (by omega), fun f' r e' h0 => ?_⟩
    cases e'
    exact (Tr.fieldN h0 h1 h2 (by omega)).mono (Nat.le_refl _) (by omega)
  | f :: g :: r, h, hn => by
    obtain ⟨h1, h2⟩ := h f (.head _)
    obtain ⟨ih1, ih2⟩ := Tr.groups (g :: r) (fun f hf => h f (.tail _ hf)) hn.2
    have e : bitsF (f :: g :: r) = bitsOf (f.1 : Int) f.2 ++ bitsF (g :: r) := by simp [bitsF]
    rw [e]
    by_cases h0 : f.1 = 0
    · have hg := hn.1.resolve_left (fun q => q h0)
      exact ⟨(Tr.fieldA h2 (by omega)).trans (ih2 g r rfl hg), fun f' r' e' q => by cases e'; exact absurd h0 q⟩
    · exact ⟨(Tr.fieldN h0 h1 h2 (by omega)).trans ih1, fun f' r' e' _ => (Tr.fieldN h0 h1 h2 (by omega)).trans ih1⟩
end
section
open PySem PySem.W PySem.Calls PyProof.Rows
theorem numOf_zero {r : Nat} (hr : 0 < r) : ∀ {g : List Nat}, numOf r g = 0 → ∀ v ∈ g, v = 0
  | [], _, v, h => by cases h
  | x :: g, h0, v, hv => by
    have h3 := fold_split r g (r * 0 + x)
    have e : numOf r (x :: g) = x * r ^ g.length + numOf r g := by
      show g.foldl (fun a v => r * a + v) (r * 0 + x) = _
      rw [h3, Nat.mul_zero, Nat.zero_add]
    rw [e] at h0
    have hp : 0 < r ^ g.length := Nat.pow_pos hr
    have hx : x = 0 := by
      rcases Nat.eq_zero_or_pos x with q | q
      · exact q
      · have := Nat.mul_pos q hp; omega
    rcases List.mem_cons.mp hv with rfl | hv
    · exact hx
    · exact numOf_zero hr (by omega) v hv
theorem val_zero {rest : Int} {m t : Nat} (h : valAt rest m t = 0) : (rest / ((7 ^ t : Nat) : Int) + t) % (radixOf m : Nat) = 0 := by
  have hp := radix_pos (m := m)
  have h1 := Int.emod_nonneg (rest / ((7 ^ t : Nat) : Int) + t) (b := (radixOf m : Nat)) (by omega)
  unfold valAt at h
  omega
theorem div7 (rest : Int) (t : Nat) : rest / ((7 ^ (t + 1) : Nat) : Int) = rest / ((7 ^ t : Nat) : Int) / 7 := by
  rw [Int.ediv_ediv_of_nonneg (Int.natCast_nonneg _), Nat.pow_succ]
  push_cast
  rfl
theorem pair10 {rest : Int} {t : Nat} (h0 : valAt rest 1 t = 0) (h1 : valAt rest 1 (t + 1) = 0) : t % 5 = 1 ∨ t % 5 = 3 ∨ t % 5 = 4 := by
  have a := val_zero h0
  have b := val_zero h1
  rw [div7] at b
  have er : ((radixOf 1 : Nat) : Int) = 10 := rfl
  rw [er] at a b
  generalize rest / ((7 ^ t : Nat) : Int) = q at *
  push_cast at b
  omega
theorem pair45 {rest : Int} {t : Nat} (h0 : valAt rest 2 t = 0) (h1 : valAt rest 2 (t + 1) = 0) : ∃ d : Int, 1 ≤ d ∧ d ≤ 6 ∧ (6 * (t : Int) + 7 - d) % 45 = 0 := by
  have a := val_zero h0
  have b := val_zero h1
  rw [div7] at b
  have er : ((radixOf 2 : Nat) : Int) = 45 := rfl
  rw [er] at a b
  generalize rest / ((7 ^ t : Nat) : Int) = q at *
  push_cast at b
  refine ⟨q % 7, ?_, ?_, ?_⟩ <;> omega
theorem pair256 {rest : Int} {t : Nat} (ht : t ≤ 21) (h0 : valAt rest 4 t = 0) (h1 : valAt rest 4 (t + 1) = 0) : False := by
  have a := val_zero h0
  have b := val_zero h1
  rw [div7] at b
  have er : ((radixOf 4 : Nat) : Int) = 256 := rfl
  rw [er] at a b
  generalize rest / ((7 ^ t : Nat) : Int) = q at *
  push_cast at b
  obtain ⟨x, hx⟩ := Int.dvd_of_emod_eq_zero a
  obtain ⟨y, hy⟩ := Int.dvd_of_emod_eq_zero b
  have hd : q = 7 * (q / 7) + q % 7 := by omega
  have h7 : 0 ≤ q % 7 ∧ q % 7 < 7 := by omega
  generalize q / 7 = p at *
  generalize q % 7 = d at *
  have hz : 256 * (7 * y - x) = 6 * (t : Int) + 7 - d := by omega
  generalize 7 * y - x = z at *
  have h1 : 0 < z := by omega
  have h2 : z < 1 := by omega
  omega
theorem noTwo_map (f : Nat → Nat × Nat) : ∀ (n o : Nat), (∀ i, o ≤ i → i + 1 < o + n → (f i).1 ≠ 0 ∨ (f (i + 1)).1 ≠ 0) → NoTwo ((List.range' o n).map f)
  | 0, _, _ => trivial
  | 1, _, _ => trivial
  | n + 2, o, h => by
    have ih := noTwo_map f (n + 1) (o + 1) fun i h1 h2 => h i (by omega) (by omega)
    rw [List.range'_succ, List.range'_succ, List.map_cons, List.map_cons]
    rw [List.range'_succ, List.map_cons] at ih
    exact ⟨h o (Nat.le_refl _) (by omega), ih⟩
theorem grp_mem {m i t : Nat} {vals : List Nat} {v : Nat} (h1 : stepOf m * i ≤ t) (h2 : t < stepOf m * i + stepOf m) (h3 : vals[t]? = some v) : v ∈ grp m vals i := by
  unfold grp
  refine List.mem_of_getElem? (i := t - stepOf m * i) ?_
  rw [List.getElem?_take_of_lt (by omega), List.getElem?_drop, show stepOf m * i + (t - stepOf m * i) = t by omega, h3]
theorem part_noTwo {p : Nat × List Nat} (hp : PartG p) : NoTwo (flds p.1 p.2) := by
  obtain ⟨⟨hm, hv, hl⟩, _, rest, hr⟩ := hp
  obtain ⟨m, vals⟩ := p
  dsimp only at *
  unfold flds
  rw [List.range_eq_range']
  refine noTwo_map _ _ _ fun i _ hi => ?_
  have hi' : i + 1 < nGrp m vals := by omega
  have hlt := ngrp_le hm hi'
  refine Classical.byContradiction fun hc => ?_
  have hc1 : numOf (radixOf m) (grp m vals i) = 0 := Classical.byContradiction fun q => hc (.inl q)
  have hc2 : numOf (radixOf m) (grp m vals (i + 1)) = 0 := Classical.byContradiction fun q => hc (.inr q)
  have z1 := numOf_zero (radix_pos (m := m)) hc1
  have z2 := numOf_zero (radix_pos (m := m)) hc2
  have hat : ∀ t, t < vals.length → vals[t]? = some (valAt rest m t) := fun t ht => by
    conv => lhs; rw [hr]
    rw [List.getElem?_map, List.getElem?_range ht]; rfl
  have w1 : ∀ t, stepOf m * i ≤ t → t < stepOf m * i + stepOf m → t < vals.length → valAt rest m t = 0 := fun t a b c => z1 _ (grp_mem a b (hat t c))
  have w2 : ∀ t, stepOf m * (i + 1) ≤ t → t < stepOf m * (i + 1) + stepOf m → t < vals.length → valAt rest m t = 0 := fun t a b c => z2 _ (grp_mem a b (hat t c))
  have e : stepOf m * (i + 1) = stepOf m * i + stepOf m := Nat.mul_succ _ _
  rcases hm with rfl | rfl | rfl
  · have es : stepOf 1 = 3 := rfl
    simp only [es] at hlt w1 w2 e
    have a0 := w1 (3 * i) (by omega) (by omega) (by omega)
    have a1 := w1 (3 * i + 1) (by omega) (by omega) (by omega)
    have a2 := w1 (3 * i + 1 + 1) (by omega) (by omega) (by omega)
    have a3 := w2 (3 * i + 1 + 1 + 1) (by omega) (by omega) (by omega)
    have b0 := pair10 a0 a1
    have b1 := pair10 a1 a2
    have b2 := pair10 a2 a3
    omega
  · have es : stepOf 2 = 2 := rfl
    simp only [es] at hlt w1 w2 e
    have a0 := w1 (2 * i) (by omega) (by omega) (by omega)
    have a1 := w1 (2 * i + 1) (by omega) (by omega) (by omega)
    have a2 := w2 (2 * i + 1 + 1) (by omega) (by omega) (by omega)
    obtain ⟨d, d1, d2, d3⟩ := pair45 a0 a1
    obtain ⟨d', d1', d2', d3'⟩ := pair45 a1 a2
    push_cast at d3 d3'
    obtain ⟨x, hx⟩ := Int.dvd_of_emod_eq_zero d3
    obtain ⟨y, hy⟩ := Int.dvd_of_emod_eq_zero d3'
    have hz : 45 * (y - x) = 6 - d' + d := by omega
    generalize y - x = z at *
    have q1 : 0 < z := by omega
    have q2 : z < 1 := by omega
    omega
  · have es : stepOf 4 = 1 := rfl
    simp only [es] at hlt w1 w2 e
    exact pair256 (t := i) (by omega) (w1 i (by omega) (by omega) (by omega)) (w2 (i + 1) (by omega) (by omega) (by omega))
theorem Tr.part {p : Nat × List Nat} (hp : PartG p) : Tr 21 (bitsF (partF p)) 21 := by
  have hpo := hp.1
  obtain ⟨hm, hv, hl⟩ := hpo
  have hlb : lenB p.1 ≤ 10 := by unfold lenB; split <;> (try split) <;> omega
  have hf := fld_ok hp.1
  have e : bitsF (partF p) = bitsOf ((p.1 : Nat) : Int) 4 ++ (bitsOf ((p.2.length : Nat) : Int) (lenB p.1) ++ bitsF (flds p.1 p.2)) := by simp [partF, bitsF]
  rw [e]
  have h1 := hf (p.1, 4) (.head _)
  have h2 := hf (p.2.length, lenB p.1) (.tail _ (.head _))
  have hne : p.2.length ≠ 0 := by
    intro q
    exact hp.2.1 (List.eq_nil_of_length_eq_zero q)
  refine (Tr.fieldN (by omega) h1 (by omega) (by omega)).trans ((Tr.fieldN hne h2 (by omega) (by omega)).trans ?_)
  refine (Tr.groups _ (fun f hf' => ⟨hf f (.tail _ (.tail _ hf')), ?_⟩) (part_noTwo hp)).1
  obtain ⟨i, _, rfl⟩ := List.mem_map.mp hf'
  obtain ⟨g1, g2⟩ := grp_ok hv i
  exact (size_lt hm g1 g2).2
theorem Tr.parts : ∀ {ps : List (Nat × List Nat)}, (∀ p ∈ ps, PartG p) → Tr 21 (bitsF (allF ps)) 21
  | [], _ => Tr.nil 21
  | p :: ps, h => by
    have e : bitsF (allF (p :: ps)) = bitsF (partF p) ++ bitsF (allF ps) := by simp [allF, bitsF]
    rw [e]
    exact (Tr.part (h p (.head _))).trans (Tr.parts fun p hp => h p (.tail _ hp))
theorem Tr.pads : ∀ k, Tr 32 (padB k) 32
  | 0 => Tr.nil 32
  | k + 1 => by
    rw [padB_take]
    refine (Tr.pads k).trans ?_
    have h1 : Tr 32 (bitsOf ((236 : Nat) : Int) 8) 10 := Tr.fieldN (by decide) (by decide) (by decide) (by decide)
    have h2 : Tr 32 (bitsOf ((17 : Nat) : Int) 8) 10 := Tr.fieldN (by decide) (by decide) (by decide) (by decide)
    split
    · exact h1.mono (Nat.le_refl _) (by omega)
    · exact h2.mono (Nat.le_refl _) (by omega)
theorem Tr.all {room : Nat} {ps : List (Nat × List Nat)} (h : ∀ p ∈ ps, PartG p) : Tr 0 (allBits room ps) 32 := by
  unfold allBits
  refine ((Tr.parts h).mono (Nat.zero_le _) (Nat.le_refl _)).trans ?_
  rw [← List.append_assoc]
  refine Tr.trans (z' := 32) ?_ (Tr.pads _)
  refine (Tr.any _ 21 ?_).mono (Nat.le_refl _) ?_
  · simp; unfold padN delN; omega
  · simp; unfold padN delN; omega
/-- no data block is all nought -/
theorem block_nz {room o k : Nat} {ps : List (Nat × List Nat)} (h : ∀ p ∈ ps, PartG p) (h8 : room % 8 = 0) (hw : wid (allF ps) ≤ room) (hk : 9 ≤ k) (hok : 8 * (o + k) ≤ room) :
    dcOf (putAll [] 0 (allBits room ps)) o k = pack k ((allBits room ps).drop (8 * o)) ∧ ∃ x ∈ dcOf (putAll [] 0 (allBits room ps)) o k, x ≠ 0 := by
  have hl := allBits_len h8 hw
  have hlen : (allBits room ps).length = 8 * (room / 8) := by omega
  have e := putAll_pack (room / 8) [] (allBits room ps) hlen
  have e0 : putAll [] 0 (allBits room ps) = pack (room / 8) (allBits room ps) := by simpa using e
  have e1 : dcOf (putAll [] 0 (allBits room ps)) o k = pack k ((allBits room ps).drop (8 * o)) := by
    unfold dcOf
    rw [e0, pack_drop, pack_take _ _ _ (by omega)]
    conv => rhs; rw [← List.map_id (pack k _)]
    refine List.map_congr_left fun x hx => ?_
    have := pack_byte _ _ x hx
    rw [bitAnd_m8']
    show x % 256 = x
    omega
  refine ⟨e1, ?_⟩
  rw [e1]
  refine Classical.byContradiction fun hc => ?_
  have hz : ∀ x ∈ pack k ((allBits room ps).drop (8 * o)), x = 0 := fun x hx => Classical.byContradiction fun q => hc ⟨x, hx, q⟩
  have e2 : pack k ((allBits room ps).drop (8 * o)) = pack k (((allBits room ps).drop (8 * o)).take (8 * k)) := pack_eq _ _ _ (by rw [List.take_take, Nat.min_self])
  rw [e2] at hz
  have hf := pack_zero k (((allBits room ps).drop (8 * o)).take (8 * k)) (by rw [List.length_take, List.length_drop]; omega) hz
  obtain ⟨b, hb, q⟩ := no_run (Tr.all (room := room) h) (o := 8 * o) (n := 8 * k) (by omega) (by omega)
  have := hf b hb
  rw [q] at this
  cases this
end
section
open PySem PySem.W PySem.Calls PyProof.Rows
/-- one of the law's kinds: version, level, the blocks' data words, the check words, the table's groups -/
structure Kd where
  ver : Nat
  lvl : Nat
  szs : List Nat
  chk : Nat
  gs : Grps
def kds : List Kd := [⟨1, 0, [16], 10, [(1, 26, 16)]⟩, ⟨1, 1, [19], 7, [(1, 26, 19)]⟩, ⟨1, 2, [9], 17, [(1, 26, 9)]⟩, ⟨1, 3, [13], 13, [(1, 26, 13)]⟩, ⟨2, 2, [16], 28, [(1, 44, 16)]⟩, ⟨3, 2, [13, 13], 22, [(2, 35, 13)]⟩, ⟨4, 2, [9, 9, 9, 9], 16, [(4, 25, 9)]⟩, ⟨5, 2, [11, 11, 12, 12], 22, [(2, 33, 11), (2, 34, 12)]⟩]
def vs566 : List Value := [.ref 551, .ref 553, .ref 555, .ref 557, .ref 559, .ref 561, .ref 563, .ref 565]
/-- the generators' polynomials -/
def genTab : List (Nat × List Int) := [(7, [1, 127, 122, 154, 164, 11, 68, 117]), (10, [1, 216, 194, 159, 111, 199, 94, 95, 113, 157, 193]), (13, [1, 137, 73, 227, 17, 177, 17, 52, 13, 46, 43, 83, 132, 120]), (16, [1, 59, 13, 104, 189, 68, 209, 30, 8, 163, 65, 41, 229, 98, 50, 36, 59]), (17, [1, 119, 66, 83, 120, 119, 22, 197, 83, 249, 41, 143, 134, 85, 53, 125, 99, 79]),
  (22, [1, 89, 179, 131, 176, 182, 244, 19, 189, 69, 40, 28, 137, 29, 123, 67, 253, 86, 218, 230, 26, 145, 245]), (28, [1, 252, 9, 28, 13, 18, 251, 208, 150, 103, 174, 100, 41, 167, 12, 247, 56, 117, 119, 233, 127, 181, 100, 121, 147, 176, 74, 58, 197])]
def genOf (k : Nat) : List Int := (genTab.lookup k).getD []
noncomputable def ob566 : { vs : List Value // ∀ P, (KK P).lookup 566 = some (listOf vs.toArray 0) } := ⟨_, fun _ => rfl⟩
theorem ob566_eq : ob566.1 = vs566 := by kernel_rfl
structure KRow (P : Params) (q : Nat) (kd : Kd) : Prop where
  row : ∃ tq sz t1 t2 t4 svs kz, vs566[q]? = some (.ref tq) ∧ (KK P).lookup tq = some (tupOf [.int kd.ver t1, .int kd.lvl t2, .ref sz, .int kd.chk t4]) ∧ (KK P).lookup sz = some (listOf svs.toArray kz) ∧ IntsAre svs (kd.szs.map fun (x : Nat) => (x : Int))
  kind : KindOk P kd.ver kd.lvl kd.gs
  gen : GenOk P kd.chk (genOf kd.chk)
/-- the generator's list of the table -/
theorem gen_ok (P : Params) (k : Nat) {ga : Addr} {gvs : List Value} (h1 : valueAt kvs22 k = some (.ref ga)) (h2 : (KK P).lookup ga = some (listOf gvs.toArray 0)) (h3 : intsOf gvs = some (genOf k)) (h4 : (genOf k).length = k + 1) (h5 : ∀ b ∈ genOf k, 1 ≤ b ∧ b < 256) : GenOk P k (genOf k) :=
  ⟨ga, gvs, h1, h2, intsAre_of h3, h4, h5⟩
noncomputable def gob7 : { vs : List Value // ∀ P, (KK P).lookup 23 = some (listOf vs.toArray 0) } := ⟨_, fun _ => rfl⟩
theorem gok7 (P : Params) : GenOk P 7 (genOf 7) := gen_ok P 7 (ga := 23) (gvs := gob7.1) rfl (gob7.2 P) (by kernel_rfl) (by decide +kernel) (by decide +kernel)
noncomputable def gob10 : { vs : List Value // ∀ P, (KK P).lookup 24 = some (listOf vs.toArray 0) } := ⟨_, fun _ => rfl⟩
theorem gok10 (P : Params) : GenOk P 10 (genOf 10) := gen_ok P 10 (ga := 24) (gvs := gob10.1) rfl (gob10.2 P) (by kernel_rfl) (by decide +kernel) (by decide +kernel)
noncomputable def gob13 : { vs : List Value // ∀ P, (KK P).lookup 25 = some (listOf vs.toArray 0) } := ⟨_, fun _ => rfl⟩
theorem gok13 (P : Params) : GenOk P 13 (genOf 13) := gen_ok P 13 (ga := 25) (gvs := gob13.1) rfl (gob13.2 P) (by kernel_rfl) (by decide +kernel) (by decide +kernel)
noncomputable def gob16 : { vs : List Value // ∀ P, (KK P).lookup 27 = some (listOf vs.toArray 0) } := ⟨_, fun _ => rfl⟩
theorem gok16 (P : Params) : GenOk P 16 (genOf 16) := gen_ok P 16 (ga := 27) (gvs := gob16.1) rfl (gob16.2 P) (by kernel_rfl) (by decide +kernel) (by decide +kernel)
noncomputable def gob17 : { vs : List Value // ∀ P, (KK P).lookup 28 = some (listOf vs.toArray 0) } := ⟨_, fun _ => rfl⟩
theorem gok17 (P : Params) : GenOk P 17 (genOf 17) := gen_ok P 17 (ga := 28) (gvs := gob17.1) rfl (gob17.2 P) (by kernel_rfl) (by decide +kernel) (by decide +kernel)
noncomputable def gob22 : { vs : List Value // ∀ P, (KK P).lookup 31 = some (listOf vs.toArray 0) } := ⟨_, fun _ => rfl⟩
theorem gok22 (P : Params) : GenOk P 22 (genOf 22) := gen_ok P 22 (ga := 31) (gvs := gob22.1) rfl (gob22.2 P) (by kernel_rfl) (by decide +kernel) (by decide +kernel)
noncomputable def gob28 : { vs : List Value // ∀ P, (KK P).lookup 34 = some (listOf vs.toArray 0) } := ⟨_, fun _ => rfl⟩
theorem gok28 (P : Params) : GenOk P 28 (genOf 28) := gen_ok P 28 (ga := 34) (gvs := gob28.1) rfl (gob28.2 P) (by kernel_rfl) (by decide +kernel) (by decide +kernel)
noncomputable def rob0 : { vs : List Value // ∀ P, (KK P).lookup 82 = some (tupOf vs) } := ⟨_, fun _ => rfl⟩
noncomputable def rob1 : { vs : List Value // ∀ P, (KK P).lookup 83 = some (tupOf vs) } := ⟨_, fun _ => rfl⟩
noncomputable def rob2 : { vs : List Value // ∀ P, (KK P).lookup 84 = some (tupOf vs) } := ⟨_, fun _ => rfl⟩
noncomputable def rob3 : { vs : List Value // ∀ P, (KK P).lookup 85 = some (tupOf vs) } := ⟨_, fun _ => rfl⟩
noncomputable def rob7 : { vs : List Value // ∀ P, (KK P).lookup 89 = some (tupOf vs) } := ⟨_, fun _ => rfl⟩
noncomputable def rob11 : { vs : List Value // ∀ P, (KK P).lookup 93 = some (tupOf vs) } := ⟨_, fun _ => rfl⟩
noncomputable def rob15 : { vs : List Value // ∀ P, (KK P).lookup 97 = some (tupOf vs) } := ⟨_, fun _ => rfl⟩
noncomputable def rob19 : { vs : List Value // ∀ P, (KK P).lookup 101 = some (tupOf vs) } := ⟨_, fun _ => rfl⟩
theorem kd0 (P : Params) : KRow P 0 ⟨1, 0, [16], 10, [(1, 26, 16)]⟩ where
  row := ⟨551, 550, 2421, 2422, 2424, [.int 16 2423], 0, rfl, by kernel_rfl, by kernel_rfl, intsAre_of rfl⟩
  kind := ⟨1, 1056, 83, rob1.1, rfl, by decide, by kernel_rfl, rob1.2 P, intsAre_of (by kernel_rfl), by decide, by decide⟩
  gen := gok10 P
theorem kd1 (P : Params) : KRow P 1 ⟨1, 1, [19], 7, [(1, 26, 19)]⟩ where
  row := ⟨553, 552, 2425, 2426, 2428, [.int 19 2427], 0, rfl, by kernel_rfl, by kernel_rfl, intsAre_of rfl⟩
  kind := ⟨0, 1054, 82, rob0.1, rfl, by decide, by kernel_rfl, rob0.2 P, intsAre_of (by kernel_rfl), by decide, by decide⟩
  gen := gok7 P
theorem kd2 (P : Params) : KRow P 2 ⟨1, 2, [9], 17, [(1, 26, 9)]⟩ where
  row := ⟨555, 554, 2429, 2430, 2432, [.int 9 2431], 0, rfl, by kernel_rfl, by kernel_rfl, intsAre_of rfl⟩
  kind := ⟨3, 1060, 85, rob3.1, rfl, by decide, by kernel_rfl, rob3.2 P, intsAre_of (by kernel_rfl), by decide, by decide⟩
  gen := gok17 P
theorem kd3 (P : Params) : KRow P 3 ⟨1, 3, [13], 13, [(1, 26, 13)]⟩ where
  row := ⟨557, 556, 2433, 2434, 2436, [.int 13 2435], 0, rfl, by kernel_rfl, by kernel_rfl, intsAre_of rfl⟩
  kind := ⟨2, 1058, 84, rob2.1, rfl, by decide, by kernel_rfl, rob2.2 P, intsAre_of (by kernel_rfl), by decide, by decide⟩
  gen := gok13 P
theorem kd4 (P : Params) : KRow P 4 ⟨2, 2, [16], 28, [(1, 44, 16)]⟩ where
  row := ⟨559, 558, 2437, 2438, 2440, [.int 16 2439], 0, rfl, by kernel_rfl, by kernel_rfl, intsAre_of rfl⟩
  kind := ⟨3, 1060, 89, rob7.1, rfl, by decide, by kernel_rfl, rob7.2 P, intsAre_of (by kernel_rfl), by decide, by decide⟩
  gen := gok28 P
theorem kd5 (P : Params) : KRow P 5 ⟨3, 2, [13, 13], 22, [(2, 35, 13)]⟩ where
  row := ⟨561, 560, 2441, 2442, 2445, [.int 13 2443, .int 13 2444], 0, rfl, by kernel_rfl, by kernel_rfl, intsAre_of rfl⟩
  kind := ⟨3, 1060, 93, rob11.1, rfl, by decide, by kernel_rfl, rob11.2 P, intsAre_of (by kernel_rfl), by decide, by decide⟩
  gen := gok22 P
theorem kd6 (P : Params) : KRow P 6 ⟨4, 2, [9, 9, 9, 9], 16, [(4, 25, 9)]⟩ where
  row := ⟨563, 562, 2446, 2447, 2452, [.int 9 2448, .int 9 2449, .int 9 2450, .int 9 2451], 0, rfl, by kernel_rfl, by kernel_rfl, intsAre_of rfl⟩
  kind := ⟨3, 1060, 97, rob15.1, rfl, by decide, by kernel_rfl, rob15.2 P, intsAre_of (by kernel_rfl), by decide, by decide⟩
  gen := gok16 P
theorem kd7 (P : Params) : KRow P 7 ⟨5, 2, [11, 11, 12, 12], 22, [(2, 33, 11), (2, 34, 12)]⟩ where
  row := ⟨565, 564, 2453, 2454, 2459, [.int 11 2455, .int 11 2456, .int 12 2457, .int 12 2458], 0, rfl, by kernel_rfl, by kernel_rfl, intsAre_of rfl⟩
  kind := ⟨3, 1060, 101, rob19.1, rfl, by decide, by kernel_rfl, rob19.2 P, intsAre_of (by kernel_rfl), by decide, by decide⟩
  gen := gok22 P
theorem kd_row (P : Params) {q : Nat} (h : q < 8) : ∃ kd, kds[q]? = some kd ∧ KRow P q kd := by
  match q, h with
  | 0, _ => exact ⟨_, rfl, kd0 P⟩
  | 1, _ => exact ⟨_, rfl, kd1 P⟩
  | 2, _ => exact ⟨_, rfl, kd2 P⟩
  | 3, _ => exact ⟨_, rfl, kd3 P⟩
  | 4, _ => exact ⟨_, rfl, kd4 P⟩
  | 5, _ => exact ⟨_, rfl, kd5 P⟩
  | 6, _ => exact ⟨_, rfl, kd6 P⟩
  | 7, _ => exact ⟨_, rfl, kd7 P⟩
/-- what is plain of a kind -/
structure KdOk (kd : Kd) : Prop where
  ver : 1 ≤ kd.ver ∧ kd.ver < 10
  blks : blksOf kd.gs = kd.szs.map fun s => (s + kd.chk, s)
  one : 1 ≤ kd.szs.length ∧ kd.szs.length ≤ 4
  sz : ∀ s ∈ kd.szs, 9 ≤ s ∧ s ≤ 19
  chk : 7 ≤ kd.chk ∧ kd.chk ≤ 28
  last : ∀ s ∈ kd.szs, s ≤ kd.szs.getLast?.getD 0
  sum : kd.szs.sum ≤ 46
  gen : (∀ b ∈ genOf kd.chk, 1 ≤ b ∧ b < 256) ∧ (genOf kd.chk).length = kd.chk + 1
theorem kd_ok : ∀ kd ∈ kds, KdOk kd := by
  intro kd h
  simp only [kds, List.mem_cons, List.not_mem_nil, or_false] at h
  rcases h with rfl | rfl | rfl | rfl | rfl | rfl | rfl | rfl <;> exact ⟨by decide, by decide, by decide, by decide, by decide, by decide, by decide, by decide +kernel⟩
end
section
open PySem PySem.W PySem.Calls PyProof.Rows
theorem kd_mx : ∀ kd ∈ kds, mxF ((blksOf kd.gs).map (·.2)) = kd.szs.getLast?.getD 0 ∧ mxF ((blksOf kd.gs).map fun b => b.1 - b.2) = kd.chk := by
  intro kd h
  simp only [kds, List.mem_cons, List.not_mem_nil, or_false] at h
  rcases h with rfl | rfl | rfl | rfl | rfl | rfl | rfl | rfl <;> decide
theorem kd_root : ∀ kd ∈ kds, ∀ r < kd.chk, hor r (genOf kd.chk) = 0 := by
  intro kd h
  simp only [kds, List.mem_cons, List.not_mem_nil, or_false] at h
  rcases h with rfl | rfl | rfl | rfl | rfl | rfl | rfl | rfl <;> decide +kernel
theorem limit_eq {kd : Kd} (hok : KdOk kd) : limitOf kd.gs = 8 * kd.szs.sum := by
  unfold limitOf
  rw [hok.blks, List.map_map]
  congr 2
  exact List.map_id'' (fun _ => rfl) _
theorem offs_szs (k : Nat) (szs : List Nat) : offs (szs.map fun s => (s + k, s)) = szs.sum := by
  unfold offs
  rw [List.map_map]
  congr 1
  exact List.map_id'' (fun _ => rfl) _
section
variable {kd : Kd} {ps : List (Nat × List Nat)} {room : Nat}
/-- one block -/
theorem one_block (hm : kd ∈ kds) (hg : ∀ p ∈ ps, PartG p) (hroom : room = 8 * kd.szs.sum) (hw : wid (allF ps) ≤ room) {o s : Nat} (h9 : 9 ≤ s) (h19 : s ≤ 19) (hos : 8 * (o + s) ≤ room) :
    ModOk 20 (rawOf (genOf kd.chk) (dcOf (putAll [] 0 (allBits room ps)) o s)) (genOf kd.chk) ∧ Byts (dcOf (putAll [] 0 (allBits room ps)) o s) ∧ (dcOf (putAll [] 0 (allBits room ps)) o s).length = s ∧
      Byts (ecOf 20 (genOf kd.chk) kd.chk (dcOf (putAll [] 0 (allBits room ps)) o s)) ∧ ∀ r < kd.chk, hor r (dcOf (putAll [] 0 (allBits room ps)) o s ++ ecOf 20 (genOf kd.chk) kd.chk (dcOf (putAll [] 0 (allBits room ps)) o s)) = 0 := by
  have hok := kd_ok kd hm
  obtain ⟨e, hnz⟩ := block_nz (room := room) (o := o) (k := s) hg (by omega) hw h9 hos
  have hb : Byts (dcOf (putAll [] 0 (allBits room ps)) o s) := by rw [e]; exact pack_byte _ _
  have hl : (dcOf (putAll [] 0 (allBits room ps)) o s).length = s := by rw [e, pack_length]
  have hck := hok.chk
  obtain ⟨g1, g2⟩ := hok.gen
  have hmo := raw_ok (f := 19) (gen := genOf kd.chk) g1 (by omega) hb hnz (by omega)
  have hb0 := block_ok (f := 20) (r := 0) g1 g2 hb hmo (kd_root kd hm 0 (by omega))
  exact ⟨hmo, hb, hl, hb0.2, fun r hr => (block_ok (f := 20) (r := r) g1 g2 hb hmo (kd_root kd hm r hr)).1⟩
theorem mod_all (hm : kd ∈ kds) (hg : ∀ p ∈ ps, PartG p) (hroom : limitOf kd.gs = room) (hw : wid (allF ps) ≤ room) : ∀ i b, (blksOf kd.gs)[i]? = some b → ModOk 20 (rawOf (genOf (b.1 - b.2)) (dcOf (putAll [] 0 (allBits room ps)) (offs ((blksOf kd.gs).take i)) b.2)) (genOf (b.1 - b.2)) := by
  intro i b hb
  have hok := kd_ok kd hm
  have hlim := limit_eq hok
  rw [hok.blks] at hb ⊢
  rw [List.getElem?_map] at hb
  obtain ⟨s, hs, rfl⟩ := Option.map_eq_some_iff.mp hb
  have hsz := hok.sz s (List.mem_of_getElem? hs)
  dsimp only
  rw [show s + kd.chk - s = kd.chk by omega, ← List.map_take, offs_szs]
  refine (one_block hm hg (by omega) hw hsz.1 hsz.2 ?_).1
  have : (kd.szs.take i).sum + s ≤ kd.szs.sum := by
    have e : kd.szs = kd.szs.take i ++ kd.szs.drop i := (List.take_append_drop i _).symm
    have hil : i < kd.szs.length := (List.getElem?_eq_some_iff.mp hs).1
    have e2 : kd.szs.drop i = s :: kd.szs.drop (i + 1) := by
      rw [List.drop_eq_getElem_cons hil]
      rw [List.getElem?_eq_getElem hil] at hs
      rw [Option.some.inj hs]
    conv => rhs; rw [e, e2]
    rw [List.sum_append, List.sum_cons]
    omega
  omega
theorem byts_map {wd : List Int} (h : Byts wd) (o k : Nat) : dcOf wd o k = (wd.drop o).take k := by
  unfold dcOf
  conv => rhs; rw [← List.map_id ((wd.drop o).take k)]
  refine List.map_congr_left fun x hx => ?_
  have := h x (List.mem_of_mem_drop (List.mem_of_mem_take hx))
  rw [bitAnd_m8']
  show x % 256 = x
  omega
/-- all blocks -/
theorem blocks_all (hm : kd ∈ kds) (hg : ∀ p ∈ ps, PartG p) (hroom : room = 8 * kd.szs.sum) (hw : wid (allF ps) ≤ room) {wd : List Int} (hwd : wd = putAll [] 0 (allBits room ps)) (hwb : Byts wd) {r : Nat} (hr : r < kd.chk) : ∀ (szs : List Nat) (o : Nat), (∀ s ∈ szs, 9 ≤ s ∧ s ≤ 19) → 8 * (o + szs.sum) ≤ room →
    (dcs wd o (szs.map fun s => (s + kd.chk, s))).map List.length = szs ∧ (∀ l ∈ dcs wd o (szs.map fun s => (s + kd.chk, s)), Byts l) ∧ (∀ e ∈ ecs 20 genOf wd o (szs.map fun s => (s + kd.chk, s)), Byts e ∧ e.length = kd.chk) ∧
      (∀ b ∈ List.zipWith (· ++ ·) (dcs wd o (szs.map fun s => (s + kd.chk, s))) (ecs 20 genOf wd o (szs.map fun s => (s + kd.chk, s))), Byts b ∧ hor r b = 0 ∧ b.length ≤ 100) ∧ (dcs wd o (szs.map fun s => (s + kd.chk, s))).flatten = (wd.drop o).take szs.sum
  | [], o, _, _ => by simp [dcs, ecs]
  | s :: szs, o, h, hs => by
    rw [List.sum_cons] at hs
    obtain ⟨i1, i2, i3, i4, i5⟩ := blocks_all hm hg hroom hw hwd hwb hr szs (o + s) (fun x hx => h x (.tail _ hx)) (by omega)
    have hsz := h s (.head _)
    obtain ⟨_, b1, b2, b3, b4⟩ := one_block hm hg hroom hw (o := o) hsz.1 hsz.2 (by omega)
    rw [← hwd] at b1 b2 b3 b4
    have hck := (kd_ok kd hm).chk
    have ed : dcs wd o ((s :: szs).map fun s => (s + kd.chk, s)) = dcOf wd o s :: dcs wd (o + s) (szs.map fun s => (s + kd.chk, s)) := rfl
    have ee : ecs 20 genOf wd o ((s :: szs).map fun s => (s + kd.chk, s)) = ecOf 20 (genOf kd.chk) kd.chk (dcOf wd o s) :: ecs 20 genOf wd (o + s) (szs.map fun s => (s + kd.chk, s)) := by
      show ecOf 20 (genOf (s + kd.chk - s)) (s + kd.chk - s) (dcOf wd o s) :: _ = _
      rw [show s + kd.chk - s = kd.chk by omega]
    have hel : (ecOf 20 (genOf kd.chk) kd.chk (dcOf wd o s)).length = kd.chk := by simp [ecOf]
    rw [ed, ee]
    refine ⟨by rw [List.map_cons, b2, i1], fun l hl => ?_, fun e he => ?_, fun b hb => ?_, ?_⟩
    · rcases List.mem_cons.mp hl with rfl | hl
      · exact b1
      · exact i2 l hl
    · rcases List.mem_cons.mp he with rfl | he
      · exact ⟨b3, hel⟩
      · exact i3 e he
    · rw [List.zipWith_cons_cons] at hb
      rcases List.mem_cons.mp hb with rfl | hb
      · refine ⟨fun x hx => ?_, b4 r hr, by rw [List.length_append, b2, hel]; omega⟩
        rcases List.mem_append.mp hx with hx | hx
        · exact b1 x hx
        · exact b3 x hx
      · exact i4 b hb
    · rw [List.flatten_cons, i5, byts_map hwb, List.sum_cons, List.take_add, List.drop_drop]
theorem inter_mem {k : Nat} {ls : List (List Int)} {x : Int} (h : x ∈ inter k ls) : ∃ l ∈ ls, x ∈ l := by
  obtain ⟨t, _, ht⟩ := List.mem_flatMap.mp h
  obtain ⟨l, hl, hx⟩ := List.mem_flatMap.mp ht
  refine ⟨l, hl, ?_⟩
  unfold pickAt at hx
  split at hx
  · rename_i hlt
    rw [List.mem_singleton] at hx
    rw [hx, List.getD_eq_getElem?_getD, List.getElem?_eq_getElem hlt]
    exact List.getElem_mem hlt
  · cases hx
theorem flat_getD (ls : List (List Int)) : (List.range ls.length).flatMap (fun k => ls.getD k []) = ls.flatten := by
  have e : (List.range ls.length).map (fun k => ls.getD k []) = ls := by
    apply List.ext_getElem?
    intro i
    by_cases h : i < ls.length
    · rw [List.getElem?_map, List.getElem?_range h]
      show some (ls.getD i []) = _
      rw [List.getD_eq_getElem?_getD, List.getElem?_eq_getElem h]; rfl
    · rw [List.getElem?_eq_none (by simp; omega), List.getElem?_eq_none (by omega)]
  unfold List.flatMap
  rw [e]
/-- the law's plain side -/
theorem plain_all (hm : kd ∈ kds) (hg : ∀ p ∈ ps, PartG p) (hroom : limitOf kd.gs = room) (hw : wid (allF ps) ≤ room) {r : Nat} (hr : r < kd.chk) {tl : List Int} (htl : cbOut 20 genOf (putAll [] 0 (allBits room ps)) (blksOf kd.gs) = tl) :
    tl.length = (ownA (kd.szs.getLast?.getD 0) kd.szs ++ ownB kd.chk kd.szs.length).length ∧ Byts tl ∧
      (∀ b ∈ dist kd.szs.length (tl.zip (ownA (kd.szs.getLast?.getD 0) kd.szs ++ ownB kd.chk kd.szs.length)), Byts b ∧ hor r b = 0 ∧ b.length ≤ 100) ∧
      wdOf (dist kd.szs.length (tl.zip (ownA (kd.szs.getLast?.getD 0) kd.szs ++ ownB kd.chk kd.szs.length))) kd.szs kd.szs.length = putAll [] 0 (allBits room ps) := by
  have hok := kd_ok kd hm
  have hlim := limit_eq hok
  obtain ⟨m1, m2⟩ := kd_mx kd hm
  have hsum := hok.sum
  obtain ⟨_, wb, wl, _⟩ := words_ok (room := room) (by omega) (by omega) (fun p hp => (hg p hp).1) hw (wd := putAll [] 0 (allBits room ps)) rfl
  obtain ⟨i1, i2, i3, i4, i5⟩ := blocks_all hm hg (by omega) hw (wd := putAll [] 0 (allBits room ps)) rfl wb hr kd.szs 0 hok.sz (by omega)
  unfold cbOut at htl
  rw [m1, m2, hok.blks] at htl
  have hdl := dcs_length (putAll [] 0 (allBits room ps)) (kd.szs.map fun s => (s + kd.chk, s)) 0
  have hel := ecs_length 20 genOf (putAll [] 0 (allBits room ps)) (kd.szs.map fun s => (s + kd.chk, s)) 0
  rw [List.length_map] at hdl hel
  generalize dcs (putAll [] 0 (allBits room ps)) 0 (kd.szs.map fun s => (s + kd.chk, s)) = D at *
  generalize ecs 20 genOf (putAll [] 0 (allBits room ps)) 0 (kd.szs.map fun s => (s + kd.chk, s)) = C at *
  have hD : ∀ l ∈ D, l.length ≤ kd.szs.getLast?.getD 0 := fun l hl => hok.last _ (by rw [← i1]; exact List.mem_map_of_mem hl)
  obtain ⟨q1, q2⟩ := dist_eq (mx := kd.szs.getLast?.getD 0) (chk := kd.chk) (ls := D) (es := C) (by omega) hD fun e he => (i3 e he).2
  rw [i1, hdl, htl] at q1 q2
  refine ⟨q1, fun x hx => ?_, by rw [q2]; exact i4, ?_⟩
  · rw [← htl] at hx
    rcases List.mem_append.mp hx with hx | hx
    · obtain ⟨l, hl, hxl⟩ := inter_mem hx
      exact i2 l hl x hxl
    · obtain ⟨l, hl, hxl⟩ := inter_mem hx
      exact (i3 l hl).1 x hxl
  · rw [q2]
    have e : wdOf (List.zipWith (· ++ ·) D C) kd.szs kd.szs.length = D.flatten := by
      rw [← flat_getD D, ← hdl]
      unfold wdOf
      rw [hdl]
      refine flatMap_same fun k hk => ?_
      have hk1 : k < D.length := by omega
      have hk2 : k < C.length := by omega
      have hz : (List.zipWith (· ++ ·) D C).getD k [] = D[k] ++ C[k] := by
        rw [List.getD_eq_getElem?_getD, List.getElem?_zipWith, List.getElem?_eq_getElem hk1, List.getElem?_eq_getElem hk2]; rfl
      have hs : kd.szs.getD k 0 = D[k].length := by
        conv => lhs; rw [← i1]
        rw [List.getD_eq_getElem?_getD, List.getElem?_map, List.getElem?_eq_getElem hk1]; rfl
      rw [hz, hs, List.take_left, List.getD_eq_getElem?_getD, List.getElem?_eq_getElem hk1]; rfl
    rw [e, i5, List.drop_zero, List.take_of_length_le (by omega)]
end
end
section
open PySem PySem.W PySem.Calls PyProof.Rows
theorem pick_upto (vs : List Value) {b : Int} (h : 0 ≤ b) : (slicePick vs.toArray none (some b) none).toList = vs.take b.toNat := by
  obtain ⟨k, rfl⟩ := Int.eq_ofNat_of_zero_le h
  rw [slicePick_upto']; simp
theorem pick_from (vs : List Value) {b : Int} (h : 0 ≤ b) : (slicePick vs.toArray (some b) none none).toList = vs.drop b.toNat := by
  obtain ⟨k, rfl⟩ := Int.eq_ofNat_of_zero_le h
  rw [slicePick_from']; simp
theorem eight_take (ns : List Int) : (ns.drop (2 : Int).toNat).take (min (10 : Int).toNat ns.length - (2 : Int).toNat) = (ns.drop 2).take 8 := by
  have e1 : (2 : Int).toNat = 2 := rfl
  have e2 : (10 : Int).toNat = 10 := rfl
  rw [e1, e2]
  by_cases h : 10 ≤ ns.length
  · rw [Nat.min_eq_left h]
  · rw [Nat.min_eq_right (by omega), List.take_of_length_le (by simp), List.take_of_length_le (by simp; omega)]
/-- the first two, noughts behind -/
theorem two_of {vs : List Value} {ns : List Int} (hi : IntsAre vs ns) (t u : Tok) : ∃ t' u', (vs.take 2 ++ [Value.int 0 t, Value.int 0 u]).take 2 = [Value.int (ns.getD 0 0) t', Value.int (ns.getD 1 0) u'] := by
  cases hi with
  | nil => exact ⟨_, _, rfl⟩
  | cons i ti hi =>
    cases hi with
    | nil => exact ⟨_, _, rfl⟩
    | cons j tj hi => exact ⟨_, _, rfl⟩
def qOf (x : Int) : Nat := if x % 12 < 8 then (x % 12).toNat else (x % 12 - 8).toNat
theorem qOf_lt (x : Int) : qOf x < 8 := by unfold qOf; split <;> omega
theorem gl_sumB (P : Params) : Gl (KK P) "sum" (.builtin "sum") := gl_sum P
local macro_rules | `(tactic| kt_eqs) => `(tactic| first | with_reducible exact kp582 _ | with_reducible exact kp589 _ | with_reducible exact kp601 _ | with_reducible exact kp596 _ | with_reducible exact kc479 _ | with_reducible exact at479_mode _ | with_reducible exact at479_data _ | exact kp582 _ | exact kp589 _ | exact kp601 _ | exact kp596 _ | exact kc479 _ | exact at479_mode _ | exact at479_data _)
local macro_rules | `(tactic| kt_ors) => `(tactic| first | with_reducible exact gl__law_kinds _ | with_reducible exact gl_sum _ | with_reducible exact gl_len _ | with_reducible exact gl__law_parts _ | with_reducible exact gl__law_made _ | with_reducible exact gl_range _ | with_reducible exact gl_zip _ | with_reducible exact gl__law_powers _ | with_reducible exact gl__law_more _ | with_reducible exact gl__law_logs _ | with_reducible exact gl__law_high _ | with_reducible exact gl__law_told _ | with_reducible exact gl_min _ | with_reducible exact gl__law_taken _ | with_reducible exact gl_QRData _ | with_reducible exact gl_isinstance _ | with_reducible exact gl_int _ | exact gl__law_kinds _ | exact gl_sum _ | exact gl_len _ | exact gl__law_parts _ | exact gl__law_made _ | exact gl_range _ | exact gl_zip _ | exact gl__law_powers _ | exact gl__law_more _ | exact gl__law_logs _ | exact gl__law_high _ | exact gl__law_told _ | exact gl_min _ | exact gl__law_taken _ | exact gl_QRData _ | exact gl_isinstance _ | exact gl_int _)
local macro_rules | `(tactic| cell_call) => `(tactic| ((with_reducible show wpAny _ _ (subscriptTail _ _ (Value.ref _) (Value.ref _)) _ _ _); (fail_if_success (with_reducible show wpAny _ _ (subscriptTail (PySem.Expr.Name _ _) _ _ _) _ _ _)); (with_reducible refine kba_turn (value' := PySem.Expr.Name (PySem.Str.ofString "_") ⟨0, 0, 0, 0⟩) (fun _ => rfl) ?_)))
section
variable {mg mb : Str → Option Value} {prog : Program} {w : World} {A : Around} {E : Value → Shared → Prop} {o : OsP} {B : Heap} {env : Env} {l l' : Vars} {c c' : Cels} {n n' pre post : Ledg} {s s' : Shared} {R : Result → Shared → Prop}
structure RwY where
  hi : Ledg
  nn : Ledg
  rvs : List Value
  rk : Nat
  a : Option Value
  b : Option Value
theorem octet_at {m : Nat} (hm : m = 1 ∨ m = 2 ∨ m = 4) {b : Array UInt8} {vals : List Nat} (hb : KBw.bInts b = octs m vals) {c : UInt8} (hc : c ∈ b.toList) : ∃ v ∈ vals, c.toNat = octet m v := by
  have h := byt_of (ks := vals.map (octet m)) (by rw [hb]; unfold octs; rw [List.map_map]; rfl)
  have hm' : c.toNat ∈ b.toList.map (·.toNat) := List.mem_map_of_mem hc
  rw [h] at hm'
  obtain ⟨v, hv, e⟩ := List.mem_map.mp hm'
  exact ⟨v, hv, e.symm⟩
theorem dig_ok : ∀ v < 10, Builtin.Bytes.isDigit (signTab.getD v 0).toUInt8 = true := by decide +kernel
theorem alp_ok : ∀ v < 45, alphaIn (signTab.getD v 0).toUInt8 = true := by decide +kernel
theorem opt_le {b : Array UInt8} {m : Nat} {vals : List Nat} (hb : KBw.bInts b = octs m vals) (hm : m = 1 ∨ m = 2 ∨ m = 4) (hv : ∀ v ∈ vals, v < radixOf m) (hne : vals ≠ []) : optM b ≤ m := by
  have hcs : ∀ c ∈ b.toList, ∃ v ∈ vals, c = (octet m v).toUInt8 := fun c hc => by
    obtain ⟨v, hv, e⟩ := octet_at hm hb hc
    exact ⟨v, hv, by rw [← e]; simp⟩
  have hbne : b.toList ≠ [] := fun e => by
    have h := byt_of (ks := vals.map (octet m)) (by rw [hb]; unfold octs; rw [List.map_map]; rfl)
    rw [e] at h
    exact hne (List.map_eq_nil_iff.mp h.symm)
  unfold optM
  rcases hm with rfl | rfl | rfl
  · rw [if_pos]
    · decide
    · unfold Builtin.Bytes.allOf
      rw [Bool.and_eq_true, Bool.not_eq_true', List.all_eq_true]
      refine ⟨by cases h : b.toList <;> simp_all, fun c hc => ?_⟩
      obtain ⟨v, hvm, rfl⟩ := hcs c hc
      exact dig_ok v (hv v hvm)
  · split
    · decide
    · rw [if_pos]
      · decide
      · rw [List.all_eq_true]
        intro c hc
        obtain ⟨v, hvm, rfl⟩ := hcs c hc
        exact alp_ok v (hv v hvm)
  · split
    · decide
    · split <;> decide
theorem last_cast (xs : List Nat) : (xs.map fun (x : Nat) => (x : Int)).getD (xs.length - 1) 0 = (xs.getLast?.getD 0 : Nat) := by
  rw [List.getD_eq_getElem?_getD, List.getElem?_map, List.getLast?_eq_getElem?]
  cases xs[xs.length - 1]? <;> rfl
theorem getD_cast (xs : List Nat) (i : Nat) : (xs.map fun (x : Nat) => (x : Int)).getD i 0 = (xs.getD i 0 : Nat) := by
  rw [List.getD_eq_getElem?_getD, List.getElem?_map, List.getD_eq_getElem?_getD]
  cases xs[i]? <;> rfl
theorem cellE_range {a st : Int} {N i : Nat} {ob : Obj} (h : rangeItP a st N i ob) : cellE ob = false := by unfold rangeItP at h; subst h; rfl
structure BlY where
  hi : Ledg
  vs : List Value
  vk : Nat
  a : Option Value
noncomputable def ob567 : { vs : List Value // ∀ P, (KK P).lookup 567 = some (listOf vs.toArray 0) } := ⟨_, fun _ => rfl⟩
noncomputable def ob568 : { vs : List Value // ∀ P, (KK P).lookup 568 = some (listOf vs.toArray 0) } := ⟨_, fun _ => rfl⟩
noncomputable def ob569 : { vs : List Value // ∀ P, (KK P).lookup 569 = some (listOf vs.toArray 0) } := ⟨_, fun _ => rfl⟩
noncomputable def ob570 : { vs : List Value // ∀ P, (KK P).lookup 570 = some (listOf vs.toArray 0) } := ⟨_, fun _ => rfl⟩
theorem pows : IntsAre (ob567.1 ++ ob568.1) (expTab.take 255) := intsAre_of (by kernel_rfl)
theorem logsT : IntsAre (ob569.1 ++ ob570.1) logTab := intsAre_of (by kernel_rfl)
theorem powl : ob567.1.length + ob568.1.length ≤ 1000000 := Nat.le_of_ble_eq_true (by kernel_rfl)
theorem logl : ob569.1.length + ob570.1.length ≤ 1000000 := Nat.le_of_ble_eq_true (by kernel_rfl)
structure WoY where
  uw : Option Value
  uh : Option Value
structure WiY where
  t : Tok
structure WdY where
  hi : Ledg
  vs : List Value
  vk : Nat
  a : Option Value
  b : Option Value
theorem ints_repl {vs : List Value} {ns : List Int} (h : IntsAre vs ns) : ∀ k, IntsAre (List.replicate k vs).flatten (List.replicate k ns).flatten
  | 0 => .nil
  | k + 1 => by
    rw [List.replicate_succ, List.replicate_succ, List.flatten_cons, List.flatten_cons]
    exact h.append (ints_repl h k)
structure ZpY where
  bseg : Ledg
  uk : Option Value
  uw : Option Value
structure OwY where
  vs : List Value
  vk : Nat
  a : Option Value
  b : Option Value
structure PmY where
  hi : Ledg
  vs : List Value
  vk : Nat
  a : Option Value
theorem bInts_inj {b b' : Array UInt8} (h : KBw.bInts b = KBw.bInts b') : b.toList = b'.toList := by
  have h' : b.toList.map (fun c : UInt8 => (c.toNat : Int)) = b'.toList.map (fun c : UInt8 => (c.toNat : Int)) := h
  refine List.map_inj_right (fun x y e => ?_) |>.mp h'
  exact UInt8.toNat_inj.mp (by omega)
theorem tups_at (S : St o B env l c n s) {A' : Around} {vs ws : List Value} {ps : List (Nat × List Nat)} (h1 : TupsAre n vs ps) (h2 : TupsAre n ws ps) (hu : A'.units < cLine) : ∀ j (j1 : j < vs.toArray.size) (j2 : j < ws.toArray.size), SeqAt.EqAt A' s vs.toArray[j] ws.toArray[j] ((fun _ => true) j) := fun j j1 j2 => by
  simp only [List.size_toArray] at j1 j2
  simp only [List.getElem_toArray]
  obtain ⟨p, hp, t, tm, b, tb, e, hm, hb⟩ := h1.at (List.getElem?_eq_getElem j1)
  obtain ⟨p', hp', t', tm', b', tb', e', hm', hb'⟩ := h2.at (List.getElem?_eq_getElem j2)
  rw [hp] at hp'
  cases hp'
  rw [e, e']
  exact pair_eq S (.n hm) (.n hm') (bInts_inj (hb.trans hb'.symm)) hu
theorem tups_ne (S : St o B env l c n s) {a b : Addr} {vs ws : List Value} {k j : Nat} {ps : List (Nat × List Nat)} {Q : Value → Shared → Prop} (h1 : TupsAre n vs ps) (h2 : TupsAre n ws ps) (ha : (a, listOf vs.toArray k) ∈ n) (hb : (b, listOf ws.toArray j) ∈ n) (hu : A.units + 2 < cLine) (h : Q (.bool false) s) :
    wpAny (model prog w) A (compareOp .NotEq (.ref a) (.ref b)) Q E s := by
  refine SeqAt.RcNeAt.lists (e := fun _ => true) (S.isList (.n ha)) (S.isList (.n hb)) (by rw [List.size_toArray, List.size_toArray, h1.length, h2.length]) (by omega) (tups_at S h1 h2 (by show A.units + 1 < _; omega)) prog w E Q ?_
  rw [List.all_eq_true.mpr (fun _ _ => rfl)]
  exact h
theorem tups_eq (S : St o B env l c n s) {a b : Addr} {vs ws : List Value} {k j : Nat} {ps : List (Nat × List Nat)} {Q : Value → Shared → Prop} (h1 : TupsAre n vs ps) (h2 : TupsAre n ws ps) (ha : (a, listOf vs.toArray k) ∈ n) (hb : (b, listOf ws.toArray j) ∈ n) (hu : A.units + 2 < cLine) (h : Q (.bool true) s) :
    wpAny (model prog w) A (compareOp .Eq (.ref a) (.ref b)) Q E s := by
  refine SeqAt.RcAt.lists (e := fun _ => true) (S.isList (.n ha)) (S.isList (.n hb)) (by rw [List.size_toArray, List.size_toArray, h1.length, h2.length]) (by omega) (tups_at S h1 h2 (by show A.units + 1 < _; omega)) prog w E Q ?_
  rw [List.all_eq_true.mpr (fun _ _ => rfl)]
  exact h
theorem law_spec {sa : Addr} {vs : List Value} {kz : Nat} {ns : List Int} (hn : ∀ p ∈ n, s.heap.get? p.1 = some p.2) (hord : (n.map (·.1)).Pairwise (· > ·)) (hos : AllBare s.gens) (TG : BaseG (KK w.params) mg mb (hideAll s.heap (n.map (·.1)))) (hst : A.frames = some []) (hr : Room A 160 1600)
    (Lc1 : CodeLed (hideAll s.heap (n.map (·.1))) n 548 544) (Lc2 : CodeLed (hideAll s.heap (n.map (·.1))) n 439 435) (hsa : Has (hideAll s.heap (n.map (·.1))) n sa (listOf vs.toArray kz)) (hi : IntsAre vs ns) (hz : ns.length ≤ 63)
    (h : ∀ env' l' c' n' s', (∃ ps, (544, recOb ps) ∈ n') → (∃ ps, (435, recOb ps) ∈ n') → St (osB s.os) (hideAll s.heap (n.map (·.1))) env' l' c' n' s' → R (.ok (.ret (.bool true))) s') :
    codeAny (model prog w) A (.call (.ref 606) ⟨[.ref sa], []⟩) R s := by
  refine fn_callTop (o := osB s.os) (binds := [("script", .ref sa)]) (l' := [("script", some (.ref sa)), ("first", none), ("second", none), ("version", none), ("level", none), ("checks", none), ("room", none), ("parts", none), ("over", none), ("rows", none), ("told", none), ("k", none), ("owners", none), ("word", none), ("powers", none), ("logs", none), ("block", none), ("worth", none), ("words", none), ("heard", none), ("at", none), ("end", none)])
    hn hord ⟨rfl, hos⟩ TG.toBase hr.dep (fs606.2 _) (cd606 _) rfl ok606 (BindsTo.of_eq (by kernel_rfl)) (by kernel_rfl) ?_
  have K₀ : Below A (hideAll s.heap (n.map (·.1))) [] (hideAll s.heap (n.map (·.1))) := ⟨hst, fun _ _ e => e, trivial⟩
  generalize hB : hideAll s.heap (n.map (·.1)) = B at *

  generalize hoo : s.os = o₀ at *
  clear hB hn hos
  clear hoo
  intro L cls s hcl S
  have hr : Room (A.deeper (envF fs606.1 L 606)) 159 1597 := Room.deeper hr.le

  have hce : celsOf fs606.1 L [("script", .ref sa)] = ([("blocks", L + 3, none), ("count", L + 2, none), ("sizes", L + 1, none)] : Cels) := by kernel_rfl
  rw [hce] at S hcl
  cases hcl with
  | cons hcd1 hcl =>
  cases hcl with
  | cons hcd2 hcl =>
  cases hcl with
  | cons hcd3 hcl =>
  cases hcl
  rename_i ob1 ob2 ob3
  simp only [List.cons_append, List.nil_append] at S
  have T := TG.toBase
  have G := EvG.of (env := envF fs606.1 L 606) gn606 rfl rfl
  have hh := hr.handled
  have hvl := hi.length
  generalize ha0 : ns.getD 0 0 = a0
  generalize ha1 : ns.getD 1 0 = a1
  have hpu := fun b (h : (0 : Int) ≤ b) => pick_upto vs h
  refine x_cut (fun s' => ∃ pre t u, St (osB o₀) B (envF fs606.1 L 606) [("script", some (.ref sa)), ("first", some (.int a0 t)), ("second", some (.int a1 u)), ("version", none), ("level", none), ("checks", none), ("room", none), ("parts", none), ("over", none), ("rows", none), ("told", none), ("k", none), ("owners", none), ("word", none), ("powers", none), ("logs", none), ("block", none), ("worth", none), ("words", none), ("heard", none), ("at", none), ("end", none)]
    [("blocks", L + 3, none), ("count", L + 2, none), ("sizes", L + 1, none)] (pre ++ (L + 3, ob1) :: (L + 2, ob2) :: (L + 1, ob3) :: n) s') ?_ ?_
  · repeat cell_call
    rename_i t1 _ _ t2 _ _ a5 s S
    rw [pick_upto vs (by decide)] at S
    have e2 : (2 : Int).toNat = 2 := rfl
    rw [e2] at S
    refine r_addL S (.n (.tail _ (.head _))) (.n (.head _)) (by simp; omega) fun D s S => ?_
    have hln : (vs.take 2 ++ [Value.int 0 t1, Value.int 0 t2]).length ≤ 1000000 := by simp; omega
    repeat cell_call
    rename_i S
    rw [pick_upto _ (by decide)] at S
    obtain ⟨t', u', he⟩ := two_of hi t1 t2
    rw [e2, he, ha0, ha1] at S
    refine x_asgLst hh S (.n (.head _)) rfl ?hst fun s S => ?_
    case hst => kernel_rfl
    repeat cell_call
    rename_i S
    exact ⟨rfl, [_, _, _, _], _, _, S⟩
  · rintro s ⟨pre, t1, t2, S⟩
    obtain ⟨kd, hkd, hrow⟩ := kd_row w.params (qOf_lt a0)
    obtain ⟨⟨tq, sz, tk1, tk2, tk4, svs, kz', r1, r2, r3, r4⟩, hkind, hgen⟩ := id hrow
    have hok := kd_ok kd (List.mem_of_getElem? hkd)
    have hq := qOf_lt a0
    have hqe : ∀ x : Int, ((a0.fmod 12 < 8 ∧ x = a0.fmod 12) ∨ (¬ a0.fmod 12 < 8 ∧ x = a0.fmod 12 - 8)) → x = (qOf a0 : Nat) := fun x hx => by
      rw [Int.fmod_eq_emod_of_nonneg _ (by decide)] at hx
      unfold qOf
      rcases hx with ⟨h1, h2⟩ | ⟨h1, h2⟩
      · rw [if_pos h1]; omega
      · rw [if_neg h1]; omega
    generalize hqq : qOf a0 = q at *
    refine x_cut (fun s' => ∃ pre t u t3 t4 t5 ob3, ob3.data = .cell (some (.ref sz)) ∧ St (osB o₀) B (envF fs606.1 L 606) [("script", some (.ref sa)), ("first", some (.int a0 t)), ("second", some (.int a1 u)), ("version", some (.int kd.ver t3)), ("level", some (.int kd.lvl t4)), ("checks", some (.int kd.chk t5)), ("room", none), ("parts", none), ("over", none), ("rows", none), ("told", none), ("k", none), ("owners", none), ("word", none), ("powers", none), ("logs", none), ("block", none), ("worth", none), ("words", none), ("heard", none), ("at", none), ("end", none)]
      [("blocks", L + 3, none), ("count", L + 2, none), ("sizes", L + 1, some (.ref sz))] (pre ++ (L + 3, ob1) :: (L + 2, ob2) :: (L + 1, ob3) :: n) s') ?_ ?_
    · repeat cell_call
      refine r_iteD (fun hd => ?_) (fun hd => ?_)
      · repeat cell_call
        rename_i S
        rw [hqe _ (.inl ⟨hd, rfl⟩)]
        refine r_item (S.isList (.b (T.kin _ _ (ob566.2 _)))) (by omega) (by omega) (v := .ref tq) ?hx ?_ ?hs
        case hx => rw [ob566_eq, Int.toNat_natCast]; exact r1
        case hs => kernel_rfl
        refine x_asgTup hh S (.b (T.kin _ _ r2)) rfl ?hst fun s S => ?_
        case hst => kernel_rfl
        repeat cell_call
        rename_i hob _ s S
        exact ⟨rfl, _, _, _, _, _, _, _, hob, S⟩
      · repeat cell_call
        rename_i S
        rw [hqe _ (.inr ⟨hd, rfl⟩)]
        refine r_item (S.isList (.b (T.kin _ _ (ob566.2 _)))) (by omega) (by omega) (v := .ref tq) ?hx ?_ ?hs
        case hx => rw [ob566_eq, Int.toNat_natCast]; exact r1
        case hs => kernel_rfl
        refine x_asgTup hh S (.b (T.kin _ _ r2)) rfl ?hst fun s S => ?_
        case hst => kernel_rfl
        repeat cell_call
        rename_i hob _ s S
        exact ⟨rfl, _, _, _, _, _, _, _, hob, S⟩
    rintro s ⟨pre, t1, t2, t3, t4, t5, ob3, hob3, S⟩
    clear hcd3
    have hlim : limitOf kd.gs = 8 * kd.szs.sum := by
      unfold limitOf
      rw [hok.blks, List.map_map]
      congr 2
      exact List.map_id'' (fun _ => rfl) _
    have hroom : (8 : Int) * (kd.szs.map fun (x : Nat) => (x : Int)).sum = (limitOf kd.gs : Nat) := by
      rw [hlim]
      have : ∀ xs : List Nat, (xs.map fun (x : Nat) => (x : Int)).sum = (xs.sum : Nat) := by
        intro xs
        induction xs with
        | nil => rfl
        | cons x xs ih => simp [ih]
      rw [this]; omega
    have hlm : limitOf kd.gs ≤ 368 := by have := hok.sum; omega
    have hszB := T.kin _ _ r3
    have hone := hok.one
    have hr4l := r4.length
    rw [List.length_map] at hr4l
    generalize hrm : limitOf kd.gs = room at *
    refine x_cut (fun s' => ∃ pre t u t3 t4 t5 t6 t7 ob2, ob2.data = .cell (some (.int (kd.szs.length : Nat) t7)) ∧ St (osB o₀) B (envF fs606.1 L 606) [("script", some (.ref sa)), ("first", some (.int a0 t)), ("second", some (.int a1 u)), ("version", some (.int kd.ver t3)), ("level", some (.int kd.lvl t4)), ("checks", some (.int kd.chk t5)), ("room", some (.int (room : Nat) t6)), ("parts", none), ("over", none), ("rows", none), ("told", none), ("k", none), ("owners", none), ("word", none), ("powers", none), ("logs", none), ("block", none), ("worth", none), ("words", none), ("heard", none), ("at", none), ("end", none)]
      [("blocks", L + 3, none), ("count", L + 2, some (.int (kd.szs.length : Nat) t7)), ("sizes", L + 1, some (.ref sz))] (pre ++ (L + 3, ob1) :: (L + 2, ob2) :: (L + 1, ob3) :: n) s') ?_ ?_
    · refine x_assignT ?hs ?hw ?_
      case hs => kernel_rfl
      case hw => kernel_rfl
      repeat cell_call
      rename_i S
      refine r_sumInts hh S (.b hszB) r4 fun t s S => ?_
      have hszl : (kd.szs.map fun (x : Nat) => (x : Int)).length = kd.szs.length := List.length_map _
      repeat cell_call
      rename_i ob' s hob S
      rw [hroom, hszl] at S
      rw [hszl] at hob
      exact ⟨rfl, _ :: pre, _, _, _, _, _, _, _, _, hob, S⟩
    rintro s ⟨pre, t1, t2, t3, t4, t5, t6, t7, ob2, hob2, S⟩
    clear hcd2
    generalize hov : decide ((a0.fdiv 12).fmod 3 = 1) = ov
    generalize hpr : partsR ov ((ns.drop 2).take 8) (room : Nat) [] = pr
    obtain ⟨parts, over⟩ := pr
    refine x_cut (fun s' => ∃ pre t u t3 t4 t5 t6 pl pvs pk, TupsAre pre pvs parts ∧ (pl, listOf pvs.toArray pk) ∈ pre ∧ St (osB o₀) B (envF fs606.1 L 606) [("script", some (.ref sa)), ("first", some (.int a0 t)), ("second", some (.int a1 u)), ("version", some (.int kd.ver t3)), ("level", some (.int kd.lvl t4)), ("checks", some (.int kd.chk t5)), ("room", some (.int (room : Nat) t6)), ("parts", some (.ref pl)), ("over", some (.bool over)), ("rows", none), ("told", none), ("k", none), ("owners", none), ("word", none), ("powers", none), ("logs", none), ("block", none), ("worth", none), ("words", none), ("heard", none), ("at", none), ("end", none)]
      [("blocks", L + 3, none), ("count", L + 2, some (.int (kd.szs.length : Nat) t7)), ("sizes", L + 1, some (.ref sz))] (pre ++ (L + 3, ob1) :: (L + 2, ob2) :: (L + 1, ob3) :: n) s') ?_ ?_
    · repeat cell_call
      rename_i D _ _ _ _ _ _ _ _ _ S
      have hD := kmk_run (x := 2) (y := 10) hi (by decide) (by decide)
      rw [eight_take] at hD
      rw [hov]
      refine parts_call S T hr.le (.n (by tb_rel)) hD (by simp; omega) (by omega) (by omega) fun add pl tt pvs pk s hT hpl htt S => ?_
      rw [hpr] at hT htt
      refine x_asgTup hh S (.n (List.mem_append_left _ htt)) rfl ?hst fun s S => ?_
      case hst => kernel_rfl
      repeat cell_call
      rename_i S
      simp only [← List.cons_append, ← List.append_assoc] at S
      exact ⟨rfl, _, _, _, _, _, _, _, pl, pvs, pk, hT.mono fun p _ hp => by simp [hp], by simp [hpl], S⟩
    rintro s ⟨pre, t1, t2, t3, t4, t5, t6, pl, pvs, pk, hT, hpl, S⟩
    have hpi := parts_inv ov ((ns.drop 2).take 8) (room : Nat) [] (by omega) (fun _ hp => nomatch hp)
    rw [hpr] at hpi
    dsimp only at hpi
    have hgood : ∀ p ∈ parts, PartG p := hpi.1
    have hover0 : over = decide (room < wid (allF parts)) := by
      refine hpi.2.2.trans ?_
      apply decide_eq_decide.mpr
      have e : ((wid (allF ([] : List (Nat × List Nat))) : Nat) : Int) = 0 := rfl
      rw [e]
      omega
    have hparts : (∀ p ∈ parts, PartOk p ∧ p.2 ≠ []) ∧ parts.length ≤ 8 := by
      refine ⟨fun p hp => ⟨(hgood p hp).1, (hgood p hp).2.1⟩, ?_⟩
      have := hpi.2.1
      rw [List.length_take] at this
      simp only [List.length_nil] at this
      omega
    have hpvl := hT.length
    refine x_cut (fun s' => ∃ pre n t u t3 t4 t5 t6 rl rvs rk, RowsAre w.params pre rvs parts ∧ (rl, listOf rvs.toArray rk) ∈ pre ∧ TupsAre pre pvs parts ∧ (pl, listOf pvs.toArray pk) ∈ pre ∧ CodeLed B n 548 544 ∧ CodeLed B n 439 435 ∧ St (osB o₀) B (envF fs606.1 L 606) [("script", some (.ref sa)), ("first", some (.int a0 t)), ("second", some (.int a1 u)), ("version", some (.int kd.ver t3)), ("level", some (.int kd.lvl t4)), ("checks", some (.int kd.chk t5)), ("room", some (.int (room : Nat) t6)), ("parts", some (.ref pl)), ("over", some (.bool over)), ("rows", some (.ref rl)), ("told", none), ("k", none), ("owners", none), ("word", none), ("powers", none), ("logs", none), ("block", none), ("worth", none), ("words", none), ("heard", none), ("at", none), ("end", none)]
      [("blocks", L + 3, none), ("count", L + 2, some (.int (kd.szs.length : Nat) t7)), ("sizes", L + 1, some (.ref sz))] (pre ++ (L + 3, ob1) :: (L + 2, ob2) :: (L + 1, ob3) :: n) s') ?_ ?_
    · --CUT
      refine x_compA (cl := []) ?hsw ?ha ?hcl ?hok ?hf ?_
      case ha => rfl
      case hsw => kernel_rfl
      case hcl => kernel_rfl
      case hok => kernel_rfl
      case hf => (intro _; kernel_rfl)
      repeat cell_call
      rename_i S
      refine r_iterList S (.n (List.mem_append_left _ hpl)) fun it ob s hob S => ?_
      refine' comp_enterA (lc := [(("mode" : Str), none), ("octets", none)]) (cc := []) S T ?hok ?hev ?hlc ?hcc ?hcl ?hput ?hbody
      case hok => kernel_rfl
      case hev => kernel_rfl
      case hlc => simp
      case hcc => exact List.nil_sublist _
      case hcl => simp
      case hput => (intro _; tb_start)
      case hbody =>
        intro g C acc s S' T' ext'
        have G' := evg_st S' ["QRData"] (by kernel_rfl) rfl rfl
        have TG' := TG.keeps ext'
        have hhc := hT.mono (n' := pre ++ (L + 3, ob1) :: (L + 2, ob2) :: (L + 1, ob3) :: n) fun p _ hp => List.mem_append_left _ hp
        refine comp_pairL (X := RwY) (g := g) (o := osB o₀) (la := pl) (items := pvs) hh (fun _ y => [(("mode" : Str), y.a), ("octets", y.b)]) [] (fun _ y => y.hi ++ [(acc, listOf y.rvs.toArray y.rk)]) (fun _ y => pre ++ (L + 3, ob1) :: (L + 2, ob2) :: (L + 1, ob3) :: y.nn)
          (fun i y => RowsAre w.params y.hi y.rvs (parts.take i) ∧ CodeLed B y.nn 548 544 ∧ CodeLed B y.nn 439 435 ∧ KeepsC n y.nn) ⟨[], n, [], 0, none, none⟩ hob S' ⟨.nil, Lc1, Lc2, .refl⟩ (fun ob i y s S => S.isList (.n (List.mem_append_right _ (.tail _ (List.mem_append_left _ hpl))))) (fun v hv => ?_) ?_ ?_
        · obtain ⟨i, hi', rfl⟩ := List.mem_iff_getElem.mp hv
          obtain ⟨_, _, T, _, _, _, e, _⟩ := hT.at (List.getElem?_eq_getElem hi')
          exact ⟨T, e⟩
        · rintro i y ob T s ⟨hR, hc1, hc2, hkc⟩ hit hob S
          obtain ⟨p, hp, T', tm, b, tb, e, hTm, hbi⟩ := hT.at hit
          cases e
          obtain ⟨hpo, hpne⟩ := hparts.1 p (List.mem_of_getElem? hp)
          refine x_asgTup hh S (.n (List.mem_append_right _ (.tail _ (List.mem_append_left _ hTm)))) rfl ?hst fun s S => ?_
          case hst => kernel_rfl
          repeat cell_call
          refine x_callKw T' ?he ?hs ?_
          case he => kernel_rfl
          case hs => kernel_rfl
          repeat cell_call
          refine ⟨kc479 _, ?_⟩
          repeat cell_call
          rename_i S
          refine new_QRData S TG' hr.le ((hc2.to ext').sub fun ps hp => List.mem_append_right _ (.tail _ (List.mem_append_right _ (.tail _ (.tail _ (.tail _ hp)))))) hpo.1 (opt_le hbi hpo.1 hpo.2.1 hpne) fun x d t1 t2 ps s hps S' => ?_
          obtain ⟨ps₀, hm₀, _⟩ := id hc2.2
          have S₁ := S
          have e1 : (y.hi ++ [(acc, listOf y.rvs.toArray y.rk)]) ++ (it, ob) :: (pre ++ (L + 3, ob1) :: (L + 2, ob2) :: (L + 1, ob3) :: y.nn) = ((y.hi ++ [(acc, listOf y.rvs.toArray y.rk)]) ++ (it, ob) :: (pre ++ [(L + 3, ob1), (L + 2, ob2), (L + 1, ob3)])) ++ y.nn := by simp
          rw [e1] at S₁ S'
          rw [putAt_app (S₁.aboveP hm₀)] at S'
          have hkc' := putAt_keepsC (y := recOb ps) hm₀ rfl (by
            have := S₁.ord
            rw [List.map_append, List.pairwise_append] at this
            exact this.2.1)
          have e2 : ∀ z, (x, instObj 479 d) :: (d, z) :: (((y.hi ++ [(acc, listOf y.rvs.toArray y.rk)]) ++ (it, ob) :: (pre ++ [(L + 3, ob1), (L + 2, ob2), (L + 1, ob3)])) ++ putAt y.nn 435 (recOb ps)) = (x, instObj 479 d) :: (d, z) :: (y.hi ++ (acc, listOf y.rvs.toArray y.rk) :: (it, ob) :: (pre ++ (L + 3, ob1) :: (L + 2, ob2) :: (L + 1, ob3) :: putAt y.nn 435 (recOb ps))) := fun z => by simp
          rw [e2] at S'
          clear S S₁
          have hrl := hR.length
          have hpl8 := hparts.2
          have hrl2 : y.rvs.length ≤ 8 := by rw [hrl, List.length_take]; omega
          repeat cell_call
          rename_i S
          refine ⟨⟨(x, instObj 479 d) :: (d, dictOf (qrD w.params t1 t2 p.1 tm b tb) 2) :: y.hi, putAt y.nn 435 (recOb ps), y.rvs ++ [Value.ref x], y.rk + 1, some (.int p.1 tm), some (.bytes b tb)⟩, And.intro ?_ (And.intro (hc1.put hps) (And.intro (hc2.put hps) (hkc.trans hkc'))), ?_⟩
          rotate_left
          · show St _ _ _ _ _ ((((x, instObj 479 d) :: (d, dictOf (qrD w.params t1 t2 p.1 tm b tb) 2) :: y.hi) ++ [(acc, listOf (y.rvs ++ [Value.ref x]).toArray (y.rk + 1))]) ++ (it, ob) :: _) _
            rw [List.append_assoc]
            exact S
          · show RowsAre _ _ (y.rvs ++ [Value.ref x]) _
            rw [List.take_add_one, hp]
            exact (hR.mono fun p _ hp => .tail _ (.tail _ hp)).append (.cons ⟨x, d, t1, t2, tm, b, tb, rfl, .head _, .tail _ (.head _), hbi⟩ .nil)
        · rintro y s ⟨hR, hc1, hc2, hkc⟩ S
          rw [List.take_of_length_le (by omega)] at hR
          have hKC : KeepsC (pre ++ (L + 3, ob1) :: (L + 2, ob2) :: (L + 1, ob3) :: n) (pre ++ (L + 3, ob1) :: (L + 2, ob2) :: (L + 1, ob3) :: y.nn) := KeepsC.app _ (.cons (.cons (.cons hkc)))
          refine ⟨_, _, _, S, ?_, fun s S => ?_⟩
          · exact .gone (cellE_of_fields hob.2) (.newApp _ hKC)
          · refine ⟨rfl, (y.hi ++ [(acc, listOf y.rvs.toArray y.rk)]) ++ pre, y.nn, t1, t2, t3, t4, t5, t6, acc, y.rvs, y.rk, hR.mono fun p _ hp => by simp [hp], by simp, hT.mono fun p _ hp => by simp [hp], by simp [hpl], hc1, hc2, ?_⟩
            rw [List.append_assoc]
            exact S
    clear Lc1 Lc2 hsa
    rintro s ⟨pre, n, t1, t2, t3, t4, t5, t6, rl, rvs, rk, hR, hrl, hT, hpl, Lc1, Lc2, S⟩
    have hmod : wid (allF parts) ≤ room → ∀ i b, (blksOf kd.gs)[i]? = some b → ModOk 20 (rawOf (genOf (b.1 - b.2)) (dcOf (putAll [] 0 (allBits room parts)) (offs ((blksOf kd.gs).take i)) b.2)) (genOf (b.1 - b.2)) := fun hfit => mod_all (List.mem_of_getElem? hkd) hgood hrm hfit
    have hgb : ∀ b ∈ blksOf kd.gs, b.2 ≤ b.1 ∧ b.1 ≤ 100 ∧ 1 ≤ b.2 ∧ GenOk w.params (b.1 - b.2) (genOf (b.1 - b.2)) := by
      intro b hb
      rw [hok.blks] at hb
      obtain ⟨x, hx, rfl⟩ := List.mem_map.mp hb
      have h1 := hok.sz x hx
      have h2 := hok.chk
      have e : x + kd.chk - x = kd.chk := by omega
      refine ⟨by dsimp only; omega, by dsimp only; omega, by dsimp only; omega, ?_⟩
      dsimp only
      rw [e]
      exact hgen
    have hbl : (blksOf kd.gs).length ≤ 10 := by rw [hok.blks, List.length_map]; omega
    generalize htl : cbOut 20 genOf (putAll [] 0 (allBits room parts)) (blksOf kd.gs) = tl
    refine x_cut (fun s' => ∃ pre n t u t3 t4 t5 t6 rl rvs rk tv, RowsAre w.params pre rvs parts ∧ (rl, listOf rvs.toArray rk) ∈ pre ∧ TupsAre pre pvs parts ∧ (pl, listOf pvs.toArray pk) ∈ pre ∧ ((wid (allF parts) ≤ room ∧ ∃ out tvs tk, tv = .ref out ∧ (out, listOf tvs.toArray tk) ∈ pre ∧ IntsAre tvs tl) ∨ (room < wid (allF parts) ∧ ∃ tt, tv = .str "refused" tt)) ∧ (∃ ps, (544, recOb ps) ∈ n) ∧ (∃ ps, (435, recOb ps) ∈ n) ∧ St (osB o₀) B (envF fs606.1 L 606) [("script", some (.ref sa)), ("first", some (.int a0 t)), ("second", some (.int a1 u)), ("version", some (.int kd.ver t3)), ("level", some (.int kd.lvl t4)), ("checks", some (.int kd.chk t5)), ("room", some (.int (room : Nat) t6)), ("parts", some (.ref pl)), ("over", some (.bool over)), ("rows", some (.ref rl)), ("told", some tv), ("k", none), ("owners", none), ("word", none), ("powers", none), ("logs", none), ("block", none), ("worth", none), ("words", none), ("heard", none), ("at", none), ("end", none)]
      [("blocks", L + 3, none), ("count", L + 2, some (.int (kd.szs.length : Nat) t7)), ("sizes", L + 1, some (.ref sz))] (pre ++ (L + 3, ob1) :: (L + 2, ob2) :: (L + 1, ob3) :: n) s') ?_ ?_
    · repeat cell_call
      rename_i S
      obtain ⟨ps₀, hm₀, _⟩ := id Lc1.2
      obtain ⟨ps₁, hm₁, _⟩ := id Lc2.2
      have h544 : ∀ ps : Array Value, ∃ ps', (544, recOb ps') ∈ putAt n 544 (recOb ps) := fun ps => ⟨ps, List.mem_map.mpr ⟨_, hm₀, by rw [if_pos rfl]⟩⟩
      have h435 : ∀ ps : Array Value, ∃ ps', (435, recOb ps') ∈ putAt n 544 (recOb ps) := fun ps => ⟨ps₁, putAt_keep hm₁ (by decide)⟩
      have e1 : pre ++ (L + 3, ob1) :: (L + 2, ob2) :: (L + 1, ob3) :: n = (pre ++ [(L + 3, ob1), (L + 2, ob2), (L + 1, ob3)]) ++ n := by simp
      have hab := (e1 ▸ S).aboveP hm₀
      have e2 : ∀ z, putAt (pre ++ (L + 3, ob1) :: (L + 2, ob2) :: (L + 1, ob3) :: n) 544 z = pre ++ (L + 3, ob1) :: (L + 2, ob2) :: (L + 1, ob3) :: putAt n 544 z := fun z => by
        rw [e1, putAt_app hab]; simp
      refine made_call (outer := []) (f := 20) (genOf := genOf) (gs := kd.gs) (parts := parts) (rows := rvs) (kd := rk) S TG rfl rfl K₀ hr.le (Lc1.sub fun ps hp => List.mem_append_right _ (.tail _ (.tail _ (.tail _ hp)))) hkind hok.ver (List.mem_append_left _ hrl) (hR.mono fun p _ hp => List.mem_append_left _ hp) (fun p hp => (hparts.1 p hp).1) hparts.2 (by omega) (by decide) hbl hgb (by rw [hrm]; exact hmod) ?_ ?_
      · rw [hrm, htl]
        intro hfit add out tvs tk ps s hps hom hov S
        rw [e2] at S
        repeat cell_call
        rename_i S
        exact ⟨rfl, add ++ pre, putAt n 544 (recOb ps), t1, t2, t3, t4, t5, t6, rl, rvs, rk, .ref out, hR.mono fun p _ hp => by simp [hp], by simp [hrl], hT.mono fun p _ hp => by simp [hp], by simp [hpl], .inl ⟨hfit, out, tvs, tk, rfl, by simp [hom], hov⟩, h544 ps, h435 ps, by rw [List.append_assoc]; exact S⟩
      · rw [hrm]
        intro hfit tt ps s hps S
        rw [e2] at S
        repeat cell_call
        rename_i S
        exact ⟨rfl, pre, putAt n 544 (recOb ps), t1, t2, t3, t4, t5, t6, rl, rvs, rk, .str "refused" tt, hR, hrl, hT, hpl, .inr ⟨hfit, tt, rfl⟩, h544 ps, h435 ps, S⟩
    clear Lc1 Lc2
    rintro s ⟨pre, n, t1, t2, t3, t4, t5, t6, rl, rvs, rk, tv, hR, hrl, hT, hpl, htv, ⟨pa, hpa⟩, ⟨pb, hpb⟩, S⟩
    have hrvl := hR.length
    refine x_cut (fun s' => ∃ pre', (∀ p ∈ pre, p ∈ pre') ∧ St (osB o₀) B (envF fs606.1 L 606) [("script", some (.ref sa)), ("first", some (.int a0 t1)), ("second", some (.int a1 t2)), ("version", some (.int kd.ver t3)), ("level", some (.int kd.lvl t4)), ("checks", some (.int kd.chk t5)), ("room", some (.int (room : Nat) t6)), ("parts", some (.ref pl)), ("over", some (.bool over)), ("rows", some (.ref rl)), ("told", some tv), ("k", none), ("owners", none), ("word", none), ("powers", none), ("logs", none), ("block", none), ("worth", none), ("words", none), ("heard", none), ("at", none), ("end", none)]
      [("blocks", L + 3, none), ("count", L + 2, some (.int (kd.szs.length : Nat) t7)), ("sizes", L + 1, some (.ref sz))] (pre' ++ (L + 3, ob1) :: (L + 2, ob2) :: (L + 1, ob3) :: n) s') ?_ ?_
    · --CUT
      repeat cell_call
      refine x_comp (cl := []) ?ha ?hcl ?hok ?hf ?_
      case ha => rfl
      case hcl => kernel_rfl
      case hok => kernel_rfl
      case hf => (intro _; kernel_rfl)
      repeat cell_call
      rename_i S
      refine r_iterList S (.n (List.mem_append_left _ hrl)) fun it ob s hob S => ?_
      refine comp_enter (lc := [(("part" : Str), none)]) (cc := []) S T ?hok ?hev ?hlc ?hcc ?hcl ?hbody
      case hok => kernel_rfl
      case hev => kernel_rfl
      case hlc => simp
      case hcc => exact List.nil_sublist _
      case hcl => simp
      case hbody =>
        intro g C acc s S' T' ext'
        refine comp_rule (X := PmY) (lF := fun _ z => [(("part" : Str), z.a)]) (cc := []) (hi := fun _ z => z.hi ++ [(acc, listOf z.vs.toArray z.vk)]) (lo := fun _ _ => _) (P := fun j z => TupsAre z.hi z.vs (parts.take j)) ⟨[], [], 0, none⟩ (iter_list hh rvs) (fun s i ob Q E h1 h2 h3 => self_list s i ob Q E h1 h2 h3) hob S' .nil ?ht (fun ob i y s S => S.isList (.n (List.mem_append_right _ (.tail _ (List.mem_append_left _ hrl))))) ?_ ?_
        case ht => (intro _; rfl)
        · rintro j z ob v s hj hP hv hob S
          obtain ⟨p, hp, q, dq, q1, q2, tm, b, tb, rfl, g1, g2, hb⟩ := hR.at hv
          have G1 : Has g (pre ++ (L + 3, ob1) :: (L + 2, ob2) :: (L + 1, ob3) :: n) q (instObj 479 dq) := .n (List.mem_append_left _ g1)
          have G2 : Has g (pre ++ (L + 3, ob1) :: (L + 2, ob2) :: (L + 1, ob3) :: n) dq (dictOf (qrD w.params q1 q2 p.1 tm b tb) 2) := .n (List.mem_append_left _ g2)
          have hzl := hP.length
          rw [List.length_take] at hzl
          have hp8 := hparts.2
          repeat cell_call
          rw [List.forIn_nil]
          refine wpAny_pure (r_ifT rfl ?_)
          repeat cell_call
          rename_i tt s S
          simp only [List.append_assoc, List.cons_append, List.nil_append] at S
          repeat cell_call
          rename_i s S
          refine ⟨⟨(tt, tupOf [.int p.1 tm, .bytes b tb]) :: z.hi, z.vs ++ [.ref tt], z.vk + 1, some (.ref q)⟩, ?_, ?_⟩
          · show TupsAre _ (z.vs ++ [Value.ref tt]) _
            rw [List.take_add_one, hp]
            exact (hP.mono fun p _ hp => .tail _ hp).append (.cons ⟨tt, tm, b, tb, rfl, .head _, hb⟩ .nil)
          · show St _ _ _ _ _ (((tt, tupOf [.int p.1 tm, .bytes b tb]) :: z.hi ++ [(acc, listOf (z.vs ++ [Value.ref tt]).toArray (z.vk + 1))]) ++ (it, ob) :: _) _
            rw [List.append_assoc]
            exact S
        · rintro y s hP S
          rw [List.take_of_length_le (by omega)] at hP
          refine ⟨_, _, _, S, ?_, fun s S => ?_⟩
          · exact .gone (cellE_of_fields hob.2) (.newApp _ .refl)
          · have hp8 := hparts.2
            repeat cell_call
            have hTa := hP.mono (n' := y.hi ++ [(acc, listOf y.vs.toArray y.vk)] ++ (pre ++ (L + 3, ob1) :: (L + 2, ob2) :: (L + 1, ob3) :: n)) fun p _ hp => by simp [hp]
            have hTb := hT.mono (n' := y.hi ++ [(acc, listOf y.vs.toArray y.vk)] ++ (pre ++ (L + 3, ob1) :: (L + 2, ob2) :: (L + 1, ob3) :: n)) fun p _ hp => by simp [hp]
            refine tups_ne (k := y.vk) (j := pk) S hTa hTb (by simp) (by simp [hpl]) (by have := hr.units; omega) ?_
            repeat cell_call
            refine ⟨rfl, y.hi ++ [(acc, listOf y.vs.toArray y.vk)] ++ pre, fun p hp => by simp [hp], ?_⟩
            rw [List.append_assoc]
            exact S
    rintro s ⟨pre', hpre, S⟩
    replace hR := hR.mono fun p _ hp => hpre p hp
    replace hT := hT.mono fun p _ hp => hpre p hp
    replace hrl := hpre _ hrl
    replace hpl := hpre _ hpl
    replace htv : (wid (allF parts) ≤ room ∧ ∃ out tvs tk, tv = .ref out ∧ (out, listOf tvs.toArray tk) ∈ pre' ∧ IntsAre tvs tl) ∨ (room < wid (allF parts) ∧ ∃ tt, tv = .str "refused" tt) := htv.imp (fun ⟨h, out, tvs, tk, e, hm, hi⟩ => ⟨h, out, tvs, tk, e, hpre _ hm, hi⟩) id
    clear hpre
    have hover : over = decide (room < wid (allF parts)) := hover0
    rcases htv with ⟨hfit, out, tvs, tk, rfl, hout, htvs⟩ | ⟨hfit, tt, rfl⟩
    rotate_left
    · obtain rfl : over = true := by rw [hover]; exact decide_eq_true hfit
      repeat cell_call
      refine BoolOp_and ?_
      repeat cell_call
      refine BoolOp_one ?_
      repeat cell_call
      refine r_strStr ?_
      repeat cell_call
      rename_i S
      exact h _ _ _ (pre' ++ (L + 3, ob1) :: (L + 2, ob2) :: (L + 1, ob3) :: n) _ ⟨pa, List.mem_append_right _ (.tail _ (.tail _ (.tail _ hpa)))⟩ ⟨pb, List.mem_append_right _ (.tail _ (.tail _ (.tail _ hpb)))⟩ S
    · obtain rfl : over = false := by rw [hover]; exact decide_eq_false (by omega)
      repeat cell_call
      rename_i S
      refine r_listStr S (.n (List.mem_append_left _ hout)) hr.uni ?_
      repeat cell_call
      rename_i S
      have hszl : (kd.szs.map fun (x : Nat) => (x : Int)).length = kd.szs.length := List.length_map _
      refine wpAny_mono (Q := fun fl s' => fl = .next ∧ ∃ pre ow ovs ok, (∀ p ∈ pre', p ∈ pre) ∧ (ow, listOf ovs.toArray ok) ∈ pre ∧ IntsAre ovs (ownA (kd.szs.getLast?.getD 0) kd.szs) ∧ St (osB o₀) B (envF fs606.1 L 606) [("script", some (.ref sa)), ("first", some (.int a0 t1)), ("second", some (.int a1 t2)), ("version", some (.int kd.ver t3)), ("level", some (.int kd.lvl t4)), ("checks", some (.int kd.chk t5)), ("room", some (.int (room : Nat) t6)), ("parts", some (.ref pl)), ("over", some (.bool false)), ("rows", some (.ref rl)), ("told", some (.ref out)), ("k", none), ("owners", some (.ref ow)), ("word", none), ("powers", none), ("logs", none), ("block", none), ("worth", none), ("words", none), ("heard", none), ("at", none), ("end", none)]
        [("blocks", L + 3, none), ("count", L + 2, some (.int (kd.szs.length : Nat) t7)), ("sizes", L + 1, some (.ref sz))] (pre ++ (L + 3, ob1) :: (L + 2, ob2) :: (L + 1, ob3) :: n) s') (E := fun _ _ => False) ?_ ?_ (fun _ _ x => x.elim)
      · --CUT
        refine x_compA (cl := [("sizes", L + 1), ("count", L + 2)]) ?hsw ?ha ?hcl ?hok ?hf ?_
        case ha => rfl
        case hsw => kernel_rfl
        case hcl => kernel_rfl
        case hok => kernel_rfl
        case hf => (intro _; kernel_rfl)
        repeat cell_call
        rename_i S
        refine r_itemLast S ?hs (.b hszB) r4 (by rw [hszl]; omega) fun tl' => ?_
        case hs => kernel_rfl
        rw [hszl, last_cast]
        have hlast : kd.szs.getLast?.getD 0 ≤ 19 := by
          rcases e : kd.szs.getLast? with _ | x
          · simp
          · exact (hok.sz x (List.mem_of_getLast? e)).2
        generalize hmx : kd.szs.getLast?.getD 0 = mx at *
        repeat cell_call
        rename_i it ob s hob S
        have e0 : ((mx : Nat) - 0 : Int).toNat = mx := by omega
        rw [e0] at hob
        refine' comp_enterA (lc := [(("turn" : Str), none), ("k", none)]) (cc := [("count", L + 2, some (.int (kd.szs.length : Nat) t7)), ("sizes", L + 1, some (.ref sz))]) S T ?hok ?hev ?hlc ?hcc ?hcl ?hput ?hbody
        case hok => kernel_rfl
        case hev => kernel_rfl
        case hlc => simp
        case hcc => exact List.sublist_cons_self _ _
        case hcl =>
          intro p hp
          rcases List.mem_cons.mp hp with rfl | hp
          · kernel_rfl
          · rcases List.mem_cons.mp hp with rfl | hp
            · kernel_rfl
            · cases hp
        case hput => (intro _; tb_start)
        case hbody =>
          intro g C acc s S' T' ext'
          have hszG := ext' _ _ hszB
          have G' := evg_st S' ["range"] (by kernel_rfl) rfl rfl
          refine comp_rule0 (X := OwY) (lF := fun _ y => [(("turn" : Str), y.a), ("k", y.b)]) (cc := _) (hi := fun _ y => [(acc, listOf y.vs.toArray y.vk)]) (lo := fun _ _ => _) (P := fun i y => IntsAre y.vs (ownA i kd.szs)) ⟨[], 0, none, none⟩ (iter_range hh 0 1 mx) (fun s i ob Q E h1 h2 h3 => self_range s i ob Q E h1 h2 h3) hob S' .nil ?ht ?hf1 (fun _ _ _ _ _ => trivial) ?_ ?_
          case ht => (intro _; rfl)
          case hf1 => (intro _; kernel_rfl)
          · rintro i y ob v s hi' hP ⟨ti, rfl⟩ hob S
            rw [List.cons_append, List.nil_append] at S
            have e1 : (0 + (i : Int) * 1) = i := by omega
            rw [e1]
            repeat cell_call
            rw [List.forIn_nil]
            refine wpAny_pure (r_ifT rfl ?_)
            repeat cell_call
            rename_i it2 ob2' s hob2' S
            have e0' : ((kd.szs.length : Nat) - 0 : Int).toNat = kd.szs.length := by omega
            rw [e0'] at hob2'
            refine comp_rule1 (X := OwY) (lF := fun _ z => [(("turn" : Str), some (.int i ti)), ("k", z.b)]) (cc := _) (hi := fun _ _ => []) (lo := fun _ z => (acc, listOf z.vs.toArray z.vk) :: _) (P := fun j z => IntsAre z.vs (ownA i kd.szs ++ ((List.range j).filter fun k => decide (i < kd.szs.getD k 0)).map fun (k : Nat) => (k : Int))) ⟨y.vs, y.vk, none, y.b⟩ (iter_range hh 0 1 kd.szs.length) (fun s i ob Q E h1 h2 h3 => self_range s i ob Q E h1 h2 h3) hob2' S ?h00 ?ht (fun _ _ _ _ _ => trivial) ?_ ?_
            case ht => (intro _; rfl)
            case h00 =>
              show IntsAre y.vs _
              simpa using hP
            · clear S
              rintro j z ob3' v s hj hPz ⟨tj, rfl⟩ hob3' S
              rw [List.nil_append] at S
              have e1' : (0 + (j : Int) * 1) = j := by omega
              rw [e1']
              have hPz : IntsAre z.vs _ := hPz
              have hzl := hPz.length
              have hb1 := ownA_len i kd.szs
              have hb2 : i * kd.szs.length ≤ 19 * 4 := Nat.mul_le_mul (by omega) (by omega)
              have hb3 := List.length_filter_le (fun k => decide (i < kd.szs.getD k 0)) (List.range j)
              rw [List.length_range] at hb3
              rw [List.length_append, List.length_map] at hzl
              have hln : (ownA i kd.szs ++ ((List.range j).filter fun k => decide (i < kd.szs.getD k 0)).map fun (k : Nat) => (k : Int)).length ≤ 1000000 := by rw [List.length_append, List.length_map]; omega
              repeat cell_call
              refine x_test1 ?_
              repeat cell_call
              have ejn : ((j : Nat) : Int).toNat = j := by omega
              rw [ejn, getD_cast]
              have hnx : (List.range (j + 1)).filter (fun k => decide (i < kd.szs.getD k 0)) = (List.range j).filter (fun k => decide (i < kd.szs.getD k 0)) ++ (if i < kd.szs.getD j 0 then [j] else []) := by
                rw [List.range_succ, List.filter_append]
                congr 1
                simp only [List.filter_cons, List.filter_nil, decide_eq_true_eq]
              refine r_iteD (fun hc => ?_) (fun hc => ?_)
              · repeat cell_call
                rename_i vs2 s hi2 S
                refine ⟨⟨vs2, z.vk + 1, none, some (.int j tj)⟩, ?_, S⟩
                show IntsAre vs2 _
                rw [hnx, if_pos (by omega), List.map_append, ← List.append_assoc]
                exact hi2
              · rename_i S _
                refine ⟨⟨z.vs, z.vk, none, some (.int j tj)⟩, ?_, S⟩
                show IntsAre z.vs _
                rw [hnx, if_neg (by omega), List.append_nil]
                exact hPz
            · rintro z s hPz S
              rw [List.nil_append] at S
              refine ⟨⟨z.vs, z.vk, some (.int i ti), z.b⟩, ?_, S⟩
              show IntsAre z.vs _
              rw [ownA_succ]
              exact hPz
          · rintro y s hP S
            refine ⟨_, _, _, S, .gone (cellE_range hob) (.new .refl), fun s S => ?_⟩
            refine ⟨rfl, _ :: pre', acc, y.vs, y.vk, fun p hp => .tail _ hp, .head _, hP, S⟩
      rintro fl s ⟨rfl, pre, ow, ovs, ok, hpre, how, hovs, S⟩
      replace hT := hT.mono fun p _ hp => hpre p hp
      replace hpl := hpre _ hpl
      replace hout := hpre _ hout
      clear hpre hR hrl hrvl
      refine x_next ?_
      have hmx19 : kd.szs.getLast?.getD 0 ≤ 19 := by
        rcases e : kd.szs.getLast? with _ | x
        · simp
        · exact (hok.sz x (List.mem_of_getLast? e)).2
      have hck := hok.chk
      generalize hmx : kd.szs.getLast?.getD 0 = mx at *
      refine x_cut (fun s' => ∃ pre' ow ovs ok, (∀ p ∈ pre, p ∈ pre') ∧ (ow, listOf ovs.toArray ok) ∈ pre' ∧ IntsAre ovs (ownA mx kd.szs ++ ownB kd.chk kd.szs.length) ∧ St (osB o₀) B (envF fs606.1 L 606) [("script", some (.ref sa)), ("first", some (.int a0 t1)), ("second", some (.int a1 t2)), ("version", some (.int kd.ver t3)), ("level", some (.int kd.lvl t4)), ("checks", some (.int kd.chk t5)), ("room", some (.int (room : Nat) t6)), ("parts", some (.ref pl)), ("over", some (.bool false)), ("rows", some (.ref rl)), ("told", some (.ref out)), ("k", none), ("owners", some (.ref ow)), ("word", none), ("powers", none), ("logs", none), ("block", none), ("worth", none), ("words", none), ("heard", none), ("at", none), ("end", none)]
        [("blocks", L + 3, none), ("count", L + 2, some (.int (kd.szs.length : Nat) t7)), ("sizes", L + 1, some (.ref sz))] (pre' ++ (L + 3, ob1) :: (L + 2, ob2) :: (L + 1, ob3) :: n) s') ?_ ?_
      · --CUT
        repeat cell_call
        refine x_comp (cl := [("count", L + 2)]) ?ha ?hcl ?hok ?hf ?_
        case ha => rfl
        case hcl => kernel_rfl
        case hok => kernel_rfl
        case hf => (intro _; kernel_rfl)
        repeat cell_call
        rename_i it ob s hob S
        have e0 : ((kd.chk : Nat) - 0 : Int).toNat = kd.chk := by omega
        rw [e0] at hob
        refine comp_enter (lc := [(("turn" : Str), none), ("k", none)]) (cc := [("count", L + 2, some (.int (kd.szs.length : Nat) t7))]) S T ?hok ?hev ?hlc ?hcc ?hcl ?hbody
        case hok => kernel_rfl
        case hev => kernel_rfl
        case hlc => simp
        case hcc => exact .cons _ (.cons_cons _ (List.nil_sublist _))
        case hcl =>
          intro p hp
          rcases List.mem_cons.mp hp with rfl | hp
          · kernel_rfl
          · cases hp
        case hbody =>
          intro g C acc s S' T' ext'
          have G' := evg_st S' ["range"] (by kernel_rfl) rfl rfl
          refine comp_rule0 (X := OwY) (lF := fun _ y => [(("turn" : Str), y.a), ("k", y.b)]) (cc := _) (hi := fun _ y => [(acc, listOf y.vs.toArray y.vk)]) (lo := fun _ _ => _) (P := fun i y => IntsAre y.vs (ownB i kd.szs.length)) ⟨[], 0, none, none⟩ (iter_range hh 0 1 kd.chk) (fun s i ob Q E h1 h2 h3 => self_range s i ob Q E h1 h2 h3) hob S' .nil ?ht ?hf1 (fun _ _ _ _ _ => trivial) ?_ ?_
          case ht => (intro _; rfl)
          case hf1 => (intro _; kernel_rfl)
          · rintro i y ob v s hi' hP ⟨ti, rfl⟩ hob S
            rw [List.cons_append, List.nil_append] at S
            repeat cell_call
            rw [List.forIn_nil]
            refine wpAny_pure (r_ifT rfl ?_)
            repeat cell_call
            rename_i it2 ob2' s hob2' S
            have e0' : ((kd.szs.length : Nat) - 0 : Int).toNat = kd.szs.length := by omega
            rw [e0'] at hob2'
            refine comp_rule1 (X := OwY) (lF := fun _ z => [(("turn" : Str), some (.int _ ti)), ("k", z.b)]) (cc := _) (hi := fun _ _ => []) (lo := fun _ z => (acc, listOf z.vs.toArray z.vk) :: _) (P := fun j z => IntsAre z.vs (ownB i kd.szs.length ++ (List.range j).map fun (k : Nat) => (k : Int))) ⟨y.vs, y.vk, none, y.b⟩ (iter_range hh 0 1 kd.szs.length) (fun s i ob Q E h1 h2 h3 => self_range s i ob Q E h1 h2 h3) hob2' S ?h00 ?ht (fun _ _ _ _ _ => trivial) ?_ ?_
            case ht => (intro _; rfl)
            case h00 =>
              show IntsAre y.vs _
              simpa using hP
            · clear S
              rintro j z ob3' v s hj hPz ⟨tj, rfl⟩ hob3' S
              rw [List.nil_append] at S
              have e1' : (0 + (j : Int) * 1) = j := by omega
              rw [e1']
              have hPz : IntsAre z.vs _ := hPz
              have hzl := hPz.length
              have hb1 := ownB_len i kd.szs.length
              have hb2 : i * kd.szs.length ≤ 28 * 4 := Nat.mul_le_mul (by omega) (by omega)
              rw [List.length_append, List.length_map, List.length_range] at hzl
              have hln : (ownB i kd.szs.length ++ (List.range j).map fun (k : Nat) => (k : Int)).length ≤ 1000000 := by rw [List.length_append, List.length_map, List.length_range]; omega
              repeat cell_call
              rw [List.forIn_nil]
              refine wpAny_pure (r_ifT rfl ?_)
              repeat cell_call
              rename_i vs2 s hi2 S
              refine ⟨⟨vs2, z.vk + 1, none, some (.int j tj)⟩, ?_, S⟩
              show IntsAre vs2 _
              rw [List.range_succ, List.map_append, ← List.append_assoc]
              exact hi2
            · rintro z s hPz S
              rw [List.nil_append] at S
              refine ⟨⟨z.vs, z.vk, some (.int _ ti), z.b⟩, ?_, S⟩
              show IntsAre z.vs _
              rw [ownB_succ]
              exact hPz
          · rintro y s hP S
            refine ⟨_, _, _, S, .gone (cellE_range hob) (.new .refl), fun s S => ?_⟩
            have hP : IntsAre y.vs _ := hP
            have h1 := hovs.length
            have h2 := hP.length
            have h3 := ownA_len mx kd.szs
            have h4 := ownB_len kd.chk kd.szs.length
            have h5 : mx * kd.szs.length ≤ 19 * 4 := Nat.mul_le_mul (by omega) (by omega)
            have h6 : kd.chk * kd.szs.length ≤ 28 * 4 := Nat.mul_le_mul (by omega) (by omega)
            refine r_addL S (.n (List.mem_append_right _ (List.mem_append_left _ how))) (.n (List.mem_append_left _ (.head _))) (by omega) fun D s S => ?_
            repeat cell_call
            rename_i S
            refine ⟨rfl, (D, listOf (ovs ++ y.vs).toArray 0) :: [(acc, listOf y.vs.toArray y.vk)] ++ pre, D, ovs ++ y.vs, 0, fun p hp => by simp [hp], by simp, hovs.append hP, ?_⟩
            rw [List.append_assoc]
            exact S
      rintro s ⟨pre', ow, ovs, ok, hpre, how, hovs, S⟩
      replace hT := hT.mono fun p _ hp => hpre p hp
      replace hpl := hpre _ hpl
      replace hout := hpre _ hout
      clear hpre
      have hol : (ownA mx kd.szs ++ ownB kd.chk kd.szs.length).length ≤ 1000 := by
        have h3 := ownA_len mx kd.szs
        have h4 := ownB_len kd.chk kd.szs.length
        have h5 : mx * kd.szs.length ≤ 19 * 4 := Nat.mul_le_mul (by omega) (by omega)
        have h6 : kd.chk * kd.szs.length ≤ 28 * 4 := Nat.mul_le_mul (by omega) (by omega)
        rw [List.length_append]; omega
      have hr1 : 0 ≤ a1.fmod kd.chk ∧ a1.fmod kd.chk < kd.chk := ⟨Int.fmod_nonneg_of_pos _ (by omega), Int.fmod_lt_of_pos _ (by omega)⟩
      have hplain := plain_all (List.mem_of_getElem? hkd) hgood hrm hfit (r := (a1.fmod kd.chk).toNat) (by omega) htl
      rw [hmx] at hplain
      obtain ⟨htlen, htb, hbk, hwdp⟩ := hplain
      have htvl := htvs.length
      generalize hown : ownA mx kd.szs ++ ownB kd.chk kd.szs.length = own at *
      refine x_cut (fun s' => ∃ pre, (∀ p ∈ pre', p ∈ pre) ∧ St (osB o₀) B (envF fs606.1 L 606) [("script", some (.ref sa)), ("first", some (.int a0 t1)), ("second", some (.int a1 t2)), ("version", some (.int kd.ver t3)), ("level", some (.int kd.lvl t4)), ("checks", some (.int kd.chk t5)), ("room", some (.int (room : Nat) t6)), ("parts", some (.ref pl)), ("over", some (.bool false)), ("rows", some (.ref rl)), ("told", some (.ref out)), ("k", none), ("owners", some (.ref ow)), ("word", none), ("powers", none), ("logs", none), ("block", none), ("worth", none), ("words", none), ("heard", none), ("at", none), ("end", none)]
        [("blocks", L + 3, none), ("count", L + 2, some (.int (kd.szs.length : Nat) t7)), ("sizes", L + 1, some (.ref sz))] (pre ++ (L + 3, ob1) :: (L + 2, ob2) :: (L + 1, ob3) :: n) s') ?_ ?_
      · --CUT
        have Hout : Has B (pre' ++ (L + 3, ob1) :: (L + 2, ob2) :: (L + 1, ob3) :: n) out (listOf tvs.toArray tk) := .n (List.mem_append_left _ hout)
        have How : Has B (pre' ++ (L + 3, ob1) :: (L + 2, ob2) :: (L + 1, ob3) :: n) ow (listOf ovs.toArray ok) := .n (List.mem_append_left _ how)
        repeat cell_call
        refine r_iteNeg (by omega) ?_
        repeat cell_call
        refine x_comp (cl := []) ?ha ?hcl ?hok ?hf ?_
        case ha => rfl
        case hcl => kernel_rfl
        case hok => kernel_rfl
        case hf => (intro _; kernel_rfl)
        repeat cell_call
        rename_i S
        refine r_iterList S Hout fun it ob s hob S => ?_
        refine comp_enter (lc := [(("word" : Str), none)]) (cc := []) S T ?hok ?hev ?hlc ?hcc ?hcl ?hbody
        case hok => kernel_rfl
        case hev => kernel_rfl
        case hlc => simp
        case hcc => exact List.nil_sublist _
        case hcl => simp
        case hbody =>
          intro g C acc s S' T' ext'
          have G' := evg_st S' ["isinstance", "int", "range"] (by kernel_rfl) rfl rfl
          refine comp_rule (X := PmY) (lF := fun _ z => [(("word" : Str), z.a)]) (cc := []) (hi := fun _ z => z.hi ++ [(acc, listOf ([] : List Value).toArray 0)]) (lo := fun _ _ => _) (P := fun j z => True) ⟨[], [], 0, none⟩ (iter_list hh tvs) (fun s i ob Q E h1 h2 h3 => self_list s i ob Q E h1 h2 h3) hob S' trivial ?ht (fun ob i y s S => S.isList (.n (List.mem_append_right _ (.tail _ (List.mem_append_left _ hout))))) ?_ ?_
          case ht => (intro _; rfl)
          · rintro j z ob v s hj hP hv hob S
            obtain ⟨x, tx, hx, rfl⟩ := ints_at htvs hv
            have hxb := htb x (List.mem_of_getElem? hx)
            repeat cell_call
            refine x_test1 ?_
            repeat cell_call
            refine x_isInt ?_
            repeat cell_call
            rename_i rg _ _ _ s S
            refine r_notInRange S (.n (.head _)) ?_
            rw [decide_eq_true (p := 0 ≤ x ∧ x < 256) hxb]
            repeat cell_call
            exact ⟨⟨(rg, rangeOb 0 256 1 _ _ _) :: z.hi, [], 0, some (.int x tx)⟩, trivial, S⟩
          · rintro y s hP S
            refine ⟨_, _, _, S, .gone (cellE_of_fields hob.2) (.newApp _ .refl), fun s S => ?_⟩
            repeat cell_call
            rename_i nl _ S
            refine r_neInts (k := 0) (j := 0) S (.n (by simp)) (.n (.head _)) .nil .nil (by have := hr.units; omega) ?_
            rw [decide_eq_true (p := ([] : List Int) = []) rfl]
            repeat cell_call
            refine ⟨rfl, (nl, listOf ([] : List Value).toArray 0) :: (y.hi ++ [(acc, listOf ([] : List Value).toArray 0)] ++ pre'), fun p hp => by simp [hp], ?_⟩
            rw [List.cons_append, List.append_assoc]
            exact S
      rintro s ⟨pre, hpre, S⟩
      replace hT := hT.mono fun p _ hp => hpre p hp
      replace hpl := hpre _ hpl
      replace hout := hpre _ hout
      replace how := hpre _ how
      clear hpre
      refine x_cut (fun s' => ∃ bseg bl bvs bk ob1, DatsAre bseg bvs (List.replicate kd.szs.length []) ∧ bvs.Nodup ∧ ob1.data = .cell (some (.ref bl)) ∧ St (osB o₀) B (envF fs606.1 L 606) [("script", some (.ref sa)), ("first", some (.int a0 t1)), ("second", some (.int a1 t2)), ("version", some (.int kd.ver t3)), ("level", some (.int kd.lvl t4)), ("checks", some (.int kd.chk t5)), ("room", some (.int (room : Nat) t6)), ("parts", some (.ref pl)), ("over", some (.bool false)), ("rows", some (.ref rl)), ("told", some (.ref out)), ("k", none), ("owners", some (.ref ow)), ("word", none), ("powers", none), ("logs", none), ("block", none), ("worth", none), ("words", none), ("heard", none), ("at", none), ("end", none)]
        [("blocks", L + 3, some (.ref bl)), ("count", L + 2, some (.int (kd.szs.length : Nat) t7)), ("sizes", L + 1, some (.ref sz))] (bseg ++ ((bl, listOf bvs.toArray bk) :: pre ++ (L + 3, ob1) :: (L + 2, ob2) :: (L + 1, ob3) :: n)) s') ?_ ?_
      · --CUT
        refine x_assign ?hs ?_
        case hs => kernel_rfl
        refine x_comp (cl := []) ?ha ?hcl ?hok ?hf ?_
        case ha => rfl
        case hcl => kernel_rfl
        case hok => kernel_rfl
        case hf => (intro _; kernel_rfl)
        repeat cell_call
        rename_i it ob s hob S
        have e0' : ((kd.szs.length : Nat) - 0 : Int).toNat = kd.szs.length := by omega
        rw [e0'] at hob
        refine comp_enter (lc := [(("k" : Str), none)]) (cc := []) S T ?hok ?hev ?hlc ?hcc ?hcl ?hbody
        case hok => kernel_rfl
        case hev => kernel_rfl
        case hlc => simp
        case hcc => exact List.nil_sublist _
        case hcl => simp
        case hbody =>
          intro g C acc s S' T' ext'
          refine comp_rule (X := BlY) (lF := fun _ z => [(("k" : Str), z.a)]) (cc := []) (hi := fun _ z => z.hi ++ [(acc, listOf z.vs.toArray z.vk)]) (lo := fun _ _ => _) (P := fun j z => DatsAre z.hi z.vs (List.replicate j []) ∧ z.vs.Nodup) ⟨[], [], 0, none⟩ (iter_range hh 0 1 kd.szs.length) (fun s i ob Q E h1 h2 h3 => self_range s i ob Q E h1 h2 h3) hob S' ⟨.nil, .nil⟩ ?ht (fun _ _ _ _ _ => trivial) ?_ ?_
          case ht => (intro _; rfl)
          · rintro j z ob v s hj ⟨hP, hnd⟩ ⟨tj, rfl⟩ hob S
            have hzl := hP.length
            rw [List.length_replicate] at hzl
            repeat cell_call
            rw [List.forIn_nil]
            refine wpAny_pure (r_ifT rfl ?_)
            repeat cell_call
            rename_i nb _ S
            have hord := S.ord
            simp only [List.append_assoc, List.cons_append, List.nil_append] at S
            repeat cell_call
            rename_i s S
            refine ⟨⟨(nb, listOf ([] : List Value).toArray 0) :: z.hi, z.vs ++ [.ref nb], z.vk + 1, some (.int (0 + (j : Int) * 1) tj)⟩, ⟨?_, ?_⟩, ?_⟩
            · show DatsAre _ (z.vs ++ [Value.ref nb]) _
              rw [List.replicate_succ']
              exact (hP.mono fun p hp => .tail _ hp).append (.cons ⟨nb, [], 0, rfl, .head _, .nil⟩ .nil)
            · show (z.vs ++ [Value.ref nb]).Nodup
              refine List.nodup_append.mpr ⟨hnd, by simp, fun v hv u hu e => ?_⟩
              rw [List.mem_singleton] at hu
              subst hu
              subst e
              obtain ⟨a, x, e, hm⟩ := dats_adr hP _ hv
              cases e
              rw [List.map_cons, List.pairwise_cons] at hord
              exact Nat.lt_irrefl _ (hord.1 nb (List.mem_map.mpr ⟨(nb, x), by simp [hm], rfl⟩))
            · show St _ _ _ _ _ (((nb, listOf ([] : List Value).toArray 0) :: z.hi ++ [(acc, listOf (z.vs ++ [Value.ref nb]).toArray (z.vk + 1))]) ++ (it, ob) :: _) _
              rw [List.append_assoc]
              exact S
          · rintro y s ⟨hP, hnd⟩ S
            refine ⟨_, _, _, S, .gone (cellE_range hob) (.newApp _ .refl), fun s S => ?_⟩
            simp only [List.append_assoc, List.cons_append, List.nil_append] at S
            repeat cell_call
            rename_i ob1' _ hob' S
            exact ⟨rfl, y.hi, acc, y.vs, y.vk, ob1', hP, hnd, hob', S⟩
      rintro s ⟨bseg, bl, bvs, bk, ob1, hD, hnd, hob1, S⟩
      clear hcd1
      have howm : ∀ x ∈ own, ∃ j : Nat, x = j ∧ j < kd.szs.length := fun x hx => by rw [← hown] at hx; exact own_mem rfl hx
      have hbvl := hD.length
      rw [List.length_replicate] at hbvl
      have hpaB : (544, recOb pa) ∈ (bl, listOf bvs.toArray bk) :: pre ++ (L + 3, ob1) :: (L + 2, ob2) :: (L + 1, ob3) :: n := List.mem_append_right _ (.tail _ (.tail _ (.tail _ hpa)))
      have hpbB : (435, recOb pb) ∈ (bl, listOf bvs.toArray bk) :: pre ++ (L + 3, ob1) :: (L + 2, ob2) :: (L + 1, ob3) :: n := List.mem_append_right _ (.tail _ (.tail _ (.tail _ hpb)))
      generalize hbase : (bl, listOf bvs.toArray bk) :: pre ++ (L + 3, ob1) :: (L + 2, ob2) :: (L + 1, ob3) :: n = base at *
      have hbO : (out, listOf tvs.toArray tk) ∈ base := by rw [← hbase]; exact List.mem_append_left _ (.tail _ hout)
      have hbW : (ow, listOf ovs.toArray ok) ∈ base := by rw [← hbase]; exact List.mem_append_left _ (.tail _ how)
      have hbB : (bl, listOf bvs.toArray bk) ∈ base := by rw [← hbase]; exact List.mem_append_left _ (.head _)
      refine x_cut (fun s' => ∃ bseg uk uw, DatsAre bseg bvs (dist kd.szs.length (tl.zip own)) ∧ St (osB o₀) B (envF fs606.1 L 606) [("script", some (.ref sa)), ("first", some (.int a0 t1)), ("second", some (.int a1 t2)), ("version", some (.int kd.ver t3)), ("level", some (.int kd.lvl t4)), ("checks", some (.int kd.chk t5)), ("room", some (.int (room : Nat) t6)), ("parts", some (.ref pl)), ("over", some (.bool false)), ("rows", some (.ref rl)), ("told", some (.ref out)), ("k", uk), ("owners", some (.ref ow)), ("word", uw), ("powers", none), ("logs", none), ("block", none), ("worth", none), ("words", none), ("heard", none), ("at", none), ("end", none)]
        [("blocks", L + 3, some (.ref bl)), ("count", L + 2, some (.int (kd.szs.length : Nat) t7)), ("sizes", L + 1, some (.ref sz))] (bseg ++ base) s') ?_ ?_
      · --CUT
        refine x_for ?hf ?_
        case hf => (intro _; kernel_rfl)
        repeat cell_call
        rename_i S
        refine r_zip (r_iterList S (.n (List.mem_append_right _ hbO)) fun it1 ob1' s p1 S => ?_)
        refine r_iterList S (.n (.tail _ (List.mem_append_right _ hbW))) fun it2 ob2' s p2 S => ?_
        refine r_zipS S fun z TO TI s S => ?_
        repeat cell_call
        refine PySem.wpAny_pyIter_zip (S.nw.get (.head _)) ?_
        refine zip_for (X := ZpY) (xs := tvs.toArray) (ys := ovs.toArray) hh (fun i y => [("script", some (.ref sa)), ("first", some (.int a0 t1)), ("second", some (.int a1 t2)), ("version", some (.int kd.ver t3)), ("level", some (.int kd.lvl t4)), ("checks", some (.int kd.chk t5)), ("room", some (.int (room : Nat) t6)), ("parts", some (.ref pl)), ("over", some (.bool false)), ("rows", some (.ref rl)), ("told", some (.ref out)), ("k", y.uk), ("owners", some (.ref ow)), ("word", y.uw), ("powers", none), ("logs", none), ("block", none), ("worth", none), ("words", none), ("heard", none), ("at", none), ("end", none)]) _ (fun _ _ => []) (fun _ y => y.bseg ++ base)
          (fun i y => DatsAre y.bseg bvs (dist kd.szs.length ((tl.zip own).take i))) ⟨bseg, none, none⟩ p1 p2 S ?_ ?_ ?_ ?_
        · show DatsAre bseg bvs _
          rw [List.take_zero, dist_nil]
          exact hD
        · intro u v ob2' ob1' i y s S
          rw [List.nil_append] at S
          exact ⟨S.isList (.n (.tail _ (.tail _ (.tail _ (.tail _ (.tail _ (List.mem_append_right _ hbO))))))), S.isList (.n (.tail _ (.tail _ (.tail _ (.tail _ (.tail _ (List.mem_append_right _ hbW)))))))⟩
        · intro i y u v ob2' ob1' s hP hx hy S
          rw [List.nil_append] at S
          obtain ⟨x, tx, hxx, rfl⟩ := ints_at htvs (by simpa using hx)
          obtain ⟨j', tj, hjj, rfl⟩ := ints_at hovs (by simpa using hy)
          obtain ⟨j, rfl, hjc⟩ := howm j' (List.mem_of_getElem? hjj)
          repeat cell_call
          rename_i S
          have hP : DatsAre y.bseg bvs _ := hP
          obtain ⟨vj, hvj⟩ : ∃ v, bvs[j]? = some v := ⟨_, List.getElem?_eq_getElem (by omega)⟩
          obtain ⟨b, hb, a, ws, ep, rfl, hm, hwi⟩ := hP.at hvj
          rw [dist_at _ hjc] at hb
          cases hb
          refine r_item (S.isList (.n (.tail _ (.tail _ (.tail _ (.tail _ (.tail _ (List.mem_append_right _ hbB)))))))) (by omega) (by omega) (v := .ref a) ?hx2 ?_ ?hs
          case hx2 => rw [Int.toNat_natCast]; exact hvj
          case hs => kernel_rfl
          have hm' : (a, listOf ws.toArray ep) ∈ y.bseg ++ base := List.mem_append_left _ hm
          repeat cell_call
          have hwl := hwi.length
          have hil : i < tl.length := (List.getElem?_eq_some_iff.mp hxx).1
          have hfl := List.length_filter_le (fun p : Int × Int => p.2 == (j : Int)) ((tl.zip own).take i)
          rw [List.length_take] at hfl
          rw [List.length_map] at hwl
          have hmn := List.mem_append_right [(z, zipOb .none TI TO), (TO, pairOb (.int x tx) (.int j tj)), (TI, pairOb (.ref it1) (.ref it2)), (it2, ob2'), (it1, ob1')] hm'
          have hord := S.ord
          refine r_append (vs := ws.toArray) (k := ep) (v := .int x tx) S (putAt_put hmn hord) (by rw [List.size_toArray, sizeLine_eq]; omega) fun s S' => ?_
          rw [show putAt (zseg z TO TI it2 it1 .none (.int x tx) (.int j tj) ob2' ob1' (y.bseg ++ base)) a (listOf (ws.toArray.push (.int x tx)) (ep + 1)) = zseg z TO TI it2 it1 .none (.int x tx) (.int j tj) ob2' ob1' (putAt (y.bseg ++ base) a (listOf (ws.toArray.push (.int x tx)) (ep + 1))) from
            putAt_app (pre := [(z, zipOb .none TI TO), (TO, pairOb (.int x tx) (.int j tj)), (TI, pairOb (.ref it1) (.ref it2)), (it2, ob2'), (it1, ob1')]) (St.aboveP (n := y.bseg ++ base) S hm')] at S'
          have hord2 : ((y.bseg ++ base).map (·.1)).Pairwise (· > ·) := by
            have h1 := hord
            simp only [List.map_cons, List.pairwise_cons] at h1
            exact h1.2.2.2.2.2
          rw [putAt_left hm hord2] at S'
          have hpush : ws.toArray.push (Value.int x tx) = (ws ++ [Value.int x tx]).toArray := by simp
          rw [hpush] at S'
          refine x_none (x_next (x_nil ⟨⟨putAt y.bseg a (listOf (ws ++ [Value.int x tx]).toArray (ep + 1)), some (.int j tj), some (.int x tx)⟩, ?_, S'⟩))
          show DatsAre _ _ (dist _ ((tl.zip own).take (i + 1)))
          have hz : (tl.zip own)[i]? = some (x, (j : Int)) := by rw [List.getElem?_zip_eq_some]; exact ⟨hxx, hjj⟩
          rw [List.take_add_one, hz]
          show DatsAre _ _ (dist _ ((tl.zip own).take i ++ [(x, (j : Int))]))
          rw [dist_snoc _ _ hjc]
          exact dats_put hP hnd hvj ⟨_, hm⟩ (hwi.append (.cons _ _ .nil))
        · intro y s hP S
          rw [List.nil_append] at S
          have hP : DatsAre y.bseg bvs _ := hP
          rw [List.take_of_length_le (by rw [List.length_zip, List.size_toArray, List.size_toArray, htvl, hovs.length]; exact Nat.le_refl _)] at hP
          exact ⟨rfl, y.bseg, y.uk, y.uw, hP, S⟩
      rintro s ⟨bseg, uk, uw, hD, S⟩
      have hb7 := T.kin _ _ (ob567.2 w.params)
      have hb8 := T.kin _ _ (ob568.2 w.params)
      have hb9 := T.kin _ _ (ob569.2 w.params)
      have hb0 := T.kin _ _ (ob570.2 w.params)
      have hpl1 := powl
      have hlg1 := logl
      refine x_cut (fun s' => ∃ top pw lg, (pw, listOf (ob567.1 ++ ob568.1).toArray 0) ∈ top ∧ (lg, listOf (ob569.1 ++ ob570.1).toArray 0) ∈ top ∧ St (osB o₀) B (envF fs606.1 L 606) [("script", some (.ref sa)), ("first", some (.int a0 t1)), ("second", some (.int a1 t2)), ("version", some (.int kd.ver t3)), ("level", some (.int kd.lvl t4)), ("checks", some (.int kd.chk t5)), ("room", some (.int (room : Nat) t6)), ("parts", some (.ref pl)), ("over", some (.bool false)), ("rows", some (.ref rl)), ("told", some (.ref out)), ("k", uk), ("owners", some (.ref ow)), ("word", uw), ("powers", some (.ref pw)), ("logs", some (.ref lg)), ("block", none), ("worth", none), ("words", none), ("heard", none), ("at", none), ("end", none)]
        [("blocks", L + 3, some (.ref bl)), ("count", L + 2, some (.int (kd.szs.length : Nat) t7)), ("sizes", L + 1, some (.ref sz))] (top ++ (bseg ++ base)) s') ?_ ?_
      · refine x_assignTS (names := [("powers" : Str), "logs"]) ?hs ?hw ?_
        case hw => kernel_rfl
        case hs => kernel_rfl
        repeat cell_call
        show wpAny _ _ (assignInOrder [bindName _ ("logs" : Str), bindName _ ("powers" : Str)] [_, _]) _ _ _
        rename_i D1 _ _ D2 _ _ tt _ _ _ _
        repeat cell_call
        rename_i S
        exact ⟨rfl, [(tt, tupOf [.ref D1, .ref D2]), (D2, listOf (ob569.1 ++ ob570.1).toArray 0), (D1, listOf (ob567.1 ++ ob568.1).toArray 0)], D1, D2, by simp, by simp, S⟩
      rintro s ⟨top, pw, lg, hpw, hlg, S⟩
      have hrc : a1.fmod kd.chk = ((a1.fmod kd.chk).toNat : Nat) := by omega
      have hr255 : (a1.fmod kd.chk).toNat < 255 := by omega
      generalize hrr : (a1.fmod kd.chk).toNat = r at *
      generalize hdd : dist kd.szs.length (tl.zip own) = bks at *
      have hDl := hD.length
      refine x_cut (fun s' => ∃ uw ub uh, St (osB o₀) B (envF fs606.1 L 606) [("script", some (.ref sa)), ("first", some (.int a0 t1)), ("second", some (.int a1 t2)), ("version", some (.int kd.ver t3)), ("level", some (.int kd.lvl t4)), ("checks", some (.int kd.chk t5)), ("room", some (.int (room : Nat) t6)), ("parts", some (.ref pl)), ("over", some (.bool false)), ("rows", some (.ref rl)), ("told", some (.ref out)), ("k", uk), ("owners", some (.ref ow)), ("word", uw), ("powers", some (.ref pw)), ("logs", some (.ref lg)), ("block", ub), ("worth", uh), ("words", none), ("heard", none), ("at", none), ("end", none)]
        [("blocks", L + 3, some (.ref bl)), ("count", L + 2, some (.int (kd.szs.length : Nat) t7)), ("sizes", L + 1, some (.ref sz))] (top ++ (bseg ++ base)) s') ?_ ?_
      · --CUT
        repeat cell_call
        rename_i S
        refine r_iterList S (.n (List.mem_append_right _ (List.mem_append_right _ hbB))) fun it ob s hob S => ?_
        refine for_rule (X := WoY) (lF := fun v i y => [("script", some (.ref sa)), ("first", some (.int a0 t1)), ("second", some (.int a1 t2)), ("version", some (.int kd.ver t3)), ("level", some (.int kd.lvl t4)), ("checks", some (.int kd.chk t5)), ("room", some (.int (room : Nat) t6)), ("parts", some (.ref pl)), ("over", some (.bool false)), ("rows", some (.ref rl)), ("told", some (.ref out)), ("k", uk), ("owners", some (.ref ow)), ("word", y.uw), ("powers", some (.ref pw)), ("logs", some (.ref lg)), ("block", v), ("worth", y.uh), ("words", none), ("heard", none), ("at", none), ("end", none)]) (cF := fun _ _ => _) (hi := fun _ _ => []) (lo := fun _ _ => top ++ (bseg ++ base)) (P := fun _ _ => True) ⟨_, none⟩ (iter_list hh bvs) hob S trivial (fun _ _ _ _ => by tb_start) (fun ob u i y s S => S.isList (.n (.tail _ (List.mem_append_right _ (List.mem_append_right _ hbB))))) ?_ ?_
        · clear S hob s
          rintro i y ob v s hi' - hv hob S
          rw [List.nil_append] at S
          obtain ⟨b, hb, a, ws, ep, rfl, hm, hwi⟩ := hD.at hv
          obtain ⟨hby, hho, hbl100⟩ := hbk b (List.mem_of_getElem? hb)
          have hwl := hwi.length
          repeat cell_call
          rename_i S
          refine r_iterList S (.n (.tail _ (List.mem_append_right _ (List.mem_append_left _ hm)))) fun it2 ob2' s hob2' S => ?_
          refine for_rule (X := WiY) (lF := fun v j z => [("script", some (.ref sa)), ("first", some (.int a0 t1)), ("second", some (.int a1 t2)), ("version", some (.int kd.ver t3)), ("level", some (.int kd.lvl t4)), ("checks", some (.int kd.chk t5)), ("room", some (.int (room : Nat) t6)), ("parts", some (.ref pl)), ("over", some (.bool false)), ("rows", some (.ref rl)), ("told", some (.ref out)), ("k", uk), ("owners", some (.ref ow)), ("word", v), ("powers", some (.ref pw)), ("logs", some (.ref lg)), ("block", some (.ref a)), ("worth", some (.int (hor r (b.take j) : Nat) z.t)), ("words", none), ("heard", none), ("at", none), ("end", none)]) (cF := fun _ _ => _) (hi := fun _ _ => []) (lo := fun _ _ => (it, ob) :: (top ++ (bseg ++ base))) (P := fun _ _ => True) ⟨_⟩ (iter_list hh ws) hob2' S trivial (fun _ _ _ _ => by tb_start) (fun ob u i y s S => S.isList (.n (.tail _ (.tail _ (List.mem_append_right _ (List.mem_append_left _ hm)))))) ?_ ?_
          · clear S hob2' s
            rintro j z ob3' v s hj - hv2 hob3' S
            rw [List.nil_append] at S
            obtain ⟨x, tx, hxx, rfl⟩ := ints_at hwi hv2
            have hxb := hby x (List.mem_of_getElem? hxx)
            have hacc := hor_lt hr255 (b.take j) fun y hy => hby y (List.mem_of_mem_take hy)
            have hst := hor_step hr255 hacc hxb
            have hnx := hor_take (r := r) hxx
            generalize hor r (b.take j) = acc at *
            repeat cell_call
            refine r_iteD (fun hz0 => ?_) (fun hz0 => ?_)
            · repeat cell_call
              rename_i S
              refine ⟨⟨tx⟩, some (.int x tx), trivial, ?_⟩
              rw [if_pos (by omega)] at hst
              dsimp only
              rw [hnx, hst.1]
              exact S
            · have hlT := logsT
              have hpT := pows
              have hll : logTab.length = 256 := by decide +kernel
              have hpp : (expTab.take 255).length = 255 := by decide +kernel
              have Hlg : Has B (top ++ (bseg ++ base)) lg (listOf (ob569.1 ++ ob570.1).toArray 0) := .n (List.mem_append_left _ hlg)
              have Hpw : Has B (top ++ (bseg ++ base)) pw (listOf (ob567.1 ++ ob568.1).toArray 0) := .n (List.mem_append_left _ hpw)
              have hix1 : 0 ≤ (logTab.getD ((acc : Nat) : Int).toNat 0 + a1.fmod (kd.chk : Nat)).fmod 255 := Int.fmod_nonneg_of_pos _ (by decide)
              have hix2 : (logTab.getD ((acc : Nat) : Int).toNat 0 + a1.fmod (kd.chk : Nat)).fmod 255 < 255 := Int.fmod_lt_of_pos _ (by decide)
              have hix3 : (logTab.getD ((acc : Nat) : Int).toNat 0 + a1.fmod (kd.chk : Nat)).fmod 255 < ((expTab.take 255).length : Nat) := by rw [hpp]; exact hix2
              have hix4 : (logTab.getD ((acc : Nat) : Int).toNat 0 + a1.fmod (kd.chk : Nat)).fmod 255 < 2 ^ 63 := Int.lt_trans hix2 (by decide)
              have hval : (expTab.take 255).getD ((logTab.getD ((acc : Nat) : Int).toNat 0 + a1.fmod (kd.chk : Nat)).fmod 255).toNat 0 = gexpP (glogP (acc : Nat) + (r : Nat)) := by
                rw [pow_at hix1 hix2, Int.fmod_eq_emod_of_nonneg _ (by decide), hrc]
                rfl
              rw [if_neg (by omega)] at hst
              repeat cell_call
              rename_i tx' _ _ _ S
              rw [hval] at S
              refine ⟨⟨tx'⟩, some (.int x tx), trivial, ?_⟩
              dsimp only
              rw [hnx, hst.1]
              exact S
          · intro v z s _ S
            rw [List.nil_append] at S
            rw [hwl, List.take_length, hho] at S
            repeat cell_call
            refine r_iteNeg (by simp) ?_
            repeat cell_call
            rename_i S
            exact ⟨⟨v, some (.int ((0 : Nat) : Int) z.t)⟩, some (.ref a), trivial, S⟩
        · intro v y s _ S
          rw [List.nil_append] at S
          exact ⟨rfl, _, _, _, S⟩
      rintro s ⟨uw, ub, uh, S⟩
      have hbk100 : ∀ b ∈ bks, b.length ≤ 100 := fun b hb => (hbk b hb).2.2
      rw [hbvl] at hDl
      refine x_cut (fun s' => ∃ top wl wvs wk, (wl, listOf wvs.toArray wk) ∈ top ∧ IntsAre wvs (wdOf bks kd.szs kd.szs.length) ∧ St (osB o₀) B (envF fs606.1 L 606) [("script", some (.ref sa)), ("first", some (.int a0 t1)), ("second", some (.int a1 t2)), ("version", some (.int kd.ver t3)), ("level", some (.int kd.lvl t4)), ("checks", some (.int kd.chk t5)), ("room", some (.int (room : Nat) t6)), ("parts", some (.ref pl)), ("over", some (.bool false)), ("rows", some (.ref rl)), ("told", some (.ref out)), ("k", uk), ("owners", some (.ref ow)), ("word", uw), ("powers", some (.ref pw)), ("logs", some (.ref lg)), ("block", ub), ("worth", uh), ("words", some (.ref wl)), ("heard", none), ("at", none), ("end", none)]
        [("blocks", L + 3, some (.ref bl)), ("count", L + 2, some (.int (kd.szs.length : Nat) t7)), ("sizes", L + 1, some (.ref sz))] (top ++ (bseg ++ base)) s') ?_ ?_
      · --CUT
        refine x_compA (cl := [("sizes", L + 1), ("blocks", L + 3)]) ?hsw ?ha ?hcl ?hok ?hf ?_
        case ha => rfl
        case hsw => kernel_rfl
        case hcl => kernel_rfl
        case hok => kernel_rfl
        case hf => (intro _; kernel_rfl)
        repeat cell_call
        rename_i it ob s hob S
        have e0 : ((kd.szs.length : Nat) - 0 : Int).toNat = kd.szs.length := by omega
        rw [e0] at hob
        refine' comp_enterA (lc := [(("k" : Str), none), ("word", none)]) (cc := [("blocks", L + 3, some (.ref bl)), ("sizes", L + 1, some (.ref sz))]) S T ?hok ?hev ?hlc ?hcc ?hcl ?hput ?hbody
        case hok => kernel_rfl
        case hev => kernel_rfl
        case hlc => simp
        case hcc => exact .cons_cons _ (.cons _ (.cons_cons _ (List.nil_sublist _)))
        case hcl =>
          intro p hp
          rcases List.mem_cons.mp hp with rfl | hp
          · kernel_rfl
          · rcases List.mem_cons.mp hp with rfl | hp
            · kernel_rfl
            · cases hp
        case hput => (intro _; tb_start)
        case hbody =>
          intro g C acc s S' T' ext'
          have hszG := ext' _ _ hszB
          refine comp_rule0 (X := WdY) (lF := fun _ y => [(("k" : Str), y.a), ("word", y.b)]) (cc := _) (hi := fun _ y => y.hi ++ [(acc, listOf y.vs.toArray y.vk)]) (lo := fun _ _ => _) (P := fun i y => IntsAre y.vs (wdOf bks kd.szs i)) ⟨[], [], 0, none, none⟩ (iter_range hh 0 1 kd.szs.length) (fun s i ob Q E h1 h2 h3 => self_range s i ob Q E h1 h2 h3) hob S' .nil ?ht ?hf1 (fun _ _ _ _ _ => trivial) ?_ ?_
          case ht => (intro _; rfl)
          case hf1 => (intro _; kernel_rfl)
          · rintro i y ob v s hi' hP ⟨ti, rfl⟩ hob S
            have e1 : (0 + (i : Int) * 1) = i := by omega
            rw [e1]
            have hP : IntsAre y.vs _ := hP
            repeat cell_call
            rw [List.forIn_nil]
            refine wpAny_pure (r_ifT rfl ?_)
            repeat cell_call
            rename_i S
            obtain ⟨vj, hvj⟩ : ∃ v, bvs[i]? = some v := ⟨_, List.getElem?_eq_getElem (by omega)⟩
            obtain ⟨b, hb, a, ws, ep, rfl, hm, hwi⟩ := hD.at hvj
            have hb100 := hbk100 b (List.mem_of_getElem? hb)
            have hwl := hwi.length
            refine r_item (S.isList (.n (List.mem_append_right _ (.tail _ (List.mem_append_right _ (List.mem_append_right _ hbB)))))) (by omega) (by omega) (v := .ref a) ?hx2 ?_ ?hs
            case hx2 => rw [Int.toNat_natCast]; exact hvj
            case hs => kernel_rfl
            have Ha : Has g (top ++ (bseg ++ base)) a (listOf ws.toArray ep) := .n (List.mem_append_right _ (List.mem_append_left _ hm))
            repeat cell_call
            have ein : ((i : Nat) : Int).toNat = i := by omega
            rename_i D _ S
            rw [ein, getD_cast] at S
            have hDi := kmk_upto (y := ((kd.szs.getD i 0 : Nat) : Int)) hwi (by omega)
            rw [Int.toNat_natCast] at hDi
            generalize hlw : (slicePick ws.toArray none (some ((kd.szs.getD i 0 : Nat) : Int)) none).toList = lw at *
            have hDl2 := hDi.length
            rw [List.length_take] at hDl2
            refine r_iterList S (.n (.head _)) fun it2 ob2' s hob2' S => ?_
            have hwdl := wdOf_len (szs := kd.szs) hbk100 i
            simp only [List.append_assoc, List.cons_append, List.nil_append] at S
            refine comp_rule1 (X := WdY) (lF := fun _ z => [(("k" : Str), some (.int i ti)), ("word", z.b)]) (cc := _) (hi := fun _ _ => []) (lo := fun _ z => (D, listOf lw.toArray 0) :: (y.hi ++ (acc, listOf z.vs.toArray z.vk) :: _)) (P := fun j z => IntsAre z.vs (wdOf bks kd.szs i ++ (b.take (kd.szs.getD i 0)).take j)) ⟨[], y.vs, y.vk, none, y.b⟩ (iter_list hh lw) (fun s i ob Q E h1 h2 h3 => self_list s i ob Q E h1 h2 h3) hob2' S ?h00 ?ht (fun ob i y s S => S.isList (.n (.tail _ (.head _)))) ?_ ?_
            case ht => (intro _; rfl)
            case h00 =>
              show IntsAre y.vs _
              simpa using hP
            · clear S
              rintro j z ob3' v s hj hPz hv hob3' S
              rw [List.nil_append] at S
              obtain ⟨x, tx, hxx, rfl⟩ := ints_at hDi hv
              have hPz : IntsAre z.vs _ := hPz
              have hzl := hPz.length
              rw [List.length_append, List.length_take, List.length_take] at hzl
              have hln : (wdOf bks kd.szs i ++ (b.take (kd.szs.getD i 0)).take j).length ≤ 1000000 := by rw [List.length_append, List.length_take, List.length_take]; omega
              repeat cell_call
              rw [List.forIn_nil]
              refine wpAny_pure (r_ifT rfl ?_)
              repeat cell_call
              rename_i vs2 s hi2 S
              refine ⟨⟨[], vs2, z.vk + 1, none, some (.int x tx)⟩, ?_, S⟩
              show IntsAre vs2 _
              rw [List.take_add_one, hxx, ← List.append_assoc]
              exact hi2
            · rintro z s hPz S
              rw [List.nil_append] at S
              refine ⟨⟨(D, listOf lw.toArray 0) :: y.hi, z.vs, z.vk, some (.int i ti), z.b⟩, ?_, ?_⟩
              · have hPz : IntsAre z.vs _ := hPz
                show IntsAre z.vs _
                rw [wdOf_succ, List.getD_eq_getElem?_getD (l := bks), hb]
                rw [List.take_of_length_le (by rw [List.length_take]; omega)] at hPz
                exact hPz
              · show St _ _ _ _ _ (((D, listOf lw.toArray 0) :: y.hi ++ [(acc, listOf z.vs.toArray z.vk)]) ++ (it, ob) :: _) _
                rw [List.append_assoc]
                exact S
          · rintro y s hP S
            refine ⟨_, _, _, S, .gone (cellE_range hob) (.newApp _ .refl), fun s S => ?_⟩
            refine ⟨rfl, y.hi ++ [(acc, listOf y.vs.toArray y.vk)] ++ top, acc, y.vs, y.vk, by simp, hP, ?_⟩
            rw [List.append_assoc]
            exact S
      rintro s ⟨top, wl, wvs, wk, hwl, hwv, S⟩
      have hpb : (pl, listOf pvs.toArray pk) ∈ base := by rw [← hbase]; exact List.mem_append_left _ (.tail _ hpl)
      have hTb := hT.mono (n' := base) fun p _ hp => by rw [← hbase]; exact List.mem_append_left _ (.tail _ hp)
      obtain ⟨wd, hwd, hwb, hwz, htold, hend, hq1, hq2⟩ : ∃ wd, wdOf bks kd.szs kd.szs.length = wd ∧ (∀ x ∈ wd, 0 ≤ x ∧ x < 256) ∧ 8 * wd.length = room ∧ Told wd (allF parts) ∧ (8 * wd.length < wid (allF parts) + 4 ∨ takenOf wd (wid (allF parts) : Nat) 4 = 0) ∧
          takenOf wd (wid (allF parts) : Nat) ((padN room (wid (allF parts)) + delN (wid (allF parts) + padN room (wid (allF parts))) : Nat) : Int) = 0 ∧
          wd.drop ((wid (allF parts) + padN room (wid (allF parts)) + delN (wid (allF parts) + padN room (wid (allF parts)))) / 8) = ((List.replicate 23 [(236 : Int), 17]).flatten).take (wd.length - (wid (allF parts) + padN room (wid (allF parts)) + delN (wid (allF parts) + padN room (wid (allF parts)))) / 8) := by
        obtain ⟨_, q2, q3, q4, q5, q6, q7⟩ := words_ok (room := room) (by omega) hlm (fun p hp => (hparts.1 p hp).1) hfit (wd := putAll [] 0 (allBits room parts)) rfl
        exact ⟨putAll [] 0 (allBits room parts), hwdp, q2, q3, q4, q5, q6, q7⟩
      rw [hwd] at hwv
      have hwvl := hwv.length
      refine x_cut (fun s' => ∃ top hl hvs hk ta, (wl, listOf wvs.toArray wk) ∈ top ∧ TupsAre top hvs parts ∧ (hl, listOf hvs.toArray hk) ∈ top ∧ St (osB o₀) B (envF fs606.1 L 606) [("script", some (.ref sa)), ("first", some (.int a0 t1)), ("second", some (.int a1 t2)), ("version", some (.int kd.ver t3)), ("level", some (.int kd.lvl t4)), ("checks", some (.int kd.chk t5)), ("room", some (.int (room : Nat) t6)), ("parts", some (.ref pl)), ("over", some (.bool false)), ("rows", some (.ref rl)), ("told", some (.ref out)), ("k", uk), ("owners", some (.ref ow)), ("word", uw), ("powers", some (.ref pw)), ("logs", some (.ref lg)), ("block", ub), ("worth", uh), ("words", some (.ref wl)), ("heard", some (.ref hl)), ("at", some (.int (wid (allF parts) : Nat) ta)), ("end", none)]
        [("blocks", L + 3, some (.ref bl)), ("count", L + 2, some (.int (kd.szs.length : Nat) t7)), ("sizes", L + 1, some (.ref sz))] (top ++ (bseg ++ base)) s') ?_ ?_
      · repeat cell_call
        rename_i S
        refine told_call (parts := parts) S T hr.le (.n (List.mem_append_left _ hwl)) hwv hwb (by omega) (fun p hp => (hparts.1 p hp).1) htold hend (by have := hparts.2; omega) fun add pl' tt ta pvs' pk' s hT' hpl' htt S => ?_
        refine x_asgTup hh S (.n (List.mem_append_left _ htt)) rfl ?hst fun s S => ?_
        case hst => kernel_rfl
        repeat cell_call
        rename_i S
        exact ⟨rfl, add ++ top, pl', pvs', pk', ta, by simp [hwl], hT'.mono fun p _ hp => by simp [hp], by simp [hpl'], by rw [List.append_assoc]; exact S⟩
      rintro s ⟨top, hl, hvs, hk, ta, hwl, hH, hhl, S⟩
      generalize hW : wid (allF parts) = W at *
      have Hwl : Has B (top ++ (bseg ++ base)) wl (listOf wvs.toArray wk) := .n (List.mem_append_left _ hwl)
      have hr8 : room % 8 = 0 := by omega
      have hWr : W ≤ room := by omega
      have hendv : min ((W : Nat) + 4 : Int) (room : Nat) + (-(min ((W : Nat) + 4 : Int) (room : Nat))).fmod 8 = ((W + padN room W + delN (W + padN room W) : Nat) : Int) := by
        rw [Int.fmod_eq_emod_of_nonneg _ (by decide)]
        unfold padN delN
        omega
      have hen1 : W ≤ W + padN room W + delN (W + padN room W) ∧ W + padN room W + delN (W + padN room W) ≤ room ∧ padN room W + delN (W + padN room W) ≤ 11 := by
        unfold padN delN
        omega
      have hend8 : 8 * ((W + padN room W + delN (W + padN room W)) / 8) = W + padN room W + delN (W + padN room W) := by
        unfold padN delN
        omega
      generalize hpd : padN room W + delN (W + padN room W) = pd at *
      generalize hen : W + padN room W + delN (W + padN room W) = en at *
      repeat cell_call
      rename_i S
      rw [hendv] at S
      refine BoolOp_and ?_
      repeat cell_call
      rename_i S
      refine tups_eq (k := hk) (j := pk) S (hH.mono fun p _ hp => List.mem_append_left _ hp) (hTb.mono fun p _ hp => List.mem_append_right _ (List.mem_append_right _ hp)) (List.mem_append_left _ hhl) (List.mem_append_right _ (List.mem_append_right _ hpb)) (by have := hr.units; omega) ?_
      repeat cell_call
      refine BoolOp_and ?_
      repeat cell_call
      rename_i S
      refine taken_call S T hr.le Hwl hwv hwb (by omega) (by omega) (by omega) (by omega) (by omega) fun t s S => ?_
      have ewp : ((en : Nat) : Int) - (W : Nat) = (pd : Nat) := by omega
      rw [ewp, hq1]
      repeat cell_call
      refine r_itePos rfl ?_
      refine BoolOp_one ?_
      have hfd : ((en : Nat) : Int).fdiv 8 = ((en / 8 : Nat) : Int) := by rw [Int.fdiv_eq_ediv_of_nonneg _ (by decide)]; omega
      repeat cell_call
      rename_i D1 _ _ t6' _ _ t5' _ _ _ _ _ _ _ _ D2 _ _ _ _ _ _ _ _ _ _ _ _ _ S
      have hrp : (List.replicate (Int.toNat 23) [Value.int 236 t6', Value.int 17 t5']).flatten.length ≤ 1000000 := by
        rw [(ints_repl (.cons 236 t6' (.cons 17 t5' .nil)) (Int.toNat 23)).length]
        exact Nat.le_of_ble_eq_true rfl
      refine r_sliceL S ?hs ?ht (.n (.head _)) .none (.int _ _) hrp fun D3 s S => ?_
      case hs => kernel_rfl
      case ht => (intro _; rfl)
      have hi1 := kmk_from (x := ((en : Nat) : Int).fdiv 8) hwv (by omega)
      have hi2 := kmk_upto (y := (wd.length : Nat) - ((en : Nat) : Int).fdiv 8) (ints_repl (.cons 236 t6' (.cons 17 t5' .nil)) (Int.toNat 23)) (by omega)
      refine r_eqInts S (.n (.tail _ (.tail _ (.tail _ (.head _))))) (.n (.head _)) hi1 hi2 (by have := hr.units; omega) ?_
      have hqq : decide (wd.drop (((en : Nat) : Int).fdiv 8).toNat = (List.replicate (Int.toNat 23) [(236 : Int), 17]).flatten.take ((wd.length : Nat) - ((en : Nat) : Int).fdiv 8).toNat) = true := by
        rw [hfd]
        have e1 : ((en / 8 : Nat) : Int).toNat = en / 8 := by omega
        have e2 : ((wd.length : Nat) - ((en / 8 : Nat) : Int)).toNat = wd.length - en / 8 := by omega
        rw [e1, e2, hq2]
        exact decide_eq_true rfl
      rw [hqq]
      repeat cell_call
      refine h _ _ _ _ _ ⟨pa, ?_⟩ ⟨pb, ?_⟩ S
      · exact .tail _ (.tail _ (.tail _ (.tail _ (List.mem_append_right _ (List.mem_append_right _ hpaB)))))
      · exact .tail _ (.tail _ (.tail _ (.tail _ (List.mem_append_right _ (List.mem_append_right _ hpbB)))))
end
end
section
open PySem PySem.W PySem.Calls PyProof.Rows
theorem ns_hide {h : Heap} {a : Addr} {m : Str → Option Value} {l : List Addr} (hn : h.Ns a m) (ha : a ∉ l) : (hideAll h l).Ns a m :=
  let ⟨o, es, ep, e, r⟩ := hn; ⟨o, es, ep, hideAll_get _ e ha, r⟩
theorem code_led {h : Heap} {c P : Addr} {n : Ledg} (h1 : h.IsCode c P #[]) (h2 : h.TableAt c P #[]) (hc : c ∉ n.map (·.1)) (hm : (P, recOb #[]) ∈ n) : CodeLed (hideAll h (n.map (·.1))) n c P := by
  obtain ⟨o, vs, file, tf, flags, tg, inF, text, tt, op, a1, a2, a3, a4, a5, a6, a7, a8, a9, a10, a11⟩ := h1
  obtain ⟨⟨o', vs', b1, b2, b3, b4⟩, _⟩ := h2
  rw [a1] at b1
  cases b1
  rw [a2] at b3
  cases b3
  exact ⟨⟨o, vs, file, tf, flags, tg, inF, text, tt, hideAll_get _ a1 hc, b2, a2, b4, a3, a4, a5, a6, a7, a11⟩, #[], hm, trivial⟩
noncomputable def ob548 : { vs : Array Value // ∀ P, (KK P).lookup 548 = some ⟨.type "code", none, .fields vs, #[]⟩ } := ⟨_, fun _ => rfl⟩
noncomputable def ob439 : { vs : Array Value // ∀ P, (KK P).lookup 439 = some ⟨.type "code", none, .fields vs, #[]⟩ } := ⟨_, fun _ => rfl⟩
theorem at548 : ob548.1[11]? = some (.ref 544) := by kernel_rfl
theorem at439 : ob439.1[11]? = some (.ref 435) := by kernel_rfl
theorem cd_549 : fs549.1.code = .ref 548 := by kernel_rfl
theorem cd_440 : fs440.1.code = .ref 439 := by kernel_rfl
theorem no544 (P : Params) : (KK P).lookup 544 = none := by kernel_rfl
theorem no435 (P : Params) : (KK P).lookup 435 = none := by kernel_rfl
/-- a function's table at the head -/
theorem tab_of {p : Program} {loose : List Str} {mean : ExcName → Option Value} {mg mb : Str → Option Value} {h : Heap} (T : Top p loose mean mg mb h) {d : DefRec} {name : Str} (hf : (recsOf p).find? (fun e => e.name == name) = some d) {a c P : Addr} {o oc : Obj} {fd : FuncData} {vs : Array Value} (hm : mg name = some (.ref a)) (ho : h.get? a = some o) (hd : o.data = .func fd)
    (hc : fd.code = .ref c) (hoc : h.get? c = some oc) (hocd : oc.data = .fields vs) (hv : vs[11]? = some (.ref P)) : h.IsCode c P #[] ∧ h.TableAt c P #[] := by
  have hn : d.name = name := beq_iff_eq.mp (List.find?_some (p := fun e : DefRec => e.name == name) hf)
  obtain ⟨a', o', fd', c', P', h1, h2, h3, h4, h5, h6⟩ := T.tab d (List.mem_of_find?_eq_some hf)
  rw [hn, hm] at h1; cases h1
  rw [ho] at h2; cases h2
  rw [hd] at h3; cases h3
  rw [hc] at h4; cases h4
  obtain ⟨⟨o'', vs'', b1, b2, b3, b4⟩, b5⟩ := id h6
  rw [hoc] at b1; cases b1
  rw [hocd] at b3; cases b3
  rw [hv] at b4; cases b4
  exact ⟨h5, h6⟩
end
end Mine
open PySem PySem.W PySem.Calls PyProof.Rows
theorem Mine.bm0037_law : PySem.Challenge.rw_bm0037_01.Holds := by
  refine Mine.hd ?_
  intro w s₀ s₁ mg mb G Y fa o pm cd doc dV kV ho hd hcd hD hmg hg args vals as hpre hlay hrd hwl hlo
  have KX : (Mine.KK w.params).In s₁.heap := kIn_of Y
  refine Ground.open G ?_
  intro T _ _ _ _
  wrow_args hpre hlay hrd hwl hlo
  rename_i ns _ _ _ _ _ _ _ sa vs _ hL _ hW _ hI _ hz _
  refine enter_call ?_
  have hz' : ns.length ≤ 63 := by omega
  have hfa : mg "law" = some (.ref 606) := mg_of KX T.g (by kernel_rfl)
  obtain rfl : fa = 606 := by
    have h1 := hfa.symm.trans hmg
    cases h1; rfl
  have hsa : s₁.heap.get? sa = some (listOf vs.toArray 0) := by
    obtain ⟨o', e1, e2, n', e3⟩ := hL
    have hW' : Well w.params s₁.heap (.ref sa) (.list (ofPys (ns.map PyData.int))) := hW
    cases hW' with
    | list e4 _ =>
      rw [e1] at e4
      cases e4
      cases e3
      exact e1
  obtain ⟨i1, t1⟩ := Mine.tab_of T (name := "create_data") rfl (mg_of KX T.g (by kernel_rfl)) (KX _ _ (Mine.fs549.2 _)) rfl Mine.cd_549 (KX _ _ (Mine.ob548.2 _)) rfl Mine.at548
  obtain ⟨i2, t2⟩ := Mine.tab_of T (name := "optimal_mode") rfl (mg_of KX T.g (by kernel_rfl)) (KX _ _ (Mine.fs440.2 _)) rfl Mine.cd_440 (KX _ _ (Mine.ob439.2 _)) rfl Mine.at439
  have hbm := T.bmain
  obtain ⟨bm, obm, q1, q2, q3, q4, q5, q6⟩ := hbm
  have hb544 : bm ≠ 544 := fun e => by
    subst e
    rw [t1.2] at q3; cases q3; cases q4
  have hb435 : bm ≠ 435 := fun e => by
    subst e
    rw [t2.2] at q3; cases q3; cases q4
  have hs544 : sa ≠ 544 := fun e => by
    subst e
    rw [t1.2] at hsa; cases hsa
  have hs435 : sa ≠ 435 := fun e => by
    subst e
    rw [t2.2] at hsa; cases hsa
  have hno : ∀ a, a ≠ 544 → a ≠ 435 → a ∉ ([(544, Mine.recOb #[]), (435, Mine.recOb #[])] : Mine.Ledg).map (·.1) := fun a h1 h2 hm => by
    simp only [List.map_cons, List.map_nil, List.mem_cons, List.not_mem_nil, or_false] at hm
    rcases hm with rfl | rfl
    · exact h1 rfl
    · exact h2 rfl
  have hT : Mine.BaseG (Mine.KK w.params) mg mb (hideAll s₁.heap (([(544, Mine.recOb #[]), (435, Mine.recOb #[])] : Mine.Ledg).map (·.1))) := by
    obtain ⟨mc, n1, n2⟩ := T.nolimit
    obtain ⟨mc', n3, n4⟩ := T.nodigits
    refine ⟨⟨fun a o' e => hideAll_get _ (KX a o' e) (hno a (fun q => ?_) fun q => ?_), Mine.ns_hide T.g (hno _ (by decide) (by decide)), Mine.ns_hide T.b (hno _ (by decide) (by decide)), ⟨mc, Mine.ns_hide n1 (hno _ (by decide) (by decide)), n2⟩, ⟨mc', Mine.ns_hide n3 (hno _ (by decide) (by decide)), n4⟩, T.builtins⟩,
      bm, obm, Mine.ns_hide T.g (hno _ (by decide) (by decide)), q1, q2, hideAll_get _ q3 (hno _ hb544 hb435), q4, q5, q6⟩
    · subst q
      rw [Mine.no544] at e; cases e
    · subst q
      rw [Mine.no435] at e; cases e
  refine Mine.law_spec (n := [(544, Mine.recOb #[]), (435, Mine.recOb #[])]) (kz := 0) (vs := vs) (ns := ns) ?_ (by decide) (.of_eq hg) hT rfl ⟨by decide, by decide, rfl⟩ (Mine.code_led i1 t1 (hno _ (by decide) (by decide)) (.head _)) (Mine.code_led i2 t2 (hno _ (by decide) (by decide)) (.tail _ (.head _))) (.inr (hideAll_get _ hsa (hno _ hs544 hs435))) hI hz' ?_
  · intro p hp
    rcases List.mem_cons.mp hp with rfl | hp
    · exact t1.2
    · rcases List.mem_cons.mp hp with rfl | hp
      · exact t2.2
      · cases hp
  · rintro env' l' c' n' s' ⟨pa, hpa⟩ ⟨pb, hpb⟩ S
    refine ⟨.inl ⟨_, .bool true, [], rfl, fun _ => rfl, ReadsW.bool true, ?_, fun _ => ⟨List.nodup_nil, fun _ hm => nomatch hm⟩⟩, ⟨fun b o' e => ?_, fun b o' e => ?_⟩, S.os.1, S.os.2⟩
    · first | rfl | wrow_post
    · by_cases h1 : b = 544
      · subst h1
        rw [t1.2] at e
        cases e
        exact .inr (.inl ⟨t1.isCodeTable, rfl, #[], pa, rfl, by rw [S.nw.get hpa]; simp⟩)
      · by_cases h2 : b = 435
        · subst h2
          rw [t2.2] at e
          cases e
          exact .inr (.inl ⟨t2.isCodeTable, rfl, #[], pb, rfl, by rw [S.nw.get hpb]; simp⟩)
        · exact .inl (S.fr.keep _ _ (hideAll_get _ e (hno _ h1 h2)))
    · by_cases h1 : b = 544
      · subst h1; exact ⟨_, S.nw.get hpa⟩
      · by_cases h2 : b = 435
        · subst h2; exact ⟨_, S.nw.get hpb⟩
        · exact ⟨_, S.fr.keep _ _ (hideAll_get _ e (hno _ h1 h2))⟩
theorem PySem.Challenge.cw_bm0037_01_holds : PySem.Challenge.rw_bm0037_01.Holds :=
  Mine.bm0037_law
