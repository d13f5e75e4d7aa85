import PyProof.Rows.All
import Wide.All
import OpenK.AllK
import Wide.FinOn
import PyProof.Rows.TopCatch
import KE.KDictSum
import PyProof.AttrMissHeap
import KE.KDictOf
import PyProof.DictCompW
import PyProof.DictItemsLoops
import KE.KPairComp
import PySem.Challenge.RW_kj0013_01
set_option compiler.extract_closed false
set_option Elab.async false
set_option linter.all false
set_option maxRecDepth 100000
set_option maxHeartbeats 8000000
namespace Mine
open PySem PySem.W PySem.Calls PyProof.Rows

/-! a small separation logic -/
abbrev HP := Obj → Prop
structure Gh where
  g : Heap
  gens : Array GenState
  drawn : Drawn
  os : OsState

structure Led (G : Gh) (s : Shared) (l : List (Addr × HP)) : Prop where
  keep : ∀ b o, G.g.get? b = some o → s.heap.get? b = some o
  nd : (l.map Prod.fst).Nodup
  at_ : ∀ p ∈ l, G.g.get? p.1 = none ∧ ∃ o, s.heap.get? p.1 = some o ∧ p.2 o
  gens : s.gens = G.gens
  drawn : s.drawn = G.drawn
  os : s.os = G.os
  hi : ∀ p ∈ l, 3 < p.1
  big : 3 < s.heap.objs.size

inductive Rep (a : Addr) (P : HP) (P' : HP) : List (Addr × HP) → List (Addr × HP) → Prop
  | head {l} : Rep a P P' ((a, P) :: l) ((a, P') :: l)
  | tail {p l l'} : Rep a P P' l l' → Rep a P P' (p :: l) (p :: l')

theorem Rep.mem {a P P' l l'} (r : Rep a P P' l l') : (a, P) ∈ l := by
  induction r with
  | head => exact .head _
  | tail _ ih => exact .tail _ ih
theorem Rep.fst {a P P' l l'} (r : Rep a P P' l l') : l'.map Prod.fst = l.map Prod.fst := by
  induction r with
  | head => rfl
  | tail _ ih => simp [ih]
theorem Rep.of {a P P' l l'} (r : Rep a P P' l l') : ∀ p ∈ l', p = (a, P') ∨ p ∈ l := by
  induction r with
  | head => intro p hp; rcases List.mem_cons.mp hp with h | h; exact .inl h; exact .inr (.tail _ h)
  | tail _ ih =>
    intro p hp; rcases List.mem_cons.mp hp with h | h
    · exact .inr (h ▸ .head _)
    · exact (ih p h).imp id (.tail _)

section
variable {G : Gh} {s : Shared} {l l' : List (Addr × HP)} {a : Addr} {P P' : HP}
theorem Led.get (H : Led G s l) (hm : (a, P) ∈ l) : ∃ o, s.heap.get? a = some o ∧ P o := (H.at_ _ hm).2
theorem Led.fresh (H : Led G s l) (hm : (a, P) ∈ l) : G.g.get? a = none := (H.at_ _ hm).1
/-- two entries at one place are one -/
theorem nd_eq {l : List (Addr × HP)} (nd : (l.map Prod.fst).Nodup) {p q : Addr × HP} (hp : p ∈ l) (hq : q ∈ l) (e : p.1 = q.1) : p = q := by
  induction l with
  | nil => cases hp
  | cons x r ih =>
    simp only [List.map_cons, List.nodup_cons] at nd
    rcases List.mem_cons.mp hp with h1 | h1 <;> rcases List.mem_cons.mp hq with h2 | h2
    · rw [h1, h2]
    · exact absurd (show x.1 ∈ r.map Prod.fst by rw [← h1, e]; exact List.mem_map_of_mem h2) nd.1
    · exact absurd (show x.1 ∈ r.map Prod.fst by rw [← h2, ← e]; exact List.mem_map_of_mem h1) nd.1
    · exact ih nd.2 h1 h2
theorem Led.toks (H : Led G s l) (tk : Nat) : Led G { s with toks := tk } l := ⟨H.keep, H.nd, H.at_, H.gens, H.drawn, H.os, H.hi, H.big⟩
/-- a changed object -/
theorem Led.upd (H : Led G s l) (r : Rep a P P' l l') {h' : Heap} {tk : Nat} (hs : Heap.SameBut a s.heap h') (ho : ∃ o, h'.get? a = some o ∧ P' o) : Led G { s with heap := h', toks := tk } l' := by
  refine ⟨fun b o e => ?_, by rw [r.fst]; exact H.nd, fun p hp => ?_, H.gens, H.drawn, H.os, fun p hp => ?_, by rw [show ({ s with heap := h', toks := tk } : Shared).heap.objs.size = s.heap.objs.size from hs.1]; exact H.big⟩
  · refine (hs.2 b fun q => ?_).trans (H.keep b o e)
    rw [q, H.fresh r.mem] at e; cases e
  · have nd' : (l'.map Prod.fst).Nodup := by rw [r.fst]; exact H.nd
    by_cases hpa : p.1 = a
    · refine ⟨hpa ▸ H.fresh r.mem, ?_⟩
      rcases r.of p hp with rfl | hl
      · exact ho
      · -- p is in l at a, hence equals (a, P); but then in l' both p and (a,P') at a
        have m' : (a, P') ∈ l' := by
          clear hp hl ho hs nd' H
          induction r with
          | head => exact .head _
          | tail _ ih => exact .tail _ ih
        have := nd_eq nd' hp m' hpa
        rw [this]; exact ho
    · rcases r.of p hp with rfl | hl
      · exact absurd rfl hpa
      · obtain ⟨f, o, e, hP⟩ := H.at_ p hl
        exact ⟨f, o, (hs.2 p.1 hpa).trans e, hP⟩
  · rcases r.of p hp with rfl | hl
    · exact H.hi (a, P) r.mem
    · exact H.hi p hl
/-- a new object -/
theorem Led.alloc (H : Led G s l) {o : Obj} {P : HP} (hf : o.isFreed = false) (hP : P o) {tk : Nat} : Led G { s with heap := s.heap.push o, toks := tk } ((s.heap.objs.size, P) :: l) := by
  refine ⟨fun b o' e => Heap.get?_push_of_some _ (H.keep b o' e), ?_, fun p hp => ?_, H.gens, H.drawn, H.os, fun p hp => (by rcases List.mem_cons.mp hp with rfl | hp; exact H.big; exact H.hi p hp), by show 3 < (s.heap.push o).objs.size; rw [Heap.size_push]; have := H.big; omega⟩
  · simp only [List.map_cons, List.nodup_cons]
    refine ⟨fun hm => ?_, H.nd⟩
    obtain ⟨p, hp, e⟩ := List.mem_map.mp hm
    obtain ⟨_, o', e', _⟩ := H.at_ p hp
    exact absurd (Heap.lt_size e') (by rw [e]; exact Nat.lt_irrefl _)
  · rcases List.mem_cons.mp hp with rfl | hp
    · refine ⟨?_, o, Heap.get?_push_size _ hf, hP⟩
      cases q : G.g.get? s.heap.objs.size with
      | none => rfl
      | some o' => exact absurd (Heap.lt_size (H.keep _ _ q)) (Nat.lt_irrefl _)
    · obtain ⟨f, o', e, hP'⟩ := H.at_ p hp
      exact ⟨f, o', Heap.get?_push_of_some _ e, hP'⟩
/-- a weaker view -/
theorem Led.perm (H : Led G s l) (h : l.Perm l') : Led G s l' :=
  ⟨H.keep, (h.map Prod.fst).nodup_iff.mp H.nd, fun p hp => H.at_ p (h.mem_iff.mpr hp), H.gens, H.drawn, H.os, fun p hp => H.hi p (h.mem_iff.mpr hp), H.big⟩
theorem Led.sub (H : Led G s l) (h : l'.Sublist l) : Led G s l' :=
  ⟨H.keep, (h.map Prod.fst).nodup H.nd, fun p hp => H.at_ p (h.subset hp), H.gens, H.drawn, H.os, fun p hp => H.hi p (h.subset hp), H.big⟩
theorem Led.tl {p} (H : Led G s (p :: l)) : Led G s l := H.sub (List.sublist_cons_self _ _)
theorem Led.weak (H : Led G s ((a, P) :: l)) (h : ∀ o, P o → P' o) : Led G s ((a, P') :: l) :=
  ⟨H.keep, H.nd, fun p hp => by
    rcases List.mem_cons.mp hp with rfl | hp
    · obtain ⟨f, o, e, hP⟩ := H.at_ _ (.head _)
      exact ⟨f, o, e, h o hP⟩
    · exact H.at_ p (.tail _ hp), H.gens, H.drawn, H.os, fun p hp => (by rcases List.mem_cons.mp hp with rfl | hp; exact H.hi (a, P) (.head _); exact H.hi p (.tail _ hp)), H.big⟩
/-- the part above the base hidden: the frame rule -/
def Gh.hide (G : Gh) (s : Shared) (l : List (Addr × HP)) : Gh := { G with g := hideAll s.heap (l.map Prod.fst) }
theorem Led.focus {R : List (Addr × HP)} (H : Led G s (l ++ R)) : Led (G.hide s l) s l :=
  ⟨fun _ _ e => of_hideAll _ e, (H.sub (List.sublist_append_left l R)).nd, fun p hp => ⟨hideAll_none _ (List.mem_map_of_mem hp), (H.at_ p (List.mem_append_left _ hp)).2⟩, H.gens, H.drawn, H.os, fun p hp => H.hi p (List.mem_append_left _ hp), H.big⟩
theorem Led.base (H : Led G s l) : ∀ b o, G.g.get? b = some o → (G.hide s l).g.get? b = some o := fun b o e => by
  refine hideAll_get _ (H.keep b o e) fun hm => ?_
  obtain ⟨p, hp, rfl⟩ := List.mem_map.mp hm
  rw [(H.at_ p hp).1] at e; cases e
theorem Led.unfocus {R : List (Addr × HP)} {s' : Shared} (H : Led G s (l ++ R)) (H' : Led (G.hide s l) s' l') : Led G s' (l' ++ R) := by
  have Hl := H.sub (List.sublist_append_left l R)
  have old : ∀ p ∈ R, ∀ o, s.heap.get? p.1 = some o → (G.hide s l).g.get? p.1 = some o := fun p hp o e => by
    refine hideAll_get _ e fun hm => ?_
    have nd := H.nd
    rw [List.map_append] at nd
    exact (List.nodup_append.mp nd).2.2 _ hm _ (List.mem_map_of_mem hp) rfl
  refine ⟨fun b o e => H'.keep b o (Hl.base b o e), ?_, fun p hp => ?_, H'.gens, H'.drawn, H'.os, fun p hp => (by rcases List.mem_append.mp hp with hp | hp; exact H'.hi p hp; exact H.hi p (List.mem_append_right _ hp)), H'.big⟩
  · rw [List.map_append]
    refine List.nodup_append.mpr ⟨H'.nd, (H.sub (List.sublist_append_right l R)).nd, fun x hx y hy e => ?_⟩
    subst e
    obtain ⟨p, hp, rfl⟩ := List.mem_map.mp hx
    obtain ⟨q, hq, e⟩ := List.mem_map.mp hy
    obtain ⟨_, o, ho, _⟩ := H.at_ q (List.mem_append_right _ hq)
    have := old q hq o ho
    rw [e, (H'.at_ p hp).1] at this; cases this
  · rcases List.mem_append.mp hp with hp | hp
    · obtain ⟨f, o, e, hP⟩ := H'.at_ p hp
      refine ⟨?_, o, e, hP⟩
      cases q : G.g.get? p.1 with
      | none => rfl
      | some o' => rw [Hl.base _ _ q] at f; cases f
    · obtain ⟨f, o, e, hP⟩ := H.at_ p (List.mem_append_right _ hp)
      exact ⟨f, o, H'.keep _ _ (old p hp o e), hP⟩
end

/-! predicates -/
def nsP (m : Str → Option Value) : HP := fun o => ∃ es ep, o.data = .dict es ep ∧ StrKeys es ∧ ∀ x, nsFind es x = m x
def adP (n : Nat) (m : Str → Option Value) : HP := fun o => ∃ es ep, o.data = .dict es ep ∧ StrKeys es ∧ (∀ x, nsFind es x = m x) ∧ es.size ≤ n
def inP (C dx : Addr) : HP := fun o => o = instObj C dx
def liP (xs : List Value) : HP := fun o => ∃ n, o = { cls := .type "list", data := .seq xs.toArray n }
def tuP (xs : List Value) : HP := fun o => ∃ n, o = { cls := .type "tuple", data := .seq xs.toArray n }
def ceP (v : Option Value) : HP := fun o => o.data = .cell v
def idP (prog : Program) (w : World) (kvs : List (Int × Value)) : HP := fun o => o.IsDictOf (PySem.intKind prog w) kvs

theorem Led.ns {G s l a m} (H : Led G s l) (hm : (a, nsP m) ∈ l) : s.heap.Ns a m := by
  obtain ⟨o, e, es, ep, h⟩ := H.get hm; exact ⟨o, es, ep, e, h⟩
theorem Led.ad {G s l a n m} (H : Led G s l) (hm : (a, adP n m) ∈ l) : s.heap.Ns a m := by
  obtain ⟨o, e, es, ep, h⟩ := H.get hm; exact ⟨o, es, ep, e, h.1, h.2.1, h.2.2.1⟩
end Mine
namespace Mine
open PySem PySem.W PyProof.Rows
/-- the statements of the text that the law can see -/
def seenP : Program := PySem.W.view PySem.Challenge.rw_kj0013_01.row.prog [1, 3, 4, 5, 6, 8, 9, 10, 11, 12, 13, 14, 15, 16]
local macro_rules | `(tactic| o_head $H) => `(tactic| (
  refine holds_open (q := seenP) (loose := []) (Xt := fun s => xlAt seenP [] s && recOk (RowW.records PySem.Challenge.rw_kj0013_01.row.toRowW) s) (XP := XL seenP []) (Yf := Hook.obs $H) (Ya := Hook.val $H) (YP := Hook.says $H) (N := 2832) ?hl (Hook.of $H) (Hook.keeps $H) (fun s e => xl_of s (Bool.and_eq_true_iff.mp e).1) XL.keeps (by rfl) (by rfl) (by rfl) (fun s e => recFacts_of (Bool.and_eq_true_iff.mp e).2) (by rfl) (by first | assumption | decide +kernel) (by decide +kernel) ⟨rfl, rfl, rfl, rfl, rfl, by decide +kernel⟩ ?hw ?hc
  (case hl => (intro w; kernel_rfl))))
open_top hd for PySem.Challenge.rw_kj0013_01
end Mine
namespace Mine
open PySem PySem.W PySem.Calls PyProof.Rows

/-- names and values, the newest first -/
def lk (l : List (Str × Value)) (x : Str) : Option Value := l.lookup x
theorem lk_hit {x : Str} {v : Value} {r : List (Str × Value)} : lk ((x, v) :: r) x = some v := by simp [lk]
theorem lk_miss {x y : Str} {u v : Value} {r : List (Str × Value)} (h : (x == y) = false) (e : lk r x = some v) : lk ((y, u) :: r) x = some v := by
  show List.lookup x ((y, u) :: r) = _
  rw [List.lookup_cons, h]; exact e
theorem lk_set (x : Str) (v : Value) (r : List (Str × Value)) : (fun y => if y = x then some v else lk r y) = lk ((x, v) :: r) := by
  funext y
  show _ = List.lookup y ((x, v) :: r)
  rw [List.lookup_cons]
  by_cases h : y = x
  · subst h; simp
  · have h' : (y == x) = false := by simpa using h
    rw [h', if_neg h]; rfl
/-- a name's value changed in place -/
def putA (x : Str) (v : Value) : List (Str × Value) → List (Str × Value)
  | [] => []
  | p :: r => if x == p.1 then (x, v) :: r else p :: putA x v r
theorem lk_put (x : Str) (v : Value) : ∀ r : List (Str × Value), (lk r x).isSome = true → (fun y => if y = x then some v else lk r y) = lk (putA x v r)
  | [], h => by cases h
  | p :: r, h => by
    funext y
    unfold putA
    by_cases hx : x == p.1
    · rw [if_pos hx]
      have hx' := eq_of_beq hx
      show _ = List.lookup y ((x, v) :: r)
      rw [List.lookup_cons]
      by_cases hy : y = x
      · subst hy; simp
      · have : (y == x) = false := by simpa using hy
        rw [this]
        obtain ⟨a, b⟩ := p
        rw [if_neg hy]
        show List.lookup y ((a, b) :: r) = _
        rw [List.lookup_cons, show (y == a) = false from by rw [show a = x from hx'.symm]; exact this]
    · rw [if_neg hx]
      obtain ⟨a, b⟩ := p
      have h' : (lk r x).isSome = true := by
        have : lk ((a, b) :: r) x = lk r x := by
          show List.lookup x ((a, b) :: r) = _
          rw [List.lookup_cons]
          simp only [show (x == a) = false from by simpa using hx]
          rfl
        rwa [this] at h
      have ih := congrFun (lk_put x v r h') y
      show _ = List.lookup y ((a, b) :: putA x v r)
      rw [List.lookup_cons]
      by_cases hy : y = x
      · subst hy
        simp only [if_true] at ih ⊢
        simp only [show (y == a) = false from by simpa using hx]
        exact ih
      · simp only [if_neg hy] at ih ⊢
        show List.lookup y ((a, b) :: r) = _
        rw [List.lookup_cons]
        split
        · rfl
        · exact ih

/-- the base -/
structure Cx (K : Frag) (G : Gh) : Prop where
  X : K.In G.g
  T : ∃ p loose mg mb, TopRead p loose mg mb G.g
theorem Cx.K {K : Frag} {G : Gh} {s : Shared} {l} (C : Cx K G) (H : Led G s l) : K.In s.heap := C.X.keeps H.keep
theorem Cx.lim {K : Frag} {G : Gh} {s : Shared} {l} (C : Cx K G) (H : Led G s l) : s.heap.NoLimit := let ⟨_, _, _, _, T⟩ := C.T; T.nolimit.keeps H.keep
theorem Cx.mono {K : Frag} {G G' : Gh} (C : Cx K G) (h : ∀ b o, G.g.get? b = some o → G'.g.get? b = some o) : Cx K G' := ⟨C.X.keeps h, let ⟨p, l, mg, mb, T⟩ := C.T; ⟨p, l, mg, mb, T.keeps h⟩⟩
theorem Cx.hide {K : Frag} {G : Gh} {s : Shared} {l} (C : Cx K G) (H : Led G s l) : Cx K (G.hide s l) := C.mono H.base

section
variable {M : Model} {prog : Program} {w : World} {A : Around} {E : Value → Shared → Prop} {s : Shared} {G : Gh} {l l' : List (Addr × HP)} {K : Frag} {env : Env}

theorem lookIn_of {o : Obj} {es : Array DictEntry} {ep : Nat} {x : Str} (hd : o.data = .dict es ep) (hk : StrKeys es) : lookIn x o = some (nsFind es x) := by
  unfold lookIn
  rw [hd]
  dsimp only
  unfold nsFind findBy
  rw [← Array.find?_toList]
  cases h : es.toList.find? fun e => e.key.isStr x with
  | some e => rfl
  | none =>
    have : es.toList.any (·.refKey) = false := by
      rw [Array.any_toList, Array.any_eq_false']
      intro e he
      obtain ⟨n, t, h⟩ := hk e he
      simp [DictEntry.refKey, h]
    simp [this]

/-- what the class must not bear -/
def clsOK (K : Frag) (C : Addr) : Bool := findIn K (.ref C) "__getattribute__" == some (some (.builtin "object.__getattribute__")) && findIn K (.ref C) "__getattr__" == some none &&
  findIn K (.ref C) "__setattr__" == some (some (.builtin "object.__setattr__")) && plainOver K C && (clsIn K C).any (·.hasDict)
def attrOK (K : Frag) (C : Addr) (x : Str) : Bool := clsOK K C && findIn K (.ref C) x == some none
def methOK (K : Frag) (C : Addr) (x : Str) (f : Addr) : Bool := clsOK K C && findIn K (.ref C) x == some (some (.ref f)) && typeIn K (.ref f) == some (.type "function")

/-- an instance: of the ledger or of the base -/
def Io (G : Gh) (l : List (Addr × HP)) (x C dx : Addr) : Prop := (x, inP C dx) ∈ l ∨ G.g.get? x = some (instObj C dx)
theorem Io.base {x C dx : Addr} (h : G.g.get? x = some (instObj C dx)) : Io G l x C dx := .inr h
theorem Io.led {x C dx : Addr} (h : (x, inP C dx) ∈ l) : Io G l x C dx := .inl h
theorem Io.get {x C dx : Addr} (I : Io G l x C dx) (H : Led G s l) : s.heap.get? x = some (instObj C dx) := by
  rcases I with h | h
  · obtain ⟨_, e, rfl⟩ := H.get h; exact e
  · exact H.keep _ _ h
/-- a thing of the ledger or of the base -/
def Po (G : Gh) (l : List (Addr × HP)) (x : Addr) (P : HP) : Prop := (x, P) ∈ l ∨ ∃ o, G.g.get? x = some o ∧ P o
theorem Po.base {x : Addr} {P : HP} (h : ∃ o, G.g.get? x = some o ∧ P o) : Po G l x P := .inr h
theorem Po.led {x : Addr} {P : HP} (h : (x, P) ∈ l) : Po G l x P := .inl h
theorem Po.get {x : Addr} {P : HP} (I : Po G l x P) (H : Led G s l) : ∃ o, s.heap.get? x = some o ∧ P o := by
  rcases I with h | ⟨o, h, hp⟩
  · exact H.get h
  · exact ⟨o, H.keep _ _ h, hp⟩
theorem instAt_of {h : Heap} {x C dx : Addr} {o : Obj} (hx : h.get? x = some (instObj C dx)) (hd : h.get? dx = some o) : W.InstAt h x (instObj C dx) C (some o) := ⟨hx, rfl, rfl, hd⟩

theorem r_getattr {x dx C : Addr} {n : Nat} {m : Str → Option Value} {name : Str} {v : Value} {expr : Bool} {Q : Value → Shared → Prop} (Cx : Cx K G) (H : Led G s l) (h1 : Io G l x C dx) (h2 : Po G l dx (adP n m)) (hv : m name = some v) (hh : handedIn v = true)
    (ok' : clsOK K C = true) (k6 : findIn K (.ref C) name = some none) (h : ∀ s', Led G s' l → Q v s') : wpAny (model prog w) A (getAttr (.ref x) name expr) Q E s := by
  have ok := ok'
  simp only [clsOK, Bool.and_eq_true, beq_iff_eq] at ok
  obtain ⟨⟨⟨⟨k1, k2⟩, k3⟩, k4⟩, k5⟩ := ok
  have e := h1.get H
  obtain ⟨od, ed, es, ep, hd, hk, hf, hsz⟩ := h2.get H
  obtain ⟨cd, hc, hdict⟩ := any_some k5
  refine get_value (Cx.K H) (instAt_of e ed) k1 ?_ hh (h _ (H.toks _))
  unfold findObj
  rw [hc, k6]
  simp only [Option.bind_some, W.ownOf, hdict, if_true, lookIn_of hd hk, hf, hv]

theorem r_setattr {x dx C : Addr} {n n' : Nat} {m m' : Str → Option Value} {name : Str} {v : Value} {Q : Unit → Shared → Prop} (Cx : Cx K G) (H : Led G s l) (h1 : Io G l x C dx) (h2 : Rep dx (adP n m) (adP n' m') l l')
    (hm : (fun y => if y = name then some v else m y) = m') (hn : (m name).isSome = true ∧ n' = n ∨ n' = n + 1) (hb : n ≤ 100)
    (ok' : clsOK K C = true) (k6 : findIn K (.ref C) name = some none) (h : ∀ s', Led G s' l' → Q () s') : wpAny (model prog w) A (setAttr (.ref x) name v) Q E s := by
  have ok := ok'
  simp only [clsOK, Bool.and_eq_true, beq_iff_eq] at ok
  obtain ⟨⟨⟨⟨k1, k2⟩, k3⟩, k4⟩, k5⟩ := ok
  have e := h1.get H
  obtain ⟨od, ed, es, ep, hd, hk, hf, hsz⟩ := H.get h2.mem
  obtain ⟨cd, hc, hdict⟩ := any_some k5
  refine set_plain (Cx.K H) (instAt_of e ed) k3 ?_
  refine osa_open (Cx.K (H.toks _)) (instAt_of e ed) k4 (r := none) (by unfold takerIn; rw [k6]; rfl) fun b => ?_
  obtain ⟨oc, odi, oda, osl⟩ := od
  dsimp only at hd
  subst hd
  have ed' : ({ s with toks := s.toks + 1 } : Shared).heap.get? dx = some _ := ed
  refine wpAny_bind (wpAny_pure (wpAny_bind (wpAny_bind (wpAny_loadPart (s := { s with toks := s.toks + 1 }) e (wpAny_bind ((looks_clsIn (Cx.K (H.toks _)) hc).here ?_))))))
  rw [hdict]
  refine wpAny_pure (a := some dx) (wpAny_bind (wpAny_pure (wpAny_bind ?_)))
  have hany : es.any (·.refKey) = false := by
    rw [Array.any_eq_false']; intro e he; obtain ⟨n, t, h⟩ := hk e he; simp [DictEntry.refKey, h]
  -- what is put
  obtain ⟨es', ep', q1, q2, q3, q4⟩ : ∃ es' ep', Obj.putName name (PyData.keyHash w.params name) (.str name (s.toks + 1)) v ⟨oc, odi, .dict es ep, osl⟩ = ⟨oc, odi, .dict es' ep', osl⟩ ∧ StrKeys es' ∧ (∀ x, nsFind es' x = m' x) ∧ es'.size ≤ n' := by
    rw [← hm]
    cases hi : es.findIdx? (·.key.isStr name) with
    | some i =>
      refine ⟨_, _, by simp only [Obj.putName_eq, Obj.putNameByArray, hi]; rfl, hk.modify _ _, fun x => ?_, ?_⟩
      · show _ = if x = name then some v else m x
        rw [← hf]; exact findBy_modify (fun n v => v.isStr n) Value.isStr_inj es name x v i hi
      · rw [Array.size_modify]; omega
    | none =>
      refine ⟨_, _, by simp only [Obj.putName_eq, Obj.putNameByArray, hi]; rfl, hk.push _ _ _ _, fun x => ?_, ?_⟩
      · show _ = if x = name then some v else m x
        rw [← hf]
        exact findBy_push (fun n v => v.isStr n) es name x _ _ v (fun y => by
          show (name == y) = decide (y = name)
          by_cases h : y = name
          · subst h; simp
          · have : ¬ name = y := fun e => h e.symm
            simp [h, this]) hi
      · rw [Array.size_push]
        rcases hn with ⟨hs, _⟩ | hn
        · exfalso
          rw [← hf] at hs
          unfold nsFind findBy at hs
          have : es.find? (fun e => e.key.isStr name) = none := by
            rw [Array.find?_eq_none]
            intro e he
            simpa using (Array.findIdx?_eq_none_iff.mp hi) e he
          rw [this] at hs; cases hs
        · omega
  unfold nsSet
  refine wpAny_bind (wpAny_bind (wpAny_askSetting (wpAny_pure (wpAny_bind (wpAny_mkText (wpAny_bind (wpAny_loadPart ed ?_)))))))
  have c : (!es.any (·.key.isStr name) && es.any (·.refKey)) = false := by rw [hany, Bool.and_false]
  dsimp only
  rw [aRefKeyMayBeTheName_at, c]
  refine wpAny_updatePart ed ?_
  have hl : ((s.heap.update dx (Obj.putName name (PyData.keyHash w.params name) (.str name (s.toks + 1)) v)).get? dx) = some ⟨oc, odi, .dict es' ep', osl⟩ := by
    rw [Heap.get?_update_self _ ed (by rw [q1]; rfl), q1]
  refine wpAny_bind (wpAny_lookBehind hl (pastItsLine_dict (by rw [sizeLine_eq]; have : n' ≤ n + 1 := by { rcases hn with ⟨_, h⟩ | h <;> omega }; omega)) ?_)
  exact wpAny_pure (h _ (H.upd h2 (Heap.SameBut.update ..) ⟨_, hl, es', ep', rfl, q2, q3, q4⟩))

theorem r_method {x dx C f : Addr} {n : Nat} {m : Str → Option Value} {name : Str} {pl : Sem Bool} {Q : Value × List Value → Shared → Prop} (Cx : Cx K G) (H : Led G s l) (h1 : Io G l x C dx) (h2 : Po G l dx (adP n m)) (hv : m name = none)
    (ok' : clsOK K C = true) (k6 : findIn K (.ref C) name = some (some (.ref f))) (k7 : typeIn K (.ref f) = some (.type "function")) (h : Q (.ref f, [.ref x]) s) : wpAny (model prog w) A (getMethod (.ref x) name pl) Q E s := by
  have ok := ok'
  simp only [clsOK, Bool.and_eq_true, beq_iff_eq] at ok
  obtain ⟨⟨⟨⟨k1, k2⟩, k3⟩, k4⟩, k5⟩ := ok
  have e := h1.get H
  obtain ⟨od, ed, es, ep, hd, hk, hf, hsz⟩ := h2.get H
  refine method_fn (Cx.K H) (instAt_of e ed) k1 k2 k6 k7 ?_ h
  simp only [shadowIn, lookIn_of hd hk, hf, hv, Option.map_some, Option.isSome_none]
end
end Mine
namespace Mine
open PySem PySem.W PySem.Calls PyProof.Rows

def Rm (A : Around) (n : Nat) : Prop := A.handled = none ∧ A.depth + n < 1000 ∧ A.units + 20 * n < 9900
theorem Rm.deeper {A : Around} {n : Nat} {env : Env} (h : Rm A (n + 1)) : Rm (A.deeper env) n := ⟨h.1, by have := h.2.1; show A.depth + 1 + n < 1000; omega, by have := h.2.2; show A.units + 3 + 20 * n < 9900; omega⟩
theorem Rm.in1 {A : Around} {n : Nat} (h : Rm A (n + 1)) : Rm A.in1 n := ⟨h.1, by have := h.2.1; show A.depth + n < 1000; omega, by have := h.2.2; show A.units + 1 + 20 * n < 9900; omega⟩
theorem Rm.le {A : Around} {n m : Nat} (h : Rm A n) (e : m ≤ n) : Rm A m := ⟨h.1, by have := h.2.1; omega, by have := h.2.2; omega⟩
theorem Rm.room {A : Around} {n : Nat} (h : Rm A n) : A.depth < recursionLimit := by have := h.2.1; unfold recursionLimit; omega
theorem Rm.units {A : Around} {n : Nat} (h : Rm A n) : A.units < cLine := by have := h.2.2; rw [show cLine = 9900 from rfl]; omega

section
variable {M : Model} {prog : Program} {w : World} {A : Around} {E : Value → Shared → Prop} {s : Shared} {G : Gh} {l l' : List (Addr × HP)} {K : Frag} {env : Env}

theorem r_local {vars : List (Str × Value)} {x : Str} {pos : Pos} {v : Value} {Q : Value → Shared → Prop} (H : Led G s l) (hm : (env.locals, nsP (lk vars)) ∈ l) (hv : lk vars x = some v) (h : Q v s)
    (hk : env.scope.kind = .function) (hx : env.kindOf x = some .local) (hd : (x == ("__debug__" : Str)) = false) : wpAny M A (eval (.Name x pos) env) Q E s :=
  wpAny_Name (wpAny_loadName_local hk hx (H.ns hm) hv h) hd
theorem r_global {x : Str} {pos : Pos} {v : Value} {Q : Value → Shared → Prop} (C : Cx K G) (H : Led G s l) (e : nsIn K mainGlobals x = some (some v)) (h : Q v s)
    (hg : env.globals = mainGlobals) (hk : env.scope.kind = .function) (hx : env.kindOf x = some .globalImplicit) (hd : (x == ("__debug__" : Str)) = false) : wpAny M A (eval (.Name x pos) env) Q E s := by
  obtain ⟨p, lo, mg, mb, T⟩ := C.T
  exact Name_function_global hk hx (loadGlobal_global (by rw [hg]; exact T.g.keeps H.keep) (mg_of C.X T.g e) h) hd
theorem r_builtin {x : Str} {pos : Pos} {v : Value} {Q : Value → Shared → Prop} (C : Cx K G) (H : Led G s l) (e : nsIn K mainGlobals x = some none) (hv : bootBuiltins x = some v) (h : Q v s)
    (hg : env.globals = mainGlobals) (hb : env.builtins = builtinsNs) (hk : env.scope.kind = .function) (hx : env.kindOf x = some .globalImplicit) (hd : (x == ("__debug__" : Str)) = false) (hn : (x == ("__name__" : Str)) = false) : wpAny M A (eval (.Name x pos) env) Q E s := by
  obtain ⟨p, lo, mg, mb, T⟩ := C.T
  exact Name_function_global hk hx (loadGlobal_builtin (by rw [hg]; exact T.g.keeps H.keep) (mg_none_of C.X T.g e) (by rw [hb]; exact T.b.keeps H.keep) ((T.builtins x (by simpa using hn)).trans hv) h) hd
theorem r_store {vars : List (Str × Value)} {x : Str} {v : Value} {Q : Unit → Shared → Prop} (H : Led G s l) (r : Rep env.locals (nsP (lk vars)) (nsP (lk ((x, v) :: vars))) l l') (h : ∀ s', Led G s' l' → Q () s')
    (hk : env.scope.kind = .function) (hx : env.kindOf x = some .local) : wpAny M A (storeName env x v) Q E s := by
  refine wpAny_storeName_local hx (H.ns r.mem) (fun h' hn hs => h _ (H.upd r hs ?_)) (by rw [hk]; rfl)
  obtain ⟨o, es, ep, e, hd, hk, hf⟩ := hn
  exact ⟨o, e, es, ep, hd, hk, fun x => by rw [hf]; exact congrFun (lk_set _ _ _) x⟩

theorem f_local {name : Str} {scope : Scope} {L a : Addr} {cd : Value} {vars : List (Str × Value)} {x : Str} {pos : Pos} {v : Value} {Q : Value → Shared → Prop} (H : Led G s l) (hm : (L, nsP (lk vars)) ∈ l) (hv : lk vars x = some v) (h : Q v s)
    (hk : scope.kind = .function) (hx : (envOf name scope L a cd).kindOf x = some .local) (hd : (x == ("__debug__" : Str)) = false) : wpAny M A (eval (.Name x pos) (envOf name scope L a cd)) Q E s := r_local H hm hv h hk hx hd
theorem f_global {name : Str} {scope : Scope} {L a : Addr} {cd : Value} {x : Str} {pos : Pos} {v : Value} {Q : Value → Shared → Prop} (C : Cx K G) (H : Led G s l) (e : nsIn K mainGlobals x = some (some v)) (h : Q v s)
    (hk : scope.kind = .function) (hx : (envOf name scope L a cd).kindOf x = some .globalImplicit) (hd : (x == ("__debug__" : Str)) = false) : wpAny M A (eval (.Name x pos) (envOf name scope L a cd)) Q E s := r_global C H e h rfl hk hx hd
theorem f_builtin {name : Str} {scope : Scope} {L a : Addr} {cd : Value} {x : Str} {pos : Pos} {v : Value} {Q : Value → Shared → Prop} (C : Cx K G) (H : Led G s l) (e : nsIn K mainGlobals x = some none) (hv : bootBuiltins x = some v) (h : Q v s)
    (hk : scope.kind = .function) (hx : (envOf name scope L a cd).kindOf x = some .globalImplicit) (hd : (x == ("__debug__" : Str)) = false) (hn : (x == ("__name__" : Str)) = false) : wpAny M A (eval (.Name x pos) (envOf name scope L a cd)) Q E s := r_builtin C H e hv h rfl rfl hk hx hd hn
theorem f_store {name : Str} {scope : Scope} {L a : Addr} {cd : Value} {vars : List (Str × Value)} {x : Str} {v : Value} {Q : Unit → Shared → Prop} (H : Led G s l) (r : Rep L (nsP (lk vars)) (nsP (lk ((x, v) :: vars))) l l') (h : ∀ s', Led G s' l' → Q () s')
    (hk : scope.kind = .function) (hx : (envOf name scope L a cd).kindOf x = some .local) : wpAny M A (storeName (envOf name scope L a cd) x v) Q E s := r_store (env := envOf name scope L a cd) H r h hk hx

/-- a field read through a name -/
theorem r_attr {value : Expr} {attr : Str} {pos : Pos} {Q : Value → Shared → Prop}
    (he : eval (.Attribute value attr pos) env = (do
      let o ← eval value env
      standAt pos.atName
      let r ← holding [o] (getAttr o attr true)
      letTemporaryGo value o r
      pure r))
    (h : wpAny (model prog w) A (eval value env) (fun o s₁ => wpAny (model prog w) A (getAttr o attr true) Q E s₁) E s) :
    wpAny (model prog w) A (eval (.Attribute value attr pos) env) Q E s := Attribute_any_ h he
theorem r_attrN {x attr : Str} {xp pos : Pos} {Q : Value → Shared → Prop}
    (h : wpAny (model prog w) A (eval (.Name x xp) env) (fun o s₁ => wpAny (model prog w) A (getAttr o attr true) Q E s₁) E s) :
    wpAny (model prog w) A (eval (.Attribute (.Name x xp) attr pos) env) Q E s := r_attr rfl h
theorem r_attrA {b : Expr} {x attr : Str} {xp pos : Pos} {Q : Value → Shared → Prop}
    (h : wpAny (model prog w) A (eval (.Attribute b x xp) env) (fun o s₁ => wpAny (model prog w) A (getAttr o attr true) Q E s₁) E s) :
    wpAny (model prog w) A (eval (.Attribute (.Attribute b x xp) attr pos) env) Q E s := r_attr rfl h

theorem r_setA {o : Expr} {attr : Str} {value : Expr} {pos' pos : Pos} {Q : Flow → Shared → Prop}
    (hs : swapsWith value (some (.Attribute o attr pos')) pos.line env = pure false)
    (h : wpAny M A (eval value env) (fun v s₁ => wpAny M A (eval o env) (fun ov s₂ => wpAny M A (setAttr ov attr v) (fun _ => Q .next) E s₂) E s₁) E s) :
    wpAny M A (exec (.Assign [.Attribute o attr pos'] value pos) env) Q E s := plainObj_wpAny_Assign_Attribute h hs
theorem r_setN {x : Str} {value : Expr} {pos' pos : Pos} {Q : Flow → Shared → Prop}
    (hs : swapsWith value (some (.Name x pos')) pos.line env = pure false)
    (h : wpAny M A (eval value env) (fun v s₁ => wpAny M A (storeName env x v) (fun _ => Q .next) E s₁) E s) :
    wpAny M A (exec (.Assign [.Name x pos'] value pos) env) Q E s := wpAny_Assign_Name h hs

theorem r_isNone {v : Value} {Q : Value → Shared → Prop} {b : Bool} (hb : (v == Value.none) = b) (h : Q (.bool b) s) : wpAny M A (compareOp .Is v .none) Q E s := is_none (hb ▸ h)
theorem r_isNotNone {v : Value} {Q : Value → Shared → Prop} {b : Bool} (hb : (!(v == Value.none)) = b) (h : Q (.bool b) s) : wpAny M A (compareOp .IsNot v .none) Q E s := isNot_none (hb ▸ h)
theorem r_isRef {x y dx dy C C' : Addr} {Q : Value → Shared → Prop} (H : Led G s l) (hx : (x, inP C dx) ∈ l) (hy : (y, inP C' dy) ∈ l) (h : Q (.bool (decide (x = y))) s) : wpAny M A (compareOp .Is (.ref x) (.ref y)) Q E s := by
  by_cases e : x = y
  · subst e; exact wpAny_is_ref_self (by simpa using h)
  · obtain ⟨_, ex, rfl⟩ := H.get hx
    obtain ⟨_, ey, rfl⟩ := H.get hy
    exact wpAny_is_ref_other e ex ey (by simp) (by simpa [e] using h)
theorem r_refIsNone {x : Addr} {Q : Value → Shared → Prop} (h : Q (.bool false) s) : wpAny M A (compareOp .Is (.ref x) .none) Q E s := is_none h

theorem lk_rev_aux : ∀ (b r : List (Str × Value)) (x : Str), (b.map Prod.fst).Nodup → List.lookup x (b.reverse ++ r) = List.lookup x (b ++ r)
  | [], _, _, _ => rfl
  | p :: b, r, x, h => by
    simp only [List.map_cons, List.nodup_cons] at h
    rw [List.reverse_cons, List.append_assoc, lk_rev_aux b ([p] ++ r) x h.2]
    obtain ⟨a, v⟩ := p
    show List.lookup x (b ++ (a, v) :: r) = List.lookup x ((a, v) :: (b ++ r))
    rw [List.lookup_cons]
    have h1 := h.1
    clear h
    induction b with
    | nil => rw [List.nil_append, List.lookup_cons]; rfl
    | cons q b ih =>
      obtain ⟨a', v'⟩ := q
      simp only [List.map_cons, List.mem_cons, not_or] at h1
      show List.lookup x ((a', v') :: (b ++ (a, v) :: r)) = match x == a with | true => some v | false => List.lookup x ((a', v') :: (b ++ r))
      rw [List.lookup_cons, List.lookup_cons, ih h1.2]
      by_cases e : x = a
      · subst e
        have : (x == a') = false := by simpa using h1.1
        simp [this]
      · have : (x == a) = false := by simpa using e
        simp [this]
theorem lk_rev {b : List (Str × Value)} (h : (b.map Prod.fst).Nodup) : (fun y => b.reverse.lookup y) = lk b := by
  funext x
  have := lk_rev_aux b [] x h
  simpa [lk] using this
/-- a def entered -/
theorem enterE {R : Result → Shared → Prop} {name qual : Str} {params : Arguments} {body : List Stmt} {scope : Scope} {dV kV doc pm cdv ct oc : Value} {an od : Option Addr} {osl : Array (Option Value)} {f : Addr} {args : Args} {binds : List (Str × Value)}
    {n : Nat} (C : Cx K G) (H : Led G s l) (hr : Rm A (n + 1))
    (ho : K.lookup f = some ⟨oc, od, .func (fnOf name qual params body scope dV kV doc pm an cdv ct), osl⟩) (hcd : codeIn K cdv qual = true)
    (hbind : BindsTo s (fnOf name qual params body scope dV kV doc pm an cdv ct) args binds)
    (hco : scope.isCoroutine = false) (hgen : scope.isGenerator = false) (hk : scope.kind = .function)
    (hnd : decide ((binds.map Prod.fst).Nodup) = true) (hcell : (scope.names.all fun x => x.2 != .cell) = true) (hloc : (binds.all fun y => scope.names.lookup y.1 == some .local) = true)
    (h : ∀ L s', Rm (A.deeper (envOf qual scope L f cdv)) n → Led G s' ((L, nsP (lk binds)) :: l) →
      wpAny (model prog w) (A.deeper (envOf qual scope L f cdv)) (execs body (envOf qual scope L f cdv)) (fun fl s' => R (.ok (.ret (match fl with | .ret v => v | _ => .none))) s')
        (fun e s' => wpAny (model prog w) (A.deeper (envOf qual scope L f cdv)) (leaving (envOf qual scope L f cdv) e) (fun _ s'' => R (.error e) s'') (fun e' s'' => R (.error e') s'') s') s') :
    codeAny (model prog w) A (.call (.ref f) args) R s := by
  refine codeAny_call_def (fd := fnOf name qual params body scope dV kV doc pm an cdv ct) (body := body) (binds := binds) hr.room ((C.K H) _ _ ho) rfl (C.lim H) (codeRec_of (C.K H) hcd) rfl hbind
    (fun x hx => by simpa using List.all_eq_true.mp hcell x hx) (fun x hx => by simpa using List.all_eq_true.mp hloc x hx) (fun h₀ hns hk₀ => ?_) hco hgen hk
  refine h s.heap.objs.size _ hr.deeper ?_
  obtain ⟨o, es, ep, e, hd, hsk, hf⟩ := hns
  refine ⟨fun b o e => hk₀ b o (H.keep b o e), ?_, fun p hp => ?_, H.gens, H.drawn, H.os, fun p hp => ?_, ?_⟩
  · simp only [List.map_cons, List.nodup_cons]
    refine ⟨fun hm => ?_, H.nd⟩
    obtain ⟨p, hp, e⟩ := List.mem_map.mp hm
    obtain ⟨_, o', e', _⟩ := H.at_ p hp
    exact absurd (Heap.lt_size e') (by rw [e]; exact Nat.lt_irrefl _)
  · rcases List.mem_cons.mp hp with rfl | hp
    · refine ⟨?_, o, e, es, ep, hd, hsk, fun x => (hf x).trans (congrFun (lk_rev (of_decide_eq_true hnd)) x)⟩
      cases q : G.g.get? s.heap.objs.size with
      | none => rfl
      | some o' => exact absurd (Heap.lt_size (H.keep _ _ q)) (Nat.lt_irrefl _)
    · obtain ⟨f, o', e, hP'⟩ := H.at_ p hp
      exact ⟨f, o', hk₀ _ _ e, hP'⟩
  · rcases List.mem_cons.mp hp with rfl | hp
    · exact H.big
    · exact H.hi p hp
  · exact Nat.lt_trans H.big (Heap.lt_size e)
theorem enter {R : Result → Shared → Prop} {name qual : Str} {params : Arguments} {body : List Stmt} {scope : Scope} {dV kV doc pm cdv ct oc : Value} {an od : Option Addr} {osl : Array (Option Value)} {f : Addr} {args : Args} {binds : List (Str × Value)}
    {n : Nat} (C : Cx K G) (H : Led G s l) (hr : Rm A (n + 1))
    (ho : K.lookup f = some ⟨oc, od, .func (fnOf name qual params body scope dV kV doc pm an cdv ct), osl⟩) (hcd : codeIn K cdv qual = true)
    (hbind : BindsTo s (fnOf name qual params body scope dV kV doc pm an cdv ct) args binds)
    (hco : scope.isCoroutine = false) (hgen : scope.isGenerator = false) (hk : scope.kind = .function)
    (hnd : decide ((binds.map Prod.fst).Nodup) = true) (hcell : (scope.names.all fun x => x.2 != .cell) = true) (hloc : (binds.all fun y => scope.names.lookup y.1 == some .local) = true)
    (h : ∀ L s', Rm (A.deeper (envOf qual scope L f cdv)) n → Led G s' ((L, nsP (lk binds)) :: l) →
      wpAny (model prog w) (A.deeper (envOf qual scope L f cdv)) (execs body (envOf qual scope L f cdv)) (fun fl s' => R (.ok (.ret (match fl with | .ret v => v | _ => .none))) s') (fun _ _ => False) s') :
    codeAny (model prog w) A (.call (.ref f) args) R s :=
  enterE C H hr ho hcd hbind hco hgen hk hnd hcell hloc fun L s' hr' H' => wpAny_mono (h L s' hr' H') (fun _ _ x => x) fun _ _ x => x.elim
/-- what a def's flow means to its caller -/
structure Ret (R : Result → Shared → Prop) (Q : Flow → Shared → Prop) : Prop where
  ret : ∀ {v : Value} {s : Shared}, R (.ok (.ret v)) s → Q (.ret v) s
  nxt : ∀ {s : Shared}, R (.ok (.ret .none)) s → Q .next s
theorem enterQ {R : Result → Shared → Prop} {name qual : Str} {params : Arguments} {body : List Stmt} {scope : Scope} {dV kV doc pm cdv ct oc : Value} {an od : Option Addr} {osl : Array (Option Value)} {f : Addr} {args : Args} {binds : List (Str × Value)}
    {n : Nat} (C : Cx K G) (H : Led G s l) (hr : Rm A (n + 1))
    (ho : K.lookup f = some ⟨oc, od, .func (fnOf name qual params body scope dV kV doc pm an cdv ct), osl⟩) (hcd : codeIn K cdv qual = true)
    (hbind : BindsTo s (fnOf name qual params body scope dV kV doc pm an cdv ct) args binds)
    (hco : scope.isCoroutine = false) (hgen : scope.isGenerator = false) (hk : scope.kind = .function)
    (hnd : decide ((binds.map Prod.fst).Nodup) = true) (hcell : (scope.names.all fun x => x.2 != .cell) = true) (hloc : (binds.all fun y => scope.names.lookup y.1 == some .local) = true)
    (h : ∀ L s' A' Q E, Ret R Q → Rm A' n → Led G s' ((L, nsP (lk binds)) :: l) → wpAny (model prog w) A' (execs body (envOf qual scope L f cdv)) Q E s') :
    codeAny (model prog w) A (.call (.ref f) args) R s :=
  enter C H hr ho hcd hbind hco hgen hk hnd hcell hloc fun L s' hr' H' => h L s' _ _ _ ⟨fun x => x, fun x => x⟩ hr' H'
end
end Mine
namespace Mine
open PySem PySem.W PySem.Calls PyProof.Rows
theorem cls_182 {w : World} : clsOK (hd.heap_39 w.params) 182 = true := by kernel_rfl
theorem cls_46 {w : World} : clsOK (hd.heap_39 w.params) 46 = true := by kernel_rfl
theorem lk_hit' {x : Str} {v : Value} {r : List (Str × Value)} (y : Str) (h : (y == x) = true) : lk ((x, v) :: r) y = some v := by rw [eq_of_beq h]; exact lk_hit
theorem lk_no {x y : Str} {u : Value} {r : List (Str × Value)} (h : (x == y) = false) (e : lk r x = none) : lk ((y, u) :: r) x = none := by
  show List.lookup x ((y, u) :: r) = _
  rw [List.lookup_cons, h]; exact e

abbrev cacheL (D mru lru mx af : Value) : List (Str × Value) := [(Str.ofString "_cache", D), (Str.ofString "_most_recently_used", mru), (Str.ofString "_least_recently_used", lru), (Str.ofString "_max_cache", mx), (Str.ofString "_after_cleanup_count", af)]
abbrev nodeL (pv nx ky vl cl : Value) : List (Str × Value) := [(Str.ofString "prev", pv), (Str.ofString "next_key", nx), (Str.ofString "key", ky), (Str.ofString "value", vl), (Str.ofString "cleanup", cl), (Str.ofString "size", .none)]
def cacheP (D mru lru mx af : Value) : HP := adP 5 (lk (cacheL D mru lru mx af))
def nodeP (pv nx ky vl cl : Value) : HP := adP 6 (lk (nodeL pv nx ky vl cl))
section
variable {prog : Program} {w : World} {A : Around} {E : Value → Shared → Prop} {s : Shared} {G : Gh} {l l' : List (Addr × HP)} {x dx : Addr}

theorem c_get__cache {D mru lru mx af : Value} {expr : Bool} {Q : Value → Shared → Prop} (C : Cx (hd.heap_39 w.params) G) (H : Led G s l) (h1 : Io G l x 182 dx) (h2 : Po G l dx (cacheP D mru lru mx af)) (hh : handedIn D = true) (h : ∀ s', Led G s' l → Q D s') : wpAny (model prog w) A (getAttr (.ref x) (Str.ofString "_cache") expr) Q E s :=
  r_getattr C H h1 h2 (lk_hit) hh cls_182 (by kernel_rfl) h
theorem c_set__cache {D mru lru mx af v : Value} {Q : Unit → Shared → Prop} (C : Cx (hd.heap_39 w.params) G) (H : Led G s l) (h1 : Io G l x 182 dx) (h2 : Rep dx (cacheP D mru lru mx af) (cacheP v mru lru mx af) l l') (h : ∀ s', Led G s' l' → Q () s') : wpAny (model prog w) A (setAttr (.ref x) (Str.ofString "_cache") v) Q E s :=
  r_setattr C H h1 h2 ((lk_put _ _ _ (by kernel_rfl!)).trans (congrArg lk (by kernel_rfl!))) (.inl ⟨by kernel_rfl!, rfl⟩) (by omega) cls_182 (by kernel_rfl) h
theorem c_get__most_recently_used {D mru lru mx af : Value} {expr : Bool} {Q : Value → Shared → Prop} (C : Cx (hd.heap_39 w.params) G) (H : Led G s l) (h1 : Io G l x 182 dx) (h2 : Po G l dx (cacheP D mru lru mx af)) (hh : handedIn mru = true) (h : ∀ s', Led G s' l → Q mru s') : wpAny (model prog w) A (getAttr (.ref x) (Str.ofString "_most_recently_used") expr) Q E s :=
  r_getattr C H h1 h2 (lk_miss (by decide +kernel) (lk_hit)) hh cls_182 (by kernel_rfl) h
theorem c_set__most_recently_used {D mru lru mx af v : Value} {Q : Unit → Shared → Prop} (C : Cx (hd.heap_39 w.params) G) (H : Led G s l) (h1 : Io G l x 182 dx) (h2 : Rep dx (cacheP D mru lru mx af) (cacheP D v lru mx af) l l') (h : ∀ s', Led G s' l' → Q () s') : wpAny (model prog w) A (setAttr (.ref x) (Str.ofString "_most_recently_used") v) Q E s :=
  r_setattr C H h1 h2 ((lk_put _ _ _ (by kernel_rfl!)).trans (congrArg lk (by kernel_rfl!))) (.inl ⟨by kernel_rfl!, rfl⟩) (by omega) cls_182 (by kernel_rfl) h
theorem c_get__least_recently_used {D mru lru mx af : Value} {expr : Bool} {Q : Value → Shared → Prop} (C : Cx (hd.heap_39 w.params) G) (H : Led G s l) (h1 : Io G l x 182 dx) (h2 : Po G l dx (cacheP D mru lru mx af)) (hh : handedIn lru = true) (h : ∀ s', Led G s' l → Q lru s') : wpAny (model prog w) A (getAttr (.ref x) (Str.ofString "_least_recently_used") expr) Q E s :=
  r_getattr C H h1 h2 (lk_miss (by decide +kernel) (lk_miss (by decide +kernel) (lk_hit))) hh cls_182 (by kernel_rfl) h
theorem c_set__least_recently_used {D mru lru mx af v : Value} {Q : Unit → Shared → Prop} (C : Cx (hd.heap_39 w.params) G) (H : Led G s l) (h1 : Io G l x 182 dx) (h2 : Rep dx (cacheP D mru lru mx af) (cacheP D mru v mx af) l l') (h : ∀ s', Led G s' l' → Q () s') : wpAny (model prog w) A (setAttr (.ref x) (Str.ofString "_least_recently_used") v) Q E s :=
  r_setattr C H h1 h2 ((lk_put _ _ _ (by kernel_rfl!)).trans (congrArg lk (by kernel_rfl!))) (.inl ⟨by kernel_rfl!, rfl⟩) (by omega) cls_182 (by kernel_rfl) h
theorem c_get__max_cache {D mru lru mx af : Value} {expr : Bool} {Q : Value → Shared → Prop} (C : Cx (hd.heap_39 w.params) G) (H : Led G s l) (h1 : Io G l x 182 dx) (h2 : Po G l dx (cacheP D mru lru mx af)) (hh : handedIn mx = true) (h : ∀ s', Led G s' l → Q mx s') : wpAny (model prog w) A (getAttr (.ref x) (Str.ofString "_max_cache") expr) Q E s :=
  r_getattr C H h1 h2 (lk_miss (by decide +kernel) (lk_miss (by decide +kernel) (lk_miss (by decide +kernel) (lk_hit)))) hh cls_182 (by kernel_rfl) h
theorem c_set__max_cache {D mru lru mx af v : Value} {Q : Unit → Shared → Prop} (C : Cx (hd.heap_39 w.params) G) (H : Led G s l) (h1 : Io G l x 182 dx) (h2 : Rep dx (cacheP D mru lru mx af) (cacheP D mru lru v af) l l') (h : ∀ s', Led G s' l' → Q () s') : wpAny (model prog w) A (setAttr (.ref x) (Str.ofString "_max_cache") v) Q E s :=
  r_setattr C H h1 h2 ((lk_put _ _ _ (by kernel_rfl!)).trans (congrArg lk (by kernel_rfl!))) (.inl ⟨by kernel_rfl!, rfl⟩) (by omega) cls_182 (by kernel_rfl) h
theorem c_get__after_cleanup_count {D mru lru mx af : Value} {expr : Bool} {Q : Value → Shared → Prop} (C : Cx (hd.heap_39 w.params) G) (H : Led G s l) (h1 : Io G l x 182 dx) (h2 : Po G l dx (cacheP D mru lru mx af)) (hh : handedIn af = true) (h : ∀ s', Led G s' l → Q af s') : wpAny (model prog w) A (getAttr (.ref x) (Str.ofString "_after_cleanup_count") expr) Q E s :=
  r_getattr C H h1 h2 (lk_miss (by decide +kernel) (lk_miss (by decide +kernel) (lk_miss (by decide +kernel) (lk_miss (by decide +kernel) (lk_hit))))) hh cls_182 (by kernel_rfl) h
theorem c_set__after_cleanup_count {D mru lru mx af v : Value} {Q : Unit → Shared → Prop} (C : Cx (hd.heap_39 w.params) G) (H : Led G s l) (h1 : Io G l x 182 dx) (h2 : Rep dx (cacheP D mru lru mx af) (cacheP D mru lru mx v) l l') (h : ∀ s', Led G s' l' → Q () s') : wpAny (model prog w) A (setAttr (.ref x) (Str.ofString "_after_cleanup_count") v) Q E s :=
  r_setattr C H h1 h2 ((lk_put _ _ _ (by kernel_rfl!)).trans (congrArg lk (by kernel_rfl!))) (.inl ⟨by kernel_rfl!, rfl⟩) (by omega) cls_182 (by kernel_rfl) h
theorem n_get_prev {pv nx ky vl cl : Value} {expr : Bool} {Q : Value → Shared → Prop} (C : Cx (hd.heap_39 w.params) G) (H : Led G s l) (h1 : Io G l x 46 dx) (h2 : Po G l dx (nodeP pv nx ky vl cl)) (hh : handedIn pv = true) (h : ∀ s', Led G s' l → Q pv s') : wpAny (model prog w) A (getAttr (.ref x) (Str.ofString "prev") expr) Q E s :=
  r_getattr C H h1 h2 (lk_hit) hh cls_46 (by kernel_rfl) h
theorem n_set_prev {pv nx ky vl cl v : Value} {Q : Unit → Shared → Prop} (C : Cx (hd.heap_39 w.params) G) (H : Led G s l) (h1 : Io G l x 46 dx) (h2 : Rep dx (nodeP pv nx ky vl cl) (nodeP v nx ky vl cl) l l') (h : ∀ s', Led G s' l' → Q () s') : wpAny (model prog w) A (setAttr (.ref x) (Str.ofString "prev") v) Q E s :=
  r_setattr C H h1 h2 ((lk_put _ _ _ (by kernel_rfl!)).trans (congrArg lk (by kernel_rfl!))) (.inl ⟨by kernel_rfl!, rfl⟩) (by omega) cls_46 (by kernel_rfl) h
theorem n_get_next_key {pv nx ky vl cl : Value} {expr : Bool} {Q : Value → Shared → Prop} (C : Cx (hd.heap_39 w.params) G) (H : Led G s l) (h1 : Io G l x 46 dx) (h2 : Po G l dx (nodeP pv nx ky vl cl)) (hh : handedIn nx = true) (h : ∀ s', Led G s' l → Q nx s') : wpAny (model prog w) A (getAttr (.ref x) (Str.ofString "next_key") expr) Q E s :=
  r_getattr C H h1 h2 (lk_miss (by decide +kernel) (lk_hit)) hh cls_46 (by kernel_rfl) h
theorem n_set_next_key {pv nx ky vl cl v : Value} {Q : Unit → Shared → Prop} (C : Cx (hd.heap_39 w.params) G) (H : Led G s l) (h1 : Io G l x 46 dx) (h2 : Rep dx (nodeP pv nx ky vl cl) (nodeP pv v ky vl cl) l l') (h : ∀ s', Led G s' l' → Q () s') : wpAny (model prog w) A (setAttr (.ref x) (Str.ofString "next_key") v) Q E s :=
  r_setattr C H h1 h2 ((lk_put _ _ _ (by kernel_rfl!)).trans (congrArg lk (by kernel_rfl!))) (.inl ⟨by kernel_rfl!, rfl⟩) (by omega) cls_46 (by kernel_rfl) h
theorem n_get_key {pv nx ky vl cl : Value} {expr : Bool} {Q : Value → Shared → Prop} (C : Cx (hd.heap_39 w.params) G) (H : Led G s l) (h1 : Io G l x 46 dx) (h2 : Po G l dx (nodeP pv nx ky vl cl)) (hh : handedIn ky = true) (h : ∀ s', Led G s' l → Q ky s') : wpAny (model prog w) A (getAttr (.ref x) (Str.ofString "key") expr) Q E s :=
  r_getattr C H h1 h2 (lk_miss (by decide +kernel) (lk_miss (by decide +kernel) (lk_hit))) hh cls_46 (by kernel_rfl) h
theorem n_set_key {pv nx ky vl cl v : Value} {Q : Unit → Shared → Prop} (C : Cx (hd.heap_39 w.params) G) (H : Led G s l) (h1 : Io G l x 46 dx) (h2 : Rep dx (nodeP pv nx ky vl cl) (nodeP pv nx v vl cl) l l') (h : ∀ s', Led G s' l' → Q () s') : wpAny (model prog w) A (setAttr (.ref x) (Str.ofString "key") v) Q E s :=
  r_setattr C H h1 h2 ((lk_put _ _ _ (by kernel_rfl!)).trans (congrArg lk (by kernel_rfl!))) (.inl ⟨by kernel_rfl!, rfl⟩) (by omega) cls_46 (by kernel_rfl) h
theorem n_get_value {pv nx ky vl cl : Value} {expr : Bool} {Q : Value → Shared → Prop} (C : Cx (hd.heap_39 w.params) G) (H : Led G s l) (h1 : Io G l x 46 dx) (h2 : Po G l dx (nodeP pv nx ky vl cl)) (hh : handedIn vl = true) (h : ∀ s', Led G s' l → Q vl s') : wpAny (model prog w) A (getAttr (.ref x) (Str.ofString "value") expr) Q E s :=
  r_getattr C H h1 h2 (lk_miss (by decide +kernel) (lk_miss (by decide +kernel) (lk_miss (by decide +kernel) (lk_hit)))) hh cls_46 (by kernel_rfl) h
theorem n_set_value {pv nx ky vl cl v : Value} {Q : Unit → Shared → Prop} (C : Cx (hd.heap_39 w.params) G) (H : Led G s l) (h1 : Io G l x 46 dx) (h2 : Rep dx (nodeP pv nx ky vl cl) (nodeP pv nx ky v cl) l l') (h : ∀ s', Led G s' l' → Q () s') : wpAny (model prog w) A (setAttr (.ref x) (Str.ofString "value") v) Q E s :=
  r_setattr C H h1 h2 ((lk_put _ _ _ (by kernel_rfl!)).trans (congrArg lk (by kernel_rfl!))) (.inl ⟨by kernel_rfl!, rfl⟩) (by omega) cls_46 (by kernel_rfl) h
theorem n_get_cleanup {pv nx ky vl cl : Value} {expr : Bool} {Q : Value → Shared → Prop} (C : Cx (hd.heap_39 w.params) G) (H : Led G s l) (h1 : Io G l x 46 dx) (h2 : Po G l dx (nodeP pv nx ky vl cl)) (hh : handedIn cl = true) (h : ∀ s', Led G s' l → Q cl s') : wpAny (model prog w) A (getAttr (.ref x) (Str.ofString "cleanup") expr) Q E s :=
  r_getattr C H h1 h2 (lk_miss (by decide +kernel) (lk_miss (by decide +kernel) (lk_miss (by decide +kernel) (lk_miss (by decide +kernel) (lk_hit))))) hh cls_46 (by kernel_rfl) h
theorem n_set_cleanup {pv nx ky vl cl v : Value} {Q : Unit → Shared → Prop} (C : Cx (hd.heap_39 w.params) G) (H : Led G s l) (h1 : Io G l x 46 dx) (h2 : Rep dx (nodeP pv nx ky vl cl) (nodeP pv nx ky vl v) l l') (h : ∀ s', Led G s' l' → Q () s') : wpAny (model prog w) A (setAttr (.ref x) (Str.ofString "cleanup") v) Q E s :=
  r_setattr C H h1 h2 ((lk_put _ _ _ (by kernel_rfl!)).trans (congrArg lk (by kernel_rfl!))) (.inl ⟨by kernel_rfl!, rfl⟩) (by omega) cls_46 (by kernel_rfl) h
theorem c_meth__update_max_cache {D mru lru mx af : Value} {pl : Sem Bool} {Q : Value × List Value → Shared → Prop} (C : Cx (hd.heap_39 w.params) G) (H : Led G s l) (h1 : Io G l x 182 dx) (h2 : Po G l dx (cacheP D mru lru mx af)) (h : Q (.ref 179, [.ref x]) s) : wpAny (model prog w) A (getMethod (.ref x) (Str.ofString "_update_max_cache") pl) Q E s :=
  r_method C H h1 h2 (lk_no (by decide +kernel) (lk_no (by decide +kernel) (lk_no (by decide +kernel) (lk_no (by decide +kernel) (lk_no (by decide +kernel) (rfl)))))) cls_182 (by kernel_rfl) (by kernel_rfl) h
theorem c_meth_add {D mru lru mx af : Value} {pl : Sem Bool} {Q : Value × List Value → Shared → Prop} (C : Cx (hd.heap_39 w.params) G) (H : Led G s l) (h1 : Io G l x 182 dx) (h2 : Po G l dx (cacheP D mru lru mx af)) (h : Q (.ref 94, [.ref x]) s) : wpAny (model prog w) A (getMethod (.ref x) (Str.ofString "add") pl) Q E s :=
  r_method C H h1 h2 (lk_no (by decide +kernel) (lk_no (by decide +kernel) (lk_no (by decide +kernel) (lk_no (by decide +kernel) (lk_no (by decide +kernel) (rfl)))))) cls_182 (by kernel_rfl) (by kernel_rfl) h
theorem c_meth__record_access {D mru lru mx af : Value} {pl : Sem Bool} {Q : Value × List Value → Shared → Prop} (C : Cx (hd.heap_39 w.params) G) (H : Led G s l) (h1 : Io G l x 182 dx) (h2 : Po G l dx (cacheP D mru lru mx af)) (h : Q (.ref 142, [.ref x]) s) : wpAny (model prog w) A (getMethod (.ref x) (Str.ofString "_record_access") pl) Q E s :=
  r_method C H h1 h2 (lk_no (by decide +kernel) (lk_no (by decide +kernel) (lk_no (by decide +kernel) (lk_no (by decide +kernel) (lk_no (by decide +kernel) (rfl)))))) cls_182 (by kernel_rfl) (by kernel_rfl) h
theorem c_meth_cleanup {D mru lru mx af : Value} {pl : Sem Bool} {Q : Value × List Value → Shared → Prop} (C : Cx (hd.heap_39 w.params) G) (H : Led G s l) (h1 : Io G l x 182 dx) (h2 : Po G l dx (cacheP D mru lru mx af)) (h : Q (.ref 128, [.ref x]) s) : wpAny (model prog w) A (getMethod (.ref x) (Str.ofString "cleanup") pl) Q E s :=
  r_method C H h1 h2 (lk_no (by decide +kernel) (lk_no (by decide +kernel) (lk_no (by decide +kernel) (lk_no (by decide +kernel) (lk_no (by decide +kernel) (rfl)))))) cls_182 (by kernel_rfl) (by kernel_rfl) h
theorem c_meth__remove_lru {D mru lru mx af : Value} {pl : Sem Bool} {Q : Value × List Value → Shared → Prop} (C : Cx (hd.heap_39 w.params) G) (H : Led G s l) (h1 : Io G l x 182 dx) (h2 : Po G l dx (cacheP D mru lru mx af)) (h : Q (.ref 156, [.ref x]) s) : wpAny (model prog w) A (getMethod (.ref x) (Str.ofString "_remove_lru") pl) Q E s :=
  r_method C H h1 h2 (lk_no (by decide +kernel) (lk_no (by decide +kernel) (lk_no (by decide +kernel) (lk_no (by decide +kernel) (lk_no (by decide +kernel) (rfl)))))) cls_182 (by kernel_rfl) (by kernel_rfl) h
theorem c_meth__remove_node {D mru lru mx af : Value} {pl : Sem Bool} {Q : Value × List Value → Shared → Prop} (C : Cx (hd.heap_39 w.params) G) (H : Led G s l) (h1 : Io G l x 182 dx) (h2 : Po G l dx (cacheP D mru lru mx af)) (h : Q (.ref 149, [.ref x]) s) : wpAny (model prog w) A (getMethod (.ref x) (Str.ofString "_remove_node") pl) Q E s :=
  r_method C H h1 h2 (lk_no (by decide +kernel) (lk_no (by decide +kernel) (lk_no (by decide +kernel) (lk_no (by decide +kernel) (lk_no (by decide +kernel) (rfl)))))) cls_182 (by kernel_rfl) (by kernel_rfl) h
theorem c_meth_get {D mru lru mx af : Value} {pl : Sem Bool} {Q : Value × List Value → Shared → Prop} (C : Cx (hd.heap_39 w.params) G) (H : Led G s l) (h1 : Io G l x 182 dx) (h2 : Po G l dx (cacheP D mru lru mx af)) (h : Q (.ref 109, [.ref x]) s) : wpAny (model prog w) A (getMethod (.ref x) (Str.ofString "get") pl) Q E s :=
  r_method C H h1 h2 (lk_no (by decide +kernel) (lk_no (by decide +kernel) (lk_no (by decide +kernel) (lk_no (by decide +kernel) (lk_no (by decide +kernel) (rfl)))))) cls_182 (by kernel_rfl) (by kernel_rfl) h
theorem c_meth_keys {D mru lru mx af : Value} {pl : Sem Bool} {Q : Value × List Value → Shared → Prop} (C : Cx (hd.heap_39 w.params) G) (H : Led G s l) (h1 : Io G l x 182 dx) (h2 : Po G l dx (cacheP D mru lru mx af)) (h : Q (.ref 116, [.ref x]) s) : wpAny (model prog w) A (getMethod (.ref x) (Str.ofString "keys") pl) Q E s :=
  r_method C H h1 h2 (lk_no (by decide +kernel) (lk_no (by decide +kernel) (lk_no (by decide +kernel) (lk_no (by decide +kernel) (lk_no (by decide +kernel) (rfl)))))) cls_182 (by kernel_rfl) (by kernel_rfl) h
theorem c_meth_items {D mru lru mx af : Value} {pl : Sem Bool} {Q : Value × List Value → Shared → Prop} (C : Cx (hd.heap_39 w.params) G) (H : Led G s l) (h1 : Io G l x 182 dx) (h2 : Po G l dx (cacheP D mru lru mx af)) (h : Q (.ref 121, [.ref x]) s) : wpAny (model prog w) A (getMethod (.ref x) (Str.ofString "items") pl) Q E s :=
  r_method C H h1 h2 (lk_no (by decide +kernel) (lk_no (by decide +kernel) (lk_no (by decide +kernel) (lk_no (by decide +kernel) (lk_no (by decide +kernel) (rfl)))))) cls_182 (by kernel_rfl) (by kernel_rfl) h
theorem c_meth_cache_size {D mru lru mx af : Value} {pl : Sem Bool} {Q : Value × List Value → Shared → Prop} (C : Cx (hd.heap_39 w.params) G) (H : Led G s l) (h1 : Io G l x 182 dx) (h2 : Po G l dx (cacheP D mru lru mx af)) (h : Q (.ref 101, [.ref x]) s) : wpAny (model prog w) A (getMethod (.ref x) (Str.ofString "cache_size") pl) Q E s :=
  r_method C H h1 h2 (lk_no (by decide +kernel) (lk_no (by decide +kernel) (lk_no (by decide +kernel) (lk_no (by decide +kernel) (lk_no (by decide +kernel) (rfl)))))) cls_182 (by kernel_rfl) (by kernel_rfl) h
theorem c_meth_clear {D mru lru mx af : Value} {pl : Sem Bool} {Q : Value × List Value → Shared → Prop} (C : Cx (hd.heap_39 w.params) G) (H : Led G s l) (h1 : Io G l x 182 dx) (h2 : Po G l dx (cacheP D mru lru mx af)) (h : Q (.ref 163, [.ref x]) s) : wpAny (model prog w) A (getMethod (.ref x) (Str.ofString "clear") pl) Q E s :=
  r_method C H h1 h2 (lk_no (by decide +kernel) (lk_no (by decide +kernel) (lk_no (by decide +kernel) (lk_no (by decide +kernel) (lk_no (by decide +kernel) (rfl)))))) cls_182 (by kernel_rfl) (by kernel_rfl) h
theorem c_meth_resize {D mru lru mx af : Value} {pl : Sem Bool} {Q : Value × List Value → Shared → Prop} (C : Cx (hd.heap_39 w.params) G) (H : Led G s l) (h1 : Io G l x 182 dx) (h2 : Po G l dx (cacheP D mru lru mx af)) (h : Q (.ref 171, [.ref x]) s) : wpAny (model prog w) A (getMethod (.ref x) (Str.ofString "resize") pl) Q E s :=
  r_method C H h1 h2 (lk_no (by decide +kernel) (lk_no (by decide +kernel) (lk_no (by decide +kernel) (lk_no (by decide +kernel) (lk_no (by decide +kernel) (rfl)))))) cls_182 (by kernel_rfl) (by kernel_rfl) h
theorem n_meth_run_cleanup {pv nx ky vl cl : Value} {pl : Sem Bool} {Q : Value × List Value → Shared → Prop} (C : Cx (hd.heap_39 w.params) G) (H : Led G s l) (h1 : Io G l x 46 dx) (h2 : Po G l dx (nodeP pv nx ky vl cl)) (h : Q (.ref 43, [.ref x]) s) : wpAny (model prog w) A (getMethod (.ref x) (Str.ofString "run_cleanup") pl) Q E s :=
  r_method C H h1 h2 (lk_no (by decide +kernel) (lk_no (by decide +kernel) (lk_no (by decide +kernel) (lk_no (by decide +kernel) (lk_no (by decide +kernel) (lk_no (by decide +kernel) (rfl))))))) cls_46 (by kernel_rfl) (by kernel_rfl) h
theorem n_methv_cleanup {pv nx ky vl cl : Value} {pl : Sem Bool} {Q : Value × List Value → Shared → Prop} (C : Cx (hd.heap_39 w.params) G) (H : Led G s l) (h1 : Io G l x 46 dx) (h2 : Po G l dx (nodeP pv nx ky vl cl)) (hh : handedIn cl = true) (h : ∀ s', Led G s' l → Q (cl, []) s') : wpAny (model prog w) A (getMethod (.ref x) (Str.ofString "cleanup") pl) Q E s := by
  have e := h1.get H
  obtain ⟨od, ed, -⟩ := h2.get H
  have ok := cls_46 (w := w)
  simp only [clsOK, Bool.and_eq_true, beq_iff_eq] at ok
  exact method_usual (r := none) (C.K H) (instAt_of e ed) ok.1.1.1.1 ok.1.1.1.2 (by kernel_rfl) rfl (n_get_cleanup C H h1 h2 hh h)
end
end Mine
namespace Mine
open PySem PySem.W PySem.Calls PyProof.Rows

/-- a test's two ways -/
def IfS (b : Bool) (X Y : Prop) : Prop := (b = true → X) ∧ (b = false → Y)
theorem IfS.t {b : Bool} {X Y : Prop} (hb : b = true) (h : X) : IfS b X Y := ⟨fun _ => h, fun e => absurd (hb.symm.trans e) (by decide)⟩
theorem IfS.f {b : Bool} {X Y : Prop} (hb : b = false) (h : Y) : IfS b X Y := ⟨fun e => absurd (hb.symm.trans e) (by decide), fun _ => h⟩
/-- what comes behind a statement -/
def Sq (X : Shared → Prop) (Q : Flow → Shared → Prop) : Flow → Shared → Prop
  | .next, s => X s
  | f, s => Q f s
/-- what a test is followed by -/
def TrQ (X : Bool → Shared → Prop) : Bool → Shared → Prop := X

inductive Two (x : Addr) (P : HP) (y : Addr) (P' : HP) : List (Addr × HP) → Prop
  | hd {l : List (Addr × HP)} : (y, P') ∈ l → Two x P y P' ((x, P) :: l)
  | hd' {l : List (Addr × HP)} : (x, P) ∈ l → Two x P y P' ((y, P') :: l)
  | tl {p : Addr × HP} {l : List (Addr × HP)} : Two x P y P' l → Two x P y P' (p :: l)

section
variable {M : Model} {prog : Program} {w : World} {A : Around} {E : Value → Shared → Prop} {s : Shared} {G : Gh} {l l' : List (Addr × HP)} {K : Frag} {env : Env}

theorem m_cons {st : Stmt} {rest : List Stmt} {Q : Flow → Shared → Prop} (h : wpAny M A (exec st env) (Sq (fun s' => wpAny M A (execs rest env) Q E s') Q) E s) : wpAny M A (execs (st :: rest) env) Q E s :=
  wpAny_execs_cons (wpAny_mono h (fun f s' h' => by cases f <;> exact h') fun _ _ x => x)
theorem m_nil {Q : Flow → Shared → Prop} (h : Q .next s) : wpAny M A (execs [] env) Q E s := wpAny_execs_nil h
theorem sq_next {X : Shared → Prop} {Q : Flow → Shared → Prop} (h : X s) : Sq X Q .next s := h
theorem sq_ret {X : Shared → Prop} {Q : Flow → Shared → Prop} {v : Value} (h : Q (.ret v) s) : Sq X Q (.ret v) s := h
theorem m_if {test : Expr} {body orelse : List Stmt} {pos : Pos} {Q : Flow → Shared → Prop}
    (h : wpAny M A (isTrue test env (eval test env)) (fun b s₂ => IfS b (wpAny M A (execs body env) Q E s₂) (wpAny M A (execs orelse env) Q E s₂)) E s) : wpAny M A (exec (.If test body orelse pos) env) Q E s :=
  wpAny_If (wpAny_mono h (fun b s₂ h₂ => by cases b; exact h₂.2 rfl; exact h₂.1 rfl) fun _ _ x => x)
theorem m_ifexp {test body orelse : Expr} {pos : Pos} {Q : Value → Shared → Prop}
    (h : wpAny M A (isTrue test env (eval test env)) (fun b s₂ => IfS b (wpAny M A (eval body env) Q E s₂) (wpAny M A (eval orelse env) Q E s₂)) E s) : wpAny M A (eval (.IfExp test body orelse pos) env) Q E s :=
  wpAny_IfExp (wpAny_mono h (fun b s₂ h₂ => by cases b; exact h₂.2 rfl; exact h₂.1 rfl) fun _ _ x => x)
theorem m_assert {test : Expr} {msg : Option Expr} {pos : Pos} {Q : Flow → Shared → Prop}
    (h : wpAny M A (isTrue test env (eval test env)) (fun b s₁ => IfS b (Q .next s₁) False) E s) : wpAny M A (exec (.Assert test msg pos) env) Q E s :=
  wpAny_Assert_holds (wpAny_mono h (fun b s₁ h₁ => by cases b; exact (h₁.2 rfl).elim; exact ⟨rfl, h₁.1 rfl⟩) fun _ _ x => x)
theorem m_expr {e : Expr} {pos : Pos} {Q : Flow → Shared → Prop} (hi : interactive env = false) (hs : swapsWith e none pos.line env = pure false) (h : wpAny (model prog w) A (eval e env) (fun _ => Q .next) E s) :
    wpAny (model prog w) A (exec (.Expr e pos) env) Q E s := wpAny_Expr_any h hi hs
theorem m_setS {o i : Expr} {value : Expr} {pos' pos : Pos} {Q : Flow → Shared → Prop} (hs : swapsWith value (some (.Subscript o i pos')) pos.line env = pure false)
    (h : wpAny M A (eval value env) (fun v s₁ => wpAny M A (eval o env) (fun ov s₂ => wpAny M A (eval i env) (fun iv s₃ => wpAny M A (setItem ov iv v) (fun _ => Q .next) E s₃) E s₂) E s₁) E s) :
    wpAny M A (exec (.Assign [.Subscript o i pos'] value pos) env) Q E s := wpAny_Assign_Subscript h hs

/-- tests -/
theorem t_name {x : Str} {pos : Pos} {Q : Bool → Shared → Prop} (h : wpAny M A (eval (.Name x pos) env) (fun v s₁ => wpAny M A (truthy v) Q E s₁) E s) : wpAny M A (isTrue (.Name x pos) env (eval (.Name x pos) env)) Q E s := wpAny_isTrue_value h
theorem t_attr {o : Expr} {x : Str} {pos : Pos} {Q : Bool → Shared → Prop} (h : wpAny M A (eval (.Attribute o x pos) env) (fun v s₁ => wpAny M A (truthy v) Q E s₁) E s) : wpAny M A (isTrue (.Attribute o x pos) env (eval (.Attribute o x pos) env)) Q E s := wpAny_isTrue_value h
theorem t_cmp {a : Expr} {op : CmpOp} {r : Expr} {pos : Pos} {whole : Sem Value} {Q : Bool → Shared → Prop} (hm : behindInMarks op r = false)
    (h : wpAny M A (eval a env) (fun a s₁ => wpAny M A (eval r env) (fun b s₂ => wpAny M A (compareOp op a b) (fun c s₃ => wpAny M A (truthy c) Q E s₃) E s₂) E s₁) E s) : wpAny M A (isTrue (.Compare a [op] [r] pos) env whole) Q E s := wpAny_isTrue_Compare1 h hm
theorem e_cmp {a : Expr} {op : CmpOp} {r : Expr} {pos : Pos} {Q : Value → Shared → Prop} (hm : behindInMarks op r = false)
    (h : wpAny M A (eval a env) (fun a s₁ => wpAny M A (eval r env) (fun b s₂ => wpAny M A (compareOp op a b) Q E s₂) E s₁) E s) : wpAny M A (eval (.Compare a [op] [r] pos) env) Q E s := wpAny_Compare1 h hm
theorem t_bool {b : Bool} {Q : Bool → Shared → Prop} (h : Q b s) : wpAny M A (truthy (.bool b)) Q E s := wpAny_truthy_bool h
theorem t_none {Q : Bool → Shared → Prop} (h : Q false s) : wpAny M A (truthy .none) Q E s := fun _ _ _ => h

/-- calls -/
theorem e_meth {o : Expr} {name : Str} {apos pos : Pos} {args : List Expr} {kws : List Keyword} {Q : Value → Shared → Prop}
    (he : eval (.Call (.Attribute o name apos) args kws pos) env = (do
      let ov ← eval o env
      standAt apos.atName
      let (f, first) ← holding [ov] (getMethod ov name (do return (← importBound o env).getD true))
      callWith pos f first (backTo pos (starEach args env)) (backToKw pos (keywordEach kws env))))
    (h : wpAny M A (eval o env) (fun ov s₁ => wpAny M A (getMethod ov name (do return (← importBound o env).getD true)) (fun fx s₂ => wpAny M A (callWith pos fx.1 fx.2 (backTo pos (starEach args env)) (backToKw pos (keywordEach kws env))) Q E s₂) E s₁) E s) :
    wpAny M A (eval (.Call (.Attribute o name apos) args kws pos) env) Q E s := methodCall_KW h he
theorem e_call {x : Str} {p pos : Pos} {args : List Expr} {kws : List Keyword} {Q : Value → Shared → Prop}
    (h : wpAny M A (eval (.Name x p) env) (fun f s₁ => wpAny M A (callWith pos f [] (backTo pos (starEach args env)) (backToKw pos (keywordEach kws env))) Q E s₁) E s) :
    wpAny M A (eval (.Call (.Name x p) args kws pos) env) Q E s := wpAny_Call_Name_kw h
/-- arguments one by one -/
def ArgsW (M : Model) (A : Around) (env : Env) (pos : Pos) (args : List Expr) (Q : List Value → Shared → Prop) (E : Value → Shared → Prop) (s : Shared) : Prop := wpAny M A (spliced (backTo pos (starEach args env))) Q E s
theorem a_nil {pos : Pos} {Q : List Value → Shared → Prop} (h : Q [] s) : ArgsW M A env pos [] Q E s := wpAny_items_nil h
theorem a_cons {pos : Pos} {e : Expr} {rest : List Expr} {Q : List Value → Shared → Prop} (he : starEach (e :: rest) env = (false, eval e env) :: starEach rest env)
    (h : wpAny M A (eval e env) (fun v s₁ => ArgsW M A env pos rest (fun vs s₂ => Q (v :: vs) s₂) E s₁) E s) : ArgsW M A env pos (e :: rest) Q E s := wpAny_items_cons h he
def KwsW (M : Model) (A : Around) (env : Env) (pos : Pos) (kws : List Keyword) (Q : List Value → Shared → Prop) (E : Value → Shared → Prop) (s : Shared) : Prop := wpAny M A (evalAll ((backToKw pos (keywordEach kws env)).map (·.2))) Q E s
theorem k_nil {pos : Pos} {Q : List Value → Shared → Prop} (h : Q [] s) : KwsW M A env pos [] Q E s := wpAny_pure h
theorem k_cons {pos kp : Pos} {x : Option Str} {e : Expr} {rest : List Keyword} {Q : List Value → Shared → Prop}
    (h : wpAny M A (eval e env) (fun v s₁ => KwsW M A env pos rest (fun vs s₂ => Q (v :: vs) s₂) E s₁) E s) : KwsW M A env pos (⟨x, e, kp⟩ :: rest) Q E s := by
  show wpAny M A (evalAll ((do let v ← eval e env; standAt pos; pure v) :: (backToKw pos (keywordEach rest env)).map (·.2))) Q E s
  exact wpAny_evalAll_cons (wpAny_bind (wpAny_mono h (fun v s₁ h₁ => wpAny_bind (wpAny_standAt (wpAny_pure h₁))) fun _ _ x => x))

theorem cw_K {pos : Pos} {f : Value} {first : List Value} {e : Expr} {rest : List Expr} {Q : Value → Shared → Prop} (C : Cx K G) (hk : keepIn K f = true)
    (he : starEach (e :: rest) env = (false, eval e env) :: starEach rest env) (hplain : (backTo pos (starEach rest env)).any (·.1) = false)
    (h : ArgsW M A env pos (e :: rest) (fun vs s₁ => (∃ l, Led G s₁ l) ∧ wpAny M A (call f (first ++ vs)) Q E s₁) E s) :
    wpAny M A (callWith pos f first (backTo pos (starEach (e :: rest) env)) (backToKw pos (keywordEach [] env))) Q E s :=
  callWith_K C.X hk (wpAny_mono h (fun vs s₁ h₁ => ⟨let ⟨_, H⟩ := h₁.1; C.K H, h₁.2⟩) fun _ _ x => x) he hplain
theorem cw_K0 {pos : Pos} {f : Value} {first : List Value} {Q : Value → Shared → Prop} (C : Cx K G) (H : Led G s l) (hk : keepIn K f = true) (h : wpAny M A (call f (first ++ [])) Q E s) :
    wpAny M A (callWith pos f first (backTo pos (starEach [] env)) (backToKw pos (keywordEach [] env))) Q E s := callWith_K0 (C.K H) hk h
theorem cw_KW {pos : Pos} {f : Value} {first : List Value} {Q : Value → Shared → Prop} {e : Expr} {rest : List Expr} {kws : List Keyword} {names : List Str} (C : Cx K G) (hk : keepIn K f = true) (hall : (backToKw pos (keywordEach kws env)).all (·.1.isSome) = true)
    (hplain : ((backTo pos (starEach (e :: rest) env)).any (·.1) || (backToKw pos (keywordEach kws env)).any (·.1.isNone)) = false) (he : starEach (e :: rest) env = (false, eval e env) :: starEach rest env)
    (hn : (backToKw pos (keywordEach kws env)).filterMap (·.1) = names)
    (h : ArgsW M A env pos (e :: rest) (fun vs s₁ => KwsW M A env pos kws (fun ks s₂ => (∃ l, Led G s₂ l) ∧ wpAny M A (call f (first ++ vs) (names.zip ks)) Q E s₂) E s₁) E s) :
    wpAny M A (callWith pos f first (backTo pos (starEach (e :: rest) env)) (backToKw pos (keywordEach kws env))) Q E s := by
  subst hn
  exact callWith_KW C.X hk hall (wpAny_mono h (fun vs s₁ h₁ => wpAny_mono h₁ (fun ks s₂ h₂ => ⟨let ⟨_, H⟩ := h₂.1; C.K H, h₂.2⟩) fun _ _ x => x) fun _ _ x => x) hplain he

/-- dicts of int keys -/
theorem Led.dict {d : Addr} {kvs : List (Int × Value)} (H : Led G s l) (hm : Po G l d (idP prog w kvs)) : s.heap.DictOf (PySem.intKind prog w) d kvs := Heap.dictOf_iff.mpr (hm.get H)
theorem Led.noMod {d : Addr} {P : HP} (H : Led G s l) (hm : (d, P) ∈ l) : (d == sysModules) = false := by
  exact beq_eq_false_iff_ne.mpr (Nat.ne_of_gt (Nat.lt_trans (by decide : 1 < 3) (H.hi _ hm)))
theorem d_in {d : Addr} {kvs : List (Int × Value)} {k : Int} {t : Tok} {b : Bool} {Q : Value → Shared → Prop} (lo : (d == sysModules) = false) (H : Led G s l) (hm : Po G l d (idP prog w kvs)) (hb : (valueAt kvs k).isSome = b) (h : ∀ s', Led G s' l → Q (.bool b) s') :
    wpAny (model prog w) A (compareOp .In (.int k t) (.ref d)) Q E s := wpAny_in_of (intKind_is _ _ _ _) lo (H.dict hm).mapOf (by rw [hb]; exact h _ (H.toks _))
theorem d_item {d : Addr} {kvs : List (Int × Value)} {k : Int} {t : Tok} {v : Value} {value slice : Expr} {Q : Value → Shared → Prop} (H : Led G s l) (hm : Po G l d (idP prog w kvs)) (hv : valueAt kvs k = some v)
    (hs : subscripted slice false (.ref d) (.int k t) = operate [.ref d, .int k t] (getItem (.ref d) (.int k t))) (h : ∀ s', Led G s' l → Q v s') :
    wpAny (model prog w) A (subscriptTail value slice (.ref d) (.int k t)) Q E s := by
  have hD := H.dict hm
  unfold subscriptTail
  refine wpAny_bind ?_
  rw [getitemInPython_of_ne hD.typeIs.not_modules]
  refine wpAny_bind (wpAny_specialOf hD.typeIs slot_dict_getitem.lookup ?_)
  refine wpAny_pure (wpAny_bind ?_)
  rw [hs]
  exact wpAny_operating (wpAny_getItem_of (intKind_is _ _ _ _) hD.mapOf hv (wpAny_bind (wpAny_letTemporaryGo (wpAny_pure (h _ (H.toks _))))))
theorem d_len {d : Addr} {kvs : List (Int × Value)} {Q : Value → Shared → Prop} (lo : (d == sysModules) = false) (H : Led G s l) (hm : Po G l d (idP prog w kvs)) (hf : kvs.length ≤ 1000) (h : ∀ t s', Led G s' l → Q (.int kvs.length t) s') :
    wpAny (model prog w) A (call (.builtin "len") [.ref d]) Q E s := call_len_dict lo (H.dict hm) (by omega) (h _ _ (H.toks _))
theorem d_truthy {d : Addr} {kvs : List (Int × Value)} {Q : Bool → Shared → Prop} (lo : (d == sysModules) = false) (H : Led G s l) (hm : Po G l d (idP prog w kvs)) (hf : kvs.length ≤ 1000) (h : ∀ s', Led G s' l → Q (!kvs.isEmpty) s') :
    wpAny (model prog w) A (truthy (.ref d)) Q E s := wpAny_truthy_dict lo (H.dict hm) (by omega) (h _ (H.toks _))
theorem d_set {d : Addr} {kvs : List (Int × Value)} {k : Int} {t : Tok} {v : Value} {Q : Unit → Shared → Prop} (H : Led G s l) (hr : Rep d (idP prog w kvs) (idP prog w (stored kvs k v)) l l') (hf : kvs.length ≤ 1000)
    (h : ∀ s', Led G s' l' → Q () s') : wpAny (model prog w) A (setItem (.ref d) (.int k t) v) Q E s :=
  wpAny_setItem_pairs (hsz := by rw [sizeLine_eq]; omega) (intKind_is _ _ _ _) (H.dict (.inl hr.mem)) fun h' hm hs => h _ (H.upd hr hs (Heap.dictOf_iff.mp hm))
theorem d_pop {d : Addr} {kvs : List (Int × Value)} {k : Int} {t : Tok} {v : Value} {Q : Value → Shared → Prop} (H : Led G s l) (hr : Rep d (idP prog w kvs) (idP prog w (without kvs k)) l l') (hf : kvs.length ≤ 1000) (hv : valueAt kvs k = some v)
    (h : ∀ s', Led G s' l' → Q v s') : wpAny (model prog w) A (call (.builtin "dict.pop") [.ref d, .int k t]) Q E s :=
  have hD := H.dict (.inl hr.mem)
  call_meetsIn PySem.F.slot_dict_pop hD.typeIs PySem.F.entry_dict_pop (PySem.F.args_dict_pop_2 _ _) (meets_dict_pop_there _ d (intKind_is _ _ _ _) [] (.inl rfl) (by rfl))
    ⟨kvs, v, hD, by rw [sizeLine_eq]; omega, hv, fun h' hm hs => h _ (H.upd hr hs (Heap.dictOf_iff.mp hm))⟩
theorem d_meth {d : Addr} {kvs : List (Int × Value)} {name : Str} {id : String} {pl : Sem Bool} {Q : Value × List Value → Shared → Prop} (slot : Slot "dict" name id) (ty : typeOf (.builtin id) = pure (.type "method_descriptor")) (H : Led G s l) (hm : Po G l d (idP prog w kvs)) (h : Q (.builtin id, [.ref d]) s) :
    wpAny (model prog w) A (getMethod (.ref d) name pl) Q E s :=
  have hD := H.dict hm
  getMethod_builtin hD.typeIs PySem.F.plainAttrs_dict slot ty hD.mapOf.noDict h
/-- a built-in called -/
theorem cw_B {pos : Pos} {id : String} {first : List Value} {e : Expr} {rest : List Expr} {Q : Value → Shared → Prop} (he : starEach (e :: rest) env = (false, eval e env) :: starEach rest env) (hp : (backTo pos (starEach (e :: rest) env)).any (·.1) = false)
    (h : ArgsW M A env pos (e :: rest) (fun vs s₁ => wpAny M A (call (.builtin id) (first ++ vs)) Q E s₁) E s) :
    wpAny M A (callWith pos (.builtin id) first (backTo pos (starEach (e :: rest) env)) (backToKw pos (keywordEach [] env))) Q E s := by
  unfold ArgsW at h
  show wpAny M A (callWith pos (.builtin id) first (backTo pos (starEach (e :: rest) env)) []) Q E s
  rw [he] at h hp ⊢
  exact Calls.callWith_builtin hp (Calls.evalArgs_plain h)

theorem hd_ref {a : Addr} : handedIn (.ref a) = true := rfl
theorem hd_int {i : Int} {t : Tok} : handedIn (.int i t) = true := rfl
theorem hd_none : handedIn .none = true := rfl
theorem hd_bool {b : Bool} : handedIn (.bool b) = true := rfl
theorem hd_str {x : Str} {t : Tok} : handedIn (.str x t) = true := rfl
theorem is_refNone {x : Addr} {Q : Value → Shared → Prop} (h : Q (.bool false) s) : wpAny M A (compareOp .Is (.ref x) .none) Q E s := is_none h
theorem is_noneNone {Q : Value → Shared → Prop} (h : Q (.bool true) s) : wpAny M A (compareOp .Is .none .none) Q E s := is_none h
theorem is_intNone {x : Int} {t : Tok} {Q : Value → Shared → Prop} (h : Q (.bool false) s) : wpAny M A (compareOp .Is (.int x t) .none) Q E s := is_none h
theorem isn_refNone {x : Addr} {Q : Value → Shared → Prop} (h : Q (.bool true) s) : wpAny M A (compareOp .IsNot (.ref x) .none) Q E s := isNot_none h
theorem isn_noneNone {Q : Value → Shared → Prop} (h : Q (.bool false) s) : wpAny M A (compareOp .IsNot .none .none) Q E s := isNot_none h
theorem isn_intNone {x : Int} {t : Tok} {Q : Value → Shared → Prop} (h : Q (.bool true) s) : wpAny M A (compareOp .IsNot (.int x t) .none) Q E s := isNot_none h
theorem is_noneRef {x : Addr} {Q : Value → Shared → Prop} (h : Q (.bool false) s) : wpAny M A (compareOp .Is (.ref x) .none) Q E s := is_none h
theorem Two.ne {x y : Addr} {P P' : HP} {l : List (Addr × HP)} (t : Two x P y P' l) (nd : (l.map Prod.fst).Nodup) : x ≠ y := by
  induction t with
  | hd hm => simp only [List.map_cons, List.nodup_cons] at nd; exact fun e => nd.1 (by rw [e]; exact List.mem_map_of_mem hm)
  | hd' hm => simp only [List.map_cons, List.nodup_cons] at nd; exact fun e => nd.1 (by rw [← e]; exact List.mem_map_of_mem hm)
  | tl _ ih => simp only [List.map_cons, List.nodup_cons] at nd; exact ih nd.2
theorem is_self {x : Addr} {Q : Value → Shared → Prop} (h : Q (.bool true) s) : wpAny M A (compareOp .Is (.ref x) (.ref x)) Q E s := wpAny_is_ref_self h
theorem is_other {x y dx dy C C' : Addr} {Q : Value → Shared → Prop} (H : Led G s l) (hx : Io G l x C dx) (hy : Io G l y C' dy) (hne : x ≠ y) (h : Q (.bool false) s) : wpAny M A (compareOp .Is (.ref x) (.ref y)) Q E s :=
  wpAny_is_ref_other hne (hx.get H) (hy.get H) (by simp) h

/-- an instance's truth, where its class says nothing -/
theorem t_inst {x dx C : Addr} {n : Nat} {m : Str → Option Value} {Q : Bool → Shared → Prop} (Cx : Cx K G) (H : Led G s l) (h1 : Io G l x C dx) (h2 : Po G l dx (adP n m)) (k1 : findIn K (.ref C) "__bool__" = some none) (k2 : findIn K (.ref C) "__len__" = some none) (h : Q true s) :
    wpAny M A (truthy (.ref x)) Q E s := by
  have ex := h1.get H
  obtain ⟨od, ed, -⟩ := h2.get H
  have X := Cx.K H
  have I := instAt_of ex ed
  unfold truthy
  refine wpAny_bind (m := callSpecial? (.ref x) (Str.ofString "__bool__")) (wpAny_bind (wpAny_bind (I.type.here ((looks_findIn X k1).here (wpAny_pure ?_)))))
  refine wpAny_bind (wpAny_bind (I.type.here ((looks_findIn X k2).here ?_)))
  exact wpAny_pure h

theorem led_and {X : Prop} (H : Led G s l) (h : X) : (∃ l, Led G s l) ∧ X := ⟨⟨l, H⟩, h⟩
theorem r_sub {value slice : Expr} {pos : Pos} {Q : Value → Shared → Prop}
    (h : wpAny M A (eval value env) (fun o s₁ => wpAny M A (eval slice env) (fun i s₂ => wpAny M A (subscriptTail value slice o i) Q E s₂) E s₁) E s) : wpAny M A (eval (.Subscript value slice pos) env) Q E s := Subscript_ h
end
end Mine
namespace Mine
open PySem PySem.W PySem.Calls PyProof.Rows

section
variable {M : Model} {prog : Program} {w : World} {A : Around} {E : Value → Shared → Prop} {s : Shared} {G : Gh} {l l' : List (Addr × HP)} {K : Frag} {env : Env}
theorem Led.list {D : Addr} {xs : List Value} (H : Led G s l) (hm : Po G l D (liP xs)) : s.heap.IsList D xs.toArray := by
  obtain ⟨o, e, n, rfl⟩ := hm.get H; exact ⟨_, e, rfl, n, rfl⟩
theorem li_append {D : Addr} {xs : List Value} {v : Value} {Q : Value → Shared → Prop} (H : Led G s l) (hr : Rep D (liP xs) (liP (xs ++ [v])) l l') (hz : xs.length ≤ 1000) (h : ∀ s', Led G s' l' → Q .none s') :
    wpAny (model prog w) A (call (.builtin "list.append") [.ref D, v]) Q E s := by
  obtain ⟨o, e, n, rfl⟩ := H.get hr.mem
  refine append_at e (fun h' hs ho => h _ (H.upd hr (tk := s.toks) hs ⟨_, ho, n + 1, ?_⟩)) (by rw [List.size_toArray, sizeLine_eq]; omega)
  simp
theorem e_append {o elt : Expr} {apos pos : Pos} {D : Addr} {Q : Value → Shared → Prop}
    (hbase : attributeBase o "append" env (eval o env) = eval o env)
    (hfew : ((backTo pos (starEach [elt] env)).all (fun x => !x.1) && (backToKw pos (keywordEach [] env)).all (fun x => x.1.isSome)
      && decide (([elt] : List Expr).length + ([] : List Keyword).length + (if ([] : List Keyword).isEmpty then 0 else 1) < 30)) = true)
    (hline : (apos.endLine == pos.line) = true) (htrees : backTo pos (starEach [elt] env) = [(false, eval elt env)])
    (h : wpAny (model prog w) A (eval o env) (fun ov s₁ => ov = .ref D ∧ (∃ l xs, Led G s₁ l ∧ Po G l D (liP xs)) ∧
      wpAny (model prog w) A (eval elt env) (fun y s₂ => wpAny (model prog w) A (call (.builtin "list.append") [.ref D, y]) Q E s₂) E s₁) E s) :
    wpAny (model prog w) A (eval (.Call (.Attribute o "append" apos) [elt] [] pos) env) Q E s :=
  wpAny_Call_append hbase hfew hline htrees (wpAny_mono h (fun ov s₁ ⟨e, ⟨l, xs, H, hm⟩, hh⟩ => ⟨D, xs.toArray, e, by obtain ⟨o, e, n, rfl⟩ := hm.get H; exact ⟨_, n, e, rfl, rfl, rfl⟩, hh⟩) fun _ _ x => x)
theorem e_tuple {elts : List Expr} {k : Nat} {pos : Pos} {Q : Value → Shared → Prop}
    (h : ArgsW M A env pos elts (fun vs s₁ => wpAny M A (newTuple vs) Q E s₁) E s) : wpAny M A (eval (.Tuple elts k pos) env) Q E s := Tuple_ h
theorem e_list {elts : List Expr} {pos : Pos} {Q : Value → Shared → Prop}
    (h : ArgsW M A env pos elts (fun vs s₁ => wpAny M A (newList vs) Q E s₁) E s) : wpAny M A (eval (.List elts pos) env) Q E s := List_ h
theorem new_tuple {vs : List Value} {Q : Value → Shared → Prop} (H : Led G s l) (hz : vs.length ≤ 1000) (h : ∀ x s', Led G s' ((x, tuP vs) :: l) → Q (.ref x) s') : wpAny M A (newTuple vs) Q E s :=
  wpAny_newObj_type (h _ _ (H.alloc (tk := s.toks) rfl ⟨0, rfl⟩)) (by show vs.toArray.size ≤ sizeLine; rw [List.size_toArray, sizeLine_eq]; omega)
theorem new_list {vs : List Value} {Q : Value → Shared → Prop} (H : Led G s l) (hz : vs.length ≤ 1000) (h : ∀ x s', Led G s' ((x, liP vs) :: l) → Q (.ref x) s') : wpAny M A (newList vs) Q E s :=
  wpAny_newObj_type (h _ _ (H.alloc (tk := s.toks) rfl ⟨0, rfl⟩)) (by show vs.toArray.size ≤ sizeLine; rw [List.size_toArray, sizeLine_eq]; omega)

/-- the telling lambda: it writes a pair into the list at T -/
inductive TellFn (G : Gh) (f T : Addr) : Prop
  | mk (qual : Str) (params : Arguments) (body : Expr) (scope : Scope) (pm : Value) (c' : Addr) (ctv : Value) (cell : Addr) (p1 p2 p3 p4 p5 p6 : Pos) (k : Nat)
    (h1 : G.g.get? f = some (kla_obj (Str.ofString "<lambda>") qual params body scope [(Str.ofString "told", cell)] pm c' ctv)) (h2 : G.g.CodeRec (.ref c') qual)
    (h3 : ∃ o, G.g.get? cell = some o ∧ o.data = .cell (some (.ref T)))
    (hb : body = .Call (.Attribute (.Name (Str.ofString "told") p1) (Str.ofString "append") p2) [.Tuple [.Name (Str.ofString "one") p3, .Name (Str.ofString "two") p4] k p5] [] p6)
    (h4 : (p2.endLine == p6.line) = true) (h5 : scope.kind = .function) (h6 : scope.isCoroutine = false) (h7 : scope.isGenerator = false) (h8 : scope.names.lookup (Str.ofString "told") = some .free)
    (h9 : scope.names.lookup (Str.ofString "one") = some .local) (h10 : scope.names.lookup (Str.ofString "two") = some .local) (h11 : (scope.names.all fun x => x.2 != .cell) = true)
    (h12 : ∀ a b, bindArgs (kla_fn (Str.ofString "<lambda>") qual params body scope [(Str.ofString "told", cell)] pm (.ref c') ctv) ⟨[a, b], []⟩ = pure [(Str.ofString "one", a), (Str.ofString "two", b)]) : TellFn G f T
theorem TellFn.mono {G G' : Gh} {f T : Addr} (x : TellFn G f T) (h : ∀ b o, G.g.get? b = some o → G'.g.get? b = some o) : TellFn G' f T := by
  cases x with
  | mk q pa b sc pm c' ctv cell p1 p2 p3 p4 p5 p6 k h1 h2 h3 hb h4 h5 h6 h7 h8 h9 h10 h11 h12 =>
    exact .mk q pa b sc pm c' ctv cell p1 p2 p3 p4 p5 p6 k (h _ _ h1) (h2.keeps h) (Exists.elim h3 fun o e => ⟨o, h _ _ e.1, e.2⟩) hb h4 h5 h6 h7 h8 h9 h10 h11 h12

theorem c_tell {R : Result → Shared → Prop} {f T : Addr} {xs : List Value} {a b : Value} {l' : Addr → List (Addr × HP)} (C : Cx K G) (H : Led G s l) (hr : Rm A 5) (hf : TellFn G f T) (hz : xs.length ≤ 900) (rp : ∀ x, Rep T (liP xs) (liP (xs ++ [.ref x])) l (l' x))
    (h : ∀ x s', Led G s' ((x, tuP [a, b]) :: l' x) → R (.ok (.ret .none)) s') : codeAny (model prog w) A (.call (.ref f) ⟨[a, b], []⟩) R s := by
  obtain ⟨qual, params, body, scope, pm, c', ctv, cell, p1, p2, p3, p4, p5, p6, k, h1, h2, ⟨oc, h3, h3'⟩, rfl, h4, h5, h6, h7, h8, h9, h10, h11, h12⟩ := hf
  refine kla_callFunE hr.room (H.keep _ _ h1) rfl h6 h7 rfl (h2.keeps H.keep) ?_
  rw [h12]
  refine wpAny_pure (wpAny_newFunctionEnv (fun x hx => by simpa using List.all_eq_true.mp h11 x hx) (fun x hx => ?_) (fun h₁ hns hsb => ⟨(C.lim H).fresh _ hsb, ?_⟩) h5)
  · rcases List.mem_cons.mp hx with rfl | hx
    · exact h9
    · rw [List.mem_singleton.mp hx]; exact h10
  generalize hL : s.heap.objs.size = L
  rw [hL] at hns hsb
  show codeAny _ _ (.expr _ (envX qual scope L f (.ref c') [(Str.ofString "told", cell)])) _ _
  have H₁ : Led G { s with heap := h₁, toks := s.toks + 2 } ((L, nsP (fun x => [(Str.ofString "one", a), (Str.ofString "two", b)].reverse.lookup x)) :: l) := by
    have H0 : Led G { s with heap := s.heap.push { cls := .type "frame", data := .dict #[] }, toks := s.toks } ((L, fun _ => True) :: l) := hL ▸ H.alloc rfl trivial
    refine Led.upd (h' := h₁) (tk := s.toks + 2) H0 .head hsb ?_
    obtain ⟨o, es, ep, e, hd, hsk, hf⟩ := hns
    exact ⟨o, e, es, ep, hd, hsk, hf⟩
  refine kla_codeExpr (wpAny_mono (Q := fun v s' => R (.ok (.ret v)) s') (E := fun _ _ => False) ?_ (fun _ _ x => x) fun _ _ x => x.elim)
  have lo : ∀ {x : Str} {p : Pos} {v : Value} {s' : Shared} {l'} {Q : Value → Shared → Prop} {E}, Led G s' ((L, nsP (fun x => [(Str.ofString "one", a), (Str.ofString "two", b)].reverse.lookup x)) :: l') → scope.names.lookup x = some .local →
      [(Str.ofString "one", a), (Str.ofString "two", b)].reverse.lookup x = some v → (x == ("__debug__" : Str)) = false → Q v s' → wpAny (model prog w) (A.deeper (envX qual scope L f (.ref c') [(Str.ofString "told", cell)])) (eval (.Name x p) (envX qual scope L f (.ref c') [(Str.ofString "told", cell)])) Q E s' :=
    fun H' e hv hd q => wpAny_Name (wpAny_loadName_local (env := envX qual scope L f (.ref c') [(Str.ofString "told", cell)]) h5 e (H'.ns List.mem_cons_self) hv q) hd
  refine e_append (G := G) (D := T) rfl rfl h4 rfl ?_
  refine wpAny_Name (wpAny_loadName_free (env := envX qual scope L f (.ref c') [(Str.ofString "told", cell)]) (c := cell) h5 h8 (by simp) ⟨oc, H₁.keep _ _ h3, h3'⟩ ?_) (by decide +kernel)
  refine ⟨rfl, ⟨_, _, H₁, .led (.tail _ (rp 0).mem)⟩, ?_⟩
  refine e_tuple (a_cons rfl (lo (v := a) H₁ h9 (by kernel_rfl) (by decide +kernel) (a_cons rfl (lo (v := b) H₁ h10 (by kernel_rfl) (by decide +kernel) (a_nil ?_)))))
  refine new_tuple H₁ (by simp) fun x s₂ H₂ => ?_
  refine li_append H₂ (.tail (.tail (rp x))) (by omega) fun s₃ H₃ => ?_
  exact h x s₃ (H₃.sub (.cons₂ _ (.cons _ (.refl _))))
/-- picking entries out in an order -/
theorem Led.keepsB {l} (H : Led G s l) : ∀ b o, G.g.get? b = some o → s.heap.get? b = some o := H.keep
end
inductive Ext (a : Addr × HP) : List (Addr × HP) → List (Addr × HP) → Prop
  | hd {l : List (Addr × HP)} : Ext a (a :: l) l
  | tl {p : Addr × HP} {l l' : List (Addr × HP)} : Ext a l l' → Ext a (p :: l) (p :: l')
theorem Ext.perm {a : Addr × HP} {l l' : List (Addr × HP)} (x : Ext a l l') : l.Perm (a :: l') := by
  induction x with
  | hd => exact .refl _
  | tl _ ih => exact (ih.cons _).trans (.swap ..)
theorem pick {a : Addr × HP} {l l₁ l₂ : List (Addr × HP)} (x : Ext a l l₁) (p : l₁.Perm l₂) : l.Perm (a :: l₂) := x.perm.trans (p.cons _)
theorem pickN {l : List (Addr × HP)} : l.Perm l := .refl _
section
variable {M : Model} {prog : Program} {w : World} {A : Around} {E : Value → Shared → Prop} {s : Shared} {G : Gh} {l l' : List (Addr × HP)} {K : Frag} {env : Env}
theorem Led.drop {L : Addr} {P : HP} {l₁ l₂ : List (Addr × HP)} (H : Led G s l) (x : Ext (L, P) l l₁) (p : l₁.Perm l₂) : Led G s l₂ := ((H.perm x.perm).tl).perm p
/-- a def of the base called -/
theorem cw_fn {pos : Pos} {f : Addr} {first : List Value} {e : Expr} {rest : List Expr} {Q : Value → Shared → Prop} (hf : ∃ o fd, G.g.get? f = some o ∧ o.data = .func fd)
    (he : starEach (e :: rest) env = (false, eval e env) :: starEach rest env) (hplain : (backTo pos (starEach rest env)).any (·.1) = false)
    (h : ArgsW M A env pos (e :: rest) (fun vs s₁ => (∃ l, Led G s₁ l) ∧ wpAny M A (call (.ref f) (first ++ vs)) Q E s₁) E s) :
    wpAny M A (callWith pos (.ref f) first (backTo pos (starEach (e :: rest) env)) (backToKw pos (keywordEach [] env))) Q E s := by
  obtain ⟨o, fd, ho, hd⟩ := hf
  unfold ArgsW at h
  show wpAny M A (callWith pos (.ref f) first (backTo pos (starEach (e :: rest) env)) []) Q E s
  rw [he] at h ⊢
  refine callWith_of (P := fun h => h.get? f = some o) (by show ((false || (backTo pos (starEach rest env)).any (·.1)) || false) = false; rw [hplain]; rfl) (fun h e => ⟨.frame, .inl rfl, (Looks.ld (part := none) e).andThen (by rw [hd]; exact .now)⟩)
    (Calls.evalArgs_plain (wpAny_mono h (fun vs s₁ h₁ => ⟨let ⟨_, H⟩ := h₁.1; H.keep _ _ ho, h₁.2⟩) fun _ _ x => x))
theorem TellFn.fn {f T : Addr} (x : TellFn G f T) : ∃ o fd, G.g.get? f = some o ∧ o.data = .func fd := by
  cases x with
  | mk _ _ _ _ _ _ _ _ _ _ _ _ _ _ _ h => exact ⟨_, _, h, rfl⟩
end
end Mine
namespace Mine
open PySem PySem.W PySem.Calls PyProof.Rows

section
variable {prog : Program} {w : World} {A : Around} {E : Value → Shared → Prop} {s : Shared} {G : Gh} {l l' : List (Addr × HP)} {K : Frag} {env : Env}
theorem m_while {test : Expr} {body : List Stmt} {pos : Pos} {Q : Flow → Shared → Prop} (I : Nat → Shared → Prop) (n : Nat) (h : I n s)
    (turn : ∀ n s, I n s → wpAny (model prog w) A (isTrue test env (eval test env)) (fun b s₂ => IfS b (wpAny (model prog w) A (execs body env) (fun f s₃ => f = .next ∧ ∃ m, m < n ∧ I m s₃) (fun _ _ => False) s₂) (Q .next s₂)) (fun _ _ => False) s) :
    wpAny (model prog w) A (exec (.While test body [] pos) env) Q E s := by
  refine wpAny_While ?_
  refine codeAny_whileLoop I (fun n s hI => ?_) n h
  refine wpAny_mono (M := model prog w) (show wpAny (model prog w) (A.mark none) _ _ (fun _ _ => False) s from ?_) (fun _ _ x => x) (fun _ _ x => x.elim)
  refine wpAny_mono (show wpAny (model prog w) (A.mark none) _ _ (fun _ _ => False) s from turn n s hI) (fun b s₂ h₂ => ?_) fun _ _ x => x
  cases b with
  | true =>
    rw [if_pos rfl]
    refine wpAny_mono (h₂.1 rfl) (fun f s₃ h₃ => ?_) fun _ _ x => x.elim
    obtain ⟨rfl, h₃⟩ := h₃
    exact h₃
  | false =>
    rw [if_neg (by decide)]
    exact wpAny_execs_nil (h₂.2 rfl)
theorem n_truthy {x dx : Addr} {pv nx ky vl cl : Value} {Q : Bool → Shared → Prop} (C : Cx (hd.heap_39 w.params) G) (H : Led G s l) (h1 : Io G l x 46 dx) (h2 : Po G l dx (nodeP pv nx ky vl cl)) (h : Q true s) : wpAny (model prog w) A (truthy (.ref x)) Q E s :=
  t_inst C H h1 h2 (by kernel_rfl) (by kernel_rfl) h
end

/-- a node of the row -/
structure Nd where
  a : Addr
  d : Addr
  k : Int
  t : Tok
  vl : Value
  cl : Value
abbrev Nd.ky (n : Nd) : Value := .int n.k n.t
def headK (ns : List Nd) (nx : Value) : Value := match ns with | [] => nx | n :: _ => n.ky
def lastR (ns : List Nd) (pv : Value) : Value := match ns.getLast? with | none => pv | some n => .ref n.a
def firstR (ns : List Nd) (pv : Value) : Value := match ns with | [] => pv | n :: _ => .ref n.a
def seg (pv : Value) : List Nd → Value → List (Addr × HP)
  | [], _ => []
  | n :: r, nx => (n.d, nodeP pv (headK r nx) n.ky n.vl n.cl) :: seg (.ref n.a) r nx
theorem headK_append (xs ys : List Nd) (nx : Value) : headK (xs ++ ys) nx = headK xs (headK ys nx) := by cases xs <;> rfl
theorem lastR_cons (n : Nd) (r : List Nd) (pv : Value) : lastR (n :: r) pv = lastR r (.ref n.a) := by
  cases r with
  | nil => rfl
  | cons m r => unfold lastR; rw [List.getLast?_cons_cons]; cases h : (m :: r).getLast? with
    | none => simp at h
    | some x => rfl
theorem lastR_append (xs ys : List Nd) (pv : Value) : lastR (xs ++ ys) pv = lastR ys (lastR xs pv) := by
  induction xs generalizing pv with
  | nil => rfl
  | cons n r ih => rw [List.cons_append, lastR_cons, lastR_cons, ih]
theorem seg_append (xs ys : List Nd) (pv nx : Value) : seg pv (xs ++ ys) nx = seg pv xs (headK ys nx) ++ seg (lastR xs pv) ys nx := by
  induction xs generalizing pv with
  | nil => rfl
  | cons n r ih => rw [List.cons_append]; simp only [seg, List.cons_append]; rw [ih, headK_append, lastR_cons]
theorem lastR_snoc (xs : List Nd) (z : Nd) (pv : Value) : lastR (xs ++ [z]) pv = .ref z.a := by rw [lastR_append]; rfl

/-- the list of what was told -/
structure Tl where
  a : Addr
  k : Int
  t : Tok
  v : Value
def tupL (ts : List Tl) : List (Addr × HP) := ts.map fun e => (e.a, tuP [.int e.k e.t, e.v])
def refs (ts : List Tl) : List Value := ts.map fun e => .ref e.a
def pairs (ts : List Tl) : List (Int × Value) := ts.map fun e => (e.k, e.v)
theorem tupL_append (a b : List Tl) : tupL (a ++ b) = tupL a ++ tupL b := List.map_append ..
theorem refs_append (a b : List Tl) : refs (a ++ b) = refs a ++ refs b := List.map_append ..
theorem pairs_append (a b : List Tl) : pairs (a ++ b) = pairs a ++ pairs b := List.map_append ..

/-- what leaves a row tells -/
def tells (ns : List Nd) : List (Int × Value) := (ns.filter fun n => n.cl != .none).map fun n => (n.k, n.vl)
theorem tells_append (a b : List Nd) : tells (a ++ b) = tells a ++ tells b := by simp [tells]

/-- what is known of the nodes in the base -/
structure NdOK (G : Gh) (T : Addr) (n : Nd) : Prop where
  inst : G.g.get? n.a = some (instObj 46 n.d)
  hv : handedIn n.vl = true
  cl : n.cl = .none ∨ ∃ f, n.cl = .ref f ∧ TellFn G f T
def keysOf (ns : List Nd) : List (Int × Value) := ns.map fun n => (n.k, .ref n.a)
structure RowOK (G : Gh) (T : Addr) (ns : List Nd) (kvs : List (Int × Value)) : Prop where
  nodes : ∀ n ∈ ns, NdOK G T n
  addrs : (ns.map Nd.a).Nodup
  keys : (ns.map Nd.k).Nodup
  perm : kvs.Perm (keysOf ns)
theorem NdOK.mono {G G' : Gh} {T : Addr} {n : Nd} (x : NdOK G T n) (h : ∀ b o, G.g.get? b = some o → G'.g.get? b = some o) : NdOK G' T n :=
  ⟨h _ _ x.inst, x.hv, x.cl.imp id fun ⟨f, e, t⟩ => ⟨f, e, t.mono h⟩⟩
theorem RowOK.mono {G G' : Gh} {T : Addr} {ns kvs} (x : RowOK G T ns kvs) (h : ∀ b o, G.g.get? b = some o → G'.g.get? b = some o) : RowOK G' T ns kvs :=
  ⟨fun n hn => (x.nodes n hn).mono h, x.addrs, x.keys, x.perm⟩
theorem keysOf_fst (ns : List Nd) : (keysOf ns).map Prod.fst = ns.map Nd.k := by simp [keysOf, Function.comp_def]
theorem RowOK.kvsN {G T ns kvs} (x : RowOK G T ns kvs) : (kvs.map Prod.fst).Nodup := (x.perm.map Prod.fst).nodup_iff.mpr (by rw [keysOf_fst]; exact x.keys)
theorem RowOK.len {G T ns kvs} (x : RowOK G T ns kvs) : kvs.length = ns.length := by rw [x.perm.length_eq]; simp [keysOf]
theorem valueAt_mem {kvs : List (Int × Value)} (hn : (kvs.map Prod.fst).Nodup) {k : Int} {v : Value} (hm : (k, v) ∈ kvs) : valueAt kvs k = some v := by
  obtain ⟨i, hi, e⟩ := List.mem_iff_getElem.mp hm
  exact valueAt_of_get hn (i := i) (by rw [← e]; exact List.getElem?_eq_getElem hi)
theorem RowOK.at {G T ns kvs} (x : RowOK G T ns kvs) {n : Nd} (hm : n ∈ ns) : valueAt kvs n.k = some (.ref n.a) :=
  valueAt_mem x.kvsN (x.perm.mem_iff.mpr (List.mem_map_of_mem hm))
theorem RowOK.no {G T ns kvs} (x : RowOK G T ns kvs) {k : Int} (hm : k ∉ ns.map Nd.k) : valueAt kvs k = none :=
  valueAt_none_of_not_mem (by rw [(x.perm.map Prod.fst).mem_iff, keysOf_fst]; exact hm)
theorem RowOK.cut {G T kvs} {init : List Nd} {z : Nd} (x : RowOK G T (init ++ [z]) kvs) : RowOK G T init (without kvs z.k) := by
  have hk := x.keys
  rw [List.map_append, List.nodup_append] at hk
  refine ⟨fun n hn => x.nodes n (List.mem_append_left _ hn), ?_, hk.1, ?_⟩
  · have := x.addrs; rw [List.map_append, List.nodup_append] at this; exact this.1
  · have h2 : (without kvs z.k).Perm (without (keysOf (init ++ [z])) z.k) := x.perm.filter _
    refine h2.trans (List.Perm.of_eq ?_)
    unfold without keysOf
    rw [List.map_append, List.filter_append]
    simp only [List.map_cons, List.map_nil]
    rw [List.filter_eq_self.mpr, List.filter_eq_nil_iff.mpr, List.append_nil]
    · intro p hp; rw [List.mem_singleton.mp hp]; simp
    · intro p hp
      obtain ⟨n, hn, rfl⟩ := List.mem_map.mp hp
      simp only [ne_eq, decide_eq_true_eq]
      intro e
      exact hk.2.2 _ (List.mem_map_of_mem hn) _ (by simp) e

/-- the cache in the ledger -/
def cacheE (prog : Program) (w : World) (cd D : Addr) (M F : Value) (ns : List Nd) (kvs : List (Int × Value)) : List (Addr × HP) :=
  (cd, cacheP (.ref D) (firstR ns .none) (lastR ns .none) M F) :: (D, idP prog w kvs) :: seg .none ns .none
end Mine
namespace Mine
open PySem PySem.W PySem.Calls PyProof.Rows
section
variable {prog : Program} {w : World} {A : Around} {E : Value → Shared → Prop} {s : Shared} {G : Gh} {l l' : List (Addr × HP)} {K : Frag} {env : Env} {a b : Int} {t u : Tok} {Q : Value → Shared → Prop}
theorem i_gt (h : Q (.bool (decide (b < a))) s) : wpAny (model prog w) A (compareOp .Gt (.int a t) (.int b u)) Q E s := gt_int h
theorem i_lt (h : Q (.bool (decide (a < b))) s) : wpAny (model prog w) A (compareOp .Lt (.int a t) (.int b u)) Q E s := lt_int h
theorem i_eq (h : Q (.bool (a == b)) s) : wpAny (model prog w) A (compareOp .Eq (.int a t) (.int b u)) Q E s := PyProof.Rows.eq_int h
theorem i_ne (h : Q (.bool (a != b)) s) : wpAny (model prog w) A (compareOp .NotEq (.int a t) (.int b u)) Q E s := PyProof.Rows.ne_int h
theorem i_add (H : Led G s l) (h : ∀ t' s', Led G s' l → Q (.int (a + b) t') s') : wpAny (model prog w) A (binaryOp .Add (.int a t) (.int b u)) Q E s := PyProof.Rows.add_int (h _ _ (H.toks _))
theorem i_mod (H : Led G s l) (hb : b ≠ 0) (h : ∀ t' s', Led G s' l → Q (.int (a.fmod b) t') s') : wpAny (model prog w) A (binaryOp .Mod (.int a t) (.int b u)) Q E s := PyProof.Rows.mod_int hb (h _ _ (H.toks _))
theorem i_const {i : Int} {k : Nat} {pos : Pos} (H : Led G s l) (h : ∀ t' s', Led G s' l → Q (.int i t') s') : wpAny (model prog w) A (eval (.Constant (.int i) k pos) env) Q E s := wpAny_Constant_int (h _ _ (H.toks _))
theorem s_const {i : Str} {k : Nat} {pos : Pos} (H : Led G s l) (h : ∀ t' s', Led G s' l → Q (.str i t') s') : wpAny (model prog w) A (eval (.Constant (.str i) k pos) env) Q E s := wpAny_Constant_str (h _ _ (H.toks _))
theorem b_const {i : Bool} {k : Nat} {pos : Pos} (h : Q (.bool i) s) : wpAny (model prog w) A (eval (.Constant (.bool i) k pos) env) Q E s := wpAny_Constant_bool h
end
end Mine
namespace Mine
open PySem PySem.W PySem.Calls PyProof.Rows
section
variable {prog : Program} {w : World} {A : Around} {E : Value → Shared → Prop} {s : Shared} {G : Gh} {l l' : List (Addr × HP)} {K : Frag} {env : Env}
theorem Led.grow (C : Cx K G) (H : Led G s l) {h' : Heap} {tk : Nat} (hk : ∀ b o, s.heap.get? b = some o → h'.get? b = some o) : Led G { s with heap := h', toks := tk } l :=
  ⟨fun b o e => hk _ _ (H.keep b o e), H.nd, fun p hp => let ⟨f, o, e, q⟩ := H.at_ p hp; ⟨f, o, hk _ _ e, q⟩, H.gens, H.drawn, H.os, H.hi, by
    obtain ⟨_, _, mg, _, T⟩ := C.T
    obtain ⟨o, _, _, e, _⟩ := T.g
    exact Heap.lt_size (hk _ _ (H.keep _ _ e))⟩
theorem Led.lt (H : Led G s l) {a : Addr} {P : HP} (hm : (a, P) ∈ l) : a < s.heap.objs.size := let ⟨_, e, _⟩ := H.get hm; Heap.lt_size e
theorem i_mul {a b : Int} {t u : Tok} {Q : Value → Shared → Prop} (H : Led G s l) (hb : b.natAbs < 1000) (h : ∀ t' s', Led G s' l → Q (.int (a * b) t') s') : wpAny (model prog w) A (binaryOp .Mult (.int a t) (.int b u)) Q E s :=
  PyProof.Rows.mul_int (h _ _ (H.toks _)) (by
    refine IntMulOk.of_right ?_
    exact intBits_le_64 (by omega) (by omega))
theorem i_fdiv {a b : Int} {t u : Tok} {Q : Value → Shared → Prop} (H : Led G s l) (hb : b ≠ 0) (hb' : b.natAbs < 1000) (h : ∀ t' s', Led G s' l → Q (.int (a.fdiv b) t') s') : wpAny (model prog w) A (binaryOp .FloorDiv (.int a t) (.int b u)) Q E s :=
  PyProof.Rows.floordiv_int hb (h _ _ (H.toks _)) (.inl (PyProof.noPylong_small (by omega)))
theorem i_min {a b : Int} {t u : Tok} {Q : Value → Shared → Prop} (C : Cx K G) (H : Led G s l) (hh : A.handled = none) (h : ∀ t' s', Led G s' l → Q (.int (min a b) t') s') : wpAny (model prog w) A (call (.builtin "min") [.int a t, .int b u]) Q E s :=
  min_two_ints hh fun h' tk hk => by
    by_cases c : b < a
    · have := h u _ (H.grow C (h' := h') (tk := tk) hk)
      rw [show min a b = b from by omega] at this
      simpa only [if_pos c] using this
    · have := h t _ (H.grow C (h' := h') (tk := tk) hk)
      rw [show min a b = a from by omega] at this
      simpa only [if_neg c] using this

/-- a field not there yet -/
theorem set_new {x dx Cc : Addr} {n : Nat} {vars : List (Str × Value)} {name : Str} {v : Value} {Q : Unit → Shared → Prop} (C : Cx K G) (H : Led G s l) (h1 : Io G l x Cc dx) (h2 : Rep dx (adP n (lk vars)) (adP (n + 1) (lk ((name, v) :: vars))) l l') (hb : n ≤ 100)
    (ok : clsOK K Cc = true) (k6 : findIn K (.ref Cc) name = some none) (h : ∀ s', Led G s' l' → Q () s') : wpAny (model prog w) A (setAttr (.ref x) name v) Q E s :=
  r_setattr C H h1 h2 (lk_set _ _ _) (.inr rfl) hb ok k6 h
theorem Rm.make {n : Nat} {Cc : Addr} {vals : List Value} {kw : List (Str × Value)} (h : Rm A (n + 1)) : Rm (A.under (.builtin "type.__call__" ⟨.ref Cc :: vals, kw⟩)) n :=
  ⟨h.1, by have := h.2.1; show A.depth + 1 + n < 1000; omega, by have := h.2.2; show A.units + 1 + 20 * n < 9900; omega⟩
/-- an instance made -/
theorem mk_inst {Cc fI : Addr} {rest : List Value} {kw : List (Str × Value)} {R : Result → Shared → Prop} (C : Cx K G) (H : Led G s l) (hm : makesIn K Cc = true) (hi : findIn K (.ref Cc) "__init__" = some (some (.ref fI))) (hf : typeIn K (.ref fI) = some (.type "function"))
    (h : ∀ x dx s', Led G s' ((x, inP Cc dx) :: (dx, adP 0 (lk [])) :: l) → codeAny (model prog w) (A.under (.builtin "type.__call__" ⟨.ref Cc :: rest, kw⟩)) (.call (.ref fI) ⟨.ref x :: rest, kw⟩) (InitBack x R) s') :
    codeAny (model prog w) A (.call (.ref Cc) ⟨rest, kw⟩) R s := by
  have X := C.K H
  have H1 : Led G { s with heap := s.heap.push emptyDict, toks := s.toks } ((s.heap.objs.size, adP 0 (lk [])) :: l) := H.alloc rfl ⟨#[], 0, rfl, (fun e he => by simp at he), (fun x => by simp [nsFind, findBy, lk]), by simp⟩
  have H2 := H1.alloc (o := instObj Cc s.heap.objs.size) (P := inP Cc s.heap.objs.size) (tk := s.toks) rfl rfl
  have hsz : (s.heap.push emptyDict).objs.size = s.heap.objs.size + 1 := Heap.size_push ..
  obtain ⟨hh, g, d, t, os⟩ := s
  refine make_core (makes_of X hm) (looks_findIn X hi) (fun self => bind_fn X self hf) (.inl rfl) ?_
  dsimp only at hsz H2
  rw [hsz] at H2
  exact h _ _ _ H2
/-- the fields of a new node, of a new cache -/
theorem adP_rev {n : Nat} {vars : List (Str × Value)} (hn : decide ((vars.map Prod.fst).Nodup) = true) (o : Obj) (h : adP n (lk vars.reverse) o) : adP n (lk vars) o :=
  let ⟨es, ep, h1, h2, h3, h4⟩ := h
  ⟨es, ep, h1, h2, fun x => (h3 x).trans (congrFun (lk_rev (of_decide_eq_true hn)) x), h4⟩
theorem Led.repl {P P' : HP} {a : Addr} (H : Led G s l) (r : Rep a P P' l l') (hp : ∀ o, P o → P' o) : Led G s l' := by
  obtain ⟨o, e, q⟩ := H.get r.mem
  exact H.upd (h' := s.heap) (tk := s.toks) r ⟨rfl, fun _ _ => rfl⟩ ⟨o, e, hp _ q⟩
end
end Mine
namespace Mine
open PySem PySem.W PySem.Calls PyProof.Rows
section
variable {prog : Program} {w : World} {A : Around} {E : Value → Shared → Prop} {s : Shared} {G : Gh} {l l' : List (Addr × HP)} {K : Frag} {env : Env}
theorem d_get {d : Addr} {kvs : List (Int × Value)} {k : Int} {t : Tok} {r : Value} {Q : Value → Shared → Prop} (lo : (d == sysModules) = false) (H : Led G s l) (hm : Po G l d (idP prog w kvs)) (hv : (valueAt kvs k).getD .none = r) (h : ∀ s', Led G s' l → Q r s') :
    wpAny (model prog w) A (call (.builtin "dict.get") [.ref d, .int k t, .none]) Q E s :=
  have hD := H.dict hm
  call_meetsIn PySem.F.slot_dict_get hD.typeIs PySem.F.entry_dict_get (PySem.F.args_dict_get_3 _ _ _) (meets_dict_get_default (knd := PySem.intKind prog w) d (intKind_is _ _ _ _) lo .none) ⟨_, hD.mapOf, by rw [hv]; exact h _ (H.toks _)⟩
theorem new_dict {pos : Pos} {Q : Value → Shared → Prop} (H : Led G s l) (h : ∀ D s', (D == sysModules) = false → Led G s' ((D, idP prog w []) :: l) → Q (.ref D) s') : wpAny (model prog w) A (eval (.Dict [] [] pos) env) Q E s := by
  refine wpAny_Dict_empty ?_
  have hb := H.big
  refine h _ _ (beq_eq_false_iff_ne.mpr (Nat.ne_of_gt (Nat.lt_trans (by decide : 1 < 3) hb))) (H.alloc (tk := s.toks) rfl ?_)
  obtain ⟨o, ho, hd⟩ := Heap.dictOf_iff.mp (Heap.DictOf.new (knd := PySem.intKind prog w) s.heap)
  rw [Heap.get?_push_size _ rfl] at ho
  exact (Option.some.inj ho) ▸ hd
theorem Rm.handled {n : Nat} (h : Rm A n) : A.handled = none := h.1
/-- the size kept behind a cleanup -/
def sizeF (m : Int) : Option Int → Int
  | none => (m * 8).fdiv 10
  | some a => min a m
def leV : Option Int → Tok → Value
  | none, _ => .none
  | some a, t => .int a t
theorem sizeF_pos {m : Int} {la : Option Int} (hm : 0 ≤ m) (ha : ∀ a, la = some a → 0 ≤ a) : 0 ≤ sizeF m la := by
  cases la with
  | none => exact Int.fdiv_nonneg (by omega) (by omega)
  | some a => have := ha a rfl; show 0 ≤ min a m; omega
end
end Mine
namespace Mine
open PySem PySem.W PySem.Calls PyProof.Rows
local macro_rules | `(tactic| tm_at "mm") => `(tactic| ((with_reducible show _ ∈ _ :: _); with_reducible first | exact List.mem_cons_self | exact List.mem_cons_of_mem _ (by tm_at "mm")))
local macro_rules | `(tactic| tm_at "rr") => `(tactic| ((with_reducible show Rep _ _ _ (_ :: _) _); with_reducible first | exact Rep.head | exact Rep.tail (by tm_at "rr")))
local macro_rules | `(tactic| tm_at "two") => `(tactic| first | exact Two.hd (by tm_at "mm") | exact Two.hd' (by tm_at "mm") | exact Two.tl (by tm_at "two"))
local macro_rules | `(tactic| tm_at "lk") => `(tactic| first | (with_reducible exact lk_hit) | exact lk_miss (by decide +kernel) (by tm_at "lk"))
local macro_rules | `(tactic| tm_at "ex") => `(tactic| ((with_reducible show Ext _ (_ :: _) _); with_reducible first | exact Ext.hd | exact Ext.tl (by tm_at "ex")))
local macro_rules | `(tactic| tm_at "pk") => `(tactic| first | (with_reducible exact pickN) | ((with_reducible show List.Perm (_ :: _) (_ :: _)); exact pick (by tm_at "ex") (by tm_at "pk")))
local macro_rules | `(tactic| tm_at "io") => `(tactic| first
  | ((with_reducible show Io _ _ _ _ _); with_reducible first | exact Io.base (by assumption) | exact Io.led (by tm_at "mm"))
  | ((with_reducible show Po _ _ _ _); with_reducible first | exact Po.base (by assumption) | exact Po.led (by tm_at "mm")))
local macro_rules | `(tactic| tm_at "hd") => `(tactic| with_reducible first | assumption | exact hd_ref | exact hd_none | exact hd_int | exact hd_bool | exact hd_str)
local macro_rules | `(tactic| tm_at "asm") => `(tactic| with_reducible assumption)
local macro_rules | `(tactic| tm_at "name") => `(tactic| first
  | refine f_local (by with_reducible assumption) (by tm_at "mm") (by tm_at "lk") ?_ (by rfl) (by kernel_rfl!) (by decide +kernel)
  | refine f_global (by with_reducible assumption) (by with_reducible assumption) (by k_is) ?_ (by rfl) (by kernel_rfl!) (by decide +kernel)
  | refine f_builtin (by with_reducible assumption) (by with_reducible assumption) (by k_is) (by boot_fast) ?_ (by rfl) (by kernel_rfl!) (by decide +kernel) (by decide +kernel))
local macro_rules | `(tactic| tm_at "getAttr") => `(tactic| first
  | ((with_reducible show wpAny _ _ (getAttr (Value.ref _) (Str.ofString "_cache") _) _ _ _); with_reducible refine c_get__cache (by assumption) (by assumption) (by tm_at "io") (by tm_at "io") (by tm_at "hd") ?_; intro _ _)
  | ((with_reducible show wpAny _ _ (getAttr (Value.ref _) (Str.ofString "_most_recently_used") _) _ _ _); with_reducible refine c_get__most_recently_used (by assumption) (by assumption) (by tm_at "io") (by tm_at "io") (by tm_at "hd") ?_; intro _ _)
  | ((with_reducible show wpAny _ _ (getAttr (Value.ref _) (Str.ofString "_least_recently_used") _) _ _ _); with_reducible refine c_get__least_recently_used (by assumption) (by assumption) (by tm_at "io") (by tm_at "io") (by tm_at "hd") ?_; intro _ _)
  | ((with_reducible show wpAny _ _ (getAttr (Value.ref _) (Str.ofString "_max_cache") _) _ _ _); with_reducible refine c_get__max_cache (by assumption) (by assumption) (by tm_at "io") (by tm_at "io") (by tm_at "hd") ?_; intro _ _)
  | ((with_reducible show wpAny _ _ (getAttr (Value.ref _) (Str.ofString "_after_cleanup_count") _) _ _ _); with_reducible refine c_get__after_cleanup_count (by assumption) (by assumption) (by tm_at "io") (by tm_at "io") (by tm_at "hd") ?_; intro _ _)
  | ((with_reducible show wpAny _ _ (getAttr (Value.ref _) (Str.ofString "prev") _) _ _ _); with_reducible refine n_get_prev (by assumption) (by assumption) (by tm_at "io") (by tm_at "io") (by tm_at "hd") ?_; intro _ _)
  | ((with_reducible show wpAny _ _ (getAttr (Value.ref _) (Str.ofString "next_key") _) _ _ _); with_reducible refine n_get_next_key (by assumption) (by assumption) (by tm_at "io") (by tm_at "io") (by tm_at "hd") ?_; intro _ _)
  | ((with_reducible show wpAny _ _ (getAttr (Value.ref _) (Str.ofString "key") _) _ _ _); with_reducible refine n_get_key (by assumption) (by assumption) (by tm_at "io") (by tm_at "io") (by tm_at "hd") ?_; intro _ _)
  | ((with_reducible show wpAny _ _ (getAttr (Value.ref _) (Str.ofString "value") _) _ _ _); with_reducible refine n_get_value (by assumption) (by assumption) (by tm_at "io") (by tm_at "io") (by tm_at "hd") ?_; intro _ _)
  | ((with_reducible show wpAny _ _ (getAttr (Value.ref _) (Str.ofString "cleanup") _) _ _ _); with_reducible refine n_get_cleanup (by assumption) (by assumption) (by tm_at "io") (by tm_at "io") (by tm_at "hd") ?_; intro _ _))
local macro_rules | `(tactic| tm_at "getAttr1") => `(tactic| (refine r_getattr (by with_reducible assumption) (by with_reducible assumption) (by tm_at "io") (by tm_at "io") (by tm_at "lk") (by tm_at "hd") cls_182 (by kernel_rfl) ?_; intro _ _))
local macro_rules | `(tactic| tm_at "setAttr") => `(tactic| first
  | ((with_reducible show wpAny _ _ (setAttr (Value.ref _) (Str.ofString "_most_recently_used") _) _ _ _); with_reducible refine c_set__most_recently_used (by assumption) (by assumption) (by tm_at "io") (by tm_at "rr") ?_; intro _ _)
  | ((with_reducible show wpAny _ _ (setAttr (Value.ref _) (Str.ofString "_least_recently_used") _) _ _ _); with_reducible refine c_set__least_recently_used (by assumption) (by assumption) (by tm_at "io") (by tm_at "rr") ?_; intro _ _)
  | ((with_reducible show wpAny _ _ (setAttr (Value.ref _) (Str.ofString "_max_cache") _) _ _ _); with_reducible refine c_set__max_cache (by assumption) (by assumption) (by tm_at "io") (by tm_at "rr") ?_; intro _ _)
  | ((with_reducible show wpAny _ _ (setAttr (Value.ref _) (Str.ofString "_after_cleanup_count") _) _ _ _); with_reducible refine c_set__after_cleanup_count (by assumption) (by assumption) (by tm_at "io") (by tm_at "rr") ?_; intro _ _)
  | ((with_reducible show wpAny _ _ (setAttr (Value.ref _) (Str.ofString "prev") _) _ _ _); with_reducible refine n_set_prev (by assumption) (by assumption) (by tm_at "io") (by tm_at "rr") ?_; intro _ _)
  | ((with_reducible show wpAny _ _ (setAttr (Value.ref _) (Str.ofString "next_key") _) _ _ _); with_reducible refine n_set_next_key (by assumption) (by assumption) (by tm_at "io") (by tm_at "rr") ?_; intro _ _)
  | ((with_reducible show wpAny _ _ (setAttr (Value.ref _) (Str.ofString "value") _) _ _ _); with_reducible refine n_set_value (by assumption) (by assumption) (by tm_at "io") (by tm_at "rr") ?_; intro _ _)
  | ((with_reducible show wpAny _ _ (setAttr (Value.ref _) (Str.ofString "cleanup") _) _ _ _); with_reducible refine n_set_cleanup (by assumption) (by assumption) (by tm_at "io") (by tm_at "rr") ?_; intro _ _)
  | (refine set_new (by with_reducible assumption) (by with_reducible assumption) (by tm_at "io") (by tm_at "rr") (by decide) cls_46 (by kernel_rfl) ?_; intro _ _)
  | (refine set_new (by with_reducible assumption) (by with_reducible assumption) (by tm_at "io") (by tm_at "rr") (by decide) cls_182 (by kernel_rfl) ?_; intro _ _))
local macro_rules | `(tactic| tm_at "is") => `(tactic| first
  | with_reducible refine is_refNone ?_ | with_reducible refine is_noneNone ?_ | with_reducible refine is_intNone ?_
  | with_reducible refine isn_refNone ?_ | with_reducible refine isn_noneNone ?_ | with_reducible refine isn_intNone ?_
  | with_reducible refine is_self ?_ | ((with_reducible show wpAny _ _ (compareOp CmpOp.Is (Value.ref _) (Value.ref _)) _ _ _); with_reducible refine is_other (by assumption) (by tm_at "io") (by tm_at "io") (by assumption) ?_))
local macro_rules | `(tactic| tm_at "method") => `(tactic| first
  | ((with_reducible show wpAny _ _ (getMethod (Value.ref _) (Str.ofString "_record_access") _) _ _ _); with_reducible refine c_meth__record_access (by assumption) (by assumption) (by tm_at "io") (by tm_at "io") ?_)
  | ((with_reducible show wpAny _ _ (getMethod (Value.ref _) (Str.ofString "cleanup") _) _ _ _); with_reducible refine c_meth_cleanup (by assumption) (by assumption) (by tm_at "io") (by tm_at "io") ?_)
  | ((with_reducible show wpAny _ _ (getMethod (Value.ref _) (Str.ofString "_remove_lru") _) _ _ _); with_reducible refine c_meth__remove_lru (by assumption) (by assumption) (by tm_at "io") (by tm_at "io") ?_)
  | ((with_reducible show wpAny _ _ (getMethod (Value.ref _) (Str.ofString "_remove_node") _) _ _ _); with_reducible refine c_meth__remove_node (by assumption) (by assumption) (by tm_at "io") (by tm_at "io") ?_)
  | ((with_reducible show wpAny _ _ (getMethod (Value.ref _) (Str.ofString "_update_max_cache") _) _ _ _); with_reducible refine c_meth__update_max_cache (by assumption) (by assumption) (by tm_at "io") (by tm_at "io") ?_)
  | ((with_reducible show wpAny _ _ (getMethod (Value.ref _) (Str.ofString "add") _) _ _ _); with_reducible refine c_meth_add (by assumption) (by assumption) (by tm_at "io") (by tm_at "io") ?_)
  | ((with_reducible show wpAny _ _ (getMethod (Value.ref _) (Str.ofString "get") _) _ _ _); with_reducible refine c_meth_get (by assumption) (by assumption) (by tm_at "io") (by tm_at "io") ?_)
  | ((with_reducible show wpAny _ _ (getMethod (Value.ref _) (Str.ofString "keys") _) _ _ _); with_reducible refine c_meth_keys (by assumption) (by assumption) (by tm_at "io") (by tm_at "io") ?_)
  | ((with_reducible show wpAny _ _ (getMethod (Value.ref _) (Str.ofString "items") _) _ _ _); with_reducible refine c_meth_items (by assumption) (by assumption) (by tm_at "io") (by tm_at "io") ?_)
  | ((with_reducible show wpAny _ _ (getMethod (Value.ref _) (Str.ofString "cache_size") _) _ _ _); with_reducible refine c_meth_cache_size (by assumption) (by assumption) (by tm_at "io") (by tm_at "io") ?_)
  | ((with_reducible show wpAny _ _ (getMethod (Value.ref _) (Str.ofString "clear") _) _ _ _); with_reducible refine c_meth_clear (by assumption) (by assumption) (by tm_at "io") (by tm_at "io") ?_)
  | ((with_reducible show wpAny _ _ (getMethod (Value.ref _) (Str.ofString "resize") _) _ _ _); with_reducible refine c_meth_resize (by assumption) (by assumption) (by tm_at "io") (by tm_at "io") ?_)
  | ((with_reducible show wpAny _ _ (getMethod (Value.ref _) (Str.ofString "run_cleanup") _) _ _ _); with_reducible refine n_meth_run_cleanup (by assumption) (by assumption) (by tm_at "io") (by tm_at "io") ?_)
  | ((with_reducible show wpAny _ _ (getMethod (Value.ref _) (Str.ofString "cleanup") _) _ _ _); with_reducible refine n_methv_cleanup (by assumption) (by assumption) (by tm_at "io") (by tm_at "io") (by tm_at "hd") ?_; intro _ _)
  | ((with_reducible show wpAny _ _ (getMethod (Value.ref _) (Str.ofString "pop") _) _ _ _); with_reducible refine d_meth PySem.F.slot_dict_pop PySem.F.type_dict_pop (by assumption) (by tm_at "io") ?_)
  | ((with_reducible show wpAny _ _ (getMethod (Value.ref _) (Str.ofString "get") _) _ _ _); with_reducible refine d_meth PySem.F.slot_dict_get PySem.F.type_dict_get (by assumption) (by tm_at "io") ?_))
local macro_rules | `(tactic| tm_at "user") => `(tactic| fail)
local macro_rules | `(tactic| tm_at "go2") => `(tactic| fail)
local macro_rules | `(tactic| tm_at "item") => `(tactic| fail)
local macro_rules | `(tactic| tm_at "go1") => `(tactic| fail)
local macro_rules | `(tactic| tm_at "go") => `(tactic| first
  | tm_at "go1"
  | with_reducible refine m_cons ?_
  | with_reducible refine m_nil ?_
  | with_reducible refine sq_next ?_
  | with_reducible refine sq_ret ?_
  | with_reducible refine m_if ?_
  | with_reducible refine IfS.t (by with_reducible rfl) ?_
  | with_reducible refine IfS.f (by with_reducible rfl) ?_
  | with_reducible refine wpAny_Return_some ?_
  | with_reducible refine wpAny_Return_none ?_
  | (with_reducible refine r_setA ?_ ?_; kernel_rfl)
  | (with_reducible refine r_setN ?_ ?_; kernel_rfl)
  | (with_reducible refine m_setS ?_ ?_; kernel_rfl)
  | (with_reducible refine m_expr ?_ ?_ ?_; kernel_rfl; kernel_rfl)
  | with_reducible refine m_assert ?_
  | with_reducible refine m_ifexp ?_
  | ((with_reducible show wpAny _ _ (eval (Expr.Name _ _) _) _ _ _); tm_at "name")
  | with_reducible refine r_attrN ?_
  | with_reducible refine r_attrA ?_
  | with_reducible refine wpAny_Constant_none ?_
  | (with_reducible refine t_cmp ?_ ?_; kernel_rfl)
  | (with_reducible refine e_cmp ?_ ?_; kernel_rfl)
  | with_reducible refine b_const ?_
  | ((with_reducible show wpAny _ _ (eval (Expr.Constant (Const.int _) _ _) _) _ _ _); refine i_const (by with_reducible assumption) ?_; intro _ _ _)
  | ((with_reducible show wpAny _ _ (eval (Expr.Constant (Const.str _) _ _) _) _ _ _); refine s_const (by with_reducible assumption) ?_; intro _ _ _)
  | with_reducible refine i_gt ?_ | with_reducible refine i_lt ?_ | with_reducible refine i_eq ?_ | with_reducible refine i_ne ?_
  | with_reducible refine wpAny_BinOp ?_
  | ((with_reducible show wpAny _ _ (eval (Expr.Dict [] [] _) _) _ _ _); refine new_dict (by with_reducible assumption) ?_; intro _ _ _ _)
  | ((with_reducible show wpAny _ _ (binaryOp Operator.Mult (Value.int _ _) (Value.int _ _)) _ _ _); refine i_mul (by with_reducible assumption) (by decide) ?_; intro _ _ _)
  | ((with_reducible show wpAny _ _ (binaryOp Operator.FloorDiv (Value.int _ _) (Value.int _ _)) _ _ _); refine i_fdiv (by with_reducible assumption) (by decide) (by decide) ?_; intro _ _ _)
  | ((with_reducible show wpAny _ _ (binaryOp Operator.Add (Value.int _ _) (Value.int _ _)) _ _ _); refine i_add (by with_reducible assumption) ?_; intro _ _ _)
  | with_reducible refine t_name ?_
  | with_reducible refine t_attr ?_
  | with_reducible refine t_bool ?_
  | with_reducible refine t_none ?_
  | ((with_reducible show wpAny _ _ (getAttr _ _ _) _ _ _); tm_at "getAttr")
  | ((with_reducible show wpAny _ _ (getAttr (Value.ref _) _ _) _ _ _); tm_at "getAttr1")
  | ((with_reducible show wpAny _ _ (setAttr _ _ _) _ _ _); tm_at "setAttr")
  | ((with_reducible show wpAny _ _ (compareOp CmpOp.In _ (Value.ref _)) _ _ _); refine d_in (by with_reducible assumption) (by with_reducible assumption) (by tm_at "io") (by with_reducible assumption) ?_; intro _ _)
  | ((with_reducible show wpAny _ _ (compareOp _ _ _) _ _ _); tm_at "is")
  | ((with_reducible show wpAny _ _ (storeName _ _ _) _ _ _); refine f_store (by with_reducible assumption) (by tm_at "rr") ?_ (by rfl) (by kernel_rfl!); intro _ _)
  | with_reducible refine e_call ?_
  | (with_reducible refine e_meth ?_ ?_; kernel_rfl)
  | ((with_reducible show wpAny _ _ (callWith _ _ _ _ _) _ _ _); first
    | refine cw_K (by with_reducible assumption) (by k_is) (by rfl) (by rfl) ?_
    | refine cw_K0 (by with_reducible assumption) (by with_reducible assumption) (by k_is) ?_
    | refine cw_KW (by with_reducible assumption) (by k_is) (by rfl) (by rfl) (by rfl) (by rfl) ?_
    | refine cw_fn (TellFn.fn (by with_reducible assumption)) (by rfl) (by rfl) ?_
    | refine cw_B (by rfl) (by rfl) ?_)
  | with_reducible refine a_nil ?_
  | (with_reducible refine a_cons ?_ ?_; kernel_rfl)
  | with_reducible refine k_nil ?_
  | with_reducible refine k_cons ?_
  | with_reducible refine led_and (by assumption) ?_
  | with_reducible refine r_sub ?_
  | tm_at "go2"
  | ((with_reducible show wpAny _ _ (getMethod _ _ _) _ _ _); tm_at "method")
  | ((with_reducible show wpAny _ _ (subscriptTail _ _ (Value.ref _) (Value.int _ _)) _ _ _); tm_at "item")
  | ((with_reducible show wpAny _ _ (subscriptTail _ _ (Value.ref _) (Value.int _ _)) _ _ _); refine d_item (by with_reducible assumption) (by tm_at "io") (by with_reducible assumption) (by kernel_rfl) ?_; intro _ _)
  | ((with_reducible show wpAny _ _ (call (Value.builtin "dict.pop") _ _) _ _ _); refine d_pop (by with_reducible assumption) (by tm_at "rr") (by with_reducible assumption) (by with_reducible assumption) ?_; intro _ _)
  | ((with_reducible show wpAny _ _ (call (Value.builtin "len") _ _) _ _ _); refine d_len (by with_reducible assumption) (by with_reducible assumption) (by tm_at "io") (by with_reducible assumption) ?_; intro _ _ _)
  | ((with_reducible show wpAny _ _ (call (Value.builtin "dict.get") _ _) _ _ _); refine d_get (by with_reducible assumption) (by with_reducible assumption) (by tm_at "io") (by with_reducible assumption) ?_; intro _ _)
  | ((with_reducible show wpAny _ _ (call (Value.builtin "min") _ _) _ _ _); refine i_min (by with_reducible assumption) (by with_reducible assumption) (Rm.handled (by with_reducible assumption)) ?_; intro _ _ _)
  | ((with_reducible show wpAny _ _ (setItem (Value.ref _) (Value.int _ _) _) _ _ _); refine d_set (by with_reducible assumption) (by tm_at "rr") (by with_reducible assumption) ?_; intro _ _)
  | ((with_reducible show wpAny _ _ (truthy (Value.ref _)) _ _ _); refine d_truthy (by with_reducible assumption) (by with_reducible assumption) (by tm_at "io") (by with_reducible assumption) ?_; intro _ _)
  | ((with_reducible show wpAny _ _ (truthy (Value.ref _)) _ _ _); refine n_truthy (by with_reducible assumption) (by with_reducible assumption) (by tm_at "io") (by tm_at "io") ?_)
  | with_reducible refine Ret.ret (by with_reducible assumption) ?_
  | with_reducible refine Ret.nxt (by with_reducible assumption) ?_
  | tm_at "user")
section
section
variable {prog : Program} {w : World} {A : Around} {R : Result → Shared → Prop} {s : Shared} {G : Gh} {l l' : List (Addr × HP)} {c cd n nd : Addr}
theorem fill : (PySem.Challenge.rw_kj0013_01, hd.heap_39) = (PySem.Challenge.rw_kj0013_01, hd.heap_39) := by k_fill; rfl
theorem c_cast {a v : Value} (C : Cx (hd.heap_39 w.params) G) (H : Led G s l) (hr : Rm A 5) (h : ∀ s', Led G s' l → R (.ok (.ret v)) s') : codeAny (model prog w) A (.call (.ref 21) ⟨[a, v], []⟩) R s := by
  refine enter (K := hd.heap_39 w.params) (binds := [(Str.ofString "kind", a), (Str.ofString "value", v)]) C H hr (by k_is) (by kernel_rfl) (BindsTo.of_eq (by kernel_rfl)) rfl rfl rfl (by kernel_rfl) (by kernel_rfl) (by kernel_rfl) ?_
  intro L s₁ hr H
  repeat tm_at "go"
  exact h _ (Led.tl (by assumption))
local macro_rules | `(tactic| tm_at "user") => `(tactic| (refine wpAny_call (c_cast (by assumption) (by assumption) (Rm.le (by assumption) (by decide)) ?_); intro _ _))

section
variable {D M F lru : Value} {m md : Addr}
abbrev BIn (G : Gh) (x C dx : Addr) : Prop := G.g.get? x = some (instObj C dx)
theorem ra_empty  (C : Cx (hd.heap_39 w.params) G) (ic : BIn G c 182 cd) (hr : Rm A 15) (H : Led G s ((cd, cacheP D .none lru M F) :: l))
    (h : ∀ s', Led G s' ((cd, cacheP D (.ref n) (.ref n) M F) :: l) → R (.ok (.ret .none)) s') : codeAny (model prog w) A (.call (.ref 142) ⟨[.ref c, .ref n], []⟩) R s := by
  refine enterQ (K := hd.heap_39 w.params) (binds := [(Str.ofString "self", .ref c), (Str.ofString "node", .ref n)]) C H hr (by k_is) (by kernel_rfl) (BindsTo.of_eq (by kernel_rfl)) rfl rfl rfl (by kernel_rfl) (by kernel_rfl) (by kernel_rfl) ?_
  intro L s₁ A' Q E hQ hr H
  repeat tm_at "go"
  exact h _ (Led.tl (by assumption))
theorem ra_same  (C : Cx (hd.heap_39 w.params) G) (ic : BIn G c 182 cd) (hr : Rm A 15) (H : Led G s ((cd, cacheP D (.ref n) lru M F) :: l))
    (h : ∀ s', Led G s' ((cd, cacheP D (.ref n) lru M F) :: l) → R (.ok (.ret .none)) s') : codeAny (model prog w) A (.call (.ref 142) ⟨[.ref c, .ref n], []⟩) R s := by
  refine enterQ (K := hd.heap_39 w.params) (binds := [(Str.ofString "self", .ref c), (Str.ofString "node", .ref n)]) C H hr (by k_is) (by kernel_rfl) (BindsTo.of_eq (by kernel_rfl)) rfl rfl rfl (by kernel_rfl) (by kernel_rfl) (by kernel_rfl) ?_
  intro L s₁ A' Q E hQ hr H
  repeat tm_at "go"
  exact h _ (Led.tl (by assumption))
theorem ra_new {q qd : Addr} {pv nx vl cl vl' cl' : Value} {k k' : Int} {t t' : Tok} (C : Cx (hd.heap_39 w.params) G) (ic : BIn G c 182 cd) (im : BIn G m 46 md) (iq : BIn G q 46 qd) (in_ : BIn G n 46 nd) (nm : n ≠ m) (nq : n ≠ q) (hr : Rm A 15) (H : Led G s ((cd, cacheP D (.ref m) (.ref q) M F) :: (nd, nodeP .none .none (.int k t) vl cl) :: (md, nodeP pv nx (.int k' t') vl' cl') :: l))
    (h : ∀ s', Led G s' ((cd, cacheP D (.ref n) (.ref q) M F) :: (nd, nodeP .none (.int k' t') (.int k t) vl cl) :: (md, nodeP (.ref n) nx (.int k' t') vl' cl') :: l) → R (.ok (.ret .none)) s') : codeAny (model prog w) A (.call (.ref 142) ⟨[.ref c, .ref n], []⟩) R s := by
  refine enterQ (K := hd.heap_39 w.params) (binds := [(Str.ofString "self", .ref c), (Str.ofString "node", .ref n)]) C H hr (by k_is) (by kernel_rfl) (BindsTo.of_eq (by kernel_rfl)) rfl rfl rfl (by kernel_rfl) (by kernel_rfl) (by kernel_rfl) ?_
  intro L s₁ A' Q E hQ hr H
  repeat tm_at "go"
  exact h _ (Led.tl (by assumption))
theorem ra_mq {D : Addr} {r rd q qd : Addr} {pvm nxm vlm clm nxq vlq clq vl cl : Value} {kq k km : Int} {tq t tm : Tok} {kvs : List (Int × Value)} (C : Cx (hd.heap_39 w.params) G) (ic : BIn G c 182 cd) (im : BIn G m 46 md) (in_ : BIn G n 46 nd) (nm : n ≠ m) (iq : BIn G q 46 qd) (ir : BIn G r 46 rd) (nr : n ≠ r) (hq : valueAt kvs kq = some (.ref q)) (hr : Rm A 15) (H : Led G s ((cd, cacheP (.ref D) (.ref m) (.ref r) M F) :: (nd, nodeP (.ref m) (.int kq tq) (.int k t) vl cl) :: (md, nodeP pvm nxm (.int km tm) vlm clm) :: (qd, nodeP (.ref n) nxq (.int kq tq) vlq clq) :: (D, idP prog w kvs) :: l))
    (h : ∀ s', Led G s' ((cd, cacheP (.ref D) (.ref n) (.ref r) M F) :: (nd, nodeP .none (.int km tm) (.int k t) vl cl) :: (md, nodeP (.ref n) (.int kq tq) (.int km tm) vlm clm) :: (qd, nodeP (.ref m) nxq (.int kq tq) vlq clq) :: (D, idP prog w kvs) :: l) → R (.ok (.ret .none)) s') : codeAny (model prog w) A (.call (.ref 142) ⟨[.ref c, .ref n], []⟩) R s := by
  refine enterQ (K := hd.heap_39 w.params) (binds := [(Str.ofString "self", .ref c), (Str.ofString "node", .ref n)]) C H hr (by k_is) (by kernel_rfl) (BindsTo.of_eq (by kernel_rfl)) rfl rfl rfl (by kernel_rfl) (by kernel_rfl) (by kernel_rfl) ?_
  intro L s₁ A' Q E hQ hr H
  repeat tm_at "go"
  exact h _ (Led.tl (by assumption))
theorem ra_mz {D : Addr} {pvm nxm vlm clm vl cl : Value} {k km : Int} {t tm : Tok} (C : Cx (hd.heap_39 w.params) G) (ic : BIn G c 182 cd) (im : BIn G m 46 md) (in_ : BIn G n 46 nd) (nm : n ≠ m) (hr : Rm A 15) (H : Led G s ((cd, cacheP (.ref D) (.ref m) (.ref n) M F) :: (nd, nodeP (.ref m) .none (.int k t) vl cl) :: (md, nodeP pvm nxm (.int km tm) vlm clm) :: l))
    (h : ∀ s', Led G s' ((cd, cacheP (.ref D) (.ref n) (.ref m) M F) :: (nd, nodeP .none (.int km tm) (.int k t) vl cl) :: (md, nodeP (.ref n) .none (.int km tm) vlm clm) :: l) → R (.ok (.ret .none)) s') : codeAny (model prog w) A (.call (.ref 142) ⟨[.ref c, .ref n], []⟩) R s := by
  refine enterQ (K := hd.heap_39 w.params) (binds := [(Str.ofString "self", .ref c), (Str.ofString "node", .ref n)]) C H hr (by k_is) (by kernel_rfl) (BindsTo.of_eq (by kernel_rfl)) rfl rfl rfl (by kernel_rfl) (by kernel_rfl) (by kernel_rfl) ?_
  intro L s₁ A' Q E hQ hr H
  repeat tm_at "go"
  exact h _ (Led.tl (by assumption))
theorem ra_pq {D : Addr} {r rd p pd q qd : Addr} {pvm nxm vlm clm pvp nxp vlp clp nxq vlq clq vl cl : Value} {kq k km kp : Int} {tq t tm tp : Tok} {kvs : List (Int × Value)} (C : Cx (hd.heap_39 w.params) G) (ic : BIn G c 182 cd) (im : BIn G m 46 md) (in_ : BIn G n 46 nd) (nm : n ≠ m) (ip : BIn G p 46 pd) (iq : BIn G q 46 qd) (ir : BIn G r 46 rd) (nr : n ≠ r) (hq : valueAt kvs kq = some (.ref q)) (hr : Rm A 15) (H : Led G s ((cd, cacheP (.ref D) (.ref m) (.ref r) M F) :: (nd, nodeP (.ref p) (.int kq tq) (.int k t) vl cl) :: (md, nodeP pvm nxm (.int km tm) vlm clm) :: (pd, nodeP pvp nxp (.int kp tp) vlp clp) :: (qd, nodeP (.ref n) nxq (.int kq tq) vlq clq) :: (D, idP prog w kvs) :: l))
    (h : ∀ s', Led G s' ((cd, cacheP (.ref D) (.ref n) (.ref r) M F) :: (nd, nodeP .none (.int km tm) (.int k t) vl cl) :: (md, nodeP (.ref n) nxm (.int km tm) vlm clm) :: (pd, nodeP pvp (.int kq tq) (.int kp tp) vlp clp) :: (qd, nodeP (.ref p) nxq (.int kq tq) vlq clq) :: (D, idP prog w kvs) :: l) → R (.ok (.ret .none)) s') : codeAny (model prog w) A (.call (.ref 142) ⟨[.ref c, .ref n], []⟩) R s := by
  refine enterQ (K := hd.heap_39 w.params) (binds := [(Str.ofString "self", .ref c), (Str.ofString "node", .ref n)]) C H hr (by k_is) (by kernel_rfl) (BindsTo.of_eq (by kernel_rfl)) rfl rfl rfl (by kernel_rfl) (by kernel_rfl) (by kernel_rfl) ?_
  intro L s₁ A' Q E hQ hr H
  repeat tm_at "go"
  exact h _ (Led.tl (by assumption))
theorem ra_pz {D : Addr} {p pd : Addr} {pvm nxm vlm clm pvp nxp vlp clp vl cl : Value} {k km kp : Int} {t tm tp : Tok} (C : Cx (hd.heap_39 w.params) G) (ic : BIn G c 182 cd) (im : BIn G m 46 md) (in_ : BIn G n 46 nd) (nm : n ≠ m) (ip : BIn G p 46 pd) (hr : Rm A 15) (H : Led G s ((cd, cacheP (.ref D) (.ref m) (.ref n) M F) :: (nd, nodeP (.ref p) .none (.int k t) vl cl) :: (md, nodeP pvm nxm (.int km tm) vlm clm) :: (pd, nodeP pvp nxp (.int kp tp) vlp clp) :: l))
    (h : ∀ s', Led G s' ((cd, cacheP (.ref D) (.ref n) (.ref p) M F) :: (nd, nodeP .none (.int km tm) (.int k t) vl cl) :: (md, nodeP (.ref n) nxm (.int km tm) vlm clm) :: (pd, nodeP pvp .none (.int kp tp) vlp clp) :: l) → R (.ok (.ret .none)) s') : codeAny (model prog w) A (.call (.ref 142) ⟨[.ref c, .ref n], []⟩) R s := by
  refine enterQ (K := hd.heap_39 w.params) (binds := [(Str.ofString "self", .ref c), (Str.ofString "node", .ref n)]) C H hr (by k_is) (by kernel_rfl) (BindsTo.of_eq (by kernel_rfl)) rfl rfl rfl (by kernel_rfl) (by kernel_rfl) (by kernel_rfl) ?_
  intro L s₁ A' Q E hQ hr H
  repeat tm_at "go"
  exact h _ (Led.tl (by assumption))
end
end
end
section
theorem fill2 : (PySem.Challenge.rw_kj0013_01, hd.heap_39) = (PySem.Challenge.rw_kj0013_01, hd.heap_39) := by k_fill; rfl

section
variable {prog : Program} {w : World} {A : Around} {R : Result → Shared → Prop} {s : Shared} {G : Gh} {l l' : List (Addr × HP)} {c cd n nd p pd D T f : Addr} {M F mru : Value} {k kp : Int} {t tp : Tok} {vl : Value} {kvs : List (Int × Value)} {xs : List Value}
local macro_rules | `(tactic| tm_at "user") => `(tactic| (refine wpAny_call (c_tell (by with_reducible assumption) (by with_reducible assumption) (Rm.le (by with_reducible assumption) (by decide)) (by with_reducible assumption) (by with_reducible assumption) (fun _ => by tm_at "rr") ?_); intro _ _ _))

theorem rc_none {pv nx ky : Value} (C : Cx (hd.heap_39 w.params) G) (in_ : BIn G n 46 nd) (hr : Rm A 10) (H : Led G s ((nd, nodeP pv nx ky vl .none) :: l))
    (h : ∀ s', Led G s' ((nd, nodeP pv nx ky .none .none) :: l) → R (.ok (.ret .none)) s') : codeAny (model prog w) A (.call (.ref 43) ⟨[.ref n], []⟩) R s := by
  refine enterQ (K := hd.heap_39 w.params) (binds := [(Str.ofString "self", .ref n)]) C H hr (by k_is) (by kernel_rfl) (BindsTo.of_eq (by kernel_rfl)) rfl rfl rfl (by kernel_rfl) (by kernel_rfl) (by kernel_rfl) ?_
  intro L s₁ A' Q E hQ hr H
  repeat tm_at "go"
  exact h _ (Led.tl (by assumption))

theorem rc_tell {pv nx : Value} (C : Cx (hd.heap_39 w.params) G) (in_ : BIn G n 46 nd) (hv : handedIn vl = true) (hf : TellFn G f T) (hz : xs.length ≤ 900) (hr : Rm A 10) (H : Led G s ((nd, nodeP pv nx (.int k t) vl (.ref f)) :: (T, liP xs) :: l))
    (h : ∀ x s', Led G s' ((x, tuP [.int k t, vl]) :: (nd, nodeP pv nx (.int k t) .none .none) :: (T, liP (xs ++ [.ref x])) :: l) → R (.ok (.ret .none)) s') : codeAny (model prog w) A (.call (.ref 43) ⟨[.ref n], []⟩) R s := by
  refine enterQ (K := hd.heap_39 w.params) (binds := [(Str.ofString "self", .ref n)]) C H hr (by k_is) (by kernel_rfl) (BindsTo.of_eq (by kernel_rfl)) rfl rfl rfl (by kernel_rfl) (by kernel_rfl) (by kernel_rfl) ?_
  intro L s₁ A' Q E hQ hr H
  repeat tm_at "go"
  refine h _ _ (Led.perm (Led.sub (by assumption) (.cons₂ _ (.cons _ (.refl _)))) (.refl _))

local macro_rules | `(tactic| tm_at "user") => `(tactic| first
  | (refine wpAny_call (rc_none (by with_reducible assumption) (by with_reducible assumption) (Rm.le (by with_reducible assumption) (by decide)) (Led.perm (by with_reducible assumption) (by tm_at "pk")) ?_); intro _ _)
  | (refine wpAny_call (rc_tell (by with_reducible assumption) (by with_reducible assumption) (by with_reducible assumption) (by with_reducible assumption) (by with_reducible assumption) (Rm.le (by with_reducible assumption) (by decide)) (Led.perm (by with_reducible assumption) (by tm_at "pk")) ?_); intro _ _ _))

theorem rn_sn  (C : Cx (hd.heap_39 w.params) G) (ic : BIn G c 182 cd) (in_ : BIn G n 46 nd) (hk : valueAt kvs k = some (.ref n)) (hl : kvs.length ≤ 1000) (hr : Rm A 15) (H : Led G s ((cd, cacheP (.ref D) (.ref n) (.ref n) M F) :: (D, idP prog w kvs) :: (nd, nodeP .none .none (.int k t) vl .none) :: l))
    (h : ∀ s', Led G s' ((cd, cacheP (.ref D) .none .none M F) :: (D, idP prog w (without kvs k)) :: (nd, nodeP .none .none (.int k t) .none .none) :: l) → R (.ok (.ret .none)) s') : codeAny (model prog w) A (.call (.ref 149) ⟨[.ref c, .ref n], []⟩) R s := by
  refine enterQ (K := hd.heap_39 w.params) (binds := [(Str.ofString "self", .ref c), (Str.ofString "node", .ref n)]) C H hr (by k_is) (by kernel_rfl) (BindsTo.of_eq (by kernel_rfl)) rfl rfl rfl (by kernel_rfl) (by kernel_rfl) (by kernel_rfl) ?_
  intro L s₁ A' Q E hQ hr H
  repeat tm_at "go"
  exact h _ (Led.drop (L := L) (by with_reducible assumption) (by tm_at "ex") (by tm_at "pk"))

theorem rn_st  (C : Cx (hd.heap_39 w.params) G) (ic : BIn G c 182 cd) (in_ : BIn G n 46 nd) (hk : valueAt kvs k = some (.ref n)) (hl : kvs.length ≤ 1000) (hv : handedIn vl = true) (hf : TellFn G f T) (hz : xs.length ≤ 900) (hr : Rm A 15) (H : Led G s ((cd, cacheP (.ref D) (.ref n) (.ref n) M F) :: (D, idP prog w kvs) :: (nd, nodeP .none .none (.int k t) vl (.ref f)) :: (T, liP xs) :: l))
    (h : ∀ x s', Led G s' ((x, tuP [.int k t, vl]) :: (cd, cacheP (.ref D) .none .none M F) :: (D, idP prog w (without kvs k)) :: (nd, nodeP .none .none (.int k t) .none .none) :: (T, liP (xs ++ [.ref x])) :: l) → R (.ok (.ret .none)) s') : codeAny (model prog w) A (.call (.ref 149) ⟨[.ref c, .ref n], []⟩) R s := by
  refine enterQ (K := hd.heap_39 w.params) (binds := [(Str.ofString "self", .ref c), (Str.ofString "node", .ref n)]) C H hr (by k_is) (by kernel_rfl) (BindsTo.of_eq (by kernel_rfl)) rfl rfl rfl (by kernel_rfl) (by kernel_rfl) (by kernel_rfl) ?_
  intro L s₁ A' Q E hQ hr H
  repeat tm_at "go"
  exact h _ _ (Led.drop (L := L) (by with_reducible assumption) (by tm_at "ex") (by tm_at "pk"))

theorem rn_mn {pvp nxp kyp vlp clp : Value} (C : Cx (hd.heap_39 w.params) G) (ic : BIn G c 182 cd) (in_ : BIn G n 46 nd) (hk : valueAt kvs k = some (.ref n)) (hl : kvs.length ≤ 1000) (ip : BIn G p 46 pd) (hr : Rm A 15) (H : Led G s ((cd, cacheP (.ref D) mru (.ref n) M F) :: (D, idP prog w kvs) :: (nd, nodeP (.ref p) .none (.int k t) vl .none) :: (pd, nodeP pvp nxp kyp vlp clp) :: l))
    (h : ∀ s', Led G s' ((cd, cacheP (.ref D) mru (.ref p) M F) :: (D, idP prog w (without kvs k)) :: (nd, nodeP .none .none (.int k t) .none .none) :: (pd, nodeP pvp .none kyp vlp clp) :: l) → R (.ok (.ret .none)) s') : codeAny (model prog w) A (.call (.ref 149) ⟨[.ref c, .ref n], []⟩) R s := by
  refine enterQ (K := hd.heap_39 w.params) (binds := [(Str.ofString "self", .ref c), (Str.ofString "node", .ref n)]) C H hr (by k_is) (by kernel_rfl) (BindsTo.of_eq (by kernel_rfl)) rfl rfl rfl (by kernel_rfl) (by kernel_rfl) (by kernel_rfl) ?_
  intro L s₁ A' Q E hQ hr H
  repeat tm_at "go"
  exact h _ (Led.drop (L := L) (by with_reducible assumption) (by tm_at "ex") (by tm_at "pk"))

theorem rn_mt {pvp nxp kyp vlp clp : Value} (C : Cx (hd.heap_39 w.params) G) (ic : BIn G c 182 cd) (in_ : BIn G n 46 nd) (hk : valueAt kvs k = some (.ref n)) (hl : kvs.length ≤ 1000) (ip : BIn G p 46 pd) (hv : handedIn vl = true) (hf : TellFn G f T) (hz : xs.length ≤ 900) (hr : Rm A 15) (H : Led G s ((cd, cacheP (.ref D) mru (.ref n) M F) :: (D, idP prog w kvs) :: (nd, nodeP (.ref p) .none (.int k t) vl (.ref f)) :: (pd, nodeP pvp nxp kyp vlp clp) :: (T, liP xs) :: l))
    (h : ∀ x s', Led G s' ((x, tuP [.int k t, vl]) :: (cd, cacheP (.ref D) mru (.ref p) M F) :: (D, idP prog w (without kvs k)) :: (nd, nodeP .none .none (.int k t) .none .none) :: (pd, nodeP pvp .none kyp vlp clp) :: (T, liP (xs ++ [.ref x])) :: l) → R (.ok (.ret .none)) s') : codeAny (model prog w) A (.call (.ref 149) ⟨[.ref c, .ref n], []⟩) R s := by
  refine enterQ (K := hd.heap_39 w.params) (binds := [(Str.ofString "self", .ref c), (Str.ofString "node", .ref n)]) C H hr (by k_is) (by kernel_rfl) (BindsTo.of_eq (by kernel_rfl)) rfl rfl rfl (by kernel_rfl) (by kernel_rfl) (by kernel_rfl) ?_
  intro L s₁ A' Q E hQ hr H
  repeat tm_at "go"
  exact h _ _ (Led.drop (L := L) (by with_reducible assumption) (by tm_at "ex") (by tm_at "pk"))

local macro_rules | `(tactic| tm_at "user") => `(tactic| first
  | (refine wpAny_call (rn_mt (by with_reducible assumption) (by with_reducible assumption) (by with_reducible assumption) (by with_reducible assumption) (by with_reducible assumption) (by with_reducible assumption) (by with_reducible assumption) (by with_reducible assumption) (by with_reducible assumption) (Rm.le (by with_reducible assumption) (by decide)) (Led.perm (by with_reducible assumption) (by tm_at "pk")) ?_); intro _ _ _)
  | (refine wpAny_call (rn_mn (by with_reducible assumption) (by with_reducible assumption) (by with_reducible assumption) (by with_reducible assumption) (by with_reducible assumption) (by with_reducible assumption) (Rm.le (by with_reducible assumption) (by decide)) (Led.perm (by with_reducible assumption) (by tm_at "pk")) ?_); intro _ _)
  | (refine wpAny_call (rn_st (by with_reducible assumption) (by with_reducible assumption) (by with_reducible assumption) (by with_reducible assumption) (by with_reducible assumption) (by with_reducible assumption) (by with_reducible assumption) (by with_reducible assumption) (Rm.le (by with_reducible assumption) (by decide)) (Led.perm (by with_reducible assumption) (by tm_at "pk")) ?_); intro _ _ _)
  | (refine wpAny_call (rn_sn (by with_reducible assumption) (by with_reducible assumption) (by with_reducible assumption) (by with_reducible assumption) (by with_reducible assumption) (Rm.le (by with_reducible assumption) (by decide)) (Led.perm (by with_reducible assumption) (by tm_at "pk")) ?_); intro _ _))
theorem rl_sn  (C : Cx (hd.heap_39 w.params) G) (ic : BIn G c 182 cd) (in_ : BIn G n 46 nd) (hk : valueAt kvs k = some (.ref n)) (hl : kvs.length ≤ 1000) (hr : Rm A 20) (H : Led G s ((cd, cacheP (.ref D) (.ref n) (.ref n) M F) :: (D, idP prog w kvs) :: (nd, nodeP .none .none (.int k t) vl .none) :: l))
    (h : ∀ s', Led G s' ((cd, cacheP (.ref D) .none .none M F) :: (D, idP prog w (without kvs k)) :: (nd, nodeP .none .none (.int k t) .none .none) :: l) → R (.ok (.ret .none)) s') : codeAny (model prog w) A (.call (.ref 156) ⟨[.ref c], []⟩) R s := by
  refine enterQ (K := hd.heap_39 w.params) (binds := [(Str.ofString "self", .ref c)]) C H hr (by k_is) (by kernel_rfl) (BindsTo.of_eq (by kernel_rfl)) rfl rfl rfl (by kernel_rfl) (by kernel_rfl) (by kernel_rfl) ?_
  intro L s₁ A' Q E hQ hr H
  repeat tm_at "go"
  exact h _ (Led.drop (L := L) (by with_reducible assumption) (by tm_at "ex") (by tm_at "pk"))

theorem rl_st  (C : Cx (hd.heap_39 w.params) G) (ic : BIn G c 182 cd) (in_ : BIn G n 46 nd) (hk : valueAt kvs k = some (.ref n)) (hl : kvs.length ≤ 1000) (hv : handedIn vl = true) (hf : TellFn G f T) (hz : xs.length ≤ 900) (hr : Rm A 20) (H : Led G s ((cd, cacheP (.ref D) (.ref n) (.ref n) M F) :: (D, idP prog w kvs) :: (nd, nodeP .none .none (.int k t) vl (.ref f)) :: (T, liP xs) :: l))
    (h : ∀ x s', Led G s' ((x, tuP [.int k t, vl]) :: (cd, cacheP (.ref D) .none .none M F) :: (D, idP prog w (without kvs k)) :: (nd, nodeP .none .none (.int k t) .none .none) :: (T, liP (xs ++ [.ref x])) :: l) → R (.ok (.ret .none)) s') : codeAny (model prog w) A (.call (.ref 156) ⟨[.ref c], []⟩) R s := by
  refine enterQ (K := hd.heap_39 w.params) (binds := [(Str.ofString "self", .ref c)]) C H hr (by k_is) (by kernel_rfl) (BindsTo.of_eq (by kernel_rfl)) rfl rfl rfl (by kernel_rfl) (by kernel_rfl) (by kernel_rfl) ?_
  intro L s₁ A' Q E hQ hr H
  repeat tm_at "go"
  exact h _ _ (Led.drop (L := L) (by with_reducible assumption) (by tm_at "ex") (by tm_at "pk"))

theorem rl_mn {pvp nxp kyp vlp clp : Value} (C : Cx (hd.heap_39 w.params) G) (ic : BIn G c 182 cd) (in_ : BIn G n 46 nd) (hk : valueAt kvs k = some (.ref n)) (hl : kvs.length ≤ 1000) (ip : BIn G p 46 pd) (hr : Rm A 20) (H : Led G s ((cd, cacheP (.ref D) mru (.ref n) M F) :: (D, idP prog w kvs) :: (nd, nodeP (.ref p) .none (.int k t) vl .none) :: (pd, nodeP pvp nxp kyp vlp clp) :: l))
    (h : ∀ s', Led G s' ((cd, cacheP (.ref D) mru (.ref p) M F) :: (D, idP prog w (without kvs k)) :: (nd, nodeP .none .none (.int k t) .none .none) :: (pd, nodeP pvp .none kyp vlp clp) :: l) → R (.ok (.ret .none)) s') : codeAny (model prog w) A (.call (.ref 156) ⟨[.ref c], []⟩) R s := by
  refine enterQ (K := hd.heap_39 w.params) (binds := [(Str.ofString "self", .ref c)]) C H hr (by k_is) (by kernel_rfl) (BindsTo.of_eq (by kernel_rfl)) rfl rfl rfl (by kernel_rfl) (by kernel_rfl) (by kernel_rfl) ?_
  intro L s₁ A' Q E hQ hr H
  repeat tm_at "go"
  exact h _ (Led.drop (L := L) (by with_reducible assumption) (by tm_at "ex") (by tm_at "pk"))

theorem rl_mt {pvp nxp kyp vlp clp : Value} (C : Cx (hd.heap_39 w.params) G) (ic : BIn G c 182 cd) (in_ : BIn G n 46 nd) (hk : valueAt kvs k = some (.ref n)) (hl : kvs.length ≤ 1000) (ip : BIn G p 46 pd) (hv : handedIn vl = true) (hf : TellFn G f T) (hz : xs.length ≤ 900) (hr : Rm A 20) (H : Led G s ((cd, cacheP (.ref D) mru (.ref n) M F) :: (D, idP prog w kvs) :: (nd, nodeP (.ref p) .none (.int k t) vl (.ref f)) :: (pd, nodeP pvp nxp kyp vlp clp) :: (T, liP xs) :: l))
    (h : ∀ x s', Led G s' ((x, tuP [.int k t, vl]) :: (cd, cacheP (.ref D) mru (.ref p) M F) :: (D, idP prog w (without kvs k)) :: (nd, nodeP .none .none (.int k t) .none .none) :: (pd, nodeP pvp .none kyp vlp clp) :: (T, liP (xs ++ [.ref x])) :: l) → R (.ok (.ret .none)) s') : codeAny (model prog w) A (.call (.ref 156) ⟨[.ref c], []⟩) R s := by
  refine enterQ (K := hd.heap_39 w.params) (binds := [(Str.ofString "self", .ref c)]) C H hr (by k_is) (by kernel_rfl) (BindsTo.of_eq (by kernel_rfl)) rfl rfl rfl (by kernel_rfl) (by kernel_rfl) (by kernel_rfl) ?_
  intro L s₁ A' Q E hQ hr H
  repeat tm_at "go"
  exact h _ _ (Led.drop (L := L) (by with_reducible assumption) (by tm_at "ex") (by tm_at "pk"))

end
end
section
theorem fill3 : (PySem.Challenge.rw_kj0013_01, hd.heap_39) = (PySem.Challenge.rw_kj0013_01, hd.heap_39) := by k_fill; rfl
section
variable {prog : Program} {w : World} {A : Around} {R : Result → Shared → Prop} {s : Shared} {G : Gh} {l l' : List (Addr × HP)} {c cd D T : Addr} {M F : Value} {kvs : List (Int × Value)} {xs : List Value} {ns : List Nd}
/-- the list told to, and the cache -/
abbrev cacheT (prog : Program) (w : World) (T : Addr) (xs : List Value) (cd D : Addr) (M F : Value) (ns : List Nd) (kvs : List (Int × Value)) (l : List (Addr × HP)) : List (Addr × HP) :=
  (T, liP xs) :: (cd, cacheP (.ref D) (firstR ns .none) (lastR ns .none) M F) :: (D, idP prog w kvs) :: (seg .none ns .none ++ l)
theorem firstR_append (xs ys : List Nd) (pv : Value) (h : xs ≠ []) : firstR (xs ++ ys) pv = firstR xs pv := by cases xs with | nil => exact absurd rfl h | cons a b => rfl
theorem tells_one_none {z : Nd} (h : z.cl = .none) : tells [z] = [] := by simp [tells, h]
theorem tells_one_ref {z : Nd} {f : Addr} (h : z.cl = .ref f) : tells [z] = [(z.k, z.vl)] := by
  have : (z.cl != Value.none) = true := by rw [h]; rfl
  simp [tells, this]

theorem perm_mid2 {α : Type} (X l : List α) (p z : α) : (X ++ p :: z :: l).Perm (p :: z :: (X ++ l)) := List.perm_middle.trans (List.perm_middle.cons _)
theorem seg_two (i : List Nd) (p z : Nd) (l : List (Addr × HP)) : seg .none ((i ++ [p]) ++ [z]) .none ++ l = seg .none i p.ky ++ (p.d, nodeP (lastR i .none) z.ky p.ky p.vl p.cl) :: (z.d, nodeP (.ref p.a) .none z.ky z.vl z.cl) :: l := by
  rw [seg_append, seg_append, lastR_snoc]
  simp only [headK, seg, List.append_assoc, List.cons_append, List.nil_append]
theorem seg_snoc (i : List Nd) (p : Nd) (l : List (Addr × HP)) : seg .none (i ++ [p]) .none ++ l = seg .none i p.ky ++ (p.d, nodeP (lastR i .none) .none p.ky p.vl p.cl) :: l := by
  rw [seg_append]
  simp only [headK, seg, List.append_assoc, List.cons_append, List.nil_append]

theorem c_rlru {init : List Nd} {z : Nd} (C : Cx (hd.heap_39 w.params) G) (ic : BIn G c 182 cd) (ok : RowOK G T (init ++ [z]) kvs) (hz : xs.length ≤ 900) (hl : kvs.length ≤ 1000) (hr : Rm A 20) (H : Led G s (cacheT prog w T xs cd D M F (init ++ [z]) kvs l))
    (h : ∀ nw s', pairs nw = tells [z] → Led G s' (cacheT prog w T (xs ++ refs nw) cd D M F init (without kvs z.k) (tupL nw ++ l)) → R (.ok (.ret .none)) s') : codeAny (model prog w) A (.call (.ref 156) ⟨[.ref c], []⟩) R s := by
  have oz := ok.nodes z (by simp)
  have hk := ok.at (n := z) (by simp)
  have refs0 : xs ++ refs [] = xs := by simp [refs]
  rcases init.eq_nil_or_concat with rfl | ⟨i, p, rfl⟩
  · have H1 : Led G s ((T, liP xs) :: (cd, cacheP (.ref D) (.ref z.a) (.ref z.a) M F) :: (D, idP prog w kvs) :: (z.d, nodeP .none .none (.int z.k z.t) z.vl z.cl) :: l) := H
    rcases oz.cl with hc | ⟨f, hc, hf⟩ <;> rw [hc] at H1
    · refine rl_sn (D := D) (nd := z.d) C ic oz.inst hk hl hr (Led.perm H1 (by tm_at "pk")) fun s' H' => ?_
      refine h [] s' (by rw [tells_one_none hc]; rfl) ?_
      rw [refs0]
      exact Led.drop (L := z.d) (l₂ := (T, liP xs) :: (cd, cacheP (.ref D) .none .none M F) :: (D, idP prog w (without kvs z.k)) :: l) H' (by tm_at "ex") (by tm_at "pk")
    · refine rl_st (D := D) (nd := z.d) (T := T) (f := f) C ic oz.inst hk hl oz.hv hf hz hr (Led.perm H1 (by tm_at "pk")) fun x s' H' => ?_
      refine h [⟨x, z.k, z.t, z.vl⟩] s' (by rw [tells_one_ref hc]; rfl) ?_
      exact Led.drop (L := z.d) (l₂ := (T, liP (xs ++ [.ref x])) :: (cd, cacheP (.ref D) .none .none M F) :: (D, idP prog w (without kvs z.k)) :: (x, tuP [.int z.k z.t, z.vl]) :: l) H' (by tm_at "ex") (by tm_at "pk")
  · simp only [List.concat_eq_append] at ok H h
    have op := ok.nodes p (by simp)
    have e1 : firstR (i ++ [p] ++ [z]) .none = firstR (i ++ [p]) .none := firstR_append _ _ _ (by simp)
    have H1 : Led G s ((T, liP xs) :: (cd, cacheP (.ref D) (firstR (i ++ [p]) .none) (.ref z.a) M F) :: (D, idP prog w kvs) :: (p.d, nodeP (lastR i .none) z.ky p.ky p.vl p.cl) :: (z.d, nodeP (.ref p.a) .none (.int z.k z.t) z.vl z.cl) :: (seg .none i p.ky ++ l)) := by
      have H0 : Led G s ((T, liP xs) :: (cd, cacheP (.ref D) (firstR (i ++ [p] ++ [z]) .none) (lastR (i ++ [p] ++ [z]) .none) M F) :: (D, idP prog w kvs) :: (seg .none (i ++ [p] ++ [z]) .none ++ l)) := H
      rw [e1, lastR_snoc, seg_two] at H0
      exact H0.perm (((perm_mid2 _ _ _ _).cons _).cons _ |>.cons _)
    have fin : ∀ (nw : List Tl) s', pairs nw = tells [z] → Led G s' ((T, liP (xs ++ refs nw)) :: (cd, cacheP (.ref D) (firstR (i ++ [p]) .none) (.ref p.a) M F) :: (D, idP prog w (without kvs z.k)) :: (p.d, nodeP (lastR i .none) .none p.ky p.vl p.cl) :: (seg .none i p.ky ++ (tupL nw ++ l))) → R (.ok (.ret .none)) s' := by
      intro nw s' hn H'
      refine h nw s' hn ?_
      show Led G s' ((T, liP (xs ++ refs nw)) :: (cd, cacheP (.ref D) (firstR (i ++ [p]) .none) (lastR (i ++ [p]) .none) M F) :: (D, idP prog w (without kvs z.k)) :: (seg .none (i ++ [p]) .none ++ (tupL nw ++ l)))
      rw [lastR_snoc, seg_snoc]
      exact H'.perm (((List.perm_middle.symm).cons _).cons _ |>.cons _)
    rcases oz.cl with hc | ⟨f, hc, hf⟩ <;> rw [hc] at H1
    · refine rl_mn (D := D) (nd := z.d) (pd := p.d) C ic oz.inst hk hl op.inst hr (Led.perm H1 (by tm_at "pk")) fun s' H' => ?_
      refine fin [] s' (by rw [tells_one_none hc]; rfl) ?_
      rw [refs0]
      exact Led.drop (L := z.d) (l₂ := (T, liP xs) :: (cd, cacheP (.ref D) (firstR (i ++ [p]) .none) (.ref p.a) M F) :: (D, idP prog w (without kvs z.k)) :: (p.d, nodeP (lastR i .none) .none p.ky p.vl p.cl) :: (seg .none i p.ky ++ l)) H' (by tm_at "ex") (by tm_at "pk")
    · refine rl_mt (D := D) (nd := z.d) (pd := p.d) (T := T) (f := f) C ic oz.inst hk hl op.inst oz.hv hf hz hr (Led.perm H1 (by tm_at "pk")) fun x s' H' => ?_
      refine fin [⟨x, z.k, z.t, z.vl⟩] s' (by rw [tells_one_ref hc]; rfl) ?_
      refine Led.drop (L := z.d) (l₂ := (T, liP (xs ++ [.ref x])) :: (cd, cacheP (.ref D) (firstR (i ++ [p]) .none) (.ref p.a) M F) :: (D, idP prog w (without kvs z.k)) :: (p.d, nodeP (lastR i .none) .none p.ky p.vl p.cl) :: (x, tuP [.int z.k z.t, z.vl]) :: (seg .none i p.ky ++ l)) H' (by tm_at "ex") (by tm_at "pk") |>.perm ?_
      exact ((((List.perm_middle.symm).cons _).cons _).cons _).cons _

theorem tells_len (ns : List Nd) : (tells ns).length ≤ ns.length := by simp only [tells, List.length_map]; exact List.length_filter_le _ _
theorem take_split {α : Type} (ns : List α) (m : Nat) (h : m + 1 ≤ ns.length) : ∃ z, ns.take (m + 1) = ns.take m ++ [z] ∧ ns.drop m = z :: ns.drop (m + 1) := by
  have h' : m < ns.length := h
  exact ⟨ns[m], by rw [List.take_add_one, List.getElem?_eq_getElem h']; rfl, List.drop_eq_getElem_cons h'⟩
theorem toT {p : Addr × HP} {M F : Value} (H : Led G s (p :: cacheT prog w T xs cd D M F ns kvs l)) : Led G s (cacheT prog w T xs cd D M F ns kvs (p :: l)) :=
  H.perm (List.perm_middle (l₁ := (T, liP xs) :: (cd, cacheP (.ref D) (firstR ns .none) (lastR ns .none) M F) :: (D, idP prog w kvs) :: seg .none ns .none)).symm
theorem ofT {p : Addr × HP} {M F : Value} (H : Led G s (cacheT prog w T xs cd D M F ns kvs (p :: l))) : Led G s (p :: cacheT prog w T xs cd D M F ns kvs l) :=
  H.perm (List.perm_middle (l₁ := (T, liP xs) :: (cd, cacheP (.ref D) (firstR ns .none) (lastR ns .none) M F) :: (D, idP prog w kvs) :: seg .none ns .none))
theorem ofT2 {p : Addr × HP} {M F : Value} {l₀ : List (Addr × HP)} (H : Led G s (cacheT prog w T xs cd D M F ns kvs (l₀ ++ p :: l))) : Led G s (p :: cacheT prog w T xs cd D M F ns kvs (l₀ ++ l)) :=
  ofT (H.perm (((List.Perm.append_left _ List.perm_middle).cons _).cons _ |>.cons _))

local macro_rules | `(tactic| tm_at "user") => `(tactic| fail)
/-- cleanup -/
theorem c_cleanup {Fi : Int} {tF : Tok} (C : Cx (hd.heap_39 w.params) G) (ic : BIn G c 182 cd) (lo : (D == sysModules) = false) (ok : RowOK G T ns kvs) (hz : xs.length + ns.length ≤ 900) (hF : 0 ≤ Fi) (hr : Rm A 25)
    (H : Led G s (cacheT prog w T xs cd D M (.int Fi tF) ns kvs l))
    (h : ∀ nw kvs' s', pairs nw = tells (ns.drop Fi.toNat).reverse → RowOK G T (ns.take Fi.toNat) kvs' → Led G s' (cacheT prog w T (xs ++ refs nw) cd D M (.int Fi tF) (ns.take Fi.toNat) kvs' (tupL nw ++ l)) → R (.ok (.ret .none)) s') :
    codeAny (model prog w) A (.call (.ref 128) ⟨[.ref c], []⟩) R s := by
  refine enterQ (K := hd.heap_39 w.params) (binds := [(Str.ofString "self", .ref c)]) C H hr (by k_is) (by kernel_rfl) (BindsTo.of_eq (by kernel_rfl)) rfl rfl rfl (by kernel_rfl) (by kernel_rfl) (by kernel_rfl) ?_
  intro L s₁ A' Q E hQ hr H
  refine m_cons (m_while (fun m s => ∃ nw kvs', m ≤ ns.length ∧ (Fi.toNat ≤ m ∨ m = ns.length) ∧ pairs nw = tells (ns.drop m).reverse ∧ RowOK G T (ns.take m) kvs' ∧
    Led G s ((L, nsP (lk [(Str.ofString "self", .ref c)])) :: cacheT prog w T (xs ++ refs nw) cd D M (.int Fi tF) (ns.take m) kvs' (tupL nw ++ l))) ns.length ⟨[], kvs, Nat.le_refl _, .inr rfl, by simp [pairs, tells], by rwa [List.take_length], ?_⟩ ?_)
  · simp only [List.take_length, refs, List.map_nil, List.append_nil]; exact H
  · rintro m s₂ ⟨nw, kvs', hm, hm2, hp, ok', H⟩
    have hlen : kvs'.length = m := by rw [ok'.len, List.length_take]; omega
    have hl : kvs'.length ≤ 1000 := by omega
    repeat tm_at "go"
    refine ⟨fun hb => ?_, fun hb => ?_⟩
    · have hb := of_decide_eq_true hb
      obtain ⟨m, rfl⟩ : ∃ m', m = m' + 1 := ⟨m - 1, by omega⟩
      obtain ⟨z, e1, e2⟩ := take_split ns m hm
      rw [e1] at ok'
      clear H
      have H := ‹Led G _ _›
      rw [e1] at H
      have hz2 : (xs ++ refs nw).length ≤ 900 := by
        have h1 := congrArg List.length hp
        have h2 := tells_len (ns.drop (m + 1)).reverse
        simp only [pairs, List.length_map] at h1
        simp only [List.length_append, refs, List.length_map, List.length_reverse, List.length_drop] at *
        omega
      repeat tm_at "go"
      refine wpAny_call (c_rlru C ic ok' hz2 hl (Rm.le hr (by decide)) (toT (by with_reducible assumption)) fun nw' s' hn H' => ?_)
      refine m_nil ⟨rfl, m, by omega, nw ++ nw', _, by omega, .inl (by omega), ?_, ok'.cut, ?_⟩
      · rw [pairs_append, hp, hn, e2, List.reverse_cons, tells_append]
      · rw [refs_append, ← List.append_assoc]
        have H2 := ofT2 H'
        exact H2.perm (((((List.Perm.append_left _ (by rw [tupL_append, List.append_assoc]; exact (List.perm_append_comm_assoc ..)))).cons _).cons _).cons _ |>.cons _)
    · have hb := of_decide_eq_false hb
      have e : ns.take m = ns.take Fi.toNat ∧ ns.drop m = ns.drop Fi.toNat := by
        rcases hm2 with hm2 | hm2
        · have : m = Fi.toNat := by omega
          rw [this]; exact ⟨rfl, rfl⟩
        · rw [List.take_of_length_le (by omega), List.take_of_length_le (by omega), List.drop_of_length_le (by omega), List.drop_of_length_le (by omega)]; exact ⟨rfl, rfl⟩
      rw [e.1] at ok'
      rw [e.2] at hp
      clear H
      have H := ‹Led G _ _›
      rw [e.1] at H
      repeat tm_at "go"
      exact h nw kvs' _ hp ok' (Led.tl (by with_reducible assumption))

/-- clear -/
theorem c_clear (C : Cx (hd.heap_39 w.params) G) (ic : BIn G c 182 cd) (lo : (D == sysModules) = false) (ok : RowOK G T ns kvs) (hz : xs.length + ns.length ≤ 900) (hr : Rm A 25)
    (H : Led G s (cacheT prog w T xs cd D M F ns kvs l))
    (h : ∀ nw kvs' s', pairs nw = tells ns.reverse → RowOK G T [] kvs' → Led G s' (cacheT prog w T (xs ++ refs nw) cd D M F [] kvs' (tupL nw ++ l)) → R (.ok (.ret .none)) s') :
    codeAny (model prog w) A (.call (.ref 163) ⟨[.ref c], []⟩) R s := by
  refine enterQ (K := hd.heap_39 w.params) (binds := [(Str.ofString "self", .ref c)]) C H hr (by k_is) (by kernel_rfl) (BindsTo.of_eq (by kernel_rfl)) rfl rfl rfl (by kernel_rfl) (by kernel_rfl) (by kernel_rfl) ?_
  intro L s₁ A' Q E hQ hr H
  refine m_cons (m_while (fun m s => ∃ nw kvs', m ≤ ns.length ∧ pairs nw = tells (ns.drop m).reverse ∧ RowOK G T (ns.take m) kvs' ∧
    Led G s ((L, nsP (lk [(Str.ofString "self", .ref c)])) :: cacheT prog w T (xs ++ refs nw) cd D M F (ns.take m) kvs' (tupL nw ++ l))) ns.length ⟨[], kvs, Nat.le_refl _, by simp [pairs, tells], by rwa [List.take_length], ?_⟩ ?_)
  · simp only [List.take_length, refs, List.map_nil, List.append_nil]; exact H
  · rintro m s₂ ⟨nw, kvs', hm, hp, ok', H⟩
    have hlen : kvs'.length = m := by rw [ok'.len, List.length_take]; omega
    have hl : kvs'.length ≤ 1000 := by omega
    repeat tm_at "go"
    refine ⟨fun hb => ?_, fun hb => ?_⟩
    · obtain ⟨m, rfl⟩ : ∃ m', m = m' + 1 := by
        cases m with
        | zero => rw [List.length_eq_zero_iff.mp hlen] at hb; cases hb
        | succ m => exact ⟨m, rfl⟩
      obtain ⟨z, e1, e2⟩ := take_split ns m hm
      rw [e1] at ok'
      clear H
      have H := ‹Led G _ _›
      rw [e1] at H
      have hz2 : (xs ++ refs nw).length ≤ 900 := by
        have h1 := congrArg List.length hp
        have h2 := tells_len (ns.drop (m + 1)).reverse
        simp only [pairs, List.length_map] at h1
        simp only [List.length_append, refs, List.length_map, List.length_reverse, List.length_drop] at *
        omega
      repeat tm_at "go"
      refine wpAny_call (c_rlru C ic ok' hz2 hl (Rm.le hr (by decide)) (toT (by with_reducible assumption)) fun nw' s' hn H' => ?_)
      refine m_nil ⟨rfl, m, by omega, nw ++ nw', _, by omega, ?_, ok'.cut, ?_⟩
      · rw [pairs_append, hp, hn, e2, List.reverse_cons, tells_append]
      · rw [refs_append, ← List.append_assoc]
        have H2 := ofT2 H'
        exact H2.perm (((((List.Perm.append_left _ (by rw [tupL_append, List.append_assoc]; exact (List.perm_append_comm_assoc ..)))).cons _).cons _).cons _ |>.cons _)
    · have hm0 : m = 0 := by
        cases kvs' with
        | nil => exact hlen.symm
        | cons a b => cases hb
      subst hm0
      clear H
      have H := ‹Led G _ _›
      rw [List.take_zero] at ok' H
      rw [List.drop_zero] at hp
      repeat tm_at "go"
      exact h nw kvs' _ hp ok' (Led.tl (by with_reducible assumption))
end
end
theorem fill4 : (PySem.Challenge.rw_kj0013_01, hd.heap_39) = (PySem.Challenge.rw_kj0013_01, hd.heap_39) := by k_fill; rfl
/-- a node taken to the front: the places that turn -/
inductive Small (prog : Program) (w : World) (G : Gh) (cd D : Addr) (M F : Value) (kvs : List (Int × Value)) (n m : Nd) : List (Addr × HP) → List (Addr × HP) → Prop
  | mz {pvm nxm : Value} : Small prog w G cd D M F kvs n m
      [(cd, cacheP (.ref D) (.ref m.a) (.ref n.a) M F), (n.d, nodeP (.ref m.a) .none n.ky n.vl n.cl), (m.d, nodeP pvm nxm m.ky m.vl m.cl), (D, idP prog w kvs)]
      [(cd, cacheP (.ref D) (.ref n.a) (.ref m.a) M F), (n.d, nodeP .none m.ky n.ky n.vl n.cl), (m.d, nodeP (.ref n.a) .none m.ky m.vl m.cl), (D, idP prog w kvs)]
  | mq {q r : Nd} {pvm nxm nxq : Value} (iq : BIn G q.a 46 q.d) (ir : BIn G r.a 46 r.d) (nr : n.a ≠ r.a) (hq : valueAt kvs q.k = some (.ref q.a)) : Small prog w G cd D M F kvs n m
      [(cd, cacheP (.ref D) (.ref m.a) (.ref r.a) M F), (n.d, nodeP (.ref m.a) q.ky n.ky n.vl n.cl), (m.d, nodeP pvm nxm m.ky m.vl m.cl), (q.d, nodeP (.ref n.a) nxq q.ky q.vl q.cl), (D, idP prog w kvs)]
      [(cd, cacheP (.ref D) (.ref n.a) (.ref r.a) M F), (n.d, nodeP .none m.ky n.ky n.vl n.cl), (m.d, nodeP (.ref n.a) q.ky m.ky m.vl m.cl), (q.d, nodeP (.ref m.a) nxq q.ky q.vl q.cl), (D, idP prog w kvs)]
  | pz {p : Nd} {pvm nxm pvp nxp : Value} (ip : BIn G p.a 46 p.d) : Small prog w G cd D M F kvs n m
      [(cd, cacheP (.ref D) (.ref m.a) (.ref n.a) M F), (n.d, nodeP (.ref p.a) .none n.ky n.vl n.cl), (m.d, nodeP pvm nxm m.ky m.vl m.cl), (p.d, nodeP pvp nxp p.ky p.vl p.cl), (D, idP prog w kvs)]
      [(cd, cacheP (.ref D) (.ref n.a) (.ref p.a) M F), (n.d, nodeP .none m.ky n.ky n.vl n.cl), (m.d, nodeP (.ref n.a) nxm m.ky m.vl m.cl), (p.d, nodeP pvp .none p.ky p.vl p.cl), (D, idP prog w kvs)]
  | pq {p q r : Nd} {pvm nxm pvp nxp nxq : Value} (ip : BIn G p.a 46 p.d) (iq : BIn G q.a 46 q.d) (ir : BIn G r.a 46 r.d) (nr : n.a ≠ r.a) (hq : valueAt kvs q.k = some (.ref q.a)) : Small prog w G cd D M F kvs n m
      [(cd, cacheP (.ref D) (.ref m.a) (.ref r.a) M F), (n.d, nodeP (.ref p.a) q.ky n.ky n.vl n.cl), (m.d, nodeP pvm nxm m.ky m.vl m.cl), (p.d, nodeP pvp nxp p.ky p.vl p.cl), (q.d, nodeP (.ref n.a) nxq q.ky q.vl q.cl), (D, idP prog w kvs)]
      [(cd, cacheP (.ref D) (.ref n.a) (.ref r.a) M F), (n.d, nodeP .none m.ky n.ky n.vl n.cl), (m.d, nodeP (.ref n.a) nxm m.ky m.vl m.cl), (p.d, nodeP pvp q.ky p.ky p.vl p.cl), (q.d, nodeP (.ref p.a) nxq q.ky q.vl q.cl), (D, idP prog w kvs)]
section
variable {prog : Program} {w : World} {A : Around} {R : Result → Shared → Prop} {s : Shared} {G : Gh} {l l' : List (Addr × HP)} {c cd D T : Addr} {M F : Value} {kvs : List (Int × Value)} {xs : List Value} {ns : List Nd}
theorem headK_cons (n : Nd) (r : List Nd) (x : Value) : headK (n :: r) x = n.ky := rfl
theorem headK_nil (x : Value) : headK [] x = x := rfl
theorem perm_cons3 {α : Type} {a b c : α} {x y : List α} (h : x.Perm y) : (a :: b :: c :: x).Perm (a :: b :: c :: y) := ((h.cons _).cons _).cons _
theorem perm_mid3 {α : Type} (X l : List α) (p z q : α) : (X ++ p :: z :: q :: l).Perm (p :: z :: q :: (X ++ l)) := (perm_mid2 _ _ _ _).trans ((List.perm_middle.cons _).cons _)
theorem move_small {n m : Nd} {pre post : List Nd} (ok : RowOK G T ((m :: pre) ++ n :: post) kvs) :
    ∃ P P' Z, Small prog w G cd D M F kvs n m P P' ∧ (∀ l, (cacheT prog w T xs cd D M F ((m :: pre) ++ n :: post) kvs l).Perm (P ++ (Z ++ l))) ∧ ∀ l, (P' ++ (Z ++ l)).Perm (cacheT prog w T xs cd D M F (n :: (m :: pre) ++ post) kvs l) := by
  have on := ok.nodes n (by simp)
  have nr : ∀ r ∈ post, n.a ≠ r.a := fun r hr e => by
    have h := ok.addrs
    rw [List.map_append, List.nodup_append] at h
    have h := h.2.1
    simp only [List.map_cons, List.nodup_cons] at h
    exact h.1 (e ▸ List.mem_map_of_mem hr)
  rcases pre.eq_nil_or_concat with rfl | ⟨i, p, rfl⟩
  · cases post with
    | nil =>
      refine ⟨_, _, [(T, liP xs)], .mz (pvm := .none) (nxm := n.ky), fun l => ?_, fun l => ?_⟩
      · show List.Perm ((T, liP xs) :: (cd, cacheP (.ref D) (.ref m.a) (.ref n.a) M F) :: (D, idP prog w kvs) :: (m.d, nodeP .none n.ky m.ky m.vl m.cl) :: (n.d, nodeP (.ref m.a) .none n.ky n.vl n.cl) :: l) (_ :: _ :: _ :: _ :: _ :: l)
        tm_at "pk"
      · show List.Perm (_ :: _ :: _ :: _ :: _ :: l) ((T, liP xs) :: (cd, cacheP (.ref D) (.ref n.a) (.ref m.a) M F) :: (D, idP prog w kvs) :: (n.d, nodeP .none m.ky n.ky n.vl n.cl) :: (m.d, nodeP (.ref n.a) .none m.ky m.vl m.cl) :: l)
        tm_at "pk"
    | cons q post =>
      obtain ⟨r, hr, e⟩ : ∃ r ∈ q :: post, ∀ pv, lastR (q :: post) pv = .ref r.a := ⟨(q :: post).getLast (by simp), List.getLast_mem _, fun pv => by unfold lastR; rw [List.getLast?_eq_getLast (by simp)]⟩
      have e1 : lastR ([m] ++ n :: q :: post) .none = .ref r.a := by rw [show [m] ++ n :: q :: post = [m, n] ++ (q :: post) from rfl, lastR_append, e]
      have e2 : lastR (n :: [m] ++ q :: post) .none = .ref r.a := by rw [lastR_append, e]
      refine ⟨_, _, (T, liP xs) :: seg (.ref q.a) post .none, .mq (pvm := .none) (nxm := n.ky) (nxq := headK post .none) (ok.nodes q (by simp)).inst (ok.nodes r (List.mem_append_right _ (List.mem_cons_of_mem _ hr))).inst (nr r hr) (ok.at (n := q) (by simp)), fun l => ?_, fun l => ?_⟩
      · show List.Perm ((T, liP xs) :: (cd, cacheP (.ref D) (.ref m.a) (lastR ([m] ++ n :: q :: post) .none) M F) :: (D, idP prog w kvs) :: (m.d, nodeP .none n.ky m.ky m.vl m.cl) :: (n.d, nodeP (.ref m.a) q.ky n.ky n.vl n.cl) :: (q.d, nodeP (.ref n.a) (headK post .none) q.ky q.vl q.cl) :: (seg (.ref q.a) post .none ++ l)) (_ :: _ :: _ :: _ :: _ :: _ :: (seg (.ref q.a) post .none ++ l))
        rw [e1]; tm_at "pk"
      · show List.Perm (_ :: _ :: _ :: _ :: _ :: _ :: (seg (.ref q.a) post .none ++ l)) ((T, liP xs) :: (cd, cacheP (.ref D) (.ref n.a) (lastR (n :: [m] ++ q :: post) .none) M F) :: (D, idP prog w kvs) :: (n.d, nodeP .none m.ky n.ky n.vl n.cl) :: (m.d, nodeP (.ref n.a) q.ky m.ky m.vl m.cl) :: (q.d, nodeP (.ref m.a) (headK post .none) q.ky q.vl q.cl) :: (seg (.ref q.a) post .none ++ l))
        rw [e2]; tm_at "pk"
  · simp only [List.concat_eq_append] at ok ⊢
    have op := ok.nodes p (by simp)
    have hh : ∀ x, headK (i ++ [p]) x = headK i p.ky := fun x => headK_append _ _ _
    cases post with
    | nil =>
      have e1 : lastR ((m :: (i ++ [p])) ++ [n]) .none = .ref n.a := lastR_snoc _ _ _
      have e2 : lastR (n :: (m :: (i ++ [p])) ++ []) .none = .ref p.a := by rw [List.append_nil, show n :: m :: (i ++ [p]) = (n :: m :: i) ++ [p] from rfl, lastR_snoc]
      have s1 : ∀ l, seg .none ((m :: (i ++ [p])) ++ [n]) .none ++ l = (m.d, nodeP .none (headK i p.ky) m.ky m.vl m.cl) :: (seg (.ref m.a) i p.ky ++ (p.d, nodeP (lastR i (.ref m.a)) n.ky p.ky p.vl p.cl) :: (n.d, nodeP (.ref p.a) .none n.ky n.vl n.cl) :: l) := fun l => by
        rw [List.cons_append]
        simp only [seg, seg_append, headK_append, lastR_append, List.append_assoc, List.cons_append, List.nil_append, headK_cons, headK_nil]
      have s2 : ∀ l, seg .none (n :: (m :: (i ++ [p])) ++ []) .none ++ l = (n.d, nodeP .none m.ky n.ky n.vl n.cl) :: (m.d, nodeP (.ref n.a) (headK i p.ky) m.ky m.vl m.cl) :: (seg (.ref m.a) i p.ky ++ (p.d, nodeP (lastR i (.ref m.a)) .none p.ky p.vl p.cl) :: l) := fun l => by
        rw [List.append_nil]
        simp only [seg, seg_append, headK_append, lastR_append, List.append_assoc, List.cons_append, List.nil_append, headK_cons, headK_nil]
      refine ⟨_, _, (T, liP xs) :: seg (.ref m.a) i p.ky, .pz (p := p) (pvm := .none) (nxm := headK i p.ky) (pvp := lastR i (.ref m.a)) (nxp := n.ky) op.inst, fun l => ?_, fun l => ?_⟩
      · unfold cacheT
        rw [e1, s1]
        refine (perm_cons3 ((perm_mid2 _ _ _ _).cons _)).trans ?_
        show List.Perm ((T, liP xs) :: (cd, cacheP (.ref D) (.ref m.a) (.ref n.a) M F) :: _) (_ :: _ :: _ :: _ :: _ :: _ :: (seg (.ref m.a) i p.ky ++ l))
        tm_at "pk"
      · unfold cacheT
        rw [e2, s2]
        refine List.Perm.trans ?_ (perm_cons3 (((List.perm_middle).cons _).cons _)).symm
        show List.Perm (_ :: _ :: _ :: _ :: _ :: _ :: (seg (.ref m.a) i p.ky ++ l)) ((T, liP xs) :: (cd, cacheP (.ref D) (.ref n.a) (.ref p.a) M F) :: _)
        tm_at "pk"
    | cons q post =>
      obtain ⟨r, hr, e⟩ : ∃ r ∈ q :: post, ∀ pv, lastR (q :: post) pv = .ref r.a := ⟨(q :: post).getLast (by simp), List.getLast_mem _, fun pv => by unfold lastR; rw [List.getLast?_eq_getLast (by simp)]⟩
      have e1 : lastR ((m :: (i ++ [p])) ++ n :: q :: post) .none = .ref r.a := by rw [show (m :: (i ++ [p])) ++ n :: q :: post = ((m :: (i ++ [p])) ++ [n]) ++ (q :: post) from by simp, lastR_append, e]
      have e2 : lastR (n :: (m :: (i ++ [p])) ++ q :: post) .none = .ref r.a := by rw [lastR_append, e]
      have s1 : ∀ l, seg .none ((m :: (i ++ [p])) ++ n :: q :: post) .none ++ l = (m.d, nodeP .none (headK i p.ky) m.ky m.vl m.cl) :: (seg (.ref m.a) i p.ky ++ (p.d, nodeP (lastR i (.ref m.a)) n.ky p.ky p.vl p.cl) :: (n.d, nodeP (.ref p.a) q.ky n.ky n.vl n.cl) :: (q.d, nodeP (.ref n.a) (headK post .none) q.ky q.vl q.cl) :: (seg (.ref q.a) post .none ++ l)) := fun l => by
        rw [List.cons_append]
        simp only [seg, seg_append, headK_append, lastR_append, List.append_assoc, List.cons_append, List.nil_append, headK_cons, headK_nil]
      have s2 : ∀ l, seg .none (n :: (m :: (i ++ [p])) ++ q :: post) .none ++ l = (n.d, nodeP .none m.ky n.ky n.vl n.cl) :: (m.d, nodeP (.ref n.a) (headK i p.ky) m.ky m.vl m.cl) :: (seg (.ref m.a) i p.ky ++ (p.d, nodeP (lastR i (.ref m.a)) q.ky p.ky p.vl p.cl) :: (q.d, nodeP (.ref p.a) (headK post .none) q.ky q.vl q.cl) :: (seg (.ref q.a) post .none ++ l)) := fun l => by
        simp only [seg, seg_append, headK_append, lastR_append, List.append_assoc, List.cons_append, List.nil_append, headK_cons, headK_nil]
      refine ⟨_, _, (T, liP xs) :: (seg (.ref m.a) i p.ky ++ seg (.ref q.a) post .none), .pq (p := p) (q := q) (r := r) (pvm := .none) (nxm := headK i p.ky) (pvp := lastR i (.ref m.a)) (nxp := n.ky) (nxq := headK post .none) op.inst (ok.nodes q (by simp)).inst (ok.nodes r (List.mem_append_right _ (List.mem_cons_of_mem _ hr))).inst (nr r hr) (ok.at (n := q) (by simp)), fun l => ?_, fun l => ?_⟩
      · unfold cacheT
        rw [e1, s1]
        refine (perm_cons3 ((perm_mid3 _ _ _ _ _).cons _)).trans ?_
        show List.Perm ((T, liP xs) :: (cd, cacheP (.ref D) (.ref m.a) (.ref r.a) M F) :: _) (_ :: _ :: _ :: _ :: _ :: _ :: _ :: ((seg (.ref m.a) i p.ky ++ seg (.ref q.a) post .none) ++ l))
        rw [List.append_assoc]
        tm_at "pk"
      · unfold cacheT
        rw [e2, s2]
        refine List.Perm.trans ?_ (perm_cons3 (((perm_mid2 _ _ _ _).cons _).cons _)).symm
        show List.Perm (_ :: _ :: _ :: _ :: _ :: _ :: _ :: ((seg (.ref m.a) i p.ky ++ seg (.ref q.a) post .none) ++ l)) ((T, liP xs) :: (cd, cacheP (.ref D) (.ref n.a) (.ref r.a) M F) :: _)
        rw [List.append_assoc]
        tm_at "pk"

theorem small_ra {n m : Nd} {P P' : List (Addr × HP)} (C : Cx (hd.heap_39 w.params) G) (ic : BIn G c 182 cd) (im : BIn G m.a 46 m.d) (in_ : BIn G n.a 46 n.d) (nm : n.a ≠ m.a) (S : Small prog w G cd D M F kvs n m P P') (hr : Rm A 15) (H : Led G s (P ++ l))
    (h : ∀ s', Led G s' (P' ++ l) → R (.ok (.ret .none)) s') : codeAny (model prog w) A (.call (.ref 142) ⟨[.ref c, .ref n.a], []⟩) R s := by
  cases S with
  | mz => exact ra_mz C ic im in_ nm hr H h
  | mq iq ir nr hq => exact ra_mq C ic im in_ nm iq ir nr hq hr H h
  | pz ip => exact ra_pz C ic im in_ nm ip hr H h
  | pq ip iq ir nr hq => exact ra_pq C ic im in_ nm ip iq ir nr hq hr H h
theorem addr_ne {pre post : List Nd} {n m : Nd} (ok : RowOK G T ((m :: pre) ++ n :: post) kvs) : n.a ≠ m.a := fun e => by
  have h := ok.addrs
  rw [List.cons_append, List.map_cons, List.nodup_cons] at h
  exact h.1 (e ▸ List.mem_map_of_mem (by simp))
theorem c_ra_old {n : Nd} {pre post : List Nd} (C : Cx (hd.heap_39 w.params) G) (ic : BIn G c 182 cd) (ok : RowOK G T (pre ++ n :: post) kvs) (hr : Rm A 15) (H : Led G s (cacheT prog w T xs cd D M F (pre ++ n :: post) kvs l))
    (h : ∀ s', Led G s' (cacheT prog w T xs cd D M F (n :: pre ++ post) kvs l) → R (.ok (.ret .none)) s') : codeAny (model prog w) A (.call (.ref 142) ⟨[.ref c, .ref n.a], []⟩) R s := by
  cases pre with
  | nil =>
    have H1 : Led G s ((T, liP xs) :: (cd, cacheP (.ref D) (.ref n.a) (lastR (n :: post) .none) M F) :: (D, idP prog w kvs) :: (seg .none (n :: post) .none ++ l)) := H
    refine ra_same C ic hr (Led.perm H1 (by tm_at "pk")) fun s' H' => h s' ?_
    exact Led.perm H' (by show List.Perm _ ((T, liP xs) :: (cd, cacheP (.ref D) (.ref n.a) (lastR (n :: post) .none) M F) :: (D, idP prog w kvs) :: (seg .none (n :: post) .none ++ l)); tm_at "pk")
  | cons m pre =>
    obtain ⟨P, P', Z, S, h1, h2⟩ := move_small (prog := prog) (w := w) (cd := cd) (D := D) (M := M) (F := F) (xs := xs) ok
    exact small_ra C ic (ok.nodes m (by simp)).inst (ok.nodes n (by simp)).inst (addr_ne ok) S hr (H.perm (h1 l)) fun s' H' => h s' (H'.perm (h2 l))
theorem c_ra_new {n : Nd} (C : Cx (hd.heap_39 w.params) G) (ic : BIn G c 182 cd) (ok : RowOK G T ns kvs) (in_ : BIn G n.a 46 n.d) (hn : ∀ m ∈ ns, n.a ≠ m.a) {kvs' : List (Int × Value)} (hr : Rm A 15)
    (H : Led G s ((n.d, nodeP .none .none n.ky n.vl n.cl) :: cacheT prog w T xs cd D M F ns kvs' l))
    (h : ∀ s', Led G s' (cacheT prog w T xs cd D M F (n :: ns) kvs' l) → R (.ok (.ret .none)) s') : codeAny (model prog w) A (.call (.ref 142) ⟨[.ref c, .ref n.a], []⟩) R s := by
  cases ns with
  | nil =>
    have H1 : Led G s ((n.d, nodeP .none .none n.ky n.vl n.cl) :: (T, liP xs) :: (cd, cacheP (.ref D) .none .none M F) :: (D, idP prog w kvs') :: l) := H
    refine ra_empty C ic hr (Led.perm H1 (by tm_at "pk")) fun s' H' => h s' ?_
    exact Led.perm H' (by show List.Perm _ ((T, liP xs) :: (cd, cacheP (.ref D) (.ref n.a) (.ref n.a) M F) :: (D, idP prog w kvs') :: (n.d, nodeP .none .none n.ky n.vl n.cl) :: l); tm_at "pk")
  | cons m r =>
    obtain ⟨q, hq, e⟩ : ∃ q ∈ m :: r, ∀ pv, lastR (m :: r) pv = .ref q.a := ⟨(m :: r).getLast (by simp), List.getLast_mem _, fun pv => by unfold lastR; rw [List.getLast?_eq_getLast (by simp)]⟩
    have H1 : Led G s ((n.d, nodeP .none .none n.ky n.vl n.cl) :: (T, liP xs) :: (cd, cacheP (.ref D) (.ref m.a) (lastR (m :: r) .none) M F) :: (D, idP prog w kvs') :: (m.d, nodeP .none (headK r .none) m.ky m.vl m.cl) :: (seg (.ref m.a) r .none ++ l)) := H
    rw [e] at H1
    refine ra_new (q := q.a) C ic (ok.nodes m (by simp)).inst (ok.nodes q hq).inst in_ (hn m (by simp)) (hn q hq) hr (Led.perm H1 (by tm_at "pk")) fun s' H' => h s' ?_
    have H2 : Led G s' ((T, liP xs) :: (cd, cacheP (.ref D) (.ref n.a) (.ref q.a) M F) :: (D, idP prog w kvs') :: (n.d, nodeP .none m.ky n.ky n.vl n.cl) :: (m.d, nodeP (.ref n.a) (headK r .none) m.ky m.vl m.cl) :: (seg (.ref m.a) r .none ++ l)) := Led.perm H' (by tm_at "pk")
    show Led G s' ((T, liP xs) :: (cd, cacheP (.ref D) (.ref n.a) (lastR (n :: m :: r) .none) M F) :: (D, idP prog w kvs') :: (n.d, nodeP .none m.ky n.ky n.vl n.cl) :: (m.d, nodeP (.ref n.a) (headK r .none) m.ky m.vl m.cl) :: (seg (.ref m.a) r .none ++ l))
    rw [show n :: m :: r = [n] ++ (m :: r) from rfl, lastR_append, e]
    exact H2
end
section
theorem fill5 : (PySem.Challenge.rw_kj0013_01, hd.heap_39) = (PySem.Challenge.rw_kj0013_01, hd.heap_39) := by k_fill; rfl

section
variable {prog : Program} {w : World} {A : Around} {R : Result → Shared → Prop} {s : Shared} {G : Gh} {l l' : List (Addr × HP)} {c cd n nd m md p pd q qd r rd D : Addr} {M F : Value} {k kq km kp : Int} {t t' tq tm tp : Tok} {vl lru : Value} {kvs : List (Int × Value)}
local macro_rules | `(tactic| tm_at "user") => `(tactic| (refine wpAny_call (c_cast (by assumption) (by assumption) (Rm.le (by assumption) (by decide)) ?_); intro _ _))

theorem gi_same {pvn nxn cl : Value} (C : Cx (hd.heap_39 w.params) G) (ic : BIn G c 182 cd) (in_ : BIn G n 46 nd) (hk : valueAt kvs k = some (.ref n)) (hv : handedIn vl = true) (hr : Rm A 15) (H : Led G s ((cd, cacheP (.ref D) (.ref n) lru M F) :: (nd, nodeP pvn nxn (.int k t) vl cl) :: (D, idP prog w kvs) :: l))
    (h : ∀ s', Led G s' ((cd, cacheP (.ref D) (.ref n) lru M F) :: (nd, nodeP pvn nxn (.int k t) vl cl) :: (D, idP prog w kvs) :: l) → R (.ok (.ret vl)) s') : codeAny (model prog w) A (.call (.ref 79) ⟨[.ref c, .int k t'], []⟩) R s := by
  refine enterQ (K := hd.heap_39 w.params) (binds := [(Str.ofString "self", .ref c), (Str.ofString "key", .int k t')]) C H hr (by k_is) (by kernel_rfl) (BindsTo.of_eq (by kernel_rfl)) rfl rfl rfl (by kernel_rfl) (by kernel_rfl) (by kernel_rfl) ?_
  intro L s₁ A' Q E hQ hr H
  repeat tm_at "go"
  exact h _ (Led.drop (L := L) (by with_reducible assumption) (by tm_at "ex") (by tm_at "pk"))

theorem gi_mq {pvm nxm vlm clm nxq vlq clq cl : Value} (C : Cx (hd.heap_39 w.params) G) (ic : BIn G c 182 cd) (in_ : BIn G n 46 nd) (hk : valueAt kvs k = some (.ref n)) (hv : handedIn vl = true) (im : BIn G m 46 md) (nm : n ≠ m) (iq : BIn G q 46 qd) (hq : valueAt kvs kq = some (.ref q)) (hr : Rm A 15) (H : Led G s ((cd, cacheP (.ref D) (.ref m) (.ref r) M F) :: (nd, nodeP (.ref m) (.int kq tq) (.int k t) vl cl) :: (md, nodeP pvm nxm (.int km tm) vlm clm) :: (qd, nodeP (.ref n) nxq (.int kq tq) vlq clq) :: (D, idP prog w kvs) :: l))
    (h : ∀ s', Led G s' ((cd, cacheP (.ref D) (.ref n) (.ref r) M F) :: (nd, nodeP .none (.int km tm) (.int k t) vl cl) :: (md, nodeP (.ref n) (.int kq tq) (.int km tm) vlm clm) :: (qd, nodeP (.ref m) nxq (.int kq tq) vlq clq) :: (D, idP prog w kvs) :: l) → R (.ok (.ret vl)) s') : codeAny (model prog w) A (.call (.ref 79) ⟨[.ref c, .int k t'], []⟩) R s := by
  refine enterQ (K := hd.heap_39 w.params) (binds := [(Str.ofString "self", .ref c), (Str.ofString "key", .int k t')]) C H hr (by k_is) (by kernel_rfl) (BindsTo.of_eq (by kernel_rfl)) rfl rfl rfl (by kernel_rfl) (by kernel_rfl) (by kernel_rfl) ?_
  intro L s₁ A' Q E hQ hr H
  repeat tm_at "go"
  exact h _ (Led.drop (L := L) (by with_reducible assumption) (by tm_at "ex") (by tm_at "pk"))

theorem gi_mz {pvm nxm vlm clm cl : Value} (C : Cx (hd.heap_39 w.params) G) (ic : BIn G c 182 cd) (in_ : BIn G n 46 nd) (hk : valueAt kvs k = some (.ref n)) (hv : handedIn vl = true) (im : BIn G m 46 md) (nm : n ≠ m) (hr : Rm A 15) (H : Led G s ((cd, cacheP (.ref D) (.ref m) (.ref n) M F) :: (nd, nodeP (.ref m) .none (.int k t) vl cl) :: (md, nodeP pvm nxm (.int km tm) vlm clm) :: (D, idP prog w kvs) :: l))
    (h : ∀ s', Led G s' ((cd, cacheP (.ref D) (.ref n) (.ref m) M F) :: (nd, nodeP .none (.int km tm) (.int k t) vl cl) :: (md, nodeP (.ref n) .none (.int km tm) vlm clm) :: (D, idP prog w kvs) :: l) → R (.ok (.ret vl)) s') : codeAny (model prog w) A (.call (.ref 79) ⟨[.ref c, .int k t'], []⟩) R s := by
  refine enterQ (K := hd.heap_39 w.params) (binds := [(Str.ofString "self", .ref c), (Str.ofString "key", .int k t')]) C H hr (by k_is) (by kernel_rfl) (BindsTo.of_eq (by kernel_rfl)) rfl rfl rfl (by kernel_rfl) (by kernel_rfl) (by kernel_rfl) ?_
  intro L s₁ A' Q E hQ hr H
  repeat tm_at "go"
  exact h _ (Led.drop (L := L) (by with_reducible assumption) (by tm_at "ex") (by tm_at "pk"))

theorem gi_pq {pvm nxm vlm clm pvp nxp vlp clp nxq vlq clq cl : Value} (C : Cx (hd.heap_39 w.params) G) (ic : BIn G c 182 cd) (in_ : BIn G n 46 nd) (hk : valueAt kvs k = some (.ref n)) (hv : handedIn vl = true) (im : BIn G m 46 md) (nm : n ≠ m) (ip : BIn G p 46 pd) (iq : BIn G q 46 qd) (hq : valueAt kvs kq = some (.ref q)) (hr : Rm A 15) (H : Led G s ((cd, cacheP (.ref D) (.ref m) (.ref r) M F) :: (nd, nodeP (.ref p) (.int kq tq) (.int k t) vl cl) :: (md, nodeP pvm nxm (.int km tm) vlm clm) :: (pd, nodeP pvp nxp (.int kp tp) vlp clp) :: (qd, nodeP (.ref n) nxq (.int kq tq) vlq clq) :: (D, idP prog w kvs) :: l))
    (h : ∀ s', Led G s' ((cd, cacheP (.ref D) (.ref n) (.ref r) M F) :: (nd, nodeP .none (.int km tm) (.int k t) vl cl) :: (md, nodeP (.ref n) nxm (.int km tm) vlm clm) :: (pd, nodeP pvp (.int kq tq) (.int kp tp) vlp clp) :: (qd, nodeP (.ref p) nxq (.int kq tq) vlq clq) :: (D, idP prog w kvs) :: l) → R (.ok (.ret vl)) s') : codeAny (model prog w) A (.call (.ref 79) ⟨[.ref c, .int k t'], []⟩) R s := by
  refine enterQ (K := hd.heap_39 w.params) (binds := [(Str.ofString "self", .ref c), (Str.ofString "key", .int k t')]) C H hr (by k_is) (by kernel_rfl) (BindsTo.of_eq (by kernel_rfl)) rfl rfl rfl (by kernel_rfl) (by kernel_rfl) (by kernel_rfl) ?_
  intro L s₁ A' Q E hQ hr H
  repeat tm_at "go"
  exact h _ (Led.drop (L := L) (by with_reducible assumption) (by tm_at "ex") (by tm_at "pk"))

theorem gi_pz {pvm nxm vlm clm pvp nxp vlp clp cl : Value} (C : Cx (hd.heap_39 w.params) G) (ic : BIn G c 182 cd) (in_ : BIn G n 46 nd) (hk : valueAt kvs k = some (.ref n)) (hv : handedIn vl = true) (im : BIn G m 46 md) (nm : n ≠ m) (ip : BIn G p 46 pd) (hr : Rm A 15) (H : Led G s ((cd, cacheP (.ref D) (.ref m) (.ref n) M F) :: (nd, nodeP (.ref p) .none (.int k t) vl cl) :: (md, nodeP pvm nxm (.int km tm) vlm clm) :: (pd, nodeP pvp nxp (.int kp tp) vlp clp) :: (D, idP prog w kvs) :: l))
    (h : ∀ s', Led G s' ((cd, cacheP (.ref D) (.ref n) (.ref p) M F) :: (nd, nodeP .none (.int km tm) (.int k t) vl cl) :: (md, nodeP (.ref n) nxm (.int km tm) vlm clm) :: (pd, nodeP pvp .none (.int kp tp) vlp clp) :: (D, idP prog w kvs) :: l) → R (.ok (.ret vl)) s') : codeAny (model prog w) A (.call (.ref 79) ⟨[.ref c, .int k t'], []⟩) R s := by
  refine enterQ (K := hd.heap_39 w.params) (binds := [(Str.ofString "self", .ref c), (Str.ofString "key", .int k t')]) C H hr (by k_is) (by kernel_rfl) (BindsTo.of_eq (by kernel_rfl)) rfl rfl rfl (by kernel_rfl) (by kernel_rfl) (by kernel_rfl) ?_
  intro L s₁ A' Q E hQ hr H
  repeat tm_at "go"
  exact h _ (Led.drop (L := L) (by with_reducible assumption) (by tm_at "ex") (by tm_at "pk"))

end
end
theorem fill6 : (PySem.Challenge.rw_kj0013_01, hd.heap_39) = (PySem.Challenge.rw_kj0013_01, hd.heap_39) := by k_fill; rfl

section
variable {prog : Program} {w : World} {A : Around} {R : Result → Shared → Prop} {s : Shared} {G : Gh} {l l' : List (Addr × HP)} {c cd n nd D T : Addr} {M F : Value} {k : Int} {t : Tok} {vl cl ky : Value} {kvs : List (Int × Value)} {xs : List Value} {ns : List Nd}

theorem c_ninit  (C : Cx (hd.heap_39 w.params) G) (hr : Rm A 5) (H : Led G s ((n, inP 46 nd) :: (nd, adP 0 (lk [])) :: l))
    (h : ∀ s', Led G s' ((n, inP 46 nd) :: (nd, nodeP .none .none ky vl cl) :: l) → R (.ok (.ret .none)) s') : codeAny (model prog w) A (.call (.ref 36) ⟨[.ref n, ky, vl], [(Str.ofString "cleanup", cl)]⟩) R s := by
  refine enterQ (K := hd.heap_39 w.params) (binds := [(Str.ofString "self", .ref n), (Str.ofString "key", ky), (Str.ofString "value", vl), (Str.ofString "cleanup", cl)]) C H hr (by k_is) (by kernel_rfl) (binds_K (C.K H) rfl (by k_is) rfl rfl rfl) rfl rfl rfl (by kernel_rfl) (by kernel_rfl) (by kernel_rfl) ?_
  intro L s₁ A' Q E hQ hr H
  repeat tm_at "go"
  have H9 := Led.tl ‹Led G _ _›
  exact h _ (H9.repl (.tail .head) (fun o q => adP_rev (vars := nodeL .none .none ky vl cl) (by kernel_rfl) o q))

/-- a node made -/
theorem c_mknode (C : Cx (hd.heap_39 w.params) G) (hr : Rm A 7) (H : Led G s l) (h : ∀ x dx s', Led G s' ((x, inP 46 dx) :: (dx, nodeP .none .none ky vl cl) :: l) → R (.ok (.ret (.ref x))) s') :
    codeAny (model prog w) A (.call (.ref 46) ⟨[ky, vl], [(Str.ofString "cleanup", cl)]⟩) R s := by
  refine mk_inst (K := hd.heap_39 w.params) (fI := 36) C H (by k_is) (by k_is) (by k_is) fun x dx s' H' => ?_
  exact c_ninit C (Rm.make (hr.le (by decide : 6 ≤ 7))) H' fun s'' H'' => ⟨rfl, h x dx s'' H''⟩
/-- an entry taken into the base -/
structure Gh.le (G G' : Gh) : Prop where
  base : ∀ b o, G.g.get? b = some o → G'.g.get? b = some o
  gens : G'.gens = G.gens
  drawn : G'.drawn = G.drawn
  os : G'.os = G.os
theorem Led.promote {p : Addr × HP} (H : Led G s (p :: l)) : ∃ G', G.le G' ∧ Led G' s l ∧ ∃ o, G'.g.get? p.1 = some o ∧ p.2 o := by
  have H1 : Led G s (l ++ [p]) := H.perm (List.perm_append_comm (l₁ := [p]))
  have H2 := H1.focus
  refine ⟨_, ⟨(H.tl).base, by first | rfl | exact H.gens, by first | rfl | exact H.drawn, by first | rfl | exact H.os⟩, H2, ?_⟩
  obtain ⟨_, o, e, q⟩ := H.at_ p (.head _)
  refine ⟨o, hideAll_get _ e fun hm => ?_, q⟩
  have nd := H.nd
  simp only [List.map_cons, List.nodup_cons] at nd
  exact nd.1 hm

theorem c_contains {mru lru : Value} {b : Bool} (C : Cx (hd.heap_39 w.params) G) (ic : BIn G c 182 cd) (lo : (D == sysModules) = false) (hb : (valueAt kvs k).isSome = b) (hr : Rm A 5) (H : Led G s ((cd, cacheP (.ref D) mru lru M F) :: (D, idP prog w kvs) :: l))
    (h : ∀ s', Led G s' ((cd, cacheP (.ref D) mru lru M F) :: (D, idP prog w kvs) :: l) → R (.ok (.ret (.bool b))) s') : codeAny (model prog w) A (.call (.ref 72) ⟨[.ref c, .int k t], []⟩) R s := by
  refine enterQ (K := hd.heap_39 w.params) (binds := [(Str.ofString "self", .ref c), (Str.ofString "key", .int k t)]) C H hr (by k_is) (by kernel_rfl) (BindsTo.of_eq (by kernel_rfl)) rfl rfl rfl (by kernel_rfl) (by kernel_rfl) (by kernel_rfl) ?_
  intro L s₁ A' Q E hQ hr H
  repeat tm_at "go"
  exact h _ (Led.tl (by assumption))

theorem c_len {mru lru : Value} (C : Cx (hd.heap_39 w.params) G) (ic : BIn G c 182 cd) (lo : (D == sysModules) = false) (hl : kvs.length ≤ 1000) (hr : Rm A 5) (H : Led G s ((cd, cacheP (.ref D) mru lru M F) :: (D, idP prog w kvs) :: l))
    (h : ∀ t s', Led G s' ((cd, cacheP (.ref D) mru lru M F) :: (D, idP prog w kvs) :: l) → R (.ok (.ret (.int kvs.length t))) s') : codeAny (model prog w) A (.call (.ref 86) ⟨[.ref c], []⟩) R s := by
  refine enterQ (K := hd.heap_39 w.params) (binds := [(Str.ofString "self", .ref c)]) C H hr (by k_is) (by kernel_rfl) (BindsTo.of_eq (by kernel_rfl)) rfl rfl rfl (by kernel_rfl) (by kernel_rfl) (by kernel_rfl) ?_
  intro L s₁ A' Q E hQ hr H
  repeat tm_at "go"
  exact h _ _ (Led.tl (by assumption))

theorem c_size {mru lru : Value} (C : Cx (hd.heap_39 w.params) G) (ic : BIn G c 182 cd) (hM : handedIn M = true) (hr : Rm A 5) (H : Led G s ((cd, cacheP (.ref D) mru lru M F) :: l))
    (h : ∀ s', Led G s' ((cd, cacheP (.ref D) mru lru M F) :: l) → R (.ok (.ret M)) s') : codeAny (model prog w) A (.call (.ref 101) ⟨[.ref c], []⟩) R s := by
  refine enterQ (K := hd.heap_39 w.params) (binds := [(Str.ofString "self", .ref c)]) C H hr (by k_is) (by kernel_rfl) (BindsTo.of_eq (by kernel_rfl)) rfl rfl rfl (by kernel_rfl) (by kernel_rfl) (by kernel_rfl) ?_
  intro L s₁ A' Q E hQ hr H
  repeat tm_at "go"
  exact h _ (Led.tl (by assumption))

theorem small_gi {n m : Nd} {P P' : List (Addr × HP)} {t' : Tok} (C : Cx (hd.heap_39 w.params) G) (ic : BIn G c 182 cd) (im : BIn G m.a 46 m.d) (in_ : BIn G n.a 46 n.d) (hk : valueAt kvs n.k = some (.ref n.a)) (hv : handedIn n.vl = true) (nm : n.a ≠ m.a) (S : Small prog w G cd D M F kvs n m P P') (hr : Rm A 15) (H : Led G s (P ++ l))
    (h : ∀ s', Led G s' (P' ++ l) → R (.ok (.ret n.vl)) s') : codeAny (model prog w) A (.call (.ref 79) ⟨[.ref c, .int n.k t'], []⟩) R s := by
  cases S with
  | mz => exact gi_mz C ic in_ hk hv im nm hr H h
  | mq iq ir nr hq => exact gi_mq C ic in_ hk hv im nm iq hq hr H h
  | pz ip => exact gi_pz C ic in_ hk hv im nm ip hr H h
  | pq ip iq ir nr hq => exact gi_pq C ic in_ hk hv im nm ip iq hq hr H h
theorem c_gi {n : Nd} {pre post : List Nd} {t' : Tok} (C : Cx (hd.heap_39 w.params) G) (ic : BIn G c 182 cd) (ok : RowOK G T (pre ++ n :: post) kvs) (hr : Rm A 15) (H : Led G s (cacheT prog w T xs cd D M F (pre ++ n :: post) kvs l))
    (h : ∀ s', Led G s' (cacheT prog w T xs cd D M F (n :: pre ++ post) kvs l) → R (.ok (.ret n.vl)) s') : codeAny (model prog w) A (.call (.ref 79) ⟨[.ref c, .int n.k t'], []⟩) R s := by
  have on := ok.nodes n (by simp)
  have hk := ok.at (n := n) (by simp)
  cases pre with
  | nil =>
    have H1 : Led G s ((T, liP xs) :: (cd, cacheP (.ref D) (.ref n.a) (lastR (n :: post) .none) M F) :: (D, idP prog w kvs) :: (n.d, nodeP .none (headK post .none) n.ky n.vl n.cl) :: (seg (.ref n.a) post .none ++ l)) := H
    refine gi_same C ic on.inst hk on.hv hr (Led.perm H1 (by tm_at "pk")) fun s' H' => h s' ?_
    exact Led.perm H' (by show List.Perm _ ((T, liP xs) :: (cd, cacheP (.ref D) (.ref n.a) (lastR (n :: post) .none) M F) :: (D, idP prog w kvs) :: (n.d, nodeP .none (headK post .none) n.ky n.vl n.cl) :: (seg (.ref n.a) post .none ++ l)); tm_at "pk")
  | cons m pre =>
    obtain ⟨P, P', Z, S, h1, h2⟩ := move_small (prog := prog) (w := w) (cd := cd) (D := D) (M := M) (F := F) (xs := xs) ok
    exact small_gi C ic (ok.nodes m (by simp)).inst on.inst hk on.hv (addr_ne ok) S hr (H.perm (h1 l)) fun s' H' => h s' (H'.perm (h2 l))

end
section
theorem fill7 : (PySem.Challenge.rw_kj0013_01, hd.heap_39) = (PySem.Challenge.rw_kj0013_01, hd.heap_39) := by k_fill; rfl
section
variable {prog : Program} {w : World} {A : Around} {R : Result → Shared → Prop} {s : Shared} {G : Gh} {l l' : List (Addr × HP)} {c cd D T : Addr} {M F : Value} {kvs : List (Int × Value)} {xs : List Value} {ns : List Nd}
/-- what the row shows of a node -/
def Nd.e (n : Nd) : Int × Value × Bool := (n.k, n.vl, n.cl != .none)
abbrev Row := List (Int × Value × Bool)
def rowTells (r : Row) : List (Int × Value) := (r.filter fun e => e.2.2).map fun e => (e.1, e.2.1)
def rowPut (r : Row) (k : Int) (v : Value) (b : Bool) (M F : Int) : Row × List (Int × Value) :=
  let r1 := (k, v, b) :: r.filter (fun e => e.1 != k)
  let g1 := rowTells (r.filter fun e => e.1 == k)
  if M < r1.length then (r1.take F.toNat, g1 ++ rowTells (r1.drop F.toNat).reverse) else (r1, g1)
theorem tells_row (ns : List Nd) : tells ns = rowTells (ns.map Nd.e) := by
  simp only [tells, rowTells, List.filter_map, List.map_map]; rfl
theorem Gh.le.refl {G : Gh} : G.le G := ⟨fun _ _ e => e, rfl, rfl, rfl⟩
theorem Gh.le.trans {G G' G'' : Gh} (a : G.le G') (b : G'.le G'') : G.le G'' := ⟨fun x o e => b.base x o (a.base x o e), b.gens.trans a.gens, b.drawn.trans a.drawn, b.os.trans a.os⟩
theorem Cx.le {K : Frag} {G G' : Gh} (C : Cx K G) (h : G.le G') : Cx K G' := C.mono h.base
theorem xpose (pre post : List Nd) (n : Nd) : ∃ p x f r Z, (headK pre n.ky = headK pre n.ky) ∧ ∀ vl cl xs kvs l, (cacheT prog w T xs cd D M F (pre ++ { n with vl := vl, cl := cl } :: post) kvs l).Perm
    ((n.d, nodeP p x n.ky vl cl) :: (T, liP xs) :: (cd, cacheP (.ref D) f r M F) :: (D, idP prog w kvs) :: (Z ++ l)) := by
  refine ⟨lastR pre .none, headK post .none, firstR (pre ++ n :: post) .none, lastR (pre ++ n :: post) .none, seg .none pre n.ky ++ seg (.ref n.a) post .none, rfl, fun vl cl xs kvs l => ?_⟩
  have e1 : firstR (pre ++ { n with vl := vl, cl := cl } :: post) .none = firstR (pre ++ n :: post) .none := by cases pre <;> rfl
  have e2 : lastR (pre ++ { n with vl := vl, cl := cl } :: post) .none = lastR (pre ++ n :: post) .none := by rw [lastR_append, lastR_append, lastR_cons, lastR_cons]
  have e3 : seg .none (pre ++ { n with vl := vl, cl := cl } :: post) .none ++ l = seg .none pre n.ky ++ (n.d, nodeP (lastR pre .none) (headK post .none) n.ky vl cl) :: (seg (.ref n.a) post .none ++ l) := by
    rw [seg_append, List.append_assoc]; rfl
  unfold cacheT
  rw [e1, e2, e3, List.append_assoc]
  exact (((List.perm_middle.cons _).cons _).cons _).trans (List.perm_middle (l₁ := [_, _, _]))
theorem c_rc {n : Nd} {p x : Value} (C : Cx (hd.heap_39 w.params) G) (on : NdOK G T n) (hz : xs.length ≤ 900) (hr : Rm A 10) (H : Led G s ((n.d, nodeP p x n.ky n.vl n.cl) :: (T, liP xs) :: l))
    (h : ∀ nw s', pairs nw = tells [n] → Led G s' ((n.d, nodeP p x n.ky .none .none) :: (T, liP (xs ++ refs nw)) :: (tupL nw ++ l)) → R (.ok (.ret .none)) s') : codeAny (model prog w) A (.call (.ref 43) ⟨[.ref n.a], []⟩) R s := by
  rcases on.cl with hc | ⟨f, hc, hf⟩ <;> rw [hc] at H
  · refine rc_none C on.inst hr H fun s' H' => ?_
    refine h [] s' (by rw [tells_one_none hc]; rfl) ?_
    rw [show xs ++ refs [] = xs by simp [refs]]
    exact H'
  · refine rc_tell (T := T) (f := f) C on.inst on.hv hf hz hr H fun x s' H' => ?_
    refine h [⟨x, n.k, n.t, n.vl⟩] s' (by rw [tells_one_ref hc]; rfl) ?_
    exact Led.perm H' (List.perm_middle (l₁ := [_, _]) (l₂ := l)).symm
theorem RowOK.turn {n : Nd} {pre post : List Nd} {v cl : Value} (ok : RowOK G T (pre ++ n :: post) kvs) (hv : handedIn v = true) (hcl : cl = .none ∨ ∃ f, cl = .ref f ∧ TellFn G f T) : RowOK G T (pre ++ { n with vl := v, cl := cl } :: post) kvs := by
  refine ⟨fun m hm => ?_, by simpa using ok.addrs, by simpa using ok.keys, by simpa [keysOf] using ok.perm⟩
  simp only [List.mem_append, List.mem_cons] at hm
  rcases hm with hm | rfl | hm
  · exact ok.nodes m (by simp [hm])
  · exact ⟨(ok.nodes n (by simp)).inst, hv, hcl⟩
  · exact ok.nodes m (by simp [hm])
theorem RowOK.swap {n : Nd} {pre post : List Nd} (ok : RowOK G T (pre ++ n :: post) kvs) : RowOK G T (n :: pre ++ post) kvs := by
  have p : (pre ++ n :: post).Perm (n :: pre ++ post) := List.perm_middle
  exact ⟨fun m hm => ok.nodes m (p.mem_iff.mpr hm), (p.map _).nodup_iff.mp ok.addrs, (p.map _).nodup_iff.mp ok.keys, ok.perm.trans (p.map _)⟩
theorem RowOK.new {n : Nd} (ok : RowOK G T ns kvs) (on : NdOK G T n) (ha : ∀ m ∈ ns, n.a ≠ m.a) (hk : n.k ∉ ns.map Nd.k) : RowOK G T (n :: ns) (stored kvs n.k (.ref n.a)) := by
  refine ⟨fun m hm => ?_, ?_, ?_, ?_⟩
  · rcases List.mem_cons.mp hm with rfl | hm
    · exact on
    · exact ok.nodes m hm
  · rw [List.map_cons, List.nodup_cons]
    refine ⟨fun h => ?_, ok.addrs⟩
    obtain ⟨m, hm, e⟩ := List.mem_map.mp h
    exact ha m hm e.symm
  · rw [List.map_cons, List.nodup_cons]; exact ⟨hk, ok.keys⟩
  · rw [stored_absent (ok.no hk)]
    exact List.perm_append_comm.trans (ok.perm.cons _)
local macro_rules | `(tactic| tm_at "user") => `(tactic| fail)
def AddArgs (w : World) (args : Args) (c : Addr) (ky v cl : Value) : Prop := ∀ (s : Shared) (fd : FuncData) (oc : Value) (od : Option Addr) (osl : Array (Option Value)),
  (hd.heap_39 w.params).lookup 94 = some ⟨oc, od, .func fd, osl⟩ → (hd.heap_39 w.params).In s.heap → BindsTo s fd args [(Str.ofString "self", .ref c), (Str.ofString "key", ky), (Str.ofString "value", v), (Str.ofString "cleanup", cl)]
theorem filter_self {r : Row} {k : Int} (h : k ∉ r.map Prod.fst) : (r.filter fun e => e.1 != k) = r ∧ (r.filter fun e => e.1 == k) = [] := by
  constructor
  · rw [List.filter_eq_self]
    intro e he
    simp only [bne_iff_ne]
    rintro rfl
    exact h (List.mem_map_of_mem he)
  · rw [List.filter_eq_nil_iff]
    intro e he
    simp only [beq_iff_eq]
    rintro rfl
    exact h (List.mem_map_of_mem he)
theorem perm_in3 {α : Type} (X Z l : List α) (a b c : α) : (X ++ a :: b :: c :: (Z ++ l)).Perm (a :: b :: c :: (Z ++ (X ++ l))) :=
  List.perm_middle.trans ((List.perm_middle.trans ((List.perm_middle.trans ((List.perm_append_comm_assoc X Z l).cons _)).cons _)).cons _)
theorem rowPut_old {pre post : List Nd} {n : Nd} {v cl : Value} {M F : Int} (hk : ((pre ++ n :: post).map Nd.k).Nodup) {X : Row × List (Int × Value)}
    (hX : X = if M < (pre ++ n :: post).length then ((({ n with vl := v, cl := cl } :: pre ++ post).take F.toNat).map Nd.e, tells [n] ++ tells (({ n with vl := v, cl := cl } :: pre ++ post).drop F.toNat).reverse) else (({ n with vl := v, cl := cl } :: pre ++ post).map Nd.e, tells [n])) :
    X = rowPut ((pre ++ n :: post).map Nd.e) n.k v (cl != .none) M F := by
  subst hX
  have e0 : ((pre ++ n :: post).map Nd.e).filter (fun e => e.1 != n.k) = (pre ++ post).map Nd.e ∧ ((pre ++ n :: post).map Nd.e).filter (fun e => e.1 == n.k) = [n.e] := by
    have hk2 : n.k ∉ (pre ++ post).map Nd.k := by
      have := ((List.perm_middle (l₁ := pre) (a := n) (l₂ := post)).map Nd.k).nodup_iff.mp hk
      rw [List.map_cons, List.nodup_cons] at this
      exact this.1
    have h1 : n.k ∉ (pre.map Nd.e).map Prod.fst := fun h => hk2 (by rw [List.map_map] at h; rw [List.map_append]; exact List.mem_append_left _ h)
    have h2 : n.k ∉ (post.map Nd.e).map Prod.fst := fun h => hk2 (by rw [List.map_map] at h; rw [List.map_append]; exact List.mem_append_right _ h)
    rw [List.map_append, List.map_cons, List.filter_append, List.filter_cons, List.filter_append, List.filter_cons, (filter_self h1).1, (filter_self h1).2, (filter_self h2).1, (filter_self h2).2]
    simp [Nd.e]
  unfold rowPut
  rw [e0.1, e0.2]
  have e1 : (n.k, v, cl != Value.none) :: (pre ++ post).map Nd.e = ({ n with vl := v, cl := cl } :: pre ++ post).map Nd.e := rfl
  rw [e1]
  have e2 : (({ n with vl := v, cl := cl } :: pre ++ post).map Nd.e).length = (pre ++ n :: post).length := by simp; omega
  simp only [e2, tells_row, List.map_take, List.map_drop, List.map_reverse]
  rfl
theorem rowPut_new {n : Nd} {M F : Int} (hk : n.k ∉ ns.map Nd.k) {X : Row × List (Int × Value)}
    (hX : X = if M < (n :: ns).length then (((n :: ns).take F.toNat).map Nd.e, tells ((n :: ns).drop F.toNat).reverse) else ((n :: ns).map Nd.e, [])) :
    X = rowPut (ns.map Nd.e) n.k n.vl (n.cl != .none) M F := by
  subst hX
  have h1 : n.k ∉ (ns.map Nd.e).map Prod.fst := fun h => hk (by rw [List.map_map] at h; exact h)
  unfold rowPut
  rw [(filter_self h1).1, (filter_self h1).2]
  have e1 : (n.k, n.vl, n.cl != Value.none) :: ns.map Nd.e = (n :: ns).map Nd.e := rfl
  rw [e1]
  simp only [tells_row, List.map_take, List.map_drop, List.map_reverse, List.length_map]
  rfl
theorem toT2 {p q : Addr × HP} {M F : Value} (H : Led G s (q :: p :: cacheT prog w T xs cd D M F ns kvs l)) : Led G s (q :: cacheT prog w T xs cd D M F ns kvs (p :: l)) :=
  H.perm ((List.perm_middle (l₁ := (T, liP xs) :: (cd, cacheP (.ref D) (firstR ns .none) (lastR ns .none) M F) :: (D, idP prog w kvs) :: seg .none ns .none)).symm.cons _)
theorem pairs_len {nw : List Tl} {ns : List Nd} (h : pairs nw = tells ns) : nw.length ≤ ns.length := by
  have h1 := congrArg List.length h
  have h2 := tells_len ns
  simp only [pairs, List.length_map] at h1
  omega
theorem c_add {Mi Fi k : Int} {tM tF t : Tok} {v cl : Value} {args : Args} (C : Cx (hd.heap_39 w.params) G) (ic : BIn G c 182 cd) (lo : (D == sysModules) = false) (ok : RowOK G T ns kvs) (hz : xs.length + ns.length ≤ 800) (hF : 0 ≤ Fi) (hv : handedIn v = true)
    (hcl : cl = .none ∨ ∃ f, cl = .ref f ∧ TellFn G f T) (hb : AddArgs w args c (.int k t) v cl) (hr : Rm A 30) (H : Led G s (cacheT prog w T xs cd D (.int Mi tM) (.int Fi tF) ns kvs l))
    (h : ∀ G' nw ns' kvs' s', G.le G' → RowOK G' T ns' kvs' → (ns'.map Nd.e, pairs nw) = rowPut (ns.map Nd.e) k v (cl != .none) Mi Fi →
      Led G' s' (cacheT prog w T (xs ++ refs nw) cd D (.int Mi tM) (.int Fi tF) ns' kvs' (tupL nw ++ l)) → R (.ok (.ret .none)) s') :
    codeAny (model prog w) A (.call (.ref 94) args) R s := by
  refine enterQ (K := hd.heap_39 w.params) (binds := [(Str.ofString "self", .ref c), (Str.ofString "key", .int k t), (Str.ofString "value", v), (Str.ofString "cleanup", cl)]) C H hr (by k_is) (by kernel_rfl) (hb _ _ _ _ _ (by k_is) (C.K H)) rfl rfl rfl (by kernel_rfl) (by kernel_rfl) (by kernel_rfl) ?_
  intro L s₁ A' Q E hQ hr H
  have hl : kvs.length ≤ 1000 := by have := ok.len; omega
  by_cases hk : k ∈ ns.map Nd.k
  · obtain ⟨n, hn, rfl⟩ := List.mem_map.mp hk
    obtain ⟨pre, post, rfl⟩ := List.append_of_mem hn
    have on := ok.nodes n hn
    have in_ := on.inst
    have hg := ok.at hn
    have hs : (valueAt kvs n.k).isSome = true := by rw [hg]; rfl
    obtain ⟨p, x, f, r, Z, -, px⟩ := xpose (prog := prog) (w := w) (cd := cd) (D := D) (T := T) (M := .int Mi tM) (F := .int Fi tF) pre post n
    have H1 := H.perm (((px n.vl n.cl xs kvs l).cons _).trans (.swap ..))
    clear H
    have hz1 : xs.length ≤ 900 := by omega
    repeat tm_at "go"
    refine wpAny_call (c_rc (n := n) C on hz1 (Rm.le hr (by decide)) (Led.perm (by with_reducible assumption) (by tm_at "pk")) fun nw0 s' hn0 H' => ?_)
    clear H1
    have H1 := H'.perm (((perm_in3 _ _ _ _ _ _).cons _).cons _)
    clear H'
    repeat tm_at "go"
    have H2 := Led.perm (l' := (L, _) :: (n.d, nodeP p x n.ky v cl) :: (T, liP (xs ++ refs nw0)) :: (cd, cacheP (.ref D) f r (.int Mi tM) (.int Fi tF)) :: (D, idP prog w kvs) :: (Z ++ (tupL nw0 ++ l))) ‹_› (by tm_at "pk")
    have H3 := toT (H2.perm ((px v cl (xs ++ refs nw0) kvs (tupL nw0 ++ l)).symm.cons _))
    have ok2 := (ok.turn (n := n) hv hcl)
    have on2 : nw0.length ≤ 1 := pairs_len (ns := [n]) hn0
    refine wpAny_call (c_ra_old (n := { n with vl := v, cl := cl }) C ic ok2 (Rm.le hr (by decide)) H3 fun s' H' => ?_)
    have H4 := ofT H'
    have ok3 := ok2.swap
    clear H1 H2 H3 H'
    repeat tm_at "go"
    refine ⟨fun hb => ?_, fun hb => ?_⟩
    · repeat tm_at "go"
      refine wpAny_call (c_cleanup (xs := xs ++ refs nw0) C ic lo ok3 (by have := ok3.len; have := ok.len; simp only [List.length_append, refs, List.length_map, List.length_cons] at *; omega) hF (Rm.le hr (by decide)) (toT (by with_reducible assumption)) fun nw kvs' s' hn ok' H' => ?_)
      repeat tm_at "go"
      refine h G (nw0 ++ nw) _ _ _ Gh.le.refl ok' (rowPut_old ok.keys ?_) ?_
      · rw [if_pos (by rw [← ok.len]; exact of_decide_eq_true hb), pairs_append, hn0, hn]
      · rw [refs_append, ← List.append_assoc]
        have H5 := (ofT2 H').tl
        exact H5.perm (((List.Perm.append_left _ (by rw [tupL_append, List.append_assoc]; exact (List.perm_append_comm_assoc ..))).cons _).cons _ |>.cons _)
    · repeat tm_at "go"
      refine h G nw0 _ _ _ Gh.le.refl ok3 (rowPut_old ok.keys ?_) (Led.tl (by with_reducible assumption))
      rw [if_neg (by rw [← ok.len]; exact of_decide_eq_false hb), hn0]
  · have hs : (valueAt kvs k).isSome = false := by rw [ok.no hk]; rfl
    repeat tm_at "go"
    refine wpAny_call (c_mknode (l := _) C (Rm.le hr (by decide)) (by with_reducible assumption) fun x dx s' H' => ?_)
    obtain ⟨G', hG, H1, o, ho, rfl⟩ := H'.promote
    have C' := C.le hG
    have ic' : BIn G' c 182 cd := hG.base _ _ ic
    have on : NdOK G' T ⟨x, dx, k, t, v, cl⟩ := ⟨ho, hv, hcl.imp id fun ⟨f, e, tf⟩ => ⟨f, e, tf.mono hG.base⟩⟩
    have ha : ∀ m ∈ ns, x ≠ m.a := fun m hm e => by have f := H'.fresh List.mem_cons_self; rw [e, (ok.nodes m hm).inst] at f; cases f
    have ok2 : RowOK G' T (⟨x, dx, k, t, v, cl⟩ :: ns) (stored kvs k (.ref x)) := (ok.mono hG.base).new on ha hk
    clear H H' C ic
    repeat tm_at "go"
    have H2 : Led G' _ ((dx, nodeP .none .none (.int k t) v cl) :: (L, nsP (lk [(Str.ofString "node", .ref x), (Str.ofString "self", .ref c), (Str.ofString "key", .int k t), (Str.ofString "value", v), (Str.ofString "cleanup", cl)])) :: cacheT prog w T xs cd D (.int Mi tM) (.int Fi tF) ns (stored kvs k (.ref x)) l) := ‹_›
    refine wpAny_call (c_ra_new (n := ⟨x, dx, k, t, v, cl⟩) (kvs' := stored kvs k (.ref x)) C' ic' (ok.mono hG.base) ho ha (Rm.le hr (by decide)) (toT2 H2) fun s' H' => ?_)
    have H4 := ofT H'
    clear H1 H2 H'
    have hl2 : (stored kvs k (.ref x)).length ≤ 1000 := by have := ok2.len; have := ok.len; simp only [List.length_cons] at *; omega
    have hr2 := hr.le (m := 25) (by decide)
    repeat tm_at "go"
    refine ⟨fun hb => ?_, fun hb => ?_⟩
    · repeat tm_at "go"
      refine wpAny_call (c_cleanup (xs := xs) C' ic' lo ok2 (by have := ok.len; simp only [List.length_cons] at *; omega) hF hr2 (toT (by with_reducible assumption)) fun nw kvs' s' hn ok' H' => ?_)
      repeat tm_at "go"
      refine h G' nw _ _ _ hG ok' (rowPut_new (n := ⟨x, dx, k, t, v, cl⟩) hk ?_) (ofT2 H').tl
      rw [if_pos (by rw [← ok2.len]; exact of_decide_eq_true hb), hn]
    · repeat tm_at "go"
      have H5 := Led.tl (l := cacheT prog w T xs cd D (.int Mi tM) (.int Fi tF) (⟨x, dx, k, t, v, cl⟩ :: ns) (stored kvs k (.ref x)) l) ‹_›
      refine h G' [] _ _ _ hG ok2 (rowPut_new (n := ⟨x, dx, k, t, v, cl⟩) hk ?_) (by rw [show xs ++ refs [] = xs by simp [refs]]; exact H5)
      rw [if_neg (by rw [← ok2.len]; exact of_decide_eq_false hb)]; rfl
end
end
theorem fill8 : (PySem.Challenge.rw_kj0013_01, hd.heap_39) = (PySem.Challenge.rw_kj0013_01, hd.heap_39) := by k_fill; rfl
section
variable {prog : Program} {w : World} {A : Around} {R : Result → Shared → Prop} {s : Shared} {G : Gh} {l l' : List (Addr × HP)} {c cd D T : Addr} {M F : Value} {kvs : List (Int × Value)} {xs : List Value} {ns : List Nd}
theorem AddArgs.of {args : Args} {c : Addr} {ky v cl : Value} {oc : Value} {od : Option Addr} {fd : FuncData} {osl : Array (Option Value)} (ho : (hd.heap_39 w.params).lookup 94 = some ⟨oc, od, .func fd, osl⟩)
    (hb : ∀ s : Shared, (hd.heap_39 w.params).In s.heap → BindsTo s fd args [(Str.ofString "self", .ref c), (Str.ofString "key", ky), (Str.ofString "value", v), (Str.ofString "cleanup", cl)]) : AddArgs w args c ky v cl :=
  fun s fd' oc' od' osl' e X => by rw [ho] at e; cases e; exact hb s X
theorem add2 {ky v : Value} : AddArgs w ⟨[.ref c, ky, v], []⟩ c ky v .none := AddArgs.of (by k_is) fun s X => binds_K X rfl (by k_is) rfl rfl rfl
theorem add3 {ky v cl : Value} : AddArgs w ⟨[.ref c, ky, v, cl], []⟩ c ky v cl := AddArgs.of (by k_is) fun s X => binds_K X rfl (by k_is) rfl rfl rfl
theorem addK {ky v cl : Value} : AddArgs w ⟨[.ref c, ky, v], [(Str.ofString "cleanup", cl)]⟩ c ky v cl := AddArgs.of (by k_is) fun s X => binds_K X rfl (by k_is) rfl rfl rfl
/-- get -/
theorem c_get_no {dv mru lru : Value} {k : Int} {t : Tok} (C : Cx (hd.heap_39 w.params) G) (ic : BIn G c 182 cd) (lo : (D == sysModules) = false) (hk : (valueAt kvs k).getD .none = .none) (hr : Rm A 20) (H : Led G s ((cd, cacheP (.ref D) mru lru M F) :: (D, idP prog w kvs) :: l))
    (h : ∀ s', Led G s' ((cd, cacheP (.ref D) mru lru M F) :: (D, idP prog w kvs) :: l) → R (.ok (.ret dv)) s') : codeAny (model prog w) A (.call (.ref 109) ⟨[.ref c, .int k t, dv], []⟩) R s := by
  refine enterQ (K := hd.heap_39 w.params) (binds := [(Str.ofString "self", .ref c), (Str.ofString "key", .int k t), (Str.ofString "default", dv)]) C H hr (by k_is) (by kernel_rfl) (binds_K (C.K H) rfl (by k_is) rfl rfl rfl) rfl rfl rfl (by kernel_rfl) (by kernel_rfl) (by kernel_rfl) ?_
  intro L s₁ A' Q E hQ hr H
  repeat tm_at "go"
  exact h _ (Led.tl (by assumption))
theorem c_get {dv : Value} {n : Nd} {pre post : List Nd} {t' : Tok} (C : Cx (hd.heap_39 w.params) G) (ic : BIn G c 182 cd) (lo : (D == sysModules) = false) (ok : RowOK G T (pre ++ n :: post) kvs) (hr : Rm A 20) (H : Led G s (cacheT prog w T xs cd D M F (pre ++ n :: post) kvs l))
    (h : ∀ s', Led G s' (cacheT prog w T xs cd D M F (n :: pre ++ post) kvs l) → R (.ok (.ret n.vl)) s') : codeAny (model prog w) A (.call (.ref 109) ⟨[.ref c, .int n.k t', dv], []⟩) R s := by
  have on := ok.nodes n (by simp)
  have in_ := on.inst
  have hv := on.hv
  have hk : (valueAt kvs n.k).getD .none = .ref n.a := by rw [ok.at (n := n) (by simp)]; rfl
  refine enterQ (K := hd.heap_39 w.params) (binds := [(Str.ofString "self", .ref c), (Str.ofString "key", .int n.k t'), (Str.ofString "default", dv)]) C H hr (by k_is) (by kernel_rfl) (binds_K (C.K H) rfl (by k_is) rfl rfl rfl) rfl rfl rfl (by kernel_rfl) (by kernel_rfl) (by kernel_rfl) ?_
  intro L s₁ A' Q E hQ hr H
  repeat tm_at "go"
  refine wpAny_call (c_ra_old C ic ok (Rm.le hr (by decide)) (toT (by with_reducible assumption)) fun s' H' => ?_)
  have H1 : Led G s' ((L, nsP (lk [(Str.ofString "node", .ref n.a), (Str.ofString "self", .ref c), (Str.ofString "key", .int n.k t'), (Str.ofString "default", dv)])) :: (T, liP xs) :: (cd, cacheP (.ref D) (firstR (n :: pre ++ post) .none) (lastR (n :: pre ++ post) .none) M F) :: (D, idP prog w kvs) :: (n.d, nodeP .none (headK (pre ++ post) .none) n.ky n.vl n.cl) :: (seg (.ref n.a) (pre ++ post) .none ++ l)) := ofT H'
  clear H'
  repeat tm_at "go"
  exact h _ (Led.tl ‹_›)
/-- __setitem__ -/
theorem c_setitem {Mi Fi k : Int} {tM tF t : Tok} {v : Value} (C : Cx (hd.heap_39 w.params) G) (ic : BIn G c 182 cd) (lo : (D == sysModules) = false) (ok : RowOK G T ns kvs) (hz : xs.length + ns.length ≤ 800) (hF : 0 ≤ Fi) (hv : handedIn v = true)
    (hr : Rm A 31) (H : Led G s (cacheT prog w T xs cd D (.int Mi tM) (.int Fi tF) ns kvs l))
    (h : ∀ G' nw ns' kvs' s', G.le G' → RowOK G' T ns' kvs' → (ns'.map Nd.e, pairs nw) = rowPut (ns.map Nd.e) k v false Mi Fi →
      Led G' s' (cacheT prog w T (xs ++ refs nw) cd D (.int Mi tM) (.int Fi tF) ns' kvs' (tupL nw ++ l)) → R (.ok (.ret .none)) s') :
    codeAny (model prog w) A (.call (.ref 135) ⟨[.ref c, .int k t, v], []⟩) R s := by
  refine enterQ (K := hd.heap_39 w.params) (binds := [(Str.ofString "self", .ref c), (Str.ofString "key", .int k t), (Str.ofString "value", v)]) C H hr (by k_is) (by kernel_rfl) (BindsTo.of_eq (by kernel_rfl)) rfl rfl rfl (by kernel_rfl) (by kernel_rfl) (by kernel_rfl) ?_
  intro L s₁ A' Q E hQ hr H
  repeat tm_at "go"
  refine wpAny_call (c_add C ic lo ok hz hF hv (.inl rfl) addK hr (toT (by with_reducible assumption)) fun G' nw ns' kvs' s' hG ok' hp H' => ?_)
  repeat tm_at "go"
  exact h G' nw ns' kvs' s' hG ok' hp (ofT2 H').tl
end
theorem fill9 : (PySem.Challenge.rw_kj0013_01, hd.heap_39) = (PySem.Challenge.rw_kj0013_01, hd.heap_39) := by k_fill; rfl
section
variable {prog : Program} {w : World} {A : Around} {R : Result → Shared → Prop} {s : Shared} {G : Gh} {l l' : List (Addr × HP)} {c cd D T : Addr} {M F : Value} {kvs : List (Int × Value)} {xs : List Value} {ns : List Nd}
theorem c_cleanup0 {mru lru M : Value} {Fi : Int} {tF : Tok} (C : Cx (hd.heap_39 w.params) G) (ic : BIn G c 182 cd) (lo : (D == sysModules) = false) (hF : 0 ≤ Fi) (hr : Rm A 25)
    (H : Led G s ((cd, cacheP (.ref D) mru lru M (.int Fi tF)) :: (D, idP prog w []) :: l))
    (h : ∀ s', Led G s' ((cd, cacheP (.ref D) mru lru M (.int Fi tF)) :: (D, idP prog w []) :: l) → R (.ok (.ret .none)) s') :
    codeAny (model prog w) A (.call (.ref 128) ⟨[.ref c], []⟩) R s := by
  refine enterQ (K := hd.heap_39 w.params) (binds := [(Str.ofString "self", .ref c)]) C H hr (by k_is) (by kernel_rfl) (BindsTo.of_eq (by kernel_rfl)) rfl rfl rfl (by kernel_rfl) (by kernel_rfl) (by kernel_rfl) ?_
  intro L s₁ A' Q E hQ hr H
  have hl : ([] : List (Int × Value)).length ≤ 1000 := by decide
  refine m_cons (m_while (fun m s => Led G s ((L, nsP (lk [(Str.ofString "self", .ref c)])) :: (cd, cacheP (.ref D) mru lru M (.int Fi tF)) :: (D, idP prog w []) :: l)) 0 H ?_)
  intro m s₂ H
  repeat tm_at "go"
  refine ⟨fun hb => ?_, fun hb => ?_⟩
  · have := of_decide_eq_true hb
    exact absurd this (by simp only [List.length_nil]; omega)
  · repeat tm_at "go"
    exact h _ (Led.tl (by with_reducible assumption))
def UmcArgs (w : World) (args : Args) (c : Addr) (mv lv : Value) : Prop := ∀ (s : Shared) (fd : FuncData) (oc : Value) (od : Option Addr) (osl : Array (Option Value)),
  (hd.heap_39 w.params).lookup 179 = some ⟨oc, od, .func fd, osl⟩ → (hd.heap_39 w.params).In s.heap → BindsTo s fd args [(Str.ofString "self", .ref c), (Str.ofString "max_cache", mv), (Str.ofString "after_cleanup_count", lv)]
theorem UmcArgs.of {args : Args} {mv lv : Value} {oc : Value} {od : Option Addr} {fd : FuncData} {osl : Array (Option Value)} (ho : (hd.heap_39 w.params).lookup 179 = some ⟨oc, od, .func fd, osl⟩)
    (hb : ∀ s : Shared, (hd.heap_39 w.params).In s.heap → BindsTo s fd args [(Str.ofString "self", .ref c), (Str.ofString "max_cache", mv), (Str.ofString "after_cleanup_count", lv)]) : UmcArgs w args c mv lv :=
  fun s fd' oc' od' osl' e X => by rw [ho] at e; cases e; exact hb s X
theorem umc3 {mv lv : Value} : UmcArgs w ⟨[.ref c, mv, lv], []⟩ c mv lv := UmcArgs.of (by k_is) fun s X => binds_K X rfl (by k_is) rfl rfl rfl
theorem umcK {mv lv : Value} : UmcArgs w ⟨[.ref c, mv], [(Str.ofString "after_cleanup_count", lv)]⟩ c mv lv := UmcArgs.of (by k_is) fun s X => binds_K X rfl (by k_is) rfl rfl rfl
/-- new sizes -/
theorem c_umc {args : Args} {m : Int} {tm ta : Tok} {la : Option Int} (C : Cx (hd.heap_39 w.params) G) (ic : BIn G c 182 cd) (lo : (D == sysModules) = false) (ok : RowOK G T ns kvs) (hz : xs.length + ns.length ≤ 900) (hm : 0 ≤ m) (hla : ∀ a, la = some a → 0 ≤ a)
    (hb : UmcArgs w args c (.int m tm) (leV la ta)) (hr : Rm A 30) (H : Led G s (cacheT prog w T xs cd D M F ns kvs l))
    (h : ∀ tF nw kvs' s', pairs nw = tells (ns.drop (sizeF m la).toNat).reverse → RowOK G T (ns.take (sizeF m la).toNat) kvs' →
      Led G s' (cacheT prog w T (xs ++ refs nw) cd D (.int m tm) (.int (sizeF m la) tF) (ns.take (sizeF m la).toNat) kvs' (tupL nw ++ l)) → R (.ok (.ret .none)) s') :
    codeAny (model prog w) A (.call (.ref 179) args) R s := by
  have hF := sizeF_pos hm hla
  refine enterQ (K := hd.heap_39 w.params) (binds := [(Str.ofString "self", .ref c), (Str.ofString "max_cache", .int m tm), (Str.ofString "after_cleanup_count", leV la ta)]) C H hr (by k_is) (by kernel_rfl) (hb _ _ _ _ _ (by k_is) (C.K H)) rfl rfl rfl (by kernel_rfl) (by kernel_rfl) (by kernel_rfl) ?_
  intro L s₁ A' Q E hQ hr H
  cases la with
  | none =>
    change 0 ≤ (m * 8).fdiv 10 at hF
    simp only [leV] at H
    repeat tm_at "go"
    refine wpAny_call (c_cleanup C ic lo ok hz hF (Rm.le hr (by decide)) (toT (by with_reducible assumption)) fun nw kvs' s' hn ok' H' => ?_)
    repeat tm_at "go"
    exact h _ nw _ _ hn ok' (ofT2 H').tl
  | some a =>
    change 0 ≤ min a m at hF
    simp only [leV] at H
    repeat tm_at "go"
    refine wpAny_call (c_cleanup C ic lo ok hz hF (Rm.le hr (by decide)) (toT (by with_reducible assumption)) fun nw kvs' s' hn ok' H' => ?_)
    repeat tm_at "go"
    exact h _ nw _ _ hn ok' (ofT2 H').tl
/-- the sizes of a new cache -/
theorem c_umc0 {args : Args} {m : Int} {tm ta : Tok} {la : Option Int} (C : Cx (hd.heap_39 w.params) G) (ic : BIn G c 182 cd) (lo : (D == sysModules) = false) (hm : 0 ≤ m) (hla : ∀ a, la = some a → 0 ≤ a)
    (hb : UmcArgs w args c (.int m tm) (leV la ta)) (hr : Rm A 30) (H : Led G s ((cd, adP 3 (lk [(Str.ofString "_least_recently_used", .none), (Str.ofString "_most_recently_used", .none), (Str.ofString "_cache", .ref D)])) :: (D, idP prog w []) :: l))
    (h : ∀ tF s', Led G s' ((cd, cacheP (.ref D) .none .none (.int m tm) (.int (sizeF m la) tF)) :: (D, idP prog w []) :: l) → R (.ok (.ret .none)) s') :
    codeAny (model prog w) A (.call (.ref 179) args) R s := by
  have hF := sizeF_pos hm hla
  refine enterQ (K := hd.heap_39 w.params) (binds := [(Str.ofString "self", .ref c), (Str.ofString "max_cache", .int m tm), (Str.ofString "after_cleanup_count", leV la ta)]) C H hr (by k_is) (by kernel_rfl) (hb _ _ _ _ _ (by k_is) (C.K H)) rfl rfl rfl (by kernel_rfl) (by kernel_rfl) (by kernel_rfl) ?_
  intro L s₁ A' Q E hQ hr H
  cases la with
  | none =>
    change 0 ≤ (m * 8).fdiv 10 at hF
    simp only [leV] at H
    repeat tm_at "go"
    have H2 : Led G _ ((L, _) :: (cd, cacheP (.ref D) .none .none (.int m tm) (.int ((m * 8).fdiv 10) _)) :: (D, idP prog w []) :: l) := Led.repl (P := adP 5 _) ‹_› (.tail .head) (fun o q => adP_rev (vars := cacheL (.ref D) .none .none (.int m tm) (.int ((m * 8).fdiv 10) _)) (by kernel_rfl) o q)
    repeat tm_at "go"
    refine wpAny_call (c_cleanup0 C ic lo hF (Rm.le hr (by decide)) (Led.perm H2 (by tm_at "pk")) fun s' H' => ?_)
    repeat tm_at "go"
    exact h _ _ (Led.drop H' (.tl (.tl .hd)) (.refl _))
  | some a =>
    change 0 ≤ min a m at hF
    simp only [leV] at H
    repeat tm_at "go"
    have H2 : Led G _ ((L, _) :: (cd, cacheP (.ref D) .none .none (.int m tm) (.int (min a m) _)) :: (D, idP prog w []) :: l) := Led.repl (P := adP 5 _) ‹_› (.tail .head) (fun o q => adP_rev (vars := cacheL (.ref D) .none .none (.int m tm) (.int (min a m) _)) (by kernel_rfl) o q)
    repeat tm_at "go"
    refine wpAny_call (c_cleanup0 C ic lo hF (Rm.le hr (by decide)) (Led.perm H2 (by tm_at "pk")) fun s' H' => ?_)
    repeat tm_at "go"
    exact h _ _ (Led.drop H' (.tl (.tl .hd)) (.refl _))
/-- resize -/
theorem c_resize {m : Int} {tm ta : Tok} {la : Option Int} (C : Cx (hd.heap_39 w.params) G) (ic : BIn G c 182 cd) (lo : (D == sysModules) = false) (ok : RowOK G T ns kvs) (hz : xs.length + ns.length ≤ 900) (hm : 0 ≤ m) (hla : ∀ a, la = some a → 0 ≤ a)
    (hr : Rm A 31) (H : Led G s (cacheT prog w T xs cd D M F ns kvs l))
    (h : ∀ tF nw kvs' s', pairs nw = tells (ns.drop (sizeF m la).toNat).reverse → RowOK G T (ns.take (sizeF m la).toNat) kvs' →
      Led G s' (cacheT prog w T (xs ++ refs nw) cd D (.int m tm) (.int (sizeF m la) tF) (ns.take (sizeF m la).toNat) kvs' (tupL nw ++ l)) → R (.ok (.ret .none)) s') :
    codeAny (model prog w) A (.call (.ref 171) ⟨[.ref c, .int m tm, leV la ta], []⟩) R s := by
  refine enterQ (K := hd.heap_39 w.params) (binds := [(Str.ofString "self", .ref c), (Str.ofString "max_cache", .int m tm), (Str.ofString "after_cleanup_count", leV la ta)]) C H hr (by k_is) (by kernel_rfl) (binds_K (C.K H) rfl (by k_is) rfl rfl rfl) rfl rfl rfl (by kernel_rfl) (by kernel_rfl) (by kernel_rfl) ?_
  intro L s₁ A' Q E hQ hr H
  repeat tm_at "go"
  refine wpAny_call (c_umc C ic lo ok hz hm hla umcK hr (toT (by with_reducible assumption)) fun tF nw kvs' s' hn ok' H' => ?_)
  repeat tm_at "go"
  exact h tF nw _ _ hn ok' (ofT2 H').tl
/-- a cache's __init__ -/
theorem c_cinit {m : Int} {tm ta : Tok} {la : Option Int} (C : Cx (hd.heap_39 w.params) G) (ic : BIn G c 182 cd) (hm : 0 ≤ m) (hla : ∀ a, la = some a → 0 ≤ a)
    (hr : Rm A 31) (H : Led G s ((cd, adP 0 (lk [])) :: l))
    (h : ∀ D tF s', (D == sysModules) = false → Led G s' ((cd, cacheP (.ref D) .none .none (.int m tm) (.int (sizeF m la) tF)) :: (D, idP prog w []) :: l) → R (.ok (.ret .none)) s') :
    codeAny (model prog w) A (.call (.ref 65) ⟨[.ref c, .int m tm, leV la ta], []⟩) R s := by
  refine enterQ (K := hd.heap_39 w.params) (binds := [(Str.ofString "self", .ref c), (Str.ofString "max_cache", .int m tm), (Str.ofString "after_cleanup_count", leV la ta)]) C H hr (by k_is) (by kernel_rfl) (binds_K (C.K H) rfl (by k_is) rfl rfl rfl) rfl rfl rfl (by kernel_rfl) (by kernel_rfl) (by kernel_rfl) ?_
  intro L s₁ A' Q E hQ hr H
  repeat tm_at "go"
  refine r_method (f := 179) C (by with_reducible assumption) (by tm_at "io") (by tm_at "io") (lk_no (by decide +kernel) (lk_no (by decide +kernel) (lk_no (by decide +kernel) rfl))) cls_182 (by kernel_rfl) (by kernel_rfl) ?_
  repeat tm_at "go"
  refine wpAny_call (c_umc0 (la := la) (ta := ta) C ic (by with_reducible assumption) hm hla umc3 hr (Led.perm (by with_reducible assumption) (by tm_at "pk")) fun tF s' H' => ?_)
  repeat tm_at "go"
  exact h _ tF _ (by with_reducible assumption) (Led.drop H' (.tl (.tl .hd)) (.refl _))
/-- a cache made -/
theorem c_mkcache {m : Int} {tm ta : Tok} {la : Option Int} (C : Cx (hd.heap_39 w.params) G) (hm : 0 ≤ m) (hla : ∀ a, la = some a → 0 ≤ a) (hr : Rm A 33) (H : Led G s l)
    (h : ∀ G' x cd D tF s', G.le G' → BIn G' x 182 cd → (D == sysModules) = false → Led G' s' ((cd, cacheP (.ref D) .none .none (.int m tm) (.int (sizeF m la) tF)) :: (D, idP prog w []) :: l) → R (.ok (.ret (.ref x))) s') :
    codeAny (model prog w) A (.call (.ref 182) ⟨[.int m tm, leV la ta], []⟩) R s := by
  refine mk_inst (K := hd.heap_39 w.params) (fI := 65) C H (by k_is) (by k_is) (by k_is) fun x dx s' H' => ?_
  obtain ⟨G', hG, H1, o, ho, rfl⟩ := H'.promote
  exact c_cinit (C.le hG) ho hm hla (Rm.make (hr.le (by decide : 32 ≤ 33))) H1 fun D tF s'' lo H'' => ⟨rfl, h G' x dx D tF s'' hG ho lo H''⟩
end
section
variable {M : Model} {prog : Program} {w : World} {A : Around} {E : Value → Shared → Prop} {s : Shared} {G : Gh} {l l' : List (Addr × HP)} {K : Frag} {env : Env} {outer : List Env} {base : Heap} {e L : Addr} {cls : Value}
/-- a call's stack of frames, all in the ledger -/
structure Stk (A : Around) (l : List (Addr × HP)) (envs : List Env) : Prop where
  fr : A.frames = some envs
  ns : ∀ env ∈ envs, env.scope.kind ≠ .module ∧ ∃ L m, env.frame = some L ∧ (L, nsP m) ∈ l
theorem Stk.perm (x : Stk A l outer) (h : ∀ p ∈ l, p ∈ l') : Stk A l' outer := ⟨x.fr, fun env he => let ⟨a, L, m, b, c⟩ := x.ns env he; ⟨a, L, m, b, h _ c⟩⟩
/-- kept but for the frames' slots -/
def Bk (G : Gh) (l : List (Addr × HP)) (base : Heap) (s : Shared) : Prop :=
  ∃ s₀ fs, Led G s₀ l ∧ base = hideAll s₀.heap fs ∧ (∀ p ∈ l, p.1 ∈ fs → ∃ m, p.2 = nsP m) ∧ (∀ a ∈ fs, G.g.get? a = none) ∧ s₀.heap.UpToSlots s.heap ∧ s.gens = s₀.gens ∧ s.drawn = s₀.drawn ∧ s.os = s₀.os
theorem Bk.led (C : Cx K G) (b : Bk G l base s) (st : base.StaysIn s.heap) : Led G s l := by
  obtain ⟨s₀, fs, H, rfl, h1, h2, h3, h4, h5, h6⟩ := b
  have keep : ∀ b o, G.g.get? b = some o → s.heap.get? b = some o := fun b o q => st b o (hideAll_get _ (H.keep b o q) fun hm => by rw [h2 b hm] at q; cases q)
  refine ⟨keep, H.nd, fun p hp => ?_, h4.trans H.gens, h5.trans H.drawn, h6.trans H.os, H.hi, ?_⟩
  · obtain ⟨f, o, q, hP⟩ := H.at_ p hp
    refine ⟨f, ?_⟩
    by_cases hm : p.1 ∈ fs
    · obtain ⟨m, hm'⟩ := h1 p hp hm
      rw [hm'] at hP ⊢
      obtain ⟨es, ep, hd, r⟩ := hP
      obtain ⟨sl, hs⟩ := h3 p.1 o q fun vs q' => by rw [hd] at q'; cases q'
      exact ⟨_, hs, es, ep, hd, r⟩
    · exact ⟨o, st _ _ (hideAll_get _ q hm), hP⟩
  · obtain ⟨_, _, mg, _, T⟩ := C.T
    obtain ⟨o, _, _, q, _⟩ := T.g
    exact Heap.lt_size (keep _ _ q)
theorem Bk.step (b : Bk G l base s) {h' : Heap} {tk : Nat} (u : s.heap.UpToSlots h') : Bk G l base { s with heap := h', toks := tk } := by
  obtain ⟨s₀, fs, H, e, h1, h2, h3, h4, h5, h6⟩ := b
  exact ⟨s₀, fs, H, e, h1, h2, h3.trans u, h4, h5, h6⟩
theorem Bk.tl {p : Addr × HP} (b : Bk G (p :: l) base s) : Bk G l base s := by
  obtain ⟨s₀, fs, H, e, h1, h2, h3, h4, h5, h6⟩ := b
  exact ⟨s₀, fs, H.tl, e, fun p hp => h1 p (.tail _ hp), h2, h3, h4, h5, h6⟩
theorem Bk.perm (b : Bk G l base s) (h : l.Perm l') : Bk G l' base s := by
  obtain ⟨s₀, fs, H, e, h1, h2, h3, h4, h5, h6⟩ := b
  exact ⟨s₀, fs, H.perm h, e, fun p hp => h1 p (h.mem_iff.mpr hp), h2, h3, h4, h5, h6⟩
/-- an exception on its way -/
def FlyL (G : Gh) (l : List (Addr × HP)) (envs : List Env) (e : Addr) (cls : Value) (s : Shared) : Prop := ∃ base a0, Bk G l base s ∧ Heap.FlyingW base envs e cls a0 s.heap
def HeldL (G : Gh) (l : List (Addr × HP)) (envs : List Env) (e : Addr) (cls : Value) (L : Addr) (s : Shared) : Prop := ∃ base a0, Bk G l base s ∧ Heap.HeldW base envs e cls a0 L s.heap
theorem FlyL.led (C : Cx K G) (f : FlyL G l outer e cls s) : Led G s l := let ⟨_, _, b, x⟩ := f; b.led C x.1
theorem HeldL.led (C : Cx K G) (f : HeldL G l outer e cls L s) : Led G s l := let ⟨_, _, b, x⟩ := f; b.led C x.1
theorem FlyL.tl {p : Addr × HP} (f : FlyL G (p :: l) outer e cls s) : FlyL G l outer e cls s := let ⟨x, y, b, z⟩ := f; ⟨x, y, b.tl, z⟩
theorem FlyL.perm (f : FlyL G l outer e cls s) (h : l.Perm l') : FlyL G l' outer e cls s := let ⟨x, y, b, z⟩ := f; ⟨x, y, b.perm h, z⟩
theorem FlyL.type (f : FlyL G l outer e (.type cls') s) : s.TypeIs (.ref e) cls' := let ⟨_, _, _, z⟩ := f; z.there
theorem fly_made {s₀ : Shared} {X : String} {Q : Unit → Shared → Prop} (C : Cx K G) (H : Led G s₀ l) (St : Stk A l (env :: outer)) (hx : Heap.NewExcOf s₀.heap s.heap e X) (hg : s.gens = s₀.gens) (hd : s.drawn = s₀.drawn) (ho : s.os = s₀.os)
    (h : ∀ s', FlyL G l outer e (.type X) s' → Q () s') : wpAny M A (leaving env (.ref e)) Q E s := by
  obtain ⟨ob, vs, he, hc, hdat, h1⟩ := hx.there
  obtain ⟨L, m, hf, hm⟩ := (St.ns env (.head _)).2
  have hfs : ∀ en ∈ env :: outer, ∀ b, en.frame = some b → b ∈ (env :: outer).filterMap (·.frame) := fun en hn b hb => List.mem_filterMap.mpr ⟨en, hn, hb⟩
  have hin : ∀ a ∈ (env :: outer).filterMap (·.frame), ∃ m, (a, nsP m) ∈ l := fun a ha => by
    obtain ⟨en, hn, hq⟩ := List.mem_filterMap.mp ha
    obtain ⟨_, L', m', hf', hm'⟩ := St.ns en hn
    rw [hq] at hf'; cases hf'
    exact ⟨m', hm'⟩
  have hfun : ∀ ens : List Env, (∀ en ∈ ens, en ∈ env :: outer) → s.heap.FunFrames (hideAll s₀.heap ((env :: outer).filterMap (·.frame))) ens := by
    intro ens
    induction ens with
    | nil => intro _; trivial
    | cons en r ih =>
      intro hs
      obtain ⟨hk, L', m', hf', hm'⟩ := St.ns en (hs en (.head _))
      obtain ⟨o, q, es, ep, hd', -⟩ := H.get hm'
      exact ⟨hk, ⟨L', o, hf', hideAll_none _ (hfs en (hs en (.head _)) L' hf'), hx.keeps _ _ q, fun vs q' => by rw [hd'] at q'; cases q'⟩, ih fun x hx => hs x (.tail _ hx)⟩
  have h0 : ∃ a0, vs[0]? = some a0 := by
    have : 1 < vs.size := (Array.getElem?_eq_some_iff.mp h1).1
    exact ⟨vs[0], Array.getElem?_eq_getElem (by omega)⟩
  obtain ⟨a0, h0⟩ := h0
  have st : (hideAll s₀.heap ((env :: outer).filterMap (·.frame))).StaysIn s.heap := fun b o q => hx.keeps _ _ (of_hideAll _ q)
  have fre : ∀ b, s₀.heap.get? b = none → (hideAll s₀.heap ((env :: outer).filterMap (·.frame))).get? b = none := fun b hb => by
    cases q : (hideAll s₀.heap ((env :: outer).filterMap (·.frame))).get? b with
    | none => rfl
    | some o => rw [of_hideAll _ q] at hb; cases hb
  refine wpAny_leaving_firstW St.fr (hfun _ fun _ x => x) hf he st (fre e hx.new) hdat h1 h0 fun h' hL => ?_
  obtain ⟨k1, ⟨_, _, k2⟩, k3, k4⟩ := hL
  rw [hc] at k3
  refine h _ ⟨_, a0, ⟨s₀, _, H, rfl, fun p hp hpm => ?_, fun a ha => ?_, ?_, hg, hd, ho⟩, k1, fre e hx.new, k2, k3⟩
  · obtain ⟨m', hm'⟩ := hin p.1 hpm
    have := nd_eq H.nd hp hm' rfl
    exact ⟨m', by rw [this]⟩
  · obtain ⟨m', hm'⟩ := hin a ha
    exact H.fresh hm'
  · exact (Heap.UpToSlots.of_keeps hx.keeps).trans k4
theorem fly_on {Q : Unit → Shared → Prop} (hfr : A.frames = some (env :: outer)) (hf : env.frame = some L) (F : FlyL G l (env :: outer) e cls s) (h : ∀ s', FlyL G l outer e cls s' → Q () s') : wpAny M A (leaving env (.ref e)) Q E s := by
  obtain ⟨base, a0, b, x⟩ := F
  exact wpAny_leaves_onW hfr hf x fun h' x' u => h _ ⟨base, a0, b.step u, x'⟩
theorem fly_looks {Q : Unit → Shared → Prop} (hfr : A.frames = some (env :: outer)) (hf : env.frame = some L) (F : FlyL G l (env :: outer) e cls s) (h : ∀ s', HeldL G l (env :: outer) e cls L s' → Q () s') : wpAny M A (noteFrame (.ref e) env) Q E s := by
  obtain ⟨base, a0, b, x⟩ := F
  exact wpAny_looks_onW hfr hf x fun h' x' u => h _ ⟨base, a0, b.step u, x'⟩
theorem fly_lands {Q : Unit → Shared → Prop} (F : HeldL G l outer e cls L s) (h : ∀ s', FlyL G l outer e cls s' → Q () s') : wpAny M A (setFlight (.ref e) none) Q E s := by
  obtain ⟨base, a0, b, x⟩ := F
  exact wpAny_landsW x fun h' x' u => h _ ⟨base, a0, b.step u, x'⟩
theorem fly_again {Q : Unit → Shared → Prop} (F : FlyL G l outer e cls s) (h : ∀ s', FlyL G l outer e cls s' → Q () s') : wpAny M A (setFlight (.ref e) none) Q E s := by
  obtain ⟨base, a0, b, x⟩ := F
  exact lands_againW x fun h' x' u => h _ ⟨base, a0, b.step u, x'⟩
/-- try with one clause that catches -/
theorem m_try {name : Str} {scope : Scope} {a : Addr} {cd : Value} {body : List Stmt} {x : Str} {np pos pos' : Pos} {b₀ : Stmt} {suite : List Stmt} {X T' : String} {Q : Flow → Shared → Prop} (C : Cx K G) (hfr : A.frames = some (envOf name scope L a cd :: outer))
    (n : nsIn K mainGlobals x = some none) (hv : bootBuiltins x = some (.type T'))
    (hexc : isSubtype (.type T') (.type "BaseException") = pure true) (hnt : isSubtype (.type ((Manifest.find? T').elim "type" fun y => y.metatype)) (.type "tuple") = pure false) (hsub : isSubtype (.type X) (.type T') = pure true)
    (h : wpAny (model prog w) A (execs body (envOf name scope L a cd)) (fun f s₁ => Q f s₁) (fun e s₁ => ∃ ea, e = .ref ea ∧ FlyL G l (envOf name scope L a cd :: outer) ea (.type X) s₁) s)
    (k : ∀ A' s', Led G s' l → wpAny (model prog w) A' (execs (b₀ :: suite) (envOf name scope L a cd)) Q (fun _ _ => False) s')
    (hk : scope.kind = .function) (hx : (envOf name scope L a cd).kindOf x = some .globalImplicit) (hd : (x == ("__debug__" : Str)) = false) (hn : (x == ("__name__" : Str)) = false) :
    wpAny (model prog w) A (exec (.Try body [.ExceptHandler (some (.Name x np)) none (b₀ :: suite) pos] [] [] pos') (envOf name scope L a cd)) Q E s := by
  refine wpAny_Try_except (wpAny_mono h (fun f s₁ h₁ => ?_) fun e s₁ h₁ => ?_)
  · cases f <;> first | exact h₁ | exact wpAny_execs_nil h₁
  · obtain ⟨ea, rfl, F⟩ := h₁
    refine fly_looks hfr rfl F fun s₂ F₂ => fly_lands F₂ fun s₃ F₃ => ?_
    refine wpAny_handleBy_builtin (X := X) (T := T') (b := true) hexc hnt hsub ?_
    refine f_builtin C (F₃.led C) n hv ⟨rfl, F₃.type, ?_⟩ hk hx hd hn
    simp only [if_true]
    refine fly_again F₃ fun s₄ F₄ => ?_
    exact wpAny_mono (k _ s₄ (F₄.led C)) (fun _ _ x => x) fun _ _ x => x.elim
end
section
variable {M : Model} {prog : Program} {w : World} {A : Around} {E : Value → Shared → Prop} {s : Shared} {G : Gh} {l l' : List (Addr × HP)} {K : Frag} {env : Env} {D : Addr} {xs ys : List Value}
theorem li_upd {tk : Nat} (H : Led G s l) (hr : Rep D (liP xs) (liP ys) l l') (f : Array Value → Array Value) (hf : f xs.toArray = ys.toArray) : Led G { s with heap := s.heap.update D (Obj.mapSeq f), toks := tk } l' := by
  obtain ⟨o, e, n, rfl⟩ := H.get hr.mem
  refine H.upd (tk := tk) hr (Heap.SameBut.update ..) ⟨_, Heap.get?_update_self _ e rfl, ?_⟩
  refine ⟨if (f xs.toArray).size == xs.toArray.size then n else n + 1, ?_⟩
  rw [← hf]
  rfl
theorem li_item {k : Int} {t : Tok} {v : Value} {value slice : Expr} {Q : Value → Shared → Prop} (H : Led G s l) (hm : Po G l D (liP xs)) (h0 : 0 ≤ k) (hk : k < 1000) (hv : xs[k.toNat]? = some v)
    (hs : subscripted slice false (.ref D) (.int k t) = operate [.ref D, .int k t] (getItem (.ref D) (.int k t))) (h : Q v s) :
    wpAny (model prog w) A (subscriptTail value slice (.ref D) (.int k t)) Q E s :=
  have hl := H.list hm
  tail_any hl.typeIs slot_list_getitem.lookup (wpAny_getItem_list hl h0 (by omega) (by simpa using hv) h) hs
theorem tu_get {G : Gh} {l : List (Addr × HP)} {s : Shared} (H : Led G s l) (hm : Po G l D (tuP xs)) : IsTup s.heap D xs.toArray := by
  obtain ⟨o, e, n, rfl⟩ := hm.get H; exact ⟨_, e, rfl, n, rfl⟩
theorem tu_item {k : Int} {t : Tok} {v : Value} {value slice : Expr} {Q : Value → Shared → Prop} (H : Led G s l) (hm : Po G l D (tuP xs)) (h0 : 0 ≤ k) (hk : k < 1000) (hv : xs[k.toNat]? = some v)
    (hs : subscripted slice false (.ref D) (.int k t) = operate [.ref D, .int k t] (getItem (.ref D) (.int k t))) (h : Q v s) :
    wpAny (model prog w) A (subscriptTail value slice (.ref D) (.int k t)) Q E s := by
  obtain ⟨j, rfl⟩ := Int.eq_ofNat_of_zero_le h0
  have hj : j < xs.length := (List.getElem?_eq_some_iff.mp hv).1
  refine item_tupleT (j := j) (tu_get H hm) (by omega) (by omega) ?_ hv h hs
  unfold seqIndex?
  have : ¬ ((j : Int) < 0) := by omega
  simp [this]
  omega
theorem li_set {k : Int} {t : Tok} {v : Value} {Q : Unit → Shared → Prop} (H : Led G s l) (hr : Rep D (liP xs) (liP (xs.set k.toNat v)) l l') (h0 : 0 ≤ k) (hk : k < 1000) (hn : k.toNat < xs.length)
    (h : ∀ s', Led G s' l' → Q () s') : wpAny (model prog w) A (setItem (.ref D) (.int k t) v) Q E s := by
  obtain ⟨o, e, n, rfl⟩ := H.get hr.mem
  exact ki_setAt (n := n) e h0 (by omega) (by simp; omega) (h _ (li_upd (tk := s.toks) H hr _ (by simp)))
theorem li_len {Q : Value → Shared → Prop} (H : Led G s l) (hm : Po G l D (liP xs)) (hf : xs.length ≤ 1000) (h : ∀ t s', Led G s' l → Q (.int xs.length t) s') :
    wpAny (model prog w) A (call (.builtin "len") [.ref D]) Q E s := by
  have := h (s.toks + 1) _ (H.toks (s.toks + 1 + 1))
  exact call_len_list (H.list hm) (by simp; omega) (by simpa using this)
theorem i_abs {a : Int} {t : Tok} {Q : Value → Shared → Prop} (H : Led G s l) (h : ∀ b t' s', Led G s' l → Q (.int b t') s') : wpAny (model prog w) A (call (.builtin "abs") [.int a t]) Q E s :=
  call_abs_int fun u tk => h _ _ _ (H.toks _)
theorem li_pop {v : Value} {Q : Value → Shared → Prop} (H : Led G s l) (hr : Rep D (liP (xs ++ [v])) (liP xs) l l') (hz : xs.length ≤ 1000) (h : ∀ s', Led G s' l' → Q v s') :
    wpAny (model prog w) A (call (.builtin "list.pop") [.ref D]) Q E s := by
  obtain ⟨o, e, n, rfl⟩ := H.get hr.mem
  refine call_meets PySem.F.slot_list_pop ⟨_, e, rfl⟩ PySem.F.entry_list_pop (PySem.F.args_list_pop_1 _) (PySem.MeetsSeq.list_pop_last D _ n v (by simp) (by simp [sizeLine_eq]; omega)) ⟨e, h _ (li_upd H hr _ ?_)⟩
  simp
  rw [List.eraseIdx_append_of_length_le (Nat.le_refl _)]
  simp
theorem li_insert0 {v : Value} {t : Tok} {Q : Value → Shared → Prop} (H : Led G s l) (hr : Rep D (liP xs) (liP (v :: xs)) l l') (hz : xs.length ≤ 1000) (h : ∀ s', Led G s' l' → Q .none s') :
    wpAny (model prog w) A (call (.builtin "list.insert") [.ref D, .int 0 t, v]) Q E s := by
  obtain ⟨o, e, n, rfl⟩ := H.get hr.mem
  refine call_meets PySem.F.slot_list_insert ⟨_, e, rfl⟩ PySem.F.entry_list_insert (PySem.F.args_list_insert_3 _ _ _) (PySem.AutoSeq1.list_insert_list_int_val_1 D _ n 0 t v (by decide) (by simp [sizeLine_eq]; omega)) ⟨e, h _ (li_upd H hr _ ?_)⟩
  simp

theorem Led.extBut {I : Addr} {P : HP} {h' : Heap} {tk : Nat} (C : Cx K G) (H : Led G s ((I, P) :: l)) (he : Heap.ExtBut I s.heap h') : Led G { s with heap := h', toks := tk } l := by
  have keep : ∀ b o, G.g.get? b = some o → h'.get? b = some o := fun b o q => he b o (fun e => by rw [e, H.fresh List.mem_cons_self] at q; cases q) (H.keep b o q)
  refine ⟨keep, H.tl.nd, fun p hp => ?_, H.gens, H.drawn, H.os, H.tl.hi, ?_⟩
  · obtain ⟨f, o, q, hP⟩ := H.tl.at_ p hp
    refine ⟨f, o, he _ o (fun e => ?_) q, hP⟩
    have nd := H.nd
    simp only [List.map_cons, List.nodup_cons] at nd
    exact nd.1 (e ▸ List.mem_map_of_mem hp)
  · obtain ⟨_, _, mg, _, T⟩ := C.T
    obtain ⟨o, _, _, q, _⟩ := T.g
    exact Heap.lt_size (keep _ _ q)
/-- the heap's own end: an address not there -/
theorem Led.extNew {h' : Heap} {tk : Nat} (C : Cx K G) (H : Led G s l) (he : Heap.ExtBut s.heap.objs.size s.heap h') : Led G { s with heap := h', toks := tk } l :=
  H.grow C fun b o e => he b o (Nat.ne_of_lt (Heap.lt_size e)) e
theorem li_copy {Q : Value → Shared → Prop} (C : Cx K G) (H : Led G s l) (hm : Po G l D (liP xs)) (hz : xs.length ≤ 1000) (h : ∀ x s', Led G s' ((x, liP xs) :: l) → Q (.ref x) s') :
    wpAny (model prog w) A (call (.type "list") [.ref D]) Q E s := by
  obtain ⟨o, e, n, rfl⟩ := hm.get H
  refine call_list_seq D (.inl rfl) e rfl rfl (fun h' c' hk hx => ?_) (by simp [sizeLine_eq]; omega)
  have H1 : Led G { s with heap := h', toks := s.toks } l := H.grow C hk
  refine h _ _ ⟨H1.keep, ?_, fun p hp => ?_, H1.gens, H1.drawn, H1.os, fun p hp => ?_, H1.big⟩
  · simp only [List.map_cons, List.nodup_cons]
    refine ⟨fun hm => ?_, H.nd⟩
    obtain ⟨p, hp, e⟩ := List.mem_map.mp hm
    obtain ⟨_, o', e', _⟩ := H.at_ p hp
    exact absurd (Heap.lt_size e') (by rw [e]; exact Nat.lt_irrefl _)
  · rcases List.mem_cons.mp hp with rfl | hp
    · refine ⟨?_, _, hx, c', rfl⟩
      cases q : G.g.get? s.heap.objs.size with
      | none => rfl
      | some o' => exact absurd (Heap.lt_size (H.keep _ _ q)) (Nat.lt_irrefl _)
    · exact H1.at_ p hp
  · rcases List.mem_cons.mp hp with rfl | hp
    · exact H.big
    · exact H.hi p hp
/-- a tuple taken apart into names -/
theorem m_unpack3 {n1 n2 n3 : Str} {p1 p2 p3 tpos pos : Pos} {k : Nat} {value : Expr} {Q : Flow → Shared → Prop} (C : Cx K G) (hh : A.handled = none)
    (hs : swapsWithSole [.Tuple [.Name n1 p1, .Name n2 p2, .Name n3 p3] k tpos] value pos.line env = pure false)
    (hw : swappedStores [.Tuple [.Name n1 p1, .Name n2 p2, .Name n3 p3] k tpos] value env = pure none)
    (h : wpAny (model prog w) A (eval value env) (fun v s₁ => ∃ T a b c l, v = .ref T ∧ Led G s₁ l ∧ Po G l T (tuP [a, b, c]) ∧
      ∀ s₂, Led G s₂ l → wpAny (model prog w) A (storeName env n1 a) (fun _ s₃ => wpAny (model prog w) A (storeName env n2 b) (fun _ s₄ => wpAny (model prog w) A (storeName env n3 c) (fun _ => Q .next) E s₄) E s₃) E s₂) E s) :
    wpAny (model prog w) A (exec (.Assign [.Tuple [.Name n1 p1, .Name n2 p2, .Name n3 p3] k tpos] value pos) env) Q E s := by
  refine Assign_Tuple (wpAny_mono h (fun v s₁ h₁ => ?_) fun _ _ x => x) hs hw
  obtain ⟨T, a, b, c, l, rfl, H, hm, h₂⟩ := h₁
  refine wpAny_assign_Tuple (items := #[a, b, c]) hh (tu_get H hm) rfl rfl fun h' he => ?_
  refine wpAny_bind (wpAny_holding (wpAny_mono (M := model prog w) (PyProof.Rows.assign_Name (h₂ _ (H.extNew C he (tk := s₁.toks)))) (fun _ s₃ h₃ => ?_) fun _ _ x => x))
  refine wpAny_bind (wpAny_holding (wpAny_mono (M := model prog w) (PyProof.Rows.assign_Name h₃) (fun _ s₄ h₄ => ?_) fun _ _ x => x))
  refine wpAny_bind (wpAny_holding (wpAny_mono (M := model prog w) (PyProof.Rows.assign_Name h₄) (fun _ s₅ h₅ => ?_) fun _ _ x => x))
  exact wpAny_pure h₅
end
/-- remove: the loop, from a place on -/
theorem rem_loop (D : Addr) (zs : List Value) (n : Nat) (x : Value) (j : Nat) (hj : zs[j]? = some x) (hz : zs.length ≤ 1000) : ∀ k i : Nat, i + k = j →
    Meets (Builtin.«list.remove.loop» ⟨[.ref D, x, rawInt i], []⟩) (fun A R s => s.heap.get? D = some { cls := .type "list", data := .seq zs.toArray n } ∧ (∀ m y, m < j → zs[m]? = some y → SeqAt.EqAt A.in1 s y x false) ∧
      R (.ok (.ret .none)) { s with heap := s.heap.update D (Obj.mapSeq fun xs => xs.eraseIdxIfInBounds j) })
  | 0, i, e => by
    intro prog w A R s h
    obtain ⟨hp, g, d, tk, os⟩ := s; obtain ⟨hl, -, h⟩ := h
    obtain rfl : i = j := by omega
    wp_walk using AutoSeq1.wpAny_loadPart' hl
    have hi : zs.toArray[((i : Nat) : Int).toNat]? = some x := by simpa using hj
    rw [hi]
    refine wpAny_bind (SeqAt.EqAt.same (A := A.in1) x prog w _ _ ?_)
    have hs1 : zs.toArray.size ≤ sizeLine := by simp [sizeLine_eq]; omega
    have hz' : (zs.toArray.eraseIdxIfInBounds i).size ≤ sizeLine + 1 := Nat.le_trans (MeetsSeq.size_erased _ _) (Nat.le_succ_of_le hs1)
    wp_walk using (wpAny_updateSeq hl rfl (hz := hs1) (_hz' := hz')), AutoSeq1.wpAny_loadPart' hl
    simpa using h
  | k + 1, i, e => by
    intro prog w A R s h
    obtain ⟨hp, g, d, tk, os⟩ := s; obtain ⟨hl, he, h⟩ := h
    have hlt : i < zs.length := by have := (List.getElem?_eq_some_iff.mp hj).1; omega
    wp_walk using AutoSeq1.wpAny_loadPart' hl
    have hi : zs.toArray[((i : Nat) : Int).toNat]? = some zs[i] := by simp [hlt]
    rw [hi]
    refine wpAny_bind (he i _ (by omega) (List.getElem?_eq_getElem hlt) prog w _ _ ?_)
    have hc : ((i : Int) + 1) = ((i + 1 : Nat) : Int) := by push_cast; rfl
    wp_walk
    rw [hc]
    exact ⟨plainId_quiet MeetsSeq.plain_remove_loop _, codeAny_builtin MeetsSeq.entry_remove_loop (by
      rw [Around.under_plainId MeetsSeq.plain_remove_loop _]
      exact rem_loop D zs n x j hj hz k (i + 1) (by omega) prog w A R _ ⟨hl, he, h⟩)⟩
theorem rem_all (D : Addr) (zs : List Value) (n : Nat) (x : Value) (j : Nat) (hj : zs[j]? = some x) (hz : zs.length ≤ 1000) :
    Meets (Builtin.«list.remove» ⟨[.ref D, x], []⟩) (fun A R s => s.heap.get? D = some { cls := .type "list", data := .seq zs.toArray n } ∧ (∀ m y, m < j → zs[m]? = some y → SeqAt.EqAt A.in1 s y x false) ∧
      R (.ok (.ret .none)) { s with heap := s.heap.update D (Obj.mapSeq fun xs => xs.eraseIdxIfInBounds j) }) := by
  intro prog w A R s h
  obtain ⟨hp, g, d, tk, os⟩ := s; obtain ⟨hl, he, h⟩ := h
  wp_walk using AutoSeq1.wpAny_loadPart' hl
  exact ⟨plainId_quiet MeetsSeq.plain_remove_loop _, codeAny_builtin MeetsSeq.entry_remove_loop (by
    rw [Around.under_plainId MeetsSeq.plain_remove_loop _]
    exact rem_loop D zs n x j hj hz j 0 (by omega) prog w A R _ ⟨hl, he, h⟩)⟩
section
variable {M : Model} {prog : Program} {w : World} {A : Around} {E : Value → Shared → Prop} {s : Shared} {G : Gh} {l l' : List (Addr × HP)} {K : Frag} {env : Env} {D : Addr} {xs ys : List Value}
theorem li_remove {pre post : List Value} {x : Value} {Q : Value → Shared → Prop} (H : Led G s l) (hr : Rep D (liP (pre ++ x :: post)) (liP (pre ++ post)) l l') (hz : (pre ++ x :: post).length ≤ 1000)
    (he : ∀ y ∈ pre, SeqAt.EqAt A.in1 s y x false) (h : ∀ s', Led G s' l' → Q .none s') : wpAny (model prog w) A (call (.builtin "list.remove") [.ref D, x]) Q E s := by
  obtain ⟨o, e, n, rfl⟩ := H.get hr.mem
  refine call_meets PySem.F.slot_list_remove ⟨_, e, rfl⟩ PySem.F.entry_list_remove (PySem.F.args_list_remove_2 _ _) (rem_all D _ n x pre.length (by simp) hz) ⟨e, fun m y hm hy => he y ?_, h _ (li_upd H hr _ ?_)⟩
  · rw [List.getElem?_append_left hm] at hy
    exact List.mem_of_getElem? hy
  · simp
    rw [List.eraseIdx_append_of_length_le (Nat.le_refl _)]
    simp
end
/-- a value that the law puts in -/
def VOK (G : Gh) (v : Value) : Prop := v = .none ∨ (∃ i t, v = .int i t) ∨ (∃ x t, v = .str x t ∧ (PyData.str x).canLay0 = true) ∨ ∃ a i t j u, v = .ref a ∧ ∃ o, G.g.get? a = some o ∧ tuP [.int i t, .int j u] o
theorem VOK.mono {G G' : Gh} {v : Value} (x : VOK G v) (h : ∀ b o, G.g.get? b = some o → G'.g.get? b = some o) : VOK G' v :=
  x.imp id (Or.imp id (Or.imp id fun ⟨a, i, t, j, u, e, o, q, r⟩ => ⟨a, i, t, j, u, e, o, h _ _ q, r⟩))
theorem VOK.reads {G : Gh} {v : Value} (x : VOK G v) : ∃ d as, Reads G.g v d as ∧ d.canLay0 = true ∧ d.depth ≤ 1 ∧ PyData.eqv d d = true := by
  rcases x with rfl | ⟨i, t, rfl⟩ | ⟨x, t, rfl, hx⟩ | ⟨a, i, t, j, u, rfl, o, e, n, rfl⟩
  · exact ⟨_, _, .none, rfl, by decide, rfl⟩
  · exact ⟨_, _, .int i t, rfl, Nat.zero_le _, by simp [PyData.eqv]⟩
  · exact ⟨_, _, .str x t, hx, Nat.zero_le _, by simp [PyData.eqv]⟩
  · exact ⟨.tuple [.int i, .int j], _, .tuple e rfl rfl (.cons (.int i t) (.cons (.int j u) .nil)), rfl, by simp [PyData.depth, PyData.depthAll], by simp [PyData.eqv, PyData.eqvAll]⟩
theorem VOK.hd {G : Gh} {v : Value} (x : VOK G v) : handedIn v = true := by
  rcases x with rfl | ⟨i, t, rfl⟩ | ⟨x, t, rfl, hx⟩ | ⟨a, i, t, j, u, rfl, -⟩ <;> rfl
/-- an entry of the law's row: a tuple of the base -/
structure En where
  a : Addr
  k : Int
  t : Tok
  v : Value
  b : Bool
def En.vals (e : En) : List Value := [.int e.k e.t, e.v, .bool e.b]
def En.e (x : En) : Int × Value × Bool := (x.k, x.v, x.b)
structure EnOK (G : Gh) (e : En) : Prop where
  at_ : ∃ o, G.g.get? e.a = some o ∧ tuP e.vals o
  v : VOK G e.v
theorem EnOK.mono {G G' : Gh} {e : En} (x : EnOK G e) (h : ∀ b o, G.g.get? b = some o → G'.g.get? b = some o) : EnOK G' e := ⟨let ⟨o, q, r⟩ := x.at_; ⟨o, h _ _ q, r⟩, x.v.mono h⟩
def erefs (es : List En) : List Value := es.map fun e => .ref e.a
theorem EnOK.reads {G : Gh} {e : En} (x : EnOK G e) : ∃ d as, Reads G.g (.ref e.a) (.tuple [.int e.k, d, .bool e.b]) as ∧ (PyData.tuple [.int e.k, d, .bool e.b]).canLay0 = true ∧ (PyData.tuple [.int e.k, d, .bool e.b]).depth ≤ 2 := by
  obtain ⟨o, q, n, rfl⟩ := x.at_
  obtain ⟨d, as, r, h1, h2, h3⟩ := x.v.reads
  refine ⟨d, _, .tuple q rfl rfl (.cons (.int _ _) (.cons r (.cons (.bool _) .nil))), ?_, ?_⟩
  · show PyData.canLayAll0 _ = true
    simp [PyData.canLayAll0, h1]
    try simp [PyData.canLay0]
  · simp only [PyData.depth, PyData.depthAll]
    omega
section
variable {M : Model} {prog : Program} {w : World} {A : Around} {E : Value → Shared → Prop} {s : Shared} {G : Gh} {l l' : List (Addr × HP)} {K : Frag} {env : Env} {D : Addr} {xs ys : List Value}
theorem en_ne {e f : En} (H : Led G s l) (he : EnOK G e) (hf : EnOK G f) (hk : e.k ≠ f.k) (hu : A.units + 10 < cLine) : SeqAt.EqAt A s (.ref e.a) (.ref f.a) false := by
  obtain ⟨d, as, r, h1, h2⟩ := he.reads
  obtain ⟨d', bs, r', h1', h2'⟩ := hf.reads
  have := SeqAt.eqAt_reads _ _ A s _ _ _ _ (PyProof.Rows.Reads.keeps H.keep r) (PyProof.Rows.Reads.keeps H.keep r') h1 h1' (by omega)
  rw [show PyData.eqv (.tuple [.int e.k, d, .bool e.b]) (.tuple [.int f.k, d', .bool f.b]) = false from by simp [PyData.eqv, PyData.eqvAll, hk]] at this
  exact this
/-- a value beside itself -/
theorem v_ne {v : Value} {Q : Value → Shared → Prop} (H : Led G s l) (x : VOK G v) (hu : A.units + 10 < cLine) (h : Q (.bool false) s) : wpAny (model prog w) A (compareOp .NotEq v v) Q E s := by
  obtain ⟨d, as, r, h1, h2, h3⟩ := x.reads
  exact SeqAt.compareNe_reads (PyProof.Rows.Reads.keeps H.keep r) (PyProof.Rows.Reads.keeps H.keep r) h1 h1 (by omega) (by rw [h3]; exact h)
end
def itP (ax : Addr) (i : Nat) : HP := fun o => o.cls = .type "list_iterator" ∧ o.data = .fields #[.ref ax, .int i 0]
/-- what a comprehension gathers -/
inductive Cmp (R : Value → Value → List (Addr × HP) → Prop) : List Value → List Value → List (Addr × HP) → Prop
  | nil : Cmp R [] [] []
  | snoc {vs ys exs v y ex} : Cmp R vs ys exs → R v y ex → Cmp R (vs ++ [v]) (ys ++ [y]) (ex ++ exs)
theorem Cmp.len {R vs ys exs} (c : Cmp R vs ys exs) : ys.length = vs.length := by
  induction c with
  | nil => rfl
  | snoc _ _ ih => simp [ih]
section
variable {M : Model} {prog : Program} {w : World} {A : Around} {E : Value → Shared → Prop} {s : Shared} {G : Gh} {l l' : List (Addr × HP)} {K : Frag} {env : Env} {D : Addr} {xs ys : List Value}
theorem it_new {ax : Addr} {Q : Value → Shared → Prop} (H : Led G s l) (hm : Po G l ax (liP xs)) (h : ∀ I s', Led G s' ((I, itP ax 0) :: l) → Q (.ref I) s') : wpAny (model prog w) A (pyIter (.ref ax)) Q E s :=
  wpAny_pyIter_list (H.list hm) (h _ _ (H.alloc (tk := s.toks) rfl ⟨rfl, rfl⟩))
theorem it_get {I ax : Addr} {i : Nat} (H : Led G s l) (hm : (I, itP ax i) ∈ l) : s.heap.IsListIter I ax i := by
  obtain ⟨o, e, h1, h2⟩ := H.get hm; exact ⟨o, e, h1, h2⟩
theorem it_self {I ax : Addr} {i : Nat} {Q : Value → Shared → Prop} (H : Led G s l) (hm : (I, itP ax i) ∈ l) (h : Q (.ref I) s) : wpAny (model prog w) A (pyIter (.ref I)) Q E s :=
  wpAny_pyIter_listiter (it_get H hm) h
theorem it_item {I ax : Addr} {i : Nat} {v : Value} {Q : Option Value → Shared → Prop} (H : Led G s ((I, itP ax i) :: l)) (hm : Po G l ax (liP xs)) (hv : xs[i]? = some v) (h : ∀ s', Led G s' ((I, itP ax (i + 1)) :: l) → Q (some v) s') :
    wpAny (model prog w) A (pyNext (.ref I)) Q E s :=
  wpAny_pyNext_list_item (it_get H List.mem_cons_self) (H.tl.list hm) (by simpa using hv) fun h' hit hs => h _ (H.upd (tk := s.toks) .head hs (let ⟨o, e, a, b⟩ := hit; ⟨o, e, a, b⟩))
theorem it_end {I ax : Addr} {i : Nat} {Q : Option Value → Shared → Prop} (C : Cx K G) (hh : A.handled = none) (H : Led G s ((I, itP ax i) :: l)) (hm : Po G l ax (liP xs)) (hv : xs[i]? = none) (h : ∀ s', Led G s' l → Q none s') :
    wpAny (model prog w) A (pyNext (.ref I)) Q E s :=
  wpAny_pyNext_list_end hh (it_get H List.mem_cons_self) (H.tl.list hm) (by simpa using hv) fun h' he => h _ (H.extBut C he (tk := s.toks))
/-- a frame's map, whatever it was, when its one name is stored anew -/
def nsX (x : Str) : HP := fun o => ∃ m, nsP m o ∧ ∀ y, y ≠ x → m y = none
theorem nsX_set {x : Str} {v : Value} {m : Str → Option Value} (h : ∀ y, y ≠ x → m y = none) : (fun y => if y = x then some v else m y) = lk [(x, v)] := by
  funext y
  by_cases e : y = x
  · subst e; simp [lk]
  · have : (y == x) = false := by simpa using e
    simp [lk, List.lookup_cons, this, e, h y e]
theorem new_compEnv {scope : Scope} {cl : List (Str × Addr)} {x : Str} {Q : Env → Shared → Prop} (C : Cx K G) (H : Led G s l) (hcell : ∀ y ∈ scope.names, y.2 ≠ .cell) (hkind : scope.kind = .function)
    (h : ∀ L s', Led G s' ((L, nsX x) :: l) → Q (newEnv scope L env.globals cl env.qual none .none (some env) builtinsNs) s') (hb : ∀ L, newEnv scope L env.globals cl env.qual none .none (some env) builtinsNs = newEnv scope L env.globals cl env.qual none .none (some env) 0 := by intro _; rfl) :
    wpAny M A (newFunctionEnv scope env.globals cl [] env.qual none .none (some env)) Q E s := by
  refine wpAny_newFunctionEnv hcell (by intro y hy; simp at hy) (fun h₁ hns hsb => ?_) hkind
  have H0 := H.alloc (tk := s.toks) (o := { cls := .type (if (some env).isSome then "dict" else "frame"), data := .dict #[] }) (P := fun _ => True) rfl trivial
  have H1 : Led G { s with heap := h₁, toks := s.toks + ([] : List (Str × Value)).length } ((s.heap.objs.size, nsX x) :: l) := by
    refine Led.upd (h' := h₁) (tk := s.toks + ([] : List (Str × Value)).length) H0 .head hsb ?_
    obtain ⟨o, es, ep, e, hd, hsk, hf⟩ := hns
    exact ⟨o, e, _, ⟨es, ep, hd, hsk, hf⟩, fun _ _ => rfl⟩
  exact h _ _ H1
theorem cv_local {scope : Scope} {cl : List (Str × Addr)} {L : Addr} {vars : List (Str × Value)} {x : Str} {pos : Pos} {v : Value} {Q : Value → Shared → Prop} (H : Led G s l) (hm : (L, nsP (lk vars)) ∈ l) (hv : lk vars x = some v) (h : Q v s)
    (hk : scope.kind = .function) (hx : (compEnvC scope cl L env).kindOf x = some .local) (hd : (x == ("__debug__" : Str)) = false) : wpAny M A (eval (.Name x pos) (compEnvC scope cl L env)) Q E s := r_local (env := compEnvC scope cl L env) H hm hv h hk hx hd

theorem Po.sub {x : Addr} {P : HP} (I : Po G l x P) (h : ∀ p ∈ l, p ∈ l') : Po G l' x P := I.imp (h _) id
/-- a comprehension over a list -/
theorem m_comp {elt iter : Expr} {x : Str} {px : Pos} {ifs : List Expr} {scope : Scope} {cl : List (Str × Addr)} {pos : Pos} {Q : Value → Shared → Prop} (R : Value → Value → List (Addr × HP) → Prop) (p : Value → Bool) (C : Cx K G) (hh : A.handled = none)
    (hclos : closureFor scope env = pure cl) (hcell : (scope.names.all fun y => y.2 != .cell) = true) (hkind : scope.kind = .function)
    (hnames : (scope.names.all fun y => y.2 != .local || scope.names.lookup y.1 == some .local) = true) (hx : scope.names.lookup x = some .local)
    (h : wpAny (model prog w) A (eval iter env) (fun xv s₁ => ∃ ax its l, xv = .ref ax ∧ its.length ≤ 1000 ∧ Led G s₁ l ∧ Po G l ax (liP its) ∧
      (∀ v ∈ its, ∀ L s₂ F, (∀ q ∈ l, q ∈ F) → Led G s₂ ((L, nsP (lk [(x, v)])) :: F) →
        wpAny (model prog w) A (forIn ifs true fun c r => if r = true then do let ok ← isTrue c (compEnvC scope cl L env) (eval c (compEnvC scope cl L env)); pure (ForInStep.yield ok) else pure (ForInStep.yield r))
          (fun ok s₃ => ok = p v ∧ Led G s₃ ((L, nsP (lk [(x, v)])) :: F) ∧ (p v = true → wpAny (model prog w) A (eval elt (compEnvC scope cl L env))
            (fun y s₄ => ∃ ex, R v y ex ∧ Led G s₄ ((L, nsP (lk [(x, v)])) :: (ex ++ F))) (fun _ _ => False) s₃)) (fun _ _ => False) s₂) ∧
      ∀ D ys exs s₂, Cmp R (its.filter p) ys exs → Led G s₂ ((D, liP ys) :: (exs ++ l)) → Q (.ref D) s₂) E s)
    (hs : ∀ x, foldedSetIterable iter env x = pure x := by intro _; rfl) (ht : ∀ it v, letOwnedTupleGo (.Name x px) it v = pure () := by intro _ _; rfl) :
    wpAny (model prog w) A (eval (.ListComp elt [⟨.Name x px, iter, ifs, 0⟩] scope pos) env) Q E s := by
  have hcell' : ∀ y ∈ scope.names, y.2 ≠ .cell := fun y hy => by simpa using List.all_eq_true.mp hcell y hy
  have hnames' : ∀ y ∈ scope.names, y.2 = .local → scope.names.lookup y.1 = some .local := fun y hy e => by
    have := List.all_eq_true.mp hnames y hy
    rw [e] at this
    simpa using this
  rw [eval_ListComp]
  refine wpAny_comprehension_free (use := none) rfl hs hclos hkind hnames' (wpAny_mono h (fun xv s₁ h₁ => ?_) fun _ _ e => e)
  obtain ⟨ax, its, l, rfl, hz, H, hm, turn, fin⟩ := h₁
  refine it_new H hm fun I s₂ H2 => ?_
  refine new_list H2 (by simp) fun D s₃ H3 => ?_
  refine new_compEnv (x := x) C H3 hcell' hkind fun L s₄ H4 => ?_
  show codeAny _ A (.compStart _ 0 (.ref I) (.ref D) (compEnvC scope cl L env)) _ s₄
  have loop : codeAny (model prog w) A (.compLoop (.ListComp elt [⟨.Name x px, iter, ifs, 0⟩] scope pos) 0 (.ref I) (.ref D) (compEnvC scope cl L env)) (compPost (model prog w) A E none Q (.ref D) L) s₄ := by
    refine codeAny_compLoop_tests (fun k s' => ∃ i ys exs, i ≤ its.length ∧ k = its.length + 1 - i ∧ Cmp R ((its.take i).filter p) ys exs ∧ Led G s' ((I, itP ax i) :: (L, nsX x) :: (D, liP ys) :: (exs ++ l))) ?_ (its.length + 1)
      ⟨0, [], [], Nat.zero_le _, rfl, .nil, Led.perm H4 (by show List.Perm ((L, nsX x) :: (D, liP []) :: (I, itP ax 0) :: l) ((I, itP ax 0) :: (L, nsX x) :: (D, liP []) :: l); tm_at "pk")⟩ (ht _)
    rintro k s' ⟨i, ys, exs, hi, rfl, hc, H'⟩
    have hys : ys.length ≤ 1000 := by
      have h1 := hc.len
      have h2 := List.length_filter_le p (its.take i)
      have h3 : (its.take i).length ≤ its.length := by rw [List.length_take]; omega
      omega
    have hm' : Po G ((L, nsX x) :: (D, liP ys) :: (exs ++ l)) ax (liP its) := hm.sub fun q hq => List.mem_cons_of_mem _ (List.mem_cons_of_mem _ (List.mem_append_right _ hq))
    cases hv : its[i]? with
    | none =>
      refine it_end C hh H' hm' hv fun s₅ H5 => ?_
      have hlen : its.length ≤ i := by simpa using hv
      rw [List.take_of_length_le hlen] at hc
      obtain ⟨o, e, m, ⟨es, ep, hd, hk, hf⟩, -⟩ := H5.get List.mem_cons_self
      refine ⟨m, ⟨o, es, ep, e, hd, hk, hf⟩, fun h' hs' => ?_⟩
      exact fin D ys exs _ hc (H5.extBut C hs'.extBut (tk := s₅.toks))
    | some v =>
      have hlt := (List.getElem?_eq_some_iff.mp hv).1
      refine it_item H' hm' hv fun s₅ H5 => ?_
      have H6 : Led G s₅ ((L, nsX x) :: (I, itP ax (i + 1)) :: (D, liP ys) :: (exs ++ l)) := Led.perm H5 (by tm_at "pk")
      obtain ⟨o, e, m, ⟨es, ep, hd, hk, hf⟩, hm0⟩ := H6.get List.mem_cons_self
      refine wpAny_assign_Name (wpAny_storeName_local (lookup_relabel_local hx) ⟨o, es, ep, e, hd, hk, hf⟩ (fun h₃ hn₃ hs₃ => ?_) (by simp [compEnvC, relabel, hkind]))
      have H7 : Led G { s₅ with heap := h₃, toks := s₅.toks + 1 } ((L, nsP (lk [(x, v)])) :: (I, itP ax (i + 1)) :: (D, liP ys) :: (exs ++ l)) := H6.upd .head hs₃ (by
        obtain ⟨o', es', ep', e', hd', hk', hf'⟩ := hn₃
        exact ⟨o', e', es', ep', hd', hk', fun y => (hf' y).trans (congrFun (nsX_set hm0) y)⟩)
      have up : ∀ {s₆ : Shared} {ex : List (Addr × HP)}, Led G s₆ ((L, nsP (lk [(x, v)])) :: (ex ++ ((I, itP ax (i + 1)) :: (D, liP ys) :: (exs ++ l)))) → Led G s₆ ((I, itP ax (i + 1)) :: (L, nsX x) :: (D, liP ys) :: ((ex ++ exs) ++ l)) := fun {s₆ ex} H8 => by
        have H9 : Led G s₆ ((L, nsX x) :: (ex ++ ((I, itP ax (i + 1)) :: (D, liP ys) :: (exs ++ l)))) := H8.weak fun o q => ⟨_, q, fun y hy => by
          have : (y == x) = false := by simpa using hy
          simp [lk, List.lookup_cons, this]⟩
        refine H9.perm ?_
        rw [List.append_assoc]
        refine (List.Perm.cons _ ((List.perm_middle (l₁ := ex)).trans ((List.perm_middle (l₁ := ex)).cons _))).trans ?_
        exact .swap ..
      refine wpAny_mono (turn v (List.mem_of_getElem? hv) L _ _ (fun q hq => List.mem_cons_of_mem _ (List.mem_cons_of_mem _ (List.mem_append_right _ hq))) H7) (fun ok s₆ h₆ => ?_) fun _ _ e => e.elim
      obtain ⟨rfl, H8, helt⟩ := h₆
      cases hp : p v with
      | false =>
        simp only [Bool.false_eq_true, if_false]
        refine ⟨its.length + 1 - (i + 1), by omega, i + 1, ys, exs, hlt, rfl, ?_, ?_⟩
        · rw [take_succ_filter p its i v hv, hp]; simpa using hc
        · exact up (ex := []) H8
      | true =>
        simp only [if_true]
        refine wpAny_mono (helt hp) (fun y s₇ h₇ => ?_) fun _ _ e => e.elim
        obtain ⟨ex, hR, H9⟩ := h₇
        have H10 := up H9
        refine li_append H10 (.tail (.tail .head)) hys fun s₈ H11 => ?_
        refine ⟨its.length + 1 - (i + 1), by omega, i + 1, ys ++ [y], ex ++ exs, hlt, rfl, ?_, H11⟩
        rw [take_succ_filter p its i v hv, hp]
        exact hc.snoc hR
  exact codeAny_compStart_list loop (it_self (i := 0) H4 (.tail _ (.tail _ (.head _))) loop)
end
section
variable {M : Model} {prog : Program} {w : World} {A : Around} {E : Value → Shared → Prop} {s : Shared} {G : Gh} {l l' : List (Addr × HP)} {K : Frag} {env : Env} {D : Addr} {xs ys : List Value}
theorem Led.swapP {P P' : HP} {o : Obj} (H : Led G s ((D, P) :: l)) (e : s.heap.get? D = some o) (hp : P' o) : Led G s ((D, P') :: l) :=
  H.upd (h' := s.heap) (tk := s.toks) .head ⟨rfl, fun _ _ => rfl⟩ ⟨o, e, hp⟩
/-- the law's state: the script's first sixty ints, a place, a sum -/
def stP (S : Addr) : HP := fun o => ∃ p tp sm ts, 0 ≤ p ∧ liP [.ref S, .int p tp, .int sm ts] o
theorem Led.st {S : Addr} (H : Led G s ((D, stP S) :: l)) : ∃ p tp sm ts, 0 ≤ p ∧ Led G s ((D, liP [.ref S, .int p tp, .int sm ts]) :: l) := by
  obtain ⟨o, e, p, tp, sm, ts, h, hl⟩ := H.get List.mem_cons_self
  exact ⟨p, tp, sm, ts, h, H.swapP e hl⟩
theorem Led.stBack {S : Addr} {p sm : Int} {tp ts : Tok} (H : Led G s ((D, liP [.ref S, .int p tp, .int sm ts]) :: l)) (h : 0 ≤ p) : Led G s ((D, stP S) :: l) :=
  H.weak fun o q => ⟨p, tp, sm, ts, h, q⟩
theorem Led.stB {S : Addr} {p sm : Int} {tp ts : Tok} (H : Led G s ((D, liP xs) :: l)) (e : xs = [.ref S, .int p tp, .int sm ts]) (h : 0 ≤ p) : Led G s ((D, stP S) :: l) := by
  subst e; exact H.stBack h
def IntL (xs : List Value) : Prop := ∀ v ∈ xs, ∃ i t, v = .int i t
def BInts (G : Gh) (S : Addr) : Prop := ∃ xs, (∃ o, G.g.get? S = some o ∧ liP xs o) ∧ IntL xs ∧ xs.length ≤ 1000
theorem BInts.mono {G G' : Gh} {S : Addr} (x : BInts G S) (h : ∀ b o, G.g.get? b = some o → G'.g.get? b = some o) : BInts G' S :=
  let ⟨xs, ⟨o, e, q⟩, a, b⟩ := x
  ⟨xs, ⟨o, h _ _ e, q⟩, a, b⟩
theorem fmod_range {a b : Int} (h : 0 < b) : 0 ≤ a.fmod b ∧ a.fmod b < b := by
  rw [Int.fmod_eq_emod_of_nonneg a (by omega)]
  exact ⟨Int.emod_nonneg _ (by omega), Int.emod_lt_of_pos _ h⟩
end
theorem lk_pre1 {x : Str} {v : Value} {vars : List (Str × Value)} (h : lk vars x = some v) : lk ((x, v) :: vars) = lk vars := by
  funext y
  show List.lookup y ((x, v) :: vars) = _
  rw [List.lookup_cons]
  by_cases e : y = x
  · subst e; rw [h]; simp
  · have : (y == x) = false := by simpa using e
    rw [this]; rfl
/-- names held -/
def HasL (vars : List (Str × Value)) : List (Str × Value) → Prop
  | [] => True
  | (x, v) :: r => lk vars x = some v ∧ HasL vars r
theorem lk_pres {vars : List (Str × Value)} : ∀ {base : List (Str × Value)}, HasL vars base → lk (base ++ vars) = lk vars
  | [], _ => rfl
  | (x, v) :: r, h => by
    have ih := lk_pres h.2
    show lk ((x, v) :: (r ++ vars)) = _
    rw [lk_pre1 (by rw [ih]; exact h.1), ih]
section
variable {M : Model} {prog : Program} {w : World} {A : Around} {E : Value → Shared → Prop} {s : Shared} {G : Gh} {l l' : List (Addr × HP)} {K : Frag} {env : Env} {D L : Addr} {xs ys : List Value}
theorem Led.pre1 {x : Str} {v : Value} {vars : List (Str × Value)} (H : Led G s ((L, nsP (lk vars)) :: l)) (h : lk vars x = some v) : Led G s ((L, nsP (lk ((x, v) :: vars))) :: l) := by
  rw [lk_pre1 h]; exact H
theorem Led.pres {vars : List (Str × Value)} (base : List (Str × Value)) (H : Led G s ((L, nsP (lk vars)) :: l)) (h : HasL vars base) : Led G s ((L, nsP (lk (base ++ vars))) :: l) := by
  rw [lk_pres h]; exact H
theorem Led.back3 {x1 x2 x3 : Str} {v1 v2 v3 : Value} {vars : List (Str × Value)} (H : Led G s ((L, nsP (lk vars)) :: l)) (h1 : lk vars x1 = some v1) (h2 : lk vars x2 = some v2) (h3 : lk vars x3 = some v3)
    (n12 : (x1 == x2) = false := by decide +kernel) (n13 : (x1 == x3) = false := by decide +kernel) (n23 : (x2 == x3) = false := by decide +kernel) : Led G s ((L, nsP (lk ((x1, v1) :: (x2, v2) :: (x3, v3) :: vars))) :: l) :=
  ((H.pre1 h3).pre1 (lk_miss n23 h2)).pre1 (lk_miss n12 (lk_miss n13 h1))
theorem li_meth {name : Str} {id : String} {pl : Sem Bool} {Q : Value × List Value → Shared → Prop} (slot : Slot "list" name id) (ty : typeOf (.builtin id) = pure (.type "method_descriptor")) (H : Led G s l) (hm : Po G l D (liP xs)) (h : Q (.builtin id, [.ref D]) s) :
    wpAny (model prog w) A (getMethod (.ref D) name pl) Q E s := by
  obtain ⟨o, e, n, rfl⟩ := hm.get H
  exact getMethod_builtin ⟨_, e, rfl⟩ PySem.F.plainAttrs_list slot ty (fun a e' => by cases e'; exact ⟨_, e, rfl⟩) h
theorem e_app {o elt : Expr} {apos pos : Pos} {Q : Value → Shared → Prop}
    (hbase : attributeBase o "append" env (eval o env) = eval o env)
    (hfew : ((backTo pos (starEach [elt] env)).all (fun x => !x.1) && (backToKw pos (keywordEach [] env)).all (fun x => x.1.isSome)
      && decide (([elt] : List Expr).length + ([] : List Keyword).length + (if ([] : List Keyword).isEmpty then 0 else 1) < 30)) = true)
    (hline : (apos.endLine == pos.line) = true) (htrees : backTo pos (starEach [elt] env) = [(false, eval elt env)])
    (h : wpAny (model prog w) A (eval o env) (fun ov s₁ => ∃ D, ov = .ref D ∧ (∃ G l xs, Led G s₁ l ∧ Po G l D (liP xs)) ∧
      wpAny (model prog w) A (eval elt env) (fun y s₂ => wpAny (model prog w) A (call (.builtin "list.append") [.ref D, y]) Q E s₂) E s₁) E s) :
    wpAny (model prog w) A (eval (.Call (.Attribute o (Str.ofString "append") apos) [elt] [] pos) env) Q E s :=
  wpAny_Call_append hbase hfew hline htrees (wpAny_mono h (fun ov s₁ ⟨D, e, ⟨G, l, xs, H, hm⟩, hh⟩ => ⟨D, xs.toArray, e, by obtain ⟨o, e, n, rfl⟩ := hm.get H; exact ⟨_, n, e, rfl, rfl, rfl⟩, hh⟩) fun _ _ x => x)
theorem app_mid {X : Addr → Prop} (H : Led G s l) (hm : Po G l D (liP xs)) (h : X D) : ∃ D', Value.ref D = .ref D' ∧ (∃ G l xs, Led G s l ∧ Po G l D' (liP xs)) ∧ X D' := ⟨D, rfl, ⟨G, l, xs, H, hm⟩, h⟩
theorem unp_mid {T : Addr} {a b c : Value} {X : Value → Value → Value → Shared → Prop} (H : Led G s l) (hm : Po G l T (tuP [a, b, c])) (h : ∀ s₂, Led G s₂ l → X a b c s₂) :
    ∃ T' a' b' c' l, Value.ref T = .ref T' ∧ Led G s l ∧ Po G l T' (tuP [a', b', c']) ∧ ∀ s₂, Led G s₂ l → X a' b' c' s₂ := ⟨T, a, b, c, l, rfl, H, hm, h⟩
theorem cw_B0 {pos : Pos} {id : String} {first : List Value} {Q : Value → Shared → Prop} (h : wpAny M A (call (.builtin id) (first ++ [])) Q E s) :
    wpAny M A (callWith pos (.builtin id) first (backTo pos (starEach [] env)) (backToKw pos (keywordEach [] env))) Q E s := by
  show wpAny M A (callWith pos (.builtin id) first [] []) Q E s
  exact Calls.callWith_builtin rfl (PyProof.Rows.evalArgs_empty h)
theorem Tl.led {ts : List Tl} : tupL ts = ts.map fun e => (e.a, tuP [.int e.k e.t, e.v]) := rfl
end
section
variable {M : Model} {prog : Program} {w : World} {A : Around} {E : Value → Shared → Prop} {s : Shared} {G : Gh} {l l' : List (Addr × HP)} {K : Frag} {env : Env} {D L : Addr} {xs ys : List Value}
/-- new entries at the heap's end -/
theorem Led.two {h' : Heap} {tk : Nat} {P P' : HP} {c : Addr} (C : Cx K G) (H : Led G s l) (hk : ∀ b o, s.heap.get? b = some o → h'.get? b = some o) (hL : ∃ o, h'.get? s.heap.objs.size = some o ∧ P o) (hc : s.heap.objs.size < c) (h2 : ∃ o, h'.get? c = some o ∧ P' o) :
    Led G { s with heap := h', toks := tk } ((s.heap.objs.size, P) :: (c, P') :: l) := by
  have H1 : Led G { s with heap := h', toks := tk } l := H.grow C hk
  have fresh : ∀ a, s.heap.objs.size ≤ a → G.g.get? a = none := fun a ha => by
    cases q : G.g.get? a with
    | none => rfl
    | some o' => exact absurd (Heap.lt_size (H.keep _ _ q)) (Nat.not_lt.mpr ha)
  have off : ∀ a, s.heap.objs.size ≤ a → a ∉ l.map Prod.fst := fun a ha hm => by
    obtain ⟨p, hp, e⟩ := List.mem_map.mp hm
    obtain ⟨_, o', e', _⟩ := H.at_ p hp
    exact absurd (Heap.lt_size e') (by rw [e]; exact Nat.not_lt.mpr ha)
  refine ⟨H1.keep, ?_, fun p hp => ?_, H1.gens, H1.drawn, H1.os, fun p hp => ?_, H1.big⟩
  · simp only [List.map_cons, List.nodup_cons]
    refine ⟨fun hm => ?_, off _ (Nat.le_of_lt hc), H.nd⟩
    rcases List.mem_cons.mp hm with e | hm
    · exact absurd e (Nat.ne_of_lt hc)
    · exact off _ (Nat.le_refl _) hm
  · rcases List.mem_cons.mp hp with rfl | hp
    · exact ⟨fresh _ (Nat.le_refl _), hL⟩
    · rcases List.mem_cons.mp hp with rfl | hp
      · exact ⟨fresh _ (Nat.le_of_lt hc), h2⟩
      · exact H1.at_ p hp
  · rcases List.mem_cons.mp hp with rfl | hp
    · exact H.big
    · rcases List.mem_cons.mp hp with rfl | hp
      · exact Nat.lt_trans H.big hc
      · exact H.hi p hp
/-- a def entered whose one name lies in a cell -/
theorem enterC {R : Result → Shared → Prop} {name qual : Str} {params : Arguments} {body : List Stmt} {scope : Scope} {dV kV doc pm cdv ct oc : Value} {an od : Option Addr} {osl : Array (Option Value)} {f : Addr} {vals : List Value} {binds vars : List (Str × Value)} {x : Str} {v : Value}
    {n : Nat} (C : Cx K G) (H : Led G s l) (hr : Rm A (n + 1))
    (ho : K.lookup f = some ⟨oc, od, .func (fnOf name qual params body scope dV kV doc pm an cdv ct), osl⟩) (hcd : codeIn K cdv qual = true)
    (hbind : bindArgs (fnOf name qual params body scope dV kV doc pm an cdv ct) ⟨vals, []⟩ = pure binds)
    (hco : scope.isCoroutine = false) (hgen : scope.isGenerator = false) (hk : scope.kind = .function)
    (hcells : ∀ n, cellsFrom n scope.names [] = [(x, n)]) (hkind : (binds.all fun y => scope.names.lookup y.1 == some .local || (scope.names.lookup y.1 == some .cell && y.1 == x)) = true)
    (hvars : ∀ L, bindL (envX qual scope L f cdv [(x, L + 1)]).kindOf binds (fun _ => none) = lk vars) (hv : ∀ L, bindC (envX qual scope L f cdv [(x, L + 1)]).kindOf binds (fun _ => none) x = some v)
    (h : ∀ L c s', Rm (A.deeper (envX qual scope L f cdv [(x, c)])) n → Led G s' ((L, nsP (lk vars)) :: (c, ceP (some v)) :: l) →
      wpAny (model prog w) (A.deeper (envX qual scope L f cdv [(x, c)])) (execs body (envX qual scope L f cdv [(x, c)])) (fun fl s' => R (.ok (.ret (match fl with | .ret v => v | _ => .none))) s') (fun _ _ => False) s') :
    codeAny (model prog w) A (.call (.ref f) ⟨vals, []⟩) R s := by
  refine codeAny_call_cells (fd := fnOf name qual params body scope dV kV doc pm an cdv ct) (body := body) (binds := binds) hr.room ((C.K H) _ _ ho) rfl (C.lim H) (codeRec_of (C.K H) hcd) rfl hbind rfl (fun y hy => ?_) (fun s₁ IC => ?_) hco hgen hk
  · have := List.all_eq_true.mp hkind y hy
    simp only [Bool.or_eq_true, beq_iff_eq, Bool.and_eq_true] at this
    rcases this with e | ⟨e, e2⟩
    · exact .inl e
    · refine .inr ⟨e, ?_⟩
      rw [hcells, e2]
      simp
  · have he : callEnvC (fnOf name qual params body scope dV kV doc pm an cdv ct) s.heap.objs.size f = envX qual scope s.heap.objs.size f cdv [(x, s.heap.objs.size + 1)] := by
      unfold callEnvC envX newEnv
      simp only [hcells]
    rw [he] at IC ⊢
    have hns := IC.toInCall.ns
    have hcell := IC.cell x (s.heap.objs.size + 1) (by simp)
    have hkeep := IC.toInCall.keep
    obtain ⟨h₁, tk, rfl⟩ := IC.toInCall.same
    rw [hv] at hcell
    have e2 : bindL (envX qual scope s.heap.objs.size f cdv [(x, s.heap.objs.size + 1)]).kindOf binds (fun _ => none) = lk vars := hvars _
    rw [e2] at hns
    refine wpAny_mono (h s.heap.objs.size (s.heap.objs.size + 1) _ hr.deeper (H.two C (tk := tk) hkeep ?_ (Nat.lt_succ_self _) ?_)) (fun _ _ q => q) fun _ _ q => q.elim
    · obtain ⟨o, es, ep, e, hd, hsk, hf⟩ := hns
      exact ⟨o, e, es, ep, hd, hsk, hf⟩
    · obtain ⟨o, e, hd⟩ := hcell
      exact ⟨o, e, hd⟩
theorem enterCQ {R : Result → Shared → Prop} {name qual : Str} {params : Arguments} {body : List Stmt} {scope : Scope} {dV kV doc pm cdv ct oc : Value} {an od : Option Addr} {osl : Array (Option Value)} {f : Addr} {vals : List Value} {binds vars : List (Str × Value)} {x : Str} {v : Value}
    {n : Nat} (C : Cx K G) (H : Led G s l) (hr : Rm A (n + 1))
    (ho : K.lookup f = some ⟨oc, od, .func (fnOf name qual params body scope dV kV doc pm an cdv ct), osl⟩) (hcd : codeIn K cdv qual = true)
    (hbind : bindArgs (fnOf name qual params body scope dV kV doc pm an cdv ct) ⟨vals, []⟩ = pure binds)
    (hco : scope.isCoroutine = false) (hgen : scope.isGenerator = false) (hk : scope.kind = .function)
    (hcells : ∀ n, cellsFrom n scope.names [] = [(x, n)]) (hkind : (binds.all fun y => scope.names.lookup y.1 == some .local || (scope.names.lookup y.1 == some .cell && y.1 == x)) = true)
    (hvars : ∀ L, bindL (envX qual scope L f cdv [(x, L + 1)]).kindOf binds (fun _ => none) = lk vars) (hv : ∀ L, bindC (envX qual scope L f cdv [(x, L + 1)]).kindOf binds (fun _ => none) x = some v)
    (h : ∀ L c s' A' Q E, Ret R Q → Rm A' n → Led G s' ((L, nsP (lk vars)) :: (c, ceP (some v)) :: l) → wpAny (model prog w) A' (execs body (envX qual scope L f cdv [(x, c)])) Q E s') :
    codeAny (model prog w) A (.call (.ref f) ⟨vals, []⟩) R s :=
  enterC C H hr ho hcd hbind hco hgen hk hcells hkind hvars hv fun L c s' hr' H' => wpAny_mono (h L c s' _ _ _ ⟨fun x => x, fun x => x⟩ hr' H') (fun _ _ x => x) fun _ _ x => x
theorem x_local {name : Str} {scope : Scope} {L a : Addr} {cd : Value} {cl : List (Str × Addr)} {vars : List (Str × Value)} {x : Str} {pos : Pos} {v : Value} {Q : Value → Shared → Prop} (H : Led G s l) (hm : (L, nsP (lk vars)) ∈ l) (hv : lk vars x = some v) (h : Q v s)
    (hk : scope.kind = .function) (hx : (envX name scope L a cd cl).kindOf x = some .local) (hd : (x == ("__debug__" : Str)) = false) : wpAny M A (eval (.Name x pos) (envX name scope L a cd cl)) Q E s := r_local (env := envX name scope L a cd cl) H hm hv h hk hx hd
theorem x_global {name : Str} {scope : Scope} {L a : Addr} {cd : Value} {cl : List (Str × Addr)} {x : Str} {pos : Pos} {v : Value} {Q : Value → Shared → Prop} (C : Cx K G) (H : Led G s l) (e : nsIn K mainGlobals x = some (some v)) (h : Q v s)
    (hk : scope.kind = .function) (hx : (envX name scope L a cd cl).kindOf x = some .globalImplicit) (hd : (x == ("__debug__" : Str)) = false) : wpAny M A (eval (.Name x pos) (envX name scope L a cd cl)) Q E s := r_global C H e h rfl hk hx hd
theorem x_builtin {name : Str} {scope : Scope} {L a : Addr} {cd : Value} {cl : List (Str × Addr)} {x : Str} {pos : Pos} {v : Value} {Q : Value → Shared → Prop} (C : Cx K G) (H : Led G s l) (e : nsIn K mainGlobals x = some none) (hv : bootBuiltins x = some v) (h : Q v s)
    (hk : scope.kind = .function) (hx : (envX name scope L a cd cl).kindOf x = some .globalImplicit) (hd : (x == ("__debug__" : Str)) = false) (hn : (x == ("__name__" : Str)) = false) : wpAny M A (eval (.Name x pos) (envX name scope L a cd cl)) Q E s := r_builtin C H e hv h rfl rfl hk hx hd hn
theorem x_cell {name : Str} {scope : Scope} {L a c : Addr} {cd : Value} {cl : List (Str × Addr)} {x : Str} {pos : Pos} {v : Value} {Q : Value → Shared → Prop} (H : Led G s l) (hm : Po G l c (ceP (some v))) (h : Q v s)
    (hk : scope.kind = .function) (hx : (envX name scope L a cd cl).kindOf x = some .cell) (hc : cl.lookup x = some c) (hd : (x == ("__debug__" : Str)) = false) : wpAny M A (eval (.Name x pos) (envX name scope L a cd cl)) Q E s := by
  obtain ⟨o, e, q⟩ := hm.get H
  exact wpAny_Name (wpAny_loadName_cell (env := envX name scope L a cd cl) hk hx hc ⟨o, e, q⟩ h) hd
theorem x_store {name : Str} {scope : Scope} {L a : Addr} {cd : Value} {cl : List (Str × Addr)} {vars : List (Str × Value)} {x : Str} {v : Value} {Q : Unit → Shared → Prop} (H : Led G s l) (r : Rep L (nsP (lk vars)) (nsP (lk ((x, v) :: vars))) l l') (h : ∀ s', Led G s' l' → Q () s')
    (hk : scope.kind = .function) (hx : (envX name scope L a cd cl).kindOf x = some .local) : wpAny M A (storeName (envX name scope L a cd cl) x v) Q E s := r_store (env := envX name scope L a cd cl) H r h hk hx
/-- names in a comprehension's own frame -/
theorem cv_builtin {scope : Scope} {cl : List (Str × Addr)} {L : Addr} {x : Str} {pos : Pos} {v : Value} {Q : Value → Shared → Prop} (C : Cx K G) (H : Led G s l) (e : nsIn K mainGlobals x = some none) (hv : bootBuiltins x = some v) (h : Q v s)
    (hg : env.globals = mainGlobals) (hb : env.builtins = builtinsNs) (hk : scope.kind = .function) (hx : (compEnvC scope cl L env).kindOf x = some .globalImplicit) (hd : (x == ("__debug__" : Str)) = false) (hn : (x == ("__name__" : Str)) = false) :
    wpAny M A (eval (.Name x pos) (compEnvC scope cl L env)) Q E s := r_builtin (env := compEnvC scope cl L env) C H e hv h hg hb hk hx hd hn
theorem cv_cell {scope : Scope} {cl : List (Str × Addr)} {L c : Addr} {x : Str} {pos : Pos} {v : Value} {Q : Value → Shared → Prop} (H : Led G s l) (hm : Po G l c (ceP (some v))) (h : Q v s)
    (hk : scope.kind = .function) (hx : (compEnvC scope cl L env).kindOf x = some .cell) (hc : cl.lookup x = some c) (hd : (x == ("__debug__" : Str)) = false) : wpAny M A (eval (.Name x pos) (compEnvC scope cl L env)) Q E s := by
  obtain ⟨o, e, q⟩ := hm.get H
  exact wpAny_Name (wpAny_loadName_cell (env := compEnvC scope cl L env) hk hx hc ⟨o, e, q⟩ h) hd
end
/-- an iterator in the ledger, which looks at F₀ -/
structure Iter (prog : Program) (w : World) (A : Around) (G : Gh) (I : Addr) (n : Nat) (P : Nat → HP) (V : Nat → Value → Prop) (F₀ : List (Addr × HP)) : Prop where
  item : ∀ i l s (Q : Option Value → Shared → Prop) (E : Value → Shared → Prop), i < n → (∀ p ∈ F₀, p ∈ l) → Led G s ((I, P i) :: l) → (∀ v s', V i v → Led G s' ((I, P (i + 1)) :: l) → Q (some v) s') → wpAny (model prog w) A (pyNext (.ref I)) Q E s
  done : ∀ l s (Q : Option Value → Shared → Prop) (E : Value → Shared → Prop), (∀ p ∈ F₀, p ∈ l) → Led G s ((I, P n) :: l) → (∀ s', Led G s' l → Q none s') → wpAny (model prog w) A (pyNext (.ref I)) Q E s
section
variable {M : Model} {prog : Program} {w : World} {A : Around} {E : Value → Shared → Prop} {s : Shared} {G : Gh} {l l' : List (Addr × HP)} {K : Frag} {env : Env} {D L : Addr} {xs ys : List Value}
theorem Iter.list (C : Cx K G) (hh : A.handled = none) (I ax : Addr) (xs : List Value) : Iter prog w A G I xs.length (itP ax) (fun i v => xs[i]? = some v) [(ax, liP xs)] where
  item := fun i l s Q E hi hF H hQ => it_item H (.led (hF _ (by simp))) (List.getElem?_eq_getElem hi) fun s' H' => hQ _ s' (List.getElem?_eq_getElem hi) H'
  done := fun l s Q E hF H hQ => it_end (xs := xs) C hh H (.led (hF _ (by simp))) (by simp) hQ
def rgP (n : Int) (i : Nat) : HP := fun o => o = { cls := .type "range_iterator", data := .fields #[rawInt (0 + i * 1), rawInt (n - i), rawInt 1] }
theorem Iter.range (C : Cx K G) (hh : A.handled = none) (I : Addr) (n : Nat) : Iter prog w A G I n (rgP n) (fun i v => ∃ t, v = .int i t) [] where
  item := fun i l s Q E hi hF H hQ => by
    obtain ⟨_, e, rfl⟩ := H.get List.mem_cons_self
    refine wpAny_pyNext_range_item (x := 0 + (i : Int) * 1) (left := (n : Int) - i) (step := 1) e (by omega) fun h' hit hs => ?_
    have := hQ (.int (0 + (i : Int) * 1) s.toks) { s with heap := h', toks := s.toks + 1 } ⟨s.toks, by rw [Int.mul_one, Int.zero_add]⟩
    refine this (H.upd (tk := s.toks + 1) .head hs ⟨_, hit, ?_⟩)
    show _ = _
    rw [show (0 + (i : Int) * 1 + 1 : Int) = 0 + ((i + 1 : Nat) : Int) * 1 by omega, show ((n : Int) - i - 1 : Int) = n - ((i + 1 : Nat) : Int) by omega]
  done := fun l s Q E hF H hQ => by
    obtain ⟨_, e, rfl⟩ := H.get List.mem_cons_self
    exact wpAny_pyNext_range_end (x := 0 + (n : Int) * 1) (left := (n : Int) - n) (step := 1) hh e (by omega) fun h' he => hQ _ (H.extBut C he (tk := s.toks))
theorem cw_T {pos : Pos} {T : String} {e : Expr} {rest : List Expr} {Q : Value → Shared → Prop} (he : starEach (e :: rest) env = (false, eval e env) :: starEach rest env) (hp : (backTo pos (starEach (e :: rest) env)).any (·.1) = false)
    (h : ArgsW M A env pos (e :: rest) (fun vs s₁ => wpAny M A (call (.type T) ([] ++ vs)) Q E s₁) E s) :
    wpAny M A (callWith pos (.type T) [] (backTo pos (starEach (e :: rest) env)) (backToKw pos (keywordEach [] env))) Q E s := by
  unfold ArgsW at h
  show wpAny M A (callWith pos (.type T) [] (backTo pos (starEach (e :: rest) env)) []) Q E s
  rw [he] at h hp ⊢
  exact PyProof.Rows.callWith_type hp (Calls.evalArgs_plain h)
theorem t_sub {o i : Expr} {pos : Pos} {Q : Bool → Shared → Prop} (h : wpAny M A (eval (.Subscript o i pos) env) (fun v s₁ => wpAny M A (truthy v) Q E s₁) E s) : wpAny M A (isTrue (.Subscript o i pos) env (eval (.Subscript o i pos) env)) Q E s := wpAny_isTrue_value h
theorem t_bin {o i : Expr} {op : Operator} {pos : Pos} {Q : Bool → Shared → Prop} (h : wpAny M A (eval (.BinOp o op i pos) env) (fun v s₁ => wpAny M A (truthy v) Q E s₁) E s) : wpAny M A (isTrue (.BinOp o op i pos) env (eval (.BinOp o op i pos) env)) Q E s := wpAny_isTrue_value h
theorem t_call {f : Expr} {args : List Expr} {kws : List Keyword} {pos : Pos} {Q : Bool → Shared → Prop} (h : wpAny M A (eval (.Call f args kws pos) env) (fun v s₁ => wpAny M A (truthy v) Q E s₁) E s) : wpAny M A (isTrue (.Call f args kws pos) env (eval (.Call f args kws pos) env)) Q E s := wpAny_isTrue_value h
/-- a loop -/
theorem for_loop {x : Str} {px : Pos} {body : List Stmt} {R : Result → Shared → Prop} {I : Addr} {n : Nat} {P : Nat → HP} {V : Nat → Value → Prop} {F₀ : List (Addr × HP)} (J : Nat → List (Addr × HP) → Prop) (W : Iter prog w A G I n P V F₀) (H : Led G s ((I, P 0) :: (F₀ ++ l))) (h0 : J 0 l)
    (turn : ∀ i v l₂ s₂ F, i < n → V i v → J i l₂ → Led G s₂ (l₂ ++ F) → wpAny (model prog w) A (storeName env x v) (fun _ s₃ => wpAny (model prog w) A (execs body env) (fun f s₄ => match f with
      | .next | .cont => ∃ l₃, J (i + 1) l₃ ∧ Led G s₄ (l₃ ++ F)
      | .brk => False
      | .ret v => R (.ok (.ret v)) s₄) (fun _ _ => False) s₃) (fun _ _ => False) s₂)
    (fin : ∀ l₂ s₂, J n l₂ → Led G s₂ (F₀ ++ l₂) → R (.ok .next) s₂) (ht : ∀ it v, letOwnedTupleGo (.Name x px) it v = pure () := by intro _ _; rfl) :
    codeAny (model prog w) A (.forLoop (.Name x px) (.ref I) body [] env) R s := by
  refine codeAny_forLoop_any (fun k s' => ∃ i l₂, i ≤ n ∧ k = n + 1 - i ∧ J i l₂ ∧ Led G s' ((I, P i) :: (F₀ ++ l₂))) ?_ (n + 1) ⟨0, l, Nat.zero_le _, rfl, h0, H⟩
  rintro k s' ⟨i, l₂, hi, rfl, hJ, H'⟩
  by_cases hlt : i < n
  · refine W.item i _ _ _ _ hlt (fun p hp => List.mem_append_left _ hp) H' fun v s₁ hv H1 => ?_
    refine wpAny_of_eq (ht _ v) ?_
    refine PyProof.Rows.assign_Name ?_
    have H2 : Led G s₁ (l₂ ++ ((I, P (i + 1)) :: F₀)) := H1.perm (by
      rw [← List.cons_append]
      exact List.perm_append_comm)
    refine wpAny_mono (turn i v l₂ s₁ _ hlt hv hJ H2) (fun _ s₃ h₃ => wpAny_mono h₃ (fun f s₄ h₄ => ?_) fun _ _ e => e.elim) fun _ _ e => e.elim
    have nx : (∃ l₃, J (i + 1) l₃ ∧ Led G s₄ (l₃ ++ ((I, P (i + 1)) :: F₀))) → ∃ m, m < n + 1 - i ∧ ∃ i l₂, i ≤ n ∧ m = n + 1 - i ∧ J i l₂ ∧ Led G s₄ ((I, P i) :: (F₀ ++ l₂)) := by
      rintro ⟨l₃, hJ3, H4⟩
      refine ⟨n + 1 - (i + 1), by omega, i + 1, l₃, hlt, rfl, hJ3, H4.perm ?_⟩
      rw [← List.cons_append]
      exact List.perm_append_comm
    cases f with
    | next => exact nx h₄
    | cont => exact nx h₄
    | brk => exact h₄.elim
    | ret v => exact h₄
  · obtain rfl : i = n := by omega
    refine W.done _ _ _ _ (fun p hp => List.mem_append_left _ hp) H' fun s₁ H1 => ?_
    exact wpAny_execs_nil (fin l₂ s₁ hJ H1)
theorem m_forL {x : Str} {px pos : Pos} {iter : Expr} {body : List Stmt} {Q : Flow → Shared → Prop} (J : Nat → List (Addr × HP) → Prop) (C : Cx K G) (hh : A.handled = none)
    (h : wpAny (model prog w) A (eval iter env) (fun xv s₁ => ∃ ax its l, xv = .ref ax ∧ Led G s₁ ((ax, liP its) :: l) ∧ J 0 l ∧
      (∀ i v l₂ s₂ F, its[i]? = some v → J i l₂ → Led G s₂ (l₂ ++ F) → wpAny (model prog w) A (storeName env x v) (fun _ s₃ => wpAny (model prog w) A (execs body env) (fun f s₄ => match f with
        | .next | .cont => ∃ l₃, J (i + 1) l₃ ∧ Led G s₄ (l₃ ++ F)
        | .brk => False
        | .ret v => Q (.ret v) s₄) (fun _ _ => False) s₃) (fun _ _ => False) s₂) ∧
      (∀ l₂ s₂, J its.length l₂ → Led G s₂ l₂ → Q .next s₂)) E s) (hs : ∀ x, foldedSetIterable iter env x = pure x := by intro _; rfl) :
    wpAny (model prog w) A (exec (.For (.Name x px) iter body [] pos) env) Q E s := by
  refine wpAny_For (wpAny_mono h (fun xv s₁ h₁ => ?_) fun _ _ e => e) hs
  obtain ⟨ax, its, l, rfl, H, h0, turn, fin⟩ := h₁
  refine it_new H (.led List.mem_cons_self) fun I s₂ H2 => ?_
  exact for_loop J (Iter.list C hh I ax its) H2 h0 (fun i v l₂ s₂ F _ hv hJ H' => turn i v l₂ s₂ F hv hJ H') fun l₂ s₂ hJ H' => fin l₂ s₂ hJ H'.tl
theorem m_forR {x : Str} {px pos : Pos} {iter : Expr} {body : List Stmt} {Q : Flow → Shared → Prop} (J : Nat → List (Addr × HP) → Prop) (C : Cx K G) (hh : A.handled = none)
    (h : wpAny (model prog w) A (eval iter env) (fun xv s₁ => ∃ r n t l, xv = .ref r ∧ n ≤ 1000 ∧ Led G s₁ ((r, fun o => ∃ u v, o = { cls := .type "range", data := .fields #[.int 0 u, .int (n : Nat) t, .int 1 v] }) :: l) ∧ J 0 l ∧
      (∀ i t l₂ s₂ F, i < n → J i l₂ → Led G s₂ (l₂ ++ F) → wpAny (model prog w) A (storeName env x (.int (i : Nat) t)) (fun _ s₃ => wpAny (model prog w) A (execs body env) (fun f s₄ => match f with
        | .next | .cont => ∃ l₃, J (i + 1) l₃ ∧ Led G s₄ (l₃ ++ F)
        | .brk => False
        | .ret v => Q (.ret v) s₄) (fun _ _ => False) s₃) (fun _ _ => False) s₂) ∧
      (∀ l₂ s₂, J n l₂ → Led G s₂ l₂ → Q .next s₂)) E s) (hs : ∀ x, foldedSetIterable iter env x = pure x := by intro _; rfl) :
    wpAny (model prog w) A (exec (.For (.Name x px) iter body [] pos) env) Q E s := by
  refine wpAny_For (wpAny_mono h (fun xv s₁ h₁ => ?_) fun _ _ e => e) hs
  obtain ⟨r, n, t, l, rfl, hn, H, h0, turn, fin⟩ := h₁
  obtain ⟨_, e, u, v, rfl⟩ := H.get List.mem_cons_self
  have hsz : Builtin.Range.rangeSize 0 n 1 = ((n : Nat) : Int) := by rw [PyProof.Rows.rangeSize_nat]; omega
  refine wpAny_pyIter_range (a := 0) (b := n) (c := 1) e (by unfold Builtin.Range.small; rw [hsz]; simp [Builtin.Range.rangeFitsLong]; omega) ?_
  have H2 := H.alloc (tk := s₁.toks) (o := { cls := .type "range_iterator", data := .fields #[rawInt 0, rawInt (Builtin.Range.rangeSize 0 n 1), rawInt 1] }) (P := rgP n 0) rfl (by rw [hsz]; show _ = _; simp)
  refine for_loop J (Iter.range C hh _ n) (F₀ := []) (l := l) (H2.perm (.swap ..)).tl h0 (fun i v l₂ s₂ F hi ⟨t, hv⟩ hJ H' => hv ▸ turn i t l₂ s₂ F hi hJ H') fun l₂ s₂ hJ H' => fin l₂ s₂ hJ H'
end
section
variable {M : Model} {prog : Program} {w : World} {A : Around} {E : Value → Shared → Prop} {s : Shared} {G : Gh} {l l' : List (Addr × HP)} {K : Frag} {env : Env} {D L : Addr} {xs ys : List Value}
def numAt (xs : List Value) (i : Nat) : Int := match xs[i]? with
  | some (Value.int n _) => n
  | _ => 0
theorem numAt_eq {xs : List Value} {i : Nat} {n : Int} {t : Tok} (h : xs[i]? = some (.int n t)) : numAt xs i = n := by unfold numAt; rw [h]
theorem preSum_le {val : Nat → Int} (h : ∀ i, 0 ≤ val i ∧ val i < 1000) : ∀ j : Nat, 0 ≤ preSum val j ∧ preSum val j ≤ 1000 * j
  | 0 => ⟨by simp [preSum], by simp [preSum]⟩
  | j + 1 => by
    have := preSum_le h j
    have := h j
    simp only [preSum]
    omega
theorem i_sum {Q : Value → Shared → Prop} (C : Cx K G) (hh : A.handled = none) (H : Led G s l) (hm : Po G l D (liP xs)) (hx : ∀ v ∈ xs, ∃ n t, v = .int n t ∧ 0 ≤ n ∧ n < 1000) (hz : xs.length ≤ 1000) (h : ∀ n t s', Led G s' l → Q (.int n t) s') :
    wpAny (model prog w) A (call (.builtin "sum") [.ref D]) Q E s := by
  have hl := H.list hm
  refine call_sum_walk (wpAny_pyIter_list hl ?_)
  have hne : D ≠ s.heap.objs.size := by obtain ⟨o, e, _⟩ := hl; exact Nat.ne_of_lt (Heap.lt_size e)
  have hval : ∀ (i : Nat) (v : Value), xs.toArray[i]? = some v → ∃ t, v = Value.int (numAt xs i) t := fun i v hv => by
    have hv' : xs[i]? = some v := by simpa using hv
    obtain ⟨n, t, rfl, _⟩ := hx v (List.mem_of_getElem? hv')
    exact ⟨t, by rw [numAt_eq hv']⟩
  have hb : ∀ i, 0 ≤ numAt xs i ∧ numAt xs i < 1000 := fun i => by
    cases hv : xs[i]? with
    | none => unfold numAt; rw [hv]; simp
    | some v =>
      obtain ⟨n, t, rfl, h0, h1⟩ := hx v (List.mem_of_getElem? hv)
      rw [numAt_eq hv]
      exact ⟨h0, h1⟩
  refine ⟨s.heap.objs.size, _, _, xs.toArray.size, _, _, numAt xs, rfl, Walks.list (A := A.in1) hh s.heap.objs.size D hne xs.toArray, ⟨⟨_, Heap.get?_push_size _ rfl, rfl, rfl⟩, hl.push _⟩, fun b hb => ?_, hval, fun j hj => ?_, fun h' tk t' hk => ?_⟩
  · show b < (s.heap.push _).objs.size
    rw [Heap.size_push]
    rcases List.mem_cons.mp hb with rfl | hb
    · exact Nat.lt_succ_self _
    · rw [List.mem_singleton.mp hb]; obtain ⟨o, e, _⟩ := hl; exact Nat.lt_succ_of_lt (Heap.lt_size e)
  · have h1 := hb j
    have h2 := preSum_le hb (j + 1)
    have h3 : j < 1000 := by simp at hj; omega
    unfold InLong
    omega
  · refine h _ _ _ (H.grow C fun b o e => hk b o ?_ (Heap.get?_push_of_some _ e))
    simp only [List.mem_singleton]
    exact Nat.ne_of_lt (Heap.lt_size e)
theorem e_slice {value : Expr} {k : Int} {kk : Nat} {cp p pos : Pos} {Q : Value → Shared → Prop}
    (h : wpAny (model prog w) A (eval value env) (fun o s₁ => ∃ D xs l, o = .ref D ∧ Led G s₁ l ∧ Po G l D (liP xs) ∧ xs.length ≤ 1000 ∧ ∀ x zs s', (∀ z ∈ zs, z ∈ xs) → zs.length ≤ 1000 → Led G s' ((x, liP zs) :: l) → Q (.ref x) s') E s)
    (ht : ∀ o r, letTemporaryGo value o r = pure () := by intro _ _; rfl) :
    wpAny (model prog w) A (eval (.Subscript value (.Slice none (some (.Constant (.int k) kk cp)) none p) pos) env) Q E s := by
  refine wpAny_Subscript_Slice list_getitem_lookup (wpAny_mono h (fun o s₁ h₁ => ?_) fun _ _ e => e) ht
  obtain ⟨D, xs, l, rfl, H, hm, hz, hQ⟩ := h₁
  refine wpAny_Slice (wpAny_pure (show wpAny (model prog w) A (eval (.Constant (.int k) kk cp) env) _ _ _ from wpAny_Constant_int (wpAny_pure ?_)))
  have H2 := (H.toks (s₁.toks + 1)).alloc (tk := s₁.toks + 1) (o := { cls := .type "slice", data := .fields #[.none, .int k s₁.toks, .none] }) (P := fun _ => True) rfl trivial
  have hl := (H2.tl).list hm
  refine ⟨hl.typeIs, wpAny_getItem_list_slice (lo := none) (hi := some k) (st := none) hl (Heap.IsSliceOf.new ..) .none (.int _ _) .none (by simp) ?_ (by simp [sizeLine_eq]; omega)⟩
  have H3 := H2.tl.alloc (tk := s₁.toks + 1) (o := { cls := .type "list", data := .seq (slicePick xs.toArray none (some k) none) }) (P := liP (slicePick xs.toArray none (some k) none).toList) rfl ⟨0, by simp⟩
  refine hQ _ _ _ (fun z hz => ?_) ?_ H3
  · unfold slicePick at hz
    simp only [List.toList_toArray, List.mem_filterMap] at hz
    obtain ⟨i, _, hi⟩ := hz
    have : xs[i]? = some z := by simpa using hi
    exact List.mem_of_getElem? this
  · have := slicePick_size_le xs.toArray none (some k) none
    simp at this ⊢
    omega
end
section
variable {M : Model} {prog : Program} {w : World} {A : Around} {E : Value → Shared → Prop} {s : Shared} {G : Gh} {l l' : List (Addr × HP)} {K : Frag} {env : Env} {D L x dx Cc f : Addr} {n : Nat} {m : Str → Option Value} {xs ys : List Value}
theorem inst_of {P : HP} (H : Led G s l) (h1 : Io G l x Cc dx) (h2 : Po G l dx P) : ∃ od, W.InstAt s.heap x (instObj Cc dx) Cc (some od) := by
  obtain ⟨od, ed, -⟩ := h2.get H
  exact ⟨od, instAt_of (h1.get H) ed⟩
/-- len(..) of an own class -/
theorem u_len {P : HP} {Q : Value → Shared → Prop} (C : Cx K G) (H : Led G s l) (h1 : Io G l x Cc dx) (h2 : Po G l dx P) (hs : findIn K (.ref Cc) "__len__" = some (some (.ref f))) (hf : typeIn K (.ref f) = some (.type "function"))
    (h : wpAny (model prog w) A.in1 (call (.ref f) [.ref x]) (fun v s' => ∃ i t, v = .int i t ∧ 0 ≤ i ∧ i < 1000 ∧ Q (.int i s'.toks) { s' with toks := s'.toks + 1 }) E s) : wpAny (model prog w) A (call (.builtin "len") [.ref x]) Q E s := by
  obtain ⟨od, I⟩ := inst_of H h1 h2
  refine Calls.call_function_entry kind_len plain_len entry_len (args_len1 _) ?_
  unfold Builtin.«len»
  refine wpAny_bind (m := oneArg "len" _) (wpAny_pure ?_)
  refine wpAny_bind (m := callSpecial? (.ref x) (Str.ofString "__len__")) (special_fn (C.K H) I hs hf (wpAny_mono h (fun r s' hr => ?_) fun _ _ y => y))
  obtain ⟨i, t, rfl, h0, h3, hq⟩ := hr
  refine wpAny_bind (wpAny_holding (wpAny_pure (wpAny_bind (wpAny_letGo ?_))))
  show wpAny _ _ (if i < 0 then _ else _) _ _ _
  rw [if_neg (by omega)]
  show wpAny _ _ (if i ≥ 2 ^ 63 then _ else _) _ _ _
  rw [if_neg (by omega)]
  exact wpAny_bind (wpAny_mkInt (wpAny_pure ⟨_, rfl, hq⟩))
/-- v in x -/
theorem u_in {P : HP} {v : Value} {Q : Value → Shared → Prop} (C : Cx K G) (H : Led G s l) (h1 : Io G l x Cc dx) (h2 : Po G l dx P) (hs : findIn K (.ref Cc) "__contains__" = some (some (.ref f))) (hf : typeIn K (.ref f) = some (.type "function"))
    (h : wpAny M A (call (.ref f) [.ref x, v]) (fun r s' => ∃ b, r = .bool b ∧ Q (.bool b) s') E s) : wpAny M A (compareOp .In v (.ref x)) Q E s := by
  obtain ⟨od, I⟩ := inst_of H h1 h2
  refine wpAny_bind (m := contains (.ref x) v) ?_
  unfold contains
  refine wpAny_holding (wpAny_bind (wpAny_bind (I.type.here ((looks_findIn (C.K H) hs).here ?_))))
  rw [if_neg (by simp)]
  refine wpAny_bind (unlessNone_K (C.K H) I hs (by unfold isFn; rw [hf]; rfl) (wpAny_mono h (fun r s' hr => ?_) fun _ _ z => z))
  obtain ⟨b, rfl, hq⟩ := hr
  exact t_bool (wpAny_pure hq)
/-- x[i] = v -/
theorem u_set {P : HP} {i v : Value} {Q : Unit → Shared → Prop} (C : Cx K G) (H : Led G s l) (h1 : Io G l x Cc dx) (h2 : Po G l dx P) (hq : noSeq K Cc = true) (hs : findIn K (.ref Cc) "__setitem__" = some (some (.ref f))) (hf : typeIn K (.ref f) = some (.type "function"))
    (h : wpAny M A (call (.ref f) [.ref x, i, v]) (fun _ s' => Q () s') E s) : wpAny M A (setItem (.ref x) i v) Q E s := by
  obtain ⟨od, I⟩ := inst_of H h1 h2
  unfold setItem sequenceKey
  refine wpAny_holding (wpAny_bind (wpAny_bind (I.type.here (wpAny_bind ((anyM_none (C.K H) hq).here ?_)))))
  rw [if_pos (show (!false) = true from rfl)]
  exact wpAny_pure (wpAny_bind (special_fn (C.K H) I hs hf (wpAny_mono h (fun _ _ z => wpAny_pure z) fun _ _ z => z)))
/-- x[i] -/
theorem u_sub {P : HP} {value slice : Expr} {i : Value} {Q : Value → Shared → Prop} (C : Cx K G) (H : Led G s l) (h1 : Io G l x Cc dx) (h2 : Po G l dx P) (hs : findIn K (.ref Cc) "__getitem__" = some (some (.ref f))) (hn : fnIn K f = true) (hf : typeIn K (.ref f) = some (.type "function"))
    (hsl : subscripted slice true (.ref x) i = runValue (.builtin "lifetime.subscript" ⟨[.ref x, i], []⟩))
    (h : wpAny (model prog w) A.in1 (call (.ref f) [.ref x, i]) Q E s) : wpAny (model prog w) A (subscriptTail value slice (.ref x) i) Q E s := by
  obtain ⟨od, I⟩ := inst_of H h1 h2
  unfold fnIn at hn
  split at hn
  · rename_i e
    unfold subscriptTail getitemInPython
    refine wpAny_bind (wpAny_bind (wpAny_bind (I.type.here ((looks_findIn (C.K H) hs).here ?_))))
    dsimp only
    refine wpAny_bind (wpAny_load (C.K H _ _ e) (wpAny_pure ?_))
    dsimp only
    rw [hsl]
    refine wpAny_bind (wpAny_runValue (codeAny_builtin entry_sub ?_))
    unfold Builtin.«lifetime.subscript»
    refine wpAny_bind (special_fn (C.K H) I hs hf (wpAny_mono h (fun v s' z => wpAny_pure ?_) fun _ _ z => z))
    exact wpAny_bind (wpAny_letTemporaryGo (wpAny_pure z))
  · cases hn
/-- a key that is not there -/
theorem d_missing {d : Addr} {kvs : List (Int × Value)} {k : Int} {t : Tok} {value slice : Expr} {Q : Value → Shared → Prop} (lo : (d == sysModules) = false) (hh : A.handled = none) (H : Led G s l) (hm : Po G l d (idP prog w kvs)) (hv : valueAt kvs k = none)
    (hs : subscripted slice false (.ref d) (.int k t) = operate [.ref d, .int k t] (getItem (.ref d) (.int k t))) (hg : ∀ r, letTemporaryGo value (.ref d) r = pure ())
    (h : ∀ h' e tk, Heap.NewExcOf s.heap h' e "KeyError" → E (.ref e) { s with heap := h', toks := tk }) : wpAny (model prog w) A (subscriptTail value slice (.ref d) (.int k t)) Q E s :=
  have hD := H.dict hm
  subscriptTail_builtin hD.typeIs slot_dict_getitem.lookup (wpAny_getItem_missing_of (intKind_is _ _ _ _) lo hh hD.mapOf hv fun h' e he => h _ _ _ he.of) hs hg
theorem Stk.deeper {outer : List Env} {m : Str → Option Value} {L : Addr} (x : Stk A l outer) (hk : env.scope.kind ≠ .module) (hf : env.frame = some L) : Stk (A.deeper env) ((L, nsP m) :: l) (env :: outer) where
  fr := Around.frames_deeper x.fr
  ns := fun e he => by
    rcases List.mem_cons.mp he with rfl | he
    · exact ⟨hk, L, m, hf, List.mem_cons_self⟩
    · obtain ⟨a, L', m', b, c⟩ := x.ns e he
      exact ⟨a, L', m', b, List.mem_cons_of_mem _ c⟩
theorem Stk.in1 {outer : List Env} (x : Stk A l outer) : Stk A.in1 l outer := ⟨x.fr, x.ns⟩
/-- raise X("..") -/
theorem m_raise {cls newId initId : String} {xn : Str} {np cpos pos : Pos} {e₀ : Expr} {Q : Flow → Shared → Prop} (F : ExcCallFacts cls newId initId) (Gf : ExcRaiseFacts cls) (hh : A.handled = none) (hplain : (backTo cpos (starEach [e₀] env)).any (·.1) = false) (he : starEach [e₀] env = (false, eval e₀ env) :: starEach [] env)
    (h : wpAny (model prog w) A (eval (.Name xn np) env) (fun f s₁ => f = .type cls ∧ ArgsW (model prog w) A env cpos [e₀] (fun vs s₂ => vs.length ≤ 1000 ∧ ∀ h' e, Heap.NewExcOf s₂.heap h' e cls → E (.ref e) { s₂ with heap := h' }) E s₁) E s) :
    wpAny (model prog w) A (exec (.Raise (some (.Call (.Name xn np) [e₀] [] cpos)) none pos) env) Q E s := by
  refine wpAny_Raise_call F Gf hh hplain (wpAny_mono h (fun f s₁ h₁ => ⟨h₁.1, ?_⟩) fun _ _ x => x)
  have h₂ := h₁.2
  unfold ArgsW at h₂
  rw [he] at h₂ ⊢
  exact Calls.evalArgs_plain (wpAny_mono h₂ (fun vs s₂ h₃ => ⟨rfl, by have := h₃.1; rw [sizeLine_eq]; show vs.length ≤ _; omega, fun h' e hm => h₃.2 h' e hm.newExc.of⟩) fun _ _ x => x)
end
section
variable {M : Model} {prog : Program} {w : World} {A : Around} {E : Value → Shared → Prop} {s : Shared} {G : Gh} {l l' : List (Addr × HP)} {K : Frag} {env : Env} {D L x dx Cc f : Addr} {n : Nat} {m : Str → Option Value} {xs ys : List Value}
/-- a new thing at the heap's end -/
theorem Led.newAt {h' : Heap} {tk : Nat} {a : Addr} {P : HP} (C : Cx K G) (H : Led G s l) (hk : ∀ b o, s.heap.get? b = some o → h'.get? b = some o) (ha : s.heap.objs.size ≤ a) (ho : ∃ o, h'.get? a = some o ∧ P o) : Led G { s with heap := h', toks := tk } ((a, P) :: l) := by
  have H1 : Led G { s with heap := h', toks := tk } l := H.grow C hk
  refine ⟨H1.keep, ?_, fun p hp => ?_, H1.gens, H1.drawn, H1.os, fun p hp => ?_, H1.big⟩
  · simp only [List.map_cons, List.nodup_cons]
    refine ⟨fun hm => ?_, H.nd⟩
    obtain ⟨p, hp, e⟩ := List.mem_map.mp hm
    obtain ⟨_, o', e', _⟩ := H.at_ p hp
    exact absurd (Heap.lt_size e') (by rw [e]; exact Nat.not_lt.mpr ha)
  · rcases List.mem_cons.mp hp with rfl | hp
    · refine ⟨?_, ho⟩
      cases q : G.g.get? a with
      | none => rfl
      | some o' => exact absurd (Heap.lt_size (H.keep _ _ q)) (Nat.not_lt.mpr ha)
    · exact H1.at_ p hp
  · rcases List.mem_cons.mp hp with rfl | hp
    · exact Nat.lt_of_lt_of_le H.big ha
    · exact H.hi p hp
theorem li_sorted {ns : List Int} {Q : Value → Shared → Prop} (C : Cx K G) (H : Led G s l) (hm : Po G l D (liP xs)) (hi : IntsAre xs ns) (hz : xs.length < 64)
    (h : ∀ x ys ns' s', IntsAre ys ns' → ns'.Perm ns → ns'.Pairwise (· ≤ ·) → Led G s' ((x, liP ys) :: l) → Q (.ref x) s') : wpAny (model prog w) A (call (.builtin "sorted") [.ref D]) Q E s := by
  refine sorted_ints (H.list hm) hi hz fun out ns' a1 a2 a3 => ?_
  obtain ⟨e, he⟩ := sortedAll_at s.heap xs out
  exact h _ out.toList ns' _ a1 a2 a3 (H.newAt C (tk := s.toks) (fun _ _ => sortedAll_old) (Nat.le_succ _) ⟨_, he, e, by simp⟩)
/-- a dict's keys, seen through its view -/
def kvP (d : Addr) : HP := fun o => o = { cls := .type "dict_keys", data := .fields #[.ref d] }
theorem d_keys {d : Addr} {kvs : List (Int × Value)} {Q : Value → Shared → Prop} (lo : (d == sysModules) = false) (H : Led G s l) (hm : Po G l d (idP prog w kvs)) (h : ∀ v s', Led G s' ((v, kvP d) :: l) → Q (.ref v) s') :
    wpAny (model prog w) A (call (.builtin "dict.keys") [.ref d]) Q E s :=
  have hD := H.dict hm
  call_meetsIn PySem.F.slot_dict_keys hD.typeIs PySem.F.entry_dict_keys (PySem.F.args_dict_keys_1 _) (kdl_meets_keys (PySem.intKind prog w) d lo) ⟨⟨_, hD⟩, h _ _ (H.alloc (P := kvP d) (tk := s.toks) rfl rfl)⟩
theorem kv_sorted {d v : Addr} {kvs : List (Int × Value)} {Q : Value → Shared → Prop} (C : Cx K G) (hh : A.handled = none) (H : Led G s l) (hm : Po G l d (idP prog w kvs)) (hv : Po G l v (kvP d)) (hz : kvs.length < 64)
    (h : ∀ x ys ns' s', IntsAre ys ns' → ns'.Perm (kvs.map Prod.fst) → ns'.Pairwise (· ≤ ·) → Led G s' ((x, liP ys) :: l) → Q (.ref x) s') : wpAny (model prog w) A (call (.builtin "sorted") [.ref v]) Q E s := by
  have hD := H.dict hm
  obtain ⟨ep, hat⟩ := hD.dictAt
  obtain ⟨_, ev, rfl⟩ := hv.get H
  refine Calls.call_function_entry kind_sorted plain_sorted entry_sorted (args_sorted1 _) ?_
  unfold Builtin.«sorted»
  refine wpAny_bind (m := checkCount "sorted" 1 1 _) (wpAny_pure ?_)
  refine wpAny_bind (kdu_collect (A := A.in1) (kdl_keys (knd := PySem.intKind prog w) (kvs := kvs) (ep := ep) (r := v)) hh ⟨⟨_, ev, rfl, rfl⟩, hat⟩ (by rw [sizeLine_eq]; omega) fun h' tk acc hk hacc => ?_)
  have hl : acc.toList.length = kvs.length := by rw [Array.length_toList]; exact hacc.1
  have hI : IntsAre acc.toList (kvs.map Prod.fst) := by
    have : ∀ (a : List Value) (b : List (Int × Value)), a.length = b.length → (∀ (j : Nat) (u : Value), a[j]? = some u → ∃ k y, b[j]? = some (k, y) ∧ ∃ t, u = .int k t) → IntsAre a (b.map Prod.fst) := by
      intro a
      induction a with
      | nil => intro b hb _; cases b with
        | nil => exact .nil
        | cons _ _ => cases hb
      | cons u a ih =>
        intro b hb hj
        cases b with
        | nil => cases hb
        | cons p b =>
          obtain ⟨k, y, e, t, rfl⟩ := hj 0 u rfl
          cases e
          exact .cons k t (ih b (by simpa using hb) fun j u e => hj (j + 1) u e)
    refine this _ _ hl fun j u hu => ?_
    obtain ⟨k, y, e, hq⟩ := hacc.2 j u (by rw [← Array.getElem?_toList]; exact hu)
    obtain ⟨t, rfl⟩ := PySem.Value.isInt_shape hq
    exact ⟨k, y, e, t, rfl⟩
  refine wpAny_bind (wpAny_newList ?_ (by rw [hl, sizeLine_eq]; omega))
  have hoL : (h'.push (seqObj "list" acc.toList.toArray 0)).get? h'.objs.size = some (seqObj "list" acc.toList.toArray 0) := Heap.get?_push_size _ rfl
  refine wpAny_bind (wpAny_holding (wpAny_call_entry (s := { s with heap := h'.push (seqObj "list" acc.toList.toArray 0), toks := tk }) slot_list_sort ⟨_, hoL, rfl⟩ entry_list_sort (list_sort_tree hoL hI (by rw [hl]; exact hz) fun out ns' a1 a2 a3 => ⟨_, rfl, ?_⟩) (args_list_sort _)))
  refine wpAny_pure ⟨_, rfl, ?_⟩
  obtain ⟨e, he⟩ := sortedHeap_at (out := out) hoL
  have H1 : Led G { s with heap := h', toks := tk } l := H.grow C hk
  have H2 := H1.newAt (h' := sortedHeap (h'.push (seqObj "list" acc.toList.toArray 0)) h'.objs.size acc.toList out) (tk := tk) (P := liP out.toList) C (fun b o hb => ?_) (Nat.le_refl _) ⟨_, he, e, by simp⟩
  · exact h _ out.toList ns' _ a1 a2 a3 H2
  · have hlt := Heap.lt_size hb
    rw [sortedHeap_old (Nat.ne_of_lt hlt) (by rw [Heap.size_push]; exact Nat.lt_succ_of_lt hlt)]
    exact Heap.get?_push_of_some _ hb
end
/-- two ordered lists of the same things -/
theorem perm_sorted_eq : ∀ {a b : List Int}, a.Perm b → a.Pairwise (· ≤ ·) → b.Pairwise (· ≤ ·) → a = b
  | [], b, p, _, _ => (List.nil_perm.mp p).symm
  | x :: a, [], p, _, _ => absurd p.length_eq (by simp)
  | x :: a, y :: b, p, ha, hb => by
    have hx := List.pairwise_cons.mp ha
    have hy := List.pairwise_cons.mp hb
    have e : x = y := by
      rcases List.mem_cons.mp (p.mem_iff.mp List.mem_cons_self) with h | h
      · exact h
      · rcases List.mem_cons.mp (p.mem_iff.mpr List.mem_cons_self) with h' | h'
        · exact h'.symm
        · have h1 := hx.1 y h'
          have h2 := hy.1 x h
          omega
    subst e
    rw [perm_sorted_eq (List.Perm.cons_inv p) hx.2 hy.2]
section
variable {M : Model} {prog : Program} {w : World} {A : Around} {E : Value → Shared → Prop} {s : Shared} {G : Gh} {l l' : List (Addr × HP)} {K : Frag} {env : Env} {D D' L x dx Cc f : Addr} {n : Nat} {m : Str → Option Value} {xs ys : List Value}
theorem t_or {a : Expr} {rest : List Expr} {pos : Pos} {whole : Sem Value} {Q : Bool → Shared → Prop} (h : wpAny M A (isTrue a env (eval a env)) (fun c s' => IfS c (Q true s') (wpAny M A (isTrue (.BoolOp .Or rest pos) env whole) Q E s')) E s) :
    wpAny M A (isTrue (.BoolOp .Or (a :: rest) pos) env whole) Q E s := isTrue_or (wpAny_mono h (fun c s' h' => by cases c; exact h'.2 rfl; exact h'.1 rfl) fun _ _ x => x)
theorem t_or_nil {pos : Pos} {whole : Sem Value} {Q : Bool → Shared → Prop} (h : Q false s) : wpAny M A (isTrue (.BoolOp .Or [] pos) env whole) Q E s := isTrue_or_nil h
theorem t_not {a : Expr} {pos : Pos} {whole : Sem Value} {Q : Bool → Shared → Prop} (h : wpAny M A (isTrue a env (eval a env)) (fun c s' => Q (!c) s') E s) : wpAny M A (isTrue (.UnaryOp .Not a pos) env whole) Q E s := isTrue_not h
theorem e_and {a b : Expr} {rest : List Expr} {pos : Pos} {Q : Value → Shared → Prop}
    (h : wpAny M A (eval a env) (fun v s₁ => wpAny M A (truthy v) (fun c s₂ => IfS c (wpAny M A (eval (.BoolOp .And (b :: rest) pos) env) Q E s₂) (Q v s₂)) E s₁) E s) : wpAny M A (eval (.BoolOp .And (a :: b :: rest) pos) env) Q E s :=
  BoolOp_and (wpAny_mono h (fun v s₁ h₁ => wpAny_mono h₁ (fun c s₂ h₂ => by cases c; exact h₂.2 rfl; exact h₂.1 rfl) fun _ _ x => x) fun _ _ x => x)
theorem e_and1 {a : Expr} {pos : Pos} {Q : Value → Shared → Prop} (h : wpAny M A (eval a env) Q E s) : wpAny M A (eval (.BoolOp .And [a] pos) env) Q E s := BoolOp_one h
theorem li_same (hlen : xs.length = ys.length) (he : ∀ (j : Nat) (v u : Value), xs[j]? = some v → ys[j]? = some u → SeqAt.EqAt A.in1 s v u true) : ∀ j (h1 : j < xs.toArray.size) (h2 : j < ys.toArray.size), SeqAt.EqAt A.in1 s xs.toArray[j] ys.toArray[j] ((fun _ => true) j) :=
  fun j h1 h2 => he j _ _ (by simp at h1 ⊢) (by simp at h2 ⊢)
theorem li_ne {Q : Value → Shared → Prop} (H : Led G s l) (hm : Po G l D (liP xs)) (hm' : Po G l D' (liP ys)) (hlen : xs.length = ys.length) (hu : A.units < cLine) (he : ∀ (j : Nat) (v u : Value), xs[j]? = some v → ys[j]? = some u → SeqAt.EqAt A.in1 s v u true) (h : Q (.bool false) s) :
    wpAny (model prog w) A (compareOp .NotEq (.ref D) (.ref D')) Q E s := by
  have := SeqAt.RcNeAt.lists (A := A) (H.list hm) (H.list hm') (by simpa using hlen) hu (li_same hlen he) prog w E Q
  rw [show (!(List.range xs.toArray.size).all (fun _ => true)) = false by simp] at this
  exact this h
theorem li_eq {Q : Value → Shared → Prop} (H : Led G s l) (hm : Po G l D (liP xs)) (hm' : Po G l D' (liP ys)) (hlen : xs.length = ys.length) (hu : A.units < cLine) (he : ∀ (j : Nat) (v u : Value), xs[j]? = some v → ys[j]? = some u → SeqAt.EqAt A.in1 s v u true) (h : Q (.bool true) s) :
    wpAny (model prog w) A (compareOp .Eq (.ref D) (.ref D')) Q E s :=
  SeqAt.eq_listAt (H.list hm) (H.list hm') (by simpa using hlen) hu (li_same hlen he) (by rw [show ((List.range xs.toArray.size).all (fun _ => true)) = true by simp]; exact h)
theorem ints_same {ns : List Int} (hx : IntsAre xs ns) (hy : IntsAre ys ns) : xs.length = ys.length ∧ ∀ (j : Nat) (v u : Value), xs[j]? = some v → ys[j]? = some u → SeqAt.EqAt A s v u true := by
  induction hx generalizing ys with
  | nil => cases hy; exact ⟨rfl, fun j v u hv => by simp at hv⟩
  | cons i t _ ih =>
    cases hy with
    | cons _ u hy =>
      obtain ⟨h1, h2⟩ := ih hy
      refine ⟨by simp [h1], fun j v u' hv hu => ?_⟩
      cases j with
      | zero =>
        simp only [List.getElem?_cons_zero, Option.some.injEq] at hv hu
        subst hv hu
        have := SeqAt.EqAt.int_int (A := A) (s := s) i t i u
        rwa [beq_self_eq_true] at this
      | succ j => exact h2 j v u' (by simpa using hv) (by simpa using hu)
/-- two told tuples of one key and one value -/
theorem tu_same {T U : Addr} {a : Int} {t u : Tok} {v : Value} (H : Led G s l) (hT : Po G l T (tuP [.int a t, v])) (hU : Po G l U (tuP [.int a u, v])) (hu : A.units < cLine) : SeqAt.EqAt A s (.ref T) (.ref U) true := by
  by_cases e : T = U
  · subst e; exact SeqAt.EqAt.same _
  · refine SeqAt.EqAt.of_refs e ?_
    have hT' : s.heap.IsTuple T [.int a t, v].toArray := let ⟨o, e, r, n, d⟩ := tu_get H hT; ⟨o, e, r, n, d⟩
    have hU' : s.heap.IsTuple U [.int a u, v].toArray := let ⟨o, e, r, n, d⟩ := tu_get H hU; ⟨o, e, r, n, d⟩
    have := SeqAt.RcAt.tuples (A := A) (e := fun _ => true) hT' hU' hu (fun j h1 h2 => ?_)
    · exact this
    · match j, h1 with
      | 0, _ =>
        have := SeqAt.EqAt.int_int (A := A.in1) (s := s) a t a u
        rwa [beq_self_eq_true] at this
      | 1, _ => exact SeqAt.EqAt.same _
theorem told_same {ts gs : List Tl} (H : Led G s l) (hp : pairs ts = pairs gs) (ht : ∀ e ∈ ts, Po G l e.a (tuP [.int e.k e.t, e.v])) (hg : ∀ e ∈ gs, Po G l e.a (tuP [.int e.k e.t, e.v])) (hu : A.units < cLine) :
    (refs ts).length = (refs gs).length ∧ ∀ (j : Nat) (v u : Value), (refs ts)[j]? = some v → (refs gs)[j]? = some u → SeqAt.EqAt A s v u true := by
  refine ⟨by have := congrArg List.length hp; simpa [pairs, refs] using this, fun j v u hv hq => ?_⟩
  simp only [refs, List.getElem?_map, Option.map_eq_some_iff] at hv hq
  obtain ⟨e, he, rfl⟩ := hv
  obtain ⟨f, hf, rfl⟩ := hq
  have h1 : (pairs ts)[j]? = some (e.k, e.v) := by simp [pairs, he]
  have h2 : (pairs gs)[j]? = some (f.k, f.v) := by simp [pairs, hf]
  rw [hp, h2] at h1
  simp only [Option.some.injEq, Prod.mk.injEq] at h1
  have a1 := ht e (List.mem_of_getElem? he)
  have a2 := hg f (List.mem_of_getElem? hf)
  rw [h1.1, h1.2] at a2
  exact tu_same H a1 a2 hu
/-- two dicts of the same -/
theorem d_ne {a b : Addr} {ka kb : List (Int × Value)} {Q : Value → Shared → Prop} (la : (a == sysModules) = false) (lb : (b == sysModules) = false) (H : Led G s l) (hma : Po G l a (idP prog w ka)) (hmb : Po G l b (idP prog w kb)) (hu : A.units < cLine)
    (hlen : ka.length = kb.length) (hv : ∀ p ∈ ka, valueAt kb p.1 = some p.2) (h : Q (.bool false) s) : wpAny (model prog w) A (compareOp .NotEq (.ref a) (.ref b)) Q E s := by
  refine keq_ne (r := true) la lb (H.dict hma) (H.dict hmb) hu (fun hq => ?_) (by rw [hlen]; simpa using h)
  clear hlen hma hq
  induction ka with
  | nil => exact .nil
  | cons p r ih => exact KeqHits.hit (e := true) (b := true) (hv p List.mem_cons_self) (SeqAt.EqAt.same _) (ih fun q hq => hv q (List.mem_cons_of_mem _ hq))
/-- k in a list of ints -/
def hitI (k : Int) : Value → Bool
  | .int n _ => n == k
  | _ => false
theorem li_in {k : Int} {t : Tok} {ns : List Int} {b : Bool} {Q : Value → Shared → Prop} (H : Led G s l) (hm : Po G l D (liP xs)) (hi : IntsAre xs ns) (hb : b = decide (k ∈ ns)) (h : Q (.bool b) s) : wpAny (model prog w) A (compareOp .In (.int k t) (.ref D)) Q E s := by
  refine SeqAt.in_listAt (hitI k) (H.list hm) (fun y hy => ?_) ?_
  · have : ∃ n u, y = .int n u := by
      have hy' : y ∈ xs := by simpa using hy
      clear hy hb hm
      induction hi with
      | nil => cases hy'
      | cons i u _ ih =>
        rcases List.mem_cons.mp hy' with rfl | h'
        · exact ⟨_, _, rfl⟩
        · exact ih h'
    obtain ⟨n, u, rfl⟩ := this
    exact SeqAt.EqAt.int_int n u k t
  · have : xs.toArray.any (hitI k) = b := by
      rw [hb]
      have e : xs.toArray.any (hitI k) = xs.any (hitI k) := by simp
      rw [e]
      clear hm hb e
      induction hi with
      | nil => rfl
      | cons i u _ ih =>
        rw [List.any_cons, ih]
        simp only [hitI, List.mem_cons, Bool.decide_or]
        by_cases q : i = k
        · subst q; simp
        · have q' : ¬ k = i := fun z => q z.symm
          simp [q, q']
    rw [this]; exact h
theorem b_ne {a b : Bool} {Q : Value → Shared → Prop} (h : Q (.bool (a != b)) s) : wpAny (model prog w) A (compareOp .NotEq (.bool a) (.bool b)) Q E s := PyProof.Rows.ne_bool h
theorem s_ne {a : Str} {t u : Tok} {Q : Value → Shared → Prop} (h : Q (.bool false) s) : wpAny (model prog w) A (compareOp .NotEq (.str a t) (.str a u)) Q E s := PyProof.Rows.ne_str (by simpa using h)
end
theorem list_no_keys : typeLookup (.type "list") "keys" = pure none := am_miss_of_fast (by decide +kernel)
section
variable {M : Model} {prog : Program} {w : World} {A : Around} {E : Value → Shared → Prop} {s : Shared} {G : Gh} {l l' : List (Addr × HP)} {K : Frag} {env : Env} {D D' L x dx Cc f : Addr} {n : Nat} {m : Str → Option Value} {xs ys : List Value}
/-- a list has no keys -/
theorem quiet_keys {a : Addr} {zs : Array Value} {k : Nat} {Q : Option Value → Shared → Prop} (hx : s.heap.get? a = some { cls := .type "list", data := .seq zs k }) (hA : A.handled = none)
    (h : ∀ h' tk, (∀ b o, s.heap.get? b = some o → h'.get? b = some o) → Q none { s with heap := h', toks := tk }) : wpAny (model prog w) A (getAttr? (.ref a) "keys") Q E s := by
  obtain ⟨hp, g, d, tk, os⟩ := s
  have hT : ∀ tk', (⟨hp, g, d, tk', os⟩ : Shared).TypeIs (.ref a) "list" := fun _ => ⟨_, hx, rfl⟩
  have f1 := sub_AttributeError
  have f3 := PySem.F.slot_list_getattribute.lookup
  have f4 := PySem.F.slot_list_getattribute.bind (.ref a)
  have f5 := am_list_getattr_none
  unfold getAttr? getAttrBy? getAttrBy
  repeat (any_goals (first | assumption | exact hT _ | ((with_reducible show wpAny _ _ (call (Value.builtin "list.__getattribute__") _ _) _ _ _); refine call_meets PySem.F.slot_list_getattribute (hT _) am_entry_list_getattribute (PySem.F.args_list_getattribute_2 _ _) (meets_getattribute_miss_list a zs k #[] "keys" _ list_no_keys (by decide) (by decide)) ⟨hx, hA, fun h' tk' e hx' => ?_⟩) | wp_step))
  obtain ⟨t', u', he⟩ := hx'.there
  show wpAny _ _ (getattributeRaised _ _ _ _ _ _ _) _ _ _
  unfold getattributeRaised
  repeat (any_goals (first | assumption | wp_step))
  exact h h' tk' hx'.keeps
theorem entry_upd : entryFor table "dict.update.loop" = some Builtin.«dict.update.loop» := entryFor_of_fast (by kernel_rfl)
theorem plain_upd : plainId "dict.update.loop" = true := by decide +kernel
/-- pairs stored one by one -/
theorem upd_loop {R : Result → Shared → Prop} {I ax d : Addr} {ps : List Tl} (C : Cx K G) (hh : A.handled = none) (hP : ∀ e ∈ ps, Po G l e.a (tuP [.int e.k e.t, e.v])) (hx : Po G l ax (liP (refs ps))) (hn : (ps.map Tl.k).Nodup) (hz : ps.length ≤ 1000) :
    ∀ (r i : Nat) (s : Shared), i + r = ps.length → Led G s ((I, itP ax i) :: (d, idP prog w (pairs (ps.take i))) :: l) → (∀ s', Led G s' ((d, idP prog w (pairs ps)) :: l) → R (.ok (.ret .none)) s') →
      codeAny (model prog w) A (.builtin "dict.update.loop" ⟨[.ref d, .ref I, rawInt i, .none], []⟩) R s
  | 0, i, s, e, H, h => by
    refine codeAny_builtin entry_upd ?_
    rw [Around.under_plainId plain_upd _]
    unfold Builtin.«dict.update.loop»
    refine wpAny_bind ?_
    have hi : i = ps.length := by omega
    refine it_end C hh H (hx.sub fun q hq => List.mem_cons_of_mem _ hq) (by rw [List.getElem?_eq_none]; simp [refs, hi]) fun s' H' => ?_
    show wpAny _ _ (Builtin.Dict.addKeywords d [] >>= fun _ => ret .none) _ _ _
    refine wpAny_bind (wpAny_pure (wpAny_pure (h s' ?_)))
    rw [hi, List.take_length] at H'
    exact H'
  | r + 1, i, s, e, H, h => by
    have hlt : i < ps.length := by omega
    obtain ⟨p, hp⟩ : ∃ p, ps[i]? = some p := ⟨_, List.getElem?_eq_getElem hlt⟩
    refine codeAny_builtin entry_upd ?_
    rw [Around.under_plainId plain_upd _]
    unfold Builtin.«dict.update.loop»
    refine wpAny_bind ?_
    refine it_item H (hx.sub fun q hq => List.mem_cons_of_mem _ hq) (v := .ref p.a) (by simp [refs, hp]) fun s' H' => ?_
    obtain ⟨o, eo, n, rfl⟩ := ((hP p (List.mem_of_getElem? hp)).sub (l' := (I, itP ax (i + 1)) :: (d, idP prog w (pairs (ps.take i))) :: l) fun q hq => List.mem_cons_of_mem _ (List.mem_cons_of_mem _ hq)).get H'
    have hT : s'.TypeIs (.ref p.a) "tuple" := ⟨_, eo, rfl⟩
    refine wpAny_bind (wpAny_holding (wpAny_bind (wpAny_tryCatch ?_)))
    unfold Builtin.Dict.pairItems
    refine wpAny_bind (wpAny_typeOf hT ?_)
    rw [if_pos (by decide)]
    refine wpAny_bind ?_
    unfold seqItems?
    refine wpAny_bind (wpAny_load eo (wpAny_pure (wpAny_pure ?_)))
    show wpAny _ _ (holding [.int p.k p.t, p.v] (dictSet d (.int p.k p.t) p.v)) _ _ _
    have hno : valueAt (pairs (ps.take i)) p.k = none := valueAt_none_of_not_mem (fun hm => by
      have e1 : ps.take (i + 1) = ps.take i ++ [p] := by rw [List.take_add_one, hp]; rfl
      have hn' : ((ps.take (i + 1)).map Tl.k).Nodup := by
        have := List.take_sublist (i + 1) ps
        exact (this.map Tl.k).nodup hn
      rw [e1, List.map_append, List.nodup_append] at hn'
      refine hn'.2.2 p.k ?_ p.k (by simp) rfl
      simpa [pairs, Function.comp_def] using hm)
    refine wpAny_holding (wpAny_dictSet_pairs (knd := PySem.intKind prog w) (intKind_is _ _ _ _) (H'.dict (.led (List.mem_cons_of_mem _ List.mem_cons_self))) (fun h' hm hs => ?_) (by rw [sizeLine_eq]; simp only [pairs, List.length_map, List.length_take]; omega))
    have H2 := H'.upd (tk := s'.toks + 1) (.tail (.head (P' := idP prog w (pairs (ps.take (i + 1)))))) hs (by
      obtain ⟨o, ho, hd⟩ := Heap.dictOf_iff.mp hm
      refine ⟨o, ho, ?_⟩
      have : pairs (ps.take (i + 1)) = stored (pairs (ps.take i)) p.k p.v := by
        rw [stored_absent hno, List.take_add_one, hp, pairs_append]; rfl
      show o.IsDictOf _ _
      rw [this]; exact hd)
    refine wpAny_pure ⟨plainId_quiet plain_upd _, ?_⟩
    have := upd_loop (R := R) C hh hP hx hn hz r (i + 1) _ (by omega) H2 h
    rw [show (rawInt (i + 1) : Value) = rawInt ((i : Int) + 1) from rfl]
    exact this
end
section
variable {M : Model} {prog : Program} {w : World} {A : Around} {E : Value → Shared → Prop} {s : Shared} {G : Gh} {l l' : List (Addr × HP)} {K : Frag} {env : Env} {D D' L x dx Cc f : Addr} {n : Nat} {m : Str → Option Value} {xs ys : List Value}
/-- dict(list of pairs) -/
theorem d_of {ax : Addr} {ps : List Tl} {Q : Value → Shared → Prop} (C : Cx K G) (hh : A.handled = none) (H : Led G s l) (hP : ∀ e ∈ ps, Po G l e.a (tuP [.int e.k e.t, e.v])) (hx : Po G l ax (liP (refs ps))) (hn : (ps.map Tl.k).Nodup) (hz : ps.length ≤ 1000)
    (h : ∀ d s', (d == sysModules) = false → Led G s' ((d, idP prog w (pairs ps)) :: l) → Q (.ref d) s') : wpAny (model prog w) A (call (.type "dict") [.ref ax]) Q E s := by
  have lo : (s.heap.objs.size == sysModules) = false := beq_eq_false_iff_ne.mpr (Nat.ne_of_gt (Nat.lt_trans (by decide : 1 < 3) H.big))
  refine callType_codes (Q₁ := fun obj s₁ => obj = .ref s.heap.objs.size ∧ s₁ = { s with heap := s.heap.push { cls := .type "dict", data := .dict #[] } }) PySem.F.kt_called_dict (PySem.F.kt_typeCall_dict_1 _) PySem.F.entry_dict_init (kt_code_dict_new _ ⟨rfl, rfl⟩) ?_
  rintro obj s₁ ⟨rfl, rfl⟩
  have hnew : (s.heap.push { cls := .type "dict", data := .dict #[] }).DictOf (PySem.intKind prog w) s.heap.objs.size [] := Heap.DictOf.new s.heap
  have H1 : Led G { s with heap := s.heap.push { cls := .type "dict", data := .dict #[] }, toks := s.toks } ((s.heap.objs.size, idP prog w []) :: l) := H.alloc rfl (by
    obtain ⟨o, ho, hd⟩ := Heap.dictOf_iff.mp hnew
    rw [Heap.get?_push_size _ rfl] at ho
    exact (Option.some.inj ho) ▸ hd)
  obtain ⟨o, eo, n, rfl⟩ := (hx.sub (l' := (s.heap.objs.size, idP prog w []) :: l) fun q hq => List.mem_cons_of_mem _ hq).get H1
  refine ⟨hnew.typeIs, PySem.F.args_dict_init_2 _ _, ?_⟩
  unfold Builtin.«dict.__init__»
  refine wpAny_bind ?_
  unfold Builtin.Dict.selfAndRest
  refine wpAny_bind (wpAny_notOrdered_dict hnew.typeIs ?_)
  show wpAny _ _ (pure (s.heap.objs.size, [Value.ref ax])) _ _ _
  refine wpAny_pure ?_
  show wpAny _ _ (Builtin.Dict.updateFrom "dict.__init__" s.heap.objs.size (.ref ax) [] .none) _ _ _
  unfold Builtin.Dict.updateFrom
  refine wpAny_bind (wpAny_typeOf (T := "list") ⟨_, eo, rfl⟩ ?_)
  rw [if_pos (by decide)]
  refine wpAny_bind (quiet_keys eo hh fun h' tk hk => ?_)
  rw [if_pos (show (none : Option Value).isNone = true from rfl)]
  refine wpAny_bind (wpAny_rule (wpAny_bind ?_))
  have H2 : Led G { s with heap := h', toks := tk } ((s.heap.objs.size, idP prog w []) :: l) := H1.grow C hk
  refine it_new H2 (hx.sub fun q hq => List.mem_cons_of_mem _ hq) fun I s' H3 => ?_
  refine wpAny_pure ⟨plainId_quiet plain_upd _, ?_⟩
  refine upd_loop (A := A.in1) (l := l) C hh hP hx hn hz ps.length 0 s' (by omega) H3 fun s'' H4 => ?_
  exact ⟨rfl, h _ _ lo H4⟩
end
section
variable {M : Model} {prog : Program} {w : World} {A : Around} {E : Value → Shared → Prop} {s : Shared} {G : Gh} {l l' : List (Addr × HP)} {K : Frag} {env : Env} {D d I T : Addr} {n ep i : Nat} {xs ys : List Value} {kvs : List (Int × Value)}
/-- a dict whose epoch is held fast -/
def dxP (prog : Program) (w : World) (kvs : List (Int × Value)) (ep : Nat) : HP := fun o => ∃ es, o.ExactDict ∧ o.data = .dict es ep ∧ KeysOf (PySem.intKind prog w) es ∧ Pairs (PySem.intKind prog w) es.toList kvs ∧ (kvs.map (·.1)).Nodup
/-- a dict's items, seen through its view -/
def ivP (d : Addr) : HP := fun o => o = { cls := .type "dict_items", data := .fields #[.ref d] }
def itmP (d : Addr) (i n ep : Nat) : HP := fun o => ∃ ok ov, o = { cls := .type "dict_itemiterator", dict := none, data := .fields #[.none, .bool false, .ref d, .int i 0, .int n 0, .int ep 0, ok, ov], slots := #[] }
def itoP (d : Addr) (i n ep : Nat) (a : Addr) : HP := fun o => ∃ ok ov, o = { cls := .type "dict_itemiterator", dict := none, data := .fields #[rawInt a, .bool false, .ref d, .int i 0, .int n 0, .int ep 0, ok, ov], slots := #[] }
theorem Led.dx (H : Led G s ((d, idP prog w kvs) :: l)) : ∃ ep, Led G s ((d, dxP prog w kvs ep) :: l) := by
  obtain ⟨o, es, ep, e, hc, hd, hk, hp, hn⟩ := H.dict (.led List.mem_cons_self)
  exact ⟨ep, H.swapP e ⟨es, hc, hd, hk, hp, hn⟩⟩
theorem Led.dxAt (H : Led G s l) (hm : (d, dxP prog w kvs ep) ∈ l) : s.heap.DictAt (PySem.intKind prog w) d kvs ep := by
  obtain ⟨o, e, es, hc, hd, hk, hp, hn⟩ := H.get hm
  exact ⟨o, es, e, hc, hd, hk, hp, hn⟩
theorem Led.dxBack (H : Led G s ((d, dxP prog w kvs ep) :: l)) : Led G s ((d, idP prog w kvs) :: l) := by
  have hD : s.heap.DictOf (PySem.intKind prog w) d kvs := (H.dxAt List.mem_cons_self).dictOf
  obtain ⟨o, e, hi⟩ := Heap.dictOf_iff.mp hD
  exact H.swapP e hi
/-- one entry changed, the rest kept, things added -/
theorem Led.putI {a : Addr} {P P' : HP} {h' : Heap} {tk : Nat} (C : Cx K G) (H : Led G s ((a, P) :: l)) (hk : ∀ b o, b ≠ a → s.heap.get? b = some o → h'.get? b = some o) (ho : ∃ o, h'.get? a = some o ∧ P' o) : Led G { s with heap := h', toks := tk } ((a, P') :: l) := by
  have H1 : Led G { s with heap := h', toks := tk } l := H.extBut C (tk := tk) hk
  refine ⟨H1.keep, ?_, fun p hp => ?_, H1.gens, H1.drawn, H1.os, fun p hp => ?_, H1.big⟩
  · exact H.nd
  · rcases List.mem_cons.mp hp with rfl | hp
    · exact ⟨H.fresh List.mem_cons_self, ho⟩
    · exact H1.at_ p hp
  · rcases List.mem_cons.mp hp with rfl | hp
    · exact H.hi (a, P) List.mem_cons_self
    · exact H1.hi p hp
theorem Led.newIn {s₀ : Shared} {l₀ : List (Addr × HP)} {a : Addr} {P : HP} (H0 : Led G s₀ l₀) (H : Led G s l) (hl : l.map Prod.fst = l₀.map Prod.fst) (ha : s₀.heap.objs.size ≤ a) (ho : ∃ o, s.heap.get? a = some o ∧ P o) : Led G s ((a, P) :: l) := by
  refine ⟨H.keep, ?_, fun p hp => ?_, H.gens, H.drawn, H.os, fun p hp => ?_, H.big⟩
  · simp only [List.map_cons, List.nodup_cons]
    refine ⟨fun hm => ?_, H.nd⟩
    rw [hl] at hm
    obtain ⟨p, hp, e⟩ := List.mem_map.mp hm
    obtain ⟨_, o', e', _⟩ := H0.at_ p hp
    exact absurd (Heap.lt_size e') (by rw [e]; exact Nat.not_lt.mpr ha)
  · rcases List.mem_cons.mp hp with rfl | hp
    · refine ⟨?_, ho⟩
      cases q : G.g.get? a with
      | none => rfl
      | some o' => exact absurd (Heap.lt_size (H0.keep _ _ q)) (Nat.not_lt.mpr ha)
    · exact H.at_ p hp
  · rcases List.mem_cons.mp hp with rfl | hp
    · exact Nat.lt_of_lt_of_le H0.big ha
    · exact H.hi p hp
theorem itm_new {v : Addr} {Q : Value → Shared → Prop} (H : Led G s l) (hm : Po G l v (ivP d)) (hd : (d, dxP prog w kvs ep) ∈ l) (h : ∀ I s', Led G s' ((I, itmP d 0 kvs.length ep) :: l) → Q (.ref I) s') : wpAny (model prog w) A (pyIter (.ref v)) Q E s := by
  obtain ⟨o, e, rfl⟩ := hm.get H
  exact wpAny_pyIter_items (knd := PySem.intKind prog w) ⟨_, e, rfl, rfl⟩ (H.dxAt hd) (h _ _ (H.alloc (tk := s.toks) rfl ⟨.none, .none, rfl⟩))
theorem itm_item {k : Int} {v : Value} {Q : Option Value → Shared → Prop} (C : Cx K G) (H : Led G s ((I, itmP d i kvs.length ep) :: l)) (hd : (d, dxP prog w kvs ep) ∈ l) (hx : kvs[i]? = some (k, v))
    (h : ∀ t T s', Led G s' ((T, tuP [.int k t, v]) :: (I, itoP d (i + 1) kvs.length ep T) :: l) → Q (some (.ref T)) s') : wpAny (model prog w) A (pyNext (.ref I)) Q E s := by
  obtain ⟨o, e, ok, ov, rfl⟩ := H.get List.mem_cons_self
  refine wpAny_pyNext_items_item (knd := PySem.intKind prog w) e (H.dxAt (.tail _ hd)) hx fun key h₁ hkey heo ht hz hk => ?_
  obtain ⟨t, rfl⟩ := PySem.Value.isInt_shape hkey
  have H1 : Led G { s with heap := h₁, toks := s.toks } ((I, itoP d (i + 1) kvs.length ep s.heap.objs.size) :: l) := H.putI C hk ⟨_, heo, _, _, rfl⟩
  exact h t _ _ (Led.newIn H H1 rfl (Nat.le_refl _) ⟨_, ht, _, rfl⟩)
theorem itm_let {elts : List Expr} {x1} {pos : Pos} {P : HP} {Q : Unit → Shared → Prop} (H : Led G s ((T, P) :: (I, itoP d i n ep T) :: l)) (h : ∀ s', Led G s' ((T, P) :: (I, itmP d i n ep) :: l) → Q () s') :
    wpAny (model prog w) A (letOwnedTupleGo (.Tuple elts x1 pos) (.ref I) (.ref T)) Q E s := by
  obtain ⟨o, e, ok, ov, rfl⟩ := H.get (.tail _ List.mem_cons_self)
  exact wpAny_letOwnedTupleGo_items e fun h' he hs => h _ (H.upd (tk := s.toks) (.tail .head) hs ⟨_, he, _, _, rfl⟩)
theorem itm_end {Q : Option Value → Shared → Prop} (C : Cx K G) (hh : A.handled = none) (H : Led G s ((I, itmP d i kvs.length ep) :: l)) (hd : (d, dxP prog w kvs ep) ∈ l) (hx : kvs[i]? = none) (h : ∀ s', Led G s' l → Q none s') :
    wpAny (model prog w) A (pyNext (.ref I)) Q E s := by
  obtain ⟨o, e, ok, ov, rfl⟩ := H.get List.mem_cons_self
  exact wpAny_pyNext_items_end (knd := PySem.intKind prog w) hh e (H.dxAt (.tail _ hd)) hx fun h' he => h _ (H.extBut C he (tk := s.toks))
/-- a frame's map, whatever it was, when its two names are stored anew -/
def nsXY (x y : Str) : HP := fun o => ∃ m, nsP m o ∧ ∀ z, z ≠ x → z ≠ y → m z = none
theorem nsXY_set {x y : Str} {u v : Value} {m : Str → Option Value} (hxy : x ≠ y) (h : ∀ z, z ≠ x → z ≠ y → m z = none) : (fun z => if z = y then some v else if z = x then some u else m z) = lk [(x, u), (y, v)] := by
  funext z
  by_cases ex : z = x
  · subst ex; simp [lk, hxy]
  · by_cases ey : z = y
    · subst ey
      have : (z == x) = false := by simpa using ex
      simp [lk, List.lookup_cons, this]
    · have h1 : (z == x) = false := by simpa using ex
      have h2 : (z == y) = false := by simpa using ey
      simp [lk, List.lookup_cons, h1, h2, ex, ey, h z ex ey]
theorem new_compEnv2 {scope : Scope} {cl : List (Str × Addr)} {x y : Str} {Q : Env → Shared → Prop} (C : Cx K G) (H : Led G s l) (hcell : ∀ y ∈ scope.names, y.2 ≠ .cell) (hkind : scope.kind = .function)
    (h : ∀ L s', Led G s' ((L, nsXY x y) :: l) → Q (newEnv scope L env.globals cl env.qual none .none (some env) builtinsNs) s') :
    wpAny M A (newFunctionEnv scope env.globals cl [] env.qual none .none (some env)) Q E s := by
  refine wpAny_newFunctionEnv hcell (by intro y hy; simp at hy) (fun h₁ hns hsb => ?_) hkind
  have H0 := H.alloc (tk := s.toks) (o := { cls := .type (if (some env).isSome then "dict" else "frame"), data := .dict #[] }) (P := fun _ => True) rfl trivial
  have H1 : Led G { s with heap := h₁, toks := s.toks + ([] : List (Str × Value)).length } ((s.heap.objs.size, nsXY x y) :: l) := by
    refine Led.upd (h' := h₁) (tk := s.toks + ([] : List (Str × Value)).length) H0 .head hsb ?_
    obtain ⟨o, es, ep, e, hd, hsk, hf⟩ := hns
    exact ⟨o, e, _, ⟨es, ep, hd, hsk, hf⟩, fun _ _ _ => rfl⟩
  exact h _ _ H1
theorem stored_new {kvs : List (Int × Value)} {k : Int} {v : Value} (h : k ∉ kvs.map Prod.fst) : stored kvs k v = kvs ++ [(k, v)] := by
  exact stored_absent (valueAt_none_of_not_mem h) v
/-- a dict comprehension over a dict's items -/
theorem m_dcomp {kx vx iter : Expr} {x y : Str} {px py pt : Pos} {x1} {scope : Scope} {cl : List (Str × Addr)} {pos : Pos} {Q : Value → Shared → Prop} (C : Cx K G) (hh : A.handled = none)
    (hclos : closureFor scope env = pure cl) (hcell : (scope.names.all fun y => y.2 != .cell) = true) (hkind : scope.kind = .function)
    (hnames : (scope.names.all fun y => y.2 != .local || scope.names.lookup y.1 == some .local) = true) (hx : scope.names.lookup x = some .local) (hy : scope.names.lookup y = some .local) (hxy : x ≠ y)
    (h : wpAny (model prog w) A (eval iter env) (fun xv s₁ => ∃ (v d : Addr) (kvs : List (Int × Value)) (f : Int → Value → Value) (l : List (Addr × HP)), xv = .ref v ∧ kvs.length ≤ 1000 ∧ Led G s₁ ((d, idP prog w kvs) :: l) ∧ Po G l v (ivP d) ∧
      (∀ k u t, (k, u) ∈ kvs → ∀ L s₂ F, (∀ q ∈ l, q ∈ F) → Led G s₂ ((L, nsP (lk [(x, .int k t), (y, u)])) :: F) →
        wpAny (model prog w) A (eval kx (compEnvC scope cl L env)) (fun kv s₃ => ∃ t', kv = .int k t' ∧ Led G s₃ ((L, nsP (lk [(x, .int k t), (y, u)])) :: F) ∧
          wpAny (model prog w) A (eval vx (compEnvC scope cl L env)) (fun vv s₄ => vv = f k u ∧ Led G s₄ ((L, nsP (lk [(x, .int k t), (y, u)])) :: F)) (fun _ _ => False) s₃) (fun _ _ => False) s₂) ∧
      ∀ D s₂, (D == sysModules) = false → Led G s₂ ((D, idP prog w (kvs.map fun p => (p.1, f p.1 p.2))) :: (d, idP prog w kvs) :: l) → Q (.ref D) s₂) E s)
    (hs : ∀ x, foldedSetIterable iter env x = pure x := by intro _; rfl) :
    wpAny (model prog w) A (eval (.DictComp kx vx [⟨.Tuple [.Name x px, .Name y py] x1 pt, iter, [], 0⟩] scope pos) env) Q E s := by
  have hcell' : ∀ y ∈ scope.names, y.2 ≠ .cell := fun y hy => by simpa using List.all_eq_true.mp hcell y hy
  have hnames' : ∀ y ∈ scope.names, y.2 = .local → scope.names.lookup y.1 = some .local := fun y hy e => by
    have := List.all_eq_true.mp hnames y hy
    rw [e] at this
    simpa using this
  rw [arm_eval_DictComp]
  refine wpAny_comprehension_free (use := none) rfl hs hclos hkind hnames' (wpAny_mono h (fun xv s₁ h₁ => ?_) fun _ _ e => e)
  obtain ⟨v, d, kvs, f, l, rfl, hz, H, hm, turn, fin⟩ := h₁
  obtain ⟨ep, H⟩ := H.dx
  refine itm_new H (hm.sub fun q hq => List.mem_cons_of_mem _ hq) List.mem_cons_self fun I s₂ H2 => ?_
  have lo : (s₂.heap.objs.size == sysModules) = false := beq_eq_false_iff_ne.mpr (Nat.ne_of_gt (Nat.lt_trans (by decide : 1 < 3) H2.big))
  refine wpAny_newObj_type ?_
  generalize hDD : s₂.heap.objs.size = D at lo
  have H3 : Led G { s₂ with heap := s₂.heap.push { cls := .type "dict", dict := none, data := .dict #[] }, toks := s₂.toks } ((D, idP prog w []) :: (I, itmP d 0 kvs.length ep) :: (d, dxP prog w kvs ep) :: l) := hDD ▸ H2.alloc rfl (by
    obtain ⟨o, ho, hd⟩ := Heap.dictOf_iff.mp (Heap.DictOf.new (knd := PySem.intKind prog w) s₂.heap)
    rw [Heap.get?_push_size _ rfl] at ho
    exact (Option.some.inj ho) ▸ hd)
  refine new_compEnv2 (x := x) (y := y) C H3 hcell' hkind fun L s₄ H4 => ?_
  show codeAny _ A (.compStart _ 0 (.ref I) (.ref D) (compEnvC scope cl L env)) _ s₄
  have hnd : (kvs.map Prod.fst).Nodup := by
    obtain ⟨_, _, _, _, _, _, hn⟩ := H.dxAt List.mem_cons_self
    exact hn.2
  have loop : codeAny (model prog w) A (.compLoop (.DictComp kx vx [⟨.Tuple [.Name x px, .Name y py] x1 pt, iter, [], 0⟩] scope pos) 0 (.ref I) (.ref D) (compEnvC scope cl L env)) (compPost (model prog w) A E none Q (.ref D) L) s₄ := by
    refine codeAny_loop rfl (fun k s' => ∃ i, i ≤ kvs.length ∧ k = kvs.length + 1 - i ∧ Led G s' ((I, itmP d i kvs.length ep) :: (L, nsXY x y) :: (D, idP prog w ((kvs.take i).map fun p => (p.1, f p.1 p.2))) :: (d, dxP prog w kvs ep) :: l)) (fun n s hI => ?_) (kvs.length + 1)
      ⟨0, Nat.zero_le _, rfl, Led.perm H4 (by show List.Perm ((L, nsXY x y) :: (D, idP prog w []) :: (I, itmP d 0 kvs.length ep) :: (d, dxP prog w kvs ep) :: l) ((I, itmP d 0 kvs.length ep) :: (L, nsXY x y) :: (D, idP prog w []) :: (d, dxP prog w kvs ep) :: l); tm_at "pk")⟩
    obtain ⟨i, hi, rfl, H'⟩ := hI
    show wpAny _ A ((compTurn _ 0 (.ref I) (.ref D) (compEnvC scope cl L env)).onRaise (fun x => do noteFrame x _; theTreesLotGoes x)) _ _ s
    refine wpAny_noted ?_
    rw [compTurn_dict]
    refine wpAny_bind (wpAny_standAt (wpAny_bind ?_))
    cases hv : kvs[i]? with
    | none =>
      refine itm_end C hh H' (.tail _ (.tail _ List.mem_cons_self)) hv fun s₅ H5 => ?_
      refine wpAny_pure ?_
      have hlen : kvs.length ≤ i := by simpa using hv
      rw [List.take_of_length_le hlen] at H5
      obtain ⟨o, e, m, ⟨es, ep', hd, hk, hf⟩, -⟩ := H5.get List.mem_cons_self
      refine ⟨m, ⟨o, es, ep', e, hd, hk, hf⟩, fun h' hs' => ?_⟩
      have H6 := H5.extBut C hs'.extBut (tk := s₅.toks)
      exact fin D _ lo (Led.perm (Led.dxBack (Led.perm H6 (.swap ..))) (.swap ..))
    | some kv =>
      obtain ⟨k, u⟩ := kv
      have hlt := (List.getElem?_eq_some_iff.mp hv).1
      refine itm_item C H' (.tail _ (.tail _ List.mem_cons_self)) hv fun t T s₅ H5 => ?_
      refine wpAny_bind (itm_let H5 fun s₆ H6 => ?_)
      obtain ⟨ot, eot, nt, rfl⟩ := H6.get List.mem_cons_self
      refine wpAny_bind (wpAny_assign_Tuple hh (t := T) (items := #[.int k t, u]) ⟨_, eot, rfl, _, rfl⟩ rfl rfl fun h₃ hx₃ => ?_)
      have H7 := H6.extNew C hx₃ (tk := s₆.toks)
      show wpAny _ _ (do holding [u] (assign (.Name x px) _ (.int k t)); do holding [] (assign (.Name y py) _ u); pure ()) _ _ _
      have H8 := Led.perm H7.tl (.swap ..)
      obtain ⟨o, e, m, ⟨es, ep', hd, hk, hf⟩, hm0⟩ := H8.get List.mem_cons_self
      refine wpAny_bind (wpAny_holding (wpAny_assign_Name (wpAny_storeName_local (env := compEnvC scope cl L env) (lookup_relabel_local hx) ⟨o, es, ep', e, hd, hk, hf⟩ (fun h₄ hn₄ hs₄ => ?_) (by simp [compEnvC, relabel, hkind]))))
      refine wpAny_bind (wpAny_holding (wpAny_assign_Name (wpAny_storeName_local (env := compEnvC scope cl L env) (lookup_relabel_local hy) hn₄ (fun h₅ hn₅ hs₅ => wpAny_pure ?_) (by simp [compEnvC, relabel, hkind]))))
      have H9 := (H8.upd (P' := fun _ => True) (tk := s₆.toks + 1) .head hs₄ (let ⟨o, _, _, e, _⟩ := hn₄; ⟨o, e, trivial⟩)).upd (P' := nsP (lk [(x, .int k t), (y, u)])) (tk := s₆.toks + 1 + 1) .head hs₅ (by
        obtain ⟨o', es', ep'', e', hd', hk', hf'⟩ := hn₅
        exact ⟨o', e', es', ep'', hd', hk', fun z => (hf' z).trans (congrFun (nsXY_set hxy hm0) z)⟩)
      refine wpAny_bind (wpAny_tests_nil ?_)
      refine wpAny_bind (wpAny_bind (wpAny_mono (turn k u t (List.mem_of_getElem? hv) L _ _ (fun q hq => List.mem_cons_of_mem _ (List.mem_cons_of_mem _ (List.mem_cons_of_mem _ hq))) H9) (fun kv s₇ h₇ => ?_) fun _ _ e => e.elim))
      obtain ⟨t', rfl, H10, hvx⟩ := h₇
      refine wpAny_bind (wpAny_holding (wpAny_mono hvx (fun vv s₈ h₈ => ?_) fun _ _ e => e.elim))
      obtain ⟨rfl, H11⟩ := h₈
      refine wpAny_bind (wpAny_standAt (wpAny_holding ?_))
      refine wpAny_dictSet_pairs (knd := PySem.intKind prog w) (intKind_is _ _ _ _) (H11.dict (.led (.tail _ (.tail _ List.mem_cons_self)))) (fun h' hm' hs' => ?_) (by rw [sizeLine_eq, List.length_map, List.length_take]; omega)
      have H12 := H11.upd (tk := s₈.toks + 1) (P' := idP prog w (stored ((kvs.take i).map fun p => (p.1, f p.1 p.2)) k (f k u))) (.tail (.tail .head)) hs' (Heap.dictOf_iff.mp hm')
      refine wpAny_pure ⟨rfl, _, ?_, i + 1, hlt, rfl, ?_⟩
      · show kvs.length + 1 - (i + 1) < kvs.length + 1 - i
        omega
      have he : stored ((kvs.take i).map fun p => (p.1, f p.1 p.2)) k (f k u) = (kvs.take (i + 1)).map fun p => (p.1, f p.1 p.2) := by
        have h1 : kvs.take (i + 1) = kvs.take i ++ [(k, u)] := by rw [List.take_succ, hv]; rfl
        rw [h1, List.map_append]
        refine stored_new ?_
        have h2 : ((kvs.take i ++ [(k, u)]).map Prod.fst).Nodup := by rw [← h1]; exact hnd.sublist ((List.take_sublist _ _).map _)
        rw [List.map_append, List.nodup_append] at h2
        intro hm
        rw [List.map_map] at hm
        exact h2.2.2 k hm k (by simp) rfl
      rw [he] at H12
      have H13 : Led G _ ((L, nsXY x y) :: (I, itmP d (i + 1) kvs.length ep) :: (D, idP prog w ((kvs.take (i + 1)).map fun p => (p.1, f p.1 p.2))) :: (d, dxP prog w kvs ep) :: l) := H12.weak fun o q => ⟨_, q, fun z hx hy => by
        have h1 : (z == x) = false := by simpa using hx
        have h2 : (z == y) = false := by simpa using hy
        simp [lk, List.lookup_cons, h1, h2]⟩
      exact H13.perm (.swap ..)
  exact codeAny_compStart_dict loop (by
    obtain ⟨o, e, ok, ov, rfl⟩ := H4.get (.tail _ (.tail _ List.mem_cons_self))
    exact kcp_self e loop)
end
local macro_rules | `(tactic| tm_at "item") => `(tactic| first
  | refine li_item (by with_reducible assumption) (by tm_at "io") (by first | decide | assumption) (by first | decide | assumption) (by first | rfl | assumption) (by kernel_rfl) ?_
  | refine tu_item (by with_reducible assumption) (by tm_at "io") (by first | decide | assumption) (by first | decide | assumption) (by first | rfl | assumption) (by kernel_rfl) ?_)
local macro_rules | `(tactic| tm_at "nz") => `(tactic| first | decide | assumption | omega)
local macro_rules | `(tactic| tm_at "small") => `(tactic| first | decide | assumption | (simp; done) | (simp at *; omega))
local macro_rules | `(tactic| tm_at "go2") => `(tactic| first
  | ((with_reducible show wpAny _ _ (callWith _ (Value.builtin _) _ (backTo _ (starEach [] _)) _) _ _ _); refine cw_B0 ?_)
  | with_reducible refine app_mid (by assumption) (by tm_at "io") ?_
  | with_reducible refine unp_mid (by assumption) (by tm_at "io") ?_
  | ((with_reducible refine m_unpack3 (by assumption) (Rm.handled (by assumption)) ?_ ?_ ?_); kernel_rfl; kernel_rfl)
  | ((with_reducible show wpAny _ _ (getMethod (Value.ref _) (Str.ofString "pop") _) _ _ _); with_reducible refine li_meth PySem.F.slot_list_pop PySem.F.type_list_pop (by assumption) (by tm_at "io") ?_)
  | ((with_reducible show wpAny _ _ (getMethod (Value.ref _) (Str.ofString "insert") _) _ _ _); with_reducible refine li_meth PySem.F.slot_list_insert PySem.F.type_list_insert (by assumption) (by tm_at "io") ?_)
  | ((with_reducible show wpAny _ _ (getMethod (Value.ref _) (Str.ofString "remove") _) _ _ _); with_reducible refine li_meth PySem.F.slot_list_remove PySem.F.type_list_remove (by assumption) (by tm_at "io") ?_)
  | ((with_reducible show wpAny _ _ (call (Value.builtin "list.append") _) _ _ _); refine li_append (by with_reducible assumption) (by tm_at "rr") (by tm_at "small") ?_; intro _ _)
  | ((with_reducible show wpAny _ _ (binaryOp Operator.Mod (Value.int _ _) (Value.int _ _)) _ _ _); refine i_mod (by with_reducible assumption) (by tm_at "nz") ?_; intro _ _ _)
  | ((with_reducible show wpAny _ _ (binaryOp Operator.FloorDiv (Value.int _ _) (Value.int _ _)) _ _ _); refine i_fdiv (by with_reducible assumption) (by tm_at "nz") (by tm_at "nz") ?_; intro _ _ _)
  | ((with_reducible show wpAny _ _ (call (Value.builtin "abs") _ _) _ _ _); refine i_abs (by with_reducible assumption) ?_; intro _ _ _ _)
  | ((with_reducible show wpAny _ _ (call (Value.builtin "len") _ _) _ _ _); refine li_len (by with_reducible assumption) (by tm_at "io") (by with_reducible assumption) ?_; intro _ _ _)
  | ((with_reducible show wpAny _ _ (setItem (Value.ref _) (Value.int _ _) _) _ _ _); refine li_set (by with_reducible assumption) (by tm_at "rr") (by decide) (by decide) (by simp) ?_; intro _ _)
  | (with_reducible refine e_list ?_)
  | (with_reducible refine e_tuple ?_)
  | ((with_reducible show wpAny _ _ (newList _) _ _ _); refine new_list (by with_reducible assumption) (by tm_at "small") ?_; intro _ _ _)
  | ((with_reducible show wpAny _ _ (newTuple _) _ _ _); refine new_tuple (by with_reducible assumption) (by tm_at "small") ?_; intro _ _ _))
local macro_rules | `(tactic| tm_at "go1") => `(tactic| (with_reducible refine e_app ?_ ?_ ?_ ?_ ?_; kernel_rfl; kernel_rfl; kernel_rfl; kernel_rfl))
local macro_rules | `(tactic| tm_at "io") => `(tactic| with_reducible assumption)
local macro_rules | `(tactic| tm_at "name") => `(tactic| ((with_reducible show wpAny _ _ (eval (Expr.Name _ _) (compEnvC _ _ _ _)) _ _ _); first
  | refine cv_local (by with_reducible assumption) (by tm_at "mm") (by tm_at "lk") ?_ (by rfl) (by kernel_rfl!) (by decide +kernel)
  | refine cv_cell (by with_reducible assumption) (by tm_at "io") ?_ (by rfl) (by kernel_rfl!) (by rfl) (by decide +kernel)
  | refine cv_builtin (by with_reducible assumption) (by with_reducible assumption) (by k_is) (by boot_fast) ?_ (by rfl) (by rfl) (by rfl) (by kernel_rfl!) (by decide +kernel) (by decide +kernel)))
local macro_rules | `(tactic| tm_at "name") => `(tactic| ((with_reducible show wpAny _ _ (eval (Expr.Name _ _) (envX _ _ _ _ _ (_ :: _))) _ _ _); first
  | refine x_local (by with_reducible assumption) (by tm_at "mm") (by tm_at "lk") ?_ (by rfl) (by kernel_rfl!) (by decide +kernel)
  | refine x_cell (by with_reducible assumption) (by tm_at "io") ?_ (by rfl) (by kernel_rfl!) (by rfl) (by decide +kernel)
  | refine x_global (by with_reducible assumption) (by with_reducible assumption) (by k_is) ?_ (by rfl) (by kernel_rfl!) (by decide +kernel)
  | refine x_builtin (by with_reducible assumption) (by with_reducible assumption) (by k_is) (by boot_fast) ?_ (by rfl) (by kernel_rfl!) (by decide +kernel) (by decide +kernel)))
local macro_rules | `(tactic| tm_at "go1") => `(tactic| ((with_reducible show wpAny _ _ (storeName (envX _ _ _ _ _ (_ :: _)) _ _) _ _ _); refine x_store (by with_reducible assumption) (by tm_at "rr") ?_ (by rfl) (by kernel_rfl!); intro _ _))
local macro_rules | `(tactic| tm_at "go2") => `(tactic| ((with_reducible show wpAny _ _ (call (Value.type "list") _) _ _ _); refine li_copy (by with_reducible assumption) (by with_reducible assumption) (by tm_at "io") (by tm_at "small") ?_; intro _ _ _))
local macro_rules | `(tactic| tm_at "go2") => `(tactic| ((with_reducible show wpAny _ _ (callWith _ (Value.type _) [] _ _) _ _ _); refine cw_T (by rfl) (by rfl) ?_))
local macro_rules | `(tactic| tm_at "has") => `(tactic| first | exact trivial | exact ⟨by tm_at "lk", by tm_at "has"⟩)
local macro_rules | `(tactic| tm_at "go2") => `(tactic| first | with_reducible refine t_sub ?_ | with_reducible refine t_bin ?_ | with_reducible refine t_call ?_)
local macro_rules | `(tactic| tm_at "nm") => `(tactic| with_reducible first | exact TellFn.fn (by assumption))
theorem fill10 : (PySem.Challenge.rw_kj0013_01, hd.heap_39) = (PySem.Challenge.rw_kj0013_01, hd.heap_39) := by k_fill; rfl
section
variable {prog : Program} {w : World} {A : Around} {R : Result → Shared → Prop} {s : Shared} {G : Gh} {l l' : List (Addr × HP)} {D S : Addr}
theorem c_next {n : Int} {t : Tok} (C : Cx (hd.heap_39 w.params) G) (hS : BInts G S) (hn : 0 < n) (hr : Rm A 5) (H : Led G s ((D, stP S) :: l))
    (h : ∀ r t s', 0 ≤ r → r < n → Led G s' ((D, stP S) :: l) → R (.ok (.ret (.int r t))) s') : codeAny (model prog w) A (.call (.ref 193) ⟨[.ref D, .int n t], []⟩) R s := by
  refine enterQ (K := hd.heap_39 w.params) (binds := [(Str.ofString "state", .ref D), (Str.ofString "size", .int n t)]) C H hr (by k_is) (by kernel_rfl) (BindsTo.of_eq (by kernel_rfl)) rfl rfl rfl (by kernel_rfl) (by kernel_rfl) (by kernel_rfl) ?_
  intro L s₁ A' Q E hQ hr H
  obtain ⟨p, tp, sm, ts, hp, H1⟩ := Led.st (Led.perm H (List.Perm.swap ..))
  clear H
  obtain ⟨xs, hxs, hi, hz⟩ := hS
  have hn0 : n ≠ 0 := by omega
  have h3 := fmod_range (a := p) (b := 3) (by decide)
  repeat tm_at "go"
  refine ⟨fun hb => ?_, fun hb => ?_⟩
  · have hb := of_decide_eq_true hb
    have hlt : p.toNat < xs.length := by omega
    obtain ⟨i, ti, hv⟩ := hi _ (List.getElem_mem hlt)
    have hv' : xs[p.toNat]? = some (.int i ti) := by rw [List.getElem?_eq_getElem hlt, hv]
    have hp1 : p < 1000 := by omega
    repeat tm_at "go"
    have H9 := Led.drop (L := L) (l₂ := _ :: l) ‹_› (by tm_at "ex") (by tm_at "pk")
    exact h _ _ _ (fmod_range hn).1 (fmod_range hn).2 (Led.stB (p := p + 1) H9 rfl (by omega))
  · repeat tm_at "go"
    have H9 := Led.drop (L := L) (l₂ := _ :: l) ‹_› (by tm_at "ex") (by tm_at "pk")
    exact h _ _ _ (fmod_range hn).1 (fmod_range hn).2 (Led.stB (p := p + 1) H9 rfl (by omega))
end
theorem fill11 : (PySem.Challenge.rw_kj0013_01, hd.heap_39) = (PySem.Challenge.rw_kj0013_01, hd.heap_39) := by k_fill; rfl
section
variable {prog : Program} {w : World} {A : Around} {R : Result → Shared → Prop} {s : Shared} {G : Gh} {l l' : List (Addr × HP)} {D S Rw Gn : Addr} {xs : List Value} {es : List En}
/-- the law's sizes -/
theorem c_sizes {m : Int} {tm ta : Tok} {la : Option Int} (C : Cx (hd.heap_39 w.params) G) (hr : Rm A 5) (H : Led G s l)
    (h : ∀ x tF s', Led G s' ((x, tuP [.int m tm, .int (sizeF m la) tF]) :: l) → R (.ok (.ret (.ref x))) s') : codeAny (model prog w) A (.call (.ref 212) ⟨[.int m tm, leV la ta], []⟩) R s := by
  refine enterQ (K := hd.heap_39 w.params) (binds := [(Str.ofString "most", .int m tm), (Str.ofString "least", leV la ta)]) C H hr (by k_is) (by kernel_rfl) (BindsTo.of_eq (by kernel_rfl)) rfl rfl rfl (by kernel_rfl) (by kernel_rfl) (by kernel_rfl) ?_
  intro L s₁ A' Q E hQ hr H
  cases la with
  | none =>
    simp only [leV] at H
    repeat tm_at "go"
    have H9 := Led.drop (L := L) (l₂ := _ :: l) (by with_reducible assumption) (by tm_at "ex") (by tm_at "pk")
    exact h _ _ _ H9
  | some a =>
    simp only [leV] at H
    repeat tm_at "go"
    have H9 := Led.drop (L := L) (l₂ := _ :: l) (by with_reducible assumption) (by tm_at "ex") (by tm_at "pk")
    exact h _ _ _ H9
theorem erefs_snoc (es : List En) (e : En) : erefs (es ++ [e]) = erefs es ++ [.ref e.a] := by simp [erefs]
theorem rowTells_append (a b : Row) : rowTells (a ++ b) = rowTells a ++ rowTells b := by simp [rowTells]
theorem rowTells_len (a : Row) : (rowTells a).length ≤ a.length := by simp only [rowTells, List.length_map]; exact List.length_filter_le _ _
theorem c_shrunk {Fi : Int} {tF : Tok} (C : Cx (hd.heap_39 w.params) G) (ok : ∀ e ∈ es, EnOK G e) (hz : xs.length + es.length ≤ 900) (hF : 0 ≤ Fi) (hr : Rm A 8) (H : Led G s ((Rw, liP (erefs es)) :: (Gn, liP xs) :: l))
    (h : ∀ nw s', pairs nw = rowTells ((es.drop Fi.toNat).map En.e).reverse → Led G s' ((Rw, liP (erefs (es.take Fi.toNat))) :: (Gn, liP (xs ++ refs nw)) :: (tupL nw ++ l)) → R (.ok (.ret .none)) s') :
    codeAny (model prog w) A (.call (.ref 205) ⟨[.ref Rw, .int Fi tF, .ref Gn], []⟩) R s := by
  refine enterQ (K := hd.heap_39 w.params) (binds := [(Str.ofString "row", .ref Rw), (Str.ofString "least", .int Fi tF), (Str.ofString "gone", .ref Gn)]) C H hr (by k_is) (by kernel_rfl) (BindsTo.of_eq (by kernel_rfl)) rfl rfl rfl (by kernel_rfl) (by kernel_rfl) (by kernel_rfl) ?_
  intro L s₁ A' Q E hQ hr H
  refine m_cons (m_while (fun m s => ∃ nw old, m ≤ es.length ∧ (Fi.toNat ≤ m ∨ m = es.length) ∧ pairs nw = rowTells ((es.drop m).map En.e).reverse ∧
    Led G s ((L, nsP (lk ((Str.ofString "row", .ref Rw) :: (Str.ofString "least", .int Fi tF) :: (Str.ofString "gone", .ref Gn) :: old))) :: (Rw, liP (erefs (es.take m))) :: (Gn, liP (xs ++ refs nw)) :: (tupL nw ++ l))) es.length
    ⟨[], [], Nat.le_refl _, .inr rfl, by simp [pairs, rowTells], ?_⟩ ?_)
  · simp only [List.take_length, refs, List.map_nil, List.append_nil]; exact H
  · rintro m s₂ ⟨nw, old, hm, hm2, hp, H⟩
    have hlen : (erefs (es.take m)).length = m := by simp only [erefs, List.length_map, List.length_take]; omega
    have hl : (erefs (es.take m)).length ≤ 1000 := by omega
    repeat tm_at "go"
    refine ⟨fun hb => ?_, fun hb => ?_⟩
    · have hb := of_decide_eq_true hb
      obtain ⟨m, rfl⟩ : ∃ m', m = m' + 1 := ⟨m - 1, by omega⟩
      obtain ⟨z, e1, e2⟩ := take_split es m hm
      clear H
      have H := ‹Led G _ _›
      rw [e1, erefs_snoc] at H
      obtain ⟨ho, hv⟩ := ok z (List.mem_of_mem_drop (by rw [e2]; exact List.mem_cons_self))
      have hz2 : (xs ++ refs nw).length ≤ 1000 := by
        have h1 := congrArg List.length hp
        have h2 := rowTells_len ((es.drop (m + 1)).map En.e).reverse
        simp only [pairs, List.length_map] at h1
        simp only [List.length_append, refs, List.length_map, List.length_reverse, List.length_drop] at *
        omega
      repeat tm_at "go"
      refine li_pop (by with_reducible assumption) (by tm_at "rr") (by rw [e1, erefs_snoc, List.length_append] at hl; simp at hl; omega) fun s₃ H3 => ?_
      have hT : ∃ o, G.g.get? z.a = some o ∧ tuP [.int z.k z.t, z.v, .bool z.b] o := ho
      clear H
      repeat tm_at "go"
      intro s₄ H4
      repeat tm_at "go"
      have hd : rowTells ((es.drop m).map En.e).reverse = rowTells ((es.drop (m + 1)).map En.e).reverse ++ rowTells [z.e] := by
        rw [e2, List.map_cons, List.reverse_cons, rowTells_append]
      refine ⟨fun hb => ?_, fun hb => ?_⟩
      · repeat tm_at "go"
        obtain ⟨x, old', H5⟩ : ∃ x old', Led G _ ((x, tuP [.int z.k z.t, z.v]) :: (L, nsP (lk old')) :: (Rw, liP (erefs (es.take m))) :: (Gn, liP (xs ++ refs nw ++ [.ref x])) :: (tupL nw ++ l)) ∧
            (lk old' (Str.ofString "row") = some (.ref Rw) ∧ lk old' (Str.ofString "least") = some (.int Fi tF) ∧ lk old' (Str.ofString "gone") = some (.ref Gn)) :=
          ⟨_, _, by with_reducible assumption, by tm_at "lk", by tm_at "lk", by tm_at "lk"⟩
        refine ⟨rfl, m, by omega, nw ++ [⟨x, z.k, z.t, z.v⟩], old', by omega, .inl (by omega), ?_, ?_⟩
        · rw [pairs_append, hp, hd]
          simp [pairs, rowTells, En.e, hb]
        · rw [refs_append, tupL_append, ← List.append_assoc xs, List.append_assoc (tupL nw)]
          have H6 := H5.1.perm (List.Perm.swap ..)
          have H7 := Led.back3 H6 H5.2.1 H5.2.2.1 H5.2.2.2
          refine H7.perm (List.Perm.cons _ ?_)
          refine (List.Perm.swap ..).trans (List.Perm.cons _ ?_)
          refine (List.Perm.swap ..).trans (List.Perm.cons _ ?_)
          exact List.perm_middle.symm
      · repeat tm_at "go"
        obtain ⟨old', H5⟩ : ∃ old', Led G _ ((L, nsP (lk old')) :: (Rw, liP (erefs (es.take m))) :: (Gn, liP (xs ++ refs nw)) :: (tupL nw ++ l)) ∧
            (lk old' (Str.ofString "row") = some (.ref Rw) ∧ lk old' (Str.ofString "least") = some (.int Fi tF) ∧ lk old' (Str.ofString "gone") = some (.ref Gn)) :=
          ⟨_, by with_reducible assumption, by tm_at "lk", by tm_at "lk", by tm_at "lk"⟩
        refine ⟨rfl, m, by omega, nw, _, by omega, .inl (by omega), ?_, Led.back3 H5.1 H5.2.1 H5.2.2.1 H5.2.2.2⟩
        rw [hp, hd]
        simp [rowTells, En.e, hb]
    · have hb := of_decide_eq_false hb
      have e : es.take m = es.take Fi.toNat ∧ es.drop m = es.drop Fi.toNat := by
        rcases hm2 with hm2 | hm2
        · have : m = Fi.toNat := by omega
          rw [this]; exact ⟨rfl, rfl⟩
        · rw [List.take_of_length_le (by omega), List.take_of_length_le (by omega), List.drop_of_length_le (by omega), List.drop_of_length_le (by omega)]; exact ⟨rfl, rfl⟩
      rw [e.2] at hp
      clear H
      have H := ‹Led G _ _›
      rw [e.1] at H
      repeat tm_at "go"
      exact h nw _ hp (Led.tl (by with_reducible assumption))
end
theorem fill12 : (PySem.Challenge.rw_kj0013_01, hd.heap_39) = (PySem.Challenge.rw_kj0013_01, hd.heap_39) := by k_fill; rfl
theorem en_addr {G : Gh} {e f : En} (he : EnOK G e) (hf : EnOK G f) (h : e.a = f.a) : e.k = f.k := by
  obtain ⟨o, q, n, rfl⟩ := he.at_
  obtain ⟨o', q', n', rfl⟩ := hf.at_
  rw [h, q'] at q
  simp only [Option.some.injEq, Obj.mk.injEq, Data.seq.injEq, En.vals, List.toArray_inj] at q
  simp at q
  exact q.1.1.1.symm
theorem Cmp.id_ {R : Value → Value → List (Addr × HP) → Prop} (h : ∀ v y ex, R v y ex → y = v ∧ ex = []) {vs ys exs} (c : Cmp R vs ys exs) : ys = vs ∧ exs = [] := by
  induction c with
  | nil => exact ⟨rfl, rfl⟩
  | snoc _ r ih =>
    obtain ⟨rfl, rfl⟩ := ih
    obtain ⟨rfl, rfl⟩ := h _ _ _ r
    exact ⟨rfl, rfl⟩
theorem filter_one {pre post : List En} {e₀ : En} (h1 : ∀ e ∈ pre, e.a ≠ e₀.a) (h2 : ∀ e ∈ post, e.a ≠ e₀.a) : (erefs (pre ++ e₀ :: post)).filter (fun v => v == .ref e₀.a) = [.ref e₀.a] := by
  have no : ∀ (q : List En), (∀ e ∈ q, e.a ≠ e₀.a) → (erefs q).filter (fun v => v == .ref e₀.a) = [] := fun q hq => by
    rw [List.filter_eq_nil_iff]
    intro v hv
    obtain ⟨e, he, rfl⟩ := List.mem_map.mp hv
    have := hq e he
    simpa using this
  have e1 : erefs (pre ++ e₀ :: post) = erefs pre ++ .ref e₀.a :: erefs post := by simp [erefs]
  rw [e1, List.filter_append, List.filter_cons, no _ h1, no _ h2]
  simp
section
variable {prog : Program} {w : World} {A : Around} {R : Result → Shared → Prop} {s : Shared} {G : Gh} {l l' : List (Addr × HP)} {D S Rw Gn : Addr} {xs : List Value} {es : List En}
/-- an entry asked for: it goes to the front -/
theorem c_front {e₀ : En} {pre post : List En} {t' : Tok} (C : Cx (hd.heap_39 w.params) G) (ok : ∀ e ∈ pre ++ e₀ :: post, EnOK G e) (hk : ((pre ++ e₀ :: post).map En.k).Nodup) (hz : (pre ++ e₀ :: post).length ≤ 900) (hr : Rm A 8)
    (H : Led G s ((Rw, liP (erefs (pre ++ e₀ :: post))) :: l)) (h : ∀ s', Led G s' ((Rw, liP (erefs (e₀ :: pre ++ post))) :: l) → R (.ok (.ret e₀.v)) s') :
    codeAny (model prog w) A (.call (.ref 217) ⟨[.ref Rw, .int e₀.k t'], []⟩) R s := by
  refine enterCQ (K := hd.heap_39 w.params) (binds := [(Str.ofString "row", .ref Rw), (Str.ofString "key", .int e₀.k t')]) (vars := [(Str.ofString "row", .ref Rw)]) (x := Str.ofString "key") (v := .int e₀.k t') C H hr (by k_is) (by kernel_rfl) (by kernel_rfl) rfl rfl rfl (fun n => rfl) (by kernel_rfl)
    (fun L => Eq.trans (b := fun y => if y = Str.ofString "row" then some (Value.ref Rw) else lk [] y) (by kernel_rfl!) (lk_set _ _ [])) (fun L => by kernel_rfl!) ?_
  intro L c s₁ A' Q E hQ hr H
  have o₀ := ok e₀ (by simp)
  have h1 : ∀ e ∈ pre, e.k ≠ e₀.k := fun e he q => by
    rw [List.map_append, List.nodup_append] at hk
    exact hk.2.2 _ (List.mem_map_of_mem he) e₀.k (by simp) q
  have h2 : ∀ e ∈ post, e.k ≠ e₀.k := fun e he q => by
    rw [List.map_append, List.nodup_append] at hk
    have := hk.2.1
    simp only [List.map_cons, List.nodup_cons] at this
    exact this.1 (q ▸ List.mem_map_of_mem he)
  have a1 : ∀ e ∈ pre, e.a ≠ e₀.a := fun e he q => h1 e he (en_addr (ok e (by simp [he])) o₀ q)
  have a2 : ∀ e ∈ post, e.a ≠ e₀.a := fun e he q => h2 e he (en_addr (ok e (by simp [he])) o₀ q)
  repeat tm_at "go"
  refine m_comp (fun v y ex => y = v ∧ ex = []) (fun v => v == .ref e₀.a) C (Rm.handled (by assumption)) (cl := [(Str.ofString "key", c)]) (by rfl) (by kernel_rfl) (by rfl) (by kernel_rfl) (by rfl) ?_
  repeat tm_at "go"
  refine ⟨_, erefs (pre ++ e₀ :: post), _, rfl, by simp only [erefs, List.length_map]; omega, by with_reducible assumption, by tm_at "io", fun v hv C' s₂ F hF H2 => ?_, fun D ys exs s₂ hc H2 => ?_⟩
  · obtain ⟨e, he, rfl⟩ := List.mem_map.mp hv
    have hT : ∃ o, G.g.get? e.a = some o ∧ tuP [.int e.k e.t, e.v, .bool e.b] o := (ok e he).at_
    have hC : Po G ((C', nsP (lk [(Str.ofString "entry", .ref e.a)])) :: F) c (ceP (some (.int e₀.k t'))) := .led (List.mem_cons_of_mem _ (hF _ (by simp)))
    refine wpAny_tests_one ?_
    repeat tm_at "go"
    refine ⟨?_, by with_reducible assumption, fun _ => ?_⟩
    · have hk' : e.k = e₀.k ↔ e.a = e₀.a := by
        refine ⟨fun q => ?_, en_addr (ok e he) o₀⟩
        rcases List.mem_append.mp he with he | he
        · exact absurd q (h1 e he)
        · rcases List.mem_cons.mp he with rfl | he
          · rfl
          · exact absurd q (h2 e he)
      by_cases q : e.a = e₀.a
      · rw [hk'.mpr q, q]; simp
      · rw [show (e.k == e₀.k) = false from by simpa using fun z => q (hk'.mp z)]
        symm; simpa using q
    · repeat tm_at "go"
      exact ⟨[], ⟨rfl, rfl⟩, by assumption⟩
  · rw [filter_one a1 a2] at hc
    obtain ⟨rfl, rfl⟩ := hc.id_ (fun _ _ _ q => q)
    simp only [List.nil_append] at H2
    have hT : ∃ o, G.g.get? e₀.a = some o ∧ tuP [.int e₀.k e₀.t, e₀.v, .bool e₀.b] o := o₀.at_
    repeat tm_at "go"
    have e1 : erefs (pre ++ e₀ :: post) = erefs pre ++ .ref e₀.a :: erefs post := by simp [erefs]
    have H3 := ‹Led G _ _›
    rw [e1] at H3
    have hu : A'.units + 40 < cLine := by have := hr.2.2; rw [show cLine = 9900 from rfl]; omega
    refine li_remove (pre := erefs pre) (post := erefs post) H3 (by tm_at "rr") (by rw [← e1]; simp only [erefs, List.length_map]; omega) (fun y hy => ?_) fun s₄ H4 => ?_
    · obtain ⟨e, he, rfl⟩ := List.mem_map.mp hy
      exact en_ne H3 (ok e (by simp [he])) o₀ (h1 e he) (by show A'.units + 1 + 10 < cLine; omega)
    · have hz2 : (erefs pre ++ erefs post).length ≤ 1000 := by
        simp only [erefs, List.length_map, List.length_append, List.length_cons] at *; omega
      repeat tm_at "go"
      refine li_insert0 (by with_reducible assumption) (by tm_at "rr") hz2 fun s₅ H5 => ?_
      repeat tm_at "go"
      refine h _ ?_
      rw [show erefs (e₀ :: pre ++ post) = .ref e₀.a :: (erefs pre ++ erefs post) by simp [erefs]]
      exact Led.sub (by with_reducible assumption) (.cons _ (.cons _ (.cons _ (.refl _))))
end
theorem fill13 : (PySem.Challenge.rw_kj0013_01, hd.heap_39) = (PySem.Challenge.rw_kj0013_01, hd.heap_39) := by k_fill; rfl
theorem erefs_cons (a : En) (b : List En) : erefs (a :: b) = .ref a.a :: erefs b := rfl
theorem erefs_append (a b : List En) : erefs (a ++ b) = erefs a ++ erefs b := List.map_append ..
section
variable {prog : Program} {w : World} {A : Around} {R : Result → Shared → Prop} {s : Shared} {G : Gh} {l l' : List (Addr × HP)} {D S Rw Gn Sz : Addr} {xs : List Value} {es : List En}
/-- an entry put in -/
theorem c_put {k M F : Int} {t tM tF : Tok} {v : Value} {b : Bool} (C : Cx (hd.heap_39 w.params) G) (ok : ∀ e ∈ es, EnOK G e) (hk : (es.map En.k).Nodup) (hz : xs.length + 2 * es.length ≤ 800) (hF : 0 ≤ F) (hv : VOK G v)
    (hS : ∃ o, G.g.get? Sz = some o ∧ tuP [.int M tM, .int F tF] o) (hr : Rm A 20) (H : Led G s ((Rw, liP (erefs es)) :: (Gn, liP xs) :: l))
    (h : ∀ G' nw es' s', G.le G' → (∀ e ∈ es', EnOK G' e) → (es'.map En.e, pairs nw) = rowPut (es.map En.e) k v b M F → Led G' s' ((Rw, liP (erefs es')) :: (Gn, liP (xs ++ refs nw)) :: (tupL nw ++ l)) → R (.ok (.ret .none)) s') :
    codeAny (model prog w) A (.call (.ref 224) ⟨[.ref Rw, .int k t, v, .bool b, .ref Sz, .ref Gn], []⟩) R s := by
  refine enterQ (K := hd.heap_39 w.params) (binds := [(Str.ofString "row", .ref Rw), (Str.ofString "key", .int k t), (Str.ofString "value", v), (Str.ofString "tells", .bool b), (Str.ofString "sizes", .ref Sz), (Str.ofString "gone", .ref Gn)]) C H hr (by k_is) (by kernel_rfl) (BindsTo.of_eq (by kernel_rfl)) rfl rfl rfl (by kernel_rfl) (by kernel_rfl) (by kernel_rfl) ?_
  intro L s₁ A' Q E hQ hr H
  have hez : (erefs es).length ≤ 1000 := by simp only [erefs, List.length_map]; omega
  refine m_cons ?_
  refine m_forL (fun i l₂ => ∃ nw old, pairs nw = rowTells (((es.take i).filter fun e => e.k == k).map En.e) ∧
    l₂ = (L, nsP (lk ((Str.ofString "row", .ref Rw) :: (Str.ofString "key", .int k t) :: (Str.ofString "value", v) :: (Str.ofString "tells", .bool b) :: (Str.ofString "sizes", .ref Sz) :: (Str.ofString "gone", .ref Gn) :: old))) ::
      (Rw, liP (erefs ((es.take i).filter (fun e => e.k != k) ++ es.drop i))) :: (Gn, liP (xs ++ refs nw)) :: (tupL nw ++ l)) C (Rm.handled hr) ?_
  repeat tm_at "go"
  refine ⟨_, erefs es, _, rfl, by with_reducible assumption, ⟨[], [], by simp [pairs, rowTells], by simp [refs, tupL]⟩, ?_, ?_⟩
  · rintro i v' l₂ s₂ F hv' ⟨nw, old, hp, rfl⟩ H2
    simp only [List.cons_append, List.append_assoc] at H2
    obtain ⟨e, he, rfl⟩ : ∃ e, es[i]? = some e ∧ v' = .ref e.a := by
      simp only [erefs, List.getElem?_map, Option.map_eq_some_iff] at hv'
      obtain ⟨e, h1, h2⟩ := hv'
      exact ⟨e, h1, h2.symm⟩
    have oe := ok e (List.mem_of_getElem? he)
    have hT : ∃ o, G.g.get? e.a = some o ∧ tuP [.int e.k e.t, e.v, .bool e.b] o := oe.at_
    repeat tm_at "go"
    have hi := (List.getElem?_eq_some_iff.mp he).1
    have hge : es[i] = e := (List.getElem?_eq_some_iff.mp he).2
    have d1 : es.drop i = e :: es.drop (i + 1) := by rw [List.drop_eq_getElem_cons hi, hge]
    have d2 : es.take (i + 1) = es.take i ++ [e] := by rw [List.take_add_one, he]; rfl
    have fl : ∀ p : En → Bool, ((es.take i).filter p).length ≤ i := fun p => Nat.le_trans (List.length_filter_le _ _) (by rw [List.length_take]; omega)
    have hnw : nw.length ≤ i := by
      have h1 := congrArg List.length hp
      have h2 := rowTells_len (((es.take i).filter fun e => e.k == k).map En.e)
      have h3 := fl (fun e => e.k == k)
      simp only [pairs, List.length_map] at h1 h2
      omega
    have H3 := ‹Led G _ _›
    have hgz : (xs ++ refs nw).length ≤ 1000 := by simp only [List.length_append, refs, List.length_map]; omega
    have hu : A'.units + 40 < cLine := by have := hr.2.2; rw [show cLine = 9900 from rfl]; omega
    refine ⟨fun hb => ?_, fun hb => ?_⟩
    · have hb := eq_of_beq hb
      rw [d1, erefs_append, erefs_cons] at H3
      repeat tm_at "go"
      refine li_remove (pre := erefs ((es.take i).filter fun e => e.k != k)) (post := erefs (es.drop (i + 1))) (x := .ref e.a) H3 (by tm_at "rr") ?_ (fun y hy => ?_) fun s₄ H4 => ?_
      · simp only [erefs, List.length_append, List.length_cons, List.length_map, List.length_drop]
        have := fl (fun e => e.k != k)
        omega
      · obtain ⟨f, hf, rfl⟩ := List.mem_map.mp hy
        obtain ⟨hf1, hf2⟩ := List.mem_filter.mp hf
        refine en_ne H3 (ok f (List.mem_of_mem_take hf1)) oe (by rw [hb]; simpa using hf2) (by show A'.units + 1 + 10 < cLine; omega)
      · have e2 : ((es.take (i + 1)).filter fun e => e.k != k) = (es.take i).filter fun e => e.k != k := by rw [d2, List.filter_append]; simp [hb]
        have e3 : rowTells (((es.take (i + 1)).filter fun e => e.k == k).map En.e) = rowTells (((es.take i).filter fun e => e.k == k).map En.e) ++ rowTells [e.e] := by
          rw [d2, List.filter_append, List.map_append, rowTells_append]
          simp [hb]
        repeat tm_at "go"
        refine ⟨fun hb2 => ?_, fun hb2 => ?_⟩
        rotate_left
        · repeat tm_at "go"
          obtain ⟨vars, H4, hh⟩ : ∃ vars, Led G _ ((L, nsP (lk vars)) :: (Rw, liP (erefs ((es.take i).filter (fun e => e.k != k)) ++ erefs (es.drop (i + 1)))) :: (Gn, liP (xs ++ refs nw)) :: (tupL nw ++ (l ++ F))) ∧
              HasL vars [(Str.ofString "row", .ref Rw), (Str.ofString "key", .int k t), (Str.ofString "value", v), (Str.ofString "tells", .bool b), (Str.ofString "sizes", .ref Sz), (Str.ofString "gone", .ref Gn)] :=
            ⟨_, by with_reducible assumption, by tm_at "has"⟩
          refine ⟨_, ⟨nw, vars, by rw [e3, hp]; simp [rowTells, En.e, hb2], rfl⟩, ?_⟩
          rw [e2, erefs_append]
          simp only [List.cons_append, List.append_assoc]
          exact H4.pres _ hh
        · repeat tm_at "go"
          obtain ⟨x, vars, H4, hh⟩ : ∃ x vars, Led G _ ((x, tuP [.int k t, e.v]) :: (L, nsP (lk vars)) :: (Rw, liP (erefs ((es.take i).filter (fun e => e.k != k)) ++ erefs (es.drop (i + 1)))) :: (Gn, liP (xs ++ refs nw ++ [.ref x])) :: (tupL nw ++ (l ++ F))) ∧
              HasL vars [(Str.ofString "row", .ref Rw), (Str.ofString "key", .int k t), (Str.ofString "value", v), (Str.ofString "tells", .bool b), (Str.ofString "sizes", .ref Sz), (Str.ofString "gone", .ref Gn)] :=
            ⟨_, _, by with_reducible assumption, by tm_at "has"⟩
          refine ⟨_, ⟨nw ++ [⟨x, k, t, e.v⟩], vars, by rw [e3, pairs_append, hp]; simp [pairs, rowTells, En.e, hb2, hb], rfl⟩, ?_⟩
          rw [e2, erefs_append, refs_append, tupL_append, ← List.append_assoc xs]
          simp only [List.cons_append, List.append_assoc]
          rw [List.append_assoc xs] at H4
          have H5 := Led.pres _ (H4.perm (List.Perm.swap ..)) hh
          refine H5.perm (List.Perm.cons _ ?_)
          refine (List.Perm.swap ..).trans (List.Perm.cons _ ?_)
          refine (List.Perm.swap ..).trans (List.Perm.cons _ ?_)
          exact List.perm_middle.symm
    · have hb : ¬ e.k = k := by simpa using hb
      have e2 : ((es.take (i + 1)).filter fun e => e.k != k) = ((es.take i).filter fun e => e.k != k) ++ [e] := by rw [d2, List.filter_append]; simp [hb]
      have e3 : rowTells (((es.take (i + 1)).filter fun e => e.k == k).map En.e) = rowTells (((es.take i).filter fun e => e.k == k).map En.e) := by
        rw [d2, List.filter_append]
        simp [hb]
      repeat tm_at "go"
      obtain ⟨vars, H4, hh⟩ : ∃ vars, Led G _ ((L, nsP (lk vars)) :: (Rw, liP (erefs ((es.take i).filter (fun e => e.k != k) ++ es.drop i))) :: (Gn, liP (xs ++ refs nw)) :: (tupL nw ++ (l ++ F))) ∧
          HasL vars [(Str.ofString "row", .ref Rw), (Str.ofString "key", .int k t), (Str.ofString "value", v), (Str.ofString "tells", .bool b), (Str.ofString "sizes", .ref Sz), (Str.ofString "gone", .ref Gn)] :=
        ⟨_, by with_reducible assumption, by tm_at "has"⟩
      refine ⟨_, ⟨nw, vars, by rw [e3]; exact hp, rfl⟩, ?_⟩
      rw [e2, List.append_assoc, List.singleton_append, ← d1]
      simp only [List.cons_append, List.append_assoc]
      exact H4.pres _ hh
  · rintro l₂ s₂ ⟨nw, old, hp, rfl⟩ H2
    have el : (erefs es).length = es.length := by simp [erefs]
    rw [el, List.take_length] at hp
    rw [el, List.take_length, List.drop_length, List.append_nil] at H2
    generalize hr1 : es.filter (fun e => e.k != k) = r1 at H2
    have r1le : r1.length ≤ es.length := by rw [← hr1]; exact List.length_filter_le _ _
    have hnw : nw.length ≤ es.length := by
      have h1 := congrArg List.length hp
      have h2 := rowTells_len ((es.filter fun e => e.k == k).map En.e)
      have h3 := List.length_filter_le (fun e : En => e.k == k) es
      simp only [pairs, List.length_map] at h1 h2
      omega
    have hrz : (erefs r1).length ≤ 1000 := by simp only [erefs, List.length_map]; omega
    repeat tm_at "go"
    obtain ⟨G', hG, H3, o, ho, hT⟩ := (‹Led G _ ((_, tuP [.int k t, v, .bool b]) :: _)›).promote
    have C' := C.le hG
    have hS' := hS
    obtain ⟨oS, hoS, hqS⟩ := hS
    have hS : ∃ o, G'.g.get? Sz = some o ∧ tuP [.int M tM, .int F tF] o := ⟨oS, hG.base _ _ hoS, hqS⟩
    clear C H2 hS'
    refine li_insert0 (by with_reducible assumption) (by tm_at "rr") hrz fun s₅ H5 => ?_
    obtain ⟨x, e₀, hx, he⟩ : ∃ x, ∃ e₀ : En, e₀ = ⟨x, k, t, v, b⟩ ∧ Led G' s₅ ((L, nsP (lk ((Str.ofString "row", .ref Rw) :: (Str.ofString "key", .int k t) :: (Str.ofString "value", v) :: (Str.ofString "tells", .bool b) :: (Str.ofString "sizes", .ref Sz) :: (Str.ofString "gone", .ref Gn) :: old))) ::
        (Rw, liP (erefs (e₀ :: r1))) :: (Gn, liP (xs ++ refs nw)) :: (tupL nw ++ l)) ∧ EnOK G' e₀ := ⟨_, ⟨_, k, t, v, b⟩, rfl, H5, ⟨⟨o, ho, hT⟩, hv.mono hG.base⟩⟩
    obtain ⟨H6, oe⟩ := he
    clear H5 H3
    have ok1 : ∀ e ∈ e₀ :: r1, EnOK G' e := fun e he => by
      rcases List.mem_cons.mp he with rfl | he
      · exact oe
      · rw [← hr1] at he; exact (ok e (List.mem_filter.mp he).1).mono hG.base
    have hl : (erefs (e₀ :: r1)).length ≤ 1000 := by simp only [erefs, List.length_map, List.length_cons]; omega
    have hrow : (e₀ :: r1).map En.e = (k, v, b) :: (es.map En.e).filter (fun e => e.1 != k) := by
      rw [List.map_cons, hx, ← hr1, List.filter_map]; rfl
    have hg1 : pairs nw = rowTells ((es.map En.e).filter (fun e => e.1 == k)) := by rw [hp, List.filter_map]; rfl
    have hlen : (erefs (e₀ :: r1)).length = ((k, v, b) :: (es.map En.e).filter (fun e => e.1 != k)).length := by rw [← hrow]; simp [erefs]
    have hxs : (xs ++ refs nw).length + (e₀ :: r1).length ≤ 900 := by simp only [List.length_append, refs, List.length_map, List.length_cons]; omega
    repeat tm_at "go"
    refine ⟨fun hb => ?_, fun hb => ?_⟩
    · repeat tm_at "go"
      refine wpAny_call (c_shrunk (xs := xs ++ refs nw) C' ok1 hxs hF (Rm.le hr (by decide)) (Led.perm (by with_reducible assumption) (List.Perm.trans (List.Perm.swap ..) ((List.Perm.swap ..).cons _))) fun nw2 s' hn H' => ?_)
      repeat tm_at "go"
      refine h G' (nw ++ nw2) ((e₀ :: r1).take F.toNat) _ hG (fun e he => ok1 e (List.mem_of_mem_take he)) ?_ ?_
      · unfold rowPut
        rw [if_pos (by rw [← hlen]; exact of_decide_eq_true hb), ← hrow, ← hg1, pairs_append, hn]
        simp only [List.map_take, List.map_drop]
      · have H8 := H'.perm ((List.Perm.cons _ (List.Perm.cons _ (List.perm_middle))).trans ((List.Perm.cons _ (List.Perm.swap ..)).trans (List.Perm.swap ..)))
        rw [refs_append, ← List.append_assoc, tupL_append]
        refine H8.tl.perm ((List.Perm.cons _ (List.Perm.cons _ ?_)))
        rw [List.append_assoc]
        exact List.perm_append_comm_assoc ..
    · repeat tm_at "go"
      refine h G' nw (e₀ :: r1) _ hG ok1 ?_ (Led.tl (by with_reducible assumption))
      unfold rowPut
      rw [if_neg (by rw [← hlen]; exact of_decide_eq_false hb), hrow, hg1]
end
theorem fill14 : (PySem.Challenge.rw_kj0013_01, hd.heap_39) = (PySem.Challenge.rw_kj0013_01, hd.heap_39) := by k_fill; rfl
theorem Cmp.all {R : Value → Value → List (Addr × HP) → Prop} {P : Value → Prop} (h : ∀ v y ex, R v y ex → P y ∧ ex = []) {vs ys exs} (c : Cmp R vs ys exs) : (∀ y ∈ ys, P y) ∧ exs = [] := by
  induction c with
  | nil => exact ⟨by simp, rfl⟩
  | snoc _ r ih =>
    obtain ⟨h1, rfl⟩ := ih
    obtain ⟨h2, rfl⟩ := h _ _ _ r
    refine ⟨fun y hy => ?_, rfl⟩
    rcases List.mem_append.mp hy with hy | hy
    · exact h1 y hy
    · rw [List.mem_singleton.mp hy]; exact h2
section
variable {prog : Program} {w : World} {A : Around} {R : Result → Shared → Prop} {s : Shared} {G : Gh} {l l' : List (Addr × HP)} {D S X Rw Gn Sz : Addr} {xs : List Value} {es : List En}
theorem c_state (C : Cx (hd.heap_39 w.params) G) (hX : ∃ o, G.g.get? X = some o ∧ liP xs o) (hi : IntL xs) (hz : xs.length ≤ 1000) (hr : Rm A 8) (H : Led G s l)
    (h : ∀ G' D S s', G.le G' → BInts G' S → Led G' s' ((D, stP S) :: l) → R (.ok (.ret (.ref D))) s') : codeAny (model prog w) A (.call (.ref 198) ⟨[.ref X], []⟩) R s := by
  refine enterQ (K := hd.heap_39 w.params) (binds := [(Str.ofString "script", .ref X)]) C H hr (by k_is) (by kernel_rfl) (BindsTo.of_eq (by kernel_rfl)) rfl rfl rfl (by kernel_rfl) (by kernel_rfl) (by kernel_rfl) ?_
  intro L s₁ A' Q E hQ hr H
  repeat (first | refine e_slice (G := G) ?_ | tm_at "go")
  refine ⟨X, xs, _, rfl, by with_reducible assumption, by tm_at "io", hz, fun Sx zs s₂ hzs hzl H2 => ?_⟩
  repeat tm_at "go"
  refine m_comp (fun v y ex => (∃ n t, y = .int n t ∧ 0 ≤ n ∧ n < 1000) ∧ ex = []) (fun v => true) C (Rm.handled (by assumption)) (cl := []) (by rfl) (by kernel_rfl) (by rfl) (by kernel_rfl) (by rfl) ?_
  repeat tm_at "go"
  refine ⟨_, xs, _, rfl, hz, by with_reducible assumption, by tm_at "io", fun v hv C' s₂ F hF H2 => ?_, fun D ys exs s₂ hc H2 => ?_⟩
  · obtain ⟨n, t, rfl⟩ := hi v hv
    refine wpAny_tests_nil ?_
    refine ⟨rfl, H2, fun _ => ?_⟩
    repeat tm_at "go"
    exact ⟨[], ⟨⟨_, _, rfl, (fmod_range (by decide)).1, by have := (fmod_range (a := ‹Int›) (b := 997) (by decide)).2; omega⟩, rfl⟩, by assumption⟩
  · obtain ⟨hy, rfl⟩ := hc.all (P := fun y => ∃ n t, y = .int n t ∧ 0 ≤ n ∧ n < 1000) fun _ _ _ q => q
    have hyl : ys.length ≤ 1000 := by
      rw [hc.len]
      have := List.length_filter_le (fun v => true) xs
      omega
    simp only [List.nil_append] at H2
    repeat tm_at "go"
    refine i_sum C (Rm.handled (by assumption)) (by with_reducible assumption) (by tm_at "io") hy hyl fun n t s₃ H3 => ?_
    repeat tm_at "go"
    have H4 := ‹Led G _ ((_, liP [.ref Sx, _, _]) :: (D, liP ys) :: (Sx, liP zs) :: _ :: l)›
    have H5 := (H4.sub (.cons₂ _ (.cons _ (.cons₂ _ (.cons _ (.refl _)))))).perm (List.Perm.swap ..)
    obtain ⟨G', hG, H6, o, ho, hq⟩ := H5.promote
    refine h G' _ Sx _ hG ⟨zs, ⟨o, ho, hq⟩, fun z hz => hi z (hzs z hz), hzl⟩ (H6.stBack (by decide))
end
theorem fill15 : (PySem.Challenge.rw_kj0013_01, hd.heap_39) = (PySem.Challenge.rw_kj0013_01, hd.heap_39) := by k_fill; rfl
section
variable {prog : Program} {w : World} {A : Around} {R : Result → Shared → Prop} {s : Shared} {G : Gh} {l l' : List (Addr × HP)} {D S X Rw Gn Sz c cd T : Addr} {M F : Value} {kvs : List (Int × Value)} {xs : List Value} {es : List En} {outer : List Env}
/-- [] of a key that is not there -/
theorem c_gi_no {mru lru : Value} {k : Int} {t : Tok} (C : Cx (hd.heap_39 w.params) G) (ic : BIn G c 182 cd) (lo : (D == sysModules) = false) (hk : valueAt kvs k = none) (hr : Rm A 15)
    (St : Stk A ((cd, cacheP (.ref D) mru lru M F) :: (D, idP prog w kvs) :: l) outer) (H : Led G s ((cd, cacheP (.ref D) mru lru M F) :: (D, idP prog w kvs) :: l))
    (h : ∀ e s', FlyL G ((cd, cacheP (.ref D) mru lru M F) :: (D, idP prog w kvs) :: l) outer e (.type "KeyError") s' → R (.error (.ref e)) s') :
    codeAny (model prog w) A (.call (.ref 79) ⟨[.ref c, .int k t], []⟩) R s := by
  refine enterE (K := hd.heap_39 w.params) (binds := [(Str.ofString "self", .ref c), (Str.ofString "key", .int k t)]) C H hr (by k_is) (by kernel_rfl) (BindsTo.of_eq (by kernel_rfl)) rfl rfl rfl (by kernel_rfl) (by kernel_rfl) (by kernel_rfl) ?_
  intro L s₁ hr H
  repeat tm_at "go"
  refine d_missing lo (Rm.handled hr) (by with_reducible assumption) (by tm_at "io") hk (by kernel_rfl) (by intro _; rfl) fun h' e tk he => ?_
  refine fly_made (s₀ := _) C (by with_reducible assumption) (St.deeper (by intro q; cases q) rfl) he rfl rfl rfl fun s' f => ?_
  exact h e s' f.tl
/-- add of a key that is None -/
theorem c_add_none {t : Tok} (C : Cx (hd.heap_39 w.params) G) (hr : Rm A 15) (St : Stk A l outer) (H : Led G s l)
    (h : ∀ e s', FlyL G l outer e (.type "ValueError") s' → R (.error (.ref e)) s') :
    codeAny (model prog w) A (.call (.ref 94) ⟨[.ref c, .none, .int 5 t], []⟩) R s := by
  refine enterE (K := hd.heap_39 w.params) (binds := [(Str.ofString "self", .ref c), (Str.ofString "key", .none), (Str.ofString "value", .int 5 t), (Str.ofString "cleanup", .none)]) C H hr (by k_is) (by kernel_rfl) (add2 _ _ _ _ _ (by k_is) (C.K H)) rfl rfl rfl (by kernel_rfl) (by kernel_rfl) (by kernel_rfl) ?_
  intro L s₁ hr H
  repeat tm_at "go"
  refine m_raise PySem.F.excCall_ValueError PySem.F.excRaise_ValueError (Rm.handled hr) (by rfl) (by rfl) ?_
  repeat tm_at "go"
  refine ⟨rfl, ?_⟩
  repeat tm_at "go"
  refine ⟨by simp, fun h' e he => ?_⟩
  refine fly_made (s₀ := _) C (by with_reducible assumption) (St.deeper (by intro q; cases q) rfl) he rfl rfl rfl fun s' f => ?_
  exact h e s' f.tl
/-- the law's try of a key that is None -/
theorem c_bad {mru lru : Value} (C : Cx (hd.heap_39 w.params) G) (ic : BIn G c 182 cd) (hr : Rm A 20) (St : Stk A ((cd, cacheP (.ref D) mru lru M F) :: l) outer) (H : Led G s ((cd, cacheP (.ref D) mru lru M F) :: l))
    (h : ∀ s', Led G s' ((cd, cacheP (.ref D) mru lru M F) :: l) → R (.ok (.ret (.bool true))) s') : codeAny (model prog w) A (.call (.ref 238) ⟨[.ref c], []⟩) R s := by
  refine enter (K := hd.heap_39 w.params) (binds := [(Str.ofString "cache", .ref c)]) C H hr (by k_is) (by kernel_rfl) (BindsTo.of_eq (by kernel_rfl)) rfl rfl rfl (by kernel_rfl) (by kernel_rfl) (by kernel_rfl) ?_
  intro L s₁ hr H
  refine m_cons ?_
  refine m_try (l := (L, nsP (lk [(Str.ofString "cache", .ref c)])) :: (cd, cacheP (.ref D) mru lru M F) :: l) (X := "ValueError") (T' := "ValueError") C (St.deeper (m := lk []) (L := L) (by intro q; cases q) rfl).fr (by k_is) (by boot_fast) (by rw [isSubtype_type]; kernel_rfl) (by rw [isSubtype_type]; kernel_rfl) (by rw [isSubtype_type]; kernel_rfl) ?_ ?_ (by rfl) (by kernel_rfl!) (by decide +kernel) (by decide +kernel)
  rotate_left
  · intro A' s₂ H2
    repeat tm_at "go"
    exact h _ H2.tl
  · repeat tm_at "go"
    refine wpAny_call (c_add_none C (Rm.le hr (by decide)) (St.deeper (by intro q; cases q) rfl) (by with_reducible assumption) fun e s' f => ?_)
    exact ⟨e, rfl, f⟩
/-- the law's try of a key that is not there -/
theorem c_taken_no {mru lru : Value} {k : Int} {t : Tok} (C : Cx (hd.heap_39 w.params) G) (ic : BIn G c 182 cd) (lo : (D == sysModules) = false) (hk : valueAt kvs k = none) (hr : Rm A 20)
    (St : Stk A ((cd, cacheP (.ref D) mru lru M F) :: (D, idP prog w kvs) :: l) outer) (H : Led G s ((cd, cacheP (.ref D) mru lru M F) :: (D, idP prog w kvs) :: l))
    (h : ∀ t s', Led G s' ((cd, cacheP (.ref D) mru lru M F) :: (D, idP prog w kvs) :: l) → R (.ok (.ret (.str (Str.ofString "none") t))) s') : codeAny (model prog w) A (.call (.ref 231) ⟨[.ref c, .int k t], []⟩) R s := by
  refine enter (K := hd.heap_39 w.params) (binds := [(Str.ofString "cache", .ref c), (Str.ofString "key", .int k t)]) C H hr (by k_is) (by kernel_rfl) (BindsTo.of_eq (by kernel_rfl)) rfl rfl rfl (by kernel_rfl) (by kernel_rfl) (by kernel_rfl) ?_
  intro L s₁ hr H
  refine m_cons ?_
  refine m_try (l := (L, nsP (lk [(Str.ofString "cache", .ref c), (Str.ofString "key", .int k t)])) :: (cd, cacheP (.ref D) mru lru M F) :: (D, idP prog w kvs) :: l) (X := "KeyError") (T' := "KeyError") C (St.deeper (m := lk []) (L := L) (by intro q; cases q) rfl).fr (by k_is) (by boot_fast) (by rw [isSubtype_type]; kernel_rfl) (by rw [isSubtype_type]; kernel_rfl) (by rw [isSubtype_type]; kernel_rfl) ?_ ?_ (by rfl) (by kernel_rfl!) (by decide +kernel) (by decide +kernel)
  rotate_left
  · intro A' s₂ H2
    repeat tm_at "go"
    exact h _ _ (Led.tl (by with_reducible assumption))
  · repeat tm_at "go"
    refine u_sub C (by with_reducible assumption) (by tm_at "io") (.led (P := cacheP (.ref D) mru lru M F) (by tm_at "mm")) (by k_is) (by k_is) (by k_is) (by kernel_rfl) ?_
    have P : ((L, nsP (lk [(Str.ofString "cache", .ref c), (Str.ofString "key", .int k t)])) :: (cd, cacheP (.ref D) mru lru M F) :: (D, idP prog w kvs) :: l).Perm ((cd, cacheP (.ref D) mru lru M F) :: (D, idP prog w kvs) :: (L, nsP (lk [(Str.ofString "cache", .ref c), (Str.ofString "key", .int k t)])) :: l) := (List.Perm.swap ..).trans ((List.Perm.swap ..).cons _)
    refine wpAny_call (c_gi_no (mru := mru) (lru := lru) (M := M) (F := F) C ic lo hk (hr.in1.le (by decide)) (((St.deeper (m := lk [(Str.ofString "cache", .ref c), (Str.ofString "key", .int k t)]) (by intro q; cases q) rfl).in1).perm fun p hp => P.mem_iff.mp hp) (Led.perm (by with_reducible assumption) P) fun e s' f => ?_)
    exact ⟨e, rfl, f.perm P.symm⟩
end
theorem fill16 : (PySem.Challenge.rw_kj0013_01, hd.heap_39) = (PySem.Challenge.rw_kj0013_01, hd.heap_39) := by k_fill; rfl
section
variable {prog : Program} {w : World} {A : Around} {R : Result → Shared → Prop} {s : Shared} {G : Gh} {l l' : List (Addr × HP)} {D S X Rw Gn Sz c cd T : Addr} {M F : Value} {kvs : List (Int × Value)} {xs : List Value} {es : List En} {outer : List Env}
/-- the law's try of a key that is there -/
theorem c_taken {n : Nd} {pre post : List Nd} {t' : Tok} (C : Cx (hd.heap_39 w.params) G) (ic : BIn G c 182 cd) (ok : RowOK G T (pre ++ n :: post) kvs) (hr : Rm A 25) (hfr : A.frames = some outer)
    (H : Led G s (cacheT prog w T xs cd D M F (pre ++ n :: post) kvs l))
    (h : ∀ s', Led G s' (cacheT prog w T xs cd D M F (n :: pre ++ post) kvs l) → R (.ok (.ret n.vl)) s') : codeAny (model prog w) A (.call (.ref 231) ⟨[.ref c, .int n.k t'], []⟩) R s := by
  refine enter (K := hd.heap_39 w.params) (binds := [(Str.ofString "cache", .ref c), (Str.ofString "key", .int n.k t')]) C H hr (by k_is) (by kernel_rfl) (BindsTo.of_eq (by kernel_rfl)) rfl rfl rfl (by kernel_rfl) (by kernel_rfl) (by kernel_rfl) ?_
  intro L s₁ hr H
  refine m_cons ?_
  refine m_try (l := [(0, fun _ => False)]) (X := "KeyError") (T' := "KeyError") C (Around.frames_deeper hfr) (by k_is) (by boot_fast) (by rw [isSubtype_type]; kernel_rfl) (by rw [isSubtype_type]; kernel_rfl) (by rw [isSubtype_type]; kernel_rfl) ?_ ?_ (by rfl) (by kernel_rfl!) (by decide +kernel) (by decide +kernel)
  rotate_left
  · intro A' s₂ H2
    exact (H2.at_ _ List.mem_cons_self).2.choose_spec.2.elim
  · repeat tm_at "go"
    refine u_sub C (by with_reducible assumption) (by tm_at "io") (.led (P := cacheP (.ref D) (firstR (pre ++ n :: post) .none) (lastR (pre ++ n :: post) .none) M F) (by tm_at "mm")) (by k_is) (by k_is) (by k_is) (by kernel_rfl) ?_
    refine wpAny_call (c_gi C ic ok (hr.in1.le (by decide)) (toT (by with_reducible assumption)) fun s' H' => ?_)
    repeat tm_at "go"
    exact h _ (ofT H').tl
end
section
theorem fill17 : (PySem.Challenge.rw_kj0013_01, hd.heap_39) = (PySem.Challenge.rw_kj0013_01, hd.heap_39) := by k_fill; rfl
section
variable {M : Model} {prog : Program} {w : World} {A : Around} {E : Value → Shared → Prop} {R : Result → Shared → Prop} {s : Shared} {G : Gh} {K : Frag} {l l' : List (Addr × HP)} {D S X Rw Gn Sz c cd T d : Addr} {F : Value} {kvs : List (Int × Value)} {ns : List Nd} {xs : List Value} {es : List En} {outer : List Nat}
theorem d_items {Q : Value → Shared → Prop} (lo : (d == sysModules) = false) (H : Led G s l) (hm : Po G l d (idP prog w kvs)) (h : ∀ v s', Led G s' ((v, ivP d) :: l) → Q (.ref v) s') :
    wpAny (model prog w) A (call (.builtin "dict.items") [.ref d]) Q E s :=
  have hD := H.dict hm
  call_meetsIn PySem.F.slot_dict_items hD.typeIs PySem.F.entry_dict_items (PySem.F.args_dict_items_1 _) (meets_dict_items (PySem.intKind prog w) d lo) ⟨⟨_, hD⟩, h _ _ (H.alloc (P := ivP d) (tk := s.toks) rfl rfl)⟩
local macro_rules | `(tactic| tm_at "method") => `(tactic| ((with_reducible show wpAny _ _ (getMethod (Value.ref _) (Str.ofString "keys") _) _ _ _); refine d_meth PySem.F.slot_dict_keys PySem.F.type_dict_keys (by with_reducible assumption) (by tm_at "io") ?_))
local macro_rules | `(tactic| tm_at "method") => `(tactic| ((with_reducible show wpAny _ _ (getMethod (Value.ref _) (Str.ofString "items") _) _ _ _); refine d_meth PySem.F.slot_dict_items PySem.F.type_dict_items (by with_reducible assumption) (by tm_at "io") ?_))
local macro_rules | `(tactic| tm_at "user") => `(tactic| first
  | ((with_reducible show wpAny _ _ (call (Value.builtin "dict.keys") _) _ _ _); refine d_keys (by with_reducible assumption) (by with_reducible assumption) (by tm_at "io") ?_; intro _ _ _)
  | ((with_reducible show wpAny _ _ (call (Value.builtin "dict.items") _) _ _ _); refine d_items (by with_reducible assumption) (by with_reducible assumption) (by tm_at "io") ?_; intro _ _ _))
theorem c_keys {mru lru M : Value} (C : Cx (hd.heap_39 w.params) G) (ic : BIn G c 182 cd) (lo : (D == sysModules) = false) (hr : Rm A 5) (H : Led G s ((cd, cacheP (.ref D) mru lru M F) :: (D, idP prog w kvs) :: l))
    (h : ∀ v s', Led G s' ((v, kvP D) :: (cd, cacheP (.ref D) mru lru M F) :: (D, idP prog w kvs) :: l) → R (.ok (.ret (.ref v))) s') : codeAny (model prog w) A (.call (.ref 116) ⟨[.ref c], []⟩) R s := by
  refine enterQ (K := hd.heap_39 w.params) (binds := [(Str.ofString "self", .ref c)]) C H hr (by k_is) (by kernel_rfl) (BindsTo.of_eq (by kernel_rfl)) rfl rfl rfl (by kernel_rfl) (by kernel_rfl) (by kernel_rfl) ?_
  intro L s₁ A' Q E hQ hr H
  repeat tm_at "go"
  exact h _ _ (Led.tl (Led.perm (by assumption) (.swap ..)))
def rowIt (ns : List Nd) : List (Int × Value) := ns.map fun n => (n.k, n.vl)
theorem seg_at {n : Nd} : ∀ {ns : List Nd} {pv nx : Value}, n ∈ ns → ∃ pv' nk, (n.d, nodeP pv' nk n.ky n.vl n.cl) ∈ seg pv ns nx := by
  intro ns
  induction ns with
  | nil => intro _ _ h; cases h
  | cons m r ih =>
    intro pv nx h
    rcases List.mem_cons.mp h with rfl | h
    · exact ⟨_, _, List.mem_cons_self⟩
    · obtain ⟨a, b, q⟩ := ih (pv := .ref m.a) (nx := nx) h
      exact ⟨a, b, List.mem_cons_of_mem _ q⟩
theorem RowOK.itm {G T} {ns : List Nd} {kvs : List (Int × Value)} (ok : RowOK G T ns kvs) {k : Int} {u : Value} (hm : (k, u) ∈ kvs) : ∃ n ∈ ns, n.k = k ∧ u = .ref n.a ∧ valueAt (rowIt ns) k = some n.vl := by
  have h := ok.perm.mem_iff.mp hm
  obtain ⟨n, hn, e⟩ := List.mem_map.mp h
  cases e
  refine ⟨n, hn, rfl, rfl, valueAt_mem ?_ ?_⟩
  · simpa [rowIt, Function.comp_def] using ok.keys
  · exact List.mem_map.mpr ⟨n, hn, rfl⟩
theorem RowOK.itPerm {G T} {ns : List Nd} {kvs : List (Int × Value)} (ok : RowOK G T ns kvs) : (kvs.map fun p => (p.1, (valueAt (rowIt ns) p.1).getD .none)).Perm (rowIt ns) := by
  refine (ok.perm.map _).trans (List.Perm.of_eq ?_)
  unfold keysOf
  rw [List.map_map]
  show List.map _ ns = List.map _ ns
  refine List.map_congr_left fun n hn => ?_
  have : (n.k, Value.ref n.a) ∈ kvs := ok.perm.mem_iff.mpr (List.mem_map.mpr ⟨n, hn, rfl⟩)
  show (n.k, (valueAt (rowIt ns) n.k).getD .none) = _
  rw [valueAt_mem (kvs := rowIt ns) (v := n.vl) (by simpa [rowIt, Function.comp_def] using ok.keys) (List.mem_map.mpr ⟨n, hn, rfl⟩)]; rfl
theorem c_items {mru lru M : Value} (C : Cx (hd.heap_39 w.params) G) (ic : BIn G c 182 cd) (lo : (D == sysModules) = false) (ok : RowOK G T ns kvs) (hz : kvs.length ≤ 1000) (hr : Rm A 5) (H : Led G s ((cd, cacheP (.ref D) mru lru M F) :: (D, idP prog w kvs) :: (seg .none ns .none ++ l)))
    (h : ∀ D' its s', (D' == sysModules) = false → its.Perm (rowIt ns) → Led G s' ((D', idP prog w its) :: (cd, cacheP (.ref D) mru lru M F) :: (D, idP prog w kvs) :: (seg .none ns .none ++ l)) → R (.ok (.ret (.ref D'))) s') : codeAny (model prog w) A (.call (.ref 121) ⟨[.ref c], []⟩) R s := by
  refine enterQ (K := hd.heap_39 w.params) (binds := [(Str.ofString "self", .ref c)]) C H hr (by k_is) (by kernel_rfl) (BindsTo.of_eq (by kernel_rfl)) rfl rfl rfl (by kernel_rfl) (by kernel_rfl) (by kernel_rfl) ?_
  intro L s₁ A' Q E hQ hr H
  refine m_cons ?_
  refine wpAny_Return_some ?_
  refine m_dcomp C (Rm.handled hr) (by rfl) (by rfl) (by rfl) (by rfl) (by rfl) (by rfl) (by decide) ?_
  repeat tm_at "go"
  have H := ‹Led G _ ((_, ivP _) :: _)›
  refine ⟨_, D, kvs, fun k _ => (valueAt (rowIt ns) k).getD .none, _, rfl, hz, Led.perm H (by tm_at "pk"), .led List.mem_cons_self, ?_, ?_⟩
  · intro k u t hm L' s₂ F' hF H
    obtain ⟨n, hn, rfl, rfl, hv⟩ := ok.itm hm
    obtain ⟨pv', nk, hs⟩ := seg_at (pv := .none) (nx := .none) hn
    have on := ok.nodes n hn
    have in_ := on.inst
    have hvl := on.hv
    have hmem : (n.d, nodeP pv' nk n.ky n.vl n.cl) ∈ ((L', nsP (lk [(Str.ofString "k", Value.int n.k t), (Str.ofString "n", Value.ref n.a)])) :: F') := List.mem_cons_of_mem _ (hF _ (by simp [hs]))
    have hpo : Io G ((L', nsP (lk [(Str.ofString "k", Value.int n.k t), (Str.ofString "n", Value.ref n.a)])) :: F') n.a 46 n.d := .base in_
    have hpo2 := Po.led (G := G) hmem
    tm_at "go"
    refine ⟨t, rfl, H, ?_⟩
    repeat tm_at "go"
    refine ⟨by show _ = (valueAt (rowIt ns) n.k).getD .none; rw [hv]; rfl, by with_reducible assumption⟩
  · intro D' s₂ lo' H
    repeat tm_at "go"
    have H1 : Led G s₂ ((L, nsP (lk [(Str.ofString "self", .ref c)])) :: (D', idP prog w (kvs.map fun p => (p.1, (valueAt (rowIt ns) p.1).getD .none))) :: (cd, cacheP (.ref D) mru lru M F) :: (D, idP prog w kvs) :: (seg .none ns .none ++ l)) := Led.perm (H.drop (.tl (.tl .hd)) (.refl _)) (by tm_at "pk")
    exact h _ _ _ lo' ok.itPerm H1.tl
end
end
section
variable {M : Model} {prog : Program} {w : World} {A : Around} {E : Value → Shared → Prop} {s : Shared} {G : Gh} {l l' : List (Addr × HP)} {K : Frag} {env : Env} {D L T : Addr} {xs ys : List Value}
/-- a def entered whose one cell is empty -/
theorem enterC0 {R : Result → Shared → Prop} {name qual : Str} {params : Arguments} {body : List Stmt} {scope : Scope} {dV kV doc pm cdv ct oc : Value} {an od : Option Addr} {osl : Array (Option Value)} {f : Addr} {vals : List Value} {binds vars : List (Str × Value)} {x : Str}
    {n : Nat} (C : Cx K G) (H : Led G s l) (hr : Rm A (n + 1))
    (ho : K.lookup f = some ⟨oc, od, .func (fnOf name qual params body scope dV kV doc pm an cdv ct), osl⟩) (hcd : codeIn K cdv qual = true)
    (hbind : bindArgs (fnOf name qual params body scope dV kV doc pm an cdv ct) ⟨vals, []⟩ = pure binds)
    (hco : scope.isCoroutine = false) (hgen : scope.isGenerator = false) (hk : scope.kind = .function)
    (hcells : ∀ n, cellsFrom n scope.names [] = [(x, n)]) (hkind : (binds.all fun y => scope.names.lookup y.1 == some .local || (scope.names.lookup y.1 == some .cell && y.1 == x)) = true)
    (hvars : ∀ L, bindL (envX qual scope L f cdv [(x, L + 1)]).kindOf binds (fun _ => none) = lk vars) (hv : ∀ L, bindC (envX qual scope L f cdv [(x, L + 1)]).kindOf binds (fun _ => none) x = none)
    (h : ∀ L c s', Rm (A.deeper (envX qual scope L f cdv [(x, c)])) n → Led G s' ((L, nsP (lk vars)) :: (c, ceP none) :: l) →
      wpAny (model prog w) (A.deeper (envX qual scope L f cdv [(x, c)])) (execs body (envX qual scope L f cdv [(x, c)])) (fun fl s' => R (.ok (.ret (match fl with | .ret v => v | _ => .none))) s') (fun _ _ => False) s') :
    codeAny (model prog w) A (.call (.ref f) ⟨vals, []⟩) R s := by
  refine codeAny_call_cells (fd := fnOf name qual params body scope dV kV doc pm an cdv ct) (body := body) (binds := binds) hr.room ((C.K H) _ _ ho) rfl (C.lim H) (codeRec_of (C.K H) hcd) rfl hbind rfl (fun y hy => ?_) (fun s₁ IC => ?_) hco hgen hk
  · have := List.all_eq_true.mp hkind y hy
    simp only [Bool.or_eq_true, beq_iff_eq, Bool.and_eq_true] at this
    rcases this with e | ⟨e, e2⟩
    · exact .inl e
    · refine .inr ⟨e, ?_⟩
      rw [hcells, e2]
      simp
  · have he : callEnvC (fnOf name qual params body scope dV kV doc pm an cdv ct) s.heap.objs.size f = envX qual scope s.heap.objs.size f cdv [(x, s.heap.objs.size + 1)] := by
      unfold callEnvC envX newEnv
      simp only [hcells]
    rw [he] at IC ⊢
    have hns := IC.toInCall.ns
    have hcell := IC.cell x (s.heap.objs.size + 1) (by simp)
    have hkeep := IC.toInCall.keep
    obtain ⟨h₁, tk, rfl⟩ := IC.toInCall.same
    rw [hv] at hcell
    have e2 : bindL (envX qual scope s.heap.objs.size f cdv [(x, s.heap.objs.size + 1)]).kindOf binds (fun _ => none) = lk vars := hvars _
    rw [e2] at hns
    refine wpAny_mono (h s.heap.objs.size (s.heap.objs.size + 1) _ hr.deeper (H.two C (tk := tk) hkeep ?_ (Nat.lt_succ_self _) ?_)) (fun _ _ q => q) fun _ _ q => q.elim
    · obtain ⟨o, es, ep, e, hd, hsk, hf⟩ := hns
      exact ⟨o, e, es, ep, hd, hsk, hf⟩
    · obtain ⟨o, e, hd⟩ := hcell
      exact ⟨o, e, hd⟩
/-- a name that lies in a cell, stored -/
theorem x_cstore {name : Str} {scope : Scope} {L a c : Addr} {cd : Value} {cl : List (Str × Addr)} {x : Str} {v : Value} {v₀ : Option Value} {Q : Unit → Shared → Prop} (H : Led G s l) (r : Rep c (ceP v₀) (ceP (some v)) l l') (h : ∀ s', Led G s' l' → Q () s')
    (hk : scope.kind = .function) (hx : (envX name scope L a cd cl).kindOf x = some .cell) (hc : cl.lookup x = some c) : wpAny M A (storeName (envX name scope L a cd cl) x v) Q E s := by
  obtain ⟨o, e, q⟩ := H.get r.mem
  refine wpAny_storeName_cell (env := envX name scope L a cd cl) hk hx hc ⟨o, e, q⟩ fun h' hc' hs' => ?_
  obtain ⟨o', e', q'⟩ := hc'
  exact h _ (H.upd (tk := s.toks) r hs' ⟨o', e', q'⟩)
/-- for over a range, the base growing -/
theorem m_forG {x : Str} {px pos : Pos} {iter : Expr} {body : List Stmt} {Q : Flow → Shared → Prop} (J : Nat → Gh → List (Addr × HP) → Prop) (C : Cx K G) (hh : A.handled = none)
    (h : wpAny (model prog w) A (eval iter env) (fun xv s₁ => ∃ r n t l, xv = .ref r ∧ n ≤ 1000 ∧ Led G s₁ ((r, fun o => ∃ u v, o = { cls := .type "range", data := .fields #[.int 0 u, .int (n : Nat) t, .int 1 v] }) :: l) ∧ J 0 G l ∧
      (∀ i t G₂ l₂ s₂ F, i < n → G.le G₂ → J i G₂ l₂ → Led G₂ s₂ (F :: l₂) → wpAny (model prog w) A (storeName env x (.int (i : Nat) t)) (fun _ s₃ => wpAny (model prog w) A (execs body env) (fun f s₄ => f = .next ∧ ∃ G₃ l₃, G₂.le G₃ ∧ J (i + 1) G₃ l₃ ∧ Led G₃ s₄ (F :: l₃))
         (fun _ _ => False) s₃) (fun _ _ => False) s₂) ∧
      (∀ G₂ l₂ s₂, G.le G₂ → J n G₂ l₂ → Led G₂ s₂ l₂ → Q .next s₂)) E s) (hs : ∀ x, foldedSetIterable iter env x = pure x := by intro _; rfl) (ht : ∀ it v, letOwnedTupleGo (.Name x px) it v = pure () := by intro _ _; rfl) :
    wpAny (model prog w) A (exec (.For (.Name x px) iter body [] pos) env) Q E s := by
  refine wpAny_For (wpAny_mono h (fun xv s₁ h₁ => ?_) fun _ _ e => e) hs
  obtain ⟨r, n, t, l, rfl, hn, H, h0, turn, fin⟩ := h₁
  obtain ⟨_, e, u, v, rfl⟩ := H.get List.mem_cons_self
  have hsz : Builtin.Range.rangeSize 0 n 1 = ((n : Nat) : Int) := by rw [PyProof.Rows.rangeSize_nat]; omega
  refine wpAny_pyIter_range (a := 0) (b := n) (c := 1) e (by unfold Builtin.Range.small; rw [hsz]; simp [Builtin.Range.rangeFitsLong]; omega) ?_
  have H2 := H.alloc (tk := s₁.toks) (o := { cls := .type "range_iterator", data := .fields #[rawInt 0, rawInt (Builtin.Range.rangeSize 0 n 1), rawInt 1] }) (P := rgP n 0) rfl (by rw [hsz]; show _ = _; simp)
  generalize hI : s₁.heap.objs.size = I at H2 ⊢
  refine codeAny_forLoop_any (fun k s' => ∃ i G₂ l₂, i ≤ n ∧ k = n + 1 - i ∧ G.le G₂ ∧ J i G₂ l₂ ∧ Led G₂ s' ((I, rgP n i) :: l₂)) ?_ (n + 1) ⟨0, G, l, Nat.zero_le _, rfl, ⟨fun _ _ e => e, rfl, rfl, rfl⟩, h0, (H2.perm (.swap ..)).tl⟩
  rintro k s' ⟨i, G₂, l₂, hi, rfl, hG, hJ, H'⟩
  have C2 : Cx K G₂ := C.mono hG.base
  by_cases hlt : i < n
  · refine (Iter.range C2 hh I n).item i _ _ _ _ hlt (fun p hp => by cases hp) H' fun v s₁ hv H1 => ?_
    obtain ⟨t, rfl⟩ := hv
    refine wpAny_of_eq (ht _ _) ?_
    refine PyProof.Rows.assign_Name ?_
    refine wpAny_mono (turn i t G₂ l₂ s₁ _ hlt hG hJ H1) (fun _ s₃ h₃ => wpAny_mono h₃ (fun f s₄ h₄ => ?_) fun _ _ e => e.elim) fun _ _ e => e.elim
    obtain ⟨rfl, G₃, l₃, hG3, hJ3, H4⟩ := h₄
    exact ⟨n + 1 - (i + 1), by omega, i + 1, G₃, l₃, hlt, rfl, ⟨fun x o e => hG3.base x o (hG.base x o e), hG3.gens.trans hG.gens, hG3.drawn.trans hG.drawn, hG3.os.trans hG.os⟩, hJ3, H4⟩
  · obtain rfl : i = n := by omega
    refine (Iter.range C2 hh I i).done _ _ _ _ (fun p hp => by cases hp) H' fun s₁ H1 => ?_
    exact wpAny_execs_nil (fin G₂ l₂ s₁ hG hJ H1)
/-- a list of told tuples goes into the base -/
def BTup (G : Gh) (e : Tl) : Prop := ∃ o, G.g.get? e.a = some o ∧ tuP [.int e.k e.t, e.v] o
theorem BTup.mono {G G' : Gh} {e : Tl} (x : BTup G e) (h : G.le G') : BTup G' e := let ⟨o, q, r⟩ := x; ⟨o, h.base _ _ q, r⟩
theorem Led.promL {nw : List Tl} : ∀ {G : Gh}, Led G s (tupL nw ++ l) → ∃ G', G.le G' ∧ Led G' s l ∧ ∀ e ∈ nw, BTup G' e := by
  induction nw with
  | nil => intro G H; exact ⟨G, ⟨fun _ _ e => e, rfl, rfl, rfl⟩, H, fun _ h => by cases h⟩
  | cons e r ih =>
    intro G H
    obtain ⟨G₁, h1, H1, o, ho, hq⟩ := Led.promote (p := (e.a, tuP [.int e.k e.t, e.v])) H
    obtain ⟨G₂, h2, H2, hr⟩ := ih H1
    refine ⟨G₂, ⟨fun x o e => h2.base x o (h1.base x o e), h2.gens.trans h1.gens, h2.drawn.trans h1.drawn, h2.os.trans h1.os⟩, H2, fun x hx => ?_⟩
    rcases List.mem_cons.mp hx with rfl | hx
    · exact ⟨o, h2.base _ _ ho, hq⟩
    · exact hr x hx
/-- the table of codes of the law's lambdas -/
def tbP (ps : Array Value) : HP := fun o => o = tabObj ps
def PsOK (G : Gh) (q : Str) (pos : Pos) (ps : Array Value) : Prop := ps = #[] ∨ ∃ c', ps = #[rawInt pos.line, rawInt pos.col, .ref c'] ∧ G.g.CodeRec (.ref c') q
theorem PsOK.mono {G G' : Gh} {q : Str} {pos : Pos} {ps : Array Value} (x : PsOK G q pos ps) (h : G.le G') : PsOK G' q pos ps := x.imp id fun ⟨c, e, r⟩ => ⟨c, e, r.keeps h.base⟩
def HB (G : Gh) : Prop := ∃ mg bm ob, G.g.Ns mainGlobals mg ∧ mg "__builtins__" = some (.ref bm) ∧ bm ≠ builtinsNs ∧ bm ≠ mainGlobals ∧ G.g.get? bm = some ob ∧ ob.cls = .type "module" ∧ ob.dict = some builtinsNs ∧ ob.data = .plain
theorem HB.mono {G G' : Gh} (x : HB G) (h : G.le G') : HB G' := let ⟨mg, bm, ob, a, b, c, d, e, r⟩ := x; ⟨mg, bm, ob, a.keeps h.base, b, c, d, h.base _ _ e, r⟩
theorem x_lam {name : Str} {scope lsc : Scope} {params : Arguments} {pos : Pos} {c a ce P : Addr} {p1 p2 p3 p4 p5 p6 : Pos} {k : Nat} {ps : Array Value} {Q : Value → Shared → Prop} (C : Cx K G) (hB : HB G) (H : Led G s ((P, tbP ps) :: l)) (hcd : codeHdIn K c P = true) (hps : PsOK G ((name ++ ".<locals>.") ++ "<lambda>") pos ps)
    (hdef : defaultsOf params (envX name scope L a (.ref c) [(Str.ofString "told", ce)]) = ([], []))
    (hcl : closureFor lsc (envX name scope L a (.ref c) [(Str.ofString "told", ce)]) = pure [(Str.ofString "told", ce)]) (hce : ∃ o, G.g.get? ce = some o ∧ o.data = .cell (some (.ref T)))
    (h4 : (p2.endLine == p6.line) = true) (h5 : lsc.kind = .function) (h6 : lsc.isCoroutine = false) (h7 : lsc.isGenerator = false) (h8 : lsc.names.lookup (Str.ofString "told") = some .free) (h9 : lsc.names.lookup (Str.ofString "one") = some .local) (h10 : lsc.names.lookup (Str.ofString "two") = some .local)
    (h11 : (lsc.names.all fun x => x.2 != .cell) = true)
    (h12 : ∀ pm c' ctv x y, bindArgs (kla_fn (Str.ofString "<lambda>") ((name ++ ".<locals>.") ++ "<lambda>") params (.Call (.Attribute (.Name (Str.ofString "told") p1) (Str.ofString "append") p2) [.Tuple [.Name (Str.ofString "one") p3, .Name (Str.ofString "two") p4] k p5] [] p6) lsc [(Str.ofString "told", ce)] pm (.ref c') ctv) ⟨[x, y], []⟩ = pure [(Str.ofString "one", x), (Str.ofString "two", y)])
    (h : ∀ G' ps' f s', G.le G' → PsOK G' ((name ++ ".<locals>.") ++ "<lambda>") pos ps' → TellFn G' f T → Led G' s' ((P, tbP ps') :: l) → Q (.ref f) s') :
    wpAny M A (eval (.Lambda params (.Call (.Attribute (.Name (Str.ofString "told") p1) (Str.ofString "append") p2) [.Tuple [.Name (Str.ofString "one") p3, .Name (Str.ofString "two") p4] k p5] [] p6) lsc pos) (envX name scope L a (.ref c) [(Str.ofString "told", ce)])) Q E s := by
  refine kla_eval hdef ?_
  obtain ⟨mg, bm, ob, b0, b1, b2, b3, b4, b5, b6, b7⟩ := hB
  have hPn := H.fresh (a := P) List.mem_cons_self
  have hgP : mainGlobals ≠ P := fun q => by
    obtain ⟨o, _, _, e, _⟩ := b0
    rw [q, hPn] at e; cases e
  have hbP : bm ≠ P := fun q => by rw [q, hPn] at b4; cases b4
  obtain ⟨_, hP, rfl⟩ := H.get List.mem_cons_self
  have X := C.K H
  have CH := codeHd_of_K X hcd
  have hBa : s.heap.BuiltinsAt mg P := ⟨bm, ob, b1, b2, b3, hbP, H.keep _ _ b4, b5, b6, b7⟩
  have tell : ∀ {G' : Gh} {f c' : Addr} {pm ctv : Value}, G.le G' → G'.g.CodeRec (.ref c') ((name ++ ".<locals>.") ++ "<lambda>") → G'.g.get? f = some (kla_obj (Str.ofString "<lambda>") ((name ++ ".<locals>.") ++ "<lambda>") params _ lsc [(Str.ofString "told", ce)] pm c' ctv) → TellFn G' f T := fun {G' f c' pm ctv} hG hc hf =>
    ⟨_, params, _, lsc, pm, c', ctv, ce, p1, p2, p3, p4, p5, p6, k, hf, hc, let ⟨o, e, q⟩ := hce; ⟨o, hG.base _ _ e, q⟩, rfl, h4, h5, h6, h7, h8, h9, h10, h11, h12 pm c' ctv⟩
  rcases hps with rfl | ⟨c', rfl, hcr⟩
  · refine kla_makeFunction (mg := mg) hcl rfl (b0.keeps H.keep) rfl CH hP trivial rfl hgP hBa fun c' ctv h' tk hx hge hlt hrec htb => ?_
    have H1 : Led G { s with heap := h', toks := tk } ((P, tbP #[rawInt pos.line, rawInt pos.col, .ref c']) :: l) := H.putI C (fun b o hb e => hx b o hb e) ⟨_, htb, by show _ = _; simp⟩
    obtain ⟨_, oc, vs, t, e2, hoc, hd, hv⟩ := hrec
    cases e2
    have H2 : Led G { s with heap := h', toks := tk } ((c', fun o => o = oc) :: (P, tbP #[rawInt pos.line, rawInt pos.col, .ref c']) :: l) := Led.newIn H H1 rfl hge ⟨oc, hoc, rfl⟩
    obtain ⟨G₁, hG1, H3, _, ho1, rfl⟩ := H2.promote
    have H4 := H3.alloc (tk := tk) (o := kla_obj (Str.ofString "<lambda>") ((name ++ ".<locals>.") ++ "<lambda>") params (.Call (.Attribute (.Name (Str.ofString "told") p1) (Str.ofString "append") p2) [.Tuple [.Name (Str.ofString "one") p3, .Name (Str.ofString "two") p4] k p5] [] p6) lsc [(Str.ofString "told", ce)] ((mg "__name__").getD .none) c' ctv) (P := fun o => o = kla_obj (Str.ofString "<lambda>") ((name ++ ".<locals>.") ++ "<lambda>") params (.Call (.Attribute (.Name (Str.ofString "told") p1) (Str.ofString "append") p2) [.Tuple [.Name (Str.ofString "one") p3, .Name (Str.ofString "two") p4] k p5] [] p6) lsc [(Str.ofString "told", ce)] ((mg "__name__").getD .none) c' ctv) rfl rfl
    obtain ⟨G₂, hG2, H5, _, ho2, rfl⟩ := H4.promote
    have hG : G.le G₂ := ⟨fun x o e => hG2.base x o (hG1.base x o e), hG2.gens.trans hG1.gens, hG2.drawn.trans hG1.drawn, hG2.os.trans hG1.os⟩
    have hcr : G₂.g.CodeRec (.ref c') ((name ++ ".<locals>.") ++ "<lambda>") := ⟨c', _, vs, t, rfl, hG2.base _ _ ho1, hd, hv⟩
    exact h G₂ _ _ _ hG (.inr ⟨c', rfl, hcr⟩) (tell hG hcr ho2) H5
  · refine kla_makeFunctionHit (mg := mg) (cv := .ref c') hcl rfl (b0.keeps H.keep) rfl CH hP trivial (by simp [codeAmong, rawInt]) hBa fun ctv h' tk hk hsz => ?_
    have H1 : Led G { s with heap := h', toks := tk } ((P, tbP #[rawInt pos.line, rawInt pos.col, .ref c']) :: l) := H.grow C hk
    have H4 := H1.alloc (tk := tk) (o := kla_obj (Str.ofString "<lambda>") ((name ++ ".<locals>.") ++ "<lambda>") params (.Call (.Attribute (.Name (Str.ofString "told") p1) (Str.ofString "append") p2) [.Tuple [.Name (Str.ofString "one") p3, .Name (Str.ofString "two") p4] k p5] [] p6) lsc [(Str.ofString "told", ce)] ((mg "__name__").getD .none) c' ctv) (P := fun o => o = kla_obj (Str.ofString "<lambda>") ((name ++ ".<locals>.") ++ "<lambda>") params (.Call (.Attribute (.Name (Str.ofString "told") p1) (Str.ofString "append") p2) [.Tuple [.Name (Str.ofString "one") p3, .Name (Str.ofString "two") p4] k p5] [] p6) lsc [(Str.ofString "told", ce)] ((mg "__name__").getD .none) c' ctv) rfl rfl
    obtain ⟨G₂, hG2, H5, _, ho2, rfl⟩ := H4.promote
    have hcr2 := hcr.keeps hG2.base
    exact h G₂ _ _ _ hG2 (.inr ⟨c', rfl, hcr2⟩) (tell hG2 hcr2 ho2) H5
end
theorem fillLP : (PySem.Challenge.rw_kj0013_01, hd.heap_39) = (PySem.Challenge.rw_kj0013_01, hd.heap_39) := by k_fill; rfl
/-- the law's own def -/
structure FnAt (K : Frag) (f : Addr) where
  oc : Value
  od : Option Addr
  osl : Array (Option Value)
  name : Str
  qual : Str
  params : Arguments
  body : List Stmt
  scope : Scope
  dV : Value
  kV : Value
  doc : Value
  pm : Value
  an : Option Addr
  cdv : Value
  ct : Value
  at_ : K.lookup f = some ⟨oc, od, .func (fnOf name qual params body scope dV kV doc pm an cdv ct), osl⟩
def lawF (w : World) : FnAt (hd.heap_39 w.params) 243 := by
  apply FnAt.mk
  case at_ => k_is
abbrev lawE (w : World) (L ce : Addr) : Env := envX (lawF w).qual (lawF w).scope L 243 (.ref 242) [(Str.ofString "told", ce)]
def stAt : List Stmt → Nat → Stmt
  | [], _ => .Pass ⟨0, 0, 0, 0⟩
  | x :: _, 0 => x
  | _ :: r, n + 1 => stAt r n
def stBody : Stmt → List Stmt
  | .For _ _ b _ _ => b
  | .If _ b _ _ => b
  | _ => []
def stElse : Stmt → List Stmt
  | .If _ _ e _ => e
  | _ => []
def turnB (w : World) : List Stmt := stBody (stAt (lawF w).body 8)
def deedS (w : World) : Stmt := stAt (turnB w) 2
def deed4S (w : World) : Stmt := stAt (stElse (deedS w)) 0
def deed5S (w : World) : Stmt := stAt (stElse (deed4S w)) 0
def deed6S (w : World) : Stmt := stAt (stElse (deed5S w)) 0
def deed7S (w : World) : Stmt := stAt (stElse (deed6S w)) 0
def deed8S (w : World) : Stmt := stAt (stElse (deed7S w)) 0
def lamPos (w : World) : Pos := match stAt (stElse (stAt (stElse (stAt (stBody (deedS w)) 2)) 0)) 0 with
  | .Expr (.Call _ [_, _, .Lambda _ _ _ p] _ _) _ => p
  | _ => ⟨0, 0, 0, 0⟩
theorem HasL.cons {vars r : List (Str × Value)} {x : Str} {v : Value} (h : lk vars x = some v) (h2 : HasL vars r) : HasL vars ((x, v) :: r) := ⟨h, h2⟩
theorem HasL.nil {vars : List (Str × Value)} : HasL vars [] := trivial
abbrev lawV (Dst c Sz Rw Gn : Addr) : List (Str × Value) := [(Str.ofString "state", .ref Dst), (Str.ofString "cache", .ref c), (Str.ofString "sizes", .ref Sz), (Str.ofString "row", .ref Rw), (Str.ofString "gone", .ref Gn)]
/-- few keys -/
theorem few_nat : ∀ (m : Nat) (l : List Nat), l.Nodup → (∀ x ∈ l, x < m) → l.length ≤ m
  | 0, l, _, h => by
    cases l with
    | nil => simp
    | cons x r => exact absurd (h x List.mem_cons_self) (Nat.not_lt_zero _)
  | m + 1, l, hn, h => by
    by_cases hm : m ∈ l
    · have h1 := few_nat m (l.erase m) (hn.erase m) (fun x hx => by
        have h2 := (hn.mem_erase_iff).mp hx
        have := h x h2.2
        omega)
      rw [List.length_erase_of_mem hm] at h1
      omega
    · have h1 := few_nat m l hn (fun x hx => by
        have := h x hx
        have : x ≠ m := fun e => hm (e ▸ hx)
        omega)
      omega
theorem few_int {l : List Int} (hn : l.Nodup) (h : ∀ x ∈ l, 0 ≤ x ∧ x < 7) : l.length ≤ 7 := by
  have := few_nat 7 (l.map Int.toNat) ?_ ?_
  · simpa using this
  · refine List.Pairwise.map _ (R := fun a b => a ≠ b ∧ 0 ≤ a ∧ 0 ≤ b) (fun a b h => by omega) ?_
    rw [List.pairwise_iff_getElem]
    intro i j hi hj hij
    refine ⟨(List.pairwise_iff_getElem.mp hn) i j hi hj hij, (h _ (List.getElem_mem _)).1, (h _ (List.getElem_mem _)).1⟩
  · intro x hx
    obtain ⟨y, hy, rfl⟩ := List.mem_map.mp hx
    have := h y hy
    omega
/-- small sums -/
theorem ar_tn {t n B N : Nat} (h : t ≤ B) (hB : B ≤ 700) (hn : n ≤ 7) (hN : 707 ≤ N := by decide) : t + n ≤ N := by omega
theorem ar_g1 {t g e n B N : Nat} (h : t ≤ B) (tl : t = g) (el : e = n) (hB : B ≤ 700) (hn : n ≤ 7) (hN : 707 ≤ N := by decide) : g + e ≤ N := by omega
theorem ar_g2 {t g e n B N : Nat} (h : t ≤ B) (tl : t = g) (el : e = n) (hB : B ≤ 700) (hn : n ≤ 7) (hN : 714 ≤ N := by decide) : g + 2 * e ≤ N := by omega
theorem ar_len {e n N : Nat} (el : e = n) (hn : n ≤ 7) (hN : 7 ≤ N := by decide) : e ≤ N := by omega
theorem ar_lenI {e n : Nat} (el : e = n) (hn : n ≤ 7) : (e : Int) < 1000 := by omega
theorem ar_app {α : Type} {xs ys : List α} {B k : Nat} (h : xs.length ≤ B) (hw : ys.length ≤ k) : (xs ++ ys).length ≤ B + k := by rw [List.length_append]; omega
theorem ar_sub {m n f k : Nat} (hw : m ≤ n - f) (hn : n ≤ 7) (hk : 7 ≤ k := by decide) : m ≤ k := by omega
theorem ar_le {m n k : Nat} (hw : m ≤ n) (hn : n ≤ 7) (hk : 7 ≤ k := by decide) : m ≤ k := by omega
theorem ar_lt {r a b : Int} (h : r < a) (hb : a ≤ b := by decide) : r < b := by omega
theorem ar_er {es : List En} {n N : Nat} (el : es.length = n) (hn : n ≤ 7) (hN : 7 ≤ N := by decide) : (erefs es).length ≤ N := by simp only [erefs, List.length_map]; omega
theorem ar_ere {es : List En} (h : es.length ≤ 900) : (erefs es).length ≤ 1000 := by simp only [erefs, List.length_map]; omega
theorem Rm.u40 {A : Around} (hr : Rm A 40) : A.units + 40 < cLine := by have := hr.2.2; rw [show cLine = 9900 from rfl]; omega
theorem Rm.u10 {A : Around} (hr : Rm A 40) : A.units + 10 < cLine := by have := hr.2.2; rw [show cLine = 9900 from rfl]; omega
/-- the cache and the law's row -/
structure RowE (G : Gh) (T : Addr) (es : List En) (ns : List Nd) (kvs : List (Int × Value)) : Prop where
  ok : RowOK G T ns kvs
  eok : ∀ e ∈ es, EnOK G e
  eq : es.map En.e = ns.map Nd.e
  kb : ∀ n ∈ ns, 0 ≤ n.k ∧ n.k < 7
structure ToldE (G : Gh) (ts gs : List Tl) : Prop where
  tb : ∀ e ∈ ts, BTup G e
  gb : ∀ e ∈ gs, BTup G e
  pr : pairs ts = pairs gs
section
variable {prog : Program} {w : World} {A : Around} {R : Result → Shared → Prop} {s : Shared} {G G' : Gh} {l l' : List (Addr × HP)} {L ce Dst S Rw Gn Sz T c cd D : Addr} {M F : Int} {tM tF t : Tok} {kvs : List (Int × Value)} {ns : List Nd} {xs : List Value} {es : List En} {gs ts : List Tl} {outer : List Env}
  {vars : List (Str × Value)} {ps : Array Value} {X : List (Addr × HP)}
theorem RowE.mono (x : RowE G T es ns kvs) (h : G.le G') : RowE G' T es ns kvs := ⟨x.ok.mono h.base, fun e he => (x.eok e he).mono h.base, x.eq, x.kb⟩
theorem ToldE.mono (x : ToldE G ts gs) (h : G.le G') : ToldE G' ts gs := ⟨fun e he => (x.tb e he).mono h, fun e he => (x.gb e he).mono h, x.pr⟩
theorem RowE.few (x : RowE G T es ns kvs) : ns.length ≤ 7 := by
  have := few_int x.ok.keys (fun k hk => by obtain ⟨n, hn, rfl⟩ := List.mem_map.mp hk; exact x.kb n hn)
  simpa using this
theorem RowE.len (x : RowE G T es ns kvs) : es.length = ns.length := by have := congrArg List.length x.eq; simpa using this
theorem RowE.keys (x : RowE G T es ns kvs) : es.map En.k = ns.map Nd.k := by
  have := congrArg (List.map Prod.fst) x.eq
  simpa [List.map_map, Function.comp_def, En.e, Nd.e] using this
theorem ToldE.len (x : ToldE G ts gs) : ts.length = gs.length := by have := congrArg List.length x.pr; simpa [pairs] using this
theorem ToldE.app {nw nw' : List Tl} (x : ToldE G ts gs) (h1 : ∀ e ∈ nw, BTup G e) (h2 : ∀ e ∈ nw', BTup G e) (h : pairs nw = pairs nw') : ToldE G (ts ++ nw) (gs ++ nw') :=
  ⟨fun e he => (List.mem_append.mp he).elim (x.tb e) (h1 e), fun e he => (List.mem_append.mp he).elim (x.gb e) (h2 e), by rw [pairs_append, pairs_append, x.pr, h]⟩
/-- the law's things -/
abbrev lawR (L : Addr) (vars : List (Str × Value)) (ps : Array Value) (Dst S Rw : Addr) (es : List En) (Gn : Addr) (gs : List Tl) : List (Addr × HP) :=
  [(L, nsP (lk vars)), (240, tbP ps), (Dst, stP S), (Rw, liP (erefs es)), (Gn, liP (refs gs))]
abbrev lawL (prog : Program) (w : World) (L : Addr) (vars : List (Str × Value)) (ps : Array Value) (Dst S Rw : Addr) (es : List En) (Gn : Addr) (gs : List Tl) (T : Addr) (ts : List Tl) (cd D : Addr) (M : Int) (tM : Tok) (F : Int) (tF : Tok) (ns : List Nd) (kvs : List (Int × Value)) (X : List (Addr × HP)) : List (Addr × HP) :=
  (L, nsP (lk vars)) :: (240, tbP ps) :: (Dst, stP S) :: (Rw, liP (erefs es)) :: (Gn, liP (refs gs)) :: (T, liP (refs ts)) :: (cd, cacheP (.ref D) (firstR ns .none) (lastR ns .none) (.int M tM) (.int F tF)) :: (D, idP prog w kvs) :: (seg .none ns .none ++ X)
theorem lawC : (lawL prog w L vars ps Dst S Rw es Gn gs T ts cd D M tM F tF ns kvs X).Perm (cacheT prog w T (refs ts) cd D (.int M tM) (.int F tF) ns kvs (lawR L vars ps Dst S Rw es Gn gs ++ X)) := by
  have : ((lawR L vars ps Dst S Rw es Gn gs) ++ (((T, liP (refs ts)) :: (cd, cacheP (.ref D) (firstR ns .none) (lastR ns .none) (.int M tM) (.int F tF)) :: (D, idP prog w kvs) :: seg .none ns .none) ++ X)).Perm
    (((T, liP (refs ts)) :: (cd, cacheP (.ref D) (firstR ns .none) (lastR ns .none) (.int M tM) (.int F tF)) :: (D, idP prog w kvs) :: seg .none ns .none) ++ ((lawR L vars ps Dst S Rw es Gn gs) ++ X)) := List.perm_append_comm_assoc ..
  exact this
theorem lawX {p : Addr × HP} : (p :: lawL prog w L vars ps Dst S Rw es Gn gs T ts cd D M tM F tF ns kvs []).Perm (lawL prog w L vars ps Dst S Rw es Gn gs T ts cd D M tM F tF ns kvs [p]) := by
  have : (p :: ((lawR L vars ps Dst S Rw es Gn gs) ++ ((T, liP (refs ts)) :: (cd, cacheP (.ref D) (firstR ns .none) (lastR ns .none) (.int M tM) (.int F tF)) :: (D, idP prog w kvs) :: (seg .none ns .none ++ [])))).Perm
    (((lawR L vars ps Dst S Rw es Gn gs) ++ ((T, liP (refs ts)) :: (cd, cacheP (.ref D) (firstR ns .none) (lastR ns .none) (.int M tM) (.int F tF)) :: (D, idP prog w kvs) :: seg .none ns .none)) ++ [p]) := by
    rw [List.append_nil]
    exact List.perm_append_comm (l₁ := [p])
  rw [List.append_assoc] at this
  exact this
theorem Led.outC {nw : List Tl} {G : Gh} (H : Led G s (cacheT prog w T (refs ts ++ refs nw) cd D (.int M tM) (.int F tF) ns kvs (tupL nw ++ (lawR L vars ps Dst S Rw es Gn gs ++ X)))) :
    ∃ G', G.le G' ∧ (∀ e ∈ nw, BTup G' e) ∧ Led G' s (lawL prog w L vars ps Dst S Rw es Gn gs T (ts ++ nw) cd D M tM F tF ns kvs X) := by
  rw [← refs_append] at H
  have H1 : Led G s (tupL nw ++ cacheT prog w T (refs (ts ++ nw)) cd D (.int M tM) (.int F tF) ns kvs (lawR L vars ps Dst S Rw es Gn gs ++ X)) := H.perm (by
    have : ((((T, liP (refs (ts ++ nw))) :: (cd, cacheP (.ref D) (firstR ns .none) (lastR ns .none) (.int M tM) (.int F tF)) :: (D, idP prog w kvs) :: seg .none ns .none)) ++ (tupL nw ++ (lawR L vars ps Dst S Rw es Gn gs ++ X))).Perm
      (tupL nw ++ (((T, liP (refs (ts ++ nw))) :: (cd, cacheP (.ref D) (firstR ns .none) (lastR ns .none) (.int M tM) (.int F tF)) :: (D, idP prog w kvs) :: seg .none ns .none) ++ (lawR L vars ps Dst S Rw es Gn gs ++ X))) := List.perm_append_comm_assoc ..
    exact this)
  obtain ⟨G', hG, H2, hb⟩ := H1.promL
  exact ⟨G', hG, hb, H2.perm lawC.symm⟩
theorem nextM {n : Int} {t : Tok} (C : Cx (hd.heap_39 w.params) G) (hS : BInts G S) (hn : 0 < n) (hr : Rm A 5) (H : Led G s l) (hm : (Dst, stP S) ∈ l)
    (h : ∀ r t s', 0 ≤ r → r < n → Led G s' l → R (.ok (.ret (.int r t))) s') : codeAny (model prog w) A (.call (.ref 193) ⟨[.ref Dst, .int n t], []⟩) R s := by
  obtain ⟨a, b, rfl⟩ := List.append_of_mem hm
  exact c_next C hS hn hr (H.perm List.perm_middle) fun r t s' h0 h1 H' => h r t s' h0 h1 (H'.perm List.perm_middle.symm)
theorem shrunkM {Fi : Int} {tF' : Tok} (C : Cx (hd.heap_39 w.params) G) (ok : ∀ e ∈ es, EnOK G e) (hz : gs.length + es.length ≤ 900) (hF : 0 ≤ Fi) (hr : Rm A 8) (H : Led G s (lawL prog w L vars ps Dst S Rw es Gn gs T ts cd D M tM F tF ns kvs X))
    (h : ∀ G' nw s', G.le G' → pairs nw = rowTells ((es.drop Fi.toNat).map En.e).reverse → (∀ e ∈ nw, BTup G' e) → Led G' s' (lawL prog w L vars ps Dst S Rw (es.take Fi.toNat) Gn (gs ++ nw) T ts cd D M tM F tF ns kvs X) → R (.ok (.ret .none)) s') :
    codeAny (model prog w) A (.call (.ref 205) ⟨[.ref Rw, .int Fi tF', .ref Gn], []⟩) R s := by
  refine c_shrunk (xs := refs gs) C ok (by simpa [refs] using hz) hF hr (l := (L, nsP (lk vars)) :: (240, tbP ps) :: (Dst, stP S) :: cacheT prog w T (refs ts) cd D (.int M tM) (.int F tF) ns kvs X) (H.perm ?_) fun nw s' hp H' => ?_
  · show List.Perm (_ :: _ :: _ :: _ :: _ :: cacheT prog w T (refs ts) cd D (.int M tM) (.int F tF) ns kvs X) _
    exact pick (.tl (.tl (.tl .hd))) (pick (.tl (.tl (.tl .hd))) (.refl _))
  · rw [← refs_append] at H'
    obtain ⟨G', hG, H2, hb⟩ := Led.promL (H'.perm (show List.Perm (_ :: _ :: (tupL nw ++ _)) (tupL nw ++ _) from (List.perm_append_comm_assoc [(Rw, liP (erefs (es.take Fi.toNat))), (Gn, liP (refs (gs ++ nw)))] (tupL nw) _)))
    refine h G' nw s' hG hp hb (H2.perm ?_)
    show List.Perm (_ :: _ :: _ :: _ :: _ :: cacheT prog w T (refs ts) cd D (.int M tM) (.int F tF) ns kvs X) (_ :: _ :: _ :: _ :: _ :: cacheT prog w T (refs ts) cd D (.int M tM) (.int F tF) ns kvs X)
    exact pick (.tl (.tl .hd)) (pick (.tl (.tl .hd)) (pick (.tl (.tl .hd)) (.refl _)))
theorem cleanupM (C : Cx (hd.heap_39 w.params) G) (ic : BIn G c 182 cd) (lo : (D == sysModules) = false) (ok : RowOK G T ns kvs) (hz : ts.length + ns.length ≤ 900) (hF : 0 ≤ F) (hr : Rm A 25) (H : Led G s (lawL prog w L vars ps Dst S Rw es Gn gs T ts cd D M tM F tF ns kvs X))
    (h : ∀ G' nw kvs' s', G.le G' → pairs nw = tells (ns.drop F.toNat).reverse → RowOK G' T (ns.take F.toNat) kvs' → (∀ e ∈ nw, BTup G' e) → Led G' s' (lawL prog w L vars ps Dst S Rw es Gn gs T (ts ++ nw) cd D M tM F tF (ns.take F.toNat) kvs' X) → R (.ok (.ret .none)) s') :
    codeAny (model prog w) A (.call (.ref 128) ⟨[.ref c], []⟩) R s := by
  refine c_cleanup (xs := refs ts) C ic lo ok (by simpa [refs] using hz) hF hr (H.perm lawC) fun nw kvs' s' hp ok' H' => ?_
  obtain ⟨G', hG, hb, H2⟩ := H'.outC
  exact h G' nw kvs' s' hG hp (ok'.mono hG.base) hb H2
theorem clearM (C : Cx (hd.heap_39 w.params) G) (ic : BIn G c 182 cd) (lo : (D == sysModules) = false) (ok : RowOK G T ns kvs) (hz : ts.length + ns.length ≤ 900) (hr : Rm A 25) (H : Led G s (lawL prog w L vars ps Dst S Rw es Gn gs T ts cd D M tM F tF ns kvs X))
    (h : ∀ G' nw kvs' s', G.le G' → pairs nw = tells ns.reverse → RowOK G' T [] kvs' → (∀ e ∈ nw, BTup G' e) → Led G' s' (lawL prog w L vars ps Dst S Rw es Gn gs T (ts ++ nw) cd D M tM F tF [] kvs' X) → R (.ok (.ret .none)) s') :
    codeAny (model prog w) A (.call (.ref 163) ⟨[.ref c], []⟩) R s := by
  refine c_clear (xs := refs ts) C ic lo ok (by simpa [refs] using hz) hr (H.perm lawC) fun nw kvs' s' hp ok' H' => ?_
  obtain ⟨G', hG, hb, H2⟩ := H'.outC
  exact h G' nw kvs' s' hG hp (ok'.mono hG.base) hb H2
theorem resizeM {m : Int} {tm ta : Tok} {la : Option Int} (C : Cx (hd.heap_39 w.params) G) (ic : BIn G c 182 cd) (lo : (D == sysModules) = false) (ok : RowOK G T ns kvs) (hz : ts.length + ns.length ≤ 900) (hm : 0 ≤ m) (hla : ∀ a, la = some a → 0 ≤ a) (hr : Rm A 31)
    (H : Led G s (lawL prog w L vars ps Dst S Rw es Gn gs T ts cd D M tM F tF ns kvs X))
    (h : ∀ tF' G' nw kvs' s', G.le G' → pairs nw = tells (ns.drop (sizeF m la).toNat).reverse → RowOK G' T (ns.take (sizeF m la).toNat) kvs' → (∀ e ∈ nw, BTup G' e) →
      Led G' s' (lawL prog w L vars ps Dst S Rw es Gn gs T (ts ++ nw) cd D m tm (sizeF m la) tF' (ns.take (sizeF m la).toNat) kvs' X) → R (.ok (.ret .none)) s') :
    codeAny (model prog w) A (.call (.ref 171) ⟨[.ref c, .int m tm, leV la ta], []⟩) R s := by
  refine c_resize (xs := refs ts) C ic lo ok (by simpa [refs] using hz) hm hla hr (H.perm lawC) fun tF' nw kvs' s' hp ok' H' => ?_
  obtain ⟨G', hG, hb, H2⟩ := H'.outC
  exact h tF' G' nw kvs' s' hG hp (ok'.mono hG.base) hb H2
theorem setM {k : Int} {v : Value} (C : Cx (hd.heap_39 w.params) G) (ic : BIn G c 182 cd) (lo : (D == sysModules) = false) (ok : RowOK G T ns kvs) (hz : ts.length + ns.length ≤ 800) (hF : 0 ≤ F) (hv : handedIn v = true) (hr : Rm A 31)
    (H : Led G s (lawL prog w L vars ps Dst S Rw es Gn gs T ts cd D M tM F tF ns kvs X))
    (h : ∀ G' nw ns' kvs' s', G.le G' → RowOK G' T ns' kvs' → (ns'.map Nd.e, pairs nw) = rowPut (ns.map Nd.e) k v false M F → (∀ e ∈ nw, BTup G' e) →
      Led G' s' (lawL prog w L vars ps Dst S Rw es Gn gs T (ts ++ nw) cd D M tM F tF ns' kvs' X) → R (.ok (.ret .none)) s') :
    codeAny (model prog w) A (.call (.ref 135) ⟨[.ref c, .int k t, v], []⟩) R s := by
  refine c_setitem (xs := refs ts) C ic lo ok (by simpa [refs] using hz) hF hv hr (H.perm lawC) fun G1 nw ns' kvs' s' hG1 ok' hp H' => ?_
  obtain ⟨G', hG, hb, H2⟩ := H'.outC
  exact h G' nw ns' kvs' s' (hG1.trans hG) (ok'.mono hG.base) hp hb H2
theorem addM {k : Int} {v cl : Value} {args : Args} (C : Cx (hd.heap_39 w.params) G) (ic : BIn G c 182 cd) (lo : (D == sysModules) = false) (ok : RowOK G T ns kvs) (hz : ts.length + ns.length ≤ 800) (hF : 0 ≤ F) (hv : handedIn v = true)
    (hcl : cl = .none ∨ ∃ f, cl = .ref f ∧ TellFn G f T) (hb : AddArgs w args c (.int k t) v cl) (hr : Rm A 30)
    (H : Led G s (lawL prog w L vars ps Dst S Rw es Gn gs T ts cd D M tM F tF ns kvs X))
    (h : ∀ G' nw ns' kvs' s', G.le G' → RowOK G' T ns' kvs' → (ns'.map Nd.e, pairs nw) = rowPut (ns.map Nd.e) k v (cl != .none) M F → (∀ e ∈ nw, BTup G' e) →
      Led G' s' (lawL prog w L vars ps Dst S Rw es Gn gs T (ts ++ nw) cd D M tM F tF ns' kvs' X) → R (.ok (.ret .none)) s') :
    codeAny (model prog w) A (.call (.ref 94) args) R s := by
  refine c_add (xs := refs ts) C ic lo ok (by simpa [refs] using hz) hF hv hcl hb hr (H.perm lawC) fun G1 nw ns' kvs' s' hG1 ok' hp H' => ?_
  obtain ⟨G', hG, hb, H2⟩ := H'.outC
  exact h G' nw ns' kvs' s' (hG1.trans hG) (ok'.mono hG.base) hp hb H2
theorem putM {k : Int} {tM' tF' : Tok} {v : Value} {b : Bool} (C : Cx (hd.heap_39 w.params) G) (ok : ∀ e ∈ es, EnOK G e) (hk : (es.map En.k).Nodup) (hz : gs.length + 2 * es.length ≤ 800) (hF : 0 ≤ F) (hv : VOK G v)
    (hS : ∃ o, G.g.get? Sz = some o ∧ tuP [.int M tM', .int F tF'] o) (hr : Rm A 20) (H : Led G s (lawL prog w L vars ps Dst S Rw es Gn gs T ts cd D M tM F tF ns kvs X))
    (h : ∀ G' nw es' s', G.le G' → (∀ e ∈ es', EnOK G' e) → (es'.map En.e, pairs nw) = rowPut (es.map En.e) k v b M F → (∀ e ∈ nw, BTup G' e) →
      Led G' s' (lawL prog w L vars ps Dst S Rw es' Gn (gs ++ nw) T ts cd D M tM F tF ns kvs X) → R (.ok (.ret .none)) s') :
    codeAny (model prog w) A (.call (.ref 224) ⟨[.ref Rw, .int k t, v, .bool b, .ref Sz, .ref Gn], []⟩) R s := by
  refine c_put (xs := refs gs) C ok hk (by simpa [refs] using hz) hF hv hS hr (l := (L, nsP (lk vars)) :: (240, tbP ps) :: (Dst, stP S) :: cacheT prog w T (refs ts) cd D (.int M tM) (.int F tF) ns kvs X) (H.perm ?_) fun G1 nw es' s' hG1 ok' hp H' => ?_
  · show List.Perm (_ :: _ :: _ :: _ :: _ :: cacheT prog w T (refs ts) cd D (.int M tM) (.int F tF) ns kvs X) _
    exact pick (.tl (.tl (.tl .hd))) (pick (.tl (.tl (.tl .hd))) (.refl _))
  · rw [← refs_append] at H'
    obtain ⟨G', hG, H2, hb⟩ := Led.promL (H'.perm (show List.Perm (_ :: _ :: (tupL nw ++ _)) (tupL nw ++ _) from (List.perm_append_comm_assoc [(Rw, liP (erefs es')), (Gn, liP (refs (gs ++ nw)))] (tupL nw) _)))
    refine h G' nw es' s' (hG1.trans hG) (fun e he => (ok' e he).mono hG.base) hp hb (H2.perm ?_)
    show List.Perm (_ :: _ :: _ :: _ :: _ :: cacheT prog w T (refs ts) cd D (.int M tM) (.int F tF) ns kvs X) (_ :: _ :: _ :: _ :: _ :: cacheT prog w T (refs ts) cd D (.int M tM) (.int F tF) ns kvs X)
    exact pick (.tl (.tl .hd)) (pick (.tl (.tl .hd)) (pick (.tl (.tl .hd)) (.refl _)))
end
theorem fill18 : (PySem.Challenge.rw_kj0013_01, hd.heap_39) = (PySem.Challenge.rw_kj0013_01, hd.heap_39) := by k_fill; rfl
/-- what stays as it is -/
structure Fx (w : World) (G : Gh) (c cd S T ce : Addr) : Prop where
  C : Cx (hd.heap_39 w.params) G
  ic : BIn G c 182 cd
  bS : BInts G S
  hce : ∃ o, G.g.get? ce = some o ∧ ceP (some (.ref T)) o
  hB : HB G
theorem Fx.mono {w : World} {G G' : Gh} {c cd S T ce : Addr} (x : Fx w G c cd S T ce) (h : G.le G') : Fx w G' c cd S T ce :=
  ⟨x.C.le h, h.base _ _ x.ic, let ⟨xs, ⟨o, q, r⟩, a, b⟩ := x.bS; ⟨xs, ⟨o, h.base _ _ q, r⟩, a, b⟩, let ⟨o, q, r⟩ := x.hce; ⟨o, h.base _ _ q, r⟩, x.hB.mono h⟩
def SzOK (G : Gh) (Sz : Addr) (M F : Int) : Prop := ∃ tM tF o, G.g.get? Sz = some o ∧ tuP [.int M tM, .int F tF] o
theorem SzOK.mono {G G' : Gh} {Sz : Addr} {M F : Int} (x : SzOK G Sz M F) (h : G.le G') : SzOK G' Sz M F := let ⟨a, b, o, q, r⟩ := x; ⟨a, b, o, h.base _ _ q, r⟩
def lawQ : Str := (Str.ofString "law" ++ Str.ofString ".<locals>.") ++ Str.ofString "<lambda>"
/-- between two statements of the loop -/
inductive Inv (prog : Program) (w : World) (L Dst S Rw Gn T c cd D : Addr) (X : List (Addr × HP)) (extra : List (Str × Value)) (B : Nat) (G : Gh) (s : Shared) : Prop
  | intro (vars : List (Str × Value)) (ps : Array Value) (es : List En) (gs ts : List Tl) (M : Int) (tM : Tok) (F : Int) (tF : Tok) (ns : List Nd) (kvs : List (Int × Value)) (Sz : Addr)
    (row : RowE G T es ns kvs) (tol : ToldE G ts gs) (hts : ts.length ≤ B) (hF : 0 ≤ F) (hps : PsOK G lawQ (lamPos w) ps) (hSz : SzOK G Sz M F)
    (H : Led G s (lawL prog w L ((Str.ofString "state", .ref Dst) :: (Str.ofString "cache", .ref c) :: (Str.ofString "sizes", .ref Sz) :: (Str.ofString "row", .ref Rw) :: (Str.ofString "gone", .ref Gn) :: (extra ++ vars)) ps Dst S Rw es Gn gs T ts cd D M tM F tF ns kvs X)) :
    Inv prog w L Dst S Rw Gn T c cd D X extra B G s
section
variable {Q : Flow → Shared → Prop} {prog : Program} {w : World} {A : Around} {E : Value → Shared → Prop} {R : Result → Shared → Prop} {s : Shared} {G G' : Gh} {l l' : List (Addr × HP)} {L ce Dst S Rw Gn Sz T c cd D : Addr} {t tk : Tok} {k : Int} {B : Nat} {outer : List Env} {X : List (Addr × HP)}
theorem nw_len {nw : List Tl} {ns : List Nd} (h : pairs nw = Mine.tells ns) : nw.length ≤ ns.length := by
  have h1 := congrArg List.length h
  have h2 : (Mine.tells ns).length ≤ ns.length := by simp only [Mine.tells, List.length_map]; exact List.length_filter_le _ _
  simp only [pairs, List.length_map] at h1
  omega
theorem RowE.cut {G T es ns kvs kvs'} (x : RowE G T es ns kvs) (f : Nat) (ok : RowOK G T (ns.take f) kvs') : RowE G T (es.take f) (ns.take f) kvs' :=
  ⟨ok, fun e he => x.eok e (List.mem_of_mem_take he), by rw [List.map_take, List.map_take, x.eq], fun n hn => x.kb n (List.mem_of_mem_take hn)⟩
theorem RowE.tells {G T es ns kvs} (x : RowE G T es ns kvs) (f : Nat) : Mine.tells (ns.drop f).reverse = rowTells ((es.drop f).map En.e).reverse := by
  rw [tells_row, List.map_reverse, List.map_drop, List.map_drop, x.eq]
theorem deed6 (fx : Fx w G c cd S T ce) (lo : (D == sysModules) = false) (hr : Rm A 40) (hB : B ≤ 700) (I : Inv prog w L Dst S Rw Gn T c cd D X [(Str.ofString "key", .int k tk)] B G s)
    (h : ∀ G' s', G.le G' → Inv prog w L Dst S Rw Gn T c cd D X [(Str.ofString "key", .int k tk)] (B + 9) G' s' → Q .next s') : wpAny (model prog w) A (execs (stBody (deed6S w)) (lawE w L ce)) Q E s := by
  obtain ⟨vars, ps, es, gs, ts, M, tM, F, tF, ns, kvs, Sz, row, tol, hts, hF, hps, hSz, H⟩ := I
  dsimp only [deed6S, deed5S, deed4S, deedS, turnB, stBody, stAt, stElse, lawE, lawF]
  have fx' := fx
  obtain ⟨C, ic, bS, hce, hBB⟩ := fx'
  have few := row.few
  have len := row.len
  have tlen := tol.len
  repeat tm_at "go"
  refine wpAny_call (cleanupM C ic lo row.ok (ar_tn hts hB few) hF (Rm.le hr (by decide)) H fun G1 nw kvs' s1 hG hp ok' hb H1 => ?_)
  obtain ⟨C, ic, bS, hce, hBB⟩ := fx.mono hG
  obtain ⟨tM', tF', hS⟩ := hSz.mono hG
  repeat tm_at "go"
  refine wpAny_call (shrunkM (gs := gs) C (fun e he => (row.eok e he).mono hG.base) (ar_g1 hts tlen len hB few) hF (Rm.le hr (by decide)) ‹Led G1 _ _› fun G2 nw2 s2 hG2 hp2 hb2 H2 => ?_)
  repeat tm_at "go"
  have hw := nw_len hp
  rw [List.length_reverse, List.length_drop] at hw
  refine h G2 _ (hG.trans hG2) ⟨vars, ps, es.take F.toNat, gs ++ nw2, ts ++ nw, M, tM, F, tF, ns.take F.toNat, kvs', Sz, ?_, ?_, ?_, hF, (hps.mono hG).mono hG2, (hSz.mono hG).mono hG2, H2⟩
  · exact ((row.mono hG).cut _ ok').mono hG2
  · exact ((tol.mono hG).mono hG2).app (fun e he => (hb e he).mono hG2) hb2 (by rw [hp, hp2, row.tells])
  · exact ar_app hts (ar_sub hw few)
end
local macro_rules | `(tactic| tm_at "user") => `(tactic| ((with_reducible show wpAny _ _ (call (Value.ref 193) _ _) _ _ _); refine wpAny_call (nextM (by with_reducible assumption) (by with_reducible assumption) (by decide) (Rm.le (by with_reducible assumption) (by decide)) (by with_reducible assumption) (by tm_at "mm") ?_); intro _ _ _ _ _ _))
local macro_rules | `(tactic| tm_at "hasl") => `(tactic| first | (with_reducible exact HasL.nil) | ((with_reducible refine HasL.cons ?_ ?_); (tm_at "lk"); (tm_at "hasl")))
local macro_rules | `(tactic| tm_at "inv") => `(tactic| (simp only [lawV, List.cons_append, List.nil_append]; tm_at "hasl"))
local macro_rules | `(tactic| tm_at "go2") => `(tactic| first | with_reducible refine t_or_nil ?_ | with_reducible refine t_or ?_ | with_reducible refine t_not ?_ | with_reducible refine e_and1 ?_ | with_reducible refine e_and ?_)
theorem fill19 : (PySem.Challenge.rw_kj0013_01, hd.heap_39) = (PySem.Challenge.rw_kj0013_01, hd.heap_39) := by k_fill; rfl
section
variable {Q : Flow → Shared → Prop} {prog : Program} {w : World} {A : Around} {E : Value → Shared → Prop} {R : Result → Shared → Prop} {s : Shared} {G G' : Gh} {l l' : List (Addr × HP)} {L ce Dst S Rw Gn Sz T c cd D : Addr} {t tk : Tok} {k : Int} {B : Nat} {outer : List Env} {X : List (Addr × HP)}
theorem Inv.mk {vars ps es gs ts M tM F tF ns kvs extra} (row : RowE G T es ns kvs) (tol : ToldE G ts gs) (hts : ts.length ≤ B) (hF : 0 ≤ F) (hps : PsOK G lawQ (lamPos w) ps) (hSz : SzOK G Sz M F) (H : Led G s (lawL prog w L vars ps Dst S Rw es Gn gs T ts cd D M tM F tF ns kvs X))
    (hv : HasL vars (lawV Dst c Sz Rw Gn ++ extra)) : Inv prog w L Dst S Rw Gn T c cd D X extra B G s := by
  have H1 := Led.pres _ H hv
  rw [List.append_assoc] at H1
  exact ⟨vars, ps, es, gs, ts, M, tM, F, tF, ns, kvs, Sz, row, tol, hts, hF, hps, hSz, H1⟩
theorem deed8 (fx : Fx w G c cd S T ce) (lo : (D == sysModules) = false) (hr : Rm A 40) (hB : B ≤ 700) (I : Inv prog w L Dst S Rw Gn T c cd D X [(Str.ofString "key", .int k tk)] B G s)
    (h : ∀ G' s', G.le G' → Inv prog w L Dst S Rw Gn T c cd D X [(Str.ofString "key", .int k tk)] (B + 16) G' s' → Q .next s') : wpAny (model prog w) A (execs (stBody (deed8S w)) (lawE w L ce)) Q E s := by
  obtain ⟨vars, ps, es, gs, ts, M, tM, F, tF, ns, kvs, Sz, row, tol, hts, hF, hps, hSz, H⟩ := I
  dsimp only [deed8S, deed7S, deed6S, deed5S, deed4S, deedS, turnB, stBody, stAt, stElse, lawE, lawF]
  have fx' := fx
  obtain ⟨C, ic, bS, hce, hBB⟩ := fx'
  have few := row.few
  have len := row.len
  have tlen := tol.len
  repeat tm_at "go"
  refine wpAny_call (clearM C ic lo row.ok (ar_tn hts hB few) (Rm.le hr (by decide)) H fun G1 nw kvs' s1 hG hp ok' hb H1 => ?_)
  obtain ⟨C, ic, bS, hce, hBB⟩ := fx.mono hG
  obtain ⟨tM', tF', hS⟩ := hSz.mono hG
  repeat tm_at "go"
  refine wpAny_call (shrunkM (gs := gs) C (fun e he => (row.eok e he).mono hG.base) (ar_g1 hts tlen len hB few) (by decide) (Rm.le hr (by decide)) ‹Led G1 _ _› fun G2 nw2 s2 hG2 hp2 hb2 H2 => ?_)
  repeat tm_at "go"
  have hw := nw_len hp
  rw [List.length_reverse] at hw
  have ok2 : RowOK G1 T (ns.take 0) kvs' := ok'
  refine h G2 _ (hG.trans hG2) ⟨vars, ps, es.take 0, gs ++ nw2, ts ++ nw, M, tM, F, tF, ns.take 0, kvs', Sz, ?_, ?_, ?_, hF, (hps.mono hG).mono hG2, (hSz.mono hG).mono hG2, H2⟩
  · exact ((row.mono hG).cut _ ok2).mono hG2
  · exact ((tol.mono hG).mono hG2).app (fun e he => (hb e he).mono hG2) hb2 (by rw [hp, hp2]; exact row.tells 0)
  · exact ar_app hts (ar_le hw few)
theorem least4 {r : Int} {a b d : Int} {t1 t2 t3 : Tok} (h0 : 0 ≤ r) (h1 : r < 4) (ha : 0 ≤ a) (hb : 0 ≤ b) (hd : 0 ≤ d) : ∃ la ta, ([.none, .int a t1, .int b t2, .int d t3] : List Value)[r.toNat]? = some (leV la ta) ∧ ∀ x, la = some x → 0 ≤ x := by
  rcases (by omega : r = 0 ∨ r = 1 ∨ r = 2 ∨ r = 3) with rfl | rfl | rfl | rfl
  · exact ⟨none, 0, rfl, by simp⟩
  · exact ⟨some a, t1, rfl, by simpa using ha⟩
  · exact ⟨some b, t2, rfl, by simpa using hb⟩
  · exact ⟨some d, t3, rfl, by simpa using hd⟩
theorem deed7 (fx : Fx w G c cd S T ce) (lo : (D == sysModules) = false) (hr : Rm A 40) (hB : B ≤ 700) (I : Inv prog w L Dst S Rw Gn T c cd D X [(Str.ofString "key", .int k tk)] B G s)
    (h : ∀ G' s', G.le G' → Inv prog w L Dst S Rw Gn T c cd D X [(Str.ofString "key", .int k tk)] (B + 16) G' s' → Q .next s') : wpAny (model prog w) A (execs (stBody (deed7S w)) (lawE w L ce)) Q E s := by
  obtain ⟨vars, ps, es, gs, ts, M, tM, F, tF, ns, kvs, Sz, row, tol, hts, hF, hps, hSz, H⟩ := I
  simp only [List.cons_append, List.nil_append] at H
  dsimp only [deed8S, deed7S, deed6S, deed5S, deed4S, deedS, turnB, stBody, stAt, stElse, lawE, lawF]
  have fx' := fx
  obtain ⟨C, ic, bS, hce, hBB⟩ := fx'
  have few := row.few
  have len := row.len
  have tlen := tol.len
  repeat tm_at "go"
  obtain ⟨la, ta, hla, hla0⟩ := least4 (t1 := _) (t2 := _) (t3 := _) ‹(0 : Int) ≤ _› ‹_ < (4 : Int)› (by decide : (0 : Int) ≤ 0) (by decide : (0 : Int) ≤ 2) (by decide : (0 : Int) ≤ 5)
  refine li_item (v := leV la ta) ‹Led G _ ((_, liP _) :: _)› (.led List.mem_cons_self) ‹_› (ar_lt ‹_ < (4 : Int)›) hla (by kernel_rfl) ?_
  have H1 := (‹Led G _ ((_, liP _) :: _)›).tl
  clear hla
  repeat tm_at "go"
  rename_i r tr sa hr0 hr8 Ha sb Hb
  refine wpAny_call (resizeM (ts := ts) C ic lo row.ok (ar_tn hts hB few) hr0 hla0 (Rm.le hr (by decide)) ‹Led G _ _› fun tF1 G1 nw kvs' s1 hG hp ok' hb H1 => ?_)
  obtain ⟨C, ic, bS, hce, hBB⟩ := fx.mono hG
  repeat tm_at "go"
  refine wpAny_call (c_sizes C (Rm.le hr (by decide)) H1 fun x tF2 s2 H2 => ?_)
  obtain ⟨G2, hG2, H3, hS⟩ := H2.promote
  obtain ⟨C, ic, bS, hce, hBB⟩ := fx.mono (hG.trans hG2)
  repeat tm_at "go"
  have hF' := sizeF_pos (m := r) (la := la) hr0 hla0
  refine wpAny_call (shrunkM (gs := gs) C (fun e he => (row.eok e he).mono (hG.trans hG2).base) (ar_g1 hts tlen len hB few) hF' (Rm.le hr (by decide)) ‹Led G2 _ _› fun G3 nw2 s3 hG3 hp2 hb2 H4 => ?_)
  repeat tm_at "go"
  have hw := nw_len hp
  rw [List.length_reverse, List.length_drop] at hw
  have hSS : SzOK G2 x r (sizeF r la) := ⟨_, _, hS⟩
  refine h G3 _ ((hG.trans hG2).trans hG3) (Inv.mk (es := es.take (sizeF r la).toNat) (gs := gs ++ nw2) (ts := ts ++ nw) (((row.mono hG).cut _ ok').mono (hG2.trans hG3)) ?_ ?_ hF' (((hps.mono hG).mono hG2).mono hG3) (hSS.mono hG3) H4 ?_)
  · exact ((tol.mono hG).mono (hG2.trans hG3)).app (fun e he => (hb e he).mono (hG2.trans hG3)) hb2 (by rw [hp, hp2, row.tells])
  · exact ar_app hts (ar_sub hw few)
  · tm_at "inv"
end
theorem fill20 : (PySem.Challenge.rw_kj0013_01, hd.heap_39) = (PySem.Challenge.rw_kj0013_01, hd.heap_39) := by k_fill; rfl
section
variable {Q : Flow → Shared → Prop} {prog : Program} {w : World} {A : Around} {E : Value → Shared → Prop} {R : Result → Shared → Prop} {s : Shared} {G G' : Gh} {l l' : List (Addr × HP)} {L ce Dst S Rw Gn Sz T c cd D : Addr} {t tk tM tF : Tok} {k M F : Int} {B : Nat} {outer : List Env} {X : List (Addr × HP)}
  {es : List En} {ns : List Nd} {gs ts : List Tl} {kvs : List (Int × Value)} {vars : List (Str × Value)} {ps : Array Value} {xs : List Value}
theorem en_same {e f : En} (he : EnOK G e) (hf : EnOK G f) (h : e.a = f.a) : e = f := by
  obtain ⟨o, q, n, r⟩ := he.at_
  obtain ⟨o', q', n', r'⟩ := hf.at_
  rw [h, q'] at q
  have e1 := Option.some.inj q
  rw [r, r'] at e1
  obtain ⟨a, k, t, v, b⟩ := e
  obtain ⟨a', k', t', v', b'⟩ := f
  simp [En.vals] at e1
  simp at h
  simp [h, e1]
theorem one_of_map {b : List En} {v : Value} (h : b.map (fun e => Value.ref e.a) = [v]) : ∃ e, b = [e] := by
  cases b with
  | nil => cases h
  | cons e r => cases r with
    | nil => exact ⟨e, rfl⟩
    | cons _ _ => cases h
theorem ints_snoc {xs : List Value} {ns : List Int} (h : IntsAre xs ns) (k : Int) (t : Tok) : IntsAre (xs ++ [.int k t]) (ns ++ [k]) := by
  induction h with
  | nil => exact .cons k t .nil
  | cons n u _ ih => exact .cons n u ih
theorem Cmp.keys {R : Value → Value → List (Addr × HP) → Prop} {vs ys : List Value} {exs : List (Addr × HP)} (c : Cmp R vs ys exs) : ∀ es : List En, vs = erefs es → (∀ e ∈ es, ∀ y ex, R (.ref e.a) y ex → (∃ t, y = .int e.k t) ∧ ex = []) → exs = [] ∧ IntsAre ys (es.map En.k) := by
  induction c with
  | nil =>
    intro es he hR
    cases es with
    | nil => exact ⟨rfl, .nil⟩
    | cons e r => simp [erefs] at he
  | @snoc vs ys exs v y ex _ hr ih =>
    intro es he hR
    obtain ⟨a, b, rfl, h1, h2⟩ := List.map_eq_append_iff.mp (show es.map (fun e => Value.ref e.a) = vs ++ [v] from he.symm)
    obtain ⟨e, rfl⟩ := one_of_map h2
    simp at h2
    obtain ⟨rfl, hi⟩ := ih a h1.symm (fun x hx => hR x (List.mem_append_left _ hx))
    obtain ⟨⟨t, rfl⟩, rfl⟩ := hR e (by simp) y ex (h2 ▸ hr)
    refine ⟨rfl, ?_⟩
    rw [List.map_append]
    exact ints_snoc hi e.k t
theorem Cmp.prs {R : Value → Value → List (Addr × HP) → Prop} {vs ys : List Value} {exs : List (Addr × HP)} (c : Cmp R vs ys exs) : ∀ es : List En, vs = erefs es → (∀ e ∈ es, ∀ y ex, R (.ref e.a) y ex → ∃ x, y = .ref x ∧ ex = [(x, tuP [.int e.k e.t, e.v])]) →
    ∃ ps : List Tl, ys = refs ps ∧ pairs ps = es.map (fun e => (e.k, e.v)) ∧ ∀ p ∈ ps, (p.a, tuP [.int p.k p.t, p.v]) ∈ exs := by
  induction c with
  | nil =>
    intro es he hR
    cases es with
    | nil => exact ⟨[], rfl, rfl, fun _ h => by cases h⟩
    | cons e r => simp [erefs] at he
  | @snoc vs ys exs v y ex _ hr ih =>
    intro es he hR
    obtain ⟨a, b, rfl, h1, h2⟩ := List.map_eq_append_iff.mp (show es.map (fun e => Value.ref e.a) = vs ++ [v] from he.symm)
    obtain ⟨e, rfl⟩ := one_of_map h2
    simp at h2
    obtain ⟨ps, rfl, hp, hm⟩ := ih a h1.symm (fun x hx => hR x (List.mem_append_left _ hx))
    obtain ⟨x, rfl, rfl⟩ := hR e (by simp) y ex (h2 ▸ hr)
    refine ⟨ps ++ [⟨x, e.k, e.t, e.v⟩], by rw [refs_append]; rfl, by rw [pairs_append, hp, List.map_append]; rfl, fun p hp => ?_⟩
    rcases List.mem_append.mp hp with hp | hp
    · exact List.mem_append_right _ (hm p hp)
    · rw [List.mem_singleton.mp hp]; exact List.mem_append_left _ (by simp)
abbrev entS : Scope := { kind := .function, names := [(Str.ofString ".0", .local), (Str.ofString "entry", .local)], isGenerator := false, isCoroutine := false, more := [] }
/-- [entry[0] for entry in row] -/
theorem row_keys {p1 p2 p3 p4 p5 p6 : Pos} {Q : Value → Shared → Prop} (C : Cx (hd.heap_39 w.params) G) (hh : A.handled = none) (H : Led G s l) (hL : (L, nsP (lk vars)) ∈ l) (hv : lk vars (Str.ofString "row") = some (.ref Rw)) (hR : (Rw, liP (erefs es)) ∈ l) (ok : ∀ e ∈ es, EnOK G e) (hz : es.length ≤ 900)
    (h : ∀ x ys s', IntsAre ys (es.map En.k) → Led G s' ((x, liP ys) :: l) → Q (.ref x) s') :
    wpAny (model prog w) A (eval (.ListComp (.Subscript (.Name (Str.ofString "entry") p1) (.Constant (.int 0) 0 p2) p3) [⟨.Name (Str.ofString "entry") p4, .Name (Str.ofString "row") p5, [], 0⟩] entS p6) (lawE w L ce)) Q E s := by
  dsimp only [lawE, lawF]
  refine m_comp (fun v y ex => ∀ e ∈ es, v = .ref e.a → (∃ t, y = .int e.k t) ∧ ex = []) (fun _ => true) C hh (cl := []) (by rfl) (by kernel_rfl) (by rfl) (by kernel_rfl) (by rfl) ?_
  refine x_local H hL hv ?_ (by rfl) (by kernel_rfl!) (by decide +kernel)
  refine ⟨_, erefs es, _, rfl, ar_ere hz, H, .led hR, fun v hv C' s₂ F hF H2 => ?_, fun D ys exs s₂ hc H2 => ?_⟩
  · obtain ⟨e, he, rfl⟩ := List.mem_map.mp hv
    have hT : ∃ o, G.g.get? e.a = some o ∧ tuP [.int e.k e.t, e.v, .bool e.b] o := (ok e he).at_
    refine wpAny_tests_nil ⟨rfl, H2, fun _ => ?_⟩
    repeat tm_at "go"
    exact ⟨[], fun f hf q => by
      have := en_same (ok e he) (ok f hf) (by simpa using q)
      subst this
      exact ⟨⟨_, rfl⟩, rfl⟩, by assumption⟩
  · rw [List.filter_eq_self.mpr (fun _ _ => rfl)] at hc
    obtain ⟨rfl, hi⟩ := hc.keys es rfl (fun e he y ex q => q e he rfl)
    exact h D ys s₂ hi H2
/-- [(entry[0], entry[1]) for entry in row] -/
theorem row_pairs {p1 p2 p3 p4 p5 p6 p7 p8 p9 p10 : Pos} {Q : Value → Shared → Prop} (C : Cx (hd.heap_39 w.params) G) (hh : A.handled = none) (H : Led G s l) (hL : (L, nsP (lk vars)) ∈ l) (hv : lk vars (Str.ofString "row") = some (.ref Rw)) (hR : (Rw, liP (erefs es)) ∈ l) (ok : ∀ e ∈ es, EnOK G e) (hz : es.length ≤ 900)
    (h : ∀ x ps exs s', pairs ps = es.map (fun e => (e.k, e.v)) → (∀ p ∈ ps, (p.a, tuP [.int p.k p.t, p.v]) ∈ exs) → Led G s' ((x, liP (refs ps)) :: (exs ++ l)) → Q (.ref x) s') :
    wpAny (model prog w) A (eval (.ListComp (.Tuple [.Subscript (.Name (Str.ofString "entry") p1) (.Constant (.int 0) 0 p2) p3, .Subscript (.Name (Str.ofString "entry") p4) (.Constant (.int 1) 0 p5) p6] 0 p7) [⟨.Name (Str.ofString "entry") p8, .Name (Str.ofString "row") p9, [], 0⟩] entS p10) (lawE w L ce)) Q E s := by
  dsimp only [lawE, lawF]
  refine m_comp (fun v y ex => ∀ e ∈ es, v = .ref e.a → ∃ x, y = .ref x ∧ ex = [(x, tuP [.int e.k e.t, e.v])]) (fun _ => true) C hh (cl := []) (by rfl) (by kernel_rfl) (by rfl) (by kernel_rfl) (by rfl) ?_
  refine x_local H hL hv ?_ (by rfl) (by kernel_rfl!) (by decide +kernel)
  refine ⟨_, erefs es, _, rfl, ar_ere hz, H, .led hR, fun v hv C' s₂ F hF H2 => ?_, fun D ys exs s₂ hc H2 => ?_⟩
  · obtain ⟨e, he, rfl⟩ := List.mem_map.mp hv
    have hT : ∃ o, G.g.get? e.a = some o ∧ tuP [.int e.k e.t, e.v, .bool e.b] o := (ok e he).at_
    refine wpAny_tests_nil ⟨rfl, H2, fun _ => ?_⟩
    repeat tm_at "go"
    have H3 := ‹Led G _ ((_, tuP _) :: _)›
    exact ⟨_, fun f hf q => by
      have := en_same (ok e he) (ok f hf) (by simpa using q)
      subst this
      exact ⟨_, rfl, rfl⟩, H3.perm (.swap ..)⟩
  · rw [List.filter_eq_self.mpr (fun _ _ => rfl)] at hc
    obtain ⟨ps, rfl, hp, hm⟩ := hc.prs es rfl (fun e he y ex q => q e he rfl)
    exact h D ps exs s₂ hp hm H2
end
theorem fill21 : (PySem.Challenge.rw_kj0013_01, hd.heap_39) = (PySem.Challenge.rw_kj0013_01, hd.heap_39) := by k_fill; rfl
section
variable {Q : Flow → Shared → Prop} {prog : Program} {w : World} {A : Around} {E : Value → Shared → Prop} {R : Result → Shared → Prop} {s : Shared} {G G' : Gh} {l l' : List (Addr × HP)} {L ce Dst S Rw Gn Sz T c cd D : Addr} {t tk tM tF : Tok} {k M F : Int} {B : Nat} {outer : List Env} {X : List (Addr × HP)}
  {es : List En} {ns : List Nd} {gs ts : List Tl} {kvs : List (Int × Value)} {vars : List (Str × Value)} {ps : Array Value} {xs : List Value}
theorem RowE.split (row : RowE G T es ns kvs) (hk : k ∈ es.map En.k) : ∃ pre e post pre' n post', es = pre ++ e :: post ∧ ns = pre' ++ n :: post' ∧ e.k = k ∧ n.k = k ∧ e.v = n.vl ∧ RowE G T (e :: pre ++ post) (n :: pre' ++ post') kvs := by
  obtain ⟨e, he, rfl⟩ := List.mem_map.mp hk
  obtain ⟨pre, post, rfl⟩ := List.append_of_mem he
  have q := row.eq
  rw [List.map_append, List.map_cons] at q
  obtain ⟨pre', r', rfl, h1, h2⟩ := List.map_eq_append_iff.mp q.symm
  obtain ⟨n, post', rfl, h3, h4⟩ := List.map_eq_cons_iff.mp h2
  have h5 : n.k = e.k ∧ n.vl = e.v := by
    simp only [En.e, Nd.e, Prod.mk.injEq] at h3
    exact ⟨h3.1, h3.2.1⟩
  refine ⟨pre, e, post, pre', n, post', rfl, rfl, rfl, h5.1, h5.2.symm, row.ok.swap, fun x hx => row.eok x ?_, ?_, fun x hx => row.kb x ?_⟩
  · simp only [List.cons_append, List.mem_cons, List.mem_append] at hx ⊢
    rcases hx with hx | hx | hx <;> simp [hx]
  · simp [h1, h3, h4]
  · simp only [List.cons_append, List.mem_cons, List.mem_append] at hx ⊢
    rcases hx with hx | hx | hx <;> simp [hx]
theorem lawStk {m : Str → Option Value} (hfr : A.frames = some [lawE w L ce]) (hm : (L, nsP m) ∈ l) : Stk A l [lawE w L ce] := ⟨hfr, fun env he => by
  obtain rfl := List.mem_singleton.mp he
  exact ⟨(by intro q; cases q), L, m, rfl, hm⟩⟩
theorem getM {dv : Value} {n : Nd} {pre post : List Nd} (C : Cx (hd.heap_39 w.params) G) (ic : BIn G c 182 cd) (lo : (D == sysModules) = false) (ok : RowOK G T (pre ++ n :: post) kvs) (hr : Rm A 20) (H : Led G s (lawL prog w L vars ps Dst S Rw es Gn gs T ts cd D M tM F tF (pre ++ n :: post) kvs X))
    (h : ∀ s', Led G s' (lawL prog w L vars ps Dst S Rw es Gn gs T ts cd D M tM F tF (n :: pre ++ post) kvs X) → R (.ok (.ret n.vl)) s') : codeAny (model prog w) A (.call (.ref 109) ⟨[.ref c, .int n.k t, dv], []⟩) R s :=
  c_get C ic lo ok hr (H.perm lawC) fun s' H' => h s' (H'.perm lawC.symm)
theorem takenM {n : Nd} {pre post : List Nd} (C : Cx (hd.heap_39 w.params) G) (ic : BIn G c 182 cd) (ok : RowOK G T (pre ++ n :: post) kvs) (hr : Rm A 25) (hfr : A.frames = some outer) (H : Led G s (lawL prog w L vars ps Dst S Rw es Gn gs T ts cd D M tM F tF (pre ++ n :: post) kvs X))
    (h : ∀ s', Led G s' (lawL prog w L vars ps Dst S Rw es Gn gs T ts cd D M tM F tF (n :: pre ++ post) kvs X) → R (.ok (.ret n.vl)) s') : codeAny (model prog w) A (.call (.ref 231) ⟨[.ref c, .int n.k t], []⟩) R s :=
  c_taken C ic ok hr hfr (H.perm lawC) fun s' H' => h s' (H'.perm lawC.symm)
abbrev lawT (L : Addr) (vars : List (Str × Value)) (ps : Array Value) (Dst S Rw : Addr) (es : List En) (Gn : Addr) (gs : List Tl) (T : Addr) (ts : List Tl) (ns : List Nd) (X : List (Addr × HP)) : List (Addr × HP) :=
  (L, nsP (lk vars)) :: (240, tbP ps) :: (Dst, stP S) :: (Rw, liP (erefs es)) :: (Gn, liP (refs gs)) :: (T, liP (refs ts)) :: (seg .none ns .none ++ X)
theorem lawD : (lawL prog w L vars ps Dst S Rw es Gn gs T ts cd D M tM F tF ns kvs X).Perm ((cd, cacheP (.ref D) (firstR ns .none) (lastR ns .none) (.int M tM) (.int F tF)) :: (D, idP prog w kvs) :: lawT L vars ps Dst S Rw es Gn gs T ts ns X) := by tm_at "pk"
theorem getNoM {dv : Value} (C : Cx (hd.heap_39 w.params) G) (ic : BIn G c 182 cd) (lo : (D == sysModules) = false) (hk : valueAt kvs k = none) (hr : Rm A 20) (H : Led G s (lawL prog w L vars ps Dst S Rw es Gn gs T ts cd D M tM F tF ns kvs X))
    (h : ∀ s', Led G s' (lawL prog w L vars ps Dst S Rw es Gn gs T ts cd D M tM F tF ns kvs X) → R (.ok (.ret dv)) s') : codeAny (model prog w) A (.call (.ref 109) ⟨[.ref c, .int k t, dv], []⟩) R s :=
  c_get_no C ic lo (by rw [hk]; rfl) hr (H.perm lawD) fun s' H' => h s' (H'.perm lawD.symm)
theorem takenNoM (C : Cx (hd.heap_39 w.params) G) (ic : BIn G c 182 cd) (lo : (D == sysModules) = false) (hk : valueAt kvs k = none) (hr : Rm A 20) (hfr : A.frames = some [lawE w L ce]) (H : Led G s (lawL prog w L vars ps Dst S Rw es Gn gs T ts cd D M tM F tF ns kvs X))
    (h : ∀ t s', Led G s' (lawL prog w L vars ps Dst S Rw es Gn gs T ts cd D M tM F tF ns kvs X) → R (.ok (.ret (.str (Str.ofString "none") t))) s') : codeAny (model prog w) A (.call (.ref 231) ⟨[.ref c, .int k t], []⟩) R s :=
  c_taken_no C ic lo hk hr (lawStk (m := lk vars) hfr (.tail _ (.tail _ (.head _)))) (H.perm lawD) fun t s' H' => h t s' (H'.perm lawD.symm)
theorem badM (C : Cx (hd.heap_39 w.params) G) (ic : BIn G c 182 cd) (hr : Rm A 20) (hfr : A.frames = some [lawE w L ce]) (H : Led G s (lawL prog w L vars ps Dst S Rw es Gn gs T ts cd D M tM F tF ns kvs X))
    (h : ∀ s', Led G s' (lawL prog w L vars ps Dst S Rw es Gn gs T ts cd D M tM F tF ns kvs X) → R (.ok (.ret (.bool true))) s') : codeAny (model prog w) A (.call (.ref 238) ⟨[.ref c], []⟩) R s :=
  c_bad C ic hr (lawStk (m := lk vars) hfr (.tail _ (.tail _ (.head _)))) (H.perm lawD) fun s' H' => h s' (H'.perm lawD.symm)
theorem frontM {e₀ : En} {pre post : List En} (C : Cx (hd.heap_39 w.params) G) (ok : ∀ e ∈ pre ++ e₀ :: post, EnOK G e) (hk : ((pre ++ e₀ :: post).map En.k).Nodup) (hz : (pre ++ e₀ :: post).length ≤ 900) (he : e₀.k = k) (hr : Rm A 8)
    (H : Led G s (lawL prog w L vars ps Dst S Rw (pre ++ e₀ :: post) Gn gs T ts cd D M tM F tF ns kvs X)) (h : ∀ s', Led G s' (lawL prog w L vars ps Dst S Rw (e₀ :: pre ++ post) Gn gs T ts cd D M tM F tF ns kvs X) → R (.ok (.ret e₀.v)) s') :
    codeAny (model prog w) A (.call (.ref 217) ⟨[.ref Rw, .int k t], []⟩) R s := by
  subst he
  refine c_front C ok hk hz hr (l := (L, nsP (lk vars)) :: (240, tbP ps) :: (Dst, stP S) :: (Gn, liP (refs gs)) :: cacheT prog w T (refs ts) cd D (.int M tM) (.int F tF) ns kvs X) (H.perm ?_) fun s' H' => h s' (H'.perm ?_)
  · show List.Perm (_ :: _ :: _ :: _ :: _ :: cacheT prog w T (refs ts) cd D (.int M tM) (.int F tF) ns kvs X) _
    exact pick (.tl (.tl (.tl .hd))) (.refl _)
  · show List.Perm _ (_ :: _ :: _ :: _ :: _ :: cacheT prog w T (refs ts) cd D (.int M tM) (.int F tF) ns kvs X)
    exact (pick (.tl (.tl (.tl .hd))) (.refl _) : List.Perm _ _).symm
theorem deed4 (fx : Fx w G c cd S T ce) (lo : (D == sysModules) = false) (hr : Rm A 40) (hB : B ≤ 700) (I : Inv prog w L Dst S Rw Gn T c cd D X [(Str.ofString "key", .int k tk)] B G s)
    (h : ∀ G' s', G.le G' → Inv prog w L Dst S Rw Gn T c cd D X [(Str.ofString "key", .int k tk)] (B + 16) G' s' → Q .next s') : wpAny (model prog w) A (execs (stBody (deed4S w)) (lawE w L ce)) Q E s := by
  obtain ⟨vars, ps, es, gs, ts, M, tM, F, tF, ns, kvs, Sz, row, tol, hts, hF, hps, hSz, H⟩ := I
  simp only [List.cons_append, List.nil_append] at H
  dsimp only [deed8S, deed7S, deed6S, deed5S, deed4S, deedS, turnB, stBody, stAt, stElse, lawE, lawF]
  have fx' := fx
  obtain ⟨C, ic, bS, hce, hBB⟩ := fx'
  have few := row.few
  have len := row.len
  have hu : A.units + 40 < cLine := hr.u40
  repeat tm_at "go"
  refine row_keys C (Rm.handled hr) H (by tm_at "mm") (by tm_at "lk") (by tm_at "mm") row.eok (ar_len len few) fun x ys s1 hi H1 => ?_
  refine li_in H1 (.led List.mem_cons_self) hi rfl ?_
  have H2 := H1.tl
  repeat tm_at "go"
  by_cases hk : k ∈ es.map En.k
  · obtain ⟨pre, e, post, pre', n, post', rfl, rfl, he, hn, hev, row'⟩ := row.split hk
    subst hn
    refine wpAny_call (getM C ic lo row.ok (Rm.le hr (by decide)) ‹Led G _ _› fun s2 H3 => ?_)
    repeat tm_at "go"
    refine IfS.t (by simpa using hk) ?_
    repeat tm_at "go"
    refine wpAny_call (frontM C row.eok (by rw [row.keys]; exact row.ok.keys) (ar_len len few) he (Rm.le hr (by decide)) ‹Led G _ _› fun s3 H4 => ?_)
    have hvo : VOK G n.vl := hev ▸ (row.eok e (by simp)).v
    rw [hev]
    refine v_ne H4 hvo hr.u10 ?_
    repeat tm_at "go"
    exact h G _ .refl (Inv.mk row' tol (Nat.le_add_right_of_le hts) hF hps hSz H4 (by tm_at "inv"))
  · have hk' : k ∉ ns.map Nd.k := by rw [← row.keys]; exact hk
    refine wpAny_call (getNoM C ic lo (row.ok.no hk') (Rm.le hr (by decide)) ‹Led G _ _› fun s2 H3 => ?_)
    repeat tm_at "go"
    refine IfS.f (by simpa using hk) ?_
    repeat tm_at "go"
    refine s_ne ?_
    repeat tm_at "go"
    exact h G _ .refl (Inv.mk row tol (Nat.le_add_right_of_le hts) hF hps hSz ‹Led G _ _› (by tm_at "inv"))
theorem deed5 (fx : Fx w G c cd S T ce) (lo : (D == sysModules) = false) (hr : Rm A 40) (hfr : A.frames = some [lawE w L ce]) (hB : B ≤ 700) (I : Inv prog w L Dst S Rw Gn T c cd D X [(Str.ofString "key", .int k tk)] B G s)
    (h : ∀ G' s', G.le G' → Inv prog w L Dst S Rw Gn T c cd D X [(Str.ofString "key", .int k tk)] (B + 16) G' s' → Q .next s') : wpAny (model prog w) A (execs (stBody (deed5S w)) (lawE w L ce)) Q E s := by
  obtain ⟨vars, ps, es, gs, ts, M, tM, F, tF, ns, kvs, Sz, row, tol, hts, hF, hps, hSz, H⟩ := I
  simp only [List.cons_append, List.nil_append] at H
  dsimp only [deed8S, deed7S, deed6S, deed5S, deed4S, deedS, turnB, stBody, stAt, stElse, lawE, lawF]
  have fx' := fx
  obtain ⟨C, ic, bS, hce, hBB⟩ := fx'
  have few := row.few
  have len := row.len
  have hu : A.units + 40 < cLine := hr.u40
  repeat tm_at "go"
  refine row_keys C (Rm.handled hr) H (by tm_at "mm") (by tm_at "lk") (by tm_at "mm") row.eok (ar_len len few) fun x ys s1 hi H1 => ?_
  refine li_in H1 (.led List.mem_cons_self) hi rfl ?_
  have H2 := H1.tl
  repeat tm_at "go"
  by_cases hk : k ∈ es.map En.k
  · obtain ⟨pre, e, post, pre', n, post', rfl, rfl, he, hn, hev, row'⟩ := row.split hk
    subst hn
    refine wpAny_call (takenM C ic row.ok (Rm.le hr (by decide)) hfr ‹Led G _ _› fun s2 H3 => ?_)
    repeat tm_at "go"
    refine IfS.t (by simpa using hk) ?_
    repeat tm_at "go"
    refine wpAny_call (frontM C row.eok (by rw [row.keys]; exact row.ok.keys) (ar_len len few) he (Rm.le hr (by decide)) ‹Led G _ _› fun s3 H4 => ?_)
    have hvo : VOK G n.vl := hev ▸ (row.eok e (by simp)).v
    rw [hev]
    refine v_ne H4 hvo hr.u10 ?_
    repeat tm_at "go"
    exact h G _ .refl (Inv.mk row' tol (Nat.le_add_right_of_le hts) hF hps hSz H4 (by tm_at "inv"))
  · have hk' : k ∉ ns.map Nd.k := by rw [← row.keys]; exact hk
    refine wpAny_call (takenNoM C ic lo (row.ok.no hk') (Rm.le hr (by decide)) hfr ‹Led G _ _› fun t2 s2 H3 => ?_)
    repeat tm_at "go"
    refine IfS.f (by simpa using hk) ?_
    repeat tm_at "go"
    refine s_ne ?_
    repeat tm_at "go"
    exact h G _ .refl (Inv.mk row tol (Nat.le_add_right_of_le hts) hF hps hSz ‹Led G _ _› (by tm_at "inv"))
end
theorem fill22 : (PySem.Challenge.rw_kj0013_01, hd.heap_39) = (PySem.Challenge.rw_kj0013_01, hd.heap_39) := by k_fill; rfl
section
variable {Q : Flow → Shared → Prop} {prog : Program} {w : World} {A : Around} {E : Value → Shared → Prop} {R : Result → Shared → Prop} {s : Shared} {G G' : Gh} {l l' : List (Addr × HP)} {L ce Dst S Rw Gn Sz T c cd D : Addr} {t tk tM tF : Tok} {k M F : Int} {B : Nat} {outer : List Env} {X : List (Addr × HP)}
  {es : List En} {ns : List Nd} {gs ts : List Tl} {kvs : List (Int × Value)} {vars : List (Str × Value)} {ps : Array Value} {xs : List Value}
theorem put_mem {r : Row} {v : Value} {b : Bool} : ∀ e ∈ (rowPut r k v b M F).1, e.1 = k ∨ e ∈ r := by
  intro e he
  have : e ∈ (k, v, b) :: r.filter (fun e => e.1 != k) := by
    unfold rowPut at he
    dsimp only at he
    split at he
    · exact List.mem_of_mem_take he
    · exact he
  rcases List.mem_cons.mp this with rfl | h
  · exact .inl rfl
  · exact .inr (List.mem_filter.mp h).1
theorem put_len {r : Row} {v : Value} {b : Bool} : (rowPut r k v b M F).2.length ≤ 2 * r.length + 1 := by
  have h1 := rowTells_len (r.filter fun e => e.1 == k)
  have h2 := List.length_filter_le (fun e : Int × Value × Bool => e.1 == k) r
  have h3 := List.length_filter_le (fun e : Int × Value × Bool => e.1 != k) r
  unfold rowPut
  dsimp only
  split
  · have h4 := rowTells_len ((((k, v, b) :: r.filter (fun e => e.1 != k)).drop F.toNat).reverse)
    rw [List.length_reverse, List.length_drop, List.length_cons] at h4
    rw [List.length_append]
    omega
  · dsimp only
    omega
theorem put_row {es' : List En} {ns' : List Nd} {kvs' : List (Int × Value)} {nw nw' : List Tl} {v : Value} {b : Bool} (row : RowE G T es ns kvs) (hk0 : 0 ≤ k) (hk7 : k < 7) (h1 : (es'.map En.e, pairs nw) = rowPut (es.map En.e) k v b M F) (h2 : (ns'.map Nd.e, pairs nw') = rowPut (ns.map Nd.e) k v b M F)
    (ok : RowOK G' T ns' kvs') (eok : ∀ e ∈ es', EnOK G' e) : RowE G' T es' ns' kvs' ∧ pairs nw' = pairs nw ∧ nw'.length ≤ 15 := by
  rw [row.eq] at h1
  have h3 := h1.trans h2.symm
  have few := row.few
  refine ⟨⟨ok, eok, congrArg Prod.fst h3, fun n hn => ?_⟩, (congrArg Prod.snd h3).symm, ?_⟩
  · have := put_mem (r := ns.map Nd.e) (k := k) (v := v) (b := b) (M := M) (F := F) n.e (by rw [← h2]; exact List.mem_map_of_mem hn)
    rcases this with h | h
    · have : n.k = k := h
      omega
    · obtain ⟨m, hm, e⟩ := List.mem_map.mp h
      have hk : m.k = n.k := congrArg Prod.fst e
      have := row.kb m hm
      omega
  · have h4 := put_len (r := ns.map Nd.e) (k := k) (v := v) (b := b) (M := M) (F := F)
    rw [← h2] at h4
    simp only [pairs, List.length_map] at h4
    omega
theorem Led.down (h : G.le G') (H : Led G' s l) : Led G s l := ⟨fun b o e => H.keep b o (h.base b o e), H.nd, fun p hp => ⟨(by
  cases e : G.g.get? p.1 with
  | none => rfl
  | some o => have := (H.at_ p hp).1; rw [h.base _ _ e] at this; cases this), (H.at_ p hp).2⟩, H.gens.trans h.gens, H.drawn.trans h.drawn, H.os.trans h.os, H.hi, H.big⟩
theorem val3 {r : Int} {t1 t2 : Tok} (h0 : 0 ≤ r) (h1 : r < 3) : ∃ v, ([.none, .int 0 t1, .str (Str.ofString "") t2] : List Value)[r.toNat]? = some v ∧ VOK G v := by
  rcases (by omega : r = 0 ∨ r = 1 ∨ r = 2) with rfl | rfl | rfl
  · exact ⟨_, rfl, .inl rfl⟩
  · exact ⟨_, rfl, .inr (.inl ⟨_, _, rfl⟩)⟩
  · exact ⟨_, rfl, .inr (.inr (.inl ⟨_, _, rfl, by decide +kernel⟩))⟩
theorem deed0 {i d : Int} {ti td : Tok} (fx : Fx w G c cd S T ce) (lo : (D == sysModules) = false) (hr : Rm A 40) (hB : B ≤ 700) (hk0 : 0 ≤ k) (hk7 : k < 7) (hd0 : 0 ≤ d) (hd4 : d < 4)
    (I : Inv prog w L Dst S Rw Gn T c cd D X [(Str.ofString "key", .int k tk), (Str.ofString "deed", .int d td), (Str.ofString "turn", .int i ti)] B G s)
    (h : ∀ G' s', G.le G' → Inv prog w L Dst S Rw Gn T c cd D X [(Str.ofString "key", .int k tk)] (B + 16) G' s' → Q .next s') : wpAny (model prog w) A (execs (stBody (deedS w)) (lawE w L ce)) Q E s := by
  obtain ⟨vars, ps, es, gs, ts, M, tM, F, tF, ns, kvs, Sz, row, tol, hts, hF, hps, hSz, H⟩ := I
  simp only [List.cons_append, List.nil_append] at H
  dsimp only [deedS, turnB, stBody, stAt, stElse, lawE, lawF]
  have fx' := fx
  obtain ⟨C, ic, bS, hce, hBB⟩ := fx'
  have few := row.few
  have len := row.len
  have tlen := tol.len
  have hu : A.units + 40 < cLine := hr.u40
  tm_at "go"
  tm_at "go"
  refine wpAny_mono (Q := fun v s' => ∃ G1, G.le G1 ∧ VOK G1 v ∧ Led G1 s' (lawL prog w L ((Str.ofString "state", .ref Dst) :: (Str.ofString "cache", .ref c) :: (Str.ofString "sizes", .ref Sz) :: (Str.ofString "row", .ref Rw) :: (Str.ofString "gone", .ref Gn) :: (Str.ofString "key", .int k tk) :: (Str.ofString "deed", .int d td) :: (Str.ofString "turn", .int i ti) :: vars) ps Dst S Rw es Gn gs T ts cd D M tM F tF ns kvs X)) (E := fun _ _ => False) ?_ (fun v s1 h => ?_) (fun _ _ h => h.elim)
  · repeat tm_at "go"
    refine PyProof.Rows.truthy_int ?_
    by_cases h3 : k.fmod 3 = 0
    · refine IfS.f (by simp [h3]) ?_
      repeat tm_at "go"
      have hm := fmod_range (a := i) (by decide : (0 : Int) < 3)
      obtain ⟨v, hv, hvo⟩ := val3 (G := G) (t1 := _) (t2 := _) hm.1 hm.2
      refine li_item (v := v) ‹Led G _ ((_, liP _) :: _)› (.led List.mem_cons_self) hm.1 (ar_lt hm.2) hv (by kernel_rfl) ?_
      have H1 := (‹Led G _ ((_, liP _) :: _)›).tl
      exact ⟨G, .refl, hvo, H1⟩
    · refine IfS.t (by simp [h3]) ?_
      repeat tm_at "go"
      obtain ⟨G1, hG1, H1, o, ho, hq⟩ := Led.promote ‹Led G _ ((_, tuP _) :: _)›
      exact ⟨G1, hG1, .inr (.inr (.inr ⟨_, _, _, _, _, rfl, o, ho, hq⟩)), H1⟩
  · obtain ⟨G1, hG1, hv, H1⟩ := h
    obtain ⟨C, ic, bS, hce, hBB⟩ := fx.mono hG1
    obtain ⟨tM', tF', hS⟩ := hSz.mono hG1
    repeat tm_at "go"
    refine wpAny_call (putM (gs := gs) C (fun e he => (row.eok e he).mono hG1.base) (by rw [row.keys]; exact row.ok.keys) (ar_g2 hts tlen len hB few) hF hv hS (Rm.le hr (by decide)) ‹Led G1 _ _› fun G2 nw es' s2 hG2 eok' hp hb H2 => ?_)
    have hG02 := hG1.trans hG2
    obtain ⟨C, ic, bS, hce, hBB⟩ := fx.mono hG02
    have hvh := hv.hd
    repeat tm_at "go"
    by_cases h0 : d = 0
    · subst h0
      refine IfS.t rfl ?_
      repeat tm_at "go"
      refine u_set C ‹Led G2 _ _› (.base ic) (.led (P := cacheP (.ref D) (firstR ns .none) (lastR ns .none) (.int M tM) (.int F tF)) (by tm_at "mm")) (by k_is) (by k_is) (by k_is) ?_
      refine wpAny_call (setM (ts := ts) C ic lo (row.ok.mono hG02.base) (ar_tn hts hB few) hF hvh (Rm.le hr (by decide)) ‹Led G2 _ _› fun G3 nw' ns' kvs' s3 hG3 ok' hp' hb' H3 => ?_)
      obtain ⟨row', hpe, hle⟩ := put_row row hk0 hk7 hp hp' ok' (fun e he => (eok' e he).mono hG3.base)
      repeat tm_at "go"
      refine h G3 _ (hG02.trans hG3) (Inv.mk row' (((tol.mono hG02).mono hG3).app hb' (fun e he => (hb e he).mono hG3) hpe) (ar_app hts (Nat.le_trans hle (by decide))) hF ((hps.mono hG02).mono hG3) ((hSz.mono hG02).mono hG3) H3 ?_)
      tm_at "inv"
    · refine IfS.f (by simpa using h0) ?_
      repeat tm_at "go"
      by_cases h1 : d = 1
      · subst h1
        refine IfS.t rfl ?_
        repeat tm_at "go"
        refine wpAny_call (addM (ts := ts) (cl := .none) C ic lo (row.ok.mono hG02.base) (ar_tn hts hB few) hF hvh (.inl rfl) add2 (Rm.le hr (by decide)) ‹Led G2 _ _› fun G3 nw' ns' kvs' s3 hG3 ok' hp' hb' H3 => ?_)
        obtain ⟨row', hpe, hle⟩ := put_row row hk0 hk7 hp hp' ok' (fun e he => (eok' e he).mono hG3.base)
        repeat tm_at "go"
        refine h G3 _ (hG02.trans hG3) (Inv.mk row' (((tol.mono hG02).mono hG3).app hb' (fun e he => (hb e he).mono hG3) hpe) (ar_app hts (Nat.le_trans hle (by decide))) hF ((hps.mono hG02).mono hG3) ((hSz.mono hG02).mono hG3) H3 ?_)
        tm_at "inv"
      · refine IfS.f (by simpa using h1) ?_
        repeat tm_at "go"
        have hps2 := hps.mono hG02
        dsimp only [lamPos, deedS, turnB, stBody, stAt, stElse, lawF] at hps2
        have H5 := Led.perm ‹Led G2 _ _› (show List.Perm (_ :: (240, tbP ps) :: _) ((240, tbP ps) :: _ :: _) from .swap ..)
        refine x_lam (K := hd.heap_39 w.params) (T := T) C hBB H5 (by kernel_rfl) hps2 (by rfl) (by rfl) hce (by rfl) (by rfl) (by rfl) (by rfl) (by rfl) (by rfl) (by rfl) (by rfl) (fun _ _ _ _ _ => by rfl) fun G3 ps' f s3 hG3 hps3 hf H6 => ?_
        have H7 := Led.perm H6 (.swap ..)
        have hG03 := hG02.trans hG3
        obtain ⟨C, ic, bS, hce, hBB⟩ := fx.mono hG03
        repeat tm_at "go"
        refine ⟨⟨_, Led.down hG3 H7⟩, ?_⟩
        have hcl : ((Value.ref f) != .none) = decide (1 < d) := by
          rw [show ((Value.ref f) != .none) = true from rfl]
          symm; simp; omega
        refine wpAny_call (addM (ts := ts) (cl := .ref f) C ic lo (row.ok.mono hG03.base) (ar_tn hts hB few) hF hvh (.inr ⟨f, rfl, hf⟩) add3 (Rm.le hr (by decide)) ‹Led G3 _ _› fun G4 nw' ns' kvs' s4 hG4 ok' hp' hb' H8 => ?_)
        rw [hcl] at hp'
        obtain ⟨row', hpe, hle⟩ := put_row row hk0 hk7 hp hp' ok' (fun e he => (eok' e he).mono (hG3.trans hG4).base)
        repeat tm_at "go"
        refine h G4 _ (hG03.trans hG4) (Inv.mk row' (((tol.mono hG02).mono (hG3.trans hG4)).app hb' (fun e he => (hb e he).mono (hG3.trans hG4)) hpe) (ar_app hts (Nat.le_trans hle (by decide))) hF (hps3.mono hG4) ((hSz.mono hG03).mono hG4) H8 ?_)
        tm_at "inv"
end
theorem fill23 : (PySem.Challenge.rw_kj0013_01, hd.heap_39) = (PySem.Challenge.rw_kj0013_01, hd.heap_39) := by k_fill; rfl
section
variable {Q : Flow → Shared → Prop} {prog : Program} {w : World} {A : Around} {E : Value → Shared → Prop} {R : Result → Shared → Prop} {s : Shared} {G G' : Gh} {l l' : List (Addr × HP)} {L ce Dst S Rw Gn Sz T c cd D : Addr} {t tk tM tF : Tok} {k M F : Int} {B : Nat} {outer : List Env} {X : List (Addr × HP)}
  {es : List En} {ns : List Nd} {gs ts : List Tl} {kvs : List (Int × Value)} {vars : List (Str × Value)} {ps : Array Value} {xs : List Value}
theorem lawN : (lawL prog w L vars ps Dst S Rw es Gn gs T ts cd D M tM F tF ns kvs X).Perm ((cd, cacheP (.ref D) (firstR ns .none) (lastR ns .none) (.int M tM) (.int F tF)) :: (D, idP prog w kvs) :: (seg .none ns .none ++ ((T, liP (refs ts)) :: (lawR L vars ps Dst S Rw es Gn gs ++ X)))) := by
  refine lawC.trans ?_
  exact (List.perm_middle (l₁ := (cd, cacheP (.ref D) (firstR ns .none) (lastR ns .none) (.int M tM) (.int F tF)) :: (D, idP prog w kvs) :: seg .none ns .none) (l₂ := lawR L vars ps Dst S Rw es Gn gs ++ X) (a := (T, liP (refs ts)))).symm
theorem itemsM (C : Cx (hd.heap_39 w.params) G) (ic : BIn G c 182 cd) (lo : (D == sysModules) = false) (ok : RowOK G T ns kvs) (hz : kvs.length ≤ 1000) (hr : Rm A 5) (H : Led G s (lawL prog w L vars ps Dst S Rw es Gn gs T ts cd D M tM F tF ns kvs X))
    (h : ∀ D' its s', (D' == sysModules) = false → its.Perm (rowIt ns) → Led G s' ((D', idP prog w its) :: lawL prog w L vars ps Dst S Rw es Gn gs T ts cd D M tM F tF ns kvs X) → R (.ok (.ret (.ref D'))) s') : codeAny (model prog w) A (.call (.ref 121) ⟨[.ref c], []⟩) R s :=
  c_items C ic lo ok hz hr (H.perm lawN) fun D' its s' lo' hp H' => h D' its s' lo' hp (H'.perm ((lawN.symm).cons _))
theorem keysM (C : Cx (hd.heap_39 w.params) G) (ic : BIn G c 182 cd) (lo : (D == sysModules) = false) (hr : Rm A 5) (H : Led G s (lawL prog w L vars ps Dst S Rw es Gn gs T ts cd D M tM F tF ns kvs X))
    (h : ∀ v s', Led G s' ((v, kvP D) :: lawL prog w L vars ps Dst S Rw es Gn gs T ts cd D M tM F tF ns kvs X) → R (.ok (.ret (.ref v))) s') : codeAny (model prog w) A (.call (.ref 116) ⟨[.ref c], []⟩) R s :=
  c_keys C ic lo hr (H.perm lawD) fun v s' H' => h v s' (H'.perm ((lawD.symm).cons _))
theorem lenM (C : Cx (hd.heap_39 w.params) G) (ic : BIn G c 182 cd) (lo : (D == sysModules) = false) (hl : kvs.length ≤ 1000) (hr : Rm A 5) (H : Led G s (lawL prog w L vars ps Dst S Rw es Gn gs T ts cd D M tM F tF ns kvs X))
    (h : ∀ t s', Led G s' (lawL prog w L vars ps Dst S Rw es Gn gs T ts cd D M tM F tF ns kvs X) → R (.ok (.ret (.int kvs.length t))) s') : codeAny (model prog w) A (.call (.ref 86) ⟨[.ref c], []⟩) R s :=
  c_len C ic lo hl hr (H.perm lawD) fun t s' H' => h t s' (H'.perm lawD.symm)
theorem sizeM (C : Cx (hd.heap_39 w.params) G) (ic : BIn G c 182 cd) (hr : Rm A 5) (H : Led G s (lawL prog w L vars ps Dst S Rw es Gn gs T ts cd D M tM F tF ns kvs X))
    (h : ∀ s', Led G s' (lawL prog w L vars ps Dst S Rw es Gn gs T ts cd D M tM F tF ns kvs X) → R (.ok (.ret (.int M tM))) s') : codeAny (model prog w) A (.call (.ref 101) ⟨[.ref c], []⟩) R s :=
  c_size C ic rfl hr (H.perm lawD) fun s' H' => h s' (H'.perm lawD.symm)
theorem containsM {b : Bool} (C : Cx (hd.heap_39 w.params) G) (ic : BIn G c 182 cd) (lo : (D == sysModules) = false) (hb : (valueAt kvs k).isSome = b) (hr : Rm A 5) (H : Led G s (lawL prog w L vars ps Dst S Rw es Gn gs T ts cd D M tM F tF ns kvs X))
    (h : ∀ s', Led G s' (lawL prog w L vars ps Dst S Rw es Gn gs T ts cd D M tM F tF ns kvs X) → R (.ok (.ret (.bool b))) s') : codeAny (model prog w) A (.call (.ref 72) ⟨[.ref c, .int k t], []⟩) R s :=
  c_contains C ic lo hb hr (H.perm lawD) fun s' H' => h s' (H'.perm lawD.symm)
def chk (w : World) (n : Nat) : Stmt := stAt (turnB w) n
theorem chk3 (fx : Fx w G c cd S T ce) (hr : Rm A 40) (hfr : A.frames = some [lawE w L ce]) (I : Inv prog w L Dst S Rw Gn T c cd D X [(Str.ofString "key", .int k tk)] B G s)
    (h : ∀ s', Inv prog w L Dst S Rw Gn T c cd D X [(Str.ofString "key", .int k tk)] B G s' → Q .next s') : wpAny (model prog w) A (exec (chk w 3) (lawE w L ce)) Q E s := by
  obtain ⟨vars, ps, es, gs, ts, M, tM, F, tF, ns, kvs, Sz, row, tol, hts, hF, hps, hSz, H⟩ := I
  simp only [List.cons_append, List.nil_append] at H
  dsimp only [chk, turnB, stBody, stAt, stElse, lawE, lawF]
  obtain ⟨C, ic, bS, hce, hBB⟩ := fx
  repeat tm_at "go"
  refine wpAny_call (badM C ic (Rm.le hr (by decide)) hfr H fun s1 H1 => ?_)
  repeat tm_at "go"
  refine IfS.f (by rfl) ?_
  repeat tm_at "go"
  exact h _ (Inv.mk row tol hts hF hps hSz H1 (by tm_at "inv"))
theorem chk6 (fx : Fx w G c cd S T ce) (lo : (D == sysModules) = false) (hr : Rm A 40) (I : Inv prog w L Dst S Rw Gn T c cd D X [(Str.ofString "key", .int k tk)] B G s)
    (h : ∀ s', Inv prog w L Dst S Rw Gn T c cd D X [(Str.ofString "key", .int k tk)] B G s' → Q .next s') : wpAny (model prog w) A (exec (chk w 6) (lawE w L ce)) Q E s := by
  obtain ⟨vars, ps, es, gs, ts, M, tM, F, tF, ns, kvs, Sz, row, tol, hts, hF, hps, hSz, H⟩ := I
  simp only [List.cons_append, List.nil_append] at H
  dsimp only [chk, turnB, stBody, stAt, stElse, lawE, lawF]
  obtain ⟨C, ic, bS, hce, hBB⟩ := fx
  have few := row.few
  have len := row.len
  have hb : (valueAt kvs k).isSome = decide (k ∈ es.map En.k) := by
    by_cases hk : k ∈ es.map En.k
    · obtain ⟨pre, e, post, pre', n, post', rfl, rfl, he, hn, hev, row'⟩ := row.split hk
      subst hn
      rw [row.ok.at (by simp)]
      simpa using hk
    · rw [row.ok.no (by rw [← row.keys]; exact hk)]
      simpa using hk
  repeat tm_at "go"
  refine u_in C ‹Led G _ _› (.base ic) (.led (P := cacheP (.ref D) (firstR ns .none) (lastR ns .none) (.int M tM) (.int F tF)) (by tm_at "mm")) (by k_is) (by k_is) ?_
  refine wpAny_call (containsM C ic lo hb (Rm.le hr (by decide)) ‹Led G _ _› fun s1 H1 => ?_)
  refine ⟨_, rfl, ?_⟩
  repeat tm_at "go"
  refine row_keys C (Rm.handled hr) H1 (by tm_at "mm") (by tm_at "lk") (by tm_at "mm") row.eok (ar_len len few) fun x ys s2 hi H2 => ?_
  refine li_in H2 (.led List.mem_cons_self) hi rfl ?_
  have H3 := H2.tl
  refine b_ne ?_
  rw [bne_self_eq_false]
  repeat tm_at "go"
  exact h _ (Inv.mk row tol hts hF hps hSz H3 (by tm_at "inv"))
theorem it_vals (row : RowE G T es ns kvs) : (rowIt ns) = es.map (fun e => (e.k, e.v)) := by
  have h := congrArg (List.map fun e : Int × Value × Bool => (e.1, e.2.1)) row.eq
  simp only [List.map_map] at h
  exact h.symm
theorem chk4 (fx : Fx w G c cd S T ce) (lo : (D == sysModules) = false) (hr : Rm A 40) (I : Inv prog w L Dst S Rw Gn T c cd D X [(Str.ofString "key", .int k tk)] B G s)
    (h : ∀ s', Inv prog w L Dst S Rw Gn T c cd D X [(Str.ofString "key", .int k tk)] B G s' → Q .next s') : wpAny (model prog w) A (exec (chk w 4) (lawE w L ce)) Q E s := by
  obtain ⟨vars, ps, es, gs, ts, M, tM, F, tF, ns, kvs, Sz, row, tol, hts, hF, hps, hSz, H⟩ := I
  simp only [List.cons_append, List.nil_append] at H
  dsimp only [chk, turnB, stBody, stAt, stElse, lawE, lawF]
  obtain ⟨C, ic, bS, hce, hBB⟩ := fx
  have few := row.few
  have len := row.len
  have klen := row.ok.len
  have hu : A.units < cLine := hr.units
  have hu1 : A.in1.units < cLine := hr.in1.units
  repeat tm_at "go"
  have st := told_same (A := A.in1) H tol.pr (fun e he => .base (tol.tb e he)) (fun e he => .base (tol.gb e he)) hu1
  refine li_ne H (.led (by tm_at "mm")) (.led (by tm_at "mm")) st.1 hu st.2 ?_
  repeat tm_at "go"
  refine wpAny_call (itemsM C ic lo row.ok (ar_len klen few) (Rm.le hr (by decide)) H fun D' its s1 lo' hit H1 => ?_)
  repeat tm_at "go"
  refine row_pairs C (Rm.handled hr) H1 (by tm_at "mm") (by tm_at "lk") (by tm_at "mm") row.eok (ar_len len few) fun x ps' exs s2 hp hm H2 => ?_
  repeat tm_at "go"
  have hpn : (ps'.map Tl.k).Nodup := by
    have h1 : ps'.map Tl.k = (pairs ps').map Prod.fst := by simp [pairs, Function.comp_def]
    rw [h1, hp, List.map_map]
    show (es.map En.k).Nodup
    rw [row.keys]; exact row.ok.keys
  have hpl : ps'.length = es.length := by have := congrArg List.length hp; simpa [pairs] using this
  refine d_of C (Rm.handled hr) ‹Led G _ _› (fun e he => .led (.tail _ (List.mem_append_left _ (hm e he)))) (.led List.mem_cons_self) hpn (ar_len (hpl.trans len) few) fun dd s3 lo3 H3 => ?_
  have hitp : its.Perm (pairs ps') := by rw [hp, ← it_vals row]; exact hit
  have hmem : (D', idP prog w its) ∈ (dd, idP prog w (pairs ps')) :: (x, liP (refs ps')) :: (exs ++ (D', idP prog w its) :: lawL prog w L ((Str.ofString "state", .ref Dst) :: (Str.ofString "cache", .ref c) :: (Str.ofString "sizes", .ref Sz) :: (Str.ofString "row", .ref Rw) :: (Str.ofString "gone", .ref Gn) :: (Str.ofString "key", .int k tk) :: vars) ps Dst S Rw es Gn gs T ts cd D M tM F tF ns kvs X) := by simp
  refine d_ne lo' lo3 H3 (.led hmem) (.led List.mem_cons_self) hu hitp.length_eq (fun p hp' => valueAt_mem ?_ (hitp.mem_iff.mp hp')) ?_
  · have h1 : (pairs ps').map Prod.fst = ps'.map Tl.k := by simp [pairs, Function.comp_def]
    rw [h1]; exact hpn
  have H4 : Led G s3 (lawL prog w L ((Str.ofString "state", .ref Dst) :: (Str.ofString "cache", .ref c) :: (Str.ofString "sizes", .ref Sz) :: (Str.ofString "row", .ref Rw) :: (Str.ofString "gone", .ref Gn) :: (Str.ofString "key", .int k tk) :: vars) ps Dst S Rw es Gn gs T ts cd D M tM F tF ns kvs X) := (H3.tl.tl.sub (List.sublist_append_right _ _)).tl
  clear hmem
  have hze : (erefs es).length ≤ 1000 := ar_er len few
  repeat tm_at "go"
  refine u_len C ‹Led G _ (lawL ..)› (.base ic) (.led (P := cacheP (.ref D) (firstR ns .none) (lastR ns .none) (.int M tM) (.int F tF)) (by tm_at "mm")) (by k_is) (by k_is) ?_
  refine wpAny_call (lenM (kvs := kvs) C ic lo (ar_len klen few) (Rm.le hr.in1 (by decide)) ‹Led G _ _› fun t4 s4 H5 => ?_)
  have H6 := H5.toks (s4.toks + 1)
  refine ⟨_, _, rfl, Int.natCast_nonneg _, ar_lenI klen few, ?_⟩
  repeat tm_at "go"
  refine IfS.f (by simp [erefs, klen, len]) ?_
  repeat tm_at "go"
  exact h _ (Inv.mk row tol hts hF hps hSz ‹Led G _ _› (by tm_at "inv"))
theorem ints_len {xs : List Value} {ns : List Int} (h : IntsAre xs ns) : xs.length = ns.length := by
  induction h with
  | nil => rfl
  | cons _ _ _ ih => simp [ih]
theorem chk5 (fx : Fx w G c cd S T ce) (lo : (D == sysModules) = false) (hr : Rm A 40) (I : Inv prog w L Dst S Rw Gn T c cd D X [(Str.ofString "key", .int k tk)] B G s)
    (h : ∀ s', Inv prog w L Dst S Rw Gn T c cd D X [(Str.ofString "key", .int k tk)] B G s' → Q .next s') : wpAny (model prog w) A (exec (chk w 5) (lawE w L ce)) Q E s := by
  obtain ⟨vars, ps, es, gs, ts, M, tM, F, tF, ns, kvs, Sz, row, tol, hts, hF, hps, hSz, H⟩ := I
  simp only [List.cons_append, List.nil_append] at H
  dsimp only [chk, turnB, stBody, stAt, stElse, lawE, lawF]
  obtain ⟨C, ic, bS, hce, hBB⟩ := fx
  have few := row.few
  have len := row.len
  have klen := row.ok.len
  have hu : A.units < cLine := hr.units
  obtain ⟨tM', tF', hS⟩ := hSz
  repeat tm_at "go"
  refine wpAny_call (keysM C ic lo (Rm.le hr (by decide)) ‹Led G _ _› fun v s1 H1 => ?_)
  repeat tm_at "go"
  refine kv_sorted C (Rm.handled hr) H1 (.led (by tm_at "mm")) (.led List.mem_cons_self) (Nat.lt_of_le_of_lt (Nat.le_of_eq klen) (Nat.lt_of_le_of_lt few (by decide))) fun x1 ys1 ns1 s2 hi1 hp1 hs1 H2 => ?_
  have H3 := Led.perm H2 (.swap ..)
  have H3 := H3.tl
  repeat tm_at "go"
  refine row_keys C (Rm.handled hr) H3 (by tm_at "mm") (by tm_at "lk") (by tm_at "mm") row.eok (ar_len len few) fun x2 ys2 s3 hi2 H4 => ?_
  repeat tm_at "go"
  refine li_sorted C H4 (.led List.mem_cons_self) hi2 ?_ fun x3 ys3 ns3 s4 hi3 hp3 hs3 H5 => ?_
  · rw [ints_len hi2, List.length_map, len]; exact Nat.lt_of_le_of_lt few (by decide)
  have hsame : ns1 = ns3 := perm_sorted_eq (hp1.trans (((row.ok.perm.map Prod.fst).trans (List.Perm.of_eq (by rw [keysOf_fst, row.keys]))).trans hp3.symm)) hs1 hs3
  · subst hsame
    have st := ints_same (A := A.in1) (s := s4) hi1 hi3
    refine li_ne H5 (.led (.tail _ (.tail _ (.head _)))) (.led List.mem_cons_self) st.1 hu st.2 ?_
    have H6 := H5.tl.tl.tl
    repeat tm_at "go"
    refine wpAny_call (sizeM C ic (Rm.le hr (by decide)) ‹Led G _ _› fun s5 H7 => ?_)
    repeat tm_at "go"
    refine IfS.f (by simp) ?_
    repeat tm_at "go"
    exact h _ (Inv.mk row tol hts hF hps ⟨_, _, hS⟩ ‹Led G _ _› (by tm_at "inv"))
end
theorem fill24 : (PySem.Challenge.rw_kj0013_01, hd.heap_39) = (PySem.Challenge.rw_kj0013_01, hd.heap_39) := by k_fill; rfl
section
variable {Q : Flow → Shared → Prop} {prog : Program} {w : World} {A : Around} {E : Value → Shared → Prop} {R : Result → Shared → Prop} {s : Shared} {G G' : Gh} {l l' : List (Addr × HP)} {L ce Dst S Rw Gn Sz T c cd D : Addr} {t tk tM tF : Tok} {k M F : Int} {B B' : Nat} {outer : List Env} {X : List (Addr × HP)}
  {es : List En} {ns : List Nd} {gs ts : List Tl} {kvs : List (Int × Value)} {vars e1 e2 : List (Str × Value)} {ps : Array Value} {xs : List Value}
theorem Inv.weak (I : Inv prog w L Dst S Rw Gn T c cd D X (e1 ++ e2) B G s) : Inv prog w L Dst S Rw Gn T c cd D X e1 B G s := by
  obtain ⟨vars, ps, es, gs, ts, M, tM, F, tF, ns, kvs, Sz, row, tol, hts, hF, hps, hSz, H⟩ := I
  rw [List.append_assoc] at H
  exact ⟨e2 ++ vars, ps, es, gs, ts, M, tM, F, tF, ns, kvs, Sz, row, tol, hts, hF, hps, hSz, H⟩
theorem Inv.up (I : Inv prog w L Dst S Rw Gn T c cd D X e1 B G s) (h : B ≤ B') : Inv prog w L Dst S Rw Gn T c cd D X e1 B' G s := by
  obtain ⟨vars, ps, es, gs, ts, M, tM, F, tF, ns, kvs, Sz, row, tol, hts, hF, hps, hSz, H⟩ := I
  exact ⟨vars, ps, es, gs, ts, M, tM, F, tF, ns, kvs, Sz, row, tol, Nat.le_trans hts h, hF, hps, hSz, H⟩
theorem deeds {i d : Int} {ti td : Tok} (fx : Fx w G c cd S T ce) (lo : (D == sysModules) = false) (hr : Rm A 40) (hfr : A.frames = some [lawE w L ce]) (hB : B ≤ 700) (hk0 : 0 ≤ k) (hk7 : k < 7) (hd0 : 0 ≤ d) (hd9 : d < 9)
    (I : Inv prog w L Dst S Rw Gn T c cd D X [(Str.ofString "key", .int k tk), (Str.ofString "deed", .int d td), (Str.ofString "turn", .int i ti)] B G s)
    (h : ∀ G' s', G.le G' → Inv prog w L Dst S Rw Gn T c cd D X [(Str.ofString "key", .int k tk)] (B + 16) G' s' → Q .next s') : wpAny (model prog w) A (exec (deedS w) (lawE w L ce)) Q E s := by
  have I' := I
  obtain ⟨vars, ps, es, gs, ts, M, tM, F, tF, ns, kvs, Sz, row, tol, hts, hF, hps, hSz, H⟩ := I'
  simp only [List.cons_append, List.nil_append] at H
  dsimp only [deedS, turnB, stBody, stAt, stElse, lawE, lawF]
  have C := fx.C
  have mkI : ∀ s', Led G s' (lawL prog w L ((Str.ofString "state", .ref Dst) :: (Str.ofString "cache", .ref c) :: (Str.ofString "sizes", .ref Sz) :: (Str.ofString "row", .ref Rw) :: (Str.ofString "gone", .ref Gn) :: (Str.ofString "key", .int k tk) :: (Str.ofString "deed", .int d td) :: (Str.ofString "turn", .int i ti) :: vars) ps Dst S Rw es Gn gs T ts cd D M tM F tF ns kvs X) →
      Inv prog w L Dst S Rw Gn T c cd D X [(Str.ofString "key", .int k tk), (Str.ofString "deed", .int d td), (Str.ofString "turn", .int i ti)] B G s' := fun s' H' => ⟨vars, ps, es, gs, ts, M, tM, F, tF, ns, kvs, Sz, row, tol, hts, hF, hps, hSz, H'⟩
  have mkI2 : ∀ s', Led G s' (lawL prog w L ((Str.ofString "state", .ref Dst) :: (Str.ofString "cache", .ref c) :: (Str.ofString "sizes", .ref Sz) :: (Str.ofString "row", .ref Rw) :: (Str.ofString "gone", .ref Gn) :: (Str.ofString "key", .int k tk) :: (Str.ofString "deed", .int d td) :: (Str.ofString "turn", .int i ti) :: vars) ps Dst S Rw es Gn gs T ts cd D M tM F tF ns kvs X) →
      Inv prog w L Dst S Rw Gn T c cd D X [(Str.ofString "key", .int k tk)] B G s' := fun s' H' => (mkI s' H').weak (e2 := [_, _])
  repeat tm_at "go"
  by_cases h4 : d < 4
  · refine IfS.t (by simpa using h4) ?_
    exact deed0 fx lo hr hB hk0 hk7 hd0 h4 (mkI _ ‹Led G _ _›) h
  refine IfS.f (by simpa using h4) ?_
  repeat tm_at "go"
  by_cases h5 : d = 4
  · refine IfS.t (by simp [h5]) ?_
    refine deed4 fx lo hr hB (mkI2 _ ‹Led G _ _›) (fun G' s' hG I3 => ?_)
    repeat tm_at "go"
    exact h G' _ hG (I3)
  refine IfS.f (by simpa using h5) ?_
  repeat tm_at "go"
  by_cases h6 : d = 5
  · refine IfS.t (by simp [h6]) ?_
    refine deed5 fx lo hr hfr hB (mkI2 _ ‹Led G _ _›) (fun G' s' hG I3 => ?_)
    repeat tm_at "go"
    exact h G' _ hG (I3)
  refine IfS.f (by simpa using h6) ?_
  repeat tm_at "go"
  by_cases h7 : d = 6
  · refine IfS.t (by simp [h7]) ?_
    refine deed6 fx lo hr hB (mkI2 _ ‹Led G _ _›) (fun G' s' hG I3 => ?_)
    repeat tm_at "go"
    exact h G' _ hG (I3.up (by omega))
  refine IfS.f (by simpa using h7) ?_
  repeat tm_at "go"
  by_cases h8 : d = 7
  · refine IfS.t (by simp [h8]) ?_
    refine deed7 fx lo hr hB (mkI2 _ ‹Led G _ _›) (fun G' s' hG I3 => ?_)
    repeat tm_at "go"
    exact h G' _ hG (I3)
  refine IfS.f (by simpa using h8) ?_
  repeat tm_at "go"
  by_cases h9 : k = 6
  · refine IfS.t (by simp [h9]) ?_
    refine deed8 fx lo hr hB (mkI2 _ ‹Led G _ _›) (fun G' s' hG I3 => ?_)
    repeat tm_at "go"
    exact h G' _ hG (I3)
  refine IfS.f (by simpa using h9) ?_
  repeat tm_at "go"
  exact h G _ .refl ((mkI2 _ ‹Led G _ _›).up (by omega))
theorem turn {i : Nat} {ti : Tok} (fx : Fx w G c cd S T ce) (lo : (D == sysModules) = false) (hr : Rm A 40) (hfr : A.frames = some [lawE w L ce]) (hB : B ≤ 700)
    (I : Inv prog w L Dst S Rw Gn T c cd D X [(Str.ofString "turn", .int i ti)] B G s)
    (h : ∀ G' s', G.le G' → Inv prog w L Dst S Rw Gn T c cd D X [] (B + 16) G' s' → Q .next s') : wpAny (model prog w) A (execs (turnB w) (lawE w L ce)) Q E s := by
  have e : turnB w = stAt (turnB w) 0 :: stAt (turnB w) 1 :: deedS w :: chk w 3 :: chk w 4 :: chk w 5 :: [chk w 6] := by rfl
  rw [e]
  obtain ⟨vars, ps, es, gs, ts, M, tM, F, tF, ns, kvs, Sz, row, tol, hts, hF, hps, hSz, H⟩ := I
  simp only [List.cons_append, List.nil_append] at H
  dsimp only [turnB, stBody, stAt, stElse, lawE, lawF]
  have fx' := fx
  obtain ⟨C, ic, bS, hce, hBB⟩ := fx'
  repeat tm_at "go"
  rename_i d td s1 hd0 hd9 H1 s2 H2 t3 s3 H3 k tk s4 hk0 hk7 H4 s5 H5
  have I1 : Inv prog w L Dst S Rw Gn T c cd D X [(Str.ofString "key", .int k tk), (Str.ofString "deed", .int d td), (Str.ofString "turn", .int i ti)] B G s5 := Inv.mk row tol hts hF hps hSz H5 (by tm_at "inv")
  refine deeds fx lo hr hfr hB hk0 hk7 hd0 hd9 I1 (fun G1 s6 hG I2 => ?_)
  have fx1 := fx.mono hG
  refine sq_next (m_cons ?_)
  refine chk3 fx1 hr hfr I2 (fun s7 I3 => ?_)
  refine sq_next (m_cons ?_)
  refine chk4 fx1 lo hr I3 (fun s8 I4 => ?_)
  refine sq_next (m_cons ?_)
  refine chk5 fx1 lo hr I4 (fun s9 I5 => ?_)
  refine sq_next (m_cons ?_)
  refine chk6 fx1 lo hr I5 (fun s10 I6 => ?_)
  refine sq_next (m_nil ?_)
  exact h G1 _ hG (I6.weak (e1 := []) (e2 := [_]))
end
theorem fill25 : (PySem.Challenge.rw_kj0013_01, hd.heap_39) = (PySem.Challenge.rw_kj0013_01, hd.heap_39) := by k_fill; rfl
section
variable {Q : Flow → Shared → Prop} {prog : Program} {w : World} {A : Around} {E : Value → Shared → Prop} {R : Result → Shared → Prop} {s : Shared} {G G' : Gh} {l l' : List (Addr × HP)} {L ce Dst S Rw Gn Sz T c cd D : Addr} {t tk tM tF : Tok} {k M F : Int} {B B' : Nat} {outer : List Env} {X : List (Addr × HP)}
  {es : List En} {ns : List Nd} {gs ts : List Tl} {kvs : List (Int × Value)} {vars e1 e2 : List (Str × Value)} {ps : Array Value} {xs : List Value}
def endB (w : World) : List Stmt := (lawF w).body.drop 9
theorem finish (fx : Fx w G c cd S T ce) (lo : (D == sysModules) = false) (hr : Rm A 40) (hfr : A.frames = some [lawE w L ce]) (hB : B ≤ 700) (I : Inv prog w L Dst S Rw Gn T c cd D X [] B G s)
    (h : ∀ G' ps l' s', G.le G' → Led G' s' l' → (240, tbP ps) ∈ l' → Q (.ret (.bool true)) s') : wpAny (model prog w) A (execs (endB w) (lawE w L ce)) Q E s := by
  obtain ⟨vars, ps, es, gs, ts, M, tM, F, tF, ns, kvs, Sz, row, tol, hts, hF, hps, hSz, H⟩ := I
  simp only [List.cons_append, List.nil_append] at H
  dsimp only [endB, lawE, lawF, List.drop]
  have fx' := fx
  obtain ⟨C, ic, bS, hce, hBB⟩ := fx'
  have few := row.few
  have len := row.len
  have tlen := tol.len
  repeat tm_at "go"
  refine wpAny_call (clearM C ic lo row.ok (ar_tn hts hB few) (Rm.le hr (by decide)) H fun G1 nw kvs' s1 hG hp ok' hb H1 => ?_)
  obtain ⟨C, ic, bS, hce, hBB⟩ := fx.mono hG
  repeat tm_at "go"
  refine wpAny_call (shrunkM (gs := gs) C (fun e he => (row.eok e he).mono hG.base) (ar_g1 hts tlen len hB few) (by decide) (Rm.le hr (by decide)) ‹Led G1 _ _› fun G2 nw2 s2 hG2 hp2 hb2 H2 => ?_)
  obtain ⟨C, ic, bS, hce, hBB⟩ := fx.mono (hG.trans hG2)
  have tol2 : ToldE G2 (ts ++ nw) (gs ++ nw2) := ((tol.mono hG).mono hG2).app (fun e he => (hb e he).mono hG2) hb2 (by rw [hp, hp2]; exact row.tells 0)
  have hu : A.units < cLine := hr.units
  have hu1 : A.in1.units < cLine := hr.in1.units
  repeat tm_at "go"
  have st := told_same (A := A.in1) H2 tol2.pr (fun e he => .base (tol2.tb e he)) (fun e he => .base (tol2.gb e he)) hu1
  refine li_eq H2 (.led (by tm_at "mm")) (.led (by tm_at "mm")) st.1 hu st.2 ?_
  repeat tm_at "go"
  have hl0 : kvs'.length = 0 := ok'.len
  refine u_len C H2 (.base ic) (.led (P := cacheP (.ref D) (firstR [] .none) (lastR [] .none) (.int M tM) (.int F tF)) (by tm_at "mm")) (by k_is) (by k_is) ?_
  refine wpAny_call (lenM (kvs := kvs') C ic lo (ar_len hl0 (by decide)) (Rm.le hr.in1 (by decide)) H2 fun t4 s4 H5 => ?_)
  have H6 := H5.toks (s4.toks + 1)
  refine ⟨_, _, rfl, Int.natCast_nonneg _, ar_lenI hl0 (by decide), ?_⟩
  repeat tm_at "go"
  refine IfS.t (by simp [hl0]) ?_
  repeat tm_at "go"
  refine wpAny_call (badM C ic (Rm.le hr (by decide)) hfr ‹Led G2 _ _› fun s6 H7 => ?_)
  repeat tm_at "go"
  exact h G2 ps _ _ (hG.trans hG2) H7 (by tm_at "mm")
end
section
theorem fill26 : (PySem.Challenge.rw_kj0013_01, hd.heap_39) = (PySem.Challenge.rw_kj0013_01, hd.heap_39) := by k_fill; rfl
section
variable {Q : Flow → Shared → Prop} {prog : Program} {w : World} {A : Around} {E : Value → Shared → Prop} {R : Result → Shared → Prop} {s : Shared} {G G' : Gh} {l l' : List (Addr × HP)} {L ce Dst S Rw Gn Sz T c cd D : Addr} {t tk tM tF : Tok} {k M F : Int} {B B' : Nat} {outer : List Env} {X : List (Addr × HP)}
  {es : List En} {ns : List Nd} {gs ts : List Tl} {kvs : List (Int × Value)} {vars e1 e2 : List (Str × Value)} {ps : Array Value} {xs : List Value}
/-- the loop's invariant, without the heap -/
inductive JL (prog : Program) (w : World) (L Dst S Rw Gn T c cd D : Addr) (i : Nat) (G : Gh) (l : List (Addr × HP)) : Prop
  | intro (vars : List (Str × Value)) (ps : Array Value) (es : List En) (gs ts : List Tl) (M : Int) (tM : Tok) (F : Int) (tF : Tok) (ns : List Nd) (kvs : List (Int × Value)) (Sz : Addr)
    (row : RowE G T es ns kvs) (tol : ToldE G ts gs) (hts : ts.length ≤ 16 * i) (hF : 0 ≤ F) (hps : PsOK G lawQ (lamPos w) ps) (hSz : SzOK G Sz M F)
    (hl : l = lawL prog w L ((Str.ofString "state", .ref Dst) :: (Str.ofString "cache", .ref c) :: (Str.ofString "sizes", .ref Sz) :: (Str.ofString "row", .ref Rw) :: (Str.ofString "gone", .ref Gn) :: vars) ps Dst S Rw es Gn gs T ts cd D M tM F tF ns kvs []) :
    JL prog w L Dst S Rw Gn T c cd D i G l
theorem JL.inv {i : Nat} (J : JL prog w L Dst S Rw Gn T c cd D i G l) (H : Led G s l) : Inv prog w L Dst S Rw Gn T c cd D [] [] (16 * i) G s := by
  obtain ⟨vars, ps, es, gs, ts, M, tM, F, tF, ns, kvs, Sz, row, tol, hts, hF, hps, hSz, rfl⟩ := J
  exact ⟨vars, ps, es, gs, ts, M, tM, F, tF, ns, kvs, Sz, row, tol, hts, hF, hps, hSz, H⟩
theorem Inv.jl {i : Nat} {q : Addr × HP} (I : Inv prog w L Dst S Rw Gn T c cd D [q] [] (16 * i) G s) : ∃ l, JL prog w L Dst S Rw Gn T c cd D i G l ∧ Led G s (q :: l) := by
  obtain ⟨vars, ps, es, gs, ts, M, tM, F, tF, ns, kvs, Sz, row, tol, hts, hF, hps, hSz, H⟩ := I
  exact ⟨_, ⟨vars, ps, es, gs, ts, M, tM, F, tF, ns, kvs, Sz, row, tol, hts, hF, hps, hSz, rfl⟩, H.perm lawX.symm⟩
/-- one turn of the loop -/
theorem loop_turn {i : Nat} {ti : Tok} {q : Addr × HP} (fx : Fx w G c cd S T ce) (lo : (D == sysModules) = false) (hr : Rm A 40) (hfr : A.frames = some [lawE w L ce]) (hi : i < 40) (J : JL prog w L Dst S Rw Gn T c cd D i G l) (H : Led G s (q :: l)) :
    wpAny (model prog w) A (storeName (lawE w L ce) (Str.ofString "turn") (.int (i : Nat) ti)) (fun _ s₃ => wpAny (model prog w) A (execs (turnB w) (lawE w L ce)) (fun f s₄ => f = .next ∧ ∃ G₃ l₃, G.le G₃ ∧ JL prog w L Dst S Rw Gn T c cd D (i + 1) G₃ l₃ ∧ Led G₃ s₄ (q :: l₃)) (fun _ _ => False) s₃) (fun _ _ => False) s := by
  obtain ⟨vars, ps, es, gs, ts, M, tM, F, tF, ns, kvs, Sz, row, tol, hts, hF, hps, hSz, rfl⟩ := J
  have H1 := H.perm lawX
  refine x_store H1 (by tm_at "rr") (fun s1 H2 => ?_) (by rfl) (by kernel_rfl!)
  have I1 : Inv prog w L Dst S Rw Gn T c cd D [q] [(Str.ofString "turn", .int (i : Nat) ti)] (16 * i) G s1 := Inv.mk row tol hts hF hps hSz H2 (by tm_at "inv")
  refine turn fx lo hr hfr (by omega) I1 (fun G1 s2 hG I2 => ?_)
  obtain ⟨l₃, hJ, H3⟩ := Inv.jl (i := i + 1) I2
  exact ⟨rfl, G1, l₃, hG, hJ, H3⟩
def forS (w : World) : Stmt := stAt (lawF w).body 8
theorem law_loop (fx : Fx w G c cd S T ce) (lo : (D == sysModules) = false) (hr : Rm A 40) (hfr : A.frames = some [lawE w L ce]) (I : Inv prog w L Dst S Rw Gn T c cd D [] [] 0 G s)
    (h : ∀ G' s', G.le G' → Inv prog w L Dst S Rw Gn T c cd D [] [] 600 G' s' → Q .next s') : wpAny (model prog w) A (exec (forS w) (lawE w L ce)) Q E s := by
  obtain ⟨vars, ps, es, gs, ts, M, tM, F, tF, ns, kvs, Sz, row, tol, hts, hF, hps, hSz, H⟩ := I
  simp only [List.nil_append] at H
  have fx' := fx
  obtain ⟨C, ic, bS, hce, hBB⟩ := fx'
  dsimp only [forS, stAt, lawE, lawF]
  refine m_forG (JL prog w L Dst S Rw Gn T c cd D) C (Rm.handled hr) ?_
  repeat tm_at "go"
  rename_i r tr s3 hr0 hr12 H3 t4 s4 H4
  obtain ⟨n, hn, hn20⟩ : ∃ n : Nat, 8 + r = (n : Int) ∧ n < 20 := ⟨(8 + r).toNat, by omega, by omega⟩
  rw [hn]
  refine call_range_1 ?_
  have H5 := H4.alloc (o := { cls := .type "range", data := .fields #[.int 0 s4.toks, .int (n : Nat) t4, .int 1 (s4.toks + 1)] }) (P := fun o => ∃ u v, o = { cls := .type "range", data := .fields #[.int 0 u, .int (n : Nat) t4, .int 1 v] }) (tk := s4.toks + 1 + 1) rfl ⟨_, _, rfl⟩
  refine ⟨_, n, t4, _, rfl, by omega, H5, ⟨vars, ps, es, gs, ts, M, tM, F, tF, ns, kvs, Sz, row, tol, hts, hF, hps, hSz, rfl⟩, ?_, ?_⟩
  · intro i ti G₂ l₂ s₂ q hi hG hJ H6
    exact loop_turn (fx.mono hG) lo hr hfr (by omega) hJ H6
  · intro G₂ l₂ s₂ hG hJ H6
    exact h G₂ _ hG ((hJ.inv H6).up (by omega))
theorem least5 {r : Int} {t1 t2 t3 t4 : Tok} (h0 : 0 ≤ r) (h1 : r < 5) : ∃ la ta, ([.none, .int 0 t1, .int 1 t2, .int 3 t3, .int 9 t4] : List Value)[r.toNat]? = some (leV la ta) ∧ ∀ x, la = some x → 0 ≤ x := by
  rcases (by omega : r = 0 ∨ r = 1 ∨ r = 2 ∨ r = 3 ∨ r = 4) with rfl | rfl | rfl | rfl | rfl
  · exact ⟨none, 0, rfl, by simp⟩
  · exact ⟨some 0, t1, rfl, by simp⟩
  · exact ⟨some 1, t2, rfl, by simp⟩
  · exact ⟨some 3, t3, rfl, by simp⟩
  · exact ⟨some 9, t4, rfl, by simp⟩
local macro_rules | `(tactic| tm_at "go2") => `(tactic| ((with_reducible show wpAny _ _ (storeName (envX _ _ _ _ _ (_ :: _)) _ _) _ _ _); refine x_cstore (by with_reducible assumption) (by tm_at "rr") ?_ (by rfl) (by kernel_rfl!) (by rfl); intro _ _))
theorem c_law {a : Addr} (C : Cx (hd.heap_39 w.params) G) (hB : HB G) (hr : Rm A 41) (hfr : A.frames = some []) (hX : ∃ o, G.g.get? a = some o ∧ liP xs o) (hi : IntL xs) (hz : xs.length ≤ 1000) (H : Led G s [(240, tbP #[])])
    (h : ∀ G' ps l' s', G.le G' → Led G' s' l' → (240, tbP ps) ∈ l' → R (.ok (.ret (.bool true))) s') : codeAny (model prog w) A (.call (.ref 243) ⟨[.ref a], []⟩) R s := by
  refine enterC0 (K := hd.heap_39 w.params) (binds := [(Str.ofString "script", .ref a)]) (vars := [(Str.ofString "script", .ref a)]) (x := Str.ofString "told") C H hr (by k_is) (by kernel_rfl) (by kernel_rfl) rfl rfl rfl (fun n => rfl) (by kernel_rfl)
    (fun L => Eq.trans (b := fun y => if y = Str.ofString "script" then some (Value.ref a) else lk [] y) (by kernel_rfl!) (lk_set _ _ [])) (fun L => by kernel_rfl!) ?_
  intro L ce s1 hr H
  have hfr' := Around.frames_deeper (env := lawE w L ce) hfr
  repeat tm_at "go"
  refine wpAny_call (c_state C hX hi hz (Rm.le hr (by decide)) H fun G1 Dst S s2 hG1 bS H1 => ?_)
  have C := C.le hG1
  repeat tm_at "go"
  obtain ⟨la, ta, hla, hla0⟩ := least5 (t1 := _) (t2 := _) (t3 := _) (t4 := _) ‹(0 : Int) ≤ _› ‹_ < (5 : Int)›
  refine li_item (v := leV la ta) ‹Led G1 _ ((_, liP _) :: _)› (.led List.mem_cons_self) ‹_› (ar_lt ‹_ < (5 : Int)›) hla (by kernel_rfl) ?_
  have H2 := (‹Led G1 _ ((_, liP _) :: _)›).tl
  clear hla
  repeat tm_at "go"
  rename_i r tr s3 hr0 hr6 H3 t4 s4 H4 s5 H5
  refine wpAny_call (c_mkcache C (by omega) hla0 (Rm.le hr (by decide)) H5 fun G2 c cd D tF s6 hG2 ic lo H6 => ?_)
  have C := C.le hG2
  repeat tm_at "go"
  refine wpAny_call (c_sizes C (Rm.le hr (by decide)) ‹Led G2 _ _› fun Sz tF2 s7 H7 => ?_)
  obtain ⟨G3, hG3, H8, hS⟩ := H7.promote
  have C := C.le hG3
  repeat tm_at "go"
  rename_i Rw sa Ha sb Hb T sc Hc sd Hd Gn se He sf Hf
  have H9 := Led.perm (l' := (ce, ceP (some (.ref T))) :: (L, _) :: (240, tbP #[]) :: (Dst, stP S) :: (Rw, liP []) :: (Gn, liP []) :: (T, liP []) :: (cd, cacheP (.ref D) .none .none (.int (1 + r) t4) (.int (sizeF (1 + r) la) tF)) :: (D, idP prog w []) :: []) Hf (by tm_at "pk")
  obtain ⟨G4, hG4, H10, hce⟩ := H9.promote
  have H11 : Led G4 sf (lawL prog w L _ #[] Dst S Rw [] Gn [] T [] cd D (1 + r) t4 (sizeF (1 + r) la) tF [] [] []) := H10
  have hG04 := ((hG1.trans hG2).trans hG3).trans hG4
  have hG24 := hG3.trans hG4
  have fx : Fx w G4 c cd S T ce := ⟨C.le hG4, hG24.base _ _ ic, let ⟨xs, ⟨o, q, r⟩, a, b⟩ := bS; ⟨xs, ⟨o, (hG2.trans hG24).base _ _ q, r⟩, a, b⟩, hce, hB.mono hG04⟩
  have hF : 0 ≤ sizeF (1 + r) la := sizeF_pos (by omega) hla0
  have hS4 : SzOK G4 Sz (1 + r) (sizeF (1 + r) la) := ⟨_, _, let ⟨o, q, r⟩ := hS; ⟨o, hG4.base _ _ q, r⟩⟩
  have row0 : RowE G4 T [] [] [] := ⟨⟨fun _ h => (by cases h), List.nodup_nil, List.nodup_nil, .refl _⟩, fun _ h => (by cases h), rfl, fun _ h => (by cases h)⟩
  have tol0 : ToldE G4 [] [] := ⟨fun _ h => (by cases h), fun _ h => (by cases h), rfl⟩
  have I0 : Inv prog w L Dst S Rw Gn T c cd D [] [] 0 G4 sf := Inv.mk (es := []) (gs := []) (ts := []) (ns := []) (kvs := []) row0 tol0 (Nat.le_refl _) hF (.inl rfl) hS4 H11 (by tm_at "inv")
  refine law_loop fx lo hr hfr' I0 (fun G5 s8 hG5 I5 => ?_)
  refine sq_next ?_
  exact finish (fx.mono hG5) lo hr hfr' (by decide) I5 (fun G6 ps l' s9 hG6 H12 hm => h G6 ps l' s9 ((hG04.trans hG5).trans hG6) H12 hm)
end
end
theorem ints_intL {vs : List Value} {ns : List Int} (h : IntsAre vs ns) : IntL vs := by
  induction h with
  | nil => intro v hv; cases hv
  | cons n t _ ih =>
    intro v hv
    rcases List.mem_cons.mp hv with rfl | hv
    · exact ⟨n, t, rfl⟩
    · exact ih v hv
theorem law_holds : PySem.Challenge.rw_kj0013_01.Holds := hd (by
  k_fill
  intro w s₀ s₁ mg mb G Y fa o pm cd doc dV kV ho hd' hcd hD hmg hg args vals as hpre hlay hrd hwl hlo
  have KX := km_in_of Y
  km_tabs Y
  refine Ground.open G ?_
  intro T B D TE TW
  clear D Y B
  wrow_args hpre hlay hrd hwl hlo
  all_goals (
    first | refine callC_kw (enter_call ?_) | refine enter_call ?_
    skip)
  rename_i zs hs1 hlay0 hL1 hr1 hl2 w4 w3 a vs w0 hL ra w1 r0 hI hrW hcond hcond'
  have e1 : mg (Str.ofString "law") = some (.ref 243) := mg_of KX T.g (by k_is)
  have e2 : some (Value.ref fa) = some (Value.ref 243) := hmg.symm.trans e1
  obtain rfl : fa = 243 := by injection e2 with e2; injection e2
  clear hd' hcd hD hmg e1 e2 ho
  have hP : s₁.heap.get? 240 = some (tabObj #[]) := hT8 240 (by simp)
  have hT9 : TabsAt [(242, 240)] s₁.heap := List.forall_mem_cons.mpr ⟨⟨codeHd_of_K (c := 242) (P := 240) KX (by kernel_rfl), hP⟩, fun _ h => nomatch h⟩
  refine kn_post hT9 (fun _ _ => rfl) ?_
  have hh : (⟨ghostOf s₁.heap [(242, 240)], s₁.gens, s₁.drawn, s₁.os⟩ : Gh).g = ghostOf s₁.heap [(242, 240)] := rfl
  have C : Cx (hd.heap_39 w.params) ⟨ghostOf s₁.heap [(242, 240)], s₁.gens, s₁.drawn, s₁.os⟩ := ⟨ghost_K hT9 KX (by kernel_rfl), _, _, _, _, topRead_of (ghost_top hT9 T)⟩
  have hB : HB ⟨ghostOf s₁.heap [(242, 240)], s₁.gens, s₁.drawn, s₁.os⟩ := by
    obtain ⟨bm, ob, b1, b2, b3, b4, b5, b6⟩ := T.bmain
    have hne : bm ≠ mainGlobals := fun q => by
      obtain ⟨o, es, ep, e, hd, _⟩ := T.g
      rw [q, e] at b3; cases b3; rw [hd] at b6; cases b6
    exact ⟨mg, bm, ob, ghost_ns hT9 T.g, b1, b2, hne, ghost_get hT9 b3 (fun q => by rw [q] at b4; cases b4), b4, b5, b6⟩
  have H : Led ⟨ghostOf s₁.heap [(242, 240)], s₁.gens, s₁.drawn, s₁.os⟩ s₁ [(240, tbP #[])] :=
    ⟨fun _ _ e => of_hideAll _ e, by simp, fun p hp => by
      obtain rfl := List.mem_singleton.mp hp
      exact ⟨hideAll_none _ (by simp), _, hP, rfl⟩, rfl, rfl, rfl, fun p hp => by
      obtain rfl := List.mem_singleton.mp hp
      show 3 < 240
      decide, Nat.lt_trans (by decide : 3 < 240) (Heap.lt_size hP)⟩
  have hX : ∃ o, (ghostOf s₁.heap [(242, 240)]).get? a = some o ∧ liP vs o := by
    obtain ⟨o, e, hc, n, hd⟩ := hL
    generalize hdd : ofPy (PyData.list (zs.map PyData.int)) = dd at w1
    cases w1 with
    | list e' _ =>
      refine ⟨_, ghost_get hT9 e' (fun q => by cases q), 0, ?_⟩
      rw [e'] at e
      cases e
      have h2 := hd
      simp only [Data.seq.injEq] at h2
      rw [h2.1]
    | _ => exact absurd hdd (by simp [ofPy])
  have hz : vs.length ≤ 1000 := by rw [ints_len hI]; omega
  refine c_law C hB ⟨rfl, by decide, by decide⟩ rfl hX (ints_intL hI) hz H fun G' ps l' s' hG H' hm => ?_
  obtain ⟨_, ho, rfl⟩ := H'.get hm
  refine ⟨⟨.inl ⟨.bool true, .bool true, [], rfl, fun _ => rfl, .bool true, ?_, unshared_nil⟩, fun b o e => H'.keep b o (hG.base b o e), H'.os.trans hG.os, (H'.gens.trans hG.gens).trans hg⟩, ⟨ps, ho⟩, trivial⟩
  exact postW_of (by wrow_shape) (by wtm_val) (by str_meet; first | done | w_fin))
end Mine
theorem PySem.Challenge.cw_kj0013_01_holds : PySem.Challenge.rw_kj0013_01.Holds := by
  exact Mine.law_holds
