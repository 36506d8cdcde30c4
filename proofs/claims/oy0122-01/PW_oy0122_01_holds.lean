import PyProof.Rows.All
import Wide.All
import OpenK.AllK
import Wide.FinOn
import PySem.Challenge.RW_oy0122_01
set_option Elab.async false
set_option autoImplicit false
set_option maxHeartbeats 4000000
set_option linter.all false
namespace Mine
open PySem PySem.W PyProof.Rows PySem.Calls
section

abbrev OP := Obj → Prop
abbrev Ledger := List (Addr × OP)
abbrev Frz := Addr → Option Obj

/-- the case: the heap at the law's call, its global names -/
structure Cx where
  prog : Program
  w : World
  hw : Heap
  os : OsState
  mg : Str → Option Value
  mb : Str → Option Value
  K : Frag
  fn : Nat → Addr
abbrev Cx.M (C : Cx) : Model := model C.prog C.w

/-- the state: frozen objects F, owned objects l -/
structure St (C : Cx) (F : Frz) (l : Ledger) (s : Shared) : Prop where
  base : ∀ b o, C.hw.get? b = some o → F b = some o
  frz : ∀ b o, F b = some o → s.heap.get? b = some o
  dis : ∀ p ∈ l, F p.1 = none
  nod : (l.map (·.1)).Nodup
  own : ∀ p ∈ l, ∃ o, s.heap.get? p.1 = some o ∧ p.2 o
  hos : s.os = C.os
  gen : s.gens = #[]

theorem St.lt {C : Cx} {F : Frz} {l : Ledger} {s : Shared} (h : St C F l s) : ∀ p ∈ l, p.1 < s.heap.objs.size := fun p hp => let ⟨_, e, _⟩ := h.own p hp; Heap.lt_size e

theorem St.ext {C : Cx} {F : Frz} {l : Ledger} {s s' : Shared} (h : St C F l s) (hk : ∀ b o, s.heap.get? b = some o → s'.heap.get? b = some o)
    (ho : s'.os = s.os := by rfl) (hg : s'.gens = s.gens := by rfl) : St C F l s' :=
  ⟨h.base, fun b o e => hk b o (h.frz b o e), h.dis, h.nod, fun p hp => let ⟨o, e, q⟩ := h.own p hp; ⟨o, hk _ _ e, q⟩, ho.trans h.hos, hg.trans h.gen⟩

theorem St.tok {C : Cx} {F : Frz} {l : Ledger} {s : Shared} (h : St C F l s) (t : Nat) : St C F l { s with toks := t } := h.ext fun _ _ e => e

theorem St.sub {C : Cx} {F : Frz} {l l' : Ledger} {s : Shared} (h : St C F l s) (hs : l'.Sublist l) : St C F l' s :=
  ⟨h.base, h.frz, fun p hp => h.dis p (hs.subset hp), h.nod.sublist (hs.map _), fun p hp => h.own p (hs.subset hp), h.hos, h.gen⟩

theorem St.perm {C : Cx} {F : Frz} {l l' : Ledger} {s : Shared} (h : St C F l s) (hp : l'.Perm l) : St C F l' s :=
  ⟨h.base, h.frz, fun p q => h.dis p (hp.mem_iff.mp q), (hp.map (·.1)).nodup_iff.mpr h.nod, fun p q => h.own p (hp.mem_iff.mp q), h.hos, h.gen⟩

/-- a new object onto the ledger -/
theorem St.push {C : Cx} {F : Frz} {l : Ledger} {s : Shared} (h : St C F l s) {s' : Shared} {a : Addr} {P : OP} (ha : s.heap.objs.size ≤ a)
    (hk : ∀ b o, s.heap.get? b = some o → s'.heap.get? b = some o) (hP : ∃ o, s'.heap.get? a = some o ∧ P o)
    (ho : s'.os = s.os := by rfl) (hg : s'.gens = s.gens := by rfl) : St C F ((a, P) :: l) s' := by
  have h' := h.ext (s' := s') hk ho hg
  refine ⟨h'.base, h'.frz, ?_, ?_, ?_, h'.hos, h'.gen⟩
  · intro p hp
    rcases List.mem_cons.mp hp with rfl | hp
    · cases e : F a with
      | none => rfl
      | some o => exact absurd (Heap.lt_size (h.frz a o e)) (Nat.not_lt.mpr ha)
    · exact h.dis p hp
  · rw [List.map_cons, List.nodup_cons]
    refine ⟨fun hm => ?_, h.nod⟩
    obtain ⟨p, hp, e⟩ := List.mem_map.mp hm
    have := h.lt p hp
    rw [e] at this
    exact absurd this (Nat.not_lt.mpr ha)
  · intro p hp
    rcases List.mem_cons.mp hp with rfl | hp
    · exact hP
    · exact h'.own p hp

inductive Upd (a : Addr) (P P' : OP) : Ledger → Ledger → Prop where
  | here {l : Ledger} : Upd a P P' ((a, P) :: l) ((a, P') :: l)
  | there {x : Addr × OP} {l l' : Ledger} : Upd a P P' l l' → Upd a P P' (x :: l) (x :: l')

theorem Upd.mem {a : Addr} {P P' : OP} {l l' : Ledger} (u : Upd a P P' l l') : (a, P) ∈ l := by
  induction u with
  | here => exact .head _
  | there _ ih => exact .tail _ ih
theorem Upd.keys {a : Addr} {P P' : OP} {l l' : Ledger} (u : Upd a P P' l l') : l'.map (·.1) = l.map (·.1) := by
  induction u with
  | here => rfl
  | there _ ih => rw [List.map_cons, List.map_cons, ih]
theorem Upd.back {a : Addr} {P P' : OP} {l l' : Ledger} (u : Upd a P P' l l') (hn : (l.map (·.1)).Nodup) : ∀ p ∈ l', p = (a, P') ∨ (p ∈ l ∧ p.1 ≠ a) := by
  induction u with
  | here =>
    intro p hp
    rcases List.mem_cons.mp hp with rfl | hp
    · exact .inl rfl
    · refine .inr ⟨.tail _ hp, fun e => ?_⟩
      rw [List.map_cons, List.nodup_cons] at hn
      exact hn.1 (List.mem_map.mpr ⟨p, hp, e⟩)
  | @there x l l' u ih =>
    intro p hp
    rw [List.map_cons, List.nodup_cons] at hn
    rcases List.mem_cons.mp hp with rfl | hp
    · refine .inr ⟨.head _, fun e => hn.1 ?_⟩
      rw [e]; exact List.mem_map_of_mem (f := (·.1)) u.mem
    · rcases ih hn.2 p hp with h | ⟨h1, h2⟩
      · exact .inl h
      · exact .inr ⟨.tail _ h1, h2⟩

/-- one object of the ledger is another -/
theorem St.upd {C : Cx} {F : Frz} {l l' : Ledger} {s s' : Shared} {a : Addr} {P P' : OP} (h : St C F l s) (u : Upd a P P' l l')
    (hk : Heap.ExtBut a s.heap s'.heap) (hP : ∃ o, s'.heap.get? a = some o ∧ P' o)
    (ho : s'.os = s.os := by rfl) (hg : s'.gens = s.gens := by rfl) : St C F l' s' := by
  refine ⟨h.base, fun b o e => hk b o (fun eb => ?_) (h.frz b o e), ?_, by rw [u.keys]; exact h.nod, ?_, ho.trans h.hos, hg.trans h.gen⟩
  · have := h.dis _ u.mem
    rw [← eb, e] at this; cases this
  · intro p hp
    rcases u.back h.nod p hp with rfl | ⟨hp, _⟩
    · exact h.dis (a, P) u.mem
    · exact h.dis p hp
  · intro p hp
    rcases u.back h.nod p hp with rfl | ⟨hp, hne⟩
    · exact hP
    · obtain ⟨o, e, q⟩ := h.own p hp
      exact ⟨o, hk _ o hne e, q⟩

inductive Drop (a : Addr) : Ledger → Ledger → Prop where
  | here {P : OP} {l : Ledger} : Drop a ((a, P) :: l) l
  | there {x : Addr × OP} {l l' : Ledger} : Drop a l l' → Drop a (x :: l) (x :: l')
theorem Drop.sub {a : Addr} {l l' : Ledger} (u : Drop a l l') : l'.Sublist l := by
  induction u with
  | here => exact List.sublist_cons_self _ _
  | there _ ih => exact ih.cons_cons _
theorem Drop.mem {a : Addr} {l l' : Ledger} (u : Drop a l l') : ∃ P, (a, P) ∈ l := by
  induction u with
  | here => exact ⟨_, .head _⟩
  | there _ ih => exact ih.imp fun _ => .tail _
theorem Drop.ne {a : Addr} {l l' : Ledger} (u : Drop a l l') (hn : (l.map (·.1)).Nodup) : ∀ p ∈ l', p.1 ≠ a := by
  induction u with
  | here =>
    intro p hp e
    rw [List.map_cons, List.nodup_cons] at hn
    exact hn.1 (List.mem_map.mpr ⟨p, hp, e⟩)
  | @there x l l' u ih =>
    intro p hp e
    rw [List.map_cons, List.nodup_cons] at hn
    rcases List.mem_cons.mp hp with rfl | hp
    · obtain ⟨P, hm⟩ := u.mem
      exact hn.1 (List.mem_map.mpr ⟨_, hm, e.symm⟩)
    · exact ih hn.2 p hp e
/-- one object of the ledger goes -/
theorem St.drop {C : Cx} {F : Frz} {l l' : Ledger} {s s' : Shared} {a : Addr} (h : St C F l s) (u : Drop a l l')
    (hk : Heap.ExtBut a s.heap s'.heap) (ho : s'.os = s.os := by rfl) (hg : s'.gens = s.gens := by rfl) : St C F l' s' := by
  have h' := h.sub u.sub
  refine ⟨h.base, fun b o e => hk b o (fun eb => ?_) (h.frz b o e), h'.dis, h'.nod, fun p hp => ?_, ho.trans h.hos, hg.trans h.gen⟩
  · obtain ⟨P, hm⟩ := u.mem
    have := h.dis _ hm
    rw [← eb, e] at this; cases this
  · obtain ⟨o, e, q⟩ := h'.own p hp
    exact ⟨o, hk _ o (u.ne h.nod p hp) e, q⟩

theorem St.at {C : Cx} {F : Frz} {l : Ledger} {s : Shared} {a : Addr} {P : OP} (h : St C F l s) (hm : (a, P) ∈ l) : ∃ o, s.heap.get? a = some o ∧ P o := h.own _ hm

/-- an object of the ledger is frozen -/
noncomputable def Frz.add (F : Frz) (a : Addr) (o : Obj) : Frz := fun b => if b = a then some o else F b
noncomputable def Frz.le (F F' : Frz) : Prop := ∀ b o, F b = some o → F' b = some o
theorem Frz.le_refl (F : Frz) : F.le F := fun _ _ e => e
theorem Frz.le_trans {F G H : Frz} (x : F.le G) (y : G.le H) : F.le H := fun b o e => y b o (x b o e)
theorem Frz.le_add {F : Frz} {a : Addr} {o : Obj} (h : F a = none) : F.le (F.add a o) := fun b o' e => by
  unfold Frz.add
  split
  · rename_i eb; rw [eb, h] at e; cases e
  · exact e

theorem St.freeze {C : Cx} {F : Frz} {l : Ledger} {s : Shared} {a : Addr} {P : OP} (h : St C F ((a, P) :: l) s) :
    ∃ o, P o ∧ F a = none ∧ St C (F.add a o) l s := by
  obtain ⟨o, e, q⟩ := h.own _ (.head _)
  refine ⟨o, q, h.dis _ (.head _), ⟨fun b o' e' => Frz.le_add (h.dis _ (.head _)) b o' (h.base b o' e'), fun b o' e' => ?_, fun p hp => ?_, ?_, fun p hp => h.own p (.tail _ hp), h.hos, h.gen⟩⟩
  · unfold Frz.add at e'
    split at e'
    · rename_i eb; cases e'; rw [eb]; exact e
    · exact h.frz b o' e'
  · have hn := h.nod
    rw [List.map_cons, List.nodup_cons] at hn
    unfold Frz.add
    rw [if_neg (fun e => hn.1 (List.mem_map.mpr ⟨p, hp, e⟩))]
    exact h.dis p (.tail _ hp)
  · have hn := h.nod
    rw [List.map_cons, List.nodup_cons] at hn
    exact hn.2
inductive Take (x : Addr × OP) : Ledger → Ledger → Prop where
  | here {r : Ledger} : Take x (x :: r) r
  | there {y : Addr × OP} {l r : Ledger} : Take x l r → Take x (y :: l) (y :: r)
theorem Take.perm {x : Addr × OP} {l r : Ledger} (t : Take x l r) : (x :: r).Perm l := by
  induction t with
  | here => exact .refl _
  | there _ ih => exact (List.Perm.swap _ _ _).trans (ih.cons _)
inductive Pick : Ledger → Ledger → Prop where
  | refl {l : Ledger} : Pick l l
  | skip {x : Addr × OP} {l' l : Ledger} : Pick l' l → Pick l' (x :: l)
  | cons {x : Addr × OP} {l' l r : Ledger} : Take x l r → Pick l' r → Pick (x :: l') l
theorem St.pick {C : Cx} {F : Frz} {l l' : Ledger} {s : Shared} (h : St C F l s) (p : Pick l' l) : St C F l' s := by
  have key : ∃ q, l'.Sublist q ∧ q.Perm l := by
    clear h
    induction p with
    | refl => exact ⟨_, .refl _, .refl _⟩
    | skip _ ih => obtain ⟨q, a, b⟩ := ih; exact ⟨_ :: q, a.cons _, b.cons _⟩
    | cons t _ ih => obtain ⟨q, a, b⟩ := ih; exact ⟨_ :: q, a.cons_cons _, (b.cons _).trans t.perm⟩
  obtain ⟨q, a, b⟩ := key
  exact (h.perm b).sub a

/-! kinds of objects -/
noncomputable def lobj (items : List Value) (n : Nat) : Obj := { cls := .type "list", dict := none, data := .seq items.toArray n, slots := #[] }
noncomputable def IsL (items : List Value) : OP := fun o => ∃ n, o = lobj items n
theorem St.lat {C : Cx} {F : Frz} {l : Ledger} {s : Shared} {a : Addr} {items : List Value} (h : St C F l s) (hm : (a, IsL items) ∈ l) : ∃ n, s.heap.get? a = some (lobj items n) :=
  let ⟨_, e, n, d⟩ := h.at hm; ⟨n, by rw [e, d]⟩
theorem St.isList {C : Cx} {F : Frz} {l : Ledger} {s : Shared} {a : Addr} {items : List Value} (h : St C F l s) (hm : (a, IsL items) ∈ l) : s.heap.IsList a items.toArray :=
  let ⟨n, e⟩ := h.lat hm; ⟨_, e, rfl, n, rfl⟩
/-- a list of the ledger is changed by the machine -/
theorem St.mapSeq {C : Cx} {F : Frz} {l l' : Ledger} {s s' : Shared} {a : Addr} {items items' : List Value} (h : St C F l s) (u : Upd a (IsL items) (IsL items') l l') (g : Array Value → Array Value) (hg : g items.toArray = items'.toArray)
    (hh : s'.heap = s.heap.update a (Obj.mapSeq g)) (ho : s'.os = s.os := by rfl) (hgn : s'.gens = s.gens := by rfl) : St C F l' s' := by
  obtain ⟨n, e⟩ := h.lat u.mem
  refine h.upd u (by rw [hh]; exact (Heap.SameBut.update ..).extBut) ⟨lobj items' (if (g items.toArray).size == items.toArray.size then n else n + 1), ?_, _, rfl⟩ ho hgn
  rw [hh]
  have := get?_update_seq (c := "list") (xs := items.toArray) (n := n) e g
  rw [hg] at this ⊢
  exact this

/-- a frame's names: what is known of them -/
noncomputable def NsH (vars : List (Str × Value)) : OP := fun o => (vars.map (·.1)).Nodup ∧ ∃ es ep, o.data = .dict es ep ∧ StrKeys es ∧ ∀ p ∈ vars, nsFind es p.1 = some p.2
theorem St.ns {C : Cx} {F : Frz} {l : Ledger} {s : Shared} {a : Addr} {vars : List (Str × Value)} (h : St C F l s) (hm : (a, NsH vars) ∈ l) :
    ∃ m, s.heap.Ns a m ∧ (vars.map (·.1)).Nodup ∧ ∀ p ∈ vars, m p.1 = some p.2 :=
  let ⟨o, e, nd, es, ep, d, k, v⟩ := h.at hm; ⟨nsFind es, ⟨o, es, ep, e, d, k, fun _ => rfl⟩, nd, v⟩
theorem nsH_of {h : Heap} {a : Addr} {m : Str → Option Value} (x : h.Ns a m) {vars : List (Str × Value)} (nd : (vars.map (·.1)).Nodup) (hv : ∀ p ∈ vars, m p.1 = some p.2) : ∃ o, h.get? a = some o ∧ NsH vars o :=
  let ⟨o, es, ep, e, d, k, f⟩ := x; ⟨o, e, nd, es, ep, d, k, fun p hp => (f _).trans (hv p hp)⟩

inductive VSet (x : Str) (v : Value) : List (Str × Value) → List (Str × Value) → Prop where
  | nil : VSet x v [] [(x, v)]
  | hit {u : Value} {r : List (Str × Value)} : VSet x v ((x, u) :: r) ((x, v) :: r)
  | miss {y : Str} {u : Value} {r r' : List (Str × Value)} : y ≠ x → VSet x v r r' → VSet x v ((y, u) :: r) ((y, u) :: r')

theorem VSet.get {x : Str} {v : Value} {r r' : List (Str × Value)} (u : VSet x v r r') {m : Str → Option Value} (h : ∀ p ∈ r, m p.1 = some p.2) (hn : (r.map (·.1)).Nodup) :
    ∀ p ∈ r', (if p.1 = x then some v else m p.1) = some p.2 := by
  induction u with
  | nil => intro p hp; cases hp with | head => simp | tail _ h => cases h
  | @hit w r =>
    intro p hp
    rw [List.map_cons, List.nodup_cons] at hn
    rcases List.mem_cons.mp hp with rfl | hp
    · simp
    · rw [if_neg (fun e => hn.1 (List.mem_map.mpr ⟨p, hp, e⟩))]
      exact h p (.tail _ hp)
  | @miss y w r r' hy u ih =>
    intro p hp
    rw [List.map_cons, List.nodup_cons] at hn
    rcases List.mem_cons.mp hp with rfl | hp
    · rw [if_neg hy]; exact h _ (.head _)
    · exact ih (fun q hq => h q (.tail _ hq)) hn.2 p hp

theorem VSet.keys {x : Str} {v : Value} {r r' : List (Str × Value)} (u : VSet x v r r') : ∀ p ∈ r', p.1 = x ∨ p.1 ∈ r.map (·.1) := by
  induction u with
  | nil => intro p hp; cases hp with | head => exact .inl rfl | tail _ h => cases h
  | hit =>
    intro p hp
    rcases List.mem_cons.mp hp with rfl | hp
    · exact .inl rfl
    · exact .inr (.tail _ (List.mem_map_of_mem hp))
  | miss hy u ih =>
    intro p hp
    rcases List.mem_cons.mp hp with rfl | hp
    · exact .inr (.head _)
    · exact (ih p hp).imp_right (.tail _)
theorem VSet.nodup {x : Str} {v : Value} {r r' : List (Str × Value)} (u : VSet x v r r') (hn : (r.map (·.1)).Nodup) : (r'.map (·.1)).Nodup := by
  induction u with
  | nil => simp
  | hit => exact hn
  | @miss y w r r' hy u ih =>
    rw [List.map_cons, List.nodup_cons] at hn ⊢
    refine ⟨fun hm => ?_, ih hn.2⟩
    obtain ⟨p, hp, e⟩ := List.mem_map.mp hm
    rcases u.keys p hp with h | h
    · exact hy (e.symm.trans h)
    · exact hn.1 (e ▸ h)


end
section
open PySem.SeqAt MeetsSeq MeetsSeq2 MeetsSeq3 SeqRoads2
open AutoSeq1 (wpAny_loadPart')

abbrev Row := Int × Str
noncomputable def rlt (a b : Row) : Bool := if a.1 = b.1 then decide (a.2.cps.toList < b.2.cps.toList) else decide (a.1 < b.1)

theorem rlt_same {i j : Int} {x y : Str} (h : i = j) : rlt (i, x) (j, y) = decide (x.cps.toList < y.cps.toList) := by unfold rlt; rw [if_pos h]
theorem rlt_other {i j : Int} {x y : Str} (h : i ≠ j) : rlt (i, x) (j, y) = decide (i < j) := by unfold rlt; rw [if_neg h]

section
variable {l b : Addr} {i j : Int} {x y : Str} {t u t' u' : Tok} {n n2 : Nat} {dd dd2 : Option Addr} {sl sl2 : Array (Option Value)} {xs ys : Array Value}

theorem row_loop_Lt (x0 : xs[(0 : Int).toNat]? = some (.int i t)) (x1 : xs[((0 : Int) + 1).toNat]? = some (.str x u)) (x2 : xs[((0 : Int) + 1 + 1).toNat]? = none) (y0 : ys[(0 : Int).toNat]? = some (.int j t')) (y1 : ys[((0 : Int) + 1).toNat]? = some (.str y u'))
    (hz : xs.size = ys.size) :
    Meets (Builtin.«list.__eq__.loop» ⟨[.ref l, .ref b, rawInt 0, rawInt 0], []⟩)
      (fun A R s => s.heap.get? l = some { cls := .type "list", dict := dd, data := .seq xs n, slots := sl } ∧
        s.heap.get? b = some { cls := .type "list", dict := dd2, data := .seq ys n2, slots := sl2 } ∧
        R (.ok (.ret (.bool (rlt (i, x) (j, y))))) s) := by
  intro prog w A R s h
  obtain ⟨hp, g, d, tk, os⟩ := s; obtain ⟨hl, hb, h⟩ := h
  wp_walk using wpAny_loadPart' hl, wpAny_loadPart' hb
  rw [x0, y0]
  refine wpAny_bind (EqAt.int_int _ _ _ _ prog w _ _ ?_)
  by_cases hij : i = j
  · rw [beq_iff_eq.mpr hij]
    wp_walk
    refine ⟨plainId_quiet plain_eq_loop _, codeAny_builtin entry_eq_loop ?_⟩
    rw [Around.under_plainId plain_eq_loop _]
    wp_walk using wpAny_loadPart' hl, wpAny_loadPart' hb
    rw [x1, y1]
    refine wpAny_bind (EqAt.str_str _ _ _ _ prog w _ _ ?_)
    rw [rlt_same hij] at h
    by_cases hxy : x = y
    · rw [beq_iff_eq.mpr hxy]
      wp_walk
      refine ⟨plainId_quiet plain_eq_loop _, codeAny_builtin entry_eq_loop ?_⟩
      rw [Around.under_plainId plain_eq_loop _]
      wp_walk using wpAny_loadPart' hl, wpAny_loadPart' hb
      rw [x2]
      wp_walk using wpAny_loadPart' hl, wpAny_loadPart' hb
      subst hxy
      have e : decide (x.cps.toList < x.cps.toList) = false := by simpa using List.lt_irrefl _
      rw [e] at h
      have e2 : decide (xs.size < ys.size) = false := by rw [hz]; simp
      show R (.ok (.ret (.bool (decide (xs.size < ys.size))))) _
      rw [e2]
      exact h
    · rw [beq_eq_false_iff_ne.mpr hxy]
      wp_walk using wpAny_loadPart' hl, wpAny_loadPart' hb
      rw [x1, y1]
      refine wpAny_bind ?_
      show wpAny _ _ (compareOp .Lt (.str x u) (.str y u')) _ _ _
      exact PyProof.Rows.lt_str (wpAny_pure h)
  · rw [beq_eq_false_iff_ne.mpr hij]
    wp_walk using wpAny_loadPart' hl, wpAny_loadPart' hb
    rw [x0, y0]
    refine wpAny_bind ?_
    show wpAny _ _ (compareOp .Lt (.int i t) (.int j t')) _ _ _
    rw [rlt_other hij] at h
    exact wpAny_lt_int (wpAny_pure h)

theorem row_Lt_at {prog : Program} {w : World} {A : Around} {E : Value → Shared → Prop} {s : Shared} {Q : Value → Shared → Prop}
    (hl : s.heap.IsList l #[.int i t, .str x u]) (hb : s.heap.IsList b #[.int j t', .str y u']) (hu : A.units < cLine)
    (h : Q (.bool (rlt (i, x) (j, y))) s) : wpAny (model prog w) A (compareOp .Lt (.ref l) (.ref b)) Q E s := by
  show wpAny _ _ (richCompare .Lt (.ref l) (.ref b)) Q E s
  obtain ⟨⟨cls, dd, data, sl⟩, ho, hc, n, hd⟩ := id hl
  obtain ⟨⟨cls2, dd2, data2, sl2⟩, ho2, hc2, n2, hd2⟩ := id hb
  simp only at hc hd hc2 hd2
  subst hc hd hc2 hd2
  have g : Meets (Builtin.«list.__lt__» ⟨[.ref l, .ref b], []⟩)
      (fun A R s => s.heap.get? l = some { cls := .type "list", dict := dd, data := .seq #[.int i t, .str x u] n, slots := sl } ∧
        s.heap.get? b = some { cls := .type "list", dict := dd2, data := .seq #[.int j t', .str y u'] n2, slots := sl2 } ∧
        R (.ok (.ret (.bool (rlt (i, x) (j, y))))) s) := by
    intro prog w A R s h
    obtain ⟨hp, g, d, tk, os⟩ := s; obtain ⟨hl, hb, h⟩ := h
    have f3 := AutoSeq1.sub_list_list
    wp_walk using wpAny_loadPart' hl, wpAny_loadPart' hb
    exact ⟨plainId_quiet plain_eq_loop _, codeAny_builtin entry_eq_loop (by
      rw [Around.under_plainId plain_eq_loop _]
      exact row_loop_Lt (xs := #[.int i t, .str x u]) (ys := #[.int j t', .str y u']) rfl rfl rfl rfl rfl rfl prog w A R _ ⟨hl, hb, h⟩)⟩
  exact richCompare_meets_room (op := .Lt) ⟨_, ho, rfl⟩ ⟨_, ho2, rfl⟩ F.slot_list_lt F.entry_list_lt (F.args_list_lt_2 _ _) g
    ⟨ho, ho2, show Value.bool (rlt (i, x) (j, y)) ≠ Value.notImplemented ∧ Q (.bool (rlt (i, x) (j, y))) s from ⟨(fun x => nomatch x), h⟩⟩ hu

theorem row_loop_Gt (x0 : xs[(0 : Int).toNat]? = some (.int i t)) (x1 : xs[((0 : Int) + 1).toNat]? = some (.str x u)) (x2 : xs[((0 : Int) + 1 + 1).toNat]? = none) (y0 : ys[(0 : Int).toNat]? = some (.int j t')) (y1 : ys[((0 : Int) + 1).toNat]? = some (.str y u'))
    (hz : xs.size = ys.size) :
    Meets (Builtin.«list.__eq__.loop» ⟨[.ref l, .ref b, rawInt 0, rawInt 4], []⟩)
      (fun A R s => s.heap.get? l = some { cls := .type "list", dict := dd, data := .seq xs n, slots := sl } ∧
        s.heap.get? b = some { cls := .type "list", dict := dd2, data := .seq ys n2, slots := sl2 } ∧
        R (.ok (.ret (.bool (rlt (j, y) (i, x))))) s) := by
  intro prog w A R s h
  obtain ⟨hp, g, d, tk, os⟩ := s; obtain ⟨hl, hb, h⟩ := h
  wp_walk using wpAny_loadPart' hl, wpAny_loadPart' hb
  rw [x0, y0]
  refine wpAny_bind (EqAt.int_int _ _ _ _ prog w _ _ ?_)
  by_cases hij : i = j
  · rw [beq_iff_eq.mpr hij]
    wp_walk
    refine ⟨plainId_quiet plain_eq_loop _, codeAny_builtin entry_eq_loop ?_⟩
    rw [Around.under_plainId plain_eq_loop _]
    wp_walk using wpAny_loadPart' hl, wpAny_loadPart' hb
    rw [x1, y1]
    refine wpAny_bind (EqAt.str_str _ _ _ _ prog w _ _ ?_)
    rw [rlt_same hij.symm] at h
    by_cases hxy : x = y
    · rw [beq_iff_eq.mpr hxy]
      wp_walk
      refine ⟨plainId_quiet plain_eq_loop _, codeAny_builtin entry_eq_loop ?_⟩
      rw [Around.under_plainId plain_eq_loop _]
      wp_walk using wpAny_loadPart' hl, wpAny_loadPart' hb
      rw [x2]
      wp_walk using wpAny_loadPart' hl, wpAny_loadPart' hb
      subst hxy
      have e : decide (x.cps.toList < x.cps.toList) = false := by simpa using List.lt_irrefl _
      rw [e] at h
      have e2 : decide (xs.size > ys.size) = false := by rw [hz]; simp
      show R (.ok (.ret (.bool (decide (xs.size > ys.size))))) _
      rw [e2]
      exact h
    · rw [beq_eq_false_iff_ne.mpr hxy]
      wp_walk using wpAny_loadPart' hl, wpAny_loadPart' hb
      rw [x1, y1]
      refine wpAny_bind ?_
      show wpAny _ _ (compareOp .Gt (.str x u) (.str y u')) _ _ _
      exact PySem.P.gt_str (wpAny_pure h)
  · rw [beq_eq_false_iff_ne.mpr hij]
    wp_walk using wpAny_loadPart' hl, wpAny_loadPart' hb
    rw [x0, y0]
    refine wpAny_bind ?_
    show wpAny _ _ (compareOp .Gt (.int i t) (.int j t')) _ _ _
    rw [rlt_other (Ne.symm hij)] at h
    exact PyProof.Rows.gt_int (wpAny_pure h)

theorem row_Gt_at {prog : Program} {w : World} {A : Around} {E : Value → Shared → Prop} {s : Shared} {Q : Value → Shared → Prop}
    (hl : s.heap.IsList l #[.int i t, .str x u]) (hb : s.heap.IsList b #[.int j t', .str y u']) (hu : A.units < cLine)
    (h : Q (.bool (rlt (j, y) (i, x))) s) : wpAny (model prog w) A (compareOp .Gt (.ref l) (.ref b)) Q E s := by
  show wpAny _ _ (richCompare .Gt (.ref l) (.ref b)) Q E s
  obtain ⟨⟨cls, dd, data, sl⟩, ho, hc, n, hd⟩ := id hl
  obtain ⟨⟨cls2, dd2, data2, sl2⟩, ho2, hc2, n2, hd2⟩ := id hb
  simp only at hc hd hc2 hd2
  subst hc hd hc2 hd2
  have g : Meets (Builtin.«list.__gt__» ⟨[.ref l, .ref b], []⟩)
      (fun A R s => s.heap.get? l = some { cls := .type "list", dict := dd, data := .seq #[.int i t, .str x u] n, slots := sl } ∧
        s.heap.get? b = some { cls := .type "list", dict := dd2, data := .seq #[.int j t', .str y u'] n2, slots := sl2 } ∧
        R (.ok (.ret (.bool (rlt (j, y) (i, x))))) s) := by
    intro prog w A R s h
    obtain ⟨hp, g, d, tk, os⟩ := s; obtain ⟨hl, hb, h⟩ := h
    have f3 := AutoSeq1.sub_list_list
    wp_walk using wpAny_loadPart' hl, wpAny_loadPart' hb
    exact ⟨plainId_quiet plain_eq_loop _, codeAny_builtin entry_eq_loop (by
      rw [Around.under_plainId plain_eq_loop _]
      exact row_loop_Gt (xs := #[.int i t, .str x u]) (ys := #[.int j t', .str y u']) rfl rfl rfl rfl rfl rfl prog w A R _ ⟨hl, hb, h⟩)⟩
  exact richCompare_meets_room (op := .Gt) ⟨_, ho, rfl⟩ ⟨_, ho2, rfl⟩ F.slot_list_gt F.entry_list_gt (F.args_list_gt_2 _ _) g
    ⟨ho, ho2, show Value.bool (rlt (j, y) (i, x)) ≠ Value.notImplemented ∧ Q (.bool (rlt (j, y) (i, x))) s from ⟨(fun x => nomatch x), h⟩⟩ hu
end

end
section

theorem iteT {p q : Prop} (h : p) : if true = true then p else q := by rw [if_pos rfl]; exact h
theorem iteF {p q : Prop} (h : q) : if false = true then p else q := by rw [if_neg (by decide)]; exact h

theorem list_setitem_at (l : Addr) (items : Array Value) (n : Nat) (k : Int) (t : Tok) (v y : Value) (h0 : 0 ≤ k) (hk : k < 2 ^ 63) (hy : items[k.toNat]? = some y) :
    Meets (Builtin.«list.__setitem__» ⟨[.ref l, .int k t, v], []⟩)
      (fun _ R s => s.heap.get? l = some { cls := .type "list", dict := none, data := .seq items n, slots := #[] } ∧ R (.ok (.ret .none)) { s with heap := s.heap.update l (Obj.mapSeq (·.setIfInBounds k.toNat v)) }) := by
  intro prog w A R s h
  obtain ⟨hl, h⟩ := h
  show wpAny _ _ (Builtin.List.listSubscript? (.int k t) >>= _) _ _ s
  refine wpAny_bind (wpAny_listSubscript_int (fitsIndex_of h0 hk) ?_)
  clear hk
  obtain ⟨j, rfl⟩ := Int.eq_ofNat_of_zero_le h0
  have hy' : items[j]? = some y := hy
  show wpAny _ _ ((seqItemAt l j >>= fun r => pure (r.map (j, ·))) >>= _) _ _ s
  refine wpAny_bind (wpAny_bind (wpAny_seqItemAt hl rfl (wpAny_pure ?_)))
  rw [hy']
  show wpAny _ _ (setSeqItemAt l j v >>= _) _ _ s
  exact wpAny_bind (wpAny_setSeqItemAt hl rfl (wpAny_pure h))
theorem setItem_exact {prog : Program} {w : World} {A : Around} {E : Value → Shared → Prop} {s : Shared} {l : Addr} {items : Array Value} {n : Nat} {k : Int} {t : Tok} {v : Value} {Q : Unit → Shared → Prop}
   (hl : s.heap.get? l = some { cls := .type "list", dict := none, data := .seq items n, slots := #[] }) (h0 : 0 ≤ k) (hk : k < 2 ^ 63) (hn : k < items.size)
   (h : Q () { s with heap := s.heap.update l (Obj.mapSeq (·.setIfInBounds k.toNat v)) }) : wpAny (model prog w) A (setItem (.ref l) (.int k t) v) Q E s := by
  have hT : s.TypeIs (.ref l) "list" := ⟨_, hl, rfl⟩
  have g := list_setitem_at l items n k t v _ h0 hk (Array.getElem?_eq_getElem (by omega))
  clear hk
  unfold setItem
  refine wpAny_holding ?_
  refine wpAny_bind (wpAny_sequenceKey hT (by decide) ?_)
  refine wpAny_bind (wpAny_callSpecial?_slot (name := Str.ofString "__setitem__") hT slot_list_setitem
    (call_meets slot_list_setitem hT entry_list_setitem (args_list_setitem _ _ _) g ⟨hl, ?_⟩))
  exact wpAny_pure h

/-! the program's defs, by place -/
noncomputable def stmtAt (i : Nat) : Option Stmt := PySem.Challenge.pw_oy0122_01.main.body[i]?
noncomputable def fBody (i : Nat) : List Stmt := match stmtAt i with | some (.FunctionDef _ _ body _ _ _ _ _ _ _) => body | _ => []
noncomputable def fScope (i : Nat) : Scope := match stmtAt i with | some (.FunctionDef _ _ _ _ _ _ sc _ _ _) => sc | _ => default
noncomputable def fParams (i : Nat) : Arguments := match stmtAt i with | some (.FunctionDef _ ps _ _ _ _ _ _ _ _) => ps | _ => default
noncomputable def fName (i : Nat) : Str := match stmtAt i with | some (.FunctionDef n _ _ _ _ _ _ _ _ _) => n | _ => default

/-- a def of the text stands -/
structure FnAt (C : Cx) (i : Nat) (cd : Value) : Prop where
  glob : C.mg (fName i) = some (.ref (C.fn i))
  at_ : ∃ o pm doc, C.hw.get? (C.fn i) = some o ∧ o.data = .func (docDef (fName i) (fParams i) (fBody i) (fScope i) pm cd doc)
  code : C.hw.CodeRec cd (fName i)

structure Wd (C : Cx) : Prop where
  g : C.hw.Ns mainGlobals C.mg
  b : C.hw.Ns builtinsNs C.mb
  nolimit : C.hw.NoLimit
  isLen : C.mg "len" = none ∧ C.mb "len" = some (.builtin "len")
  isRange : C.mg "range" = none ∧ C.mb "range" = some (.type "range")
  isRev : C.mg "reversed" = none ∧ C.mb "reversed" = some (.type "reversed")
  isSorted : C.mg "sorted" = none ∧ C.mb "sorted" = some (.builtin "sorted")
  isZip : C.mg "zip" = none ∧ C.mb "zip" = some (.type "zip")

theorem St.sup {C : Cx} {F : Frz} {l : Ledger} {s : Shared} (h : St C F l s) : ∀ b o, C.hw.get? b = some o → s.heap.get? b = some o := fun b o e => h.frz b o (h.base b o e)

/-- room for calls -/
structure Rm (A : Around) (n : Nat) : Prop where
  handled : A.handled = none
  depth : A.depth + n < recursionLimit
  units : A.units + 8 * n < cLine
theorem Rm.deeper {A : Around} {n : Nat} {env : Env} (h : Rm A (n + 1)) : Rm (A.deeper env) n :=
  ⟨h.handled, by have := h.depth; show A.depth + 1 + n < _; omega, by have := h.units; show A.units + 3 + 8 * n < _; omega⟩
theorem Rm.less {A : Around} {n m : Nat} (h : Rm A n) (hm : m ≤ n) : Rm A m := ⟨h.handled, by have := h.depth; omega, by have := h.units; omega⟩
theorem Rm.u {A : Around} {n : Nat} (h : Rm A n) : A.units < cLine := by have := h.units; omega
theorem Rm.d {A : Around} {n : Nat} (h : Rm A n) : A.depth < recursionLimit := by have := h.depth; omega

section
variable {C : Cx} {F : Frz} {l : Ledger} {A : Around} {E : Value → Shared → Prop} {s : Shared} {env : Env} {fname : Str} {scope : Scope} {L fa : Addr} {cd : Value}

theorem nm {x : Str} {pos : Pos} {v : Value} {vars : List (Str × Value)} {Q : Value → Shared → Prop} (hs : St C F l s) (hm : (L, NsH vars) ∈ l) (hv : (x, v) ∈ vars) (h : Q v s)
    (hk : scope.kind = .function := by rfl) (hl : (envOf fname scope L fa cd).kindOf x = some .local := by rfl) (hd : (x == ("__debug__" : Str)) = false := by decide) :
    wpAny C.M A (eval (.Name x pos) (envOf fname scope L fa cd)) Q E s := by
  obtain ⟨m, n, _, k⟩ := hs.ns hm
  exact wpAny_Name (wpAny_loadName_local hk hl n (k _ hv) h) hd

theorem ldn' {x : Str} {v : Value} {vars : List (Str × Value)} {Q : Value → Shared → Prop} (hs : St C F l s) (hm : (L, NsH vars) ∈ l) (hv : (x, v) ∈ vars) (h : Q v s)
    (hk : scope.kind = .function := by rfl) (hl : (envOf fname scope L fa cd).kindOf x = some .local := by rfl) :
    wpAny C.M A (loadName (envOf fname scope L fa cd) x) Q E s := by
  obtain ⟨m, n, _, k⟩ := hs.ns hm
  exact wpAny_loadName_local hk hl n (k _ hv) h

theorem gl {x : Str} {pos : Pos} {v : Value} {Q : Value → Shared → Prop} (W : Wd C) (hs : St C F l s) (hv : C.mg x = some v) (h : Q v s) (hG : env.globals = mainGlobals := by rfl)
    (hk : env.scope.kind = .function := by rfl) (hl : env.kindOf x = some .globalImplicit := by rfl) (hd : (x == ("__debug__" : Str)) = false := by decide) :
    wpAny C.M A (eval (.Name x pos) env) Q E s :=
  Name_function_global hk hl (loadGlobal_global (hG ▸ W.g.keeps hs.sup) hv h) hd

theorem bi {x : Str} {pos : Pos} {v : Value} {Q : Value → Shared → Prop} (W : Wd C) (hs : St C F l s) (hv : C.mg x = none ∧ C.mb x = some v) (h : Q v s) (hG : env.globals = mainGlobals := by rfl) (hB : env.builtins = builtinsNs := by rfl)
    (hk : env.scope.kind = .function := by rfl) (hl : env.kindOf x = some .globalImplicit := by rfl) (hd : (x == ("__debug__" : Str)) = false := by decide) :
    wpAny C.M A (eval (.Name x pos) env) Q E s :=
  Name_function_global hk hl (loadGlobal_builtin (hG ▸ W.g.keeps hs.sup) hv.1 (hB ▸ W.b.keeps hs.sup) hv.2 h) hd

theorem sto {x : Str} {v : Value} {vars vars' : List (Str × Value)} {l' : Ledger} {Q : Unit → Shared → Prop} (hs : St C F l s) (u : Upd L (NsH vars) (NsH vars') l l') (hv : VSet x v vars vars')
    (h : ∀ s', St C F l' s' → Q () s') (hk : scope.kind = .function := by rfl) (hl : (envOf fname scope L fa cd).kindOf x = some .local := by rfl) :
    wpAny C.M A (storeName (envOf fname scope L fa cd) x v) Q E s := by
  obtain ⟨m, n, nd, k⟩ := hs.ns u.mem
  refine wpAny_storeName_local hl n (fun h' hn hsb => h _ (hs.upd u hsb.extBut (nsH_of hn (hv.nodup nd) (hv.get k nd)))) ?_
  show (scope.kind == .class || (scope.kind == .module && L != mainGlobals)) = false
  rw [hk]; rfl

theorem k_int {i : Int} {k : Nat} {pos : Pos} {Q : Value → Shared → Prop} (hs : St C F l s) (h : ∀ t s', St C F l s' → Q (.int i t) s') : wpAny C.M A (eval (.Constant (.int i) k pos) env) Q E s :=
  wpAny_Constant_int (h _ _ (hs.tok _))
theorem k_str {x : Str} {k : Nat} {pos : Pos} {Q : Value → Shared → Prop} (hs : St C F l s) (h : ∀ t s', St C F l s' → Q (.str x t) s') : wpAny C.M A (eval (.Constant (.str x) k pos) env) Q E s :=
  wpAny_Constant_str (h _ _ (hs.tok _))

theorem o_add {a b : Int} {t u : Tok} {Q : Value → Shared → Prop} (hs : St C F l s) (h : ∀ t s', St C F l s' → Q (.int (a + b) t) s') : wpAny C.M A (binaryOp .Add (.int a t) (.int b u)) Q E s := PyProof.Rows.add_int (h _ _ (hs.tok _))
theorem o_iadd {a b : Int} {t u : Tok} {Q : Value → Shared → Prop} (hs : St C F l s) (h : ∀ t s', St C F l s' → Q (.int (a + b) t) s') : wpAny C.M A (inplaceOp .Add (.int a t) (.int b u)) Q E s := wpAny_iadd_int (h _ _ (hs.tok _))
theorem o_sub {a b : Int} {t u : Tok} {Q : Value → Shared → Prop} (hs : St C F l s) (h : ∀ t s', St C F l s' → Q (.int (a - b) t) s') : wpAny C.M A (binaryOp .Sub (.int a t) (.int b u)) Q E s := PyProof.Rows.sub_int (h _ _ (hs.tok _))
theorem o_mul {a b : Int} {t u : Tok} {Q : Value → Shared → Prop} (hs : St C F l s) (hm : IntMulOk a b) (h : ∀ t s', St C F l s' → Q (.int (a * b) t) s') : wpAny C.M A (binaryOp .Mult (.int a t) (.int b u)) Q E s := PyProof.Rows.mul_int (h _ _ (hs.tok _)) hm
theorem o_shr {a b : Int} {t u : Tok} {Q : Value → Shared → Prop} (hs : St C F l s) (hb : 0 ≤ b) (h : ∀ t s', St C F l s' → Q (.int (a.fdiv (2 ^ b.toNat)) t) s') : wpAny C.M A (binaryOp .RShift (.int a t) (.int b u)) Q E s := PyProof.Rows.rshift_int hb (h _ _ (hs.tok _))
theorem o_fdiv {a b : Int} {t u : Tok} {Q : Value → Shared → Prop} (hs : St C F l s) (hb : 0 < b ∧ b < 1073741824) (h : ∀ t s', St C F l s' → Q (.int (a.fdiv b) t) s') : wpAny C.M A (binaryOp .FloorDiv (.int a t) (.int b u)) Q E s := PyProof.Rows.floordiv_int (by omega) (h _ _ (hs.tok _)) (.inl (PyProof.noPylong_small (by omega)))
theorem o_fmod {a b : Int} {t u : Tok} {Q : Value → Shared → Prop} (hs : St C F l s) (hb : 0 < b ∧ b < 1073741824) (h : ∀ t s', St C F l s' → Q (.int (a.fmod b) t) s') : wpAny C.M A (binaryOp .Mod (.int a t) (.int b u)) Q E s := PyProof.Rows.mod_int' (by omega) (h _ _ (hs.tok _))

/-! lists -/
theorem item {value slice : Expr} {a : Addr} {items : List Value} {k : Int} {t : Tok} {v : Value} {Q : Value → Shared → Prop} (hs : St C F l s) (hm : (a, IsL items) ∈ l) (h0 : 0 ≤ k) (hf : k < 2 ^ 63) (hx : items[k.toNat]? = some v) (h : Q v s)
    (hsub : subscripted slice false (.ref a) (.int k t) = operate [.ref a, .int k t] (getItem (.ref a) (.int k t)) := by with_unfolding_all rfl) : wpAny C.M A (subscriptTail value slice (.ref a) (.int k t)) Q E s :=
  tail_any (hs.isList hm).typeIs slot_list_getitem.lookup (wpAny_getItem_list (hs.isList hm) h0 hf (by simpa using hx) h) hsub

theorem setI {a : Addr} {items : List Value} {k : Int} {t : Tok} {v : Value} {l' : Ledger} {Q : Unit → Shared → Prop} (hs : St C F l s) (u : Upd a (IsL items) (IsL (items.set k.toNat v)) l l') (h0 : 0 ≤ k) (hf : k < 2 ^ 63) (hn : k < items.length)
    (h : ∀ s', St C F l' s' → Q () s') : wpAny C.M A (setItem (.ref a) (.int k t) v) Q E s :=
  let ⟨_, e⟩ := hs.lat u.mem
  setItem_exact e h0 hf (by simpa using hn) (h _ (hs.mapSeq u _ (by simp) rfl))

/-! methods of lists -/
theorem m_list {a : Addr} {items : List Value} {name : Str} {id : String} {pl : Sem Bool} {Q : Value × List Value → Shared → Prop} (hs : St C F l s) (hm : (a, IsL items) ∈ l) (slot : Slot "list" name id)
    (hty : typeOf (.builtin id) = pure (.type "method_descriptor")) (h : Q (.builtin id, [.ref a]) s) : wpAny C.M A (getMethod (.ref a) name pl) Q E s :=
  let ⟨_, e⟩ := hs.lat hm
  getMethod_builtin (hs.isList hm).typeIs PySem.F.plainAttrs_list slot hty (fun b eb => by cases eb; exact ⟨_, e, rfl⟩) h
theorem appendL {a : Addr} {items : List Value} {x : Value} {l' : Ledger} {Q : Value → Shared → Prop} (hs : St C F l s) (u : Upd a (IsL items) (IsL (items ++ [x])) l l') (hz : items.length < 100000)
    (h : ∀ s', St C F l' s' → Q .none s') : wpAny C.M A (call (.builtin "list.append") [.ref a, x]) Q E s :=
  let ⟨n, e⟩ := hs.lat u.mem
  call_meets PySem.F.slot_list_append (hs.isList u.mem).typeIs PySem.F.entry_list_append (PySem.F.args_list_append_2 _ _) (PySem.list_append a items.toArray n x (by rw [List.size_toArray, sizeLine_eq]; omega))
    ⟨e, h _ (hs.mapSeq u _ (by simp) rfl)⟩
theorem popL {a : Addr} {items : List Value} {x : Value} {l' : Ledger} {Q : Value → Shared → Prop} (hs : St C F l s) (u : Upd a (IsL (items ++ [x])) (IsL items) l l') (hz : items.length < 100000)
    (h : ∀ s', St C F l' s' → Q x s') : wpAny C.M A (call (.builtin "list.pop") [.ref a]) Q E s :=
  let ⟨n, e⟩ := hs.lat u.mem
  call_meets PySem.F.slot_list_pop (hs.isList u.mem).typeIs PySem.F.entry_list_pop (PySem.F.args_list_pop_1 _) (MeetsSeq.list_pop_last a (items ++ [x]).toArray n x (by simp) (by rw [List.size_toArray, sizeLine_eq, List.length_append]; simp only [List.length_cons, List.length_nil]; omega))
    ⟨e, h _ (hs.mapSeq u _ (by simp [List.eraseIdx_append_of_length_le]) rfl)⟩

theorem len_l {a : Addr} {items : List Value} {Q : Value → Shared → Prop} (hs : St C F l s) (hm : (a, IsL items) ∈ l) (hf : (items.length : Int) < 2 ^ 63) (h : ∀ t s', St C F l s' → Q (.int items.length t) s') :
    wpAny C.M A (call (.builtin "len") [.ref a]) Q E s :=
  call_len_list (hs.isList hm) (by simpa using hf) (by simpa using h _ _ (hs.tok _))

noncomputable def RowAt (F : Frz) (v : Value) (r : Row) : Prop := ∃ a o t u n, v = .ref a ∧ F a = some o ∧ o.cls = .type "list" ∧ o.data = .seq #[.int r.1 t, .str r.2 u] n
theorem RowAt.mono {F F' : Frz} {v : Value} {r : Row} (h : RowAt F v r) (hF : F.le F') : RowAt F' v r := let ⟨a, o, t, u, n, e, f, c, d⟩ := h; ⟨a, o, t, u, n, e, hF _ _ f, c, d⟩
theorem RowAt.list {v : Value} {r : Row} (h : RowAt F v r) (hs : St C F l s) : ∃ a t u, v = .ref a ∧ s.heap.IsList a #[.int r.1 t, .str r.2 u] :=
  let ⟨a, o, t, u, n, e, f, c, d⟩ := h; ⟨a, t, u, e, o, hs.frz _ _ f, c, n, d⟩

theorem row_lt {v v' : Value} {r r' : Row} {Q : Value → Shared → Prop} (hs : St C F l s) (hv : RowAt F v r) (hv' : RowAt F v' r') (hu : A.units < cLine) (h : Q (.bool (rlt r r')) s) : wpAny C.M A (compareOp .Lt v v') Q E s := by
  obtain ⟨a, t, u, rfl, x⟩ := hv.list hs
  obtain ⟨b, t', u', rfl, y⟩ := hv'.list hs
  exact row_Lt_at x y hu h
theorem row_gt {v v' : Value} {r r' : Row} {Q : Value → Shared → Prop} (hs : St C F l s) (hv : RowAt F v r) (hv' : RowAt F v' r') (hu : A.units < cLine) (h : Q (.bool (rlt r' r)) s) : wpAny C.M A (compareOp .Gt v v') Q E s := by
  obtain ⟨a, t, u, rfl, x⟩ := hv.list hs
  obtain ⟨b, t', u', rfl, y⟩ := hv'.list hs
  exact row_Gt_at x y hu h
end

/-! a call of a def of the text -/
section
variable {C : Cx} {F : Frz} {l : Ledger} {A : Around} {s : Shared}
theorem mem_lookup {α : Type} : ∀ {r : List (Str × α)}, (r.map (·.1)).Nodup → ∀ p ∈ r, r.lookup p.1 = some p.2
  | [], _, _, hp => nomatch hp
  | q :: r, hn, p, hp => by
    rw [List.map_cons, List.nodup_cons] at hn
    rw [List.lookup_cons]
    rcases List.mem_cons.mp hp with rfl | hp
    · simp
    · have : (p.1 == q.1) = false := beq_eq_false_iff_ne.mpr fun e => hn.1 (List.mem_map.mpr ⟨p, hp, e⟩)
      rw [this]
      exact mem_lookup hn.2 p hp
theorem call_fn {i : Nat} {cd : Value} {args : List Value} {vars : List (Str × Value)} {R : Result → Shared → Prop} (W : Wd C) (fn : FnAt C i cd) (hs : St C F l s) (hr : A.depth < recursionLimit)
    (hbind : ∀ pm doc, bindArgs (docDef (fName i) (fParams i) (fBody i) (fScope i) pm cd doc) ⟨args, []⟩ = pure vars)
    (hloc : ∀ x ∈ vars, (fScope i).names.lookup x.1 = some .local) (hnd : (vars.map (·.1)).Nodup)
    (h : ∀ L s', St C F ((L, NsH vars) :: l) s' → wpAny C.M (A.deeper (envOf (fName i) (fScope i) L (C.fn i) cd)) (execs (fBody i) (envOf (fName i) (fScope i) L (C.fn i) cd))
        (fun f s' => R (.ok (.ret (match f with | .ret v => v | _ => .none))) s') (fun _ _ => False) s')
    (hco : (fScope i).isCoroutine = false := by rfl) (hgen : (fScope i).isGenerator = false := by rfl) (hk : (fScope i).kind = .function := by rfl)
    (hcell : ∀ x ∈ (fScope i).names, x.2 ≠ .cell := by decide +kernel) :
    codeAny C.M A (.call (.ref (C.fn i)) ⟨args, []⟩) R s := by
  obtain ⟨o, pm, doc, ho, hd⟩ := fn.at_
  refine call_plain_ret hr (hs.sup _ _ ho) hd (W.nolimit.keeps hs.sup) ?_ (hbind pm doc) hloc (fun h₁ Fr1 => ?_) hco hgen hk hcell
  · obtain ⟨c, oc, vs, tq, hc, hoc, r⟩ := fn.code
    exact ⟨c, oc, vs, tq, hc, hs.sup _ _ hoc, r⟩
  · refine h _ _ (hs.push (Nat.le_refl _) Fr1.keep (nsH_of Fr1.ns hnd fun p hp => ?_))
    exact mem_lookup (r := vars.reverse) (by rw [List.map_reverse]; exact (List.reverse_perm _).nodup_iff.mpr hnd) p (List.mem_reverse.mpr hp)
end

section
variable {C : Cx} {F : Frz} {l : Ledger} {A : Around} {E : Value → Shared → Prop} {s : Shared} {env : Env}
theorem FnAt.here {i : Nat} {cd : Value} (fn : FnAt C i cd) (hs : St C F l s) : ∃ o fd, s.heap.get? (C.fn i) = some o ∧ o.data = .func fd :=
  let ⟨o, _, _, ho, hd⟩ := fn.at_; ⟨o, _, hs.sup _ _ ho, hd⟩
theorem callF {i : Nat} {cd : Value} {pos : Pos} {e : Expr} {rest : List Expr} {Q : Value → Shared → Prop} (fn : FnAt C i cd)
    (h : wpAny C.M A (spliced (backTo pos (starEach (e :: rest) env))) (fun vs s₁ => (∃ F l, St C F l s₁) ∧ wpAny C.M A (call (.ref (C.fn i)) vs) Q E s₁) E s)
    (he : starEach (e :: rest) env = (false, eval e env) :: starEach rest env := by rfl) :
    wpAny C.M A (callWith pos (.ref (C.fn i)) [] (backTo pos (starEach (e :: rest) env)) (backToKw pos (keywordEach [] env))) Q E s := by
  obtain ⟨o, pm, doc, ho, hd⟩ := fn.at_
  rw [he] at h ⊢
  refine callWith_function (o := o) (fd := docDef (fName i) (fParams i) (fBody i) (fScope i) pm cd doc) (evalArgs_plain (wpAny_mono h (fun vs s₁ h₁ => ?_) fun _ _ x => x))
  obtain ⟨⟨F, l, hs⟩, h₁⟩ := h₁
  exact ⟨⟨hs.sup _ _ ho, hd⟩, h₁⟩
theorem callB {id : String} {pos : Pos} {e : Expr} {rest : List Expr} {Q : Value → Shared → Prop}
    (h : wpAny C.M A (spliced (backTo pos (starEach (e :: rest) env))) (fun vs s₁ => wpAny C.M A (call (.builtin id) vs) Q E s₁) E s)
    (he : starEach (e :: rest) env = (false, eval e env) :: starEach rest env := by rfl)
    (hplain : (backTo pos (starEach rest env)).any (·.1) = false := by rfl) :
    wpAny C.M A (callWith pos (.builtin id) [] (backTo pos (starEach (e :: rest) env)) (backToKw pos (keywordEach [] env))) Q E s :=
  callWith_method1 h he hplain
theorem callM0 {id : String} {pos : Pos} {self : Value} {Q : Value → Shared → Prop} (h : wpAny C.M A (call (.builtin id) [self]) Q E s) :
    wpAny C.M A (callWith pos (.builtin id) [self] (backTo pos (starEach [] env)) []) Q E s := callWith_method0 h
theorem callM1 {id : String} {pos : Pos} {self : Value} {e : Expr} {rest : List Expr} {Q : Value → Shared → Prop}
    (h : wpAny C.M A (spliced (backTo pos (starEach (e :: rest) env))) (fun vs s₁ => wpAny C.M A (call (.builtin id) (self :: vs)) Q E s₁) E s)
    (he : starEach (e :: rest) env = (false, eval e env) :: starEach rest env := by rfl)
    (hplain : (backTo pos (starEach rest env)).any (·.1) = false := by rfl) :
    wpAny C.M A (callWith pos (.builtin id) [self] (backTo pos (starEach (e :: rest) env)) []) Q E s := callWith_method1 h he hplain
theorem truth_l {a : Addr} {items : List Value} {Q : Bool → Shared → Prop} (hs : St C F l s) (hm : (a, IsL items) ∈ l) (hf : (items.length : Int) < 2 ^ 63) (h : ∀ s', St C F l s' → Q (!items.isEmpty) s') :
    wpAny C.M A (truthy (.ref a)) Q E s :=
  wpAny_truthy_list (hs.isList hm) (by simpa using hf) (by simpa using h _ (hs.tok _))
theorem callT {T : String} {pos : Pos} {e : Expr} {rest : List Expr} {Q : Value → Shared → Prop}
    (h : wpAny C.M A (spliced (backTo pos (starEach (e :: rest) env))) (fun vs s₁ => wpAny C.M A (call (.type T) vs) Q E s₁) E s)
    (he : starEach (e :: rest) env = (false, eval e env) :: starEach rest env := by rfl)
    (hplain : (backTo pos (starEach rest env)).any (·.1) = false := by rfl) :
    wpAny C.M A (callWith pos (.type T) [] (backTo pos (starEach (e :: rest) env)) (backToKw pos (keywordEach [] env))) Q E s :=
  PyProof.Rows.callWith_type1 h he hplain
end

end
local macro_rules | `(tactic| walk_at "mem") => `(tactic| with_reducible (repeat' first | exact List.mem_cons_self | refine List.mem_cons_of_mem _ ?_))
local macro_rules | `(tactic| walk_at "upd") => `(tactic| with_reducible (repeat' first | exact Upd.here | apply Upd.there))
local macro_rules | `(tactic| walk_at "vset") => `(tactic| (repeat' first | (with_reducible exact VSet.hit) | (with_reducible exact VSet.nil) | ((with_reducible apply VSet.miss); decide +kernel)))
local macro_rules | `(tactic| walk_at "nm") => `(tactic| ((with_reducible show wpAny _ _ (eval (Expr.Name _ _) (envOf _ _ _ _ _)) _ _ _); refine' nm (by assumption) ?hm ?hv ?_; (case hm => walk_at "mem"); (case hv => walk_at "mem")))
local macro_rules | `(tactic| walk_at "sto") => `(tactic| ((with_reducible show wpAny _ _ (storeName (envOf _ _ _ _ _) _ _) _ _ _); refine' sto (by assumption) ?hu ?hv ?_; (case hu => walk_at "upd"); (case hv => walk_at "vset"); intro _ _))
local macro_rules | `(tactic| walk_at "ex") => `(tactic| first
  | ((with_reducible show wpAny _ _ (execs [] _) _ _ _); with_reducible refine wpAny_execs_nil ?_)
  | ((with_reducible show wpAny _ _ (execs (_ :: _) _) _ _ _); with_reducible refine wpAny_execs_cons ?_)
  | ((with_reducible show wpAny _ _ (exec (Stmt.Assign [Expr.Name _ _] _ _) _) _ _ _); refine wpAny_Assign_Name ?_)
  | ((with_reducible show wpAny _ _ (exec (Stmt.Assign [Expr.Subscript _ _ _] _ _) _) _ _ _); refine wpAny_Assign_Subscript ?_)
  | ((with_reducible show wpAny _ _ (exec (Stmt.If _ _ _ _) _) _ _ _); with_reducible refine wpAny_If ?_)
  | ((with_reducible show wpAny _ _ (exec (Stmt.Expr _ _) _) _ _ _); refine wpAny_Expr ?_)
  | ((with_reducible show wpAny _ _ (exec (Stmt.AugAssign (Expr.Name _ _) _ _ _) _) _ _ _); with_reducible refine wpAny_AugAssign_Name ?_)
  | ((with_reducible show wpAny _ _ (exec (Stmt.Return (some _) _) _) _ _ _); with_reducible refine wpAny_Return_some ?_)
  | ((with_reducible show wpAny _ _ (eval (Expr.Call (Expr.Name _ _) _ _ _) _) _ _ _); with_reducible refine wpAny_Call_ofName ?_)
  | ((with_reducible show wpAny _ _ (spliced (backTo _ (starEach [] _))) _ _ _); with_reducible refine wpAny_items_nil ?_)
  | ((with_reducible show wpAny _ _ (spliced (backTo _ (starEach (_ :: _) _))) _ _ _); refine wpAny_items_cons ?_)
  | ((with_reducible show wpAny _ _ (callWith _ (Value.builtin _) [] (backTo _ (starEach (_ :: _) _)) (backToKw _ (keywordEach [] _))) _ _ _); refine callB ?_)
  | ((with_reducible show wpAny _ _ (isTrue (Expr.BoolOp _ _ _) _ _) _ _ _); with_reducible refine wpAny_isTrue_BoolOp ?_)
  | ((with_reducible show wpAny _ _ (isTrue (Expr.UnaryOp UnaryOp.Not _ _) _ _) _ _ _); with_reducible refine wpAny_isTrue_Not ?_)
  | ((with_reducible show wpAny _ _ (allTrue BoolOp.And (_ :: _) _) _ _ _); with_reducible refine wpAny_allTrue_And_cons ?_)
  | ((with_reducible show wpAny _ _ (allTrue BoolOp.And [] _) _ _ _); with_reducible refine wpAny_allTrue_And_nil ?_)
  | ((with_reducible show wpAny _ _ (exec (Stmt.Continue _) _) _ _ _); with_reducible refine wpAny_Continue ?_)
  | ((with_reducible show wpAny _ _ (exec (Stmt.Break _) _) _ _ _); with_reducible refine wpAny_Break ?_)
  | ((with_reducible show wpAny _ _ (eval (Expr.Subscript _ _ _) _) _ _ _); with_reducible refine Subscript_ ?_)
  | ((with_reducible show wpAny _ _ (eval (Expr.BinOp _ _ _ _) _) _ _ _); with_reducible refine wpAny_BinOp ?_)
  | ((with_reducible show wpAny _ _ (isTrue (Expr.Compare _ [_] [_] _) _ _) _ _ _); refine wpAny_isTrue_Compare1 ?_)
  | ((with_reducible show wpAny _ _ (truthy (Value.bool _)) _ _ _); with_reducible refine wpAny_truthy_bool ?_)
  | ((with_reducible show wpAny _ _ (eval (Expr.Constant (Const.int _) _ _) _) _ _ _); with_reducible refine k_int (by assumption) ?_; intro _ _ _)
  | walk_at "nm"
  | walk_at "sto"
  | (with_reducible refine iteT ?_)
  | (with_reducible refine iteF ?_))
section

theorem NsH.pre {vars' extra : List (Str × Value)} {o : Obj} (h : NsH (vars' ++ extra) o) : NsH vars' o :=
  let ⟨nd, es, ep, d, k, v⟩ := h
  ⟨by rw [List.map_append] at nd; exact (List.nodup_append.mp nd).1, es, ep, d, k, fun p hp => v p (List.mem_append_left _ hp)⟩
theorem Upd.mono {P P' : OP} {a : Addr} {l l' : Ledger} (u : Upd a P P' l l') {C : Cx} {F : Frz} {s : Shared} (hs : St C F l s) (hi : ∀ o, P o → P' o) : St C F l' s :=
  hs.upd u (Heap.ExtBut.refl _ _) (let ⟨o, e, p⟩ := hs.at u.mem; ⟨o, e, hi o p⟩)


abbrev X := Value × Row
/-- what _siftdown's loop does, and the last store -/
noncomputable def sd (new : X) (sp : Nat) (xs : List X) (p : Nat) : List X :=
  if h : sp < p then
    match xs[(p - 1) / 2]? with
    | some q => if rlt new.2 q.2 then sd new sp (xs.set p q) ((p - 1) / 2) else xs.set p new
    | none => xs.set p new
  else xs.set p new
termination_by p
decreasing_by omega
noncomputable def siftdownX (xs : List X) (sp p : Nat) : List X := match xs[p]? with
  | some new => sd new sp xs p
  | none => xs
noncomputable def vals (xs : List X) : List Value := xs.map (·.1)
noncomputable def Rows (F : Frz) (xs : List X) : Prop := ∀ x ∈ xs, RowAt F x.1 x.2
theorem vals_get {xs : List X} {i : Nat} {q : X} (h : xs[i]? = some q) : (vals xs)[i]? = some q.1 := by simp [vals, h]
theorem vals_set {xs : List X} {i : Nat} {q : X} : (vals xs).set i q.1 = vals (xs.set i q) := by simp [vals, List.map_set]
theorem vals_len {xs : List X} : (vals xs).length = xs.length := by simp [vals]
theorem Rows.set {F : Frz} {xs : List X} (h : Rows F xs) {i : Nat} {q : X} (hq : RowAt F q.1 q.2) : Rows F (xs.set i q) := fun x hx => by
  rcases List.mem_or_eq_of_mem_set hx with hx | rfl
  · exact h x hx
  · exact hq
theorem Rows.get {F : Frz} {xs : List X} (h : Rows F xs) {i : Nat} {q : X} (hq : xs[i]? = some q) : RowAt F q.1 q.2 := h q (List.mem_of_getElem? hq)

section
variable {C : Cx} {F : Frz} {l : Ledger} {A : Around} {s : Shared}
set_option maxRecDepth 10000
theorem siftdown_spec {cd : Value} {H : Addr} {xs : List X} {sp p : Nat} {t u : Tok} {R : Result → Shared → Prop} (W : Wd C) (fn : FnAt C 5 cd) (hs : St C F ((H, IsL (vals xs)) :: l) s) (hr : Rm A 1)
    (hX : Rows F xs) (hp : p < xs.length) (hz : xs.length < 1000)
    (h : ∀ s', St C F ((H, IsL (vals (siftdownX xs sp p))) :: l) s' → R (.ok (.ret .none)) s') :
    codeAny C.M A (.call (.ref (C.fn 5)) ⟨[.ref H, .int sp t, .int p u], []⟩) R s := by
  refine call_fn (vars := [("heap", .ref H), ("startpos", .int sp t), ("pos", .int p u)]) W fn hs hr.d (fun _ _ => rfl) (by intro x hx; simp only [List.mem_cons, List.not_mem_nil, or_false] at hx; rcases hx with rfl | rfl | rfl <;> rfl) (by simp only [List.map]; decide +kernel) (fun L s' hs => ?_)
  show wpAny _ _ (execs (_ :: _) _) _ _ _
  obtain ⟨new, hnew⟩ : ∃ new, xs[p]? = some new := ⟨_, List.getElem?_eq_getElem hp⟩
  have e0 : siftdownX xs sp p = sd new sp xs p := by unfold siftdownX; rw [hnew]
  rw [e0] at h
  clear e0
  have hN := hX.get hnew
  walk_at "ex"
  walk_at "ex"
  walk_at "ex"
  walk_at "ex"
  walk_at "ex"
  refine' item (v := new.1) (by assumption) ?hm (by omega) (by omega) (by rw [Int.toNat_natCast]; exact vals_get hnew) ?_
  case hm => walk_at "mem"
  walk_at "ex"
  walk_at "ex"
  refine wpAny_While ?_
  refine codeAny_whileLoop (fun n s' => ∃ xs' p' u', St C F ((L, NsH [("heap", .ref H), ("startpos", .int sp t), ("pos", .int (p' : Nat) u'), ("newitem", new.1)]) :: (H, IsL (vals xs')) :: l) s' ∧
      sd new sp xs' p' = sd new sp xs p ∧ Rows F xs' ∧ p' < xs'.length ∧ xs'.length = xs.length ∧ n = p') ?_ p ⟨xs, p, u, by assumption, rfl, hX, hp, rfl, rfl⟩
  rintro n s1 ⟨ys, q, u', hs1, e1, hY, hq, hl, rfl⟩
  walk_at "ex"
  walk_at "ex"
  walk_at "ex"
  refine PyProof.Rows.gt_int ?_
  walk_at "ex"
  by_cases hc : sp < n
  · rw [if_pos (by simpa using hc)]
    obtain ⟨par, hpar⟩ : ∃ par, ys[(n - 1) / 2]? = some par := ⟨_, List.getElem?_eq_getElem (by omega)⟩
    have e2 : sd new sp ys n = if rlt new.2 par.2 then sd new sp (ys.set n par) ((n - 1) / 2) else ys.set n new := by
      rw [sd, dif_pos hc, hpar]
    repeat walk_at "ex"
    refine o_sub (by assumption) ?_
    intro _ _ _
    repeat walk_at "ex"
    refine o_shr (by assumption) (by decide) ?_
    intro _ _ _
    have e3 : ((n : Int) - 1).fdiv (2 ^ (1 : Int).toNat) = (((n - 1) / 2 : Nat) : Int) := by
      rw [Int.fdiv_eq_ediv_of_nonneg _ (by decide)]
      show ((n : Int) - 1) / 2 = _
      omega
    rw [e3]
    repeat walk_at "ex"
    refine' item (v := par.1) (by assumption) ?hm (by omega) (by omega) (by rw [Int.toNat_natCast]; exact vals_get hpar) ?_
    case hm => walk_at "mem"
    repeat walk_at "ex"
    refine row_lt (by assumption) hN (hY.get hpar) hr.deeper.u ?_
    repeat walk_at "ex"
    by_cases hlt : rlt new.2 par.2 = true
    · rw [if_pos hlt] at e2 ⊢
      repeat walk_at "ex"
      refine' setI (items := vals ys) (by assumption) ?hu (by omega) (by omega) (by rw [vals_len]; omega) ?_
      case hu => walk_at "upd"
      intro _ _
      repeat walk_at "ex"
      dsimp only
      rename St C F _ _ => hh
      rw [Int.toNat_natCast, vals_set] at hh
      have hh2 := Upd.mono Upd.here hh fun o => NsH.pre (vars' := [_, _, _, _]) (extra := [_, _])
      exact ⟨(n - 1) / 2, by omega, ys.set n par, (n - 1) / 2, _, hh2, e2.symm.trans e1, hY.set (hY.get hpar), by rw [List.length_set]; omega, by rw [List.length_set]; exact hl, rfl⟩
    · rw [if_neg hlt] at e2 ⊢
      repeat walk_at "ex"
      dsimp only
      refine' setI (items := vals ys) (by assumption) ?hu (by omega) (by omega) (by rw [vals_len]; omega) ?_
      case hu => walk_at "upd"
      intro _ hh
      rw [Int.toNat_natCast, vals_set] at hh
      repeat walk_at "ex"
      dsimp only
      refine h _ ?_
      rw [← e1, e2]
      exact hh.sub (List.sublist_cons_self _ _)
  · rw [if_neg (by simpa using hc)]
    have e2 : sd new sp ys n = ys.set n new := by rw [sd, dif_neg hc]
    repeat walk_at "ex"
    dsimp only
    repeat walk_at "ex"
    refine' setI (items := vals ys) (by assumption) ?hu (by omega) (by omega) (by rw [vals_len]; omega) ?_
    case hu => walk_at "upd"
    intro _ hh
    rw [Int.toNat_natCast, vals_set] at hh
    repeat walk_at "ex"
    dsimp only
    refine h _ ?_
    rw [← e1, e2]
    exact hh.sub (List.sublist_cons_self _ _)

end

end
section

section
variable {C : Cx} {F : Frz} {l : Ledger} {A : Around} {s : Shared}
set_option maxRecDepth 10000
/-- _siftup's loop: what stands then, and the place -/
noncomputable def su (xs : List X) (p : Nat) : List X × Nat :=
  if h : 2 * p + 1 < xs.length then
    let c := if 2 * p + 2 < xs.length ∧ rlt (xs[2 * p + 1]).2 (xs[2 * p + 2]?.getD xs[2 * p + 1]).2 = false then 2 * p + 2 else 2 * p + 1
    su (xs.set p (xs[c]?.getD xs[2 * p + 1])) c
  else (xs, p)
termination_by xs.length - p
decreasing_by
  rw [List.length_set]
  split <;> omega
noncomputable def siftupX (xs : List X) (p : Nat) : List X := match xs[p]? with
  | some new => siftdownX ((su xs p).1.set (su xs p).2 new) p (su xs p).2
  | none => xs

theorem Rows.mono {F F' : Frz} {xs : List X} (h : Rows F xs) (hF : F.le F') : Rows F' xs := fun x hx => (h x hx).mono hF

theorem siftup_spec {cd cd' : Value} {H : Addr} {xs : List X} {p : Nat} {t : Tok} {R : Result → Shared → Prop} (W : Wd C) (fn : FnAt C 6 cd) (fd : FnAt C 5 cd') (hs : St C F ((H, IsL (vals xs)) :: l) s) (hr : Rm A 2)
    (hX : Rows F xs) (hp : p < xs.length) (hz : xs.length < 1000)
    (h : ∀ s', St C F ((H, IsL (vals (siftupX xs p))) :: l) s' → R (.ok (.ret .none)) s') :
    codeAny C.M A (.call (.ref (C.fn 6)) ⟨[.ref H, .int p t], []⟩) R s := by
  refine call_fn (vars := [("heap", .ref H), ("pos", .int p t)]) W fn hs hr.d (fun _ _ => rfl) (by intro x hx; simp only [List.mem_cons, List.not_mem_nil, or_false] at hx; rcases hx with rfl | rfl <;> rfl) (by simp only [List.map]; decide +kernel) (fun L s' hs => ?_)
  show wpAny _ _ (execs (_ :: _) _) _ _ _
  obtain ⟨new, hnew⟩ : ∃ new, xs[p]? = some new := ⟨_, List.getElem?_eq_getElem hp⟩
  have e0 : siftupX xs p = siftdownX ((su xs p).1.set (su xs p).2 new) p (su xs p).2 := by unfold siftupX; rw [hnew]
  rw [e0] at h
  clear e0
  have hN := hX.get hnew
  repeat walk_at "ex"
  refine bi W (by assumption) W.isLen ?_
  repeat walk_at "ex"
  refine' len_l (items := vals xs) (by assumption) ?hm (by rw [vals_len]; omega) ?_
  case hm => walk_at "mem"
  intro t1 _ _
  rw [vals_len]
  repeat walk_at "ex"
  refine' item (v := new.1) (by assumption) ?hm (by omega) (by omega) (by rw [Int.toNat_natCast]; exact vals_get hnew) ?_
  case hm => walk_at "mem"
  repeat walk_at "ex"
  refine o_mul (by assumption) (IntMulOk.of_left (by decide)) ?_
  intro _ _ _
  repeat walk_at "ex"
  refine o_add (by assumption) ?_
  intro t3 _ _
  have e1 : (2 : Int) * (p : Int) + 1 = ((2 * p + 1 : Nat) : Int) := by omega
  rw [e1]
  repeat walk_at "ex"
  refine wpAny_While ?_
  refine codeAny_whileLoop (fun n s' => ∃ ys q u1 u2, St C F ((L, NsH [("heap", .ref H), ("pos", .int (q : Nat) u1), ("endpos", .int xs.length t1), ("startpos", .int p t), ("newitem", new.1), ("childpos", .int (2 * q + 1 : Nat) u2)]) :: (H, IsL (vals ys)) :: l) s' ∧
      su ys q = su xs p ∧ Rows F ys ∧ q < ys.length ∧ ys.length = xs.length ∧ n = ys.length - q) ?_ (xs.length - p) ⟨xs, p, t, t3, by assumption, rfl, hX, hp, rfl, rfl⟩
  rintro n s1 ⟨ys, q, u1, u2, hs1, e2, hY, hq, hl, rfl⟩
  repeat walk_at "ex"
  refine wpAny_lt_int ?_
  repeat walk_at "ex"
  by_cases hc : 2 * q + 1 < ys.length
  · rw [if_pos (by rw [decide_eq_true_eq]; omega)]
    repeat walk_at "ex"
    refine o_add (by assumption) ?_
    intro _ _ _
    have e3 : ((2 * q + 1 : Nat) : Int) + 1 = ((2 * q + 2 : Nat) : Int) := by omega
    rw [e3]
    repeat walk_at "ex"
    refine wpAny_lt_int ?_
    repeat walk_at "ex"
    obtain ⟨lf, hlf⟩ : ∃ lf, ys[2 * q + 1]? = some lf := ⟨_, List.getElem?_eq_getElem hc⟩
    have hlf' : ys[2 * q + 1] = lf := (List.getElem?_eq_some_iff.mp hlf).2
    by_cases hc2 : 2 * q + 2 < ys.length
    · rw [if_pos (by rw [decide_eq_true_eq]; omega)]
      obtain ⟨rg, hrg⟩ : ∃ rg, ys[2 * q + 2]? = some rg := ⟨_, List.getElem?_eq_getElem hc2⟩
      repeat walk_at "ex"
      refine' item (v := lf.1) (by assumption) ?hm (by omega) (by omega) (by rw [Int.toNat_natCast]; exact vals_get hlf) ?_
      case hm => walk_at "mem"
      repeat walk_at "ex"
      refine' item (v := rg.1) (by assumption) ?hm (by omega) (by omega) (by rw [Int.toNat_natCast]; exact vals_get hrg) ?_
      case hm => walk_at "mem"
      refine row_lt (by assumption) (hY.get hlf) (hY.get hrg) hr.deeper.u ?_
      repeat walk_at "ex"
      dsimp only
      by_cases hlt : rlt lf.2 rg.2 = true
      · rw [if_neg (by rw [hlt]; decide)]
        have hnx : su ys q = su (ys.set q lf) (2 * q + 1) := by
          rw [su, dif_pos hc]
          simp only [hlf', hrg, hlf, Option.getD_some, hlt, Bool.true_eq_false, and_false, if_false]
        repeat walk_at "ex"
        refine' item (v := lf.1) (by assumption) ?hm (by omega) (by omega) (by rw [Int.toNat_natCast]; exact vals_get hlf) ?_
        case hm => walk_at "mem"
        repeat walk_at "ex"
        refine' setI (items := vals ys) (by assumption) ?hu (by omega) (by omega) (by rw [vals_len]; omega) ?_
        case hu => walk_at "upd"
        intro _ _
        repeat walk_at "ex"
        refine o_mul (by assumption) (IntMulOk.of_left (by decide)) ?_
        intro _ _ _
        repeat walk_at "ex"
        refine o_add (by assumption) ?_
        intro t3 _ _
        rw [show (2 : Int) * ((2 * q + 1 : Nat) : Int) + 1 = ((2 * (2 * q + 1) + 1 : Nat) : Int) by omega]
        repeat walk_at "ex"
        dsimp only
        rename St C F _ _ => hh
        rw [Int.toNat_natCast, vals_set] at hh
        have hh2 := Upd.mono Upd.here hh fun o => NsH.pre (vars' := [_, _, _, _, _, _]) (extra := [_])
        exact ⟨ys.length - (2 * q + 1), by omega, ys.set q lf, 2 * q + 1, _, _, hh2, hnx.symm.trans e2, hY.set (hY.get hlf), by rw [List.length_set]; omega, by rw [List.length_set]; exact hl, by rw [List.length_set]⟩
      · rw [if_pos (by simpa using hlt)]
        have hnx : su ys q = su (ys.set q rg) (2 * q + 2) := by
          have hlt' : rlt lf.2 rg.2 = false := by simpa using hlt
          rw [su, dif_pos hc]
          simp only [hlf', hrg, Option.getD_some, hlt', hc2, and_self, if_true]
        repeat walk_at "ex"
        refine' item (v := rg.1) (by assumption) ?hm (by omega) (by omega) (by rw [Int.toNat_natCast]; exact vals_get hrg) ?_
        case hm => walk_at "mem"
        repeat walk_at "ex"
        refine' setI (items := vals ys) (by assumption) ?hu (by omega) (by omega) (by rw [vals_len]; omega) ?_
        case hu => walk_at "upd"
        intro _ _
        repeat walk_at "ex"
        refine o_mul (by assumption) (IntMulOk.of_left (by decide)) ?_
        intro _ _ _
        repeat walk_at "ex"
        refine o_add (by assumption) ?_
        intro t3 _ _
        rw [show (2 : Int) * ((2 * q + 2 : Nat) : Int) + 1 = ((2 * (2 * q + 2) + 1 : Nat) : Int) by omega]
        repeat walk_at "ex"
        dsimp only
        rename St C F _ _ => hh
        rw [Int.toNat_natCast, vals_set] at hh
        have hh2 := Upd.mono Upd.here hh fun o => NsH.pre (vars' := [_, _, _, _, _, _]) (extra := [_])
        exact ⟨ys.length - (2 * q + 2), by omega, ys.set q rg, 2 * q + 2, _, _, hh2, hnx.symm.trans e2, hY.set (hY.get hrg), by rw [List.length_set]; omega, by rw [List.length_set]; exact hl, by rw [List.length_set]⟩
    · rw [if_neg (by rw [decide_eq_true_eq]; omega)]
      have hnx : su ys q = su (ys.set q lf) (2 * q + 1) := by
        rw [su, dif_pos hc]
        simp only [hlf', hlf, Option.getD_some, hc2, false_and, if_false]
      repeat walk_at "ex"
      refine' item (v := lf.1) (by assumption) ?hm (by omega) (by omega) (by rw [Int.toNat_natCast]; exact vals_get hlf) ?_
      case hm => walk_at "mem"
      repeat walk_at "ex"
      refine' setI (items := vals ys) (by assumption) ?hu (by omega) (by omega) (by rw [vals_len]; omega) ?_
      case hu => walk_at "upd"
      intro _ _
      repeat walk_at "ex"
      refine o_mul (by assumption) (IntMulOk.of_left (by decide)) ?_
      intro _ _ _
      repeat walk_at "ex"
      refine o_add (by assumption) ?_
      intro t3 _ _
      rw [show (2 : Int) * ((2 * q + 1 : Nat) : Int) + 1 = ((2 * (2 * q + 1) + 1 : Nat) : Int) by omega]
      repeat walk_at "ex"
      dsimp only
      rename St C F _ _ => hh
      rw [Int.toNat_natCast, vals_set] at hh
      have hh2 := Upd.mono Upd.here hh fun o => NsH.pre (vars' := [_, _, _, _, _, _]) (extra := [_])
      exact ⟨ys.length - (2 * q + 1), by omega, ys.set q lf, 2 * q + 1, _, _, hh2, hnx.symm.trans e2, hY.set (hY.get hlf), by rw [List.length_set]; omega, by rw [List.length_set]; exact hl, by rw [List.length_set]⟩
  · rw [if_neg (by rw [decide_eq_true_eq]; omega)]
    have hnx : su ys q = (ys, q) := by rw [su, dif_neg hc]
    rw [← e2, hnx] at h
    dsimp only at h
    repeat walk_at "ex"
    dsimp only
    repeat walk_at "ex"
    refine' setI (items := vals ys) (by assumption) ?hu (by omega) (by omega) (by rw [vals_len]; omega) ?_
    case hu => walk_at "upd"
    intro _ hh
    rw [Int.toNat_natCast, vals_set] at hh
    repeat walk_at "ex"
    refine gl W (by assumption) fd.glob ?_
    refine callF fd ?_
    repeat walk_at "ex"
    refine ⟨⟨_, _, by assumption⟩, wpAny_call ?_⟩
    refine siftdown_spec W fd (hh.perm (List.Perm.swap _ _ _)) hr.deeper (hY.set hN) (by rw [List.length_set]; omega) (by rw [List.length_set]; omega) ?_
    intro s9 hs9
    dsimp only
    repeat walk_at "ex"
    dsimp only
    exact h _ (hs9.sub ((List.sublist_cons_self _ _).cons_cons _))
end

end
local macro_rules | `(tactic| walk_at "ex") => `(tactic| first
  | ((with_reducible show wpAny _ _ (eval (Expr.Call (Expr.Attribute _ _ _) _ [] _) _) _ _ _); refine MethodCall_ ?_))
section


noncomputable def pushX (xs : List X) (x : X) : List X := siftdownX (xs ++ [x]) 0 xs.length
noncomputable def popX (xs : List X) : Option (X × List X) := match xs with
  | [] => none
  | y :: ys => match ys.getLast? with
    | none => some (y, [])
    | some z => some (y, siftupX ((y :: ys.dropLast).set 0 z) 0)

theorem vals_app {xs : List X} {x : X} : vals xs ++ [x.1] = vals (xs ++ [x]) := by simp [vals]
section
variable {C : Cx} {F : Frz} {l : Ledger} {A : Around} {s : Shared}
set_option maxRecDepth 10000
theorem heappush_spec {cd cd' : Value} {H : Addr} {xs : List X} {x : X} {R : Result → Shared → Prop} (W : Wd C) (fn : FnAt C 2 cd) (fd : FnAt C 5 cd') (hs : St C F ((H, IsL (vals xs)) :: l) s) (hr : Rm A 2)
    (hX : Rows F xs) (hx : RowAt F x.1 x.2) (hz : xs.length < 900)
    (h : ∀ s', St C F ((H, IsL (vals (pushX xs x))) :: l) s' → R (.ok (.ret .none)) s') :
    codeAny C.M A (.call (.ref (C.fn 2)) ⟨[.ref H, x.1], []⟩) R s := by
  refine call_fn (vars := [("heap", .ref H), ("item", x.1)]) W fn hs hr.d (fun _ _ => rfl) (by intro x hx; simp only [List.mem_cons, List.not_mem_nil, or_false] at hx; rcases hx with rfl | rfl <;> rfl) (by simp only [List.map]; decide +kernel) (fun L s' hs => ?_)
  show wpAny _ _ (execs (_ :: _) _) _ _ _
  repeat walk_at "ex"
  refine' m_list (items := vals xs) (by assumption) ?hm PySem.F.slot_list_append PySem.F.type_list_append ?_
  case hm => walk_at "mem"
  refine callM1 ?_
  repeat walk_at "ex"
  refine' appendL (items := vals xs) (by assumption) ?hu (by rw [vals_len]; omega) ?_
  case hu => walk_at "upd"
  intro s1 hs1
  rw [vals_app] at hs1
  try dsimp only
  repeat walk_at "ex"
  refine gl W (by assumption) fd.glob ?_
  refine callF fd ?_
  repeat walk_at "ex"
  refine bi W (by assumption) W.isLen ?_
  repeat walk_at "ex"
  refine' len_l (items := vals (xs ++ [x])) (by assumption) ?hm (by rw [vals_len, List.length_append]; simp only [List.length_cons, List.length_nil]; omega) ?_
  case hm => walk_at "mem"
  intro t1 _ _
  repeat walk_at "ex"
  refine o_sub (by assumption) ?_
  intro t2 _ _
  have e1 : ((vals (xs ++ [x])).length : Int) - 1 = (xs.length : Int) := by rw [vals_len, List.length_append]; simp only [List.length_cons, List.length_nil]; omega
  rw [e1]
  repeat walk_at "ex"
  refine ⟨⟨_, _, by assumption⟩, wpAny_call ?_⟩
  rename St C F _ _ => hh
  refine siftdown_spec (sp := 0) W fd (hh.perm (List.Perm.swap _ _ _)) hr.deeper (fun y hy => ?_) (by rw [List.length_append]; simp) (by rw [List.length_append]; simp only [List.length_cons, List.length_nil]; omega) ?_
  · rcases List.mem_append.mp hy with hy | hy
    · exact hX y hy
    · rw [List.mem_singleton.mp hy]; exact hx
  intro s9 hs9
  try dsimp only
  repeat walk_at "ex"
  try dsimp only
  exact h _ (hs9.sub ((List.sublist_cons_self _ _).cons_cons _))

theorem heappop_spec {cd cd' cd'' : Value} {H : Addr} {xs : List X} {y : X} {ys : List X} {R : Result → Shared → Prop} (W : Wd C) (fn : FnAt C 3 cd) (fu : FnAt C 6 cd') (fd : FnAt C 5 cd'') (hs : St C F ((H, IsL (vals xs)) :: l) s) (hr : Rm A 3)
    (hX : Rows F xs) (hz : xs.length < 900) (hp : popX xs = some (y, ys))
    (h : ∀ s', St C F ((H, IsL (vals ys)) :: l) s' → R (.ok (.ret y.1)) s') :
    codeAny C.M A (.call (.ref (C.fn 3)) ⟨[.ref H], []⟩) R s := by
  refine call_fn (vars := [("heap", .ref H)]) W fn hs hr.d (fun _ _ => rfl) (by intro x hx; simp only [List.mem_cons, List.not_mem_nil, or_false] at hx; rcases hx with rfl <;> rfl) (by simp only [List.map]; decide +kernel) (fun L s' hs => ?_)
  show wpAny _ _ (execs (_ :: _) _) _ _ _
  obtain ⟨a, zs, rfl⟩ : ∃ a zs, xs = a :: zs := by
    cases xs with
    | nil => simp [popX] at hp
    | cons a zs => exact ⟨a, zs, rfl⟩
  obtain ⟨ini, z, hiz, hcase⟩ : ∃ ini z, a :: zs = ini ++ [z] ∧ ((ini = [] ∧ y = z ∧ ys = []) ∨ (ini ≠ [] ∧ y = a ∧ ini[0]? = some a ∧ ys = siftupX (ini.set 0 z) 0)) := by
    unfold popX at hp
    cases e : zs.getLast? with
    | none =>
      rw [List.getLast?_eq_none_iff] at e
      subst e
      simp only [List.getLast?_nil, Option.some.injEq, Prod.mk.injEq] at hp
      exact ⟨[], a, rfl, .inl ⟨rfl, hp.1.symm, hp.2.symm⟩⟩
    | some z =>
      simp only [e, Option.some.injEq, Prod.mk.injEq] at hp
      have hzs : zs = zs.dropLast ++ [z] := by
        obtain ⟨ws, hws⟩ := List.getLast?_eq_some_iff.mp e
        rw [hws]; simp
      refine ⟨a :: zs.dropLast, z, by rw [List.cons_append, ← hzs], .inr ⟨by simp, hp.1.symm, rfl, hp.2.symm⟩⟩
  have ev : vals (a :: zs) = vals ini ++ [z.1] := by rw [hiz]; simp [vals]
  rw [ev] at hs
  have hlen : ini.length < 900 := by
    have := congrArg List.length hiz
    rw [List.length_append] at this
    simp only [List.length_cons, List.length_nil] at this hz
    omega
  have hI : Rows F ini := fun q hq => hX q (by rw [hiz]; exact List.mem_append_left _ hq)
  have hZ : RowAt F z.1 z.2 := hX z (by rw [hiz]; simp)
  repeat walk_at "ex"
  refine' m_list (items := vals ini ++ [z.1]) (by assumption) ?hm PySem.F.slot_list_pop PySem.F.type_list_pop ?_
  case hm => walk_at "mem"
  refine callM0 ?_
  refine' popL (items := vals ini) (by assumption) ?hu (by rw [vals_len]; omega) ?_
  case hu => walk_at "upd"
  intro s1 hs1
  repeat walk_at "ex"
  refine wpAny_isTrue_value ?_
  repeat walk_at "ex"
  refine' truth_l (items := vals ini) (by assumption) ?hm (by rw [vals_len]; omega) ?_
  case hm => walk_at "mem"
  intro s2 hs2
  rcases hcase with ⟨rfl, rfl, rfl⟩ | ⟨hne, rfl, h0, rfl⟩
  · rw [show (!(vals ([] : List X)).isEmpty) = false from rfl]
    repeat walk_at "ex"
    try dsimp only
    repeat walk_at "ex"
    try dsimp only
    rename St C F _ _ => hh
    exact h _ (hh.sub (List.sublist_cons_self _ _))
  · have hv : (!(vals ini).isEmpty) = true := by
      cases ini with
      | nil => exact absurd rfl hne
      | cons _ _ => rfl
    rw [hv]
    repeat walk_at "ex"
    refine' item (v := y.1) (by assumption) ?hm (by omega) (by omega) (vals_get h0) ?_
    case hm => walk_at "mem"
    repeat walk_at "ex"
    have hpos : 0 < ini.length := List.length_pos_iff.mpr hne
    refine' setI (items := vals ini) (by assumption) ?hu (by omega) (by omega) (by rw [vals_len]; omega) ?_
    case hu => walk_at "upd"
    intro s3 hs3
    rw [show (0 : Int).toNat = 0 from rfl, vals_set] at hs3
    repeat walk_at "ex"
    refine gl W (by assumption) fu.glob ?_
    refine callF fu ?_
    repeat walk_at "ex"
    refine ⟨⟨_, _, by assumption⟩, wpAny_call ?_⟩
    rename St C F _ _ => hh
    refine siftup_spec (p := 0) W fu fd (hh.perm (List.Perm.swap _ _ _)) hr.deeper (hI.set hZ) (by rw [List.length_set]; exact hpos) (by rw [List.length_set]; omega) ?_
    intro s9 hs9
    have hs10 := hs9.perm (List.Perm.swap _ _ _)
    try dsimp only
    repeat walk_at "ex"
    try dsimp only
    exact h _ (hs10.sub (List.sublist_cons_self _ _))
end

end
section

noncomputable def rngObj (a b c : Int) (t u v : Tok) : Obj := { cls := .type "range", dict := none, data := .fields #[.int a t, .int b u, .int c v], slots := #[] }
noncomputable def ritObj (x left step : Int) : Obj := { cls := .type "range_iterator", dict := none, data := .fields #[rawInt x, rawInt left, rawInt step], slots := #[] }
noncomputable def IsRng (a b c : Int) : OP := fun o => ∃ t u v, o = rngObj a b c t u v
noncomputable def IsRit (x left step : Int) : OP := fun o => o = ritObj x left step

theorem range_reversed_at (r : Addr) (a b c : Int) (t u v : Tok) (hc0 : ¬(!(Builtin.Range.rangeFitsLong a && Builtin.Range.rangeFitsLong b && Builtin.Range.rangeFitsLong c && Builtin.Range.rangeFitsLong (-c) && Builtin.Range.rangeFitsLong (a - c) && Builtin.Range.rangeFitsLong (Builtin.Range.rangeSize a b c))) = true) :
    Meets (Builtin.«range.__reversed__» ⟨[.ref r], []⟩) (fun _ R s => s.heap.get? r = some { cls := .type "range", dict := none, data := .fields #[.int a t, .int b u, .int c v], slots := #[] } ∧
      R (.ok (.ret (Value.ref s.heap.objs.size))) { s with heap := s.heap.push { cls := Value.type (if (Builtin.Range.rangeFitsLong a && Builtin.Range.rangeFitsLong b && Builtin.Range.rangeFitsLong c && Builtin.Range.rangeFitsLong (-c) && Builtin.Range.rangeFitsLong (a - c) && Builtin.Range.rangeFitsLong (Builtin.Range.rangeSize a b c)) = true then "range_iterator" else "longrange_iterator"), data := .fields #[rawInt (a + (Builtin.Range.rangeSize a b c - 1) * c), rawInt (Builtin.Range.rangeSize a b c), rawInt (-c)] } }) :=
  .of_wp fun prog w A R s h => by obtain ⟨hp, g, d, tk, os⟩ := s; obtain ⟨hl, h⟩ := h; wp_walk; exact ⟨_, rfl, h⟩

section
variable {prog : Program} {w : World} {A : Around} {E : Value → Shared → Prop} {s : Shared}
theorem fits_small {x : Int} (h1 : -100000 ≤ x) (h2 : x ≤ 100000) : Builtin.Range.rangeFitsLong x = true := by
  unfold Builtin.Range.rangeFitsLong
  simp only [Bool.and_eq_true, decide_eq_true_eq]
  omega
theorem size_up {n : Int} (h0 : 0 ≤ n) : Builtin.Range.rangeSize 0 n 1 = n := by
  unfold Builtin.Range.rangeSize
  split
  · split <;> omega
  · omega
theorem sub_rit_reversed : isSubtype (.type "range_iterator") (.type "reversed") = pure false := by rw [isSubtype_type]; kernel_rfl
theorem call_range_rev {r : Addr} {n : Int} {t u v : Tok} {Q : Value → Shared → Prop} (hr : s.heap.get? r = some (rngObj 0 n 1 t u v)) (h0 : 0 ≤ n) (hn : n < 100000)
    (h : Q (.ref s.heap.objs.size) { s with heap := s.heap.push (ritObj (n - 1) n (-1)) }) : wpAny (model prog w) A (call (.builtin "range.__reversed__") [.ref r]) Q E s := by
  have hc : (Builtin.Range.rangeFitsLong 0 && Builtin.Range.rangeFitsLong n && Builtin.Range.rangeFitsLong 1 && Builtin.Range.rangeFitsLong (-1) && Builtin.Range.rangeFitsLong (0 - 1) && Builtin.Range.rangeFitsLong (Builtin.Range.rangeSize 0 n 1)) = true := by
    rw [size_up h0, fits_small (by omega) (by omega), fits_small (x := n) (by omega) (by omega), fits_small (x := 1) (by omega) (by omega), fits_small (x := -1) (by omega) (by omega), fits_small (x := 0 - 1) (by omega) (by omega)]; rfl
  refine call_meets PySem.F.slot_range_reversed ⟨_, hr, rfl⟩ PySem.F.entry_range_reversed (PySem.F.args_range_reversed_1 _) (range_reversed_at r 0 n 1 t u v (by rw [hc]; decide)) ⟨hr, ?_⟩
  rw [hc, size_up h0, if_pos rfl, show (0 : Int) + (n - 1) * 1 = n - 1 by omega]
  exact h
theorem code_reversed_range {r : Addr} {n : Int} {t u v : Tok} {Q₁ : Value → Shared → Prop} (hr : s.heap.get? r = some (rngObj 0 n 1 t u v)) (h0 : 0 ≤ n) (hn : n < 100000)
    (h : Q₁ (.ref s.heap.objs.size) { s with heap := s.heap.push (ritObj (n - 1) n (-1)) }) :
    codeAny (model prog w) A (.call (.builtin "reversed.__new__") ⟨[.type "reversed", .ref r], []⟩) (wants Q₁ E) s := by
  have hT : s.TypeIs (.ref r) "range" := ⟨_, hr, rfl⟩
  refine codeAny_of_tree ?_
  show wpAny _ A.in1 (do checkBuiltinCall "reversed.__new__" ⟨[.type "reversed", .ref r], []⟩; again (.builtin "reversed.__new__" ⟨[.type "reversed", .ref r], []⟩)) _ _ s
  refine wpAny_bind (wpAny_of_eq (PySem.F.newCall_reversed_1 _) (wpAny_pure ⟨plainId_quiet PySem.F.plain_reversed_new _, codeAny_builtin PySem.F.entry_reversed_new ?_⟩))
  rw [Around.under_plainId PySem.F.plain_reversed_new _]
  unfold Builtin.«reversed.__new__»
  refine wpAny_bind (wpAny_of_eq (newClass_reversed _) ?_)
  try dsimp only
  refine wpAny_bind (wpAny_of_eq (a := ()) (by first | rfl | kernel_rfl) ?_)
  refine wpAny_bind (wpAny_of_eq (a := ()) (by first | rfl | kernel_rfl) ?_)
  try dsimp only
  refine wpAny_bind (wpAny_specialOf hT PySem.F.slot_range_reversed.lookup ?_)
  try dsimp only
  refine wpAny_bind (wpAny_of_eq (PySem.F.slot_range_reversed.bind _) ?_)
  try dsimp only
  rw [if_neg (show ¬ ((Value.builtin "range.__reversed__" == Value.none) = true) from Bool.false_ne_true)]
  refine wpAny_bind (wpAny_rule ?_)
  refine wpAny_bind (m := runValue (.call (.builtin "range.__reversed__") ⟨[.ref r], []⟩)) (show wpAny _ _ (call (.builtin "range.__reversed__") [.ref r]) _ _ _ from call_range_rev hr h0 hn ?_)
  first
  | exact wpAny_pure h
  | exact wpAny_bind (wpAny_pure (wpAny_pure h))
theorem call_reversed_range {r : Addr} {n : Int} {t u v : Tok} {Q : Value → Shared → Prop} (hr : s.heap.get? r = some (rngObj 0 n 1 t u v)) (h0 : 0 ≤ n) (hn : n < 100000)
    (h : Q (.ref s.heap.objs.size) { s with heap := s.heap.push (ritObj (n - 1) n (-1)) }) : wpAny (model prog w) A (call (.type "reversed") [.ref r]) Q E s := by
  refine callType_other (U := "range_iterator") (Q₁ := fun obj s₁ => obj = .ref s.heap.objs.size ∧ s₁ = { s with heap := s.heap.push (ritObj (n - 1) n (-1)) }) (by decide +kernel) PySem.F.create_reversed ⟨_, _, PySem.F.mro_reversed⟩ PySem.F.made_reversed sub_rit_reversed (PySem.F.typeCall_reversed_1 _) (code_reversed_range hr h0 hn ⟨rfl, rfl⟩) ?_
  rintro obj s₁ ⟨rfl, rfl⟩
  exact ⟨⟨_, Heap.get?_push_size _ rfl, rfl⟩, h⟩
end
section
variable {C : Cx} {F : Frz} {l : Ledger} {A : Around} {E : Value → Shared → Prop} {s : Shared} {env : Env}
theorem St.new {o : Obj} {P : OP} (hs : St C F l s) (hP : P o) (hf : o.isFreed = false) {s' : Shared} (hh : s'.heap = s.heap.push o) (ho : s'.os = s.os := by rfl) (hg : s'.gens = s.gens := by rfl) : St C F ((s.heap.objs.size, P) :: l) s' :=
  hs.push (Nat.le_refl _) (fun b x e => by rw [hh]; exact Heap.get?_push_of_some _ e) ⟨o, by rw [hh]; exact Heap.get?_push_size _ hf, hP⟩ ho hg
theorem c_range {n : Int} {t : Tok} {Q : Value → Shared → Prop} (hs : St C F l s) (h : ∀ r s', St C F ((r, IsRng 0 n 1) :: l) s' → Q (.ref r) s') : wpAny C.M A (call (.type "range") [.int n t]) Q E s :=
  call_range_1 (h _ _ (hs.new ⟨_, _, _, rfl⟩ rfl rfl))
theorem c_range2 {a b : Int} {t u : Tok} {Q : Value → Shared → Prop} (hs : St C F l s) (h : ∀ r s', St C F ((r, IsRng a b 1) :: l) s' → Q (.ref r) s') : wpAny C.M A (call (.type "range") [.int a t, .int b u]) Q E s :=
  call_range_2 (h _ _ (hs.new ⟨_, _, _, rfl⟩ rfl rfl))
theorem c_reversed {r : Addr} {n : Int} {Q : Value → Shared → Prop} (hs : St C F l s) (hm : (r, IsRng 0 n 1) ∈ l) (h0 : 0 ≤ n) (hn : n < 100000) (h : ∀ i s', St C F ((i, IsRit (n - 1) n (-1)) :: l) s' → Q (.ref i) s') :
    wpAny C.M A (call (.type "reversed") [.ref r]) Q E s := by
  obtain ⟨o, e, t, u, v, rfl⟩ := hs.at hm
  exact call_reversed_range e h0 hn (h _ _ (hs.new (P := IsRit (n - 1) n (-1)) rfl rfl rfl))
theorem i_rit {i : Addr} {x n st : Int} {Q : Value → Shared → Prop} (hs : St C F l s) (hm : (i, IsRit x n st) ∈ l) (h : Q (.ref i) s) : wpAny C.M A (pyIter (.ref i)) Q E s := by
  obtain ⟨o, e, rfl⟩ := hs.at hm
  exact wpAny_pyIter_rangeiter e h
theorem i_rng {r : Addr} {a b : Int} {Q : Value → Shared → Prop} (hs : St C F l s) (hm : (r, IsRng a b 1) ∈ l) (ha : -1000 ≤ a ∧ a < 1000) (hb : -1000 ≤ b ∧ b < 90000) (h : ∀ i s', St C F ((i, IsRit a (if a < b then b - a else 0) 1) :: l) s' → Q (.ref i) s') : wpAny C.M A (pyIter (.ref r)) Q E s := by
  obtain ⟨o, e, t, u, v, rfl⟩ := hs.at hm
  have hz : Builtin.Range.rangeSize a b 1 = if a < b then b - a else 0 := rangeSize_one a b
  refine wpAny_pyIter_range e ?_ ?_
  · unfold Builtin.Range.small
    rw [hz, fits_small (x := a) (by omega) (by omega), fits_small (x := b) (by omega) (by omega), fits_small (x := 1) (by omega) (by omega), fits_small (x := if a < b then b - a else 0) (by split <;> omega) (by split <;> omega)]
    simp only [Bool.true_and, Bool.or_eq_true]
    right
    rw [if_pos (by decide)]
    exact fits_small (by omega) (by omega)
  · rw [hz]
    exact h _ _ (hs.new (P := IsRit a (if a < b then b - a else 0) 1) rfl rfl rfl)
theorem n_rit {i : Addr} {x n st : Int} {l' : Ledger} {Q : Option Value → Shared → Prop} (hs : St C F l s) (u : Upd i (IsRit x n st) (IsRit (x + st) (n - 1) st) l l') (hn : 0 < n) (h : ∀ t s', St C F l' s' → Q (some (.int x t)) s') : wpAny C.M A (pyNext (.ref i)) Q E s := by
  obtain ⟨o, e, rfl⟩ := hs.at u.mem
  exact wpAny_pyNext_range_item e hn fun h' hi hsb => h _ _ (hs.upd u hsb.extBut ⟨_, hi, rfl⟩)
theorem n_ritE {i : Addr} {x n st : Int} {l' : Ledger} {Q : Option Value → Shared → Prop} (hs : St C F l s) (hm : (i, IsRit x n st) ∈ l) (u : Drop i l l') (hh : A.handled = none) (hn : n ≤ 0) (h : ∀ s', St C F l' s' → Q none s') : wpAny C.M A (pyNext (.ref i)) Q E s := by
  obtain ⟨o, e, rfl⟩ := hs.at hm
  exact wpAny_pyNext_range_end hh e hn fun h' hx => h _ (hs.drop u hx)
/-! displays -/
noncomputable def tobj (items : List Value) : Obj := { cls := .type "tuple", dict := none, data := .seq items.toArray, slots := #[] }
noncomputable def IsT (items : List Value) : OP := fun o => o = tobj items
noncomputable def MkL (C : Cx) (Q : Value → Shared → Prop) (vs : List Value) (s : Shared) : Prop := ∃ F l, St C F l s ∧ vs.length < 1000 ∧ ∀ a s', St C F ((a, IsL vs) :: l) s' → Q (.ref a) s'
noncomputable def MkT (C : Cx) (Q : Value → Shared → Prop) (vs : List Value) (s : Shared) : Prop := ∃ F l, St C F l s ∧ vs.length < 1000 ∧ ∀ a s', St C F ((a, IsT vs) :: l) s' → Q (.ref a) s'
theorem e_list {elts : List Expr} {pos : Pos} {Q : Value → Shared → Prop} (h : wpAny C.M A (spliced (backTo pos (starEach elts env))) (MkL C Q) E s) : wpAny C.M A (eval (.List elts pos) env) Q E s :=
  wpAny_List (wpAny_mono h (fun vs s₁ ⟨_, _, hs, hz, k⟩ => ⟨by rw [sizeLine_eq]; omega, k _ _ (hs.new (P := IsL vs) ⟨0, rfl⟩ rfl rfl)⟩) fun _ _ x => x)
theorem e_tuple {elts : List Expr} {k : Nat} {pos : Pos} {Q : Value → Shared → Prop} (h : wpAny C.M A (spliced (backTo pos (starEach elts env))) (MkT C Q) E s) : wpAny C.M A (eval (.Tuple elts k pos) env) Q E s :=
  wpAny_Tuple (wpAny_mono h (fun vs s₁ ⟨_, _, hs, hz, k⟩ => ⟨by rw [sizeLine_eq]; omega, k _ _ (hs.new (P := IsT vs) rfl rfl rfl)⟩) fun _ _ x => x)
theorem MkL.in {F : Frz} {l : Ledger} {vs : List Value} {Q : Value → Shared → Prop} (hs : St C F l s) (hz : vs.length < 1000) (k : ∀ a s', St C F ((a, IsL vs) :: l) s' → Q (.ref a) s') : MkL C Q vs s := ⟨F, l, hs, hz, k⟩
theorem MkT.in {F : Frz} {l : Ledger} {vs : List Value} {Q : Value → Shared → Prop} (hs : St C F l s) (hz : vs.length < 1000) (k : ∀ a s', St C F ((a, IsT vs) :: l) s' → Q (.ref a) s') : MkT C Q vs s := ⟨F, l, hs, hz, k⟩
end

end
local macro_rules | `(tactic| walk_at "ex") => `(tactic| first
  | ((with_reducible show wpAny _ _ (callWith _ (Value.type _) [] (backTo _ (starEach (_ :: _) _)) (backToKw _ (keywordEach [] _))) _ _ _); refine callT ?_)
  | ((with_reducible show wpAny _ _ (exec (Stmt.For _ _ _ _ _) _) _ _ _); refine wpAny_For ?_)
  | ((with_reducible show wpAny _ _ (assign (Expr.Name _ _) _ _) _ _ _); with_reducible refine wpAny_assign_Name ?_))
section


theorem sd_mem {new : X} {sp : Nat} : ∀ (p : Nat) (xs : List X), ∀ x ∈ sd new sp xs p, x = new ∨ x ∈ xs := by
  intro p
  induction p using Nat.strongRecOn with
  | ind p ih =>
    intro xs x hx
    have put : x ∈ xs.set p new → x = new ∨ x ∈ xs := fun h => (List.mem_or_eq_of_mem_set h).symm
    rw [sd] at hx
    split at hx
    · split at hx
      · rename_i q hq
        split at hx
        · rcases ih _ (by omega) _ x hx with h | h
          · exact .inl h
          · rcases List.mem_or_eq_of_mem_set h with h | rfl
            · exact .inr h
            · exact .inr (List.mem_of_getElem? hq)
        · exact put hx
      · exact put hx
    · exact put hx
theorem sd_len {new : X} {sp : Nat} : ∀ (p : Nat) (xs : List X), (sd new sp xs p).length = xs.length := by
  intro p
  induction p using Nat.strongRecOn with
  | ind p ih =>
    intro xs
    rw [sd]
    split
    · split
      · split
        · rw [ih _ (by omega), List.length_set]
        · rw [List.length_set]
      · rw [List.length_set]
    · rw [List.length_set]
theorem siftdownX_mem {xs : List X} {sp p : Nat} : ∀ x ∈ siftdownX xs sp p, x ∈ xs := by
  intro x hx
  unfold siftdownX at hx
  split at hx
  · rename_i new hn
    rcases sd_mem p xs x hx with rfl | h
    · exact List.mem_of_getElem? hn
    · exact h
  · exact hx
theorem siftdownX_len {xs : List X} {sp p : Nat} : (siftdownX xs sp p).length = xs.length := by
  unfold siftdownX
  split
  · exact sd_len _ _
  · rfl
theorem su_facts : ∀ (n : Nat) (xs : List X) (p : Nat), xs.length - p = n → p < xs.length → (su xs p).1.length = xs.length ∧ (su xs p).2 < xs.length ∧ ∀ x ∈ (su xs p).1, x ∈ xs := by
  intro n
  induction n using Nat.strongRecOn with
  | ind n ih =>
    intro xs p hn hp
    rw [su]
    split
    · rename_i h
      generalize hc : (if 2 * p + 2 < xs.length ∧ rlt (xs[2 * p + 1]).2 (xs[2 * p + 2]?.getD xs[2 * p + 1]).2 = false then 2 * p + 2 else 2 * p + 1) = c
      have hcl : c < xs.length ∧ p < c := by
        rw [← hc]
        split <;> omega
      obtain ⟨h1, h2, h3⟩ := ih (xs.length - c) (by omega) (xs.set p (xs[c]?.getD xs[2 * p + 1])) c (by rw [List.length_set]) (by rw [List.length_set]; omega)
      rw [List.length_set] at h1 h2
      refine ⟨h1, h2, fun x hx => ?_⟩
      rcases List.mem_or_eq_of_mem_set (h3 x hx) with h | rfl
      · exact h
      · rw [List.getElem?_eq_getElem hcl.1]
        exact List.getElem_mem _
    · exact ⟨rfl, hp, fun _ h => h⟩
theorem siftupX_len {xs : List X} {p : Nat} (hp : p < xs.length) : (siftupX xs p).length = xs.length := by
  unfold siftupX
  split
  · rw [siftdownX_len, List.length_set]; exact (su_facts _ xs p rfl hp).1
  · rfl
theorem siftupX_mem {xs : List X} {p : Nat} (hp : p < xs.length) : ∀ x ∈ siftupX xs p, x ∈ xs := by
  intro x hx
  unfold siftupX at hx
  split at hx
  · rename_i new hn
    rcases List.mem_or_eq_of_mem_set (siftdownX_mem x hx) with h | rfl
    · exact (su_facts _ xs p rfl hp).2.2 x h
    · exact List.mem_of_getElem? hn
  · exact hx
noncomputable def hfy : Nat → List X → List X
  | 0, xs => xs
  | k + 1, xs => hfy k (siftupX xs k)
noncomputable def heapifyX (xs : List X) : List X := hfy (xs.length / 2) xs

section
variable {C : Cx} {F : Frz} {l : Ledger} {A : Around} {s : Shared}
set_option maxRecDepth 10000
theorem heapify_spec {cd cd' cd'' : Value} {H : Addr} {xs : List X} {R : Result → Shared → Prop} (W : Wd C) (fn : FnAt C 4 cd) (fu : FnAt C 6 cd') (fd : FnAt C 5 cd'') (hs : St C F ((H, IsL (vals xs)) :: l) s) (hr : Rm A 3)
    (hX : Rows F xs) (hz : xs.length < 900)
    (h : ∀ s', St C F ((H, IsL (vals (heapifyX xs))) :: l) s' → R (.ok (.ret .none)) s') :
    codeAny C.M A (.call (.ref (C.fn 4)) ⟨[.ref H], []⟩) R s := by
  refine call_fn (vars := [("x", .ref H)]) W fn hs hr.d (fun _ _ => rfl) (by intro x hx; simp only [List.mem_cons, List.not_mem_nil, or_false] at hx; rcases hx with rfl <;> rfl) (by simp only [List.map]; decide +kernel) (fun L s' hs => ?_)
  show wpAny _ _ (execs (_ :: _) _) _ _ _
  repeat walk_at "ex"
  refine bi W (by assumption) W.isLen ?_
  repeat walk_at "ex"
  refine' len_l (items := vals xs) (by assumption) ?hm (by rw [vals_len]; omega) ?_
  case hm => walk_at "mem"
  intro t1 _ _
  rw [vals_len]
  repeat walk_at "ex"
  refine bi W (by assumption) W.isRev ?_
  repeat walk_at "ex"
  refine bi W (by assumption) W.isRange ?_
  repeat walk_at "ex"
  refine o_fdiv (by assumption) (by decide) ?_
  intro t2 _ _
  have e1 : (xs.length : Int).fdiv 2 = ((xs.length / 2 : Nat) : Int) := by
    rw [Int.fdiv_eq_ediv_of_nonneg _ (by decide)]; omega
  rw [e1]
  repeat walk_at "ex"
  refine c_range (by assumption) ?_
  intro r s1 hs1
  repeat walk_at "ex"
  refine' c_reversed (n := ((xs.length / 2 : Nat) : Int)) (by assumption) ?hm (by omega) (by omega) ?_
  case hm => walk_at "mem"
  intro it s2 hs2
  refine' i_rit (by assumption) ?hm ?_
  case hm => walk_at "mem"
  refine codeAny_forLoop (fun k s' => ∃ ys, St C F ((it, IsRit ((k : Nat) - 1 : Int) (k : Nat) (-1)) :: (r, IsRng 0 ((xs.length / 2 : Nat) : Int) 1) :: (L, NsH [("x", .ref H), ("n", .int xs.length t1)]) :: (H, IsL (vals ys)) :: l) s' ∧
      hfy k ys = heapifyX xs ∧ Rows F ys ∧ ys.length = xs.length ∧ k ≤ xs.length / 2) ?_ (xs.length / 2) ⟨xs, hs2, rfl, hX, rfl, Nat.le_refl _⟩
  rintro k s3 ⟨ys, hs3, e2, hY, hl, hk⟩
  cases k with
  | zero =>
    refine' n_ritE (by assumption) ?hm ?hd hr.deeper.handled ?hn ?_
    case hm => walk_at "mem"
    case hd => exact Drop.here
    case hn => omega
    intro s4 hs4
    try dsimp only
    repeat walk_at "ex"
    try dsimp only
    repeat walk_at "ex"
    try dsimp only
    rw [hfy] at e2
    rw [← e2] at h
    exact h _ (hs4.sub ((List.sublist_cons_self _ _).trans (List.sublist_cons_self _ _)))
  | succ k =>
    refine' n_rit (by assumption) ?hu ?hn ?_
    case hu => exact Upd.here
    case hn => omega
    intro t4 s4 hs4
    repeat walk_at "ex"
    refine gl W (by assumption) fu.glob ?_
    refine callF fu ?_
    repeat walk_at "ex"
    refine ⟨⟨_, _, by assumption⟩, wpAny_call ?_⟩
    rename St C F _ _ => hh
    have hkx : k < ys.length := by omega
    rw [show ((k + 1 : Nat) : Int) - 1 = (k : Int) by omega]
    refine siftup_spec W fu fd (l := (it, IsRit (((k + 1 : Nat) : Int) - 1 + -1) (((k + 1 : Nat) : Int) - 1) (-1)) :: (r, IsRng 0 ((xs.length / 2 : Nat) : Int) 1) :: (L, NsH [("x", .ref H), ("n", .int xs.length t1), ("i", .int (((k + 1 : Nat) : Int) - 1) t4)]) :: l) (hh.perm (by
      refine (List.perm_middle (l₁ := [_, _, _])).symm)) hr.deeper hY hkx (by omega) ?_
    intro s9 hs9
    have hs10 := hs9.perm (l' := (it, IsRit (((k + 1 : Nat) : Int) - 1 + -1) (((k + 1 : Nat) : Int) - 1) (-1)) :: (r, IsRng 0 ((xs.length / 2 : Nat) : Int) 1) :: (L, NsH [("x", .ref H), ("n", .int xs.length t1), ("i", .int (((k + 1 : Nat) : Int) - 1) t4)]) :: (H, IsL (vals (siftupX ys k))) :: l) (List.perm_middle (l₁ := [_, _, _]))
    have hs11 := Upd.mono (.there (.there .here)) hs10 fun o => NsH.pre (vars' := [_, _]) (extra := [_])
    try dsimp only
    repeat walk_at "ex"
    try dsimp only
    rw [hfy] at e2
    rw [show ((k + 1 : Nat) : Int) - 1 = (k : Int) by omega, show (k : Int) + -1 = (k : Int) - 1 by omega] at hs11
    exact ⟨k, Nat.lt_succ_self k, siftupX ys k, hs11, e2, fun x hx => hY x (siftupX_mem hkx x hx), (siftupX_len hkx).trans hl, by omega⟩
end

end
local macro_rules | `(tactic| walk_at "ex") => `(tactic| first
  | ((with_reducible show wpAny _ _ (exec (Stmt.Assign [Expr.Attribute _ _ _] _ _) _) _ _ _); refine plainObj_wpAny_Assign_Attribute ?_ (by with_unfolding_all rfl)))
section


noncomputable def cBody : List Stmt := match stmtAt 10 with | some (.ClassDef _ _ _ body _ _ _ _ _ _ _) => body | _ => []
noncomputable def mAt (j : Nat) : Option Stmt := cBody[j]?
noncomputable def mBody (i : Nat) : List Stmt := match mAt i with | some (.FunctionDef _ _ body _ _ _ _ _ _ _) => body | _ => []
noncomputable def mScope (i : Nat) : Scope := match mAt i with | some (.FunctionDef _ _ _ _ _ _ sc _ _ _) => sc | _ => default
noncomputable def mParams (i : Nat) : Arguments := match mAt i with | some (.FunctionDef _ ps _ _ _ _ _ _ _ _) => ps | _ => default
noncomputable def mName (i : Nat) : Str := match mAt i with | some (.FunctionDef n _ _ _ _ _ _ _ _ _) => n | _ => default
noncomputable def mQual (i : Nat) : Str := ("Entry." : Str) ++ mName i
noncomputable def methDef (name qual : Str) (params : Arguments) (body : List Stmt) (scope : Scope) (pm code doc : Value) : FuncData :=
  { name, qualname := qual, params, body := .stmts body, scope, globals := mainGlobals, closure := [], defaults := .none, kwdefaults := .none, doc, pyModule := pm, code, builtins := builtinsNs }

/-- the class and its methods stand -/
structure Cl (C : Cx) (c : Addr) (mt : Nat → Addr) (cd : Nat → Value) : Prop where
  kin : C.K.In C.hw
  glob : C.mg "Entry" = some (.ref c)
  keep : keepIn C.K (.ref c) = true
  makes : makesIn C.K c = true
  cls : ∃ x, clsIn C.K c = some x ∧ x.hasDict = true
  over : plainOver C.K c = true
  init : findIn C.K (.ref c) "__init__" = some (some (.ref (mt 0)))
  initF : typeIn C.K (.ref (mt 0)) = some (.type "function")
  ga : findIn C.K (.ref c) "__getattribute__" = some (some (.builtin "object.__getattribute__"))
  gattr : findIn C.K (.ref c) "__getattr__" = some none
  sa : findIn C.K (.ref c) "__setattr__" = some (some (.builtin "object.__setattr__"))
  fU : findIn C.K (.ref c) "useragents" = some none
  tk : ∀ n ∈ [("useragents" : Str), "rulelines", "delay", "req_rate"], takerIn C.K c n = some none
  fA : findIn C.K (.ref c) "applies_to" = some (some (.ref (mt 2)))
  fAF : typeIn C.K (.ref (mt 2)) = some (.type "function")
  fAk : keepIn C.K (.ref (mt 2)) = true
  meth : ∀ j, j = 0 ∨ j = 2 → ∃ o pm doc, C.hw.get? (mt j) = some o ∧ o.data = .func (methDef (mName j) (mQual j) (mParams j) (mBody j) (mScope j) pm (cd j) doc)
  code : ∀ j, j = 0 ∨ j = 2 → C.hw.CodeRec (cd j) (mQual j)

theorem Cl.at {C : Cx} {c : Addr} {mt : Nat → Addr} {cd : Nat → Value} (X : Cl C c mt cd) {F : Frz} {l : Ledger} {s : Shared} (hs : St C F l s) : C.K.In s.heap := X.kin.keeps hs.sup

/-- an object's dict, whole -/
noncomputable def IdH (vars : List (Str × Value)) : OP := fun o => (vars.map (·.1)).Nodup ∧ ∃ es ep, o.data = .dict es ep ∧ StrKeys es ∧ UniqKeys es ∧ (∀ p ∈ vars, nsFind es p.1 = some p.2) ∧ ∀ y, nsFind es y ≠ none → y ∈ vars.map (·.1)
theorem IdH.ns {vars : List (Str × Value)} {o : Obj} (h : IdH vars o) : NsH vars o := let ⟨nd, es, ep, d, k, _, f, _⟩ := h; ⟨nd, es, ep, d, k, f⟩
theorem VSet.in {x : Str} {v : Value} {r r' : List (Str × Value)} (u : VSet x v r r') : x ∈ r'.map (·.1) ∧ ∀ y ∈ r.map (·.1), y ∈ r'.map (·.1) := by
  induction u with
  | nil => exact ⟨.head _, fun y hy => nomatch hy⟩
  | hit => exact ⟨.head _, fun y hy => hy⟩
  | miss _ _ ih => exact ⟨.tail _ ih.1, fun y hy => by
      rcases List.mem_cons.mp hy with rfl | hy
      · exact .head _
      · exact .tail _ (ih.2 y hy)⟩

noncomputable def IsInst (c dx : Addr) : OP := fun o => o = instObj c dx

section
variable {C : Cx} {F : Frz} {l : Ledger} {A : Around} {E : Value → Shared → Prop} {s : Shared} {c : Addr} {mt : Nat → Addr} {cd : Nat → Value}

theorem call_mt {j : Nat} {args : List Value} {vars : List (Str × Value)} {R : Result → Shared → Prop} (W : Wd C) (X : Cl C c mt cd) (hj : j = 0 ∨ j = 2) (hs : St C F l s) (hr : A.depth < recursionLimit)
    (hbind : ∀ pm doc, bindArgs (methDef (mName j) (mQual j) (mParams j) (mBody j) (mScope j) pm (cd j) doc) ⟨args, []⟩ = pure vars)
    (hloc : ∀ x ∈ vars, (mScope j).names.lookup x.1 = some .local) (hnd : (vars.map (·.1)).Nodup)
    (h : ∀ L s', St C F ((L, NsH vars) :: l) s' → wpAny C.M (A.deeper (envOf (mQual j) (mScope j) L (mt j) (cd j))) (execs (mBody j) (envOf (mQual j) (mScope j) L (mt j) (cd j)))
        (fun f s' => R (.ok (.ret (match f with | .ret v => v | _ => .none))) s') (fun _ _ => False) s')
    (hco : (mScope j).isCoroutine = false := by rfl) (hgen : (mScope j).isGenerator = false := by rfl) (hk : (mScope j).kind = .function := by rfl)
    (hcell : ∀ x ∈ (mScope j).names, x.2 ≠ .cell := by decide +kernel) :
    codeAny C.M A (.call (.ref (mt j)) ⟨args, []⟩) R s := by
  obtain ⟨o, pm, doc, ho, hd⟩ := X.meth j hj
  have hcd : s.heap.CodeRec (cd j) (mQual j) := by
    obtain ⟨c, oc, vs, tq, hc, hoc, r⟩ := X.code j hj
    exact ⟨c, oc, vs, tq, hc, hs.sup _ _ hoc, r⟩
  refine codeAny_call_function hr (hs.sup _ _ ho) hd hco hgen rfl hcd ?_
  rw [hbind]
  refine wpAny_pure (wpAny_newFunctionEnv hcell hloc (fun h₁ hns hsb => ⟨(W.nolimit.keeps hs.sup).fresh _ hsb, ?_⟩) hk)
  show codeAny _ _ (.func (mBody j) (envOf (mQual j) (mScope j) s.heap.objs.size (mt j) (cd j))) _ _
  refine codeAny_func (wpAny_mono (h _ _ (hs.push (Nat.le_refl _) (fun b o e => hsb.extBut b o (Nat.ne_of_lt (Heap.lt_size e)) (Heap.get?_push_of_some _ e)) (nsH_of hns hnd fun p hp => ?_))) (fun _ _ x => x) (fun _ _ x => x.elim))
  exact mem_lookup (r := vars.reverse) (by rw [List.map_reverse]; exact (List.reverse_perm _).nodup_iff.mpr hnd) p (List.mem_reverse.mpr hp)

theorem look_of {o : Obj} {vars : List (Str × Value)} {n : Str} {v : Value} (h : NsH vars o) (hm : (n, v) ∈ vars) : lookIn n o = some (some v) := by
  obtain ⟨_, es, ep, d, k, f⟩ := h
  have e := f _ hm
  unfold lookIn
  rw [d]
  dsimp only
  unfold nsFind findBy at e
  rw [← Array.find?_toList] at e
  cases q : es.toList.find? (fun e => e.key.isStr n) with
  | none => rw [q] at e; cases e
  | some en => rw [q] at e; cases e; rfl

theorem instAt_of {x dx : Addr} {vars : List (Str × Value)} (hs : St C F l s) (hx : (x, IsInst c dx) ∈ l) (hd : (dx, IdH vars) ∈ l) : ∃ od, InstAt s.heap x (instObj c dx) c (some od) ∧ NsH vars od := by
  obtain ⟨o, e, rfl⟩ := hs.at hx
  obtain ⟨od, ed, hv⟩ := hs.at hd
  exact ⟨od, ⟨e, rfl, rfl, ed⟩, hv.ns⟩

/-- a name that the object's own dict holds -/
theorem get_attr {x dx : Addr} {vars : List (Str × Value)} {v : Value} {expr : Bool} {Q : Value → Shared → Prop} (X : Cl C c mt cd) (hs : St C F l s) (hx : (x, IsInst c dx) ∈ l) (hd : (dx, IdH vars) ∈ l) (hv : (("useragents" : Str), v) ∈ vars) (hh : handedIn v = true)
    (h : ∀ s', St C F l s' → Q v s') : wpAny C.M A (getAttr (.ref x) "useragents" expr) Q E s := by
  obtain ⟨od, I, hn⟩ := instAt_of hs hx hd
  obtain ⟨cl, hcl, hdt⟩ := X.cls
  refine get_value (X.at hs) I X.ga ?_ hh (h _ (hs.tok _))
  unfold findObj
  rw [hcl, Option.bind_some, X.fU, Option.bind_some]
  dsimp only
  rw [Option.bind_some, Option.bind_some]
  unfold W.ownOf
  rw [if_pos hdt]
  dsimp only
  rw [look_of hn hv]
  rfl

theorem set_attr {x dx : Addr} {vars vars' : List (Str × Value)} {n : Str} {v : Value} {l' : Ledger} {Q : Unit → Shared → Prop} (X : Cl C c mt cd) (hs : St C F l s) (hx : (x, IsInst c dx) ∈ l) (u : Upd dx (IdH vars) (IdH vars') l l') (hv : VSet n v vars vars') (hz : vars'.length < 1000)
    (hn : n ∈ [("useragents" : Str), "rulelines", "delay", "req_rate"]) (h : ∀ s', St C F l' s' → Q () s') : wpAny C.M A (setAttr (.ref x) n v) Q E s := by
  obtain ⟨od, I, hno⟩ := instAt_of hs hx u.mem
  obtain ⟨cl, hcl, hdt⟩ := X.cls
  refine set_plain (X.at hs) I X.sa ?_
  have hs' := hs.tok (s.toks + 1)
  obtain ⟨od', I', hno'⟩ := instAt_of hs' hx u.mem
  refine osa_open (X.at hs') I' X.over (X.tk n hn) fun b => ?_
  obtain ⟨hx1, hcl1, hn1, hd1⟩ := I'
  obtain ⟨oo, eo, nd, es, ep, hd, hk, hu, hf, hw⟩ := hs'.at u.mem
  have nm : ({ s with toks := s.toks + 1 } : Shared).heap.Ns1 dx (nsFind es) := ⟨oo, es, ep, eo, hd, hk, hu, fun _ => rfl⟩
  refine wpAny_bind (wpAny_pure (wpAny_bind (wpAny_bind (wpAny_loadPart hx1 (wpAny_bind ((looks_clsIn (X.at hs') hcl).here ?_))))))
  rw [hdt]
  refine wpAny_pure (a := some dx) (wpAny_bind (wpAny_pure (wpAny_bind ?_)))
  refine wpAny_nsSet1 nm fun h' hn' hsb => ?_
  have hw' : Within (fun y => if y = n then some v else nsFind es y) (vars'.map (·.1)) := by
    intro y hy
    dsimp only at hy
    by_cases e : y = n
    · rw [e]; exact hv.in.1
    · rw [if_neg e] at hy; exact hv.in.2 y (hw y hy)
  obtain ⟨o2, es2, ep2, e2, d2, c2⟩ := hn'.count hw'
  refine wpAny_bind (wpAny_lookBehind e2 (by rw [d2]; exact pastItsLine_dict (by rw [List.length_map] at c2; rw [sizeLine_eq]; omega)) (wpAny_pure ?_))
  obtain ⟨o3, es3, ep3, e3, d3, k3, u3, f3⟩ := hn'
  refine h _ (hs'.upd u hsb.extBut ⟨o3, e3, hv.nodup nd, es3, ep3, d3, k3, u3, fun p hp => (f3 _).trans (hv.get hf nd p hp), fun y hy => hw' y ?_⟩)
  rw [← f3]; exact hy
end

end
local macro_rules | `(tactic| walk_at "take") => `(tactic| with_reducible (repeat' first | exact Take.here | apply Take.there))
local macro_rules | `(tactic| walk_at "pick") => `(tactic| with_reducible (repeat' first | exact Pick.refl | (apply Pick.cons; (walk_at "take")) | apply Pick.skip))
local macro_rules | `(tactic| walk_at "ex") => `(tactic| first
  | ((with_reducible show wpAny _ _ (eval (Expr.List _ _) _) _ _ _); with_reducible refine e_list ?_)
  | ((with_reducible show wpAny _ _ (eval (Expr.Tuple _ _ _) _) _ _ _); with_reducible refine e_tuple ?_)
  | ((with_reducible show wpAny _ _ (eval (Expr.Constant Const.none _ _) _) _ _ _); with_reducible refine wpAny_Constant_none ?_)
  | ((with_reducible show wpAny _ _ (eval (Expr.Constant (Const.bool _) _ _) _) _ _ _); with_reducible refine wpAny_Constant_bool ?_)
  | ((with_reducible show wpAny _ _ (eval (Expr.Constant (Const.str _) _ _) _) _ _ _); with_reducible refine k_str (by assumption) ?_; intro _ _ _))
section


section
variable {C : Cx} {F : Frz} {l : Ledger} {A : Around} {E : Value → Shared → Prop} {s : Shared} {c : Addr} {mt : Nat → Addr} {cd : Nat → Value}
theorem Rm.make {n : Nat} (h : Rm A (n + 1)) : Rm (A.under (.builtin "type.__call__" ⟨[.ref c], []⟩)) n := by
  have e1 : (Code.builtin "type.__call__" ⟨[.ref c], []⟩).weight = 1 := by rfl
  have e2 : (Code.builtin "type.__call__" ⟨[.ref c], []⟩).cUnits ≤ 3 := by show (1 : Nat) ≤ 3; decide
  refine ⟨h.handled, ?_, ?_⟩
  · show A.depth + (Code.builtin "type.__call__" ⟨[.ref c], []⟩).weight + n < _
    have := h.depth; omega
  · show A.units + (Code.builtin "type.__call__" ⟨[.ref c], []⟩).cUnits + 8 * n < _
    have := h.units; omega

set_option maxRecDepth 10000
theorem entry_new {R : Result → Shared → Prop} (W : Wd C) (X : Cl C c mt cd) (hs : St C F l s) (hr : Rm A 2)
    (h : ∀ x dx U V s', St C F ((x, IsInst c dx) :: (dx, IdH [("useragents", .ref U), ("rulelines", .ref V), ("delay", .none), ("req_rate", .none)]) :: (U, IsL []) :: l) s' → R (.ok (.ret (.ref x))) s') :
    codeAny C.M A (.call (.ref c) ⟨[], []⟩) R s := by
  obtain ⟨hp, g, d, t, os⟩ := s
  refine make_core (makes_of (X.at hs) X.makes) (looks_findIn (X.at hs) X.init) (fun self => bind_fn (X.at hs) self X.initF) (.inl rfl) ?_
  have h1 : St C F ((hp.objs.size, IdH []) :: l) ⟨hp.push emptyDict, g, d, t, os⟩ := hs.new (P := IdH []) (o := emptyDict) ⟨List.nodup_nil, #[], 0, rfl, fun _ he => by simp at he, List.Pairwise.nil, (fun p hp => nomatch hp), fun y hy => absurd rfl hy⟩ rfl rfl
  have h2 : St C F (((hp.push emptyDict).objs.size, IsInst c hp.objs.size) :: (hp.objs.size, IdH []) :: l) ⟨(hp.push emptyDict).push (instObj c hp.objs.size), g, d, t, os⟩ := h1.new (P := IsInst c hp.objs.size) rfl rfl rfl
  rw [Heap.size_push] at h2
  generalize hp.objs.size + 1 = x at h2 ⊢
  generalize hp.objs.size = dx at h2 ⊢
  generalize (⟨(hp.push emptyDict).push (instObj c dx), g, d, t, os⟩ : Shared) = s2 at h2 ⊢
  refine call_mt (j := 0) (vars := [("self", .ref x)]) W X (.inl rfl) h2 hr.make.d (fun _ _ => rfl) (by intro x hx; simp only [List.mem_cons, List.not_mem_nil, or_false] at hx; rcases hx with rfl <;> rfl) (by simp only [List.map]; decide +kernel) (fun L s' hs => ?_)
  show wpAny _ _ (execs (_ :: _) _) _ _ _
  repeat walk_at "ex"
  refine MkL.in (by assumption) (by decide) ?_
  intro U s3 hs3
  repeat walk_at "ex"
  refine' set_attr X (by assumption) ?hx ?hu ?hv ?hz ?hn ?_
  case hx => walk_at "mem"
  case hu => walk_at "upd"
  case hv => walk_at "vset"
  case hz => simp only [List.length_cons, List.length_nil]; decide
  case hn => walk_at "mem"
  intro s4 hs4
  repeat walk_at "ex"
  refine MkL.in (by assumption) (by decide) ?_
  intro V s5 hs5
  repeat walk_at "ex"
  refine' set_attr X (by assumption) ?hx ?hu ?hv ?hz ?hn ?_
  case hx => walk_at "mem"
  case hu => walk_at "upd"
  case hv => walk_at "vset"
  case hz => simp only [List.length_cons, List.length_nil]; decide
  case hn => walk_at "mem"
  intro s6 hs6
  repeat walk_at "ex"
  refine' set_attr X (by assumption) ?hx ?hu ?hv ?hz ?hn ?_
  case hx => walk_at "mem"
  case hu => walk_at "upd"
  case hv => walk_at "vset"
  case hz => simp only [List.length_cons, List.length_nil]; decide
  case hn => walk_at "mem"
  intro s7 hs7
  repeat walk_at "ex"
  refine' set_attr X (by assumption) ?hx ?hu ?hv ?hz ?hn ?_
  case hx => walk_at "mem"
  case hu => walk_at "upd"
  case hv => walk_at "vset"
  case hz => simp only [List.length_cons, List.length_nil]; decide
  case hn => walk_at "mem"
  intro s8 hs8
  repeat walk_at "ex"
  try dsimp only
  refine ⟨rfl, h x dx U V _ ?_⟩
  refine hs8.pick ?_
  walk_at "pick"
end

end
local macro_rules | `(tactic| walk_at "ex") => `(tactic| first
  | ((with_reducible show wpAny _ _ (eval (Expr.Attribute (Expr.Name _ _) _ _) _) _ _ _); refine Attribute_Name_ ?_))
section


noncomputable def litObj (a : Addr) (i : Nat) : Obj := { cls := .type "list_iterator", dict := none, data := .fields #[.ref a, .int i 0], slots := #[] }
noncomputable def IsLit (a : Addr) (i : Nat) : OP := fun o => o.cls = .type "list_iterator" ∧ o.data = .fields #[.ref a, .int i 0]

theorem mem3 {p : Addr × OP} {a b : Addr × OP} {l : Ledger} (h : p ∈ l) : p ∈ a :: b :: l := List.mem_cons_of_mem _ (List.mem_cons_of_mem _ h)
noncomputable def appl (us : List Str) (n : Str) : Bool := us.any fun a => (a != ("*" : Str)) && Txt.contains n (Txt.lower a)

section
variable {C : Cx} {F : Frz} {l : Ledger} {A : Around} {E : Value → Shared → Prop} {s : Shared} {env : Env} {c : Addr} {mt : Nat → Addr} {cd : Nat → Value}
theorem i_list {a : Addr} {items : List Value} {Q : Value → Shared → Prop} (hs : St C F l s) (hm : (a, IsL items) ∈ l) (h : ∀ i s', St C F ((i, IsLit a 0) :: l) s' → Q (.ref i) s') : wpAny C.M A (pyIter (.ref a)) Q E s :=
  wpAny_pyIter_list (hs.isList hm) (h _ _ (hs.new (P := IsLit a 0) ⟨rfl, rfl⟩ rfl rfl))
theorem n_list {it a : Addr} {items : List Value} {i : Nat} {x : Value} {l' : Ledger} {Q : Option Value → Shared → Prop} (hs : St C F l s) (u : Upd it (IsLit a i) (IsLit a (i + 1)) l l') (hm : (a, IsL items) ∈ l) (hx : items[i]? = some x)
    (h : ∀ s', St C F l' s' → Q (some x) s') : wpAny C.M A (pyNext (.ref it)) Q E s := by
  obtain ⟨o, e, hc, hd⟩ := hs.at u.mem
  exact wpAny_pyNext_list_item ⟨o, e, hc, hd⟩ (hs.isList hm) (by simpa using hx) fun h' ⟨o', e', hc', hd'⟩ hsb => h _ (hs.upd u hsb.extBut ⟨o', e', hc', hd'⟩)
theorem n_listE {it a : Addr} {items : List Value} {i : Nat} {l' : Ledger} {Q : Option Value → Shared → Prop} (hs : St C F l s) (hi : (it, IsLit a i) ∈ l) (u : Drop it l l') (hm : (a, IsL items) ∈ l) (hx : items[i]? = none) (hh : A.handled = none)
    (h : ∀ s', St C F l' s' → Q none s') : wpAny C.M A (pyNext (.ref it)) Q E s := by
  obtain ⟨o, e, hc, hd⟩ := hs.at hi
  exact wpAny_pyNext_list_end hh ⟨o, e, hc, hd⟩ (hs.isList hm) (by simpa using hx) fun h' hx => h _ (hs.drop u hx)

theorem St.kept : KeptByPush (St C F l) := fun s ob k h => h.ext fun b o e => Heap.get?_push_of_some _ e

theorem s_lower {x : Str} {t : Tok} {Q : Value → Shared → Prop} (hs : St C F l s) (hx : x.length ≤ 1000) (h : ∀ t s', St C F l s' → Q (.str (Txt.lower x) t) s') : wpAny C.M A (call (.builtin "str.lower") [.str x t]) Q E s :=
  SCL.lower (by omega) fun _ => h _ _ (hs.tok _)
theorem s_upper {x : Str} {t : Tok} {Q : Value → Shared → Prop} (hs : St C F l s) (hx : x.length ≤ 1000) (h : ∀ t s', St C F l s' → Q (.str (Txt.upper x) t) s') : wpAny C.M A (call (.builtin "str.upper") [.str x t]) Q E s :=
  SCL.upper (by omega) fun _ => h _ _ (hs.tok _)

theorem s_split {x p : Str} {rest : List Str} {t u : Tok} {Q : Value → Shared → Prop} (hs : St C F l s) (hx : x.length ≤ 1000) (hz : (Builtin.Str.partsBetween x (Builtin.Str.occurrences x "/" 0 x.length (x.length + 1)) ("/" : Str).length).length ≤ 1000)
    (hp : Txt.split x "/" = p :: rest)
    (h : ∀ D t l1 s', St C F l s' → s'.heap.IsList D (strValues ((p, t) :: l1)).toArray → Q (.ref D) s') :
    wpAny C.M A (call (.builtin "str.split") [.str x t, .str "/" u]) Q E s := by
  refine SCG.split1 (Fm := St C F l) St.kept hs (by decide +kernel) (fun D l0 s' e hs' hl => ?_) (by rw [sizeLine_eq]; omega) (by rw [sizeLine_eq]; omega)
  rw [hp] at e
  cases l0 with
  | nil => cases e
  | cons q l1 =>
    obtain ⟨q1, q2⟩ := q
    simp only [List.map_cons, List.cons.injEq] at e
    obtain ⟨rfl, _⟩ := e
    exact h D q2 l1 s' hs' hl

set_option maxRecDepth 10000
theorem applies_spec {us : List (Str × Tok)} {x n p : Str} {rest : List Str} {t : Tok} {rc dx U : Addr} {vars : List (Str × Value)} {R : Result → Shared → Prop} (W : Wd C) (X : Cl C c mt cd) (hs : St C F l s) (hr : Rm A 1)
    (hI : (rc, IsInst c dx) ∈ l) (hD : (dx, IdH vars) ∈ l) (hU : (("useragents" : Str), .ref U) ∈ vars) (hL : (U, IsL (strValues us)) ∈ l)
    (hx : x.length ≤ 1000) (hz : (Builtin.Str.partsBetween x (Builtin.Str.occurrences x "/" 0 x.length (x.length + 1)) ("/" : Str).length).length ≤ 1000)
    (hp : Txt.split x "/" = p :: rest) (hpl : p.length ≤ 1000) (hn : Txt.lower p = n) (hus : ∀ a ∈ us, a.1.length ≤ 1000)
    (h : ∀ s', St C F l s' → R (.ok (.ret (.bool (appl (us.map (·.1)) n)))) s') :
    codeAny C.M A (.call (.ref (mt 2)) ⟨[.ref rc, .str x t], []⟩) R s := by
  refine call_mt (j := 2) (vars := [("self", .ref rc), ("useragent", .str x t)]) W X (.inr rfl) hs hr.d (fun _ _ => rfl) (by intro x hx; simp only [List.mem_cons, List.not_mem_nil, or_false] at hx; rcases hx with rfl | rfl <;> rfl) (by simp only [List.map]; decide +kernel) (fun L s' hs => ?_)
  show wpAny _ _ (execs (_ :: _) _) _ _ _
  repeat walk_at "ex"
  refine is_none ?_
  repeat walk_at "ex"
  rw [show (Value.str x t == Value.none) = false from rfl]
  repeat walk_at "ex"
  try dsimp only
  repeat walk_at "ex"
  refine GM.split ?_
  refine callM1 ?_
  repeat walk_at "ex"
  refine s_split (by assumption) hx hz hp ?_
  intro D t1 l1 s2 hs2 hl2
  refine wpAny_Constant_int ?_
  refine tail_any (s := { s2 with toks := s2.toks + 1 }) hl2.typeIs slot_list_getitem.lookup (wpAny_getItem_list (s := { s2 with toks := s2.toks + 1 }) (x := .str p t1) hl2 (by decide) (by decide) (by rfl) ?_) (by with_unfolding_all rfl)
  refine GM.lower ?_
  refine callM0 ?_
  refine s_lower (hs2.tok _) hpl ?_
  intro t2 s3 hs3
  rw [hn]
  repeat walk_at "ex"
  refine get_attr X (by assumption) (List.mem_cons_of_mem _ hI) (List.mem_cons_of_mem _ hD) hU (by rfl) ?_
  intro s4 hs4
  refine i_list hs4 (List.mem_cons_of_mem _ hL) ?_
  intro it s5 hs5
  refine codeAny_forLoop (fun k s' => ∃ i, St C F ((it, IsLit U i) :: (L, NsH [("self", .ref rc), ("useragent", .str n t2)]) :: l) s' ∧ k + i = us.length ∧ appl ((us.take i).map (·.1)) n = false) ?_ us.length ⟨0, hs5, by omega, rfl⟩
  rintro k s6 ⟨i, hs6, hk, hf⟩
  cases k with
  | zero =>
    refine' n_listE hs6 ?hm ?hd (mem3 hL) ?hx hr.deeper.handled ?_
    case hm => walk_at "mem"
    case hd => exact Drop.here
    case hx => simp [strValues]; omega
    intro s7 hs7
    repeat walk_at "ex"
    try dsimp only
    repeat walk_at "ex"
    try dsimp only
    have e : us.take i = us := List.take_of_length_le (by omega)
    rw [e] at hf
    rw [← hf]
    exact h _ (hs7.sub (List.sublist_cons_self _ _))
  | succ k =>
    have hi : i < us.length := by omega
    obtain ⟨a, ha⟩ : ∃ a, us[i]? = some a := ⟨_, List.getElem?_eq_getElem hi⟩
    have htk : us.take (i + 1) = us.take i ++ [a] := by rw [List.take_succ, ha]; rfl
    have happ : appl ((us.take (i + 1)).map (·.1)) n = ((a.1 != ("*" : Str)) && Txt.contains n (Txt.lower a.1)) := by
      rw [htk]; unfold appl at hf ⊢
      rw [List.map_append, List.any_append, hf]; simp
    refine' n_list hs6 ?hu (mem3 hL) (x := .str a.1 a.2) ?hx ?_
    case hu => exact Upd.here
    case hx => simp [strValues, ha]
    intro s7 hs7
    repeat walk_at "ex"
    refine PySem.P.ne_str ?_
    repeat walk_at "ex"
    have hb : (a.1.cps.toList != ("*" : Str).cps.toList) = (a.1 != ("*" : Str)) := by
      show (!(a.1.cps.toList == ("*" : Str).cps.toList)) = !(a.1 == ("*" : Str))
      rw [SeqAt.str_beq]
    rw [hb]
    cases hst : (a.1 != ("*" : Str)) with
    | false =>
      repeat walk_at "ex"
      try dsimp only
      repeat walk_at "ex"
      try dsimp only
      rename St C F _ _ => hh
      have hh2 := Upd.mono (.there .here) hh fun o => NsH.pre (vars' := [_, _]) (extra := [_])
      exact ⟨k, Nat.lt_succ_self k, i + 1, hh2, by omega, by rw [happ, hst]; rfl⟩
    | true =>
      repeat walk_at "ex"
      refine GM.lower ?_
      refine callM0 ?_
      refine s_lower (by assumption) (hus a (List.mem_of_getElem? ha)) ?_
      intro t8 s8 hs8
      repeat walk_at "ex"
      refine SB.contains ?_
      repeat walk_at "ex"
      cases hct : Txt.contains n (Txt.lower a.1) with
      | true =>
        repeat walk_at "ex"
        try dsimp only
        have hall : appl (us.map (·.1)) n = true := by
          unfold appl
          rw [List.any_eq_true]
          exact ⟨a.1, List.mem_map_of_mem (List.mem_of_getElem? ha), by rw [hst, hct]; rfl⟩
        rw [← hall]
        rename St C F _ _ => hh
        exact h _ (hh.sub ((List.sublist_cons_self _ _).trans (List.sublist_cons_self _ _)))
      | false =>
        repeat walk_at "ex"
        try dsimp only
        repeat walk_at "ex"
        try dsimp only
        rename St C F _ _ => hh
        have hh2 := Upd.mono (.there .here) hh fun o => NsH.pre (vars' := [_, _]) (extra := [_])
        exact ⟨k, Nat.lt_succ_self k, i + 1, hh2, by omega, by rw [happ, hst, hct]; rfl⟩
end

end
section


section
variable {C : Cx} {F : Frz} {l : Ledger} {A : Around} {E : Value → Shared → Prop} {s : Shared} {env : Env} {c : Addr} {mt : Nat → Addr} {cd : Nat → Value}
set_option maxRecDepth 10000
noncomputable def starIn (v : Value) : Bool := match v with | .str a _ => a == ("*" : Str) | _ => false
theorem star_any (us : List (Str × Tok)) : (strValues us).toArray.any starIn = (us.map (·.1)).contains ("*" : Str) := by
  rw [List.any_toArray, strValues, List.any_map]
  induction us with
  | nil => rfl
  | cons a us ih =>
    rw [List.any_cons, List.map_cons, List.contains_cons, ih]
    congr 1
    show (a.1 == ("*" : Str)) = (("*" : Str) == a.1)
    exact Bool.eq_iff_iff.mpr (by rw [beq_iff_eq, beq_iff_eq]; exact eq_comm)
theorem applies_none {us : List (Str × Tok)} {rc dx U : Addr} {vars : List (Str × Value)} {R : Result → Shared → Prop} (W : Wd C) (X : Cl C c mt cd) (hs : St C F l s) (hr : Rm A 1)
    (hI : (rc, IsInst c dx) ∈ l) (hD : (dx, IdH vars) ∈ l) (hU : (("useragents" : Str), .ref U) ∈ vars) (hL : (U, IsL (strValues us)) ∈ l)
    (h : ∀ s', St C F l s' → R (.ok (.ret (.bool ((us.map (·.1)).contains ("*" : Str))))) s') :
    codeAny C.M A (.call (.ref (mt 2)) ⟨[.ref rc, .none], []⟩) R s := by
  refine call_mt (j := 2) (vars := [("self", .ref rc), ("useragent", .none)]) W X (.inr rfl) hs hr.d (fun _ _ => rfl) (by intro x hx; simp only [List.mem_cons, List.not_mem_nil, or_false] at hx; rcases hx with rfl | rfl <;> rfl) (by simp only [List.map]; decide +kernel) (fun L s' hs => ?_)
  show wpAny _ _ (execs (_ :: _) _) _ _ _
  repeat walk_at "ex"
  refine is_none ?_
  repeat walk_at "ex"
  rw [show (Value.none == Value.none) = true from rfl]
  repeat walk_at "ex"
  refine wpAny_Compare1 ?_
  repeat walk_at "ex"
  refine get_attr X (by assumption) (List.mem_cons_of_mem _ hI) (List.mem_cons_of_mem _ hD) hU (by rfl) ?_
  intro s4 hs4
  refine SeqAt.in_listAt starIn (hs4.isList (List.mem_cons_of_mem _ hL)) (fun y hy => ?_) ?_
  · have hy' : y ∈ strValues us := by simpa using hy
    obtain ⟨a, ha, rfl⟩ := List.mem_map.mp hy'
    exact SeqAt.EqAt.str_str _ _ _ _
  · rw [star_any]
    try dsimp only
    exact h _ (hs4.sub (List.sublist_cons_self _ _))

theorem m_attr_list {rc dx U : Addr} {vars : List (Str × Value)} {Q : Value → Shared → Prop} (X : Cl C c mt cd) (hs : St C F l s) (hI : (rc, IsInst c dx) ∈ l) (hD : (dx, IdH vars) ∈ l) (hU : (("useragents" : Str), .ref U) ∈ vars)
    (h : ∀ s', St C F l s' → Q (.ref U) s') : wpAny C.M A (getAttr (.ref rc) "useragents" true) Q E s := get_attr X hs hI hD hU (by rfl) h

theorem extendL {a b : Addr} {items vs : List Value} {l' : Ledger} {Q : Value → Shared → Prop} (hs : St C F l s) (u : Upd a (IsL items) (IsL (items ++ vs)) l l') (hb : (b, IsL vs) ∈ l) (hz : items.length + vs.length < 1000)
    (h : ∀ s', St C F l' s' → Q .none s') : wpAny C.M A (call (.builtin "list.extend") [.ref a, .ref b]) Q E s := by
  obtain ⟨n, e⟩ := hs.lat u.mem
  obtain ⟨n2, e2⟩ := hs.lat hb
  have hl : Builtin.List.listTooLong (items.length + vs.length) = false := by
    unfold Builtin.List.listTooLong
    simp only [decide_eq_false_iff_not, sizeLine_eq]
    omega
  exact call_meets PySem.F.slot_list_extend (hs.isList u.mem).typeIs PySem.F.entry_list_extend (PySem.F.args_list_extend_2 _ _)
    (AutoSeq1.list_extend_list_list_0 a items.toArray n b vs.toArray n2 (by rw [List.size_toArray, List.size_toArray, hl, Bool.and_false]; decide) (by rw [List.size_toArray, sizeLine_eq]; omega) (by rw [List.size_toArray, List.size_toArray, sizeLine_eq]; omega))
    ⟨e, e2, h _ (hs.mapSeq u _ (by simp) rfl)⟩

theorem call_cls {pos : Pos} {Q : Value → Shared → Prop} (X : Cl C c mt cd) (hs : St C F l s) (h : wpAny C.M A (call (.ref c) []) Q E s) :
    wpAny C.M A (callWith pos (.ref c) [] (backTo pos (starEach [] env)) (backToKw pos (keywordEach [] env))) Q E s := callWith_K0 (X.at hs) X.keep h

theorem record_spec {cd' : Value} {G : Addr} {vs : List Value} {R : Result → Shared → Prop} (W : Wd C) (X : Cl C c mt cd) (fn : FnAt C 13 cd') (hs : St C F l s) (hr : Rm A 3) (hG : (G, IsL vs) ∈ l) (hz : vs.length < 500)
    (h : ∀ x dx U V s', St C F ((x, IsInst c dx) :: (dx, IdH [("useragents", .ref U), ("rulelines", .ref V), ("delay", .none), ("req_rate", .none)]) :: (U, IsL vs) :: l) s' → R (.ok (.ret (.ref x))) s') :
    codeAny C.M A (.call (.ref (C.fn 13)) ⟨[.ref G], []⟩) R s := by
  refine call_fn (vars := [("agents", .ref G)]) W fn hs hr.d (fun _ _ => rfl) (by intro x hx; simp only [List.mem_cons, List.not_mem_nil, or_false] at hx; rcases hx with rfl <;> rfl) (by simp only [List.map]; decide +kernel) (fun L s' hs => ?_)
  show wpAny _ _ (execs (_ :: _) _) _ _ _
  repeat walk_at "ex"
  refine gl W (by assumption) X.glob ?_
  refine call_cls X (by assumption) (wpAny_call ?_)
  refine entry_new W X (by assumption) hr.deeper ?_
  intro x dx U V s2 hs2
  repeat walk_at "ex"
  refine' m_attr_list X (by assumption) ?h1 ?h2 ?h3 ?_
  case h1 => walk_at "mem"
  case h2 => walk_at "mem"
  case h3 => walk_at "mem"
  intro s3 hs3
  refine' m_list (by assumption) ?hm PySem.F.slot_list_extend PySem.F.type_list_extend ?_
  case hm => walk_at "mem"
  refine callM1 ?_
  repeat walk_at "ex"
  refine' extendL (items := []) (vs := vs) (by assumption) ?hu ?hb (by simpa using (by omega : vs.length < 1000)) ?_
  case hu => walk_at "upd"
  case hb => exact List.mem_cons_of_mem _ (List.mem_cons_of_mem _ (List.mem_cons_of_mem _ (List.mem_cons_of_mem _ hG)))
  intro s4 hs4
  rw [List.nil_append] at hs4
  try dsimp only
  repeat walk_at "ex"
  try dsimp only
  refine h x dx U V _ (hs4.pick ?_)
  walk_at "pick"
end

end
section


section
variable {C : Cx} {F : Frz} {l : Ledger} {A : Around} {E : Value → Shared → Prop} {s : Shared} {env : Env} {c : Addr} {mt : Nat → Addr} {cd : Nat → Value}
theorem i_listH {a : Addr} {items : List Value} {Q : Value → Shared → Prop} (hs : St C F l s) (hl : s.heap.IsList a items.toArray) (h : ∀ i s', St C F ((i, IsLit a 0) :: l) s' → s'.heap.IsList a items.toArray → Q (.ref i) s') : wpAny C.M A (pyIter (.ref a)) Q E s :=
  wpAny_pyIter_list hl (h _ _ (hs.new (P := IsLit a 0) ⟨rfl, rfl⟩ rfl rfl) (hl.push _))
theorem n_listH {it a : Addr} {items : List Value} {i : Nat} {x : Value} {l' : Ledger} {Q : Option Value → Shared → Prop} (hs : St C F l s) (u : Upd it (IsLit a i) (IsLit a (i + 1)) l l') (hl : s.heap.IsList a items.toArray) (hx : items[i]? = some x)
    (h : ∀ s', St C F l' s' → s'.heap.IsList a items.toArray → Q (some x) s') : wpAny C.M A (pyNext (.ref it)) Q E s := by
  obtain ⟨o, e, hc, hd⟩ := hs.at u.mem
  refine wpAny_pyNext_list_item ⟨o, e, hc, hd⟩ hl (by simpa using hx) fun h' ⟨o', e', hc', hd'⟩ hsb => h _ (hs.upd u hsb.extBut ⟨o', e', hc', hd'⟩) (hl.extBut hsb.extBut fun eq => ?_)
  obtain ⟨o2, e2, hc2, _⟩ := hl
  rw [eq, e] at e2
  cases e2
  rw [hc] at hc2
  injection hc2 with q
  exact absurd q (by decide)
theorem n_listEH {it a : Addr} {items : List Value} {i : Nat} {l' : Ledger} {Q : Option Value → Shared → Prop} (hs : St C F l s) (hi : (it, IsLit a i) ∈ l) (u : Drop it l l') (hl : s.heap.IsList a items.toArray) (hx : items[i]? = none) (hh : A.handled = none)
    (h : ∀ s', St C F l' s' → Q none s') : wpAny C.M A (pyNext (.ref it)) Q E s := by
  obtain ⟨o, e, hc, hd⟩ := hs.at hi
  exact wpAny_pyNext_list_end hh ⟨o, e, hc, hd⟩ hl (by simpa using hx) fun h' hx => h _ (hs.drop u hx)

theorem unpack2H {a : Addr} {x y : Value} {t1 t2 : Value → Sem Unit} {Q : Unit → Shared → Prop} (hs : St C F l s) (hl : s.heap.IsList a #[x, y]) (hh : A.handled = none)
    (h : ∀ s', St C F l s' → wpAny C.M A (t1 x) (fun _ s₁ => wpAny C.M A (t2 y) Q E s₁) E s') :
    wpAny C.M A (unpack (.ref a) [(false, t1), (false, t2)]) Q E s := by
  unfold unpack unpackItems
  refine wpAny_bind (wpAny_holding (wpAny_bind ?_))
  unfold notIterableAtAll
  refine wpAny_bind (wpAny_specialOf hl.typeIs slot_list_iter.lookup ?_)
  refine wpAny_pure ?_
  simp only [Bool.false_eq_true, if_false]
  refine wpAny_bind (wpAny_holding (i_listH (items := [x, y]) hs hl ?_))
  intro it s1 hs1 hl1
  show wpAny _ _ (holding [.ref it] (draw (.ref it) 2) >>= _) _ _ _
  refine wpAny_bind (wpAny_holding (wpAny_bind (n_listH (x := x) hs1 .here hl1 rfl ?_)))
  intro s2 hs2 hl2
  refine wpAny_bind (wpAny_holding (wpAny_bind (n_listH (x := y) hs2 .here hl2 rfl ?_)))
  intro s3 hs3 hl3
  refine wpAny_bind (wpAny_holding (wpAny_pure (wpAny_pure (wpAny_pure ?_))))
  show wpAny _ _ (if [x, y].length < 2 then _ else _) _ _ _
  rw [if_neg (by simp)]
  refine wpAny_bind (wpAny_holding (n_listEH hs3 (List.mem_cons_self) .here hl3 rfl hh ?_))
  intro s4 hs4
  simp only [Option.isSome_none, Bool.false_eq_true, if_false]
  refine wpAny_pure ?_
  show wpAny _ _ (do holding [y] (t1 x); holding [] (t2 y); pure ()) _ _ _
  refine wpAny_bind (wpAny_holding (wpAny_mono (h s4 hs4) (fun _ s₁ h₁ => wpAny_bind (wpAny_holding (wpAny_mono h₁ (fun _ _ z => wpAny_pure z) fun _ _ z => z))) fun _ _ z => z))
theorem St.isTup {t : Addr} {items : List Value} (hs : St C F l s) (hm : (t, IsT items) ∈ l) : IsTup s.heap t items.toArray :=
  let ⟨_, e, d⟩ := hs.at hm; ⟨_, e, by rw [d]; rfl, 0, by rw [d]; rfl⟩
theorem unpT {t : Addr} {items : List Value} {n : Nat} {Q : List Value → Shared → Prop} (hs : St C F l s) (hm : (t, IsT items) ∈ l) (hn : n = items.length) (hh : A.handled = none) (h : ∀ s', St C F l s' → Q items s') : wpAny C.M A (unpackItems (.ref t) n none) Q E s := by
  have hz : n = items.toArray.size := by simpa using hn
  rw [hz]
  exact unpackItems_tuple hh (hs.isTup hm) fun h' he => h _ (hs.ext fun b o e => he b o (Nat.ne_of_lt (Heap.lt_size e)) e)
theorem aio_nil {Q : Unit → Shared → Prop} (h : Q () s) : wpAny C.M A (assignInOrder [] []) Q E s := wpAny_pure h
theorem aio_cons {t : Value → Sem Unit} {ts : List (Value → Sem Unit)} {x : Value} {xs : List Value} {Q : Unit → Shared → Prop} (h : wpAny C.M A (t x) (fun _ s₁ => wpAny C.M A (assignInOrder ts xs) Q E s₁) E s) : wpAny C.M A (assignInOrder (t :: ts) (x :: xs)) Q E s := by
  show wpAny C.M A (do holding xs (t x); assignInOrder ts xs) Q E s
  exact wpAny_bind (wpAny_holding h)
/-- a row taken apart -/
theorem assign_row {v : Value} {r : Row} {e1 e2 : Expr} {k : Nat} {pos : Pos} {Q : Unit → Shared → Prop} (hs : St C F l s) (hv : RowAt F v r) (hh : A.handled = none)
    (h : ∀ t u s', St C F l s' → wpAny C.M A (assign e1 env (.int r.1 t)) (fun _ s₁ => wpAny C.M A (assign e2 env (.str r.2 u)) Q E s₁) E s')
    (he : assignEach [e1, e2] env = [(false, assign e1 env), (false, assign e2 env)] := by rfl) :
    wpAny C.M A (assign (.Tuple [e1, e2] k pos) env v) Q E s := by
  obtain ⟨a, t, u, rfl, hl⟩ := hv.list hs
  rw [PyProof.Rows.assign_Tuple, he]
  exact wpAny_bind (wpAny_standAt (unpack2H hs hl hh (h t u)))
/-- a new row is frozen -/
theorem freeze_row {a : Addr} {r : Row} {t u : Tok} (hs : St C F ((a, IsL [.int r.1 t, .str r.2 u]) :: l) s) : ∃ F', F.le F' ∧ RowAt F' (.ref a) r ∧ St C F' l s := by
  obtain ⟨o, ⟨n, rfl⟩, hn, h⟩ := hs.freeze
  refine ⟨_, Frz.le_add hn, ⟨a, lobj [.int r.1 t, .str r.2 u] n, t, u, n, rfl, ?_, rfl, rfl⟩, h⟩
  unfold Frz.add; rw [if_pos rfl]
theorem addL {a b : Addr} {xs ys : List Value} {Q : Value → Shared → Prop} (hs : St C F l s) (ha : (a, IsL xs) ∈ l) (hb : (b, IsL ys) ∈ l) (hz : xs.length + ys.length < 1000)
    (h : ∀ d s', St C F ((d, IsL (xs ++ ys)) :: l) s' → Q (.ref d) s') : wpAny C.M A (binaryOp .Add (.ref a) (.ref b)) Q E s := by
  obtain ⟨n, e⟩ := hs.lat ha
  obtain ⟨n2, e2⟩ := hs.lat hb
  refine concat_meets (hs.isList ha).typeIs (hs.isList hb).typeIs noFill_list_add seq_list_add PySem.F.slot_list_add PySem.F.entry_list_add (PySem.F.args_list_add_2 _ _)
    (AutoSeq1.list___add___list_list_0 a xs.toArray n b ys.toArray n2 (by rw [List.size_toArray, List.size_toArray, sizeLine_eq]; omega)) ⟨e, e2, ?_⟩
  have q : xs.toArray ++ ys.toArray = (xs ++ ys).toArray := by simp
  rw [q]
  exact h _ _ (hs.new (P := IsL (xs ++ ys)) ⟨0, rfl⟩ rfl rfl)
theorem neNil {a b : Addr} {xs : List Value} {Q : Value → Shared → Prop} (hs : St C F l s) (ha : (a, IsL xs) ∈ l) (hb : (b, IsL []) ∈ l) (hu : A.units < cLine) (h : Q (.bool (!xs.isEmpty)) s) : wpAny C.M A (compareOp .NotEq (.ref a) (.ref b)) Q E s := by
  show wpAny _ _ (richCompare .NotEq _ _) _ _ _
  cases xs with
  | nil => exact SeqAt.RcNeAt.lists (e := fun _ => true) (hs.isList ha) (hs.isList hb) rfl hu (fun j h1 => by simp at h1) _ _ _ _ h
  | cons x xs => exact SeqAt.RcNeAt.lists_lengths (hs.isList ha) (hs.isList hb) (by simp) hu _ _ _ _ h
end

end
section

/-- the fourteen names, the least size and text first -/
noncomputable def nms : List Str := ["a", "b", "aa", "ab", "ba", "bb", "aaa", "aab", "aba", "abb", "baa", "bab", "bba", "bbb"]
noncomputable def bars (x : Str) : Nat := (Builtin.Str.partsBetween x (Builtin.Str.occurrences x "/" 0 x.length (x.length + 1)) ("/" : Str).length).length
theorem up_all : (nms.all fun a => decide ((Txt.upper a ++ ("/ba" : Str)).length ≤ 1000) && decide (bars (Txt.upper a ++ ("/ba" : Str)) ≤ 1000) && decide ((Txt.split (Txt.upper a ++ ("/ba" : Str)) "/").head? = some (Txt.upper a)) && decide ((Txt.upper a).length ≤ 1000) && decide (Txt.lower (Txt.upper a) = a)) = true := by decide +kernel
theorem low_all : ((("*" : Str) :: nms).all fun a => decide (a.length ≤ 1000) && decide (bars a ≤ 1000) && decide ((Txt.split a "/").head? = some a) && decide (Txt.lower a = a)) = true := by decide +kernel

end
local macro_rules | `(tactic| walk_at "ex") => `(tactic| first
  | ((with_reducible show wpAny _ _ (assignInOrder [] []) _ _ _); with_reducible refine aio_nil ?_)
  | ((with_reducible show wpAny _ _ (assignInOrder (_ :: _) (_ :: _)) _ _ _); with_reducible refine aio_cons ?_)
  | ((with_reducible show wpAny _ _ (bindName _ _ _) _ _ _); with_reducible refine wpAny_bindName ?_)
  | ((with_reducible show wpAny _ _ (isTrue (Expr.Call _ _ _ _) _ _) _ _ _); refine wpAny_isTrue_value ?_)
  | ((with_reducible show wpAny _ _ (isTrue (Expr.Name _ _) _ _) _ _ _); refine wpAny_isTrue_value ?_))
section


theorem up_fact {a : Str} (h : a ∈ nms) : (Txt.upper a ++ ("/ba" : Str)).length ≤ 1000 ∧ bars (Txt.upper a ++ ("/ba" : Str)) ≤ 1000 ∧ (∃ rest, Txt.split (Txt.upper a ++ ("/ba" : Str)) "/" = Txt.upper a :: rest) ∧ (Txt.upper a).length ≤ 1000 ∧ Txt.lower (Txt.upper a) = a := by
  have := List.all_eq_true.mp up_all a h
  simp only [Bool.and_eq_true, decide_eq_true_eq] at this
  obtain ⟨⟨⟨⟨h1, h2⟩, h3⟩, h4⟩, h5⟩ := this
  refine ⟨h1, h2, ?_, h4, h5⟩
  cases e : Txt.split (Txt.upper a ++ ("/ba" : Str)) "/" with
  | nil => rw [e] at h3; cases h3
  | cons q r => rw [e] at h3; cases h3; exact ⟨r, rfl⟩
theorem low_fact {a : Str} (h : a = "*" ∨ a ∈ nms) : a.length ≤ 1000 ∧ bars a ≤ 1000 ∧ (∃ rest, Txt.split a "/" = a :: rest) ∧ Txt.lower a = a := by
  have := List.all_eq_true.mp low_all a (by rcases h with rfl | h; exact List.mem_cons_self; exact List.mem_cons_of_mem _ h)
  simp only [Bool.and_eq_true, decide_eq_true_eq] at this
  obtain ⟨⟨⟨h1, h2⟩, h3⟩, h5⟩ := this
  refine ⟨h1, h2, ?_, h5⟩
  cases e : Txt.split a "/" with
  | nil => rw [e] at h3; cases h3
  | cons q r => rw [e] at h3; cases h3; exact ⟨r, rfl⟩

theorem popX_some {xs : List X} (h : xs ≠ []) : ∃ y ys, popX xs = some (y, ys) ∧ ys.length + 1 = xs.length ∧ y ∈ xs ∧ ∀ z ∈ ys, z ∈ xs := by
  cases xs with
  | nil => exact absurd rfl h
  | cons a zs =>
    unfold popX
    cases e : zs.getLast? with
    | none =>
      rw [List.getLast?_eq_none_iff] at e
      subst e
      exact ⟨a, [], rfl, rfl, .head _, fun z hz => nomatch hz⟩
    | some z =>
      obtain ⟨ws, hws⟩ := List.getLast?_eq_some_iff.mp e
      subst hws
      refine ⟨a, siftupX ((a :: (ws ++ [z]).dropLast).set 0 z) 0, by simp only [e], ?_, .head _, fun q hq => ?_⟩
      · rw [siftupX_len (by simp)]; simp
      · have := siftupX_mem (by simp) q hq
        rcases List.mem_or_eq_of_mem_set this with h | rfl
        · rcases List.mem_cons.mp h with rfl | h
          · exact .head _
          · exact .tail _ (List.mem_append_left _ (by rw [List.dropLast_concat] at h; exact h))
        · exact List.mem_cons_of_mem _ (List.mem_append_right _ List.mem_cons_self)

/-- what _law_reduced keeps -/
noncomputable def redX (xs : List X) (kept : List Row) : List Row :=
  match h : popX xs with
  | none => kept
  | some (y, ys) => redX ys (if (y.2.2 != ("*" : Str)) && !appl (kept.map (·.2)) y.2.2 then kept ++ [y.2] else kept)
termination_by xs.length
decreasing_by
  have hne : xs ≠ [] := by rintro rfl; simp [popX] at h
  obtain ⟨y', ys', h1, h2, _⟩ := popX_some hne
  rw [h] at h1; cases h1
  omega
theorem redX_step {xs ys : List X} {y : X} {kept : List Row} (h : popX xs = some (y, ys)) : redX xs kept = redX ys (if (y.2.2 != ("*" : Str)) && !appl (kept.map (·.2)) y.2.2 then kept ++ [y.2] else kept) := by
  rw [redX]
  split
  · rename_i e; rw [h] at e; cases e
  · rename_i e; rw [h] at e; cases e; rfl
theorem redX_nil {kept : List Row} : redX [] kept = kept := by
  rw [redX]
  split
  · rfl
  · rename_i e; simp [popX] at e

section
variable {C : Cx} {F : Frz} {l : Ledger} {A : Around} {E : Value → Shared → Prop} {s : Shared} {env : Env} {c : Addr} {mt : Nat → Addr} {cd : Nat → Value}
theorem s_add {x y : Str} {t u : Tok} {Q : Value → Shared → Prop} (hs : St C F l s) (hx : x.length ≤ 1000) (hy : y.length ≤ 1000) (h : ∀ t s', St C F l s' → Q (.str (x ++ y) t) s') : wpAny C.M A (binaryOp .Add (.str x t) (.str y u)) Q E s :=
  PyProof.Rows.add_str (fun _ _ => h _ _ (hs.tok _)) (by rw [sizeLine_eq]; omega)
theorem m_applies {x dx : Addr} {vars : List (Str × Value)} {pl : Sem Bool} {Q : Value × List Value → Shared → Prop} (X : Cl C c mt cd) (hs : St C F l s) (hx : (x, IsInst c dx) ∈ l) (hd : (dx, IdH vars) ∈ l) (hv : ("applies_to" : Str) ∉ vars.map (·.1))
    (h : Q (.ref (mt 2), [.ref x]) s) : wpAny C.M A (getMethod (.ref x) "applies_to" pl) Q E s := by
  obtain ⟨o, e, rfl⟩ := hs.at hx
  obtain ⟨od, ed, hi⟩ := hs.at hd
  refine method_fn (od := some od) (X.at hs) ⟨e, rfl, rfl, ed⟩ X.ga X.gattr X.fA X.fAF ?_ h
  obtain ⟨_, es, ep, d, k, _, _, w⟩ := hi
  unfold shadowIn lookIn
  dsimp only
  rw [d]
  dsimp only
  have hn : nsFind es ("applies_to" : Str) = none := by
    cases q : nsFind es ("applies_to" : Str) with
    | none => rfl
    | some v => exact absurd (w _ (by rw [q]; simp)) hv
  unfold nsFind findBy at hn
  rw [← Array.find?_toList, Option.map_eq_none_iff] at hn
  have hr : es.toList.any (·.refKey) = false := by
    rw [List.any_eq_false]; intro en he; obtain ⟨n, t, h⟩ := k en (Array.mem_toList_iff.mp he); simp [DictEntry.refKey, h]
  rw [hn, hr]
  rfl
theorem call_app {pos : Pos} {self : Value} {e : Expr} {rest : List Expr} {Q : Value → Shared → Prop} (X : Cl C c mt cd)
    (h : wpAny C.M A (spliced (backTo pos (starEach (e :: rest) env))) (fun vs s₁ => (∃ F l, St C F l s₁) ∧ wpAny C.M A (call (.ref (mt 2)) (self :: vs)) Q E s₁) E s)
    (he : starEach (e :: rest) env = (false, eval e env) :: starEach rest env := by rfl)
    (hp : (backTo pos (starEach rest env)).any (·.1) = false := by rfl) :
    wpAny C.M A (callWith pos (.ref (mt 2)) [self] (backTo pos (starEach (e :: rest) env)) []) Q E s :=
  callWith_K X.kin X.fAk (wpAny_mono h (fun vs s₁ ⟨⟨_, _, hs⟩, k⟩ => ⟨X.at hs, k⟩) fun _ _ x => x) he hp

set_option maxRecDepth 10000
theorem reduced_spec {cd' c3 c6 c5 : Value} {H : Addr} {xs : List X} {R : Result → Shared → Prop} (W : Wd C) (X : Cl C c mt cd) (fn : FnAt C 15 cd') (f3 : FnAt C 3 c3) (f6 : FnAt C 6 c6) (f5 : FnAt C 5 c5) (hs : St C F ((H, IsL (vals xs)) :: l) s) (hr : Rm A 5)
    (hX : Rows F xs) (hz : xs.length < 100) (hn : ∀ x ∈ xs, x.2.2 = "*" ∨ x.2.2 ∈ nms)
    (h : ∀ F' zs K s', F.le F' → Rows F' zs → zs.map (·.2) = redX xs [] → St C F' ((K, IsL (vals zs)) :: (H, IsL (vals [])) :: l) s' → R (.ok (.ret (.ref K))) s') :
    codeAny C.M A (.call (.ref (C.fn 15)) ⟨[.ref H], []⟩) R s := by
  refine call_fn (vars := [("heap", .ref H)]) W fn hs hr.d (fun _ _ => rfl) (by intro x hx; simp only [List.mem_cons, List.not_mem_nil, or_false] at hx; rcases hx with rfl <;> rfl) (by simp only [List.map]; decide +kernel) (fun L s' hs => ?_)
  show wpAny _ _ (execs (_ :: _) _) _ _ _
  repeat walk_at "ex"
  refine Assign_Tuple_swapped (names := ["record", "kept"]) ?_
  repeat walk_at "ex"
  refine gl W (by assumption) X.glob ?_
  refine call_cls X (by assumption) (wpAny_call ?_)
  refine entry_new W X (by assumption) (hr.deeper.less (by omega)) ?_
  intro rc dx U V s2 hs2
  try dsimp only
  repeat walk_at "ex"
  refine MkL.in (by assumption) (by decide) ?_
  intro K0 s3 hs3
  repeat walk_at "ex"
  refine MkT.in (by assumption) (by simp) ?_
  intro T s4 hs4
  refine' unpT (by assumption) ?hm ?hn hr.deeper.handled ?_
  case hm => walk_at "mem"
  case hn => rfl
  intro s5 hs5
  show wpAny _ _ (assignInOrder [bindName _ _, bindName _ _] [_, _]) _ _ _
  repeat walk_at "ex"
  try dsimp only
  repeat walk_at "ex"
  refine wpAny_While ?_
  rename St C F _ _ => hh
  have hh1 := hh.pick (l' := (L, NsH [("heap", .ref H), ("kept", .ref K0), ("record", .ref rc)]) :: (K0, IsL []) :: (rc, IsInst c dx) :: (dx, IdH [("useragents", .ref U), ("rulelines", .ref V), ("delay", .none), ("req_rate", .none)]) :: (U, IsL []) :: (H, IsL (vals xs)) :: l) (by walk_at "pick")
  refine codeAny_whileLoop (fun n s' => ∃ F' ys zs us K, F.le F' ∧ St C F' ((L, NsH [("heap", .ref H), ("kept", .ref K), ("record", .ref rc)]) :: (K, IsL (vals zs)) :: (rc, IsInst c dx) :: (dx, IdH [("useragents", .ref U), ("rulelines", .ref V), ("delay", .none), ("req_rate", .none)]) :: (U, IsL (strValues us)) :: (H, IsL (vals ys)) :: l) s' ∧
      Rows F' ys ∧ Rows F' zs ∧ ys.length = n ∧ n ≤ xs.length ∧ (∀ x ∈ ys, x.2.2 = "*" ∨ x.2.2 ∈ nms) ∧ us.map (·.1) = zs.map (·.2.2) ∧ zs.length + n ≤ xs.length ∧ redX ys (zs.map (·.2)) = redX xs [] ∧ ∀ z ∈ zs, z.2.2 ∈ nms) ?_ xs.length
    ⟨F, xs, [], [], K0, Frz.le_refl F, hh1, hX, (fun _ h => nomatch h), rfl, Nat.le_refl _, hn, rfl, by simp, rfl, (fun _ h => nomatch h)⟩
  rintro n s6 ⟨F', ys, zs, us, K, hF, hs6, hY, hZ, hl, hnx, hN, hU, hlen, hred, hZn⟩
  repeat walk_at "ex"
  refine MkL.in (by assumption) (by decide) ?_
  intro N s7 hs7
  refine' neNil (xs := vals ys) (by assumption) ?ha ?hb hr.deeper.u ?_
  case ha => walk_at "mem"
  case hb => walk_at "mem"
  repeat walk_at "ex"
  cases ys with
  | nil =>
    rw [show (!(vals ([] : List Mine.X)).isEmpty) = false from rfl]
    repeat walk_at "ex"
    try dsimp only
    repeat walk_at "ex"
    try dsimp only
    rw [redX_nil] at hred
    refine h F' zs K _ hF hZ hred (hs7.pick ?_)
    walk_at "pick"
  | cons y0 ys0 =>
    rw [show (!(vals (y0 :: ys0)).isEmpty) = true from rfl]
    obtain ⟨y, ys, hpop, hpl, hym, hysm⟩ := popX_some (xs := y0 :: ys0) (by simp)
    repeat walk_at "ex"
    refine Assign_Tuple ?_
    repeat walk_at "ex"
    refine gl W (by assumption) f3.glob ?_
    refine callF f3 ?_
    repeat walk_at "ex"
    refine ⟨⟨_, _, by assumption⟩, wpAny_call ?_⟩
    refine heappop_spec (l := (L, NsH [("heap", .ref H), ("kept", .ref K), ("record", .ref rc)]) :: (K, IsL (vals zs)) :: (rc, IsInst c dx) :: (dx, IdH [("useragents", .ref U), ("rulelines", .ref V), ("delay", .none), ("req_rate", .none)]) :: (U, IsL (strValues us)) :: l) W f3 f6 f5 (hs7.pick (by walk_at "pick")) (hr.deeper.less (by omega)) hY (by omega) hpop ?_
    intro s8 hs8
    try dsimp only
    refine assign_row hs8 (hY y hym) hr.deeper.handled ?_
    intro t1 t2 s9 hs9
    repeat walk_at "ex"
    try dsimp only
    repeat walk_at "ex"
    have hY2 : Rows F' ys := fun z hz => hY z (hysm z hz)
    have hN2 : ∀ x ∈ ys, x.2.2 = "*" ∨ x.2.2 ∈ nms := fun z hz => hN z (hysm z hz)
    have hpl2 : ys.length + 1 = n := by rw [hpl]; exact hl
    rw [redX_step hpop] at hred
    have hmm : (zs.map (·.2)).map (·.2) = us.map (·.1) := by rw [hU, List.map_map]; rfl
    rw [hmm] at hred
    refine PySem.P.ne_str ?_
    rw [show (y.2.2.cps.toList != ("*" : Str).cps.toList) = (y.2.2 != ("*" : Str)) by
      show (!(y.2.2.cps.toList == ("*" : Str).cps.toList)) = !(y.2.2 == ("*" : Str))
      rw [SeqAt.str_beq]]
    repeat walk_at "ex"
    cases hst : (y.2.2 != ("*" : Str)) with
    | false =>
      rw [hst, Bool.false_and, if_neg (by decide)] at hred
      repeat walk_at "ex"
      try dsimp only
      repeat walk_at "ex"
      try dsimp only
      rename St C F' _ _ => hh9
      have hh10 := Upd.mono (.there .here) hh9 fun o => NsH.pre (vars' := [_, _, _]) (extra := [_, _])
      exact ⟨ys.length, by omega, F', ys, zs, us, K, hF, hh10.pick (by walk_at "pick"), hY2, hZ, rfl, by omega, hN2, hU, by omega, hred, hZn⟩
    | true =>
      have hyn : y.2.2 ∈ nms := (hN y hym).resolve_left (by simpa using hst)
      obtain ⟨q1, q2, ⟨rest, q3⟩, q4, q5⟩ := up_fact hyn
      obtain ⟨w1, _⟩ := low_fact (.inr hyn)
      rw [hst, Bool.true_and] at hred
      repeat walk_at "ex"
      refine' m_applies X (by assumption) ?h1 ?h2 ?h3 ?_
      case h1 => walk_at "mem"
      case h2 => walk_at "mem"
      case h3 => simp only [List.map]; decide +kernel
      refine call_app X ?_
      repeat walk_at "ex"
      refine GM.upper ?_
      refine callM0 ?_
      refine s_upper (by assumption) w1 ?_
      intro t3 s11 hs11
      repeat walk_at "ex"
      refine s_add (by assumption) q4 (by decide +kernel) ?_
      intro t4 s12 hs12
      repeat walk_at "ex"
      refine ⟨⟨_, _, by assumption⟩, wpAny_call ?_⟩
      refine' applies_spec (us := us) W X (by assumption) (hr.deeper.less (by omega)) ?h1 ?h2 ?h3 ?h4 q1 q2 q3 q4 q5 ?h5 ?_
      case h1 => walk_at "mem"
      case h2 => walk_at "mem"
      case h3 => walk_at "mem"
      case h4 => walk_at "mem"
      case h5 =>
        intro a ha
        have : a.1 ∈ us.map (·.1) := List.mem_map_of_mem ha
        rw [hU] at this
        obtain ⟨z, hz, e⟩ := List.mem_map.mp this
        rw [← e]
        exact (low_fact (.inr (hZn z hz))).1
      intro s13 hs13
      try dsimp only
      repeat walk_at "ex"
      cases hap : appl (us.map (·.1)) y.2.2 with
      | true =>
        rw [hap] at hred
        rw [if_neg (by decide)] at hred
        rw [show (!true) = false from rfl]
        repeat walk_at "ex"
        try dsimp only
        repeat walk_at "ex"
        try dsimp only
        rename St C F' _ _ => hh9
        have hh10 := Upd.mono (.there .here) hh9 fun o => NsH.pre (vars' := [_, _, _]) (extra := [_, _])
        exact ⟨ys.length, by omega, F', ys, zs, us, K, hF, hh10.pick (by walk_at "pick"), hY2, hZ, rfl, by omega, hN2, hU, by omega, hred, hZn⟩
      | false =>
        rw [hap] at hred
        rw [if_pos (by decide)] at hred
        rw [show (!false) = true from rfl]
        repeat walk_at "ex"
        refine' m_attr_list X (by assumption) ?h1 ?h2 ?h3 ?_
        case h1 => walk_at "mem"
        case h2 => walk_at "mem"
        case h3 => walk_at "mem"
        intro s14 hs14
        refine' m_list (by assumption) ?hm PySem.F.slot_list_append PySem.F.type_list_append ?_
        case hm => walk_at "mem"
        refine callM1 ?_
        repeat walk_at "ex"
        refine' appendL (items := strValues us) (by assumption) ?hu (by
          have := congrArg List.length hU
          rw [List.length_map, List.length_map] at this
          rw [strValues, List.length_map]; omega) ?_
        case hu => walk_at "upd"
        intro s15 hs15
        try dsimp only
        repeat walk_at "ex"
        refine MkL.in (by assumption) (by simp) ?_
        intro Rw s16 hs16
        obtain ⟨F2, hF2, hrow, hs17⟩ := freeze_row (r := (y.2.1, y.2.2)) hs16
        repeat walk_at "ex"
        refine MkL.in (by assumption) (by simp) ?_
        intro Ro s18 hs18
        refine' addL (xs := vals zs) (ys := [Value.ref Rw]) (by assumption) ?ha ?hb (by rw [vals_len]; simp only [List.length_cons, List.length_nil]; omega) ?_
        case ha => walk_at "mem"
        case hb => walk_at "mem"
        intro K2 s19 hs19
        repeat walk_at "ex"
        try dsimp only
        repeat walk_at "ex"
        try dsimp only
        rename St C F2 _ _ => hh9
        have ev : vals zs ++ [Value.ref Rw] = vals (zs ++ [(Value.ref Rw, y.2)]) := by simp [vals]
        have es : strValues us ++ [Value.str y.2.2 t2] = strValues (us ++ [(y.2.2, t2)]) := by simp [strValues]
        rw [ev, es] at hh9
        have hh10 := Upd.mono (.there (.there (.there .here))) hh9 fun o => NsH.pre (vars' := [_, _, _]) (extra := [_, _])
        refine ⟨ys.length, by omega, F2, ys, zs ++ [(Value.ref Rw, y.2)], us ++ [(y.2.2, t2)], K2, Frz.le_trans hF hF2, hh10.pick (by walk_at "pick"), hY2.mono hF2, ?_, rfl, by omega, hN2, ?_, ?_, ?_, ?_⟩
        · intro z hz
          rcases List.mem_append.mp hz with hz | hz
          · exact (hZ z hz).mono hF2
          · rw [List.mem_singleton.mp hz]; exact hrow
        · rw [List.map_append, List.map_append, hU]; rfl
        · rw [List.length_append]; simp only [List.length_cons, List.length_nil]; omega
        · rw [List.map_append]; exact hred
        · intro z hz
          rcases List.mem_append.mp hz with hz | hz
          · exact hZn z hz
          · rw [List.mem_singleton.mp hz]; exact hyn
end

end
section
open PySem

/-! the order of rows -/
noncomputable def rle (a b : Row) : Prop := rlt b a = false
theorem rlt_def (a b : Row) : rlt a b = true ↔ a.1 < b.1 ∨ (a.1 = b.1 ∧ a.2.cps.toList < b.2.cps.toList) := by
  unfold rlt
  split
  · rename_i h
    rw [decide_eq_true_eq]
    exact ⟨fun x => .inr ⟨h, x⟩, fun x => x.elim (fun y => by omega) (·.2)⟩
  · rename_i h
    rw [decide_eq_true_eq]
    exact ⟨.inl, fun x => x.elim id fun y => absurd y.1 h⟩
theorem rle_def (a b : Row) : rle a b ↔ a.1 < b.1 ∨ (a.1 = b.1 ∧ a.2.cps.toList ≤ b.2.cps.toList) := by
  unfold rle
  rw [← Bool.not_eq_true, rlt_def]
  constructor
  · intro h
    by_cases e : a.1 = b.1
    · exact .inr ⟨e, List.not_lt.mp fun x => h (.inr ⟨e.symm, x⟩)⟩
    · exact .inl (by
        have : ¬ b.1 < a.1 := fun x => h (.inl x)
        omega)
  · rintro (h | ⟨h1, h2⟩) (x | ⟨x1, x2⟩)
    · omega
    · omega
    · omega
    · exact List.not_lt.mpr h2 x2
theorem rle_refl (a : Row) : rle a a := (rle_def a a).mpr (.inr ⟨rfl, List.le_refl _⟩)
theorem rle_trans {a b c : Row} (h1 : rle a b) (h2 : rle b c) : rle a c := by
  rw [rle_def] at *
  rcases h1 with h | ⟨h, k⟩ <;> rcases h2 with x | ⟨x, y⟩
  · exact .inl (by omega)
  · exact .inl (by omega)
  · exact .inl (by omega)
  · exact .inr ⟨by omega, List.le_trans k y⟩
theorem rle_of_lt {a b : Row} (h : rlt a b = true) : rle a b := by
  rw [rle_def]; rw [rlt_def] at h
  exact h.imp_right fun ⟨x, y⟩ => ⟨x, List.le_of_lt y⟩
theorem rle_of_not {a b : Row} (h : ¬ rlt a b = true) : rle b a := by unfold rle; simpa using h
theorem rle_antisymm {a b : Row} (h1 : rle a b) (h2 : rle b a) : a = b := by
  rw [rle_def] at *
  rcases h1 with h | ⟨h, k⟩ <;> rcases h2 with x | ⟨x, y⟩
  · omega
  · omega
  · omega
  · have e := List.le_antisymm k y
    obtain ⟨a1, ⟨a2⟩⟩ := a
    obtain ⟨b1, ⟨b2⟩⟩ := b
    simp only at h e
    subst h
    have : a2 = b2 := Array.toList_inj.mp e
    rw [this]

/-! lists: two places changed -/
theorem swap_perm {α : Type} (zs : List α) {i j : Nat} (hi : i < zs.length) (hj : j < zs.length) : ((zs.set i zs[j]).set j zs[i]).Perm zs := by
  have h := Array.swap_perm (xs := zs.toArray) (i := i) (j := j) (by simpa using hi) (by simpa using hj)
  have := Array.perm_iff_toList_perm.mp h
  simpa [Array.swap, Array.set] using this
theorem move_perm {α : Type} (xs : List α) {p c : Nat} (v : α) (hp : p < xs.length) (hc : c < xs.length) (hpc : p ≠ c) : ((xs.set p xs[c]).set c v).Perm (xs.set p v) := by
  have h := swap_perm (xs.set p v) (i := p) (j := c) (by simpa using hp) (by simpa using hc)
  have e1 : (xs.set p v)[c]'(by simpa using hc) = xs[c] := by rw [List.getElem_set_ne hpc]
  have e2 : (xs.set p v)[p]'(by simpa using hp) = v := by rw [List.getElem_set_self]
  rw [e1, e2, List.set_set] at h
  exact h

/-! heaps -/
noncomputable def d0 : X := (.none, (0, Str.empty))
noncomputable def kk (xs : List X) (i : Nat) : Row := ((xs[i]?).getD d0).2
theorem kk_set {xs : List X} {p : Nat} {v : X} (hp : p < xs.length) (i : Nat) : kk (xs.set p v) i = if i = p then v.2 else kk xs i := by
  unfold kk
  rw [List.getElem?_set]
  by_cases h : i = p
  · rw [if_pos h.symm, if_pos h, if_pos (h ▸ hp)]; rfl
  · rw [if_neg (Ne.symm h), if_neg h]
theorem kk_get {xs : List X} {i : Nat} {q : X} (h : xs[i]? = some q) : kk xs i = q.2 := by unfold kk; rw [h]; rfl
noncomputable def HeapFrom (m : Nat) (xs : List X) : Prop := ∀ i, 1 ≤ i → i < xs.length → m ≤ (i - 1) / 2 → rle (kk xs ((i - 1) / 2)) (kk xs i)
inductive Desc (m : Nat) : Nat → Prop where
  | refl : Desc m m
  | step {p : Nat} : 1 ≤ p → Desc m ((p - 1) / 2) → Desc m p
theorem Desc.le {m p : Nat} (h : Desc m p) : m ≤ p := by
  induction h with
  | refl => exact Nat.le_refl _
  | step _ _ ih => omega
theorem Desc.up {m p : Nat} (h : Desc m p) (hp : m < p) : Desc m ((p - 1) / 2) := by
  cases h with
  | refl => omega
  | step _ h => exact h

theorem sd_heap {new : X} {m : Nat} : ∀ (p : Nat) (xs : List X), p < xs.length → Desc m p →
    (∀ i, 1 ≤ i → i < xs.length → m ≤ (i - 1) / 2 → i ≠ p → rle (kk (xs.set p new) ((i - 1) / 2)) (kk (xs.set p new) i)) →
    (∀ c, 1 ≤ c → c < xs.length → (c - 1) / 2 = p → m < p → rle (kk (xs.set p new) ((p - 1) / 2)) (kk (xs.set p new) c)) →
    HeapFrom m (sd new m xs p) := by
  intro p
  induction p using Nat.strongRecOn with
  | ind p ih =>
    intro xs hp hD hE hG
    have stop : (m < p → rle (kk (xs.set p new) ((p - 1) / 2)) new.2) → HeapFrom m (xs.set p new) := by
      intro hs i h1 h2 h3
      rw [List.length_set] at h2
      by_cases hi : i = p
      · subst hi
        have := hs (by omega)
        rw [show kk (xs.set i new) i = new.2 by rw [kk_set hp, if_pos rfl]]
        exact this
      · exact hE i h1 h2 h3 hi
    rw [sd]
    split
    · rename_i hm
      have hD' := hD.up hm
      have hpp : (p - 1) / 2 < p := by omega
      have hmp := hD'.le
      split
      · rename_i q hq
        have hkq : kk xs ((p - 1) / 2) = q.2 := kk_get hq
        have hq1 : (p - 1) / 2 < xs.length := by omega
        split
        · rename_i hlt
          have hlt' : rle new.2 q.2 := rle_of_lt hlt
          have key : ∀ i, kk ((xs.set p q).set ((p - 1) / 2) new) i = if i = (p - 1) / 2 then new.2 else if i = p then q.2 else kk xs i := fun i => by
            rw [kk_set (by rw [List.length_set]; exact hq1), kk_set hp]
          have key0 : ∀ i, kk (xs.set p new) i = if i = p then new.2 else kk xs i := fun i => kk_set hp i
          refine ih _ hpp _ (by rw [List.length_set]; exact hq1) hD' ?_ ?_
          · intro i h1 h2 h3 h4
            rw [List.length_set] at h2
            rw [key, key]
            by_cases hip : i = p
            · subst hip
              rw [if_pos rfl, if_neg h4, if_pos rfl]
              exact hlt'
            · rw [if_neg h4, if_neg hip]
              have hE' := hE i h1 h2 h3 hip
              rw [key0, key0, if_neg hip] at hE'
              by_cases hi2 : (i - 1) / 2 = (p - 1) / 2
              · rw [if_pos hi2]
                rw [hi2, if_neg (by omega), hkq] at hE'
                exact rle_trans hlt' hE'
              · rw [if_neg hi2]
                by_cases hi3 : (i - 1) / 2 = p
                · rw [if_pos hi3]
                  have hG' := hG i h1 h2 hi3 hm
                  rw [key0, key0, if_neg (by omega), if_neg hip, hkq] at hG'
                  exact hG'
                · rw [if_neg hi3]
                  rw [if_neg hi3] at hE'
                  exact hE'
          · intro c h1 h2 h3 h4
            rw [List.length_set] at h2
            have hpar : m ≤ ((p - 1) / 2 - 1) / 2 := (hD'.up h4).le
            have hEp := hE ((p - 1) / 2) (by omega) hq1 hpar (by omega)
            rw [key0, key0, if_neg (by omega), if_neg (by omega), hkq] at hEp
            rw [key, key, if_neg (by omega), if_neg (by omega), if_neg (by omega)]
            by_cases hcp : c = p
            · rw [if_pos hcp]; exact hEp
            · rw [if_neg hcp]
              have hEc := hE c h1 h2 (by omega) hcp
              rw [key0, key0, h3, if_neg (by omega), if_neg hcp, hkq] at hEc
              exact rle_trans hEp hEc
        · rename_i hlt
          refine stop fun _ => ?_
          rw [kk_set hp, if_neg (by omega), hkq]
          exact rle_of_not hlt
      · rename_i hq
        rw [List.getElem?_eq_none_iff] at hq
        omega
    · rename_i hm
      exact stop fun h => absurd h hm
theorem sd_perm {new : X} {m : Nat} : ∀ (p : Nat) (xs : List X), p < xs.length → (sd new m xs p).Perm (xs.set p new) := by
  intro p
  induction p using Nat.strongRecOn with
  | ind p ih =>
    intro xs hp
    rw [sd]
    split
    · split
      · rename_i q hq
        split
        · have hq1 : (p - 1) / 2 < xs.length := by omega
          have hq2 : xs[(p - 1) / 2] = q := (List.getElem?_eq_some_iff.mp hq).2
          refine (ih _ (by omega) _ (by rw [List.length_set]; exact hq1)).trans ?_
          rw [← hq2]
          exact move_perm xs new hp hq1 (by omega)
        · exact .refl _
      · exact .refl _
    · exact .refl _
theorem su_heap {m : Nat} {new : X} : ∀ (n : Nat) (xs : List X) (p : Nat), xs.length - p = n → p < xs.length → Desc m p →
    (∀ i, 1 ≤ i → i < xs.length → m ≤ (i - 1) / 2 → i ≠ p → (i - 1) / 2 ≠ p → rle (kk xs ((i - 1) / 2)) (kk xs i)) →
    (∀ c, 1 ≤ c → c < xs.length → (c - 1) / 2 = p → m < p → rle (kk xs ((p - 1) / 2)) (kk xs c)) →
    HeapFrom m (sd new m ((su xs p).1.set (su xs p).2 new) (su xs p).2) ∧ ((su xs p).1.set (su xs p).2 new).Perm (xs.set p new) := by
  intro n
  induction n using Nat.strongRecOn with
  | ind n ih =>
    intro xs p hn hp hD hE hG
    rw [su]
    split
    · rename_i h
      generalize hc : (if 2 * p + 2 < xs.length ∧ rlt (xs[2 * p + 1]).2 (xs[2 * p + 2]?.getD xs[2 * p + 1]).2 = false then 2 * p + 2 else 2 * p + 1) = c
      have hcl : c < xs.length ∧ (c = 2 * p + 1 ∨ c = 2 * p + 2) := by
        rw [← hc]; split <;> omega
      obtain ⟨w, hw⟩ : ∃ w, xs[c]? = some w := ⟨_, List.getElem?_eq_getElem hcl.1⟩
      have hw2 : xs[c]'hcl.1 = w := (List.getElem?_eq_some_iff.mp hw).2
      have hkw : kk xs c = w.2 := kk_get hw
      have hsm : ∀ d, (d = 2 * p + 1 ∨ d = 2 * p + 2) → d < xs.length → rle w.2 (kk xs d) := by
        intro d hd hdl
        rw [← hkw]
        have e1 : kk xs (2 * p + 1) = xs[2 * p + 1].2 := kk_get (List.getElem?_eq_getElem h)
        rw [← hc]
        split
        · rename_i hh
          have e2 : kk xs (2 * p + 2) = xs[2 * p + 2].2 := kk_get (List.getElem?_eq_getElem hh.1)
          have h3 := hh.2
          rw [List.getElem?_eq_getElem hh.1, Option.getD_some] at h3
          rcases hd with rfl | rfl
          · rw [e1, e2]; exact h3
          · exact rle_refl _
        · rename_i hh
          rcases hd with rfl | rfl
          · exact rle_refl _
          · have e2 : kk xs (2 * p + 2) = xs[2 * p + 2].2 := kk_get (List.getElem?_eq_getElem hdl)
            rw [e1, e2]
            have h3 : ¬ rlt (xs[2 * p + 1]).2 (xs[2 * p + 2]?.getD xs[2 * p + 1]).2 = false := fun x => hh ⟨hdl, x⟩
            rw [List.getElem?_eq_getElem hdl, Option.getD_some] at h3
            exact rle_of_lt (by simpa using h3)
      dsimp only
      rw [hw, Option.getD_some]
      have key : ∀ i, kk (xs.set p w) i = if i = p then w.2 else kk xs i := fun i => kk_set hp i
      have hA : ∀ i, 1 ≤ i → i < (xs.set p w).length → m ≤ (i - 1) / 2 → i ≠ c → (i - 1) / 2 ≠ c → rle (kk (xs.set p w) ((i - 1) / 2)) (kk (xs.set p w) i) := by
        intro i h1 h2 h3 h4 h5
        rw [List.length_set] at h2
        rw [key, key]
        by_cases hip : i = p
        · rw [if_pos hip, if_neg (by omega)]
          have := hG c (by omega) hcl.1 (by omega) (by omega)
          rw [hkw] at this
          rw [hip]; exact this
        · rw [if_neg hip]
          by_cases hi2 : (i - 1) / 2 = p
          · rw [if_pos hi2]
            exact hsm i (by omega) h2
          · rw [if_neg hi2]
            exact hE i h1 h2 h3 hip hi2
      have hB : ∀ d, 1 ≤ d → d < (xs.set p w).length → (d - 1) / 2 = c → m < c → rle (kk (xs.set p w) ((c - 1) / 2)) (kk (xs.set p w) d) := by
        intro d h1 h2 h3 h4
        rw [List.length_set] at h2
        have hpm := hD.le
        rw [key, key, show (c - 1) / 2 = p by omega, if_pos rfl, if_neg (by omega)]
        have := hE d h1 h2 (by omega) (by omega) (by omega)
        rw [h3, hkw] at this
        exact this
      obtain ⟨r1, r2⟩ := ih (xs.length - c) (by omega) (xs.set p w) c (by rw [List.length_set]) (by rw [List.length_set]; exact hcl.1) (.step (by omega) (by rw [show (c - 1) / 2 = p by omega]; exact hD)) hA hB
      refine ⟨r1, r2.trans ?_⟩
      rw [← hw2]
      exact move_perm xs new hp hcl.1 (by omega)
    · rename_i h
      dsimp only
      refine ⟨sd_heap p _ (by rw [List.length_set]; exact hp) hD ?_ ?_, .refl _⟩
      · intro i h1 h2 h3 h4
        rw [List.length_set] at h2
        rw [List.set_set, kk_set hp, kk_set hp, if_neg h4, if_neg (by omega)]
        exact hE i h1 h2 h3 h4 (by omega)
      · intro c h1 h2 h3 h4
        rw [List.length_set] at h2
        omega

theorem siftup_heap {m : Nat} {xs : List X} (hm : m < xs.length) (h : HeapFrom (m + 1) xs) : HeapFrom m (siftupX xs m) ∧ (siftupX xs m).Perm xs := by
  obtain ⟨new, hnew⟩ : ∃ new, xs[m]? = some new := ⟨_, List.getElem?_eq_getElem hm⟩
  have hn2 : xs[m] = new := (List.getElem?_eq_some_iff.mp hnew).2
  unfold siftupX
  rw [hnew]
  dsimp only
  obtain ⟨h1, h2⟩ := su_heap (m := m) (new := new) _ xs m rfl hm .refl (fun i a b c d e => h i a b (by omega)) (fun c a b d e => absurd e (Nat.lt_irrefl _))
  obtain ⟨f1, f2, _⟩ := su_facts _ xs m rfl hm
  have e : siftdownX ((su xs m).1.set (su xs m).2 new) m (su xs m).2 = sd new m ((su xs m).1.set (su xs m).2 new) (su xs m).2 := by
    unfold siftdownX
    rw [List.getElem?_set_self (by rw [f1]; exact f2)]
  rw [e]
  refine ⟨h1, (sd_perm _ _ (by rw [List.length_set, f1]; exact f2)).trans ?_⟩
  rw [List.set_set]
  refine h2.trans ?_
  rw [← hn2, List.set_getElem_self]
theorem hfy_heap : ∀ (k : Nat) (xs : List X), k ≤ xs.length → HeapFrom k xs → HeapFrom 0 (hfy k xs) ∧ (hfy k xs).Perm xs
  | 0, xs, _, h => ⟨h, .refl _⟩
  | k + 1, xs, hk, h => by
    obtain ⟨h1, h2⟩ := siftup_heap (m := k) (by omega) h
    obtain ⟨h3, h4⟩ := hfy_heap k (siftupX xs k) (by rw [siftupX_len (by omega)]; omega) h1
    exact ⟨h3, h4.trans h2⟩
theorem heapify_heap (xs : List X) : HeapFrom 0 (heapifyX xs) ∧ (heapifyX xs).Perm xs :=
  hfy_heap _ xs (by omega) fun i h1 h2 h3 => by omega
theorem push_heap {xs : List X} {x : X} (h : HeapFrom 0 xs) : HeapFrom 0 (pushX xs x) ∧ (pushX xs x).Perm (x :: xs) := by
  unfold pushX siftdownX
  have e : (xs ++ [x])[xs.length]? = some x := by simp
  have es : (xs ++ [x]).set xs.length x = xs ++ [x] := by
    rw [List.set_append_right _ _ (Nat.le_refl _)]; simp
  have ek : ∀ i, i < xs.length → kk (xs ++ [x]) i = kk xs i := fun i hi => by unfold kk; rw [List.getElem?_append_left hi]
  rw [e]
  dsimp only
  have hl : xs.length < (xs ++ [x]).length := by simp
  have hD : Desc 0 xs.length := by
    generalize xs.length = n
    induction n using Nat.strongRecOn with
    | ind n ih =>
      cases n with
      | zero => exact .refl
      | succ n => exact .step (by omega) (ih _ (by omega))
  refine ⟨sd_heap _ _ hl hD ?_ ?_, (sd_perm _ _ hl).trans ?_⟩
  · intro i h1 h2 h3 h4
    rw [List.length_append] at h2
    simp only [List.length_cons, List.length_nil] at h2
    rw [es, ek _ (by omega), ek _ (by omega)]
    exact h i h1 (by omega) h3
  · intro c h1 h2 h3 h4
    rw [List.length_append] at h2
    simp only [List.length_cons, List.length_nil] at h2
    omega
  · rw [es]
    exact List.perm_append_comm
theorem heap_min {xs : List X} (h : HeapFrom 0 xs) : ∀ i, i < xs.length → rle (kk xs 0) (kk xs i) := by
  intro i
  induction i using Nat.strongRecOn with
  | ind i ih =>
    intro hi
    by_cases h0 : i = 0
    · rw [h0]; exact rle_refl _
    · exact rle_trans (ih ((i - 1) / 2) (by omega) (by omega)) (h i (by omega) hi (by omega))
theorem pop_heap {xs ys : List X} {y : X} (h : HeapFrom 0 xs) (hp : popX xs = some (y, ys)) : HeapFrom 0 ys ∧ xs.Perm (y :: ys) ∧ ∀ z ∈ xs, rle y.2 z.2 := by
  cases xs with
  | nil => simp [popX] at hp
  | cons a zs =>
    have hmin : ∀ z ∈ a :: zs, rle a.2 z.2 := by
      intro z hz
      obtain ⟨i, hi, e⟩ := List.mem_iff_getElem.mp hz
      have := heap_min h i hi
      rw [kk_get (q := a) rfl, kk_get (q := z) (by rw [List.getElem?_eq_getElem hi, e])] at this
      exact this
    unfold popX at hp
    cases e : zs.getLast? with
    | none =>
      rw [List.getLast?_eq_none_iff] at e
      subst e
      simp only [List.getLast?_nil, Option.some.injEq, Prod.mk.injEq] at hp
      obtain ⟨rfl, rfl⟩ := hp
      exact ⟨fun i h1 h2 => absurd h2 (by simp), .refl _, hmin⟩
    | some z =>
      obtain ⟨ws, rfl⟩ := List.getLast?_eq_some_iff.mp e
      simp only [e, Option.some.injEq, Prod.mk.injEq, List.dropLast_concat, List.set_cons_zero] at hp
      obtain ⟨rfl, rfl⟩ := hp
      obtain ⟨h1, h2⟩ := siftup_heap (m := 0) (xs := z :: ws) (by simp) (fun i a1 b c => by
        have := h i a1 (by simp at b ⊢; omega) (by omega)
        have q : ∀ j, 1 ≤ j → j < (z :: ws).length → kk (z :: ws) j = kk (a :: (ws ++ [z])) j := fun j h1 h2 => by
          unfold kk
          obtain ⟨k, rfl⟩ : ∃ k, j = k + 1 := ⟨j - 1, by omega⟩
          rw [List.getElem?_cons_succ, List.getElem?_cons_succ, List.getElem?_append_left (by simpa using h2)]
        rw [q _ (by omega) (by omega), q _ (by omega) b]
        exact this)
      refine ⟨h1, ?_, hmin⟩
      exact (List.perm_append_comm.trans h2.symm).cons _

end
local macro_rules | `(tactic| walk_at "ex") => `(tactic| first
  | ((with_reducible show wpAny _ _ (eval (Expr.IfExp _ _ _ _) _) _ _ _); with_reducible refine wpAny_IfExp ?_))
section


noncomputable def IsSit (x : Str) (t : Tok) (i : Nat) : OP := fun o => o.cls = .type "str_ascii_iterator" ∧ o.data = .fields #[.str x t, .int i 0]
noncomputable def rowOf (n : Str) : Row := (n.length, n)
noncomputable def allR : List Row := nms.map rowOf
noncomputable def pend (k : Nat) : List Row := (allR.drop k).take (k + 2)
noncomputable def letr (i : Nat) : Str := if i = 0 then "a" else "b"
noncomputable def chl (n : Str) (i : Nat) : Row := ((n.length : Int) + 1, n ++ letr i)
theorem pend_min : ∀ k, k < 14 → (∀ r ∈ pend k, (pend k).all (fun z => !rlt z r) = true → some r = allR[k]?) ∧ some ((pend k).headD (0, "")) = allR[k]? ∧ (pend k) = (pend k).headD (0, "") :: (pend k).tail := by decide +kernel
theorem pend_next : ∀ k, k < 14 → ((pend (k + 1)).isPerm (((List.range (if k < 6 then 2 else 0)).map (chl ((nms[k]?).getD ""))) ++ (pend k).tail)) = true ∧ (decide ((((nms[k]?).getD "").length : Int) < 3) = decide (k < 6)) := by decide +kernel
theorem pend_end : pend 14 = [] := by decide +kernel
theorem pend_zero : pend 0 = ([((1 : Int), ("a" : Str)), ((1 : Int), ("b" : Str))] : List Row) := by decide +kernel
theorem pend_ne : ∀ k, k < 14 → pend k ≠ [] := by decide +kernel

noncomputable def firstR (us vs : List Str) : List Row := match nms.find? (fun n => appl us n != appl vs n) with
  | some n => [rowOf n]
  | none => []

section
variable {C : Cx} {F : Frz} {l : Ledger} {A : Around} {E : Value → Shared → Prop} {s : Shared} {env : Env} {c : Addr} {mt : Nat → Addr} {cd : Nat → Value}
theorem i_str {x : Str} {t : Tok} {Q : Value → Shared → Prop} (hs : St C F l s) (ha : x.cps.all (· < 128) = true) (h : ∀ i s', St C F ((i, IsSit x t 0) :: l) s' → Q (.ref i) s') : wpAny C.M A (pyIter (.str x t)) Q E s :=
  wpAny_pyIter_ascii ha (h _ _ (hs.new (P := IsSit x t 0) ⟨rfl, rfl⟩ rfl rfl))
theorem n_str {it : Addr} {x : Str} {t : Tok} {i ch : Nat} {l' : Ledger} {Q : Option Value → Shared → Prop} (hs : St C F l s) (u : Upd it (IsSit x t i) (IsSit x t (i + 1)) l l') (hx : x.cps[i]? = some ch)
    (h : ∀ u s', St C F l' s' → Q (some (.str ⟨#[ch]⟩ u)) s') : wpAny C.M A (pyNext (.ref it)) Q E s := by
  obtain ⟨o, e, hc, hd⟩ := hs.at u.mem
  exact wpAny_pyNext_ascii_item ⟨o, e, hc, hd⟩ hx fun h' ⟨o', e', hc', hd'⟩ hsb => h _ _ (hs.upd u hsb.extBut ⟨o', e', hc', hd'⟩)
theorem n_strE {it : Addr} {x : Str} {t : Tok} {i : Nat} {l' : Ledger} {Q : Option Value → Shared → Prop} (hs : St C F l s) (hi : (it, IsSit x t i) ∈ l) (u : Drop it l l') (hx : x.cps[i]? = none) (hh : A.handled = none)
    (h : ∀ s', St C F l' s' → Q none s') : wpAny C.M A (pyNext (.ref it)) Q E s := by
  obtain ⟨o, e, hc, hd⟩ := hs.at hi
  exact wpAny_pyNext_ascii_end hh ⟨o, e, hc, hd⟩ hx fun h' hx => h _ (hs.drop u hx)
theorem ne_bool {a b : Bool} {Q : Value → Shared → Prop} (h : Q (.bool (a != b)) s) : wpAny C.M A (compareOp .NotEq (.bool a) (.bool b)) Q E s := by
  show wpAny _ _ (richCompare .NotEq _ _) _ _ _
  exact SeqAt.RcNeAt.bool_bool a b _ _ _ _ h

theorem rowOf_len {r : Row} {n : Str} (h : r = rowOf n) : r.1 = n.length ∧ r.2 = n := by rw [h]; exact ⟨rfl, rfl⟩
set_option maxRecDepth 10000
set_option maxHeartbeats 2000000 in
theorem first_spec {cd' c2 c3 c6 c5 : Value} {us vs : List (Str × Tok)} {r1 d1 U1 r2 d2 U2 : Addr} {v1 v2 : List (Str × Value)} {R : Result → Shared → Prop} (W : Wd C) (X : Cl C c mt cd) (fn : FnAt C 16 cd') (f2 : FnAt C 2 c2) (f3 : FnAt C 3 c3) (f6 : FnAt C 6 c6) (f5 : FnAt C 5 c5) (hs : St C F l s) (hr : Rm A 5)
    (hI1 : (r1, IsInst c d1) ∈ l) (hD1 : (d1, IdH v1) ∈ l) (hU1 : (("useragents" : Str), .ref U1) ∈ v1) (hA1 : ("applies_to" : Str) ∉ v1.map (·.1)) (hL1 : (U1, IsL (strValues us)) ∈ l) (hu : ∀ a ∈ us, a.1.length ≤ 1000)
    (hI2 : (r2, IsInst c d2) ∈ l) (hD2 : (d2, IdH v2) ∈ l) (hU2 : (("useragents" : Str), .ref U2) ∈ v2) (hA2 : ("applies_to" : Str) ∉ v2.map (·.1)) (hL2 : (U2, IsL (strValues vs)) ∈ l) (hv : ∀ a ∈ vs, a.1.length ≤ 1000)
    (h : ∀ F' zs K s', F.le F' → Rows F' zs → zs.map (·.2) = firstR (us.map (·.1)) (vs.map (·.1)) → St C F' ((K, IsL (vals zs)) :: l) s' → R (.ok (.ret (.ref K))) s') :
    codeAny C.M A (.call (.ref (C.fn 16)) ⟨[.ref r1, .ref r2], []⟩) R s := by
  refine call_fn (vars := [("one", .ref r1), ("other", .ref r2)]) W fn hs hr.d (fun _ _ => rfl) (by intro x hx; simp only [List.mem_cons, List.not_mem_nil, or_false] at hx; rcases hx with rfl | rfl <;> rfl) (by simp only [List.map]; decide +kernel) (fun L s' hs => ?_)
  show wpAny _ _ (execs (_ :: _) _) _ _ _
  repeat walk_at "ex"
  refine MkL.in (by assumption) (by simp) ?_
  intro Ra s1 hs1
  obtain ⟨F1, hF1, hra, hs2⟩ := freeze_row (r := (1, "a")) hs1
  repeat walk_at "ex"
  refine MkL.in (by assumption) (by simp) ?_
  intro Rb s3 hs3
  obtain ⟨F2, hF2, hrb, hs4⟩ := freeze_row (r := (1, "b")) hs3
  repeat walk_at "ex"
  refine MkL.in (by assumption) (by simp) ?_
  intro H s5 hs5
  repeat walk_at "ex"
  rename St C F2 _ _ => hh
  refine wpAny_While ?_
  have hx0 : HeapFrom 0 [(Value.ref Ra, ((1, "a") : Row)), (Value.ref Rb, ((1, "b") : Row))] := by
    intro i h1 h2 h3
    have : i = 1 := by simp at h2; omega
    subst this
    show rle (1, "a") (1, "b")
    unfold rle; decide +kernel
  have hR0 : Rows F2 [(Value.ref Ra, ((1, "a") : Row)), (Value.ref Rb, ((1, "b") : Row))] := by
    intro x hx
    simp only [List.mem_cons, List.not_mem_nil, or_false] at hx
    rcases hx with rfl | rfl
    · exact hra.mono hF2
    · exact hrb
  refine codeAny_whileLoop (fun n s' => ∃ F' xs k, F.le F' ∧ St C F' ((L, NsH [("one", .ref r1), ("other", .ref r2), ("heap", .ref H)]) :: (H, IsL (vals xs)) :: l) s' ∧ n + k = 14 ∧ HeapFrom 0 xs ∧ Rows F' xs ∧ (xs.map (·.2)).Perm (pend k) ∧
      ∀ j, j < k → ∀ m, nms[j]? = some m → (appl (us.map (·.1)) m != appl (vs.map (·.1)) m) = false) ?_ 14
    ⟨F2, [(Value.ref Ra, (1, "a")), (Value.ref Rb, (1, "b"))], 0, Frz.le_trans hF1 hF2, hh.pick (by
      show Pick (_ :: (H, IsL [Value.ref Ra, Value.ref Rb]) :: l) _
      walk_at "pick"), rfl, hx0, hR0, by rw [pend_zero]; exact .refl _, fun j hj => absurd hj (Nat.not_lt_zero _)⟩
  rintro n s6 ⟨F', xs, k, hF, hs6, hnk, hH, hX, hP, hj⟩
  have hlen : xs.length = (pend k).length := by rw [← hP.length_eq, List.length_map]
  have hk2 : (pend k).length ≤ 14 := by
    unfold pend
    rw [List.length_take, List.length_drop]
    show min (k + 2) (14 - k) ≤ 14
    omega
  repeat walk_at "ex"
  refine MkL.in (by assumption) (by decide) ?_
  intro N s7 hs7
  refine' neNil (xs := vals xs) (by assumption) ?ha ?hb hr.deeper.u ?_
  case ha => walk_at "mem"
  case hb => walk_at "mem"
  repeat walk_at "ex"
  by_cases hk : k = 14
  · subst hk
    rw [pend_end] at hP
    have hxs : xs = [] := List.map_eq_nil_iff.mp hP.eq_nil
    subst hxs
    rw [show (!(vals ([] : List Mine.X)).isEmpty) = false from rfl]
    repeat walk_at "ex"
    try dsimp only
    repeat walk_at "ex"
    refine MkL.in (by assumption) (by decide) ?_
    intro K s8 hs8
    try dsimp only
    have hfr : firstR (us.map (·.1)) (vs.map (·.1)) = [] := by
      unfold firstR
      have : nms.find? (fun n => appl (us.map (·.1)) n != appl (vs.map (·.1)) n) = none := by
        rw [List.find?_eq_none]
        intro m hm
        obtain ⟨j, hj1, hj2⟩ := List.mem_iff_getElem.mp hm
        rw [hj j hj1 m (by rw [List.getElem?_eq_getElem hj1, hj2])]
        simp
      rw [this]
    refine h F' [] K _ hF (fun _ h => nomatch h) (by rw [hfr]; rfl) (hs8.pick ?_)
    show Pick ((K, IsL []) :: l) _
    walk_at "pick"
  · have hk14 : k < 14 := by omega
    obtain ⟨hmin, hhd, htl⟩ := pend_min k hk14
    obtain ⟨hnx, hsz⟩ := pend_next k hk14
    have hne : xs ≠ [] := by
      rintro rfl
      have := hP.symm.eq_nil
      exact pend_ne k hk14 this
    obtain ⟨y, ys, hpop, hpl, hym, hysm⟩ := popX_some hne
    obtain ⟨hH2, hper, hle⟩ := pop_heap hH hpop
    obtain ⟨nm, hnm⟩ : ∃ nm, nms[k]? = some nm := ⟨_, List.getElem?_eq_getElem (l := nms) (i := k) hk14⟩
    have hmem : nm ∈ nms := List.mem_of_getElem? hnm
    have hall : allR[k]? = some (rowOf nm) := by unfold allR; rw [List.getElem?_map, hnm]; rfl
    have hyr : y.2 = rowOf nm := by
      have h1 : y.2 ∈ pend k := hP.mem_iff.mp (List.mem_map_of_mem hym)
      have h2 := hmin y.2 h1 (by
        rw [List.all_eq_true]
        intro z hz
        obtain ⟨w, hw, rfl⟩ := List.mem_map.mp (hP.mem_iff.mpr hz)
        rw [hle w hw]; rfl)
      rw [hall] at h2
      exact Option.some.inj h2
    have hP2 : (ys.map (·.2)).Perm (pend k).tail := by
      have h1 : (y.2 :: ys.map (·.2)).Perm (pend k) := ((hper.map (fun x : Mine.X => x.2)).symm.trans hP :)
      have h2 : (pend k).headD (0, "") = y.2 := by
        rw [hall] at hhd
        rw [Option.some.inj hhd, hyr]
      rw [htl, h2] at h1
      exact (List.perm_cons _).mp h1
    rw [hnm, Option.getD_some] at hnx hsz
    have hemp : (!(vals xs).isEmpty) = true := by
      cases xs with
      | nil => exact absurd rfl hne
      | cons _ _ => rfl
    have hY : RowAt F' y.1 (rowOf nm) := hyr ▸ hX y hym
    have hXs : Rows F' ys := fun z hz => hX z (hysm z hz)
    obtain ⟨q1, q2, ⟨rest, q3⟩, q4, q5⟩ := up_fact hmem
    obtain ⟨w1, w2, ⟨rest2, w3⟩, w4⟩ := low_fact (.inr hmem)
    rw [hemp]
    repeat walk_at "ex"
    refine Assign_Tuple ?_
    repeat walk_at "ex"
    refine gl W (by assumption) f3.glob ?_
    refine callF f3 ?_
    repeat walk_at "ex"
    refine ⟨⟨_, _, by assumption⟩, wpAny_call ?_⟩
    refine heappop_spec (l := (L, NsH [("one", .ref r1), ("other", .ref r2), ("heap", .ref H)]) :: l) W f3 f6 f5 (hs7.pick (by walk_at "pick")) (hr.deeper.less (by omega)) hX (by omega) hpop ?_
    intro s8 hs8
    try dsimp only
    refine assign_row hs8 hY hr.deeper.handled ?_
    intro t1 t2 s9 hs9
    rw [show (rowOf nm).1 = (nm.length : Int) from rfl, show (rowOf nm).2 = nm from rfl]
    repeat walk_at "ex"
    try dsimp only
    repeat walk_at "ex"
    refine' m_applies X (by assumption) ?h1 ?h2 hA1 ?_
    case h1 => exact List.mem_cons_of_mem _ (List.mem_cons_of_mem _ hI1)
    case h2 => exact List.mem_cons_of_mem _ (List.mem_cons_of_mem _ hD1)
    refine call_app X ?_
    repeat walk_at "ex"
    refine GM.upper ?_
    refine callM0 ?_
    refine s_upper (by assumption) w1 ?_
    intro t3 s11 hs11
    repeat walk_at "ex"
    refine s_add (by assumption) q4 (by decide +kernel) ?_
    intro t4 s12 hs12
    repeat walk_at "ex"
    refine ⟨⟨_, _, by assumption⟩, wpAny_call ?_⟩
    refine applies_spec (us := us) W X (by assumption) (hr.deeper.less (by omega)) (List.mem_cons_of_mem _ (List.mem_cons_of_mem _ hI1)) (List.mem_cons_of_mem _ (List.mem_cons_of_mem _ hD1)) hU1 (List.mem_cons_of_mem _ (List.mem_cons_of_mem _ hL1)) q1 q2 q3 q4 q5 hu ?_
    intro s13 hs13
    try dsimp only
    repeat walk_at "ex"
    refine' m_applies X (by assumption) ?h1 ?h2 hA2 ?_
    case h1 => exact List.mem_cons_of_mem _ (List.mem_cons_of_mem _ hI2)
    case h2 => exact List.mem_cons_of_mem _ (List.mem_cons_of_mem _ hD2)
    refine call_app X ?_
    repeat walk_at "ex"
    refine ⟨⟨_, _, by assumption⟩, wpAny_call ?_⟩
    refine applies_spec (us := vs) W X (by assumption) (hr.deeper.less (by omega)) (List.mem_cons_of_mem _ (List.mem_cons_of_mem _ hI2)) (List.mem_cons_of_mem _ (List.mem_cons_of_mem _ hD2)) hU2 (List.mem_cons_of_mem _ (List.mem_cons_of_mem _ hL2)) w1 w2 w3 w1 w4 hv ?_
    intro s14 hs14
    try dsimp only
    refine ne_bool ?_
    repeat walk_at "ex"
    cases hb : (appl (us.map (·.1)) nm != appl (vs.map (·.1)) nm) with
    | true =>
      repeat walk_at "ex"
      refine MkL.in (by assumption) (by simp) ?_
      intro Rw s16 hs16
      obtain ⟨F3, hF3, hrow, hs17⟩ := freeze_row (r := rowOf nm) hs16
      repeat walk_at "ex"
      refine MkL.in (by assumption) (by simp) ?_
      intro K s18 hs18
      try dsimp only
      have hfr : firstR (us.map (·.1)) (vs.map (·.1)) = [rowOf nm] := by
        unfold firstR
        have : nms.find? (fun n => appl (us.map (·.1)) n != appl (vs.map (·.1)) n) = some nm := by
          rw [List.find?_eq_some_iff_getElem]
          refine ⟨hb, k, hk14, (List.getElem?_eq_some_iff.mp hnm).2, fun j hjk => ?_⟩
          rw [hj j hjk _ (List.getElem?_eq_getElem _)]
          rfl
        rw [this]
      refine h F3 [(Value.ref Rw, rowOf nm)] K _ (Frz.le_trans hF hF3) (fun x hx => by rw [List.mem_singleton.mp hx]; exact hrow) (by rw [hfr]; rfl) (hs18.pick ?_)
      show Pick ((K, IsL [Value.ref Rw]) :: l) _
      walk_at "pick"
    | false =>
      have hj2 : ∀ j, j < k + 1 → ∀ m, nms[j]? = some m → (appl (us.map (·.1)) m != appl (vs.map (·.1)) m) = false := by
        intro j hjk m hm
        by_cases e : j = k
        · rw [e, hnm] at hm; cases hm; exact hb
        · exact hj j (by omega) m hm
      repeat walk_at "ex"
      try dsimp only
      repeat walk_at "ex"
      refine wpAny_lt_int ?_
      repeat walk_at "ex"
      rw [hsz]
      by_cases hk6 : k < 6
      · rw [if_pos hk6] at hnx
        rw [decide_eq_true hk6]
        refine iteT ?_
        refine k_str (by assumption) ?_
        intro tab s20 hh20
        refine i_str hh20 (by decide +kernel) ?_
        intro it s21 hs21
        refine codeAny_forLoop (fun n s' => ∃ F3 zs i, F'.le F3 ∧ St C F3 ((it, IsSit "ab" tab i) :: (H, IsL (vals zs)) :: (L, NsH [("one", .ref r1), ("other", .ref r2), ("heap", .ref H), ("size", .int nm.length t1), ("name", .str nm t2)]) :: l) s' ∧
            n + i = 2 ∧ HeapFrom 0 zs ∧ Rows F3 zs ∧ zs.length = ys.length + i ∧ (zs.map (·.2)).Perm ((List.range i).map (chl nm) ++ (pend k).tail)) ?_ 2
          ⟨F', ys, 0, Frz.le_refl _, hs21, rfl, hH2, hXs, rfl, hP2⟩
        rintro n2 s22 ⟨F3, zs, i, hF3, hs22, hni, hzH, hzR, hzl, hzP⟩
        cases n2 with
        | zero =>
          have hi2 : i = 2 := by omega
          subst hi2
          refine' n_strE hs22 ?hm ?hd ?hx hr.deeper.handled ?_
          case hm => walk_at "mem"
          case hd => exact Drop.here
          case hx => decide +kernel
          intro s23 hs23
          repeat walk_at "ex"
          try dsimp only
          repeat walk_at "ex"
          try dsimp only
          have hh24 := Upd.mono (.there .here) hs23 fun o => NsH.pre (vars' := [_, _, _]) (extra := [_, _])
          exact ⟨n - 1, by omega, F3, zs, k + 1, Frz.le_trans hF hF3, hh24.pick (by walk_at "pick"), by omega, hzH, hzR, hzP.trans (List.isPerm_iff.mp hnx).symm, hj2⟩
        | succ n2 =>
          have hi2 : i < 2 := by omega
          obtain ⟨ch, hch, hlet⟩ : ∃ ch, ("ab" : Str).cps[i]? = some ch ∧ (⟨#[ch]⟩ : Str) = letr i := by
            have : i = 0 ∨ i = 1 := by omega
            rcases this with rfl | rfl
            · exact ⟨97, by decide +kernel, by decide +kernel⟩
            · exact ⟨98, by decide +kernel, by decide +kernel⟩
          refine' n_str hs22 ?hu hch ?_
          case hu => exact Upd.here
          intro t5 s23 hs23
          rw [hlet]
          repeat walk_at "ex"
          refine gl W (by assumption) f2.glob ?_
          refine callF f2 ?_
          repeat walk_at "ex"
          refine o_add (by assumption) ?_
          intro t6 s24 hs24
          repeat walk_at "ex"
          refine s_add (by assumption) w1 (by
            have : i = 0 ∨ i = 1 := by omega
            rcases this with rfl | rfl <;> decide +kernel) ?_
          intro t7 s25 hs25
          repeat walk_at "ex"
          refine MkL.in (by assumption) (by simp) ?_
          intro Rw s26 hs26
          obtain ⟨F4, hF4, hrow, hs27⟩ := freeze_row (r := chl nm i) hs26
          repeat walk_at "ex"
          refine ⟨⟨_, _, by assumption⟩, wpAny_call ?_⟩
          refine heappush_spec (xs := zs) (x := (Value.ref Rw, chl nm i)) (l := (it, IsSit "ab" tab (i + 1)) :: (L, NsH [("one", .ref r1), ("other", .ref r2), ("heap", .ref H), ("size", .int nm.length t1), ("name", .str nm t2), ("letter", .str (letr i) t5)]) :: l) W f2 f5 (hs27.pick (by walk_at "pick")) (hr.deeper.less (by omega)) (hzR.mono hF4) hrow (by omega) ?_
          intro s28 hs28
          try dsimp only
          repeat walk_at "ex"
          try dsimp only
          obtain ⟨g1, g2⟩ := push_heap (x := (Value.ref Rw, chl nm i)) hzH
          have hh29 := Upd.mono (.there (.there .here)) hs28 fun o => NsH.pre (vars' := [_, _, _, _, _]) (extra := [_])
          refine ⟨n2, Nat.lt_succ_self _, F4, pushX zs (Value.ref Rw, chl nm i), i + 1, Frz.le_trans hF3 hF4, hh29.pick (by walk_at "pick"), by omega, g1, ?_, ?_, ?_⟩
          · intro x hx
            rcases List.mem_cons.mp (g2.mem_iff.mp hx) with rfl | hx
            · exact hrow
            · exact (hzR x hx).mono hF4
          · rw [g2.length_eq, List.length_cons, hzl]; omega
          · refine (g2.map (fun x : Mine.X => x.2)).trans ?_
            rw [List.map_cons, List.range_succ, List.map_append, List.append_assoc]
            refine (hzP.cons _).trans ?_
            exact List.perm_middle.symm
      · rw [if_neg hk6] at hnx
        rw [decide_eq_false hk6]
        repeat walk_at "ex"
        rename St C F' _ _ => hh20
        refine i_str hh20 (by decide +kernel) ?_
        intro it s21 hs21
        refine codeAny_forLoop (fun n s' => s' = s21) ?_ 0 rfl
        rintro n2 s22 rfl
        refine' n_strE hs21 ?hm ?hd ?hx hr.deeper.handled ?_
        case hm => walk_at "mem"
        case hd => exact Drop.here
        case hx => decide +kernel
        intro s23 hs23
        repeat walk_at "ex"
        try dsimp only
        repeat walk_at "ex"
        try dsimp only
        have hh24 := Upd.mono (.there .here) hs23 fun o => NsH.pre (vars' := [_, _, _]) (extra := [_, _])
        exact ⟨n - 1, by omega, F', ys, k + 1, hF, hh24.pick (by walk_at "pick"), by omega, hH2, hXs, hP2.trans (List.isPerm_iff.mp hnx).symm, hj2⟩
end

end
section

noncomputable def IsCl (v : Option Value) : OP := fun o => o.data = .cell v
section
variable {C : Cx} {F : Frz} {l : Ledger} {A : Around} {E : Value → Shared → Prop} {s : Shared} {fname : Str} {scope : Scope} {L fa K : Addr} {cd : Value} {cl : List (Str × Addr)} {env0 : Env}
theorem St.cell {c : Addr} {v : Option Value} (hs : St C F l s) (hm : (c, IsCl v) ∈ l) : s.heap.IsCell c v := let ⟨o, e, d⟩ := hs.at hm; ⟨o, e, d⟩

/-! names of a frame with cells -/
theorem nmC {x : Str} {pos : Pos} {v : Value} {vars : List (Str × Value)} {Q : Value → Shared → Prop} (hs : St C F l s) (hm : (L, NsH vars) ∈ l) (hv : (x, v) ∈ vars) (h : Q v s)
    (hk : scope.kind = .function := by rfl) (hl : (envOfC fname scope L fa cd).kindOf x = some .local := by rfl) (hd : (x == ("__debug__" : Str)) = false := by decide) :
    wpAny C.M A (eval (.Name x pos) (envOfC fname scope L fa cd)) Q E s := by
  obtain ⟨m, n, _, k⟩ := hs.ns hm
  exact wpAny_Name (wpAny_loadName_local hk hl n (k _ hv) h) hd
theorem ldC' {x : Str} {pos : Pos} {c : Addr} {v : Value} {Q : Value → Shared → Prop} (hc : (cellsFrom (L + 1) scope.names []).lookup x = some c) (hs : St C F l s) (hm : (c, IsCl (some v)) ∈ l) (h : Q v s)
    (hk : scope.kind = .function := by rfl) (hl : (envOfC fname scope L fa cd).kindOf x = some .cell := by rfl) (hd : (x == ("__debug__" : Str)) = false := by decide) :
    wpAny C.M A (eval (.Name x pos) (envOfC fname scope L fa cd)) Q E s := wpAny_Name (wpAny_loadName_cell hk hl hc (hs.cell hm) h) hd
theorem stoC {x : Str} {v : Value} {vars vars' : List (Str × Value)} {l' : Ledger} {Q : Unit → Shared → Prop} (hs : St C F l s) (u : Upd L (NsH vars) (NsH vars') l l') (hv : VSet x v vars vars')
    (h : ∀ s', St C F l' s' → Q () s') (hk : scope.kind = .function := by rfl) (hl : (envOfC fname scope L fa cd).kindOf x = some .local := by rfl) :
    wpAny C.M A (storeName (envOfC fname scope L fa cd) x v) Q E s := by
  obtain ⟨m, n, nd, k⟩ := hs.ns u.mem
  refine wpAny_storeName_local hl n (fun h' hn hsb => h _ (hs.upd u hsb.extBut (nsH_of hn (hv.nodup nd) (hv.get k nd)))) ?_
  show (scope.kind == .class || (scope.kind == .module && L != mainGlobals)) = false
  rw [hk]; rfl
theorem stcC {x : Str} {c : Addr} {v : Value} {v0 : Option Value} {l' : Ledger} {Q : Unit → Shared → Prop} (hc : (cellsFrom (L + 1) scope.names []).lookup x = some c) (hs : St C F l s) (u : Upd c (IsCl v0) (IsCl (some v)) l l')
    (h : ∀ s', St C F l' s' → Q () s') (hk : scope.kind = .function := by rfl) (hl : (envOfC fname scope L fa cd).kindOf x = some .cell := by rfl) :
    wpAny C.M A (storeName (envOfC fname scope L fa cd) x v) Q E s :=
  wpAny_storeName_cell hk hl hc (hs.cell u.mem) fun h' ⟨o, e, d⟩ hsb => h _ (hs.upd u hsb.extBut ⟨o, e, d⟩)

/-! names of a comprehension -/
theorem nmK {x : Str} {pos : Pos} {v : Value} {vars : List (Str × Value)} {Q : Value → Shared → Prop} (hs : St C F l s) (hm : (K, NsH vars) ∈ l) (hv : (x, v) ∈ vars) (h : Q v s)
    (hk : (compEnvC scope cl K env0).scope.kind = .function := by rfl) (hl : (compEnvC scope cl K env0).kindOf x = some .local := by rfl) (hd : (x == ("__debug__" : Str)) = false := by decide) :
    wpAny C.M A (eval (.Name x pos) (compEnvC scope cl K env0)) Q E s := by
  obtain ⟨m, n, _, k⟩ := hs.ns hm
  exact wpAny_Name (wpAny_loadName_local hk hl n (k _ hv) h) hd
theorem stoK {x : Str} {v : Value} {vars vars' : List (Str × Value)} {l' : Ledger} {Q : Unit → Shared → Prop} (hs : St C F l s) (u : Upd K (NsH vars) (NsH vars') l l') (hv : VSet x v vars vars')
    (h : ∀ s', St C F l' s' → Q () s') (hk : (compEnvC scope cl K env0).scope.kind = .function := by rfl) (hl : (compEnvC scope cl K env0).kindOf x = some .local := by rfl) :
    wpAny C.M A (storeName (compEnvC scope cl K env0) x v) Q E s := by
  obtain ⟨m, n, nd, k⟩ := hs.ns u.mem
  refine wpAny_storeName_local hl n (fun h' hn hsb => h _ (hs.upd u hsb.extBut (nsH_of hn (hv.nodup nd) (hv.get k nd)))) ?_
  show (((compEnvC scope cl K env0).scope.kind == .class) || ((compEnvC scope cl K env0).scope.kind == .module && _)) = false
  rw [hk]; rfl
theorem ldcK {x : Str} {pos : Pos} {c : Addr} {v : Value} {Q : Value → Shared → Prop} (hc : cl.lookup x = some c) (hs : St C F l s) (hm : (c, IsCl (some v)) ∈ l) (h : Q v s)
    (hk : (compEnvC scope cl K env0).scope.kind = .function := by rfl) (hl : (compEnvC scope cl K env0).kindOf x = some .cell := by rfl) (hd : (x == ("__debug__" : Str)) = false := by decide) :
    wpAny C.M A (eval (.Name x pos) (compEnvC scope cl K env0)) Q E s := wpAny_Name (wpAny_loadName_cell hk hl hc (hs.cell hm) h) hd
theorem ldfK {x : Str} {pos : Pos} {c : Addr} {v : Value} {Q : Value → Shared → Prop} (hc : cl.lookup x = some c) (hs : St C F l s) (hm : (c, IsCl (some v)) ∈ l) (h : Q v s)
    (hk : (compEnvC scope cl K env0).scope.kind = .function := by rfl) (hl : (compEnvC scope cl K env0).kindOf x = some .free := by rfl) (hd : (x == ("__debug__" : Str)) = false := by decide) (hn : (x == ("__classdict__" : Str)) = false := by decide) :
    wpAny C.M A (eval (.Name x pos) (compEnvC scope cl K env0)) Q E s := wpAny_Name (wpAny_loadName_free hk hl hc (hs.cell hm) h hn) hd

/-- behind a comprehension's loop: its names go, the list stays -/
noncomputable def CompEnd (C : Cx) (Q : Value → Shared → Prop) (acc K : Addr) (r : Result) (s' : Shared) : Prop := match r with
  | .ok _ => ∃ F' l' vars, St C F' ((K, NsH vars) :: l') s' ∧ ∀ s'', St C F' l' s'' → Q (.ref acc) s''
  | .error _ => False
/-- the comprehension's loop is to be shown -/
noncomputable def CompIn (C : Cx) (A : Around) (e : Expr) (scope : Scope) (cl : List (Str × Addr)) (env : Env) (Q : Value → Shared → Prop) (it : Value) (s : Shared) : Prop :=
  ∃ F l, St C F l s ∧ ∀ acc K s3, St C F ((K, NsH []) :: (acc, IsL []) :: l) s3 →
    (∀ (Q' : Value → Shared → Prop) (E' : Value → Shared → Prop), Q' it s3 → wpAny C.M A (pyIter it) Q' E' s3) ∧
    codeAny C.M A (.compLoop e 0 it (.ref acc) (compEnvC scope cl K env)) (CompEnd C Q acc K) s3

theorem comp_core {elt : Expr} {gens : List Comprehension} {g : Comprehension} {gs : List Comprehension} {pos p2 : Pos} {first : Sem Value} {env : Env} {Q : Value → Shared → Prop} (hg : gens = g :: gs) (hga : g.is_async = 0) (hclos : closureFor scope env = pure cl)
    (hs' : ∀ x, foldedSetIterable g.iter env x = pure x) (hkind : scope.kind = .function) (hnames : ∀ x ∈ scope.names, x.2 = .local → scope.names.lookup x.1 = some .local) (hcell : ∀ x ∈ scope.names, x.2 ≠ .cell)
    (h : wpAny C.M A first (fun x s₁ => wpAny C.M A (pyIter x) (CompIn C A (.ListComp elt gens scope pos) scope cl env Q) E s₁) E s) :
    wpAny C.M A (comprehension (.ListComp elt gens scope pos) scope env p2 (newList []) false first none) Q E s := by
  refine wpAny_comprehension_free (g := g) (gs := gs) (by rw [← hg]; rfl) hs' hclos hkind hnames ?_
  refine wpAny_mono h (fun x s₁ h₁ => wpAny_mono h₁ (fun it s₂ h₂ => ?_) fun _ _ z => z) fun _ _ z => z
  obtain ⟨F, l, hs, k⟩ := h₂
  refine wpAny_newObj_type ?_ (by size_fits)
  have hs3 : St C F ((s₂.heap.objs.size, IsL []) :: l) { s₂ with heap := s₂.heap.push { cls := .type "list", data := .seq #[] } } := hs.new (P := IsL []) ⟨0, rfl⟩ rfl rfl
  refine wpAny_newFunctionEnv hcell (fun x hx => nomatch hx) (fun h' hns hsb => ?_) hkind
  have hs4 : St C F ((s₂.heap.objs.size + 1, NsH []) :: (s₂.heap.objs.size, IsL []) :: l) ⟨h', s₂.gens, s₂.drawn, s₂.toks, s₂.os⟩ := by
    refine hs3.push (by rw [Heap.size_push]; exact Nat.le_refl _) (fun b o e => hsb.extBut b o (Nat.ne_of_lt (Heap.lt_size e)) (Heap.get?_push_of_some _ e)) ?_
    have := nsH_of hns (vars := []) List.nodup_nil (fun p hp => nomatch hp)
    rw [Heap.size_push] at this
    exact this
  obtain ⟨k1, k2⟩ := k s₂.heap.objs.size (s₂.heap.objs.size + 1) _ hs4
  have k3 : codeAny C.M A (.compLoop (.ListComp elt gens scope pos) 0 it (.ref s₂.heap.objs.size) (compEnvC scope cl (s₂.heap.objs.size + 1) env)) (compPost C.M A E none Q (.ref s₂.heap.objs.size) (s₂.heap.objs.size + 1)) ⟨h', s₂.gens, s₂.drawn, s₂.toks, s₂.os⟩ := by
    refine codeAny_mono k2 fun r s' hr => ?_
    cases r with
    | error e => exact hr.elim
    | ok f =>
      obtain ⟨F', l', vars, hs5, q⟩ := hr
      obtain ⟨m, n, _, _⟩ := hs5.ns List.mem_cons_self
      exact ⟨m, n, fun h' hsb => q _ (hs5.drop .here hsb.extBut)⟩
  obtain ⟨tg, itr, ifs, asy⟩ := g
  simp only at hga
  subst hga hg
  show codeAny C.M A (.compStart (.ListComp elt (⟨tg, itr, ifs, 0⟩ :: gs) scope pos) 0 it (.ref s₂.heap.objs.size) (compEnvC scope cl ((s₂.heap.push _).objs.size) env)) (compPost C.M A E none Q (.ref s₂.heap.objs.size) ((s₂.heap.push _).objs.size)) _
  rw [Heap.size_push]
  exact codeAny_compStart_list k3 (k1 _ _ k3)
end

end
section

/-- a frame with cells, written out -/
noncomputable def envX (name : Str) (scope : Scope) (L a : Addr) (cd : Value) (cl : List (Str × Addr)) : Env :=
  { scope := scope, locals := L, globals := mainGlobals, cells := cl, qual := name ++ ".<locals>.", func := some a, code := cd, frame := some L, builtins := builtinsNs }

theorem St.pushes {C : Cx} {F : Frz} {l : Ledger} {s : Shared} (h : St C F l s) {s' : Shared} (ns : Ledger) (hk : ∀ b o, s.heap.get? b = some o → s'.heap.get? b = some o)
    (hn : ∀ p ∈ ns, s.heap.objs.size ≤ p.1 ∧ ∃ o, s'.heap.get? p.1 = some o ∧ p.2 o) (nd : (ns.map (·.1)).Nodup) (ho : s'.os = s.os := by rfl) (hg : s'.gens = s.gens := by rfl) : St C F (ns ++ l) s' := by
  have h' := h.ext (s' := s') hk ho hg
  refine ⟨h'.base, h'.frz, fun p hp => ?_, ?_, fun p hp => ?_, h'.hos, h'.gen⟩
  · rcases List.mem_append.mp hp with hp | hp
    · cases e : F p.1 with
      | none => rfl
      | some o => exact absurd (Heap.lt_size (h.frz p.1 o e)) (Nat.not_lt.mpr (hn p hp).1)
    · exact h.dis p hp
  · rw [List.map_append, List.nodup_append]
    refine ⟨nd, h.nod, fun a ha b hb e => ?_⟩
    obtain ⟨p, hp, rfl⟩ := List.mem_map.mp ha
    obtain ⟨q, hq, rfl⟩ := List.mem_map.mp hb
    have := h.lt q hq
    rw [← e] at this
    exact absurd this (Nat.not_lt.mpr (hn p hp).1)
  · rcases List.mem_append.mp hp with hp | hp
    · exact (hn p hp).2
    · exact h'.own p hp

section
variable {C : Cx} {F : Frz} {l : Ledger} {A : Around} {E : Value → Shared → Prop} {s : Shared} {fname : Str} {scope : Scope} {L fa K : Addr} {cd : Value} {cl : List (Str × Addr)} {env0 : Env}

/-- a call of a def whose names are captured -/
theorem call_fnC {i : Nat} {cd : Value} {args : List Value} {binds lvars : List (Str × Value)} {R : Result → Shared → Prop} (W : Wd C) (fn : FnAt C i cd) (hs : St C F l s) (hr : A.depth < recursionLimit)
    (hbind : ∀ pm doc, bindArgs (docDef (fName i) (fParams i) (fBody i) (fScope i) pm cd doc) ⟨args, []⟩ = pure binds)
    (hkind : ∀ n, ∀ x ∈ binds, (fScope i).names.lookup x.1 = some .local ∨ ((fScope i).names.lookup x.1 = some .cell ∧ ((cellsFrom n (fScope i).names []).lookup x.1).isSome = true))
    (hl : ∀ p ∈ lvars, bindL (fun x => (fScope i).names.lookup x) binds (fun _ => none) p.1 = some p.2) (hnd : (lvars.map (·.1)).Nodup)
    (hcn : ∀ n, ((cellsFrom n (fScope i).names []).map (·.1)).Nodup)
    (h : ∀ L s', St C F ((L, NsH lvars) :: ((cellsFrom (L + 1) (fScope i).names []).map fun p => (p.2, IsCl (bindC (fun x => (fScope i).names.lookup x) binds (fun _ => none) p.1))) ++ l) s' →
        wpAny C.M (A.deeper (envX (fName i) (fScope i) L (C.fn i) cd (cellsFrom (L + 1) (fScope i).names []))) (execs (fBody i) (envX (fName i) (fScope i) L (C.fn i) cd (cellsFrom (L + 1) (fScope i).names [])))
        (fun f s' => R (.ok (.ret (match f with | .ret v => v | _ => .none))) s') (fun _ _ => False) s')
    (hco : (fScope i).isCoroutine = false := by rfl) (hgen : (fScope i).isGenerator = false := by rfl) (hk : (fScope i).kind = .function := by rfl) :
    codeAny C.M A (.call (.ref (C.fn i)) ⟨args, []⟩) R s := by
  obtain ⟨o, pm, doc, ho, hd⟩ := fn.at_
  refine call_cells_ret hr (hs.sup _ _ ho) hd (W.nolimit.keeps hs.sup) ?_ (hbind pm doc) (hkind _) (fun h₁ tk Fr1 X => ?_) hco hgen hk
  · obtain ⟨c, oc, vs, tq, hc, hoc, r⟩ := fn.code
    exact ⟨c, oc, vs, tq, hc, hs.sup _ _ hoc, r⟩
  · refine h _ _ (hs.pushes ((s.heap.objs.size, NsH lvars) :: ((cellsFrom (s.heap.objs.size + 1) (fScope i).names []).map fun p => (p.2, IsCl (bindC (fun x => (fScope i).names.lookup x) binds (fun _ => none) p.1)))) Fr1.keep ?_ ?_)
    · intro p hp
      rcases List.mem_cons.mp hp with rfl | hp
      · exact ⟨Nat.le_refl _, nsH_of Fr1.ns hnd hl⟩
      · obtain ⟨q, hq, rfl⟩ := List.mem_map.mp hp
        refine ⟨Nat.le_of_lt (X.above q.1 q.2 hq), ?_⟩
        obtain ⟨oc, e, d⟩ := X.cell q.1 q.2 (mem_lookup (hcn _) q hq)
        exact ⟨oc, e, d⟩
    · rw [List.map_cons, List.nodup_cons, List.map_map]
      refine ⟨fun hm => ?_, ?_⟩
      · obtain ⟨q, hq, e⟩ := List.mem_map.mp hm
        exact absurd (X.above q.1 q.2 hq) (by
          have e' : q.2 = s.heap.objs.size := e
          rw [e']; exact Nat.lt_irrefl _)
      · have := X.apart
        unfold List.Nodup
        rw [List.pairwise_map]
        exact this

theorem nmX {x : Str} {pos : Pos} {v : Value} {vars : List (Str × Value)} {Q : Value → Shared → Prop} (hs : St C F l s) (hm : (L, NsH vars) ∈ l) (hv : (x, v) ∈ vars) (h : Q v s)
    (hk : scope.kind = .function := by rfl) (hl : (envX fname scope L fa cd cl).kindOf x = some .local := by rfl) (hd : (x == ("__debug__" : Str)) = false := by decide) :
    wpAny C.M A (eval (.Name x pos) (envX fname scope L fa cd cl)) Q E s := by
  obtain ⟨m, n, _, k⟩ := hs.ns hm
  exact wpAny_Name (wpAny_loadName_local hk hl n (k _ hv) h) hd
theorem ldX {x : Str} {pos : Pos} {c : Addr} {v : Value} {Q : Value → Shared → Prop} (hc : cl.lookup x = some c) (hs : St C F l s) (hm : (c, IsCl (some v)) ∈ l) (h : Q v s)
    (hk : scope.kind = .function := by rfl) (hl : (envX fname scope L fa cd cl).kindOf x = some .cell := by rfl) (hd : (x == ("__debug__" : Str)) = false := by decide) :
    wpAny C.M A (eval (.Name x pos) (envX fname scope L fa cd cl)) Q E s := wpAny_Name (wpAny_loadName_cell hk hl hc (hs.cell hm) h) hd
theorem stoX {x : Str} {v : Value} {vars vars' : List (Str × Value)} {l' : Ledger} {Q : Unit → Shared → Prop} (hs : St C F l s) (u : Upd L (NsH vars) (NsH vars') l l') (hv : VSet x v vars vars')
    (h : ∀ s', St C F l' s' → Q () s') (hk : scope.kind = .function := by rfl) (hl : (envX fname scope L fa cd cl).kindOf x = some .local := by rfl) :
    wpAny C.M A (storeName (envX fname scope L fa cd cl) x v) Q E s := by
  obtain ⟨m, n, nd, k⟩ := hs.ns u.mem
  refine wpAny_storeName_local hl n (fun h' hn hsb => h _ (hs.upd u hsb.extBut (nsH_of hn (hv.nodup nd) (hv.get k nd)))) ?_
  show (scope.kind == .class || (scope.kind == .module && L != mainGlobals)) = false
  rw [hk]; rfl
theorem stcX {x : Str} {c : Addr} {v : Value} {v0 : Option Value} {l' : Ledger} {Q : Unit → Shared → Prop} (hc : cl.lookup x = some c) (hs : St C F l s) (u : Upd c (IsCl v0) (IsCl (some v)) l l')
    (h : ∀ s', St C F l' s' → Q () s') (hk : scope.kind = .function := by rfl) (hl : (envX fname scope L fa cd cl).kindOf x = some .cell := by rfl) :
    wpAny C.M A (storeName (envX fname scope L fa cd cl) x v) Q E s :=
  wpAny_storeName_cell hk hl hc (hs.cell u.mem) fun h' ⟨o, e, d⟩ hsb => h _ (hs.upd u hsb.extBut ⟨o, e, d⟩)
theorem stcK {x : Str} {c : Addr} {v : Value} {v0 : Option Value} {l' : Ledger} {Q : Unit → Shared → Prop} (hc : cl.lookup x = some c) (hs : St C F l s) (u : Upd c (IsCl v0) (IsCl (some v)) l l')
    (h : ∀ s', St C F l' s' → Q () s') (hk : (compEnvC scope cl K env0).scope.kind = .function := by rfl) (hl : (compEnvC scope cl K env0).kindOf x = some .cell := by rfl) :
    wpAny C.M A (storeName (compEnvC scope cl K env0) x v) Q E s :=
  wpAny_storeName_cell hk hl hc (hs.cell u.mem) fun h' ⟨o, e, d⟩ hsb => h _ (hs.upd u hsb.extBut ⟨o, e, d⟩)

/-! comprehensions -/
noncomputable def OkP (P : Shared → Prop) (r : Result) (s' : Shared) : Prop := match r with | .ok _ => P s' | .error _ => False
noncomputable def LetGo (C : Cx) (K : Addr) (Q : Value → Shared → Prop) (v : Value) (s' : Shared) : Prop := ∃ F' l' vars, St C F' ((K, NsH vars) :: l') s' ∧ ∀ s'', St C F' l' s'' → Q v s''
theorem LetGo.in {Q : Value → Shared → Prop} {v : Value} {vars : List (Str × Value)} {l' : Ledger} (hs : St C F ((K, NsH vars) :: l') s) (h : ∀ s'', St C F l' s'' → Q v s'') : LetGo C K Q v s := ⟨F, l', vars, hs, h⟩

/-- how an iterator answers a second iter() -/
noncomputable def Self (C : Cx) (A : Around) (it : Value) (s : Shared) : Prop := ∀ (Q' E' : Value → Shared → Prop), Q' it s → wpAny C.M A (pyIter it) Q' E' s
/-- the comprehension's loop is to be shown -/
noncomputable def LoopIn (C : Cx) (A : Around) (PA : OP) (e : Expr) (scope : Scope) (cl : List (Str × Addr)) (env : Env) (Post : Addr → Addr → Shared → Prop) (it : Value) (s : Shared) : Prop :=
  ∃ F l, St C F l s ∧ ∀ acc K s3, St C F ((K, NsH []) :: (acc, PA) :: l) s3 → Self C A it s3 ∧ codeAny C.M A (.compLoop e 0 it (.ref acc) (compEnvC scope cl K env)) (OkP (Post acc K)) s3
theorem LoopIn.in {PA : OP} {e : Expr} {env : Env} {Post : Addr → Addr → Shared → Prop} {it : Value} (hs : St C F l s)
    (h : ∀ acc K s3, St C F ((K, NsH []) :: (acc, PA) :: l) s3 → Self C A it s3 ∧ codeAny C.M A (.compLoop e 0 it (.ref acc) (compEnvC scope cl K env)) (OkP (Post acc K)) s3) : LoopIn C A PA e scope cl env Post it s := ⟨F, l, hs, h⟩

/-- the setting of a comprehension: how its first loop starts -/
noncomputable def Starts (C : Cx) (A : Around) (e : Expr) : Prop := ∀ (it acc : Value) (env : Env) (R : Result → Shared → Prop) (s : Shared), codeAny C.M A (.compLoop e 0 it acc env) R s → Self C A it s → codeAny C.M A (.compStart e 0 it acc env) R s
noncomputable def Makes (C : Cx) (A : Around) (PA : OP) (m : Sem Value) : Prop := ∀ (F : Frz) (l : Ledger) (s : Shared) (Q E : Value → Shared → Prop), St C F l s → (∀ a s', St C F ((a, PA) :: l) s' → Q (.ref a) s') → wpAny C.M A m Q E s

theorem starts_list {elt target iter : Expr} {ifs : List Expr} {rest : List Comprehension} {pos : Pos} : Starts C A (.ListComp elt (⟨target, iter, ifs, 0⟩ :: rest) scope pos) :=
  fun _ _ _ _ _ h0 hself => codeAny_compStart_list h0 (hself _ _ h0)
theorem starts_set {elt target iter : Expr} {ifs : List Expr} {rest : List Comprehension} {pos : Pos} : Starts C A (.SetComp elt (⟨target, iter, ifs, 0⟩ :: rest) scope pos) := by
  intro it acc env R s h0 hself
  refine codeAny_of_tree ?_
  show wpAny _ _ ((compStart (.SetComp elt (⟨target, iter, ifs, 0⟩ :: rest) scope pos) 0 it acc env).onRaise (fun x => do noteFrame x env; standAt theWindowsPlace)) _ _ s
  refine wpAny_notedAt ?_
  unfold compStart
  show wpAny _ _ (ask >>= _) _ _ s
  refine wpAny_bind (wpAny_askSetting (wpAny_ite ?_))
  split
  · first
      | exact wpAny_bind (wpAny_pure (wpAny_pure (And.intro rfl h0)))
      | exact wpAny_pure (And.intro rfl h0)
  · first
      | exact wpAny_bind (wpAny_rule (wpAny_bind (wpAny_standAt (wpAny_bind (hself _ _ (wpAny_pure (And.intro rfl h0)))))))
      | (refine wpAny_bind (wpAny_rule ?_); show wpAny _ _ (standAt iter.pos >>= _) _ _ s; exact wpAny_bind (wpAny_standAt (wpAny_bind (hself _ _ (wpAny_pure (And.intro rfl h0))))))
theorem makes_list : Makes C A (IsL []) (newList []) := fun F l s Q E hs h =>
  wpAny_newObj_type (h _ _ (hs.new (P := IsL []) ⟨0, rfl⟩ rfl rfl)) (by size_fits)

theorem comp_gen {PA : OP} {e : Expr} {g : Comprehension} {gs : List Comprehension} {p2 : Pos} {newAcc first : Sem Value} {use : Option (Value → Sem Unit)} {env : Env} {Q : Value → Shared → Prop} {Post : Addr → Addr → Shared → Prop}
    (hst : Starts C A e) (hmk : Makes C A PA newAcc) (hcl : clausesOf e = g :: gs) (hclos : closureFor scope env = pure cl)
    (hs' : ∀ x, foldedSetIterable g.iter env x = pure x) (hkind : scope.kind = .function) (hnames : ∀ x ∈ scope.names, x.2 = .local → scope.names.lookup x.1 = some .local) (hcell : ∀ x ∈ scope.names, x.2 ≠ .cell)
    (hPost : ∀ acc K s', Post acc K s' → match use with
      | none => LetGo C K Q (.ref acc) s'
      | some u => wpAny C.M A (u (.ref acc)) (fun _ s'' => LetGo C K Q .none s'') E s')
    (h : wpAny C.M A first (fun x s₁ => wpAny C.M A (pyIter x) (LoopIn C A PA e scope cl env Post) E s₁) E s) :
    wpAny C.M A (comprehension e scope env p2 newAcc false first use) Q E s := by
  refine wpAny_comprehension_free (g := g) (gs := gs) hcl hs' hclos hkind hnames ?_
  refine wpAny_mono h (fun x s₁ h₁ => wpAny_mono h₁ (fun it s₂ h₂ => ?_) fun _ _ z => z) fun _ _ z => z
  obtain ⟨F, l, hs, k⟩ := h₂
  refine hmk F l s₂ _ _ hs fun acc s3 hs3 => ?_
  refine wpAny_newFunctionEnv hcell (fun x hx => nomatch hx) (fun h' hns hsb => ?_) hkind
  have hs4 : St C F ((s3.heap.objs.size, NsH []) :: (acc, PA) :: l) ⟨h', s3.gens, s3.drawn, s3.toks, s3.os⟩ :=
    hs3.push (Nat.le_refl _) (fun b o e => hsb.extBut b o (Nat.ne_of_lt (Heap.lt_size e)) (Heap.get?_push_of_some _ e)) (nsH_of hns (vars := []) List.nodup_nil (fun p hp => nomatch hp))
  obtain ⟨k1, k2⟩ := k acc s3.heap.objs.size _ hs4
  refine codeAny_mono (hst it (.ref acc) (compEnvC scope cl s3.heap.objs.size env) _ _ k2 k1) fun r s' hr => ?_
  cases r with
  | error e => exact hr.elim
  | ok f =>
    have q := hPost _ _ _ hr
    cases use with
    | none =>
      obtain ⟨F', l', vars, hs5, q⟩ := q
      obtain ⟨m, n, _, _⟩ := hs5.ns List.mem_cons_self
      exact ⟨m, n, fun h' hsb => q _ (hs5.drop .here hsb.extBut)⟩
    | some u =>
      refine wpAny_mono q (fun _ s'' q => ?_) fun _ _ z => z
      obtain ⟨F', l', vars, hs5, q⟩ := q
      obtain ⟨m, n, _, _⟩ := hs5.ns List.mem_cons_self
      exact ⟨m, n, fun h' hsb => q _ (hs5.drop .here hsb.extBut)⟩

/-- a list comprehension as a value -/
theorem e_comp {elt target iter : Expr} {ifs : List Expr} {rest : List Comprehension} {pos : Pos} {env : Env} {Q : Value → Shared → Prop}
    (hclos : closureFor scope env = pure cl) (hkind : scope.kind = .function) (hnames : ∀ x ∈ scope.names, x.2 = .local → scope.names.lookup x.1 = some .local) (hcell : ∀ x ∈ scope.names, x.2 ≠ .cell)
    (h : wpAny C.M A (eval iter env) (fun x s₁ => wpAny C.M A (pyIter x) (LoopIn C A (IsL []) (.ListComp elt (⟨target, iter, ifs, 0⟩ :: rest) scope pos) scope cl env (fun acc K => LetGo C K Q (.ref acc))) E s₁) E s)
    (hs' : ∀ x, foldedSetIterable iter env x = pure x := by intro _; rfl) :
    wpAny C.M A (eval (.ListComp elt (⟨target, iter, ifs, 0⟩ :: rest) scope pos) env) Q E s := by
  rw [eval_ListComp]
  exact comp_gen (g := ⟨target, iter, ifs, 0⟩) (gs := rest) starts_list makes_list rfl hclos hs' hkind hnames hcell (fun _ _ _ q => q) h
/-- a list comprehension that is stored before its names go -/
theorem x_comp {elt target iter : Expr} {ifs : List Expr} {rest : List Comprehension} {pos py spos : Pos} {y : Str} {env : Env} {Q : Flow → Shared → Prop}
    (hclos : closureFor scope env = pure cl) (hkind : scope.kind = .function) (hnames : ∀ x ∈ scope.names, x.2 = .local → scope.names.lookup x.1 = some .local) (hcell : ∀ x ∈ scope.names, x.2 ≠ .cell)
    (hsw : swapsWith (.ListComp elt (⟨target, iter, ifs, 0⟩ :: rest) scope pos) (some (.Name y py)) spos.line env = pure true)
    (h : wpAny C.M A (eval iter env) (fun x s₁ => wpAny C.M A (pyIter x) (LoopIn C A (IsL []) (.ListComp elt (⟨target, iter, ifs, 0⟩ :: rest) scope pos) scope cl env
      (fun acc K s' => wpAny C.M A (storeName env y (.ref acc)) (fun _ s'' => LetGo C K (fun _ => Q .next) .none s'') E s')) E s₁) E s)
    (hs' : ∀ x, foldedSetIterable iter env x = pure x := by intro _; rfl) :
    wpAny C.M A (exec (.Assign [.Name y py] (.ListComp elt (⟨target, iter, ifs, 0⟩ :: rest) scope pos) spos) env) Q E s := by
  rw [exec_Assign_Name_used _ _ _ _ hsw]
  refine wpAny_bind (wpAny_standAt (wpAny_bind ?_))
  show wpAny _ A (do let _ ← comprehension (.ListComp elt (⟨target, iter, ifs, 0⟩ :: rest) scope pos) scope env _ (newList []) false (eval iter env) (some (assign (.Name y py) env))) _ _ s
  refine wpAny_bind (wpAny_mono (comp_gen (g := ⟨target, iter, ifs, 0⟩) (gs := rest) (Q := fun _ s' => Q .next s') starts_list makes_list rfl hclos hs' hkind hnames hcell (fun _ _ _ q => wpAny_assign_Name q) h) (fun _ s' hq => wpAny_pure (wpAny_pure hq)) fun _ _ e => e)
end

end
section

noncomputable def IsE (tb cx : Value) : OP := fun o => o.cls = .type "IndexError" ∧ ∃ vs, o.data = .fields vs ∧ vs[1]? = some tb ∧ vs[2]? = some cx
noncomputable def IsTb (fl : Value) : OP := fun o => ∃ ts, o.data = .fields ts ∧ ts[3]? = some fl

section
variable {prog : Program} {w : World} {A : Around} {E : Value → Shared → Prop} {s : Shared}
/-- what is handled as a new exception comes -/
noncomputable def Hd (A : Around) (h : Heap) : Prop := A.handled = none ∨ ∃ a o vs, A.handled = some (.ref a) ∧ h.get? a = some o ∧ o.data = .fields vs ∧ vs[2]? = some .none

theorem raise_any {α : Type} {msg : String} {Q : α → Shared → Prop} (hA : Hd A s.heap)
    (hE : ∀ h' tk e o cx, (∀ b o, s.heap.get? b = some o → h'.get? b = some o) → s.heap.get? e = none → h'.get? e = some o → IsE .none cx o → (A.handled = none → cx = .none) → E (.ref e) { s with heap := h', toks := tk }) :
    wpAny (model prog w) A (raiseErrorWords "IndexError" msg : Sem α) Q E s := by
  unfold raiseErrorWords
  refine wpAny_bind (wpAny_mkText (wpAny_bind ?_))
  refine wpAny_newExc_plain plainExc_IndexError (fun h' e hm => ?_)
  have hx := hm.newExc
  obtain ⟨ob, t, h1, h2, h3⟩ := hx.there
  unfold raiseNew
  refine wpAny_bind (wpAny_handled ?_)
  rcases hA with hA | ⟨a, oa, vs, hA, ha, hd, h0⟩
  · rw [hA]
    first
      | refine wpAny_throw ?_
      | refine wpAny_bind (wpAny_pure (wpAny_throw ?_))
    exact hE _ _ _ ob .none (fun b o e => hx.keeps b o e) hx.new h1 ⟨h2, _, h3, rfl, rfl⟩ fun _ => rfl
  · rw [hA]
    have ha' : h'.get? a = some oa := hx.keeps _ _ ha
    have hae : a ≠ e := by rintro rfl; rw [hx.new] at ha; cases ha
    show wpAny _ _ (if (Value.ref a != Value.ref e) = true then do
        let _ ← holding [Value.ref e] (runValue (.builtin "proto.unchain" ⟨[.ref e, .ref a, .ref a, .bool false], []⟩))
        let _ ← updateField e 2 (.ref a)
        throw (.ref e)
      else throw (.ref e)) _ _ _
    rw [if_pos (by simpa using hae)]
    refine wpAny_bind (wpAny_holding (wpAny_runValue (codeAny_builtin (b := Builtin.«proto.unchain») (entryFor_of_tree (by kernel_rfl)) ?_)))
    show wpAny _ _ (do
      let context ← field (.ref a) 2
      if context == .none then return ← ret .none
      if context == .ref e then
        rule "raise.context-cycle-cut"
        setField (.ref a) 2 .none
        return ← ret .none
      if context == .ref a then rule "raise.context-old-cycle"; return ← ret .none
      let slow ← if false then field (.ref a) 2 else pure (.ref a)
      again (.builtin "proto.unchain" ⟨[.ref e, context, slow, .bool !false], []⟩)) _ _ _
    refine wpAny_bind (wpAny_field ha' hd h0 ?_)
    rw [if_pos (by rfl)]
    refine wpAny_bind (wpAny_pure (wpAny_pure ?_))
    refine wpAny_bind ?_
    show wpAny _ _ (setField (.ref e) 2 (.ref a)) _ _ _
    refine wpAny_setField h1 h3 (by simp) ?_
    refine wpAny_throw ?_
    refine hE _ _ _ (Obj.mapFields (·.setIfInBounds 2 (.ref a)) ob) (.ref a) (fun b o eb => ?_) hx.new (Heap.get?_update_self _ h1 (Obj.isFreed_of_fields (Obj.data_mapFields h3 _))) ?_ (fun q => by rw [hA] at q; cases q)
    · rw [Heap.get?_update_other _ _ (by rintro rfl; rw [hx.new] at eb; cases eb)]
      exact hx.keeps _ _ eb
    · exact ⟨(Obj.cls_mapFields _ _).trans h2, _, Obj.data_mapFields h3 _, by simp, by simp⟩

theorem getItem_out {l : Addr} {items : Array Value} {k : Int} {t : Tok} {Q : Value → Shared → Prop} (hA : Hd A s.heap) (hl : s.heap.IsList l items) (h0 : 0 ≤ k) (hout : (items.size : Int) ≤ k) (hhi : k < 2 ^ 63)
    (hE : ∀ h' tk e o cx, (∀ b o, s.heap.get? b = some o → h'.get? b = some o) → s.heap.get? e = none → h'.get? e = some o → IsE .none cx o → (A.handled = none → cx = .none) → E (.ref e) { s with heap := h', toks := tk }) :
    wpAny (model prog w) A (getItem (.ref l) (.int k t)) Q E s := by
  obtain ⟨o, ho, hc, ne, hd⟩ := id hl
  unfold getItem
  try with_reducible refine wpAny_holding ?_
  first | refine wpAny_bind (wpAny_pure ?_) | skip
  refine wpAny_bind (wpAny_sequenceKey hl.typeIs (by decide) ?_)
  refine wpAny_bind (wpAny_callSpecial?_slot (name := Str.ofString "__getitem__") hl.typeIs slot_list_getitem
    (wpAny_call_entry slot_list_getitem hl.typeIs entry_list_getitem ?_ (args_list_getitem _ _)))
  show wpAny _ _ (Builtin.List.listSubscript? (.int k t) >>= _) _ _ s
  refine wpAny_bind (wpAny_listSubscript_int (fitsIndex_both (by omega) hhi) ?_)
  clear hhi
  obtain ⟨j, rfl⟩ := Int.eq_ofNat_of_zero_le h0
  have hx : items[j]? = none := Array.getElem?_eq_none (by have : (items.size : Int) ≤ (j : Int) := hout; omega)
  show wpAny _ _ ((seqItemAt l j >>= fun r => pure (r.map (j, ·))) >>= _) _ _ s
  refine wpAny_bind (wpAny_bind (wpAny_seqItemAt ho hd (wpAny_pure ?_)))
  rw [hx]
  first
    | exact wpAny_bind (wpAny_rule (raise_any hA hE))
    | exact wpAny_bind (wpAny_rule (wpAny_bind (raise_any hA hE)))
    | exact wpAny_bind (wpAny_bind (wpAny_rule (raise_any hA hE)))
    | exact wpAny_rule (raise_any hA hE)
end

end
section

/-- the frames that run are on the ledger -/
noncomputable def FrOk (l : Ledger) (fr : List Env) : Prop := ∀ env ∈ fr, env.scope.kind ≠ .module ∧ ∃ L vars, env.frame = some L ∧ (L, NsH vars) ∈ l

section
variable {C : Cx} {F : Frz} {l : Ledger} {A : Around} {E : Value → Shared → Prop} {s : Shared} {env : Env}
theorem St.pushN {C : Cx} {F : Frz} {l : Ledger} {s : Shared} (h : St C F l s) {s' : Shared} {a : Addr} {P : OP} (ha : s.heap.get? a = none)
    (hk : ∀ b o, s.heap.get? b = some o → s'.heap.get? b = some o) (hP : ∃ o, s'.heap.get? a = some o ∧ P o)
    (ho : s'.os = s.os := by rfl) (hg : s'.gens = s.gens := by rfl) : St C F ((a, P) :: l) s' := by
  have h' := h.ext (s' := s') hk ho hg
  refine ⟨h'.base, h'.frz, ?_, ?_, ?_, h'.hos, h'.gen⟩
  · intro p hp
    rcases List.mem_cons.mp hp with rfl | hp
    · cases e : F a with
      | none => rfl
      | some o => have := h.frz a o e; rw [ha] at this; cases this
    · exact h.dis p hp
  · rw [List.map_cons, List.nodup_cons]
    refine ⟨fun hm => ?_, h.nod⟩
    obtain ⟨p, hp, e⟩ := List.mem_map.mp hm
    obtain ⟨o, eo, _⟩ := h.own p hp
    rw [e, ha] at eo
    cases eo
  · intro p hp
    rcases List.mem_cons.mp hp with rfl | hp
    · exact hP
    · exact h'.own p hp
theorem St.one (h : St C F l s) {a : Addr} {P P' : OP} (h1 : (a, P) ∈ l) (h2 : (a, P') ∈ l) : P = P' := by
  have := h.nod
  clear h
  induction l with
  | nil => cases h1
  | cons x l ih =>
    rw [List.map_cons, List.nodup_cons] at this
    rcases List.mem_cons.mp h1 with e1 | h1 <;> rcases List.mem_cons.mp h2 with e2 | h2
    · rw [← e1] at e2; cases e2; rfl
    · exact absurd (List.mem_map.mpr ⟨_, h2, by rw [← e1]⟩) this.1
    · exact absurd (List.mem_map.mpr ⟨_, h1, by rw [← e2]⟩) this.1
    · exact ih h1 h2 this.2
theorem FrOk.fun {fr : List Env} (hs : St C F l s) (hf : FrOk l fr) : ∀ (as : List Addr), (∀ env ∈ fr, ∀ a, env.frame = some a → a ∈ as) → s.heap.FunFrames (hideAll s.heap as) fr := by
  intro as hin
  induction fr with
  | nil => trivial
  | cons env r ih =>
    obtain ⟨hk, L, vars, hL, hm⟩ := hf env (.head _)
    obtain ⟨o, ho, _, es, ep, hd, _⟩ := hs.at hm
    exact ⟨hk, ⟨L, o, hL, hideAll_none _ (hin env (.head _) L hL), ho, fun vs q => by rw [hd] at q; cases q⟩, ih (fun e he => hf e (.tail _ he)) fun e he => hin e (.tail _ he)⟩
theorem FrOk.mem {fr : List Env} (hf : FrOk l fr) {b : Addr} (hb : b ∈ fr.filterMap (·.frame)) : ∃ vars, (b, NsH vars) ∈ l := by
  obtain ⟨env, he, e⟩ := List.mem_filterMap.mp hb
  obtain ⟨_, L, vars, hL, hm⟩ := hf env he
  rw [hL] at e; cases e; exact ⟨vars, hm⟩
theorem St.slots {fr : List Env} {h' : Heap} (hs : St C F l s) (hf : FrOk l fr) (hx : Heap.SlotsOnly (fr.filterMap (·.frame)) s.heap h') : St C F l { s with heap := h' } := by
  refine ⟨hs.base, fun b o e => ?_, hs.dis, hs.nod, fun p hp => ?_, hs.hos, hs.gen⟩
  · refine (hx.2.1 b fun hm => ?_).trans (hs.frz b o e)
    obtain ⟨vars, hv⟩ := hf.mem hm
    have := hs.dis _ hv
    rw [e] at this; cases this
  · obtain ⟨o, e, q⟩ := hs.own p hp
    by_cases hm : p.1 ∈ fr.filterMap (·.frame)
    · obtain ⟨vars, hv⟩ := hf.mem hm
      have he : p.2 = NsH vars := hs.one (a := p.1) hp hv
      obtain ⟨sl, e'⟩ := hx.2.2 p.1 o e
      refine ⟨_, e', ?_⟩
      rw [he] at q ⊢
      exact q
    · exact ⟨o, (hx.2.1 p.1 hm).trans e, q⟩

theorem raiseI {a : Addr} {items : List Value} {k : Int} {t : Tok} {value slice : Expr} {Q : Value → Shared → Prop} (hs : St C F l s) (hm : (a, IsL items) ∈ l) (h0 : 0 ≤ k) (hf : k < 2 ^ 63) (hx : (items.length : Int) ≤ k)
    (hh : A.handled = none ∨ ∃ b tb, A.handled = some (.ref b) ∧ (b, IsE tb .none) ∈ l)
    (h : ∀ e cx s', (A.handled = none → cx = .none) → St C F ((e, IsE .none cx) :: l) s' → E (.ref e) s')
    (hsub : subscripted slice false (.ref a) (.int k t) = operate [.ref a, .int k t] (getItem (.ref a) (.int k t)) := by with_unfolding_all rfl) : wpAny C.M A (subscriptTail value slice (.ref a) (.int k t)) Q E s := by
  refine tail_any (hs.isList hm).typeIs slot_list_getitem.lookup (getItem_out ?_ (hs.isList hm) h0 (by simpa using hx) hf fun h' tk e o cx hk hn ho hP hc => h e cx _ hc (hs.pushN hn hk ⟨o, ho, hP⟩)) hsub
  rcases hh with hh | ⟨b, tb, hh, hb⟩
  · exact .inl hh
  · obtain ⟨o, ho, _, vs, hd, _, h2⟩ := hs.at hb
    exact .inr ⟨b, o, vs, hh, ho, hd, h2⟩

/-- the first look at a new exception -/
theorem note1 {e L : Addr} {cx : Value} {outer : List Env} {l' : Addr → Ledger} {Q : Unit → Shared → Prop} (hs : St C F l s) (u : ∀ T, Upd e (IsE .none cx) (IsE (.ref T) cx) l (l' T)) (hA : A.frames = some (env :: outer)) (hf : FrOk l (env :: outer)) (hL : env.frame = some L)
    (h : ∀ T s', St C F ((T, IsTb (rawInt L)) :: l' T) s' → Q () s') : wpAny C.M A (noteFrame (.ref e) env) Q E s := by
  obtain ⟨oe, he, hc, vs, hd, h1, h2⟩ := hs.at (u 0).mem
  unfold noteFrame
  simp only [hL]
  refine wpAny_bind (wpAny_field he hd h1 ?_)
  rw [if_neg (by decide)]
  refine wpAny_bind (wpAny_frameOf_fun hA (hf.fun hs _ (fun env' he' a ha => List.mem_filterMap.mpr ⟨env', he', ha⟩)) hL fun h₁ hs₁ => ?_)
  have hs1 := hs.slots hf hs₁
  obtain ⟨oe, he, hc, vs, hd, h1, h2⟩ := hs1.at (u 0).mem
  refine wpAny_bind (wpAny_entryPlaceOf fun pl hpl => ?_)
  unfold EntryCells.newEntry newFields
  refine wpAny_bind (wpAny_newObj_type ?_ (hpl.sizeOk5 _ _ _ _ _))
  refine wpAny_setField (Heap.get?_push_of_some _ he) hd (Array.getElem?_eq_some_iff.mp h1).1 ?_
  refine h h₁.objs.size _ ?_
  have hs2 : St C F ((h₁.objs.size, IsTb (rawInt L)) :: l) { s with heap := h₁.push { cls := .type "traceback", dict := none, data := .fields ([Value.none, .ref L, .none, rawInt L, .none] ++ (if pl.isEmpty then List.replicate 6 Value.none else pl)).toArray } } :=
    hs1.new (P := IsTb (rawInt L)) ⟨_, rfl, by simp⟩ rfl rfl
  have hd' := Obj.data_mapFields hd (·.setIfInBounds 1 (Value.ref h₁.objs.size))
  refine hs2.upd (.there (u h₁.objs.size)) (Heap.SameBut.update ..).extBut ⟨_, Heap.get?_update_self _ (Heap.get?_push_of_some _ he) (Obj.isFreed_of_fields hd'), (Obj.cls_mapFields _ _).trans hc, _, hd', ?_, ?_⟩
  · have : 1 < vs.size := (Array.getElem?_eq_some_iff.mp h1).1
    simp [this]
  · rw [Array.getElem?_setIfInBounds_ne (by decide)]; exact h2

/-- it is looked at already -/
theorem note2 {e L T : Addr} {cx : Value} {Q : Unit → Shared → Prop} (hs : St C F l s) (he : (e, IsE (.ref T) cx) ∈ l) (hT : (T, IsTb (rawInt L)) ∈ l) (hL : env.frame = some L) (h : Q () s) : wpAny C.M A (noteFrame (.ref e) env) Q E s := by
  obtain ⟨oe, he, hc, vs, hd, h1, h2⟩ := hs.at he
  obtain ⟨oT, hT, ts, hdT, h3⟩ := hs.at hT
  exact wpAny_noteFrame_inFlight hL he hd h1 hT hdT h3 h
theorem St.fly {T : Addr} {x y : Value} {l' : Ledger} {Q : Unit → Shared → Prop} (hs : St C F l s) (u : Upd T (IsTb x) (IsTb y) l l') (h : ∀ s', St C F l' s' → Q () s') :
    wpAny C.M A (setField (.ref T) 3 y) Q E s := by
  obtain ⟨oT, hT, ts, hdT, h3⟩ := hs.at u.mem
  have hsz : 3 < ts.size := (Array.getElem?_eq_some_iff.mp h3).1
  refine wpAny_setField hT hdT hsz (h _ (hs.upd u (Heap.SameBut.update ..).extBut ⟨_, Heap.get?_update_self _ hT (Obj.isFreed_of_fields (Obj.data_mapFields hdT _)), _, Obj.data_mapFields hdT _, by simp [hsz]⟩))
noncomputable def flv (f : Option Addr) : Value := f.elim .none fun f => rawInt f
theorem flight {e T : Addr} {cx x : Value} {f : Option Addr} {l' : Ledger} {Q : Unit → Shared → Prop} (hs : St C F l s) (he : (e, IsE (.ref T) cx) ∈ l) (u : Upd T (IsTb x) (IsTb (flv f)) l l') (h : ∀ s', St C F l' s' → Q () s') :
    wpAny C.M A (setFlight (.ref e) f) Q E s := by
  obtain ⟨oe, heo, hc, vs, hd, h1, h2⟩ := hs.at he
  unfold setFlight
  refine wpAny_bind (wpAny_field heo hd h1 ?_)
  rw [if_pos (show (Value.ref T != Value.none) = true from by simp)]
  exact hs.fly u h
theorem cameB {e T L : Addr} {cx x : Value} {l' : Ledger} (hs : St C F l s) (he : (e, IsE (.ref T) cx) ∈ l) (hL : env.frame = some L) (u : Upd T (IsTb x) (IsTb (rawInt L)) l l') (h : ∀ s', St C F l' s' → E (.ref e) s') :
    cameBackBy C.M A env E (.ref e) s := by
  obtain ⟨oe, heo, hc, vs, hd, h1, h2⟩ := hs.at he
  show wpAny _ _ (field (.ref e) 1 >>= _) _ _ _
  refine wpAny_bind (wpAny_field heo hd h1 ?_)
  rw [if_neg (by simp)]
  rw [hL]
  exact flight (f := some L) hs he u h
theorem passB {α : Type} {what : String} {e T L : Addr} {cx x : Value} {l' : Ledger} {Q : α → Shared → Prop} (hs : St C F l s) (he : (e, IsE (.ref T) cx) ∈ l) (hL : env.frame = some L) (u : Upd T (IsTb x) (IsTb (rawInt L)) l l') (h : ∀ s', St C F l' s' → E (.ref e) s') :
    wpAny C.M A (PySem.passOn what (.ref e) env : Sem α) Q E s := by
  obtain ⟨oe, heo, hc, vs, hd, h1, h2⟩ := hs.at he
  unfold PySem.passOn
  refine wpAny_bind (wpAny_field heo hd h1 ?_)
  rw [if_neg (by simp)]
  rw [hL]
  exact wpAny_bind (flight (f := some L) hs he u fun s' hs' => wpAny_throw (h s' hs'))
end

end
section

section
variable {C : Cx} {F : Frz} {l : Ledger} {A : Around} {E : Value → Shared → Prop} {s : Shared} {env : Env}
theorem all_tt : ∀ (l : List Nat), (l.all fun _ => true) = true
  | [] => rfl
  | _ :: l => all_tt l
theorem RowAt.inj {v : Value} {r r' : Row} (h : RowAt F v r) (h' : RowAt F v r') : r = r' := by
  obtain ⟨a, o, t, u, n, rfl, hF, _, hd⟩ := h
  obtain ⟨a', o', t', u', n', e, hF', _, hd'⟩ := h'
  cases e
  rw [hF] at hF'; cases hF'
  rw [hd] at hd'
  injection hd' with h1 _
  have h2 := congrArg Array.toList h1
  simp only [List.cons.injEq, Value.int.injEq, Value.str.injEq, and_true] at h2
  exact Prod.ext h2.1.1 h2.2.1
theorem row_rc {v v' : Value} {r r' : Row} (hs : St C F l s) (hv : RowAt F v r) (hv' : RowAt F v' r') (hu : A.units < cLine) : SeqAt.RcAt A s v v' (decide (r = r')) := by
  obtain ⟨a, t, u, rfl, ha⟩ := hv.list hs
  obtain ⟨b, t', u', rfl, hb⟩ := hv'.list hs
  have := SeqAt.RcAt.lists (e := fun j => if j = 0 then r.1 == r'.1 else r.2 == r'.2) ha hb rfl hu (fun j h1 h2 => by
    have : j = 0 ∨ j = 1 := by simp at h1; omega
    rcases this with rfl | rfl
    · exact SeqAt.EqAt.int_int _ _ _ _
    · exact SeqAt.EqAt.str_str _ _ _ _)
  have e : ((List.range (#[Value.int r.1 t, Value.str r.2 u].size)).all fun j => if j = 0 then r.1 == r'.1 else r.2 == r'.2) = decide (r = r') := by
    show ((r.1 == r'.1) && ((r.2 == r'.2) && true)) = _
    rw [Bool.and_true, Bool.eq_iff_iff, Bool.and_eq_true, beq_iff_eq, beq_iff_eq, decide_eq_true_iff]
    exact ⟨fun h => Prod.ext h.1 h.2, fun h => by rw [h]; exact ⟨rfl, rfl⟩⟩
  rw [e] at this
  exact this
theorem row_eq {v v' : Value} {r r' : Row} (hs : St C F l s) (hv : RowAt F v r) (hv' : RowAt F v' r') (hu : A.units < cLine) : SeqAt.EqAt A s v v' (decide (r = r')) := by
  by_cases e : v = v'
  · subst e
    rw [decide_eq_true (hv.inj hv')]
    exact SeqAt.EqAt.same _
  · have h := row_rc hs hv hv' hu
    obtain ⟨a, t, u, rfl, ha⟩ := hv.list hs
    obtain ⟨b, t', u', rfl, hb⟩ := hv'.list hs
    exact SeqAt.EqAt.of_refs (fun q => e (by rw [q])) h
theorem row_eqc {v v' : Value} {r r' : Row} {Q : Value → Shared → Prop} (hs : St C F l s) (hv : RowAt F v r) (hv' : RowAt F v' r') (hu : A.units < cLine) (h : Q (.bool (decide (r = r'))) s) : wpAny C.M A (compareOp .Eq v v') Q E s :=
  row_rc hs hv hv' hu _ _ _ _ h
theorem lists_rc {a b : Addr} {vs ws : List Value} (ha : s.heap.IsList a vs.toArray) (hb : s.heap.IsList b ws.toArray) (hz : vs.length = ws.length) (hu : A.units < cLine)
    (he : ∀ j (h1 : j < vs.length) (h2 : j < ws.length), SeqAt.EqAt A.in1 s vs[j] ws[j] true) : SeqAt.RcAt A s (.ref a) (.ref b) true := by
  have := SeqAt.RcAt.lists (e := fun _ => true) ha hb (by simpa using hz) hu (fun j h1 h2 => by simpa using he j (by simpa using h1) (by simpa using h2))
  rw [all_tt] at this; exact this
theorem lists_eq {a b : Addr} {vs ws : List Value} (ha : s.heap.IsList a vs.toArray) (hb : s.heap.IsList b ws.toArray) (hz : vs.length = ws.length) (hu : A.units < cLine)
    (he : ∀ j (h1 : j < vs.length) (h2 : j < ws.length), SeqAt.EqAt A.in1 s vs[j] ws[j] true) : SeqAt.EqAt A s (.ref a) (.ref b) true := by
  by_cases e : a = b
  · subst e; exact SeqAt.EqAt.same _
  · exact SeqAt.EqAt.of_refs e (lists_rc ha hb hz hu he)
theorem lists_ne {a b : Addr} {vs ws : List Value} (ha : s.heap.IsList a vs.toArray) (hb : s.heap.IsList b ws.toArray) (hz : vs.length = ws.length) (hu : A.units < cLine)
    (he : ∀ j (h1 : j < vs.length) (h2 : j < ws.length), SeqAt.EqAt A.in1 s vs[j] ws[j] true) : SeqAt.RcNeAt A s (.ref a) (.ref b) false := by
  have := SeqAt.RcNeAt.lists (e := fun _ => true) ha hb (by simpa using hz) hu (fun j h1 h2 => by simpa using he j (by simpa using h1) (by simpa using h2))
  rw [all_tt] at this; exact this
theorem St.isTuple {t : Addr} {items : List Value} (hs : St C F l s) (hm : (t, IsT items) ∈ l) : s.heap.IsTuple t items.toArray :=
  let ⟨_, e, d⟩ := hs.at hm; ⟨_, e, by rw [d]; rfl, 0, by rw [d]; rfl⟩
theorem tuples_eq {a b : Addr} {vs ws : List Value} (ha : s.heap.IsTuple a vs.toArray) (hb : s.heap.IsTuple b ws.toArray) (hz : vs.length = ws.length) (hu : A.units < cLine)
    (he : ∀ j (h1 : j < vs.length) (h2 : j < ws.length), SeqAt.EqAt A.in1 s vs[j] ws[j] true) : SeqAt.EqAt A s (.ref a) (.ref b) true := by
  by_cases e : a = b
  · subst e; exact SeqAt.EqAt.same _
  · have := SeqAt.RcAt.tuples (e := fun _ => true) ha hb hu (fun j h1 h2 => by simpa using he j (by simpa using h1) (by simpa using h2))
    refine SeqAt.EqAt.of_refs e ?_
    rw [all_tt] at this
    simpa [hz] using this
theorem rows_eq {a b : Addr} {xs ys : List X} (hs : St C F l s) (ha : s.heap.IsList a (vals xs).toArray) (hb : s.heap.IsList b (vals ys).toArray) (hx : Rows F xs) (hy : Rows F ys) (he : xs.map (·.2) = ys.map (·.2)) (hu : A.units + 1 < cLine) : SeqAt.EqAt A s (.ref a) (.ref b) true := by
  have hl : xs.length = ys.length := by simpa using congrArg List.length he
  refine lists_eq ha hb (by simpa [vals] using hl) (Nat.lt_of_succ_lt hu) (fun j h1 h2 => ?_)
  have h1' : j < xs.length := by simpa [vals] using h1
  have h2' : j < ys.length := by simpa [vals] using h2
  have hj : xs[j].2 = ys[j].2 := by
    have := congrArg (fun l : List Row => l[j]?) he
    simpa [h1', h2'] using this
  have := row_eq (A := A.in1) hs (hx _ (List.getElem_mem h1')) (hy _ (List.getElem_mem h2')) hu
  rw [decide_eq_true hj] at this
  simpa [vals] using this
/-- a row in a list of rows -/
theorem row_in {v : Value} {r : Row} {b : Addr} {ys : List X} {Q : Value → Shared → Prop} (hs : St C F l s) (hb : s.heap.IsList b (vals ys).toArray) (hv : RowAt F v r) (hy : Rows F ys) (hu : A.units + 1 < cLine)
    (h : Q (.bool (!(ys.map (·.2)).contains r)) s) : wpAny C.M A (compareOp .NotIn v (.ref b)) Q E s := by
  classical
  have key : ∀ y ∈ (vals ys).toArray, ∃ x ∈ ys, x.1 = y := fun y hy' => by
    have : y ∈ vals ys := by simpa using hy'
    obtain ⟨x, hx, e⟩ := List.mem_map.mp this
    exact ⟨x, hx, e⟩
  let e : Value → Bool := fun y => decide (∃ x ∈ ys, x.1 = y ∧ x.2 = r)
  refine SeqAt.notIn_listAt e hb (fun y hy' => ?_) ?_
  · obtain ⟨x, hx, rfl⟩ := key y hy'
    have h1 := row_eq (A := A.in1) hs (hy x hx) hv hu
    have h2 : decide (x.2 = r) = e x.1 := by
      rw [Bool.eq_iff_iff, decide_eq_true_iff, decide_eq_true_iff]
      refine ⟨fun q => ⟨x, hx, rfl, q⟩, fun ⟨z, hz, e1, e2⟩ => ?_⟩
      rw [← e2]
      exact (hy x hx).inj (e1 ▸ hy z hz)
    rw [← h2]; exact h1
  · have h3 : (vals ys).toArray.any e = (ys.map (·.2)).contains r := by
      rw [Bool.eq_iff_iff, List.any_toArray, List.any_eq_true, List.contains_iff_mem, List.mem_map]
      constructor
      · rintro ⟨y, _, hy2⟩
        obtain ⟨x, hx, _, e2⟩ := decide_eq_true_iff.mp hy2
        exact ⟨x, hx, e2⟩
      · rintro ⟨x, hx, e2⟩
        exact ⟨x.1, List.mem_map_of_mem hx, decide_eq_true_iff.mpr ⟨x, hx, rfl, e2⟩⟩
    rw [h3]; exact h

/-! slices -/
noncomputable def SlOn (M : Model) (A : Around) (E : Value → Shared → Prop) (Q : Value → Shared → Prop) (o vl vu : Value) (s : Shared) : Prop :=
  ∃ T id, typeLookup (.type T) "__getitem__" = pure (some (.builtin id)) ∧ ({ s with heap := s.heap.push { cls := .type "slice", data := .fields #[vl, vu, .none] } } : Shared).TypeIs o T ∧
    wpAny M A (getItem o (.ref s.heap.objs.size)) Q E { s with heap := s.heap.push { cls := .type "slice", data := .fields #[vl, vu, .none] } }
theorem sub_slice {value : Expr} {lower upper : Option Expr} {p pos : Pos} {Q : Value → Shared → Prop}
    (h : wpAny C.M A (eval value env) (fun o s₁ => wpAny C.M A (evalPart lower env) (fun vl s₂ => wpAny C.M A (evalPart upper env) (fun vu s₃ => SlOn C.M A E Q o vl vu s₃) E s₂) E s₁) E s)
    (ht : ∀ o r, letTemporaryGo value o r = pure () := by intro _ _; rfl) :
    wpAny C.M A (eval (.Subscript value (.Slice lower upper none p) pos) env) Q E s := by
  refine Subscript_Slice (wpAny_mono h (fun o s₁ h₁ => wpAny_Slice (wpAny_mono h₁ (fun vl s₂ h₂ => wpAny_mono h₂ (fun vu s₃ h₃ => ?_) fun _ _ e => e) fun _ _ e => e)) fun _ _ e => e) ht
  rw [evalPart_none]
  exact wpAny_pure h₃
theorem SlOn.list {a : Addr} {items : List Value} {vl vu : Value} {lo hi : Option Int} {Q : Value → Shared → Prop} (hs : St C F l s) (hm : (a, IsL items) ∈ l) (hz : items.length < 1000) (pl : IsPart vl lo) (pu : IsPart vu hi)
    (h : ∀ d s', St C F ((d, IsL (slicePick items.toArray lo hi none).toList) :: l) s' → Q (.ref d) s') : SlOn C.M A E Q (.ref a) vl vu s := by
  have hl := hs.isList hm
  refine ⟨"list", _, list_getitem_lookup, (hl.push _).typeIs, wpAny_getItem_list_slice (hl.push _) (Heap.IsSliceOf.new ..) pl pu .none (by simp) ?_ (by rw [List.size_toArray, sizeLine_eq]; omega)⟩
  have hs1 : St C F l { s with heap := s.heap.push { cls := .type "slice", data := .fields #[vl, vu, .none] } } := hs.ext fun b o e => Heap.get?_push_of_some _ e
  exact h _ _ (hs1.new (P := IsL (slicePick items.toArray lo hi none).toList) ⟨0, by simp [lobj]⟩ rfl rfl)
theorem SlOn.listH {a : Addr} {items : List Value} {vl vu : Value} {lo hi : Option Int} {Q : Value → Shared → Prop} (hs : St C F l s) (hl : s.heap.IsList a items.toArray) (hz : items.length < 1000) (pl : IsPart vl lo) (pu : IsPart vu hi)
    (h : ∀ d s', St C F ((d, IsL (slicePick items.toArray lo hi none).toList) :: l) s' → Q (.ref d) s') : SlOn C.M A E Q (.ref a) vl vu s := by
  refine ⟨"list", _, list_getitem_lookup, (hl.push _).typeIs, wpAny_getItem_list_slice (hl.push _) (Heap.IsSliceOf.new ..) pl pu .none (by simp) ?_ (by rw [List.size_toArray, sizeLine_eq]; omega)⟩
  have hs1 : St C F l { s with heap := s.heap.push { cls := .type "slice", data := .fields #[vl, vu, .none] } } := hs.ext fun b o e => Heap.get?_push_of_some _ e
  exact h _ _ (hs1.new (P := IsL (slicePick items.toArray lo hi none).toList) ⟨0, by simp [lobj]⟩ rfl rfl)
theorem pt_none {Q : Value → Shared → Prop} (h : Q .none s) : wpAny C.M A (evalPart none env) Q E s := wpAny_pure h
theorem pt_some {e : Expr} {Q : Value → Shared → Prop} (h : wpAny C.M A (eval e env) Q E s) : wpAny C.M A (evalPart (some e) env) Q E s := h

/-! the clause that catches -/
theorem catchI {e T : Addr} {cx x : Value} {l' : Ledger} {np pos : Pos} {b₀ : Stmt} {suite : List Stmt} {rest : List ExceptHandler} {Q : Flow → Shared → Prop} (W : Wd C) (hIE : C.mg "IndexError" = none ∧ C.mb "IndexError" = some (.type "IndexError"))
    (hs : St C F l s) (he : (e, IsE (.ref T) cx) ∈ l) (u : Upd T (IsTb x) (IsTb .none) l l')
    (h : ∀ s', St C F l' s' → wpAny C.M (A.mark (some (.ref e))) (execs (b₀ :: suite) env) Q (fun _ _ => False) s') (hG : env.globals = mainGlobals := by rfl) (hB : env.builtins = builtinsNs := by rfl)
    (hk : env.scope.kind = .function := by rfl) (hl : env.kindOf "IndexError" = some .globalImplicit := by rfl) :
    wpAny C.M A (handleBy (.ref e) env (.ExceptHandler (some (.Name "IndexError" np)) none (b₀ :: suite) pos :: rest)) Q E s := by
  refine wpAny_handleBy_builtin (X := "IndexError") (T := "IndexError") (b := true) PySem.F.isExc_IndexError PySem.F.notTuple_IndexError PySem.F.self_IndexError ?_
  refine bi W hs hIE ?_ hG hB hk hl
  obtain ⟨oe, heo, hc, _⟩ := hs.at he
  refine ⟨rfl, ⟨oe, heo, hc⟩, ?_⟩
  exact flight (f := none) hs he u fun s' hs' => wpAny_mono (h s' hs') (fun _ _ q => q) fun _ _ q => q.elim
end

end
local macro_rules | `(tactic| walk_at "nmX") => `(tactic| ((with_reducible show wpAny _ _ (eval (Expr.Name _ _) (envX _ _ _ _ _ _)) _ _ _); first
  | (refine' nmX (by assumption) ?hm ?hv ?_; (case hm => walk_at "mem"); (case hv => walk_at "mem"))
  | (refine' ldX (by rfl) (by assumption) ?hm ?_; (case hm => walk_at "mem"))))
local macro_rules | `(tactic| walk_at "nmK") => `(tactic| ((with_reducible show wpAny _ _ (eval (Expr.Name _ _) (compEnvC _ _ _ _)) _ _ _); first
  | (refine' nmK (by assumption) ?hm ?hv ?_; (case hm => walk_at "mem"); (case hv => walk_at "mem"))
  | (refine' ldcK (by rfl) (by assumption) ?hm ?_; (case hm => walk_at "mem"))
  | (refine' ldfK (by rfl) (by assumption) ?hm ?_; (case hm => walk_at "mem"))))
local macro_rules | `(tactic| walk_at "stX") => `(tactic| ((with_reducible show wpAny _ _ (storeName (envX _ _ _ _ _ _) _ _) _ _ _); first
  | (refine' stoX (by assumption) ?hu ?hv ?_; (case hu => walk_at "upd"); (case hv => walk_at "vset"); intro _ _)
  | (refine' stcX (by rfl) (by assumption) ?hu ?_; (case hu => walk_at "upd"); intro _ _)))
local macro_rules | `(tactic| walk_at "stK") => `(tactic| ((with_reducible show wpAny _ _ (storeName (compEnvC _ _ _ _) _ _) _ _ _); first
  | (refine' stoK (by assumption) ?hu ?hv ?_; (case hu => walk_at "upd"); (case hv => walk_at "vset"); intro _ _)
  | (refine' stcK (by rfl) (by assumption) ?hu ?_; (case hu => walk_at "upd"); intro _ _)))
local macro_rules | `(tactic| walk_at "ex") => `(tactic| first
  | ((with_reducible show wpAny _ _ (exec (Stmt.Assign [Expr.Name _ _, Expr.Name _ _] _ _) _) _ _ _); refine wpAny_Assign_two ?_)
  | ((with_reducible show wpAny _ _ (eval (Expr.Subscript _ (Expr.Slice _ _ none _) _) _) _ _ _); refine sub_slice ?_)
  | ((with_reducible show wpAny _ _ (evalPart none _) _ _ _); refine pt_none ?_)
  | ((with_reducible show wpAny _ _ (evalPart (some _) _) _ _ _); refine pt_some ?_)
  | ((with_reducible show wpAny _ _ (isTrue (Expr.Constant _ _ _) _ _) _ _ _); refine wpAny_isTrue_value ?_)
  | ((with_reducible show wpAny _ _ (forIn [] true _) _ _ _); refine wpAny_tests_nil ?_)
  | ((with_reducible show wpAny _ _ (forIn [_] true _) _ _ _); refine wpAny_tests_one ?_)
  | walk_at "nmX"
  | walk_at "nmK"
  | walk_at "stX"
  | walk_at "stK")
section


/-- strictly in order -/
noncomputable def Srt (xs : List X) : Prop := xs.Pairwise fun a b => rlt a.2 b.2 = true
noncomputable def sldM (xs ys : List X) : List X := xs.filter fun x => !(ys.map (·.2)).contains x.2
theorem rlt_irrefl (a : Row) : ¬ rlt a a = true := by rw [rlt_def]; intro h; rcases h with h | ⟨_, h⟩; exact absurd h (by omega); exact absurd h (List.lt_irrefl _)
theorem rlt_trans {a b c : Row} (h1 : rlt a b = true) (h2 : rlt b c = true) : rlt a c = true := by
  rw [rlt_def] at *
  rcases h1 with h1 | ⟨e1, h1⟩ <;> rcases h2 with h2 | ⟨e2, h2⟩
  · exact .inl (by omega)
  · exact .inl (by omega)
  · exact .inl (by omega)
  · exact .inr ⟨by omega, List.lt_trans h1 h2⟩
structure Sv (xs ys : List X) (i j : Nat) (ms us : List X) : Prop where
  hi : i ≤ xs.length
  hj : j ≤ ys.length
  hm : ms = sldM (xs.take i) ys
  hu : us = sldM (ys.take j) xs
  c1 : ∀ x ∈ xs.take i, ∀ y ∈ ys.drop j, rlt x.2 y.2 = true
  c2 : ∀ y ∈ ys.take j, ∀ x ∈ xs.drop i, rlt y.2 x.2 = true
theorem Sv.zero {xs ys : List X} : Sv xs ys 0 0 [] [] := by
  refine ⟨Nat.zero_le _, Nat.zero_le _, rfl, rfl, ?_, ?_⟩ <;> (intro x hx; cases hx)
theorem Sv.swap {xs ys : List X} {i j : Nat} {ms us : List X} (h : Sv xs ys i j ms us) : Sv ys xs j i us ms := ⟨h.hj, h.hi, h.hu, h.hm, h.c2, h.c1⟩
theorem sldM_app {xs zs ys : List X} : sldM (xs ++ zs) ys = sldM xs ys ++ sldM zs ys := List.filter_append ..
theorem take_snoc {xs : List X} {i : Nat} {e : X} (he : xs[i]? = some e) : xs.take (i + 1) = xs.take i ++ [e] := by rw [List.take_add_one, he]; rfl
theorem drop_cons {xs : List X} {i : Nat} {e : X} (he : xs[i]? = some e) : xs.drop i = e :: xs.drop (i + 1) := by
  obtain ⟨h, rfl⟩ := List.getElem?_eq_some_iff.mp he
  exact List.drop_eq_getElem_cons h
theorem mem_take_drop {xs : List X} {i : Nat} {x : X} (h : x ∈ xs) : x ∈ xs.take i ∨ x ∈ xs.drop i := by
  rw [← List.take_append_drop i xs] at h
  exact List.mem_append.mp h
theorem Srt.le {xs : List X} (h : Srt xs) {i : Nat} {e : X} (he : xs[i]? = some e) : ∀ y ∈ xs.drop (i + 1), rlt e.2 y.2 = true := by
  have : (xs.drop i).Pairwise fun a b => rlt a.2 b.2 = true := List.Pairwise.sublist (List.drop_sublist _ _) h
  rw [drop_cons he, List.pairwise_cons] at this
  exact this.1
theorem sld_one {e : X} {ys : List X} (h : ∀ y ∈ ys, y.2 ≠ e.2) : sldM [e] ys = [e] := by
  unfold sldM
  rw [List.filter_eq_self]
  intro x hx
  rw [List.mem_singleton.mp hx, Bool.not_eq_true', ← Bool.not_eq_true, List.contains_iff_mem, List.mem_map]
  rintro ⟨y, hy, e⟩
  exact h y hy e
theorem Sv.left {xs ys : List X} {i j : Nat} {ms us : List X} {e a : X} (h : Sv xs ys i j ms us) (hy : Srt ys) (he : xs[i]? = some e) (ha : ys[j]? = some a) (hl : rlt e.2 a.2 = true) : Sv xs ys (i + 1) j (ms ++ [e]) us := by
  have hi : i < xs.length := (List.getElem?_eq_some_iff.mp he).1
  have hd := drop_cons he
  have hea : ∀ y ∈ ys.drop j, rlt e.2 y.2 = true := fun y hm => by
    rw [drop_cons ha] at hm
    rcases List.mem_cons.mp hm with rfl | hm
    · exact hl
    · exact rlt_trans hl (hy.le ha y hm)
  have hne : ∀ y ∈ ys, y.2 ≠ e.2 := fun y hm q => by
    rcases mem_take_drop (i := j) hm with hm | hm
    · have := h.c2 y hm e (by rw [hd]; exact .head _)
      rw [q] at this; exact rlt_irrefl _ this
    · have := hea y hm
      rw [q] at this; exact rlt_irrefl _ this
  refine ⟨hi, h.hj, ?_, h.hu, fun x hx y hm => ?_, fun y hm x hx => h.c2 y hm x (by rw [hd]; exact .tail _ hx)⟩
  · rw [take_snoc he, sldM_app, ← h.hm, sld_one hne]
  · rw [take_snoc he] at hx
    rcases List.mem_append.mp hx with hx | hx
    · exact h.c1 x hx y hm
    · rw [List.mem_singleton.mp hx]; exact hea y hm
theorem Sv.both {xs ys : List X} {i j : Nat} {ms us : List X} {e a : X} (h : Sv xs ys i j ms us) (hx : Srt xs) (hy : Srt ys) (he : xs[i]? = some e) (ha : ys[j]? = some a) (hl : e.2 = a.2) : Sv xs ys (i + 1) (j + 1) ms us := by
  have hi : i < xs.length := (List.getElem?_eq_some_iff.mp he).1
  have hj : j < ys.length := (List.getElem?_eq_some_iff.mp ha).1
  have hd := drop_cons he
  have hd2 := drop_cons ha
  have none1 : ∀ {e : X} {ys : List X}, (∃ y ∈ ys, y.2 = e.2) → sldM [e] ys = [] := fun {e ys} h => by
    unfold sldM
    rw [List.filter_eq_nil_iff]
    intro x hx
    rw [List.mem_singleton.mp hx]
    have : (ys.map (·.2)).contains e.2 = true := List.contains_iff_mem.mpr (List.mem_map.mpr h)
    simp only [this]; decide
  refine ⟨hi, hj, ?_, ?_, fun x hx' y hm => ?_, fun y hm x hx' => ?_⟩
  · rw [take_snoc he, sldM_app, ← h.hm, none1 ⟨a, List.mem_of_getElem? ha, hl.symm⟩, List.append_nil]
  · rw [take_snoc ha, sldM_app, ← h.hu, none1 ⟨e, List.mem_of_getElem? he, hl⟩, List.append_nil]
  · rw [take_snoc he] at hx'
    rcases List.mem_append.mp hx' with hx' | hx'
    · exact h.c1 x hx' y (by rw [hd2]; exact .tail _ hm)
    · rw [List.mem_singleton.mp hx', hl]; exact hy.le ha y hm
  · rw [take_snoc ha] at hm
    rcases List.mem_append.mp hm with hm | hm
    · exact h.c2 y hm x (by rw [hd]; exact .tail _ hx')
    · rw [List.mem_singleton.mp hm, ← hl]; exact hx.le he x hx'
theorem sld_all {zs ys : List X} (h : ∀ z ∈ zs, ∀ y ∈ ys, y.2 ≠ z.2) : sldM zs ys = zs := by
  unfold sldM
  rw [List.filter_eq_self]
  intro x hx
  rw [Bool.not_eq_true', ← Bool.not_eq_true, List.contains_iff_mem, List.mem_map]
  rintro ⟨y, hy, e⟩
  exact h x hx y hy e
theorem Sv.fin1 {xs ys : List X} {i j : Nat} {ms us : List X} (h : Sv xs ys i j ms us) (he : i = xs.length ∨ j = ys.length) : ms ++ xs.drop i = sldM xs ys := by
  have e : sldM xs ys = sldM (xs.take i) ys ++ sldM (xs.drop i) ys := by rw [← sldM_app, List.take_append_drop]
  rw [e, ← h.hm]
  congr 1
  rcases he with he | he
  · rw [he, List.drop_length]; rfl
  · refine (sld_all fun z hz y hy q => ?_).symm
    have := h.c2 y (by rw [he, List.take_length]; exact hy) z hz
    rw [q] at this; exact rlt_irrefl _ this

section
variable {C : Cx} {F : Frz} {l : Ledger} {A : Around} {E : Value → Shared → Prop} {s : Shared} {outer : List Env} {fname : Str} {scope : Scope} {L fa : Addr} {cd : Value}
theorem FrOk.mono {l l' : Ledger} {fr : List Env} (h : FrOk l fr) (hm : ∀ L vars, (L, NsH vars) ∈ l → ∃ vars', (L, NsH vars') ∈ l') : FrOk l' fr := fun env he =>
  let ⟨a, L, vars, b, c⟩ := h env he
  let ⟨v', d⟩ := hm L vars c
  ⟨a, L, v', b, d⟩
theorem FrOk.tl {p : Addr × OP} {l : Ledger} {fr : List Env} (h : FrOk l fr) : FrOk (p :: l) fr := h.mono fun _ v hm => ⟨v, .tail _ hm⟩

/-- the first turn of an inner loop: it ends, or it raises -/
theorem inner {nl ni ne : Str} {vars : List (Str × Value)} {a : Addr} {k : Nat} {t : Tok} {v : Value} {r : Row} {xs : List X} {p1 p2 p3 p4 p5 p6 : Pos} {body : List Stmt} {Q : Flow → Shared → Prop}
    (hs : St C F l s) (hm : (L, NsH vars) ∈ l) (h1 : (nl, .ref a) ∈ vars) (h2 : (ni, .int k t) ∈ vars) (h3 : (ne, v) ∈ vars) (ha : (a, IsL (vals xs)) ∈ l) (hX : Rows F xs) (hv : RowAt F v r) (hk : k ≤ xs.length) (hz : xs.length < 1000)
    (hne : ∀ x, xs[k]? = some x → x.2 ≠ r) (hu : A.units < cLine) (hh : A.handled = none ∨ ∃ b tb, A.handled = some (.ref b) ∧ (b, IsE tb .none) ∈ l)
    (hA : A.frames = some (envOf fname scope L fa cd :: outer)) (hf : FrOk l (envOf fname scope L fa cd :: outer))
    (hin : k < xs.length → ∀ s', St C F l s' → Q .next s')
    (hout : k = xs.length → ∀ T e cx s', (A.handled = none → cx = .none) → St C F ((T, IsTb (rawInt L)) :: (e, IsE (.ref T) cx) :: l) s' → E (.ref e) s')
    (hk0 : scope.kind = .function := by rfl) (hl1 : (envOf fname scope L fa cd).kindOf nl = some .local := by rfl) (hl2 : (envOf fname scope L fa cd).kindOf ni = some .local := by rfl) (hl3 : (envOf fname scope L fa cd).kindOf ne = some .local := by rfl)
    (hd1 : (nl == ("__debug__" : Str)) = false := by decide) (hd2 : (ni == ("__debug__" : Str)) = false := by decide) (hd3 : (ne == ("__debug__" : Str)) = false := by decide) :
    wpAny C.M A (exec (.While (.Compare (.Subscript (.Name nl p1) (.Name ni p2) p3) [.Eq] [.Name ne p4] p5) body [] p6) (envOf fname scope L fa cd)) Q E s := by
  refine wpAny_While ?_
  refine codeAny_whileLoop (fun _ s' => s' = s) ?_ 0 rfl
  rintro n _ rfl
  refine wpAny_isTrue_Compare1 ?_
  refine Subscript_ ?_
  refine nm hs hm h1 ?_ hk0 hl1 hd1
  refine nm hs hm h2 ?_ hk0 hl2 hd2
  by_cases hlt : k < xs.length
  · obtain ⟨x, hx⟩ : ∃ x, xs[k]? = some x := ⟨_, List.getElem?_eq_getElem hlt⟩
    refine item hs ha (by omega) (by omega) (v := x.1) (by simp [vals, hx]) ?_
    refine nm hs hm h3 ?_ hk0 hl3 hd3
    refine row_eqc hs (hX x (List.mem_of_getElem? hx)) hv hu ?_
    rw [decide_eq_false (hne x hx)]
    refine wpAny_truthy_bool ?_
    rw [if_neg (by decide)]
    exact wpAny_execs_nil (hin hlt _ hs)
  · have hk' : k = xs.length := by omega
    refine raiseI hs ha (by omega) (by omega) (by simp [vals, hk']) hh fun e cx s1 hc hs1 => ?_
    refine note1 (L := L) (outer := outer) hs1 (fun T => Upd.here) hA hf.tl rfl fun T s2 hs2 => ?_
    exact cameB (T := T) (L := L) (cx := cx) hs2 (.tail _ (.head _)) rfl .here fun s3 hs3 => hout hk' T e cx s3 hc hs3
end

end
section


section
variable {C : Cx} {F : Frz} {l : Ledger} {A : Around} {E : Value → Shared → Prop} {s : Shared} {outer : List Env}
noncomputable def sldT : Stmt := match ((fBody 8)[3]? : Option Stmt) with | some (Stmt.While _ (t :: _) _ _) => t | _ => .Pass default
noncomputable def sldHs : List ExceptHandler := match sldT with | Stmt.Try _ hs _ _ _ => hs | _ => []
noncomputable abbrev sE (L fa : Addr) (cd : Value) : Env := envOf (fName 8) (fScope 8) L fa cd
noncomputable def sV (a b m u : Addr) (i j : Nat) (ti tj : Tok) : List (Str × Value) := [("expected", .ref a), ("actual", .ref b), ("i", .int i ti), ("j", .int j tj), ("missing", .ref m), ("unexpected", .ref u)]

set_option maxRecDepth 10000
set_option maxHeartbeats 2000000 in
/-- the clause: both rests are taken, the loop ends -/
theorem sld_catch {L fa a b m u e T : Addr} {cd cx fl : Value} {i j : Nat} {ti tj : Tok} {xs ys ms us : List X} {Q : Flow → Shared → Prop} (W : Wd C) (hIE : C.mg "IndexError" = none ∧ C.mb "IndexError" = some (.type "IndexError"))
    (hs : St C F ((T, IsTb fl) :: (e, IsE (.ref T) cx) :: (L, NsH (sV a b m u i j ti tj)) :: (m, IsL (vals ms)) :: (u, IsL (vals us)) :: l) s) (ha : (a, IsL (vals xs)) ∈ l) (hb : (b, IsL (vals ys)) ∈ l) (hz1 : xs.length < 400) (hz2 : ys.length < 400) (hzm : ms.length < 400) (hzu : us.length < 400)
    (hI : Sv xs ys i j ms us) (he : i = xs.length ∨ j = ys.length)
    (hQ : ∀ s', St C F ((m, IsL (vals (sldM xs ys))) :: (u, IsL (vals (sldM ys xs))) :: (L, NsH (sV a b m u i j ti tj)) :: l) s' → Q .brk s') :
    wpAny C.M A (handleBy (.ref e) (sE L fa cd) sldHs) Q E s := by
  show wpAny _ _ (handleBy _ _ [.ExceptHandler (some (.Name "IndexError" _)) none (_ :: _) _]) _ _ _
  refine catchI (T := T) (cx := cx) W hIE hs (.tail _ (.head _)) .here fun s1 hs1 => ?_
  have hf1 : ms ++ xs.drop i = sldM xs ys := hI.fin1 he
  have hf2 : us ++ ys.drop j = sldM ys xs := hI.swap.fin1 he.symm
  unfold sV at hs1
  repeat walk_at "ex"
  refine' m_list (by assumption) ?hm PySem.F.slot_list_extend PySem.F.type_list_extend ?_
  case hm => walk_at "mem"
  refine callM1 ?_
  repeat walk_at "ex"
  refine' SlOn.list (items := vals xs) (by assumption) ?hm (by simp [vals]; omega) (.int i ti) .none ?_
  case hm => exact .tail _ (.tail _ (.tail _ (.tail _ (.tail _ ha))))
  intro d s2 hs2
  rw [slicePick_from'] at hs2
  rw [show ((vals xs).toArray.toList.drop i).toArray.toList = vals (xs.drop i) by simp [vals]] at hs2
  repeat walk_at "ex"
  refine' extendL (items := vals ms) (vs := vals (xs.drop i)) (by assumption) ?hu ?hb (by simp [vals]; omega) ?_
  case hu => walk_at "upd"
  case hb => walk_at "mem"
  intro s3 hs3
  rw [show vals ms ++ vals (xs.drop i) = vals (sldM xs ys) by rw [← hf1]; simp [vals]] at hs3
  repeat walk_at "ex"
  try dsimp only
  repeat walk_at "ex"
  refine' m_list (by assumption) ?hm PySem.F.slot_list_extend PySem.F.type_list_extend ?_
  case hm => walk_at "mem"
  refine callM1 ?_
  repeat walk_at "ex"
  refine' SlOn.list (items := vals ys) (by assumption) ?hm (by simp [vals]; omega) (.int j tj) .none ?_
  case hm => exact .tail _ (.tail _ (.tail _ (.tail _ (.tail _ (.tail _ hb)))))
  intro d2 s4 hs4
  rw [slicePick_from'] at hs4
  rw [show ((vals ys).toArray.toList.drop j).toArray.toList = vals (ys.drop j) by simp [vals]] at hs4
  repeat walk_at "ex"
  refine' extendL (items := vals us) (vs := vals (ys.drop j)) (by assumption) ?hu ?hb (by simp [vals]; omega) ?_
  case hu => walk_at "upd"
  case hb => walk_at "mem"
  intro s5 hs5
  rw [show vals us ++ vals (ys.drop j) = vals (sldM ys xs) by rw [← hf2]; simp [vals]] at hs5
  repeat walk_at "ex"
  try dsimp only
  repeat walk_at "ex"
  try dsimp only
  refine hQ _ (hs5.pick ?_)
  unfold sV
  walk_at "pick"
end

end
section


section
variable {C : Cx} {F : Frz} {l : Ledger} {A : Around} {E : Value → Shared → Prop} {s : Shared} {outer : List Env}
theorem sld_land {L fa a b m u e T : Addr} {cd cx fl : Value} {i j : Nat} {ti tj : Tok} {xs ys ms us : List X} {Q : Flow → Shared → Prop} (W : Wd C) (hIE : C.mg "IndexError" = none ∧ C.mb "IndexError" = some (.type "IndexError"))
    (hs : St C F ((T, IsTb fl) :: (e, IsE (.ref T) cx) :: (L, NsH (sV a b m u i j ti tj)) :: (m, IsL (vals ms)) :: (u, IsL (vals us)) :: l) s) (ha : (a, IsL (vals xs)) ∈ l) (hb : (b, IsL (vals ys)) ∈ l) (hz1 : xs.length < 100) (hz2 : ys.length < 100)
    (hI : Sv xs ys i j ms us) (he : i = xs.length ∨ j = ys.length)
    (hQ : ∀ s', St C F ((m, IsL (vals (sldM xs ys))) :: (u, IsL (vals (sldM ys xs))) :: (L, NsH (sV a b m u i j ti tj)) :: l) s' → Q .brk s') :
    wpAny C.M A (setFlight (.ref e) none) (fun _ s₃ => wpAny C.M A (handleBy (.ref e) (sE L fa cd) sldHs) Q E s₃) E s := by
  have h1 : ms.length ≤ 100 := by rw [hI.hm]; exact Nat.le_trans (List.length_filter_le _ _) (Nat.le_trans (List.length_take_le _ _) (by have := hI.hi; omega))
  have h2 : us.length ≤ 100 := by rw [hI.hu]; exact Nat.le_trans (List.length_filter_le _ _) (Nat.le_trans (List.length_take_le _ _) (by have := hI.hj; omega))
  exact flight (f := none) hs (.tail _ (.head _)) .here fun s3 hs3 => sld_catch W hIE hs3 ha hb (by omega) (by omega) (by omega) (by omega) hI he hQ
theorem sld_out {L fa a b m u e T : Addr} {cd cx : Value} {i j : Nat} {ti tj : Tok} {xs ys ms us : List X} {Q : Flow → Shared → Prop} (W : Wd C) (hIE : C.mg "IndexError" = none ∧ C.mb "IndexError" = some (.type "IndexError"))
    (hs : St C F ((T, IsTb (rawInt L)) :: (e, IsE (.ref T) cx) :: (L, NsH (sV a b m u i j ti tj)) :: (m, IsL (vals ms)) :: (u, IsL (vals us)) :: l) s) (ha : (a, IsL (vals xs)) ∈ l) (hb : (b, IsL (vals ys)) ∈ l) (hz1 : xs.length < 100) (hz2 : ys.length < 100)
    (hI : Sv xs ys i j ms us) (he : i = xs.length ∨ j = ys.length)
    (hQ : ∀ s', St C F ((m, IsL (vals (sldM xs ys))) :: (u, IsL (vals (sldM ys xs))) :: (L, NsH (sV a b m u i j ti tj)) :: l) s' → Q .brk s') :
    wpAny C.M A (noteFrame (.ref e) (sE L fa cd)) (fun _ s₂ => wpAny C.M A (setFlight (.ref e) none) (fun _ s₃ => wpAny C.M A (handleBy (.ref e) (sE L fa cd) sldHs) Q E s₃) E s₂) E s :=
  note2 (L := L) hs (.tail _ (.head _)) (.head _) rfl (sld_land W hIE hs ha hb hz1 hz2 hI he hQ)
theorem sld_new {L fa a b m u e : Addr} {cd cx : Value} {i j : Nat} {ti tj : Tok} {xs ys ms us : List X} {Q : Flow → Shared → Prop} (W : Wd C) (hIE : C.mg "IndexError" = none ∧ C.mb "IndexError" = some (.type "IndexError"))
    (hs : St C F ((e, IsE .none cx) :: (L, NsH (sV a b m u i j ti tj)) :: (m, IsL (vals ms)) :: (u, IsL (vals us)) :: l) s) (ha : (a, IsL (vals xs)) ∈ l) (hb : (b, IsL (vals ys)) ∈ l) (hz1 : xs.length < 100) (hz2 : ys.length < 100)
    (hA : A.frames = some (sE L fa cd :: outer)) (hf : FrOk l outer)
    (hI : Sv xs ys i j ms us) (he : i = xs.length ∨ j = ys.length)
    (hQ : ∀ s', St C F ((m, IsL (vals (sldM xs ys))) :: (u, IsL (vals (sldM ys xs))) :: (L, NsH (sV a b m u i j ti tj)) :: l) s' → Q .brk s') :
    wpAny C.M A (noteFrame (.ref e) (sE L fa cd)) (fun _ s₂ => wpAny C.M A (setFlight (.ref e) none) (fun _ s₃ => wpAny C.M A (handleBy (.ref e) (sE L fa cd) sldHs) Q E s₃) E s₂) E s := by
  refine note1 (L := L) (outer := outer) hs (fun T => Upd.here) hA ?_ rfl fun T s2 hs2 => sld_land W hIE hs2 ha hb hz1 hz2 hI he hQ
  intro env hm
  rcases List.mem_cons.mp hm with rfl | hm
  · exact ⟨by show (fScope 8).kind ≠ _; decide +kernel, L, _, rfl, .tail _ (.head _)⟩
  · exact hf.tl.tl.tl.tl env hm

end

end
section


section
variable {C : Cx} {F : Frz} {l : Ledger} {A : Around} {E : Value → Shared → Prop} {s : Shared} {outer : List Env}
set_option maxRecDepth 10000
set_option maxHeartbeats 1000000 in
theorem sld_turn {L fa a b m u : Addr} {cd : Value} {i j : Nat} {ti tj : Tok} {xs ys ms us : List X} {Q : Flow → Shared → Prop} (W : Wd C) (hIE : C.mg "IndexError" = none ∧ C.mb "IndexError" = some (.type "IndexError")) (hr : Rm A 1)
    (hA : A.frames = some (sE L fa cd :: outer)) (hf : FrOk l outer) (ha : (a, IsL (vals xs)) ∈ l) (hb : (b, IsL (vals ys)) ∈ l) (hX : Rows F xs) (hY : Rows F ys) (hx : Srt xs) (hy : Srt ys) (hz1 : xs.length < 100) (hz2 : ys.length < 100)
    (hs : St C F ((L, NsH (sV a b m u i j ti tj)) :: (m, IsL (vals ms)) :: (u, IsL (vals us)) :: l) s) (hI : Sv xs ys i j ms us)
    (hbrk : ∀ (i j : Nat) ti tj s', St C F ((m, IsL (vals (sldM xs ys))) :: (u, IsL (vals (sldM ys xs))) :: (L, NsH (sV a b m u i j ti tj)) :: l) s' → Q .brk s')
    (hnext : ∀ (i' j' : Nat) ti tj ms us s', (xs.length - i') + (ys.length - j') < (xs.length - i) + (ys.length - j) → Sv xs ys i' j' ms us → St C F ((L, NsH (sV a b m u i' j' ti tj)) :: (m, IsL (vals ms)) :: (u, IsL (vals us)) :: l) s' → Q .next s') :
    wpAny C.M A (exec sldT (sE L fa cd)) Q E s := by
  have hmz : ms.length ≤ 100 := by rw [hI.hm]; exact Nat.le_trans (List.length_filter_le _ _) (Nat.le_trans (List.length_take_le _ _) (by have := hI.hi; omega))
  have huz : us.length ≤ 100 := by rw [hI.hu]; exact Nat.le_trans (List.length_filter_le _ _) (Nat.le_trans (List.length_take_le _ _) (by have := hI.hj; omega))
  show wpAny _ _ (exec (.Try (_ :: _) (_ :: _) [] [] _) _) _ _ _
  refine wpAny_Try_except ?_

  unfold sV at hs
  repeat walk_at "ex"
  by_cases hi : i < xs.length
  case neg =>
    have hi' : i = xs.length := Nat.le_antisymm hI.hi (Nat.le_of_not_lt hi)
    refine raiseI (k := (i : Int)) (t := ti) hs (.tail _ (.tail _ (.tail _ ha))) (by omega) (by omega) (by simp [vals, hi']) (.inl hr.handled) fun e cx s1 _ hs1 => ?_
    exact sld_new W hIE hs1 ha hb hz1 hz2 hA hf hI (.inl hi') (fun s' h => hbrk _ _ _ _ s' h)
  case pos =>
  obtain ⟨e, he⟩ : ∃ e, xs[i]? = some e := ⟨_, List.getElem?_eq_getElem hi⟩
  have hXe := hX e (List.mem_of_getElem? he)
  refine item (k := (i : Int)) (t := ti) hs (.tail _ (.tail _ (.tail _ ha))) (by omega) (by omega) (v := e.1) (by simp [vals, he]) ?_

  repeat walk_at "ex"
  rename St C F _ _ => hs1
  by_cases hj : j < ys.length
  case neg =>
    have hj' : j = ys.length := Nat.le_antisymm hI.hj (Nat.le_of_not_lt hj)
    have hs1' := Upd.mono .here hs1 fun o => NsH.pre (vars' := [_, _, _, _, _, _]) (extra := [_])
    refine raiseI (k := (j : Int)) (t := tj) hs1' (.tail _ (.tail _ (.tail _ hb))) (by omega) (by omega) (by simp [vals, hj']) (.inl hr.handled) fun e cx s1 _ hs1 => ?_
    exact sld_new W hIE hs1 ha hb hz1 hz2 hA hf hI (.inr hj') (fun s' h => hbrk _ _ _ _ s' h)
  case pos =>
  obtain ⟨y, hy'⟩ : ∃ y, ys[j]? = some y := ⟨_, List.getElem?_eq_getElem hj⟩
  have hYy := hY y (List.mem_of_getElem? hy')
  refine item (k := (j : Int)) (t := tj) hs1 (.tail _ (.tail _ (.tail _ hb))) (by omega) (by omega) (v := y.1) (by simp [vals, hy']) ?_
  repeat walk_at "ex"
  rename St C F _ _ => hs2
  refine row_lt hs2 hXe hYy hr.u ?_
  repeat walk_at "ex"
  have hFr : ∀ vars ms' us', FrOk ((L, NsH vars) :: (m, IsL (vals ms')) :: (u, IsL (vals us')) :: l) (sE L fa cd :: outer) := fun vars ms' us' env hm => by
    rcases List.mem_cons.mp hm with rfl | hm
    · exact ⟨by show (fScope 8).kind ≠ _; decide +kernel, L, _, rfl, .head _⟩
    · exact hf.tl.tl.tl env hm
  cases hlt : rlt e.2 y.2 with
  | true =>
    repeat walk_at "ex"
    refine' m_list (by assumption) ?hm PySem.F.slot_list_append PySem.F.type_list_append ?_
    case hm => walk_at "mem"
    refine callM1 ?_
    repeat walk_at "ex"
    refine' appendL (items := vals ms) (by assumption) ?hu (by simp [vals]; omega) ?_
    case hu => walk_at "upd"
    intro s3 hs3
    rw [vals_app] at hs3
    repeat walk_at "ex"
    refine' ldn' hs3 ?h1 (v := .int i ti) ?h2 ?_
    case h1 => walk_at "mem"
    case h2 => walk_at "mem"
    repeat walk_at "ex"
    refine o_iadd (by assumption) ?_
    intro t4 s4 hs4
    rw [show (i : Int) + 1 = ((i + 1 : Nat) : Int) by omega]
    repeat walk_at "ex"
    rename St C F _ _ => hs5
    have hI5 := hI.left hy he hy' hlt
    refine' inner (nl := "expected") (ni := "i") (ne := "e") (k := i + 1) (L := L) (a := a) (v := e.1) (r := e.2) (xs := xs) (outer := outer) hs5 (.head _) ?h1 ?h2 ?h3 (.tail _ (.tail _ (.tail _ ha))) hX hXe hi (by omega) ?hne hr.u (.inl hr.handled) hA (hFr _ _ _) ?hin ?hout
    case h1 => walk_at "mem"
    case h2 => walk_at "mem"
    case h3 => walk_at "mem"
    case hne =>
      intro x hx' q
      have := hx.le he x (by rw [drop_cons hx']; exact .head _)
      rw [q] at this
      exact rlt_irrefl _ this
    case hin =>
      intro _ s6 hs6
      try dsimp only
      repeat walk_at "ex"
      have hs6' := Upd.mono .here hs6 fun o => NsH.pre (vars' := [_, _, _, _, _, _]) (extra := [_, _])
      exact hnext _ _ _ _ _ _ _ (by omega) hI5 hs6'
    case hout =>
      intro hk T ee cx s6 _ hs6
      have hs6' := Upd.mono (.there (.there .here)) hs6 fun o => NsH.pre (vars' := [_, _, _, _, _, _]) (extra := [_, _])
      exact sld_out W hIE hs6' ha hb hz1 hz2 hI5 (.inl hk) (fun s' h => hbrk _ _ _ _ s' h)
  | false =>
    repeat walk_at "ex"
    refine row_gt hs2 hXe hYy hr.u ?_
    repeat walk_at "ex"
    cases hgt : rlt y.2 e.2 with
    | true =>
      repeat walk_at "ex"
      refine' m_list (by assumption) ?hm PySem.F.slot_list_append PySem.F.type_list_append ?_
      case hm => walk_at "mem"
      refine callM1 ?_
      repeat walk_at "ex"
      refine' appendL (items := vals us) (by assumption) ?hu (by simp [vals]; omega) ?_
      case hu => walk_at "upd"
      intro s3 hs3
      rw [vals_app] at hs3
      repeat walk_at "ex"
      refine' ldn' hs3 ?h1 (v := .int j tj) ?h2 ?_
      case h1 => walk_at "mem"
      case h2 => walk_at "mem"
      repeat walk_at "ex"
      refine o_iadd (by assumption) ?_
      intro t4 s4 hs4
      rw [show (j : Int) + 1 = ((j + 1 : Nat) : Int) by omega]
      repeat walk_at "ex"
      rename St C F _ _ => hs5
      have hI5 := (hI.swap.left hx hy' he hgt).swap
      refine' inner (nl := "actual") (ni := "j") (ne := "a") (k := j + 1) (L := L) (a := b) (v := y.1) (r := y.2) (xs := ys) (outer := outer) hs5 (.head _) ?h1 ?h2 ?h3 (.tail _ (.tail _ (.tail _ hb))) hY hYy hj (by omega) ?hne hr.u (.inl hr.handled) hA (hFr _ _ _) ?hin ?hout
      case h1 => walk_at "mem"
      case h2 => walk_at "mem"
      case h3 => walk_at "mem"
      case hne =>
        intro x hx' q
        have := hy.le hy' x (by rw [drop_cons hx']; exact .head _)
        rw [q] at this
        exact rlt_irrefl _ this
      case hin =>
        intro _ s6 hs6
        try dsimp only
        repeat walk_at "ex"
        have hs6' := Upd.mono .here hs6 fun o => NsH.pre (vars' := [_, _, _, _, _, _]) (extra := [_, _])
        exact hnext _ _ _ _ _ _ _ (by omega) hI5 hs6'
      case hout =>
        intro hk T ee cx s6 _ hs6
        have hs6' := Upd.mono (.there (.there .here)) hs6 fun o => NsH.pre (vars' := [_, _, _, _, _, _]) (extra := [_, _])
        exact sld_out W hIE hs6' ha hb hz1 hz2 hI5 (.inr hk) (fun s' h => hbrk _ _ _ _ s' h)
    | false =>
      have hey : e.2 = y.2 := rle_antisymm hgt hlt
      have hI5 := hI.both hx hy he hy' hey
      have hnx : ∀ x, xs[i + 1]? = some x → x.2 ≠ e.2 := fun x hx' q => by
        have := hx.le he x (by rw [drop_cons hx']; exact .head _)
        rw [q] at this
        exact rlt_irrefl _ this
      have hny : ∀ x, ys[j + 1]? = some x → x.2 ≠ y.2 := fun x hx' q => by
        have := hy.le hy' x (by rw [drop_cons hx']; exact .head _)
        rw [q] at this
        exact rlt_irrefl _ this
      repeat walk_at "ex"
      refine' ldn' (by assumption) ?h1 (v := .int i ti) ?h2 ?_
      case h1 => walk_at "mem"
      case h2 => walk_at "mem"
      repeat walk_at "ex"
      refine o_iadd (by assumption) ?_
      intro t4 s4 hs4
      rw [show (i : Int) + 1 = ((i + 1 : Nat) : Int) by omega]
      repeat walk_at "ex"
      rename St C F _ _ => hs5
      refine wpAny_Try_finally ?_
      repeat walk_at "ex"
      refine' inner (nl := "expected") (ni := "i") (ne := "e") (k := i + 1) (L := L) (a := a) (v := e.1) (r := e.2) (xs := xs) (outer := outer) hs5 (.head _) ?h1 ?h2 ?h3 (.tail _ (.tail _ (.tail _ ha))) hX hXe hi (by omega) hnx hr.u (.inl hr.handled) hA (hFr _ _ _) ?hin ?hout
      case h1 => walk_at "mem"
      case h2 => walk_at "mem"
      case h3 => walk_at "mem"
      case hin =>
        intro _ s6 hs6
        try dsimp only
        repeat walk_at "ex"
        try dsimp only
        repeat walk_at "ex"
        refine' ldn' (by assumption) ?h1 (v := .int j tj) ?h2 ?_
        case h1 => walk_at "mem"
        case h2 => walk_at "mem"
        repeat walk_at "ex"
        refine o_iadd (by assumption) ?_
        intro t7 s7 hs7
        rw [show (j : Int) + 1 = ((j + 1 : Nat) : Int) by omega]
        repeat walk_at "ex"
        rename St C F _ _ => hs8
        refine' inner (nl := "actual") (ni := "j") (ne := "a") (k := j + 1) (L := L) (a := b) (v := y.1) (r := y.2) (xs := ys) (outer := outer) hs8 (.head _) ?h1 ?h2 ?h3 (.tail _ (.tail _ (.tail _ hb))) hY hYy hj (by omega) hny hr.u (.inl hr.handled) hA (hFr _ _ _) ?hin2 ?hout2
        case h1 => walk_at "mem"
        case h2 => walk_at "mem"
        case h3 => walk_at "mem"
        case hin2 =>
          intro _ s9 hs9
          try dsimp only
          repeat walk_at "ex"
          try dsimp only
          repeat walk_at "ex"
          have hs9' := Upd.mono .here hs9 fun o => NsH.pre (vars' := [_, _, _, _, _, _]) (extra := [_, _])
          exact hnext _ _ _ _ _ _ _ (by omega) hI5 hs9'
        case hout2 =>
          intro hk T ee cx s9 _ hs9
          have hs9' := Upd.mono (.there (.there .here)) hs9 fun o => NsH.pre (vars' := [_, _, _, _, _, _]) (extra := [_, _])
          refine note2 (L := L) hs9' (.tail _ (.head _)) (.head _) rfl ?_
          refine cameB (T := T) (L := L) (cx := cx) hs9' (.tail _ (.head _)) rfl .here fun s10 hs10 => ?_
          exact sld_out W hIE hs10 ha hb hz1 hz2 hI5 (.inr hk) (fun s' h => hbrk _ _ _ _ s' h)
      case hout =>
        intro hk T ee cx s6 hcx hs6
        obtain rfl := hcx hr.handled
        refine note2 (L := L) hs6 (.tail _ (.head _)) (.head _) rfl ?_
        refine ⟨ref_ne_byPass _, ?_⟩
        refine note2 (L := L) hs6 (.tail _ (.head _)) (.head _) rfl ?_
        refine flight (f := none) hs6 (.tail _ (.head _)) .here fun s7 hs7 => ?_
        repeat walk_at "ex"
        refine' ldn' (by assumption) ?h1 (v := .int j tj) ?h2 ?_
        case h1 => walk_at "mem"
        case h2 => walk_at "mem"
        repeat walk_at "ex"
        refine o_iadd (by assumption) ?_
        intro t8 s8 hs8
        rw [show (j : Int) + 1 = ((j + 1 : Nat) : Int) by omega]
        repeat walk_at "ex"
        rename St C F _ _ => hs9
        refine' inner (A := A.mark (some (.ref ee))) (nl := "actual") (ni := "j") (ne := "a") (k := j + 1) (L := L) (a := b) (v := y.1) (r := y.2) (xs := ys) (outer := outer) hs9 (.tail _ (.tail _ (.head _))) ?h1 ?h2 ?h3 (.tail _ (.tail _ (.tail _ (.tail _ (.tail _ hb))))) hY hYy hj (by omega) hny hr.u (.inr ⟨ee, .ref T, rfl, .tail _ (.head _)⟩) hA (hFr _ _ _).tl.tl ?hin ?hout
        case h1 => walk_at "mem"
        case h2 => walk_at "mem"
        case h3 => walk_at "mem"
        case hin =>
          intro _ s10 hs10
          try dsimp only
          repeat walk_at "ex"
          try dsimp only
          refine passB (T := T) (L := L) (cx := .none) hs10 (.tail _ (.head _)) rfl .here fun s11 hs11 => ?_
          have hs11' := Upd.mono (.there (.there .here)) hs11 fun o => NsH.pre (vars' := [_, _, _, _, _, _]) (extra := [_, _])
          exact sld_out W hIE hs11' ha hb hz1 hz2 hI5 (.inl hk) (fun s' h => hbrk _ _ _ _ s' h)
        case hout =>
          intro hk2 T2 e2 cx2 s10 _ hs10
          have hs10' := Upd.mono (.there (.there (.there (.there .here)))) hs10 fun o => NsH.pre (vars' := [_, _, _, _, _, _]) (extra := [_, _])
          refine note2 (L := L) hs10' (.tail _ (.head _)) (.head _) rfl ?_
          refine cameB (T := T2) (L := L) (cx := cx2) hs10' (.tail _ (.head _)) rfl .here fun s11 hs11 => ?_
          have hs12 := hs11.pick (l' := (T2, IsTb (rawInt L)) :: (e2, IsE (.ref T2) cx2) :: (L, _) :: (m, _) :: (u, _) :: l) (by walk_at "pick")
          exact sld_out W hIE hs12 ha hb hz1 hz2 hI5 (.inl hk) (fun s' h => hbrk _ _ _ _ s' h)
end

end
section

section
variable {C : Cx} {F : Frz} {l : Ledger} {A : Around} {E : Value → Shared → Prop} {s : Shared} {outer : List Env}
set_option maxRecDepth 10000
set_option maxHeartbeats 1000000 in
theorem sld_spec {a b : Addr} {cd' : Value} {xs ys : List X} {R : Result → Shared → Prop} (W : Wd C) (hIE : C.mg "IndexError" = none ∧ C.mb "IndexError" = some (.type "IndexError")) (fn : FnAt C 8 cd') (hs : St C F l s) (hr : Rm A 2)
    (hA : A.frames = some outer) (hf : FrOk l outer) (ha : (a, IsL (vals xs)) ∈ l) (hb : (b, IsL (vals ys)) ∈ l) (hX : Rows F xs) (hY : Rows F ys) (hx : Srt xs) (hy : Srt ys) (hz1 : xs.length < 100) (hz2 : ys.length < 100)
    (h : ∀ t m u s', St C F ((t, IsT [.ref m, .ref u]) :: (m, IsL (vals (sldM xs ys))) :: (u, IsL (vals (sldM ys xs))) :: l) s' → R (.ok (.ret (.ref t))) s') :
    codeAny C.M A (.call (.ref (C.fn 8)) ⟨[.ref a, .ref b], []⟩) R s := by
  refine call_fn (vars := [("expected", .ref a), ("actual", .ref b)]) W fn hs hr.d (fun _ _ => rfl) (by intro x hx; simp only [List.mem_cons, List.not_mem_nil, or_false] at hx; rcases hx with rfl | rfl <;> rfl) (by simp only [List.map]; decide +kernel) (fun L s' hs => ?_)
  have hA' : (A.deeper (sE L (C.fn 8) cd')).frames = some (sE L (C.fn 8) cd' :: outer) := Around.frames_deeper hA
  have hru := hr.deeper (env := sE L (C.fn 8) cd')
  show wpAny _ _ (execs (_ :: _) _) _ _ _
  refine wpAny_execs_cons ?_
  refine wpAny_Assign_two ?_
  refine k_int hs ?_
  intro t s0 hs0
  repeat walk_at "ex"
  refine MkL.in (by assumption) (by decide) ?_
  intro m s1 hs1
  repeat walk_at "ex"
  refine MkL.in (by assumption) (by decide) ?_
  intro u s2 hs2
  repeat walk_at "ex"
  rename St C F _ _ => hh
  refine wpAny_While ?_
  have hh0 : St C F ((L, NsH (sV a b m u 0 0 t t)) :: (m, IsL (vals [])) :: (u, IsL (vals [])) :: l) _ := hh.pick (by
    show Pick ((L, NsH [("expected", .ref a), ("actual", .ref b), ("i", .int 0 t), ("j", .int 0 t), ("missing", .ref m), ("unexpected", .ref u)]) :: (m, IsL []) :: (u, IsL []) :: l) _
    walk_at "pick")
  refine codeAny_whileLoop (fun n s' => ∃ (i j : Nat) (ti tj : Tok) (ms us : List X), n = (xs.length - i) + (ys.length - j) ∧ Sv xs ys i j ms us ∧ St C F ((L, NsH (sV a b m u i j ti tj)) :: (m, IsL (vals ms)) :: (u, IsL (vals us)) :: l) s') ?_ ((xs.length - 0) + (ys.length - 0)) ⟨0, 0, t, t, [], [], rfl, Sv.zero, hh0⟩
  rintro n s3 ⟨i, j, ti, tj, ms, us, hn, hI, hs3⟩
  refine wpAny_isTrue_value ?_
  repeat walk_at "ex"
  refine sld_turn W hIE hru hA' hf ha hb hX hY hx hy hz1 hz2 hs3 hI ?_ ?_
  · intro i j ti tj s4 hs4
    try dsimp only
    unfold sV at hs4
    repeat walk_at "ex"
    refine MkT.in (by assumption) (by simp) ?_
    intro t s5 hs5
    try dsimp only
    refine h t m u _ (hs5.pick ?_)
    walk_at "pick"
  · intro i' j' ti tj ms us s4 hlt hI4 hs4
    try dsimp only
    repeat walk_at "ex"
    try dsimp only
    exact ⟨_, by rw [hn]; exact hlt, i', j', ti, tj, ms, us, rfl, hI4, hs4⟩
end

end
section


noncomputable def nm15 : List Str := ("*" : Str) :: nms
/-- an agent's text: its letters are those of one of the fifteen names, great or small -/
noncomputable def chAt (nm : Str) (b : Nat → Bool) (j : Nat) : Str := if b j then Txt.upper ⟨#[(nm.cps[j]?).getD 0]⟩ else ⟨#[(nm.cps[j]?).getD 0]⟩
noncomputable def agTx (nm : Str) (b : Nat → Bool) : Str := Builtin.Str.glued "" ((List.range nm.length).map (chAt nm b))

section
variable {C : Cx} {F : Frz} {l : Ledger} {A : Around} {E : Value → Shared → Prop} {s : Shared} {env : Env}
theorem s_item {value slice : Expr} {x : Str} {t u : Tok} {k : Nat} {c : Nat} {Q : Value → Shared → Prop} (hs : St C F l s) (hk : k < 1000) (hc : x.cps[k]? = some c) (h : ∀ t s', St C F l s' → Q (.str ⟨#[c]⟩ t) s')
    (hsub : subscripted slice false (.str x t) (.int k u) = operate [.str x t, .int k u] (getItem (.str x t) (.int k u)) := by with_unfolding_all rfl) : wpAny C.M A (subscriptTail value slice (.str x t) (.int k u)) Q E s := by
  have hlt : k < x.length := (Array.getElem?_eq_some_iff.mp hc).1
  refine tail_any (typeIs_str s x t) PySem.F.slot_str_getitem.lookup (P.getItem_str (c := c) ?_ ?_ (h _ _ (hs.tok _))) hsub
  · have h1 : ¬ ((k : Int) < -(2 ^ 63 : Int)) := by omega
    have h2 : ¬ ((k : Int) ≥ 2 ^ 63) := by omega
    rw [decide_eq_false h1, decide_eq_false h2]; rfl
  · have : seqIndex? (k : Int) x.length = some k := by
      unfold seqIndex?
      have h3 : ¬ ((k : Int) < 0) := by omega
      simp [h3, hlt]
    rw [this]; exact hc
theorem len_s {x : Str} {t : Tok} {Q : Value → Shared → Prop} (hs : St C F l s) (hx : x.length < 1000) (h : ∀ t s', St C F l s' → Q (.int x.length t) s') : wpAny C.M A (call (.builtin "len") [.str x t]) Q E s :=
  P.len_str (by omega) (h _ _ (hs.tok _))
theorem o_pow {a b : Int} {t u : Tok} {Q : Value → Shared → Prop} (hs : St C F l s) (hb : 0 ≤ b ∧ b ≤ 1000) (ha : a.natAbs < 2 ^ 64) (h : ∀ t s', St C F l s' → Q (.int (a ^ b.toNat) t) s') : wpAny C.M A (binaryOp .Pow (.int a t) (.int b u)) Q E s :=
  PyProof.Rows.pow_int_small hb.1 (by omega) ha (h _ _ (hs.tok _))
theorem s_join {a : Addr} {us : List (Str × Tok)} {t : Tok} {Q : Value → Shared → Prop} (hs : St C F l s) (hm : (a, IsL (strValues us)) ∈ l) (hz : us.length ≤ 10) (hu : ∀ u ∈ us, u.1.length ≤ 10) (h : ∀ t s', St C F l s' → Q (.str (Builtin.Str.glued "" (us.map (·.1))) t) s') :
    wpAny C.M A (call (.builtin "str.join") [.str "" t, .ref a]) Q E s := by
  have hl : Builtin.Str.tooLong ((us.map (·.1)).toArray.foldl (· + ·.length + ("" : Str).length) 0) = false := by
    have key : ∀ (xs : List Str) (n : Nat), (∀ x ∈ xs, x.length ≤ 10) → xs.foldl (fun a b => a + b.length + ("" : Str).length) n ≤ n + 10 * xs.length := by
      intro xs
      induction xs with
      | nil => intro n _; simp
      | cons x xs ih =>
        intro n hx
        rw [List.foldl_cons, List.length_cons]
        have h1 := ih (n + x.length + ("" : Str).length) fun y hy => hx y (.tail _ hy)
        have h2 := hx x (.head _)
        have h3 : ("" : Str).length = 0 := rfl
        omega
    have := key (us.map (·.1)) 0 (by intro x hx; obtain ⟨u, h1, rfl⟩ := List.mem_map.mp hx; exact hu u h1)
    rw [List.length_map] at this
    unfold Builtin.Str.tooLong
    rw [List.foldl_toArray, sizeLine_eq]
    exact decide_eq_false (by omega)
  refine call_meets PySem.F.slot_str_join (typeIs_str _ _ _) PySem.F.entry_str_join (PySem.F.args_str_join_2 _ _) (meets_str_join_list "" t a us hl) ⟨hs.isList hm, ?_⟩
  have hsz : (Builtin.Str.glued "" (us.map (·.1))).length ≤ sizeLine := joinFit_length hl
  cases us with
  | nil => exact ⟨hsz, h _ _ (hs.tok _)⟩
  | cons p r => cases r with
    | nil => exact h _ _ hs
    | cons q r' => exact ⟨hsz, h _ _ (hs.tok _)⟩

theorem mem15 {us : List (Str × Tok)} (h : us.map (·.1) = nm15) {k : Nat} (hk : k < 15) : ∃ u : Str × Tok, (strValues us)[k]? = some (.str u.1 u.2) ∧ u.1 ∈ nm15 := by
  have hl : us.length = 15 := by rw [← List.length_map (f := (·.1)), h]; rfl
  obtain ⟨u, hu⟩ : ∃ u, us[k]? = some u := ⟨_, List.getElem?_eq_getElem (by omega)⟩
  exact ⟨u, by simp [strValues, hu], by rw [← h]; exact List.mem_map_of_mem (List.mem_of_getElem? hu)⟩
noncomputable def agB (x : Int) (j : Nat) : Bool := decide ((((x.fdiv 30).fdiv ((2 : Int) ^ j)).fmod 2) = 1)

set_option maxRecDepth 10000
set_option maxHeartbeats 1000000 in
theorem agent_spec {cd' : Value} {x : Int} {tx : Tok} {R : Result → Shared → Prop} (W : Wd C) (fn : FnAt C 12 cd') (hs : St C F l s) (hr : Rm A 1)
    (h : ∀ nm t s', nm ∈ nm15 → St C F l s' → R (.ok (.ret (.str (agTx nm (agB x)) t))) s') :
    codeAny C.M A (.call (.ref (C.fn 12)) ⟨[.int x tx], []⟩) R s := by
  refine call_fnC (binds := [("x", .int x tx)]) (lvars := []) W fn hs hr.d (fun _ _ => rfl) (by intro n y hy; rw [List.mem_singleton.mp hy]; exact .inr ⟨rfl, rfl⟩) (fun _ h => nomatch h) List.nodup_nil (by intro n; show (["name", "x"] : List Str).Nodup; decide +kernel) (fun L s' hs => ?_)
  change St C F ((L, NsH []) :: (L + 2, IsCl none) :: (L + 1, IsCl (some (.int x tx))) :: l) s' at hs
  show wpAny _ _ (execs (_ :: _) _) _ _ _
  repeat walk_at "ex"
  refine MkL.in (by assumption) (by simp) ?_
  intro D s1 hs1
  obtain ⟨us, hus, hval⟩ : ∃ us : List (Str × Tok), us.map (·.1) = nm15 ∧ ∃ l', St C F ((D, IsL (strValues us)) :: l') s1 ∧ l' = (L, NsH []) :: (L + 2, IsCl none) :: (L + 1, IsCl (some (.int x tx))) :: l :=
    ⟨[(_, _), (_, _), (_, _), (_, _), (_, _), (_, _), (_, _), (_, _), (_, _), (_, _), (_, _), (_, _), (_, _), (_, _), (_, _)], rfl, _, hs1, rfl⟩
  obtain ⟨_, hs2, rfl⟩ := hval
  clear hs1
  repeat walk_at "ex"
  refine o_fmod (by assumption) (by omega) ?_
  intro t3 s3 hs3
  obtain ⟨k, hk⟩ : ∃ k : Nat, x.fmod 15 = k := ⟨(x.fmod 15).toNat, by have := Int.fmod_nonneg_of_pos x (show (0:Int) < 15 by omega); omega⟩
  have hk15 : k < 15 := by have := Int.fmod_lt_of_pos x (show (0:Int) < 15 by omega); omega
  rw [hk]
  obtain ⟨⟨nm, tn⟩, hu, hnm⟩ := mem15 hus hk15
  dsimp only at hu hnm
  refine item (k := (k : Int)) (t := t3) hs3 (.head _) (by omega) (by omega) hu ?_
  have hs4 := hs3.pick (l' := (L, NsH []) :: (L + 2, IsCl none) :: (L + 1, IsCl (some (.int x tx))) :: l) (by walk_at "pick")
  clear hs3 hs2
  repeat walk_at "ex"
  refine GM.join ?_
  refine callM1 ?_
  repeat walk_at "ex"
  refine e_comp (cl := [("x", L + 1), ("name", L + 2)]) (by rfl) (by decide +kernel) (by decide +kernel) (by decide +kernel) ?_
  repeat walk_at "ex"
  refine bi W (by assumption) W.isRange ?_
  repeat walk_at "ex"
  refine bi W (by assumption) W.isLen ?_
  repeat walk_at "ex"
  have hnl : nm.length ≤ 3 := (by decide +kernel : ∀ m ∈ nm15, m.length ≤ 3) nm hnm
  refine len_s (by assumption) (by omega) ?_
  intro t5 s5 hs5
  repeat walk_at "ex"
  refine c_range (by assumption) ?_
  intro r s6 hs6
  refine i_rng hs6 (.head _) (by omega) (by omega) ?_
  intro it s7 hs7
  rw [show (if (0 : Int) < (nm.length : Int) then (nm.length : Int) - 0 else 0) = (nm.length : Int) by split <;> omega] at hs7
  refine LoopIn.in hs7 fun acc K s8 hs8 => ⟨fun Q' E' hq => i_rit hs8 (.tail _ (.tail _ (.head _))) hq, ?_⟩
  have hs9 : St C F ((K, NsH []) :: (acc, IsL (strValues [])) :: (it, IsRit ((0 : Nat) : Int) ((nm.length : Int) - ((0 : Nat) : Int)) 1) :: (L, NsH []) :: (L + 2, IsCl (some (.str nm tn))) :: (L + 1, IsCl (some (.int x tx))) :: l) s8 := hs8.pick (by
    show Pick ((K, NsH []) :: (acc, IsL []) :: (it, IsRit (0 : Int) (nm.length : Int) 1) :: _) _
    walk_at "pick")
  refine codeAny_compLoop_tests (fun n s' => ∃ (k : Nat) (us : List (Str × Tok)), n + k = nm.length ∧ us.map (·.1) = (List.range k).map (chAt nm (agB x)) ∧
    St C F ((K, NsH []) :: (acc, IsL (strValues us)) :: (it, IsRit (k : Int) ((nm.length : Int) - (k : Int)) 1) :: (L, NsH []) :: (L + 2, IsCl (some (.str nm tn))) :: (L + 1, IsCl (some (.int x tx))) :: l) s') ?_ nm.length ⟨0, [], rfl, rfl, hs9⟩
  rintro n s10 ⟨k, ws, hnk, hws, hs10⟩
  cases n with
  | zero =>
    have hk : k = nm.length := by omega
    subst hk
    refine n_ritE hs10 (.tail _ (.tail _ (.head _))) (.there (.there .here)) hr.deeper.handled (by omega) ?_
    intro s11 hs11
    dsimp only [OkP]
    refine LetGo.in hs11 fun s12 hs12 => ?_
    repeat walk_at "ex"
    refine s_join hs12 (.head _) (by rw [← List.length_map (f := (·.1)), hws, List.length_map, List.length_range]; omega) ?_ ?_
    · intro u hu
      have : u.1 ∈ (List.range nm.length).map (chAt nm (agB x)) := by rw [← hws]; exact List.mem_map_of_mem hu
      obtain ⟨j, hj, e⟩ := List.mem_map.mp this
      rw [← e]
      have key : ∀ m ∈ nm15, ∀ j, j < m.length → (⟨#[(m.cps[j]?).getD 0]⟩ : Str).length ≤ 10 ∧ (Txt.upper ⟨#[(m.cps[j]?).getD 0]⟩).length ≤ 10 := by decide +kernel
      have := key nm hnm j (List.mem_range.mp hj)
      unfold chAt
      split
      · exact this.2
      · exact this.1
    · intro t13 s13 hs13
      try dsimp only
      rw [hws]
      refine h nm t13 _ hnm (hs13.pick ?_)
      walk_at "pick"
  | succ n =>
    have hk : k < nm.length := by omega
    obtain ⟨c, hc⟩ : ∃ c, nm.cps[k]? = some c := ⟨_, Array.getElem?_eq_getElem hk⟩
    refine n_rit hs10 (.there (.there .here)) (by omega) ?_
    intro t11 s11 hs11
    rw [show (nm.length : Int) - (k : Int) - 1 = (nm.length : Int) - ((k + 1 : Nat) : Int) by omega, show (k : Int) + 1 = ((k + 1 : Nat) : Int) by omega] at hs11
    have hp : (0 : Int) < 2 ^ k ∧ (2 : Int) ^ k < 1073741824 := by
      have : k = 0 ∨ k = 1 ∨ k = 2 := by omega
      rcases this with rfl | rfl | rfl <;> decide
    repeat walk_at "ex"
    refine o_fdiv (by assumption) (by omega) ?_
    intro t12 s12 hs12
    repeat walk_at "ex"
    refine o_pow (by assumption) (by omega) (by decide) ?_
    intro t13 s13 hs13
    repeat walk_at "ex"
    refine o_fdiv (by assumption) (by simpa using hp) ?_
    intro t14 s14 hs14
    repeat walk_at "ex"
    refine o_fmod (by assumption) (by omega) ?_
    intro t15 s15 hs15
    repeat walk_at "ex"
    refine wpAny_eq_int ?_
    repeat walk_at "ex"
    have hb : ((((x.fdiv 30).fdiv ((2 : Int) ^ ((k : Int).toNat))).fmod 2) == 1) = agB x k := by
      unfold agB
      rw [Int.toNat_natCast, Bool.eq_iff_iff, beq_iff_eq, decide_eq_true_iff]
    rw [hb]
    have fin : ∀ (v : Str) (t : Tok) (s16 : Shared), v = chAt nm (agB x) k → St C F ((K, NsH [("k", .int k t11)]) :: (acc, IsL (strValues ws)) :: (it, IsRit ((k + 1 : Nat) : Int) ((nm.length : Int) - ((k + 1 : Nat) : Int)) 1) :: (L, NsH []) :: (L + 2, IsCl (some (.str nm tn))) :: (L + 1, IsCl (some (.int x tx))) :: l) s16 →
        ∀ (E' : Value → Shared → Prop), wpAny C.M (A.deeper (envX (fName 12) (fScope 12) L (C.fn 12) cd' (cellsFrom (L + 1) (fScope 12).names []))) (call (.builtin "list.append") [.ref acc, .str v t]) (fun _ s₅ => ∃ m, m < n + 1 ∧ ∃ (k : Nat) (us : List (Str × Tok)), m + k = nm.length ∧ us.map (·.1) = (List.range k).map (chAt nm (agB x)) ∧
    St C F ((K, NsH []) :: (acc, IsL (strValues us)) :: (it, IsRit (k : Int) ((nm.length : Int) - (k : Int)) 1) :: (L, NsH []) :: (L + 2, IsCl (some (.str nm tn))) :: (L + 1, IsCl (some (.int x tx))) :: l) s₅) E' s16 := by
      intro v t s16 hv hs16 E'
      have hwl : ws.length = k := by rw [← List.length_map (f := (·.1)), hws, List.length_map, List.length_range]
      refine appendL (items := strValues ws) hs16 (.there .here) (by simp [strValues]; omega) fun s17 hs17 => ?_
      have hs18 := Upd.mono .here hs17 fun o => NsH.pre (vars' := []) (extra := [_])
      rw [show strValues ws ++ [Value.str v t] = strValues (ws ++ [(v, t)]) by simp [strValues]] at hs18
      refine ⟨n, Nat.lt_succ_self n, k + 1, ws ++ [(v, t)], by omega, ?_, hs18⟩
      rw [List.map_append, hws, List.range_succ, List.map_append, hv]; rfl
    cases hbk : agB x k with
    | true =>
      repeat walk_at "ex"
      refine s_item (k := k) (u := t11) (by assumption) (by omega) hc ?_
      intro t16 s16 hs16
      repeat walk_at "ex"
      refine GM.upper ?_
      refine callM0 ?_
      refine s_upper (by assumption) (by show 1 ≤ 1000; decide) ?_
      intro t17 s17 hs17
      exact fin _ t17 s17 (by unfold chAt; rw [hbk, hc]; rfl) hs17 _
    | false =>
      repeat walk_at "ex"
      refine s_item (k := k) (u := t11) (by assumption) (by omega) hc ?_
      intro t16 s16 hs16
      exact fin _ t16 s16 (by unfold chAt; rw [hbk, hc]; rfl) hs16 _
end

end
section


noncomputable def rw_ (u : Str) : Row := ((u.length : Int), Txt.lower u)
section
variable {C : Cx} {F : Frz} {l : Ledger} {A : Around} {E : Value → Shared → Prop} {s : Shared} {env : Env}
theorem self_lit {it a : Addr} {i : Nat} (hs : St C F l s) (hm : (it, IsLit a i) ∈ l) : Self C A (.ref it) s := fun _ _ hq =>
  let ⟨o, e, hc, hd⟩ := hs.at hm
  wpAny_pyIter_listiter (l := a) (i := i) ⟨o, e, hc, hd⟩ hq
theorem take_map {α β : Type} {us : List α} {k : Nat} {u : α} (f : α → β) (h : us[k]? = some u) : (us.take (k + 1)).map f = (us.take k).map f ++ [f u] := by
  rw [List.take_add_one, h]; simp

set_option maxRecDepth 10000
set_option maxHeartbeats 1000000 in
theorem heap_spec {cd' c2 c4 c6 c5 : Value} {G : Addr} {b : Bool} {us : List (Str × Tok)} {R : Result → Shared → Prop} (W : Wd C) (fn : FnAt C 14 cd') (f2 : FnAt C 2 c2) (f4 : FnAt C 4 c4) (f6 : FnAt C 6 c6) (f5 : FnAt C 5 c5) (hs : St C F l s) (hr : Rm A 5)
    (hG : (G, IsL (strValues us)) ∈ l) (hz : us.length < 100) (hu : ∀ u ∈ us, u.1.length < 100)
    (h : ∀ F' xs H s', F.le F' → Rows F' xs → HeapFrom 0 xs → (xs.map (·.2)).Perm (us.map fun u => rw_ u.1) → St C F' ((H, IsL (vals xs)) :: l) s' → R (.ok (.ret (.ref H))) s') :
    codeAny C.M A (.call (.ref (C.fn 14)) ⟨[.ref G, .bool b], []⟩) R s := by
  refine call_fn (vars := [("agents", .ref G), ("pushed", .bool b)]) W fn hs hr.d (fun _ _ => rfl) (by intro x hx; simp only [List.mem_cons, List.not_mem_nil, or_false] at hx; rcases hx with rfl | rfl <;> rfl) (by simp only [List.map]; decide +kernel) (fun L s' hs => ?_)
  show wpAny _ _ (execs (_ :: _) _) _ _ _
  repeat walk_at "ex"
  refine Assign_Tuple_swapped (names := ["items", "heap"]) ?_
  repeat walk_at "ex"
  refine e_comp (cl := []) (by rfl) (by decide +kernel) (by decide +kernel) (by decide +kernel) ?_
  repeat walk_at "ex"
  refine i_list (items := strValues us) hs (.tail _ hG) ?_
  intro it s1 hs1
  refine LoopIn.in hs1 fun acc K s2 hs2 => ⟨self_lit hs2 (.tail _ (.tail _ (.head _))), ?_⟩
  refine codeAny_compLoop_tests (fun n s' => ∃ (F' : Frz) (k : Nat) (zs : List X), F.le F' ∧ n + k = us.length ∧ Rows F' zs ∧ zs.map (·.2) = (us.take k).map (fun u => rw_ u.1) ∧
    St C F' ((K, NsH []) :: (acc, IsL (vals zs)) :: (it, IsLit G k) :: (L, NsH [("agents", .ref G), ("pushed", .bool b)]) :: l) s') ?_ us.length ⟨F, 0, [], Frz.le_refl F, rfl, (fun _ h => nomatch h), rfl, hs2⟩
  rintro n s3 ⟨F', k, zs, hF, hnk, hZ, hzs, hs3⟩
  have hzl : zs.length = min k us.length := by rw [← List.length_map (f := (·.2)), hzs, List.length_map, List.length_take]
  cases n with
  | succ n =>
    have hk : k < us.length := by omega
    obtain ⟨u, huk⟩ : ∃ u, us[k]? = some u := ⟨_, List.getElem?_eq_getElem hk⟩
    have huz := hu u (List.mem_of_getElem? huk)
    refine n_list hs3 (.there (.there .here)) (.tail _ (.tail _ (.tail _ (.tail _ hG)))) (x := .str u.1 u.2) (by simp [strValues, huk]) ?_
    intro s4 hs4
    repeat walk_at "ex"
    refine bi W (by assumption) W.isLen ?_
    repeat walk_at "ex"
    refine len_s (by assumption) (by omega) ?_
    intro t5 s5 hs5
    repeat walk_at "ex"
    refine GM.lower ?_
    refine callM0 ?_
    refine s_lower (by assumption) (by omega) ?_
    intro t6 s6 hs6
    repeat walk_at "ex"
    refine MkL.in (by assumption) (by simp) ?_
    intro Rw s7 hs7
    obtain ⟨F2, hF2, hrow, hs8⟩ := freeze_row (r := rw_ u.1) hs7
    refine appendL (items := vals zs) hs8 (.there .here) (by simp [vals]; omega) fun s9 hs9 => ?_
    rw [vals_app (x := (Value.ref Rw, rw_ u.1))] at hs9
    have hs10 := Upd.mono .here hs9 fun o => NsH.pre (vars' := []) (extra := [_])
    refine ⟨n, Nat.lt_succ_self n, F2, k + 1, zs ++ [(.ref Rw, rw_ u.1)], Frz.le_trans hF hF2, by omega, ?_, ?_, hs10⟩
    · intro x hx
      rcases List.mem_append.mp hx with hx | hx
      · exact (hZ x hx).mono hF2
      · rw [List.mem_singleton.mp hx]; exact hrow
    · rw [take_map _ huk, List.map_append, hzs]; rfl
  | zero =>
    have hk : k = us.length := by omega
    subst hk
    rw [List.take_length] at hzs
    refine n_listE hs3 (.tail _ (.tail _ (.head _))) (.there (.there .here)) (.tail _ (.tail _ (.tail _ (.tail _ hG)))) (by simp [strValues]) hr.deeper.handled ?_
    intro s4 hs4
    dsimp only [OkP]
    refine LetGo.in hs4 fun s5 hs5 => ?_
    repeat walk_at "ex"
    refine MkL.in (by assumption) (by decide) ?_
    intro H s6 hs6
    repeat walk_at "ex"
    refine MkT.in (by assumption) (by simp) ?_
    intro T s7 hs7
    refine' unpT (by assumption) ?hm ?hn hr.deeper.handled ?_
    case hm => walk_at "mem"
    case hn => rfl
    intro s8 hs8
    show wpAny _ _ (assignInOrder [bindName _ _, bindName _ _] [_, _]) _ _ _
    repeat walk_at "ex"
    try dsimp only
    repeat walk_at "ex"
    rename St C F' _ _ => hh
    have hh0 := hh.pick (l' := (L, NsH [("agents", .ref G), ("pushed", .bool b), ("heap", .ref H), ("items", .ref acc)]) :: (H, IsL (vals [])) :: (acc, IsL (vals zs)) :: l) (by
      show Pick (_ :: (H, IsL []) :: _) _
      walk_at "pick")
    clear hh hs8 hs7 hs6 hs5 hs4 hs3 hs2 hs1
    cases b with
    | true =>
      repeat walk_at "ex"
      refine i_list (items := vals zs) hh0 (by walk_at "mem") ?_
      intro it2 s9 hs9
      refine codeAny_forLoop (fun n s' => ∃ (k : Nat) (hx : List X), n + k = zs.length ∧ Rows F' hx ∧ HeapFrom 0 hx ∧ hx.Perm (zs.take k) ∧
        St C F' ((it2, IsLit acc k) :: (L, NsH [("agents", .ref G), ("pushed", .bool true), ("heap", .ref H), ("items", .ref acc)]) :: (H, IsL (vals hx)) :: (acc, IsL (vals zs)) :: l) s') ?_ zs.length
        ⟨0, [], rfl, (fun _ h => nomatch h), (fun i h1 h2 => absurd h2 (Nat.not_lt_zero _)), .refl _, hs9⟩
      rintro n s10 ⟨k, hx, hnk, hR, hH, hP, hs10⟩
      have hxl : hx.length = min k zs.length := by rw [hP.length_eq, List.length_take]
      cases n with
      | succ n =>
        have hk : k < zs.length := by omega
        obtain ⟨z, hzk⟩ : ∃ z, zs[k]? = some z := ⟨_, List.getElem?_eq_getElem hk⟩
        have hzR := hZ z (List.mem_of_getElem? hzk)
        refine n_list hs10 .here (by walk_at "mem") (x := z.1) (by simp [vals, hzk]) ?_
        intro s11 hs11
        repeat walk_at "ex"
        refine gl W (by assumption) f2.glob ?_
        refine callF f2 ?_
        repeat walk_at "ex"
        refine ⟨⟨_, _, by assumption⟩, wpAny_call ?_⟩
        rename St C F' _ _ => hs12
        refine heappush_spec (xs := hx) (x := z) (l := (it2, IsLit acc (k + 1)) :: (L, NsH [("agents", .ref G), ("pushed", .bool true), ("heap", .ref H), ("items", .ref acc), ("item", z.1)]) :: (acc, IsL (vals zs)) :: l) W f2 f5 (hs12.pick (by walk_at "pick")) (hr.deeper.less (by omega)) hR hzR (by omega) ?_
        intro s13 hs13
        try dsimp only
        repeat walk_at "ex"
        try dsimp only
        obtain ⟨g1, g2⟩ := push_heap (x := z) hH
        have hs14 := Upd.mono (.there (.there .here)) hs13 fun o => NsH.pre (vars' := [_, _, _, _]) (extra := [_])
        refine ⟨n, Nat.lt_succ_self _, k + 1, pushX hx z, by omega, ?_, g1, ?_, hs14.pick (by walk_at "pick")⟩
        · intro x hx'
          rcases List.mem_cons.mp (g2.mem_iff.mp hx') with rfl | hx'
          · exact hzR
          · exact hR x hx'
        · refine g2.trans ((hP.cons z).trans ?_)
          rw [take_snoc hzk]
          exact (List.perm_append_singleton _ _).symm
      | zero =>
        have hk : k = zs.length := by omega
        subst hk
        rw [List.take_length] at hP
        refine n_listE hs10 (.head _) .here (by walk_at "mem") (by simp [vals]) hr.deeper.handled ?_
        intro s11 hs11
        repeat walk_at "ex"
        try dsimp only
        repeat walk_at "ex"
        refine gl W (by assumption) f4.glob ?_
        refine callF f4 ?_
        repeat walk_at "ex"
        refine ⟨⟨_, _, by assumption⟩, wpAny_call ?_⟩
        rename St C F' _ _ => hs12
        refine heapify_spec (xs := zs) (l := (L, NsH [("agents", .ref G), ("pushed", .bool true), ("heap", .ref H), ("items", .ref acc)]) :: (H, IsL (vals hx)) :: l) W f4 f6 f5 (hs12.pick (by walk_at "pick")) (hr.deeper.less (by omega)) hZ (by omega) ?_
        intro s13 hs13
        try dsimp only
        repeat walk_at "ex"
        try dsimp only
        repeat walk_at "ex"
        try dsimp only
        refine h F' hx H _ hF hR hH (by rw [← hzs]; exact hP.map _) (hs13.pick ?_)
        walk_at "pick"
    | false =>
      repeat walk_at "ex"
      refine MkL.in (by assumption) (by decide) ?_
      intro N s9 hs9
      refine i_list (items := []) hs9 (.head _) ?_
      intro it2 s10 hs10
      refine codeAny_forLoop (fun n s' => s' = s10) ?_ 0 rfl
      rintro n _ rfl
      refine n_listE hs10 (.head _) .here (.tail _ (.head _)) (by simp) hr.deeper.handled ?_
      intro s11 hs11
      repeat walk_at "ex"
      try dsimp only
      repeat walk_at "ex"
      refine gl W (by assumption) f4.glob ?_
      refine callF f4 ?_
      repeat walk_at "ex"
      refine ⟨⟨_, _, by assumption⟩, wpAny_call ?_⟩
      rename St C F' _ _ => hs12
      refine heapify_spec (xs := zs) (l := (L, NsH [("agents", .ref G), ("pushed", .bool false), ("heap", .ref H), ("items", .ref acc)]) :: l) W f4 f6 f5 (hs12.pick (by walk_at "pick")) (hr.deeper.less (by omega)) hZ (by omega) ?_
      intro s13 hs13
      try dsimp only
      repeat walk_at "ex"
      try dsimp only
      repeat walk_at "ex"
      try dsimp only
      obtain ⟨g1, g2⟩ := heapify_heap zs
      refine h F' (heapifyX zs) acc _ hF (fun x hx => hZ x (g2.mem_iff.mp hx)) g1 (by rw [← hzs]; exact g2.map _) (hs13.pick ?_)
      walk_at "pick"
end

end
section


section
variable {f : Nat → Nat → Bool} {n : Nat} {s : Shared} {α : Type}
/-- asking by a function -/
noncomputable def cmp0 (f : Nat → Nat → Bool) (n : Nat) (i j : Nat) (C : Bool → Shared → Prop) (s : Shared) : Prop := i < n ∧ j < n ∧ C (f i j) s
abbrev KW (f : Nat → Nat → Bool) (n : Nat) (s : Shared) (T : KasT α) (Q : α → Prop) : Prop := T.kasWp (cmp0 f n) (fun a s' => s' = s ∧ Q a) s
theorem KW.ret {a : α} {Q : α → Prop} (h : Q a) : KW f n s (.ret a) Q := ⟨rfl, h⟩
theorem KW.ask {i j : Nat} {k : Bool → KasT α} {Q : α → Prop} (hi : i < n) (hj : j < n) (h : KW f n s (k (f i j)) Q) : KW f n s (.ask i j k) Q := ⟨hi, hj, h⟩
theorem KW.mono {Q Q' : α → Prop} : ∀ {T : KasT α}, KW f n s T Q → (∀ a, Q a → Q' a) → KW f n s T Q'
  | .ret _, h, q => ⟨h.1, q _ h.2⟩
  | .ask _ _ k, h, q => ⟨h.1, h.2.1, KW.mono (T := k _) h.2.2 q⟩
theorem kas_into {cmp : Nat → Nat → (Bool → Shared → Prop) → Shared → Prop} {Q : α → Shared → Prop} (hc : ∀ i j C, i < n → j < n → C (f i j) s → cmp i j C s) : ∀ {T : KasT α}, KW f n s T (fun a => Q a s) → T.kasWp cmp Q s
  | .ret _, h => h.2
  | .ask _ _ k, h => hc _ _ _ h.1 h.2.1 (kas_into hc (T := k _) h.2.2)
theorem KW.bind {β : Type} {Q : β → Prop} {g : α → KasT β} : ∀ {T : KasT α}, KW f n s T (fun a => KW f n s (g a) Q) → KW f n s (T.bind g) Q
  | .ret _, h => h.2
  | .ask _ _ k, h => ⟨h.1, h.2.1, KW.bind (T := k _) h.2.2⟩

abbrev gt (p : Array Nat) (i : Nat) : Nat := p.getD i 0
theorem gt_eq {p : Array Nat} {i : Nat} : gt p i = (p[i]?).getD 0 := by
  unfold gt
  by_cases h : i < p.size
  · simp [Array.getD, h]
  · simp [Array.getD, h]
/-- the places, all once -/
structure Pm (n : Nat) (p : Array Nat) : Prop where
  perm : p.toList.Perm (List.range n)
theorem Pm.size {p : Array Nat} (h : Pm n p) : p.size = n := by rw [← Array.length_toList, h.perm.length_eq, List.length_range]
theorem Pm.lt {p : Array Nat} (h : Pm n p) {i : Nat} (hi : i < n) : gt p i < n := by
  have hs := h.size
  have : p.toList[i]'(by rw [Array.length_toList]; omega) ∈ List.range n := h.perm.mem_iff.mp (List.getElem_mem _)
  rw [gt_eq, Array.getElem?_eq_getElem (by omega)]
  simpa using this
theorem Pm.ne {p : Array Nat} (h : Pm n p) {i j : Nat} (hi : i < n) (hj : j < n) (hij : i ≠ j) : gt p i ≠ gt p j := by
  have hs := h.size
  have hn : p.toList.Nodup := h.perm.nodup_iff.mpr List.nodup_range
  rw [gt_eq, gt_eq, Array.getElem?_eq_getElem (by omega : i < p.size), Array.getElem?_eq_getElem (by omega : j < p.size)]
  intro q
  have q' : p.toList[i]'(by rw [Array.length_toList]; omega) = p.toList[j]'(by rw [Array.length_toList]; omega) := by simpa using q
  exact hij ((List.getElem_inj hn).mp q')
/-- a strict order of the places -/
structure Ord (f : Nat → Nat → Bool) (n : Nat) : Prop where
  irr : ∀ i, f i i = false
  tr : ∀ i j k, i < n → j < n → k < n → f i j = true → f j k = true → f i k = true
  tot : ∀ i j, i < n → j < n → i ≠ j → f i j = true ∨ f j i = true
noncomputable def SP (f : Nat → Nat → Bool) (p : Array Nat) (m : Nat) : Prop := ∀ a b, a < b → b < m → f (gt p a) (gt p b) = true
noncomputable def DP (f : Nat → Nat → Bool) (p : Array Nat) (m : Nat) : Prop := ∀ a b, a < b → b < m → f (gt p b) (gt p a) = true

theorem SP.snoc {p : Array Nat} {k : Nat} (O : Ord f n) (P : Pm n p) (h : SP f p k) (h1 : 1 ≤ k) (hk : k < n) (hl : f (gt p (k - 1)) (gt p k) = true) : SP f p (k + 1) := by
  intro a b hab hb
  by_cases e : b = k
  · subst e
    by_cases e2 : a = b - 1
    · rw [e2]; exact hl
    · exact O.tr _ (gt p (b - 1)) _ (P.lt (by omega)) (P.lt (by omega)) (P.lt hk) (h a (b - 1) (by omega) (by omega)) hl
  · exact h a b hab (by omega)
theorem DP.snoc {p : Array Nat} {k : Nat} (O : Ord f n) (P : Pm n p) (h : DP f p k) (h1 : 1 ≤ k) (hk : k < n) (hl : f (gt p k) (gt p (k - 1)) = true) : DP f p (k + 1) := by
  intro a b hab hb
  by_cases e : b = k
  · subst e
    by_cases e2 : a = b - 1
    · rw [e2]; exact hl
    · exact O.tr _ (gt p (b - 1)) _ (P.lt hk) (P.lt (by omega)) (P.lt (by omega)) hl (h a (b - 1) (by omega) (by omega))
  · exact h a b hab (by omega)
theorem Ord.flip {p : Array Nat} (O : Ord f n) (P : Pm n p) {i j : Nat} (hi : i < n) (hj : j < n) (hij : i ≠ j) (h : f (gt p i) (gt p j) = false) : f (gt p j) (gt p i) = true := by
  rcases O.tot _ _ (P.lt hi) (P.lt hj) (P.ne hi hj hij) with h' | h'
  · rw [h] at h'; cases h'
  · exact h'

theorem w_asc (O : Ord f n) {p : Array Nat} (P : Pm n p) : ∀ (fuel k : Nat), 1 ≤ k → k + fuel = n → SP f p k → KW f n s (kas_asc p fuel k) fun m => k ≤ m ∧ m ≤ n ∧ SP f p m ∧ (m < n → f (gt p m) (gt p (m - 1)) = true)
  | 0, k, _, hk, hS => KW.ret ⟨Nat.le_refl _, by omega, hS, fun h => absurd h (by omega)⟩
  | fuel + 1, k, h1, hk, hS => by
    refine KW.ask (P.lt (by omega)) (P.lt (by omega)) ?_
    cases hc : f (gt p k) (gt p (k - 1)) with
    | true =>
      rw [if_pos rfl]
      exact KW.ret ⟨Nat.le_refl _, by omega, hS, fun _ => hc⟩
    | false =>
      rw [if_neg (by decide)]
      refine KW.mono (w_asc O P fuel (k + 1) (by omega) (by omega) (hS.snoc O P h1 (by omega) (O.flip P (by omega) (by omega) (by omega) hc))) ?_
      rintro m ⟨a, b, c, d⟩
      exact ⟨by omega, b, c, d⟩
theorem w_desc (O : Ord f n) {p : Array Nat} (P : Pm n p) : ∀ (fuel k : Nat), 1 ≤ k → k + fuel = n → DP f p k → KW f n s (kas_desc fuel p k 0) fun r => r.1 = p ∧ r.2.2 = 0 ∧ k ≤ r.2.1 ∧ r.2.1 ≤ n ∧ DP f p r.2.1
  | 0, k, _, hk, hS => KW.ret ⟨rfl, rfl, Nat.le_refl _, (show k ≤ n by omega), hS⟩
  | fuel + 1, k, h1, hk, hS => by
    refine KW.ask (P.lt (by omega)) (P.lt (by omega)) ?_
    cases hc : f (gt p k) (gt p (k - 1)) with
    | true =>
      rw [if_pos rfl, if_neg (by decide)]
      refine KW.mono (w_desc O P fuel (k + 1) (by omega) (by omega) (hS.snoc O P h1 (by omega) hc)) ?_
      rintro m ⟨a, b, c, d, e⟩
      exact ⟨a, b, by omega, d, e⟩
    | false =>
      rw [if_neg (by decide)]
      refine KW.ask (P.lt (by omega)) (P.lt (by omega)) ?_
      rw [O.flip P (by omega) (by omega) (by omega) hc, if_pos rfl]
      exact KW.ret ⟨rfl, rfl, Nat.le_refl _, (show k ≤ n by omega), hS⟩
theorem gt_rev {p : Array Nat} {m : Nat} (hm : m ≤ p.size) (k : Nat) : gt (kas_rev p 0 m) k = if k < m then gt p (m - 1 - k) else gt p k := by
  rw [gt_eq]
  unfold kas_rev
  rw [getElem?_mirror_all hm]
  by_cases h : k < m
  · rw [if_pos ⟨Nat.zero_le _, h⟩, if_pos h, gt_eq]; congr 2; omega
  · rw [if_neg (fun q => h q.2), if_neg h, gt_eq]
theorem Pm.rev {p : Array Nat} (h : Pm n p) (m : Nat) : Pm n (kas_rev p 0 m) := ⟨((mirror_perm p 0 m ((m - 0) / 2)).toList).trans h.perm⟩
theorem w_tail3 (O : Ord f n) {p : Array Nat} (P : Pm n p) {k : Nat} (h1 : 1 ≤ k) (hk : k ≤ n) (h : DP f p k) : KW f n s (kas_tail3 k n p) fun r => Pm n r.2 ∧ 1 ≤ r.1 ∧ r.1 ≤ n ∧ SP f r.2 r.1 := by
  have hs := P.size
  have hS : SP f (kas_rev p 0 k) k := by
    intro a b hab hb
    rw [gt_rev (by omega), gt_rev (by omega), if_pos (by omega), if_pos hb]
    exact h _ _ (by omega) (by omega)
  unfold kas_tail3
  refine KW.bind (KW.mono (w_asc O (P.rev k) (n - k) k h1 (by omega) hS) ?_)
  rintro m ⟨a, b, c, _⟩
  exact KW.ret ⟨P.rev k, by omega, b, c⟩
theorem w_count (O : Ord f n) {p : Array Nat} (P : Pm n p) (hn : 2 ≤ n) : KW f n s (kas_count n p) fun r => Pm n r.2 ∧ 1 ≤ r.1 ∧ r.1 ≤ n ∧ SP f r.2 r.1 := by
  unfold kas_count
  refine KW.bind (KW.mono (w_asc O P (n - 1) 1 (Nat.le_refl _) (by omega) (fun a b h1 h2 => by omega)) ?_)
  rintro m ⟨h1, h2, hS, hl⟩
  by_cases e : m = n
  · rw [if_pos (by simpa using e)]
    exact KW.ret ⟨P, h1, h2, hS⟩
  · rw [if_neg (by simpa using e)]
    have hl := hl (by omega)
    by_cases e1 : m > 1
    · rw [if_pos e1]
      refine KW.ask (P.lt (by omega)) (P.lt (by omega)) ?_
      rw [hS 0 (m - 1) (by omega) (by omega), if_pos rfl]
      exact KW.ret ⟨P, h1, h2, hS⟩
    · rw [if_neg e1]
      have hm : m = 1 := by omega
      subst hm
      unfold kas_descPart
      refine KW.bind (KW.mono (w_desc O P (n - 2) 2 (by omega) (by omega) (fun a b ha hb => ?_)) ?_)
      · have : a = 0 ∧ b = 1 := by omega
        rw [this.1, this.2]; exact hl
      · rintro ⟨p', m, q⟩ ⟨rfl, rfl, ha, hb, hD⟩
        rw [if_neg (by show ¬ (0 > 0); decide)]
        exact w_tail3 O P (by show 1 ≤ m; exact Nat.le_trans (by decide) ha) hb hD
theorem w_place (O : Ord f n) {p : Array Nat} (P : Pm n p) {k : Nat} (hk : k < n) (hS : SP f p k) : ∀ (fuel l r : Nat), l ≤ r → r ≤ k → r - l ≤ fuel → (∀ a, a < l → f (gt p a) (gt p k) = true) → (∀ b, r ≤ b → b < k → f (gt p k) (gt p b) = true) →
    KW f n s (kas_place p k fuel l r) fun m => m ≤ k ∧ (∀ a, a < m → f (gt p a) (gt p k) = true) ∧ ∀ b, m ≤ b → b < k → f (gt p k) (gt p b) = true
  | 0, l, r, h1, h2, h3, ha, hb => KW.ret ⟨by omega, ha, fun b hb1 hb2 => hb b (by omega) hb2⟩
  | fuel + 1, l, r, h1, h2, h3, ha, hb => by
    unfold kas_place
    by_cases e : l ≥ r
    · rw [if_pos e]
      exact KW.ret ⟨by omega, ha, fun b hb1 hb2 => hb b (by omega) hb2⟩
    · rw [if_neg e]
      have hm : (l + r) / 2 < r ∧ l ≤ (l + r) / 2 := by omega
      refine KW.ask (P.lt hk) (P.lt (by omega)) ?_
      cases hc : f (gt p k) (gt p ((l + r) / 2)) with
      | true =>
        rw [if_pos rfl]
        refine w_place O P hk hS fuel l ((l + r) / 2) (by omega) (by omega) (by omega) ha fun b hb1 hb2 => ?_
        by_cases e2 : b = (l + r) / 2
        · rw [e2]; exact hc
        · exact O.tr _ (gt p ((l + r) / 2)) _ (P.lt hk) (P.lt (by omega)) (P.lt (by omega)) hc (hS _ _ (by omega) hb2)
      | false =>
        rw [if_neg (by decide)]
        have hc' := O.flip P hk (by omega) (by omega) hc
        refine w_place O P hk hS fuel ((l + r) / 2 + 1) r (by omega) (by omega) (by omega) (fun a ha1 => ?_) hb
        by_cases e2 : a = (l + r) / 2
        · rw [e2]; exact hc'
        · exact O.tr _ (gt p ((l + r) / 2)) _ (P.lt (by omega)) (P.lt (by omega)) (P.lt hk) (hS _ _ (by omega) (by omega)) hc'
theorem gt_bubble {p : Array Nat} {k l : Nat} (hk : k < p.size) (hl : l ≤ k) (j : Nat) : gt (bubble p k (k - l)) j = if j = l then gt p k else if l < j ∧ j ≤ k then gt p (j - 1) else gt p j := by
  rw [gt_eq, getElem?_bubble hk (k - l) (by omega)]
  have e : k - (k - l) = l := by omega
  rw [e]
  by_cases h1 : j = l
  · rw [if_pos h1, if_pos h1, gt_eq]
  · rw [if_neg h1, if_neg h1]
    by_cases h2 : l < j ∧ j ≤ k
    · rw [if_pos h2, if_pos h2, gt_eq]
    · rw [if_neg h2, if_neg h2, gt_eq]
theorem w_bin (O : Ord f n) : ∀ (fuel k : Nat) (p : Array Nat), Pm n p → k + fuel = n → SP f p k → KW f n s (kas_bin fuel p k) fun p' => Pm n p' ∧ SP f p' n
  | 0, k, p, P, hk, hS => KW.ret ⟨P, by rw [← hk]; exact hS⟩
  | fuel + 1, k, p, P, hk, hS => by
    have hs := P.size
    unfold kas_bin
    refine KW.bind (KW.mono (w_place O P (by omega) hS k 0 k (Nat.zero_le _) (Nat.le_refl _) (by omega) (fun a h => absurd h (Nat.not_lt_zero _)) (fun b h1 h2 => by omega)) ?_)
    rintro l ⟨hl, hb, hA⟩
    refine w_bin O fuel (k + 1) _ ⟨((bubble_perm p k (k - l)).toList).trans P.perm⟩ (by omega) ?_
    intro a b hab hbk
    rw [gt_bubble (by omega) hl, gt_bubble (by omega) hl]
    by_cases ea : a = l
    · rw [if_pos ea, if_neg (by omega), if_pos ⟨by omega, by omega⟩]
      exact hA _ (by omega) (by omega)
    · rw [if_neg ea]
      by_cases eb : b = l
      · rw [if_pos eb, if_neg (by omega)]
        exact hb _ (by omega)
      · rw [if_neg eb]
        by_cases ha2 : l < a ∧ a ≤ k
        · rw [if_pos ha2, if_pos ⟨by omega, by omega⟩]
          exact hS _ _ (by omega) (by omega)
        · rw [if_neg ha2]
          by_cases hb2 : l < b ∧ b ≤ k
          · rw [if_pos hb2]
            exact hS _ _ (by omega) (by omega)
          · rw [if_neg hb2]
            exact hS _ _ hab (by omega)
theorem w_sort (O : Ord f n) (hn : 2 ≤ n) : KW f n s (kas_sort n) fun p => Pm n p ∧ SP f p n := by
  unfold kas_sort
  refine KW.bind (KW.mono (w_count O ⟨by simp⟩ hn) ?_)
  rintro ⟨m, p⟩ ⟨P, h1, h2, hS⟩
  dsimp only at *
  by_cases e : m < n
  · rw [if_pos e]
    have e2 : max m 1 = m := by omega
    rw [e2]
    exact w_bin O (n - m) m p P (by omega) hS
  · rw [if_neg e]
    have : m = n := by omega
    subst this
    exact KW.ret ⟨P, hS⟩
end

end
section


open PySem.SeqAt MeetsSeq MeetsSeq2 MeetsSeq3 SeqRoads2 AutoSeq1 in
theorem list_lt_at {l b : Addr} {i j : Int} {x y : Str} {t t' u u' : Tok} {n n2 : Nat} {dd dd2 : Option Addr} {sl sl2 : Array (Option Value)} : Meets (Builtin.«list.__lt__» ⟨[.ref l, .ref b], []⟩)
      (fun A R s => s.heap.get? l = some { cls := .type "list", dict := dd, data := .seq #[.int i t, .str x u] n, slots := sl } ∧
        s.heap.get? b = some { cls := .type "list", dict := dd2, data := .seq #[.int j t', .str y u'] n2, slots := sl2 } ∧
        R (.ok (.ret (.bool (rlt (i, x) (j, y))))) s) := by
  intro prog w A R s h
  obtain ⟨hp, g, d, tk, os⟩ := s; obtain ⟨hl, hb, h⟩ := h
  have f3 := AutoSeq1.sub_list_list
  wp_walk using wpAny_loadPart' hl, wpAny_loadPart' hb
  exact ⟨plainId_quiet plain_eq_loop _, codeAny_builtin entry_eq_loop (by
    rw [Around.under_plainId plain_eq_loop _]
    exact row_loop_Lt (xs := #[.int i t, .str x u]) (ys := #[.int j t', .str y u']) rfl rfl rfl rfl rfl rfl prog w A R _ ⟨hl, hb, h⟩)⟩

section
variable {C : Cx} {F : Frz} {l : Ledger} {A : Around} {E : Value → Shared → Prop} {s : Shared} {env : Env}
theorem row_key {v v' : Value} {r r' : Row} {Q : Bool → Shared → Prop} (hs : St C F l s) (hv : RowAt F v r) (hv' : RowAt F v' r') (hu : A.units < cLine) (h : Q (rlt r r') s) : wpAny C.M A (keyLt' oneType' v v') Q E s := by
  obtain ⟨a, t, u, rfl, ha⟩ := hv.list hs
  obtain ⟨b, t', u', rfl, hb⟩ := hv'.list hs
  obtain ⟨⟨cls, dd, data, sl⟩, ho, hc, n, hd⟩ := id ha
  obtain ⟨⟨cls2, dd2, data2, sl2⟩, ho2, hc2, n2, hd2⟩ := id hb
  simp only at hc hd hc2 hd2
  subst hc hd hc2 hd2
  rw [keyLt'_oneType, oneLt'_eq]
  simp only [if_true]
  refine wpAny_bind (wpAny_cRoomFor hu ?_)
  refine wpAny_bind (wpAny_callSpecialIfBound?_slot ⟨_, ho, rfl⟩ PySem.F.slot_list_lt (call_meets PySem.F.slot_list_lt ⟨_, ho, rfl⟩ PySem.F.entry_list_lt (PySem.F.args_list_lt_2 _ _) list_lt_at ⟨ho, ho2, ?_⟩))
  exact wpAny_truthy_bool h
theorem row_looks {v : Value} {r : Row} (hs : St C F l s) (hv : RowAt F v r) : Looks C.M s.heap (typeOf v) (.type "list") := by
  obtain ⟨a, t, u, rfl, ha⟩ := hv.list hs
  intro A Q E s' k q
  obtain ⟨o, ho, hc, _⟩ := ha
  exact wpAny_typeOf (T := "list") ⟨o, k _ _ ho, hc⟩ q

/-- in order, each once -/
theorem srt_ord {xs : List X} (hn : (xs.map (·.2)).Nodup) : Ord (fun i j => rlt (xs.getD i d0).2 (xs.getD j d0).2) xs.length := by
  refine ⟨fun i => ?_, fun i j k _ _ _ h1 h2 => rlt_trans h1 h2, fun i j hi hj hij => ?_⟩
  · cases h : rlt (xs.getD i d0).2 (xs.getD i d0).2 with
    | false => rfl
    | true => exact absurd h (rlt_irrefl _)
  · cases h1 : rlt (xs.getD i d0).2 (xs.getD j d0).2 with
    | true => exact .inl rfl
    | false =>
      cases h2 : rlt (xs.getD j d0).2 (xs.getD i d0).2 with
      | true => exact .inr rfl
      | false =>
        have e := rle_antisymm (a := (xs.getD i d0).2) (b := (xs.getD j d0).2) h2 h1
        have e' : (xs.map (·.2))[i]'(by simpa using hi) = (xs.map (·.2))[j]'(by simpa using hj) := by simpa [hi, hj] using e
        exact absurd ((List.getElem_inj hn).mp e') hij
theorem gets_perm {xs : List X} {p : Array Nat} (P : Pm xs.length p) : (p.toList.map fun i => xs.getD i d0).Perm xs := by
  refine (P.perm.map _).trans ?_
  have : (List.range xs.length).map (fun i => xs.getD i d0) = xs := by
    apply List.ext_getElem (by simp)
    intro i h1 h2
    simp [h2]
  rw [this]
theorem gets_srt {xs : List X} {p : Array Nat} (P : Pm xs.length p) (h : SP (fun i j => rlt (xs.getD i d0).2 (xs.getD j d0).2) p xs.length) : Srt (p.toList.map fun i => xs.getD i d0) := by
  have hs := P.size
  unfold Srt
  rw [List.pairwise_iff_getElem]
  intro i j hi hj hij
  have hj' : j < xs.length := by simpa [hs] using hj
  have := h i j hij hj'
  have gi : gt p i = p[i]'(by omega) := by rw [gt_eq, Array.getElem?_eq_getElem (by omega)]; rfl
  have gj : gt p j = p[j]'(by omega) := by rw [gt_eq, Array.getElem?_eq_getElem (by omega)]; rfl
  rw [gi, gj] at this
  simpa using this

theorem lsort_rows {a : Addr} {xs : List X} {P : PySem.Fin → Shared → Prop} (hs : St C F ((a, IsL (vals xs)) :: l) s) (hX : Rows F xs) (hn : (xs.map (·.2)).Nodup) (h64 : xs.length < 64) (hu : A.units < cLine)
    (h : ∀ ys s', ys.Perm xs → Srt ys → St C F ((a, IsL (vals ys)) :: l) s' → P (.done (.ret .none)) s') : wpAny C.M A (Builtin.«list.sort» ⟨[.ref a], []⟩) P E s := by
  obtain ⟨n, ho⟩ := hs.lat (.head _)
  have ho' : s.heap.get? a = some (seqObj "list" (vals xs).toArray n) := ho
  have hvl : (vals xs).length = xs.length := by simp [vals]
  rw [list_sort_plain]
  refine wpAny_bind (listItems_at ho' rfl ?_)
  refine wpAny_bind (listUpdate_at ho' rfl ?_ (by rw [List.size_toArray, sizeLine_eq]; omega) (Nat.zero_le _))
  have hs1 : St C F ((a, IsL []) :: l) { s with heap := s.heap.update a (Obj.mapSeq fun _ => (#[] : Array Value)) } := hs.mapSeq .here (fun _ => #[]) rfl rfl
  obtain ⟨e1, ho1⟩ := hs1.lat (.head _)
  refine wpAny_bind (seqEpoch_at ho1 rfl ?_)
  refine wpAny_bind (wpAny_newTuple ?_ (by rw [hvl, sizeLine_eq]; omega))
  refine wpAny_bind (wpAny_newList ?_ (Nat.zero_le _))
  refine wpAny_holding ?_
  have hs3 : St C F ((a, IsL []) :: l) { s with heap := ((s.heap.update a (Obj.mapSeq fun _ => (#[] : Array Value))).push (seqObj "tuple" (vals xs).toArray 0)).push (seqObj "list" #[] 0) } :=
    hs1.ext fun b o e => Heap.get?_push_of_some _ (Heap.get?_push_of_some _ e)
  show wpAny C.M A _ P E { s with heap := ((s.heap.update a (Obj.mapSeq fun _ => (#[] : Array Value))).push (seqObj "tuple" (vals xs).toArray 0)).push (seqObj "list" #[] 0) }
  have ho3 := (Heap.get?_push_of_some (seqObj "list" #[] 0) (Heap.get?_push_of_some (seqObj "tuple" (vals xs).toArray 0) ho1))
  generalize ((s.heap.update a (Obj.mapSeq fun _ => (#[] : Array Value))).push (seqObj "tuple" (vals xs).toArray 0)).push (seqObj "list" #[] 0) = H3 at hs3 ho3 ⊢
  have hz : ∀ (ys : List X), ys.Perm xs → (vals ys).toArray.size ≤ sizeLine + 1 := fun ys hp => by
    rw [List.size_toArray, sizeLine_eq]; have := hp.length_eq; simp [vals]; omega
  -- what is left behind the sorting
  have fin : ∀ (st' : SortSt) (ys : List X), (arrOf st').map (·.2) = (vals ys).toArray → failedOf st' = none → ys.Perm xs → Srt ys →
      wpAny C.M A (do
        let touched := (← seqEpoch a) != e1
        Builtin.List.listUpdate (.ref a) fun _ => (arrOf st').map (·.2)
        if let some e := failedOf st' then rule "list.sort.comparison-raised"; throw e
        if touched then rule "list.sort.modified"; raiseError "ValueError" "list modified during sort"
        ret .none) P E { s with heap := H3 } := by
    intro st' ys hout hf hp hS
    rw [hout, hf]
    refine wpAny_bind (seqEpoch_at ho3 rfl ?_)
    refine wpAny_bind (listUpdate_at ho3 rfl ?_ (Nat.zero_le _) (hz ys hp))
    simp only [bne_self_eq_false, Bool.false_eq_true, if_false]
    exact wpAny_pure (h ys _ hp hS (hs3.mapSeq .here (fun _ => (vals ys).toArray) rfl rfl))
  dsimp only
  by_cases h2 : (vals xs).toArray.size < 2
  · rw [if_pos h2, if_pos h2]
    refine wpAny_bind (wpAny_pure ?_)
    rw [StateT.run_pure]
    refine wpAny_bind (wpAny_pure ?_)
    have hx : xs.length < 2 := by rw [List.size_toArray, hvl] at h2; exact h2
    refine fin (SortSt.mk' general' ((vals xs).toArray.zip (vals xs).toArray) #[] 7 none) xs ?_ rfl (.refl _) ?_
    · show ((vals xs).toArray.zip (vals xs).toArray).map (·.2) = _
      apply Array.toList_inj.mp
      simp [List.map_snd_zip]
    · match xs, hx with
      | [], _ => exact List.Pairwise.nil
      | [x], _ => exact List.pairwise_singleton _ _
  · rw [if_neg h2, if_neg h2]
    have h2' : 2 ≤ (vals xs).length := by rw [List.size_toArray] at h2; omega
    refine wpAny_bind (kas_kind h2' (T := .type "list") (fun v hv => ?_) (by decide) (by decide) ?_)
    · obtain ⟨x, hx, rfl⟩ := List.mem_map.mp hv
      exact row_looks (s := { s with heap := H3 }) hs3 (hX x hx)
    have est : SortSt.mk' oneType' ((vals xs).toArray.zip (vals xs).toArray) #[] 7 none = kas_st oneType' (pairsOf (vals xs)) (List.toArray (List.range (vals xs).length)) := by
      have e := kas_range (pairsOf (vals xs))
      rw [pairsOf_size] at e
      show SortSt.mk' oneType' (pairsOf (vals xs)) #[] 7 none = SortSt.mk' oneType' ((List.toArray (List.range (vals xs).length)).map (kas_item (pairsOf (vals xs)))) #[] 7 none
      rw [e]
    have hgd : ∀ i, i < xs.length → (vals xs).getD i .none = (xs.getD i d0).1 ∧ xs.getD i d0 ∈ xs := fun i hi => by
      constructor
      · simp [vals, hi]
      · simp [hi]
    have run := kas_runs (prog := C.prog) (w := C.w) (A := A) (E := E) (κ := oneType') (it := pairsOf (vals xs)) (n := (vals xs).length) (s := { s with heap := H3 })
      (Q := fun _ st' s' => s' = { s with heap := H3 } ∧ failedOf st' = none ∧ ∃ ys, (arrOf st').map (·.2) = (vals ys).toArray ∧ ys.Perm xs ∧ Srt ys)
      (G := fun p s' => s' = { s with heap := H3 } ∧ Pm xs.length p ∧ SP (fun i j => rlt (xs.getD i d0).2 (xs.getD j d0).2) p xs.length)
      h2' (by omega) (fun p' st' s' a1 a2 a3 ⟨a4, a5, a6⟩ => ⟨a4, a3, p'.toList.map (fun i => xs.getD i d0), by
        have hs5 := a5.size
        apply Array.toList_inj.mp
        rw [a2, Array.map_map, Array.toList_map]
        simp only [vals, List.map_map]
        refine List.map_congr_left fun i hi => ?_
        have hi' : i < xs.length := by
          have := a5.perm.mem_iff.mp hi
          simpa using this
        show (kas_item (pairsOf (vals xs)) i).2 = _
        rw [kas_item_eq]
        exact (hgd i hi').1, gets_perm a5, gets_srt a5 a6⟩)
      (by
        rw [← kas_ask_eq]
        refine kas_into (n := xs.length) (f := fun i j => rlt (xs.getD i d0).2 (xs.getD j d0).2) (s := { s with heap := H3 }) (fun i j Cc hi hj hc => ?_) (KW.mono (by rw [hvl]; exact w_sort (srt_ord hn) (by rw [← hvl]; exact h2')) fun p hp => ⟨rfl, hp⟩)
        unfold kas_ask
        rw [(hgd i hi).1, (hgd j hj).1]
        exact row_key hs3 (hX _ (hgd i hi).2) (hX _ (hgd j hj).2) hu hc)
    rw [← est] at run
    refine wpAny_bind (wpAny_mono run ?_ fun _ _ e => e)
    rintro ⟨⟨⟩, st'⟩ s' ⟨rfl, hf, ys, hout, hp, hS⟩
    exact fin st' ys hout hf hp hS
end

end
section


section
variable {C : Cx} {F : Frz} {l : Ledger} {A : Around} {E : Value → Shared → Prop} {s : Shared} {env : Env}
/-- what is collected, and then sorted -/
noncomputable def SortIn (C : Cx) (A : Around) (E : Value → Shared → Prop) (Q : Value → Shared → Prop) (vs : List Value) (s : Shared) : Prop :=
  ∃ F l, St C F l s ∧ vs.length < 64 ∧ ∀ D s₂, St C F ((D, IsL vs) :: l) s₂ → wpAny C.M A (Builtin.«list.sort» ⟨[.ref D], []⟩) (fun fin s₃ => fin = .done (.ret .none) ∧ Q (.ref D) s₃) E s₂
theorem c_sorted {v : Value} {Q : Value → Shared → Prop} (h : wpAny C.M A.in1 (collect v) (SortIn C A.in1.in1 E Q) E s) : wpAny C.M A (call (.builtin "sorted") [v]) Q E s := by
  refine Calls.call_function_entry kind_sorted plain_sorted entry_sorted (args_sorted1 _) ?_
  unfold Builtin.«sorted»
  refine wpAny_bind (m := checkCount "sorted" 1 1 _) (wpAny_pure ?_)
  refine wpAny_bind (wpAny_mono h (fun vs s₁ h₁ => ?_) fun _ _ e => e)
  obtain ⟨F, l, hs, hz, k⟩ := h₁
  refine wpAny_bind (wpAny_newList ?_ (by rw [sizeLine_eq]; omega))
  have hs2 : St C F ((s₁.heap.objs.size, IsL vs) :: l) { s₁ with heap := s₁.heap.push (seqObj "list" vs.toArray 0) } := hs.new (P := IsL vs) ⟨0, rfl⟩ rfl rfl
  obtain ⟨n, ho⟩ := hs2.lat (.head _)
  refine wpAny_bind (wpAny_holding (wpAny_call_entry slot_list_sort ⟨_, ho, rfl⟩ entry_list_sort (wpAny_mono (k _ _ hs2) (fun fin s₃ h₃ => ?_) fun _ _ e => e) (args_list_sort _)))
  obtain ⟨rfl, h₃⟩ := h₃
  exact ⟨_, rfl, wpAny_pure ⟨_, rfl, h₃⟩⟩
theorem col_list {a : Addr} {vs : List Value} {Q : List Value → Shared → Prop} (hs : St C F l s) (hm : (a, IsL vs) ∈ l) (hz : vs.length < 64) (h : ∀ s', St C F l s' → Q vs s') : wpAny C.M A (collect (.ref a)) Q E s := by
  refine collect_list (hs.isList hm) (h _ ?_) (by rw [sizeLine_eq]; omega)
  refine hs.ext fun b o e => ?_
  have hlt := Heap.lt_size e
  show ((s.heap.push _).update s.heap.objs.size _).get? b = _
  rw [Heap.get?_update_ne _ _ _ _ (Nat.ne_of_lt hlt), Heap.get?_push_ne _ _ _ (Nat.ne_of_lt hlt)]
  exact e
theorem sorted_rows {a : Addr} {xs : List X} {Q : Value → Shared → Prop} (hs : St C F l s) (hm : (a, IsL (vals xs)) ∈ l) (hX : Rows F xs) (hn : (xs.map (·.2)).Nodup) (h64 : xs.length < 64) (hu : A.units + 2 < cLine)
    (h : ∀ D ys s', ys.Perm xs → Srt ys → St C F ((D, IsL (vals ys)) :: l) s' → Q (.ref D) s') : wpAny C.M A (call (.builtin "sorted") [.ref a]) Q E s := by
  have hvl : (vals xs).length = xs.length := by simp [vals]
  refine c_sorted (col_list hs hm (by omega) fun s1 hs1 => ⟨F, l, hs1, by omega, fun D s2 hs2 => ?_⟩)
  exact lsort_rows hs2 hX hn h64 hu fun ys s3 hp hS hs3 => ⟨rfl, h D ys s3 hp hS hs3⟩
end

end
section


abbrev kS (C : Cx) : KeyKind C.prog C.w Str := PySem.strKind C.prog C.w
noncomputable def byTx (C : Cx) : Bool := C.w.params.followText "set-order"
noncomputable def SetH (C : Cx) (us : List (Str × Tok)) : OP := fun o => o.ExactSet ∧ ∃ es ep t, o.data = .set es ep t ∧ t.fits es.size = true ∧ es.size < 100 ∧ ElemsOf (kS C) es.toList ∧ (es.toList.map (·.2)).Perm (strValues us) ∧ (us.map (·.1)).Nodup ∧
  (byTx C = true ∨ t.led = true) ∧ (t.plain = false ∨ es.size = 0)
noncomputable def addS (us : List (Str × Tok)) (x : Str) (t : Tok) : List (Str × Tok) := if x ∈ us.map (·.1) then us else us ++ [(x, t)]

theorem layNew_led (t : SetTable) (es : Array (Int × Value)) (h : Int) (x : Value) : (layNew t es h x).2.1.led = t.led := by
  have put_led : ∀ (j : Nat), (t.put j).1.led = t.led := fun j => rfl
  have or_led : ∀ (t' : SetTable) (n : Nat), (t'.orStandIn n).led = t'.led := fun t' n => by
    unfold SetTable.orStandIn
    split <;> rfl
  unfold layNew
  split
  · exact (or_led _ _).trans (put_led _)
  · rfl
theorem relayAll_led (t : SetTable) (es : Array (Int × Value)) (n : Nat) : (relayAll t es n).2.1.led = t.led ∧ (t.plain = false → (relayAll t es n).2.1.plain = false) := by
  unfold relayAll
  split
  · rename_i t' order he
    have key : t'.led = t.led ∧ t'.plain = t.plain := by
      unfold SetTable.relaid SetTable.laid at he
      cases h1 : SetTable.layClean (SetTable.sizeAbove n - 1) (es.map (·.1)) with
      | none => rw [h1] at he; cases he
      | some ow =>
        rw [h1] at he
        simp only [bind, Option.bind, pure, Option.some.injEq, Prod.mk.injEq] at he
        obtain ⟨rfl, _⟩ := he
        exact ⟨rfl, rfl⟩
    dsimp only
    split
    · exact ⟨key.1, fun h => key.2.trans h⟩
    · exact ⟨rfl, fun _ => rfl⟩
  · exact ⟨rfl, fun _ => rfl⟩
theorem strs_of (us : List (Str × Tok)) (x : Str) {C : Cx} : (∃ v ∈ strValues us, (kS C).is x v = true) ↔ x ∈ us.map (·.1) := by
  constructor
  · rintro ⟨v, hv, hx⟩
    obtain ⟨u, hu, rfl⟩ := List.mem_map.mp hv
    obtain ⟨t, e⟩ := Value.isStrOf_shape (x := x) (v := .str u.1 u.2) hx
    injection e with e1
    rw [← e1]; exact List.mem_map_of_mem hu
  · intro h
    obtain ⟨u, hu, rfl⟩ := List.mem_map.mp h
    exact ⟨.str u.1 u.2, List.mem_map.mpr ⟨u, hu, rfl⟩, by simp [PySem.strKind, Value.isStrOf]⟩

section
variable {C : Cx} {F : Frz} {l : Ledger} {A : Around} {E : Value → Shared → Prop} {s : Shared} {env : Env}
theorem makes_set : Makes C A (SetH C []) (newSet (.type "set")) := fun F l s Q E hs h => by
  unfold newSet setsByText
  refine wpAny_bind (wpAny_bind (wpAny_askSetting (wpAny_pure ?_)))
  show wpAny _ _ (newObj (.type "set") _) _ _ _
  refine wpAny_newObj_type (h _ _ (hs.new (P := SetH C []) ?_ rfl rfl)) (by size_fits)
  refine ⟨⟨rfl, rfl, rfl⟩, #[], 0, _, rfl, by rfl, by decide, (fun e he => by cases he), .refl _, List.nodup_nil, ?_, .inr rfl⟩
  show byTx C = true ∨ (!byTx C) = true
  cases byTx C <;> simp
end

end
section


noncomputable def SetOk (C : Cx) (us : List (Str × Tok)) (es : Array (Int × Value)) (t : SetTable) : Prop := t.fits es.size = true ∧ es.size < 100 ∧ ElemsOf (kS C) es.toList ∧ (es.toList.map (·.2)).Perm (strValues us) ∧ (us.map (·.1)).Nodup ∧
  (byTx C = true ∨ t.led = true) ∧ (t.plain = false ∨ es.size = 0)

section
variable {C : Cx} {F : Frz} {l : Ledger} {A : Around} {E : Value → Shared → Prop} {s : Shared} {env : Env}
theorem st_store {a : Addr} {us us' : List (Str × Tok)} {es : Array (Int × Value)} {t : SetTable} {l' : Ledger} {Q : Unit → Shared → Prop} (hs : St C F l s) (u : Upd a (SetH C us) (SetH C us') l l') (hk : SetOk C us' es t) (h : ∀ s', St C F l' s' → Q () s') :
    wpAny C.M A (storeSet a es t) Q E s := by
  obtain ⟨o, ho, hex, es0, ep0, t0, hd, _⟩ := hs.at u.mem
  refine wpAny_storeSet_of ho hd (h _ ?_) (by rw [sizeLine_eq]; have := hk.2.1; omega)
  refine hs.upd u (Heap.SameBut.update ..).extBut ⟨{ o with data := .set es (ep0 + 1) t }, ?_, hex, es, ep0 + 1, t, rfl, hk⟩
  have := Heap.get?_update_self (Obj.putSet es t) ho (by rw [putSet_of es t hd]; rfl)
  rw [putSet_of es t hd] at this
  exact this

theorem Upd.self {a : Addr} {P P' : OP} {l l' : Ledger} (u : Upd a P P' l l') : Upd a P' P' l' l' := by
  induction u with
  | here => exact .here
  | there _ ih => exact .there ih
theorem set_add {a : Addr} {x : Str} {t : Tok} {us : List (Str × Tok)} {l' : Ledger} {Q : Value → Shared → Prop} (hs : St C F l s) (u : Upd a (SetH C us) (SetH C (addS us x t)) l l') (hz : us.length < 60) (h : ∀ s', St C F l' s' → Q .none s') :
    wpAny C.M A (call (.builtin "set.add") [.ref a, .str x t]) Q E s := by
  obtain ⟨o, ho, hex, es, ep, tb, hd, hk⟩ := hs.at u.mem
  have hk0 : SetOk C us es tb := hk
  obtain ⟨hf, hsz, hel, hpm, hnd, hled, hpl⟩ := hk
  have hT : s.TypeIs (.ref a) "set" := ⟨o, ho, hex.1⟩
  have hkey : (kS C).is x (.str x t) = true := by simp [PySem.strKind, Value.isStrOf]
  have hsc : (Value.str x t).scannable = true := rfl
  have hesz : es.size = us.length := by
    have := hpm.length_eq
    simpa [strValues] using this
  refine wpAny_call_entry PySem.F.slot_set_add hT PySem.F.entry_set_add ?_ (PySem.F.args_set_add_2 _ _)
  unfold Builtin.«set.add» Builtin.Frozenset.oneOther
  simp only [List.isEmpty_nil, bind_assoc]
  unfold Builtin.Frozenset.addrOf setAdd
  refine wpAny_bind (wpAny_pure ?_)
  try dsimp only
  refine wpAny_bind (wpAny_pure ?_)
  try dsimp only
  refine wpAny_bind ?_
  refine wpAny_holding ?_
  refine wpAny_bind ((kS C).pyHash hkey ?_)
  have hs1 := hs.tok (s.toks + 1)
  have fin : ∀ (s' : Shared), St C F l' s' → wpAny C.M A.in1 (ret .none) (fun fin s' => ∃ r, fin = .done (.ret r) ∧ Q r s') E s' := fun s' hs' => wpAny_pure ⟨_, rfl, h s' hs'⟩
  unfold setAddHashed setAddHashedIn
  refine wpAny_holding (wpAny_bind (wpAny_setState_of (s := { s with toks := s.toks + 1 }) ho hd hf ?_))
  dsimp only
  rw [byScan_of hsc (Nat.lt_trans hsz (by decide)) hel]
  simp only [↓reduceIte]
  unfold setAddByScan
  refine wpAny_bind ?_
  refine wpAny_bind (wpAny_rule ?_)
  refine wpAny_bind (wpAny_setScan_of (s := { s with toks := s.toks + 1 }) hkey ho hd hf hel ?_)
  have hmem : x ∈ us.map (·.1) ↔ ∃ e ∈ es.toList, (kS C).is x e.2 = true := by
    rw [← strs_of us x (C := C)]
    constructor
    · rintro ⟨v, hv, hx⟩
      obtain ⟨e, he, rfl⟩ := List.mem_map.mp (hpm.mem_iff.mpr hv)
      exact ⟨e, he, hx⟩
    · rintro ⟨e, he, hx⟩
      exact ⟨e.2, hpm.mem_iff.mp (List.mem_map_of_mem he), hx⟩
  cases hr : List.findIdx? (fun e => (kS C).is x e.2) es.toList with
  | some j =>
    obtain ⟨hj, hpj, _⟩ := List.findIdx?_eq_some_iff_getElem.mp hr
    have hin : x ∈ us.map (·.1) := hmem.mpr ⟨es.toList[j], List.getElem_mem hj, hpj⟩
    have e1 : addS us x t = us := by unfold addS; rw [if_pos hin]
    rw [e1] at u
    dsimp only
    exact wpAny_pure (wpAny_pure (fin _ (hs1.upd u (Heap.ExtBut.refl _ _) ⟨o, ho, hex, es, ep, tb, hd, hk0⟩)))
  | none =>
    have hout : ¬ x ∈ us.map (·.1) := fun hin => by
      obtain ⟨e, he, hp⟩ := hmem.mp hin
      have := List.findIdx?_eq_none_iff.mp hr e he
      rw [hp] at this; cases this
    have e1 : addS us x t = us ++ [(x, t)] := by unfold addS; rw [if_neg hout]
    rw [e1] at u
    dsimp only
    have hgw : ∀ (b : Bool) {s₁ : Shared} {Q' : Unit → Shared → Prop}, Q' () s₁ → wpAny C.M A.in1 (match b with | true => rule "set.scan.the-table-gave-way" | false => pure ()) Q' E s₁ :=
      fun b s₁ Q' hq => by cases b <;> first | exact wpAny_pure hq | exact wpAny_rule hq
    have hperm := layNew_perm tb es ((kS C).hash x) (.str x t)
    have hfits := layNew_fits tb es ((kS C).hash x) (.str x t)
    have hledN := layNew_led tb es ((kS C).hash x) (.str x t)
    generalize layNew tb es ((kS C).hash x) (.str x t) = Ln at hperm hfits hledN ⊢
    obtain ⟨es1, t1, wasDummy, gave⟩ := Ln
    dsimp only at hperm hfits hledN ⊢
    rw [Array.toList_push] at hperm
    have hel1 : ElemsOf (kS C) es1.toList := (hel.push hkey hsc).perm hperm
    have hsz1 : es1.size = es.size + 1 := by rw [← Array.length_toList, hperm.length_eq, List.length_append, Array.length_toList]; rfl
    have hpm1 : (es1.toList.map (·.2)).Perm (strValues (us ++ [(x, t)])) := by
      refine (hperm.map _).trans ?_
      rw [List.map_append]
      show (_ ++ [Value.str x t]).Perm _
      rw [show strValues (us ++ [(x, t)]) = strValues us ++ [Value.str x t] by simp [strValues]]
      exact hpm.append_right _
    have hnd1 : ((us ++ [(x, t)]).map (·.1)).Nodup := by
      rw [List.map_append, List.nodup_append]
      exact ⟨hnd, by simp, fun a ha b hb e => by simp at hb; subst hb; exact hout (e ▸ ha)⟩
    have ok2 : SetOk C (us ++ [(x, t)]) es1 { t1 with plain := false } := ⟨SetTable.fits_plain_off hfits, by omega, hel1, hpm1, hnd1, hled.imp id fun q => by rw [← hledN] at q; exact q, .inl rfl⟩
    have okT : t1.plain = false → SetOk C (us ++ [(x, t)]) es1 t1 := fun q => ⟨hfits, by omega, hel1, hpm1, hnd1, hled.imp id fun q => by rw [← hledN] at q; exact q, .inl q⟩
    -- what is left behind the laying
    have tail : ∀ (t2 : SetTable), SetOk C (us ++ [(x, t)]) es1 t2 → t2.plain = false → ∀ (g : Bool → Sem Unit), (∀ (b : Bool) (s₁ : Shared) (Q' : Unit → Shared → Prop), Q' () s₁ → wpAny C.M A.in1 (g b) Q' E s₁) → ∀ (R : Option Bool → Shared → Prop), (∀ s', St C F l' s' → R (some true) s') →
        wpAny C.M A.in1 (do
          storeSet a es1 t2
          if (!wasDummy && t2.tooFull) = true then do
              g (relayAll t2 es1 (SetTable.grown es1.size)).2.2
              storeSet a (relayAll t2 es1 (SetTable.grown es1.size)).1 (relayAll t2 es1 (SetTable.grown es1.size)).2.1
              pure (some true)
            else pure (some true)) R E { s with toks := s.toks + 1 } := by
      intro t2 hok2 hp2 g hg R hR
      refine wpAny_bind (st_store hs1 u hok2 fun s2 hs2 => ?_)
      split
      · refine wpAny_bind (hg _ _ _ ?_)
        have hp := relayAll_perm t2 es1 (SetTable.grown es1.size)
        have hfr := relayAll_fits t2 es1 (SetTable.grown es1.size)
        obtain ⟨hl1, hl2⟩ := relayAll_led t2 es1 (SetTable.grown es1.size)
        have hz2 : (relayAll t2 es1 (SetTable.grown es1.size)).1.size = es1.size := by rw [← Array.length_toList, hp.length_eq, Array.length_toList]
        have ok3 : SetOk C (us ++ [(x, t)]) (relayAll t2 es1 (SetTable.grown es1.size)).1 (relayAll t2 es1 (SetTable.grown es1.size)).2.1 :=
          ⟨hfr, by rw [hz2]; exact hok2.2.1, hel1.perm hp, (hp.map _).trans hpm1, hnd1, hok2.2.2.2.2.2.1.imp id fun q => hl1.trans q, .inl (hl2 hp2)⟩
        have u2 := u.self
        exact wpAny_bind (st_store hs2 u2 ok3 fun s3 hs3 => wpAny_pure (hR s3 hs3))
      · exact wpAny_pure (hR s2 hs2)
    refine wpAny_bind (hgw _ ?_)
    have hend : ∀ s', St C F l' s' → wpAny C.M A.in1 (match some true with
        | some added => pure added
        | none => setAddHashedIn a (Value.str x t) ((kS C).hash x) 99999) (fun b s' => wpAny C.M A.in1 (ret .none) (fun fin s' => ∃ r, fin = .done (.ret r) ∧ Q r s') E s') E s' := fun s' hs' => wpAny_pure (fin s' hs')
    split
    · rw [hashByValue_scannable 8 hsc]
      refine wpAny_bind (wpAny_pure ?_)
      refine tail _ ok2 rfl _ (fun b s₁ Q' hq => by cases b <;> first | exact wpAny_pure hq | exact wpAny_rule hq) _ hend
    · rename_i hpp
      have hp1 : t1.plain = false := by simpa using hpp
      refine wpAny_bind (wpAny_pure ?_)
      simp only [↓reduceIte]
      refine tail _ (okT hp1) hp1 _ (fun b s₁ Q' hq => by cases b <;> first | exact wpAny_pure hq | exact wpAny_rule hq) _ hend
end

end
section


theorem choose_ {M : Model} {A : Around} {E : Value → Shared → Prop} {s : Shared} {src : Source} {n : Nat} {Q : Nat → Shared → Prop} (hn : n ≠ 0) (h : ∀ i d, i < n → Q i { s with drawn := d }) : wpAny M A (choose src n) Q E s := fun Γ p hΓ => by
  unfold choose
  rw [Sem.wp_choose]
  exact ⟨hn, by rw [Sem.wp_pure]; exact h _ _ (Nat.mod_lt _ (Nat.pos_of_ne_zero hn))⟩
theorem erase_perm {α : Type} : ∀ (xs : List α) (i : Nat) (h : i < xs.length), (xs[i] :: xs.eraseIdx i).Perm xs
  | x :: xs, 0, _ => .refl _
  | x :: xs, i + 1, h => by
    have h' : i < xs.length := by simpa using h
    show (xs[i] :: x :: xs.eraseIdx i).Perm (x :: xs)
    exact (List.Perm.swap _ _ _).trans ((erase_perm xs i h').cons x)
theorem draw_perm {α : Type} {M : Model} {A : Around} {E : Value → Shared → Prop} : ∀ (n : Nat) (xs : List α) (s : Shared) {Q : List α → Shared → Prop}, xs.length = n → (∀ ys d, ys.Perm xs → Q ys { s with drawn := d }) → wpAny M A (drawOrder n xs) Q E s
  | 0, xs, s, Q, hn, h => by
    have : xs = [] := List.length_eq_zero_iff.mp hn
    subst this
    exact wpAny_pure (h [] s.drawn (.refl _))
  | n + 1, [], s, Q, hn, h => by cases hn
  | n + 1, x :: xs, s, Q, hn, h => by
    unfold drawOrder
    refine wpAny_bind (choose_ (by simp) fun i d hi => ?_)
    rw [List.getElem?_eq_getElem hi]
    dsimp only
    refine wpAny_bind (draw_perm n _ _ ?_ fun ys d' hp => ?_)
    · rw [List.length_eraseIdx_of_lt hi]; omega
    · exact wpAny_pure (h _ d' ((hp.cons _).trans (erase_perm _ _ hi)))
theorem pick_go {α : Type} (next : Nat → Nat) : ∀ (fuel k : Nat) (left : List α) (out : Array α), left.length = fuel → (pickOrder.go next fuel k left out).toList.Perm (out.toList ++ left)
  | 0, k, left, out, hn => by
    have : left = [] := List.length_eq_zero_iff.mp hn
    subst this
    unfold pickOrder.go
    rw [List.append_nil]
  | fuel + 1, k, left, out, hn => by
    unfold pickOrder.go
    have hi : next k % left.length < left.length := Nat.mod_lt _ (by omega)
    rw [List.getElem?_eq_getElem hi]
    dsimp only
    refine (pick_go next fuel (k + 1) _ _ (by rw [List.length_eraseIdx_of_lt hi]; omega)).trans ?_
    rw [Array.toList_push, List.append_assoc]
    exact ((erase_perm _ _ hi).append_left _)
theorem pick_perm {α : Type} (next : Nat → Nat) (xs : Array α) : (pickOrder next xs).toList.Perm xs.toList := by
  unfold pickOrder
  have := pick_go next xs.size 0 xs.toList #[] (by simp)
  simpa using this

theorem entry_set_iter : entryFor table "set.__iter__" = some Builtin.«frozenset.__iter__» :=
  entryFor_alias (id' := "frozenset.__iter__") (by kernel_rfl) rfl (by decide +kernel) (by kernel_rfl)
theorem slot_si_next : Slot "set_iterator" "__next__" "set_iterator.__next__" :=
  .of (owner := "set_iterator") (n := "__next__") (by rw [typeLookup_type, builtinLookup_eq_fast]; kernel_rfl) (by decide +kernel) (by decide +kernel) (by decide +kernel)
    (by first | exact .inl (by decide +kernel) | exact .inr (by decide +kernel)) (by rw [isSubtype_type]; kernel_rfl)
theorem entry_si_next : entryFor table "set_iterator.__next__" = some Builtin.«set_iterator.__next__» := entryFor_of_tree (by kernel_rfl)
theorem args_si_next (a : Value) : argsOk "set_iterator.__next__" ⟨[a], []⟩ := by unfold argsOk; kernel_rfl
theorem slot_si_iter : typeLookup (.type "set") "__len__" = pure (some (.builtin "set.__len__")) := PySem.F.slot_set_len.lookup

noncomputable def IsO (o0 : Obj) : OP := fun o => o = o0
noncomputable def IsSI (vs : List Value) : OP := fun o => o.cls = .type "set_iterator" ∧ o.data = .fields vs.toArray
section
variable {C : Cx} {F : Frz} {l : Ledger} {A : Around} {E : Value → Shared → Prop} {s : Shared} {env : Env}
theorem St.drawn (hs : St C F l s) (d : Drawn) : St C F l { s with drawn := d } := hs.ext fun _ _ e => e
theorem St.obj {a : Addr} {o0 : Obj} (hs : St C F l s) (hm : (a, IsO o0) ∈ l) : s.heap.get? a = some o0 := let ⟨_, e, q⟩ := hs.at hm; by rw [e, q]
theorem St.setF {it : Addr} {vs : List Value} {i : Nat} {v : Value} {l' : Ledger} {Q : Unit → Shared → Prop} (hs : St C F l s) (u : Upd it (IsSI vs) (IsSI (vs.set i v)) l l') (hi : i < vs.length) (h : ∀ s', St C F l' s' → Q () s') : wpAny C.M A (setField (.ref it) i v) Q E s := by
  obtain ⟨o, ho, hc, hd⟩ := hs.at u.mem
  refine wpAny_setField ho hd (by simpa using hi) (h _ (hs.upd u (Heap.SameBut.update ..).extBut ⟨_, Heap.get?_update_self _ ho (Obj.isFreed_of_fields (Obj.data_mapFields hd _)), (Obj.cls_mapFields _ _).trans hc, ?_⟩))
  rw [Obj.data_mapFields hd]
  simp

/-- a set walked: what its iterator gives -/
structure Wk (C : Cx) (a : Addr) (o0 : Obj) (it : Addr) (J : Nat → OP) (ex : Ledger) (ys : List Value) : Prop where
  next : ∀ {F : Frz} {l l' : Ledger} {s : Shared} {A : Around} {i : Nat} {v : Value} {Q : Option Value → Shared → Prop} {E : Value → Shared → Prop}, St C F l s → (∀ p ∈ ex, p ∈ l) → (a, IsO o0) ∈ l → Upd it (J i) (J (i + 1)) l l' → ys[i]? = some v →
    (∀ s', St C F l' s' → Q (some v) s') → wpAny C.M A (pyNext (.ref it)) Q E s
  stop : ∀ {F : Frz} {l l' : Ledger} {s : Shared} {A : Around} {Q : Option Value → Shared → Prop} {E : Value → Shared → Prop}, St C F l s → (∀ p ∈ ex, p ∈ l) → (a, IsO o0) ∈ l → (it, J ys.length) ∈ l → Drop it l l' → A.handled = none →
    (∀ s', St C F l' s' → Q none s') → wpAny C.M A (pyNext (.ref it)) Q E s
end

end
section


section
variable {C : Cx} {F : Frz} {l : Ledger} {A : Around} {E : Value → Shared → Prop} {s : Shared} {env : Env}
theorem stop_exc {α : Type} {Q : α → Shared → Prop} (hs : St C F l s) (hh : A.handled = none) (hE : ∀ e s', St C F l s' → s'.TypeIs (.ref e) "StopIteration" → E (.ref e) s') : wpAny C.M A (newExc (.type "StopIteration") [] >>= fun e => (raiseNew e : Sem α)) Q E s := by
  refine wpAny_bind ?_
  simp only [newExc, newTuple]
  refine wpAny_bind (wpAny_newObj_type ?_ (by size_fits))
  refine wpAny_bind (m := firstArgMember _ _) (wpAny_of_eq (a := Value.none) (by first | rfl | (simp only [firstArgMember]; rfl)) ?_)
  refine wpAny_newObj_type ?_ (by size_fits)
  simp only [raiseNew]
  refine wpAny_bind (wpAny_handled ?_)
  rw [hh]
  refine wpAny_bind (wpAny_pure (wpAny_throw ?_))
  exact hE _ _ (hs.ext fun b o e => Heap.get?_push_of_some _ (Heap.get?_push_of_some _ e)) ⟨_, Heap.get?_push_size _ rfl, rfl⟩
theorem si_next {it : Addr} {vs : List Value} {Q : Option Value → Shared → Prop} (hs : St C F l s) (hm : (it, IsSI vs) ∈ l)
    (h : wpAny C.M A.in1 (Builtin.«set_iterator.__next__» ⟨[.ref it], []⟩) (fun fin s' => ∃ v, fin = .done (.ret v) ∧ Q (some v) s') (fun e s' => ∃ a, e = .ref a ∧ s'.TypeIs (.ref a) "StopIteration" ∧ Q none s') s) :
    wpAny C.M A (pyNext (.ref it)) Q E s := by
  obtain ⟨o, ho, hc, hd⟩ := hs.at hm
  have hT : s.TypeIs (.ref it) "set_iterator" := ⟨o, ho, hc⟩
  unfold pyNext
  refine wpAny_bind (wpAny_attempt (wpAny_callSpecial?_slot (name := Str.ofString "__next__") hT slot_si_next
    (wpAny_call_entry slot_si_next hT entry_si_next (wpAny_mono h (fun fin s' h' => ?_) fun e s' h' => ?_) (args_si_next _))))
  · obtain ⟨v, rfl, hq⟩ := h'
    exact ⟨v, rfl, wpAny_pure hq⟩
  · obtain ⟨a, rfl, hT', hq⟩ := h'
    refine wpAny_bind (wpAny_isInstance (T := "StopIteration") (b := true) hT' isSubtype_stop ?_)
    exact wpAny_pure hq

/-- places drawn -/
theorem wk_drawn {a it T : Addr} {o0 : Obj} {es : Array (Int × Value)} {ep : Nat} {t : SetTable} {ps : List Nat} (hd : o0.data = .set es ep t) (hf : t.fits es.size = true) (hp : ps.Perm (List.range es.size)) :
    Wk C a o0 it (fun (i : Nat) => IsSI [.ref T, .int (i : Int) 0, .ref a, .int (es.size : Int) 0, .int (ep : Int) 0]) [(T, IsT (ps.map fun (i : Nat) => Value.int (i : Int) 0))] (ps.map fun (i : Nat) => ((es[i]?).map (·.2)).getD .none) := by
  constructor
  · intro F l l' s A i v Q E hs hex ha u hv h
    have hT := hex _ (.head _)
    have hi : i < ps.length := by
      have := (List.getElem?_eq_some_iff.mp hv).1
      simpa using this
    have hpi : ps[i] ∈ List.range es.size := hp.mem_iff.mp (List.getElem_mem hi)
    have hlt : ps[i] < es.size := by simpa using hpi
    refine si_next hs u.mem ?_
    obtain ⟨o, ho, hc, hdi⟩ := hs.at u.mem
    have hoa := hs.obj ha
    unfold Builtin.«set_iterator.__next__»
    refine wpAny_bind (m := slotArgs _ _ _) (wpAny_pure ?_)
    refine wpAny_bind (wpAny_fieldsOf ho hdi ?_)
    dsimp only
    refine wpAny_bind (wpAny_setEntries_of hoa hd hf ?_)
    rw [if_neg (by simp)]
    show wpAny _ _ (seqItems? (.ref T) >>= _) _ _ _
    obtain ⟨oT, hoT, eT⟩ := hs.at hT
    refine wpAny_bind (wpAny_seqItems (items := (ps.map fun (i : Nat) => Value.int (i : Int) 0).toArray) hoT (by rw [eT]; rfl) ?_)
    dsimp only
    have hpl : (ps.map fun (i : Nat) => Value.int (i : Int) 0).toArray[((i : Int)).toNat]? = some (.int (ps[i] : Int) 0) := by simp [hi]
    rw [hpl]
    dsimp only
    unfold setNextDrawn
    refine wpAny_bind (wpAny_bind (wpAny_setState_of hoa hd hf ?_))
    dsimp only
    rw [if_neg (by simp)]
    rw [show ((ps[i] : Int)).toNat = ps[i] from rfl, Array.getElem?_eq_getElem hlt]
    dsimp only
    refine wpAny_pure ?_
    refine wpAny_bind (hs.setF (l' := l') (it := it) (vs := [.ref T, .int (i : Int) 0, .ref a, .int (es.size : Int) 0, .int (ep : Int) 0]) (i := 1) (v := .int ((i : Int) + 1) 0) ?_ (by simp) fun s' hs' => wpAny_pure ⟨_, rfl, ?_⟩)
    · exact u
    · have : v = es[ps[i]].2 := by
        rw [List.getElem?_map, List.getElem?_eq_getElem hi] at hv
        simp [hlt] at hv
        exact hv.symm
      rw [← this]
      exact h s' hs'
  · intro F l l' s A Q E hs hex ha hm u hh h
    have hT := hex _ (.head _)
    refine si_next hs hm ?_
    obtain ⟨o, ho, hc, hdi⟩ := hs.at hm
    have hoa := hs.obj ha
    unfold Builtin.«set_iterator.__next__»
    refine wpAny_bind (m := slotArgs _ _ _) (wpAny_pure ?_)
    refine wpAny_bind (wpAny_fieldsOf ho hdi ?_)
    dsimp only
    refine wpAny_bind (wpAny_setEntries_of hoa hd hf ?_)
    rw [if_neg (by simp)]
    show wpAny _ _ (seqItems? (.ref T) >>= _) _ _ _
    obtain ⟨oT, hoT, eT⟩ := hs.at hT
    refine wpAny_bind (wpAny_seqItems (items := (ps.map fun (i : Nat) => Value.int (i : Int) 0).toArray) hoT (by rw [eT]; rfl) ?_)
    dsimp only
    have hpl : (ps.map fun (i : Nat) => Value.int (i : Int) 0).toArray[(((ps.map fun (i : Nat) => ((es[i]?).map (·.2)).getD Value.none).length : Int)).toNat]? = none := by simp
    rw [hpl]
    dsimp only
    refine wpAny_bind (wpAny_setField ho hdi (by simp) ?_)
    have ho1 := Heap.get?_update_self (Obj.mapFields (·.setIfInBounds 0 (rawInt 0))) ho (Obj.isFreed_of_fields (Obj.data_mapFields hdi _))
    refine wpAny_bind (wpAny_setField ho1 (Obj.data_mapFields hdi _) (by simp) ?_)
    have hs' := hs.drop (s' := { s with heap := (s.heap.update it (Obj.mapFields (·.setIfInBounds 0 (rawInt 0)))).update it (Obj.mapFields (·.setIfInBounds 2 .none)) }) u
      ((Heap.SameBut.update ..).trans (Heap.SameBut.update ..)).extBut
    exact stop_exc hs' hh fun e s' hs'' hT' => ⟨e, rfl, hT', h s' hs''⟩
end

end
section


section
variable {C : Cx} {F : Frz} {l : Ledger} {A : Around} {E : Value → Shared → Prop} {s : Shared} {env : Env}
/-- one place after the other -/
theorem wk_plain {a it : Addr} {o0 : Obj} {es : Array (Int × Value)} {ep : Nat} {t : SetTable} {fs : Nat → Nat} {ys : List Value} (hd : o0.data = .set es ep t) (hf : t.fits es.size = true) (h0 : fs 0 = 0)
    (hsome : ∀ {F : Frz} {l : Ledger} {s : Shared} {A : Around} {i : Nat} {v : Value} {Q : Option (Value × Nat) → Shared → Prop} {E : Value → Shared → Prop}, St C F l s → (a, IsO o0) ∈ l → ys[i]? = some v → (Q (some (v, fs (i + 1))) s) → wpAny C.M A (setNext a (fs i) i ep) Q E s)
    (hnone : ∀ {F : Frz} {l : Ledger} {s : Shared} {A : Around} {Q : Option (Value × Nat) → Shared → Prop} {E : Value → Shared → Prop}, St C F l s → (a, IsO o0) ∈ l → (Q none s) → wpAny C.M A (setNext a (fs ys.length) ys.length ep) Q E s) :
    Wk C a o0 it (fun (i : Nat) => IsSI [.int (fs i : Int) 0, .int (i : Int) 0, .ref a, .int (es.size : Int) 0, .int (ep : Int) 0]) [] ys := by
  constructor
  · intro F l l' s A i v Q E hs hex ha u hv h
    refine si_next hs u.mem ?_
    obtain ⟨o, ho, hc, hdi⟩ := hs.at u.mem
    have hoa := hs.obj ha
    unfold Builtin.«set_iterator.__next__»
    refine wpAny_bind (m := slotArgs _ _ _) (wpAny_pure ?_)
    refine wpAny_bind (wpAny_fieldsOf ho hdi ?_)
    dsimp only
    refine wpAny_bind (wpAny_setEntries_of hoa hd hf ?_)
    rw [if_neg (by simp)]
    show wpAny _ _ (setNext a (fs i) i ep >>= _) _ _ _
    refine wpAny_bind (hsome hs ha hv ?_)
    dsimp only
    have hu : ∃ lA, Upd it (IsSI [.int (fs i : Int) 0, .int (i : Int) 0, .ref a, .int (es.size : Int) 0, .int (ep : Int) 0]) (IsSI [.int (fs (i + 1) : Int) 0, .int (i : Int) 0, .ref a, .int (es.size : Int) 0, .int (ep : Int) 0]) l lA ∧
        Upd it (IsSI [.int (fs (i + 1) : Int) 0, .int (i : Int) 0, .ref a, .int (es.size : Int) 0, .int (ep : Int) 0]) (IsSI [.int (fs (i + 1) : Int) 0, .int ((i : Int) + 1) 0, .ref a, .int (es.size : Int) 0, .int (ep : Int) 0]) lA l' := by
      clear hs hex ha h ho hoa
      induction u with
      | here => exact ⟨_, .here, .here⟩
      | there _ ih => obtain ⟨lA, h1, h2⟩ := ih; exact ⟨_, .there h1, .there h2⟩
    obtain ⟨lA, u1, u2⟩ := hu
    refine wpAny_bind (hs.setF (l' := lA) (it := it) (vs := [.int (fs i : Int) 0, .int (i : Int) 0, .ref a, .int (es.size : Int) 0, .int (ep : Int) 0]) (i := 0) (v := .int (fs (i + 1) : Int) 0) u1 (by simp) fun s1 hs1 => ?_)
    refine wpAny_bind (hs1.setF (l' := l') (it := it) (vs := [.int (fs (i + 1) : Int) 0, .int (i : Int) 0, .ref a, .int (es.size : Int) 0, .int (ep : Int) 0]) (i := 1) (v := .int ((i : Int) + 1) 0) u2 (by simp) fun s2 hs2 => ?_)
    exact wpAny_pure ⟨_, rfl, h s2 hs2⟩
  · intro F l l' s A Q E hs hex ha hm u hh h
    refine si_next hs hm ?_
    obtain ⟨o, ho, hc, hdi⟩ := hs.at hm
    have hoa := hs.obj ha
    unfold Builtin.«set_iterator.__next__»
    refine wpAny_bind (m := slotArgs _ _ _) (wpAny_pure ?_)
    refine wpAny_bind (wpAny_fieldsOf ho hdi ?_)
    dsimp only
    refine wpAny_bind (wpAny_setEntries_of hoa hd hf ?_)
    rw [if_neg (by simp)]
    show wpAny _ _ (setNext a (fs ys.length) ys.length ep >>= _) _ _ _
    refine wpAny_bind (hnone hs ha ?_)
    dsimp only
    refine wpAny_bind (wpAny_setField ho hdi (by simp) ?_)
    have hs' := hs.drop (s' := { s with heap := s.heap.update it (Obj.mapFields (·.setIfInBounds 2 .none)) }) u (Heap.SameBut.update ..).extBut
    exact stop_exc hs' hh fun e s' hs'' hT' => ⟨e, rfl, hT', h s' hs''⟩

theorem wk_text {a it : Addr} {o0 : Obj} {es : Array (Int × Value)} {ep : Nat} {t : SetTable} (hd : o0.data = .set es ep t) (hf : t.fits es.size = true) (hb : byTx C = true) :
    Wk C a o0 it (fun (i : Nat) => IsSI [.int ((0 : Nat) : Int) 0, .int (i : Int) 0, .ref a, .int (es.size : Int) 0, .int (ep : Int) 0]) [] ((pickOrder (C.w.params.setOrder a ep) es).toList.map (·.2)) := by
  have core : ∀ {F : Frz} {l : Ledger} {s : Shared} {A : Around} {i : Nat} {Q : Option (Value × Nat) → Shared → Prop} {E : Value → Shared → Prop}, St C F l s → (a, IsO o0) ∈ l → Q (((pickOrder (C.w.params.setOrder a ep) es)[i]?).map fun e => (e.2, 0)) s → wpAny C.M A (setNext a 0 i ep) Q E s := by
    intro F l s A i Q E hs ha h
    have hoa := hs.obj ha
    unfold setNext setsByText
    refine wpAny_bind (wpAny_setState_of hoa hd hf ?_)
    refine wpAny_bind (wpAny_bind (wpAny_askSetting (wpAny_pure ?_)))
    have hb' : C.w.params.followText "set-order" = true := hb
    show wpAny _ _ (if C.w.params.followText "set-order" = true then _ else _) _ _ _
    rw [hb', if_pos rfl, if_neg (by simp)]
    unfold setWalk setsByText
    refine wpAny_bind (wpAny_bind (wpAny_setState_of hoa hd hf ?_))
    refine wpAny_bind (wpAny_bind (wpAny_askSetting (wpAny_pure ?_)))
    show wpAny _ _ (if C.w.params.followText "set-order" = true then _ else _) _ _ _
    rw [hb', if_pos rfl]
    exact wpAny_bind (wpAny_askSetting (wpAny_pure (wpAny_pure h)))
  refine wk_plain (fs := fun _ => 0) hd hf rfl (fun {F l s A i v Q E} hs ha hv h => core hs ha ?_) (fun hs ha h => core hs ha ?_)
  · rw [List.getElem?_map] at hv
    rw [← Array.getElem?_toList]
    cases he : (pickOrder (C.w.params.setOrder a ep) es).toList[i]? with
    | none => rw [he] at hv; cases hv
    | some e =>
      rw [he] at hv
      cases hv
      exact h
  · rw [Array.getElem?_eq_none (by simp)]
    exact h
theorem wk_one {a it : Addr} {o0 : Obj} {es : Array (Int × Value)} {ep : Nat} {t : SetTable} (hd : o0.data = .set es ep t) (hf : t.fits es.size = true) (hb : byTx C = false) (hl : t.led = true) (h1 : es.size ≤ 1) :
    Wk C a o0 it (fun (i : Nat) => IsSI [.int ((if i = 0 then 0 else t.place.getD 0 0 + 1 : Nat) : Int) 0, .int (i : Int) 0, .ref a, .int (es.size : Int) 0, .int (ep : Int) 0]) [] (es.toList.map (·.2)) := by
  have hpl : t.place.size = es.size := by
    simp only [SetTable.fits, Bool.and_eq_true, beq_iff_eq] at hf
    exact hf.1
  have core : ∀ {F : Frz} {l : Ledger} {s : Shared} {A : Around} {i k : Nat} {Q : Option (Value × Nat) → Shared → Prop} {E : Value → Shared → Prop}, St C F l s → (a, IsO o0) ∈ l → Q (match es[SetTable.below t.place k]?, t.place[SetTable.below t.place k]? with
      | some (_, x), some j => some (x, j + 1)
      | _, _ => none) s → wpAny C.M A (setNext a k i ep) Q E s := by
    intro F l s A i k Q E hs ha h
    have hoa := hs.obj ha
    unfold setNext setsByText
    refine wpAny_bind (wpAny_setState_of hoa hd hf ?_)
    refine wpAny_bind (wpAny_bind (wpAny_askSetting (wpAny_pure ?_)))
    have hb' : C.w.params.followText "set-order" = false := hb
    show wpAny _ _ (if C.w.params.followText "set-order" = true then _ else _) _ _ _
    rw [hb', if_neg (by decide)]
    show wpAny _ _ (if (!t.plain && decide (es.size > 1)) = true then _ else _) _ _ _
    rw [if_neg (by rw [decide_eq_false (by omega : ¬ es.size > 1), Bool.and_false]; decide)]
    show wpAny _ _ ((if (!t.led && !es.isEmpty) = true then unsupported "set:maker-not-led" else pure ()) >>= _) _ _ _
    rw [if_neg (by rw [hl]; simp)]
    exact wpAny_bind (wpAny_pure (wpAny_pure h))
  refine wk_plain (fs := fun i => if i = 0 then 0 else t.place.getD 0 0 + 1) hd hf rfl (fun {F l s A i v Q E} hs ha hv h => core hs ha ?_) (fun hs ha h => core hs ha ?_)
  · have hi : i < es.size := by
      have := (List.getElem?_eq_some_iff.mp hv).1
      simpa using this
    have hi0 : i = 0 := by omega
    subst hi0
    have hs1 : es.size = 1 := by omega
    have hp1 : t.place.size = 1 := by omega
    have hbl : SetTable.below t.place 0 = 0 := by
      unfold SetTable.below
      rw [hp1]
      unfold SetTable.below.go
      simp [SetTable.below.go]
    rw [if_pos rfl, hbl, Array.getElem?_eq_getElem (by omega), Array.getElem?_eq_getElem (by omega)]
    rw [List.getElem?_map, Array.getElem?_toList, Array.getElem?_eq_getElem (by omega)] at hv
    cases hv
    have e2 : t.place[0] = t.place.getD 0 0 := by simp [Array.getD, hp1]
    rw [e2]
    exact h
  · have hout : es[SetTable.below t.place (if (es.toList.map (·.2)).length = 0 then 0 else t.place.getD 0 0 + 1)]? = none := by
      rw [List.length_map, Array.length_toList]
      by_cases h0 : es.size = 0
      · exact Array.getElem?_eq_none (by omega)
      · have hp1 : t.place.size = 1 := by omega
        rw [if_neg h0]
        refine Array.getElem?_eq_none ?_
        have : SetTable.below t.place (t.place.getD 0 0 + 1) = 1 := by
          have e0 : t.place[0]? = some t.place[0] := Array.getElem?_eq_getElem (by omega)
          unfold SetTable.below
          rw [hp1]
          unfold SetTable.below.go
          simp [SetTable.below.go, e0]
        omega
    rw [hout]
    exact h
end

end
section


section
variable {C : Cx} {F : Frz} {l : Ledger} {A : Around} {E : Value → Shared → Prop} {s : Shared} {env : Env}
theorem set_iter {a : Addr} {us : List (Str × Tok)} {o0 : Obj} {Q : Value → Shared → Prop} (hs : St C F l s) (hm : (a, IsO o0) ∈ l) (hP : SetH C us o0)
    (h : ∀ it J ex ys s', ys.Perm (strValues us) → Wk C a o0 it J ex ys → St C F ((it, J 0) :: ex ++ l) s' → s'.TypeIs (.ref it) "set_iterator" → Q (.ref it) s') : wpAny C.M A (pyIter (.ref a)) Q E s := by
  obtain ⟨hex, es, ep, t, hd, hf, hsz, hel, hpm, hnd, hled, hpl⟩ := hP
  have ho := hs.obj hm
  have hT : s.TypeIs (.ref a) "set" := ⟨o0, ho, hex.1⟩
  refine wpAny_pyIter_slot hT PySem.F.slot_set_iter (wpAny_call_entry PySem.F.slot_set_iter hT entry_set_iter ?_ (PySem.F.args_set_iter_1 _))
  unfold Builtin.«frozenset.__iter__»
  refine wpAny_bind (m := Builtin.Frozenset.slot0 _ _) (wpAny_pure ?_)
  unfold Builtin.Frozenset.sizeOf
  refine wpAny_bind (wpAny_bind (wpAny_setEntries_of ho hd hf (wpAny_pure ?_)))
  unfold setDrawn setsByText
  refine wpAny_bind (wpAny_bind (wpAny_setState_of ho hd hf ?_))
  refine wpAny_bind (wpAny_bind (wpAny_askSetting (wpAny_pure (wpAny_pure ?_))))
  -- what is left: the iterator is made
  have mk : ∀ (first : Value) (s1 : Shared) (l1 : Ledger), St C F l1 s1 → (a, IsO o0) ∈ l1 →
      (∀ it s', St C F ((it, IsSI [first, .int ((0 : Nat) : Int) 0, .ref a, .int (es.size : Int) 0, .int (ep : Int) 0]) :: l1) s' → s'.TypeIs (.ref it) "set_iterator" → Q (.ref it) s') →
      wpAny C.M A.in1 (do
        let it ← newFields "set_iterator" [first, rawInt 0, .ref a, rawInt es.size, rawInt (← setEpoch a)]
        ret it) (fun fin s' => ∃ r, fin = .done (.ret r) ∧ ∃ T' r', s'.TypeIs r T' ∧ typeLookup (.type T') "__next__" = pure (some r') ∧ Q r s') E s1 := by
    intro first s1 l1 hs1 hm1 k
    refine wpAny_bind (wpAny_setEpoch_of (hs1.obj hm1) hd hf ?_)
    unfold newFields
    refine wpAny_bind (wpAny_newObj_type ?_ (by size_fits))
    have hs2 := hs1.new (P := IsSI [first, .int ((0 : Nat) : Int) 0, .ref a, .int (es.size : Int) 0, .int (ep : Int) 0]) (o := { cls := .type "set_iterator", dict := none, data := .fields [first, rawInt 0, .ref a, rawInt es.size, rawInt ep].toArray }) ⟨rfl, rfl⟩ rfl
      (s' := { s1 with heap := s1.heap.push { cls := .type "set_iterator", dict := none, data := .fields [first, rawInt 0, .ref a, rawInt es.size, rawInt ep].toArray } }) rfl
    exact wpAny_pure ⟨_, rfl, "set_iterator", _, ⟨_, Heap.get?_push_size _ rfl, rfl⟩, slot_si_next.lookup, k _ _ hs2 ⟨_, Heap.get?_push_size _ rfl, rfl⟩⟩
  have hb' : C.w.params.followText "set-order" = byTx C := rfl
  show wpAny _ _ (if ((!C.w.params.followText "set-order") && (!t.plain && decide (es.size > 1))) = true then _ else _) _ _ _
  rw [hb']
  cases hb : byTx C with
  | true =>
    rw [if_neg (by simp)]
    refine wpAny_bind (wpAny_pure ?_)
    refine mk _ _ _ hs hm fun it s' hs' hT' => h it _ [] _ s' ?_ (wk_text hd hf hb) hs' hT'
    exact ((pick_perm _ es).map _).trans hpm
  | false =>
    have hl : t.led = true := by
      rcases hled with q | q
      · rw [hb] at q; cases q
      · exact q
    by_cases hdr : (!t.plain && decide (es.size > 1)) = true
    · rw [if_pos (by rw [hdr]; rfl)]
      refine wpAny_bind (draw_perm _ _ _ (by simp) fun ps d hp => ?_)
      have hs1 := hs.drawn d
      refine wpAny_bind (wpAny_newTuple ?_ ?_)
      rotate_left
      · show (ps.map fun (i : Nat) => rawInt i).length ≤ sizeLine
        rw [List.length_map, hp.length_eq, List.length_range, sizeLine_eq]; omega
      skip
      have hs2 := hs1.new (P := IsT (ps.map fun (i : Nat) => Value.int (i : Int) 0)) (o := tobj (ps.map fun (i : Nat) => Value.int (i : Int) 0)) rfl rfl
        (s' := { s with drawn := d, heap := s.heap.push (tobj (ps.map fun (i : Nat) => Value.int (i : Int) 0)) }) rfl
      refine mk _ _ _ hs2 (.tail _ hm) fun it s' hs' hT' => h it _ [_] _ s' ?_ (wk_drawn hd hf hp) hs' hT'
      refine (hp.map _).trans ?_
      have e : (List.range es.size).map (fun (i : Nat) => ((es[i]?).map (·.2)).getD Value.none) = es.toList.map (·.2) := by
        apply List.ext_getElem (by simp)
        intro i h1 h2
        have hi : i < es.size := by simpa using h1
        simp [hi]
      rw [e]
      exact hpm
    · rw [if_neg (by simpa using hdr)]
      refine wpAny_bind (wpAny_pure ?_)
      have h1 : es.size ≤ 1 := by
        rcases hpl with q | q
        · rw [q] at hdr; simp at hdr; omega
        · omega
      refine mk _ _ _ hs hm fun it s' hs' hT' => h it _ [] _ s' hpm (wk_one hd hf hb hl h1) hs' hT'
end

end
section


section
variable {C : Cx} {F : Frz} {l : Ledger} {A : Around} {E : Value → Shared → Prop} {s : Shared} {env : Env}
theorem ext_loop {a it S : Addr} {o0 : Obj} {J : Nat → OP} {ex : Ledger} {ys : List Value} {R : Result → Shared → Prop} (hh : A.handled = none) (K : Wk C a o0 it J ex ys) (hz : ys.length < 1000) (hex : ∀ p ∈ ex, p ∈ l) (ha : (a, IsO o0) ∈ l)
    (h : ∀ s', St C F ((S, IsL ys) :: l) s' → R (.ok (.ret (.ref S))) s') : ∀ (n i : Nat) (s : Shared), n + i = ys.length → St C F ((it, J i) :: (S, IsL (ys.take i)) :: l) s → codeAny C.M A (.builtin "list.extend.loop" ⟨[.ref S, .ref it, .ref S], []⟩) R s
  | 0, i, s, hn, hs => by
    have hi : i = ys.length := by omega
    subst hi
    rw [List.take_length] at hs
    refine codeAny_builtin PySem.F.entry_extend_loop ?_
    rw [Around.under_plainId PySem.F.plain_extend_loop _]
    show wpAny _ A.in1 (pyNext (.ref it) >>= _) _ _ s
    refine wpAny_bind (K.stop hs (fun p hp => .tail _ (.tail _ (hex p hp))) (.tail _ (.tail _ ha)) (.head _) .here hh fun s' hs' => ?_)
    exact wpAny_pure (h s' hs')
  | n + 1, i, s, hn, hs => by
    have hi : i < ys.length := by omega
    refine codeAny_builtin PySem.F.entry_extend_loop ?_
    rw [Around.under_plainId PySem.F.plain_extend_loop _]
    show wpAny _ A.in1 (pyNext (.ref it) >>= _) _ _ s
    refine wpAny_bind (K.next (i := i) (v := ys[i]) hs (fun p hp => .tail _ (.tail _ (hex p hp))) (.tail _ (.tail _ ha)) .here (List.getElem?_eq_getElem hi) fun s' hs' => ?_)
    show wpAny _ A.in1 (updateSeq S (·.push ys[i]) >>= _) _ _ _
    obtain ⟨c, ho⟩ := hs'.lat (a := S) (items := ys.take i) (.tail _ (.head _))
    refine wpAny_bind (wpAny_updateSeq ho rfl (wpAny_pure ⟨plainId_quiet PySem.F.plain_extend_loop _, ?_⟩) (by rw [List.size_toArray, List.length_take, sizeLine_eq]; omega) (by rw [Array.size_push, List.size_toArray, List.length_take, sizeLine_eq]; omega))
    refine ext_loop hh K hz hex ha h n (i + 1) _ (by omega) ?_
    refine hs'.mapSeq (.there .here) (·.push ys[i]) ?_ rfl
    rw [List.take_add_one, List.getElem?_eq_getElem hi]
    simp

theorem col_set {a : Addr} {us : List (Str × Tok)} {Q : List Value → Shared → Prop} (hs : St C F ((a, SetH C us) :: l) s) (hh : A.handled = none) (hz : us.length < 60)
    (h : ∀ vs s', vs.Perm (strValues us) → St C F l s' → Q vs s') : wpAny C.M A (collect (.ref a)) Q E s := by
  obtain ⟨o0, ho, hP⟩ := hs.at (.head _)
  have hs0 : St C F ((a, IsO o0) :: l) s := hs.upd .here (Heap.ExtBut.refl _ _) ⟨o0, ho, rfl⟩
  have hT0 : s.TypeIs (.ref a) "set" := ⟨o0, ho, hP.1.1⟩
  unfold collect
  refine wpAny_bind (wpAny_runValue (codeAny_builtin PySem.F.entry_proto_collect ?_))
  rw [Around.under_plainId PySem.F.plain_proto_collect _]
  show wpAny _ A.in1 (newList [] >>= fun l => again (.builtin "list.__iadd__" ⟨[l, .ref a], []⟩)) _ _ s
  refine wpAny_bind (wpAny_newObj_type ?_ (by size_fits))
  have hs1 : St C F ((s.heap.objs.size, IsL []) :: (a, IsO o0) :: l) { s with heap := s.heap.push { cls := .type "list", data := .seq ([] : List Value).toArray } } := hs0.new (P := IsL []) ⟨0, rfl⟩ rfl rfl
  have hT1 : ({ s with heap := s.heap.push { cls := .type "list", data := .seq ([] : List Value).toArray } } : Shared).TypeIs (.ref a) "set" := ⟨o0, hs1.obj (.tail _ (.head _)), hP.1.1⟩
  have hne : s.heap.objs.size ≠ a := Nat.ne_of_gt (Heap.lt_size ho)
  refine wpAny_pure ⟨plainId_quiet PySem.F.plain_list_iadd _, codeAny_builtin PySem.F.entry_list_iadd ?_⟩
  rw [Around.under_plainId PySem.F.plain_list_iadd _]
  have h1 : Builtin.List.listSameRef (.ref s.heap.objs.size) (.ref a) = false := by simp [Builtin.List.listSameRef, hne]
  show wpAny _ A.in1 (Builtin.List.listExtendWith (.ref s.heap.objs.size) (.ref a) (.ref s.heap.objs.size)) _ _ _
  generalize s.heap.objs.size = S at hs1 h1 ⊢
  unfold Builtin.List.listExtendWith
  refine wpAny_bind (wpAny_typeOf hT1 ?_)
  rw [if_neg (by rw [h1]; decide)]
  refine wpAny_bind (set_iter (l := (S, IsL []) :: (a, IsO o0) :: l) hs1 (.tail _ (.head _)) hP fun it J ex ys s2 hp K hs2 hTi => ?_)
  have hT2 : s2.TypeIs (.ref a) "set" := ⟨o0, hs2.obj (.tail _ (List.mem_append_right _ (.tail _ (.head _)))), hP.1.1⟩
  refine wpAny_bind (wpAny_holding ?_)
  unfold Builtin.List.listLengthHint
  refine wpAny_bind (wpAny_specialOf hT2 PySem.F.slot_set_len.lookup ?_)
  (generalize hid : ("set.__len__" : String) = id0; (fail_if_success (clear hid id0)); wp_delta; rw [show splitId id0 = some ("set", "__len__") from by subst hid; decide +kernel]; subst hid)
  refine wpAny_bind (wpAny_isInstance (b := true) hT2 (by rw [isSubtype_type]; kernel_rfl) ?_)
  rw [if_neg (by decide)]
  dsimp only
  rw [if_pos (by decide +kernel)]
  refine wpAny_bind (wpAny_typeOf hT2 ?_)
  refine wpAny_pure ?_
  rw [if_pos (by decide +kernel)]
  have hs3 : St C F ((it, J 0) :: (S, IsL []) :: (ex ++ (a, IsO o0) :: l)) s2 := hs2.perm (by
    refine List.Perm.cons _ ?_
    exact List.perm_middle.symm)
  refine wpAny_bind (wpAny_rule ?_)
  unfold Builtin.List.listTouch
  obtain ⟨c, ho3⟩ := hs3.lat (a := S) (items := []) (.tail _ (.head _))
  refine wpAny_bind (wpAny_bind (listUpdate_at ho3 rfl ?_ (by simp [sizeLine_eq]) (by simp [sizeLine_eq])))
  have hs4 : St C F ((it, J 0) :: (S, IsL [.none]) :: (ex ++ (a, IsO o0) :: l)) { s2 with heap := s2.heap.update S (Obj.mapSeq (·.push .none)) } := hs3.mapSeq (.there .here) (·.push .none) rfl rfl
  obtain ⟨c4, ho4⟩ := hs4.lat (a := S) (items := [.none]) (.tail _ (.head _))
  refine listUpdate_at ho4 rfl ?_ (by simp [sizeLine_eq]) (by simp [sizeLine_eq])
  have hs5 := hs4.mapSeq (items' := []) (l' := (it, J 0) :: (S, IsL []) :: (ex ++ (a, IsO o0) :: l)) (s' := { s2 with heap := (s2.heap.update S (Obj.mapSeq (·.push .none))).update S (Obj.mapSeq (·.pop)) }) (.there .here) (·.pop) rfl rfl
  have hyl : ys.length = us.length := by rw [hp.length_eq]; simp [strValues]
  refine wpAny_pure ⟨plainId_quiet PySem.F.plain_extend_loop _, ext_loop (l := ex ++ (a, IsO o0) :: l) hh K (by omega) (fun p hp => List.mem_append_left _ hp) (List.mem_append_right _ (.head _)) (fun s6 hs6 => ?_) ys.length 0 _ (by omega) hs5⟩
  show wpAny _ A (load S >>= _) _ _ s6
  obtain ⟨c6, ho6⟩ := hs6.lat (.head _)
  refine wpAny_bind (wpAny_load ho6 ?_)
  refine wpAny_pure (h ys s6 hp (hs6.sub ?_))
  refine List.Sublist.cons _ ?_
  exact (List.sublist_cons_self _ _).trans (List.sublist_append_right ex _)

theorem perm_strs {us : List (Str × Tok)} {vs : List Value} (hp : vs.Perm (strValues us)) : ∃ ws : List (Str × Tok), vs = strValues ws ∧ ws.Perm us := by
  have key : ∀ {vs ws : List Value}, vs.Perm ws → ∀ us, ws = strValues us → ∃ zs : List (Str × Tok), vs = strValues zs ∧ zs.Perm us := by
    intro vs ws h
    induction h with
    | nil => intro us e; exact ⟨us, e, .refl _⟩
    | cons x h ih =>
      intro us e
      cases us with
      | nil => cases e
      | cons u us =>
        have e' : x = .str u.1 u.2 ∧ _ = strValues us := List.cons.inj e
        obtain ⟨zs, h1, h2⟩ := ih us e'.2
        exact ⟨u :: zs, by rw [h1, e'.1]; rfl, h2.cons _⟩
    | swap x y l =>
      intro us e
      match us, e with
      | u :: u' :: us, e =>
        have e1 : x = .str u.1 u.2 ∧ y :: l = strValues (u' :: us) := List.cons.inj e
        have e2 : y = .str u'.1 u'.2 ∧ l = strValues us := List.cons.inj e1.2
        exact ⟨u' :: u :: us, by rw [e1.1, e2.1, e2.2]; rfl, .swap _ _ _⟩
    | trans h1 h2 ih1 ih2 =>
      intro us e
      obtain ⟨zs, e2, p2⟩ := ih2 us e
      obtain ⟨ws, e1, p1⟩ := ih1 zs e2
      exact ⟨ws, e1, p1.trans p2⟩
  exact key hp us rfl
theorem strs_are : ∀ us : List (Str × Tok), StrsAre (strValues us) (us.map (·.1))
  | [] => .nil
  | u :: us => .cons u.1 u.2 (strs_are us)
theorem lsort_strs {a : Addr} {us : List (Str × Tok)} {P : PySem.Fin → Shared → Prop} (hs : St C F ((a, IsL (strValues us)) :: l) s) (h64 : us.length < 64)
    (h : ∀ ws s', ws.Perm us → St C F ((a, IsL (strValues ws)) :: l) s' → P (.done (.ret .none)) s') : wpAny C.M A (Builtin.«list.sort» ⟨[.ref a], []⟩) P E s := by
  obtain ⟨n, ho⟩ := hs.lat (.head _)
  have ho' : s.heap.get? a = some (seqObj "list" (strValues us).toArray n) := ho
  have hsl : (strValues us).length = us.length := by simp [strValues]
  refine list_sort_treeK strKind_oneLt ho' (strs_are us).keysOf (fun v₁ v₂ rest e => keyKind_strs (ss := us.map (·.1)) (by rw [← e]; exact strs_are us)) (by omega) fun st' hp hS => ?_
  have hout : ((arrOf st').map (·.2)).toList.Perm (strValues us) := by
    rw [Array.toList_map]
    have h1 := (Array.perm_iff_toList_perm.mp hp).map (fun p : Keyed => p.2)
    rw [pairsOf_toList] at h1
    have h2 : ((strValues us).zip (strValues us)).map (fun p : Keyed => p.2) = strValues us := List.map_snd_zip (Nat.le_refl _)
    rw [h2] at h1
    exact h1
  obtain ⟨ws, e, hw⟩ := perm_strs hout
  refine h ws _ hw ?_
  refine hs.upd .here (fun b o hb e => ?_) ?_
  · rw [sortedHeap_old hb (Heap.lt_size e)]; exact e
  · obtain ⟨e', h'⟩ := sortedHeap_at (out := (arrOf st').map (·.2)) ho'
    refine ⟨_, h', e', ?_⟩
    show seqObj "list" _ _ = lobj _ _
    unfold lobj
    rw [← e]
/-- a set of texts, sorted -/
theorem sorted_set {a : Addr} {us : List (Str × Tok)} {Q : Value → Shared → Prop} (hs : St C F ((a, SetH C us) :: l) s) (hh : A.handled = none) (hz : us.length < 60)
    (h : ∀ D ws s', ws.Perm us → St C F ((D, IsL (strValues ws)) :: l) s' → Q (.ref D) s') : wpAny C.M A (call (.builtin "sorted") [.ref a]) Q E s := by
  refine c_sorted (col_set hs hh hz fun vs s1 hp hs1 => ?_)
  obtain ⟨zs, rfl, hz2⟩ := perm_strs hp
  have hzl := hz2.length_eq
  exact ⟨F, l, hs1, by simp [strValues]; omega, fun D s2 hs2 => lsort_strs hs2 (by omega) fun ws s3 hw hs3 => ⟨rfl, h D ws s3 (hw.trans hz2) hs3⟩⟩
end

end
section


theorem compTurn_set (elt target iter : Expr) (ifs : List Expr) (scope : Scope) (pos : Pos) (it acc : Value) (env : Env) :
    compTurn (.SetComp elt [⟨target, iter, ifs, 0⟩] scope pos) 0 it acc env = (do
      standAt iter.pos
      match ← pyNext it with
      | none => pure (.done .next)
      | some v =>
        letOwnedTupleGo target it v
        assign target env v
        let mut ok := true
        for c in ifs do
          if ok then ok ← isTrue c env (eval c env)
        if ok then
          (do let v ← eval elt env; standAt elt.pos; let _ ← call (.builtin "set.add") [acc, v])
        again (.compLoop (.SetComp elt [⟨target, iter, ifs, 0⟩] scope pos) 0 it acc env)) := by rfl
section
variable {prog : Program} {w : World} {A : Around} {E : Value → Shared → Prop} {R : Result → Shared → Prop} {s : Shared}
theorem setLoop {elt target iter : Expr} {ifs : List Expr} {scope : Scope} {pos : Pos} {it acc : Value} {env : Env} (I : Nat → Shared → Prop)
    (turn : ∀ n s, I n s → wpAny (model prog w) A (pyNext it) (fun r s₁ => match r with
      | none => R (.ok .next) s₁
      | some v => wpAny (model prog w) A (assign target env v) (fun _ s₂ =>
          wpAny (model prog w) A (forIn ifs true fun c r => if r = true then do let ok ← isTrue c env (eval c env); pure (ForInStep.yield ok) else pure (ForInStep.yield r)) (fun ok s₃ =>
            if ok = true then wpAny (model prog w) A (eval elt env) (fun x s₄ =>
              wpAny (model prog w) A (call (.builtin "set.add") [acc, x]) (fun _ s₅ => ∃ m, m < n ∧ I m s₅) (notedBy (model prog w) A env fun e s' => R (.error e) s') s₄) (notedBy (model prog w) A env fun e s' => R (.error e) s') s₃
            else ∃ m, m < n ∧ I m s₃) (notedBy (model prog w) A env fun e s' => R (.error e) s') s₂) (notedBy (model prog w) A env fun e s' => R (.error e) s') s₁) (notedBy (model prog w) A env fun e s' => R (.error e) s') s)
    (n : Nat) (h : I n s) (ht : ∀ v, letOwnedTupleGo target it v = pure () := by intro _; rfl) :
    codeAny (model prog w) A (.compLoop (.SetComp elt [⟨target, iter, ifs, 0⟩] scope pos) 0 it acc env) R s := by
  refine codeAny_loop rfl I (fun n s hI => ?_) n h
  show wpAny _ A ((compTurn (.SetComp elt [⟨target, iter, ifs, 0⟩] scope pos) 0 it acc env).onRaise (fun x => do noteFrame x env; theTreesLotGoes x)) _ _ s
  refine wpAny_noted ?_
  rw [compTurn_set]
  refine wpAny_bind (wpAny_standAt (wpAny_bind (wpAny_mono (turn n s hI) (fun r s₁ h₁ => ?_) fun _ _ h' => h')))
  cases r with
  | none => exact wpAny_pure h₁
  | some v =>
    refine wpAny_bind (wpAny_of_eq (ht v) ?_)
    refine wpAny_bind (wpAny_mono h₁ (fun _ s₂ h₂ => wpAny_bind (wpAny_mono h₂ (fun ok s₃ h₃ => ?_) fun _ _ h' => h')) fun _ _ h' => h')
    cases ok with
    | false => exact wpAny_pure ⟨rfl, h₃⟩
    | true =>
      exact wpAny_bind (wpAny_bind (wpAny_mono h₃ (fun x s₄ h₄ => wpAny_bind (wpAny_standAt (wpAny_bind (wpAny_mono h₄ (fun _ s₅ h₅ => wpAny_pure (wpAny_pure ⟨rfl, h₅⟩)) fun _ _ h' => h')))) fun _ _ h' => h'))

theorem compTurn_two (elt t1 i1 t2 i2 : Expr) (f2 : List Expr) (scope : Scope) (pos : Pos) (it acc : Value) (env : Env) :
    compTurn (.ListComp elt [⟨t1, i1, [], 0⟩, ⟨t2, i2, f2, 0⟩] scope pos) 0 it acc env = (do
      standAt i1.pos
      match ← pyNext it with
      | none => pure (.done .next)
      | some v =>
        letOwnedTupleGo t1 it v
        assign t1 env v
        let x ← eval i2 env
        standAt i2.pos
        let x ← foldedSetIterable i2 env x
        let _ ← runOwn (.compStart (.ListComp elt [⟨t1, i1, [], 0⟩, ⟨t2, i2, f2, 0⟩] scope pos) 1 (← holding [x] (pyIter x)) acc env) env
        again (.compLoop (.ListComp elt [⟨t1, i1, [], 0⟩, ⟨t2, i2, f2, 0⟩] scope pos) 0 it acc env)) := by rfl
theorem compTurn_in (elt t1 i1 t2 i2 : Expr) (f2 : List Expr) (scope : Scope) (pos : Pos) (it acc : Value) (env : Env) :
    compTurn (.ListComp elt [⟨t1, i1, [], 0⟩, ⟨t2, i2, f2, 0⟩] scope pos) 1 it acc env = (do
      standAt i2.pos
      match ← pyNext it with
      | none => pure (.done .next)
      | some v =>
        letOwnedTupleGo t2 it v
        assign t2 env v
        let mut ok := true
        for c in f2 do
          if ok then ok ← isTrue c env (eval c env)
        if ok then
          (do let _ ← call (.builtin "list.append") [acc, ← eval elt env])
        again (.compLoop (.ListComp elt [⟨t1, i1, [], 0⟩, ⟨t2, i2, f2, 0⟩] scope pos) 1 it acc env)) := by rfl
end
section
variable {C : Cx} {F : Frz} {l : Ledger} {A : Around} {E : Value → Shared → Prop} {R : Result → Shared → Prop} {s : Shared}
theorem inLoop {elt t1 i1 t2 i2 : Expr} {f2 : List Expr} {scope : Scope} {pos : Pos} {it acc : Value} {env : Env} (I : Nat → Shared → Prop)
    (turn : ∀ n s, I n s → wpAny C.M A (pyNext it) (fun r s₁ => match r with
      | none => R (.ok .next) s₁
      | some v => wpAny C.M A (assign t2 env v) (fun _ s₂ =>
          wpAny C.M A (forIn f2 true fun c r => if r = true then do let ok ← isTrue c env (eval c env); pure (ForInStep.yield ok) else pure (ForInStep.yield r)) (fun ok s₃ =>
            if ok = true then wpAny C.M A (eval elt env) (fun x s₄ =>
              wpAny C.M A (call (.builtin "list.append") [acc, x]) (fun _ s₅ => ∃ m, m < n ∧ I m s₅) (notedBy C.M A env fun e s' => R (.error e) s') s₄) (notedBy C.M A env fun e s' => R (.error e) s') s₃
            else ∃ m, m < n ∧ I m s₃) (notedBy C.M A env fun e s' => R (.error e) s') s₂) (notedBy C.M A env fun e s' => R (.error e) s') s₁) (notedBy C.M A env fun e s' => R (.error e) s') s)
    (n : Nat) (h : I n s) (ht : ∀ v, letOwnedTupleGo t2 it v = pure () := by intro _; rfl) :
    codeAny C.M A (.compLoop (.ListComp elt [⟨t1, i1, [], 0⟩, ⟨t2, i2, f2, 0⟩] scope pos) 1 it acc env) R s := by
  refine codeAny_loop rfl I (fun n s hI => ?_) n h
  show wpAny _ A ((compTurn (.ListComp elt [⟨t1, i1, [], 0⟩, ⟨t2, i2, f2, 0⟩] scope pos) 1 it acc env).onRaise (fun x => do noteFrame x env; theTreesLotGoes x)) _ _ s
  refine wpAny_noted ?_
  rw [compTurn_in]
  refine wpAny_bind (wpAny_standAt (wpAny_bind (wpAny_mono (turn n s hI) (fun r s₁ h₁ => ?_) fun _ _ h' => h')))
  cases r with
  | none => exact wpAny_pure h₁
  | some v =>
    refine wpAny_bind (wpAny_of_eq (ht v) ?_)
    refine wpAny_bind (wpAny_mono h₁ (fun _ s₂ h₂ => wpAny_bind (wpAny_mono h₂ (fun ok s₃ h₃ => ?_) fun _ _ h' => h')) fun _ _ h' => h')
    cases ok with
    | false => exact wpAny_pure ⟨rfl, h₃⟩
    | true =>
      exact wpAny_bind (wpAny_bind (wpAny_mono h₃ (fun x s₄ h₄ => wpAny_bind (wpAny_mono h₄ (fun _ s₅ h₅ => wpAny_pure (wpAny_pure ⟨rfl, h₅⟩)) fun _ _ h' => h')) fun _ _ h' => h'))
theorem inStart {elt t1 i1 t2 i2 : Expr} {f2 : List Expr} {scope : Scope} {pos : Pos} {it acc : Value} {env : Env}
    (h0 : codeAny C.M A (.compLoop (.ListComp elt [⟨t1, i1, [], 0⟩, ⟨t2, i2, f2, 0⟩] scope pos) 1 it acc env) R s) (hself : Self C A it s) :
    codeAny C.M A (.compStart (.ListComp elt [⟨t1, i1, [], 0⟩, ⟨t2, i2, f2, 0⟩] scope pos) 1 it acc env) R s := by
  refine codeAny_of_tree ?_
  show wpAny _ _ ((compStart (.ListComp elt [⟨t1, i1, [], 0⟩, ⟨t2, i2, f2, 0⟩] scope pos) 1 it acc env).onRaise (fun x => do noteFrame x env; standAt theWindowsPlace)) _ _ s
  refine wpAny_notedAt ?_
  unfold compStart
  show wpAny _ _ (ask >>= _) _ _ s
  refine wpAny_bind (wpAny_askSetting (wpAny_ite ?_))
  split
  · first
      | exact wpAny_bind (wpAny_pure (wpAny_pure (And.intro rfl h0)))
      | exact wpAny_pure (And.intro rfl h0)
  · first
      | exact wpAny_bind (wpAny_rule (wpAny_bind (wpAny_standAt (wpAny_bind (hself _ _ (wpAny_pure (And.intro rfl h0)))))))
      | (refine wpAny_bind (wpAny_rule ?_); show wpAny _ _ (standAt i2.pos >>= _) _ _ s; exact wpAny_bind (wpAny_standAt (wpAny_bind (hself _ _ (wpAny_pure (And.intro rfl h0))))))
theorem outLoop {elt t1 i1 t2 i2 : Expr} {f2 : List Expr} {scope : Scope} {pos : Pos} {it acc : Value} {env : Env} (I : Nat → Shared → Prop)
    (turn : ∀ n s, I n s → wpAny C.M A (pyNext it) (fun r s₁ => match r with
      | none => R (.ok .next) s₁
      | some v => wpAny C.M A (assign t1 env v) (fun _ s₂ => wpAny C.M A (eval i2 env) (fun x s₃ => wpAny C.M A (pyIter x) (fun it2 s₄ =>
          Self C A it2 s₄ ∧ codeAny C.M A (.compLoop (.ListComp elt [⟨t1, i1, [], 0⟩, ⟨t2, i2, f2, 0⟩] scope pos) 1 it2 acc env) (OkP fun s₅ => ∃ m, m < n ∧ I m s₅) s₄) (notedBy C.M A env fun e s' => R (.error e) s') s₃) (notedBy C.M A env fun e s' => R (.error e) s') s₂) (notedBy C.M A env fun e s' => R (.error e) s') s₁) (notedBy C.M A env fun e s' => R (.error e) s') s)
    (n : Nat) (h : I n s) (ht : ∀ v, letOwnedTupleGo t1 it v = pure () := by intro _; rfl) (hf : ∀ x, foldedSetIterable i2 env x = pure x := by intro _; rfl) :
    codeAny C.M A (.compLoop (.ListComp elt [⟨t1, i1, [], 0⟩, ⟨t2, i2, f2, 0⟩] scope pos) 0 it acc env) R s := by
  refine codeAny_loop rfl I (fun n s hI => ?_) n h
  show wpAny _ A ((compTurn (.ListComp elt [⟨t1, i1, [], 0⟩, ⟨t2, i2, f2, 0⟩] scope pos) 0 it acc env).onRaise (fun x => do noteFrame x env; theTreesLotGoes x)) _ _ s
  refine wpAny_noted ?_
  rw [compTurn_two]
  refine wpAny_bind (wpAny_standAt (wpAny_bind (wpAny_mono (turn n s hI) (fun r s₁ h₁ => ?_) fun _ _ h' => h')))
  cases r with
  | none => exact wpAny_pure h₁
  | some v =>
    refine wpAny_bind (wpAny_of_eq (ht v) ?_)
    refine wpAny_bind (wpAny_mono h₁ (fun _ s₂ h₂ => wpAny_bind (wpAny_mono h₂ (fun x s₃ h₃ => wpAny_bind (wpAny_standAt (wpAny_bind (wpAny_of_eq (hf x) (wpAny_bind (wpAny_holding (wpAny_mono h₃ (fun it2 s₄ h₄ => ?_) fun _ _ h' => h'))))))) fun _ _ h' => h')) fun _ _ h' => h')
    refine wpAny_bind (wpAny_runOwn (codeAny_mono (inStart h₄.2 h₄.1 : codeAny C.M (A.mark none) _ _ _) fun r s₅ h₅ => ?_))
    cases r with
    | error e => exact h₅.elim
    | ok f => exact wpAny_pure ⟨rfl, h₅⟩
end
section
variable {C : Cx} {F : Frz} {l : Ledger} {A : Around} {E : Value → Shared → Prop} {s : Shared} {env : Env} {scope : Scope} {cl : List (Str × Addr)}
theorem SlOn.str {x : Str} {t ti tj : Tok} {i j : Int} {Q : Value → Shared → Prop} (hs : St C F l s) (hx : x.length < 1000) (h : ∀ t' s', St C F l s' → Q (.str (Txt.slice x (some i) (some j)) t') s') : SlOn C.M A E Q (.str x t) (.int i ti) (.int j tj) s := by
  obtain ⟨T, id, h1, h2, h3⟩ := SBG.sliceItem_ss (Fm := St C F l) (prog := C.prog) (w := C.w) (A := A) (E := E) (x := x) (t := t) (i := i) (j := j) (ui := ti) (uj := tj) St.kept hs (fun s' t' hs' => h t' s' hs') (by rw [sizeLine_eq]; omega)
  exact ⟨T, id, h1, h2, h3⟩
/-- a set comprehension as a value -/
theorem e_set {elt target iter : Expr} {ifs : List Expr} {pos : Pos} {Q : Value → Shared → Prop}
    (hclos : closureFor scope env = pure cl) (hkind : scope.kind = .function) (hnames : ∀ x ∈ scope.names, x.2 = .local → scope.names.lookup x.1 = some .local) (hcell : ∀ x ∈ scope.names, x.2 ≠ .cell)
    (h : wpAny C.M A (eval iter env) (fun x s₁ => wpAny C.M A (pyIter x) (LoopIn C A (SetH C []) (.SetComp elt [⟨target, iter, ifs, 0⟩] scope pos) scope cl env (fun acc K => LetGo C K Q (.ref acc))) E s₁) E s)
    (hs' : ∀ x, foldedSetIterable iter env x = pure x := by intro _; rfl) :
    wpAny C.M A (eval (.SetComp elt [⟨target, iter, ifs, 0⟩] scope pos) env) Q E s := by
  show wpAny C.M A (comprehension (.SetComp elt [⟨target, iter, ifs, 0⟩] scope pos) scope env _ (newSet (.type "set")) false (eval iter env)) Q E s
  exact comp_gen (g := ⟨target, iter, ifs, 0⟩) (gs := []) starts_set makes_set rfl hclos hs' hkind hnames hcell (fun _ _ _ q => q) h
end

end
section


noncomputable def partsL (n : Str) : List Str := (List.range n.length).flatMap fun (i : Nat) => (List.range (n.length - i)).map fun (j : Nat) => Txt.slice n (some (i : Int)) (some ((i + 1 + j : Nat) : Int))
noncomputable def isMin (A : List Str) (n : Str) : Bool := !((partsL n).any fun p => p != n && A.contains p)
noncomputable def lowA (us : List Str) : List Str := (us.filter fun a => a != ("*" : Str)).map Txt.lower

section
variable {C : Cx} {F : Frz} {l : Ledger} {A : Around} {E : Value → Shared → Prop} {s : Shared} {env : Env}
theorem asg_tup {T : Addr} {items : List Value} {elts : List Expr} {k : Nat} {pos : Pos} {Q : Unit → Shared → Prop} (hs : St C F l s) (hm : (T, IsT items) ∈ l) (hh : A.handled = none) (hn : (assignEach elts env).length = items.length) (hst : (assignEach elts env).findIdx? (·.1) = none)
    (h : ∀ s', St C F l s' → wpAny C.M A (assignInOrder ((assignEach elts env).map (·.2)) items) Q E s') : wpAny C.M A (assign (.Tuple elts k pos) env (.ref T)) Q E s := by
  refine assign_Tuple_tuple hh (hs.isTup hm) (by simpa using hn) hst fun h' he => ?_
  have := h { s with heap := h' } (hs.ext fun b o e => he b o (Nat.ne_of_lt (Heap.lt_size e)) e)
  simpa using this
theorem eqNil {a b : Addr} {xs : List Value} {Q : Value → Shared → Prop} (hs : St C F l s) (ha : (a, IsL xs) ∈ l) (hb : (b, IsL []) ∈ l) (hu : A.units < cLine) (h : Q (.bool xs.isEmpty) s) : wpAny C.M A (compareOp .Eq (.ref a) (.ref b)) Q E s := by
  show wpAny _ _ (richCompare .Eq _ _) _ _ _
  cases xs with
  | nil => exact SeqAt.RcAt.lists (e := fun _ => true) (hs.isList ha) (hs.isList hb) rfl hu (fun j h1 => by simp at h1) _ _ _ _ h
  | cons x xs => exact SeqAt.RcAt.lists_lengths (hs.isList ha) (hs.isList hb) (by simp) hu _ _ _ _ h
theorem s_in {b : Addr} {ws : List (Str × Tok)} {x : Str} {t : Tok} {Q : Value → Shared → Prop} (hs : St C F l s) (hb : (b, IsL (strValues ws)) ∈ l) (h : Q (.bool ((ws.map (·.1)).contains x)) s) : wpAny C.M A (compareOp .In (.str x t) (.ref b)) Q E s := by
  let e : Value → Bool := fun v => match v with | .str y _ => y == x | _ => false
  refine SeqAt.in_listAt e (hs.isList hb) (fun y hy => ?_) ?_
  · have hy' : y ∈ strValues ws := by simpa using hy
    obtain ⟨u, hu, rfl⟩ := List.mem_map.mp hy'
    exact SeqAt.EqAt.str_str _ _ _ _
  · have : (strValues ws).toArray.any e = (ws.map (·.1)).contains x := by
      rw [List.any_toArray, strValues, List.any_map, Bool.eq_iff_iff, List.any_eq_true, List.contains_iff_mem, List.mem_map]
      constructor
      · rintro ⟨u, hu, he⟩
        exact ⟨u, hu, eq_of_beq he⟩
      · rintro ⟨u, hu, rfl⟩
        exact ⟨u, hu, beq_self_eq_true _⟩
    rw [this]; exact h
theorem tx_ne (x y : Str) : (x.cps.toList != y.cps.toList) = (x != y) := by
  show (!(x.cps.toList == y.cps.toList)) = !(x == y)
  rw [SeqAt.str_beq]

set_option maxRecDepth 10000
set_option maxHeartbeats 2000000 in
theorem least_spec {cd' : Value} {G : Addr} {us : List (Str × Tok)} {R : Result → Shared → Prop} (W : Wd C) (fn : FnAt C 17 cd') (hs : St C F l s) (hr : Rm A 3)
    (hG : (G, IsL (strValues us)) ∈ l) (hz : us.length < 50) (hu : ∀ u ∈ us, u.1.length < 100) (hlow : ∀ x ∈ lowA (us.map (·.1)), x ∈ nms)
    (h : ∀ F' zs (As : List Str) K s', F.le F' → Rows F' zs → Srt zs → As.Nodup → (∀ x, x ∈ As ↔ x ∈ lowA (us.map (·.1))) → (zs.map (·.2)).Perm ((As.filter (isMin As)).map rowOf) → zs.length < 50 → St C F' ((K, IsL (vals zs)) :: l) s' → R (.ok (.ret (.ref K))) s') :
    codeAny C.M A (.call (.ref (C.fn 17)) ⟨[.ref G], []⟩) R s := by
  refine call_fnC (binds := [("agents", .ref G)]) (lvars := [("agents", .ref G)]) W fn hs hr.d (fun _ _ => rfl) (by intro n y hy; rw [List.mem_singleton.mp hy]; exact .inl rfl) (by intro p hp; rw [List.mem_singleton.mp hp]; rfl) (by simp) (by intro n; show (["name", "names"] : List Str).Nodup; decide +kernel) (fun L s' hs => ?_)
  change St C F ((L, NsH [("agents", .ref G)]) :: (L + 2, IsCl none) :: (L + 1, IsCl none) :: l) s' at hs
  have hru := hr.deeper (env := envX (fName 17) (fScope 17) L (C.fn 17) cd' (cellsFrom (L + 1) (fScope 17).names []))
  show wpAny _ _ (execs (_ :: _) _) _ _ _
  repeat walk_at "ex"
  refine Assign_Tuple ?_
  repeat walk_at "ex"
  refine bi W (by assumption) W.isSorted ?_
  repeat walk_at "ex"
  refine e_set (cl := []) (by rfl) (by decide +kernel) (by decide +kernel) (by decide +kernel) ?_
  repeat walk_at "ex"
  refine i_list (items := strValues us) hs (.tail _ (.tail _ (.tail _ hG))) ?_
  intro it s1 hs1
  refine LoopIn.in hs1 fun acc K s2 hs2 => ⟨self_lit hs2 (.tail _ (.tail _ (.head _))), ?_⟩
  refine setLoop (fun n s' => ∃ (k : Nat) (vs : List (Str × Tok)), n + k = us.length ∧ vs.length ≤ k ∧ (∀ x, x ∈ vs.map (·.1) ↔ x ∈ lowA ((us.take k).map (·.1))) ∧
    St C F ((K, NsH []) :: (acc, SetH C vs) :: (it, IsLit G k) :: (L, NsH [("agents", .ref G)]) :: (L + 2, IsCl none) :: (L + 1, IsCl none) :: l) s') ?_ us.length ⟨0, [], rfl, Nat.le_refl _, (fun x => by simp [lowA]), hs2⟩
  rintro n s3 ⟨k, vs, hnk, hvl, hvs, hs3⟩
  cases n with
  | succ n =>
    have hk : k < us.length := by omega
    obtain ⟨u, huk⟩ : ∃ u, us[k]? = some u := ⟨_, List.getElem?_eq_getElem hk⟩
    have huz := hu u (List.mem_of_getElem? huk)
    have htk : lowA ((us.take (k + 1)).map (·.1)) = lowA ((us.take k).map (·.1)) ++ (if u.1 != ("*" : Str) then [Txt.lower u.1] else []) := by
      rw [take_map _ huk]
      unfold lowA
      rw [List.filter_append, List.map_append]
      congr 1
      cases hb : (u.1 != ("*" : Str)) <;> simp [hb]
    refine n_list hs3 (.there (.there .here)) (.tail _ (.tail _ (.tail _ (.tail _ (.tail _ (.tail _ hG)))))) (x := .str u.1 u.2) (by simp [strValues, huk]) ?_
    intro s4 hs4
    repeat walk_at "ex"
    refine PySem.P.ne_str ?_
    rw [tx_ne]
    repeat walk_at "ex"
    cases hb : (u.1 != ("*" : Str)) with
    | true =>
      rw [hb, if_pos rfl] at htk
      repeat walk_at "ex"
      refine GM.lower ?_
      refine callM0 ?_
      refine s_lower (by assumption) (by omega) ?_
      intro t6 s6 hs6
      refine set_add hs6 (.there .here) (by omega) fun s7 hs7 => ?_
      have hs8 := Upd.mono .here hs7 fun o => NsH.pre (vars' := []) (extra := [_])
      refine ⟨n, Nat.lt_succ_self n, k + 1, _, by omega, ?_, ?_, hs8⟩
      · unfold addS
        split
        · omega
        · rw [List.length_append]; simp; omega
      · intro x
        rw [htk, List.mem_append, ← hvs x]
        unfold addS
        split
        · rename_i hin
          constructor
          · exact .inl
          · rintro (h' | h')
            · exact h'
            · rw [List.mem_singleton.mp h']; exact hin
        · rw [List.map_append, List.mem_append]; simp
    | false =>
      rw [hb, if_neg (by decide), List.append_nil] at htk
      try dsimp only
      repeat walk_at "ex"
      rename St C F _ _ => hs6
      have hs8 := Upd.mono .here hs6 fun o => NsH.pre (vars' := []) (extra := [_])
      exact ⟨n, Nat.lt_succ_self n, k + 1, vs, by omega, by omega, (by rw [htk]; exact hvs), hs8⟩
  | zero =>
    have hk : k = us.length := by omega
    subst hk
    rw [List.take_length] at hvs
    refine n_listE hs3 (.tail _ (.tail _ (.head _))) (.there (.there .here)) (.tail _ (.tail _ (.tail _ (.tail _ (.tail _ (.tail _ hG)))))) (by simp [strValues]) hr.deeper.handled ?_
    intro s4 hs4
    dsimp only [OkP]
    refine LetGo.in hs4 fun s5 hs5 => ?_
    obtain ⟨oS, _, hSH⟩ := hs5.at (.head _)
    have hnd : (vs.map (·.1)).Nodup := by
      obtain ⟨_, es, ep, t, _, _, _, _, _, q, _⟩ := hSH
      exact q
    repeat walk_at "ex"
    refine sorted_set hs5 hr.deeper.handled (by omega) fun D ws s6 hws hs6 => ?_
    repeat walk_at "ex"
    refine MkL.in (by assumption) (by decide) ?_
    intro K0 s7 hs7
    repeat walk_at "ex"
    refine MkT.in (by assumption) (by simp) ?_
    intro T s8 hs8
    refine' asg_tup (by assumption) ?hm hr.deeper.handled ?hn ?hst ?_
    case hm => walk_at "mem"
    case hn => rfl
    case hst => rfl
    intro s9 hs9
    show wpAny _ _ (assignInOrder [assign _ _, assign _ _] [_, _]) _ _ _
    repeat walk_at "ex"
    try dsimp only
    repeat walk_at "ex"
    rename St C F _ _ => hh
    have hh0 := hh.pick (l' := (L, NsH [("agents", .ref G), ("least", .ref K0)]) :: (L + 2, IsCl none) :: (L + 1, IsCl (some (.ref D))) :: (K0, IsL (vals [])) :: (D, IsL (strValues ws)) :: l) (by
      show Pick (_ :: _ :: _ :: (K0, IsL []) :: _) _
      walk_at "pick")
    clear hh hs9 hs8 hs7 hs6 hs5 hs4 hs3 hs2 hs1 hs
    have hAs : (ws.map (·.1)).Nodup := (hws.map _).nodup_iff.mpr hnd
    have hAm : ∀ x, x ∈ ws.map (·.1) ↔ x ∈ lowA (us.map (·.1)) := fun x => ((hws.map (·.1)).mem_iff).trans (hvs x)
    have hwl : ws.length < 50 := by rw [hws.length_eq]; omega
    refine i_list (items := strValues ws) hh0 (by walk_at "mem") ?_
    intro it2 s9 hs9
    refine codeAny_forLoop (fun n s' => ∃ (F' : Frz) (k : Nat) (zs : List X) (K : Addr) (cv : Option Value), F.le F' ∧ n + k = ws.length ∧ Rows F' zs ∧ zs.map (·.2) = (((ws.take k).map (·.1)).filter (isMin (ws.map (·.1)))).map rowOf ∧
      St C F' ((it2, IsLit D k) :: (L, NsH [("agents", .ref G), ("least", .ref K)]) :: (L + 2, IsCl cv) :: (L + 1, IsCl (some (.ref D))) :: (K, IsL (vals zs)) :: (D, IsL (strValues ws)) :: l) s') ?_ ws.length
      ⟨F, 0, [], K0, none, Frz.le_refl F, rfl, (fun _ h => nomatch h), rfl, hs9⟩
    rintro n s10 ⟨F', k, zs, K1, cv, hF, hnk, hZ, hzs, hs10⟩
    have hzl : zs.length ≤ k := by
      rw [← List.length_map (f := (·.2)), hzs, List.length_map]
      refine Nat.le_trans (List.length_filter_le _ _) ?_
      rw [List.length_map]; exact List.length_take_le _ _
    cases n with
    | zero =>
      have hk : k = ws.length := by omega
      subst hk
      rw [List.take_length] at hzs
      refine n_listE hs10 (.head _) .here (by walk_at "mem") (by simp [strValues]) hr.deeper.handled ?_
      intro s11 hs11
      repeat walk_at "ex"
      try dsimp only
      repeat walk_at "ex"
      refine bi W (by assumption) W.isSorted ?_
      repeat walk_at "ex"
      have hzn : (zs.map (·.2)).Nodup := by
        rw [hzs]
        exact List.Pairwise.map rowOf (fun a b hab e => hab (Prod.ext_iff.mp e).2) (hAs.filter _)
      refine sorted_rows (xs := zs) (by assumption) (by walk_at "mem") hZ hzn (by omega) (by have := hru.units; omega) ?_
      intro D2 ys s12 hys hS hs12
      try dsimp only
      refine h F' ys (ws.map (·.1)) D2 _ hF (fun x hx => hZ x (hys.mem_iff.mp hx)) hS hAs hAm ?_ (by rw [hys.length_eq]; omega) (hs12.pick ?_)
      · rw [← hzs]; exact hys.map _
      · walk_at "pick"
    | succ n =>
      have hk : k < ws.length := by omega
      obtain ⟨u, huk⟩ : ∃ u, ws[k]? = some u := ⟨_, List.getElem?_eq_getElem hk⟩
      obtain ⟨nm, tn⟩ := u
      have hnm : nm ∈ nms := hlow nm ((hAm nm).mp (List.mem_map.mpr ⟨_, List.mem_of_getElem? huk, rfl⟩))
      have hnl : nm.length ≤ 3 := (by decide +kernel : ∀ m ∈ nms, m.length ≤ 3) nm hnm
      refine n_list hs10 .here (by walk_at "mem") (x := .str nm tn) (by simp [strValues, huk]) ?_
      intro s11 hs11
      repeat walk_at "ex"
      rename St C F' _ _ => hs12
      have hs12 : St C F' ((it2, IsLit D (k + 1)) :: (L, NsH [("agents", .ref G), ("least", .ref K1)]) :: (L + 2, IsCl (some (.str nm tn))) :: (L + 1, IsCl (some (.ref D))) :: (K1, IsL (vals zs)) :: (D, IsL (strValues ws)) :: l) _ := hs12
      refine x_comp (cl := [("name", L + 2)]) (by rfl) (by decide +kernel) (by decide +kernel) (by decide +kernel) (by rfl) ?_
      repeat walk_at "ex"
      refine bi W (by assumption) W.isRange ?_
      repeat walk_at "ex"
      refine bi W (by assumption) W.isLen ?_
      repeat walk_at "ex"
      refine len_s (by assumption) (by omega) ?_
      intro t5 s5 hs5
      repeat walk_at "ex"
      refine c_range (by assumption) ?_
      intro r s6 hs6
      refine i_rng hs6 (.head _) (by omega) (by omega) ?_
      intro it3 s7 hs7
      rw [show (if (0 : Int) < (nm.length : Int) then (nm.length : Int) - 0 else 0) = (nm.length : Int) by split <;> omega] at hs7
      refine LoopIn.in hs7 fun acc K s8 hs8 => ⟨fun Q' E' hq => i_rit hs8 (.tail _ (.tail _ (.head _))) hq, ?_⟩
      have hs9 : St C F' ((K, NsH []) :: (acc, IsL (strValues [])) :: (it3, IsRit ((0 : Nat) : Int) ((nm.length : Int) - ((0 : Nat) : Int)) 1) :: (it2, IsLit D (k + 1)) :: (L, NsH [("agents", .ref G), ("least", .ref K1)]) :: (L + 2, IsCl (some (.str nm tn))) :: (L + 1, IsCl (some (.ref D))) :: (K1, IsL (vals zs)) :: (D, IsL (strValues ws)) :: l) s8 := hs8.pick (by
        show Pick ((K, NsH []) :: (acc, IsL []) :: (it3, IsRit (0 : Int) (nm.length : Int) 1) :: _) _
        walk_at "pick")
      clear hs8 hs7 hs6 hs5 hs11 hs10
      refine outLoop (fun n s' => ∃ (i : Nat) (ps : List (Str × Tok)), n + i = nm.length ∧ ps.length ≤ 3 * i ∧ ps.map (·.1) = (List.range i).flatMap (fun (i : Nat) => (List.range (nm.length - i)).map fun (j : Nat) => Txt.slice nm (some (i : Int)) (some ((i + 1 + j : Nat) : Int))) ∧
        St C F' ((K, NsH []) :: (acc, IsL (strValues ps)) :: (it3, IsRit (i : Int) ((nm.length : Int) - (i : Int)) 1) :: (it2, IsLit D (k + 1)) :: (L, NsH [("agents", .ref G), ("least", .ref K1)]) :: (L + 2, IsCl (some (.str nm tn))) :: (L + 1, IsCl (some (.ref D))) :: (K1, IsL (vals zs)) :: (D, IsL (strValues ws)) :: l) s') ?_ nm.length ⟨0, [], rfl, by simp, rfl, hs9⟩
      rintro m s10 ⟨i, ps, hmi, hpl, hps, hs10⟩
      cases m with
      | succ m =>
        have hi : i < nm.length := by omega
        refine n_rit hs10 (.there (.there .here)) (by omega) ?_
        intro ti s11 hs11
        rw [show (nm.length : Int) - (i : Int) - 1 = (nm.length : Int) - ((i + 1 : Nat) : Int) by omega, show (i : Int) + 1 = ((i + 1 : Nat) : Int) by omega] at hs11
        repeat walk_at "ex"
        refine bi W (by assumption) W.isRange ?_
        repeat walk_at "ex"
        refine o_add (by assumption) ?_
        intro t13 s13 hs13
        repeat walk_at "ex"
        refine bi W (by assumption) W.isLen ?_
        repeat walk_at "ex"
        refine len_s (by assumption) (by omega) ?_
        intro t14 s14 hs14
        repeat walk_at "ex"
        refine o_add (by assumption) ?_
        intro t15 s15 hs15
        repeat walk_at "ex"
        refine c_range2 (by assumption) ?_
        intro r2 s16 hs16
        refine i_rng hs16 (.head _) (by omega) (by omega) ?_
        intro it4 s17 hs17
        rw [show (if (i : Int) + 1 < (nm.length : Int) + 1 then (nm.length : Int) + 1 - ((i : Int) + 1) else 0) = (nm.length : Int) - (i : Int) by split <;> omega] at hs17
        refine ⟨fun Q' E' hq => i_rit hs17 (.head _) hq, ?_⟩
        have hs18 : St C F' ((K, NsH [("i", .int i ti)]) :: (acc, IsL (strValues ps)) :: (it4, IsRit (((i + 1 + 0 : Nat) : Int)) ((nm.length : Int) - (i : Int) - ((0 : Nat) : Int)) 1) :: (it3, IsRit ((i + 1 : Nat) : Int) ((nm.length : Int) - ((i + 1 : Nat) : Int)) 1) :: (it2, IsLit D (k + 1)) :: (L, NsH [("agents", .ref G), ("least", .ref K1)]) :: (L + 2, IsCl (some (.str nm tn))) :: (L + 1, IsCl (some (.ref D))) :: (K1, IsL (vals zs)) :: (D, IsL (strValues ws)) :: l) s17 := hs17.pick (by
          show Pick (_ :: _ :: (it4, IsRit ((i : Int) + 1) ((nm.length : Int) - (i : Int) - ((0 : Nat) : Int)) 1) :: _) _
          rw [show (nm.length : Int) - (i : Int) - ((0 : Nat) : Int) = (nm.length : Int) - (i : Int) by omega]
          walk_at "pick")
        clear hs17 hs16 hs15 hs14 hs13 hs11
        refine inLoop (fun n s' => ∃ (j : Nat) (qs : List (Str × Tok)), n + j = nm.length - i ∧ qs.length = ps.length + j ∧ qs.map (·.1) = ps.map (·.1) ++ (List.range j).map (fun (j : Nat) => Txt.slice nm (some (i : Int)) (some ((i + 1 + j : Nat) : Int))) ∧
          St C F' ((K, NsH [("i", .int i ti)]) :: (acc, IsL (strValues qs)) :: (it4, IsRit (((i + 1 + j : Nat) : Int)) ((nm.length : Int) - (i : Int) - (j : Int)) 1) :: (it3, IsRit ((i + 1 : Nat) : Int) ((nm.length : Int) - ((i + 1 : Nat) : Int)) 1) :: (it2, IsLit D (k + 1)) :: (L, NsH [("agents", .ref G), ("least", .ref K1)]) :: (L + 2, IsCl (some (.str nm tn))) :: (L + 1, IsCl (some (.ref D))) :: (K1, IsL (vals zs)) :: (D, IsL (strValues ws)) :: l) s') ?_ (nm.length - i) ⟨0, ps, by omega, rfl, by simp, hs18⟩
        rintro m2 s19 ⟨j, qs, hmj, hql, hqs, hs19⟩
        cases m2 with
        | succ m2 =>
          refine n_rit hs19 (.there (.there .here)) (by omega) ?_
          intro tj s20 hs20
          rw [show (nm.length : Int) - (i : Int) - (j : Int) - 1 = (nm.length : Int) - (i : Int) - ((j + 1 : Nat) : Int) by omega, show ((i + 1 + j : Nat) : Int) + 1 = ((i + 1 + (j + 1) : Nat) : Int) by omega] at hs20
          repeat walk_at "ex"
          refine SlOn.str (by assumption) (by omega) ?_
          intro t21 s21 hs21
          refine appendL (items := strValues qs) hs21 (.there .here) (by simp [strValues]; omega) fun s22 hs22 => ?_
          rw [show strValues qs ++ [Value.str (Txt.slice nm (some (i : Int)) (some ((i + 1 + j : Nat) : Int))) t21] = strValues (qs ++ [(Txt.slice nm (some (i : Int)) (some ((i + 1 + j : Nat) : Int)), t21)]) by simp [strValues]] at hs22
          have hs23 := Upd.mono .here hs22 fun o => NsH.pre (vars' := [_]) (extra := [_])
          refine ⟨m2, Nat.lt_succ_self _, j + 1, qs ++ [(_, t21)], by omega, by rw [List.length_append, hql]; rfl, ?_, hs23⟩
          rw [List.map_append, hqs, List.range_succ, List.map_append, List.append_assoc]; rfl
        | zero =>
          have hj : j = nm.length - i := by omega
          refine n_ritE hs19 (.tail _ (.tail _ (.head _))) (.there (.there .here)) hr.deeper.handled (by omega) ?_
          intro s20 hs20
          dsimp only [OkP]
          have hs21 := Upd.mono .here hs20 fun o => NsH.pre (vars' := []) (extra := [_])
          refine ⟨m, Nat.lt_succ_self _, i + 1, qs, by omega, by omega, ?_, hs21⟩
          rw [hqs, hps, List.range_succ, List.flatMap_append, hj]; simp
      | zero =>
        have hi : i = nm.length := by omega
        subst hi
        refine n_ritE hs10 (.tail _ (.tail _ (.head _))) (.there (.there .here)) hr.deeper.handled (by omega) ?_
        intro s11 hs11
        dsimp only [OkP]
        repeat walk_at "ex"
        refine LetGo.in (by assumption) fun s12 hs12 => ?_
        clear hs11 hs10
        have hpeq : ps.map (·.1) = partsL nm := hps
        repeat walk_at "ex"
        refine e_comp (cl := [("names", L + 1), ("name", L + 2)]) (by rfl) (by decide +kernel) (by decide +kernel) (by decide +kernel) ?_
        repeat walk_at "ex"
        refine i_list (items := strValues ps) hs12 (by walk_at "mem") ?_
        intro it5 s13 hs13
        refine LoopIn.in hs13 fun acc2 K2 s14 hs14 => ⟨self_lit hs14 (.tail _ (.tail _ (.head _))), ?_⟩
        refine codeAny_compLoop_tests (fun n s' => ∃ (j : Nat) (qs : List (Str × Tok)), n + j = ps.length ∧ qs.length ≤ j ∧ qs.map (·.1) = ((ps.take j).map (·.1)).filter (fun p => p != nm && (ws.map (·.1)).contains p) ∧
          St C F' ((K2, NsH []) :: (acc2, IsL (strValues qs)) :: (it5, IsLit acc j) :: (acc, IsL (strValues ps)) :: (it2, IsLit D (k + 1)) :: (L, NsH [("agents", .ref G), ("least", .ref K1), ("parts", .ref acc)]) :: (L + 2, IsCl (some (.str nm tn))) :: (L + 1, IsCl (some (.ref D))) :: (K1, IsL (vals zs)) :: (D, IsL (strValues ws)) :: l) s') ?_ ps.length ⟨0, [], rfl, Nat.le_refl _, rfl, hs14⟩
        clear hs14 hs13
        rintro m s15 ⟨j, qs, hmj, hql, hqs, hs15⟩
        cases m with
        | succ m =>
          have hj : j < ps.length := by omega
          obtain ⟨p, hpj⟩ : ∃ p, ps[j]? = some p := ⟨_, List.getElem?_eq_getElem hj⟩
          have htk : ((ps.take (j + 1)).map (·.1)).filter (fun p => p != nm && (ws.map (·.1)).contains p) = ((ps.take j).map (·.1)).filter (fun p => p != nm && (ws.map (·.1)).contains p) ++ (if (p.1 != nm && (ws.map (·.1)).contains p.1) = true then [p.1] else []) := by
            rw [take_map _ hpj, List.filter_append]
            congr 1
            simp only [List.filter_cons, List.filter_nil]
          have done_ : ∀ (b : Bool) (vs : List (Str × Tok)) (extra : List (Str × Value)) (s16 : Shared), vs.length ≤ qs.length + 1 → vs.map (·.1) = ((ps.take (j + 1)).map (·.1)).filter (fun p => p != nm && (ws.map (·.1)).contains p) →
              St C F' ((K2, NsH ([] ++ extra)) :: (acc2, IsL (strValues vs)) :: (it5, IsLit acc (j + 1)) :: (acc, IsL (strValues ps)) :: (it2, IsLit D (k + 1)) :: (L, NsH [("agents", .ref G), ("least", .ref K1), ("parts", .ref acc)]) :: (L + 2, IsCl (some (.str nm tn))) :: (L + 1, IsCl (some (.ref D))) :: (K1, IsL (vals zs)) :: (D, IsL (strValues ws)) :: l) s16 →
              ∃ m', m' < m + 1 ∧ ∃ (j : Nat) (qs : List (Str × Tok)), m' + j = ps.length ∧ qs.length ≤ j ∧ qs.map (·.1) = ((ps.take j).map (·.1)).filter (fun p => p != nm && (ws.map (·.1)).contains p) ∧
          St C F' ((K2, NsH []) :: (acc2, IsL (strValues qs)) :: (it5, IsLit acc j) :: (acc, IsL (strValues ps)) :: (it2, IsLit D (k + 1)) :: (L, NsH [("agents", .ref G), ("least", .ref K1), ("parts", .ref acc)]) :: (L + 2, IsCl (some (.str nm tn))) :: (L + 1, IsCl (some (.ref D))) :: (K1, IsL (vals zs)) :: (D, IsL (strValues ws)) :: l) s16 :=
            fun _ vs extra s16 hv1 hv2 hs16 => ⟨m, Nat.lt_succ_self m, j + 1, vs, by omega, by omega, hv2, Upd.mono .here hs16 fun o => NsH.pre (vars' := []) (extra := extra)⟩
          refine n_list hs15 (.there (.there .here)) (by walk_at "mem") (x := .str p.1 p.2) (by simp [strValues, hpj]) ?_
          intro s16 hs16
          repeat walk_at "ex"
          refine PySem.P.ne_str ?_
          rw [tx_ne]
          repeat walk_at "ex"
          cases hb1 : (p.1 != nm) with
          | false =>
            repeat walk_at "ex"
            try dsimp only
            repeat walk_at "ex"
            rename St C F' _ _ => hs17
            refine done_ true qs [("part", .str p.1 p.2)] _ (by omega) ?_ hs17
            rw [htk, hb1]; simp [hqs]
          | true =>
            repeat walk_at "ex"
            rename St C F' _ _ => hs17
            refine s_in hs17 (by walk_at "mem") ?_
            repeat walk_at "ex"
            cases hb2 : (ws.map (·.1)).contains p.1 with
            | false =>
              repeat walk_at "ex"
              try dsimp only
              repeat walk_at "ex"
              refine done_ true qs [("part", .str p.1 p.2)] _ (by omega) ?_ hs17
              rw [htk, hb1, hb2]; simp [hqs]
            | true =>
              repeat walk_at "ex"
              try dsimp only
              repeat walk_at "ex"
              refine appendL (items := strValues qs) hs17 (.there .here) (by simp [strValues]; omega) fun s22 hs22 => ?_
              rw [show strValues qs ++ [Value.str p.1 p.2] = strValues (qs ++ [p]) by simp [strValues]] at hs22
              refine done_ true (qs ++ [p]) [("part", .str p.1 p.2)] _ (by simp) ?_ hs22
              rw [htk, hb1, hb2, List.map_append, hqs]; rfl
        | zero =>
          have hj : j = ps.length := by omega
          subst hj
          rw [List.take_length, hpeq] at hqs
          refine n_listE hs15 (.tail _ (.tail _ (.head _))) (.there (.there .here)) (by walk_at "mem") (by simp [strValues]) hr.deeper.handled ?_
          intro s16 hs16
          dsimp only [OkP]
          refine LetGo.in hs16 fun s17 hs17 => ?_
          repeat walk_at "ex"
          refine MkL.in (by assumption) (by decide) ?_
          intro N s18 hs18
          refine eqNil (xs := strValues qs) hs18 (by walk_at "mem") (.head _) hru.u ?_
          have hmin : (strValues qs).isEmpty = isMin (ws.map (·.1)) nm := by
            unfold isMin
            have : (strValues qs).isEmpty = (qs.map (·.1)).isEmpty := by cases qs <;> rfl
            rw [this, hqs, Bool.eq_iff_iff, List.isEmpty_iff, List.filter_eq_nil_iff, Bool.not_eq_true', ← Bool.not_eq_true, List.any_eq_true]
            constructor
            · rintro h1 ⟨x, hx, h2⟩; exact h1 x hx h2
            · intro h1 x hx h2; exact h1 ⟨x, hx, h2⟩
          rw [hmin]
          have htk : (((ws.take (k + 1)).map (·.1)).filter (isMin (ws.map (·.1)))).map rowOf = (((ws.take k).map (·.1)).filter (isMin (ws.map (·.1)))).map rowOf ++ (if isMin (ws.map (·.1)) nm = true then [rowOf nm] else []) := by
            rw [take_map _ huk, List.filter_append, List.map_append]
            congr 1
            simp only [List.filter_cons, List.filter_nil]
            split <;> rfl
          repeat walk_at "ex"
          cases hm : isMin (ws.map (·.1)) nm with
          | true =>
            rw [hm, if_pos rfl] at htk
            repeat walk_at "ex"
            refine bi W (by assumption) W.isLen ?_
            repeat walk_at "ex"
            refine len_s (by assumption) (by omega) ?_
            intro t19 s19 hs19
            repeat walk_at "ex"
            refine MkL.in (by assumption) (by simp) ?_
            intro Rw s20 hs20
            obtain ⟨F2, hF2, hrow, hs21⟩ := freeze_row (r := rowOf nm) hs20
            repeat walk_at "ex"
            refine MkL.in (by assumption) (by simp) ?_
            intro P1 s22 hs22
            refine addL (xs := vals zs) (ys := [.ref Rw]) hs22 (by walk_at "mem") (.head _) (by simp [vals]; omega) ?_
            intro K3 s23 hs23
            rw [vals_app (x := (Value.ref Rw, rowOf nm))] at hs23
            repeat walk_at "ex"
            try dsimp only
            repeat walk_at "ex"
            try dsimp only
            rename St C F2 _ _ => hs24
            have hs25 := hs24.pick (l' := (it2, IsLit D (k + 1)) :: (L, NsH [("agents", .ref G), ("least", .ref K3), ("parts", .ref acc)]) :: (L + 2, IsCl (some (.str nm tn))) :: (L + 1, IsCl (some (.ref D))) :: (K3, IsL (vals (zs ++ [(.ref Rw, rowOf nm)]))) :: (D, IsL (strValues ws)) :: l) (by walk_at "pick")
            have hs26 := Upd.mono (.there .here) hs25 fun o => NsH.pre (vars' := [_, _]) (extra := [_])
            refine ⟨n, Nat.lt_succ_self n, F2, k + 1, zs ++ [(.ref Rw, rowOf nm)], K3, _, Frz.le_trans hF hF2, by omega, ?_, ?_, hs26⟩
            · intro x hx
              rcases List.mem_append.mp hx with hx | hx
              · exact (hZ x hx).mono hF2
              · rw [List.mem_singleton.mp hx]; exact hrow
            · rw [htk, List.map_append, hzs]; rfl
          | false =>
            rw [hm, if_neg (by decide), List.append_nil] at htk
            repeat walk_at "ex"
            refine MkL.in (by assumption) (by simp) ?_
            intro P1 s22 hs22
            refine addL (xs := vals zs) (ys := []) hs22 (by walk_at "mem") (.head _) (by simp [vals]; omega) ?_
            intro K3 s23 hs23
            rw [List.append_nil] at hs23
            repeat walk_at "ex"
            try dsimp only
            repeat walk_at "ex"
            try dsimp only
            rename St C F' _ _ => hs24
            have hs25 := hs24.pick (l' := (it2, IsLit D (k + 1)) :: (L, NsH [("agents", .ref G), ("least", .ref K3), ("parts", .ref acc)]) :: (L + 2, IsCl (some (.str nm tn))) :: (L + 1, IsCl (some (.ref D))) :: (K3, IsL (vals zs)) :: (D, IsL (strValues ws)) :: l) (by walk_at "pick")
            have hs26 := Upd.mono (.there .here) hs25 fun o => NsH.pre (vars' := [_, _]) (extra := [_])
            exact ⟨n, Nat.lt_succ_self n, F', k + 1, zs, K3, _, hF, by omega, hZ, by rw [htk]; exact hzs, hs26⟩
end

end
section


noncomputable def IsZipO (TI TO : Addr) (f0 : Value) : OP := fun o => o = { cls := .type "zip", dict := none, data := .fields #[f0, .bool false, .bool false, .ref TI, .ref TO], slots := #[] }
noncomputable def zipL (z TI TO i1 i2 a b : Addr) (k : Nat) (f0 x y : Value) : Ledger := [(z, IsZipO TI TO f0), (TI, IsT [.ref i1, .ref i2]), (TO, IsT [x, y]), (i1, IsLit a k), (i2, IsLit b k)]

section
variable {C : Cx} {F : Frz} {l : Ledger} {A : Around} {E : Value → Shared → Prop} {s : Shared} {scope : Scope} {K : Addr} {cl : List (Str × Addr)} {env : Env}

/-- several objects of the ledger are others -/
theorem St.chg {cs cs' rest : Ledger} {s' : Shared} (h : St C F (cs ++ rest) s) (hk : ∀ b o, b ∉ cs.map (·.1) → s.heap.get? b = some o → s'.heap.get? b = some o) (ha : cs'.map (·.1) = cs.map (·.1)) (hn : ∀ p ∈ cs', ∃ o, s'.heap.get? p.1 = some o ∧ p.2 o)
    (ho : s'.os = s.os := by rfl) (hg : s'.gens = s.gens := by rfl) : St C F (cs' ++ rest) s' := by
  have hd : ∀ p ∈ cs', F p.1 = none := fun p hp => by
    have : p.1 ∈ cs.map (·.1) := ha ▸ List.mem_map_of_mem hp
    obtain ⟨q, hq, e⟩ := List.mem_map.mp this
    rw [← e]; exact h.dis q (List.mem_append_left _ hq)
  refine ⟨h.base, fun b o e => hk b o (fun hm => ?_) (h.frz b o e), fun p hp => ?_, ?_, fun p hp => ?_, ho.trans h.hos, hg.trans h.gen⟩
  · obtain ⟨q, hq, eb⟩ := List.mem_map.mp hm
    have := h.dis q (List.mem_append_left _ hq)
    rw [eb, e] at this; cases this
  · rcases List.mem_append.mp hp with hp | hp
    · exact hd p hp
    · exact h.dis p (List.mem_append_right _ hp)
  · have := h.nod
    rw [List.map_append] at this ⊢
    rw [ha]; exact this
  · rcases List.mem_append.mp hp with hp | hp
    · exact hn p hp
    · obtain ⟨o, e, q⟩ := h.own p (List.mem_append_right _ hp)
      refine ⟨o, hk _ o (fun hm => ?_) e, q⟩
      have := h.nod
      rw [List.map_append, List.nodup_append] at this
      exact this.2.2 _ hm _ (List.mem_map_of_mem hp) rfl

theorem St.goes {cs rest : Ledger} {s' : Shared} (h : St C F (cs ++ rest) s) (hk : ∀ b o, b ∉ cs.map (·.1) → s.heap.get? b = some o → s'.heap.get? b = some o)
    (ho : s'.os = s.os := by rfl) (hg : s'.gens = s.gens := by rfl) : St C F rest s' := by
  have hn := h.nod
  rw [List.map_append, List.nodup_append] at hn
  refine ⟨h.base, fun b o e => hk b o (fun hm => ?_) (h.frz b o e), fun p hp => h.dis p (List.mem_append_right _ hp), hn.2.1, fun p hp => ?_, ho.trans h.hos, hg.trans h.gen⟩
  · obtain ⟨q, hq, eb⟩ := List.mem_map.mp hm
    have := h.dis q (List.mem_append_left _ hq)
    rw [eb, e] at this; cases this
  · obtain ⟨o, e, q⟩ := h.own p (List.mem_append_right _ hp)
    exact ⟨o, hk _ o (fun hm => hn.2.2 _ hm _ (List.mem_map_of_mem hp) rfl) e, q⟩

/-! a comprehension whose own name is captured -/
noncomputable def LoopInC (C : Cx) (A : Around) (PA : OP) (e : Expr) (scope : Scope) (x : Str) (cl : List (Str × Addr)) (env : Env) (Post : Addr → Addr → Shared → Prop) (it : Value) (s : Shared) : Prop :=
  ∃ F l, St C F l s ∧ ∀ acc K s3, St C F ((K, NsH []) :: (K + 1, IsCl none) :: (acc, PA) :: l) s3 → Self C A it s3 ∧ codeAny C.M A (.compLoop e 0 it (.ref acc) (compEnvC scope ((x, K + 1) :: cl) K env)) (OkP (Post acc K)) s3
theorem LoopInC.in {PA : OP} {e : Expr} {x : Str} {Post : Addr → Addr → Shared → Prop} {it : Value} (hs : St C F l s)
    (h : ∀ acc K s3, St C F ((K, NsH []) :: (K + 1, IsCl none) :: (acc, PA) :: l) s3 → Self C A it s3 ∧ codeAny C.M A (.compLoop e 0 it (.ref acc) (compEnvC scope ((x, K + 1) :: cl) K env)) (OkP (Post acc K)) s3) : LoopInC C A PA e scope x cl env Post it s := ⟨F, l, hs, h⟩

theorem newEnv_cell {n0 n2 x : Str} {Q : Env → Shared → Prop} (hn : scope.names = [(n0, .local), (x, .cell), (n2, .free)])
    (h : Q (newEnv scope s.heap.objs.size env.globals ((x, s.heap.objs.size + 1) :: cl) env.qual none .none (some env) builtinsNs)
      { s with heap := (s.heap.push { cls := .type "dict", data := .dict #[] }).push { cls := .type "cell", data := .cell none } }) :
    wpAny C.M A (newFunctionEnv scope env.globals cl [] env.qual none .none (some env)) Q E s := by
  simp only [newFunctionEnv, Option.isSome_some, if_true]
  refine wpAny_bind (wpAny_alloc ?_)
  refine wpAny_bind (wpAny_layCells _ (fun name kind cells => by cases hkc : kind == NameKind.cell <;> simp [hkc]) _ _ _ _ ?_)
  rw [hn]
  have hz : (s.heap.push { cls := .type "dict", data := .dict #[] }).objs.size = s.heap.objs.size + 1 := Heap.size_push ..
  refine wpAny_bind (wpAny_pure ?_)
  refine wpAny_pure ?_
  have e1 : cellsFrom (s.heap.push { cls := .type "dict", data := .dict #[] }).objs.size [(n0, NameKind.local), (x, NameKind.cell), (n2, NameKind.free)] cl = (x, s.heap.objs.size + 1) :: cl := by rw [hz]; rfl
  show Q { scope := scope, locals := s.heap.objs.size, globals := env.globals, cells := cellsFrom (s.heap.push { cls := .type "dict", data := .dict #[] }).objs.size [(n0, NameKind.local), (x, NameKind.cell), (n2, NameKind.free)] cl, qual := env.qual, func := none, code := env.code, frame := env.frame, builtins := env.builtins } _
  rw [e1]
  exact h

theorem comp_genC {PA : OP} {e : Expr} {g : Comprehension} {gs : List Comprehension} {p2 : Pos} {newAcc first : Sem Value} {n0 n2 x : Str} {Q : Value → Shared → Prop}
    (hn : scope.names = [(n0, .local), (x, .cell), (n2, .free)]) (hst : Starts C A e) (hmk : Makes C A PA newAcc) (hcl : clausesOf e = g :: gs) (hclos : closureFor scope env = pure cl)
    (hs' : ∀ x, foldedSetIterable g.iter env x = pure x) (hkind : scope.kind = .function) (hnames : ∀ x ∈ scope.names, x.2 = .local → scope.names.lookup x.1 = some .local)
    (h : wpAny C.M A first (fun xv s₁ => wpAny C.M A (pyIter xv) (LoopInC C A PA e scope x cl env (fun acc K => LetGo C K Q (.ref acc))) E s₁) E s) :
    wpAny C.M A (comprehension e scope env p2 newAcc false first none) Q E s := by
  refine wpAny_comprehension_free (g := g) (gs := gs) hcl hs' hclos hkind hnames ?_
  refine wpAny_mono h (fun xv s₁ h₁ => wpAny_mono h₁ (fun it s₂ h₂ => ?_) fun _ _ z => z) fun _ _ z => z
  obtain ⟨F, l, hs, k⟩ := h₂
  refine hmk F l s₂ _ _ hs fun acc s3 hs3 => ?_
  refine newEnv_cell hn ?_
  have hz : (s3.heap.push { cls := .type "dict", data := .dict #[] }).objs.size = s3.heap.objs.size + 1 := Heap.size_push ..
  have g1 : ((s3.heap.push { cls := .type "dict", data := .dict #[] }).push { cls := .type "cell", data := .cell none }).get? s3.heap.objs.size = some { cls := .type "dict", data := .dict #[] } :=
    Heap.get?_push_of_some _ (Heap.get?_push_size _ rfl)
  have g2 : ((s3.heap.push { cls := .type "dict", data := .dict #[] }).push { cls := .type "cell", data := .cell none }).get? (s3.heap.objs.size + 1) = some { cls := .type "cell", data := .cell none } := by
    rw [← hz]; exact Heap.get?_push_size _ rfl
  have hs4 : St C F ((s3.heap.objs.size, NsH []) :: (s3.heap.objs.size + 1, IsCl none) :: (acc, PA) :: l) { s3 with heap := (s3.heap.push { cls := .type "dict", data := .dict #[] }).push { cls := .type "cell", data := .cell none } } := by
    refine hs3.pushes [(s3.heap.objs.size, NsH []), (s3.heap.objs.size + 1, IsCl none)] (fun b o e => Heap.get?_push_of_some _ (Heap.get?_push_of_some _ e)) ?_ ?_
    · intro p hp
      simp only [List.mem_cons, List.not_mem_nil, or_false] at hp
      rcases hp with rfl | rfl
      · refine ⟨Nat.le_refl _, ?_⟩
        exact nsH_of (vars := []) ((Heap.Ns.new s3.heap (.type "dict")).keeps fun b o e => Heap.get?_push_of_some _ e) List.nodup_nil (fun p hp => nomatch hp)
      · exact ⟨Nat.le_succ _, _, g2, rfl⟩
    · show ([s3.heap.objs.size, s3.heap.objs.size + 1] : List Addr).Nodup
      simp
  obtain ⟨k1, k2⟩ := k acc s3.heap.objs.size _ hs4
  refine codeAny_mono (hst it (.ref acc) (compEnvC scope ((x, s3.heap.objs.size + 1) :: cl) s3.heap.objs.size env) _ _ k2 k1) fun r s' hr => ?_
  cases r with
  | error e => exact hr.elim
  | ok f =>
    obtain ⟨F', l', vars, hs5, q⟩ := hr
    obtain ⟨m, n, _, _⟩ := hs5.ns List.mem_cons_self
    exact ⟨m, n, fun h' hsb => q _ (hs5.drop .here hsb.extBut)⟩

theorem e_compC {elt target iter : Expr} {ifs : List Expr} {rest : List Comprehension} {pos : Pos} {n0 n2 x : Str} {Q : Value → Shared → Prop}
    (hn : scope.names = [(n0, .local), (x, .cell), (n2, .free)])
    (hclos : closureFor scope env = pure cl) (hkind : scope.kind = .function) (hnames : ∀ x ∈ scope.names, x.2 = .local → scope.names.lookup x.1 = some .local)
    (h : wpAny C.M A (eval iter env) (fun xv s₁ => wpAny C.M A (pyIter xv) (LoopInC C A (IsL []) (.ListComp elt (⟨target, iter, ifs, 0⟩ :: rest) scope pos) scope x cl env (fun acc K => LetGo C K Q (.ref acc))) E s₁) E s)
    (hs' : ∀ x, foldedSetIterable iter env x = pure x := by intro _; rfl) :
    wpAny C.M A (eval (.ListComp elt (⟨target, iter, ifs, 0⟩ :: rest) scope pos) env) Q E s := by
  rw [eval_ListComp]
  exact comp_genC (g := ⟨target, iter, ifs, 0⟩) (gs := rest) hn starts_list makes_list rfl hclos hs' hkind hnames h

/-! zip -/
theorem c_zip {a b : Addr} {xs ys : List Value} {Q : Value → Shared → Prop} (hs : St C F l s) (ha : (a, IsL xs) ∈ l) (hb : (b, IsL ys) ∈ l)
    (h : ∀ z TI TO i1 i2 s', St C F (zipL z TI TO i1 i2 a b 0 .none .none .none ++ l) s' → Q (.ref z) s') : wpAny C.M A (call (.type "zip") [.ref a, .ref b]) Q E s := by
  refine call_zip_2 (hs.isList ha) (hs.isList hb) fun h' hz hTI hTO h1 h2 hsz hk => ?_
  refine h _ (s.heap.objs.size + 2) (s.heap.objs.size + 3) s.heap.objs.size (s.heap.objs.size + 1) _ (hs.pushes _ hk ?_ ?_)
  · intro p hp
    simp only [zipL, List.mem_cons, List.not_mem_nil, or_false] at hp
    rcases hp with rfl | rfl | rfl | rfl | rfl
    · exact ⟨Nat.le_add_right _ _, _, hz, rfl⟩
    · exact ⟨Nat.le_add_right _ _, _, hTI, rfl⟩
    · exact ⟨Nat.le_add_right _ _, _, hTO, rfl⟩
    · obtain ⟨o, e, c, d⟩ := h1; exact ⟨Nat.le_refl _, o, e, c, d⟩
    · obtain ⟨o, e, c, d⟩ := h2; exact ⟨Nat.le_add_right _ _, o, e, c, d⟩
  · show ([s.heap.objs.size + 4, s.heap.objs.size + 2, s.heap.objs.size + 3, s.heap.objs.size, s.heap.objs.size + 1] : List Nat).Nodup
    generalize s.heap.objs.size = n
    simp only [List.nodup_cons, List.mem_cons, List.not_mem_nil, or_false, not_or, List.nodup_nil, not_false_iff, and_true]
    omega

theorem zipL.apart {z TI TO i1 i2 a b : Addr} {k : Nat} {f0 x y : Value} {xs ys : List Value} (hs : St C F (zipL z TI TO i1 i2 a b k f0 x y ++ l) s) (ha : (a, IsL xs) ∈ l) (hb : (b, IsL ys) ∈ l) : ZipApart z TI TO i1 i2 a b := by
  have hn := hs.nod
  rw [List.map_append, List.nodup_append] at hn
  obtain ⟨h1, _, h3⟩ := hn
  have hA : ∀ p ∈ [z, TI, TO, i1, i2], p ≠ a := fun p hp => h3 p hp _ (List.mem_map_of_mem ha)
  have hB : ∀ p ∈ [z, TI, TO, i1, i2], p ≠ b := fun p hp => h3 p hp _ (List.mem_map_of_mem hb)
  have h1' : ([z, TI, TO, i1, i2] : List Addr).Nodup := h1
  simp only [List.nodup_cons, List.mem_cons, List.not_mem_nil, or_false, not_or, List.nodup_nil, not_false_iff, and_true] at h1'
  obtain ⟨⟨a1, a2, a3, a4⟩, ⟨b1, b2, b3⟩, ⟨c1, c2⟩, d1⟩ := h1'
  exact { TIz := Ne.symm a1, TOz := Ne.symm a2, i1z := Ne.symm a3, i2z := Ne.symm a4, TITO := b1, TIi1 := b2, TIi2 := b3, TOi1 := c1, TOi2 := c2, i12 := d1,
          l1z := (hA z (by simp)).symm, l1TO := (hA TO (by simp)).symm, l1i1 := (hA i1 (by simp)).symm, l1i2 := (hA i2 (by simp)).symm,
          l2z := (hB z (by simp)).symm, l2TO := (hB TO (by simp)).symm, l2i1 := (hB i1 (by simp)).symm, l2i2 := (hB i2 (by simp)).symm }
theorem zipL.not {z TI TO i1 i2 a b c : Addr} {k : Nat} {f0 x y : Value} (h : c ∉ (zipL z TI TO i1 i2 a b k f0 x y).map (·.1)) : c ≠ z ∧ c ≠ TI ∧ c ≠ TO ∧ c ≠ i1 ∧ c ≠ i2 := by
  have h' : c ∉ ([z, TI, TO, i1, i2] : List Addr) := h
  simpa using h'

theorem n_zip {z TI TO i1 i2 a b : Addr} {k : Nat} {p q x y : Value} {xs ys : List Value} {Q : Option Value → Shared → Prop} (hs : St C F (zipL z TI TO i1 i2 a b k .none p q ++ l) s) (ha : (a, IsL xs) ∈ l) (hb : (b, IsL ys) ∈ l)
    (hx : xs[k]? = some x) (hy : ys[k]? = some y) (h : ∀ T s', St C F ((T, IsT [x, y]) :: zipL z TI TO i1 i2 a b (k + 1) (rawInt T) x y ++ l) s' → Q (some (.ref T)) s') : wpAny C.M A (pyNext (.ref z)) Q E s := by
  have D := zipL.apart hs ha hb
  obtain ⟨oz, ez, rfl⟩ := hs.at (List.mem_append_left l (.head _))
  obtain ⟨oI, eI, rfl⟩ := hs.at (List.mem_append_left l (.tail _ (.head _)))
  obtain ⟨oO, eO, rfl⟩ := hs.at (List.mem_append_left l (.tail _ (.tail _ (.head _))))
  obtain ⟨o1, e1, c1, d1⟩ := hs.at (List.mem_append_left l (.tail _ (.tail _ (.tail _ (.head _)))))
  obtain ⟨o2, e2, c2, d2⟩ := hs.at (List.mem_append_left l (.tail _ (.tail _ (.tail _ (.tail _ (.head _))))))
  refine wpAny_pyNext_zip_item D ez eI eO ⟨o1, e1, c1, d1⟩ ⟨o2, e2, c2, d2⟩ (hs.isList (List.mem_append_right _ ha)) (hs.isList (List.mem_append_right _ hb)) (by simpa using hx) (by simpa using hy) fun h' hz hTO h1 h2 hT hsz hk => ?_
  have hTI := hk _ _ D.TIz D.TITO D.TIi1 D.TIi2 eI
  have hs1 : St C F (zipL z TI TO i1 i2 a b (k + 1) (rawInt s.heap.objs.size) x y ++ l) { s with heap := h' } := by
    refine hs.chg (fun c o hc e => ?_) rfl (fun p hp => ?_)
    · obtain ⟨q1, q2, q3, q4, q5⟩ := zipL.not hc
      exact hk c o q1 q3 q4 q5 e
    · simp only [zipL, List.mem_cons, List.not_mem_nil, or_false] at hp
      rcases hp with rfl | rfl | rfl | rfl | rfl
      · exact ⟨_, hz, rfl⟩
      · exact ⟨_, hTI, rfl⟩
      · exact ⟨_, hTO, rfl⟩
      · obtain ⟨o, e, c, d⟩ := h1; exact ⟨o, e, c, d⟩
      · obtain ⟨o, e, c, d⟩ := h2; exact ⟨o, e, c, d⟩
  refine h _ _ ⟨hs1.base, hs1.frz, fun p hp => ?_, ?_, fun p hp => ?_, hs1.hos, hs1.gen⟩
  · rcases List.mem_cons.mp hp with rfl | hp
    · cases e : F s.heap.objs.size with
      | none => rfl
      | some o => exact absurd (Heap.lt_size (hs.frz _ o e)) (Nat.lt_irrefl _)
    · exact hs1.dis p hp
  · rw [List.cons_append, List.map_cons, List.nodup_cons]
    refine ⟨fun hm => ?_, hs1.nod⟩
    have hm' : s.heap.objs.size ∈ (zipL z TI TO i1 i2 a b k .none p q ++ l).map (·.1) := by
      rw [List.map_append] at hm ⊢; exact hm
    obtain ⟨r, hr, e⟩ := List.mem_map.mp hm'
    have := hs.lt r hr
    rw [e] at this
    exact Nat.lt_irrefl _ this
  · rcases List.mem_cons.mp hp with rfl | hp
    · exact ⟨_, hT, rfl⟩
    · exact hs1.own p hp
theorem n_zipE {z TI TO i1 i2 a b : Addr} {k : Nat} {p q : Value} {xs ys : List Value} {Q : Option Value → Shared → Prop} (hs : St C F (zipL z TI TO i1 i2 a b k .none p q ++ l) s) (ha : (a, IsL xs) ∈ l) (hb : (b, IsL ys) ∈ l)
    (hx : xs[k]? = none) (hh : A.handled = none) (h : ∀ s', St C F l s' → Q none s') : wpAny C.M A (pyNext (.ref z)) Q E s := by
  have D := zipL.apart hs ha hb
  obtain ⟨oz, ez, rfl⟩ := hs.at (List.mem_append_left l (.head _))
  obtain ⟨oI, eI, rfl⟩ := hs.at (List.mem_append_left l (.tail _ (.head _)))
  obtain ⟨oO, eO, rfl⟩ := hs.at (List.mem_append_left l (.tail _ (.tail _ (.head _))))
  obtain ⟨o1, e1, c1, d1⟩ := hs.at (List.mem_append_left l (.tail _ (.tail _ (.tail _ (.head _)))))
  obtain ⟨o2, e2, c2, d2⟩ := hs.at (List.mem_append_left l (.tail _ (.tail _ (.tail _ (.tail _ (.head _))))))
  refine wpAny_pyNext_zip_end hh D ez eI eO ⟨o1, e1, c1, d1⟩ ⟨o2, e2, c2, d2⟩ (hs.isList (List.mem_append_right _ ha)) (hs.isList (List.mem_append_right _ hb)) (.inl (by simpa using hx)) fun h' hk => ?_
  refine h _ (hs.goes (s' := { s with heap := h' }) fun c o hc e => ?_)
  obtain ⟨q1, q2, q3, q4, q5⟩ := zipL.not hc
  exact hk c o q1 q3 q4 q5 e
theorem go_zip {z TI TO i1 i2 a b T : Addr} {k : Nat} {x y : Value} {elts : List Expr} {x1 : Nat} {pos : Pos} {Q : Unit → Shared → Prop} (hs : St C F ((T, IsT [x, y]) :: zipL z TI TO i1 i2 a b k (rawInt T) x y ++ l) s)
    (h : ∀ s', St C F ((T, IsT [x, y]) :: zipL z TI TO i1 i2 a b k .none x y ++ l) s' → Q () s') : wpAny C.M A (letOwnedTupleGo (.Tuple elts x1 pos) (.ref z) (.ref T)) Q E s := by
  obtain ⟨oz, ez, rfl⟩ := hs.at (.tail _ (.head _))
  refine wpAny_letOwnedTupleGo_zip ez fun h' hz hsb => ?_
  exact h _ (hs.upd (.there .here) hsb.extBut ⟨_, hz, rfl⟩)
end

end
local macro_rules | `(tactic| walk_at "mem") => `(tactic| with_reducible (repeat' first | exact List.mem_cons_self | assumption | refine List.mem_cons_of_mem _ ?_ | refine List.mem_append_right _ ?_))
section


section
variable {prog : Program} {w : World} {A : Around} {E : Value → Shared → Prop} {R : Result → Shared → Prop} {s : Shared}
/-- one turn of a comprehension without tests -/
theorem turnZ {elt target iter : Expr} {scope : Scope} {pos : Pos} {it acc : Value} {env : Env}
    (h : wpAny (model prog w) A (pyNext it) (fun r s₁ => match r with
      | none => R (.ok .next) s₁
      | some v => wpAny (model prog w) A (letOwnedTupleGo target it v) (fun _ s₁ => wpAny (model prog w) A (assign target env v) (fun _ s₂ => wpAny (model prog w) A (eval elt env) (fun x s₃ =>
          wpAny (model prog w) A (call (.builtin "list.append") [acc, x]) (fun _ s₄ => codeAny (model prog w) A (.compLoop (.ListComp elt [⟨target, iter, [], 0⟩] scope pos) 0 it acc env) R s₄) (notedBy (model prog w) A env fun e s' => R (.error e) s') s₃)
          (notedBy (model prog w) A env fun e s' => R (.error e) s') s₂) (notedBy (model prog w) A env fun e s' => R (.error e) s') s₁) (notedBy (model prog w) A env fun e s' => R (.error e) s') s₁) (notedBy (model prog w) A env fun e s' => R (.error e) s') s) :
    codeAny (model prog w) A (.compLoop (.ListComp elt [⟨target, iter, [], 0⟩] scope pos) 0 it acc env) R s := by
  refine codeAny_of_tree ?_
  show wpAny _ A ((compTurn (.ListComp elt [⟨target, iter, [], 0⟩] scope pos) 0 it acc env).onRaise (fun x => do noteFrame x env; theTreesLotGoes x)) _ _ s
  refine wpAny_noted ?_
  rw [compTurn_list1]
  refine wpAny_bind (wpAny_standAt (wpAny_bind (wpAny_mono h (fun r s₁ h₁ => ?_) fun _ _ h' => h')))
  cases r with
  | none => exact wpAny_pure h₁
  | some v =>
    exact wpAny_bind (wpAny_mono h₁ (fun _ s₁ h₁ => wpAny_bind (wpAny_mono h₁ (fun _ s₂ h₂ => wpAny_bind (wpAny_bind (wpAny_mono h₂ (fun x s₃ h₃ => wpAny_bind (wpAny_mono h₃
      (fun _ s₄ h₄ => wpAny_pure (wpAny_pure ⟨rfl, h₄⟩)) fun _ _ h' => h')) fun _ _ h' => h'))) fun _ _ h' => h')) fun _ _ h' => h')
theorem turnN {elt target iter : Expr} {scope : Scope} {pos : Pos} {it acc : Value} {env : Env}
    (h : wpAny (model prog w) A (pyNext it) (fun r s₁ => match r with
      | none => R (.ok .next) s₁
      | some v => wpAny (model prog w) A (assign target env v) (fun _ s₂ => wpAny (model prog w) A (eval elt env) (fun x s₃ =>
          wpAny (model prog w) A (call (.builtin "list.append") [acc, x]) (fun _ s₄ => codeAny (model prog w) A (.compLoop (.ListComp elt [⟨target, iter, [], 0⟩] scope pos) 0 it acc env) R s₄) (notedBy (model prog w) A env fun e s' => R (.error e) s') s₃)
          (notedBy (model prog w) A env fun e s' => R (.error e) s') s₂) (notedBy (model prog w) A env fun e s' => R (.error e) s') s₁) (notedBy (model prog w) A env fun e s' => R (.error e) s') s)
    (ht : ∀ v, letOwnedTupleGo target it v = pure () := by intro _; rfl) :
    codeAny (model prog w) A (.compLoop (.ListComp elt [⟨target, iter, [], 0⟩] scope pos) 0 it acc env) R s := by
  refine turnZ (wpAny_mono h (fun r s₁ h₁ => ?_) fun _ _ h' => h')
  cases r with
  | none => exact h₁
  | some v => exact wpAny_of_eq (ht v) h₁
end

/-- the law's frame -/
noncomputable abbrev lE (C : Cx) (L : Addr) (cd : Value) : Env := envX (fName 18) (fScope 18) L (C.fn 18) cd [("least", L + 3), ("sides", L + 2), ("numbers", L + 1)]
noncomputable def lawV (i : Nat) : Expr := match ((fBody 18)[i]? : Option Stmt) with | some (Stmt.Assign _ v _) => v | _ => default
noncomputable def eltOf (e : Expr) : Expr := match e with | .ListComp e _ _ _ => e | _ => default
noncomputable def scOf (e : Expr) : Scope := match e with | .ListComp _ _ s _ => s | _ => default
noncomputable def Good (a : Str) : Prop := ∃ nm ∈ nm15, ∃ b, a = agTx nm b

section
variable {C : Cx} {F : Frz} {l : Ledger} {A : Around} {E : Value → Shared → Prop} {s : Shared} {cd : Value} {c : Addr} {mt : Nat → Addr} {cdm : Nat → Value}
set_option maxRecDepth 10000
set_option maxHeartbeats 1000000
theorem side_in {c12 : Value} {N K L c1 c2 : Addr} {vs : List Value} {sd : Int} {td : Tok} {Q : Value → Shared → Prop} (W : Wd C) (f12 : FnAt C 12 c12) (hs : St C F l s) (hr : Rm A 1)
    (h1 : (c1, IsCl (some (.int sd td))) ∈ l) (h2 : (c2, IsCl (some (.ref N))) ∈ l) (hN : (N, IsL vs) ∈ l) (hv : ∀ v ∈ vs, ∃ i t, v = .int i t) (hz : vs.length < 50)
    (h : ∀ G us s', (∀ u ∈ us, Good u.1) → us.length < 50 → St C F ((G, IsL (strValues us)) :: l) s' → Q (.ref G) s') :
    wpAny C.M A (eval (eltOf (lawV 1)) (compEnvC (scOf (lawV 1)) [("side", c1), ("numbers", c2)] K (lE C L cd))) Q E s := by
  show wpAny _ _ (eval (Expr.ListComp _ _ _ _) _) _ _ _
  refine e_comp (cl := [("side", c1)]) (by rfl) (by decide +kernel) (by decide +kernel) (by decide +kernel) ?_
  repeat walk_at "ex"
  refine i_list (items := vs) hs hN ?_
  intro it s1 hs1
  refine LoopIn.in hs1 fun acc K2 s2 hs2 => ⟨self_lit hs2 (.tail _ (.tail _ (.head _))), ?_⟩
  refine codeAny_compLoop_tests (fun n s' => ∃ (k : Nat) (us : List (Str × Tok)), n + k = vs.length ∧ us.length ≤ k ∧ (∀ u ∈ us, Good u.1) ∧
    St C F ((K2, NsH []) :: (acc, IsL (strValues us)) :: (it, IsLit N k) :: l) s') ?_ vs.length ⟨0, [], rfl, Nat.le_refl _, (fun _ h => nomatch h), hs2⟩
  clear hs2 hs1 hs
  rintro n s3 ⟨k, us, hnk, hul, hu, hs3⟩
  cases n with
  | zero =>
    have hk : k = vs.length := by omega
    subst hk
    refine n_listE hs3 (.tail _ (.tail _ (.head _))) (.there (.there .here)) (by walk_at "mem") (by simp) hr.handled ?_
    intro s4 hs4
    dsimp only [OkP]
    refine LetGo.in hs4 fun s5 hs5 => ?_
    exact h acc us s5 hu (by omega) hs5
  | succ n =>
    have hk : k < vs.length := by omega
    obtain ⟨v, hvk⟩ : ∃ v, vs[k]? = some v := ⟨_, List.getElem?_eq_getElem hk⟩
    obtain ⟨x, tx, rfl⟩ := hv v (List.mem_of_getElem? hvk)
    refine n_list hs3 (.there (.there .here)) (by walk_at "mem") hvk ?_
    intro s4 hs4
    repeat walk_at "ex"
    refine o_fdiv (by assumption) (by omega) ?_
    intro t5 s5 hs5
    repeat walk_at "ex"
    refine o_fmod (by assumption) (by omega) ?_
    intro t6 s6 hs6
    repeat walk_at "ex"
    refine wpAny_eq_int ?_
    repeat walk_at "ex"
    cases hb : ((x.fdiv 15).fmod 2 == sd) with
    | false =>
      repeat walk_at "ex"
      try dsimp only
      repeat walk_at "ex"
      have hs7 := Upd.mono .here hs6 fun o => NsH.pre (vars' := []) (extra := [_])
      exact ⟨n, Nat.lt_succ_self n, k + 1, us, by omega, by omega, hu, hs7⟩
    | true =>
      repeat walk_at "ex"
      try dsimp only
      repeat walk_at "ex"
      refine gl W (by assumption) f12.glob ?_
      refine callF f12 ?_
      repeat walk_at "ex"
      refine ⟨⟨_, _, by assumption⟩, wpAny_call ?_⟩
      refine agent_spec W f12 (by assumption) hr ?_
      intro nm t s7 hnm hs7
      try dsimp only
      refine appendL (items := strValues us) hs7 (.there .here) (by simp [strValues]; omega) fun s8 hs8 => ?_
      rw [show strValues us ++ [Value.str (agTx nm (agB x)) t] = strValues (us ++ [(agTx nm (agB x), t)]) by simp [strValues]] at hs8
      have hs9 := Upd.mono .here hs8 fun o => NsH.pre (vars' := []) (extra := [_])
      refine ⟨n, Nat.lt_succ_self n, k + 1, us ++ [(agTx nm (agB x), t)], by omega, by simp; omega, ?_, hs9⟩
      intro u hu'
      rcases List.mem_append.mp hu' with hu' | hu'
      · exact hu u hu'
      · rw [List.mem_singleton.mp hu']; exact ⟨nm, hnm, agB x, rfl⟩

theorem sides_comp {c12 : Value} {N L : Addr} {vs : List Value} {Q : Value → Shared → Prop} (W : Wd C) (f12 : FnAt C 12 c12) (hs : St C F l s) (hr : Rm A 1)
    (h2 : (L + 1, IsCl (some (.ref N))) ∈ l) (hN : (N, IsL vs) ∈ l) (hv : ∀ v ∈ vs, ∃ i t, v = .int i t) (hz : vs.length < 50)
    (h : ∀ S G0 G1 us0 us1 s', (∀ u ∈ us0, Good u.1) → us0.length < 50 → (∀ u ∈ us1, Good u.1) → us1.length < 50 →
      St C F ((S, IsL [.ref G0, .ref G1]) :: (G0, IsL (strValues us0)) :: (G1, IsL (strValues us1)) :: l) s' → Q (.ref S) s') :
    wpAny C.M A (eval (lawV 1) (lE C L cd)) Q E s := by
  show wpAny _ _ (eval (Expr.ListComp _ _ _ _) _) _ _ _
  refine e_compC (cl := [("numbers", L + 1)]) (n0 := ".0") (n2 := "numbers") (x := "side") (by rfl) (by rfl) (by decide +kernel) (by decide +kernel) ?_
  repeat walk_at "ex"
  refine MkL.in (by assumption) (by simp) ?_
  intro P s1 hs1
  refine i_list hs1 (.head _) ?_
  intro it s2 hs2
  refine LoopInC.in hs2 fun acc K s3 hs3 => ⟨self_lit hs3 (.tail _ (.tail _ (.tail _ (.head _)))), ?_⟩
  clear hs2 hs1
  refine turnN ?_
  refine n_list hs3 (.there (.there (.there .here))) (by walk_at "mem") rfl ?_
  intro s4 hs4
  repeat walk_at "ex"
  rename St C F _ _ => hs5
  refine side_in W f12 hs5 hr (.tail _ (.head _)) (by walk_at "mem") (by walk_at "mem") hv hz ?_
  intro G0 us0 s6 hu0 hz0 hs6
  refine appendL (items := []) hs6 (.there (.there (.there .here))) (by simp) fun s7 hs7 => ?_
  clear hs6 hs5 hs4 hs3
  refine turnN ?_
  refine n_list hs7 (.there (.there (.there (.there .here)))) (by walk_at "mem") rfl ?_
  intro s8 hs8
  repeat walk_at "ex"
  rename St C F _ _ => hs9
  refine side_in W f12 hs9 hr (.tail _ (.tail _ (.head _))) (by walk_at "mem") (by walk_at "mem") hv hz ?_
  intro G1 us1 s10 hu1 hz1 hs10
  refine appendL (items := [.ref G0]) hs10 (.there (.there (.there (.there .here)))) (by simp) fun s11 hs11 => ?_
  simp only [List.cons_append, List.nil_append] at hs11
  clear hs10 hs9 hs8 hs7
  refine turnN ?_
  refine n_listE hs11 (by walk_at "mem") (.there (.there (.there (.there (.there .here))))) (by walk_at "mem") rfl hr.handled ?_
  intro s12 hs12
  dsimp only [OkP]
  refine LetGo.in (hs12.pick (l' := (K, NsH []) :: _) ?_) fun s13 hs13 => h acc G0 G1 us0 us1 s13 hu0 hz0 hu1 hz1 hs13
  walk_at "pick"
end

end
section


noncomputable def tupE (i j : Nat) : Expr := match lawV i with | .Tuple es _ _ => (es[j]?).getD default | _ => default
abbrev rv (U V : Addr) : List (Str × Value) := [("useragents", .ref U), ("rulelines", .ref V), ("delay", .none), ("req_rate", .none)]
/-- a record of the law -/
noncomputable def recL (c x dx U V : Addr) (us : List (Str × Tok)) : Ledger := [(x, IsInst c dx), (dx, IdH (rv U V)), (U, IsL (strValues us))]

section
variable {C : Cx} {F : Frz} {l : Ledger} {A : Around} {E : Value → Shared → Prop} {s : Shared} {cd : Value} {c : Addr} {mt : Nat → Addr} {cdm : Nat → Value}
set_option maxRecDepth 10000
set_option maxHeartbeats 1000000
theorem records_comp {c13 : Value} {S G0 G1 L : Addr} {us0 us1 : List (Str × Tok)} {Q : Value → Shared → Prop} (W : Wd C) (X : Cl C c mt cdm) (f13 : FnAt C 13 c13) (hs : St C F l s) (hr : Rm A 3)
    (hc : (L + 2, IsCl (some (.ref S))) ∈ l) (hS : (S, IsL [.ref G0, .ref G1]) ∈ l) (hG0 : (G0, IsL (strValues us0)) ∈ l) (hG1 : (G1, IsL (strValues us1)) ∈ l) (hz0 : us0.length < 50) (hz1 : us1.length < 50)
    (h : ∀ K r0 d0 U0 V0 r1 d1 U1 V1 s', St C F ((K, IsL [.ref r0, .ref r1]) :: (r0, IsInst c d0) :: (d0, IdH (rv U0 V0)) :: (U0, IsL (strValues us0)) :: (r1, IsInst c d1) :: (d1, IdH (rv U1 V1)) :: (U1, IsL (strValues us1)) :: l) s' → Q (.ref K) s') :
    wpAny C.M A (eval (tupE 2 0) (lE C L cd)) Q E s := by
  show wpAny _ _ (eval (Expr.ListComp _ _ _ _) _) _ _ _
  refine e_comp (cl := []) (by rfl) (by decide +kernel) (by decide +kernel) (by decide +kernel) ?_
  repeat walk_at "ex"
  refine i_list (items := [.ref G0, .ref G1]) hs hS ?_
  intro it s1 hs1
  refine LoopIn.in hs1 fun acc K s2 hs2 => ⟨self_lit hs2 (.tail _ (.tail _ (.head _))), ?_⟩
  clear hs1 hs
  refine turnN ?_
  refine n_list hs2 (.there (.there .here)) (by walk_at "mem") rfl ?_
  intro s3 hs3
  repeat walk_at "ex"
  refine gl W (by assumption) f13.glob ?_
  refine callF f13 ?_
  repeat walk_at "ex"
  refine ⟨⟨_, _, by assumption⟩, wpAny_call ?_⟩
  rename St C F _ _ => hs4
  refine record_spec W X f13 hs4 hr (by walk_at "mem") (by simp [strValues]; omega) ?_
  intro r0 d0 U0 V0 s5 hs5
  try dsimp only
  refine appendL (items := []) hs5 (.there (.there (.there (.there .here)))) (by simp) fun s6 hs6 => ?_
  clear hs5 hs4 hs3 hs2
  refine turnN ?_
  refine n_list hs6 (.there (.there (.there (.there (.there .here))))) (by walk_at "mem") rfl ?_
  intro s7 hs7
  repeat walk_at "ex"
  refine gl W (by assumption) f13.glob ?_
  refine callF f13 ?_
  repeat walk_at "ex"
  refine ⟨⟨_, _, by assumption⟩, wpAny_call ?_⟩
  rename St C F _ _ => hs8
  refine record_spec W X f13 hs8 hr (by walk_at "mem") (by simp [strValues]; omega) ?_
  intro r1 d1 U1 V1 s9 hs9
  try dsimp only
  refine appendL (items := [.ref r0]) hs9 (.there (.there (.there (.there (.there (.there (.there .here))))))) (by simp) fun s10 hs10 => ?_
  simp only [List.cons_append, List.nil_append] at hs10
  clear hs9 hs8 hs7 hs6
  refine turnN ?_
  refine n_listE hs10 (by walk_at "mem") (.there (.there (.there (.there (.there (.there (.there (.there .here)))))))) (by walk_at "mem") rfl hr.handled ?_
  intro s12 hs12
  dsimp only [OkP]
  refine LetGo.in (hs12.pick (l' := (K, NsH [("side", .ref G1)]) :: _) ?_) fun s13 hs13 => h acc r0 d0 U0 V0 r1 d1 U1 V1 s13 hs13
  walk_at "pick"

theorem least_comp {c17 : Value} {S G0 G1 L : Addr} {us0 us1 : List (Str × Tok)} {Q : Value → Shared → Prop} (W : Wd C) (f17 : FnAt C 17 c17) (hs : St C F l s) (hr : Rm A 3)
    (hc : (L + 2, IsCl (some (.ref S))) ∈ l) (hS : (S, IsL [.ref G0, .ref G1]) ∈ l) (hG0 : (G0, IsL (strValues us0)) ∈ l) (hG1 : (G1, IsL (strValues us1)) ∈ l) (hz0 : us0.length < 50) (hz1 : us1.length < 50)
    (hu0 : ∀ u ∈ us0, u.1.length < 100) (hu1 : ∀ u ∈ us1, u.1.length < 100) (hl0 : ∀ x ∈ lowA (us0.map (·.1)), x ∈ nms) (hl1 : ∀ x ∈ lowA (us1.map (·.1)), x ∈ nms)
    (h : ∀ F' K D0 D1 (zs0 zs1 : List X) (As0 As1 : List Str) s', F.le F' → Rows F' zs0 → Srt zs0 → As0.Nodup → (∀ x, x ∈ As0 ↔ x ∈ lowA (us0.map (·.1))) → (zs0.map (·.2)).Perm ((As0.filter (isMin As0)).map rowOf) → zs0.length < 50 →
      Rows F' zs1 → Srt zs1 → As1.Nodup → (∀ x, x ∈ As1 ↔ x ∈ lowA (us1.map (·.1))) → (zs1.map (·.2)).Perm ((As1.filter (isMin As1)).map rowOf) → zs1.length < 50 →
      St C F' ((K, IsL [.ref D0, .ref D1]) :: (D0, IsL (vals zs0)) :: (D1, IsL (vals zs1)) :: l) s' → Q (.ref K) s') :
    wpAny C.M A (eval (tupE 2 2) (lE C L cd)) Q E s := by
  show wpAny _ _ (eval (Expr.ListComp _ _ _ _) _) _ _ _
  refine e_comp (cl := []) (by rfl) (by decide +kernel) (by decide +kernel) (by decide +kernel) ?_
  repeat walk_at "ex"
  refine i_list (items := [.ref G0, .ref G1]) hs hS ?_
  intro it s1 hs1
  refine LoopIn.in hs1 fun acc K s2 hs2 => ⟨self_lit hs2 (.tail _ (.tail _ (.head _))), ?_⟩
  clear hs1 hs
  refine turnN ?_
  refine n_list hs2 (.there (.there .here)) (by walk_at "mem") rfl ?_
  intro s3 hs3
  repeat walk_at "ex"
  refine gl W (by assumption) f17.glob ?_
  refine callF f17 ?_
  repeat walk_at "ex"
  refine ⟨⟨_, _, by assumption⟩, wpAny_call ?_⟩
  rename St C F _ _ => hs4
  refine least_spec W f17 hs4 hr (by walk_at "mem") hz0 hu0 hl0 ?_
  intro F1 zs0 As0 D0 s5 hF1 hR0 hS0 hA0 hm0 hp0 hn0 hs5
  try dsimp only
  refine appendL (items := []) hs5 (.there (.there .here)) (by simp) fun s6 hs6 => ?_
  clear hs5 hs4 hs3 hs2
  refine turnN ?_
  refine n_list hs6 (.there (.there (.there .here))) (by walk_at "mem") rfl ?_
  intro s7 hs7
  repeat walk_at "ex"
  refine gl W (by assumption) f17.glob ?_
  refine callF f17 ?_
  repeat walk_at "ex"
  refine ⟨⟨_, _, by assumption⟩, wpAny_call ?_⟩
  rename St C F1 _ _ => hs8
  refine least_spec W f17 hs8 hr (by walk_at "mem") hz1 hu1 hl1 ?_
  intro F2 zs1 As1 D1 s9 hF2 hR1 hS1 hA1 hm1 hp1 hn1 hs9
  try dsimp only
  refine appendL (items := [.ref D0]) hs9 (.there (.there (.there .here))) (by simp) fun s10 hs10 => ?_
  simp only [List.cons_append, List.nil_append] at hs10
  clear hs9 hs8 hs7 hs6
  refine turnN ?_
  refine n_listE hs10 (by walk_at "mem") (.there (.there (.there (.there .here)))) (by walk_at "mem") rfl hr.handled ?_
  intro s12 hs12
  dsimp only [OkP]
  refine LetGo.in (hs12.pick (l' := (K, NsH [("side", .ref G1)]) :: _) ?_) fun s13 hs13 => h F2 acc D0 D1 zs0 zs1 As0 As1 s13 (Frz.le_trans hF1 hF2) (hR0.mono hF2) hS0 hA0 hm0 hp0 hn0 hR1 hS1 hA1 hm1 hp1 hn1 hs13
  walk_at "pick"

theorem kept_comp {c14 c15 c2 c3 c4 c5 c6 : Value} {S G0 G1 L : Addr} {us0 us1 : List (Str × Tok)} {Q : Value → Shared → Prop} (W : Wd C) (Xc : Cl C c mt cdm) (f14 : FnAt C 14 c14) (f15 : FnAt C 15 c15) (f2 : FnAt C 2 c2) (f3 : FnAt C 3 c3) (f4 : FnAt C 4 c4) (f6 : FnAt C 6 c6) (f5 : FnAt C 5 c5)
    (hs : St C F l s) (hr : Rm A 5)
    (hc : (L + 2, IsCl (some (.ref S))) ∈ l) (hS : (S, IsL [.ref G0, .ref G1]) ∈ l) (hG0 : (G0, IsL (strValues us0)) ∈ l) (hG1 : (G1, IsL (strValues us1)) ∈ l) (hz0 : us0.length < 50) (hz1 : us1.length < 50)
    (hu0 : ∀ u ∈ us0, u.1.length < 100) (hu1 : ∀ u ∈ us1, u.1.length < 100) (hl0 : ∀ u ∈ us0, Txt.lower u.1 = "*" ∨ Txt.lower u.1 ∈ nms) (hl1 : ∀ u ∈ us1, Txt.lower u.1 = "*" ∨ Txt.lower u.1 ∈ nms)
    (h : ∀ F' K D0 D1 (xs0 xs1 zs0 zs1 : List X) s', F.le F' → HeapFrom 0 xs0 → (xs0.map (·.2)).Perm (us0.map fun u => rw_ u.1) → HeapFrom 0 xs1 → (xs1.map (·.2)).Perm (us1.map fun u => rw_ u.1) →
      Rows F' zs0 → zs0.map (·.2) = redX xs0 [] → Rows F' zs1 → zs1.map (·.2) = redX xs1 [] →
      St C F' ((K, IsL [.ref D0, .ref D1]) :: (D0, IsL (vals zs0)) :: (D1, IsL (vals zs1)) :: l) s' → Q (.ref K) s') :
    wpAny C.M A (eval (tupE 2 1) (lE C L cd)) Q E s := by
  have star : ∀ {us : List (Str × Tok)} {xs : List X}, (∀ u ∈ us, Txt.lower u.1 = "*" ∨ Txt.lower u.1 ∈ nms) → (xs.map (·.2)).Perm (us.map fun u => rw_ u.1) → ∀ x ∈ xs, x.2.2 = "*" ∨ x.2.2 ∈ nms := by
    intro us xs hl hp x hx
    obtain ⟨u, hu, e⟩ := List.mem_map.mp (hp.mem_iff.mp (List.mem_map_of_mem hx))
    rw [← e]; exact hl u hu
  show wpAny _ _ (eval (Expr.ListComp _ _ _ _) _) _ _ _
  refine e_comp (cl := [("sides", L + 2)]) (by rfl) (by decide +kernel) (by decide +kernel) (by decide +kernel) ?_
  repeat walk_at "ex"
  refine bi W (by assumption) W.isRange ?_
  repeat walk_at "ex"
  refine c_range (by assumption) ?_
  intro r s1 hs1
  refine i_rng hs1 (.head _) (by omega) (by omega) ?_
  intro it s2 hs2
  rw [show (if (0 : Int) < 2 then (2 : Int) - 0 else 0) = 2 by decide] at hs2
  refine LoopIn.in hs2 fun acc K s3 hs3 => ⟨fun Q' E' hq => i_rit hs3 (.tail _ (.tail _ (.head _))) hq, ?_⟩
  clear hs2 hs1 hs
  refine turnN ?_
  refine n_rit hs3 (.there (.there .here)) (by omega) ?_
  intro t4 s4 hs4
  repeat walk_at "ex"
  refine gl W (by assumption) f15.glob ?_
  refine callF f15 ?_
  repeat walk_at "ex"
  refine gl W (by assumption) f14.glob ?_
  refine callF f14 ?_
  repeat walk_at "ex"
  refine item (k := 0) (t := t4) (by assumption) (by walk_at "mem") (by omega) (by omega) (v := .ref G0) rfl ?_
  repeat walk_at "ex"
  refine wpAny_Compare1 ?_
  repeat walk_at "ex"
  refine wpAny_eq_int ?_
  repeat walk_at "ex"
  refine ⟨⟨_, _, by assumption⟩, wpAny_call ?_⟩
  rename St C F _ _ => hs5
  refine heap_spec W f14 f2 f4 f6 f5 hs5 hr (by walk_at "mem") (by omega) hu0 ?_
  intro F1 xs0 H0 s6 hF1 hX0 hH0 hp0 hs6
  try dsimp only
  repeat walk_at "ex"
  refine ⟨⟨_, _, by assumption⟩, wpAny_call ?_⟩
  have hn0 : xs0.length = us0.length := by rw [← List.length_map (f := (·.2)), hp0.length_eq, List.length_map]
  refine reduced_spec W Xc f15 f3 f6 f5 hs6 hr hX0 (by omega) (star hl0 hp0) ?_
  intro F2 zs0 D0 s7 hF2 hZ0 hz0' hs7
  try dsimp only
  refine appendL (items := []) hs7 (.there (.there (.there .here))) (by simp) fun s8 hs8 => ?_
  clear hs7 hs6 hs5 hs4 hs3
  refine turnN ?_
  refine n_rit hs8 (.there (.there (.there (.there .here)))) (by omega) ?_
  intro t9 s9 hs9
  repeat walk_at "ex"
  refine gl W (by assumption) f15.glob ?_
  refine callF f15 ?_
  repeat walk_at "ex"
  refine gl W (by assumption) f14.glob ?_
  refine callF f14 ?_
  repeat walk_at "ex"
  refine item (k := 0 + 1) (t := t9) (by assumption) (by walk_at "mem") (by omega) (by omega) (v := .ref G1) rfl ?_
  repeat walk_at "ex"
  refine wpAny_Compare1 ?_
  repeat walk_at "ex"
  refine wpAny_eq_int ?_
  repeat walk_at "ex"
  refine ⟨⟨_, _, by assumption⟩, wpAny_call ?_⟩
  rename St C F2 _ _ => hs10
  refine heap_spec W f14 f2 f4 f6 f5 hs10 hr (by walk_at "mem") (by omega) hu1 ?_
  intro F3 xs1 H1 s11 hF3 hX1 hH1 hp1 hs11
  try dsimp only
  repeat walk_at "ex"
  refine ⟨⟨_, _, by assumption⟩, wpAny_call ?_⟩
  have hn1 : xs1.length = us1.length := by rw [← List.length_map (f := (·.2)), hp1.length_eq, List.length_map]
  refine reduced_spec W Xc f15 f3 f6 f5 hs11 hr hX1 (by omega) (star hl1 hp1) ?_
  intro F4 zs1 D1 s12 hF4 hZ1 hz1' hs12
  try dsimp only
  refine appendL (items := [.ref D0]) hs12 (.there (.there (.there (.there (.there .here))))) (by simp) fun s13 hs13 => ?_
  simp only [List.cons_append, List.nil_append] at hs13
  clear hs12 hs11 hs10 hs9 hs8
  refine turnN ?_
  refine n_ritE hs13 (by walk_at "mem") (.there (.there (.there (.there (.there (.there .here)))))) hr.handled (by omega) ?_
  intro s14 hs14
  dsimp only [OkP]
  refine LetGo.in (hs14.pick (l' := (K, NsH [("k", .int (0 + 1) t9)]) :: _) ?_) fun s15 hs15 => h F4 acc D0 D1 xs0 xs1 zs0 zs1 s15 (Frz.le_trans hF1 (Frz.le_trans hF2 (Frz.le_trans hF3 hF4))) hH0 hp0 hH1 hp1 (hZ0.mono (Frz.le_trans hF3 hF4)) hz0' hZ1 hz1' hs15
  walk_at "pick"
end

end
section


noncomputable def agE : Expr := match eltOf (lawV 4) with | .Call _ (_ :: .Call _ (e :: _) _ _ :: _) _ _ => e | _ => default
noncomputable def lawS (i : Nat) : Stmt := ((fBody 18)[i]?).getD (.Pass default)

section
variable {prog : Program} {w : World} {A : Around} {E : Value → Shared → Prop} {R : Result → Shared → Prop} {s : Shared}
theorem loopZ {elt target iter : Expr} {scope : Scope} {pos : Pos} {it acc : Value} {env : Env} (I : Nat → Shared → Prop)
    (turn : ∀ n s, I n s → wpAny (model prog w) A (pyNext it) (fun r s₁ => match r with
      | none => R (.ok .next) s₁
      | some v => wpAny (model prog w) A (letOwnedTupleGo target it v) (fun _ s₁ => wpAny (model prog w) A (assign target env v) (fun _ s₂ => wpAny (model prog w) A (eval elt env) (fun x s₃ =>
          wpAny (model prog w) A (call (.builtin "list.append") [acc, x]) (fun _ s₄ => ∃ m, m < n ∧ I m s₄) (notedBy (model prog w) A env fun e s' => R (.error e) s') s₃)
          (notedBy (model prog w) A env fun e s' => R (.error e) s') s₂) (notedBy (model prog w) A env fun e s' => R (.error e) s') s₁) (notedBy (model prog w) A env fun e s' => R (.error e) s') s₁) (notedBy (model prog w) A env fun e s' => R (.error e) s') s)
    (n : Nat) (h : I n s) : codeAny (model prog w) A (.compLoop (.ListComp elt [⟨target, iter, [], 0⟩] scope pos) 0 it acc env) R s := by
  induction n using Nat.strongRecOn generalizing s with
  | ind n ih =>
    refine turnZ (wpAny_mono (turn n s h) (fun r s₁ h₁ => ?_) fun _ _ z => z)
    cases r with
    | none => exact h₁
    | some v =>
      exact wpAny_mono h₁ (fun _ s₁ h₁ => wpAny_mono h₁ (fun _ s₂ h₂ => wpAny_mono h₂ (fun x s₃ h₃ => wpAny_mono h₃ (fun _ s₄ ⟨m, hm, hI⟩ => ih m hm hI) fun _ _ z => z) fun _ _ z => z) fun _ _ z => z) fun _ _ z => z
end

section
variable {C : Cx} {F : Frz} {l : Ledger} {A : Around} {E : Value → Shared → Prop} {s : Shared} {cd : Value} {c : Addr} {mt : Nat → Addr} {cdm : Nat → Value}
set_option maxRecDepth 10000
set_option maxHeartbeats 1000000
theorem alone0 {M D0 D1 L : Addr} {xs ys : List X} {Q : Value → Shared → Prop} (hs : St C F l s) (hr : Rm A 1) (hc : (L + 3, IsCl (some (.ref M))) ∈ l) (hM : (M, IsL [.ref D0, .ref D1]) ∈ l)
    (hx : (D0, IsL (vals xs)) ∈ l) (hy : (D1, IsL (vals ys)) ∈ l) (hX : Rows F xs) (hY : Rows F ys) (hz : xs.length < 100)
    (h : ∀ K s', St C F ((K, IsL (vals (sldM xs ys))) :: l) s' → Q (.ref K) s') :
    wpAny C.M A (eval (tupE 3 0) (lE C L cd)) Q E s := by
  show wpAny _ _ (eval (Expr.ListComp _ _ _ _) _) _ _ _
  refine e_comp (cl := [("least", L + 3)]) (by rfl) (by decide +kernel) (by decide +kernel) (by decide +kernel) ?_
  repeat walk_at "ex"
  rename_i t _ _
  refine item (k := 0) (t := t) (by assumption) hM (by omega) (by omega) (v := .ref D0) rfl ?_
  refine i_list (items := vals xs) (by assumption) hx ?_
  intro it s1 hs1
  refine LoopIn.in hs1 fun acc K2 s2 hs2 => ⟨self_lit hs2 (.tail _ (.tail _ (.head _))), ?_⟩
  refine codeAny_compLoop_tests (fun n s' => ∃ (k : Nat), n + k = xs.length ∧
    St C F ((K2, NsH []) :: (acc, IsL (vals (sldM (xs.take k) ys))) :: (it, IsLit D0 k) :: l) s') ?_ xs.length ⟨0, rfl, hs2⟩
  clear hs2 hs1 hs
  rintro n s3 ⟨k, hnk, hs3⟩
  cases n with
  | zero =>
    have hk : k = xs.length := by omega
    subst hk
    rw [List.take_length] at hs3
    refine n_listE hs3 (.tail _ (.tail _ (.head _))) (.there (.there .here)) (by walk_at "mem") (by simp [vals]) hr.handled ?_
    intro s4 hs4
    dsimp only [OkP]
    refine LetGo.in hs4 fun s5 hs5 => ?_
    exact h acc s5 hs5
  | succ n =>
    have hk : k < xs.length := by omega
    obtain ⟨x, hxk⟩ : ∃ x, xs[k]? = some x := ⟨_, List.getElem?_eq_getElem hk⟩
    have hlen : (sldM (xs.take k) ys).length ≤ k := Nat.le_trans (List.length_filter_le _ _) (List.length_take_le _ _)
    refine n_list hs3 (.there (.there .here)) (by walk_at "mem") (vals_get hxk) ?_
    intro s4 hs4
    repeat walk_at "ex"
    rename_i t6 s6 hs6
    refine item (k := 1) (t := t6) hs6 (by walk_at "mem") (by omega) (by omega) (v := .ref D1) rfl ?_
    refine row_in hs6 (hs6.isList (by walk_at "mem")) (hX.get hxk) hY (by have := hr.units; omega) ?_
    repeat walk_at "ex"
    have e1 : sldM (xs.take (k + 1)) ys = sldM (xs.take k) ys ++ sldM [x] ys := by rw [take_snoc hxk, sldM_app]
    cases hb : (ys.map (·.2)).contains x.2 with
    | true =>
      have e2 : sldM [x] ys = [] := by unfold sldM; simp only [List.filter_cons, List.filter_nil, hb]; rfl
      rw [e2, List.append_nil] at e1
      repeat walk_at "ex"
      try dsimp only
      repeat walk_at "ex"
      have hs7 := Upd.mono .here hs6 fun o => NsH.pre (vars' := []) (extra := [_])
      exact ⟨n, Nat.lt_succ_self n, k + 1, by omega, by rw [e1]; exact hs7⟩
    | false =>
      have e2 : sldM [x] ys = [x] := by unfold sldM; simp only [List.filter_cons, List.filter_nil, hb]; rfl
      rw [e2] at e1
      rw [show (!false) = true from rfl]
      repeat walk_at "ex"
      try dsimp only
      repeat walk_at "ex"
      refine appendL (items := vals (sldM (xs.take k) ys)) hs6 (.there .here) (by simp [vals]; omega) fun s8 hs8 => ?_
      rw [vals_app] at hs8
      have hs9 := Upd.mono .here hs8 fun o => NsH.pre (vars' := []) (extra := [_])
      exact ⟨n, Nat.lt_succ_self n, k + 1, by omega, by rw [e1]; exact hs9⟩

theorem alone1 {M D0 D1 L : Addr} {xs ys : List X} {Q : Value → Shared → Prop} (hs : St C F l s) (hr : Rm A 1) (hc : (L + 3, IsCl (some (.ref M))) ∈ l) (hM : (M, IsL [.ref D1, .ref D0]) ∈ l)
    (hx : (D0, IsL (vals xs)) ∈ l) (hy : (D1, IsL (vals ys)) ∈ l) (hX : Rows F xs) (hY : Rows F ys) (hz : xs.length < 100)
    (h : ∀ K s', St C F ((K, IsL (vals (sldM xs ys))) :: l) s' → Q (.ref K) s') :
    wpAny C.M A (eval (tupE 3 1) (lE C L cd)) Q E s := by
  show wpAny _ _ (eval (Expr.ListComp _ _ _ _) _) _ _ _
  refine e_comp (cl := [("least", L + 3)]) (by rfl) (by decide +kernel) (by decide +kernel) (by decide +kernel) ?_
  repeat walk_at "ex"
  rename_i t _ _
  refine item (k := 1) (t := t) (by assumption) hM (by omega) (by omega) (v := .ref D0) rfl ?_
  refine i_list (items := vals xs) (by assumption) hx ?_
  intro it s1 hs1
  refine LoopIn.in hs1 fun acc K2 s2 hs2 => ⟨self_lit hs2 (.tail _ (.tail _ (.head _))), ?_⟩
  refine codeAny_compLoop_tests (fun n s' => ∃ (k : Nat), n + k = xs.length ∧
    St C F ((K2, NsH []) :: (acc, IsL (vals (sldM (xs.take k) ys))) :: (it, IsLit D0 k) :: l) s') ?_ xs.length ⟨0, rfl, hs2⟩
  clear hs2 hs1 hs
  rintro n s3 ⟨k, hnk, hs3⟩
  cases n with
  | zero =>
    have hk : k = xs.length := by omega
    subst hk
    rw [List.take_length] at hs3
    refine n_listE hs3 (.tail _ (.tail _ (.head _))) (.there (.there .here)) (by walk_at "mem") (by simp [vals]) hr.handled ?_
    intro s4 hs4
    dsimp only [OkP]
    refine LetGo.in hs4 fun s5 hs5 => ?_
    exact h acc s5 hs5
  | succ n =>
    have hk : k < xs.length := by omega
    obtain ⟨x, hxk⟩ : ∃ x, xs[k]? = some x := ⟨_, List.getElem?_eq_getElem hk⟩
    have hlen : (sldM (xs.take k) ys).length ≤ k := Nat.le_trans (List.length_filter_le _ _) (List.length_take_le _ _)
    refine n_list hs3 (.there (.there .here)) (by walk_at "mem") (vals_get hxk) ?_
    intro s4 hs4
    repeat walk_at "ex"
    rename_i t6 s6 hs6
    refine item (k := 0) (t := t6) hs6 (by walk_at "mem") (by omega) (by omega) (v := .ref D1) rfl ?_
    refine row_in hs6 (hs6.isList (by walk_at "mem")) (hX.get hxk) hY (by have := hr.units; omega) ?_
    repeat walk_at "ex"
    have e1 : sldM (xs.take (k + 1)) ys = sldM (xs.take k) ys ++ sldM [x] ys := by rw [take_snoc hxk, sldM_app]
    cases hb : (ys.map (·.2)).contains x.2 with
    | true =>
      have e2 : sldM [x] ys = [] := by unfold sldM; simp only [List.filter_cons, List.filter_nil, hb]; rfl
      rw [e2, List.append_nil] at e1
      repeat walk_at "ex"
      try dsimp only
      repeat walk_at "ex"
      have hs7 := Upd.mono .here hs6 fun o => NsH.pre (vars' := []) (extra := [_])
      exact ⟨n, Nat.lt_succ_self n, k + 1, by omega, by rw [e1]; exact hs7⟩
    | false =>
      have e2 : sldM [x] ys = [x] := by unfold sldM; simp only [List.filter_cons, List.filter_nil, hb]; rfl
      rw [e2] at e1
      rw [show (!false) = true from rfl]
      repeat walk_at "ex"
      try dsimp only
      repeat walk_at "ex"
      refine appendL (items := vals (sldM (xs.take k) ys)) hs6 (.there .here) (by simp [vals]; omega) fun s8 hs8 => ?_
      rw [vals_app] at hs8
      have hs9 := Upd.mono .here hs8 fun o => NsH.pre (vars' := []) (extra := [_])
      exact ⟨n, Nat.lt_succ_self n, k + 1, by omega, by rw [e1]; exact hs9⟩

theorem go_lit {elts : List Expr} {x1 : Nat} {pos : Pos} {it a T : Addr} {k : Nat} {Q : Unit → Shared → Prop} (hs : St C F l s) (hm : (it, IsLit a k) ∈ l) (h : Q () s) : wpAny C.M A (letOwnedTupleGo (.Tuple elts x1 pos) (.ref it) (.ref T)) Q E s := by
  obtain ⟨o, e, c, d⟩ := hs.at hm
  exact wpAny_letOwnedTupleGo_listiter ⟨o, e, c, d⟩ h
/-- the agents of a kept list -/
theorem agents_in {L K0 D : Addr} {vars : List (Str × Value)} {xs : List X} {Q : Value → Shared → Prop} (hs : St C F l s) (hr : Rm A 1) (hK : (K0, NsH vars) ∈ l) (hv : (("row" : Str), Value.ref D) ∈ vars) (hD : (D, IsL (vals xs)) ∈ l) (hX : Rows F xs) (hz : xs.length < 100)
    (h : ∀ G (us : List (Str × Tok)) s', us.map (·.1) = xs.map (·.2.2) → St C F ((G, IsL (strValues us)) :: l) s' → Q (.ref G) s') :
    wpAny C.M A (eval agE (compEnvC (scOf (lawV 4)) [] K0 (lE C L cd))) Q E s := by
  show wpAny _ _ (eval (Expr.ListComp _ _ _ _) _) _ _ _
  refine e_comp (cl := []) (by rfl) (by decide +kernel) (by decide +kernel) (by decide +kernel) ?_
  refine nmK hs hK hv ?_
  refine i_list (items := vals xs) hs hD ?_
  intro it s1 hs1
  refine LoopIn.in hs1 fun acc K2 s2 hs2 => ⟨self_lit hs2 (.tail _ (.tail _ (.head _))), ?_⟩
  refine loopZ (fun n s' => ∃ (k : Nat) (us : List (Str × Tok)), n + k = xs.length ∧ us.map (·.1) = (xs.take k).map (·.2.2) ∧
    St C F ((K2, NsH []) :: (acc, IsL (strValues us)) :: (it, IsLit D k) :: l) s') ?_ xs.length ⟨0, [], rfl, rfl, hs2⟩
  clear hs2 hs1 hs
  rintro n s3 ⟨k, us, hnk, hus, hs3⟩
  cases n with
  | zero =>
    have hk : k = xs.length := by omega
    subst hk
    rw [List.take_length] at hus
    refine n_listE hs3 (.tail _ (.tail _ (.head _))) (.there (.there .here)) (by walk_at "mem") (by simp [vals]) hr.handled ?_
    intro s4 hs4
    dsimp only [OkP]
    refine LetGo.in hs4 fun s5 hs5 => ?_
    exact h acc us s5 hus hs5
  | succ n =>
    have hk : k < xs.length := by omega
    obtain ⟨x, hxk⟩ : ∃ x, xs[k]? = some x := ⟨_, List.getElem?_eq_getElem hk⟩
    have hlen : us.length ≤ k := by rw [← List.length_map (f := (·.1)), hus, List.length_map]; exact List.length_take_le _ _
    refine n_list hs3 (.there (.there .here)) (by walk_at "mem") (vals_get hxk) ?_
    intro s4 hs4
    try dsimp only
    obtain ⟨a, _, _, e, _⟩ := (hX.get hxk).list hs4
    rw [e]
    refine go_lit hs4 (by walk_at "mem") ?_
    rw [← e]
    refine assign_row hs4 (hX.get hxk) hr.handled ?_
    intro t1 t2 s5 hs5
    repeat walk_at "ex"
    try dsimp only
    repeat walk_at "ex"
    rename St C F _ _ => hs6
    refine appendL (items := strValues us) hs6 (.there .here) (by simp [strValues]; omega) fun s8 hs8 => ?_
    rw [show strValues us ++ [Value.str x.2.2 t2] = strValues (us ++ [(x.2.2, t2)]) by simp [strValues]] at hs8
    have hs9 := Upd.mono .here hs8 fun o => NsH.pre (vars' := []) (extra := [_, _])
    refine ⟨n, Nat.lt_succ_self n, k + 1, us ++ [(x.2.2, t2)], by omega, ?_, hs9⟩
    rw [take_map _ hxk, List.map_append, hus]; rfl
end

end
section


theorem rvA {U V : Addr} : ("applies_to" : Str) ∉ (rv U V).map (·.1) := by
  show ("applies_to" : Str) ∉ (["useragents", "rulelines", "delay", "req_rate"] : List Str)
  decide +kernel
section
variable {C : Cx} {F : Frz} {l : Ledger} {A : Around} {E : Value → Shared → Prop} {s : Shared} {cd : Value} {c : Addr} {mt : Nat → Addr} {cdm : Nat → Value}
set_option maxRecDepth 10000
set_option maxHeartbeats 2000000
theorem whole_st {c13 c16 c2 c3 c6 c5 : Value} {L Rr Kp r0 r1 d0 d1 U0 U1 V0 V1 D0 D1 : Addr} {sv av : Value} {us0 us1 : List (Str × Tok)} {xs0 xs1 : List X} {Q : Flow → Shared → Prop} (W : Wd C) (Xc : Cl C c mt cdm)
    (f13 : FnAt C 13 c13) (f16 : FnAt C 16 c16) (f2 : FnAt C 2 c2) (f3 : FnAt C 3 c3) (f6 : FnAt C 6 c6) (f5 : FnAt C 5 c5)
    (hs : St C F ((L, NsH [("script", sv), ("records", .ref Rr), ("kept", .ref Kp), ("alone", av)]) :: l) s) (hr : Rm A 5)
    (hR : (Rr, IsL [.ref r0, .ref r1]) ∈ l) (hK : (Kp, IsL [.ref D0, .ref D1]) ∈ l)
    (hI0 : (r0, IsInst c d0) ∈ l) (hd0 : (d0, IdH (rv U0 V0)) ∈ l) (hU0 : (U0, IsL (strValues us0)) ∈ l) (hu0 : ∀ a ∈ us0, a.1.length ≤ 1000)
    (hI1 : (r1, IsInst c d1) ∈ l) (hd1 : (d1, IdH (rv U1 V1)) ∈ l) (hU1 : (U1, IsL (strValues us1)) ∈ l) (hu1 : ∀ a ∈ us1, a.1.length ≤ 1000)
    (hD0 : (D0, IsL (vals xs0)) ∈ l) (hD1 : (D1, IsL (vals xs1)) ∈ l) (hX0 : Rows F xs0) (hX1 : Rows F xs1) (hz0 : xs0.length < 100) (hz1 : xs1.length < 100) (hn0 : ∀ x ∈ xs0, x.2.2.length ≤ 1000) (hn1 : ∀ x ∈ xs1, x.2.2.length ≤ 1000)
    (h : ∀ F' Wh P0 P1 (zs0 zs1 : List X) s', F.le F' → Rows F' zs0 → zs0.map (·.2) = firstR (us0.map (·.1)) (xs0.map (·.2.2)) → Rows F' zs1 → zs1.map (·.2) = firstR (us1.map (·.1)) (xs1.map (·.2.2)) →
      St C F' ((L, NsH [("script", sv), ("records", .ref Rr), ("kept", .ref Kp), ("alone", av), ("whole", .ref Wh)]) :: (Wh, IsL [.ref P0, .ref P1]) :: (P0, IsL (vals zs0)) :: (P1, IsL (vals zs1)) :: l) s' → Q .next s') :
    wpAny C.M A (exec (lawS 4) (lE C L cd)) Q E s := by
  show wpAny _ _ (exec (.Assign [.Name _ _] (Expr.ListComp _ _ _ _) _) _) _ _ _
  refine x_comp (cl := []) (by rfl) (by decide +kernel) (by decide +kernel) (by decide +kernel) (by rfl) ?_
  repeat walk_at "ex"
  refine bi W (by assumption) W.isZip ?_
  repeat walk_at "ex"
  refine c_zip hs (by walk_at "mem") (by walk_at "mem") ?_
  intro z TI TO i1 i2 s1 hs1
  obtain ⟨oz, ez, hoz⟩ := hs1.at (List.mem_append_left _ (.head _))
  refine wpAny_pyIter_zip (f0 := .none) (TI := TI) (TO := TO) (by show s1.heap.get? z = _; rw [ez, hoz]) ?_
  refine LoopIn.in hs1 fun acc K s2 hs2 => ⟨fun Q' E' hq => ?_, ?_⟩
  · obtain ⟨oz, ez, hoz⟩ := hs2.at (.tail _ (.tail _ (List.mem_append_left _ (.head _))))
    exact wpAny_pyIter_zip (f0 := .none) (TI := TI) (TO := TO) (by show s2.heap.get? z = _; rw [ez, hoz]) hq
  change St C F ((K, NsH []) :: (acc, IsL []) :: (z, IsZipO TI TO .none) :: (TI, IsT [.ref i1, .ref i2]) :: (TO, IsT [.none, .none]) :: (i1, IsLit Rr 0) :: (i2, IsLit Kp 0) :: (L, NsH _) :: l) s2 at hs2
  have hs3 := hs2.pick (l' := (z, IsZipO TI TO .none) :: (TI, IsT [.ref i1, .ref i2]) :: (TO, IsT [.none, .none]) :: (i1, IsLit Rr 0) :: (i2, IsLit Kp 0) :: (K, NsH []) :: (acc, IsL []) :: (L, NsH [("script", sv), ("records", .ref Rr), ("kept", .ref Kp), ("alone", av)]) :: l) (by walk_at "pick")
  clear hs2 hs1 hs
  refine turnZ ?_
  refine n_zip (z := z) (a := Rr) (b := Kp) (k := 0) (p := .none) (q := .none) (l := (K, NsH []) :: (acc, IsL []) :: (L, NsH [("script", sv), ("records", .ref Rr), ("kept", .ref Kp), ("alone", av)]) :: l) hs3 (by walk_at "mem") (by walk_at "mem") (x := .ref r0) (y := .ref D0) rfl rfl ?_
  intro T s4 hs4
  try dsimp only
  refine go_zip hs4 fun s5 hs5 => ?_
  change St C F ((T, IsT [.ref r0, .ref D0]) :: (z, IsZipO TI TO .none) :: (TI, IsT [.ref i1, .ref i2]) :: (TO, IsT [.ref r0, .ref D0]) :: (i1, IsLit Rr 1) :: (i2, IsLit Kp 1) :: (K, NsH []) :: (acc, IsL []) :: (L, NsH [("script", sv), ("records", .ref Rr), ("kept", .ref Kp), ("alone", av)]) :: l) s5 at hs5
  clear hs4 hs3
  refine asg_tup hs5 (.head _) hr.handled (by rfl) (by rfl) fun s6 hs6 => ?_
  show wpAny _ _ (assignInOrder [assign _ _, assign _ _] [_, _]) _ _ _
  repeat walk_at "ex"
  try dsimp only
  repeat walk_at "ex"
  refine gl W (by assumption) f16.glob ?_
  refine callF f16 ?_
  repeat walk_at "ex"
  refine gl W (by assumption) f13.glob ?_
  refine callF f13 ?_
  repeat walk_at "ex"
  rename St C F _ _ => hs7
  refine agents_in (K0 := K) (D := D0) (xs := xs0) hs7 (hr.less (by omega)) (by walk_at "mem") (by walk_at "mem") (by walk_at "mem") hX0 hz0 ?_
  intro G0 ws0 s8 hw0 hs8
  have hwl0 : ws0.length = xs0.length := by rw [← List.length_map (f := (·.1)), hw0, List.length_map]
  repeat walk_at "ex"
  refine ⟨⟨_, _, hs8⟩, wpAny_call ?_⟩
  refine record_spec W Xc f13 hs8 (hr.less (by omega)) (.head _) (by simp [strValues]; omega) ?_
  intro q0 e0 B0 J0 s9 hs9
  try dsimp only
  repeat walk_at "ex"
  refine ⟨⟨_, _, hs9⟩, wpAny_call ?_⟩
  refine first_spec (us := us0) (vs := ws0) (U1 := U0) (U2 := B0) W Xc f16 f2 f3 f6 f5 hs9 hr (by walk_at "mem") (by walk_at "mem") (by simp) rvA (by walk_at "mem") hu0 (.head _) (.tail _ (.head _)) (by simp) rvA (by walk_at "mem") ?_ ?_
  · intro a ha
    have : a.1 ∈ xs0.map (·.2.2) := by rw [← hw0]; exact List.mem_map_of_mem ha
    obtain ⟨x, hx, e⟩ := List.mem_map.mp this
    rw [← e]; exact hn0 x hx
  intro F1 zs0 P0 s10 hF1 hZ0 hzs0 hs10
  try dsimp only
  have hs11 := hs10.pick (l' := (z, IsZipO TI TO .none) :: (TI, IsT [.ref i1, .ref i2]) :: (TO, IsT [.ref r0, .ref D0]) :: (i1, IsLit Rr 1) :: (i2, IsLit Kp 1) :: (K, NsH [("record", .ref r0), ("row", .ref D0)]) :: (acc, IsL []) :: (P0, IsL (vals zs0)) :: (L, NsH [("script", sv), ("records", .ref Rr), ("kept", .ref Kp), ("alone", av)]) :: l) (by walk_at "pick")
  refine appendL (items := []) hs11 (.there (.there (.there (.there (.there (.there .here)))))) (by simp) fun s12 hs12 => ?_
  simp only [List.nil_append] at hs12
  clear hs11 hs10 hs9 hs8 hs7 hs6 hs5
  rw [hw0] at hzs0
  refine turnZ ?_
  refine n_zip (z := z) (a := Rr) (b := Kp) (k := 1) (p := .ref r0) (q := .ref D0) (l := (K, NsH [("record", .ref r0), ("row", .ref D0)]) :: (acc, IsL [.ref P0]) :: (P0, IsL (vals zs0)) :: (L, NsH [("script", sv), ("records", .ref Rr), ("kept", .ref Kp), ("alone", av)]) :: l) hs12 (by walk_at "mem") (by walk_at "mem") (x := .ref r1) (y := .ref D1) rfl rfl ?_
  intro T1 s4 hs4
  try dsimp only
  refine go_zip hs4 fun s5 hs5 => ?_
  change St C F1 ((T1, IsT [.ref r1, .ref D1]) :: (z, IsZipO TI TO .none) :: (TI, IsT [.ref i1, .ref i2]) :: (TO, IsT [.ref r1, .ref D1]) :: (i1, IsLit Rr 2) :: (i2, IsLit Kp 2) :: (K, NsH [("record", .ref r0), ("row", .ref D0)]) :: (acc, IsL [.ref P0]) :: (P0, IsL (vals zs0)) :: (L, NsH [("script", sv), ("records", .ref Rr), ("kept", .ref Kp), ("alone", av)]) :: l) s5 at hs5
  clear hs4 hs12
  refine asg_tup hs5 (.head _) hr.handled (by rfl) (by rfl) fun s6 hs6 => ?_
  show wpAny _ _ (assignInOrder [assign _ _, assign _ _] [_, _]) _ _ _
  repeat walk_at "ex"
  try dsimp only
  repeat walk_at "ex"
  refine gl W (by assumption) f16.glob ?_
  refine callF f16 ?_
  repeat walk_at "ex"
  refine gl W (by assumption) f13.glob ?_
  refine callF f13 ?_
  repeat walk_at "ex"
  rename St C F1 _ _ => hs7
  refine agents_in (K0 := K) (D := D1) (xs := xs1) hs7 (hr.less (by omega)) (by walk_at "mem") (by walk_at "mem") (by walk_at "mem") (hX1.mono hF1) hz1 ?_
  intro G1 ws1 s8 hw1 hs8
  have hwl1 : ws1.length = xs1.length := by rw [← List.length_map (f := (·.1)), hw1, List.length_map]
  repeat walk_at "ex"
  refine ⟨⟨_, _, hs8⟩, wpAny_call ?_⟩
  refine record_spec W Xc f13 hs8 (hr.less (by omega)) (.head _) (by simp [strValues]; omega) ?_
  intro q1 e1 B1 J1 s9 hs9
  try dsimp only
  repeat walk_at "ex"
  refine ⟨⟨_, _, hs9⟩, wpAny_call ?_⟩
  refine first_spec (us := us1) (vs := ws1) (U1 := U1) (U2 := B1) W Xc f16 f2 f3 f6 f5 hs9 hr (by walk_at "mem") (by walk_at "mem") (by simp) rvA (by walk_at "mem") hu1 (.head _) (.tail _ (.head _)) (by simp) rvA (by walk_at "mem") ?_ ?_
  · intro a ha
    have : a.1 ∈ xs1.map (·.2.2) := by rw [← hw1]; exact List.mem_map_of_mem ha
    obtain ⟨x, hx, e⟩ := List.mem_map.mp this
    rw [← e]; exact hn1 x hx
  intro F2 zs1 P1 s10 hF2 hZ1 hzs1 hs10
  try dsimp only
  have hs11 := hs10.pick (l' := (z, IsZipO TI TO .none) :: (TI, IsT [.ref i1, .ref i2]) :: (TO, IsT [.ref r1, .ref D1]) :: (i1, IsLit Rr 2) :: (i2, IsLit Kp 2) :: (K, NsH [("record", .ref r1), ("row", .ref D1)]) :: (acc, IsL [.ref P0]) :: (P0, IsL (vals zs0)) :: (P1, IsL (vals zs1)) :: (L, NsH [("script", sv), ("records", .ref Rr), ("kept", .ref Kp), ("alone", av)]) :: l) (by walk_at "pick")
  refine appendL (items := [.ref P0]) hs11 (.there (.there (.there (.there (.there (.there .here)))))) (by simp) fun s12 hs12 => ?_
  simp only [List.cons_append, List.nil_append] at hs12
  clear hs11 hs10 hs9 hs8 hs7 hs6 hs5
  rw [hw1] at hzs1
  refine turnZ ?_
  refine n_zipE (z := z) (a := Rr) (b := Kp) (k := 2) (p := .ref r1) (q := .ref D1) (l := (K, NsH [("record", .ref r1), ("row", .ref D1)]) :: (acc, IsL [.ref P0, .ref P1]) :: (P0, IsL (vals zs0)) :: (P1, IsL (vals zs1)) :: (L, NsH [("script", sv), ("records", .ref Rr), ("kept", .ref Kp), ("alone", av)]) :: l) hs12 (xs := [.ref r0, .ref r1]) (ys := [.ref D0, .ref D1]) (by walk_at "mem") (by walk_at "mem") rfl hr.handled ?_
  intro s13 hs13
  dsimp only [OkP]
  repeat walk_at "ex"
  rename St C F2 _ _ => hs14
  refine LetGo.in hs14 fun s15 hs15 => ?_
  refine h F2 acc P0 P1 zs0 zs1 s15 (Frz.le_trans hF1 hF2) (hZ0.mono hF2) hzs0 hZ1 hzs1 (hs15.pick ?_)
  walk_at "pick"
end

end
section


/-! the fourteen names and what contains what -/
abbrev ct (n p : Str) : Bool := Txt.contains n p
theorem nm_all : (nms.all fun n => ct n n && decide (Txt.lower n = n) && (n != ("*" : Str)) && !ct ("*" : Str) n && decide (n.length ≤ 3)) = true := by decide +kernel
theorem nm_one {n : Str} (h : n ∈ nms) : ct n n = true ∧ Txt.lower n = n ∧ n ≠ "*" ∧ ct "*" n = false ∧ n.length ≤ 3 := by
  have := List.all_eq_true.mp nm_all n h
  simp only [Bool.and_eq_true, decide_eq_true_iff, bne_iff_ne, ne_eq, Bool.not_eq_true'] at this
  exact ⟨this.1.1.1.1, this.1.1.1.2, this.1.1.2, this.1.2, this.2⟩
theorem ct_all : (nms.all fun a => nms.all fun b => (!ct a b) || ((a == b || rlt (rowOf b) (rowOf a)) && nms.all fun c => (!ct b c) || ct a c)) = true := by decide +kernel
theorem ct_two {a b : Str} (ha : a ∈ nms) (hb : b ∈ nms) (h : ct a b = true) : (a = b ∨ rlt (rowOf b) (rowOf a) = true) ∧ ∀ c ∈ nms, ct b c = true → ct a c = true := by
  have h1 := List.all_eq_true.mp (List.all_eq_true.mp ct_all a ha) b hb
  rw [h] at h1
  simp only [Bool.not_true, Bool.false_or, Bool.and_eq_true, Bool.or_eq_true, beq_iff_eq] at h1
  refine ⟨h1.1, fun c hc h2 => ?_⟩
  have h3 := List.all_eq_true.mp h1.2 c hc
  rw [h2] at h3
  simpa using h3
theorem part_all : (nms.all fun n => nms.all fun p => (partsL n).contains p == ct n p) = true := by decide +kernel
theorem part_two {n p : Str} (hn : n ∈ nms) (hp : p ∈ nms) : p ∈ partsL n ↔ ct n p = true := by
  have := List.all_eq_true.mp (List.all_eq_true.mp part_all n hn) p hp
  rw [beq_iff_eq] at this
  rw [← this, List.contains_iff_mem]
theorem nms_srt : allR.Pairwise fun a b => rlt a b = true := by decide +kernel

theorem rowOf_inj {a b : Str} (h : rowOf a = rowOf b) : a = b := (Prod.ext_iff.mp h).2
theorem srt_nodup {rs : List Row} (h : rs.Pairwise fun a b => rlt a b = true) : rs.Nodup :=
  List.Pairwise.imp (fun {a b} (h : rlt a b = true) (e : a = b) => rlt_irrefl b (by rw [e] at h; exact h)) h
theorem srt_eq {rs qs : List Row} (h1 : rs.Pairwise fun a b => rlt a b = true) (h2 : qs.Pairwise fun a b => rlt a b = true) (hm : ∀ r, r ∈ rs ↔ r ∈ qs) : rs = qs :=
  List.Perm.eq_of_pairwise (le := fun a b => rlt a b = true) (fun a _ _ _ x y => absurd (rlt_trans x y) (rlt_irrefl a)) h1 h2 ((List.perm_ext_iff_of_nodup (srt_nodup h1) (srt_nodup h2)).mpr hm)

/-- the least names of a set -/
noncomputable def Least (S : Str → Prop) (n : Str) : Prop := n ∈ nms ∧ S n ∧ ∀ p ∈ nms, S p → ct n p = true → p = n
theorem least_below {S : Str → Prop} (k : Nat) : ∀ n ∈ nms, n.length ≤ k → S n → ∃ m, Least S m ∧ ct n m = true := by
  classical
  have key : ∀ (k : Nat) (n : Str), n ∈ nms → (nms.idxOf n) < k → S n → ∃ m, Least S m ∧ ct n m = true := by
    intro k
    induction k with
    | zero => intro n _ h _; exact absurd h (Nat.not_lt_zero _)
    | succ k ih =>
      intro n hn hk hS
      by_cases hl : ∀ p ∈ nms, S p → ct n p = true → p = n
      · exact ⟨n, ⟨hn, hS, hl⟩, (nm_one hn).1⟩
      · simp only [Classical.not_forall] at hl
        obtain ⟨p, hp, hSp, hc, hne⟩ := hl
        have hlt : rlt (rowOf p) (rowOf n) = true := (ct_two hn hp hc).1.resolve_left fun e => hne e.symm
        have hidx : nms.idxOf p < nms.idxOf n := by
          have e1 := List.idxOf_lt_length_of_mem hp
          have e2 := List.idxOf_lt_length_of_mem hn
          rcases Nat.lt_trichotomy (nms.idxOf p) (nms.idxOf n) with h | h | h
          · exact h
          · exact absurd (by rw [← List.getElem_idxOf e1, ← List.getElem_idxOf e2]; simp only [h]) hne
          · have := List.pairwise_iff_getElem.mp nms_srt (nms.idxOf n) (nms.idxOf p) (by simpa [allR] using e2) (by simpa [allR] using e1) h
            simp only [allR, List.getElem_map, List.getElem_idxOf] at this
            exact absurd (rlt_trans hlt this) (rlt_irrefl _)
        obtain ⟨m, hm, hcm⟩ := ih p hp (by omega) hSp
        exact ⟨m, hm, (ct_two hn hp hc).2 m hm.1 hcm⟩
  intro n hn _ hS
  exact key (nms.idxOf n + 1) n hn (Nat.lt_succ_self _) hS
theorem least_of {S : Str → Prop} {n : Str} (hn : n ∈ nms) (hS : S n) : ∃ m, Least S m ∧ ct n m = true := least_below n.length n hn (Nat.le_refl _) hS

/-- the least rows, in order -/
noncomputable def minR (as : List Str) : List Row := (nms.filter fun n => (lowA as).contains n && (nms.all fun p => (!((lowA as).contains p && ct n p)) || p == n)).map rowOf
theorem minR_srt (as : List Str) : (minR as).Pairwise fun a b => rlt a b = true := by
  have : (minR as).Sublist allR := (List.filter_sublist).map rowOf
  exact nms_srt.sublist this
theorem minR_mem {as : List Str} {n : Str} : rowOf n ∈ minR as ↔ Least (· ∈ lowA as) n := by
  unfold minR Least
  rw [List.mem_map]
  constructor
  · rintro ⟨m, hm, e⟩
    obtain rfl := rowOf_inj e
    obtain ⟨h1, h2⟩ := List.mem_filter.mp hm
    rw [Bool.and_eq_true, List.contains_iff_mem, List.all_eq_true] at h2
    refine ⟨h1, h2.1, fun p hp hS hc => ?_⟩
    have := h2.2 p hp
    rw [List.contains_iff_mem.mpr hS, hc] at this
    simpa using this
  · rintro ⟨h1, h2, h3⟩
    refine ⟨n, List.mem_filter.mpr ⟨h1, ?_⟩, rfl⟩
    rw [Bool.and_eq_true, List.contains_iff_mem, List.all_eq_true]
    refine ⟨h2, fun p hp => ?_⟩
    cases hc : ((lowA as).contains p && ct n p) with
    | false => rfl
    | true =>
      rw [Bool.and_eq_true, List.contains_iff_mem] at hc
      rw [h3 p hp hc.1 hc.2]; simp
theorem minR_rows {as : List Str} {r : Row} (h : r ∈ minR as) : ∃ n, r = rowOf n ∧ Least (· ∈ lowA as) n := by
  obtain ⟨n, hn, rfl⟩ := List.mem_map.mp h
  exact ⟨n, rfl, minR_mem.mp h⟩

/-! the agents -/
theorem agTx_eq {nm : Str} {b b' : Nat → Bool} (h : ∀ j, j < nm.length → b j = b' j) : agTx nm b = agTx nm b' := by
  unfold agTx
  congr 1
  refine List.map_congr_left fun j hj => ?_
  unfold chAt
  rw [h j (List.mem_range.mp hj)]
noncomputable def bf (b0 b1 b2 : Bool) (j : Nat) : Bool := if j = 0 then b0 else if j = 1 then b1 else b2
theorem ag_all : (nm15.all fun nm => [true, false].all fun b0 => [true, false].all fun b1 => [true, false].all fun b2 =>
    decide (Txt.lower (agTx nm (bf b0 b1 b2)) = nm) && decide ((agTx nm (bf b0 b1 b2)).length = nm.length) && ((agTx nm (bf b0 b1 b2) == ("*" : Str)) == (nm == ("*" : Str))) && decide (nm.length ≤ 3)) = true := by decide +kernel
theorem good_facts {a : Str} (h : Good a) : (Txt.lower a = "*" ∨ Txt.lower a ∈ nms) ∧ a.length = (Txt.lower a).length ∧ (a = "*" ↔ Txt.lower a = "*") ∧ a.length ≤ 3 := by
  obtain ⟨nm, hnm, b, rfl⟩ := h
  have hb : ∀ x : Bool, x ∈ [true, false] := fun x => by cases x <;> simp
  have h1 := List.all_eq_true.mp (List.all_eq_true.mp (List.all_eq_true.mp (List.all_eq_true.mp ag_all nm hnm) (b 0) (hb _)) (b 1) (hb _)) (b 2) (hb _)
  simp only [Bool.and_eq_true, decide_eq_true_iff] at h1
  obtain ⟨⟨⟨h1, h2⟩, h3⟩, h4⟩ := h1
  have e : agTx nm (bf (b 0) (b 1) (b 2)) = agTx nm b := agTx_eq fun j hj => by
    have : j = 0 ∨ j = 1 ∨ j = 2 := by omega
    rcases this with rfl | rfl | rfl <;> rfl
  rw [e] at h1 h2 h3
  rw [h1, h2]
  refine ⟨?_, rfl, ?_, h4⟩
  · rcases List.mem_cons.mp hnm with h | h
    · exact .inl h
    · exact .inr h
  · rw [beq_iff_eq, Bool.eq_iff_iff, beq_iff_eq, beq_iff_eq] at h3
    exact h3
theorem low_nms {as : List Str} (hg : ∀ a ∈ as, Good a) : ∀ x ∈ lowA as, x ∈ nms := by
  intro x hx
  obtain ⟨a, ha, rfl⟩ := List.mem_map.mp hx
  obtain ⟨h1, h2⟩ := List.mem_filter.mp ha
  obtain ⟨g1, _, g3, _⟩ := good_facts (hg a h1)
  exact g1.resolve_left fun e => by simp [g3.mpr e] at h2
theorem appl_iff {as : List Str} {n : Str} : appl as n = true ↔ ∃ x ∈ lowA as, ct n x = true := by
  unfold appl lowA
  rw [List.any_eq_true]
  constructor
  · rintro ⟨a, ha, h⟩
    rw [Bool.and_eq_true] at h
    exact ⟨_, List.mem_map_of_mem (List.mem_filter.mpr ⟨ha, h.1⟩), h.2⟩
  · rintro ⟨x, hx, h⟩
    obtain ⟨a, ha, rfl⟩ := List.mem_map.mp hx
    obtain ⟨h1, h2⟩ := List.mem_filter.mp ha
    exact ⟨a, h1, by rw [Bool.and_eq_true]; exact ⟨h2, h⟩⟩
theorem lowA_nms {ns : List Str} (h : ∀ n ∈ ns, n ∈ nms) : lowA ns = ns := by
  unfold lowA
  rw [List.filter_eq_self.mpr fun a ha => by simpa using (nm_one (h a ha)).2.2.1]
  conv => rhs; rw [← List.map_id ns]
  exact List.map_congr_left fun a ha => (nm_one (h a ha)).2.1
theorem appl_star {as : List Str} (hg : ∀ a ∈ as, Good a) : appl as "*" = false := by
  rw [← Bool.not_eq_true, appl_iff]
  rintro ⟨x, hx, h⟩
  rw [(nm_one (low_nms hg x hx)).2.2.2.1] at h; cases h
theorem appl_least {as : List Str} (hg : ∀ a ∈ as, Good a) {n : Str} (hn : n ∈ nms) : appl as n = true ↔ ∃ m, rowOf m ∈ minR as ∧ ct n m = true := by
  rw [appl_iff]
  constructor
  · rintro ⟨x, hx, h⟩
    obtain ⟨m, hm, hc⟩ := least_of (S := (· ∈ lowA as)) (low_nms hg x hx) hx
    exact ⟨m, minR_mem.mpr hm, (ct_two hn (low_nms hg x hx) h).2 m hm.1 hc⟩
  · rintro ⟨m, hm, h⟩
    exact ⟨m, (minR_mem.mp hm).2.1, h⟩

/-- _law_least's rows -/
theorem least_law {as As : List Str} {rs : List Row} (hg : ∀ a ∈ as, Good a) (hS : rs.Pairwise fun a b => rlt a b = true) (hm : ∀ x, x ∈ As ↔ x ∈ lowA as) (hp : rs.Perm ((As.filter (isMin As)).map rowOf)) : rs = minR as := by
  have hAn : ∀ x ∈ As, x ∈ nms := fun x hx => low_nms hg x ((hm x).mp hx)
  refine srt_eq hS (minR_srt as) fun r => ?_
  rw [hp.mem_iff, List.mem_map]
  constructor
  · rintro ⟨n, hn, rfl⟩
    obtain ⟨h1, h2⟩ := List.mem_filter.mp hn
    refine minR_mem.mpr ⟨hAn n h1, (hm n).mp h1, fun p hp hSp hc => ?_⟩
    unfold isMin at h2
    rw [Bool.not_eq_true', ← Bool.not_eq_true, List.any_eq_true] at h2
    refine Classical.byContradiction fun hne => h2 ⟨p, (part_two (hAn n h1) hp).mpr hc, ?_⟩
    rw [Bool.and_eq_true, bne_iff_ne, List.contains_iff_mem]
    exact ⟨hne, (hm p).mpr hSp⟩
  · intro hr
    obtain ⟨n, rfl, h1, h2, h3⟩ := minR_rows hr
    refine ⟨n, List.mem_filter.mpr ⟨(hm n).mpr h2, ?_⟩, rfl⟩
    unfold isMin
    rw [Bool.not_eq_true', ← Bool.not_eq_true, List.any_eq_true]
    rintro ⟨p, hp, h⟩
    rw [Bool.and_eq_true, bne_iff_ne, List.contains_iff_mem] at h
    exact h.1 (h3 p (hAn p h.2) ((hm p).mp h.2) ((part_two h1 (hAn p h.2)).mp hp))

/-- the kept names and the record agree -/
theorem whole_law {as : List Str} (hg : ∀ a ∈ as, Good a) : firstR as ((minR as).map (·.2)) = [] := by
  have hn : ∀ n ∈ (minR as).map (·.2), n ∈ nms := by
    intro n hn
    obtain ⟨r, hr, rfl⟩ := List.mem_map.mp hn
    obtain ⟨m, rfl, h⟩ := minR_rows hr
    exact h.1
  unfold firstR
  have : nms.find? (fun n => appl as n != appl ((minR as).map (·.2)) n) = none := by
    rw [List.find?_eq_none]
    intro n hnn
    have : appl as n = appl ((minR as).map (·.2)) n := by
      rw [Bool.eq_iff_iff, appl_least hg hnn, appl_iff, lowA_nms hn]
      constructor
      · rintro ⟨m, hm, h⟩
        exact ⟨m, List.mem_map.mpr ⟨_, hm, rfl⟩, h⟩
      · rintro ⟨m, hm, h⟩
        obtain ⟨r, hr, rfl⟩ := List.mem_map.mp hm
        obtain ⟨k, rfl, _⟩ := minR_rows hr
        exact ⟨k, hr, h⟩
    rw [this]; simp
  rw [this]

theorem told_half {as bs : List Str} (hg : ∀ a ∈ as, Good a) (hh : ∀ a ∈ bs, Good a) {m : Str} (hm : rowOf m ∈ minR as) (hn : rowOf m ∉ minR bs)
    (hleast : ∀ k, rowOf k ∈ minR bs → rowOf k ∉ minR as → rlt (rowOf k) (rowOf m) = false) : (appl as m != appl bs m) = true := by
  have hmn := (minR_mem.mp hm).1
  have h1 : appl as m = true := (appl_least hg hmn).mpr ⟨m, hm, (nm_one hmn).1⟩
  have h2 : appl bs m = false := by
    rw [← Bool.not_eq_true, appl_least hh hmn]
    rintro ⟨k, hk, hc⟩
    have hkn := (minR_mem.mp hk).1
    rcases (ct_two hmn hkn hc).1 with e | hlt
    · exact hn (e ▸ hk)
    · by_cases hka : rowOf k ∈ minR as
      · have := (minR_mem.mp hm).2.2 k hkn (minR_mem.mp hka).2.1 hc
        exact hn (this ▸ hk)
      · rw [hleast k hk hka] at hlt; cases hlt
  rw [h1, h2]; rfl
theorem told_before {as bs : List Str} (hg : ∀ a ∈ as, Good a) (hh : ∀ a ∈ bs, Good a) {n : Str} (hn : n ∈ nms) (h : ∀ k, rowOf k ∈ minR as → rowOf k ∉ minR bs → ¬ (k = n ∨ rlt (rowOf k) (rowOf n) = true))
    (ha : appl as n = true) : appl bs n = true := by
  obtain ⟨k, hk, hc⟩ := (appl_least hg hn).mp ha
  have hkn := (minR_mem.mp hk).1
  refine (appl_least hh hn).mpr ⟨k, Classical.byContradiction fun hb => h k hk hb ?_, hc⟩
  exact (ct_two hn hkn hc).1.imp_left Eq.symm
/-- where two records first part -/
theorem told_law {as bs : List Str} {rs : List Row} (hg : ∀ a ∈ as, Good a) (hh : ∀ a ∈ bs, Good a) (hS : rs.Pairwise fun a b => rlt a b = true)
    (hm : ∀ r, r ∈ rs ↔ (r ∈ minR as ∧ r ∉ minR bs) ∨ (r ∈ minR bs ∧ r ∉ minR as)) : firstR as bs = rs.take 1 := by
  unfold firstR
  cases rs with
  | nil =>
    have : nms.find? (fun n => appl as n != appl bs n) = none := by
      rw [List.find?_eq_none]
      intro n hn
      have : appl as n = appl bs n := by
        rw [Bool.eq_iff_iff]
        exact ⟨told_before hg hh hn fun k h1 h2 => absurd ((hm _).mpr (.inl ⟨h1, h2⟩)) (List.not_mem_nil), told_before hh hg hn fun k h1 h2 => absurd ((hm _).mpr (.inr ⟨h1, h2⟩)) (List.not_mem_nil)⟩
      rw [this]; simp
    rw [this]; rfl
  | cons r rs =>
    have hr := (hm r).mp (.head _)
    obtain ⟨m, rfl, hmn⟩ : ∃ m, r = rowOf m ∧ m ∈ nms := by
      rcases hr with ⟨h, _⟩ | ⟨h, _⟩
      · obtain ⟨m, e, q⟩ := minR_rows h; exact ⟨m, e, q.1⟩
      · obtain ⟨m, e, q⟩ := minR_rows h; exact ⟨m, e, q.1⟩
    have hle : ∀ q ∈ rowOf m :: rs, ¬ rlt q (rowOf m) = true := by
      intro q hq hlt
      rcases List.mem_cons.mp hq with rfl | hq
      · exact rlt_irrefl _ hlt
      · exact rlt_irrefl _ (rlt_trans hlt ((List.pairwise_cons.mp hS).1 q hq))
    have hp : (appl as m != appl bs m) = true := by
      rcases hr with ⟨h1, h2⟩ | ⟨h1, h2⟩
      · exact told_half hg hh h1 h2 fun k hk1 hk2 => by simpa using hle _ ((hm _).mpr (.inr ⟨hk1, hk2⟩))
      · have := told_half hh hg h1 h2 fun k hk1 hk2 => by simpa using hle _ ((hm _).mpr (.inl ⟨hk1, hk2⟩))
        rw [bne_comm]; exact this
    have : nms.find? (fun n => appl as n != appl bs n) = some m := by
      rw [List.find?_eq_some_iff_append]
      obtain ⟨l1, l2, e⟩ := List.append_of_mem hmn
      refine ⟨hp, l1, l2, e, fun n hn => ?_⟩
      have hnn : n ∈ nms := by rw [e]; exact List.mem_append_left _ hn
      have hlt : rlt (rowOf n) (rowOf m) = true := by
        have := nms_srt
        unfold allR at this
        rw [e, List.map_append, List.pairwise_append] at this
        exact this.2.2 _ (List.mem_map_of_mem hn) _ (List.mem_map_of_mem (List.mem_cons_self))
      have key : ∀ k, rowOf k ∈ rowOf m :: rs → ¬ (k = n ∨ rlt (rowOf k) (rowOf n) = true) := by
        rintro k hk (rfl | h)
        · exact hle _ hk hlt
        · exact hle _ hk (rlt_trans h hlt)
      have : appl as n = appl bs n := by
        rw [Bool.eq_iff_iff]
        exact ⟨told_before hg hh hnn fun k h1 h2 => key k ((hm _).mpr (.inl ⟨h1, h2⟩)), told_before hh hg hnn fun k h1 h2 => key k ((hm _).mpr (.inr ⟨h1, h2⟩))⟩
      rw [this]; simp
    rw [this]; rfl

end
section


noncomputable def stp (kept : List Row) (r : Row) : List Row := if (r.2 != ("*" : Str)) && !appl (kept.map (·.2)) r.2 then kept ++ [r] else kept
theorem redX_fold : ∀ (k : Nat) (xs : List X) (kept : List Row), xs.length = k → HeapFrom 0 xs → ∃ rs : List Row, rs.Pairwise rle ∧ rs.Perm (xs.map (·.2)) ∧ redX xs kept = rs.foldl stp kept := by
  intro k
  induction k with
  | zero =>
    intro xs kept hk h
    have : xs = [] := List.length_eq_zero_iff.mp hk
    subst this
    exact ⟨[], List.Pairwise.nil, .refl _, redX_nil⟩
  | succ k ih =>
    intro xs kept hk h
    have hne : xs ≠ [] := by rintro rfl; simp at hk
    obtain ⟨y, ys, hpop, hpl, _, _⟩ := popX_some hne
    obtain ⟨hH, hper, hle⟩ := pop_heap h hpop
    obtain ⟨rs, h1, h2, h3⟩ := ih ys (stp kept y.2) (by omega) hH
    refine ⟨y.2 :: rs, List.pairwise_cons.mpr ⟨fun r hr => ?_, h1⟩, ?_, ?_⟩
    · obtain ⟨z, hz, rfl⟩ := List.mem_map.mp (h2.mem_iff.mp hr)
      exact hle z (hper.mem_iff.mpr (.tail _ hz))
    · refine (h2.cons _).trans ?_
      exact (hper.map (·.2)).symm
    · rw [redX_step hpop]
      exact h3

theorem Least.congr {S S' : Str → Prop} (h : ∀ n ∈ nms, S n ↔ S' n) {n : Str} (hl : Least S n) : Least S' n :=
  ⟨hl.1, (h n hl.1).mp hl.2.1, fun p hp hS hc => hl.2.2 p hp ((h p hp).mpr hS) hc⟩
theorem rlt_of {a b : Row} (h : rle a b) (hne : a ≠ b) : rlt a b = true := by
  refine Classical.byContradiction fun hn => hne (rle_antisymm h (rle_of_not hn))
theorem appl_kept {kept : List Row} (hk : ∀ r ∈ kept, ∃ n ∈ nms, r = rowOf n) {n : Str} : appl (kept.map (·.2)) n = true ↔ ∃ k, rowOf k ∈ kept ∧ k ∈ nms ∧ ct n k = true := by
  have hn : ∀ n ∈ kept.map (·.2), n ∈ nms := by
    intro n hn
    obtain ⟨r, hr, rfl⟩ := List.mem_map.mp hn
    obtain ⟨m, h, rfl⟩ := hk r hr
    exact h
  rw [appl_iff, lowA_nms hn]
  constructor
  · rintro ⟨x, hx, h⟩
    have hxn := hn x hx
    obtain ⟨r, hr, rfl⟩ := List.mem_map.mp hx
    obtain ⟨k, hkn, rfl⟩ := hk r hr
    exact ⟨k, hr, hkn, h⟩
  · rintro ⟨k, h1, _, h2⟩
    exact ⟨k, List.mem_map.mpr ⟨_, h1, rfl⟩, h2⟩

theorem fold_least : ∀ (rs ps kept : List Row), (∀ r ∈ rs, r.2 = "*" ∨ (r.2 ∈ nms ∧ r = rowOf r.2)) → rs.Pairwise rle → (∀ p ∈ ps, ∀ r ∈ rs, rle p r) → (kept.Pairwise fun a b => rlt a b = true) → (∀ r ∈ kept, ∃ n ∈ nms, r = rowOf n) →
    (∀ n, rowOf n ∈ kept ↔ Least (fun p => rowOf p ∈ ps) n) →
    ((rs.foldl stp kept).Pairwise fun a b => rlt a b = true) ∧ (∀ r ∈ rs.foldl stp kept, ∃ n ∈ nms, r = rowOf n) ∧ ∀ n, rowOf n ∈ rs.foldl stp kept ↔ Least (fun p => rowOf p ∈ ps ++ rs) n
  | [], ps, kept, _, _, _, h1, h2, h3 => ⟨h1, h2, by simpa using h3⟩
  | r :: rs, ps, kept, hr, hs, ho, h1, h2, h3 => by
    obtain ⟨hs1, hs2⟩ := List.pairwise_cons.mp hs
    have ho' : ∀ p ∈ ps ++ [r], ∀ q ∈ rs, rle p q := by
      intro p hp q hq
      rcases List.mem_append.mp hp with hp | hp
      · exact ho p hp q (.tail _ hq)
      · rw [List.mem_singleton.mp hp]; exact hs1 q hq
    have go : ∀ kept', stp kept r = kept' → (kept'.Pairwise fun a b => rlt a b = true) → (∀ r ∈ kept', ∃ n ∈ nms, r = rowOf n) → (∀ n, rowOf n ∈ kept' ↔ Least (fun p => rowOf p ∈ ps ++ [r]) n) →
        (((r :: rs).foldl stp kept).Pairwise fun a b => rlt a b = true) ∧ (∀ q ∈ (r :: rs).foldl stp kept, ∃ n ∈ nms, q = rowOf n) ∧ ∀ n, rowOf n ∈ (r :: rs).foldl stp kept ↔ Least (fun p => rowOf p ∈ ps ++ r :: rs) n := by
      intro kept' e q1 q2 q3
      have := fold_least rs (ps ++ [r]) kept' (fun q hq => hr q (.tail _ hq)) hs2 ho' q1 q2 q3
      rw [List.foldl_cons, e]
      rw [List.append_assoc] at this
      exact this
    rcases hr r (.head _) with hst | ⟨hn, hrow⟩
    · refine go kept ?_ h1 h2 fun n => ?_
      · unfold stp
        rw [hst]; rfl
      · rw [h3 n]
        have : ∀ m ∈ nms, rowOf m ∈ ps ↔ rowOf m ∈ ps ++ [r] := by
          intro m hm
          rw [List.mem_append, List.mem_singleton]
          refine ⟨.inl, fun h => h.resolve_right fun e => ?_⟩
          rw [← e] at hst
          exact (nm_one hm).2.2.1 hst
        exact ⟨Least.congr this, Least.congr fun m hm => (this m hm).symm⟩
    · generalize r.2 = n at hn hrow
      subst hrow
      have hmem : ∀ m, rowOf m ∈ ps ++ [rowOf n] ↔ rowOf m ∈ ps ∨ m = n := by
        intro m
        rw [List.mem_append, List.mem_singleton]
        exact or_congr Iff.rfl ⟨rowOf_inj, fun e => by rw [e]⟩
      have hst : (n != ("*" : Str)) = true := by simpa using (nm_one hn).2.2.1
      cases ha : appl (kept.map (·.2)) n with
      | true =>
        obtain ⟨k, hk, hkn, hc⟩ := (appl_kept h2).mp ha
        refine go kept ?_ h1 h2 fun m => ?_
        · unfold stp
          rw [show (rowOf n).2 = n from rfl, hst, ha]; rfl
        · rw [h3 m]
          have hkl := (h3 k).mp hk
          by_cases e : k = n
          · subst e
            have : ∀ m ∈ nms, rowOf m ∈ ps ↔ rowOf m ∈ ps ++ [rowOf k] := by
              intro m hm
              rw [hmem]
              refine ⟨.inl, fun h => h.elim id fun e => ?_⟩
              rw [e]; exact hkl.2.1
            exact ⟨Least.congr this, Least.congr fun m hm => (this m hm).symm⟩
          · have hlt : rlt (rowOf k) (rowOf n) = true := (ct_two hn hkn hc).1.resolve_left fun q => e q.symm
            constructor
            · rintro ⟨a1, a2, a3⟩
              refine ⟨a1, (hmem m).mpr (.inl a2), fun p hp hS hcp => ?_⟩
              rcases (hmem p).mp hS with hS | rfl
              · exact a3 p hp hS hcp
              · have q1 := a3 k hkn hkl.2.1 ((ct_two a1 hn hcp).2 k hkn hc)
                subst q1
                rcases (ct_two a1 hn hcp).1 with q | q
                · exact absurd q e
                · exact absurd (rlt_trans hlt q) (rlt_irrefl _)
            · rintro ⟨a1, a2, a3⟩
              refine ⟨a1, ?_, fun p hp hS hcp => a3 p hp ((hmem p).mpr (.inl hS)) hcp⟩
              rcases (hmem m).mp a2 with q | rfl
              · exact q
              · exact absurd (a3 k hkn ((hmem k).mpr (.inl hkl.2.1)) hc) e
      | false =>
        have hno : ∀ k, rowOf k ∈ kept → k ∈ nms → ct n k = true → False := fun k a b c => by
          rw [(appl_kept h2).mpr ⟨k, a, b, c⟩] at ha; cases ha
        refine go (kept ++ [rowOf n]) ?_ ?_ ?_ fun m => ?_
        · unfold stp
          rw [show (rowOf n).2 = n from rfl, hst, ha]; rfl
        · rw [List.pairwise_append]
          refine ⟨h1, List.pairwise_singleton _ _, fun a hak b hb => ?_⟩
          rw [List.mem_singleton.mp hb]
          obtain ⟨k, hkn, rfl⟩ := h2 a hak
          have hkl := (h3 k).mp hak
          refine rlt_of (ho _ hkl.2.1 _ (.head _)) fun e => ?_
          obtain rfl := rowOf_inj e
          exact hno k hak hkn (nm_one hkn).1
        · intro q hq
          rcases List.mem_append.mp hq with hq | hq
          · exact h2 q hq
          · exact ⟨n, hn, List.mem_singleton.mp hq⟩
        · rw [List.mem_append, List.mem_singleton]
          constructor
          · rintro (hm | hm)
            · obtain ⟨a1, a2, a3⟩ := (h3 m).mp hm
              refine ⟨a1, (hmem m).mpr (.inl a2), fun p hp hS hcp => ?_⟩
              rcases (hmem p).mp hS with hS | rfl
              · exact a3 p hp hS hcp
              · rcases (ct_two a1 hn hcp).1 with q | q
                · exact q.symm
                · have := ho _ a2 _ (List.mem_cons_self)
                  unfold rle at this
                  rw [q] at this; cases this
            · obtain rfl := rowOf_inj hm
              refine ⟨hn, (hmem m).mpr (.inr rfl), fun p hp hS hcp => ?_⟩
              rcases (hmem p).mp hS with hS | e
              · obtain ⟨k, hkl, hck⟩ := least_of (S := fun p => rowOf p ∈ ps) hp hS
                exact (hno k ((h3 k).mpr hkl) hkl.1 ((ct_two hn hp hcp).2 k hkl.1 hck)).elim
              · exact e
          · rintro ⟨a1, a2, a3⟩
            rcases (hmem m).mp a2 with q | rfl
            · exact .inl ((h3 m).mpr ⟨a1, q, fun p hp hS hcp => a3 p hp ((hmem p).mpr (.inl hS)) hcp⟩)
            · exact .inr rfl

/-- what _law_reduced keeps of _law_heap's heap -/
theorem red_law {xs : List X} {us : List (Str × Tok)} (hg : ∀ u ∈ us, Good u.1) (hH : HeapFrom 0 xs) (hp : (xs.map (·.2)).Perm (us.map fun u => rw_ u.1)) : redX xs [] = minR (us.map (·.1)) := by
  obtain ⟨rs, h1, h2, h3⟩ := redX_fold _ xs [] rfl hH
  have hper := h2.trans hp
  have hrow : ∀ u ∈ us, rw_ u.1 = rowOf (Txt.lower u.1) := by
    intro u hu
    unfold rw_ rowOf
    rw [(good_facts (hg u hu)).2.1]
  have hr : ∀ r ∈ rs, r.2 = "*" ∨ (r.2 ∈ nms ∧ r = rowOf r.2) := by
    intro r hr
    obtain ⟨u, hu, rfl⟩ := List.mem_map.mp (hper.mem_iff.mp hr)
    rw [hrow u hu]
    exact (good_facts (hg u hu)).1.imp_right fun h => ⟨h, rfl⟩
  obtain ⟨q1, q2, q3⟩ := fold_least rs [] [] hr h1 (fun _ h => nomatch h) List.Pairwise.nil (fun _ h => nomatch h) (fun n => ⟨fun h => (nomatch h), fun h => (nomatch h.2.1)⟩)
  rw [← h3] at q1 q2 q3
  have hmem : ∀ n ∈ nms, rowOf n ∈ [] ++ rs ↔ n ∈ lowA (us.map (·.1)) := by
    intro n hn
    rw [List.nil_append, hper.mem_iff, List.mem_map]
    unfold lowA
    rw [List.mem_map]
    constructor
    · rintro ⟨u, hu, e⟩
      rw [hrow u hu] at e
      have e := rowOf_inj e
      refine ⟨u.1, List.mem_filter.mpr ⟨List.mem_map_of_mem hu, ?_⟩, e⟩
      rw [bne_iff_ne]
      intro h
      rw [(good_facts (hg u hu)).2.2.1.mp h] at e
      exact (nm_one hn).2.2.1 e.symm
    · rintro ⟨a, ha, e⟩
      obtain ⟨u, hu, rfl⟩ := List.mem_map.mp (List.mem_filter.mp ha).1
      exact ⟨u, hu, by rw [hrow u hu, e]⟩
  refine srt_eq q1 (minR_srt _) fun r => ?_
  constructor
  · intro h
    obtain ⟨n, hn, rfl⟩ := q2 r h
    exact minR_mem.mpr (((q3 n).mp h).congr hmem)
  · intro h
    obtain ⟨n, rfl, hl⟩ := minR_rows h
    exact (q3 n).mpr (hl.congr fun m hm => (hmem m hm).symm)

end
section


section
variable {prog : Program} {w : World} {A : Around} {E : Value → Shared → Prop} {s : Shared} {env : Env} {pos : Pos}
theorem Subscript_SliceT {value : Expr} {lower upper : Option Expr} {p : Pos} {Q : Value → Shared → Prop}
    (h : wpAny (model prog w) A (eval value env) (fun o s₁ => wpAny (model prog w) A (eval (.Slice lower upper none p) env) (fun i s₂ => ItemOn (model prog w) A E o i Q s₂) E s₁) E s) :
    wpAny (model prog w) A (eval (.Subscript value (.Slice lower upper none p) pos) env) Q E s := by
  rw [eval_Subscript]
  refine wpAny_bind (wpAny_mono h (fun o s₁ h₁ => wpAny_bind (wpAny_holding (wpAny_mono h₁ (fun i s₂ h₂ => wpAny_bind (wpAny_standAt ?_)) fun _ _ x => x)))
    fun _ _ x => x)
  obtain ⟨T, id, hl, hT, hg⟩ := h₂
  first
    | (refine wpAny_bind ?_; rw [getitemInPython_of_ne hT.not_modules]; refine wpAny_bind (wpAny_specialOf hT hl ?_))
    | refine wpAny_bind (wpAny_specialOf hT hl ?_)
  have fin : wpAny (model prog w) A (operate [i, o] (getItem o i)) (fun r s₃ => wpAny (model prog w) A (letTemporaryGo value o r >>= fun _ => pure r) Q E s₃) E s₂ :=
    wpAny_operating (wpAny_mono hg (fun r s₃ h₃ => wpAny_bind (wpAny_letTemporaryGo (wpAny_pure h₃))) fun _ _ x => x)
  first
    | exact wpAny_pure (wpAny_bind fin)
    | exact wpAny_bind fin
end

noncomputable def retE : Expr := match ((fBody 18)[7]? : Option Stmt) with | some (Stmt.Return (some e) _) => e | _ => default
noncomputable def retL : Expr := match retE with | .Compare e _ _ _ => e | _ => default
noncomputable def retR : Expr := match retE with | .Compare _ _ (e :: _) _ => e | _ => default

section
variable {C : Cx} {F : Frz} {l : Ledger} {A : Around} {E : Value → Shared → Prop} {s : Shared} {cd : Value} {c : Addr} {mt : Nat → Addr} {cdm : Nat → Value} {env : Env}
set_option maxRecDepth 10000
set_option maxHeartbeats 1000000
theorem sub_sliceT {value : Expr} {lower upper : Option Expr} {p pos : Pos} {Q : Value → Shared → Prop}
    (h : wpAny C.M A (eval value env) (fun o s₁ => wpAny C.M A (evalPart lower env) (fun vl s₂ => wpAny C.M A (evalPart upper env) (fun vu s₃ => SlOn C.M A E Q o vl vu s₃) E s₂) E s₁) E s) :
    wpAny C.M A (eval (.Subscript value (.Slice lower upper none p) pos) env) Q E s := by
  refine Subscript_SliceT (wpAny_mono h (fun o s₁ h₁ => wpAny_Slice (wpAny_mono h₁ (fun vl s₂ h₂ => wpAny_mono h₂ (fun vu s₃ h₃ => ?_) fun _ _ e => e) fun _ _ e => e)) fun _ _ e => e)
  rw [evalPart_none]
  exact wpAny_pure h₃

/-- what a record tells of none and of the star -/
theorem rec_tells {r d U V : Addr} {us : List (Str × Tok)} {K L : Addr} {vars : List (Str × Value)} {Q : Value → Shared → Prop} (W : Wd C) (Xc : Cl C c mt cdm) (hs : St C F l s) (hr : Rm A 1) (hg : ∀ u ∈ us, Good u.1)
    (hK : (K, NsH vars) ∈ l) (hv : (("record" : Str), Value.ref r) ∈ vars) (hI : (r, IsInst c d) ∈ l) (hd : (d, IdH (rv U V)) ∈ l) (hU : (U, IsL (strValues us)) ∈ l)
    (h : ∀ p s', St C F ((p, IsL [.bool ((us.map (·.1)).contains ("*" : Str)), .bool false]) :: l) s' → Q (.ref p) s') :
    wpAny C.M A (eval (eltOf retL) (compEnvC (scOf retL) [] K (lE C L cd))) Q E s := by
  have hlen : ∀ a ∈ us, a.1.length ≤ 1000 := fun a ha => Nat.le_trans (good_facts (hg a ha)).2.2.2 (by decide)
  have hgs : ∀ a ∈ us.map (·.1), Good a := by
    intro a ha
    obtain ⟨u, hu, rfl⟩ := List.mem_map.mp ha
    exact hg u hu
  obtain ⟨w1, w2, ⟨rest, w3⟩, w4⟩ := low_fact (a := "*") (.inl rfl)
  show wpAny _ _ (eval (Expr.List _ _) _) _ _ _
  refine e_list ?_
  repeat walk_at "ex"
  refine m_applies Xc hs hI hd rvA ?_
  refine call_app Xc ?_
  repeat walk_at "ex"
  refine ⟨⟨_, _, by assumption⟩, wpAny_call ?_⟩
  refine applies_none (us := us) W Xc hs hr hI hd (by simp) hU ?_
  intro s1 hs1
  try dsimp only
  repeat walk_at "ex"
  refine m_applies Xc hs1 hI hd rvA ?_
  refine call_app Xc ?_
  repeat walk_at "ex"
  refine ⟨⟨_, _, by assumption⟩, wpAny_call ?_⟩
  rename St C F _ _ => hs2
  refine applies_spec (us := us) W Xc hs2 hr hI hd (by simp) hU w1 w2 w3 w1 w4 hlen ?_
  intro s3 hs3
  try dsimp only
  repeat walk_at "ex"
  refine MkL.in (by assumption) (by simp) ?_
  intro p s4 hs4
  rw [appl_star hgs] at hs4
  exact h p s4 hs4

theorem fin_recs {Rr r0 d0 U0 V0 r1 d1 U1 V1 L : Addr} {us0 us1 : List (Str × Tok)} {vars : List (Str × Value)} {Q : Value → Shared → Prop} (W : Wd C) (Xc : Cl C c mt cdm) (hs : St C F l s) (hr : Rm A 1) (hg0 : ∀ u ∈ us0, Good u.1) (hg1 : ∀ u ∈ us1, Good u.1)
    (hL : (L, NsH vars) ∈ l) (hv : (("records" : Str), Value.ref Rr) ∈ vars) (hR : (Rr, IsL [.ref r0, .ref r1]) ∈ l)
    (hI0 : (r0, IsInst c d0) ∈ l) (hd0 : (d0, IdH (rv U0 V0)) ∈ l) (hU0 : (U0, IsL (strValues us0)) ∈ l) (hI1 : (r1, IsInst c d1) ∈ l) (hd1 : (d1, IdH (rv U1 V1)) ∈ l) (hU1 : (U1, IsL (strValues us1)) ∈ l)
    (h : ∀ K p0 p1 s', St C F ((K, IsL [.ref p0, .ref p1]) :: (p0, IsL [.bool ((us0.map (·.1)).contains ("*" : Str)), .bool false]) :: (p1, IsL [.bool ((us1.map (·.1)).contains ("*" : Str)), .bool false]) :: l) s' → Q (.ref K) s') :
    wpAny C.M A (eval retL (lE C L cd)) Q E s := by
  show wpAny _ _ (eval (Expr.ListComp _ _ _ _) _) _ _ _
  refine e_comp (cl := []) (by rfl) (by decide +kernel) (by decide +kernel) (by decide +kernel) ?_
  refine nmX hs hL hv ?_
  refine i_list hs hR ?_
  intro it s1 hs1
  refine LoopIn.in hs1 fun acc K s2 hs2 => ⟨self_lit hs2 (.tail _ (.tail _ (.head _))), ?_⟩
  clear hs1 hs
  refine turnN ?_
  refine n_list hs2 (.there (.there .here)) (by walk_at "mem") rfl ?_
  intro s3 hs3
  iterate 2 (walk_at "ex")
  rename St C F _ _ => hs4
  show wpAny _ _ (eval (eltOf retL) (compEnvC (scOf retL) [] K (lE C L cd))) _ _ _
  refine rec_tells (us := us0) W Xc hs4 hr hg0 (.head _) (.head _) (by walk_at "mem") (by walk_at "mem") (by walk_at "mem") ?_
  intro p0 s5 hs5
  refine appendL (items := []) hs5 (.there (.there .here)) (by simp) fun s6 hs6 => ?_
  clear hs5 hs4 hs3 hs2
  refine turnN ?_
  refine n_list hs6 (.there (.there (.there .here))) (by walk_at "mem") rfl ?_
  intro s7 hs7
  iterate 2 (walk_at "ex")
  rename St C F _ _ => hs8
  show wpAny _ _ (eval (eltOf retL) (compEnvC (scOf retL) [] K (lE C L cd))) _ _ _
  refine rec_tells (us := us1) W Xc hs8 hr hg1 (.tail _ (.head _)) (.head _) (by walk_at "mem") (by walk_at "mem") (by walk_at "mem") ?_
  intro p1 s9 hs9
  refine appendL (items := [.ref p0]) hs9 (.there (.there (.there .here))) (by simp) fun s10 hs10 => ?_
  simp only [List.cons_append, List.nil_append] at hs10
  clear hs9 hs8 hs7 hs6
  refine turnN ?_
  refine n_listE hs10 (by walk_at "mem") (.there (.there (.there (.there .here)))) (by walk_at "mem") rfl hr.handled ?_
  intro s12 hs12
  dsimp only [OkP]
  refine LetGo.in (hs12.pick (l' := (K, NsH [("record", .ref r1)]) :: _) ?_) fun s13 hs13 => h acc p0 p1 s13 hs13
  walk_at "pick"

theorem fin_sides {S G0 G1 L : Addr} {us0 us1 : List (Str × Tok)} {Q : Value → Shared → Prop} (hs : St C F l s) (hr : Rm A 1)
    (hc : (L + 2, IsCl (some (.ref S))) ∈ l) (hS : (S, IsL [.ref G0, .ref G1]) ∈ l) (hG0 : (G0, IsL (strValues us0)) ∈ l) (hG1 : (G1, IsL (strValues us1)) ∈ l)
    (h : ∀ K p0 p1 s', St C F ((K, IsL [.ref p0, .ref p1]) :: (p0, IsL [.bool ((us0.map (·.1)).contains ("*" : Str)), .bool false]) :: (p1, IsL [.bool ((us1.map (·.1)).contains ("*" : Str)), .bool false]) :: l) s' → Q (.ref K) s') :
    wpAny C.M A (eval retR (lE C L cd)) Q E s := by
  show wpAny _ _ (eval (Expr.ListComp _ _ _ _) _) _ _ _
  refine e_comp (cl := []) (by rfl) (by decide +kernel) (by decide +kernel) (by decide +kernel) ?_
  repeat walk_at "ex"
  refine i_list hs hS ?_
  intro it s1 hs1
  refine LoopIn.in hs1 fun acc K s2 hs2 => ⟨self_lit hs2 (.tail _ (.tail _ (.head _))), ?_⟩
  clear hs1 hs
  refine turnN ?_
  refine n_list hs2 (.there (.there .here)) (by walk_at "mem") rfl ?_
  intro s3 hs3
  repeat walk_at "ex"
  refine wpAny_Compare1 ?_
  repeat walk_at "ex"
  rename St C F _ _ => hs4
  refine s_in hs4 (by walk_at "mem") ?_
  repeat walk_at "ex"
  refine MkL.in (by assumption) (by simp) ?_
  intro p0 s5 hs5
  refine appendL (items := []) hs5 (.there (.there .here)) (by simp) fun s6 hs6 => ?_
  clear hs5 hs4 hs3 hs2
  refine turnN ?_
  refine n_list hs6 (.there (.there (.there .here))) (by walk_at "mem") rfl ?_
  intro s7 hs7
  repeat walk_at "ex"
  refine wpAny_Compare1 ?_
  repeat walk_at "ex"
  rename St C F _ _ => hs8
  refine s_in hs8 (by walk_at "mem") ?_
  repeat walk_at "ex"
  refine MkL.in (by assumption) (by simp) ?_
  intro p1 s9 hs9
  refine appendL (items := [.ref p0]) hs9 (.there (.there (.there .here))) (by simp) fun s10 hs10 => ?_
  simp only [List.cons_append, List.nil_append] at hs10
  clear hs9 hs8 hs7 hs6
  refine turnN ?_
  refine n_listE hs10 (by walk_at "mem") (.there (.there (.there (.there .here)))) (by walk_at "mem") rfl hr.handled ?_
  intro s12 hs12
  dsimp only [OkP]
  refine LetGo.in (hs12.pick (l' := (K, NsH [("side", .ref G1)]) :: _) ?_) fun s13 hs13 => h acc p0 p1 s13 hs13
  walk_at "pick"
end

end
local macro_rules | `(tactic| walk_at "ex") => `(tactic| ((with_reducible show wpAny _ _ (eval (Expr.Subscript (Expr.Call _ _ _ _) (Expr.Slice _ _ none _) _) _) _ _ _); refine sub_sliceT ?_))
section


section
variable {C : Cx} {F : Frz} {l : Ledger} {A : Around} {E : Value → Shared → Prop} {s : Shared} {c : Addr} {mt : Nat → Addr} {cdm : Nat → Value} {outer : List Env}
theorem Srt.eq_minR {zs : List X} (h : Srt zs) : (zs.map (·.2)).Pairwise fun a b => rlt a b = true := by
  rw [List.pairwise_map]; exact h
theorem Srt.of_map {zs : List X} (h : (zs.map (·.2)).Pairwise fun a b => rlt a b = true) : Srt zs := by
  rw [List.pairwise_map] at h; exact h
theorem sldM_rows {xs ys : List X} : (sldM xs ys).map (·.2) = (xs.map (·.2)).filter fun r => !(ys.map (·.2)).contains r := by
  unfold sldM; rw [List.filter_map]; rfl
theorem minR_len (as : List Str) : (minR as).length ≤ 14 := by
  unfold minR
  rw [List.length_map]
  exact Nat.le_trans (List.length_filter_le _ _) (by decide +kernel)
theorem minR_names {as : List Str} {r : Row} (h : r ∈ minR as) : r.2.length ≤ 1000 := by
  obtain ⟨n, rfl, hl⟩ := minR_rows h
  exact Nat.le_trans (nm_one hl.1).2.2.2.2 (by decide)
set_option maxRecDepth 10000
set_option maxHeartbeats 4000000
theorem law_spec {c18 c12 c13 c14 c15 c16 c17 c2 c3 c4 c5 c6 c8 : Value} {lst : Addr} {items : List Value} {R : Result → Shared → Prop} (W : Wd C) (hIE : C.mg "IndexError" = none ∧ C.mb "IndexError" = some (.type "IndexError")) (Xc : Cl C c mt cdm)
    (f18 : FnAt C 18 c18) (f12 : FnAt C 12 c12) (f13 : FnAt C 13 c13) (f14 : FnAt C 14 c14) (f15 : FnAt C 15 c15) (f16 : FnAt C 16 c16) (f17 : FnAt C 17 c17) (f2 : FnAt C 2 c2) (f3 : FnAt C 3 c3) (f4 : FnAt C 4 c4) (f5 : FnAt C 5 c5) (f6 : FnAt C 6 c6) (f8 : FnAt C 8 c8)
    (hs : St C F l s) (hr : Rm A 6) (hA : A.frames = some outer) (hf : FrOk l outer) (hsc : C.hw.IsList lst items.toArray) (hv : ∀ v ∈ items, ∃ i t, v = .int i t) (hz : items.length < 100)
    (h : ∀ F' s', St C F' l s' → R (.ok (.ret (.bool true))) s') :
    codeAny C.M A (.call (.ref (C.fn 18)) ⟨[.ref lst], []⟩) R s := by
  have hscr : ∀ {F' l' s'}, St C F' l' s' → s'.heap.IsList lst items.toArray := fun hs' => hsc.at fun o e => hs'.sup _ o e
  refine call_fnC (binds := [("script", .ref lst)]) (lvars := [("script", .ref lst)]) W f18 hs hr.d (fun _ _ => rfl) (by intro n y hy; rw [List.mem_singleton.mp hy]; exact .inl rfl) (by intro p hp; rw [List.mem_singleton.mp hp]; rfl) (by simp) (by intro n; show (["least", "sides", "numbers"] : List Str).Nodup; decide +kernel) (fun L s' hs => ?_)
  change St C F ((L, NsH [("script", .ref lst)]) :: (L + 3, IsCl none) :: (L + 2, IsCl none) :: (L + 1, IsCl none) :: l) s' at hs
  have hru := hr.deeper (env := lE C L c18)
  have hA' : (A.deeper (lE C L c18)).frames = some (lE C L c18 :: outer) := Around.frames_deeper hA
  change wpAny _ (A.deeper (lE C L c18)) (execs (_ :: _) (lE C L c18)) _ _ _
  generalize A.deeper (lE C L c18) = B at hru hA'
  repeat walk_at "ex"
  refine MkL.in (by assumption) (by simp) ?_
  intro P1 s1 hs1
  repeat walk_at "ex"
  refine SlOn.listH (by assumption) (hscr (by assumption)) (by omega) .none (.int 5 _) ?_
  intro P2 s2 hs2
  rw [show slicePick items.toArray none (some 5) none = (items.toArray.toList.take 5).toArray from slicePick_upto' items.toArray 5] at hs2
  rw [show ((items.toArray.toList.take 5).toArray).toList = items.take 5 by simp] at hs2
  refine addL hs2 (.tail _ (.head _)) (.head _) (by simp; omega) ?_
  intro N s3 hs3
  generalize hns : ([_, _, _, _, _, _, _, _, _, _] : List Value) ++ items.take 5 = ns at hs3
  have hnv : ∀ v ∈ ns, ∃ i t, v = Value.int i t := by
    intro v hv'
    rw [← hns] at hv'
    rcases List.mem_append.mp hv' with h1 | h1
    · simp only [List.mem_cons, List.not_mem_nil, or_false] at h1
      rcases h1 with rfl | rfl | rfl | rfl | rfl | rfl | rfl | rfl | rfl | rfl <;> exact ⟨_, _, rfl⟩
    · exact hv v (List.mem_of_mem_take h1)
  have hnz : ns.length < 50 := by
    rw [← hns, List.length_append, List.length_take]
    simp only [List.length_cons, List.length_nil]
    omega
  repeat walk_at "ex"
  rename St C F _ _ => hh
  have hs4 := hh.pick (l' := (L, NsH [("script", .ref lst)]) :: (L + 3, IsCl none) :: (L + 2, IsCl none) :: (L + 1, IsCl (some (.ref N))) :: (N, IsL ns) :: l) (by walk_at "pick")
  clear hh hs3 hs2 hs1 hs
  show wpAny _ _ (eval (lawV 1) (lE C L c18)) _ _ _
  refine sides_comp W f12 hs4 (hru.less (by omega)) (by walk_at "mem") (by walk_at "mem") hnv hnz ?_
  intro S G0 G1 us0 us1 s5 hg0 hz0 hg1 hz1 hs5
  repeat walk_at "ex"
  rename St C F _ _ => hh
  have hs6 := hh.pick (l' := (L, NsH [("script", .ref lst)]) :: (L + 3, IsCl none) :: (L + 2, IsCl (some (.ref S))) :: (S, IsL [.ref G0, .ref G1]) :: (G0, IsL (strValues us0)) :: (G1, IsL (strValues us1)) :: l) (by walk_at "pick")
  clear hh hs5 hs4
  have hu0 : ∀ u ∈ us0, u.1.length < 100 := fun u hu => Nat.lt_of_le_of_lt (good_facts (hg0 u hu)).2.2.2 (by decide)
  have hu1 : ∀ u ∈ us1, u.1.length < 100 := fun u hu => Nat.lt_of_le_of_lt (good_facts (hg1 u hu)).2.2.2 (by decide)
  have hk0 : ∀ u ∈ us0, u.1.length ≤ 1000 := fun u hu => Nat.le_trans (good_facts (hg0 u hu)).2.2.2 (by decide)
  have hk1 : ∀ u ∈ us1, u.1.length ≤ 1000 := fun u hu => Nat.le_trans (good_facts (hg1 u hu)).2.2.2 (by decide)
  have hgs0 : ∀ a ∈ us0.map (·.1), Good a := by
    intro a ha
    obtain ⟨u, hu, rfl⟩ := List.mem_map.mp ha
    exact hg0 u hu
  have hgs1 : ∀ a ∈ us1.map (·.1), Good a := by
    intro a ha
    obtain ⟨u, hu, rfl⟩ := List.mem_map.mp ha
    exact hg1 u hu
  refine Assign_Tuple ?_
  refine e_tuple ?_
  walk_at "ex"
  show wpAny _ _ (eval (tupE 2 0) (lE C L c18)) _ _ _
  refine records_comp W Xc f13 hs6 (hru.less (by omega)) (by walk_at "mem") (by walk_at "mem") (by walk_at "mem") (by walk_at "mem") hz0 hz1 ?_
  intro Rr r0 d0 U0 V0 r1 d1 U1 V1 s7 hs7
  walk_at "ex"
  show wpAny _ _ (eval (tupE 2 1) (lE C L c18)) _ _ _
  refine kept_comp W Xc f14 f15 f2 f3 f4 f6 f5 hs7 hru (by walk_at "mem") (by walk_at "mem") (by walk_at "mem") (by walk_at "mem") hz0 hz1 hu0 hu1 (fun u hu => (good_facts (hg0 u hu)).1) (fun u hu => (good_facts (hg1 u hu)).1) ?_
  intro F1 Kp D0 D1 xs0 xs1 ks0 ks1 s8 hF1 hH0 hP0 hH1 hP1 hK0 hr0 hK1 hr1 hs8
  rw [red_law hg0 hH0 hP0] at hr0
  rw [red_law hg1 hH1 hP1] at hr1
  clear hH0 hP0 hH1 hP1
  walk_at "ex"
  show wpAny _ _ (eval (tupE 2 2) (lE C L c18)) _ _ _
  refine least_comp W f17 hs8 (hru.less (by omega)) (by walk_at "mem") (by walk_at "mem") (by walk_at "mem") (by walk_at "mem") hz0 hz1 hu0 hu1 (low_nms hgs0) (low_nms hgs1) ?_
  intro F2 Le E0 E1 zs0 zs1 As0 As1 s9 hF2 hZ0 hS0 hn0 hm0 hq0 hl0 hZ1 hS1 hn1 hm1 hq1 hl1 hs9
  have he0 := least_law hgs0 hS0.eq_minR hm0 hq0
  have he1 := least_law hgs1 hS1.eq_minR hm1 hq1
  clear hm0 hq0 hm1 hq1 hn0 hn1
  repeat walk_at "ex"
  refine MkT.in (by assumption) (by simp) ?_
  intro T1 s10 hs10
  refine asg_tup hs10 (.head _) hru.handled (by rfl) (by rfl) fun s11 hs11 => ?_
  show wpAny _ _ (assignInOrder [assign _ _, assign _ _, assign _ _] [_, _, _]) _ _ _
  repeat walk_at "ex"
  try dsimp only
  repeat walk_at "ex"
  rename St C F2 _ _ => hh
  have hs12 := hh.pick (l' := (L, NsH [("script", .ref lst), ("records", .ref Rr), ("kept", .ref Kp)]) :: (L + 3, IsCl (some (.ref Le))) :: (L + 2, IsCl (some (.ref S))) :: (Le, IsL [.ref E0, .ref E1]) :: (E0, IsL (vals zs0)) :: (E1, IsL (vals zs1)) ::
    (Kp, IsL [.ref D0, .ref D1]) :: (D0, IsL (vals ks0)) :: (D1, IsL (vals ks1)) :: (Rr, IsL [.ref r0, .ref r1]) :: (r0, IsInst c d0) :: (d0, IdH (rv U0 V0)) :: (U0, IsL (strValues us0)) :: (r1, IsInst c d1) :: (d1, IdH (rv U1 V1)) :: (U1, IsL (strValues us1)) ::
    (S, IsL [.ref G0, .ref G1]) :: (G0, IsL (strValues us0)) :: (G1, IsL (strValues us1)) :: l) (by walk_at "pick")
  clear hh hs11 hs10 hs9 hs8 hs7 hs6
  show wpAny _ _ (eval (tupE 3 0) (lE C L c18)) _ _ _
  refine alone0 hs12 (hru.less (by omega)) (by walk_at "mem") (by walk_at "mem") (by walk_at "mem") (by walk_at "mem") hZ0 hZ1 (by omega) ?_
  intro a0 s13 hs13
  walk_at "ex"
  show wpAny _ _ (eval (tupE 3 1) (lE C L c18)) _ _ _
  refine alone1 hs13 (hru.less (by omega)) (by walk_at "mem") (by walk_at "mem") (by walk_at "mem") (by walk_at "mem") hZ1 hZ0 (by omega) ?_
  intro a1 s14 hs14
  repeat walk_at "ex"
  refine MkT.in (by assumption) (by simp) ?_
  intro Al s15 hs15
  repeat walk_at "ex"
  rename St C F2 _ _ => hh
  have hs16 := hh.pick (l' := (L, NsH [("script", .ref lst), ("records", .ref Rr), ("kept", .ref Kp), ("alone", .ref Al)]) :: (Al, IsT [.ref a0, .ref a1]) :: (a0, IsL (vals (sldM zs0 zs1))) :: (a1, IsL (vals (sldM zs1 zs0))) :: (L + 3, IsCl (some (.ref Le))) :: (L + 2, IsCl (some (.ref S))) :: (Le, IsL [.ref E0, .ref E1]) :: (E0, IsL (vals zs0)) :: (E1, IsL (vals zs1)) ::
    (Kp, IsL [.ref D0, .ref D1]) :: (D0, IsL (vals ks0)) :: (D1, IsL (vals ks1)) :: (Rr, IsL [.ref r0, .ref r1]) :: (r0, IsInst c d0) :: (d0, IdH (rv U0 V0)) :: (U0, IsL (strValues us0)) :: (r1, IsInst c d1) :: (d1, IdH (rv U1 V1)) :: (U1, IsL (strValues us1)) ::
    (S, IsL [.ref G0, .ref G1]) :: (G0, IsL (strValues us0)) :: (G1, IsL (strValues us1)) :: l) (by walk_at "pick")
  clear hh hs15 hs14 hs13 hs12
  have hk0l : ks0.length ≤ 14 := by rw [← List.length_map (f := (·.2)), hr0]; exact minR_len _
  have hk1l : ks1.length ≤ 14 := by rw [← List.length_map (f := (·.2)), hr1]; exact minR_len _
  have hz0l : zs0.length ≤ 14 := by rw [← List.length_map (f := (·.2)), he0]; exact minR_len _
  have hz1l : zs1.length ≤ 14 := by rw [← List.length_map (f := (·.2)), he1]; exact minR_len _
  have hkn0 : ∀ x ∈ ks0, x.2.2.length ≤ 1000 := fun x hx => minR_names (as := us0.map (·.1)) (by rw [← hr0]; exact List.mem_map_of_mem hx)
  have hkn1 : ∀ x ∈ ks1, x.2.2.length ≤ 1000 := fun x hx => minR_names (as := us1.map (·.1)) (by rw [← hr1]; exact List.mem_map_of_mem hx)
  have hSk0 : Srt ks0 := .of_map (by rw [hr0]; exact minR_srt _)
  have hSk1 : Srt ks1 := .of_map (by rw [hr1]; exact minR_srt _)
  show wpAny _ _ (exec (lawS 4) (lE C L c18)) _ _ _
  refine whole_st W Xc f13 f16 f2 f3 f6 f5 hs16 hru (by walk_at "mem") (by walk_at "mem") (by walk_at "mem") (by walk_at "mem") (by walk_at "mem") hk0 (by walk_at "mem") (by walk_at "mem") (by walk_at "mem") hk1 (by walk_at "mem") (by walk_at "mem") (hK0.mono hF2) (hK1.mono hF2) (by omega) (by omega) hkn0 hkn1 ?_
  intro F3 Wh P0 P1 ws0 ws1 s17 hF3 hW0 hw0 hW1 hw1 hs17
  have hm0 : ks0.map (·.2.2) = (minR (us0.map (·.1))).map (·.2) := by rw [← hr0, List.map_map]; rfl
  have hm1 : ks1.map (·.2.2) = (minR (us1.map (·.1))).map (·.2) := by rw [← hr1, List.map_map]; rfl
  rw [hm0, whole_law hgs0, List.map_eq_nil_iff] at hw0
  rw [hm1, whole_law hgs1, List.map_eq_nil_iff] at hw1
  subst hw0 hw1
  try dsimp only
  repeat walk_at "ex"
  refine gl W (by assumption) f8.glob ?_
  refine callF f8 ?_
  repeat walk_at "ex"
  rename_i t18 s18 hs18
  refine item (k := 0) (t := t18) hs18 (by walk_at "mem") (by omega) (by omega) (v := .ref D0) rfl ?_
  repeat walk_at "ex"
  rename_i t19 s19 hs19
  refine item (k := 1) (t := t19) hs19 (by walk_at "mem") (by omega) (by omega) (v := .ref D1) rfl ?_
  repeat walk_at "ex"
  refine ⟨⟨_, _, hs19⟩, wpAny_call ?_⟩
  refine sld_spec W hIE f8 hs19 (hru.less (by omega)) hA' ?_ (by walk_at "mem") (by walk_at "mem") (hK0.mono (Frz.le_trans hF2 hF3)) (hK1.mono (Frz.le_trans hF2 hF3)) hSk0 hSk1 (by omega) (by omega) ?_
  · intro env he
    rcases List.mem_cons.mp he with rfl | he
    · refine ⟨?_, L, _, rfl, .head _⟩
      show (fScope 18).kind ≠ .module
      decide +kernel
    · obtain ⟨q1, L', vars', q2, q3⟩ := hf env he
      exact ⟨q1, L', vars', q2, by walk_at "mem"⟩
  intro T m u s20 hs20
  try dsimp only
  repeat walk_at "ex"
  refine gl W (by assumption) f16.glob ?_
  refine callF f16 ?_
  repeat walk_at "ex"
  rename_i t21 s21 hs21
  refine item (k := 0) (t := t21) hs21 (by walk_at "mem") (by omega) (by omega) (v := .ref r0) rfl ?_
  repeat walk_at "ex"
  rename_i t22 s22 hs22
  refine item (k := 1) (t := t22) hs22 (by walk_at "mem") (by omega) (by omega) (v := .ref r1) rfl ?_
  repeat walk_at "ex"
  refine ⟨⟨_, _, hs22⟩, wpAny_call ?_⟩
  refine first_spec (us := us0) (vs := us1) (U1 := U0) (U2 := U1) W Xc f16 f2 f3 f6 f5 hs22 hru (by walk_at "mem") (by walk_at "mem") (by simp) rvA (by walk_at "mem") hk0 (by walk_at "mem") (by walk_at "mem") (by simp) rvA (by walk_at "mem") hk1 ?_
  intro F4 ts Tl s23 hF4 hTs hts hs23
  try dsimp only
  repeat walk_at "ex"
  refine MkL.in (by assumption) (by simp) ?_
  intro To s24 hs24
  repeat walk_at "ex"
  refine MkL.in (by assumption) (by simp) ?_
  intro N1 s25 hs25
  repeat walk_at "ex"
  refine MkL.in (by assumption) (by simp) ?_
  intro N2 s26 hs26
  repeat walk_at "ex"
  refine MkL.in (by assumption) (by simp) ?_
  intro N3 s27 hs27
  repeat walk_at "ex"
  refine bi W (by assumption) W.isSorted ?_
  repeat walk_at "ex"
  rename_i t28 s28 hs28
  refine item_tupleT (k := 0) (u := t28) (j := 0) (x := .ref a0) (hs28.isTup (items := [.ref a0, .ref a1]) (by walk_at "mem")) (by omega) (by omega) rfl rfl ?_
  repeat walk_at "ex"
  rename_i t29 s29 hs29
  refine item_tupleT (k := 1) (u := t29) (j := 1) (x := .ref a1) (hs29.isTup (items := [.ref a0, .ref a1]) (by walk_at "mem")) (by omega) (by omega) rfl rfl ?_
  refine addL (xs := vals (sldM zs0 zs1)) (ys := vals (sldM zs1 zs0)) hs29 (by walk_at "mem") (by walk_at "mem") ?_ ?_
  · have q1 : (sldM zs0 zs1).length ≤ zs0.length := List.length_filter_le _ _
    have q2 : (sldM zs1 zs0).length ≤ zs1.length := List.length_filter_le _ _
    simp only [vals, List.length_map]; omega
  intro Sm s30 hs30
  rw [show vals (sldM zs0 zs1) ++ vals (sldM zs1 zs0) = vals (sldM zs0 zs1 ++ sldM zs1 zs0) by simp [vals]] at hs30
  repeat walk_at "ex"
  have hSm : (sldM zs0 zs1 ++ sldM zs1 zs0).length < 64 := by
    have q1 : (sldM zs0 zs1).length ≤ zs0.length := List.length_filter_le _ _
    have q2 : (sldM zs1 zs0).length ≤ zs1.length := List.length_filter_le _ _
    rw [List.length_append]; omega
  have hRz0 : Rows F4 zs0 := hZ0.mono (Frz.le_trans hF3 hF4)
  have hRz1 : Rows F4 zs1 := hZ1.mono (Frz.le_trans hF3 hF4)
  have hRk0 : Rows F4 ks0 := hK0.mono (Frz.le_trans hF2 (Frz.le_trans hF3 hF4))
  have hRk1 : Rows F4 ks1 := hK1.mono (Frz.le_trans hF2 (Frz.le_trans hF3 hF4))
  have hRm : Rows F4 (sldM zs0 zs1 ++ sldM zs1 zs0) := by
    intro x hx
    rcases List.mem_append.mp hx with hx | hx
    · exact hRz0 x (List.mem_filter.mp hx).1
    · exact hRz1 x (List.mem_filter.mp hx).1
  have hndm : ((sldM zs0 zs1 ++ sldM zs1 zs0).map (·.2)).Nodup := by
    rw [List.map_append, sldM_rows, sldM_rows, he0, he1, List.nodup_append]
    refine ⟨(srt_nodup (minR_srt _)).filter _, (srt_nodup (minR_srt _)).filter _, fun a ha b hb e => ?_⟩
    have h1 := (List.mem_filter.mp ha).1
    have h2 := (List.mem_filter.mp hb).2
    rw [← e, List.contains_iff_mem.mpr h1] at h2
    cases h2
  refine sorted_rows hs30 (.head _) hRm hndm hSm (by have := hru.units; omega) ?_
  intro Dm ys s31 hper hSy hs31
  repeat walk_at "ex"
  rename_i t32 s32 hs32
  refine SlOn.list hs32 (.head _) (by rw [show (vals ys).length = ys.length by simp [vals], hper.length_eq]; omega) .none (.int 1 t32) ?_
  intro Sd s33 hs33
  rw [show slicePick (vals ys).toArray none (some 1) none = ((vals ys).toArray.toList.take 1).toArray from slicePick_upto' (vals ys).toArray 1] at hs33
  rw [show (((vals ys).toArray.toList.take 1).toArray).toList = vals (ys.take 1) by simp [vals]] at hs33
  repeat walk_at "ex"
  refine MkL.in (by assumption) (by simp) ?_
  intro Nw s34 hs34
  have htold : (ts.map (·.2)) = (ys.take 1).map (·.2) := by
    rw [hts, List.map_take]
    refine told_law hgs0 hgs1 hSy.eq_minR fun r => ?_
    rw [(hper.map (·.2)).mem_iff, List.map_append, sldM_rows, sldM_rows, he0, he1, List.mem_append, List.mem_filter, List.mem_filter, Bool.not_eq_true', Bool.not_eq_true', ← Bool.not_eq_true, ← Bool.not_eq_true, List.contains_iff_mem, List.contains_iff_mem]
  have hU := hru.units
  have hin : ∀ D : Around, D.in1.units = D.units + 1 := fun _ => rfl
  show wpAny _ _ (richCompare .NotEq _ _) _ _ _
  refine lists_ne (vs := [.ref Kp, .ref Wh, .ref T, .ref Tl]) (ws := [.ref Le, .ref N3, .ref Al, .ref Sd]) (hs34.isList (by walk_at "mem")) (hs34.isList (.head _)) rfl hru.u (fun j h1 h2 => ?_) _ _ _ _ ?_
  · have hj : j = 0 ∨ j = 1 ∨ j = 2 ∨ j = 3 := by simp at h1; omega
    rcases hj with rfl | rfl | rfl | rfl
    · refine lists_eq (vs := [.ref D0, .ref D1]) (ws := [.ref E0, .ref E1]) (hs34.isList (by walk_at "mem")) (hs34.isList (by walk_at "mem")) rfl (by rw [hin]; omega) (fun j h1 h2 => ?_)
      have hj : j = 0 ∨ j = 1 := by simp at h1; omega
      rcases hj with rfl | rfl
      · exact rows_eq (a := D0) (b := E0) hs34 (hs34.isList (by walk_at "mem")) (hs34.isList (by walk_at "mem")) hRk0 hRz0 (by rw [hr0, he0]) (by rw [hin, hin]; omega)
      · exact rows_eq (a := D1) (b := E1) hs34 (hs34.isList (by walk_at "mem")) (hs34.isList (by walk_at "mem")) hRk1 hRz1 (by rw [hr1, he1]) (by rw [hin, hin]; omega)
    · refine lists_eq (vs := [.ref P0, .ref P1]) (ws := [.ref N1, .ref N2]) (hs34.isList (by walk_at "mem")) (hs34.isList (by walk_at "mem")) rfl (by rw [hin]; omega) (fun j h1 h2 => ?_)
      have hj : j = 0 ∨ j = 1 := by simp at h1; omega
      rcases hj with rfl | rfl
      · exact lists_eq (a := P0) (b := N1) (vs := []) (ws := []) (hs34.isList (items := vals []) (by walk_at "mem")) (hs34.isList (by walk_at "mem")) rfl (by rw [hin, hin]; omega) (fun j h1 _ => absurd h1 (Nat.not_lt_zero _))
      · exact lists_eq (a := P1) (b := N2) (vs := []) (ws := []) (hs34.isList (items := vals []) (by walk_at "mem")) (hs34.isList (by walk_at "mem")) rfl (by rw [hin, hin]; omega) (fun j h1 _ => absurd h1 (Nat.not_lt_zero _))
    · refine tuples_eq (vs := [.ref m, .ref u]) (ws := [.ref a0, .ref a1]) (hs34.isTuple (by walk_at "mem")) (hs34.isTuple (by walk_at "mem")) rfl (by rw [hin]; omega) (fun j h1 h2 => ?_)
      have hj : j = 0 ∨ j = 1 := by simp at h1; omega
      have sub : ∀ {F' : Frz} {xs ys : List X}, Rows F' xs → Rows F' (sldM xs ys) := fun hR x hx => hR x (List.mem_filter.mp hx).1
      rcases hj with rfl | rfl
      · exact rows_eq (a := m) (b := a0) hs34 (hs34.isList (by walk_at "mem")) (hs34.isList (by walk_at "mem")) (sub hRk0) (sub hRz0) (by rw [sldM_rows, sldM_rows, hr0, hr1, he0, he1]) (by rw [hin, hin]; omega)
      · exact rows_eq (a := u) (b := a1) hs34 (hs34.isList (by walk_at "mem")) (hs34.isList (by walk_at "mem")) (sub hRk1) (sub hRz1) (by rw [sldM_rows, sldM_rows, hr0, hr1, he0, he1]) (by rw [hin, hin]; omega)
    · refine rows_eq (a := Tl) (b := Sd) hs34 (hs34.isList (by walk_at "mem")) (hs34.isList (by walk_at "mem")) hTs (fun x hx => ?_) htold (by rw [hin]; omega)
      exact hRm x (hper.mem_iff.mp (List.mem_of_mem_take hx))
  repeat walk_at "ex"
  try dsimp only
  repeat walk_at "ex"
  refine wpAny_Compare1 ?_
  show wpAny _ _ (eval retL (lE C L c18)) _ _ _
  refine fin_recs (L := L) (Rr := Rr) (r0 := r0) (d0 := d0) (U0 := U0) (V0 := V0) (r1 := r1) (d1 := d1) (U1 := U1) (V1 := V1) (us0 := us0) (us1 := us1) W Xc hs34 (hru.less (by omega)) hg0 hg1 (by walk_at "mem") (by walk_at "mem") (by walk_at "mem") (by walk_at "mem") (by walk_at "mem") (by walk_at "mem") (by walk_at "mem") (by walk_at "mem") (by walk_at "mem") ?_
  intro Ka p0 p1 s35 hs35
  show wpAny _ _ (eval retR (lE C L c18)) _ _ _
  refine fin_sides (L := L) (S := S) (G0 := G0) (G1 := G1) (us0 := us0) (us1 := us1) hs35 (hru.less (by omega)) (by walk_at "mem") (by walk_at "mem") (by walk_at "mem") (by walk_at "mem") ?_
  intro Kb q0 q1 s36 hs36
  show wpAny _ _ (richCompare .Eq _ _) _ _ _
  have pair : ∀ (a b : Addr) (x : Bool), s36.heap.IsList a #[.bool x, .bool false] → s36.heap.IsList b #[.bool x, .bool false] → SeqAt.EqAt B.in1 s36 (.ref a) (.ref b) true := by
    intro a b x ha hb
    refine lists_eq (vs := [.bool x, .bool false]) (ws := [.bool x, .bool false]) ha hb rfl (by rw [hin]; omega) (fun j h1 h2 => ?_)
    have hj : j = 0 ∨ j = 1 := by simp at h1; omega
    rcases hj with rfl | rfl
    · have := SeqAt.EqAt.bool_bool (A := B.in1.in1) (s := s36) x x
      rw [beq_self_eq_true] at this
      exact this
    · exact SeqAt.EqAt.bool_bool (A := B.in1.in1) (s := s36) false false
  refine lists_rc (vs := [.ref p0, .ref p1]) (ws := [.ref q0, .ref q1]) (hs36.isList (by walk_at "mem")) (hs36.isList (.head _)) rfl hru.u (fun j h1 h2 => ?_) _ _ _ _ ?_
  · have hj : j = 0 ∨ j = 1 := by simp at h1; omega
    rcases hj with rfl | rfl
    · exact pair p0 q0 _ (hs36.isList (by walk_at "mem")) (hs36.isList (by walk_at "mem"))
    · exact pair p1 q1 _ (hs36.isList (by walk_at "mem")) (hs36.isList (by walk_at "mem"))
  try dsimp only
  exact h _ _ (hs36.pick (l' := l) (by walk_at "pick"))
end

end
section

noncomputable def funcIn (K : Frag) (a : Addr) : Option FuncData := match K.lookup a with | some ⟨_, _, .func fd, _⟩ => some fd | _ => none
/-- what the join asks of the text's defs and of the heap's fragment -/
structure Facts (p : Program) (K : Frag) : Prop where
  d2 : ∃ q, (recsOf p)[1]? = some ⟨fName 2, fParams 2, fBody 2, fScope 2, q⟩
  d3 : ∃ q, (recsOf p)[2]? = some ⟨fName 3, fParams 3, fBody 3, fScope 3, q⟩
  d4 : ∃ q, (recsOf p)[3]? = some ⟨fName 4, fParams 4, fBody 4, fScope 4, q⟩
  d5 : ∃ q, (recsOf p)[4]? = some ⟨fName 5, fParams 5, fBody 5, fScope 5, q⟩
  d6 : ∃ q, (recsOf p)[5]? = some ⟨fName 6, fParams 6, fBody 6, fScope 6, q⟩
  d8 : ∃ q, (recsOf p)[6]? = some ⟨fName 8, fParams 8, fBody 8, fScope 8, q⟩
  d12 : ∃ q, (recsOf p)[7]? = some ⟨fName 12, fParams 12, fBody 12, fScope 12, q⟩
  d13 : ∃ q, (recsOf p)[8]? = some ⟨fName 13, fParams 13, fBody 13, fScope 13, q⟩
  d14 : ∃ q, (recsOf p)[9]? = some ⟨fName 14, fParams 14, fBody 14, fScope 14, q⟩
  d15 : ∃ q, (recsOf p)[10]? = some ⟨fName 15, fParams 15, fBody 15, fScope 15, q⟩
  d16 : ∃ q, (recsOf p)[11]? = some ⟨fName 16, fParams 16, fBody 16, fScope 16, q⟩
  d17 : ∃ q, (recsOf p)[12]? = some ⟨fName 17, fParams 17, fBody 17, fScope 17, q⟩
  d18 : ∃ q, (recsOf p)[13]? = some ⟨fName 18, fParams 18, fBody 18, fScope 18, q⟩
  nLen : nsIn K mainGlobals "len" = some none
  nRange : nsIn K mainGlobals "range" = some none
  nRev : nsIn K mainGlobals "reversed" = some none
  nSorted : nsIn K mainGlobals "sorted" = some none
  nZip : nsIn K mainGlobals "zip" = some none
  nIE : nsIn K mainGlobals "IndexError" = some none
  glob : nsIn K mainGlobals "Entry" = some (some (.ref 101))
  keep : keepIn K (.ref 101) = true
  makes : makesIn K 101 = true
  cls : (clsIn K 101).any (·.hasDict) = true
  over : plainOver K 101 = true
  init : findIn K (.ref 101) "__init__" = some (some (.ref 77))
  initF : typeIn K (.ref 77) = some (.type "function")
  ga : findIn K (.ref 101) "__getattribute__" = some (some (.builtin "object.__getattribute__"))
  gattr : findIn K (.ref 101) "__getattr__" = some none
  sa : findIn K (.ref 101) "__setattr__" = some (some (.builtin "object.__setattr__"))
  fU : findIn K (.ref 101) "useragents" = some none
  tk1 : takerIn K 101 "useragents" = some none
  tk2 : takerIn K 101 "rulelines" = some none
  tk3 : takerIn K 101 "delay" = some none
  tk4 : takerIn K 101 "req_rate" = some none
  fA : findIn K (.ref 101) "applies_to" = some (some (.ref 91))
  fAF : typeIn K (.ref 91) = some (.type "function")
  fAk : keepIn K (.ref 91) = true
  m0 : (funcIn K 77).isSome = true ∧ funcIn K 77 = (funcIn K 77).map fun fd => methDef (mName 0) (mQual 0) (mParams 0) (mBody 0) (mScope 0) fd.pyModule fd.code fd.doc
  m2 : (funcIn K 91).isSome = true ∧ funcIn K 91 = (funcIn K 91).map fun fd => methDef (mName 2) (mQual 2) (mParams 2) (mBody 2) (mScope 2) fd.pyModule fd.code fd.doc
  c0 : (funcIn K 77).all (fun fd => codeIn K fd.code (mQual 0)) = true
  c2 : (funcIn K 91).all (fun fd => codeIn K fd.code (mQual 2)) = true

theorem funcIn_at {K : Frag} {h : Heap} {a : Addr} {fd : FuncData} (X : K.In h) (e : funcIn K a = some fd) : ∃ o, h.get? a = some o ∧ o.data = .func fd := by
  unfold funcIn at e
  split at e
  · rename_i hl
    cases e
    exact ⟨_, X _ _ hl, rfl⟩
  · cases e

noncomputable def fnOf (mg : Str → Option Value) (i : Nat) : Addr := match mg (fName i) with | some (.ref a) => a | _ => 0
theorem FnAt.of {p : Program} {loose : List Str} {mean : ExcName → Option Value} {C : Cx} {i k : Nat} (T : Top p loose mean C.mg C.mb C.hw) (hfn : C.fn = fnOf C.mg) (h : ∃ q, (recsOf p)[k]? = some ⟨fName i, fParams i, fBody i, fScope i, q⟩) : ∃ cd, FnAt C i cd := by
  obtain ⟨q, h⟩ := h
  obtain ⟨a, o, pm, code, doc, h1, h2, h3, h4⟩ := T.fn _ (List.mem_of_getElem? h)
  have h1 : C.mg (fName i) = some (.ref a) := h1
  have e : C.fn i = a := by rw [hfn]; unfold fnOf; rw [h1]
  exact ⟨code, by rw [e]; exact h1, ⟨o, pm, doc, by rw [e]; exact h2, h3⟩, h4⟩

theorem ints_all : ∀ {vs : List Value} {ns : List Int}, IntsAre vs ns → ∀ v ∈ vs, ∃ i t, v = .int i t := by
  intro vs ns h
  induction h with
  | nil => exact fun _ hv => (nomatch hv)
  | cons _ _ _ ih =>
    intro v hv
    rcases List.mem_cons.mp hv with rfl | hv
    · exact ⟨_, _, rfl⟩
    · exact ih v hv
set_option maxRecDepth 10000 in
theorem join {p prog : Program} {loose : List Str} {mean : ExcName → Option Value} {mg mb : Str → Option Value} {w : World} {s₁ : Shared} {K : Frag} {fa lst : Addr} {items : List Value} {ns : List Int} {R : Result → Shared → Prop}
    (T : Top p loose mean mg mb s₁.heap) (KX : K.In s₁.heap) (X : Facts p K) (hmg : mg "law" = some (.ref fa)) (hg : s₁.gens = #[]) (hL : s₁.heap.IsList lst items.toArray) (hI : IntsAre items ns) (hz : ns.length ≤ 63)
    (h : ∀ s', (∀ b o, s₁.heap.get? b = some o → s'.heap.get? b = some o) → s'.os = s₁.os → s'.gens = #[] → R (.ok (.ret (.bool true))) s') :
    codeAny (model prog w) callerA (.call (.ref fa) ⟨[.ref lst], []⟩) R s₁ := by
  let C : Cx := { prog := prog, w := w, hw := s₁.heap, os := s₁.os, mg := mg, mb := mb, K := K, fn := fnOf mg }
  have TC : Top p loose mean C.mg C.mb C.hw := T
  have b0 : ∀ {x : Str} {v : Value}, nsIn K mainGlobals x = some none → bootBuiltins x = some v → x ≠ "__name__" → C.mg x = none ∧ C.mb x = some v := by
    intro x v h1 h2 h3
    exact ⟨mg_none_of KX T.g h1, by show mb x = _; rw [T.builtins x h3]; exact h2⟩
  have W : Wd C := ⟨T.g, T.b, T.nolimit, b0 X.nLen (by decide +kernel) (by decide +kernel), b0 X.nRange (by decide +kernel) (by decide +kernel), b0 X.nRev (by decide +kernel) (by decide +kernel), b0 X.nSorted (by decide +kernel) (by decide +kernel), b0 X.nZip (by decide +kernel) (by decide +kernel)⟩
  have hIE := b0 (v := .type "IndexError") X.nIE (by decide +kernel) (by decide +kernel)
  obtain ⟨fd0, e0⟩ := Option.isSome_iff_exists.mp X.m0.1
  obtain ⟨fd2, e2⟩ := Option.isSome_iff_exists.mp X.m2.1
  have q0 := X.m0.2
  have q2 := X.m2.2
  rw [e0, Option.map_some, Option.some.injEq] at q0
  rw [e2, Option.map_some, Option.some.injEq] at q2
  have r0 := X.c0
  have r2 := X.c2
  rw [e0, Option.all_some] at r0
  rw [e2, Option.all_some] at r2
  obtain ⟨o0, g0, w0⟩ := funcIn_at KX e0
  obtain ⟨o2, g2, w2⟩ := funcIn_at KX e2
  have Xc : Cl C 101 (fun j => if j = 0 then 77 else 91) (fun j => if j = 0 then fd0.code else fd2.code) := by
    refine ⟨KX, mg_of KX T.g X.glob, X.keep, X.makes, ?_, X.over, X.init, X.initF, X.ga, X.gattr, X.sa, X.fU, ?_, X.fA, X.fAF, X.fAk, ?_, ?_⟩
    · have hc := X.cls
      show ∃ x, clsIn K 101 = some x ∧ _
      cases e : clsIn K 101 with
      | none => rw [e] at hc; cases hc
      | some x => rw [e] at hc; exact ⟨x, rfl, hc⟩
    · intro n hn
      simp only [List.mem_cons, List.not_mem_nil, or_false] at hn
      rcases hn with rfl | rfl | rfl | rfl
      · exact X.tk1
      · exact X.tk2
      · exact X.tk3
      · exact X.tk4
    · rintro j (rfl | rfl)
      · exact ⟨o0, fd0.pyModule, fd0.doc, g0, by rw [w0]; exact congrArg _ q0⟩
      · exact ⟨o2, fd2.pyModule, fd2.doc, g2, by rw [w2]; exact congrArg _ q2⟩
    · rintro j (rfl | rfl)
      · exact codeRec_of KX r0
      · exact codeRec_of KX r2
  obtain ⟨c2, f2⟩ := FnAt.of TC rfl X.d2
  obtain ⟨c3, f3⟩ := FnAt.of TC rfl X.d3
  obtain ⟨c4, f4⟩ := FnAt.of TC rfl X.d4
  obtain ⟨c5, f5⟩ := FnAt.of TC rfl X.d5
  obtain ⟨c6, f6⟩ := FnAt.of TC rfl X.d6
  obtain ⟨c8, f8⟩ := FnAt.of TC rfl X.d8
  obtain ⟨c12, f12⟩ := FnAt.of TC rfl X.d12
  obtain ⟨c13, f13⟩ := FnAt.of TC rfl X.d13
  obtain ⟨c14, f14⟩ := FnAt.of TC rfl X.d14
  obtain ⟨c15, f15⟩ := FnAt.of TC rfl X.d15
  obtain ⟨c16, f16⟩ := FnAt.of TC rfl X.d16
  obtain ⟨c17, f17⟩ := FnAt.of TC rfl X.d17
  obtain ⟨c18, f18⟩ := FnAt.of TC rfl X.d18
  have hfa : C.fn 18 = fa := by
    have h1 : mg (fName 18) = some (.ref (C.fn 18)) := f18.glob
    have h2 : mg (fName 18) = some (.ref fa) := hmg
    rw [h1] at h2
    exact Value.ref.inj (Option.some.inj h2)
  rw [← hfa]
  have hs : St C (fun a => s₁.heap.get? a) [] s₁ := ⟨fun _ _ e => e, fun _ _ e => e, fun _ hp => (nomatch hp), List.nodup_nil, fun _ hp => (nomatch hp), rfl, hg⟩
  refine law_spec (outer := []) W hIE Xc f18 f12 f13 f14 f15 f16 f17 f2 f3 f4 f5 f6 f8 hs ⟨rfl, by decide, by decide⟩ rfl (fun _ he => nomatch he) hL ?_ (by rw [hI.length]; omega) fun F' s' hs' => ?_
  · intro v hv
    exact ints_all hI v hv
  · exact h s' hs'.sup hs'.hos hs'.gen

end
section

/-- the defs and the class of the text -/
noncomputable def isDef : Stmt → Bool
  | .FunctionDef .. => true
  | .ClassDef .. => true
  | _ => false
noncomputable def view : Program := { PySem.Challenge.pw_oy0122_01 with main := { PySem.Challenge.pw_oy0122_01.main with body := PySem.Challenge.pw_oy0122_01.main.body.filter isDef } }
/-- what is asked of the heap behind the top: the globals, the class, its table, two methods and their code objects -/
noncomputable def ent (P : Params) (k : Str) (t : Tok) (v : Value) : DictEntry := { hash := PyData.keyHash P k, key := .str k t, val := v }
noncomputable def frag (P : Params) : Frag := [
 (3, { cls := .type "dict", data := .dict #[
  ent P "__name__" 165 (Value.str (Str.ofString "law_oy0122_01") 323),
  ent P "__doc__" 166 (Value.none),
  ent P "__package__" 167 (Value.none),
  ent P "__loader__" 168 (Value.builtin "__main__.__loader__#opaque"),
  ent P "__spec__" 169 (Value.none),
  ent P "__annotations__" 170 (Value.ref 6),
  ent P "__builtins__" 171 (Value.ref 4),
  ent P "__file__" 173 (Value.str (Str.ofString "/claim/cut.py") 172),
  ent P "__cached__" 174 (Value.none),
  ent P "_wall" 193 (Value.ref 21),
  ent P "heappush" 203 (Value.ref 28),
  ent P "heappop" 212 (Value.ref 35),
  ent P "heapify" 221 (Value.ref 42),
  ent P "_siftdown" 233 (Value.ref 49),
  ent P "_siftup" 246 (Value.ref 56),
  ent P "sorted_list_difference" 262 (Value.ref 63),
  ent P "Entry" 322 (Value.ref 101),
  ent P "_law_agent" 330 (Value.ref 110),
  ent P "_law_record" 338 (Value.ref 117),
  ent P "_law_heap" 344 (Value.ref 122),
  ent P "_law_reduced" 355 (Value.ref 129),
  ent P "_law_first" 367 (Value.ref 136),
  ent P "_law_least" 373 (Value.ref 141),
  ent P "law" 379 (Value.ref 146)] 24 }),
 (76, { cls := .type "code", data := .fields #[Value.str (Str.ofString "__init__") 277, Value.str (Str.ofString "Entry.__init__") 278, Value.str (Str.ofString "/claim/cut.py") 279, Value.int 81 0, Value.int 1 0, Value.int 0 0, Value.int 0 0, Value.int 3 0, Value.ref 71, Value.bool true, Value.int 181 0, Value.ref 72, Value.none, Value.ref 73, Value.ref 74, Value.ref 75, Value.int 281 0, Value.int 81 0, Value.str (Str.ofString "/claim/cut.py") 282] }),
 (77, { cls := .type "function", data := .func (methDef (mName 0) (mQual 0) (mParams 0) (mBody 0) (mScope 0) (.str (Str.ofString "cpy313.urllib.robotparser") 263) (.ref 76) .none) }),
 (90, { cls := .type "code", data := .fields #[Value.str (Str.ofString "applies_to") 294, Value.str (Str.ofString "Entry.applies_to") 295, Value.str (Str.ofString "/claim/cut.py") 296, Value.int 104 0, Value.int 2 0, Value.int 0 0, Value.int 0 0, Value.int 3 0, Value.ref 85, Value.bool true, Value.int 181 0, Value.ref 86, Value.none, Value.ref 87, Value.ref 88, Value.ref 89, Value.int 300 0, Value.int 104 0, Value.str (Str.ofString "/claim/cut.py") 301] }),
 (91, { cls := .type "function", data := .func (methDef (mName 2) (mQual 2) (mParams 2) (mBody 2) (mScope 2) (.str (Str.ofString "cpy313.urllib.robotparser") 263) (.ref 90) .none) }),
 (100, { cls := .type "dict", data := .dict #[
  ent P "__module__" 272 (Value.str (Str.ofString "cpy313.urllib.robotparser") 263),
  ent P "__firstlineno__" 276 (Value.int 79 275),
  ent P "__init__" 283 (Value.ref 77),
  ent P "__str__" 293 (Value.ref 84),
  ent P "applies_to" 302 (Value.ref 91),
  ent P "allowance" 310 (Value.ref 98),
  ent P "__static_attributes__" 315 (Value.ref 99),
  ent P "__dict__" 317 (Value.ref 102),
  ent P "__weakref__" 319 (Value.ref 103),
  ent P "__doc__" 320 (Value.none)] 4 }),
 (101, { cls := .type "type", data := .cls { name := Str.ofString "Entry", bases := [.type "object"], mro := [.ref 101, .type "object"], ns := 100, qualname := Str.ofString "Entry" }, slots := #[none, none, some (.str (Str.ofString "Entry") 265), some (.str (Str.ofString "Entry") 273), some (.builtin "object.__new__"), some (.bool true)] })]
noncomputable def hook : Hook := kHook frag [3, 76, 77, 90, 91, 100, 101] (fun _ => by rfl)
/-- the look at the law, and the run of its top: each one check, by the library's quicker twins (of OpenLaw.wellSaid; of topRun, openSeen, importEnds, treeTable) -/
theorem said : PySem.Challenge.rw_oy0122_01.wellSaid = true := by
  first
    | rw [PySem.W.Fast.te9446332074065402090]
    | skip
  kernel_rfl
theorem left : LeftO PySem.Challenge.rw_oy0122_01.row.prog view [] (fun s => xlAt view [] s && recOk [] s) hook.obs hook.val 1698 := by
  intro w
  unfold openEnds topFrom fencedOpening
  first
    | rw [PySem.W.Fast.te14082659384304107361, PySem.W.Fast.te4187177175401517315, PySem.W.Fast.te10274390034422433532, PySem.W.Fast.te14364793385576792824]
    | skip
  kernel_rfl

end
end Mine
open PySem PySem.W PyProof.Rows
set_option maxRecDepth 100000 in
set_option maxHeartbeats 8000000 in
theorem PySem.Challenge.cw_oy0122_01_holds : PySem.Challenge.rw_oy0122_01.Holds := by
  w_on
  refine holds_law Mine.said fun said => ?_
  refine holds_open (q := Mine.view) (loose := []) (Xt := fun s => xlAt Mine.view [] s && recOk [] s) (XP := XL Mine.view []) (Yf := Mine.hook.obs) (Ya := Mine.hook.val) (YP := Mine.hook.says) (N := 1698) Mine.left Mine.hook.of Mine.hook.keeps (fun s e => xl_of s (Bool.and_eq_true_iff.mp e).1) XL.keeps (by rfl) (by rfl) (by rfl) (fun s e => recFacts_of (Bool.and_eq_true_iff.mp e).2) (by rfl) (by first | assumption | decide +kernel) (by decide +kernel) ⟨rfl, rfl, rfl, rfl, rfl, by decide +kernel⟩ ?hw ?hc
  case hw => w_witness2
  intro w s₀ s₁ mg mb G Y fa o pm cd doc dV kV ho hd hcd hD hmg hg args vals as hpre hlay hrd hwl hlo
  have KX := kIn_of Y
  refine Ground.open G ?_
  intro T B D TE TW
  wrow_args hpre hlay hrd hwl hlo
  rename_i lst items as' hL ra w1 r0 hI hr hcond ht
  refine enter_call ?_
  refine codeAny_mono ?_ (fun _ _ g => GoodW.toG g)
  clear hd hcd hD ho
  refine Mine.join T KX ?_ hmg hg hL hI (by omega) (fun s' h1 h2 h3 => ?_)
  · constructor
    iterate 13 exact ⟨_, by rfl⟩
    all_goals first | kernel_rfl | exact ⟨by kernel_rfl, by kernel_rfl⟩
  · refine ⟨.inl ⟨.bool true, .bool true, [], rfl, fun _ => rfl, .bool true, ?_, fun _ => ⟨.nil, fun _ h => (nomatch h)⟩⟩, h1, h2, h3⟩
    first
      | kernel_rfl
      | (wrow_post; done)

