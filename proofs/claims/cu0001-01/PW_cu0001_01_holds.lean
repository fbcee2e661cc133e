import PyProof.Rows.All
import Wide.All
import OpenK.AllK
import Wide.FinOn
import Lean
import PySem.Challenge.RW_cu0001_01
open PySem PySem.W PySem.Calls PyProof.Rows PySem.Spec
set_option Elab.async false
set_option maxHeartbeats 8000000
set_option maxRecDepth 100000
set_option linter.unusedVariables false
set_option linter.unusedSimpArgs false
namespace Mine
set_option maxHeartbeats 8000000 in
open_top hd for PySem.Challenge.rw_cu0001_01

abbrev Pg : Program := PySem.Challenge.rw_cu0001_01.row.prog
@[reducible] noncomputable def KK (w : World) : Frag := hd.heap_39 w.params
abbrev NoE : Value → Shared → Prop := fun _ _ => False
abbrev S (r : Shared) (h : Heap) (t : Nat) : Shared := ⟨h, r.gens, r.drawn, t, r.os⟩

def All2 {α β : Type} (R : α → β → Prop) : List α → List β → Prop
  | [], [] => True
  | a :: l, b :: m => R a b ∧ All2 R l m
  | _, _ => False
theorem All2.mono {α β : Type} {R R' : α → β → Prop} (k : ∀ a b, R a b → R' a b) : ∀ {l m}, All2 R l m → All2 R' l m
  | [], [], _ => trivial
  | _ :: _, _ :: _, h => ⟨k _ _ h.1, h.2.mono k⟩
  | [], _ :: _, h => h.elim
  | _ :: _, [], h => h.elim
theorem All2.snoc {α β : Type} {R : α → β → Prop} {a b} : ∀ {l m}, All2 R l m → R a b → All2 R (l ++ [a]) (m ++ [b])
  | [], [], _, h => ⟨h, trivial⟩
  | _ :: _, _ :: _, h, k => ⟨h.1, h.2.snoc k⟩
  | [], _ :: _, h, _ => h.elim
  | _ :: _, [], h, _ => h.elim
theorem All2.len {α β : Type} {R : α → β → Prop} : ∀ {l m}, All2 R l m → l.length = m.length
  | [], [], _ => rfl
  | _ :: _, _ :: _, h => by simp [h.2.len]
  | [], _ :: _, h => h.elim
  | _ :: _, [], h => h.elim
/-- one taken out -/
inductive Ex {α : Type} (a : α) : List α → List α → Prop
  | here {r} : Ex a (a :: r) r
  | there {p r r'} : Ex a r r' → Ex a (p :: r) (p :: r')
theorem Ex.perm {α : Type} {a : α} {r r' : List α} (e : Ex a r r') : (a :: r').Perm r := by
  induction e with
  | here => exact .refl _
  | there _ ih => exact (List.Perm.swap _ _ _).trans (ih.cons _)
/-- some of them, in any order -/
def Sub {α : Type} (l r : List α) : Prop := ∃ z, (l ++ z).Perm r
theorem Sub.rfl {α : Type} {l : List α} : Sub l l := ⟨[], by rw [List.append_nil]⟩
theorem Sub.ex {α : Type} {a : α} {l r r' : List α} (e : Ex a r r') (s : Sub l r') : Sub (a :: l) r := let ⟨z, p⟩ := s; ⟨z, (p.cons a).trans e.perm⟩
theorem Sub.drop {α : Type} {p : α} {l r : List α} (s : Sub l r) : Sub l (p :: r) := let ⟨z, q⟩ := s; ⟨p :: z, List.perm_middle.trans (q.cons p)⟩
theorem Sub.app {α : Type} {A l r : List α} (s : Sub l r) : Sub (A ++ l) (A ++ r) := let ⟨z, q⟩ := s; ⟨z, by rw [List.append_assoc]; exact q.append_left A⟩
theorem Sub.dropA {α : Type} {A l r : List α} (s : Sub l r) : Sub l (A ++ r) := by
  induction A with
  | nil => exact s
  | cons p A ih => exact ih.drop
theorem Sub.append {α : Type} {a b c d : List α} (s : Sub a b) (s' : Sub c d) : Sub (a ++ c) (b ++ d) := by
  obtain ⟨z, p⟩ := s
  obtain ⟨y, q⟩ := s'
  refine ⟨z ++ y, List.Perm.trans ?_ (p.append q)⟩
  rw [List.append_assoc, List.append_assoc]
  refine List.Perm.append_left a ?_
  rw [← List.append_assoc, ← List.append_assoc]
  exact List.perm_append_comm.append_right y
theorem Sub.trans {α : Type} {a b c : List α} (s : Sub a b) (s' : Sub b c) : Sub a c := let ⟨z, p⟩ := s; let ⟨y, q⟩ := s'; ⟨z ++ y, by rw [← List.append_assoc]; exact (p.append_right y).trans q⟩
theorem Sub.of_perm {α : Type} {a b : List α} (p : a.Perm b) : Sub a b := ⟨[], by rw [List.append_nil]; exact p⟩
theorem Sub.mem {α : Type} {a b : List α} (s : Sub a b) {x : α} (h : x ∈ a) : x ∈ b := let ⟨_, p⟩ := s; p.subset (List.mem_append_left _ h)
/-- room around a call -/
structure Rm (A : Around) (n : Nat) : Prop where
  hd : A.handled = none
  dp : A.depth + n < 1000
  un : A.units + 10 * n < 9900

theorem Rm.le {A : Around} {n k : Nat} (R : Rm A n) (h : k ≤ n := by omega) : Rm A k :=
  ⟨R.hd, by have := R.dp; omega, by have := R.un; omega⟩
theorem Rm.in1 {A : Around} {n : Nat} (R : Rm A (n + 1)) : Rm A.in1 n :=
  ⟨R.hd, by have := R.dp; show A.depth + n < 1000; omega, by have := R.un; show A.units + 1 + 10 * n < 9900; omega⟩
theorem Rm.deeper {A : Around} {n : Nat} {env : Env} (R : Rm A (n + 1)) : Rm (A.deeper env) n :=
  ⟨R.hd, by have := R.dp; show A.depth + 1 + n < 1000; omega, by have := R.un; show A.units + 3 + 10 * n < 9900; omega⟩
theorem Rm.mark {A : Around} {n : Nat} (R : Rm A n) : Rm (A.mark none) n := ⟨R.hd, R.dp, R.un⟩
theorem Rm.room {A : Around} {n : Nat} (R : Rm A n) : A.depth < recursionLimit := by have := R.dp; show A.depth < 1000; omega
theorem Rm.units {A : Around} {n : Nat} (R : Rm A n) : A.units < cLine := by have := R.un; show A.units < 9900; omega

/-- what a mutable place holds -/
inductive Cel where
  | ob (o : Obj)
  | ns (m : Str → Option Value)
  | dct (m : Str → Option Value) (n : Nat)
  | cell (v : Option Value)
  | lst (xs : Array Value)
  | lit (l : Addr) (i : Nat)
  | tit (l : Addr) (i : Nat)
  | tup (xs : Array Value)
/-- a namespace of at most n names -/
def NsAt (h : Heap) (a : Addr) (m : Str → Option Value) (n : Nat) : Prop :=
  ∃ o es ep, h.get? a = some o ∧ o.data = .dict es ep ∧ StrKeys es ∧ (∀ name, nsFind es name = m name) ∧ es.size ≤ n
def Cel.At (h : Heap) (a : Addr) : Cel → Prop
  | .ob o => h.get? a = some o
  | .ns m => h.Ns a m
  | .dct m n => NsAt h a m n
  | .cell v => h.IsCell a v
  | .lst xs => h.IsList a xs
  | .lit l i => h.IsListIter a l i
  | .tit l i => h.IsTupleIter a l i
  | .tup xs => h.IsTuple a xs

theorem Cel.At.mono {h h' : Heap} {a : Addr} {c : Cel} (k : ∀ o, h.get? a = some o → h'.get? a = some o) (x : c.At h a) : c.At h' a := by
  cases c with
  | ob o => exact k _ x
  | ns m => obtain ⟨o, es, ep, e, r⟩ := x; exact ⟨o, es, ep, k _ e, r⟩
  | dct m n => obtain ⟨o, es, ep, e, r⟩ := x; exact ⟨o, es, ep, k _ e, r⟩
  | cell v => obtain ⟨o, e, r⟩ := x; exact ⟨o, k _ e, r⟩
  | lst xs => obtain ⟨o, e, r⟩ := x; exact ⟨o, k _ e, r⟩
  | lit xs => obtain ⟨o, e, r⟩ := x; exact ⟨o, k _ e, r⟩
  | tit xs => obtain ⟨o, e, r⟩ := x; exact ⟨o, k _ e, r⟩
  | tup xs => obtain ⟨o, e, r⟩ := x; exact ⟨o, k _ e, r⟩
theorem Cel.At.some {h : Heap} {a : Addr} {c : Cel} (x : c.At h a) : ∃ o, h.get? a = some o := by
  cases c with
  | ob o => exact ⟨_, x⟩
  | ns m => obtain ⟨o, es, ep, e, r⟩ := x; exact ⟨o, e⟩
  | dct m n => obtain ⟨o, es, ep, e, r⟩ := x; exact ⟨o, e⟩
  | cell v => obtain ⟨o, e, r⟩ := x; exact ⟨o, e⟩
  | lst xs => obtain ⟨o, e, r⟩ := x; exact ⟨o, e⟩
  | lit xs => obtain ⟨o, e, r⟩ := x; exact ⟨o, e⟩
  | tit xs => obtain ⟨o, e, r⟩ := x; exact ⟨o, e⟩
  | tup xs => obtain ⟨o, e, r⟩ := x; exact ⟨o, e⟩
theorem Cel.At.lt {h : Heap} {a : Addr} {c : Cel} (x : c.At h a) : a < h.objs.size := let ⟨_, e⟩ := x.some; Heap.lt_size e

/-- what never changes: the text's own objects, the built-ins -/
structure Gl (w : World) (h : Heap) : Prop where
  K : (KK w).In h
  lim : h.NoLimit
  bl : ∃ mb, h.Ns builtinsNs mb ∧ ∀ x : Str, x ≠ "__name__" → mb x = bootBuiltins x
theorem Gl.keeps {w : World} {h h' : Heap} (G : Gl w h) (k : h.StaysIn h') : Gl w h' :=
  ⟨G.K.keeps k, G.lim.keeps k, let ⟨mb, a, b⟩ := G.bl; ⟨mb, a.keeps k, b⟩⟩

/-- the frozen parts gs, the places cs -/
structure Kn (g0 : Heap) (gs : List Heap) (cs : List (Addr × Cel)) (h : Heap) : Prop where
  base : g0.StaysIn h
  boff : ∀ p ∈ cs, g0.get? p.1 = none
  keep : ∀ g ∈ gs, g.StaysIn h
  off : ∀ p ∈ cs, ∀ g ∈ gs, g.get? p.1 = none
  at_ : ∀ p ∈ cs, p.2.At h p.1
  nd : (cs.map (·.1)).Nodup

theorem none_of_stays {g h : Heap} (k : g.StaysIn h) : g.get? h.objs.size = none := by
  cases e : g.get? h.objs.size with
  | none => rfl
  | some o => exact absurd (Heap.lt_size (k _ _ e)) (Nat.lt_irrefl _)

section
variable {g0 h h' : Heap} {gs : List Heap} {cs cs' : List (Addr × Cel)} {a : Addr} {c c' : Cel}

theorem Kn.start (k : g0.StaysIn h) : Kn g0 [h] [] h :=
  ⟨k, fun _ e => (nomatch e), fun g e => by cases List.mem_singleton.mp e; exact fun _ _ e => e, fun _ e => (nomatch e), fun _ e => (nomatch e), List.nodup_nil⟩

theorem Kn.stays (H : Kn g0 gs cs h) (k : h.StaysIn h') : Kn g0 gs cs h' :=
  ⟨fun b o e => k b o (H.base b o e), H.boff, fun g hg b o e => k b o (H.keep g hg b o e), H.off, fun p hp => (H.at_ p hp).mono (k p.1), H.nd⟩

theorem Kn.new (H : Kn g0 gs cs h) (k : h.StaysIn h') (x : c.At h' a) (ha : h.get? a = none) : Kn g0 gs ((a, c) :: cs) h' := by
  have H' := H.stays k
  refine ⟨H'.base, fun p hp => ?_, H'.keep, fun p hp g hg => ?_, fun p hp => ?_, ?_⟩
  · rcases List.mem_cons.mp hp with rfl | hp
    · cases e : g0.get? a with
      | none => rfl
      | some o => rw [H.base _ _ e] at ha; cases ha
    · exact H.boff p hp
  · rcases List.mem_cons.mp hp with rfl | hp
    · cases e : g.get? a with
      | none => rfl
      | some o => rw [H.keep g hg _ _ e] at ha; cases ha
    · exact H.off p hp g hg
  · rcases List.mem_cons.mp hp with rfl | hp
    · exact x
    · exact H'.at_ p hp
  · refine List.nodup_cons.mpr ⟨fun hm => ?_, H.nd⟩
    obtain ⟨p, hp, e⟩ := List.mem_map.mp hm
    obtain ⟨o, ho⟩ := (H.at_ p hp).some
    have e : p.1 = a := e
    rw [e, ha] at ho; cases ho

theorem Kn.push (H : Kn g0 gs cs h) {o : Obj} (x : c.At (h.push o) h.objs.size) : Kn g0 gs ((h.objs.size, c) :: cs) (h.push o) :=
  H.new (fun b o' e => Heap.get?_push_of_some _ e) x (none_of_stays fun _ _ e => e)

/-- the place a changes -/
inductive Up (a : Addr) (c c' : Cel) : List (Addr × Cel) → List (Addr × Cel) → Prop
  | here {r} : Up a c c' ((a, c) :: r) ((a, c') :: r)
  | there {p r r'} : Up a c c' r r' → Up a c c' (p :: r) (p :: r')
theorem Up.app {ps l l' : List (Addr × Cel)} (u : Up a c c' l l') : Up a c c' (ps ++ l) (ps ++ l') := by
  induction ps with
  | nil => exact u
  | cons p ps ih => exact .there ih
theorem Up.mem {l l' : List (Addr × Cel)} (u : Up a c c' l l') : (a, c) ∈ l := by
  induction u with
  | here => exact .head _
  | there _ ih => exact .tail _ ih
theorem Up.mem2 {l l' : List (Addr × Cel)} (u : Up a c c' l l') : (a, c') ∈ l' := by
  induction u with
  | here => exact .head _
  | there _ ih => exact .tail _ ih
theorem Up.keys {l l' : List (Addr × Cel)} (u : Up a c c' l l') : l'.map (·.1) = l.map (·.1) := by
  induction u with
  | here => rfl
  | there _ ih => simp only [List.map_cons, ih]
theorem Up.mem' {l l' : List (Addr × Cel)} (u : Up a c c' l l') (nd : (l.map (·.1)).Nodup) : ∀ p ∈ l', p = (a, c') ∨ (p ∈ l ∧ p.1 ≠ a) := by
  induction u with
  | here =>
    intro p hp
    rcases List.mem_cons.mp hp with rfl | hp
    · exact .inl rfl
    · refine .inr ⟨.tail _ hp, fun e => ?_⟩
      exact (List.nodup_cons.mp nd).1 (List.mem_map.mpr ⟨p, hp, e⟩)
  | there u ih =>
    intro p hp
    rcases List.mem_cons.mp hp with rfl | hp
    · refine .inr ⟨.head _, fun e => ?_⟩
      exact (List.nodup_cons.mp nd).1 (List.mem_map.mpr ⟨_, u.mem, e.symm⟩)
    · rcases ih (List.nodup_cons.mp nd).2 p hp with e | ⟨q, r⟩
      · exact .inl e
      · exact .inr ⟨.tail _ q, r⟩

theorem Kn.up (H : Kn g0 gs cs h) (u : Up a c c' cs cs') (k : ∀ b o, b ≠ a → h.get? b = some o → h'.get? b = some o) (x : c'.At h' a) : Kn g0 gs cs' h' := by
  have m := u.mem
  refine ⟨fun b o e => k b o (fun q => ?_) (H.base b o e), fun p hp => ?_, fun g hg b o e => k b o (fun q => ?_) (H.keep g hg b o e), fun p hp g hg => ?_, fun p hp => ?_, by rw [u.keys]; exact H.nd⟩
  · have := H.boff _ m; rw [q] at e; rw [this] at e; cases e
  · have : p.1 ∈ cs.map (·.1) := by rw [← u.keys]; exact List.mem_map_of_mem hp
    obtain ⟨q, hq, e⟩ := List.mem_map.mp this
    rw [← e]; exact H.boff q hq
  · have := H.off _ m g hg; rw [q] at e; rw [this] at e; cases e
  · have : p.1 ∈ cs.map (·.1) := by rw [← u.keys]; exact List.mem_map_of_mem hp
    obtain ⟨q, hq, e⟩ := List.mem_map.mp this
    rw [← e]; exact H.off q hq g hg
  · rcases u.mem' H.nd p hp with rfl | ⟨q, r⟩
    · exact x
    · exact (H.at_ p q).mono fun o e => k p.1 o r e

theorem Kn.upS (H : Kn g0 gs cs h) (u : Up a c c' cs cs') (k : Heap.SameBut a h h') (x : c'.At h' a) : Kn g0 gs cs' h' :=
  H.up u (fun b o n e => (k.2 b n).trans e) x

theorem Kn.sub (H : Kn g0 gs cs h) (k : List.Sublist cs' cs) : Kn g0 gs cs' h :=
  ⟨H.base, fun p hp => H.boff p (k.subset hp), H.keep, fun p hp => H.off p (k.subset hp), fun p hp => H.at_ p (k.subset hp), (k.map _).nodup H.nd⟩
theorem Kn.drop {p : Addr × Cel} (H : Kn g0 gs (p :: cs) h) : Kn g0 gs cs h := H.sub (List.sublist_cons_self _ _)
theorem Kn.lst {xs : Array Value} (H : Kn g0 gs cs h) (m : (a, .lst xs) ∈ cs) : h.IsList a xs := H.at_ _ m
theorem Kn.ob {o : Obj} (H : Kn g0 gs cs h) (m : (a, .ob o) ∈ cs) : h.get? a = some o := H.at_ _ m
theorem Kn.ns {f : Str → Option Value} (H : Kn g0 gs cs h) (m : (a, .ns f) ∈ cs) : h.Ns a f := H.at_ _ m
theorem Kn.cell {v : Option Value} (H : Kn g0 gs cs h) (m : (a, .cell v) ∈ cs) : h.IsCell a v := H.at_ _ m
theorem Kn.lit {l : Addr} {i : Nat} (H : Kn g0 gs cs h) (m : (a, .lit l i) ∈ cs) : h.IsListIter a l i := H.at_ _ m
theorem Kn.tit {l : Addr} {i : Nat} (H : Kn g0 gs cs h) (m : (a, .tit l i) ∈ cs) : h.IsTupleIter a l i := H.at_ _ m
theorem Kn.tup {xs : Array Value} (H : Kn g0 gs cs h) (m : (a, .tup xs) ∈ cs) : h.IsTuple a xs := H.at_ _ m
theorem Kn.flst {g : Heap} {xs : Array Value} (H : Kn g0 gs cs h) (hg : g ∈ gs) (x : g.IsList a xs) : h.IsList a xs := x.at fun o e => H.keep g hg a o e
theorem Kn.here (H : Kn g0 gs ((a, c) :: cs) h) : c.At h a := H.at_ _ (.head _)
end

theorem Gl.of {w : World} {g0 h : Heap} {gs cs} (G : Gl w g0) (H : Kn g0 gs cs h) : Gl w h := G.keeps H.base

/-- all but the places -/
theorem hide_off (l : List Addr) (h : Heap) {a : Addr} (m : a ∈ l) : (hideAll h l).get? a = none := hideAll_none l m
/-- one frozen part for all: whatever the places at the head hold, and every frozen part -/
theorem Kn.freeze {g0 h : Heap} {gs : List Heap} {c1 c2 : List (Addr × Cel)} (H : Kn g0 gs (c1 ++ c2) h) :
    ∃ g, (∀ p ∈ c1, p.2.At g p.1) ∧ (∀ x ∈ gs, x.StaysIn g) ∧ g0.StaysIn g ∧ Kn g0 (g :: gs) c2 h := by
  have nd := H.nd
  rw [List.map_append] at nd
  have key : ∀ b o, h.get? b = some o → b ∉ c2.map (·.1) → (hideAll h (c2.map (·.1))).get? b = some o := fun b o e n => hideAll_get _ e n
  have H2 := H.sub (List.sublist_append_right c1 c2)
  refine ⟨hideAll h (c2.map (·.1)), fun p hp => (H.at_ p (List.mem_append_left _ hp)).mono fun o e => key _ _ e fun m => ?_, fun x hx b o e => key b o (H.keep x hx b o e) fun m => ?_, fun b o e => key b o (H.base b o e) fun m => ?_, ?_⟩
  · exact (List.nodup_append.mp nd).2.2 p.1 (List.mem_map_of_mem (f := fun q : Addr × Cel => q.1) hp) p.1 m rfl
  · obtain ⟨q, hq, rfl⟩ := List.mem_map.mp m
    have := H2.off q hq x hx
    rw [this] at e; cases e
  · obtain ⟨q, hq, rfl⟩ := List.mem_map.mp m
    have := H2.boff q hq
    rw [this] at e; cases e
  · refine ⟨H2.base, H2.boff, fun x hx => ?_, fun p hp x hx => ?_, H2.at_, H2.nd⟩
    · rcases List.mem_cons.mp hx with rfl | hx
      · exact fun b o e => of_hideAll _ e
      · exact H2.keep x hx
    · rcases List.mem_cons.mp hx with rfl | hx
      · exact hide_off _ _ (List.mem_map_of_mem (f := fun q : Addr × Cel => q.1) hp)
      · exact H2.off p hp x hx
theorem Kn.gsub {g0 h : Heap} {gs gs' : List Heap} {cs : List (Addr × Cel)} (H : Kn g0 gs cs h) (k : ∀ x ∈ gs', x ∈ gs) : Kn g0 gs' cs h :=
  ⟨H.base, H.boff, fun x hx => H.keep x (k x hx), fun p hp x hx => H.off p hp x (k x hx), H.at_, H.nd⟩

theorem Kn.withBase {g0 h gs cs} (H : Kn g0 gs cs h) : Kn g0 (g0 :: gs) cs h :=
  ⟨H.base, H.boff, fun g hg => by rcases List.mem_cons.mp hg with rfl | hg; exact H.base; exact H.keep g hg,
   fun p hp g hg => by rcases List.mem_cons.mp hg with rfl | hg; exact H.boff p hp; exact H.off p hp g hg, H.at_, H.nd⟩

/-- a part of a heap -/
def part (h : Heap) (P : Addr → Bool) : Heap := ⟨h.objs.mapIdx fun i o => if P i then o else { cls := .none, data := .freed }, h.life⟩
theorem part_get (h : Heap) (P : Addr → Bool) (a : Addr) : (part h P).get? a = if P a then h.get? a else none := by
  unfold part Heap.get?
  simp only [Array.getElem?_mapIdx]
  cases e : h.objs[a]? with
  | none => simp
  | some o => by_cases q : P a = true <;> simp [q]
theorem part_stays (h : Heap) (P : Addr → Bool) : (part h P).StaysIn h := fun b o e => by
  rw [part_get] at e; split at e
  · exact e
  · cases e
theorem part_some {h : Heap} {P : Addr → Bool} {a : Addr} {o : Obj} (q : P a = true) (e : h.get? a = some o) : (part h P).get? a = some o := by rw [part_get, if_pos q]; exact e

/-- g holds nothing that h had -/
def Fresh (h g : Heap) : Prop := ∀ a, g.get? a ≠ none → h.get? a = none

theorem Kn.more {g0 g h h' : Heap} {gs : List Heap} {cs : List (Addr × Cel)} (H : Kn g0 gs cs h) (k : h.StaysIn h') (kg : g.StaysIn h') (f : Fresh h g) : Kn g0 (g :: gs) cs h' := by
  have H' := H.stays k
  refine ⟨H'.base, H'.boff, fun x hx => ?_, fun p hp x hx => ?_, H'.at_, H'.nd⟩
  · rcases List.mem_cons.mp hx with rfl | hx
    · exact kg
    · exact H'.keep x hx
  · rcases List.mem_cons.mp hx with rfl | hx
    · cases e : x.get? p.1 with
      | none => rfl
      | some o =>
        obtain ⟨o', e'⟩ := (H.at_ p hp).some
        rw [f p.1 (by rw [e]; exact fun q => nomatch q)] at e'; cases e'
    · exact H'.off p hp x hx

abbrev names (l : List (Str × NameKind)) := l

/-- an activation's surroundings -/
structure EnvIs (env : Env) (L : Addr) (nm : List (Str × NameKind)) (cl : List (Str × Addr)) : Prop where
  kind : env.scope.kind = .function
  nms : env.scope.names = nm
  loc : env.locals = L
  glob : env.globals = mainGlobals
  blt : env.builtins = builtinsNs
  cells : env.cells = cl
theorem EnvIs.kindOf {env L nm cl x k} (e : EnvIs env L nm cl) (h : nm.lookup x = some k) : env.kindOf x = some k := by
  unfold Env.kindOf; rw [e.nms]; exact h

/-- the rest of a block -/
def seqQ (w : World) (A : Around) (rest : List Stmt) (env : Env) (Q : Flow → Shared → Prop) (E : Value → Shared → Prop) : Flow → Shared → Prop
  | .next, s' => wpAny (model Pg w) A (execs rest env) Q E s'
  | f, s' => Q f s'
def retQ (Q : Value → Shared → Prop) : Flow → Shared → Prop := fun f s' => Q (match f with | .ret v => v | _ => .none) s'

section
variable {w : World} {g0 h : Heap} {gs : List Heap} {cs : List (Addr × Cel)} {r : Shared} {t n : Nat} {A : Around} {E : Value → Shared → Prop} {env : Env} {L : Addr} {nm : List (Str × NameKind)} {cl : List (Str × Addr)}

theorem enter {Q : Value → Shared → Prop} {f : Addr} {oc : Value} {od : Option Addr} {osl : Array (Option Value)} {fd : FuncData} {args : List Value} {kw : List (Str × Value)} {binds : List (Str × Value)} {body : List Stmt}
    (G : Gl w g0) (H : Kn g0 gs cs h) (R : Rm A (n + 1))
    (ho : (KK w).lookup f = some ⟨oc, od, .func fd, osl⟩) (hb : fd.body = .stmts body) (hcd : codeIn (KK w) fd.code fd.qualname = true)
    (hbind : ∀ s : Shared, s.heap = h → BindsTo s fd ⟨args, kw⟩ binds)
    (hcell : (fd.scope.names.all fun x => x.2 != .cell) = true) (hloc : (binds.all fun x => decide (fd.scope.names.lookup x.1 = some .local)) = true)
    (hco : fd.scope.isCoroutine = false) (hgen : fd.scope.isGenerator = false) (hk : fd.scope.kind = .function) (hg : fd.globals = mainGlobals) (hbl : fd.builtins = builtinsNs) (hcl : fd.closure = [])
    (k : ∀ L h₁ t₁ env A', EnvIs env L fd.scope.names [] → Rm A' n → Kn g0 gs ((L, .ns (fun x => binds.reverse.lookup x)) :: cs) h₁ → h.StaysIn h₁ → h.get? L = none →
      wpAny (model Pg w) A' (execs body env) (retQ Q) NoE (S r h₁ t₁)) :
    wpAny (model Pg w) A (call (.ref f) args kw) Q NoE (S r h t) := by
  have GH := G.of H
  refine wpAny_call (codeAny_call_def (fd := fd) (body := body) (binds := binds) R.room (GH.K _ _ ho) rfl GH.lim (codeRec_of GH.K hcd) hb (hbind _ rfl)
    (fun x hx => by have := List.all_eq_true.mp hcell x hx; simpa using this) (locs hloc) (fun h₁ hns hk₁ => ?_) hco hgen hk)
  have hn : h.get? h.objs.size = none := none_of_stays fun _ _ e => e
  refine wpAny_mono (k h.objs.size h₁ _ (callEnv fd h.objs.size f) _ ⟨hk, rfl, rfl, hg, hbl, hcl⟩ R.deeper (H.new hk₁ (c := .ns _) hns hn) hk₁ hn) (fun fl s' q => ?_) (fun _ _ q => q.elim)
  cases fl <;> exact q

/-! names -/
theorem n_loc {Q : Value → Shared → Prop} {x : Str} {pos : Pos} {m : Str → Option Value} {v : Value} (e : EnvIs env L nm cl) (H : Kn g0 gs cs h) (hm : (L, .ns m) ∈ cs)
    (hl : nm.lookup x = some .local) (hv : m x = some v) (k : Q v (S r h t)) (hd : (x == ("__debug__" : Str)) = false := by decide) :
    wpAny (model Pg w) A (eval (.Name x pos) env) Q E (S r h t) :=
  wpAny_Name (wpAny_loadName_local e.kind (e.kindOf hl) (by rw [e.loc]; exact H.at_ _ hm) hv k) hd

theorem n_cell {Q : Value → Shared → Prop} {x : Str} {pos : Pos} {c : Addr} {v : Value} (e : EnvIs env L nm cl) (H : Kn g0 gs cs h)
    (hl : nm.lookup x = some .cell) (hc : cl.lookup x = some c) (hm : (c, .cell (some v)) ∈ cs) (k : Q v (S r h t)) (hd : (x == ("__debug__" : Str)) = false := by decide) :
    wpAny (model Pg w) A (eval (.Name x pos) env) Q E (S r h t) :=
  wpAny_Name (wpAny_loadName_cell e.kind (e.kindOf hl) (by rw [e.cells]; exact hc) (H.at_ _ hm) k) hd
theorem n_free {Q : Value → Shared → Prop} {x : Str} {pos : Pos} {c : Addr} {v : Value} (e : EnvIs env L nm cl) (H : Kn g0 gs cs h)
    (hl : nm.lookup x = some .free) (hc : cl.lookup x = some c) (hm : (c, .cell (some v)) ∈ cs) (k : Q v (S r h t)) (hd : (x == ("__debug__" : Str)) = false := by decide)
    (hq : (x == ("__classdict__" : Str)) = false := by decide) :
    wpAny (model Pg w) A (eval (.Name x pos) env) Q E (S r h t) :=
  wpAny_Name (wpAny_loadName_free e.kind (e.kindOf hl) (by rw [e.cells]; exact hc) (H.at_ _ hm) k hq) hd

theorem n_glob {Q : Value → Shared → Prop} {x : Str} {pos : Pos} {v : Value} (G : Gl w g0) (e : EnvIs env L nm cl) (H : Kn g0 gs cs h)
    (hl : nm.lookup x = some .globalImplicit) (hv : nsIn (KK w) mainGlobals x = some (some v)) (k : Q v (S r h t)) (hd : (x == ("__debug__" : Str)) = false := by decide) :
    wpAny (model Pg w) A (eval (.Name x pos) env) Q E (S r h t) := by
  refine wpAny_Name ?_ hd
  unfold loadName
  simp only [Env.blockKind, e.kind, e.kindOf hl, ScopeKind.isAnnotationScope, Bool.false_and, Bool.false_eq_true, if_false]
  unfold loadGlobal
  rw [e.glob]
  exact wpAny_bind ((looks_nsIn (G.of H).K hv).here (wpAny_pure k))

theorem n_blt {Q : Value → Shared → Prop} {x : Str} {pos : Pos} {v : Value} (G : Gl w g0) (e : EnvIs env L nm cl) (H : Kn g0 gs cs h)
    (hl : nm.lookup x = some .globalImplicit) (hv : nsIn (KK w) mainGlobals x = some none) (hb : bootBuiltins x = some v) (k : Q v (S r h t)) (hn : x ≠ "__name__" := by decide)
    (hd : (x == ("__debug__" : Str)) = false := by decide) :
    wpAny (model Pg w) A (eval (.Name x pos) env) Q E (S r h t) := by
  refine wpAny_Name ?_ hd
  unfold loadName
  simp only [Env.blockKind, e.kind, e.kindOf hl, ScopeKind.isAnnotationScope, Bool.false_and, Bool.false_eq_true, if_false]
  unfold loadGlobal
  rw [e.glob, e.blt]
  obtain ⟨mb, h1, h2⟩ := (G.of H).bl
  refine wpAny_bind ((looks_nsIn (G.of H).K hv).here (wpAny_bind (wpAny_nsGet h1 ?_)))
  rw [h2 x hn, hb]
  exact wpAny_pure k

theorem st_loc {Q : Unit → Shared → Prop} {x : Str} {m : Str → Option Value} {v : Value} (e : EnvIs env L nm cl) (H : Kn g0 gs ((L, .ns m) :: cs) h)
    (hl : nm.lookup x = some .local)
    (k : ∀ h' t', Kn g0 gs ((L, .ns (fun y => if y = x then some v else m y)) :: cs) h' → Q () (S r h' t')) :
    wpAny (model Pg w) A (storeName env x v) Q E (S r h t) :=
  wpAny_storeName_local (e.kindOf hl) (by rw [e.loc]; exact H.here) (fun h' hn hs => k h' _ (H.upS .here (by rw [e.loc] at hs; exact hs) (by rw [e.loc] at hn; exact hn)))
    (by rw [e.kind]; rfl)

theorem st_cell {Q : Unit → Shared → Prop} {x : Str} {c : Addr} {v₀ : Option Value} {v : Value} {cs' : List (Addr × Cel)} (e : EnvIs env L nm cl) (H : Kn g0 gs cs h)
    (hl : nm.lookup x = some .cell) (hc : cl.lookup x = some c) (hm : Up c (.cell v₀) (.cell (some v)) cs cs')
    (k : ∀ h', Kn g0 gs cs' h' → Q () (S r h' t)) :
    wpAny (model Pg w) A (storeName env x v) Q E (S r h t) :=
  wpAny_storeName_cell e.kind (e.kindOf hl) (by rw [e.cells]; exact hc) (H.at_ _ hm.mem) (fun h' x' hs => k h' (H.upS hm hs x'))

/-! expressions -/
theorem c_int {Q : Value → Shared → Prop} {i : Int} {j : Nat} {pos : Pos} (k : ∀ tk t', Q (.int i tk) (S r h t')) : wpAny (model Pg w) A (eval (.Constant (.int i) j pos) env) Q E (S r h t) :=
  wpAny_Constant_int (k _ _)
theorem c_str {Q : Value → Shared → Prop} {x : Str} {j : Nat} {pos : Pos} (k : ∀ tk t', Q (.str x tk) (S r h t')) : wpAny (model Pg w) A (eval (.Constant (.str x) j pos) env) Q E (S r h t) :=
  wpAny_Constant_str (k _ _)
theorem c_none {Q : Value → Shared → Prop} {j : Nat} {pos : Pos} (k : Q .none (S r h t)) : wpAny (model Pg w) A (eval (.Constant .none j pos) env) Q E (S r h t) :=
  wpAny_Constant_none k

/-- a call by a global name -/
theorem callN {Q : Value → Shared → Prop} {x : Str} {np pos : Pos} {e : Expr} {rest : List Expr} {f : Value} (G : Gl w g0) (ev : EnvIs env L nm cl) (H : Kn g0 gs cs h)
    (hl : nm.lookup x = some .globalImplicit) (hv : nsIn (KK w) mainGlobals x = some (some f)) (hk : keepIn (KK w) f = true)
    (k : wpAny (model Pg w) A (spliced (backTo pos (starEach (e :: rest) env))) (fun vs s₂ => g0.StaysIn s₂.heap ∧ wpAny (model Pg w) A (call f vs) Q E s₂) E (S r h t))
    (he : starEach (e :: rest) env = (false, eval e env) :: starEach rest env := by exact rfl) (hplain : (backTo pos (starEach rest env)).any (·.1) = false := by exact rfl)
    (hd : (x == ("__debug__" : Str)) = false := by decide) :
    wpAny (model Pg w) A (eval (.Call (.Name x np) (e :: rest) [] pos) env) Q E (S r h t) := by
  refine wpAny_Call_NameR (n_glob G ev H hl hv ?_ hd)
  rw [he] at k ⊢
  exact callWith_of (P := (KK w).In) (by show ((false || (backTo pos (starEach rest env)).any (·.1)) || false) = false; rw [hplain]; rfl) (keeps_K hk)
    (evalArgs_plain (wpAny_mono k (fun vs s q => ⟨G.K.keeps q.1, q.2⟩) fun _ _ q => q))

/-! statements -/
theorem x_nil {Q : Flow → Shared → Prop} {s : Shared} (k : Q .next s) : wpAny (model Pg w) A (execs [] env) Q E s := wpAny_execs_nil k
theorem x_seq {Q : Flow → Shared → Prop} {st : Stmt} {rest : List Stmt} {s : Shared} (k : wpAny (model Pg w) A (exec st env) (seqQ w A rest env Q E) E s) :
    wpAny (model Pg w) A (execs (st :: rest) env) Q E s :=
  wpAny_execs_cons (wpAny_mono k (fun f s' q => by cases f <;> exact q) fun _ _ q => q)
theorem seq_next {Q : Flow → Shared → Prop} {rest : List Stmt} {s : Shared} (k : wpAny (model Pg w) A (execs rest env) Q E s) : seqQ w A rest env Q E .next s := k
theorem seq_ret {Q : Flow → Shared → Prop} {rest : List Stmt} {s : Shared} {v : Value} (k : Q (.ret v) s) : seqQ w A rest env Q E (.ret v) s := k
theorem seq_brk {Q : Flow → Shared → Prop} {rest : List Stmt} {s : Shared} (k : Q .brk s) : seqQ w A rest env Q E .brk s := k
theorem ret_ret {Q : Value → Shared → Prop} {s : Shared} {v : Value} (k : Q v s) : retQ Q (.ret v) s := k
theorem ret_next {Q : Value → Shared → Prop} {s : Shared} (k : Q .none s) : retQ Q .next s := k
theorem x_if {Q : Flow → Shared → Prop} {test : Expr} {body orelse : List Stmt} {pos : Pos} {s : Shared}
    (k : wpAny (model Pg w) A (isTrue test env (eval test env)) (fun b s₂ => (b = true → wpAny (model Pg w) A (execs body env) Q E s₂) ∧ (b = false → wpAny (model Pg w) A (execs orelse env) Q E s₂)) E s) :
    wpAny (model Pg w) A (exec (.If test body orelse pos) env) Q E s :=
  wpAny_If (wpAny_mono k (fun b s₂ q => by cases b; exact q.2 rfl; exact q.1 rfl) fun _ _ q => q)
theorem e_ifexp {Q : Value → Shared → Prop} {test body orelse : Expr} {pos : Pos} {s : Shared}
    (k : wpAny (model Pg w) A (isTrue test env (eval test env)) (fun b s₂ => (b = true → wpAny (model Pg w) A (eval body env) Q E s₂) ∧ (b = false → wpAny (model Pg w) A (eval orelse env) Q E s₂)) E s) :
    wpAny (model Pg w) A (eval (.IfExp test body orelse pos) env) Q E s :=
  wpAny_IfExp (wpAny_mono k (fun b s₂ q => by cases b; exact q.2 rfl; exact q.1 rfl) fun _ _ q => q)
theorem tr_bool {Q : Bool → Shared → Prop} {b : Bool} {s : Shared} (k : Q b s) : wpAny (model Pg w) A (truthy (.bool b)) Q E s := wpAny_truthy_bool k

/-! ints -/
theorem i_add {Q : Value → Shared → Prop} {a b : Int} {ta tb : Tok} (k : ∀ tk t', Q (.int (a + b) tk) (S r h t')) : wpAny (model Pg w) A (binaryOp .Add (.int a ta) (.int b tb)) Q E (S r h t) := add_int (k _ _)
theorem i_sub {Q : Value → Shared → Prop} {a b : Int} {ta tb : Tok} (k : ∀ tk t', Q (.int (a - b) tk) (S r h t')) : wpAny (model Pg w) A (binaryOp .Sub (.int a ta) (.int b tb)) Q E (S r h t) := sub_int (k _ _)
theorem i_mod {Q : Value → Shared → Prop} {a b : Int} {ta tb : Tok} (hb : b ≠ 0) (k : ∀ tk t', Q (.int (a.fmod b) tk) (S r h t')) : wpAny (model Pg w) A (binaryOp .Mod (.int a ta) (.int b tb)) Q E (S r h t) := mod_int' hb (k _ _)
theorem i_iadd {Q : Value → Shared → Prop} {a b : Int} {ta tb : Tok} (k : ∀ tk t', Q (.int (a + b) tk) (S r h t')) : wpAny (model Pg w) A (inplaceOp .Add (.int a ta) (.int b tb)) Q E (S r h t) := iadd_int (k _ _)
theorem i_gt {Q : Value → Shared → Prop} {a b : Int} {ta tb : Tok} {s : Shared} (k : Q (.bool (decide (a > b))) s) : wpAny (model Pg w) A (compareOp .Gt (.int a ta) (.int b tb)) Q E s := gt_int k
theorem i_eq {Q : Value → Shared → Prop} {a b : Int} {ta tb : Tok} {s : Shared} (k : Q (.bool (a == b)) s) : wpAny (model Pg w) A (compareOp .Eq (.int a ta) (.int b tb)) Q E s := eq_int k

/-! lists -/
theorem l_item {Q : Value → Shared → Prop} {l : Addr} {xs : Array Value} {i : Int} {ti : Tok} {v : Value} {s : Shared} (hl : s.heap.IsList l xs) (h0 : 0 ≤ i) (hi : i < 2 ^ 63) (hx : xs.toList[i.toNat]? = some v)
    (k : Q v s) : wpAny (model Pg w) A (getItem (.ref l) (.int i ti)) Q E s :=
  wpAny_getItem_list hl h0 hi (by rw [← hx, Array.getElem?_toList]) k
theorem l_get {Q : Value → Shared → Prop} {l : Addr} {xs : Array Value} {i : Int} {ti : Tok} {v : Value} {value slice : Expr} {s : Shared} (hl : s.heap.IsList l xs) (h0 : 0 ≤ i) (hi : i < 2 ^ 63) (hx : xs.toList[i.toNat]? = some v)
    (k : Q v s)
    (hs : subscripted slice false (.ref l) (.int i ti) = operate [.ref l, .int i ti] (getItem (.ref l) (.int i ti)) := by with_unfolding_all rfl) :
    wpAny (model Pg w) A (subscriptTail value slice (.ref l) (.int i ti)) Q E s :=
  tail_any hl.typeIs slot_list_getitem.lookup (l_item hl h0 hi hx k) hs
theorem l_set {Q : Unit → Shared → Prop} {l : Addr} {xs xs' : Array Value} {i : Int} {ti : Tok} {v : Value} {cs' : List (Addr × Cel)} (H : Kn g0 gs cs h) (h0 : 0 ≤ i) (hi : i < 2 ^ 63) (u : Up l (.lst xs) (.lst xs') cs cs') (hn : i < xs.size)
    (hx : xs.setIfInBounds i.toNat v = xs')
    (k : ∀ h', Kn g0 gs cs' h' → Q () (S r h' t)) :
    wpAny (model Pg w) A (setItem (.ref l) (.int i ti) v) Q E (S r h t) := by
  subst hx
  exact wpAny_setItem_list (H.at_ _ u.mem) h0 hi hn fun h' x hs => k h' (H.upS u hs x)
theorem l_len {Q : Value → Shared → Prop} {l : Addr} {xs : Array Value} (hl : h.IsList l xs) (hi : (xs.size : Int) < 2 ^ 63) (k : ∀ tk t', Q (.int xs.size tk) (S r h t')) :
    wpAny (model Pg w) A (call (.builtin "len") [.ref l]) Q E (S r h t) := call_len_list hl hi (k _ _)
/-- a call of a built-in by its name -/
theorem callB {Q : Value → Shared → Prop} {x : Str} {np pos : Pos} {e : Expr} {rest : List Expr} {id : String} (G : Gl w g0) (ev : EnvIs env L nm cl) (H : Kn g0 gs cs h)
    (hl : nm.lookup x = some .globalImplicit) (hv : nsIn (KK w) mainGlobals x = some none) (hb : bootBuiltins x = some (.builtin id))
    (k : wpAny (model Pg w) A (spliced (backTo pos (starEach (e :: rest) env))) (fun vs s₂ => wpAny (model Pg w) A (call (.builtin id) vs) Q E s₂) E (S r h t))
    (he : starEach (e :: rest) env = (false, eval e env) :: starEach rest env := by exact rfl) (hplain : (backTo pos (starEach rest env)).any (·.1) = false := by exact rfl)
    (hn : x ≠ "__name__" := by decide) (hd : (x == ("__debug__" : Str)) = false := by decide) :
    wpAny (model Pg w) A (eval (.Call (.Name x np) (e :: rest) [] pos) env) Q E (S r h t) := by
  refine wpAny_Call_NameR (n_blt G ev H hl hv hb ?_ hn hd)
  rw [he] at k ⊢
  exact callWith_of (P := fun _ => True) (by show ((false || (backTo pos (starEach rest env)).any (·.1)) || false) = false; rw [hplain]; rfl) (fun _ _ => ⟨.machine, .inr (.inl rfl), Looks.of_pure rfl⟩)
    (evalArgs_plain (wpAny_mono k (fun vs s q => ⟨trivial, q⟩) fun _ _ q => q))
end

section
variable {w : World} {A : Around} {R : Result → Shared → Prop} {s : Shared} {env : Env}

/-- one turn of a comprehension's innermost clause, no tests -/
theorem comp_turn {elt target iter : Expr} {gens : List Comprehension} {scope : Scope} {pos : Pos} {d : Nat} {it acc : Value}
    (hg : gens[d]? = some ⟨target, iter, [], 0⟩) (hn : gens[d + 1]? = none)
    (h : wpAny (model Pg w) A (pyNext it) (fun r s₁ => match r with
      | none => R (.ok .next) s₁
      | some v => wpAny (model Pg w) A (letOwnedTupleGo target it v) (fun _ s₂ => wpAny (model Pg w) A (assign target env v) (fun _ s₃ => wpAny (model Pg w) A (eval elt env) (fun y s₄ =>
          wpAny (model Pg w) A (call (.builtin "list.append") [acc, y]) (fun _ s₅ => codeAny (model Pg w) A (.compLoop (.ListComp elt gens scope pos) d it acc env) R s₅) NoE s₄) NoE s₃) NoE s₂) NoE s₁) NoE s) :
    codeAny (model Pg w) A (.compLoop (.ListComp elt gens scope pos) d it acc env) R s := by
  refine codeAny_of_tree ?_
  show wpAny _ A ((compTurn (.ListComp elt gens scope pos) d it acc env).onRaise (fun x => do noteFrame x env; theTreesLotGoes x)) _ _ s
  refine wpAny_onRaise (wpAny_mono (Q := fun fin s' => match fin with | .done f => R (.ok f) s' | .again c' => c'.quiet = true ∧ codeAny (model Pg w) A c' R s') (E := NoE) ?_ (fun _ _ q => q) fun _ _ q => q.elim)
  unfold compTurn
  simp only [hg, hn]
  refine wpAny_bind (wpAny_standAt (wpAny_bind (wpAny_mono h (fun r s₁ h₁ => ?_) fun _ _ q => q)))
  cases r with
  | none => exact wpAny_pure h₁
  | some v =>
    refine wpAny_bind (wpAny_mono h₁ (fun _ s₂ h₂ => wpAny_bind (wpAny_mono h₂ (fun _ s₃ h₃ => ?_) fun _ _ q => q)) fun _ _ q => q)
    refine wpAny_bind ?_
    refine wpAny_pure ?_
    simp only [if_true]
    exact wpAny_bind (wpAny_bind (wpAny_mono h₃ (fun y s₄ h₄ => wpAny_bind (wpAny_mono h₄ (fun _ s₅ h₅ => wpAny_pure (wpAny_pure ⟨rfl, h₅⟩)) fun _ _ q => q)) fun _ _ q => q))

/-- one turn, one test -/
theorem comp_turn_if {elt target iter c : Expr} {gens : List Comprehension} {scope : Scope} {pos : Pos} {d : Nat} {it acc : Value}
    (hg : gens[d]? = some ⟨target, iter, [c], 0⟩) (hn : gens[d + 1]? = none)
    (h : wpAny (model Pg w) A (pyNext it) (fun r s₁ => match r with
      | none => R (.ok .next) s₁
      | some v => wpAny (model Pg w) A (letOwnedTupleGo target it v) (fun _ s₂ => wpAny (model Pg w) A (assign target env v) (fun _ s₃ => wpAny (model Pg w) A (isTrue c env (eval c env)) (fun b s₃' =>
          (b = true → wpAny (model Pg w) A (eval elt env) (fun y s₄ =>
            wpAny (model Pg w) A (call (.builtin "list.append") [acc, y]) (fun _ s₅ => codeAny (model Pg w) A (.compLoop (.ListComp elt gens scope pos) d it acc env) R s₅) NoE s₄) NoE s₃') ∧
          (b = false → codeAny (model Pg w) A (.compLoop (.ListComp elt gens scope pos) d it acc env) R s₃')) NoE s₃) NoE s₂) NoE s₁) NoE s) :
    codeAny (model Pg w) A (.compLoop (.ListComp elt gens scope pos) d it acc env) R s := by
  refine codeAny_of_tree ?_
  show wpAny _ A ((compTurn (.ListComp elt gens scope pos) d it acc env).onRaise (fun x => do noteFrame x env; theTreesLotGoes x)) _ _ s
  refine wpAny_onRaise (wpAny_mono (Q := fun fin s' => match fin with | .done f => R (.ok f) s' | .again c' => c'.quiet = true ∧ codeAny (model Pg w) A c' R s') (E := NoE) ?_ (fun _ _ q => q) fun _ _ q => q.elim)
  unfold compTurn
  simp only [hg, hn]
  refine wpAny_bind (wpAny_standAt (wpAny_bind (wpAny_mono h (fun r s₁ h₁ => ?_) fun _ _ q => q)))
  cases r with
  | none => exact wpAny_pure h₁
  | some v =>
    refine wpAny_bind (wpAny_mono h₁ (fun _ s₂ h₂ => wpAny_bind (wpAny_mono h₂ (fun _ s₃ h₃ => ?_) fun _ _ q => q)) fun _ _ q => q)
    simp only [List.forIn_cons, List.forIn_nil, if_true]
    refine wpAny_bind (wpAny_bind (wpAny_bind (wpAny_mono h₃ (fun b s₃' h₃' => wpAny_pure (wpAny_pure ?_)) fun _ _ q => q)))
    cases b with
    | false => exact wpAny_pure ⟨rfl, h₃'.2 rfl⟩
    | true =>
      simp only [if_true]
      exact wpAny_bind (wpAny_bind (wpAny_mono (h₃'.1 rfl) (fun y s₄ h₄ => wpAny_bind (wpAny_mono h₄ (fun _ s₅ h₅ => wpAny_pure (wpAny_pure ⟨rfl, h₅⟩)) fun _ _ q => q)) fun _ _ q => q))

/-- one turn of an outer clause, no tests -/
theorem comp_turn_out {elt target iter target' iter' : Expr} {ifs' : List Expr} {gens : List Comprehension} {scope : Scope} {pos : Pos} {d : Nat} {it acc : Value}
    (hg : gens[d]? = some ⟨target, iter, [], 0⟩) (hn : gens[d + 1]? = some ⟨target', iter', ifs', 0⟩) (hs : ∀ x, foldedSetIterable iter' env x = pure x)
    (h : wpAny (model Pg w) A (pyNext it) (fun r s₁ => match r with
      | none => R (.ok .next) s₁
      | some v => wpAny (model Pg w) A (letOwnedTupleGo target it v) (fun _ s₂ => wpAny (model Pg w) A (assign target env v) (fun _ s₃ => wpAny (model Pg w) A (eval iter' env) (fun x s₄ =>
          wpAny (model Pg w) A (pyIter x) (fun it' s₅ => codeAny (model Pg w) (A.mark none) (.compStart (.ListComp elt gens scope pos) (d + 1) it' acc env) (fun res s₆ => (∃ f, res = .ok f) ∧
            codeAny (model Pg w) A (.compLoop (.ListComp elt gens scope pos) d it acc env) R s₆) s₅) NoE s₄) NoE s₃) NoE s₂) NoE s₁) NoE s) :
    codeAny (model Pg w) A (.compLoop (.ListComp elt gens scope pos) d it acc env) R s := by
  refine codeAny_of_tree ?_
  show wpAny _ A ((compTurn (.ListComp elt gens scope pos) d it acc env).onRaise (fun x => do noteFrame x env; theTreesLotGoes x)) _ _ s
  refine wpAny_onRaise (wpAny_mono (Q := fun fin s' => match fin with | .done f => R (.ok f) s' | .again c' => c'.quiet = true ∧ codeAny (model Pg w) A c' R s') (E := NoE) ?_ (fun _ _ q => q) fun _ _ q => q.elim)
  unfold compTurn
  simp only [hg, hn]
  refine wpAny_bind (wpAny_standAt (wpAny_bind (wpAny_mono h (fun r s₁ h₁ => ?_) fun _ _ q => q)))
  cases r with
  | none => exact wpAny_pure h₁
  | some v =>
    refine wpAny_bind (wpAny_mono h₁ (fun _ s₂ h₂ => wpAny_bind (wpAny_mono h₂ (fun _ s₃ h₃ => ?_) fun _ _ q => q)) fun _ _ q => q)
    refine wpAny_bind ?_
    refine wpAny_pure ?_
    simp only [if_true]
    refine wpAny_bind (wpAny_mono h₃ (fun x s₄ h₄ => wpAny_bind (wpAny_standAt ?_)) fun _ _ q => q)
    simp only [bne_self_eq_false, Bool.false_eq_true, if_false]
    refine wpAny_bind (wpAny_of_eq (hs x) (wpAny_bind (wpAny_holding (wpAny_mono h₄ (fun it' s₅ h₅ => ?_) fun _ _ q => q))))
    refine wpAny_bind (wpAny_runOwn (codeAny_mono h₅ fun res s₆ h₆ => ?_))
    obtain ⟨⟨f, rfl⟩, h₆⟩ := h₆
    exact wpAny_pure ⟨rfl, h₆⟩

/-- one turn of a for -/
theorem for_turn {target : Expr} {it : Value} {body orelse : List Stmt}
    (h : wpAny (model Pg w) A (pyNext it) (fun r s₁ => match r with
      | none => wpAny (model Pg w) A (execs orelse env) (fun f s₃ => R (.ok f) s₃) NoE s₁
      | some v => wpAny (model Pg w) A (letOwnedTupleGo target it v) (fun _ s₁' =>
          wpAny (model Pg w) A (assign target env v) (fun _ s₂ => wpAny (model Pg w) A (execs body env) (fun f s₃ => match f with
            | .next | .cont => codeAny (model Pg w) A (.forLoop target it body orelse env) R s₃
            | .brk => R (.ok .next) s₃
            | .ret v => R (.ok (.ret v)) s₃) NoE s₂) NoE s₁') NoE s₁) NoE s) :
    codeAny (model Pg w) A (.forLoop target it body orelse env) R s := by
  refine codeAny_of_tree ?_
  show wpAny _ A ((forTurn target it body orelse env).onRaise (fun x => do noteFrame x env; theTreesLotGoes x)) _ _ s
  refine wpAny_onRaise (wpAny_mono (Q := fun fin s' => match fin with | .done f => R (.ok f) s' | .again c' => c'.quiet = true ∧ codeAny (model Pg w) A c' R s') (E := NoE) ?_ (fun _ _ q => q) fun _ _ q => q.elim)
  simp only [forTurn]
  refine wpAny_bind (wpAny_standAt (wpAny_bind (wpAny_onRaise (wpAny_mono h (fun r s₁ h₁ => ?_) fun _ _ q => q.elim))))
  cases r with
  | none => exact wpAny_pure (And.intro rfl (codeAny_block (wpAny_mono h₁ (fun _ _ q => q) fun _ _ q => q.elim)))
  | some v =>
    refine wpAny_bind (wpAny_mono h₁ (fun _ s₁' h₁' => ?_) fun _ _ q => q)
    refine wpAny_bind (wpAny_mono h₁' (fun _ s₂ h₂ => wpAny_bind (wpAny_mono h₂ (fun f s₃ h₃ => ?_) fun _ _ q => q)) fun _ _ q => q)
    cases f with
    | next => exact wpAny_pure ⟨rfl, h₃⟩
    | cont => exact wpAny_pure ⟨rfl, h₃⟩
    | brk => exact wpAny_pure h₃
    | ret v => exact wpAny_pure h₃

/-- one turn of a while -/
theorem while_turn {test : Expr} {body orelse : List Stmt}
    (h : wpAny (model Pg w) A (isTrue test env (eval test env)) (fun b s₁ =>
      (b = true → wpAny (model Pg w) A (execs body env) (fun f s₃ => match f with
            | .next | .cont => codeAny (model Pg w) A (.whileLoop test body orelse env) R s₃
            | .brk => R (.ok .next) s₃
            | .ret v => R (.ok (.ret v)) s₃) NoE s₁) ∧
      (b = false → wpAny (model Pg w) A (execs orelse env) (fun f s₃ => R (.ok f) s₃) NoE s₁)) NoE s) :
    codeAny (model Pg w) A (.whileLoop test body orelse env) R s := by
  refine codeAny_of_tree ?_
  show wpAny _ A ((whileTurn test body orelse env).onRaise (fun x => do noteFrame x env; theTreesLotGoes x)) _ _ s
  refine wpAny_onRaise (wpAny_mono (Q := fun fin s' => match fin with | .done f => R (.ok f) s' | .again c' => c'.quiet = true ∧ codeAny (model Pg w) A c' R s') (E := NoE) ?_ (fun _ _ q => q) fun _ _ q => q.elim)
  simp only [whileTurn]
  refine wpAny_bind (wpAny_mono h (fun b s₁ h₁ => ?_) fun _ _ q => q)
  cases b with
  | false => exact wpAny_bind (wpAny_mono (h₁.2 rfl) (fun f s₃ h₃ => wpAny_pure h₃) fun _ _ q => q)
  | true =>
    refine wpAny_bind (wpAny_mono (h₁.1 rfl) (fun f s₃ h₃ => ?_) fun _ _ q => q)
    cases f with
    | next => exact wpAny_pure ⟨rfl, h₃⟩
    | cont => exact wpAny_pure ⟨rfl, h₃⟩
    | brk => exact wpAny_pure h₃
    | ret v => exact wpAny_pure h₃

/-- the start of a comprehension's clause -/
theorem comp_start {elt : Expr} {gens : List Comprehension} {scope : Scope} {pos : Pos} {d : Nat} {it acc : Value} {g : Comprehension}
    (hg : gens[d]? = some g) (ha : g.is_async = 0)
    (hi : ∀ (A' : Around) Q E, Q it s → wpAny (model Pg w) A' (pyIter it) Q E s)
    (h : codeAny (model Pg w) A (.compLoop (.ListComp elt gens scope pos) d it acc env) R s) :
    codeAny (model Pg w) A (.compStart (.ListComp elt gens scope pos) d it acc env) R s := by
  refine codeAny_of_tree ?_
  show wpAny _ A ((compStart (.ListComp elt gens scope pos) d it acc env).onRaise (fun x => do noteFrame x env; standAt theWindowsPlace)) _ _ s
  refine wpAny_onRaise (wpAny_mono (Q := fun fin s' => match fin with | .done f => R (.ok f) s' | .again c' => c'.quiet = true ∧ codeAny (model Pg w) A c' R s') (E := NoE) ?_ (fun _ _ q => q) fun _ _ q => q.elim)
  unfold compStart
  have e : ((clausesOf (.ListComp elt gens scope pos))[d]?).elim false (·.is_async != 0) = false := by
    show (gens[d]?).elim false (·.is_async != 0) = false
    rw [hg]; simp [ha]
  simp only [e, Bool.false_eq_true, if_false]
  refine wpAny_bind (wpAny_askSetting ?_)
  split
  · first
      | exact wpAny_bind (wpAny_pure (wpAny_pure ⟨rfl, h⟩))
      | exact wpAny_pure ⟨rfl, h⟩
  · refine wpAny_bind (wpAny_rule ?_)
    have e2 : (clausesOf (.ListComp elt gens scope pos))[d]? = some g := hg
    simp only [e2]
    refine wpAny_bind (wpAny_standAt ?_)
    exact wpAny_bind (hi _ _ _ (wpAny_pure ⟨rfl, h⟩))
end

/-- the names of a scope's cells -/
def cellNames : List (Str × NameKind) → List Str
  | [] => []
  | (n, k) :: r => if k == .cell then n :: cellNames r else cellNames r
/-- the cells that a scope takes from around it -/
def closL (cl : List (Str × Addr)) : List (Str × NameKind) → List (Str × Addr) → Option (List (Str × Addr))
  | [], acc => some acc
  | (n, k) :: r, acc => if k == .free then (match cl.lookup n with | some a => closL cl r ((n, a) :: acc) | none => none) else closL cl r acc
def relab (nm : List (Str × NameKind)) (l : List (Str × NameKind)) : List (Str × NameKind) :=
  l.map fun (n, k) => if k == .free && nm.lookup n == some .cell then (n, .cell) else (n, k)

section
variable {w : World} {g0 h : Heap} {gs : List Heap} {cs : List (Addr × Cel)} {r : Shared} {t n : Nat} {A : Around} {E : Value → Shared → Prop} {env : Env} {L : Addr} {nm : List (Str × NameKind)} {cl : List (Str × Addr)}

theorem closure_of (ev : EnvIs env L nm cl) {scope : Scope} {x : List (Str × Addr)} (e : closL cl scope.names [] = some x) : closureFor scope env = pure x := by
  have gen : ∀ (l : List (Str × NameKind)) (acc : List (Str × Addr)) (x : List (Str × Addr)), closL cl l acc = some x →
      (forIn l acc fun (p : Str × NameKind) (cs : List (Str × Addr)) => (if (p.2 == .free) = true then (do let a ← cellOf env p.1; pure (ForInStep.yield ((p.1, a) :: cs))) else pure (ForInStep.yield cs) : Sem _)) = pure x := by
    intro l
    induction l with
    | nil => intro acc x e; cases e; rfl
    | cons p l ih =>
      intro acc x e
      obtain ⟨n, k⟩ := p
      rw [List.forIn_cons]
      unfold closL at e
      by_cases q : (k == NameKind.free) = true
      · rw [if_pos q] at e
        split at e
        · rename_i a ha
          have hc : cellOf env n = pure a := by unfold cellOf; rw [ev.cells, ha]
          dsimp only
          rw [if_pos q, hc]
          exact ih _ _ e
        · cases e
      · rw [if_neg q] at e
        dsimp only
        rw [if_neg q]
        exact ih _ _ e
  unfold closureFor
  have := gen scope.names [] x e
  exact Eq.trans (congrArg (· >>= fun cs => pure cs) this) rfl

theorem relab_is (ev : EnvIs env L nm cl) (scope : Scope) : (relabel scope env).names = relab nm scope.names := by
  show (scope.names.map _) = _
  unfold relab
  refine List.map_congr_left fun p _ => ?_
  have : env.kindOf p.1 = nm.lookup p.1 := by unfold Env.kindOf; rw [ev.nms]
  simp only [ev.kind, this]
  simp

theorem cells_push : ∀ (names : List (Str × NameKind)) (h : Heap) (cs : List (Addr × Cel)) (acc : List (Str × Addr)), Kn g0 gs cs h →
    ∃ as : List Addr, as.length = (cellNames names).length ∧ cellsFrom h.objs.size names acc = ((cellNames names).zip as).reverse ++ acc ∧
      Kn g0 gs (as.map (fun a => (a, Cel.cell none)) ++ cs) (pushCells h names) ∧ h.StaysIn (pushCells h names)
  | [], h, cs, acc, H => ⟨[], rfl, rfl, H, fun _ _ e => e⟩
  | (nm, k) :: r, h, cs, acc, H => by
    unfold cellNames cellsFrom pushCells
    by_cases q : (k == NameKind.cell) = true
    · rw [if_pos q, if_pos q, if_pos q]
      have H1 : Kn g0 gs ((h.objs.size, Cel.cell none) :: cs) (h.push { cls := .type "cell", data := .cell none }) := H.push ⟨_, Heap.get?_push_size _ rfl, rfl⟩
      obtain ⟨as, h1, h2, h3, h4⟩ := cells_push r _ _ ((nm, h.objs.size) :: acc) H1
      rw [Heap.size_push] at h2
      refine ⟨h.objs.size :: as, by simp [h1], ?_, ?_, fun b o e => h4 b o (Heap.get?_push_of_some _ e)⟩
      · rw [h2]; simp
      · refine ⟨h3.base, fun p hp => h3.boff p ?_, h3.keep, fun p hp => h3.off p ?_, fun p hp => h3.at_ p ?_, ?_⟩
        · simp only [List.map_cons, List.cons_append, List.mem_cons, List.mem_append] at hp ⊢; rcases hp with hp | hp | hp <;> simp [hp]
        · simp only [List.map_cons, List.cons_append, List.mem_cons, List.mem_append] at hp ⊢; rcases hp with hp | hp | hp <;> simp [hp]
        · simp only [List.map_cons, List.cons_append, List.mem_cons, List.mem_append] at hp ⊢; rcases hp with hp | hp | hp <;> simp [hp]
        · have nd := h3.nd
          simp only [List.map_append, List.map_cons, List.map_map, List.cons_append] at nd ⊢
          exact (List.perm_middle.nodup_iff).mp nd
    · rw [if_neg q, if_neg q, if_neg q]
      exact cells_push r h cs acc H

/-- a new surroundings, its parameters not yet laid -/
theorem env_new {Q : Env → Shared → Prop} {scope : Scope} {globals : Addr} {closure : List (Str × Addr)} {qual : Str} {func : Option Addr} {code : Value} {around : Option Env} {builtins : Addr} {binds : List (Str × Value)}
    (H : Kn g0 gs cs h)
    (k : ∀ C as h', as.length = (cellNames scope.names).length → Kn g0 gs (as.map (fun a => (a, Cel.cell none)) ++ (C, .ns fun _ => none) :: cs) h' → h.StaysIn h' → h.get? C = none →
      wpAny (model Pg w) A (forIn binds PUnit.unit fun x _ => do storeName (newEnv scope C globals (((cellNames scope.names).zip as).reverse ++ closure) qual func code around builtins) x.1 x.2; pure (.yield PUnit.unit)) (fun _ s' => Q (newEnv scope C globals (((cellNames scope.names).zip as).reverse ++ closure) qual func code around builtins) s') E (S r h' t)) :
    wpAny (model Pg w) A (newFunctionEnv scope globals closure binds qual func code around builtins) Q E (S r h t) := by
  unfold newFunctionEnv
  refine wpAny_bind (wpAny_alloc ?_)
  have hn : h.get? h.objs.size = none := none_of_stays fun _ _ e => e
  have H1 : Kn g0 gs ((h.objs.size, Cel.ns fun _ => none) :: cs) (h.push { cls := .type (if around.isSome then "dict" else "frame"), data := .dict #[] }) :=
    H.push (c := .ns _) (Heap.Ns.new h _)
  refine wpAny_bind (wpAny_layCells _ (fun name kind cells => by cases hkc : kind == NameKind.cell <;> simp [hkc]) _ _ _ _ ?_)
  obtain ⟨as, h1, h2, h3, h4⟩ := cells_push scope.names _ _ closure H1
  have z := k h.objs.size as _ h1 h3 (fun b o e => h4 b o (Heap.get?_push_of_some _ e)) hn
  rw [← h2] at z
  refine wpAny_bind (wpAny_mono (Q := fun _ s' => Q (newEnv scope h.objs.size globals (cellsFrom (h.push { cls := .type (if around.isSome then "dict" else "frame"), data := .dict #[] }).objs.size scope.names closure) qual func code around builtins) s') ?_ (fun _ s' q => wpAny_pure ?_) fun _ _ q => q)
  · cases around <;> exact z
  · cases around <;> exact q

theorem binds_nil {Q : PUnit → Shared → Prop} {s : Shared} {f : Str × Value → PUnit → Sem (ForInStep PUnit)} (k : Q ⟨⟩ s) : wpAny (model Pg w) A (forIn ([] : List (Str × Value)) PUnit.unit f) Q E s := by
  rw [List.forIn_nil]; exact wpAny_pure k
theorem binds_cons {Q : PUnit → Shared → Prop} {s : Shared} {x : Str} {v : Value} {rest : List (Str × Value)} {env : Env}
    (k : wpAny (model Pg w) A (storeName env x v) (fun _ s' => wpAny (model Pg w) A (forIn rest PUnit.unit fun x _ => do storeName env x.1 x.2; pure (.yield PUnit.unit)) Q E s') E s) :
    wpAny (model Pg w) A (forIn ((x, v) :: rest) PUnit.unit fun x _ => do storeName env x.1 x.2; pure (.yield PUnit.unit)) Q E s := by
  rw [List.forIn_cons]
  exact wpAny_bind (wpAny_bind (wpAny_mono k (fun _ s' q => wpAny_pure q) fun _ _ q => q))

/-- a call of a def with cells -/
theorem enterC {Q : Value → Shared → Prop} {f : Addr} {oc : Value} {od : Option Addr} {osl : Array (Option Value)} {fd : FuncData} {args : List Value} {kw : List (Str × Value)} {binds : List (Str × Value)} {body : List Stmt} {cn : List Str}
    (G : Gl w g0) (H : Kn g0 gs cs h) (R : Rm A (n + 2))
    (ho : (KK w).lookup f = some ⟨oc, od, .func fd, osl⟩) (hb : fd.body = .stmts body) (hcd : codeIn (KK w) fd.code fd.qualname = true)
    (hbind : ∀ s : Shared, s.heap = h → BindsTo s fd ⟨args, kw⟩ binds) (hcn : cellNames fd.scope.names = cn)
    (hco : fd.scope.isCoroutine = false) (hgen : fd.scope.isGenerator = false) (hk : fd.scope.kind = .function) (hg : fd.globals = mainGlobals) (hbl : fd.builtins = builtinsNs) (hcl : fd.closure = [])
    (k : ∀ L as h₁ env A' A'', as.length = cn.length → EnvIs env L fd.scope.names ((cn.zip as).reverse) → Rm A' n → Rm A'' n → Kn g0 gs (as.map (fun a => (a, Cel.cell none)) ++ (L, .ns fun _ => none) :: cs) h₁ → h.StaysIn h₁ → h.get? L = none →
      wpAny (model Pg w) A'' (forIn binds PUnit.unit fun x _ => do storeName env x.1 x.2; pure (.yield PUnit.unit)) (fun _ s' => g0.StaysIn s'.heap ∧ wpAny (model Pg w) A' (execs body env) (retQ Q) NoE s') NoE (S r h₁ t)) :
    wpAny (model Pg w) A (call (.ref f) args kw) Q NoE (S r h t) := by
  have GH := G.of H
  refine wpAny_call (codeAny_call_function R.room (GH.K _ _ ho) rfl hco hgen hb (codeRec_of GH.K hcd) (hbind _ rfl _ _ _ _ (env_new H fun C as h' hl H' hs hC => ?_)))
  subst hcn
  have ev : EnvIs (newEnv fd.scope C fd.globals (((cellNames fd.scope.names).zip as).reverse ++ fd.closure) (fd.qualname ++ ".<locals>.") (some f) fd.code none fd.builtins) C fd.scope.names (((cellNames fd.scope.names).zip as).reverse) :=
    ⟨hk, rfl, rfl, hg, hbl, by show _ ++ fd.closure = _; rw [hcl, List.append_nil]⟩
  refine wpAny_mono (k C as h' _ (A.deeper (newEnv fd.scope C fd.globals (((cellNames fd.scope.names).zip as).reverse ++ fd.closure) (fd.qualname ++ ".<locals>.") (some f) fd.code none fd.builtins)) A.in1 hl ev R.deeper.le R.in1.le H' hs hC) (fun _ s' q => ⟨(G.keeps q.1).lim, codeAny_func (wpAny_mono q.2 (fun fl s'' q => ?_) fun _ _ q => q.elim)⟩) fun _ _ q => q.elim
  cases fl <;> exact q

/-- how a comprehension's loop ends: its places are let go -/
def CompEnd (r : Shared) (g0 : Heap) (Q : Value → Shared → Prop) (C acc : Addr) (res : Result) (s' : Shared) : Prop :=
  (∃ f, res = .ok f) ∧ ∃ gs cs m h' t', s' = S r h' t' ∧ Kn g0 gs ((C, .ns m) :: cs) h' ∧ ∀ h'', Kn g0 gs cs h'' → Q (.ref acc) (S r h'' t')

/-- what stands behind a comprehension's first iterator -/
def CompGo (w : World) (r : Shared) (g0 : Heap) (A : Around) (elt : Expr) (gens : List Comprehension) (scope : Scope) (pos : Pos) (nm' : List (Str × NameKind)) (cn : List Str) (cl' : List (Str × Addr)) (Q : Value → Shared → Prop) (it : Value) (s₂ : Shared) : Prop :=
  ∃ gs cs h2 t2, s₂ = S r h2 t2 ∧ Kn g0 gs cs h2 ∧ (∀ (A' : Around) h3 t3 Q E, h2.StaysIn h3 → Q it (S r h3 t3) → wpAny (model Pg w) A' (pyIter it) Q E (S r h3 t3)) ∧
    ∀ acc C as env' h3 t3, as.length = cn.length → EnvIs env' C nm' ((cn.zip as).reverse ++ cl') → h2.StaysIn h3 →
      Kn g0 gs ((C, .ns fun _ => none) :: (acc, .lst #[]) :: (as.map (fun a => (a, Cel.cell none)) ++ cs)) h3 →
      codeAny (model Pg w) A (.compLoop (.ListComp elt gens scope pos) 0 it (.ref acc) env') (CompEnd r g0 Q C acc) (S r h3 t3)

theorem Kn.lose {C : Addr} {c : Cel} {h' : Heap} (H : Kn g0 gs ((C, c) :: cs) h) (k : Heap.SameBut C h h') : Kn g0 gs cs h' :=
  ⟨fun b o e => (k.2 b fun q => by have := H.boff _ (.head _); rw [q, this] at e; cases e).trans (H.base b o e), H.drop.boff,
   fun g hg b o e => (k.2 b fun q => by have := H.off _ (.head _) g hg; rw [q, this] at e; cases e).trans (H.keep g hg b o e), H.drop.off,
   fun p hp => (H.drop.at_ p hp).mono fun o e => (k.2 p.1 fun q => (List.nodup_cons.mp H.nd).1 (List.mem_map.mpr ⟨p, hp, q⟩)).trans e, H.drop.nd⟩
theorem Kn.perm {cs' : List (Addr × Cel)} (H : Kn g0 gs cs h) (p : cs'.Perm cs) : Kn g0 gs cs' h :=
  ⟨H.base, fun q hq => H.boff q (p.subset hq), H.keep, fun q hq => H.off q (p.subset hq), fun q hq => H.at_ q (p.subset hq), ((p.map _).nodup_iff).mpr H.nd⟩

theorem Kn.pick {cs' : List (Addr × Cel)} (H : Kn g0 gs cs h) (s : Sub cs' cs) : Kn g0 gs cs' h := let ⟨_, p⟩ := s; (H.perm p).sub (List.sublist_append_left _ _)

theorem lc {Q : Value → Shared → Prop} {elt target iter : Expr} {ifs : List Expr} {rest : List Comprehension} {scope : Scope} {pos : Pos} {nm' : List (Str × NameKind)} {cn : List Str} {cl' : List (Str × Addr)}
    (ev : EnvIs env L nm cl) (_H : Kn g0 gs cs h) (hclos : closL cl scope.names [] = some cl') (hkind : scope.kind = .function)
    (hnames : (scope.names.all fun x => x.2 != .local || scope.names.lookup x.1 == some .local) = true) (hn : relab nm scope.names = nm') (hcn : cellNames scope.names = cn)
    (hs : ∀ x, foldedSetIterable iter env x = pure x)
    (k : wpAny (model Pg w) A (eval iter env) (fun x s₁ => wpAny (model Pg w) A (pyIter x) (CompGo w r g0 A elt (⟨target, iter, ifs, 0⟩ :: rest) scope pos nm' cn cl' Q) NoE s₁) NoE (S r h t)) :
    wpAny (model Pg w) A (eval (.ListComp elt (⟨target, iter, ifs, 0⟩ :: rest) scope pos) env) Q NoE (S r h t) := by
  rw [eval_ListComp]
  refine wpAny_comprehension_free (g := ⟨target, iter, ifs, 0⟩) (gs := rest) (use := none) rfl hs (closure_of ev hclos) hkind
    (fun x hx hl => by have := List.all_eq_true.mp hnames x hx; rw [hl] at this; simpa using this) ?_
  refine wpAny_mono k (fun x s₁ h₁ => wpAny_mono h₁ (fun it s₂ h₂ => ?_) fun _ _ q => q) fun _ _ q => q
  obtain ⟨gs, cs, h2, t2, rfl, H, hit, k⟩ := h₂
  refine wpAny_newList ?_
  have H1 : Kn g0 gs ((h2.objs.size, Cel.lst #[]) :: cs) (h2.push { cls := .type "list", data := .seq ([] : List Value).toArray }) := H.push ⟨_, Heap.get?_push_size _ rfl, rfl, _, rfl⟩
  refine env_new (r := r) H1 fun C as h' hl H' hst hC => binds_nil ?_
  have hst2 : h2.StaysIn h' := fun b o e => hst b o (Heap.get?_push_of_some _ e)
  subst hcn
  refine comp_start (g := ⟨target, iter, ifs, 0⟩) rfl rfl (fun A' Q E q => hit A' h' t2 Q E hst2 q) ?_
  refine codeAny_mono (k h2.objs.size C as _ h' t2 hl ⟨?_, ?_, rfl, ?_, ?_, rfl⟩ hst2 (H'.perm ?_)) (fun res s' q => ?_)
  · exact hkind
  · rw [← hn]; exact relab_is ev scope
  · exact ev.glob
  · exact ev.blt
  · refine List.Perm.trans ?_ (List.perm_middle.symm)
    refine List.Perm.cons _ ?_
    exact (List.perm_middle.symm)
  · obtain ⟨⟨f, rfl⟩, gs', cs', m, h'', t'', rfl, H'', k''⟩ := q
    exact ⟨m, H''.ns (.head _), fun h3 hs3 => k'' h3 (H''.lose hs3)⟩
end

/-- a source of items: the iterator at I, its n items -/
structure Src (w : World) (A : Around) (K : Heap → Prop) (I : Addr) (ic : Nat → Cel) (n : Nat) (P : Nat → Value → Prop) : Prop where
  item : ∀ i (r : Shared) h t Q, i < n → (ic i).At h I → K h → (∀ v h' t', P i v → (ic (i + 1)).At h' I → Heap.SameBut I h h' → Q (some v) (S r h' t')) → wpAny (model Pg w) A (pyNext (.ref I)) Q NoE (S r h t)
  done : ∀ (r : Shared) h t Q, (ic n).At h I → K h → (∀ h' t', Heap.ExtBut I h h' → Q none (S r h' t')) → wpAny (model Pg w) A (pyNext (.ref I)) Q NoE (S r h t)

section
variable {w : World} {A : Around}
theorem src_list (hh : A.handled = none) (I l : Addr) (xs : Array Value) : Src w A (fun h => h.IsList l xs) I (fun i => .lit l i) xs.size (fun i v => xs.toList[i]? = some v) where
  item := fun i r h t Q hi hc hl k => wpAny_pyNext_list_item hc hl (x := xs[i]) (by simp [hi]) fun h' x hs => k _ h' t (by simp [hi]) x hs
  done := fun r h t Q hc hl k => wpAny_pyNext_list_end hh hc hl (by simp) fun h' hs => k h' t hs
theorem src_tup (hh : A.handled = none) (I l : Addr) (xs : Array Value) : Src w A (fun h => h.IsTuple l xs) I (fun i => .tit l i) xs.size (fun i v => xs.toList[i]? = some v) where
  item := fun i r h t Q hi hc hl k => wpAny_pyNext_tuple_item hc hl (x := xs[i]) (by simp [hi]) fun h' x hs => k _ h' t (by simp [hi]) x hs
  done := fun r h t Q hc hl k => wpAny_pyNext_tuple_end hh hc hl (by simp) fun h' hs => k h' t hs
abbrev rit (x left step : Int) : Obj := { cls := .type "range_iterator", dict := none, data := .fields #[rawInt x, rawInt left, rawInt step], slots := #[] }
theorem src_range (hh : A.handled = none) (I : Addr) (n : Nat) : Src w A (fun _ => True) I (fun i => .ob (rit i (n - i : Int) 1)) n (fun i v => ∃ tk, v = .int i tk) where
  item := fun i r h t Q hi hc hl k => by
    refine wpAny_pyNext_range_item (it := I) (x := i) (left := (n : Int) - i) (step := 1) hc (by omega) fun h' x hs => k _ h' _ ⟨_, rfl⟩ ?_ hs
    have e : ((n : Int) - i - 1) = (n : Int) - ((i + 1 : Nat) : Int) := by omega
    show h'.get? I = some _
    rw [← e]; exact x
  done := fun r h t Q hc hl k => wpAny_pyNext_range_end hh (it := I) (x := n) (left := (n : Int) - n) (step := 1) hc (by omega) fun h' hs => k h' t hs
end

section
variable {w : World} {g0 : Heap} {gs : List Heap} {r : Shared} {A : Around} {env : Env}

theorem Kn.loseE {h h' : Heap} {cs : List (Addr × Cel)} {C : Addr} {c : Cel} (H : Kn g0 gs ((C, c) :: cs) h) (k : Heap.ExtBut C h h') : Kn g0 gs cs h' :=
  ⟨fun b o e => k b o (fun q => by have := H.boff _ (.head _); rw [q, this] at e; cases e) (H.base b o e), H.drop.boff,
   fun g hg b o e => k b o (fun q => by have := H.off _ (.head _) g hg; rw [q, this] at e; cases e) (H.keep g hg b o e), H.drop.off,
   fun p hp => (H.drop.at_ p hp).mono fun o e => k p.1 o (fun q => (List.nodup_cons.mp H.nd).1 (List.mem_map.mpr ⟨p, hp, q⟩)) e, H.drop.nd⟩

theorem swap3 {α : Type} {a b c : α} {l : List α} : (c :: a :: b :: l).Perm (a :: b :: c :: l) :=
  (List.Perm.swap a c _).trans (List.Perm.cons _ (List.Perm.swap b c _))

theorem comp_src {σ : Type} {csf : σ → List (Addr × Cel)} {J : Nat → σ → Heap → List Value → Prop} {K : Heap → Prop} {I C acc : Addr} {ic : Nat → Cel} {n : Nat} {P : Nat → Value → Prop}
    (X : Src w A K I ic n P) (hz : n ≤ sizeLine) {elt target iter : Expr} {gens : List Comprehension} {scope : Scope} {pos : Pos} {d : Nat} {R : Result → Shared → Prop}
    (hgen : gens[d]? = some ⟨target, iter, [], 0⟩) (hn : gens[d + 1]? = none)
    (hK : ∀ i g σ ys m h, Kn g0 (g :: gs) ((C, .ns m) :: (acc, .lst ys) :: (I, ic i) :: csf σ) h → K h)
    (hgo : ∀ i v r' h t Q, P i v → (ic (i + 1)).At h I → Q () (S r' h t) → wpAny (model Pg w) A (letOwnedTupleGo target (.ref I) v) Q NoE (S r' h t))
    (step : ∀ i v g σ ys m h t, i < n → P i v → J i σ g ys → ys.length = i → Kn g0 (g :: gs) ((C, .ns m) :: (acc, .lst ys.toArray) :: (I, ic (i + 1)) :: csf σ) h →
      wpAny (model Pg w) A (assign target env v) (fun _ s₂ => wpAny (model Pg w) A (eval elt env) (fun y s₃ => ∃ g' σ' m' h' t', s₃ = S r h' t' ∧
        Kn g0 (g' :: gs) ((C, .ns m') :: (acc, .lst ys.toArray) :: (I, ic (i + 1)) :: csf σ') h' ∧ J (i + 1) σ' g' (ys ++ [y])) NoE s₂) NoE (S r h t))
    (fin : ∀ g σ ys m h t, J n σ g ys → ys.length = n → Kn g0 (g :: gs) ((C, .ns m) :: (acc, .lst ys.toArray) :: csf σ) h → R (.ok .next) (S r h t)) :
    ∀ (k i : Nat) (g : Heap) (σ : σ) (ys : List Value) (m : Str → Option Value) (h : Heap) (t : Nat), n - i = k → i ≤ n → J i σ g ys → ys.length = i →
      Kn g0 (g :: gs) ((C, .ns m) :: (acc, .lst ys.toArray) :: (I, ic i) :: csf σ) h →
      codeAny (model Pg w) A (.compLoop (.ListComp elt gens scope pos) d (.ref I) (.ref acc) env) R (S r h t) := by
  intro k
  induction k with
  | zero =>
    intro i g σ ys m h t hk hi hJ hl H
    have e : i = n := by omega
    subst e
    refine comp_turn hgen hn (X.done r h t _ (H.at_ _ (.tail _ (.tail _ (.head _)))) (hK _ _ _ _ _ _ H) fun h' t' hs => ?_)
    exact fin g σ ys m h' t' hJ hl (Kn.loseE (H.perm swap3) hs)
  | succ k ih =>
    intro i g σ ys m h t hk hi hJ hl H
    have hlt : i < n := by omega
    refine comp_turn hgen hn (X.item i r h t _ hlt (H.at_ _ (.tail _ (.tail _ (.head _)))) (hK _ _ _ _ _ _ H) fun v h' t' hv hc hs => ?_)
    have H1 : Kn g0 (g :: gs) ((C, .ns m) :: (acc, .lst ys.toArray) :: (I, ic (i + 1)) :: csf σ) h' := H.upS (.there (.there .here)) hs hc
    refine hgo i v r h' t' _ hv hc ?_
    refine wpAny_mono (step i v g σ ys m h' t' hlt hv hJ hl H1) (fun _ s₂ q => wpAny_mono q (fun y s₃ q => ?_) fun _ _ q => q) fun _ _ q => q
    obtain ⟨g', σ', m', h'', t'', rfl, H2, hJ'⟩ := q
    refine wpAny_list_append (hsz := by rw [List.size_toArray]; omega) (H2.lst (.tail _ (.head _))) fun h3 hx hs3 => ?_
    have H3 : Kn g0 (g' :: gs) ((C, .ns m') :: (acc, .lst (ys ++ [y]).toArray) :: (I, ic (i + 1)) :: csf σ') h3 := H2.upS (.there .here) hs3 (by show h3.IsList acc _; simpa using hx)
    exact ih (i + 1) g' σ' (ys ++ [y]) m' h3 t'' (by omega) (by omega) hJ' (by simp [hl]) H3

theorem for_src {σ : Type} {csf : σ → List (Addr × Cel)} {J : Nat → σ → Heap → Prop} {K : Heap → Prop} {I : Addr} {ic : Nat → Cel} {n : Nat} {P : Nat → Value → Prop}
    (X : Src w A K I ic n P) {target : Expr} {body : List Stmt} {R : Result → Shared → Prop}
    (hK : ∀ i g σ h, Kn g0 (g :: gs) ((I, ic i) :: csf σ) h → K h)
    (hgo : ∀ i v r' h t Q, P i v → (ic (i + 1)).At h I → Q () (S r' h t) → wpAny (model Pg w) A (letOwnedTupleGo target (.ref I) v) Q NoE (S r' h t))
    (step : ∀ i v g σ h t, i < n → P i v → J i σ g → Kn g0 (g :: gs) ((I, ic (i + 1)) :: csf σ) h →
      wpAny (model Pg w) A (assign target env v) (fun _ s₂ => wpAny (model Pg w) A (execs body env) (fun f s₃ => f = .next ∧ ∃ g' σ' h' t', s₃ = S r h' t' ∧
        Kn g0 (g' :: gs) ((I, ic (i + 1)) :: csf σ') h' ∧ J (i + 1) σ' g') NoE s₂) NoE (S r h t))
    (fin : ∀ g σ h t, J n σ g → Kn g0 (g :: gs) (csf σ) h → R (.ok .next) (S r h t)) :
    ∀ (k i : Nat) (g : Heap) (σ : σ) (h : Heap) (t : Nat), n - i = k → i ≤ n → J i σ g →
      Kn g0 (g :: gs) ((I, ic i) :: csf σ) h →
      codeAny (model Pg w) A (.forLoop target (.ref I) body [] env) R (S r h t) := by
  intro k
  induction k with
  | zero =>
    intro i g σ h t hk hi hJ H
    have e : i = n := by omega
    subst e
    refine for_turn (X.done r h t _ (H.at_ _ (.head _)) (hK _ _ _ _ H) fun h' t' hs => ?_)
    exact x_nil (fin g σ h' t' hJ (Kn.loseE H hs))
  | succ k ih =>
    intro i g σ h t hk hi hJ H
    have hlt : i < n := by omega
    refine for_turn (X.item i r h t _ hlt (H.at_ _ (.head _)) (hK _ _ _ _ H) fun v h' t' hv hc hs => ?_)
    have H1 : Kn g0 (g :: gs) ((I, ic (i + 1)) :: csf σ) h' := H.upS .here hs hc
    refine hgo i v r h' t' _ hv hc ?_
    refine wpAny_mono (step i v g σ h' t' hlt hv hJ H1) (fun _ s₂ q => wpAny_mono q (fun f s₃ q => ?_) fun _ _ q => q) fun _ _ q => q
    obtain ⟨rfl, g', σ', h'', t'', rfl, H2, hJ'⟩ := q
    exact ih (i + 1) g' σ' h'' t'' (by omega) (by omega) hJ' H2

theorem go_name {x : Str} {p : Pos} {it v : Value} {s : Shared} {Q : Unit → Shared → Prop} (k : Q () s) : wpAny (model Pg w) A (letOwnedTupleGo (.Name x p) it v) Q NoE s := wpAny_pure k
theorem go_tupL {elts : List Expr} {j : Nat} {p : Pos} {I l a : Addr} {i : Nat} {s : Shared} {Q : Unit → Shared → Prop} (hc : s.heap.IsListIter I l i) (k : Q () s) : wpAny (model Pg w) A (letOwnedTupleGo (.Tuple elts j p) (.ref I) (.ref a)) Q NoE s :=
  wpAny_letOwnedTupleGo_listiter hc k

/-- iter(list) -/
theorem it_list {gs : List Heap} {cs : List (Addr × Cel)} {h : Heap} {t : Nat} {l : Addr} {xs : Array Value} {E : Value → Shared → Prop} {Q : Value → Shared → Prop} (H : Kn g0 gs cs h) (hl : h.IsList l xs)
    (k : ∀ I h', Kn g0 gs ((I, .lit l 0) :: cs) h' → h.StaysIn h' → Q (.ref I) (S r h' t)) : wpAny (model Pg w) A (pyIter (.ref l)) Q E (S r h t) :=
  wpAny_pyIter_list hl (k _ _ (H.push ⟨_, Heap.get?_push_size _ rfl, rfl, rfl⟩) fun b o e => Heap.get?_push_of_some _ e)
theorem it_tup {gs : List Heap} {cs : List (Addr × Cel)} {h : Heap} {t : Nat} {l : Addr} {xs : Array Value} {E : Value → Shared → Prop} {Q : Value → Shared → Prop} (H : Kn g0 gs cs h) (hl : h.IsTuple l xs)
    (k : ∀ I h', Kn g0 gs ((I, .tit l 0) :: cs) h' → h.StaysIn h' → Q (.ref I) (S r h' t)) : wpAny (model Pg w) A (pyIter (.ref l)) Q E (S r h t) :=
  wpAny_pyIter_tuple hl (k _ _ (H.push ⟨_, Heap.get?_push_size _ rfl, rfl, rfl⟩) fun b o e => Heap.get?_push_of_some _ e)
theorem itself_lit {gs : List Heap} {cs : List (Addr × Cel)} {h h3 : Heap} {t3 : Nat} {I l : Addr} {i : Nat} {A' : Around} {E : Value → Shared → Prop} {Q : Value → Shared → Prop} (H : Kn g0 gs cs h) (m : (I, .lit l i) ∈ cs) (k : h.StaysIn h3) (q : Q (.ref I) (S r h3 t3)) :
    wpAny (model Pg w) A' (pyIter (.ref I)) Q E (S r h3 t3) := wpAny_pyIter_listiter ((H.stays k).lit m) q
theorem itself_rit {gs : List Heap} {cs : List (Addr × Cel)} {h h3 : Heap} {t3 : Nat} {I : Addr} {x y z : Int} {A' : Around} {E : Value → Shared → Prop} {Q : Value → Shared → Prop} (H : Kn g0 gs cs h) (m : (I, .ob (rit x y z)) ∈ cs) (k : h.StaysIn h3) (q : Q (.ref I) (S r h3 t3)) :
    wpAny (model Pg w) A' (pyIter (.ref I)) Q E (S r h3 t3) := wpAny_pyIter_rangeiter ((H.stays k).ob m) q
end

/-- what is known of a place: a mutable one of cs, or within a frozen part -/
def Has (gs : List Heap) (cs : List (Addr × Cel)) (a : Addr) (c : Cel) : Prop := (a, c) ∈ cs ∨ ∃ g ∈ gs, c.At g a
theorem Has.at {g0 h : Heap} {gs cs a c} (H : Kn g0 gs cs h) (x : Has gs cs a c) : c.At h a := by
  rcases x with x | ⟨g, hg, x⟩
  · exact H.at_ _ x
  · exact x.mono (H.keep g hg a)
theorem Has.mono {gs gs' cs cs' a c} (x : Has gs cs a c) (hg : ∀ g ∈ gs, g ∈ gs') (hc : ∀ p ∈ cs, p ∈ cs') : Has gs' cs' a c := by
  rcases x with x | ⟨g, h1, x⟩
  · exact .inl (hc _ x)
  · exact .inr ⟨g, hg g h1, x⟩
theorem Has.cons {gs cs a c p} (x : Has gs cs a c) : Has gs (p :: cs) a c := x.mono (fun _ h => h) fun _ h => .tail _ h
theorem Has.consG {gs cs a c g} (x : Has gs cs a c) : Has (g :: gs) cs a c := x.mono (fun _ h => .tail _ h) fun _ h => h
theorem Has.app {gs cs a c l} (x : Has gs cs a c) : Has gs (l ++ cs) a c := x.mono (fun _ h => h) fun _ h => List.mem_append_right _ h
theorem Has.of {g : Heap} {gs cs a c} (x : c.At g a) : Has (g :: gs) cs a c := .inr ⟨g, .head _, x⟩

section
variable {w : World} {g0 h : Heap} {gs : List Heap} {cs : List (Addr × Cel)} {r : Shared} {t n : Nat} {A : Around} {E : Value → Shared → Prop} {env : Env} {L : Addr} {nm : List (Str × NameKind)} {cl : List (Str × Addr)} {Q : Value → Shared → Prop}

/-! tuples, lists, texts: an item -/
theorem t_item {l : Addr} {xs : Array Value} {i : Int} {ti : Tok} {v : Value} {s : Shared} (hl : s.heap.IsTuple l xs) (j : Nat) (hj : i = j) (hi : j < 1000) (hx : xs.toList[j]? = some v)
    (k : Q v s) : wpAny (model Pg w) A (getItem (.ref l) (.int i ti)) Q E s := by
  subst hj
  have hlt : j < xs.size := by
    have := (List.getElem?_eq_some_iff.mp hx).1; simpa using this
  refine getItem_tuple (j := j) hl (by omega) (by omega) ?_ (by rw [← hx, Array.getElem?_toList]) k
  unfold seqIndex?
  simp [hlt, show ¬ ((j : Int) < 0) by omega]
theorem t_get {l : Addr} {xs : Array Value} {i : Int} {ti : Tok} {v : Value} {value slice : Expr} {s : Shared} (hl : s.heap.IsTuple l xs) (j : Nat) (hj : i = j) (hi : j < 1000) (hx : xs.toList[j]? = some v)
    (k : Q v s)
    (hs : subscripted slice false (.ref l) (.int i ti) = operate [.ref l, .int i ti] (getItem (.ref l) (.int i ti)) := by with_unfolding_all rfl) :
    wpAny (model Pg w) A (subscriptTail value slice (.ref l) (.int i ti)) Q E s :=
  tail_any (T := "tuple") (IsTup.typeIs hl) slot_tuple_getitem.lookup (t_item hl j hj hi hx k) hs
theorem u_get {x : Str} {tx : Tok} {i : Int} {ti : Tok} {c : Nat} {value slice : Expr} (h1 : 0 ≤ i) (h2 : i < x.length) (hx : x.length < 1000) (hc : x.cps.toList[i.toNat]? = some c)
    (k : ∀ tk t', Q (.str ⟨#[c]⟩ tk) (S r h t'))
    (hs : subscripted slice false (.str x tx) (.int i ti) = operate [.str x tx, .int i ti] (getItem (.str x tx) (.int i ti)) := by with_unfolding_all rfl) :
    wpAny (model Pg w) A (subscriptTail value slice (.str x tx) (.int i ti)) Q E (S r h t) := by
  refine tail_any (s := S r h t) (typeIs_str _ _ _) PySem.F.slot_str_getitem.lookup (P.getItem_str (c := c) ?_ ?_ (k _ _)) hs
  · rw [Bool.or_eq_false_iff]; exact ⟨decide_eq_false (by omega), decide_eq_false (by omega)⟩
  · unfold seqIndex?
    have : ¬ (i < 0) := by omega
    simp [this, h1, h2]
    rw [← hc, Array.getElem?_toList]

/-! displays -/
theorem d_tup (_H : Kn g0 gs cs h) {elts : List Expr} {j : Nat} {pos : Pos} 
    (k : wpAny (model Pg w) A (spliced (backTo pos (starEach elts env))) (fun vs s₁ => vs.length ≤ sizeLine ∧ ∃ gs cs h1 t1, s₁ = S r h1 t1 ∧ Kn g0 gs cs h1 ∧ ∀ a h', Kn g0 gs ((a, .tup vs.toArray) :: cs) h' → h1.StaysIn h' → Q (.ref a) (S r h' t1)) E (S r h t)) :
    wpAny (model Pg w) A (eval (.Tuple elts j pos) env) Q E (S r h t) :=
  wpAny_Tuple (wpAny_mono k (fun vs s₁ q => ⟨q.1, by
    obtain ⟨_, gs, cs, h1, t1, rfl, H, k⟩ := q
    exact k _ _ (H.push ⟨_, Heap.get?_push_size _ rfl, rfl, _, rfl⟩) fun b o e => Heap.get?_push_of_some _ e⟩) fun _ _ q => q)
theorem d_list (_H : Kn g0 gs cs h) {elts : List Expr} {pos : Pos} 
    (k : wpAny (model Pg w) A (spliced (backTo pos (starEach elts env))) (fun vs s₁ => vs.length ≤ sizeLine ∧ ∃ gs cs h1 t1, s₁ = S r h1 t1 ∧ Kn g0 gs cs h1 ∧ ∀ a h', Kn g0 gs ((a, .lst vs.toArray) :: cs) h' → h1.StaysIn h' → Q (.ref a) (S r h' t1)) E (S r h t)) :
    wpAny (model Pg w) A (eval (.List elts pos) env) Q E (S r h t) :=
  wpAny_List (wpAny_mono k (fun vs s₁ q => ⟨q.1, by
    obtain ⟨_, gs, cs, h1, t1, rfl, H, k⟩ := q
    exact k _ _ (H.push ⟨_, Heap.get?_push_size _ rfl, rfl, _, rfl⟩) fun b o e => Heap.get?_push_of_some _ e⟩) fun _ _ q => q)

/-! ranges -/
/-- a call of a built-in type by its name -/
theorem callT {x : Str} {np pos : Pos} {e : Expr} {rest : List Expr} {id : String} (G : Gl w g0) (ev : EnvIs env L nm cl) (H : Kn g0 gs cs h)
    (hl : nm.lookup x = some .globalImplicit) (hv : nsIn (KK w) mainGlobals x = some none) (hb : bootBuiltins x = some (.type id))
    (k : wpAny (model Pg w) A (spliced (backTo pos (starEach (e :: rest) env))) (fun vs s₂ => wpAny (model Pg w) A (call (.type id) vs) Q E s₂) E (S r h t))
    (he : starEach (e :: rest) env = (false, eval e env) :: starEach rest env := by exact rfl) (hplain : (backTo pos (starEach rest env)).any (·.1) = false := by exact rfl)
    (hn : x ≠ "__name__" := by decide) (hd : (x == ("__debug__" : Str)) = false := by decide) :
    wpAny (model Pg w) A (eval (.Call (.Name x np) (e :: rest) [] pos) env) Q E (S r h t) := by
  refine wpAny_Call_NameR (n_blt G ev H hl hv hb ?_ hn hd)
  rw [he] at k ⊢
  exact callWith_of (P := fun _ => True) (by show ((false || (backTo pos (starEach rest env)).any (·.1)) || false) = false; rw [hplain]; rfl) (fun _ _ => ⟨.machine, .inr (.inl rfl), Looks.of_pure rfl⟩)
    (evalArgs_plain (wpAny_mono k (fun vs s q => ⟨trivial, q⟩) fun _ _ q => q))
abbrev rng (a b c : Int) (t u v : Tok) : Obj := { cls := .type "range", dict := none, data := .fields #[.int a t, .int b u, .int c v], slots := #[] }
theorem rg_call {n : Int} {tn : Tok} (H : Kn g0 gs cs h) (k : ∀ a t1 t2 h' t', Kn g0 gs ((a, .ob (rng 0 n 1 t1 tn t2)) :: cs) h' → h.StaysIn h' → Q (.ref a) (S r h' t')) :
    wpAny (model Pg w) A (call (.type "range") [.int n tn]) Q E (S r h t) :=
  call_range_1 (k _ _ _ _ _ (H.push (Heap.get?_push_size _ rfl)) fun b o e => Heap.get?_push_of_some _ e)
theorem rg_iter {a : Addr} {n : Nat} {t1 t2 t3 : Tok} (H : Kn g0 gs cs h) (m : (a, .ob (rng 0 n 1 t1 t2 t3)) ∈ cs) (hn : n < 1000)
    (k : ∀ I h', Kn g0 gs ((I, .ob (rit ((0 : Nat) : Int) ((n : Int) - ((0 : Nat) : Int)) 1)) :: cs) h' → h.StaysIn h' → Q (.ref I) (S r h' t)) :
    wpAny (model Pg w) A (pyIter (.ref a)) Q E (S r h t) := by
  have e : Builtin.Range.rangeSize 0 n 1 = (n : Int) := by rw [rangeSize_one]; split <;> omega
  refine wpAny_pyIter_range (H.ob m) (by unfold Builtin.Range.small Builtin.Range.rangeFitsLong; rw [e]; simp; omega) ?_
  rw [e]
  have z := k h.objs.size _ (H.push (c := .ob (rit ((0 : Nat) : Int) ((n : Int) - ((0 : Nat) : Int)) 1)) (by
    show (h.push { cls := .type "range_iterator", data := .fields #[rawInt 0, rawInt n, rawInt 1] }).get? _ = _
    rw [Heap.get?_push_size _ rfl]; simp [rit])) fun b o e => Heap.get?_push_of_some _ e
  exact z

/-! texts -/
theorem s_join {x : Str} {tx : Tok} {l : Addr} {xs : Array Value} {ys : List Str} (hl : h.IsList l xs) (hi : StrsAre xs.toList ys) (hok : (ys.map (·.length)).sum + ys.length * x.length ≤ 16777216)
    (k : ∀ tk t', Q (.str (Txt.join x ys) tk) (S r h t')) : wpAny (model Pg w) A (call (.builtin "str.join") [.str x tx, .ref l]) Q E (S r h t) :=
  join_list (s := S r h t) hl hi hok fun t' k' => k _ _

/-! sums of lists, of tuples -/
theorem b_addL {l b : Addr} {xs ys : Array Value} (H : Kn g0 gs cs h) (hl : h.IsList l xs) (hb : h.IsList b ys) (hsz : xs.size + ys.size ≤ 1000)
    (k : ∀ a h', Kn g0 gs ((a, .lst (xs ++ ys)) :: cs) h' → h.StaysIn h' → Q (.ref a) (S r h' t)) : wpAny (model Pg w) A (binaryOp .Add (.ref l) (.ref b)) Q E (S r h t) := by
  obtain ⟨⟨cls, dd, data, sl⟩, ho, hc, n, hd⟩ := id hl
  obtain ⟨⟨cls2, dd2, data2, sl2⟩, ho2, hc2, n2, hd2⟩ := id hb
  simp only at hc hd hc2 hd2
  subst hc hd hc2 hd2
  exact concat_meets (s := S r h t) ⟨_, ho, rfl⟩ ⟨_, ho2, rfl⟩ noFill_list_add seq_list_add PySem.F.slot_list_add PySem.F.entry_list_add (PySem.F.args_list_add_2 _ _) (list_addW l b xs ys n n2 dd dd2 sl sl2 (by rw [sizeLine_eq]; omega))
    ⟨ho, ho2, k _ _ (H.push ⟨_, Heap.get?_push_size _ rfl, rfl, _, rfl⟩) fun b o e => Heap.get?_push_of_some _ e⟩
theorem b_addT {l b : Addr} {xs ys : Array Value} (H : Kn g0 gs cs h) (hl : h.IsTuple l xs) (hb : h.IsTuple b ys) (hsz : xs.size + ys.size ≤ 1000) (hy : ys.size ≠ 0) (hx : xs.size = 0 → Q (.ref b) (S r h t))
    (k : ∀ a h', Kn g0 gs ((a, .tup (xs ++ ys)) :: cs) h' → h.StaysIn h' → Q (.ref a) (S r h' t)) : wpAny (model Pg w) A (binaryOp .Add (.ref l) (.ref b)) Q E (S r h t) := by
  obtain ⟨⟨cls, dd, data, sl⟩, ho, hc, n, hd⟩ := id hl
  obtain ⟨⟨cls2, dd2, data2, sl2⟩, ho2, hc2, n2, hd2⟩ := id hb
  simp only at hc hd hc2 hd2
  subst hc hd hc2 hd2
  by_cases q : xs.size = 0
  · exact concat_meets (s := S r h t) ⟨_, ho, rfl⟩ ⟨_, ho2, rfl⟩ noFill_tuple_add seq_tuple_add PySem.F.slot_tuple_add PySem.F.entry_tuple_add (PySem.F.args_tuple_add_2 _ _) (tuple_addW0 l b xs ys n n2 dd dd2 sl sl2 (by simp [Array.isEmpty, q]))
      ⟨ho, ho2, hx q⟩
  · exact concat_meets (s := S r h t) ⟨_, ho, rfl⟩ ⟨_, ho2, rfl⟩ noFill_tuple_add seq_tuple_add PySem.F.slot_tuple_add PySem.F.entry_tuple_add (PySem.F.args_tuple_add_2 _ _) (tuple_addW2 l b xs ys n n2 dd dd2 sl sl2 (by simp [Array.isEmpty, q]) (by simp [Array.isEmpty, hy]) (by rw [sizeLine_eq]; omega))
      ⟨ho, ho2, k _ _ (H.push ⟨_, Heap.get?_push_size _ rfl, rfl, _, rfl⟩) fun b o e => Heap.get?_push_of_some _ e⟩

/-! statements -/
theorem st_lo {Q : Unit → Shared → Prop} {x : Str} {m : Str → Option Value} {v : Value} {cs' : List (Addr × Cel)} (e : EnvIs env L nm cl) (H : Kn g0 gs cs h)
    (hl : nm.lookup x = some .local) (u : Up L (.ns m) (.ns (fun y => if y = x then some v else m y)) cs cs')
    (k : ∀ h' t', Kn g0 gs cs' h' → Q () (S r h' t')) :
    wpAny (model Pg w) A (storeName env x v) Q E (S r h t) :=
  wpAny_storeName_local (e.kindOf hl) (by rw [e.loc]; exact H.at_ _ u.mem) (fun h' hn hs => k h' _ (H.upS u (by rw [e.loc] at hs; exact hs) (by rw [e.loc] at hn; exact hn)))
    (by rw [e.kind]; rfl)
theorem x_asg {Q : Flow → Shared → Prop} {x : Str} {p' pos : Pos} {value : Expr} {s : Shared}
    (k : wpAny (model Pg w) A (eval value env) (fun v s₁ => wpAny (model Pg w) A (storeName env x v) (fun _ => Q .next) E s₁) E s)
    (hs : swapsWith value (some (.Name x p')) pos.line env = pure false := by exact rfl) : wpAny (model Pg w) A (exec (.Assign [.Name x p'] value pos) env) Q E s := wpAny_Assign_Name k hs
theorem bt_or {Q : Bool → Shared → Prop} {x y : Expr} {pos : Pos} {whole : Sem Value} {s : Shared}
    (k : wpAny (model Pg w) A (isTrue x env (eval x env)) (fun b s₁ => (b = true → Q true s₁) ∧ (b = false → wpAny (model Pg w) A (isTrue y env (eval y env)) Q E s₁)) E s) :
    wpAny (model Pg w) A (isTrue (.BoolOp .Or [x, y] pos) env whole) Q E s :=
  wpAny_isTrue_BoolOp (wpAny_allTrue_Or_cons (wpAny_mono k (fun b s₁ q => by
    cases b with
    | true => exact q.1 rfl
    | false => exact wpAny_allTrue_Or_cons (wpAny_mono (q.2 rfl) (fun b s₂ q => by cases b with | true => exact q | false => exact wpAny_allTrue_Or_nil q) fun _ _ q => q)) fun _ _ q => q))

end

theorem sz {n : Nat} (h : n ≤ 100 := by simp) : n ≤ sizeLine := by rw [sizeLine_eq]; omega
/-! small closed facts -/
theorem blt_range : bootBuiltins "range" = some (.type "range") := by decide +kernel
theorem blt_len : bootBuiltins "len" = some (.builtin "len") := by decide +kernel
theorem blt_isinstance : bootBuiltins "isinstance" = some (.builtin "isinstance") := by decide +kernel
theorem blt_str : bootBuiltins "str" = some (.type "str") := by decide +kernel
theorem blt_list : bootBuiltins "list" = some (.type "list") := by decide +kernel
theorem blt_any : bootBuiltins "any" = some (.builtin "any") := by decide +kernel
theorem blt_enumerate : bootBuiltins "enumerate" = some (.type "enumerate") := by decide +kernel
theorem blt_reversed : bootBuiltins "reversed" = some (.type "reversed") := by decide +kernel
theorem blt_NI : bootBuiltins "NotImplemented" = some .notImplemented := by decide +kernel
section
variable (w : World)
theorem no_range : nsIn (KK w) mainGlobals "range" = some none := by exact rfl
theorem no_len : nsIn (KK w) mainGlobals "len" = some none := by exact rfl
theorem no_isinstance : nsIn (KK w) mainGlobals "isinstance" = some none := by exact rfl
theorem no_str : nsIn (KK w) mainGlobals "str" = some none := by exact rfl
theorem no_list : nsIn (KK w) mainGlobals "list" = some none := by exact rfl
theorem no_any : nsIn (KK w) mainGlobals "any" = some none := by exact rfl
theorem no_enumerate : nsIn (KK w) mainGlobals "enumerate" = some none := by exact rfl
theorem no_reversed : nsIn (KK w) mainGlobals "reversed" = some none := by exact rfl
theorem no_NI : nsIn (KK w) mainGlobals "NotImplemented" = some none := by exact rfl
theorem gl_next : nsIn (KK w) mainGlobals "_law_next" = some (some (.ref 383)) := by exact rfl
theorem gl_plan : nsIn (KK w) mainGlobals "_law_plan" = some (some (.ref 388)) := by exact rfl
theorem gl_made : nsIn (KK w) mainGlobals "_law_made" = some (some (.ref 393)) := by exact rfl
theorem gl_paths : nsIn (KK w) mainGlobals "_law_paths" = some (some (.ref 400)) := by exact rfl
theorem gl_part : nsIn (KK w) mainGlobals "_law_part" = some (some (.ref 407)) := by exact rfl
theorem gl_at : nsIn (KK w) mainGlobals "_law_at" = some (some (.ref 414)) := by exact rfl
theorem gl_told : nsIn (KK w) mainGlobals "_law_told" = some (some (.ref 419)) := by exact rfl
theorem gl_text : nsIn (KK w) mainGlobals "_law_text" = some (some (.ref 424)) := by exact rfl
theorem gl_put : nsIn (KK w) mainGlobals "_law_put" = some (some (.ref 429)) := by exact rfl
theorem gl_changed : nsIn (KK w) mainGlobals "_law_changed" = some (some (.ref 434)) := by exact rfl
theorem gl_Leaf : nsIn (KK w) mainGlobals "Leaf" = some (some (.ref 374)) := by exact rfl
theorem gl_Node : nsIn (KK w) mainGlobals "Node" = some (some (.ref 294)) := by exact rfl
theorem gl_Mark : nsIn (KK w) mainGlobals "_Mark" = some (some (.ref 31)) := by exact rfl
theorem kp_next : keepIn (KK w) (.ref 383) = true := by exact rfl
theorem kp_plan : keepIn (KK w) (.ref 388) = true := by exact rfl
theorem kp_made : keepIn (KK w) (.ref 393) = true := by exact rfl
theorem kp_paths : keepIn (KK w) (.ref 400) = true := by exact rfl
theorem kp_part : keepIn (KK w) (.ref 407) = true := by exact rfl
theorem kp_at : keepIn (KK w) (.ref 414) = true := by exact rfl
theorem kp_told : keepIn (KK w) (.ref 419) = true := by exact rfl
theorem kp_text : keepIn (KK w) (.ref 424) = true := by exact rfl
theorem kp_put : keepIn (KK w) (.ref 429) = true := by exact rfl
theorem kp_changed : keepIn (KK w) (.ref 434) = true := by exact rfl
end

/-! instances -/
theorem lookIn_ns {h : Heap} {d : Addr} {m : Str → Option Value} {n : Nat} (x : NsAt h d m n) : ∃ o, h.get? d = some o ∧ ∀ name, lookIn name o = some (m name) := by
  obtain ⟨o, es, ep, ho, hd, hk, hm, hz⟩ := x
  refine ⟨o, ho, fun name => ?_⟩
  unfold lookIn
  rw [hd]
  dsimp only
  rw [← hm name]
  unfold nsFind findBy
  rw [← Array.find?_toList]
  cases e : es.toList.find? (·.key.isStr name) with
  | some e => rfl
  | none =>
    have : es.toList.any (·.refKey) = false := by
      rw [Array.any_toList, Array.any_eq_false']; intro e he; obtain ⟨n, t, h⟩ := hk e he; simp [DictEntry.refKey, h]
    dsimp only
    rw [this]; rfl

section
variable {w : World} {g0 h : Heap} {gs : List Heap} {cs cs' : List (Addr × Cel)} {r : Shared} {t n : Nat} {A : Around} {E : Value → Shared → Prop} {env : Env} {L x C d : Addr} {m : Str → Option Value} {Q : Value → Shared → Prop} {name : Str}

/-- a thing x of class C, its names m in d -/
structure Ins (gs : List Heap) (cs : List (Addr × Cel)) (x C d : Addr) (m : Str → Option Value) (n : Nat) : Prop where
  ob : Has gs cs x (.ob (instObj C d))
  ns : Has gs cs d (.dct m n)
theorem Ins.mono {gs gs' cs cs'} (I : Ins gs cs x C d m n) (hg : ∀ g ∈ gs, g ∈ gs') (hc : ∀ p ∈ cs, p ∈ cs') : Ins gs' cs' x C d m n := ⟨I.ob.mono hg hc, I.ns.mono hg hc⟩
theorem Ins.cons {p} (I : Ins gs cs x C d m n) : Ins gs (p :: cs) x C d m n := ⟨I.ob.cons, I.ns.cons⟩
theorem Ins.consG {g} (I : Ins gs cs x C d m n) : Ins (g :: gs) cs x C d m n := ⟨I.ob.consG, I.ns.consG⟩
theorem Ins.inst (H : Kn g0 gs cs h) (I : Ins gs cs x C d m n) : ∃ o, InstAt h x (instObj C d) C (some o) ∧ ∀ name, lookIn name o = some (m name) := by
  obtain ⟨o, ho, hl⟩ := lookIn_ns (I.ns.at H)
  exact ⟨o, ⟨I.ob.at H, rfl, rfl, ho⟩, hl⟩

structure OwnOk (w : World) (C : Addr) (name : Str) : Prop where
  pg : plainGet (KK w) C name = true
  hd : hasDictIn (KK w) C = true
  at_ : ∃ attr, findIn (KK w) (.ref C) name = some attr ∧ noGet (KK w) attr = true
structure ClsOk (w : World) (C : Addr) (name : Str) (a : Value) : Prop where
  pg : plainGet (KK w) C name = true
  hd : hasDictIn (KK w) C = true
  at_ : findIn (KK w) (.ref C) name = some (some a)
  gt : specialIn (KK w) a "__get__" = some none
  hv : handedIn a = true
  hc : copiedNames.contains name = false
structure MethOk (w : World) (C : Addr) (name : Str) (f : Addr) : Prop where
  pg : plainGet (KK w) C name = true
  at_ : findIn (KK w) (.ref C) name = some (some (.ref f))
  fn : isFn (KK w) (.ref f) = true
structure SetOk (w : World) (C : Addr) (name : Str) : Prop where
  st : findIn (KK w) (.ref C) "__setattr__" = some (some (.builtin "object.__setattr__"))
  po : plainOver (KK w) C = true
  tk : takerIn (KK w) C name = some none
  hd : hasDictIn (KK w) C = true

theorem a_own {expr : Bool} {v : Value} (G : Gl w g0) (H : Kn g0 gs cs h) (I : Ins gs cs x C d m n) (ok : OwnOk w C name) (hm : m name = some v) (hv : handedIn v = true) (k : ∀ t', Q v (S r h t')) :
    wpAny (model Pg w) A (getAttr (.ref x) name expr) Q E (S r h t) := by
  obtain ⟨o, I, hl⟩ := I.inst H
  obtain ⟨attr, ha, hn⟩ := ok.at_
  exact get_value (s := S r h t) (G.of H).K I (plainGet_of ok.pg).1 (findObj_own ok.hd ha hn ((hl name).trans (by rw [hm]))) hv (k _)
theorem a_cls {expr : Bool} {a : Value} (G : Gl w g0) (H : Kn g0 gs cs h) (I : Ins gs cs x C d m n) (ok : ClsOk w C name a) (hm : m name = none) (k : ∀ t', Q a (S r h t')) :
    wpAny (model Pg w) A (getAttr (.ref x) name expr) Q E (S r h t) := by
  obtain ⟨o, I, hl⟩ := I.inst H
  exact get_value (s := S r h t) (G.of H).K I (plainGet_of ok.pg).1 (findObj_cls ok.hd ok.at_ ok.gt ok.hv ok.hc ((hl name).trans (by rw [hm]))) ok.hv (k _)
theorem a_meth {pl : Sem Bool} {f : Addr} {Q : Value × List Value → Shared → Prop} (G : Gl w g0) (H : Kn g0 gs cs h) (I : Ins gs cs x C d m n) (ok : MethOk w C name f) (hm : m name = none) (k : Q (.ref f, [.ref x]) (S r h t)) :
    wpAny (model Pg w) A (getMethod (.ref x) name pl) Q E (S r h t) := by
  obtain ⟨o, I, hl⟩ := I.inst H
  exact method_fn (s := S r h t) (G.of H).K I (plainGet_of ok.pg).1 (plainGet_of ok.pg).2 ok.at_ (beq_iff_eq.mp ok.fn) (by show (lookIn name o).map _ = _; rw [hl, hm]; rfl) k

theorem ns_set {h : Heap} {d : Addr} {m : Str → Option Value} {n : Nat} {v : Value} {t : Nat} {Q : Unit → Shared → Prop} {M : Model} (x : NsAt h d m n) 
    (k : ∀ h', NsAt h' d (fun y => if y = name then some v else m y) (n + 1) → Heap.SameBut d h h' → Q () (S r h' (t + 1))) : wpAny M A (nsSet d name v) Q E (S r h t) := by
  obtain ⟨o, es, ep, ho, hd, hk, hm, hz⟩ := x
  have hn : h.Ns d m := ⟨o, es, ep, ho, hd, hk, hm⟩
  unfold nsSet
  refine wpAny_bind (wpAny_bind (wpAny_askSetting (wpAny_pure (wpAny_bind (wpAny_mkText (wpAny_bind (wpAny_loadPart ho ?_)))))))
  have hany : es.any (·.refKey) = false := by
    rw [Array.any_eq_false']; intro e he; obtain ⟨n, t, h⟩ := hk e he; simp [DictEntry.refKey, h]
  rw [hd]
  dsimp only
  rw [aRefKeyMayBeTheName_eq, aRefKeyMayBeTheNameByArray, hany, Bool.and_false]
  refine wpAny_updatePart ho (k _ ?_ (Heap.SameBut.update ..))
  obtain ⟨oc, od, odt, osl⟩ := o
  simp only at hd
  subst hd
  cases hi : es.findIdx? (·.key.isStr name) with
  | some i =>
    refine ⟨_, _, ep, Heap.get?_update_self _ ho (by simp only [Obj.putName_eq, Obj.putNameByArray, hi]; rfl), by simp only [Obj.putName_eq, Obj.putNameByArray, hi]; rfl, hk.modify _ _, fun x => ?_, by rw [Array.size_modify]; omega⟩
    show _ = if x = name then some v else m x
    rw [← hm]; exact findBy_modify (fun n v => v.isStr n) Value.isStr_inj es name x v i hi
  | none =>
    refine ⟨_, _, ep + 1, Heap.get?_update_self _ ho (by simp only [Obj.putName_eq, Obj.putNameByArray, hi]; rfl), by simp only [Obj.putName_eq, Obj.putNameByArray, hi]; rfl, hk.push _ _ _ _, fun x => ?_, by rw [Array.size_push]; omega⟩
    show _ = if x = name then some v else m x
    rw [← hm]
    exact findBy_push (fun n v => v.isStr n) es name x _ _ v (fun y => by
      show (name == y) = decide (y = name)
      by_cases h : y = name
      · subst h; simp
      · have : ¬ name = y := fun e => h e.symm
        simp [h, this]) hi

theorem a_set {v : Value} {Q : Unit → Shared → Prop} (G : Gl w g0) (H : Kn g0 gs cs h) (ob : Has gs cs x (.ob (instObj C d))) (ok : SetOk w C name)
    (u : Up d (.dct m n) (.dct (fun y => if y = name then some v else m y) (n + 1)) cs cs') (hn : n < 900) (k : ∀ h' t', Kn g0 gs cs' h' → Q () (S r h' t')) : wpAny (model Pg w) A (setAttr (.ref x) name v) Q E (S r h t) := by
  have hns : NsAt h d m n := H.at_ _ u.mem
  obtain ⟨o, ho, hl⟩ := lookIn_ns hns
  have X := (G.of H).K
  have I : InstAt h x (instObj C d) C (some o) := ⟨ob.at H, rfl, rfl, ho⟩
  refine set_plain (s := S r h t) X I ok.st (osa_open (s := S r h (t + 1)) X I ok.po ok.tk fun b => ?_)
  obtain ⟨cd, hc, hd'⟩ := any_some ok.hd
  refine wpAny_bind (wpAny_pure (wpAny_bind (wpAny_bind (wpAny_loadPart I.at_ (wpAny_bind ((looks_clsIn X hc).here ?_))))))
  rw [hd']
  refine wpAny_pure (a := some d) (wpAny_bind (wpAny_pure (wpAny_bind ?_)))
  refine ns_set hns fun h' hn' hs => ?_
  obtain ⟨o', es, ep, ho', hd2, hk2, hm2, hz2⟩ := id hn'
  refine wpAny_bind (wpAny_lookBehind ho' (by rw [hd2]; exact pastItsLine_dict (by rw [sizeLine_eq]; omega)) ?_)
  exact wpAny_pure (k h' _ (H.upS u hs hn'))
end
section
variable {w : World} {g0 h : Heap} {gs : List Heap} {cs cs' : List (Addr × Cel)} {r : Shared} {t n : Nat} {A : Around} {E : Value → Shared → Prop} {env : Env} {L x C d : Addr} {m : Str → Option Value} {Q : Value → Shared → Prop} {name : Str} {nm : List (Str × NameKind)} {cl : List (Str × Addr)}

theorem enterA {R : Result → Shared → Prop} {f : Addr} {oc : Value} {od : Option Addr} {osl : Array (Option Value)} {fd : FuncData} {args : List Value} {kw : List (Str × Value)} {binds : List (Str × Value)} {body : List Stmt}
    (G : Gl w g0) (H : Kn g0 gs cs h) (Rr : Rm A (n + 1))
    (ho : (KK w).lookup f = some ⟨oc, od, .func fd, osl⟩) (hb : fd.body = .stmts body) (hcd : codeIn (KK w) fd.code fd.qualname = true)
    (hbind : ∀ s : Shared, s.heap = h → BindsTo s fd ⟨args, kw⟩ binds)
    (hcell : (fd.scope.names.all fun x => x.2 != .cell) = true) (hloc : (binds.all fun x => decide (fd.scope.names.lookup x.1 = some .local)) = true)
    (hco : fd.scope.isCoroutine = false) (hgen : fd.scope.isGenerator = false) (hk : fd.scope.kind = .function) (hg : fd.globals = mainGlobals) (hbl : fd.builtins = builtinsNs) (hcl : fd.closure = [])
    (k : ∀ L h₁ t₁ env A', EnvIs env L fd.scope.names [] → Rm A' n → Kn g0 gs ((L, .ns (fun x => binds.reverse.lookup x)) :: cs) h₁ → h.StaysIn h₁ → h.get? L = none →
      wpAny (model Pg w) A' (execs body env) (retQ fun v s' => R (.ok (.ret v)) s') NoE (S r h₁ t₁)) :
    codeAny (model Pg w) A (.call (.ref f) ⟨args, kw⟩) R (S r h t) := by
  have GH := G.of H
  refine codeAny_call_def (fd := fd) (body := body) (binds := binds) Rr.room (GH.K _ _ ho) rfl GH.lim (codeRec_of GH.K hcd) hb (hbind _ rfl)
    (fun x hx => by have := List.all_eq_true.mp hcell x hx; simpa using this) (locs hloc) (fun h₁ hns hk₁ => ?_) hco hgen hk
  have hn : h.get? h.objs.size = none := none_of_stays fun _ _ e => e
  refine wpAny_mono (k h.objs.size h₁ _ (callEnv fd h.objs.size f) _ ⟨hk, rfl, rfl, hg, hbl, hcl⟩ Rr.deeper (H.new hk₁ (c := .ns _) hns hn) hk₁ hn) (fun fl s' q => ?_) (fun _ _ q => q.elim)
  cases fl <;> exact q

theorem tc_weight (C : Addr) (rest : List Value) (kw : List (Str × Value)) : (Code.builtin "type.__call__" ⟨.ref C :: rest, kw⟩).weight = 1 := by kernel_rfl
theorem tc_units (C : Addr) (rest : List Value) (kw : List (Str × Value)) : (Code.builtin "type.__call__" ⟨.ref C :: rest, kw⟩).cUnits = 1 := by kernel_rfl
theorem Rm.tc (R : Rm A (n + 1)) (C : Addr) (rest : List Value) (kw : List (Str × Value)) : Rm (A.under (.builtin "type.__call__" ⟨.ref C :: rest, kw⟩)) n :=
  ⟨R.hd, by have h1 := R.dp; have h2 := tc_weight C rest kw; show A.depth + (Code.builtin "type.__call__" ⟨.ref C :: rest, kw⟩).weight + n < 1000; rw [h2]; omega,
   by have h1 := R.un; have h2 := tc_units C rest kw; show A.units + (Code.builtin "type.__call__" ⟨.ref C :: rest, kw⟩).cUnits + 10 * n < 9900; rw [h2]; omega⟩
theorem lt_none {h : Heap} : h.get? (h.objs.size + 1) = none := by
  cases e : h.get? (h.objs.size + 1) with
  | none => rfl
  | some o => have := Heap.lt_size e; exact absurd this (Nat.not_lt.mpr (Nat.le_succ _))
theorem nsAt_new {h' : Heap} {d : Addr} (e : h'.get? d = some emptyDict) : NsAt h' d (fun _ => none) 0 :=
  ⟨_, #[], 0, e, rfl, fun _ he => by simp at he, fun _ => rfl, Nat.le_refl _⟩
/-- a class is called -/
theorem new_inst {fI : Addr} {rest : List Value} {kw : List (Str × Value)} (G : Gl w g0) (H : Kn g0 gs cs h) (R : Rm A (n + 1)) (hm : makesIn (KK w) C = true)
    (hi : findIn (KK w) (.ref C) "__init__" = some (some (.ref fI))) (hf : typeIn (KK w) (.ref fI) = some (.type "function"))
    (k : ∀ x dx h' A', Rm A' n → Kn g0 gs ((x, .ob (instObj C dx)) :: (dx, .dct (fun _ => none) 0) :: cs) h' → h.get? x = none → h.StaysIn h' →
      codeAny (model Pg w) A' (.call (.ref fI) ⟨.ref x :: rest, kw⟩) (InitBack x fun r s' => match r with | .ok (.ret v) => Q v s' | _ => False) (S r h' t)) :
    wpAny (model Pg w) A (call (.ref C) rest kw) Q NoE (S r h t) := by
  have X := (G.of H).K
  refine wpAny_call (make_core (makes_of X hm) (looks_findIn X hi) (fun self => bind_fn X self hf) (.inl rfl) ?_)
  have hs : h.StaysIn ((h.push emptyDict).push (instObj C h.objs.size)) := fun b o e => Heap.get?_push_of_some _ (Heap.get?_push_of_some _ e)
  have hn : h.get? h.objs.size = none := none_of_stays fun _ _ e => e
  have hn2 : h.get? (h.objs.size + 1) = none := lt_none
  have H1 : Kn g0 gs ((h.objs.size, .dct (fun _ => none) 0) :: cs) (h.push emptyDict) := H.push (c := .dct _ 0) (nsAt_new (Heap.get?_push_size _ rfl))
  have H2 : Kn g0 gs ((h.objs.size + 1, .ob (instObj C h.objs.size)) :: (h.objs.size, .dct (fun _ => none) 0) :: cs) ((h.push emptyDict).push (instObj C h.objs.size)) := by
    have := H1.push (c := .ob (instObj C h.objs.size)) (Heap.get?_push_size _ rfl)
    rwa [Heap.size_push] at this
  refine codeAny_mono (k (h.objs.size + 1) h.objs.size _ _ ?_ H2 hn2 hs) (fun res s' q => ?_)
  · exact R.tc _ _ _
  · rcases res with e | (v | _ | _ | _) <;> first | exact q | exact q.elim | skip
/-- a class without an own __init__ is called -/
theorem new_plain (G : Gl w g0) (H : Kn g0 gs cs h) (hm : makesIn (KK w) C = true) (hi : findIn (KK w) (.ref C) "__init__" = some (some (.builtin "object.__init__")))
    (k : ∀ x dx h', Kn g0 gs ((x, .ob (instObj C dx)) :: (dx, .dct (fun _ => none) 0) :: cs) h' → h.get? x = none → h.StaysIn h' → Q (.ref x) (S r h' t)) :
    wpAny (model Pg w) A (call (.ref C) []) Q NoE (S r h t) := by
  have X := (G.of H).K
  have Y := makes_of (M := model Pg w) X hm
  have hs : h.StaysIn ((h.push emptyDict).push (instObj C h.objs.size)) := fun b o e => Heap.get?_push_of_some _ (Heap.get?_push_of_some _ e)
  have hn2 : h.get? (h.objs.size + 1) = none := lt_none
  have H1 : Kn g0 gs ((h.objs.size, .dct (fun _ => none) 0) :: cs) (h.push emptyDict) := H.push (c := .dct _ 0) (nsAt_new (Heap.get?_push_size _ rfl))
  have H2 : Kn g0 gs ((h.objs.size + 1, .ob (instObj C h.objs.size)) :: (h.objs.size, .dct (fun _ => none) 0) :: cs) ((h.push emptyDict).push (instObj C h.objs.size)) := by
    have := H1.push (c := .ob (instObj C h.objs.size)) (Heap.get?_push_size _ rfl)
    rwa [Heap.size_push] at this
  refine wpAny_call (make_core Y (looks_findIn X hi) (fun self => Looks.of_pure (oi_bind self)) (.inr ⟨rfl, rfl⟩) ?_)
  have t1 : Looks (model Pg w) ((h.push emptyDict).push (instObj C h.objs.size)) (typeOf (.ref (h.objs.size + 1))) (.ref C) := (Looks.ld (H2.ob (.head _))).andThen .now
  have t2 : Looks (model Pg w) ((h.push emptyDict).push (instObj C h.objs.size)) (isInstance (.ref (h.objs.size + 1)) (.type "object")) true := t1.andThen (Y.top.keeps hs)
  refine codeAny_call_builtin oi_plain entry_oi (@check_slot (model Pg w) _ _ _ "object.__init__" "object" "__init__" (.ref (h.objs.size + 1)) [] [] _ oi_kind oi_split t2 (oi_args (.ref (h.objs.size + 1))) ?_)
  rw [oi_run]
  exact wpAny_pure (And.intro rfl (k _ _ _ H2 hn2 hs))

/-! expressions -/
theorem callM {Q : Value → Shared → Prop} {o : Expr} {apos pos : Pos} {args : List Expr} {pl : Sem Bool} {s : Shared}
    (k : wpAny (model Pg w) A (eval o env) (fun ov s₁ => wpAny (model Pg w) A (getMethod ov name pl) (fun fx s₂ => wpAny (model Pg w) A (callWith pos fx.1 fx.2 (backTo pos (starEach args env)) []) Q E s₂) E s₁) E s)
    (he : eval (.Call (.Attribute o name apos) args [] pos) env = (do
      let ov ← eval o env
      standAt apos.atName
      let (f, first) ← holding [ov] (getMethod ov name pl)
      callWith pos f first (backTo pos (starEach args env)) (backToKw pos (keywordEach [] env))) := by exact rfl) :
    wpAny (model Pg w) A (eval (.Call (.Attribute o name apos) args [] pos) env) Q E s := methodCall_KW k he
theorem cw {Q : Value → Shared → Prop} {pos : Pos} {f : Value} {first : List Value} {e : Expr} {rest : List Expr} {s : Shared} (G : Gl w g0) (hk : keepIn (KK w) f = true)
    (k : wpAny (model Pg w) A (spliced (backTo pos (starEach (e :: rest) env))) (fun vs s₁ => g0.StaysIn s₁.heap ∧ wpAny (model Pg w) A (call f (first ++ vs)) Q E s₁) E s)
    (he : starEach (e :: rest) env = (false, eval e env) :: starEach rest env := by exact rfl) (hplain : (backTo pos (starEach rest env)).any (·.1) = false := by exact rfl) :
    wpAny (model Pg w) A (callWith pos f first (backTo pos (starEach (e :: rest) env)) []) Q E s := by
  rw [he] at k ⊢
  exact callWith_of (P := (KK w).In) (by show ((false || (backTo pos (starEach rest env)).any (·.1)) || false) = false; rw [hplain]; rfl) (keeps_K hk)
    (evalArgs_plain (wpAny_mono k (fun vs s q => ⟨G.K.keeps q.1, q.2⟩) fun _ _ q => q))
theorem cw0 {Q : Value → Shared → Prop} {pos : Pos} {f : Value} {first : List Value} (G : Gl w g0) (H : Kn g0 gs cs h) (hk : keepIn (KK w) f = true)
    (k : wpAny (model Pg w) A (call f (first ++ [])) Q E (S r h t)) :
    wpAny (model Pg w) A (callWith pos f first (backTo pos (starEach [] env)) []) Q E (S r h t) := callWith_K0 (s := S r h t) (G.of H).K hk k
theorem callN0 {Q : Value → Shared → Prop} {x : Str} {np pos : Pos} {f : Value} (G : Gl w g0) (ev : EnvIs env L nm cl) (H : Kn g0 gs cs h)
    (hl : nm.lookup x = some .globalImplicit) (hv : nsIn (KK w) mainGlobals x = some (some f)) (hk : keepIn (KK w) f = true)
    (k : wpAny (model Pg w) A (call f []) Q E (S r h t)) (hd : (x == ("__debug__" : Str)) = false := by decide) :
    wpAny (model Pg w) A (eval (.Call (.Name x np) [] [] pos) env) Q E (S r h t) :=
  wpAny_Call_NameR (n_glob G ev H hl hv (cw0 G H hk k) hd)
theorem tr_inst (G : Gl w g0) (H : Kn g0 gs cs h) {Q : Bool → Shared → Prop} (I : Ins gs cs x C d m n) (hs : findIn (KK w) (.ref C) "__bool__" = some none) (hl : findIn (KK w) (.ref C) "__len__" = some none) (k : Q true (S r h t)) :
    wpAny (model Pg w) A (truthy (.ref x)) Q E (S r h t) := by
  have X := (G.of H).K
  obtain ⟨o, I, _⟩ := I.inst H
  unfold truthy
  refine wpAny_bind (m := callSpecial? (.ref x) (Str.ofString "__bool__")) (wpAny_bind (wpAny_bind (I.type.here ((looks_findIn X hs).here (wpAny_pure ?_)))))
  refine wpAny_bind (wpAny_bind (I.type.here ((looks_findIn X hl).here ?_)))
  exact wpAny_pure k
theorem isi_str_str {x : Str} {tx : Tok} {s : Shared} (k : Q (.bool true) s) : wpAny (model Pg w) A (call (.builtin "isinstance") [.str x tx, .type "str"]) Q E s :=
  call_isinstance_yes (Tx := "str") (typeIs_str _ _ _) (by kernel_rfl) (by rw [isSubtype_type]; kernel_rfl) k
theorem isi_int_str {x : Int} {tx : Tok} (k : ∀ t', Q (.bool false) (S r h t')) : wpAny (model Pg w) A (call (.builtin "isinstance") [.int x tx, .type "str"]) Q E (S r h t) :=
  call_isinstance (isinstance_false_int (by decide) (by kernel_rfl) (by rw [isSubtype_type]; kernel_rfl)) (k _)
end
theorem gl_Leaf_kp (w : World) : keepIn (KK w) (.ref 374) = true := by exact rfl
theorem gl_Node_kp (w : World) : keepIn (KK w) (.ref 294) = true := by exact rfl
theorem gl_Mark_kp (w : World) : keepIn (KK w) (.ref 31) = true := by exact rfl
theorem mk_Leaf (w : World) : makesIn (KK w) 374 = true := by exact rfl
theorem mk_Node (w : World) : makesIn (KK w) 294 = true := by exact rfl
theorem mk_Mark (w : World) : makesIn (KK w) 31 = true := by exact rfl
theorem in_Mark (w : World) : findIn (KK w) (.ref 31) "__init__" = some (some (.builtin "object.__init__")) := by exact rfl
theorem in_Leaf (w : World) : findIn (KK w) (.ref 374) "__init__" = some (some (.ref 312)) := by exact rfl
theorem in_Node (w : World) : findIn (KK w) (.ref 294) "__init__" = some (some (.ref 180)) := by exact rfl
section
variable {w : World} {g0 h : Heap} {gs : List Heap} {cs cs' : List (Addr × Cel)} {r : Shared} {t n : Nat} {A : Around} {E : Value → Shared → Prop} {env : Env} {L x C d : Addr} {m : Str → Option Value} {Q : Value → Shared → Prop} {name : Str} {nm : List (Str × NameKind)} {cl : List (Str × Addr)}

theorem x_asgA {Q : Flow → Shared → Prop} {o value : Expr} {attr : Str} {p' pos : Pos} {s : Shared}
    (k : wpAny (model Pg w) A (eval value env) (fun v s₁ => wpAny (model Pg w) A (eval o env) (fun ov s₂ => wpAny (model Pg w) A (setAttr ov attr v) (fun _ => Q .next) E s₂) E s₁) E s)
    (hs : swapsWith value (some (.Attribute o attr p')) pos.line env = pure false := by exact rfl) :
    wpAny (model Pg w) A (exec (.Assign [.Attribute o attr p'] value pos) env) Q E s := plainObj_wpAny_Assign_Attribute k hs
theorem as_attr {Q : Unit → Shared → Prop} {o : Expr} {attr : Str} {p' : Pos} {v : Value} {s : Shared} (k : wpAny (model Pg w) A (eval o env) (fun ov s₂ => wpAny (model Pg w) A (setAttr ov attr v) Q E s₂) E s) :
    wpAny (model Pg w) A (assign (.Attribute o attr p') env v) Q E s := by
  rw [assign_Attribute]
  exact wpAny_bind (wpAny_holding (wpAny_mono k (fun ov s₂ h₂ => wpAny_bind (wpAny_standAt (wpAny_bind (wpAny_holding (wpAny_mono h₂ (fun _ s₃ h₃ => wpAny_release' h₃) fun _ _ q => q))))) fun _ _ q => q))
theorem as_tup {Q : Unit → Shared → Prop} {elts : List Expr} {j : Nat} {pos : Pos} {a : Addr} {xs : Array Value} (hh : A.handled = none) (H : Kn g0 gs cs h) (ht : Has gs cs a (.tup xs))
    (hn : (assignEach elts env).length = xs.size) (hstar : (assignEach elts env).findIdx? (·.1) = none)
    (k : ∀ h', Kn g0 gs cs h' → h.StaysIn h' → wpAny (model Pg w) A (assignInOrder ((assignEach elts env).map (·.2)) xs.toList) Q E (S r h' t)) :
    wpAny (model Pg w) A (assign (.Tuple elts j pos) env (.ref a)) Q E (S r h t) := by
  refine wpAny_assign_Tuple hh (ht.at H) hn hstar fun h' hs => ?_
  have st : h.StaysIn h' := fun b o e => hs b o (Nat.ne_of_lt (Heap.lt_size e)) e
  exact k h' (H.stays st) st
theorem as_nil {Q : Unit → Shared → Prop} {s : Shared} (k : Q () s) : wpAny (model Pg w) A (assignInOrder (List.map (·.2) (assignEach [] env)) []) Q E s := wpAny_assignInOrder_none k
theorem as_more {Q : Unit → Shared → Prop} {e : Expr} {es : List Expr} {v : Value} {vs : List Value} {s : Shared}
    (k : wpAny (model Pg w) A (assign e env v) (fun _ s₁ => wpAny (model Pg w) A (assignInOrder (List.map (·.2) (assignEach es env)) vs) Q E s₁) E s)
    (he : assignEach (e :: es) env = (false, assign e env) :: assignEach es env := by exact rfl) :
    wpAny (model Pg w) A (assignInOrder (List.map (·.2) (assignEach (e :: es) env)) (v :: vs)) Q E s := by
  rw [he]; exact wpAny_assignInOrder_more k
theorem x_asgT {Q : Flow → Shared → Prop} {elts : List Expr} {j : Nat} {value : Expr} {p' pos : Pos} {s : Shared}
    (k : wpAny (model Pg w) A (eval value env) (fun v s₁ => wpAny (model Pg w) A (assign (.Tuple elts j p') env v) (fun _ => Q .next) E s₁) E s)
    (hs : exec (.Assign [.Tuple elts j p'] value pos) env = (do standAt pos; let v ← eval value env; assign (.Tuple elts j p') env v; pure .next) := by exact rfl) :
    wpAny (model Pg w) A (exec (.Assign [.Tuple elts j p'] value pos) env) Q E s := by
  rw [hs]
  exact wpAny_bind (wpAny_standAt (wpAny_bind (wpAny_mono k (fun v s₁ q => wpAny_bind (wpAny_mono q (fun _ s₂ z => wpAny_pure z) fun _ _ q => q)) fun _ _ q => q)))
theorem x_assert {Q : Flow → Shared → Prop} {test : Expr} {msg : Option Expr} {pos : Pos} {s : Shared}
    (k : wpAny (model Pg w) A (isTrue test env (eval test env)) (fun b s₁ => b = true ∧ Q .next s₁) E s) : wpAny (model Pg w) A (exec (.Assert test msg pos) env) Q E s := wpAny_Assert_holds k
theorem e_slice {Q : Value → Shared → Prop} {lo hi : Option Expr} {p : Pos} (H : Kn g0 gs cs h)
    (k : wpAny (model Pg w) A (evalPart lo env) (fun l s₁ => wpAny (model Pg w) A (evalPart hi env) (fun u s₂ => ∃ gs cs h1 t1, s₂ = S r h1 t1 ∧ Kn g0 gs cs h1 ∧
      ∀ a h', Kn g0 gs ((a, .ob { cls := .type "slice", data := .fields #[l, u, .none] }) :: cs) h' → h1.StaysIn h' → Q (.ref a) (S r h' t1)) E s₁) E (S r h t)) :
    wpAny (model Pg w) A (eval (.Slice lo hi none p) env) Q E (S r h t) := by
  refine wpAny_Slice (wpAny_mono k (fun l s₁ q => wpAny_mono q (fun u s₂ q => ?_) fun _ _ q => q) fun _ _ q => q)
  obtain ⟨gs, cs, h1, t1, rfl, H, k⟩ := q
  rw [evalPart_none]
  exact wpAny_pure (k _ _ (H.push (Heap.get?_push_size _ rfl)) fun b o e => Heap.get?_push_of_some _ e)
theorem ep_none {Q : Value → Shared → Prop} {s : Shared} (k : Q .none s) : wpAny (model Pg w) A (evalPart none env) Q E s := by rw [evalPart_none]; exact wpAny_pure k
theorem ep_some {Q : Value → Shared → Prop} {e : Expr} {s : Shared} (k : wpAny (model Pg w) A (eval e env) Q E s) : wpAny (model Pg w) A (evalPart (some e) env) Q E s := k
theorem l_slice {value slice : Expr} {l sl : Addr} {xs : Array Value} {vl vu : Value} {lo hi : Option Int} {ops : List Value} (H : Kn g0 gs cs h) (hl : Has gs cs l (.lst xs))
    (hs : (sl, Cel.ob { cls := .type "slice", data := .fields #[vl, vu, .none] }) ∈ cs) (pl : IsPart vl lo) (pu : IsPart vu hi) (hsz : xs.size ≤ 1000)
    (k : ∀ a h', Kn g0 gs ((a, .lst (slicePick xs lo hi none)) :: cs) h' → h.StaysIn h' → Q (.ref a) (S r h' t))
    (he : subscripted slice false (.ref l) (.ref sl) = operate ops (getItem (.ref l) (.ref sl)) := by with_unfolding_all rfl) :
    wpAny (model Pg w) A (subscriptTail value slice (.ref l) (.ref sl)) Q E (S r h t) :=
  tail_any (s := S r h t) (Heap.IsList.typeIs (hl.at H)) slot_list_getitem.lookup (wpAny_getItem_list_slice (s := S r h t) (hl.at H) ⟨_, H.ob hs, rfl, rfl⟩ pl pu .none (by simp)
    (k _ _ (H.push (c := .lst _) ⟨_, Heap.get?_push_size _ rfl, rfl, _, rfl⟩) fun b o e => Heap.get?_push_of_some _ e) (by rw [sizeLine_eq]; omega)) he
theorem i_le {Q : Value → Shared → Prop} {a b : Int} {ta tb : Tok} {s : Shared} (k : Q (.bool (decide (a ≤ b))) s) : wpAny (model Pg w) A (compareOp .LtE (.int a ta) (.int b tb)) Q E s := le_int k
theorem i_ge {Q : Value → Shared → Prop} {a b : Int} {ta tb : Tok} {s : Shared} (k : Q (.bool (decide (a ≥ b))) s) : wpAny (model Pg w) A (compareOp .GtE (.int a ta) (.int b tb)) Q E s := ge_int k
theorem i_lt {Q : Value → Shared → Prop} {a b : Int} {ta tb : Tok} {s : Shared} (k : Q (.bool (decide (a < b))) s) : wpAny (model Pg w) A (compareOp .Lt (.int a ta) (.int b tb)) Q E s := lt_int k
theorem i_isN {Q : Value → Shared → Prop} {a : Value} {s : Shared} (hp : plainIs a .none = true) (k : Q (.bool (a == .none)) s) : wpAny (model Pg w) A (compareOp .Is a .none) Q E s := wpAny_is_plain hp k
theorem i_isNot {Q : Value → Shared → Prop} {a : Value} {s : Shared} (hp : plainIs a .none = true) (k : Q (.bool (!(a == .none))) s) : wpAny (model Pg w) A (compareOp .IsNot a .none) Q E s := wpAny_isNot_plain hp k
/-- how a for ends -/
def ForEnd (Q : Flow → Shared → Prop) : Result → Shared → Prop
  | .ok f, s' => Q f s'
  | .error _, _ => False
theorem for_next {Q : Flow → Shared → Prop} {f : Flow} {s : Shared} (k : Q f s) : ForEnd Q (.ok f) s := k
theorem x_for {Q : Flow → Shared → Prop} {target iter : Expr} {body orelse : List Stmt} {pos : Pos} {s : Shared}
    (k : wpAny (model Pg w) A (eval iter env) (fun x s₁ => wpAny (model Pg w) A (pyIter x) (fun it s₂ => codeAny (model Pg w) A (.forLoop target it body orelse env) (ForEnd Q) s₂) NoE s₁) NoE s)
    (hs : ∀ x, foldedSetIterable iter env x = pure x := by exact fun _ => rfl) :
    wpAny (model Pg w) A (exec (.For target iter body orelse pos) env) Q NoE s :=
  wpAny_For (wpAny_mono k (fun x s₁ q => wpAny_mono q (fun it s₂ q => codeAny_mono q fun res s' q => by rcases res with e | f; exact q.elim; exact q) fun _ _ q => q) fun _ _ q => q) hs
theorem x_expr {Q : Flow → Shared → Prop} {e : Expr} {pos : Pos} {s : Shared} (ev : EnvIs env L nm cl) (k : wpAny (model Pg w) A (eval e env) (fun _ s₁ => Q .next s₁) E s)
    (hs : swapsWith e none pos.line env = pure false := by exact rfl) : wpAny (model Pg w) A (exec (.Expr e pos) env) Q E s :=
  wpAny_Expr_any k (by unfold interactive; rw [ev.kind]; rfl) hs
theorem c_list {l : Addr} {xs : Array Value} (H : Kn g0 gs cs h) (hl : Has gs cs l (.lst xs)) (hz : xs.size ≤ 1000) (k : ∀ a h', Kn g0 gs ((a, .lst xs) :: cs) h' → h.StaysIn h' → Q (.ref a) (S r h' t)) :
    wpAny (model Pg w) A (call (.type "list") [.ref l]) Q E (S r h t) := by
  obtain ⟨o, ho, hc, n, hd⟩ : h.IsList l xs := hl.at H
  refine call_list_seq (s := S r h t) l (.inl rfl) ho hc hd (fun h' c' hs hl' => ?_) (by rw [sizeLine_eq]; omega)
  exact k _ h' (H.new hs ⟨_, hl', rfl, _, rfl⟩ (none_of_stays fun _ _ e => e)) hs
theorem itL {l : Addr} {xs : Array Value} (H : Kn g0 gs cs h) (hl : Has gs cs l (.lst xs)) (k : ∀ I h', Kn g0 gs ((I, .lit l 0) :: cs) h' → h.StaysIn h' → Q (.ref I) (S r h' t)) : wpAny (model Pg w) A (pyIter (.ref l)) Q E (S r h t) := it_list H (hl.at H) k
theorem itT {l : Addr} {xs : Array Value} (H : Kn g0 gs cs h) (hl : Has gs cs l (.tup xs)) (k : ∀ I h', Kn g0 gs ((I, .tit l 0) :: cs) h' → h.StaysIn h' → Q (.ref I) (S r h' t)) : wpAny (model Pg w) A (pyIter (.ref l)) Q E (S r h t) := it_tup H (hl.at H) k
theorem it_name {x : Str} {p : Pos} {Q : Bool → Shared → Prop} {s : Shared} (k : wpAny (model Pg w) A (eval (.Name x p) env) (fun v s₁ => wpAny (model Pg w) A (truthy v) Q E s₁) E s) : wpAny (model Pg w) A (isTrue (.Name x p) env (eval (.Name x p) env)) Q E s := wpAny_isTrue_value k
theorem it_call {f : Expr} {a : List Expr} {ks : List Keyword} {p : Pos} {Q : Bool → Shared → Prop} {s : Shared} (k : wpAny (model Pg w) A (eval (.Call f a ks p) env) (fun v s₁ => wpAny (model Pg w) A (truthy v) Q E s₁) E s) : wpAny (model Pg w) A (isTrue (.Call f a ks p) env (eval (.Call f a ks p) env)) Q E s := wpAny_isTrue_value k
theorem it_attr {o : Expr} {a : Str} {p : Pos} {Q : Bool → Shared → Prop} {s : Shared} (k : wpAny (model Pg w) A (eval (.Attribute o a p) env) (fun v s₁ => wpAny (model Pg w) A (truthy v) Q E s₁) E s) : wpAny (model Pg w) A (isTrue (.Attribute o a p) env (eval (.Attribute o a p) env)) Q E s := wpAny_isTrue_value k
theorem tr_none {Q : Bool → Shared → Prop} {s : Shared} (k : Q false s) : wpAny (model Pg w) A (truthy .none) Q E s := by
  have e : (truthy .none : Sem Bool) = pure false := by first | rfl | with_unfolding_all rfl
  rw [e]; exact wpAny_pure k
theorem t_at {value slice : Expr} {l : Addr} {xs : Array Value} {i : Int} {ti : Tok} {v : Value} (H : Kn g0 gs cs h) (hl : Has gs cs l (.tup xs)) (h0 : 0 ≤ i) (hi : i < 1000) (hx : xs.toList[i.toNat]? = some v) (k : Q v (S r h t))
    (hs : subscripted slice false (.ref l) (.int i ti) = operate [.ref l, .int i ti] (getItem (.ref l) (.int i ti)) := by with_unfolding_all rfl) :
    wpAny (model Pg w) A (subscriptTail value slice (.ref l) (.int i ti)) Q E (S r h t) := t_get (s := S r h t) (hl.at H) i.toNat (by omega) (by omega) hx k hs
theorem l_at {value slice : Expr} {l : Addr} {xs : Array Value} {i : Int} {ti : Tok} {v : Value} (H : Kn g0 gs cs h) (hl : Has gs cs l (.lst xs)) (h0 : 0 ≤ i) (hi : i < 1000) (hx : xs.toList[i.toNat]? = some v) (k : Q v (S r h t))
    (hs : subscripted slice false (.ref l) (.int i ti) = operate [.ref l, .int i ti] (getItem (.ref l) (.int i ti)) := by with_unfolding_all rfl) :
    wpAny (model Pg w) A (subscriptTail value slice (.ref l) (.int i ti)) Q E (S r h t) := l_get (s := S r h t) (hl.at H) h0 (by omega) hx k hs
theorem cwB {pos : Pos} {id : String} {first : List Value} {e : Expr} {rest : List Expr} {s : Shared}
    (k : wpAny (model Pg w) A (spliced (backTo pos (starEach (e :: rest) env))) (fun vs s₁ => wpAny (model Pg w) A (call (.builtin id) (first ++ vs)) Q E s₁) E s)
    (he : starEach (e :: rest) env = (false, eval e env) :: starEach rest env := by exact rfl) (hplain : (backTo pos (starEach rest env)).any (·.1) = false := by exact rfl) :
    wpAny (model Pg w) A (callWith pos (.builtin id) first (backTo pos (starEach (e :: rest) env)) []) Q E s := by
  rw [he] at k ⊢
  exact callWith_of (P := fun _ => True) (by show ((false || (backTo pos (starEach rest env)).any (·.1)) || false) = false; rw [hplain]; rfl) (fun _ _ => ⟨.machine, .inr (.inl rfl), Looks.of_pure rfl⟩)
    (evalArgs_plain (wpAny_mono k (fun vs s q => ⟨trivial, q⟩) fun _ _ q => q))
theorem cwB0 {pos : Pos} {id : String} {first : List Value} {s : Shared} (k : wpAny (model Pg w) A (call (.builtin id) (first ++ [])) Q E s) :
    wpAny (model Pg w) A (callWith pos (.builtin id) first (backTo pos (starEach [] env)) []) Q E s :=
  callWith_of (P := fun _ => True) rfl (fun _ _ => ⟨.machine, .inr (.inl rfl), Looks.of_pure rfl⟩) (evalArgs_nil3 ⟨trivial, k⟩)
theorem b_addS {x y : Str} {tx ty : Tok} (hz : x.length + y.length ≤ 1000) (k : ∀ tk t', Q (.str (x ++ y) tk) (S r h t')) : wpAny (model Pg w) A (binaryOp .Add (.str x tx) (.str y ty)) Q E (S r h t) :=
  PyProof.Rows.add_str (s := S r h t) (fun t' tk => k t' tk) (by rw [sizeLine_eq]; omega)
theorem t_slice {value slice : Expr} {l sl : Addr} {xs : Array Value} {a : Int} {u : Tok} {ops : List Value} (H : Kn g0 gs cs h) (hl : Has gs cs l (.tup xs))
    (hs : (sl, Cel.ob { cls := .type "slice", data := .fields #[.int a u, .none, .none] }) ∈ cs) (h1 : 1 ≤ a) (ha : a ≤ xs.size) (hsz : xs.size ≤ 1000)
    (k : ∀ q h', Kn g0 gs ((q, .tup (xs.toList.drop a.toNat).toArray) :: cs) h' → h.StaysIn h' → Q (.ref q) (S r h' t))
    (he : subscripted slice false (.ref l) (.ref sl) = operate ops (getItem (.ref l) (.ref sl)) := by with_unfolding_all rfl) :
    wpAny (model Pg w) A (subscriptTail value slice (.ref l) (.ref sl)) Q E (S r h t) := by
  obtain ⟨a, rfl⟩ : ∃ n : Nat, a = n := ⟨a.toNat, by omega⟩
  exact tail_any (T := "tuple") (s := S r h t) (IsTup.typeIs (hl.at H)) slot_tuple_getitem.lookup (getItem_tuple_from (s := S r h t) (hl.at H) ⟨_, H.ob hs, rfl, rfl⟩ (by omega) (by omega)
    (k _ _ (H.push (c := .tup _) ⟨_, Heap.get?_push_size _ rfl, rfl, _, rfl⟩) fun b o e => Heap.get?_push_of_some _ e) (by rw [sizeLine_eq]; omega)) he
end
/-- what the law plans -/
inductive Plan where
  | leaf (wd bl : Str) (row : Int)
  | one (k : Int) (p : Plan)
  | two (k : Int) (p q : Plan)

/-- a plan stands at v -/
def PlanAt (F : Addr → Cel → Prop) : Plan → Value → Prop
  | .leaf wd bl row, v => ∃ a t1 t2 t3, v = .ref a ∧ F a (.tup #[.str wd t1, .str bl t2, .int row t3])
  | .one k p, v => ∃ a tk l x, v = .ref a ∧ F a (.tup #[.int k tk, .ref l]) ∧ F l (.lst #[x]) ∧ PlanAt F p x
  | .two k p q, v => ∃ a tk l x y, v = .ref a ∧ F a (.tup #[.int k tk, .ref l]) ∧ F l (.lst #[x, y]) ∧ PlanAt F p x ∧ PlanAt F q y
theorem PlanAt.mono {F F' : Addr → Cel → Prop} (m : ∀ a c, F a c → F' a c) : ∀ {p : Plan} {v : Value}, PlanAt F p v → PlanAt F' p v
  | .leaf .., v, ⟨a, t1, t2, t3, e, x⟩ => ⟨a, t1, t2, t3, e, m _ _ x⟩
  | .one k p, v, ⟨a, tk, l, x, e, x1, x2, x3⟩ => ⟨a, tk, l, x, e, m _ _ x1, m _ _ x2, x3.mono m⟩
  | .two k p q, v, ⟨a, tk, l, x, y, e, x1, x2, x3, x4⟩ => ⟨a, tk, l, x, y, e, m _ _ x1, m _ _ x2, x3.mono m, x4.mono m⟩
/-- what a frozen part holds -/
def Fz (g : Heap) (a : Addr) (c : Cel) : Prop := c.At g a

/-- well made, at most d deep -/
def Plan.ok : Nat → Plan → Prop
  | _, .leaf wd bl row => wd.length ≤ 1 ∧ bl.length ≤ 2
  | 0, _ => False
  | d + 1, .one k p => 256 ≤ k ∧ p.ok d
  | d + 1, .two k p q => 256 ≤ k ∧ p.ok d ∧ q.ok d
theorem Plan.ok.up : ∀ {d : Nat} {p : Plan}, p.ok d → p.ok (d + 1)
  | _, .leaf .., h => by simpa [Plan.ok] using h
  | 0, .one .., h => h.elim
  | 0, .two .., h => h.elim
  | d + 1, .one k p, h => ⟨h.1, h.2.up⟩
  | d + 1, .two k p q, h => ⟨h.1, h.2.1.up, h.2.2.up⟩

/-- its words are texts -/
def Plan.wordy : Plan → Prop
  | .leaf wd _ _ => PyData.strOk wd = true
  | .one _ p => p.wordy
  | .two _ p q => p.wordy ∧ q.wordy
def Plan.kids : Plan → List Plan
  | .leaf .. => []
  | .one _ p => [p]
  | .two _ p q => [p, q]
def Plan.kind : Plan → Int
  | .leaf .. => 1
  | .one k _ => k
  | .two k _ _ => k
def Plan.isNode : Plan → Prop
  | .leaf .. => False
  | _ => True
theorem PlanAt.node {F : Addr → Cel → Prop} : ∀ {p : Plan} {v : Value}, PlanAt F p v → p.isNode → ∃ a tk l vs, v = .ref a ∧ F a (.tup #[.int p.kind tk, .ref l]) ∧ F l (.lst vs.toArray) ∧ All2 (PlanAt F) p.kids vs
  | .leaf .., _, _, h => h.elim
  | .one k p, v, ⟨a, tk, l, x, e, x1, x2, x3⟩, _ => ⟨a, tk, l, [x], e, x1, x2, x3, trivial⟩
  | .two k p q, v, ⟨a, tk, l, x, y, e, x1, x2, x3, x4⟩, _ => ⟨a, tk, l, [x, y], e, x1, x2, x3, x4, trivial⟩
theorem Plan.ok.node {d : Nat} {p : Plan} (h : p.ok d) (hn : p.isNode) : ∃ d1, d = d1 + 1 ∧ 256 ≤ p.kind ∧ (∀ q ∈ p.kids, q.ok d1) ∧ p.kids.length ≤ 2 := by
  cases d with
  | zero => cases p <;> first | exact hn.elim | exact h.elim
  | succ d =>
    cases p with
    | leaf => exact hn.elim
    | one k p => exact ⟨d, rfl, h.1, fun q hq => by cases List.mem_singleton.mp hq; exact h.2, by simp [Plan.kids]⟩
    | two k p q =>
      refine ⟨d, rfl, h.1, fun x hx => ?_, by simp [Plan.kids]⟩
      rcases List.mem_cons.mp hx with rfl | hx
      · exact h.2.1
      · cases List.mem_singleton.mp hx; exact h.2.2
/-- the names of a leaf -/
structure LeafNs (m : Str → Option Value) (mk fa ch : Addr) (wd bl : Str) (row : Int) : Prop where
  mark : m "mark" = some (.ref mk)
  pre : ∃ t, m "_prefix" = some (.str bl t)
  line : ∃ t, m "lineno" = some (.int row t)
  col : ∃ t, m "column" = some (.int row t)
  typ : ∃ t, m "type" = some (.int 1 t)
  val : ∃ t, m "value" = some (.str wd t)
  fix : m "fixers_applied" = some (.ref fa)
  chl : m "children" = some (.ref ch)
  dep : ∃ t, m "bracket_depth" = some (.int 0 t)
  eq : m "_eq" = none
  cl : m "clone" = none
  lv : m "leaves" = none
  rp : m "replace" = none
  cg : m "changed" = none
/-- the names of a node -/
structure NodeNs (m : Str → Option Value) (mk l : Addr) (k : Int) : Prop where
  mark : m "mark" = some (.ref mk)
  typ : ∃ t, m "type" = some (.int k t)
  chl : m "children" = some (.ref l)
  fix : m "fixers_applied" = some .none
  pm : m "prev_sibling_map" = some .none
  nm : m "next_sibling_map" = some .none
  eq : m "_eq" = none
  cl : m "clone" = none
  lv : m "leaves" = none
  rp : m "replace" = none
  cg : m "changed" = none
  sc : m "set_child" = none
  r1 : m "_replace_in_sibling_maps" = none
  r2 : m "_replace_child_in_sibling_maps" = none
def putAt (m : Str → Option Value) (x : Str) (v : Value) : Str → Option Value := fun y => if y = x then some v else m y
theorem putAt_self (m : Str → Option Value) (x : Str) (v : Value) : putAt m x v x = some v := if_pos rfl
theorem putAt_other {m : Str → Option Value} {x y : Str} {v : Value} (h : y ≠ x) : putAt m x v y = m y := if_neg h
/-- a name that neither kind of names speaks of -/
def side (x : Str) : Prop := x = "parent" ∨ x = "was_changed"
theorem LeafNs.put {m mk fa ch wd bl row} (N : LeafNs m mk fa ch wd bl row) {x : Str} {v : Value} (h : side x) : LeafNs (putAt m x v) mk fa ch wd bl row := by
  have o : ∀ y : Str, y ≠ "parent" → y ≠ "was_changed" → putAt m x v y = m y := fun y h1 h2 => putAt_other (by rcases h with rfl | rfl <;> assumption)
  refine ⟨?_, ?_, ?_, ?_, ?_, ?_, ?_, ?_, ?_, ?_, ?_, ?_, ?_, ?_⟩ <;> rw [o _ (by decide) (by decide)]
  · exact N.mark
  · exact N.pre
  · exact N.line
  · exact N.col
  · exact N.typ
  · exact N.val
  · exact N.fix
  · exact N.chl
  · exact N.dep
  · exact N.eq
  · exact N.cl
  · exact N.lv
  · exact N.rp
  · exact N.cg
theorem NodeNs.put {m mk l k} (N : NodeNs m mk l k) {x : Str} {v : Value} (h : side x) : NodeNs (putAt m x v) mk l k := by
  have o : ∀ y : Str, y ≠ "parent" → y ≠ "was_changed" → putAt m x v y = m y := fun y h1 h2 => putAt_other (by rcases h with rfl | rfl <;> assumption)
  refine ⟨?_, ?_, ?_, ?_, ?_, ?_, ?_, ?_, ?_, ?_, ?_, ?_, ?_, ?_⟩ <;> rw [o _ (by decide) (by decide)]
  · exact N.mark
  · exact N.typ
  · exact N.chl
  · exact N.fix
  · exact N.pm
  · exact N.nm
  · exact N.eq
  · exact N.cl
  · exact N.lv
  · exact N.rp
  · exact N.cg
  · exact N.sc
  · exact N.r1
  · exact N.r2

/-- a tree of instances -/
inductive Tr where
  | leaf (x d mk md fa ch : Addr) (m : Str → Option Value) (n : Nat)
  | one (x d mk md l : Addr) (m : Str → Option Value) (n : Nat) (c : Tr)
  | two (x d mk md l : Addr) (m : Str → Option Value) (n : Nat) (c e : Tr)
namespace Tr
def x : Tr → Addr | .leaf x .. => x | .one x .. => x | .two x .. => x
def d : Tr → Addr | .leaf _ d .. => d | .one _ d .. => d | .two _ d .. => d
def mk : Tr → Addr | .leaf _ _ mk .. => mk | .one _ _ mk .. => mk | .two _ _ mk .. => mk
def m : Tr → Str → Option Value | .leaf _ _ _ _ _ _ m _ => m | .one _ _ _ _ _ m _ _ => m | .two _ _ _ _ _ m _ _ _ => m
def n : Tr → Nat | .leaf _ _ _ _ _ _ _ n => n | .one _ _ _ _ _ _ n _ => n | .two _ _ _ _ _ _ n _ _ => n
def C : Tr → Addr | .leaf .. => 374 | _ => 294
def tail : Tr → List (Addr × Cel)
  | .leaf x d mk md fa ch m n => [(x, .ob (instObj 374 d)), (mk, .ob (instObj 31 md)), (md, .dct (fun _ => none) 0), (fa, .lst #[]), (ch, .lst #[])]
  | .one x d mk md l m n c => (x, .ob (instObj 294 d)) :: (mk, .ob (instObj 31 md)) :: (md, .dct (fun _ => none) 0) :: (l, .lst #[.ref c.x]) :: (c.d, .dct c.m c.n) :: c.tail
  | .two x d mk md l m n c e => (x, .ob (instObj 294 d)) :: (mk, .ob (instObj 31 md)) :: (md, .dct (fun _ => none) 0) :: (l, .lst #[.ref c.x, .ref e.x]) :: (c.d, .dct c.m c.n) :: c.tail ++ (e.d, .dct e.m e.n) :: e.tail
def cells (t : Tr) : List (Addr × Cel) := (t.d, .dct t.m t.n) :: t.tail
def put (t : Tr) (m : Str → Option Value) (n : Nat) : Tr := match t with
  | .leaf x d mk md fa ch _ _ => .leaf x d mk md fa ch m n
  | .one x d mk md l _ _ c => .one x d mk md l m n c
  | .two x d mk md l _ _ c e => .two x d mk md l m n c e
def setN (t : Tr) (x : Str) (v : Value) : Tr := t.put (putAt t.m x v) (t.n + 1)
theorem put_tail (t : Tr) (m n) : (t.put m n).tail = t.tail := by cases t <;> rfl
theorem put_d (t : Tr) (m n) : (t.put m n).d = t.d := by cases t <;> rfl
theorem put_x (t : Tr) (m n) : (t.put m n).x = t.x := by cases t <;> rfl
theorem put_C (t : Tr) (m n) : (t.put m n).C = t.C := by cases t <;> rfl
theorem put_mk (t : Tr) (m n) : (t.put m n).mk = t.mk := by cases t <;> rfl
theorem put_m (t : Tr) (m n) : (t.put m n).m = m := by cases t <;> rfl
theorem put_n (t : Tr) (m n) : (t.put m n).n = n := by cases t <;> rfl
theorem put_cells (t : Tr) (m n) : (t.put m n).cells = (t.d, .dct m n) :: t.tail := by cases t <;> rfl
theorem setN_cells (t : Tr) (x v) : (t.setN x v).cells = (t.d, .dct (putAt t.m x v) (t.n + 1)) :: t.tail := put_cells _ _ _
theorem x_mem (t : Tr) : (t.x, Cel.ob (instObj t.C t.d)) ∈ t.cells := by cases t <;> exact .tail _ (.head _)

/-- the tree is as planned -/
def Ok : Tr → Plan → Prop
  | .leaf x d mk md fa ch m n, .leaf wd bl row => LeafNs m mk fa ch wd bl row ∧ n ≤ 100
  | .one x d mk md l m n c, .one k p => NodeNs m mk l k ∧ n ≤ 100 ∧ c.m "parent" = some (.ref x) ∧ c.Ok p
  | .two x d mk md l m n c e, .two k p q => NodeNs m mk l k ∧ n ≤ 100 ∧ c.m "parent" = some (.ref x) ∧ e.m "parent" = some (.ref x) ∧ c.Ok p ∧ e.Ok q
  | _, _ => False
/-- nothing has changed -/
def Calm : Tr → Prop
  | .leaf _ _ _ _ _ _ m n => m "was_changed" = none ∧ n ≤ 50
  | .one _ _ _ _ _ m n c => (m "was_changed" = none ∧ n ≤ 50) ∧ c.Calm
  | .two _ _ _ _ _ m n c e => (m "was_changed" = none ∧ n ≤ 50) ∧ c.Calm ∧ e.Calm
theorem Ok.put {t : Tr} {p : Plan} (h : t.Ok p) {y : Str} {v : Value} (hy : side y) (hn : t.n ≤ 99) : (t.setN y v).Ok p := by
  cases t <;> cases p <;> first | exact h.elim | skip
  · exact ⟨h.1.put hy, Nat.succ_le_succ hn⟩
  · exact ⟨h.1.put hy, Nat.succ_le_succ hn, h.2.2⟩
  · exact ⟨h.1.put hy, Nat.succ_le_succ hn, h.2.2⟩
theorem Calm.put {t : Tr} (h : t.Calm) (hn : t.n ≤ 49) {v : Value} : (t.setN "parent" v).Calm := by
  have o : ∀ m : Str → Option Value, putAt m "parent" v "was_changed" = m "was_changed" := fun m => putAt_other (by decide)
  cases t
  · exact ⟨(o _).trans h.1, Nat.succ_le_succ hn⟩
  · exact ⟨⟨(o _).trans h.1.1, Nat.succ_le_succ hn⟩, h.2⟩
  · exact ⟨⟨(o _).trans h.1.1, Nat.succ_le_succ hn⟩, h.2⟩
theorem Calm.root {t : Tr} (h : t.Calm) : t.m "was_changed" = none ∧ t.n ≤ 50 := by
  cases t
  · exact h
  · exact h.1
  · exact h.1
end Tr
/-- a child is taken on -/
def adopt (x : Addr) (t : Tr) : Tr := t.setN "parent" (.ref x)
def kidCells (l : List Tr) : List (Addr × Cel) := l.flatMap Tr.cells
theorem kidCells_snoc (l : List Tr) (t : Tr) : kidCells (l ++ [t]) = kidCells l ++ t.cells := by
  unfold kidCells; rw [List.flatMap_append]; show _ ++ (t.cells ++ []) = _; rw [List.append_nil]
theorem kidCells_cons (t : Tr) (l : List Tr) : kidCells (t :: l) = t.cells ++ kidCells l := rfl
theorem Tr.build {x d mk md l : Addr} {m : Str → Option Value} {n : Nat} {p : Plan} (hp : p.isNode) {kids : List Tr} (hk : All2 (fun (t : Tr) q => t.Ok q ∧ t.m "parent" = some (.ref x)) kids p.kids) (N : NodeNs m mk l p.kind) (hn : n ≤ 100) :
    ∃ t : Tr, t.x = x ∧ t.m = m ∧ t.n = n ∧ t.Ok p ∧ Sub t.cells ((d, .dct m n) :: (x, .ob (instObj 294 d)) :: (mk, .ob (instObj 31 md)) :: (md, .dct (fun _ => none) 0) :: (l, .lst (kids.map fun t => Value.ref t.x).toArray) :: kidCells kids) ∧
      (m "was_changed" = none → n ≤ 50 → (∀ k ∈ kids, k.Calm) → t.Calm) := by
  cases p with
  | leaf => exact hp.elim
  | one k p =>
    match kids, hk with
    | [c], hk =>
      refine ⟨.one x d mk md l m n c, rfl, rfl, rfl, ⟨N, hn, hk.1.2, hk.1.1⟩, ?_, fun h1 h0 h2 => ⟨⟨h1, h0⟩, h2 c (.head _)⟩⟩
      rw [kidCells_cons]
      show Sub ((d, .dct m n) :: (x, .ob (instObj 294 d)) :: (mk, .ob (instObj 31 md)) :: (md, .dct (fun _ => none) 0) :: (l, .lst #[.ref c.x]) :: (c.d, .dct c.m c.n) :: c.tail) ((d, .dct m n) :: (x, .ob (instObj 294 d)) :: (mk, .ob (instObj 31 md)) :: (md, .dct (fun _ => none) 0) :: (l, .lst #[.ref c.x]) :: ((c.d, .dct c.m c.n) :: c.tail ++ []))
      rw [List.append_nil]
      exact Sub.rfl
  | two k p q =>
    match kids, hk with
    | [c, e], hk =>
      refine ⟨.two x d mk md l m n c e, rfl, rfl, rfl, ⟨N, hn, hk.1.2, hk.2.1.2, hk.1.1, hk.2.1.1⟩, ?_, fun h1 h0 h2 => ⟨⟨h1, h0⟩, h2 c (.head _), h2 e (.tail _ (.head _))⟩⟩
      rw [kidCells_cons, kidCells_cons]
      show Sub ((d, .dct m n) :: (x, .ob (instObj 294 d)) :: (mk, .ob (instObj 31 md)) :: (md, .dct (fun _ => none) 0) :: (l, .lst #[.ref c.x, .ref e.x]) :: ((c.d, .dct c.m c.n) :: c.tail ++ (e.d, .dct e.m e.n) :: e.tail)) ((d, .dct m n) :: (x, .ob (instObj 294 d)) :: (mk, .ob (instObj 31 md)) :: (md, .dct (fun _ => none) 0) :: (l, .lst #[.ref c.x, .ref e.x]) :: ((c.d, .dct c.m c.n) :: c.tail ++ ((e.d, .dct e.m e.n) :: e.tail ++ [])))
      rw [List.append_nil]
      exact Sub.rfl
theorem perm_in {α : Type} {A B R : List α} {c1 c2 c3 : α} : (c1 :: c2 :: c3 :: ((B ++ A) ++ R)).Perm (A ++ c1 :: c2 :: c3 :: (B ++ R)) := by
  refine List.Perm.trans ?_ List.perm_middle.symm
  refine List.Perm.cons _ ?_
  refine List.Perm.trans ?_ List.perm_middle.symm
  refine List.Perm.cons _ ?_
  refine List.Perm.trans ?_ List.perm_middle.symm
  refine List.Perm.cons _ ?_
  rw [← List.append_assoc]
  exact List.perm_append_comm.append_right R
theorem All2.get {α β : Type} {R : α → β → Prop} : ∀ {l : List α} {m : List β} (h : All2 R l m) {i : Nat} {b : β}, m[i]? = some b → ∃ a, l[i]? = some a ∧ R a b
  | [], [], _, i, b, e => by simp at e
  | a :: l, c :: m, h, 0, b, e => by cases e; exact ⟨a, rfl, h.1⟩
  | a :: l, c :: m, h, i + 1, b, e => h.2.get (i := i) e
  | [], _ :: _, h, _, _, _ => h.elim
  | _ :: _, [], h, _, _, _ => h.elim
theorem All2.get' {α β : Type} {R : α → β → Prop} : ∀ {l : List α} {m : List β} (h : All2 R l m) {i : Nat} {a : α}, l[i]? = some a → ∃ b, m[i]? = some b ∧ R a b
  | [], [], _, i, b, e => by simp at e
  | a :: l, c :: m, h, 0, b, e => by cases e; exact ⟨c, rfl, h.1⟩
  | a :: l, c :: m, h, i + 1, b, e => h.2.get' (i := i) e
  | [], _ :: _, h, _, _, _ => h.elim
  | _ :: _, [], h, _, _, _ => h.elim
theorem All2.map_left {α β γ : Type} {R : α → β → Prop} {R' : γ → β → Prop} {f : α → γ} (k : ∀ a b, R a b → R' (f a) b) : ∀ {l : List α} {m : List β}, All2 R l m → All2 R' (l.map f) m
  | [], [], _ => trivial
  | _ :: _, _ :: _, h => ⟨k _ _ h.1, h.2.map_left k⟩
  | [], _ :: _, h => h.elim
  | _ :: _, [], h => h.elim
section
variable (w : World)
theorem taker_none {K : Frag} {C : Addr} {name : Str} (h : findIn K (.ref C) name = some none) : takerIn K C name = some none := by unfold takerIn; rw [h]; rfl
theorem taker_val {K : Frag} {C : Addr} {name : Str} {a : Value} (h : findIn K (.ref C) name = some (some a)) (t : takesIn K a = some false) : takerIn K C name = some none := by unfold takerIn; rw [h]; simp [t]
theorem pg_Node (name : Str) : plainGet (KK w) 294 name = true := by kernel_rfl
theorem hd_Node : hasDictIn (KK w) 294 = true := by kernel_rfl
theorem st_Node : findIn (KK w) (.ref 294) "__setattr__" = some (some (.builtin "object.__setattr__")) := by kernel_rfl
theorem po_Node : plainOver (KK w) 294 = true := by kernel_rfl
theorem fi_Node_type : findIn (KK w) (.ref 294) "type" = some none := by kernel_rfl
theorem fi_Node_mark : findIn (KK w) (.ref 294) "mark" = some none := by kernel_rfl
theorem fi_Node_children : findIn (KK w) (.ref 294) "children" = some none := by kernel_rfl
theorem fi_Node_parent : findIn (KK w) (.ref 294) "parent" = some (some .none) := by kernel_rfl
theorem fi_Node_was_changed : findIn (KK w) (.ref 294) "was_changed" = some (some (.bool false)) := by kernel_rfl
theorem fi_Node_fixers_applied : findIn (KK w) (.ref 294) "fixers_applied" = some none := by kernel_rfl
theorem fi_Node_prev_sibling_map : findIn (KK w) (.ref 294) "prev_sibling_map" = some none := by kernel_rfl
theorem fi_Node_next_sibling_map : findIn (KK w) (.ref 294) "next_sibling_map" = some none := by kernel_rfl
theorem ow_Node_type : OwnOk w 294 "type" := ⟨pg_Node w _, hd_Node w, _, fi_Node_type w, rfl⟩
theorem ow_Node_mark : OwnOk w 294 "mark" := ⟨pg_Node w _, hd_Node w, _, fi_Node_mark w, rfl⟩
theorem ow_Node_children : OwnOk w 294 "children" := ⟨pg_Node w _, hd_Node w, _, fi_Node_children w, rfl⟩
theorem ow_Node_parent : OwnOk w 294 "parent" := ⟨pg_Node w _, hd_Node w, _, fi_Node_parent w, by kernel_rfl⟩
theorem ow_Node_was_changed : OwnOk w 294 "was_changed" := ⟨pg_Node w _, hd_Node w, _, fi_Node_was_changed w, by kernel_rfl⟩
theorem ow_Node_fixers_applied : OwnOk w 294 "fixers_applied" := ⟨pg_Node w _, hd_Node w, _, fi_Node_fixers_applied w, rfl⟩
theorem ow_Node_prev_sibling_map : OwnOk w 294 "prev_sibling_map" := ⟨pg_Node w _, hd_Node w, _, fi_Node_prev_sibling_map w, rfl⟩
theorem ow_Node_next_sibling_map : OwnOk w 294 "next_sibling_map" := ⟨pg_Node w _, hd_Node w, _, fi_Node_next_sibling_map w, rfl⟩
theorem cl_Node_parent : ClsOk w 294 "parent" .none := ⟨pg_Node w _, hd_Node w, fi_Node_parent w, by kernel_rfl, rfl, by decide⟩
theorem cl_Node_was_changed : ClsOk w 294 "was_changed" (.bool false) := ⟨pg_Node w _, hd_Node w, fi_Node_was_changed w, by kernel_rfl, rfl, by decide⟩
theorem me_Node__eq : MethOk w 294 "_eq" 192 := ⟨pg_Node w _, by kernel_rfl, by kernel_rfl⟩
theorem me_Node_clone : MethOk w 294 "clone" 197 := ⟨pg_Node w _, by kernel_rfl, by kernel_rfl⟩
theorem me_Node_set_child : MethOk w 294 "set_child" 235 := ⟨pg_Node w _, by kernel_rfl, by kernel_rfl⟩
theorem me_Node_invalidate_sibling_maps : MethOk w 294 "invalidate_sibling_maps" 256 := ⟨pg_Node w _, by kernel_rfl, by kernel_rfl⟩
theorem me_Node__replace_in_sibling_maps : MethOk w 294 "_replace_in_sibling_maps" 277 := ⟨pg_Node w _, by kernel_rfl, by kernel_rfl⟩
theorem me_Node__replace_child_in_sibling_maps : MethOk w 294 "_replace_child_in_sibling_maps" 284 := ⟨pg_Node w _, by kernel_rfl, by kernel_rfl⟩
theorem me_Node_replace : MethOk w 294 "replace" 99 := ⟨pg_Node w _, by kernel_rfl, by kernel_rfl⟩
theorem me_Node_changed : MethOk w 294 "changed" 113 := ⟨pg_Node w _, by kernel_rfl, by kernel_rfl⟩
theorem me_Node_leaves : MethOk w 294 "leaves" 144 := ⟨pg_Node w _, by kernel_rfl, by kernel_rfl⟩
theorem se_Node_type : SetOk w 294 "type" := ⟨st_Node w, po_Node w, taker_none (fi_Node_type w), hd_Node w⟩
theorem se_Node_mark : SetOk w 294 "mark" := ⟨st_Node w, po_Node w, taker_none (fi_Node_mark w), hd_Node w⟩
theorem se_Node_children : SetOk w 294 "children" := ⟨st_Node w, po_Node w, taker_none (fi_Node_children w), hd_Node w⟩
theorem se_Node_fixers_applied : SetOk w 294 "fixers_applied" := ⟨st_Node w, po_Node w, taker_none (fi_Node_fixers_applied w), hd_Node w⟩
theorem se_Node_prev_sibling_map : SetOk w 294 "prev_sibling_map" := ⟨st_Node w, po_Node w, taker_none (fi_Node_prev_sibling_map w), hd_Node w⟩
theorem se_Node_next_sibling_map : SetOk w 294 "next_sibling_map" := ⟨st_Node w, po_Node w, taker_none (fi_Node_next_sibling_map w), hd_Node w⟩
theorem se_Node_parent : SetOk w 294 "parent" := ⟨st_Node w, po_Node w, taker_val (fi_Node_parent w) (by kernel_rfl), hd_Node w⟩
theorem se_Node_was_changed : SetOk w 294 "was_changed" := ⟨st_Node w, po_Node w, taker_val (fi_Node_was_changed w) (by kernel_rfl), hd_Node w⟩
theorem pg_Leaf (name : Str) : plainGet (KK w) 374 name = true := by kernel_rfl
theorem hd_Leaf : hasDictIn (KK w) 374 = true := by kernel_rfl
theorem st_Leaf : findIn (KK w) (.ref 374) "__setattr__" = some (some (.builtin "object.__setattr__")) := by kernel_rfl
theorem po_Leaf : plainOver (KK w) 374 = true := by kernel_rfl
theorem fi_Leaf_type : findIn (KK w) (.ref 374) "type" = some none := by kernel_rfl
theorem fi_Leaf_mark : findIn (KK w) (.ref 374) "mark" = some none := by kernel_rfl
theorem fi_Leaf_children : findIn (KK w) (.ref 374) "children" = some none := by kernel_rfl
theorem fi_Leaf_parent : findIn (KK w) (.ref 374) "parent" = some (some .none) := by kernel_rfl
theorem fi_Leaf_was_changed : findIn (KK w) (.ref 374) "was_changed" = some (some (.bool false)) := by kernel_rfl
theorem fi_Leaf_fixers_applied : findIn (KK w) (.ref 374) "fixers_applied" = some none := by kernel_rfl
theorem fi_Leaf_value : findIn (KK w) (.ref 374) "value" = some none := by kernel_rfl
theorem fi_Leaf__prefix : ∃ a, findIn (KK w) (.ref 374) "_prefix" = some (some a) ∧ noGet (KK w) (some a) = true ∧ takesIn (KK w) a = some false := ⟨_, by exact rfl, by kernel_rfl, by kernel_rfl⟩
theorem fi_Leaf_lineno : ∃ a, findIn (KK w) (.ref 374) "lineno" = some (some a) ∧ noGet (KK w) (some a) = true ∧ takesIn (KK w) a = some false := ⟨_, by exact rfl, by kernel_rfl, by kernel_rfl⟩
theorem fi_Leaf_column : ∃ a, findIn (KK w) (.ref 374) "column" = some (some a) ∧ noGet (KK w) (some a) = true ∧ takesIn (KK w) a = some false := ⟨_, by exact rfl, by kernel_rfl, by kernel_rfl⟩
theorem fi_Leaf_bracket_depth : ∃ a, findIn (KK w) (.ref 374) "bracket_depth" = some (some a) ∧ noGet (KK w) (some a) = true ∧ takesIn (KK w) a = some false := ⟨_, by exact rfl, by kernel_rfl, by kernel_rfl⟩
theorem fi_Leaf_opening_bracket : findIn (KK w) (.ref 374) "opening_bracket" = some (some .none) := by kernel_rfl
theorem fi_Leaf_fmt_pass_converted_first_leaf : findIn (KK w) (.ref 374) "fmt_pass_converted_first_leaf" = some (some .none) := by kernel_rfl
theorem fi_Leaf_line_ranges_first_lineno : ∃ a, findIn (KK w) (.ref 374) "line_ranges_first_lineno" = some (some a) ∧ noGet (KK w) (some a) = true ∧ takesIn (KK w) a = some false := ⟨_, by exact rfl, by kernel_rfl, by kernel_rfl⟩
theorem fi_Leaf_line_ranges_selected : findIn (KK w) (.ref 374) "line_ranges_selected" = some (some .none) := by kernel_rfl
theorem ow_Leaf_type : OwnOk w 374 "type" := ⟨pg_Leaf w _, hd_Leaf w, _, fi_Leaf_type w, rfl⟩
theorem ow_Leaf_mark : OwnOk w 374 "mark" := ⟨pg_Leaf w _, hd_Leaf w, _, fi_Leaf_mark w, rfl⟩
theorem ow_Leaf_children : OwnOk w 374 "children" := ⟨pg_Leaf w _, hd_Leaf w, _, fi_Leaf_children w, rfl⟩
theorem ow_Leaf_parent : OwnOk w 374 "parent" := ⟨pg_Leaf w _, hd_Leaf w, _, fi_Leaf_parent w, by kernel_rfl⟩
theorem ow_Leaf_was_changed : OwnOk w 374 "was_changed" := ⟨pg_Leaf w _, hd_Leaf w, _, fi_Leaf_was_changed w, by kernel_rfl⟩
theorem ow_Leaf_fixers_applied : OwnOk w 374 "fixers_applied" := ⟨pg_Leaf w _, hd_Leaf w, _, fi_Leaf_fixers_applied w, rfl⟩
theorem ow_Leaf_value : OwnOk w 374 "value" := ⟨pg_Leaf w _, hd_Leaf w, _, fi_Leaf_value w, rfl⟩
theorem ow_Leaf__prefix : OwnOk w 374 "_prefix" := let ⟨_, a, b, _⟩ := fi_Leaf__prefix w; ⟨pg_Leaf w _, hd_Leaf w, _, a, b⟩
theorem ow_Leaf_lineno : OwnOk w 374 "lineno" := let ⟨_, a, b, _⟩ := fi_Leaf_lineno w; ⟨pg_Leaf w _, hd_Leaf w, _, a, b⟩
theorem ow_Leaf_column : OwnOk w 374 "column" := let ⟨_, a, b, _⟩ := fi_Leaf_column w; ⟨pg_Leaf w _, hd_Leaf w, _, a, b⟩
theorem ow_Leaf_bracket_depth : OwnOk w 374 "bracket_depth" := let ⟨_, a, b, _⟩ := fi_Leaf_bracket_depth w; ⟨pg_Leaf w _, hd_Leaf w, _, a, b⟩
theorem cl_Leaf_parent : ClsOk w 374 "parent" .none := ⟨pg_Leaf w _, hd_Leaf w, fi_Leaf_parent w, by kernel_rfl, rfl, by decide⟩
theorem cl_Leaf_was_changed : ClsOk w 374 "was_changed" (.bool false) := ⟨pg_Leaf w _, hd_Leaf w, fi_Leaf_was_changed w, by kernel_rfl, rfl, by decide⟩
theorem me_Leaf__eq : MethOk w 374 "_eq" 326 := ⟨pg_Leaf w _, by kernel_rfl, by kernel_rfl⟩
theorem me_Leaf_clone : MethOk w 374 "clone" 333 := ⟨pg_Leaf w _, by kernel_rfl, by kernel_rfl⟩
theorem me_Leaf_leaves : MethOk w 374 "leaves" 340 := ⟨pg_Leaf w _, by kernel_rfl, by kernel_rfl⟩
theorem me_Leaf_replace : MethOk w 374 "replace" 99 := ⟨pg_Leaf w _, by kernel_rfl, by kernel_rfl⟩
theorem me_Leaf_changed : MethOk w 374 "changed" 113 := ⟨pg_Leaf w _, by kernel_rfl, by kernel_rfl⟩
theorem se_Leaf_mark : SetOk w 374 "mark" := ⟨st_Leaf w, po_Leaf w, taker_none (fi_Leaf_mark w), hd_Leaf w⟩
theorem se_Leaf__prefix : SetOk w 374 "_prefix" := ⟨st_Leaf w, po_Leaf w, let ⟨_, a, _, b⟩ := fi_Leaf__prefix w; taker_val a b, hd_Leaf w⟩
theorem se_Leaf_lineno : SetOk w 374 "lineno" := ⟨st_Leaf w, po_Leaf w, let ⟨_, a, _, b⟩ := fi_Leaf_lineno w; taker_val a b, hd_Leaf w⟩
theorem se_Leaf_column : SetOk w 374 "column" := ⟨st_Leaf w, po_Leaf w, let ⟨_, a, _, b⟩ := fi_Leaf_column w; taker_val a b, hd_Leaf w⟩
theorem se_Leaf_type : SetOk w 374 "type" := ⟨st_Leaf w, po_Leaf w, taker_none (fi_Leaf_type w), hd_Leaf w⟩
theorem se_Leaf_value : SetOk w 374 "value" := ⟨st_Leaf w, po_Leaf w, taker_none (fi_Leaf_value w), hd_Leaf w⟩
theorem se_Leaf_fixers_applied : SetOk w 374 "fixers_applied" := ⟨st_Leaf w, po_Leaf w, taker_none (fi_Leaf_fixers_applied w), hd_Leaf w⟩
theorem se_Leaf_children : SetOk w 374 "children" := ⟨st_Leaf w, po_Leaf w, taker_none (fi_Leaf_children w), hd_Leaf w⟩
theorem se_Leaf_opening_bracket : SetOk w 374 "opening_bracket" := ⟨st_Leaf w, po_Leaf w, taker_val (fi_Leaf_opening_bracket w) (by kernel_rfl), hd_Leaf w⟩
theorem se_Leaf_fmt_pass_converted_first_leaf : SetOk w 374 "fmt_pass_converted_first_leaf" := ⟨st_Leaf w, po_Leaf w, taker_val (fi_Leaf_fmt_pass_converted_first_leaf w) (by kernel_rfl), hd_Leaf w⟩
theorem se_Leaf_bracket_depth : SetOk w 374 "bracket_depth" := ⟨st_Leaf w, po_Leaf w, let ⟨_, a, _, b⟩ := fi_Leaf_bracket_depth w; taker_val a b, hd_Leaf w⟩
theorem se_Leaf_line_ranges_first_lineno : SetOk w 374 "line_ranges_first_lineno" := ⟨st_Leaf w, po_Leaf w, let ⟨_, a, _, b⟩ := fi_Leaf_line_ranges_first_lineno w; taker_val a b, hd_Leaf w⟩
theorem se_Leaf_line_ranges_selected : SetOk w 374 "line_ranges_selected" := ⟨st_Leaf w, po_Leaf w, taker_val (fi_Leaf_line_ranges_selected w) (by kernel_rfl), hd_Leaf w⟩
theorem se_Leaf_parent : SetOk w 374 "parent" := ⟨st_Leaf w, po_Leaf w, taker_val (fi_Leaf_parent w) (by kernel_rfl), hd_Leaf w⟩
theorem se_Leaf_was_changed : SetOk w 374 "was_changed" := ⟨st_Leaf w, po_Leaf w, taker_val (fi_Leaf_was_changed w) (by kernel_rfl), hd_Leaf w⟩
theorem kf_56 : keepIn (KK w) (.ref 56) = true := by kernel_rfl
theorem kf_113 : keepIn (KK w) (.ref 113) = true := by kernel_rfl
theorem kf_99 : keepIn (KK w) (.ref 99) = true := by kernel_rfl
theorem kf_144 : keepIn (KK w) (.ref 144) = true := by kernel_rfl
theorem kf_180 : keepIn (KK w) (.ref 180) = true := by kernel_rfl
theorem kf_185 : keepIn (KK w) (.ref 185) = true := by kernel_rfl
theorem kf_192 : keepIn (KK w) (.ref 192) = true := by kernel_rfl
theorem kf_197 : keepIn (KK w) (.ref 197) = true := by kernel_rfl
theorem kf_235 : keepIn (KK w) (.ref 235) = true := by kernel_rfl
theorem kf_256 : keepIn (KK w) (.ref 256) = true := by kernel_rfl
theorem kf_277 : keepIn (KK w) (.ref 277) = true := by kernel_rfl
theorem kf_284 : keepIn (KK w) (.ref 284) = true := by kernel_rfl
theorem kf_312 : keepIn (KK w) (.ref 312) = true := by kernel_rfl
theorem kf_319 : keepIn (KK w) (.ref 319) = true := by kernel_rfl
theorem kf_326 : keepIn (KK w) (.ref 326) = true := by kernel_rfl
theorem kf_333 : keepIn (KK w) (.ref 333) = true := by kernel_rfl
theorem kf_340 : keepIn (KK w) (.ref 340) = true := by kernel_rfl
end
local macro_rules | `(tactic| walk_at "mem") => `(tactic| ((repeat (first | exact List.Mem.head _ | assumption | refine List.Mem.tail _ ?_)); fail_if_success (show _)))
local macro_rules | `(tactic| walk_at "up") => `(tactic| ((repeat (first | exact Up.here | assumption | apply Up.there)); fail_if_success (show _)))
local macro_rules | `(tactic| walk_at "sub") => `(tactic| ((repeat (first | exact List.Sublist.refl _ | refine List.Sublist.cons_cons _ ?_ | refine List.Sublist.cons _ ?_)); fail_if_success (show _)))
local macro_rules | `(tactic| walk_at "ex") => `(tactic| ((repeat (first | exact Ex.here | apply Ex.there)); fail_if_success (show _)))
local macro_rules | `(tactic| walk_at "pick") => `(tactic| ((repeat (first | exact Sub.rfl | refine Sub.ex (by ((repeat (first | exact Ex.here | apply Ex.there)); fail_if_success (show _))) ?_ | refine Sub.app ?_ | refine Sub.drop ?_ | refine Sub.dropA ?_)); fail_if_success (show _)))
local macro_rules | `(tactic| walk_at "has") => `(tactic| (first | assumption | exact Or.inl (by ((repeat (first | exact List.Mem.head _ | assumption | refine List.Mem.tail _ ?_)); fail_if_success (show _))) | ((repeat (first | assumption | refine Has.cons ?_ | refine Has.app ?_ | refine Has.consG ?_)); fail_if_success (show _)) | ((repeat (first | assumption | refine Has.consG ?_ | refine Has.cons ?_ | refine Has.app ?_)); fail_if_success (show _))))
local macro_rules | `(tactic| walk_at "nm") => `(tactic| ((with_reducible show wpAny _ _ (eval (Expr.Name _ _) _) _ _ _); first
  | refine n_loc (by assumption) (by assumption) (by walk_at "mem") (by exact rfl) (by first | assumption | exact rfl) ?_
  | refine n_cell (by assumption) (by assumption) (by exact rfl) (by exact rfl) (by walk_at "mem") ?_))
local macro_rules | `(tactic| walk_at "st") => `(tactic| ((with_reducible show wpAny _ _ (storeName _ _ _) _ _ _); first
  | (refine st_lo (by assumption) (by assumption) (by exact rfl) (by walk_at "up") ?_; intro _ _ _)
  | (refine st_cell (by assumption) (by assumption) (by exact rfl) (by exact rfl) (by walk_at "up") ?_; intro _ _)))
local macro_rules | `(tactic| walk_at "set") => `(tactic| (refine a_set (by assumption) (by assumption) (by walk_at "has") (by with_reducible first | assumption | exact se_Leaf_mark _ | exact se_Leaf__prefix _ | exact se_Leaf_lineno _ | exact se_Leaf_column _ | exact se_Leaf_type _ | exact se_Leaf_value _ | exact se_Leaf_fixers_applied _ | exact se_Leaf_children _ | exact se_Leaf_opening_bracket _ | exact se_Leaf_fmt_pass_converted_first_leaf _ | exact se_Leaf_bracket_depth _ | exact se_Leaf_line_ranges_first_lineno _ | exact se_Leaf_line_ranges_selected _ | exact se_Leaf_parent _ | exact se_Leaf_was_changed _ | exact se_Node_type _ | exact se_Node_mark _ | exact se_Node_children _ | exact se_Node_fixers_applied _ | exact se_Node_prev_sibling_map _ | exact se_Node_next_sibling_map _ | exact se_Node_parent _ | exact se_Node_was_changed _) (by walk_at "up") (by omega) ?_; intro _ _ _))
local macro_rules | `(tactic| walk_at "own") => `(tactic| (refine a_own (by assumption) (by assumption) ⟨by walk_at "has", by walk_at "has"⟩ (by with_reducible first | assumption | exact ow_Node_type _ | exact ow_Node_mark _ | exact ow_Node_children _ | exact ow_Node_parent _ | exact ow_Node_was_changed _ | exact ow_Node_fixers_applied _ | exact ow_Node_prev_sibling_map _ | exact ow_Node_next_sibling_map _ | exact ow_Leaf_type _ | exact ow_Leaf_mark _ | exact ow_Leaf_children _ | exact ow_Leaf_parent _ | exact ow_Leaf_was_changed _ | exact ow_Leaf_fixers_applied _ | exact ow_Leaf_value _ | exact ow_Leaf__prefix _ | exact ow_Leaf_lineno _ | exact ow_Leaf_column _ | exact ow_Leaf_bracket_depth _) (by first | assumption | exact rfl) (by exact rfl) ?_; intro _))
local macro_rules | `(tactic| walk_at "cls") => `(tactic| (refine a_cls (by assumption) (by assumption) ⟨by walk_at "has", by walk_at "has"⟩ (by with_reducible first | assumption | exact cl_Node_parent _ | exact cl_Leaf_parent _ | exact cl_Node_was_changed _ | exact cl_Leaf_was_changed _) (by first | assumption | exact rfl) ?_; intro _))
local macro_rules | `(tactic| walk_at "meth") => `(tactic| (refine a_meth (by assumption) (by assumption) ⟨by walk_at "has", by walk_at "has"⟩ (by with_reducible first | assumption | exact me_Node__eq _ | exact me_Node_clone _ | exact me_Node_set_child _ | exact me_Node_invalidate_sibling_maps _ | exact me_Node__replace_in_sibling_maps _ | exact me_Node__replace_child_in_sibling_maps _ | exact me_Node_replace _ | exact me_Node_changed _ | exact me_Node_leaves _ | exact me_Leaf__eq _ | exact me_Leaf_clone _ | exact me_Leaf_leaves _ | exact me_Leaf_replace _ | exact me_Leaf_changed _) (by first | assumption | exact rfl) ?_))
local macro_rules | `(tactic| walk_at "astup") => `(tactic| (refine as_tup (Rm.hd (by assumption)) (by assumption) (by walk_at "has") (by exact rfl) (by exact rfl) ?_; intro _ _ _))
local macro_rules | `(tactic| walk_at "sub0") => `(tactic| ((with_reducible show wpAny _ _ (subscriptTail _ _ (Value.ref _) (Value.int _ _)) _ _ _); first
  | refine t_at (by assumption) (by walk_at "has") (by decide) (by decide) (by exact rfl) ?_
  | refine l_at (by assumption) (by walk_at "has") (by decide) (by decide) (by exact rfl) ?_))
local macro_rules | `(tactic| walk_at "go") => `(tactic| first
  | (with_reducible refine x_seq ?_)
  | ((with_reducible show wpAny _ _ (exec (Stmt.AugAssign (Expr.Subscript _ _ _) _ _ _) _) _ _ _); refine wpAny_AugAssign_SubscriptAny ?_)
  | ((with_reducible show wpAny _ _ (exec (Stmt.Assign [Expr.Name _ _] _ _) _) _ _ _); refine x_asg ?_)
  | (with_reducible refine wpAny_Return_some ?_)
  | ((with_reducible show wpAny _ _ (exec (Stmt.Assign [Expr.Attribute _ _ _] _ _) _) _ _ _); refine x_asgA ?_)
  | ((with_reducible show wpAny _ _ (exec (Stmt.Assign [Expr.Tuple _ _ _] _ _) _) _ _ _); refine x_asgT ?_)
  | (with_reducible refine x_assert ?_)
  | (with_reducible refine as_attr ?_)
  | ((with_reducible show wpAny _ _ (assignInOrder (List.map _ (assignEach [] _)) []) _ _ _); refine as_nil ?_)
  | ((with_reducible show wpAny _ _ (assignInOrder (List.map _ (assignEach (_ :: _) _)) (_ :: _)) _ _ _); refine as_more ?_)
  | ((with_reducible show wpAny _ _ (isTrue (Expr.Compare _ (_ :: _ :: _) _ _) _ _) _ _ _); refine isTrue_chain ?_)
  | ((with_reducible show wpAny _ _ (eval (Expr.Attribute _ _ _) _) _ _ _); refine Attribute_any_ ?_)
  | ((with_reducible show wpAny _ _ (testChain _ _ (_ :: _ :: _) _) _ _ _); refine test_link ?_)
  | ((with_reducible show wpAny _ _ (testChain _ _ [_] _) _ _ _); refine test_last ?_)
  | ((with_reducible show wpAny _ _ (eval (Expr.Slice _ _ none _) _) _ _ _); refine e_slice (by assumption) ?_)
  | (with_reducible refine ep_none ?_)
  | (with_reducible refine ep_some ?_)
  | (with_reducible refine wpAny_assign_Name ?_)
  | (with_reducible refine x_if ?_)
  | ((with_reducible show wpAny _ _ (exec (Stmt.Expr _ _) _) _ _ _); refine x_expr (by assumption) ?_)
  | (with_reducible refine e_ifexp ?_)
  | ((with_reducible show wpAny _ _ (isTrue (Expr.Compare _ [_] [_] _) _ _) _ _ _); refine wpAny_isTrue_Compare1 ?_)
  | (with_reducible refine bt_or ?_)
  | ((with_reducible show wpAny _ _ (eval (Expr.Compare _ [_] [_] _) _) _ _ _); refine wpAny_Compare1 ?_)
  | (with_reducible refine Subscript_ ?_)
  | (with_reducible refine wpAny_BinOp ?_)
  | (with_reducible refine c_int ?_; intro _ _)
  | (with_reducible refine c_str ?_; intro _ _)
  | (with_reducible refine c_none ?_)
  | (with_reducible refine i_add ?_; intro _ _)
  | (with_reducible refine i_sub ?_; intro _ _)
  | (with_reducible refine i_gt ?_)
  | (with_reducible refine i_le ?_)
  | (with_reducible refine i_lt ?_)
  | (with_reducible refine i_ge ?_)
  | ((with_reducible show wpAny _ _ (compareOp CmpOp.Is _ Value.none) _ _ _); refine i_isN (by exact rfl) ?_)
  | ((with_reducible show wpAny _ _ (compareOp CmpOp.IsNot _ Value.none) _ _ _); refine i_isNot (by exact rfl) ?_)
  | (with_reducible refine i_eq ?_)
  | (with_reducible refine tr_bool ?_)
  | (with_reducible refine it_name ?_)
  | (with_reducible refine wpAny_isTrue_Not ?_)
  | (with_reducible refine it_call ?_)
  | (with_reducible refine it_attr ?_)
  | (with_reducible refine tr_none ?_)
  | ((with_reducible show wpAny _ _ (spliced (backTo _ (starEach (_ :: _) _))) _ _ _); refine spliced_more ?_)
  | (with_reducible refine spliced_none ?_)
  | (with_reducible refine x_nil ?_)
  | (with_reducible refine for_next ?_)
  | (with_reducible refine seq_next ?_)
  | (with_reducible refine seq_ret ?_)
  | (with_reducible refine ret_ret ?_)
  | ((with_reducible show wpAny _ _ (eval (Expr.Tuple _ _ _) _) _ _ _); refine d_tup (by assumption) ?_)
  | ((with_reducible show wpAny _ _ (eval (Expr.List _ _) _) _ _ _); refine d_list (by assumption) ?_)
  | ((with_reducible show Heap.StaysIn _ _ ∧ wpAny _ _ _ _ _ _); refine ⟨Kn.base (by assumption), ?_⟩)
  | ((with_reducible show wpAny _ _ (setAttr _ _ _) _ _ _); walk_at "set")
  | ((with_reducible show wpAny _ _ (assign (Expr.Tuple _ _ _) _ _) _ _ _); walk_at "astup")
  | ((with_reducible show wpAny _ _ (getAttr _ _ _) _ _ _); first | walk_at "own" | walk_at "cls")
  | ((with_reducible show wpAny _ _ (eval (Expr.Call (Expr.Attribute _ _ _) _ [] _) _) _ _ _); refine callM ?_)
  | ((with_reducible show wpAny _ _ (getMethod (Value.ref _) _ _) _ _ _); walk_at "meth")
  | (with_reducible refine GM.join ?_)
  | ((with_reducible show wpAny _ _ (callWith _ (Value.builtin _) _ (backTo _ (starEach (_ :: _) _)) []) _ _ _); refine cwB ?_)
  | ((with_reducible show wpAny _ _ (callWith _ (Value.builtin _) _ (backTo _ (starEach [] _)) []) _ _ _); refine cwB0 ?_)
  | ((with_reducible show wpAny _ _ (subscriptTail _ _ (Value.ref _) (Value.int (OfNat.ofNat _) _)) _ _ _); walk_at "sub0")
  | ((with_reducible show wpAny _ _ (eval (Expr.Name _ _) _) _ _ _); walk_at "nm")
  | ((with_reducible show wpAny _ _ (eval (Expr.Name _ _) _) _ _ _); first
      | refine n_blt (by assumption) (by assumption) (by assumption) (by exact rfl) (no_str _) blt_str ?_
      | refine n_blt (by assumption) (by assumption) (by assumption) (by exact rfl) (no_list _) blt_list ?_)
  | (with_reducible refine isi_str_str ?_)
  | ((with_reducible show wpAny _ _ (call (Value.builtin "isinstance") [Value.int _ _, Value.type "str"]) _ _ _); refine isi_int_str ?_; intro _)
  | ((with_reducible show wpAny _ _ (storeName _ _ _) _ _ _); walk_at "st")
  | (dsimp only; with_reducible show wpAny _ _ _ _ _ _))
local macro_rules | `(tactic| walk_at "next") => `(tactic| (refine callN (by assumption) (by assumption) (by assumption) (by exact rfl) (gl_next _) (kp_next _) ?_; repeat walk_at "go"))
local macro_rules | `(tactic| walk_at "plan") => `(tactic| (refine callN (by assumption) (by assumption) (by assumption) (by exact rfl) (gl_plan _) (kp_plan _) ?_; repeat walk_at "go"))
local macro_rules | `(tactic| walk_at "made") => `(tactic| (refine callN (by assumption) (by assumption) (by assumption) (by exact rfl) (gl_made _) (kp_made _) ?_; repeat walk_at "go"))
local macro_rules | `(tactic| walk_at "paths") => `(tactic| (refine callN (by assumption) (by assumption) (by assumption) (by exact rfl) (gl_paths _) (kp_paths _) ?_; repeat walk_at "go"))
local macro_rules | `(tactic| walk_at "part") => `(tactic| (refine callN (by assumption) (by assumption) (by assumption) (by exact rfl) (gl_part _) (kp_part _) ?_; repeat walk_at "go"))
local macro_rules | `(tactic| walk_at "at") => `(tactic| (refine callN (by assumption) (by assumption) (by assumption) (by exact rfl) (gl_at _) (kp_at _) ?_; repeat walk_at "go"))
local macro_rules | `(tactic| walk_at "told") => `(tactic| (refine callN (by assumption) (by assumption) (by assumption) (by exact rfl) (gl_told _) (kp_told _) ?_; repeat walk_at "go"))
local macro_rules | `(tactic| walk_at "text") => `(tactic| (refine callN (by assumption) (by assumption) (by assumption) (by exact rfl) (gl_text _) (kp_text _) ?_; repeat walk_at "go"))
local macro_rules | `(tactic| walk_at "put") => `(tactic| (refine callN (by assumption) (by assumption) (by assumption) (by exact rfl) (gl_put _) (kp_put _) ?_; repeat walk_at "go"))
local macro_rules | `(tactic| walk_at "changed") => `(tactic| (refine callN (by assumption) (by assumption) (by assumption) (by exact rfl) (gl_changed _) (kp_changed _) ?_; repeat walk_at "go"))
local macro_rules | `(tactic| walk_at "len") => `(tactic| (refine callB (by assumption) (by assumption) (by assumption) (by exact rfl) (no_len _) blt_len ?_; repeat walk_at "go"))
local macro_rules | `(tactic| walk_at "isinstance") => `(tactic| (refine callB (by assumption) (by assumption) (by assumption) (by exact rfl) (no_isinstance _) blt_isinstance ?_; repeat walk_at "go"))
local macro_rules | `(tactic| walk_at "any") => `(tactic| (refine callB (by assumption) (by assumption) (by assumption) (by exact rfl) (no_any _) blt_any ?_; repeat walk_at "go"))
local macro_rules | `(tactic| walk_at "range") => `(tactic| (refine callT (by assumption) (by assumption) (by assumption) (by exact rfl) (no_range _) blt_range ?_; repeat walk_at "go"))
local macro_rules | `(tactic| walk_at "str") => `(tactic| (refine callT (by assumption) (by assumption) (by assumption) (by exact rfl) (no_str _) blt_str ?_; repeat walk_at "go"))
local macro_rules | `(tactic| walk_at "list") => `(tactic| (refine callT (by assumption) (by assumption) (by assumption) (by exact rfl) (no_list _) blt_list ?_; repeat walk_at "go"))
local macro_rules | `(tactic| walk_at "enumerate") => `(tactic| (refine callT (by assumption) (by assumption) (by assumption) (by exact rfl) (no_enumerate _) blt_enumerate ?_; repeat walk_at "go"))
local macro_rules | `(tactic| walk_at "reversed") => `(tactic| (refine callT (by assumption) (by assumption) (by assumption) (by exact rfl) (no_reversed _) blt_reversed ?_; repeat walk_at "go"))
section
variable {w : World} {g0 g h : Heap} {gs : List Heap} {cs : List (Addr × Cel)} {r : Shared} {t n : Nat} {A : Around} {Q : Value → Shared → Prop}
theorem s_next (G : Gl w g0) {cs' : Int → Tok → List (Addr × Cel)} (H : Kn g0 gs cs h) (R : Rm A 5) {st il : Addr} {k lim : Int} {tk tl : Tok} {xs : Array Value}
   (u : ∀ k' tk', Up st (.lst #[.ref il, .int k tk]) (.lst #[.ref il, .int k' tk']) cs (cs' k' tk'))
   (hil : Has gs [] il (.lst xs)) (hx : ∀ (i : Nat) v, xs[i]? = some v → ∃ z tz, v = Value.int z tz) (hs : xs.size ≤ 60) (hk : 0 ≤ k) (hl : 0 < lim)
   (K : ∀ v tv h' t' k' tk', 0 ≤ v → v < lim → 0 ≤ k' → Kn g0 gs (cs' k' tk') h' → Q (.int v tv) (S r h' t')) :
   wpAny (model Pg w) A (call (.ref 383) [.ref st, .int lim tl]) Q NoE (S r h t) := by
  have hil' : ∀ cs, Has gs cs il (.lst xs) := fun cs => hil.mono (fun _ h => h) fun _ h => nomatch h
  refine enter G H R (binds := [(Str.ofString "state", .ref st), (Str.ofString "limit", .int lim tl)]) (by exact rfl) (by exact rfl) (by exact rfl) (fun s _ => BindsTo.of_eq (by exact rfl)) (by exact rfl) (by exact rfl) (by exact rfl) (by exact rfl) (by exact rfl) (by exact rfl) (by exact rfl) (by exact rfl) ?_
  intro L h₁ t₁ env A' e R H hs' hL
  dsimp only at e
  have hst : (st, Cel.lst #[.ref il, .int k tk]) ∈ cs := (u k tk).mem
  repeat walk_at "go"
  refine l_item (H.lst (.tail _ hst)) (by decide) (by decide) (by exact rfl) ?_
  repeat walk_at "go"
  refine i_iadd ?_
  intro tk1 t1
  refine l_set H (by decide) (by decide) (.there (u (k+1) _)) (by simp) rfl ?_
  intro h2 H
  have hst1 := (u (k+1) tk1).mem2
  repeat walk_at "go"
  refine callB G e H (by exact rfl) (no_len w) blt_len ?_
  repeat walk_at "go"
  refine l_len ((hil' _).at H) (by omega) ?_
  intro _ _
  repeat walk_at "go"
  constructor
  · intro hb
    repeat walk_at "go"
    exact K _ _ _ _ _ _ (by decide) hl (by omega) H.drop
  · intro hb
    simp only [decide_eq_false_iff_not] at hb
    repeat walk_at "go"
    have hlt : (k + 1 - 1).toNat < xs.size := by omega
    obtain ⟨z, tz, hz⟩ := hx (k + 1 - 1).toNat _ (Array.getElem?_eq_getElem hlt)
    refine l_get ((hil' _).at H) (by omega) (by omega) (by rw [Array.getElem?_toList, Array.getElem?_eq_getElem hlt, hz]) ?_
    repeat walk_at "go"
    refine i_mod (by omega) ?_
    intro _ _
    repeat walk_at "go"
    exact K _ _ _ _ _ _ (Int.fmod_nonneg_of_pos _ hl) (Int.fmod_lt_of_pos _ hl) (by omega) H.drop
end
section
variable {w : World} {g0 g h : Heap} {gs : List Heap} {r : Shared} {t n : Nat} {A : Around} {Q : Value → Shared → Prop}

def stCel (il : Addr) (k : Int) (tk : Tok) : Cel := .lst #[.ref il, .int k tk]

theorem s_plan (G : Gl w g0) {st il : Addr} {xs : Array Value} (hx : ∀ (i : Nat) v, xs[i]? = some v → ∃ z tz, v = Value.int z tz) (hs : xs.size ≤ 60) :
   ∀ (d : Nat), d ≤ 2 → ∀ {gs : List Heap} {cs : List (Addr × Cel)} {cs' : Int → Tok → List (Addr × Cel)} {h : Heap} {A : Around} {Q : Value → Shared → Prop} {t : Nat} {k : Int} {tk td : Tok} (H : Kn g0 gs cs h) (R : Rm A (10 * d + 20)) 
   (u : ∀ k1 tk1 k' tk', Up st (.lst #[.ref il, .int k1 tk1]) (.lst #[.ref il, .int k' tk']) (cs' k1 tk1) (cs' k' tk')) (hcs : cs = cs' k tk)
   (hil : Has gs [] il (.lst xs)) (hk : 0 ≤ k)
   (K : ∀ v p g' h' t' k' tk', p.ok d ∧ p.wordy → PlanAt (Fz g') p v → (∀ x ∈ gs, x.StaysIn g') → 0 ≤ k' → Kn g0 (g' :: gs) (cs' k' tk') h' → Q v (S r h' t')),
   wpAny (model Pg w) A (call (.ref 388) [.ref st, .int d td]) Q NoE (S r h t) := by
  intro d
  induction d using Nat.strongRecOn with
  | ind d ih =>
    intro hd gs cs cs' h A Q t k tk td H R u hcs hil hk K
    subst hcs
    refine enterC G H (R.le (k := 10 * d + 18 + 2)) (cn := [Str.ofString "state", Str.ofString "deep"]) (binds := [(Str.ofString "state", .ref st), (Str.ofString "deep", .int d td)]) (by exact rfl) (by exact rfl) (by exact rfl) (fun s _ => BindsTo.of_eq (by exact rfl)) (by exact rfl) (by exact rfl) (by exact rfl) (by exact rfl) (by exact rfl) (by exact rfl) (by exact rfl) ?_
    intro L as h₁ env A' A'' has e R R2 H hs' hL
    dsimp only at e
    match as, has with
    | [c1, c2], _ =>
    have H : Kn g0 gs ((c1, .cell none) :: (c2, .cell none) :: (L, .ns fun _ => none) :: cs' k tk) h₁ := H
    have e : EnvIs env L _ [(Str.ofString "deep", c2), (Str.ofString "state", c1)] := e
    refine binds_cons (st_cell e H (by exact rfl) (by exact rfl) (by walk_at "up") fun h' H => ?_)
    refine binds_cons (st_cell e H (by exact rfl) (by exact rfl) (by walk_at "up") fun h' H => ?_)
    refine binds_nil ⟨H.base, ?_⟩
    have nx : ∀ {h' : Heap} {t' : Nat} {k : Int} {tk tl : Tok} {lim : Int} {Q : Value → Shared → Prop} {m : Str → Option Value} (ps : List (Addr × Cel)), 0 ≤ k → 0 < lim → Kn g0 gs (ps ++ (c1, Cel.cell (some (Value.ref st))) :: (c2, Cel.cell (some (Value.int d td))) :: (L, Cel.ns m) :: cs' k tk) h' → 
       (∀ v tv h' t' k' tk', 0 ≤ v → v < lim → 0 ≤ k' → Kn g0 gs (ps ++ (c1, Cel.cell (some (Value.ref st))) :: (c2, Cel.cell (some (Value.int d td))) :: (L, Cel.ns m) :: cs' k' tk') h' → Q (.int v tv) (S r h' t')) → 
       wpAny (model Pg w) A' (call (.ref 383) [.ref st, .int lim tl]) Q NoE (S r h' t') := by
      intro h' t' k tk tl lim Q m ps hk hl H K
      exact s_next G (cs' := fun k tk => ps ++ (c1, Cel.cell (some (Value.ref st))) :: (c2, Cel.cell (some (Value.int d td))) :: (L, Cel.ns m) :: cs' k tk) H R.le (fun k' tk' => .app (.there (.there (.there (u _ _ _ _))))) hil hx hs hk hl K
    refine x_seq ?_
    refine x_if ?_
    refine wpAny_mono (Q := fun b s2 => ∃ k tk h' t', s2 = S r h' t' ∧ 0 ≤ k ∧ Kn g0 gs ((c1, Cel.cell (some (Value.ref st))) :: (c2, Cel.cell (some (Value.int d td))) :: (L, Cel.ns fun x => none) :: cs' k tk) h' ∧ (d = 0 → b = true)) (E := NoE) ?_ ?_ (fun _ _ q => q)
    · repeat walk_at "go"
      constructor
      · intro _
        exact ⟨_, _, _, _, rfl, hk, H, fun _ => rfl⟩
      · intro hd0
        repeat walk_at "go"
        walk_at "next"
        refine nx [] hk (by decide) H ?_
        intro v tv h' t' k tk h0 h1 hk H
        repeat walk_at "go"
        refine ⟨_, _, _, _, rfl, hk, H, fun e => ?_⟩
        simp [e] at hd0
    rintro b s2 ⟨k, tk, h', t', rfl, hk, H, hb⟩
    constructor
    · intro _
      repeat walk_at "go"
      walk_at "next"
      refine nx [] hk (by decide) H ?_
      intro v tv h' t' k tk h0 h1 hk H
      repeat walk_at "go"
      have hxy : ∃ x : Nat, (Str.ofString "xy").cps.toList[v.toNat]? = some x ∧ PyData.strOk ⟨#[x]⟩ = true := by
        have : v = 0 ∨ v = 1 := by omega
        rcases this with rfl | rfl
        · exact ⟨120, by decide +kernel, by decide +kernel⟩
        · exact ⟨121, by decide +kernel, by decide +kernel⟩
      obtain ⟨x, hxy, hxok⟩ := hxy
      refine u_get h0 h1 (by decide) hxy ?_
      intro twd t'
      have H : Kn g0 gs ((c1, Cel.cell (some (Value.ref st))) :: (c2, Cel.cell (some (Value.int d td))) :: (L, Cel.ns fun x => none) :: cs' k tk) h' := H
      repeat walk_at "go"
      rename_i s1 _ s2 _ s3 _
      refine ⟨sz, _, _, _, _, rfl, by assumption, fun lb h' H hs => ?_⟩
      repeat walk_at "go"
      walk_at "next"
      refine nx [(lb, _)] hk (by decide) H ?_
      intro v2 tv2 h' t' k tk h20 h21 hk H
      repeat walk_at "go"
      have hbl : ∃ bl tb, #[Value.str " " s1, Value.str "" s2, Value.str "  " s3].toList[v2.toNat]? = some (.str bl tb) ∧ bl.length ≤ 2 := by
        have : v2 = 0 ∨ v2 = 1 ∨ v2 = 2 := by omega
        rcases this with rfl | rfl | rfl
        · exact ⟨_, _, rfl, by decide⟩
        · exact ⟨_, _, rfl, by decide⟩
        · exact ⟨_, _, rfl, by decide⟩
      obtain ⟨bl, tb, hbl, hbl2⟩ := hbl
      refine l_get (H.lst (.head _)) h20 (by omega) hbl ?_
      repeat walk_at "go"
      walk_at "next"
      refine nx [(lb, _)] hk (by decide) H ?_
      intro v3 tv3 h' t' k tk h30 h31 hk H
      repeat walk_at "go"
      refine ⟨sz, _, _, _, _, rfl, H, fun ta h' H hs => ?_⟩
      repeat walk_at "go"
      obtain ⟨g', f1, f2, f3, f4⟩ := Kn.freeze (c1 := [(ta, _)]) H
      refine K _ (.leaf ⟨#[x]⟩ bl v3) g' _ _ _ _ ?_ ⟨ta, _, _, _, rfl, f1 _ (.head _)⟩ f2 hk f4.drop.drop.drop.drop
      refine ⟨?_, hxok⟩
      cases d <;> exact ⟨Nat.le_refl 1, hbl2⟩
    · intro hb'
      subst hb'
      have hd0 : d ≠ 0 := fun q => nomatch hb q
      obtain ⟨d1, rfl⟩ : ∃ d1, d = d1 + 1 := ⟨d - 1, by omega⟩
      repeat walk_at "go"
      walk_at "next"
      refine nx [] hk (by decide) H ?_
      intro v tv h' t' k tk h0 h1 hk H
      repeat walk_at "go"
      rename_i tkk _ _ _ H
      refine lc e H (by exact rfl) (by exact rfl) (by exact rfl) (by exact rfl) (by exact rfl) (fun _ => rfl) ?_
      refine callT G e H (by exact rfl) (no_range w) blt_range ?_
      repeat walk_at "go"
      walk_at "next"
      refine nx [] hk (by decide) H ?_
      intro v2 tv2 h' t' k tk h20 h21 hk H
      repeat walk_at "go"
      rename_i tkr _
      obtain ⟨n, hn, hn2⟩ : ∃ n : Nat, 1 + v2 = n ∧ (n = 1 ∨ n = 2) := ⟨(1 + v2).toNat, by omega, by omega⟩
      rw [hn]
      refine rg_call H fun ra t1 t2 h' t' H hs => ?_
      refine rg_iter (n := n) H (.head _) (by omega) fun I h' H hs => ?_
      refine ⟨gs, _, h', t', rfl, H, fun A' h3 t3 Q E k q => itself_rit H (.head _) k q, ?_⟩
      intro acc C as env' h3 t3 has e' hs3 H
      match as, has with
      | [], _ =>
      generalize (fun y => if y = Str.ofString "kind" then some (Value.int (256 + v) tkk) else none) = mL at H
      obtain ⟨g1, _, f2, _, H⟩ := Kn.freeze (c1 := []) H
      refine comp_src (σ := Int × Tok) (csf := fun σ => (ra, .ob (rng 0 n 1 t1 tkr t2)) :: (c1, Cel.cell (some (Value.ref st))) :: (c2, Cel.cell (some (Value.int ((d1 + 1 : Nat) : Int) td))) :: (L, .ns mL) :: cs' σ.1 σ.2)
        (J := fun i σ g ys => 0 ≤ σ.1 ∧ (∀ x ∈ gs, x.StaysIn g) ∧ ∃ ps : List Plan, All2 (fun p v => (p.ok d1 ∧ p.wordy) ∧ PlanAt (Fz g) p v) ps ys) (K := fun _ => True)
        (src_range R.hd I n) (by rw [sizeLine_eq]; omega) (by exact rfl) (by exact rfl) (fun _ _ _ _ _ _ _ => trivial) (fun _ _ _ _ _ _ _ _ q => go_name q) ?_ ?_
        n 0 g1 (k, tk) [] _ h3 t3 rfl (Nat.zero_le _) ⟨hk, f2, [], trivial⟩ rfl H
      · intro i x g σ ys m h t hi hx hJ hl H
        obtain ⟨hk, hgs, ps, hps⟩ := hJ
        repeat walk_at "go"
        walk_at "plan"
        rename_i tj _
        rw [show ((d1 + 1 : Nat) : Int) - 1 = d1 by omega]
        refine ih d1 (by omega) (by omega) (by assumption) (R.le (k := 10 * d1 + 20) (by omega)) (cs' := fun k tk => (C, .ns (fun y => if y = Str.ofString "k" then some x else m y)) :: (acc, Cel.lst ys.toArray) :: (I, Cel.ob (rit ((i + 1 : Nat) : Int) (n - (i + 1 : Nat)) 1)) :: (ra, Cel.ob (rng 0 n 1 t1 tkr t2)) :: (c1, Cel.cell (some (Value.ref st))) :: (c2, Cel.cell (some (Value.int ((d1 + 1 : Nat) : Int) td))) :: (L, Cel.ns mL) :: cs' k tk) ?_ rfl hil.consG hk ?_
        · exact fun k1 tk1 k' tk' => .there (.there (.there (.there (.there (.there (.there (u _ _ _ _)))))))
        · intro v p g' h' t' k' tk' hp hpv hgs' hk' H
          refine ⟨g', (k', tk'), _, _, _, rfl, H.gsub fun x hx => ?_, hk', fun x hx => hgs' _ (.tail _ hx), ps ++ [p], ?_⟩
          · rcases List.mem_cons.mp hx with rfl | hx
            · exact .head _
            · exact .tail _ (.tail _ hx)
          · exact (hps.mono fun p v q => ⟨q.1, q.2.mono fun a c z => z.mono (hgs' _ (.head _) _)⟩).snoc ⟨hp, hpv⟩
      · intro g σ ys m h t hJ hl H
        obtain ⟨hk, hgs, ps, hps⟩ := hJ
        refine ⟨⟨_, rfl⟩, _, _, _, _, _, rfl, H, fun h H => ?_⟩
        repeat walk_at "go"
        refine ⟨sz, _, _, _, _, rfl, by assumption, fun ta h' H hs => ?_⟩
        repeat walk_at "go"
        obtain ⟨g', f1, f2, f3, f4⟩ := Kn.freeze (c1 := [(ta, _), (acc, _)]) H
        have hps := hps.mono fun p v q => (⟨q.1, q.2.mono fun a c z => z.mono (f2 g (.head _) _)⟩ : (p.ok d1 ∧ p.wordy) ∧ PlanAt (Fz g') p v)
        have fin : ∀ p, p.ok (d1 + 1) ∧ p.wordy → PlanAt (Fz g') p (.ref ta) → Q (.ref ta) (S r h' t) := fun p hp hv =>
          K _ p g' _ _ _ _ hp hv (fun x hx => f2 x (.tail _ hx)) hk (f4.drop.drop.drop.drop.gsub fun x hx => by
            rcases List.mem_cons.mp hx with rfl | hx
            · exact .head _
            · exact .tail _ (.tail _ hx))
        have hacc : Fz g' acc (.lst ys.toArray) := f1 _ (.tail _ (.head _))
        rcases hn2 with rfl | rfl
        · match ys, ps, hl, hps, hacc with
          | [y], [p], _, hps, hacc =>
            exact fin (.one (256 + v) p) ⟨⟨by omega, hps.1.1.1⟩, hps.1.1.2⟩ ⟨ta, tkk, acc, y, rfl, f1 _ (.head _), hacc, hps.1.2⟩
        · match ys, ps, hl, hps, hacc with
          | [y, z], [p, q], _, hps, hacc =>
            exact fin (.two (256 + v) p q) ⟨⟨by omega, hps.1.1.1, hps.2.1.1.1⟩, hps.1.1.2, hps.2.1.1.2⟩ ⟨ta, tkk, acc, y, z, rfl, f1 _ (.head _), hacc, hps.1.2, hps.2.1.2⟩
end
section
variable {w : World} {g0 g h : Heap} {gs : List Heap} {cs : List (Addr × Cel)} {r : Shared} {t n : Nat} {A : Around} {Q : Value → Shared → Prop}

theorem s_leaf {rest : List Value} {kw : List (Str × Value)} {wd bl : Str} {row : Int} {c1 c2 f : Addr} {tk tw tb tl t1 t2 t3 : Tok} (G : Gl w g0) (H : Kn g0 gs cs h) (R : Rm A 12)
    (hbind : ∀ x (s : Shared), (KK w).In s.heap → ∀ fd oc od osl, (KK w).lookup 312 = some ⟨oc, od, .func fd, osl⟩ → BindsTo s fd ⟨.ref x :: rest, kw⟩ [(Str.ofString "self", .ref x), (Str.ofString "kind", .int 1 tk), (Str.ofString "value", .str wd tw), (Str.ofString "context", .ref c1),
      (Str.ofString "prefix", .none), (Str.ofString "fixers_applied", .ref f), (Str.ofString "opening_bracket", .none), (Str.ofString "fmt_pass_converted_first_leaf", .none), (Str.ofString "bracket_depth", .int 0 tb),
      (Str.ofString "line_ranges_first_lineno", .int 0 tl), (Str.ofString "line_ranges_selected", .none)])
    (hc1 : Has gs cs c1 (.tup #[.str bl t1, .ref c2])) (hc2 : Has gs cs c2 (.tup #[.int row t2, .int row t3])) (hf : Has (g0 :: gs) cs f (.lst #[]))
    (K : ∀ x d mk md fa ch m n h' t', LeafNs m mk fa ch wd bl row → m "parent" = none → m "was_changed" = none → n ≤ 20 →
      Kn g0 gs ((ch, .lst #[]) :: (fa, .lst #[]) :: (mk, .ob (instObj 31 md)) :: (md, .dct (fun _ => none) 0) :: (x, .ob (instObj 374 d)) :: (d, .dct m n) :: cs) h' → Q (.ref x) (S r h' t')) :
    wpAny (model Pg w) A (call (.ref 374) rest kw) Q NoE (S r h t) := by
  have H := H.withBase
  have hc1 := hc1.consG (g := g0)
  have hc2 := hc2.consG (g := g0)
  refine new_inst (n := 11) G H R (mk_Leaf w) (in_Leaf w) (by exact rfl) fun x dx h' A' R H hx hs => ?_
  refine enterA G H R (by exact rfl) (by exact rfl) (by exact rfl) (by exact fun s e => hbind x s (by rw [e]; exact (G.of H).K) _ _ _ _ (by exact rfl)) (by exact rfl) (by exact rfl) (by exact rfl) (by exact rfl) (by exact rfl) (by exact rfl) (by exact rfl) (by exact rfl) ?_
  intro L h₁ t₁ env A' e R H hs' hL
  dsimp only at e
  repeat walk_at "go"
  rw [if_pos (by decide)]
  repeat walk_at "go"
  refine ⟨by exact rfl, ?_⟩
  repeat walk_at "go"
  refine callN0 G e H (by exact rfl) (gl_Mark w) (gl_Mark_kp w) ?_
  refine new_plain G H (mk_Mark w) (in_Mark w) fun mk md h' H hmk hs => ?_
  repeat walk_at "go"
  constructor
  · intro _
    repeat walk_at "go"
    constructor
    · intro h; cases h
    · intro _
      repeat walk_at "go"
      refine ⟨_, _, _, _, rfl, by assumption, fun sl h' H hs => ?_⟩
      repeat walk_at "go"
      refine l_slice H (by walk_at "has") (.head _) .none .none (by decide) (fun fa h' H hs => ?_)
      rw [slicePick_all] at H
      repeat walk_at "go"
      refine ⟨sz, _, _, _, _, rfl, by assumption, fun ch h' H hs => ?_⟩
      repeat walk_at "go"
      rename_i H
      refine ⟨rfl, ?_⟩
      refine K _ _ mk md fa ch _ _ _ _ ?_ ?_ ?_ ?_ ((H.gsub (fun x hx => .tail _ hx)).sub (by walk_at "sub"))
      · exact ⟨by exact rfl, ⟨_, by exact rfl⟩, ⟨_, by exact rfl⟩, ⟨_, by exact rfl⟩, ⟨_, by exact rfl⟩, ⟨_, by exact rfl⟩, by exact rfl, by exact rfl, ⟨_, by exact rfl⟩, by exact rfl, by exact rfl, by exact rfl, by exact rfl, by exact rfl⟩
      · exact rfl
      · exact rfl
      · decide
  · intro h; cases h
end
section
variable {w : World} {g0 g h : Heap} {gs : List Heap} {cs : List (Addr × Cel)} {r : Shared} {t n : Nat} {A : Around} {Q : Value → Shared → Prop}

theorem s_inval {x d : Addr} {m : Str → Option Value} {cs1 cs2 : List (Addr × Cel)} (G : Gl w g0) (H : Kn g0 gs cs h) (R : Rm A 5) (hx : Has gs cs x (.ob (instObj 294 d)))
    (u1 : Up d (.dct m n) (.dct (putAt m "prev_sibling_map" .none) (n + 1)) cs cs1) (u2 : Up d (.dct (putAt m "prev_sibling_map" .none) (n + 1)) (.dct (putAt (putAt m "prev_sibling_map" .none) "next_sibling_map" .none) (n + 1 + 1)) cs1 cs2)
    (hx1 : Has gs cs1 x (.ob (instObj 294 d))) (hn : n < 800)
    (K : ∀ h' t', Kn g0 gs cs2 h' → Q .none (S r h' t')) :
    wpAny (model Pg w) A (call (.ref 256) [.ref x]) Q NoE (S r h t) := by
  refine enter G H R (binds := [(Str.ofString "self", .ref x)]) (by exact rfl) (by exact rfl) (by exact rfl) (fun s _ => BindsTo.of_eq (by exact rfl)) (by exact rfl) (by exact rfl) (by exact rfl) (by exact rfl) (by exact rfl) (by exact rfl) (by exact rfl) (by exact rfl) ?_
  intro L h₁ t₁ env A' e R H hs' hL
  dsimp only at e
  repeat walk_at "go"
  rename_i H
  exact K _ _ H.drop

def kidsAt (x : Addr) (kids : List Tr) (i : Nat) : List (Addr × Cel) := kidCells ((kids.take i).map (adopt x)) ++ kidCells (kids.drop i)
theorem kidsAt_zero (x : Addr) (kids : List Tr) : kidsAt x kids 0 = kidCells kids := rfl
theorem kidsAt_end (x : Addr) (kids : List Tr) : kidsAt x kids kids.length = kidCells (kids.map (adopt x)) := by
  unfold kidsAt; rw [List.take_length, List.drop_length]; exact List.append_nil _
theorem kidsAt_up {x : Addr} {kids : List Tr} {i : Nat} {k : Tr} (h : kids[i]? = some k) (cs : List (Addr × Cel)) : Up k.d (.dct k.m k.n) (.dct (putAt k.m "parent" (.ref x)) (k.n + 1)) (kidsAt x kids i ++ cs) (kidsAt x kids (i + 1) ++ cs) := by
  obtain ⟨hi, rfl⟩ := List.getElem?_eq_some_iff.mp h
  unfold kidsAt
  rw [List.drop_eq_getElem_cons hi, List.take_succ_eq_append_getElem hi, List.map_append]
  unfold kidCells
  rw [List.flatMap_append, List.append_assoc, List.append_assoc, List.append_assoc]
  refine .app ?_
  show Up _ _ _ ((kids[i].cells ++ _) ++ cs) (((adopt x kids[i]).cells ++ []) ++ _)
  unfold adopt
  rw [Tr.setN_cells, List.append_nil, List.append_assoc]
  exact .here
theorem kidsAt_has {gs : List Heap} {x : Addr} {kids : List Tr} {i : Nat} {k : Tr} (h : kids[i]? = some k) (cs : List (Addr × Cel)) : ∀ p ∈ k.cells, Has gs (kidsAt x kids i ++ cs) p.1 p.2 := by
  obtain ⟨hi, rfl⟩ := List.getElem?_eq_some_iff.mp h
  intro p hp
  refine .inl (List.mem_append_left _ ?_)
  unfold kidsAt
  rw [List.drop_eq_getElem_cons hi]
  exact List.mem_append_right _ (List.mem_append_left _ hp)

theorem s_node {rest : List Value} {kw : List (Str × Value)} {k : Int} {lc : Addr} {kids : List Tr} {tk : Tok} (G : Gl w g0) (R : Rm A 15) (hk : 256 ≤ k)
    (hbind : ∀ x (s : Shared), (KK w).In s.heap → ∀ fd oc od osl, (KK w).lookup 180 = some ⟨oc, od, .func fd, osl⟩ → BindsTo s fd ⟨.ref x :: rest, kw⟩ [(Str.ofString "self", .ref x), (Str.ofString "kind", .int k tk), (Str.ofString "children", .ref lc), (Str.ofString "context", .none),
      (Str.ofString "prefix", .none), (Str.ofString "fixers_applied", .none)])
    (H : Kn g0 gs (kidCells kids ++ cs) h)
    (hl : Has gs cs lc (.lst (kids.map fun t => Value.ref t.x).toArray)) (hn : kids.length ≤ 10) (hkid : ∀ t ∈ kids, t.m "parent" = none ∧ t.n ≤ 50)
    (K : ∀ x d mk md l m n h' t', NodeNs m mk l k → m "parent" = none → m "was_changed" = none → n ≤ 20 →
      Kn g0 gs ((d, .dct m n) :: (x, .ob (instObj 294 d)) :: (mk, .ob (instObj 31 md)) :: (md, .dct (fun _ => none) 0) :: (l, .lst (kids.map fun t => Value.ref t.x).toArray) :: (kidCells (kids.map (adopt x)) ++ cs)) h' → Q (.ref x) (S r h' t')) :
    wpAny (model Pg w) A (call (.ref 294) rest kw) Q NoE (S r h t) := by
  refine new_inst (n := 14) G H R (mk_Node w) (in_Node w) (by kernel_rfl) fun x dx h' A' R H hx hs => ?_
  refine enterA G H R (by exact rfl) (by exact rfl) (by exact rfl) (by exact fun s e => hbind x s (by rw [e]; exact (G.of H).K) _ _ _ _ (by exact rfl)) (by exact rfl) (by exact rfl) (by exact rfl) (by exact rfl) (by exact rfl) (by exact rfl) (by exact rfl) (by exact rfl) ?_
  intro L h₁ t₁ env A' e R H hs' hL
  dsimp only at e
  repeat walk_at "go"
  refine ⟨by simpa using hk, ?_⟩
  repeat walk_at "go"
  refine callN0 G e (by assumption) (by exact rfl) (gl_Mark w) (gl_Mark_kp w) ?_
  refine new_plain G (by assumption) (mk_Mark w) (in_Mark w) fun mk md h' H hmk hs => ?_
  repeat walk_at "go"
  walk_at "list"
  refine c_list (by assumption) (by walk_at "has") (by simp; omega) fun l h' H hs => ?_
  repeat walk_at "go"
  refine x_for ?_
  repeat walk_at "go"
  refine itL (by assumption) (by walk_at "has") fun I h' H hs => ?_
  rw [← kidsAt_zero x kids] at H
  have H := H.withBase
  refine for_src (σ := Nat × (Str → Option Value)) (csf := fun σ => (l, Cel.lst (List.map (fun t => Value.ref t.x) kids).toArray) :: (mk, .ob (instObj 31 md)) :: (md, .dct (fun _ => none) 0) :: (L, .ns σ.2) :: (x, .ob (instObj 294 dx)) ::
      (dx, .dct (fun y => if y = Str.ofString "children" then some (Value.ref l) else if y = Str.ofString "mark" then some (Value.ref mk) else if y = Str.ofString "type" then some (Value.int k tk) else none) 3) :: (kidsAt x kids σ.1 ++ cs))
    (J := fun i σ g => σ.1 = i ∧ g0 = g ∧ σ.2 "self" = some (.ref x) ∧ σ.2 "prefix" = some .none ∧ σ.2 "fixers_applied" = some .none)
    (src_list R.hd I l _) (fun _ _ _ _ H => H.lst (.tail _ (.head _))) (fun _ _ _ _ _ _ _ _ q => go_name q) ?_ ?_ _ 0 g0 (0, _) _ _ rfl (Nat.zero_le _) ⟨rfl, rfl, by exact rfl, by exact rfl, by exact rfl⟩ H
  · rintro i v g ⟨i', mL⟩ h t hi hv ⟨rfl, rfl, hs1, hs2, hs3⟩ H
    dsimp only at H hs1 hs2 hs3
    obtain ⟨kid, hkd, rfl⟩ : ∃ kid, kids[i']? = some kid ∧ v = .ref kid.x := by
      have : (List.map (fun t => Value.ref t.x) kids)[i']? = some v := hv
      rw [List.getElem?_map] at this
      obtain ⟨a, b, c⟩ := Option.map_eq_some_iff.mp this
      exact ⟨a, b, c.symm⟩
    have hob := kidsAt_has (gs := g0 :: gs) (x := x) hkd cs _ kid.x_mem
    have hns := kidsAt_has (gs := g0 :: gs) (x := x) hkd cs _ (.head _)
    have hup := kidsAt_up (x := x) hkd cs
    have ok1 : ClsOk w kid.C "parent" .none := by cases kid; exact cl_Leaf_parent w; exact cl_Node_parent w; exact cl_Node_parent w
    have ok2 : SetOk w kid.C "parent" := by cases kid; exact se_Leaf_parent w; exact se_Node_parent w; exact se_Node_parent w
    obtain ⟨hp, hn'⟩ := hkid kid (List.mem_of_getElem? hkd)
    repeat walk_at "go"
    refine ⟨by exact rfl, ?_⟩
    repeat walk_at "go"
    rename_i H
    refine ⟨rfl, g0, (i' + 1, _), _, _, rfl, H, rfl, rfl, ?_, ?_, ?_⟩
    · assumption
    · assumption
    · assumption
  · rintro g ⟨i', mL⟩ h t ⟨rfl, rfl, hs1, hs2, hs3⟩ H
    dsimp only at H hs1 hs2 hs3
    rw [show (List.map (fun t => Value.ref t.x) kids).toArray.size = kids.length by simp, kidsAt_end] at H
    repeat walk_at "go"
    refine cw0 G (by assumption) (kf_256 w) ?_
    refine s_inval G (by assumption) R.le (by walk_at "has") (by walk_at "up") (by walk_at "up") (by walk_at "has") (by omega) fun h' t' H => ?_
    repeat walk_at "go"
    refine ⟨fun q => (by cases q), fun _ => ?_⟩
    repeat walk_at "go"
    refine ⟨fun q => (by cases q), fun _ => ?_⟩
    repeat walk_at "go"
    rename_i H
    refine ⟨rfl, ?_⟩
    refine K x dx mk md l _ _ _ _ ?_ ?_ ?_ ?_ ((H.gsub (fun x hx => .tail _ hx)).pick (by walk_at "pick"))
    · exact ⟨by exact rfl, ⟨_, by exact rfl⟩, by exact rfl, by exact rfl, by exact rfl, by exact rfl, by exact rfl, by exact rfl, by exact rfl, by exact rfl, by exact rfl, by exact rfl, by exact rfl, by exact rfl⟩
    · exact rfl
    · exact rfl
    · decide
end
section
variable {w : World} {g0 g : Heap} {r : Shared}
theorem fd_eq {f : Addr} {fd fd' : FuncData} {oc oc' : Value} {od od' : Option Addr} {osl osl' : Array (Option Value)} (e : (KK w).lookup f = some ⟨oc, od, .func fd, osl⟩) (e' : (KK w).lookup f = some ⟨oc', od', .func fd', osl'⟩) : fd = fd' := by
  rw [e] at e'; cases e'; rfl
theorem bind_leaf {wd : Str} {tw tk : Tok} {c1 : Addr} (x : Addr) (s : Shared) (X : (KK w).In s.heap) (fd : FuncData) (oc : Value) (od : Option Addr) (osl : Array (Option Value)) (e : (KK w).lookup 312 = some ⟨oc, od, .func fd, osl⟩) :
    BindsTo s fd ⟨.ref x :: [.int 1 tk, .str wd tw, .ref c1], []⟩ [(Str.ofString "self", .ref x), (Str.ofString "kind", .int 1 tk), (Str.ofString "value", .str wd tw), (Str.ofString "context", .ref c1),
      (Str.ofString "prefix", .none), (Str.ofString "fixers_applied", .ref 304), (Str.ofString "opening_bracket", .none), (Str.ofString "fmt_pass_converted_first_leaf", .none), (Str.ofString "bracket_depth", .int 0 566),
      (Str.ofString "line_ranges_first_lineno", .int 0 567), (Str.ofString "line_ranges_selected", .none)] := by
  rw [fd_eq e (by exact rfl)]
  exact binds_K (T := 305) X (by exact rfl) (by exact rfl) (by exact rfl) (by exact rfl) (by exact rfl)
theorem bind_node {k : Int} {tk : Tok} {lc : Addr} (x : Addr) (s : Shared) (X : (KK w).In s.heap) (fd : FuncData) (oc : Value) (od : Option Addr) (osl : Array (Option Value)) (e : (KK w).lookup 180 = some ⟨oc, od, .func fd, osl⟩) :
    BindsTo s fd ⟨.ref x :: [.int k tk, .ref lc], []⟩ [(Str.ofString "self", .ref x), (Str.ofString "kind", .int k tk), (Str.ofString "children", .ref lc), (Str.ofString "context", .none),
      (Str.ofString "prefix", .none), (Str.ofString "fixers_applied", .none)] := by
  rw [fd_eq e (by exact rfl)]
  exact binds_K (T := 173) X (by exact rfl) (by exact rfl) (by exact rfl) (by exact rfl) (by exact rfl)
section
variable {gs : List Heap} {cs : List (Addr × Cel)} {h : Heap} {t : Nat} {A : Around} {Q : Value → Shared → Prop}
theorem s_made_leaf (G : Gl w g0) {wd bl : Str} {row : Int} {v : Value} (hv : PlanAt (fun a c => Has gs [] a c) (.leaf wd bl row) v)
    (H : Kn g0 gs cs h) (R : Rm A 30) (K : ∀ t h' t', Tr.Ok t (.leaf wd bl row) → t.m "parent" = none → t.Calm → t.n ≤ 20 → Kn g0 gs (t.cells ++ cs) h' → Q (.ref t.x) (S r h' t')) :
    wpAny (model Pg w) A (call (.ref 393) [v]) Q NoE (S r h t) := by
  match hv with
  | ⟨a, t1, t2, t3, e, ha⟩ =>
  subst e
  have ha : ∀ cs, Has gs cs a _ := fun cs => ha.mono (fun _ h => h) fun _ h => nomatch h
  refine enter G H R (binds := [(Str.ofString "plan", Value.ref a)]) (by exact rfl) (by exact rfl) (by exact rfl) (fun s _ => BindsTo.of_eq (by exact rfl)) (by exact rfl) (by exact rfl) (by exact rfl) (by exact rfl) (by exact rfl) (by exact rfl) (by exact rfl) (by exact rfl) ?_
  intro L h₁ t₁ env A' e R H hs' hL
  dsimp only at e
  have ha := ha ((L, .ns fun x => List.lookup x [(Str.ofString "plan", Value.ref a)].reverse) :: cs)
  repeat walk_at "go"
  walk_at "isinstance"
  repeat walk_at "go"
  refine ⟨fun _ => ?_, fun q => (by cases q)⟩
  repeat walk_at "go"
  refine callN G e (by assumption) (by exact rfl) (gl_Leaf w) (gl_Leaf_kp w) ?_
  repeat walk_at "go"
  refine ⟨sz, _, _, _, _, rfl, by assumption, fun c2 h' H hs => ?_⟩
  repeat walk_at "go"
  refine ⟨sz, _, _, _, _, rfl, by assumption, fun c1 h' H hs => ?_⟩
  repeat walk_at "go"
  refine s_leaf G (by assumption) R.le bind_leaf (by walk_at "has") (by walk_at "has") (.inr ⟨g0, .head _, ⟨_, G.K _ _ (by exact rfl), rfl, _, rfl⟩⟩) ?_
  intro x d mk md fa ch m n h' t' N hp hw hn H
  repeat walk_at "go"
  exact K (.leaf x d mk md fa ch m n) _ _ ⟨N, by omega⟩ hp ⟨hw, by omega⟩ hn (H.pick (by walk_at "pick"))
end
theorem s_made (G : Gl w g0) : ∀ (d : Nat) {p : Plan} {v : Value} {gs : List Heap} {cs : List (Addr × Cel)} {h : Heap} {t : Nat} {A : Around} {Q : Value → Shared → Prop}, p.ok d → PlanAt (fun a c => Has gs [] a c) p v →
    Kn g0 gs cs h → Rm A (30 * d + 30) → (∀ t h' t', Tr.Ok t p → t.m "parent" = none → t.Calm → t.n ≤ 20 → Kn g0 gs (t.cells ++ cs) h' → Q (.ref t.x) (S r h' t')) →
    wpAny (model Pg w) A (call (.ref 393) [v]) Q NoE (S r h t) := by
  intro d
  induction d with
  | zero =>
    intro p v gs cs h t A Q hp hv H R K
    match p, hp, hv with
    | .leaf wd bl row, _, hv => exact s_made_leaf G hv H R.le K
  | succ d ih =>
    intro p v gs cs h t A Q hp hv H R K
    by_cases hnd : p.isNode
    rotate_left
    · match p, hnd, hv with
      | .leaf wd bl row, _, hv => exact s_made_leaf G hv H R.le K
      | .one .., hnd, _ => exact absurd trivial hnd
      | .two .., hnd, _ => exact absurd trivial hnd
    obtain ⟨a, tk, l, vs, rfl, ha, hl, hvs⟩ := hv.node hnd
    obtain ⟨d1, hd1, hk, hoks, hlen⟩ := hp.node hnd
    obtain rfl : d = d1 := by omega
    have hlv : vs.length ≤ 2 := by rw [← hvs.len]; exact hlen
    have ha : ∀ cs, Has gs cs a _ := fun cs => ha.mono (fun _ h => h) fun _ h => nomatch h
    have hl : ∀ cs, Has gs cs l _ := fun cs => hl.mono (fun _ h => h) fun _ h => nomatch h
    refine enter G H R (binds := [(Str.ofString "plan", Value.ref a)]) (n := 30 * d + 59) (by exact rfl) (by exact rfl) (by exact rfl) (fun s _ => BindsTo.of_eq (by exact rfl)) (by exact rfl) (by exact rfl) (by exact rfl) (by exact rfl) (by exact rfl) (by exact rfl) (by exact rfl) (by exact rfl) ?_
    intro L h₁ t₁ env A' e R H hs' hL
    dsimp only at e
    have ha := ha ((L, .ns fun x => List.lookup x [(Str.ofString "plan", Value.ref a)].reverse) :: cs)
    have hl := hl ((L, .ns fun x => List.lookup x [(Str.ofString "plan", Value.ref a)].reverse) :: cs)
    repeat walk_at "go"
    walk_at "isinstance"
    repeat walk_at "go"
    refine ⟨fun q => (by cases q), fun _ => ?_⟩
    repeat walk_at "go"
    refine callN G e (by assumption) (by exact rfl) (gl_Node w) (gl_Node_kp w) ?_
    repeat walk_at "go"
    refine lc e (by assumption) (by exact rfl) (by exact rfl) (by exact rfl) (by exact rfl) (by exact rfl) (fun _ => rfl) ?_
    repeat walk_at "go"
    refine itL (by assumption) hl fun I h' H hs => ?_
    refine ⟨gs, _, h', _, rfl, H, fun A' h3 t3 Q E k q => itself_lit H (.head _) k q, ?_⟩
    intro acc C as env' h3 t3 has e' hs3 H
    match as, has with
    | [], _ =>
    have H := H.withBase
    refine comp_src (σ := List Tr) (csf := fun σ => kidCells σ ++ (L, .ns fun x => List.lookup x [(Str.ofString "plan", Value.ref a)].reverse) :: cs)
        (J := fun i σ g ys => g0 = g ∧ ys = σ.map (fun t => Value.ref t.x) ∧ All2 (fun (t : Tr) q => t.Ok q ∧ t.m "parent" = none ∧ t.Calm ∧ t.n ≤ 20) σ (p.kids.take i)) (K := fun h => h.IsList l vs.toArray)
        (src_list R.hd I l vs.toArray) (by rw [sizeLine_eq]; simp; omega) (by exact rfl) (by exact rfl) (fun _ _ σ _ _ _ H => ?_) (fun _ _ _ _ _ _ _ _ q => go_name q) ?_ ?_
        vs.length 0 g0 [] [] _ h3 t3 rfl (Nat.zero_le _) ⟨rfl, rfl, trivial⟩ rfl H
    · exact Has.at (c := .lst vs.toArray) H (by walk_at "has")
    · rintro i v g σ ys m h t hi hv' ⟨rfl, rfl, hσ⟩ hlen' H
      obtain ⟨q, hq, hqv⟩ := hvs.get (i := i) (b := v) hv'
      repeat walk_at "go"
      walk_at "made"
      have hqok := hoks q (List.mem_of_getElem? hq)
      refine ih hqok (hqv.mono fun a c z => z.consG) (by assumption) R.le fun t h' t' ht hp hcm hn H => ?_
      have H2 := H.perm (perm_in (A := t.cells) (B := kidCells σ))
      rw [← kidCells_snoc] at H2
      refine ⟨g0, σ ++ [t], _, _, _, rfl, H2, rfl, by simp, ?_⟩
      obtain ⟨hi', he⟩ := List.getElem?_eq_some_iff.mp hq
      rw [List.take_succ_eq_append_getElem hi', he]
      exact hσ.snoc ⟨ht, hp, hcm, hn⟩
    · rintro g σ ys m h t ⟨rfl, rfl, hσ⟩ hlen' H
      have hσ : All2 (fun (t : Tr) q => t.Ok q ∧ t.m "parent" = none ∧ t.Calm ∧ t.n ≤ 20) σ p.kids := by rw [List.take_of_length_le (by simp [hvs.len])] at hσ; exact hσ
      refine ⟨⟨_, rfl⟩, _, _, _, _, _, rfl, H, fun h H => ?_⟩
      repeat walk_at "go"
      refine s_node G (kids := σ) R.le hk bind_node (H.perm List.perm_middle) (.inl (.head _)) (by rw [hσ.len]; omega) (fun t ht => ?_) ?_
      · obtain ⟨i, hi⟩ := List.getElem?_of_mem ht
        obtain ⟨q, _, hq⟩ := hσ.get' hi
        exact ⟨hq.2.1, by omega⟩
      intro x d mk md l' m n h' t' N hp hw hn H
      repeat walk_at "go"
      have hσ2 : All2 (fun (t : Tr) q => t.Ok q ∧ t.m "parent" = some (.ref x)) (σ.map (adopt x)) p.kids := by
        refine hσ.map_left fun t q z => ⟨z.1.put (.inl rfl) (by omega), ?_⟩
        unfold adopt Tr.setN
        rw [Tr.put_m]; exact putAt_self _ _ _
      obtain ⟨t, e1, e2, e3, e4, e5, e6⟩ := Tr.build (d := d) (mk := mk) (md := md) (l := l') (m := m) (n := n) hnd hσ2 N (by omega)
      have e0 : List.map (fun t => Value.ref t.x) (List.map (adopt x) σ) = List.map (fun t => Value.ref t.x) σ := by
        rw [List.map_map]; refine List.map_congr_left fun t _ => ?_
        show Value.ref (t.setN _ _).x = _
        unfold Tr.setN; rw [Tr.put_x]
      rw [e0] at e5
      subst e1 e2 e3
      refine K t _ _ e4 hp (e6 hw (by omega) fun k hk => ?_) hn ((H.gsub (fun x hx => .tail _ hx)).pick (e5.append (.drop (.drop .rfl))))
      obtain ⟨k0, hk0, rfl⟩ := List.mem_map.mp hk
      obtain ⟨i, hi⟩ := List.getElem?_of_mem hk0
      obtain ⟨q, _, hq⟩ := hσ.get' hi
      exact hq.2.2.1.put (by omega)
end
/-- the text of a plan -/
def Plan.text : Plan → Str
  | .leaf wd bl _ => bl ++ wd
  | .one _ p => Txt.join "" [p.text]
  | .two _ p q => Txt.join "" [p.text, q.text]
theorem Plan.text_node {p : Plan} (h : p.isNode) : p.text = Txt.join "" (p.kids.map Plan.text) := by
  cases p with
  | leaf => exact h.elim
  | one k p => rfl
  | two k p q => rfl
theorem join_len (l : List Str) : (Txt.join "" l).length ≤ (l.map (·.length)).sum := by
  unfold Txt.join
  rw [StrLaws.glued_eq_join]
  have := StrLaws.join_length_le "" l
  have h3 : (Str.ofString "").length = 0 := by decide
  rw [h3] at this
  simpa using this
theorem Plan.text_len : ∀ {d : Nat} {p : Plan}, p.ok d → p.text.length ≤ 3 * 2 ^ d
  | 0, .leaf wd bl row, h => by
    show (bl ++ wd).length ≤ _
    rw [Str.length_append]; have := h.1; have := h.2; omega
  | d + 1, .leaf wd bl row, h => by
    show (bl ++ wd).length ≤ _
    rw [Str.length_append]; have := h.1; have := h.2; have : 1 ≤ 2 ^ (d + 1) := Nat.one_le_two_pow; omega
  | 0, .one .., h => h.elim
  | 0, .two .., h => h.elim
  | d + 1, .one k p, h => by
    refine Nat.le_trans (join_len _) ?_
    have := Plan.text_len h.2
    simp only [List.map_cons, List.map_nil, List.sum_cons, List.sum_nil, Nat.pow_succ]; omega
  | d + 1, .two k p q, h => by
    refine Nat.le_trans (join_len _) ?_
    have := Plan.text_len h.2.1
    have := Plan.text_len h.2.2
    simp only [List.map_cons, List.map_nil, List.sum_cons, List.sum_nil, Nat.pow_succ]; omega
theorem sum_le {α : Type} {f : α → Nat} {b : Nat} : ∀ {l : List α}, (∀ q ∈ l, f q ≤ b) → (l.map f).sum ≤ l.length * b
  | [], _ => by simp
  | a :: l, h => by
    have h1 := h a (.head _)
    have h2 := sum_le (l := l) fun q hq => h q (.tail _ hq)
    simp only [List.map_cons, List.sum_cons, List.length_cons, Nat.succ_mul]; omega
theorem strs_snoc {vs : List Value} {ys : List Str} {y : Str} {t : Tok} (h : StrsAre vs ys) : StrsAre (vs ++ [.str y t]) (ys ++ [y]) := by
  induction h with
  | nil => exact .cons y t .nil
  | cons y' t' _ ih => exact .cons y' t' ih

section
variable {w : World} {g0 g : Heap} {r : Shared}
section
variable {gs : List Heap} {cs : List (Addr × Cel)} {h : Heap} {t : Nat} {A : Around} {Q : Value → Shared → Prop}
theorem s_text_leaf (G : Gl w g0) {wd bl : Str} {row : Int} {v : Value} (hv : PlanAt (fun a c => Has gs [] a c) (.leaf wd bl row) v) (hw : wd.length ≤ 1 ∧ bl.length ≤ 2)
    (H : Kn g0 gs cs h) (R : Rm A 30) (K : ∀ tk h' t', Kn g0 gs cs h' → Q (.str (bl ++ wd) tk) (S r h' t')) :
    wpAny (model Pg w) A (call (.ref 424) [v]) Q NoE (S r h t) := by
  match hv with
  | ⟨a, t1, t2, t3, e, ha⟩ =>
  subst e
  have ha : ∀ cs, Has gs cs a _ := fun cs => ha.mono (fun _ h => h) fun _ h => nomatch h
  refine enter G H R (binds := [(Str.ofString "plan", Value.ref a)]) (by exact rfl) (by exact rfl) (by exact rfl) (fun s _ => BindsTo.of_eq (by exact rfl)) (by exact rfl) (by exact rfl) (by exact rfl) (by exact rfl) (by exact rfl) (by exact rfl) (by exact rfl) (by exact rfl) ?_
  intro L h₁ t₁ env A' e R H hs' hL
  dsimp only at e
  have ha := ha ((L, .ns fun x => List.lookup x [(Str.ofString "plan", Value.ref a)].reverse) :: cs)
  repeat walk_at "go"
  walk_at "isinstance"
  repeat walk_at "go"
  refine ⟨fun _ => ?_, fun q => (by cases q)⟩
  repeat walk_at "go"
  refine b_addS (by omega) fun tk t' => ?_
  repeat walk_at "go"
  exact K _ _ _ H.drop
end
theorem s_text (G : Gl w g0) : ∀ (d : Nat) {p : Plan} {v : Value} {gs : List Heap} {cs : List (Addr × Cel)} {h : Heap} {t : Nat} {A : Around} {Q : Value → Shared → Prop}, d ≤ 6 → p.ok d → PlanAt (fun a c => Has gs [] a c) p v →
    Kn g0 gs cs h → Rm A (30 * d + 30) → (∀ tk h' t', Kn g0 gs cs h' → Q (.str p.text tk) (S r h' t')) →
    wpAny (model Pg w) A (call (.ref 424) [v]) Q NoE (S r h t) := by
  intro d
  induction d with
  | zero =>
    intro p v gs cs h t A Q hd hp hv H R K
    match p, hp, hv with
    | .leaf wd bl row, hp, hv => exact s_text_leaf G hv hp H R.le K
  | succ d ih =>
    intro p v gs cs h t A Q hd6 hp hv H R K
    by_cases hnd : p.isNode
    rotate_left
    · match p, hnd, hp, hv with
      | .leaf wd bl row, _, hp, hv => exact s_text_leaf G hv (by cases d <;> exact hp) H R.le K
      | .one .., hnd, _, _ => exact absurd trivial hnd
      | .two .., hnd, _, _ => exact absurd trivial hnd
    obtain ⟨a, tk, l, vs, rfl, ha, hl, hvs⟩ := hv.node hnd
    obtain ⟨d1, hd1, hk, hoks, hlen⟩ := hp.node hnd
    obtain rfl : d = d1 := by omega
    have hlv : vs.length ≤ 2 := by rw [← hvs.len]; exact hlen
    have ha : ∀ cs, Has gs cs a _ := fun cs => ha.mono (fun _ h => h) fun _ h => nomatch h
    have hl : ∀ cs, Has gs cs l _ := fun cs => hl.mono (fun _ h => h) fun _ h => nomatch h
    refine enter G H R (binds := [(Str.ofString "plan", Value.ref a)]) (n := 30 * d + 59) (by exact rfl) (by exact rfl) (by exact rfl) (fun s _ => BindsTo.of_eq (by exact rfl)) (by exact rfl) (by exact rfl) (by exact rfl) (by exact rfl) (by exact rfl) (by exact rfl) (by exact rfl) (by exact rfl) ?_
    intro L h₁ t₁ env A' e R H hs' hL
    dsimp only at e
    have ha := ha ((L, .ns fun x => List.lookup x [(Str.ofString "plan", Value.ref a)].reverse) :: cs)
    have hl := hl ((L, .ns fun x => List.lookup x [(Str.ofString "plan", Value.ref a)].reverse) :: cs)
    repeat walk_at "go"
    walk_at "isinstance"
    repeat walk_at "go"
    refine ⟨fun q => (by cases q), fun _ => ?_⟩
    repeat walk_at "go"
    refine lc e (by assumption) (by exact rfl) (by exact rfl) (by exact rfl) (by exact rfl) (by exact rfl) (fun _ => rfl) ?_
    repeat walk_at "go"
    refine itL (by assumption) hl fun I h' H hs => ?_
    refine ⟨gs, _, h', _, rfl, H, fun A' h3 t3 Q E k q => itself_lit H (.head _) k q, ?_⟩
    intro acc C as env' h3 t3 has e' hs3 H
    match as, has with
    | [], _ =>
    have H := H.withBase
    refine comp_src (σ := Unit) (csf := fun _ => (L, .ns fun x => List.lookup x [(Str.ofString "plan", Value.ref a)].reverse) :: cs)
        (J := fun i σ g ys => g0 = g ∧ StrsAre ys ((p.kids.take i).map Plan.text)) (K := fun h => h.IsList l vs.toArray)
        (src_list R.hd I l vs.toArray) (by rw [sizeLine_eq]; simp; omega) (by exact rfl) (by exact rfl) (fun _ _ σ _ _ _ H => ?_) (fun _ _ _ _ _ _ _ _ q => go_name q) ?_ ?_
        vs.length 0 g0 () [] _ h3 t3 rfl (Nat.zero_le _) ⟨rfl, .nil⟩ rfl H
    · exact Has.at (c := .lst vs.toArray) H (by walk_at "has")
    · rintro i v g σ ys m h t hi hv' ⟨rfl, hσ⟩ hlen' H
      obtain ⟨q, hq, hqv⟩ := hvs.get (i := i) (b := v) hv'
      repeat walk_at "go"
      walk_at "text"
      have hqok := hoks q (List.mem_of_getElem? hq)
      refine ih (by omega) hqok (hqv.mono fun a c z => z.consG) (by assumption) R.le fun tk h' t' H => ?_
      refine ⟨g0, (), _, _, _, rfl, H, rfl, ?_⟩
      obtain ⟨hi', he⟩ := List.getElem?_eq_some_iff.mp hq
      rw [List.take_succ_eq_append_getElem hi', he, List.map_append]
      exact strs_snoc hσ
    · rintro g σ ys m h t ⟨rfl, hσ⟩ hlen' H
      have hσ : StrsAre ys (p.kids.map Plan.text) := by rw [List.take_of_length_le (by simp [hvs.len])] at hσ; exact hσ
      refine ⟨⟨_, rfl⟩, _, _, _, _, _, rfl, H, fun h H => ?_⟩
      repeat walk_at "go"
      refine s_join (H.lst (.head _)) (by simpa using hσ) ?_ fun tk t' => ?_
      · have h1 : ((p.kids.map Plan.text).map (·.length)).sum ≤ (p.kids.map Plan.text).length * 192 := by
          refine sum_le fun y hy => ?_
          obtain ⟨q, hq, rfl⟩ := List.mem_map.mp hy
          refine Nat.le_trans (Plan.text_len (hoks q hq)) ?_
          have : 2 ^ d ≤ 2 ^ 6 := Nat.pow_le_pow_right (by decide) (by omega)
          omega
        have h2 : (p.kids.map Plan.text).length ≤ 2 := by simpa using hlen
        have h3 : (Str.ofString "").length = 0 := by decide
        rw [h3]
        omega
      · rw [← Plan.text_node hnd]
        exact K _ _ _ ((H.gsub (fun x hx => .tail _ hx)).pick (by walk_at "pick"))
end
/-- what a plan tells -/
def Plan.told : Plan → PyData
  | .leaf wd _ _ => .str wd
  | .one k p => .tuple [.int k, .list [p.told]]
  | .two k p q => .tuple [.int k, .list [p.told, q.told]]
theorem Plan.told_node {p : Plan} (h : p.isNode) : p.told = .tuple [.int p.kind, .list (p.kids.map Plan.told)] := by
  cases p with
  | leaf => exact h.elim
  | one k p => rfl
  | two k p q => rfl
def RdV (g : Heap) (v : Value) (d : PyData) : Prop := ∃ as, Reads g v d as
theorem RdV.keeps {g g' : Heap} {v : Value} {d : PyData} (x : RdV g v d) (k : g.StaysIn g') : RdV g' v d := let ⟨as, y⟩ := x; ⟨as, Reads.keeps k y⟩
theorem rd_all {g : Heap} : ∀ {ds : List PyData} {vs : List Value}, All2 (fun d v => RdV g v d) ds vs → ∃ as, ReadsAll g vs ds as
  | [], [], _ => ⟨_, .nil⟩
  | _ :: _, _ :: _, ⟨⟨as, h⟩, t⟩ => let ⟨bs, u⟩ := rd_all t; ⟨_, .cons h u⟩
  | [], _ :: _, h => h.elim
  | _ :: _, [], h => h.elim
theorem rd_list {g : Heap} {a : Addr} {ys : Array Value} {ds : List PyData} (x : g.IsList a ys) (h : All2 (fun d v => RdV g v d) ds ys.toList) : RdV g (.ref a) (.list ds) := by
  obtain ⟨o, ho, hc, n, hd⟩ := x
  obtain ⟨as, u⟩ := rd_all h
  exact ⟨_, .list ho hc hd u⟩
theorem rd_tup {g : Heap} {a : Addr} {ys : Array Value} {ds : List PyData} (x : g.IsTuple a ys) (h : All2 (fun d v => RdV g v d) ds ys.toList) : RdV g (.ref a) (.tuple ds) := by
  obtain ⟨o, ho, hc, n, hd⟩ := x
  obtain ⟨as, u⟩ := rd_all h
  exact ⟨_, .tuple ho hc hd u⟩
theorem All2.map_left2 {α β γ : Type} {R : α → β → Prop} {R' : γ → β → Prop} {f : α → γ} (k : ∀ a b, R a b → R' (f a) b) {l : List α} {m : List β} (h : All2 R l m) : All2 R' (l.map f) m := h.map_left k
theorem told_K {g0 : Heap} {gs : List Heap} {cs : List (Addr × Cel)} {r : Shared} {Q : Value → Shared → Prop} {wd : Str} (K : ∀ v g' h' t', RdV g' v (.str wd) → (∀ x ∈ gs, x.StaysIn g') → Kn g0 (g' :: gs) cs h' → Q v (S r h' t')) :
    ∀ tk h' t', Kn g0 gs cs h' → Q (.str wd tk) (S r h' t') := fun tk h' t' H => by
  obtain ⟨g1, _, f2, _, H⟩ := Kn.freeze (c1 := []) H
  exact K _ g1 _ _ ⟨_, .str _ _⟩ f2 H
section
variable {w : World} {g0 g : Heap} {r : Shared}
section
variable {gs : List Heap} {cs : List (Addr × Cel)} {h : Heap} {t : Nat} {A : Around} {Q : Value → Shared → Prop}
theorem s_told_leaf (G : Gl w g0) {wd bl : Str} {row : Int} {v : Value} (hv : PlanAt (fun a c => Has gs [] a c) (.leaf wd bl row) v) (hw : wd.length ≤ 1 ∧ bl.length ≤ 2)
    (H : Kn g0 gs cs h) (R : Rm A 30) (K : ∀ tk h' t', Kn g0 gs cs h' → Q (.str wd tk) (S r h' t')) :
    wpAny (model Pg w) A (call (.ref 419) [v]) Q NoE (S r h t) := by
  match hv with
  | ⟨a, t1, t2, t3, e, ha⟩ =>
  subst e
  have ha : ∀ cs, Has gs cs a _ := fun cs => ha.mono (fun _ h => h) fun _ h => nomatch h
  refine enter G H R (binds := [(Str.ofString "plan", Value.ref a)]) (by exact rfl) (by exact rfl) (by exact rfl) (fun s _ => BindsTo.of_eq (by exact rfl)) (by exact rfl) (by exact rfl) (by exact rfl) (by exact rfl) (by exact rfl) (by exact rfl) (by exact rfl) (by exact rfl) ?_
  intro L h₁ t₁ env A' e R H hs' hL
  dsimp only at e
  have ha := ha ((L, .ns fun x => List.lookup x [(Str.ofString "plan", Value.ref a)].reverse) :: cs)
  repeat walk_at "go"
  walk_at "isinstance"
  repeat walk_at "go"
  refine ⟨fun _ => ?_, fun q => (by cases q)⟩
  repeat walk_at "go"
  exact K _ _ _ H.drop
end
theorem s_told (G : Gl w g0) : ∀ (d : Nat) {p : Plan} {v : Value} {gs : List Heap} {cs : List (Addr × Cel)} {h : Heap} {t : Nat} {A : Around} {Q : Value → Shared → Prop}, d ≤ 6 → p.ok d → PlanAt (fun a c => Has gs [] a c) p v →
    Kn g0 gs cs h → Rm A (30 * d + 30) → (∀ v g' h' t', RdV g' v p.told → (∀ x ∈ gs, x.StaysIn g') → Kn g0 (g' :: gs) cs h' → Q v (S r h' t')) →
    wpAny (model Pg w) A (call (.ref 419) [v]) Q NoE (S r h t) := by
  intro d
  induction d with
  | zero =>
    intro p v gs cs h t A Q hd hp hv H R K
    match p, hp, hv with
    | .leaf wd bl row, hp, hv => exact s_told_leaf G hv hp H R.le (told_K K)
  | succ d ih =>
    intro p v gs cs h t A Q hd6 hp hv H R K
    by_cases hnd : p.isNode
    rotate_left
    · match p, hnd, hp, hv with
      | .leaf wd bl row, _, hp, hv => exact s_told_leaf G hv (by cases d <;> exact hp) H R.le (told_K K)
      | .one .., hnd, _, _ => exact absurd trivial hnd
      | .two .., hnd, _, _ => exact absurd trivial hnd
    obtain ⟨a, tk, l, vs, rfl, ha, hl, hvs⟩ := hv.node hnd
    obtain ⟨d1, hd1, hk, hoks, hlen⟩ := hp.node hnd
    obtain rfl : d = d1 := by omega
    have hlv : vs.length ≤ 2 := by rw [← hvs.len]; exact hlen
    have ha : ∀ cs, Has gs cs a _ := fun cs => ha.mono (fun _ h => h) fun _ h => nomatch h
    have hl : ∀ cs, Has gs cs l _ := fun cs => hl.mono (fun _ h => h) fun _ h => nomatch h
    refine enter G H R (binds := [(Str.ofString "plan", Value.ref a)]) (n := 30 * d + 59) (by exact rfl) (by exact rfl) (by exact rfl) (fun s _ => BindsTo.of_eq (by exact rfl)) (by exact rfl) (by exact rfl) (by exact rfl) (by exact rfl) (by exact rfl) (by exact rfl) (by exact rfl) (by exact rfl) ?_
    intro L h₁ t₁ env A' e R H hs' hL
    dsimp only at e
    have ha := ha ((L, .ns fun x => List.lookup x [(Str.ofString "plan", Value.ref a)].reverse) :: cs)
    have hl := hl ((L, .ns fun x => List.lookup x [(Str.ofString "plan", Value.ref a)].reverse) :: cs)
    repeat walk_at "go"
    walk_at "isinstance"
    repeat walk_at "go"
    refine ⟨fun q => (by cases q), fun _ => ?_⟩
    repeat walk_at "go"
    refine lc e (by assumption) (by exact rfl) (by exact rfl) (by exact rfl) (by exact rfl) (by exact rfl) (fun _ => rfl) ?_
    repeat walk_at "go"
    refine itL (by assumption) hl fun I h' H hs => ?_
    refine ⟨gs, _, h', _, rfl, H, fun A' h3 t3 Q E k q => itself_lit H (.head _) k q, ?_⟩
    intro acc C as env' h3 t3 has e' hs3 H
    match as, has with
    | [], _ =>
    obtain ⟨g1, _, f2, _, H⟩ := Kn.freeze (c1 := []) H
    refine comp_src (σ := Unit) (csf := fun _ => (L, .ns fun x => List.lookup x [(Str.ofString "plan", Value.ref a)].reverse) :: cs)
        (J := fun i σ g ys => (∀ x ∈ gs, x.StaysIn g) ∧ All2 (fun q y => RdV g y q.told) (p.kids.take i) ys) (K := fun h => h.IsList l vs.toArray)
        (src_list R.hd I l vs.toArray) (by rw [sizeLine_eq]; simp; omega) (by exact rfl) (by exact rfl) (fun _ _ σ _ _ _ H => ?_) (fun _ _ _ _ _ _ _ _ q => go_name q) ?_ ?_
        vs.length 0 g1 () [] _ h3 t3 rfl (Nat.zero_le _) ⟨f2, trivial⟩ rfl H
    · exact Has.at (c := .lst vs.toArray) H (by walk_at "has")
    · rintro i v g σ ys m h t hi hv' ⟨hgs, hσ⟩ hlen' H
      obtain ⟨q, hq, hqv⟩ := hvs.get (i := i) (b := v) hv'
      repeat walk_at "go"
      walk_at "told"
      have hqok := hoks q (List.mem_of_getElem? hq)
      refine ih (by omega) hqok (hqv.mono fun a c z => z.consG) (by assumption) R.le fun y g' h' t' hy hgs' H => ?_
      refine ⟨g', (), _, _, _, rfl, H.gsub fun x hx => (by
        rcases List.mem_cons.mp hx with rfl | hx
        · exact .head _
        · exact .tail _ (.tail _ hx)), fun x hx => hgs' _ (.tail _ hx), ?_⟩
      obtain ⟨hi', he⟩ := List.getElem?_eq_some_iff.mp hq
      rw [List.take_succ_eq_append_getElem hi', he]
      exact (hσ.mono fun q y z => z.keeps (hgs' _ (.head _))).snoc hy
    · rintro g σ ys m h t ⟨hgs, hσ⟩ hlen' H
      have hσ : All2 (fun q y => RdV g y q.told) p.kids ys := by rw [List.take_of_length_le (by simp [hvs.len])] at hσ; exact hσ
      refine ⟨⟨_, rfl⟩, _, _, _, _, _, rfl, H, fun h H => ?_⟩
      repeat walk_at "go"
      refine ⟨sz, _, _, _, _, rfl, by assumption, fun ta h' H hs => ?_⟩
      repeat walk_at "go"
      obtain ⟨g', f1, f2, f3, f4⟩ := Kn.freeze (c1 := [(ta, _), (acc, _)]) H
      refine K _ g' _ _ ?_ (fun x hx => f2 x (.tail _ hx)) ((f4.gsub fun x hx => by
        rcases List.mem_cons.mp hx with rfl | hx
        · exact .head _
        · exact .tail _ (.tail _ hx)).pick (by walk_at "pick"))
      rw [Plan.told_node hnd]
      refine rd_tup (f1 _ (.head _)) ⟨⟨_, .int _ _⟩, rd_list (f1 _ (.tail _ (.head _))) ?_, trivial⟩
      exact All2.map_left2 (fun q y z => z.keeps (f2 g (.head _))) hσ
end
/-- the places of a plan -/
def Plan.paths : Plan → List Nat → List (List Nat)
  | .leaf .., π => [π]
  | .one _ p, π => π :: p.paths (π ++ [0])
  | .two _ p q, π => π :: (p.paths (π ++ [0]) ++ q.paths (π ++ [1]))
def Plan.kidPaths (p : Plan) (π : List Nat) (j : Nat) : List (List Nat) := match p.kids[j]? with | some q => q.paths (π ++ [j]) | none => []
def Plan.pathsTo (p : Plan) (π : List Nat) (i : Nat) : List (List Nat) := π :: (List.range i).flatMap (p.kidPaths π)
theorem Plan.paths_node {p : Plan} (h : p.isNode) (π : List Nat) : p.paths π = p.pathsTo π p.kids.length := by
  cases p with
  | leaf => exact h.elim
  | one k p => show π :: _ = π :: (p.paths (π ++ [0]) ++ []); rw [List.append_nil]
  | two k p q => show π :: (_ ++ _) = π :: (p.paths (π ++ [0]) ++ (q.paths (π ++ [1]) ++ [])); rw [List.append_nil]
theorem Plan.pathsTo_succ {p q : Plan} {π : List Nat} {i : Nat} (h : p.kids[i]? = some q) : p.pathsTo π (i + 1) = p.pathsTo π i ++ q.paths (π ++ [i]) := by
  unfold Plan.pathsTo
  rw [List.range_succ, List.flatMap_append]
  show _ :: (_ ++ (p.kidPaths π i ++ [])) = _
  unfold Plan.kidPaths
  rw [h, List.append_nil]
  rfl
theorem Plan.paths_len : ∀ {d : Nat} {p : Plan} {π : List Nat}, p.ok d → (p.paths π).length + 1 ≤ 2 ^ (d + 1)
  | 0, .leaf .., _, h => by show 2 ≤ _; decide
  | d + 1, .leaf .., _, h => by show 2 ≤ _; have : 1 ≤ 2 ^ (d + 1) := Nat.one_le_two_pow; rw [Nat.pow_succ]; omega
  | 0, .one .., _, h => h.elim
  | 0, .two .., _, h => h.elim
  | d + 1, .one k p, π, h => by
    have := Plan.paths_len (π := π ++ [0]) h.2
    show (p.paths _).length + 1 + 1 ≤ _
    rw [Nat.pow_succ]; omega
  | d + 1, .two k p q, π, h => by
    have h1 := Plan.paths_len (π := π ++ [0]) h.2.1
    have h2 := Plan.paths_len (π := π ++ [1]) h.2.2
    show (p.paths _ ++ q.paths _).length + 1 + 1 ≤ _
    rw [Nat.pow_succ, List.length_append]; omega
theorem Plan.pathsTo_len {d : Nat} {p : Plan} {π : List Nat} (h : p.ok d) (hn : p.isNode) {i : Nat} (hi : i ≤ p.kids.length) : (p.pathsTo π i).length ≤ 2 ^ (d + 1) := by
  have h1 := Plan.paths_len (π := π) h
  rw [Plan.paths_node hn] at h1
  have h2 : (p.pathsTo π i).length ≤ (p.pathsTo π p.kids.length).length := by
    unfold Plan.pathsTo
    simp only [List.length_cons]
    refine Nat.succ_le_succ ?_
    obtain ⟨j, hj⟩ := Nat.exists_eq_add_of_le hi
    rw [hj, List.range_add, List.flatMap_append, List.length_append]
    omega
  omega
/-- a path -/
def PathAt (F : Addr → Cel → Prop) (v : Value) (π : List Nat) : Prop := ∃ a vs, v = .ref a ∧ F a (.tup vs) ∧ All2 (fun (i : Nat) v => ∃ tk, v = Value.int i tk) π vs.toList
theorem PathAt.mono {F F' : Addr → Cel → Prop} {v : Value} {π : List Nat} (x : PathAt F v π) (m : ∀ a c, F a c → F' a c) : PathAt F' v π := let ⟨a, vs, e, f, z⟩ := x; ⟨a, vs, e, m _ _ f, z⟩
/-- paths in a list -/
def PathsAt (F : Addr → Cel → Prop) (v : Value) (ps : List (List Nat)) : Prop := ∃ l vs, v = .ref l ∧ F l (.lst vs) ∧ All2 (fun π v => PathAt F v π) ps vs.toList
theorem All2.append {α β : Type} {R : α → β → Prop} : ∀ {l l' : List α} {m m' : List β}, All2 R l m → All2 R l' m' → All2 R (l ++ l') (m ++ m')
  | [], _, [], _, _, h => h
  | _ :: _, _, _ :: _, _, h, k => ⟨h.1, h.2.append k⟩
  | [], _, _ :: _, _, h, _ => h.elim
  | _ :: _, _, [], _, h, _ => h.elim

theorem hasFz {gs : List Heap} {g' : Heap} {a : Addr} {c : Cel} (f : ∀ x ∈ gs, x.StaysIn g') (x : Has gs [] a c) : Fz g' a c := by
  rcases x with x | ⟨g, hg, x⟩
  · nomatch x
  · exact x.mono (f g hg a)
theorem gs_skip {g' g : Heap} {gs : List Heap} : ∀ x ∈ g' :: gs, x ∈ g' :: g :: gs := fun x hx => by
  rcases List.mem_cons.mp hx with rfl | hx
  · exact .head _
  · exact .tail _ (.tail _ hx)
section
variable {w : World} {g0 g : Heap} {r : Shared}
theorem addT {gs : List Heap} {cs : List (Addr × Cel)} {h : Heap} {t : Nat} {A : Around} {E Q : Value → Shared → Prop} {l b : Addr} {xs ys : Array Value} (H : Kn g0 gs ((b, .tup ys) :: cs) h) (hl : Has gs cs l (.tup xs)) (hsz : xs.size + ys.size ≤ 1000) (hy : ys.size ≠ 0)
    (K : ∀ a g' h', Fz g' a (.tup (xs ++ ys)) → (∀ x ∈ gs, x.StaysIn g') → Kn g0 (g' :: gs) cs h' → Q (.ref a) (S r h' t)) : wpAny (model Pg w) A (binaryOp .Add (.ref l) (.ref b)) Q E (S r h t) := by
  refine b_addT H (hl.cons.at H) (H.tup (.head _)) hsz hy (fun hx => ?_) fun a h' H hs => ?_
  · obtain ⟨g', f1, f2, f3, f4⟩ := Kn.freeze (c1 := [(b, _)]) H
    have e : xs = #[] := Array.eq_empty_of_size_eq_zero hx
    refine K b g' _ ?_ f2 f4
    rw [e, Array.empty_append]
    exact f1 _ (.head _)
  · obtain ⟨g', f1, f2, f3, f4⟩ := Kn.freeze (c1 := [(a, _), (b, _)]) H
    exact K a g' _ (f1 _ (.head _)) f2 f4

theorem s_paths (G : Gl w g0) : ∀ (d : Nat) {p : Plan} {v pv : Value} {π : List Nat} {gs : List Heap} {cs : List (Addr × Cel)} {h : Heap} {t : Nat} {A : Around} {Q : Value → Shared → Prop}, d ≤ 6 → p.ok d → PlanAt (fun a c => Has gs [] a c) p v →
    PathAt (fun a c => Has gs [] a c) pv π → π.length + d ≤ 50 →
    Kn g0 gs cs h → Rm A (30 * d + 30) → (∀ v g' h' t', PathsAt (Fz g') v (p.paths π) → (∀ x ∈ gs, x.StaysIn g') → Kn g0 (g' :: gs) cs h' → Q v (S r h' t')) →
    wpAny (model Pg w) A (call (.ref 400) [v, pv]) Q NoE (S r h t) := by
  intro d
  induction d using Nat.strongRecOn with
  | ind d ih =>
    intro p v pv π gs cs h t A Q hd6 hp hv hpv hπ H R K
    obtain ⟨a, ha, rfl⟩ : ∃ a, (∃ xs, Has gs [] a (.tup xs)) ∧ v = .ref a := by
      cases p with
      | leaf => obtain ⟨a, _, _, _, e, x⟩ := hv; exact ⟨a, ⟨_, x⟩, e⟩
      | one => obtain ⟨a, _, _, _, e, x, _⟩ := hv; exact ⟨a, ⟨_, x⟩, e⟩
      | two => obtain ⟨a, _, _, _, _, e, x, _⟩ := hv; exact ⟨a, ⟨_, x⟩, e⟩
    obtain ⟨pa, pxs, rfl, hpa, hpxs⟩ := hpv
    have hpa0 := hpa
    have hpa : ∀ cs, Has gs cs pa _ := fun cs => hpa.mono (fun _ h => h) fun _ h => nomatch h
    refine enter G H R (binds := [(Str.ofString "plan", Value.ref a), (Str.ofString "path", Value.ref pa)]) (n := 30 * d + 29) (by exact rfl) (by exact rfl) (by exact rfl) (fun s _ => BindsTo.of_eq (by exact rfl)) (by exact rfl) (by exact rfl) (by exact rfl) (by exact rfl) (by exact rfl) (by exact rfl) (by exact rfl) (by exact rfl) ?_
    intro L h₁ t₁ env A' e R H hs' hL
    dsimp only at e
    repeat walk_at "go"
    refine ⟨sz, _, _, _, _, rfl, by assumption, fun lf h' H hs => ?_⟩
    repeat walk_at "go"
    walk_at "isinstance"
    rename_i H _ _
    by_cases hnd : p.isNode
    rotate_left
    · match p, hnd, hp, hv with
      | .leaf wd bl row, _, hp, ⟨a', t1, t2, t3, e', ha'⟩ =>
        cases e'
        have ha := (ha'.mono (fun _ h => h) fun _ h => nomatch h : Has gs cs a _)
        repeat walk_at "go"
        refine ⟨fun q => (by cases q), fun _ => ?_⟩
        repeat walk_at "go"
        obtain ⟨g', f1, f2, f3, f4⟩ := Kn.freeze (c1 := [(lf, _)]) H
        exact K _ g' _ _ ⟨lf, _, rfl, f1 _ (.head _), ⟨pa, pxs, rfl, hasFz f2 hpa0, hpxs⟩, trivial⟩ f2 (f4.pick (by walk_at "pick"))
      | .one .., hnd, _, _ => exact absurd trivial hnd
      | .two .., hnd, _, _ => exact absurd trivial hnd
    obtain ⟨a', tk, l, vs, e', ha', hl, hvs⟩ := hv.node hnd
    cases e'
    obtain ⟨d1, rfl, hk, hoks, hlen⟩ := hp.node hnd
    have hlv : vs.length ≤ 2 := by rw [← hvs.len]; exact hlen
    have ha : ∀ cs, Has gs cs a _ := fun cs => ha'.mono (fun _ h => h) fun _ h => nomatch h
    have hl : ∀ cs, Has gs cs l _ := fun cs => hl.mono (fun _ h => h) fun _ h => nomatch h
    have ha0 := ha cs
    have hl0 := hl cs
    have hpa0' := hpa cs
    repeat walk_at "go"
    refine ⟨fun _ => ?_, fun q => (by cases q)⟩
    repeat walk_at "go"
    refine x_for ?_
    walk_at "range"
    walk_at "len"
    refine l_len (Has.at (c := .lst vs.toArray) (by assumption) (by walk_at "has")) (by simp; omega) fun tl t' => ?_
    repeat walk_at "go"
    rw [show ((vs.toArray.size : Nat) : Int) = (vs.length : Int) by simp]
    refine rg_call H fun ra t1 t2 h' t' H hs => ?_
    refine rg_iter (n := vs.length) H (.head _) (by omega) fun I h' H hs => ?_
    obtain ⟨g1, _, f2, _, H⟩ := Kn.freeze (c1 := []) H
    refine for_src (σ := (Str → Option Value) × Addr × List Value) (csf := fun σ => (ra, .ob (rng 0 vs.length 1 t1 tl t2)) :: (σ.2.1, .lst σ.2.2.toArray) :: (L, .ns σ.1) :: cs)
      (J := fun i σ g => (∀ x ∈ gs, x.StaysIn g) ∧ σ.1 "found" = some (.ref σ.2.1) ∧ σ.1 "plan" = some (.ref a) ∧ σ.1 "path" = some (.ref pa) ∧ All2 (fun π v => PathAt (Fz g) v π) (p.pathsTo π i) σ.2.2)
      (K := fun _ => True) (src_range R.hd I vs.length) (fun _ _ _ _ _ => trivial) (fun _ _ _ _ _ _ _ _ q => go_name q) ?_ ?_ _ 0 g1 (_, lf, [.ref pa]) _ _ rfl (Nat.zero_le _)
      ⟨f2, by exact rfl, by exact rfl, by exact rfl, ⟨pa, pxs, rfl, hasFz f2 hpa0, hpxs⟩, trivial⟩ H
    · rintro i v g ⟨mL, lf, ys⟩ h t hi ⟨tki, rfl⟩ ⟨hgs, h1, h2, h3, hys⟩ H
      dsimp only at H h1 h2 h3 hys
      have hiv : i < vs.length := hi
      obtain ⟨q, hq, hqv⟩ := hvs.get (i := i) (b := vs[i]) (List.getElem?_eq_getElem hiv)
      have hqok := hoks q (List.mem_of_getElem? hq)
      repeat walk_at "go"
      walk_at "paths"
      refine l_at (xs := vs.toArray) (by assumption) (by walk_at "has") (by omega) (by omega) (v := vs[i]) (by show vs[Int.toNat (i : Int)]? = some vs[i]; simp) ?_
      repeat walk_at "go"
      refine ⟨sz, _, _, _, _, rfl, by assumption, fun ta h' H hs => ?_⟩
      repeat walk_at "go"
      have hpl : pxs.size = π.length := by have := hpxs.len; simpa using this.symm
      refine addT H (by walk_at "has") (by simp; omega) (by simp) fun a2 g2 h' ha2 hg2 H => ?_
      repeat walk_at "go"
      refine ih d1 (by omega) (by omega) hqok (hqv.mono fun a c z => z.consG.consG) (π := π ++ [i]) ⟨a2, _, rfl, .of ha2, by simpa using hpxs.append (l' := [i]) (m' := [.int i tki]) ⟨⟨tki, rfl⟩, trivial⟩⟩ (by simp; omega) (by assumption) R.le
        fun v' g' h' t' hv' hg' H => ?_
      obtain ⟨l2, zs, rfl, hl2, hzs⟩ := hv'
      have hzl : zs.size + 1 ≤ 2 ^ (d1 + 1) := by have h1 := Plan.paths_len (π := π ++ [i]) hqok; have h2 := hzs.len; simp at h2; omega
      have hyl : ys.length ≤ 2 ^ (d1 + 1 + 1) := by rw [← hys.len]; exact Plan.pathsTo_len hp hnd (by rw [hvs.len]; omega)
      have hpow : 2 ^ (d1 + 1 + 1) ≤ 2 ^ 7 := Nat.pow_le_pow_right (by decide) (by omega)
      rw [Nat.pow_succ] at hpow hyl
      refine b_addL H (Has.at (c := .lst ys.toArray) H (by walk_at "has")) (Has.at (c := .lst zs) H (.of hl2)) (by simp; omega) fun a3 h' H hs => ?_
      repeat walk_at "go"
      rename_i H
      have gsub : ∀ x ∈ g' :: gs, x ∈ g' :: g2 :: g :: gs := fun x hx => by
        rcases List.mem_cons.mp hx with rfl | hx
        · exact .head _
        · exact .tail _ (.tail _ (.tail _ hx))
      refine ⟨rfl, g', (_, a3, ys ++ zs.toList), _, _, rfl, (H.gsub gsub).pick (by
        show Sub (_ :: _ :: (a3, Cel.lst (ys ++ zs.toList).toArray) :: _) _
        rw [show (ys ++ zs.toList).toArray = ys.toArray ++ zs by simp]
        walk_at "pick"), fun x hx => hg' x (.tail _ (.tail _ hx)), by exact rfl, by assumption, by assumption, ?_⟩
      rw [Plan.pathsTo_succ hq]
      exact (hys.mono fun π v z => z.mono fun a c z => Cel.At.mono (hg' g (.tail _ (.head _)) a) z).append hzs
    · rintro g ⟨mL, lf, ys⟩ h t ⟨hgs, h1, h2, h3, hys⟩ H
      dsimp only at H h1 h2 h3 hys
      repeat walk_at "go"
      rw [Plan.paths_node hnd, hvs.len] at K
      obtain ⟨g', f1, f2, f3, f4⟩ := Kn.freeze (c1 := [(lf, _)]) (H.pick (cs' := (lf, _) :: (ra, _) :: (L, _) :: cs) (by walk_at "pick"))
      exact K _ g' _ _ ⟨lf, _, rfl, f1 _ (.head _), (hys.mono fun π v z => z.mono fun a c z => Cel.At.mono (f2 g (.head _) a) z)⟩ (fun x hx => f2 x (.tail _ hx)) ((f4.gsub gs_skip).drop.drop)
end
def Plan.at? : Plan → List Nat → Option Plan
  | p, [] => some p
  | p, i :: π => match p.kids[i]? with | some q => q.at? π | none => none
theorem drop_head {α : Type} {l : List α} {i : Nat} {a : α} (h : l[i]? = some a) : l.drop i = a :: l.drop (i + 1) := by
  obtain ⟨hi, rfl⟩ := List.getElem?_eq_some_iff.mp h
  exact List.drop_eq_getElem_cons hi
namespace Tr
def kids : Tr → List Tr
  | .leaf .. => []
  | .one _ _ _ _ _ _ _ c => [c]
  | .two _ _ _ _ _ _ _ c e => [c, e]
def at? : Tr → List Nat → Option Tr
  | t, [] => some t
  | t, i :: π => match t.kids[i]? with | some q => q.at? π | none => none
theorem Ok.node {t : Tr} {p : Plan} (h : t.Ok p) (hn : p.isNode) : ∃ l, NodeNs t.m t.mk l p.kind ∧ t.C = 294 ∧ t.n ≤ 100 ∧ (l, Cel.lst (t.kids.map fun t => Value.ref t.x).toArray) ∈ t.cells ∧
    All2 (fun (c : Tr) q => c.Ok q ∧ c.m "parent" = some (.ref t.x)) t.kids p.kids ∧ ∀ k ∈ t.kids, ∀ c ∈ k.cells, c ∈ t.cells := by
  cases t <;> cases p <;> first | exact hn.elim | exact h.elim | skip
  · rename_i x d mk md l m n c k q
    refine ⟨l, h.1, rfl, h.2.1, .tail _ (.tail _ (.tail _ (.tail _ (.head _)))), ⟨⟨h.2.2.2, h.2.2.1⟩, trivial⟩, fun k hk z hz => ?_⟩
    cases List.mem_singleton.mp hk
    exact .tail _ (.tail _ (.tail _ (.tail _ (.tail _ hz))))
  · rename_i x d mk md l m n c e k q q2
    refine ⟨l, h.1, rfl, h.2.1, .tail _ (.tail _ (.tail _ (.tail _ (.head _)))), ⟨⟨h.2.2.2.2.1, h.2.2.1⟩, ⟨h.2.2.2.2.2, h.2.2.2.1⟩, trivial⟩, fun k hk z hz => ?_⟩
    refine .tail _ (.tail _ (.tail _ (.tail _ (.tail _ ?_))))
    rcases List.mem_cons.mp hk with rfl | hk
    · exact List.mem_append_left (as := k.cells) _ hz
    · cases List.mem_singleton.mp hk
      exact List.mem_append_right c.cells hz
theorem Ok.leaf {t : Tr} {wd bl : Str} {row : Int} (h : t.Ok (.leaf wd bl row)) : ∃ fa ch, LeafNs t.m t.mk fa ch wd bl row ∧ t.C = 374 ∧ t.n ≤ 100 ∧ (fa, Cel.lst #[]) ∈ t.cells ∧ (ch, Cel.lst #[]) ∈ t.cells ∧ t.kids = [] := by
  cases t <;> first | exact h.elim | skip
  rename_i x d mk md fa ch m n
  exact ⟨fa, ch, h.1, rfl, h.2, .tail _ (.tail _ (.tail _ (.tail _ (.head _)))), .tail _ (.tail _ (.tail _ (.tail _ (.tail _ (.head _))))), rfl⟩
end Tr
/-- the cells are known -/
def Kns (gs : List Heap) (cs l : List (Addr × Cel)) : Prop := ∀ p ∈ l, Has gs cs p.1 p.2
theorem Kns.ins {gs cs} {t : Tr} (h : Kns gs cs t.cells) : Ins gs cs t.x t.C t.d t.m t.n := ⟨h _ t.x_mem, h _ (.head _)⟩
theorem Kns.mono {gs gs' cs cs' l} (h : Kns gs cs l) (hg : ∀ g ∈ gs, g ∈ gs') (hc : ∀ p ∈ cs, p ∈ cs') : Kns gs' cs' l := fun p hp => (h p hp).mono hg hc
theorem Kns.cons {gs cs l p} (h : Kns gs cs l) : Kns gs (p :: cs) l := fun q hq => (h q hq).cons
theorem Kns.consG {gs cs l g} (h : Kns gs cs l) : Kns (g :: gs) cs l := fun q hq => (h q hq).consG
theorem Kns.kid {gs cs} {t k : Tr} (h : Kns gs cs t.cells) (hk : ∀ c ∈ k.cells, c ∈ t.cells) : Kns gs cs k.cells := fun p hp => h p (hk p hp)
theorem Kns.self {gs cs l} : Kns gs (l ++ cs) l := fun _ hp => .inl (List.mem_append_left _ hp)

section
variable {w : World} {g0 g h : Heap} {gs : List Heap} {cs : List (Addr × Cel)} {r : Shared} {t : Nat} {A : Around} {Q : Value → Shared → Prop}
theorem s_part (G : Gl w g0) {p q : Plan} {v pv : Value} {π : List Nat} (hv : PlanAt (fun a c => Has gs [] a c) p v) (hpv : PathAt (fun a c => Has gs [] a c) pv π) (hπ : π.length ≤ 100) (hq : p.at? π = some q)
    (H : Kn g0 gs cs h) (R : Rm A 10) (K : ∀ v h' t', PlanAt (fun a c => Has gs [] a c) q v → Kn g0 gs cs h' → Q v (S r h' t')) :
    wpAny (model Pg w) A (call (.ref 407) [v, pv]) Q NoE (S r h t) := by
  obtain ⟨pa, pxs, rfl, hpa, hpxs⟩ := hpv
  have hpa : ∀ cs, Has gs cs pa _ := fun cs => hpa.mono (fun _ h => h) fun _ h => nomatch h
  refine enter G H R (binds := [(Str.ofString "plan", v), (Str.ofString "path", Value.ref pa)]) (by exact rfl) (by exact rfl) (by exact rfl) (fun s _ => BindsTo.of_eq (by exact rfl)) (by exact rfl) (by exact rfl) (by exact rfl) (by exact rfl) (by exact rfl) (by exact rfl) (by exact rfl) (by exact rfl) ?_
  intro L h₁ t₁ env A' e R H hs' hL
  dsimp only at e
  have hpa0 := hpa cs
  repeat walk_at "go"
  refine x_for ?_
  repeat walk_at "go"
  refine itT (by assumption) (by walk_at "has") fun I h' H hs => ?_
  have H := H.withBase
  have hpl : pxs.size = π.length := by have := hpxs.len; simpa using this.symm
  refine for_src (σ := (Str → Option Value)) (csf := fun σ => (L, .ns σ) :: cs)
      (J := fun i σ g => g0 = g ∧ σ "path" = some (.ref pa) ∧ ∃ p v, σ "plan" = some v ∧ PlanAt (fun a c => Has gs [] a c) p v ∧ p.at? (π.drop i) = some q)
      (K := fun h => h.IsTuple pa pxs) (src_tup R.hd I pa pxs) (fun _ _ _ _ H => Has.at (c := .tup pxs) H (by walk_at "has")) (fun _ _ _ _ _ _ _ _ q => go_name q) ?_ ?_ _ 0 g0 _ _ _ rfl (Nat.zero_le _)
      ⟨rfl, by exact rfl, p, v, by exact rfl, hv, hq⟩ H
  · rintro i x g mL h t hi hx ⟨rfl, h1, p, v, h2, hv, hq⟩ H
    obtain ⟨k, hk, tk, rfl⟩ := hpxs.get (i := i) hx
    rw [drop_head hk] at hq
    unfold Plan.at? at hq
    split at hq
    · rename_i p' hp'
      have hnd : p.isNode := by cases p; exact nomatch hp'; trivial; trivial
      obtain ⟨a, tk', l, vs, rfl, ha, hl, hvs⟩ := hv.node hnd
      obtain ⟨y, hy, hyv⟩ := hvs.get' hp'
      have ha : ∀ cs, Has gs cs a _ := fun cs => ha.mono (fun _ h => h) fun _ h => nomatch h
      have hl : ∀ cs, Has gs cs l _ := fun cs => hl.mono (fun _ h => h) fun _ h => nomatch h
      have ha0 := ha cs
      have hl0 := hl cs
      have hkk : k < 2 := by
        have := (List.getElem?_eq_some_iff.mp hp').1
        cases p <;> simp [Plan.kids] at this <;> omega
      repeat walk_at "go"
      refine l_at (xs := vs.toArray) (by assumption) (by walk_at "has") (by omega) (by omega) (v := y) (by show vs[Int.toNat (k : Int)]? = some y; simpa using hy) ?_
      repeat walk_at "go"
      rename_i H
      exact ⟨rfl, g0, _, _, _, rfl, H, rfl, by assumption, p', y, by exact rfl, hyv, hq⟩
    · cases hq
  · rintro g mL h t ⟨rfl, h1, p', v', h2, hv', hq⟩ H
    rw [hpl, List.drop_length] at hq
    cases hq
    repeat walk_at "go"
    exact K _ _ _ hv' (H.gsub fun x hx => .tail _ hx).drop
theorem s_at (G : Gl w g0) {T U : Tr} {p : Plan} {pv : Value} {π : List Nat} (hT : T.Ok p) (hc : Kns gs cs T.cells) (hpv : PathAt (fun a c => Has gs [] a c) pv π) (hπ : π.length ≤ 100) (hq : T.at? π = some U)
    (H : Kn g0 gs cs h) (R : Rm A 10) (K : ∀ h' t', Kn g0 gs cs h' → Q (.ref U.x) (S r h' t')) :
    wpAny (model Pg w) A (call (.ref 414) [.ref T.x, pv]) Q NoE (S r h t) := by
  obtain ⟨pa, pxs, rfl, hpa, hpxs⟩ := hpv
  have hpa : ∀ cs, Has gs cs pa _ := fun cs => hpa.mono (fun _ h => h) fun _ h => nomatch h
  refine enter G H R (binds := [(Str.ofString "thing", .ref T.x), (Str.ofString "path", Value.ref pa)]) (by exact rfl) (by exact rfl) (by exact rfl) (fun s _ => BindsTo.of_eq (by exact rfl)) (by exact rfl) (by exact rfl) (by exact rfl) (by exact rfl) (by exact rfl) (by exact rfl) (by exact rfl) (by exact rfl) ?_
  intro L h₁ t₁ env A' e R H hs' hL
  dsimp only at e
  have hpa0 := hpa cs
  repeat walk_at "go"
  refine x_for ?_
  repeat walk_at "go"
  refine itT (by assumption) (by walk_at "has") fun I h' H hs => ?_
  have H := H.withBase
  have hpl : pxs.size = π.length := by have := hpxs.len; simpa using this.symm
  refine for_src (σ := (Str → Option Value)) (csf := fun σ => (L, .ns σ) :: cs)
      (J := fun i σ g => g0 = g ∧ σ "path" = some (.ref pa) ∧ ∃ (V : Tr) (p : Plan), σ "thing" = some (.ref V.x) ∧ V.Ok p ∧ Kns gs cs V.cells ∧ V.at? (π.drop i) = some U)
      (K := fun h => h.IsTuple pa pxs) (src_tup R.hd I pa pxs) (fun _ _ _ _ H => Has.at (c := .tup pxs) H (by walk_at "has")) (fun _ _ _ _ _ _ _ _ q => go_name q) ?_ ?_ _ 0 g0 _ _ _ rfl (Nat.zero_le _)
      ⟨rfl, by exact rfl, T, p, by exact rfl, hT, hc, hq⟩ H
  · rintro i x g mL h t hi hx ⟨rfl, h1, V, p, h2, hV, hcV, hq⟩ H
    obtain ⟨k, hk, tk, rfl⟩ := hpxs.get (i := i) hx
    rw [drop_head hk] at hq
    unfold Tr.at? at hq
    split at hq
    · rename_i V' hV'
      have hnd : p.isNode := by
        cases p with
        | leaf => obtain ⟨_, _, _, _, _, _, _, e⟩ := hV.leaf; rw [e] at hV'; exact nomatch hV'
        | one => trivial
        | two => trivial
      obtain ⟨l, N, hC, hn, hl, hkids, hsub⟩ := hV.node hnd
      have hI := hcV.ins
      rw [hC] at hI
      have hob := hI.ob
      have hns := hI.ns
      have hl0 := hcV _ hl
      have hch := N.chl
      obtain ⟨q', hq', hV2, _⟩ := hkids.get' hV'
      have hkk : k < 2 := by
        have := (List.getElem?_eq_some_iff.mp hV').1
        cases V <;> simp [Tr.kids] at this <;> omega
      repeat walk_at "go"
      refine l_at (xs := (V.kids.map fun t => Value.ref t.x).toArray) (by assumption) (by walk_at "has") (by omega) (by omega) (v := .ref V'.x) (by show (V.kids.map fun t => Value.ref t.x)[Int.toNat (k : Int)]? = some _; simp [hV']) ?_
      repeat walk_at "go"
      rename_i H
      exact ⟨rfl, g0, _, _, _, rfl, H, rfl, by assumption, V', q', by exact rfl, hV2, hcV.kid (hsub V' (List.mem_of_getElem? hV')), hq⟩
    · cases hq
  · rintro g mL h t ⟨rfl, h1, V, p', h2, hV, hcV, hq⟩ H
    rw [hpl, List.drop_length] at hq
    cases hq
    repeat walk_at "go"
    exact K _ _ (H.gsub fun x hx => .tail _ hx).drop
end
def putKids (f : Plan → Plan) : List Plan → Nat → List Plan
  | [], _ => []
  | a :: l, 0 => f a :: l
  | a :: l, i + 1 => a :: putKids f l i
theorem putKids_at (f : Plan → Plan) : ∀ (l : List Plan) (i j : Nat) {a : Plan}, l[j]? = some a → (putKids f l i)[j]? = some (if j = i then f a else a)
  | a :: l, 0, 0, _, e => by cases e; rfl
  | a :: l, 0, j + 1, b, e => by rw [if_neg (by omega)]; exact e
  | a :: l, i + 1, 0, _, e => by cases e; rfl
  | a :: l, i + 1, j + 1, b, e => by
    have := putKids_at f l i j (a := b) e
    show (putKids f l i)[j]? = _
    rw [this]
    by_cases h : j = i <;> simp [h]
theorem putKids_len (f : Plan → Plan) : ∀ (l : List Plan) (i : Nat), (putKids f l i).length = l.length
  | [], _ => rfl
  | a :: l, 0 => rfl
  | a :: l, i + 1 => by show (putKids f l i).length + 1 = _; rw [putKids_len f l i]; rfl
def Plan.put (q : Plan) : Plan → List Nat → Plan
  | _, [] => q
  | .leaf wd bl row, _ :: _ => .leaf wd bl row
  | .one k p, 0 :: π => .one k (Plan.put q p π)
  | .one k p, (_ + 1) :: _ => .one k p
  | .two k p p2, 0 :: π => .two k (Plan.put q p π) p2
  | .two k p p2, 1 :: π => .two k p (Plan.put q p2 π)
  | .two k p p2, (_ + 2) :: _ => .two k p p2
theorem Plan.put_kids {q p : Plan} (hn : p.isNode) {i : Nat} {π : List Nat} : (Plan.put q p (i :: π)).kids = putKids (fun p => Plan.put q p π) p.kids i ∧ (Plan.put q p (i :: π)).isNode ∧ (Plan.put q p (i :: π)).kind = p.kind := by
  cases p with
  | leaf => exact hn.elim
  | one k p => cases i <;> exact ⟨rfl, trivial, rfl⟩
  | two k p p2 =>
    match i with
    | 0 => exact ⟨rfl, trivial, rfl⟩
    | 1 => exact ⟨rfl, trivial, rfl⟩
    | i + 2 => exact ⟨rfl, trivial, rfl⟩
theorem PlanAt.ofNode {F : Addr → Cel → Prop} {p : Plan} (hn : p.isNode) {a l : Addr} {tk : Tok} {vs : List Value} (h1 : F a (.tup #[.int p.kind tk, .ref l])) (h2 : F l (.lst vs.toArray)) (h3 : All2 (PlanAt F) p.kids vs) : PlanAt F p (.ref a) := by
  cases p with
  | leaf => exact hn.elim
  | one k p =>
    match vs, h2, h3 with
    | [x], h2, h3 => exact ⟨a, tk, l, x, rfl, h1, h2, h3.1⟩
  | two k p p2 =>
    match vs, h2, h3 with
    | [x, y], h2, h3 => exact ⟨a, tk, l, x, y, rfl, h1, h2, h3.1, h3.2.1⟩
theorem path_rd {g : Heap} {v : Value} {π : List Nat} (x : PathAt (Fz g) v π) : RdV g v (.tuple (π.map fun (i : Nat) => PyData.int i)) := by
  obtain ⟨a, vs, rfl, h1, h2⟩ := x
  exact rd_tup h1 (h2.map_left fun i v ⟨tk, e⟩ => e ▸ ⟨_, .int _ _⟩)
theorem shaped_path (π : List Nat) : SeqAt.shaped (.tuple (π.map fun (i : Nat) => PyData.int i)) = true := by
  have key : ∀ l : List Int, SeqAt.shaped (.tuple (l.map PyData.int)) = true := fun l => by simp [SeqAt.shaped, PyData.canLay0, PyData.depth, ke_canLayAll0, ke_depthAll]
  have := key (π.map fun (i : Nat) => (i : Int))
  rwa [List.map_map] at this
section
variable {w : World} {g0 g : Heap} {r : Shared}
theorem s_put (G : Gl w g0) {q : Plan} {qv : Value} : ∀ (d : Nat) {p q0 : Plan} {v pv : Value} {π : List Nat} {gs : List Heap} {cs : List (Addr × Cel)} {h : Heap} {t : Nat} {A : Around} {Q : Value → Shared → Prop}, p.ok d → PlanAt (fun a c => Has gs [] a c) p v →
    PlanAt (fun a c => Has gs [] a c) q qv → PathAt (fun a c => Has gs [] a c) pv π → π.length ≤ 50 → p.at? π = some q0 →
    Kn g0 gs cs h → Rm A (30 * d + 30) → (∀ v g' h' t', PlanAt (Fz g') (Plan.put q p π) v → (∀ x ∈ gs, x.StaysIn g') → Kn g0 (g' :: gs) cs h' → Q v (S r h' t')) →
    wpAny (model Pg w) A (call (.ref 429) [v, pv, qv]) Q NoE (S r h t) := by
  intro d
  induction d using Nat.strongRecOn with
  | ind d ih =>
    intro p q0 v pv π gs cs h t A Q hp hv hqv hpv hπ hat H R K
    obtain ⟨pa, pxs, rfl, hpa, hpxs⟩ := id hpv
    have hpa : ∀ cs, Has gs cs pa _ := fun cs => hpa.mono (fun _ h => h) fun _ h => nomatch h
    refine enterC G H (R.le (k := 30 * d + 20 + 2)) (cn := [Str.ofString "plan", Str.ofString "path", Str.ofString "part"]) (binds := [(Str.ofString "plan", v), (Str.ofString "path", .ref pa), (Str.ofString "part", qv)]) (by exact rfl) (by exact rfl) (by exact rfl) (fun s _ => BindsTo.of_eq (by exact rfl)) (by exact rfl) (by exact rfl) (by exact rfl) (by exact rfl) (by exact rfl) (by exact rfl) (by exact rfl) ?_
    intro L as h₁ env A' A'' has e R R2 H hs' hL
    dsimp only at e
    match as, has with
    | [c1, c2, c3], _ =>
    have H : Kn g0 gs ((c1, .cell none) :: (c2, .cell none) :: (c3, .cell none) :: (L, .ns fun _ => none) :: cs) h₁ := H
    have e : EnvIs env L _ [(Str.ofString "part", c3), (Str.ofString "path", c2), (Str.ofString "plan", c1)] := e
    refine binds_cons (st_cell e H (by exact rfl) (by exact rfl) (by walk_at "up") fun h' H => ?_)
    refine binds_cons (st_cell e H (by exact rfl) (by exact rfl) (by walk_at "up") fun h' H => ?_)
    refine binds_cons (st_cell e H (by exact rfl) (by exact rfl) (by walk_at "up") fun h' H => ?_)
    refine binds_nil ⟨H.base, ?_⟩
    have hpa0 := hpa cs
    repeat walk_at "go"
    refine ⟨sz, _, _, _, _, rfl, by assumption, fun te h' H hs => ?_⟩
    obtain ⟨as1, r1⟩ : RdV h' (.ref pa) (.tuple (π.map fun (i : Nat) => PyData.int i)) := rd_tup (Has.at (c := .tup pxs) H (by walk_at "has")) (hpxs.map_left fun i v ⟨tk, e⟩ => e ▸ ⟨_, .int _ _⟩)
    obtain ⟨as2, r2⟩ : RdV h' (.ref te) (.tuple []) := rd_tup (H.tup (.head _)) trivial
    refine eq_dataH r1 r2 (shaped_path π) (by rfl) (by have := R.un; show A'.units + 64 < 9900; omega) ?_
    repeat walk_at "go"
    match π, hpxs with
    | [], hpxs =>
      refine ⟨fun _ => ?_, fun q => (by cases q)⟩
      repeat walk_at "go"
      obtain ⟨g', f1, f2, f3, f4⟩ := Kn.freeze (c1 := []) H
      exact K _ g' _ _ (by cases p <;> exact hqv.mono fun a c z => hasFz f2 z) f2 (f4.pick (by walk_at "pick"))
    | i0 :: π', hpxs =>
      have hpl : pxs.size = π'.length + 1 := by have := hpxs.len; simpa using this.symm
      obtain ⟨x0, xr, hxl, ⟨tk0, rfl⟩, hxr⟩ : ∃ x0 xr, pxs.toList = x0 :: xr ∧ (∃ tk, x0 = Value.int i0 tk) ∧ All2 (fun (i : Nat) v => ∃ tk, v = Value.int i tk) π' xr := by
        match hx : pxs.toList, hpxs with
        | x0 :: xr, h => exact ⟨x0, xr, rfl, h.1, h.2⟩
      obtain ⟨p', hp', hat'⟩ : ∃ p', p.kids[i0]? = some p' ∧ p'.at? π' = some q0 := by
        unfold Plan.at? at hat
        split at hat
        · rename_i p' e; exact ⟨p', e, hat⟩
        · cases hat
      have hnd : p.isNode := by cases p; exact nomatch hp'; trivial; trivial
      obtain ⟨a, tk, l, vs, rfl, ha, hl, hvs⟩ := hv.node hnd
      obtain ⟨d1, rfl, hk, hoks, hlen⟩ := hp.node hnd
      obtain ⟨ek, en, ekind⟩ := Plan.put_kids (q := q) hnd (i := i0) (π := π')
      have hlv : vs.length ≤ 2 := by rw [← hvs.len]; exact hlen
      have ha : ∀ cs, Has gs cs a _ := fun cs => ha.mono (fun _ h => h) fun _ h => nomatch h
      have hl : ∀ cs, Has gs cs l _ := fun cs => hl.mono (fun _ h => h) fun _ h => nomatch h
      have ha0 := ha cs
      have hl0 := hl cs
      refine ⟨fun q => (by cases q), fun _ => ?_⟩
      repeat walk_at "go"
      refine lc e (by assumption) (by exact rfl) (by exact rfl) (by exact rfl) (by exact rfl) (by exact rfl) (fun _ => rfl) ?_
      walk_at "range"
      walk_at "len"
      refine l_len (Has.at (c := .lst vs.toArray) (by assumption) (by walk_at "has")) (by simp; omega) fun tl t' => ?_
      repeat walk_at "go"
      rw [show ((vs.toArray.size : Nat) : Int) = (vs.length : Int) by simp]
      refine rg_call H fun ra t1 t2 h' t' H hs => ?_
      refine rg_iter (n := vs.length) H (.head _) (by omega) fun I h' H hs => ?_
      refine ⟨gs, _, h', _, rfl, H, fun A' h3 t3 Q E k q => itself_rit H (.head _) k q, ?_⟩
      intro acc C as env' h3 t3 has e' hs3 H
      match as, has with
      | [], _ =>
      obtain ⟨g1, _, f2, _, H⟩ := Kn.freeze (c1 := []) H
      refine comp_src (σ := Unit) (csf := fun _ => (ra, .ob (rng 0 vs.length 1 t1 tl t2)) :: (te, .tup #[]) :: (c1, .cell (some (.ref a))) :: (c2, .cell (some (.ref pa))) :: (c3, .cell (some qv)) :: (L, .ns fun _ => none) :: cs)
        (J := fun i σ g ys => (∀ x ∈ gs, x.StaysIn g) ∧ All2 (PlanAt (Fz g)) ((putKids (fun p => Plan.put q p π') p.kids i0).take i) ys) (K := fun _ => True)
        (src_range R.hd I vs.length) (by rw [sizeLine_eq]; omega) (by exact rfl) (by exact rfl) (fun _ _ _ _ _ _ _ => trivial) (fun _ _ _ _ _ _ _ _ q => go_name q) ?_ ?_
        vs.length 0 g1 () [] _ h3 t3 rfl (Nat.zero_le _) ⟨f2, trivial⟩ rfl H
      · rintro j v g σ ys m h t hj ⟨tkj, rfl⟩ ⟨hgs, hσ⟩ hlen' H
        obtain ⟨qj, hqj, hqv'⟩ := hvs.get (i := j) (b := vs[j]) (List.getElem?_eq_getElem hj)
        have hqok := hoks qj (List.mem_of_getElem? hqj)
        have hput := putKids_at (fun p => Plan.put q p π') p.kids i0 j hqj
        have hput2 : ∀ x, (putKids (fun p => Plan.put q p π') p.kids i0)[j]? = some x → (putKids (fun p => Plan.put q p π') p.kids i0).take (j + 1) = (putKids (fun p => Plan.put q p π') p.kids i0).take j ++ [x] := fun x hx => by
          obtain ⟨hi', he⟩ := List.getElem?_eq_some_iff.mp hx
          rw [List.take_succ_eq_append_getElem hi', he]
        repeat walk_at "go"
        rename_i H _ _
        refine t_at (xs := pxs) (by assumption) (by walk_at "has") (by decide) (by decide) (v := .int i0 tk0) (by show pxs.toList[0]? = _; rw [hxl]; rfl) ?_
        repeat walk_at "go"
        refine ⟨fun hb => ?_, fun hb => ?_⟩
        · have hb : j = i0 := by have : (j : Int) = i0 := by simpa using hb
                                 omega
          subst hb
          rw [if_pos rfl] at hput
          obtain rfl : p' = qj := by rw [hp'] at hqj; exact Option.some.inj hqj
          walk_at "put"
          refine l_at (xs := vs.toArray) (by assumption) (by walk_at "has") (by omega) (by omega) (v := vs[j]) (by show vs[Int.toNat (j : Int)]? = some vs[j]; simp) ?_
          repeat walk_at "go"
          refine ⟨_, _, _, _, rfl, H, fun sl h' H hs => ?_⟩
          repeat walk_at "go"
          refine t_slice (xs := pxs) H (by walk_at "has") (.head _) (by decide) (by omega) (by simp at hπ; omega) fun q1 h' H hs => ?_
          rw [show pxs.toList.drop (Int.toNat 1) = xr by rw [hxl]; rfl] at H
          repeat walk_at "go"
          obtain ⟨g2, f1, f2, f3, H⟩ := Kn.freeze (c1 := [(q1, _)]) H
          refine ih d1 (by omega) hqok (hqv'.mono fun a c z => z.consG.consG) (hqv.mono fun a c z => z.consG.consG) (π := π') ⟨q1, _, rfl, .of (f1 _ (.head _)), hxr⟩ (by simp at hπ; omega) hat' H R.le fun y g' h' t' hy hg' H => ?_
          refine ⟨g', (), _, _, _, rfl, (H.gsub (gs' := g' :: gs) fun x hx => (by
            rcases List.mem_cons.mp hx with rfl | hx
            · exact .head _
            · exact .tail _ (.tail _ (.tail _ hx)))).drop, fun x hx => hg' x (.tail _ (.tail _ hx)), ?_⟩
          rw [hput2 _ hput]
          exact (hσ.mono fun q y z => z.mono fun a c z => Cel.At.mono (hg' g (.tail _ (.head _)) a) z).snoc hy
        · have hb : j ≠ i0 := by have : ¬ (j : Int) = i0 := by simpa using hb
                                 omega
          rw [if_neg hb] at hput
          repeat walk_at "go"
          refine l_at (xs := vs.toArray) (by assumption) (by walk_at "has") (by omega) (by omega) (v := vs[j]) (by show vs[Int.toNat (j : Int)]? = some vs[j]; simp) ?_
          refine ⟨g, (), _, _, _, rfl, H, hgs, ?_⟩
          rw [hput2 _ hput]
          exact hσ.snoc (hqv'.mono fun a c z => hasFz hgs z)
      · rintro g σ ys m h t ⟨hgs, hσ⟩ hlen' H
        have hσ : All2 (PlanAt (Fz g)) (Plan.put q p (i0 :: π')).kids ys := by rw [ek]; rw [List.take_of_length_le (by rw [putKids_len, hvs.len]; exact Nat.le_refl _)] at hσ; exact hσ
        refine ⟨⟨_, rfl⟩, _, _, _, _, _, rfl, H, fun h H => ?_⟩
        repeat walk_at "go"
        refine ⟨sz, _, _, _, _, rfl, by assumption, fun ta h' H hs => ?_⟩
        repeat walk_at "go"
        obtain ⟨g', f1, f2, f3, f4⟩ := Kn.freeze (c1 := [(ta, _), (acc, _)]) H
        refine K _ g' _ _ (PlanAt.ofNode (l := acc) (vs := ys) (tk := tk) en (by rw [ekind]; exact f1 _ (.head _)) (f1 _ (.tail _ (.head _))) (hσ.mono fun q y z => z.mono fun a c z => Cel.At.mono (f2 g (.head _) a) z)) (fun x hx => f2 x (.tail _ hx)) ((f4.gsub gs_skip).pick (by walk_at "pick"))
end
section
variable {w : World} {g0 : Heap} {gs : List Heap} {r : Shared} {A : Around} {env : Env}
theorem comp_srcP {σ : Type} {csf : σ → List (Addr × Cel)} {J : Nat → σ → Heap → List Value → Prop} {K : Heap → Prop} {I C acc : Addr} {ic : Nat → Cel} {n : Nat} {P : Nat → Value → Prop}
    (X : Src w A K I ic n P) (p0 : Nat) (hz : p0 + n ≤ sizeLine) {elt target iter : Expr} {gens : List Comprehension} {scope : Scope} {pos : Pos} {d : Nat} {R : Result → Shared → Prop}
    (hgen : gens[d]? = some ⟨target, iter, [], 0⟩) (hn : gens[d + 1]? = none)
    (hK : ∀ i g σ ys m h, Kn g0 (g :: gs) ((C, .ns m) :: (acc, .lst ys) :: (I, ic i) :: csf σ) h → K h)
    (hgo : ∀ i v r' h t Q, P i v → (ic (i + 1)).At h I → Q () (S r' h t) → wpAny (model Pg w) A (letOwnedTupleGo target (.ref I) v) Q NoE (S r' h t))
    (step : ∀ i v g σ ys m h t, i < n → P i v → J i σ g ys → ys.length = p0 + i → Kn g0 (g :: gs) ((C, .ns m) :: (acc, .lst ys.toArray) :: (I, ic (i + 1)) :: csf σ) h →
      wpAny (model Pg w) A (assign target env v) (fun _ s₂ => wpAny (model Pg w) A (eval elt env) (fun y s₃ => ∃ g' σ' m' h' t', s₃ = S r h' t' ∧
        Kn g0 (g' :: gs) ((C, .ns m') :: (acc, .lst ys.toArray) :: (I, ic (i + 1)) :: csf σ') h' ∧ J (i + 1) σ' g' (ys ++ [y])) NoE s₂) NoE (S r h t))
    (fin : ∀ g σ ys m h t, J n σ g ys → ys.length = p0 + n → Kn g0 (g :: gs) ((C, .ns m) :: (acc, .lst ys.toArray) :: csf σ) h → R (.ok .next) (S r h t)) :
    ∀ (k i : Nat) (g : Heap) (σ : σ) (ys : List Value) (m : Str → Option Value) (h : Heap) (t : Nat), n - i = k → i ≤ n → J i σ g ys → ys.length = p0 + i →
      Kn g0 (g :: gs) ((C, .ns m) :: (acc, .lst ys.toArray) :: (I, ic i) :: csf σ) h →
      codeAny (model Pg w) A (.compLoop (.ListComp elt gens scope pos) d (.ref I) (.ref acc) env) R (S r h t) := by
  intro k
  induction k with
  | zero =>
    intro i g σ ys m h t hk hi hJ hl H
    have e : i = n := by omega
    subst e
    refine comp_turn hgen hn (X.done r h t _ (H.at_ _ (.tail _ (.tail _ (.head _)))) (hK _ _ _ _ _ _ H) fun h' t' hs => ?_)
    exact fin g σ ys m h' t' hJ hl (Kn.loseE (H.perm swap3) hs)
  | succ k ih =>
    intro i g σ ys m h t hk hi hJ hl H
    have hlt : i < n := by omega
    refine comp_turn hgen hn (X.item i r h t _ hlt (H.at_ _ (.tail _ (.tail _ (.head _)))) (hK _ _ _ _ _ _ H) fun v h' t' hv hc hs => ?_)
    have H1 : Kn g0 (g :: gs) ((C, .ns m) :: (acc, .lst ys.toArray) :: (I, ic (i + 1)) :: csf σ) h' := H.upS (.there (.there .here)) hs hc
    refine hgo i v r h' t' _ hv hc ?_
    refine wpAny_mono (step i v g σ ys m h' t' hlt hv hJ hl H1) (fun _ s₂ q => wpAny_mono q (fun y s₃ q => ?_) fun _ _ q => q) fun _ _ q => q
    obtain ⟨g', σ', m', h'', t'', rfl, H2, hJ'⟩ := q
    refine wpAny_list_append (hsz := by rw [List.size_toArray]; omega) (H2.lst (.tail _ (.head _))) fun h3 hx hs3 => ?_
    have H3 : Kn g0 (g' :: gs) ((C, .ns m') :: (acc, .lst (ys ++ [y]).toArray) :: (I, ic (i + 1)) :: csf σ') h3 := H2.upS (.there .here) hs3 (by show h3.IsList acc _; simpa using hx)
    exact ih (i + 1) g' σ' (ys ++ [y]) m' h3 t'' (by omega) (by omega) hJ' (by simp [hl]; omega) H3

theorem comp_src_out {σ : Type} {csf : σ → List (Addr × Cel)} {J : Nat → σ → Heap → List Value → Prop} {K : Heap → Prop} {I C acc : Addr} {ic : Nat → Cel} {n : Nat} {P : Nat → Value → Prop}
    (X : Src w A K I ic n P) {elt target iter target' iter' : Expr} {ifs' : List Expr} {gens : List Comprehension} {scope : Scope} {pos : Pos} {d : Nat} {R : Result → Shared → Prop}
    (hgen : gens[d]? = some ⟨target, iter, [], 0⟩) (hn : gens[d + 1]? = some ⟨target', iter', ifs', 0⟩) (hs : ∀ x, foldedSetIterable iter' env x = pure x)
    (hK : ∀ i g σ ys m h, Kn g0 (g :: gs) ((C, .ns m) :: (acc, .lst ys) :: (I, ic i) :: csf σ) h → K h)
    (hgo : ∀ i v r' h t Q, P i v → (ic (i + 1)).At h I → Q () (S r' h t) → wpAny (model Pg w) A (letOwnedTupleGo target (.ref I) v) Q NoE (S r' h t))
    (step : ∀ i v g σ ys m h t, i < n → P i v → J i σ g ys → Kn g0 (g :: gs) ((C, .ns m) :: (acc, .lst ys.toArray) :: (I, ic (i + 1)) :: csf σ) h →
      wpAny (model Pg w) A (assign target env v) (fun _ s₂ => wpAny (model Pg w) A (eval iter' env) (fun x s₃ => wpAny (model Pg w) A (pyIter x) (fun it' s₄ =>
        codeAny (model Pg w) (A.mark none) (.compStart (.ListComp elt gens scope pos) (d + 1) it' (.ref acc) env) (fun res s₅ => (∃ f, res = .ok f) ∧ ∃ g' σ' ys' m' h' t', s₅ = S r h' t' ∧
        Kn g0 (g' :: gs) ((C, .ns m') :: (acc, .lst ys'.toArray) :: (I, ic (i + 1)) :: csf σ') h' ∧ J (i + 1) σ' g' ys') s₄) NoE s₃) NoE s₂) NoE (S r h t))
    (fin : ∀ g σ ys m h t, J n σ g ys → Kn g0 (g :: gs) ((C, .ns m) :: (acc, .lst ys.toArray) :: csf σ) h → R (.ok .next) (S r h t)) :
    ∀ (k i : Nat) (g : Heap) (σ : σ) (ys : List Value) (m : Str → Option Value) (h : Heap) (t : Nat), n - i = k → i ≤ n → J i σ g ys →
      Kn g0 (g :: gs) ((C, .ns m) :: (acc, .lst ys.toArray) :: (I, ic i) :: csf σ) h →
      codeAny (model Pg w) A (.compLoop (.ListComp elt gens scope pos) d (.ref I) (.ref acc) env) R (S r h t) := by
  intro k
  induction k with
  | zero =>
    intro i g σ ys m h t hk hi hJ H
    have e : i = n := by omega
    subst e
    refine comp_turn_out hgen hn hs (X.done r h t _ (H.at_ _ (.tail _ (.tail _ (.head _)))) (hK _ _ _ _ _ _ H) fun h' t' hs => ?_)
    exact fin g σ ys m h' t' hJ (Kn.loseE (H.perm swap3) hs)
  | succ k ih =>
    intro i g σ ys m h t hk hi hJ H
    have hlt : i < n := by omega
    refine comp_turn_out hgen hn hs (X.item i r h t _ hlt (H.at_ _ (.tail _ (.tail _ (.head _)))) (hK _ _ _ _ _ _ H) fun v h' t' hv hc hs => ?_)
    have H1 : Kn g0 (g :: gs) ((C, .ns m) :: (acc, .lst ys.toArray) :: (I, ic (i + 1)) :: csf σ) h' := H.upS (.there (.there .here)) hs hc
    refine hgo i v r h' t' _ hv hc ?_
    refine wpAny_mono (step i v g σ ys m h' t' hlt hv hJ H1) (fun _ s₂ q => wpAny_mono q (fun x s₃ q => wpAny_mono q (fun it' s₄ q => codeAny_mono q fun res s₅ q => ?_) fun _ _ q => q) fun _ _ q => q) fun _ _ q => q
    obtain ⟨hf, g', σ', ys', m', h'', t'', rfl, H2, hJ'⟩ := q
    exact ⟨hf, ih (i + 1) g' σ' ys' m' h'' t'' (by omega) (by omega) hJ' H2⟩
end
def FlagIs (m : Str → Option Value) (b : Bool) : Prop := (m "was_changed" = none ∧ b = false) ∨ m "was_changed" = some (.bool b)
def Tr.Flags : Tr → List Bool → Prop
  | .leaf _ _ _ _ _ _ m _, l => ∃ b, FlagIs m b ∧ l = [b]
  | .one _ _ _ _ _ m _ c, l => ∃ b lc, FlagIs m b ∧ c.Flags lc ∧ l = b :: lc
  | .two _ _ _ _ _ m _ c e, l => ∃ b lc le, FlagIs m b ∧ c.Flags lc ∧ e.Flags le ∧ l = b :: (lc ++ le)
theorem Tr.Flags.open {t : Tr} {l : List Bool} (h : t.Flags l) : ∃ b ls, FlagIs t.m b ∧ All2 (fun (k : Tr) l => k.Flags l) t.kids ls ∧ l = b :: ls.flatten := by
  cases t with
  | leaf => obtain ⟨b, h1, rfl⟩ := h; exact ⟨b, [], h1, trivial, rfl⟩
  | one => obtain ⟨b, lc, h1, h2, rfl⟩ := h; exact ⟨b, [lc], h1, ⟨h2, trivial⟩, by simp⟩
  | two => obtain ⟨b, lc, le, h1, h2, h3, rfl⟩ := h; exact ⟨b, [lc, le], h1, ⟨h2, h3, trivial⟩, by simp⟩
theorem Tr.Flags.len {t : Tr} {p : Plan} : ∀ {l : List Bool} {d : Nat}, t.Ok p → p.ok d → t.Flags l → l.length + 1 ≤ 2 ^ (d + 1) := by
  induction t generalizing p with
  | leaf => intro l d h1 h2 h; obtain ⟨b, _, rfl⟩ := h; have : 1 ≤ 2 ^ d := Nat.one_le_two_pow; rw [Nat.pow_succ]; show 2 ≤ _; omega
  | one x d mk md l m n c ih =>
    intro l d h1 h2 h
    obtain ⟨b, lc, _, h3, rfl⟩ := h
    cases p <;> first | exact h1.elim | skip
    cases d <;> first | exact h2.elim | skip
    have := ih h1.2.2.2 h2.2 h3
    rw [Nat.pow_succ]; simp only [List.length_cons]; omega
  | two x d mk md l m n c e ih1 ih2 =>
    intro l d h1 h2 h
    obtain ⟨b, lc, le, _, h3, h4, rfl⟩ := h
    cases p <;> first | exact h1.elim | skip
    cases d <;> first | exact h2.elim | skip
    have := ih1 h1.2.2.2.2.1 h2.2.1 h3
    have := ih2 h1.2.2.2.2.2 h2.2.2 h4
    rw [Nat.pow_succ]; simp only [List.length_cons, List.length_append]; omega

theorem Tr.own_children (w : World) (T : Tr) : OwnOk w T.C "children" := by cases T; exact ow_Leaf_children w; exact ow_Node_children w; exact ow_Node_children w
theorem Tr.own_was (w : World) (T : Tr) : OwnOk w T.C "was_changed" := by cases T; exact ow_Leaf_was_changed w; exact ow_Node_was_changed w; exact ow_Node_was_changed w
theorem Tr.cls_was (w : World) (T : Tr) : ClsOk w T.C "was_changed" (.bool false) := by cases T; exact cl_Leaf_was_changed w; exact cl_Node_was_changed w; exact cl_Node_was_changed w
theorem Tr.own_parent (w : World) (T : Tr) : OwnOk w T.C "parent" := by cases T; exact ow_Leaf_parent w; exact ow_Node_parent w; exact ow_Node_parent w
theorem Tr.cls_parent (w : World) (T : Tr) : ClsOk w T.C "parent" .none := by cases T; exact cl_Leaf_parent w; exact cl_Node_parent w; exact cl_Node_parent w
theorem Tr.Ok.children {T : Tr} {p : Plan} (h : T.Ok p) : ∃ l, T.m "children" = some (.ref l) ∧ (l, Cel.lst (T.kids.map fun t => Value.ref t.x).toArray) ∈ T.cells ∧ T.kids.length ≤ 2 ∧
    All2 (fun (c : Tr) q => c.Ok q) T.kids p.kids ∧ ∀ k ∈ T.kids, ∀ c ∈ k.cells, c ∈ T.cells := by
  cases p with
  | leaf =>
    obtain ⟨fa, ch, N, _, _, _, h1, h2⟩ := h.leaf
    rw [h2]
    exact ⟨ch, N.chl, h1, by decide, trivial, fun k hk => nomatch hk⟩
  | one k q =>
    obtain ⟨l, N, _, _, h1, h2, h3⟩ := h.node trivial
    exact ⟨l, N.chl, h1, by rw [h2.len]; simp [Plan.kids], h2.mono fun _ _ z => z.1, h3⟩
  | two k q q2 =>
    obtain ⟨l, N, _, _, h1, h2, h3⟩ := h.node trivial
    exact ⟨l, N.chl, h1, by rw [h2.len]; exact Nat.le_refl 2, h2.mono fun _ _ z => z.1, h3⟩
section
variable {w : World} {g0 g : Heap} {r : Shared}
theorem a_flag {gs : List Heap} {cs : List (Addr × Cel)} {h : Heap} {t n : Nat} {A : Around} {E Q : Value → Shared → Prop} {x C d : Addr} {m : Str → Option Value} {expr : Bool} {b : Bool} (G : Gl w g0) (H : Kn g0 gs cs h) (I : Ins gs cs x C d m n)
    (ok1 : OwnOk w C "was_changed") (ok2 : ClsOk w C "was_changed" (.bool false)) (hb : FlagIs m b) (k : ∀ t', Q (.bool b) (S r h t')) : wpAny (model Pg w) A (getAttr (.ref x) "was_changed" expr) Q E (S r h t) := by
  rcases hb with ⟨h1, rfl⟩ | h1
  · exact a_cls G H I ok2 h1 k
  · exact a_own G H I ok1 h1 rfl k
theorem s_changed (G : Gl w g0) : ∀ (d : Nat) {p : Plan} {T : Tr} {l : List Bool} {gs : List Heap} {cs : List (Addr × Cel)} {h : Heap} {t : Nat} {A : Around} {Q : Value → Shared → Prop}, d ≤ 6 → p.ok d → T.Ok p → T.Flags l → Kns gs cs T.cells →
    Kn g0 gs cs h → Rm A (30 * d + 30) → (∀ a g' h' t', Fz g' a (.lst (l.map Value.bool).toArray) → (∀ x ∈ gs, x.StaysIn g') → Kn g0 (g' :: gs) cs h' → Q (.ref a) (S r h' t')) →
    wpAny (model Pg w) A (call (.ref 434) [.ref T.x]) Q NoE (S r h t) := by
  intro d
  induction d using Nat.strongRecOn with
  | ind d ih =>
    intro p T l gs cs h t A Q hd6 hp hT hF hc H R K
    obtain ⟨b, ls, hb, hls, rfl⟩ := hF.open
    refine enter G H R (binds := [(Str.ofString "thing", .ref T.x)]) (n := 30 * d + 29) (by exact rfl) (by exact rfl) (by exact rfl) (fun s _ => BindsTo.of_eq (by exact rfl)) (by exact rfl) (by exact rfl) (by exact rfl) (by exact rfl) (by exact rfl) (by exact rfl) (by exact rfl) (by exact rfl) ?_
    intro L h₁ t₁ env A' e R H hs' hL
    dsimp only at e
    have hI := hc.ins
    have hob := hI.ob
    have hns := hI.ns
    repeat walk_at "go"
    refine a_flag G H ⟨by walk_at "has", by walk_at "has"⟩ (T.own_was w) (T.cls_was w) hb fun t' => ?_
    repeat walk_at "go"
    refine ⟨sz, _, _, _, _, rfl, by assumption, fun lf h' H hs => ?_⟩
    obtain ⟨la, hlc, hlm, hlen, hkok, hksub⟩ := hT.children
    have hl0 : Has gs cs la (.lst (T.kids.map fun t => Value.ref t.x).toArray) := hc _ hlm
    have okc := T.own_children w
    refine lc e (by assumption) (by exact rfl) (by exact rfl) (by exact rfl) (by exact rfl) (by exact rfl) (fun _ => rfl) ?_
    repeat walk_at "go"
    refine itL (by assumption) (by walk_at "has") fun I h' H hs => ?_
    refine ⟨gs, _, h', _, rfl, H, fun A' h3 t3 Q E k q => itself_lit H (.head _) k q, ?_⟩
    intro acc C as env' h3 t3 has e' hs3 H
    match as, has with
    | [], _ =>
    obtain ⟨g1, _, f2, _, H⟩ := Kn.freeze (c1 := []) H
    refine comp_src_out (σ := Unit) (csf := fun _ => (lf, .lst #[.bool b]) :: (L, .ns fun x => List.lookup x [(Str.ofString "thing", Value.ref T.x)].reverse) :: cs)
        (J := fun i σ g ys => (∀ x ∈ gs, x.StaysIn g) ∧ ys = (ls.take i).flatten.map Value.bool) (K := fun h => h.IsList la (T.kids.map fun t => Value.ref t.x).toArray)
        (src_list R.hd I la _) (by exact rfl) (by exact rfl) (fun _ => rfl) (fun _ _ σ _ _ _ H => ?_) (fun _ _ _ _ _ _ _ _ q => go_name q) ?_ ?_
        _ 0 g1 () [] _ h3 t3 rfl (Nat.zero_le _) ⟨f2, rfl⟩ H
    · exact Has.at (a := la) (c := .lst (T.kids.map fun t => Value.ref t.x).toArray) H (by repeat (first | assumption | refine Has.cons ?_ | refine Has.consG ?_))
    · rintro i v g σ ys m h t hi hv ⟨hgs, rfl⟩ H
      obtain ⟨kid, hkd, rfl⟩ : ∃ kid, T.kids[i]? = some kid ∧ v = .ref kid.x := by
        have : (List.map (fun t => Value.ref t.x) T.kids)[i]? = some v := hv
        rw [List.getElem?_map] at this
        obtain ⟨a, b, c⟩ := Option.map_eq_some_iff.mp this
        exact ⟨a, b, c.symm⟩
      obtain ⟨lk, hlk, hfk⟩ := hls.get' hkd
      obtain ⟨q, hq, hqok⟩ := hkok.get' hkd
      repeat walk_at "go"
      walk_at "changed"
      have hnd : p.isNode := by cases p; exact nomatch hq; trivial; trivial
      obtain ⟨d1, rfl, hk, hoks, hlen'⟩ := hp.node hnd
      have hqd := hoks q (List.mem_of_getElem? hq)
      refine ih d1 (by omega) (by omega) hqd hqok hfk (fun z hz => ?_) (by assumption) (R.le (by omega)) fun ca g' h' t' hca hg' H => ?_
      · have := hc z (hksub kid (List.mem_of_getElem? hkd) z hz)
        repeat (first | assumption | refine Has.cons ?_ | refine Has.consG ?_)
      refine itL H (.of hca) fun I2 h' H hs => ?_
      refine comp_start (g := ⟨_, _, [], 0⟩) (by exact rfl) rfl (fun A'' Q E q => itself_lit H (.head _) (fun _ _ e => e) q) ?_
      have hnext : (List.take (i + 1) ls).flatten = (List.take i ls).flatten ++ lk := by
        obtain ⟨hi', he⟩ := List.getElem?_eq_some_iff.mp hlk
        rw [List.take_succ_eq_append_getElem hi', he]; simp
      have hlen2 : (List.take (i + 1) ls).flatten.length + 1 ≤ 2 ^ 7 := by
        have h1 := hF.len hT hp
        have h2 : (List.take (i + 1) ls).flatten.length ≤ ls.flatten.length := by
          have : ls.flatten = (List.take (i + 1) ls).flatten ++ (List.drop (i + 1) ls).flatten := by rw [← List.flatten_append, List.take_append_drop]
          rw [this, List.length_append]; omega
        have h3 : 2 ^ (d1 + 1 + 1) ≤ 2 ^ 7 := Nat.pow_le_pow_right (by decide) (by omega)
        simp only [List.length_cons] at h1
        omega
      rw [hnext] at hlen2
      rw [hnext]
      generalize (List.take i ls).flatten = pre at H hlen2 ⊢
      rw [List.length_append] at hlen2
      have hsz : pre.length + lk.length ≤ 1000 := by omega
      have H : Kn g0 (g' :: g :: gs) ((C, Cel.ns fun y => if y = Str.ofString "part" then some (Value.ref kid.x) else m y) :: (acc, Cel.lst (List.map Value.bool pre).toArray) :: (I2, Cel.lit ca 0) :: (I, Cel.lit la (i + 1)) :: (lf, Cel.lst #[Value.bool b]) :: (L, Cel.ns fun x => List.lookup x [(Str.ofString "thing", Value.ref T.x)].reverse) :: cs) h' := H.pick (by walk_at "pick")
      have H := H.withBase
      refine comp_srcP (σ := Unit) (csf := fun _ => (I, Cel.lit la (i + 1)) :: (lf, .lst #[.bool b]) :: (L, .ns fun x => List.lookup x [(Str.ofString "thing", Value.ref T.x)].reverse) :: cs)
        (J := fun j σ g2 ys => g0 = g2 ∧ ys = pre.map Value.bool ++ (lk.take j).map Value.bool) (K := fun h => h.IsList ca (lk.map Value.bool).toArray)
        (src_list R.hd I2 ca _) pre.length (by rw [sizeLine_eq]; simp; omega) (by exact rfl) (by exact rfl) (fun _ _ σ _ _ _ H => ?_) (fun _ _ _ _ _ _ _ _ q => go_name q) ?_ ?_
        _ 0 g0 () _ _ h' t' rfl (Nat.zero_le _) ⟨rfl, by simp⟩ (by simp) H
      · exact Has.at (a := ca) (c := .lst (lk.map Value.bool).toArray) H (Has.consG (Has.of hca))
      · rintro j v g2 σ ys m h t hj hv ⟨rfl, rfl⟩ hl H
        have hv : (List.map Value.bool lk)[j]? = some v := hv
        rw [List.getElem?_map] at hv
        obtain ⟨b', hb', rfl⟩ := Option.map_eq_some_iff.mp hv
        repeat walk_at "go"
        rename_i H
        refine ⟨g0, (), _, _, _, rfl, H, rfl, ?_⟩
        obtain ⟨hi', he⟩ := List.getElem?_eq_some_iff.mp hb'
        rw [List.take_succ_eq_append_getElem hi', he]; simp
      · rintro g2 σ ys m h t ⟨rfl, rfl⟩ hl H
        refine ⟨⟨_, rfl⟩, g', (), _, _, _, _, rfl, (H.gsub (gs' := g' :: g :: gs) fun x hx => .tail _ hx).gsub gs_skip, fun x hx => hg' x (.tail _ hx), ?_⟩
        rw [List.take_of_length_le (by simp)]; simp
    · rintro g σ ys m h t ⟨hgs, rfl⟩ H
      refine ⟨⟨_, rfl⟩, _, _, _, _, _, rfl, H, fun h H => ?_⟩
      have hall : List.take (List.map (fun t => Value.ref t.x) T.kids).toArray.size ls = ls := List.take_of_length_le (by simp [hls.len])
      rw [hall] at H
      have hlen2 : ls.flatten.length + 1 ≤ 2 ^ 7 := by
        have h1 := hF.len hT hp
        have h3 : 2 ^ (d + 1) ≤ 2 ^ 7 := Nat.pow_le_pow_right (by decide) (by omega)
        simp only [List.length_cons] at h1
        omega
      have hz : (#[Value.bool b]).size + (ls.flatten.map Value.bool).toArray.size ≤ 1000 := by
        rw [List.size_toArray, List.size_toArray, List.length_map]; show 1 + _ ≤ _; omega
      refine b_addL H (H.lst (.tail _ (.head _))) (H.lst (.head _)) hz fun a3 h' H hs => ?_
      repeat walk_at "go"
      obtain ⟨g', f1, f2, f3, f4⟩ := Kn.freeze (c1 := [(a3, _)]) H
      refine K a3 g' _ _ ?_ (fun x hx => f2 x (.tail _ hx)) ((f4.gsub gs_skip).pick (by walk_at "pick"))
      have := f1 _ (.head _)
      show Cel.At _ _ _
      simpa using this
end
theorem fi_Leaf_str (w : World) : findIn (KK w) (.ref 374) "__str__" = some (some (.ref 319)) := by kernel_rfl
theorem fi_Node_str (w : World) : findIn (KK w) (.ref 294) "__str__" = some (some (.ref 185)) := by kernel_rfl
theorem fn_319 (w : World) : isFn (KK w) (.ref 319) = true := by kernel_rfl
theorem fn_185 (w : World) : isFn (KK w) (.ref 185) = true := by kernel_rfl
theorem Kns.casts {gs cs} {a : Addr} {c : Cel} {l : List (Addr × Cel)} (h : Kns gs cs l) (m : (a, c) ∈ l) : Has gs cs a c := h _ m
section
variable {w : World} {g0 g : Heap} {r : Shared}
theorem s_str (G : Gl w g0) : ∀ (d : Nat) {p : Plan} {T : Tr} {gs : List Heap} {cs : List (Addr × Cel)} {h : Heap} {t : Nat} {A : Around} {Q : Value → Shared → Prop}, d ≤ 6 → p.ok d → T.Ok p → Kns gs cs T.cells →
    Kn g0 gs cs h → Rm A (30 * d + 30) → (∀ tk h' t', Kn g0 gs cs h' → Q (.str p.text tk) (S r h' t')) →
    wpAny (model Pg w) A (call (.type "str") [.ref T.x]) Q NoE (S r h t) := by
  intro d
  induction d using Nat.strongRecOn with
  | ind d ih =>
    intro p T gs cs h t A Q hd6 hp hT hc H R K
    by_cases hnd : p.isNode
    rotate_left
    · match p, hnd, hp, hT with
      | .leaf wd bl row, _, hp, hT =>
        have hp : wd.length ≤ 1 ∧ bl.length ≤ 2 := by cases d <;> exact hp
        obtain ⟨fa, ch, N, hC, hn, _, _, _⟩ := hT.leaf
        have hI := hc.ins
        rw [hC] at hI
        obtain ⟨o, I, _⟩ := hI.inst H
        refine kso_call (by have := R.un; show A.units + 1 + 1 < 9900; omega) (G.of H).K I (fi_Leaf_str w) (fn_319 w) ?_
        have hob := hI.ob
        have hns := hI.ns
        obtain ⟨t1, h1⟩ := N.pre
        obtain ⟨t2, h2⟩ := N.val
        refine enter G H ((R.le (k := 30)).in1.in1) (n := 27) (binds := [(Str.ofString "self", .ref T.x)]) (by exact rfl) (by exact rfl) (by exact rfl) (fun s _ => BindsTo.of_eq (by exact rfl)) (by exact rfl) (by exact rfl) (by exact rfl) (by exact rfl) (by exact rfl) (by exact rfl) (by exact rfl) (by exact rfl) ?_
        intro L h₁ t₁ env A' e R H hs' hL
        dsimp only at e
        repeat walk_at "go"
        walk_at "str"
        refine P.str_of_str ?_
        repeat walk_at "go"
        refine b_addS (by omega) fun tk t' => ?_
        repeat walk_at "go"
        exact K _ _ _ H.drop
      | .one .., hnd, _, _ => exact absurd trivial hnd
      | .two .., hnd, _, _ => exact absurd trivial hnd
    obtain ⟨d1, rfl, hk, hoks, hlen⟩ := hp.node hnd
    obtain ⟨la, N, hC, hn, hlm, hkok, hksub⟩ := hT.node hnd
    have hI := hc.ins
    rw [hC] at hI
    obtain ⟨o, I, _⟩ := hI.inst H
    refine kso_call (by have := R.un; show A.units + 1 + 1 < 9900; omega) (G.of H).K I (fi_Node_str w) (fn_185 w) ?_
    have hob := hI.ob
    have hns := hI.ns
    have hch := N.chl
    have hl := hc.casts hlm
    refine enter G H ((R.le (k := 30 * d1 + 60)).in1.in1) (n := 30 * d1 + 57) (binds := [(Str.ofString "self", .ref T.x)]) (by exact rfl) (by exact rfl) (by exact rfl) (fun s _ => BindsTo.of_eq (by exact rfl)) (by exact rfl) (by exact rfl) (by exact rfl) (by exact rfl) (by exact rfl) (by exact rfl) (by exact rfl) (by exact rfl) ?_
    intro L h₁ t₁ env A' e R H hs' hL
    dsimp only at e
    repeat walk_at "go"
    refine lc e (by assumption) (by exact rfl) (by exact rfl) (by exact rfl) (by exact rfl) (by exact rfl) (fun _ => rfl) ?_
    repeat walk_at "go"
    refine itL (by assumption) (by walk_at "has") fun I h' H hs => ?_
    refine ⟨gs, _, h', _, rfl, H, fun A' h3 t3 Q E k q => itself_lit H (.head _) k q, ?_⟩
    intro acc C as env' h3 t3 has e' hs3 H
    match as, has with
    | [], _ =>
    have H := H.withBase
    refine comp_src (σ := Unit) (csf := fun _ => (L, .ns fun x => List.lookup x [(Str.ofString "self", Value.ref T.x)].reverse) :: cs)
        (J := fun i σ g ys => g0 = g ∧ StrsAre ys ((p.kids.take i).map Plan.text)) (K := fun h => h.IsList la (T.kids.map fun t => Value.ref t.x).toArray)
        (src_list R.hd I la _) (by rw [sizeLine_eq]; simp; rw [hkok.len]; omega) (by exact rfl) (by exact rfl) (fun _ _ σ _ _ _ H => ?_) (fun _ _ _ _ _ _ _ _ q => go_name q) ?_ ?_
        _ 0 g0 () [] _ h3 t3 rfl (Nat.zero_le _) ⟨rfl, .nil⟩ rfl H
    · exact Has.at (a := la) (c := .lst (T.kids.map fun t => Value.ref t.x).toArray) H (by repeat (first | assumption | refine Has.cons ?_ | refine Has.consG ?_))
    · rintro i v g σ ys m h t hi hv ⟨rfl, hσ⟩ hlen' H
      obtain ⟨kid, hkd, rfl⟩ : ∃ kid, T.kids[i]? = some kid ∧ v = .ref kid.x := by
        have : (List.map (fun t => Value.ref t.x) T.kids)[i]? = some v := hv
        rw [List.getElem?_map] at this
        obtain ⟨a, b, c⟩ := Option.map_eq_some_iff.mp this
        exact ⟨a, b, c.symm⟩
      obtain ⟨q, hq, hqok, _⟩ := hkok.get' hkd
      repeat walk_at "go"
      walk_at "str"
      have hqd := hoks q (List.mem_of_getElem? hq)
      refine ih d1 (by omega) (by omega) hqd hqok (fun z hz => ?_) (by assumption) R.le fun tk h' t' H => ?_
      · have := hc z (hksub kid (List.mem_of_getElem? hkd) z hz)
        repeat (first | assumption | refine Has.cons ?_ | refine Has.consG ?_)
      refine ⟨g0, (), _, _, _, rfl, H, rfl, ?_⟩
      obtain ⟨hi', he⟩ := List.getElem?_eq_some_iff.mp hq
      rw [List.take_succ_eq_append_getElem hi', he, List.map_append]
      exact strs_snoc hσ
    · rintro g σ ys m h t ⟨rfl, hσ⟩ hlen' H
      have hσ : StrsAre ys (p.kids.map Plan.text) := by rw [List.take_of_length_le (by simp [hkok.len])] at hσ; exact hσ
      refine ⟨⟨_, rfl⟩, _, _, _, _, _, rfl, H, fun h H => ?_⟩
      repeat walk_at "go"
      refine s_join (H.lst (.head _)) (by simpa using hσ) ?_ fun tk t' => ?_
      · have h1 : ((p.kids.map Plan.text).map (·.length)).sum ≤ (p.kids.map Plan.text).length * 192 := by
          refine sum_le fun y hy => ?_
          obtain ⟨q, hq, rfl⟩ := List.mem_map.mp hy
          refine Nat.le_trans (Plan.text_len (hoks q hq)) ?_
          have : 2 ^ d1 ≤ 2 ^ 6 := Nat.pow_le_pow_right (by decide) (by omega)
          omega
        have h2 : (p.kids.map Plan.text).length ≤ 2 := by simpa using hlen
        have h3 : (Str.ofString "").length = 0 := by decide
        rw [h3]
        omega
      · rw [← Plan.text_node hnd]
        exact K _ _ _ ((H.gsub (fun x hx => .tail _ hx)).pick (by walk_at "pick"))
end
section
variable {w : World} {g0 h : Heap} {gs : List Heap} {cs cs' : List (Addr × Cel)} {r : Shared} {t n : Nat} {A : Around} {E : Value → Shared → Prop} {env : Env} {L x C d : Addr} {m : Str → Option Value} {Q : Value → Shared → Prop} {nm : List (Str × NameKind)} {cl : List (Str × Addr)}
theorem callK {Q : Value → Shared → Prop} {x : Str} {np pos : Pos} {e : Expr} {rest : List Expr} {kws : List Keyword} {f : Value} (G : Gl w g0) (ev : EnvIs env L nm cl) (H : Kn g0 gs cs h)
    (hl : nm.lookup x = some .globalImplicit) (hv : nsIn (KK w) mainGlobals x = some (some f)) (hk : keepIn (KK w) f = true)
    (hall : (backToKw pos (keywordEach kws env)).all (·.1.isSome) = true)
    (k : wpAny (model Pg w) A (spliced (backTo pos (starEach (e :: rest) env))) (fun vs s₁ => wpAny (model Pg w) A (evalAll ((backToKw pos (keywordEach kws env)).map (·.2)))
      (fun ks s₂ => g0.StaysIn s₂.heap ∧ wpAny (model Pg w) A (call f vs (((backToKw pos (keywordEach kws env)).filterMap (·.1)).zip ks)) Q E s₂) E s₁) E (S r h t))
    (hplain : ((backTo pos (starEach (e :: rest) env)).any (·.1) || (backToKw pos (keywordEach kws env)).any (·.1.isNone)) = false := by exact rfl)
    (he : starEach (e :: rest) env = (false, eval e env) :: starEach rest env := by exact rfl)
    (hc : eval (.Call (.Name x np) (e :: rest) kws pos) env = (do callWith pos (← eval (.Name x np) env) [] (backTo pos (starEach (e :: rest) env)) (backToKw pos (keywordEach kws env))) := by exact rfl)
    (hd : (x == ("__debug__" : Str)) = false := by decide) :
    wpAny (model Pg w) A (eval (.Call (.Name x np) (e :: rest) kws pos) env) Q E (S r h t) := by
  rw [hc]
  refine wpAny_bind (n_glob G ev H hl hv ?_ hd)
  refine callWith_of (P := (KK w).In) hplain (keeps_K hk) (evalArgs_kw2 hall ?_ he)
  exact wpAny_mono k (fun vs s q => wpAny_mono q (fun ks s q => ⟨G.K.keeps q.1, q.2⟩) fun _ _ q => q) fun _ _ q => q
end
theorem fi_prefix (w : World) : findIn (KK w) (.ref 374) "prefix" = some (some (.ref 371)) := by kernel_rfl
theorem sp_prefix (w : World) : specialIn (KK w) (.ref 371) "__get__" = some (some (.builtin "property.__get__")) := by kernel_rfl
theorem tk_prefix (w : World) : takesIn (KK w) (.ref 371) = some true := by kernel_rfl
theorem rc_prefix (w : World) : ∃ rest, recIn (KK w) 371 "property" = some (.ref 361 :: rest) := ⟨_, by exact rfl⟩
section
variable {w : World} {g0 h : Heap} {gs : List Heap} {cs cs' : List (Addr × Cel)} {r : Shared} {t n : Nat} {A : Around} {E : Value → Shared → Prop} {env : Env} {L x C d : Addr} {m : Str → Option Value} {Q : Value → Shared → Prop}
theorem s_prefix {bl : Str} {tb : Tok} {expr : Bool} (G : Gl w g0) (H : Kn g0 gs cs h) (R : Rm A 10) (I : Ins gs cs x 374 d m n) (hm : m "_prefix" = some (.str bl tb)) (K : ∀ h' t', Kn g0 gs cs h' → Q (.str bl tb) (S r h' t')) :
    wpAny (model Pg w) A (getAttr (.ref x) "prefix" expr) Q NoE (S r h t) := by
  obtain ⟨o, I', hl⟩ := I.inst H
  obtain ⟨rest, hr⟩ := rc_prefix w
  have hob := I.ob
  have hns := I.ns
  refine wpAny_mono (E := NoE) ?_ (fun _ _ q => q) (fun _ _ q => q)
  refine get_bind (s := S r h t) (G.of H).K I' (plainGet_of (pg_Leaf w "prefix")).1 (findObj_data (by rfl) (fi_prefix w) (sp_prefix w) (tk_prefix w)) (plainGet_of (pg_Leaf w "prefix")).2 (wpAny_call (prop_get (s := S r h (t + 1)) (G.of H).K hr ?_))
  refine enterA (n := 8) G H (R.in1.le) (binds := [(Str.ofString "self", .ref x)]) (by exact rfl) (by exact rfl) (by exact rfl) (fun s _ => BindsTo.of_eq (by exact rfl)) (by exact rfl) (by exact rfl) (by exact rfl) (by exact rfl) (by exact rfl) (by exact rfl) (by exact rfl) (by exact rfl) ?_
  intro L h₁ t₁ env A' e R H hs' hL
  dsimp only at e
  repeat walk_at "go"
  show wpAny _ _ (handedOut _) _ _ _
  rw [handedOut_of rfl]
  exact wpAny_pure (K _ _ H.drop)
end
theorem bind_leaf2 {w : World} {wd : Str} {tw tk tb : Tok} {c1 fa : Addr} (x : Addr) (s : Shared) (X : (KK w).In s.heap) (fd : FuncData) (oc : Value) (od : Option Addr) (osl : Array (Option Value)) (e : (KK w).lookup 312 = some ⟨oc, od, .func fd, osl⟩) :
    BindsTo s fd ⟨.ref x :: [.int 1 tk, .str wd tw, .ref c1], [("fixers_applied", .ref fa), ("bracket_depth", .int 0 tb)]⟩ [(Str.ofString "self", .ref x), (Str.ofString "kind", .int 1 tk), (Str.ofString "value", .str wd tw), (Str.ofString "context", .ref c1),
      (Str.ofString "prefix", .none), (Str.ofString "fixers_applied", .ref fa), (Str.ofString "opening_bracket", .none), (Str.ofString "fmt_pass_converted_first_leaf", .none), (Str.ofString "bracket_depth", .int 0 tb),
      (Str.ofString "line_ranges_first_lineno", .int 0 567), (Str.ofString "line_ranges_selected", .none)] := by
  rw [fd_eq e (by exact rfl)]
  exact binds_K (T := 305) X (by exact rfl) (by exact rfl) (by exact rfl) (by exact rfl) (by exact rfl)
theorem bind_node2 {w : World} {k : Int} {tk : Tok} {lc : Addr} (x : Addr) (s : Shared) (X : (KK w).In s.heap) (fd : FuncData) (oc : Value) (od : Option Addr) (osl : Array (Option Value)) (e : (KK w).lookup 180 = some ⟨oc, od, .func fd, osl⟩) :
    BindsTo s fd ⟨.ref x :: [.int k tk, .ref lc], [("fixers_applied", .none)]⟩ [(Str.ofString "self", .ref x), (Str.ofString "kind", .int k tk), (Str.ofString "children", .ref lc), (Str.ofString "context", .none),
      (Str.ofString "prefix", .none), (Str.ofString "fixers_applied", .none)] := by
  rw [fd_eq e (by exact rfl)]
  exact binds_K (T := 173) X (by exact rfl) (by exact rfl) (by exact rfl) (by exact rfl) (by exact rfl)
section
variable {w : World} {g0 g : Heap} {r : Shared}
section
variable {gs : List Heap} {cs : List (Addr × Cel)} {h : Heap} {t : Nat} {A : Around} {Q : Value → Shared → Prop}
theorem s_clone_leaf (G : Gl w g0) {T : Tr} {wd bl : Str} {row : Int} (hT : T.Ok (.leaf wd bl row)) (hc : Kns gs cs T.cells)
    (H : Kn g0 gs cs h) (R : Rm A 30) (K : ∀ (t : Tr) h' t', t.Ok (.leaf wd bl row) → t.m "parent" = none → t.Calm → t.n ≤ 20 → Kn g0 gs (t.cells ++ cs) h' → Q (.ref t.x) (S r h' t')) :
    wpAny (model Pg w) A (call (.ref 333) [.ref T.x]) Q NoE (S r h t) := by
  obtain ⟨fa, ch, N, hC, hn, hfa, _, _⟩ := hT.leaf
  have hI := hc.ins
  rw [hC] at hI
  have hob := hI.ob
  have hns := hI.ns
  obtain ⟨t1, h1⟩ := N.pre
  obtain ⟨t2, h2⟩ := N.val
  obtain ⟨t3, h3⟩ := N.typ
  obtain ⟨t4, h4⟩ := N.line
  obtain ⟨t5, h5⟩ := N.col
  obtain ⟨t6, h6⟩ := N.dep
  have h7 := N.fix
  have hfl := hc.casts hfa
  refine enter G H R (n := 29) (binds := [(Str.ofString "self", .ref T.x)]) (by exact rfl) (by exact rfl) (by exact rfl) (fun s _ => BindsTo.of_eq (by exact rfl)) (by exact rfl) (by exact rfl) (by exact rfl) (by exact rfl) (by exact rfl) (by exact rfl) (by exact rfl) (by exact rfl) ?_
  intro L h₁ t₁ env A' e R H hs' hL
  dsimp only at e
  repeat walk_at "go"
  refine ⟨by exact rfl, ?_⟩
  repeat walk_at "go"
  refine callK G e (by assumption) (by exact rfl) (gl_Leaf w) (gl_Leaf_kp w) (by exact rfl) ?_
  repeat walk_at "go"
  refine s_prefix G (by assumption) R.le ⟨by walk_at "has", by walk_at "has"⟩ h1 fun h' t' H => ?_
  repeat walk_at "go"
  refine ⟨sz, _, _, _, _, rfl, by assumption, fun c2 h' H hs => ?_⟩
  repeat walk_at "go"
  refine ⟨sz, _, _, _, _, rfl, by assumption, fun c1 h' H hs => ?_⟩
  repeat walk_at "go"
  refine kwAll_cons ?_
  repeat walk_at "go"
  refine kwAll_cons ?_
  repeat walk_at "go"
  refine kwAll_nil ?_
  refine ⟨Kn.base (by assumption), ?_⟩
  refine s_leaf G (kw := [("fixers_applied", .ref fa), ("bracket_depth", .int 0 t6)]) (by assumption) R.le bind_leaf2 (by walk_at "has") (by walk_at "has") (Has.consG (by walk_at "has")) ?_
  intro x d mk md fa2 ch2 m n h' t' N hp hw hn H
  repeat walk_at "go"
  exact K (.leaf x d mk md fa2 ch2 m n) _ _ ⟨N, by omega⟩ hp ⟨hw, by omega⟩ hn (H.pick (by walk_at "pick"))
end
def cloneFn : Tr → Addr | .leaf .. => 333 | _ => 197
theorem Tr.me_clone (w : World) (T : Tr) : MethOk w T.C "clone" (cloneFn T) := by cases T; exact me_Leaf_clone w; exact me_Node_clone w; exact me_Node_clone w
theorem Tr.kf_clone (w : World) (T : Tr) : keepIn (KK w) (.ref (cloneFn T)) = true := by cases T; exact kf_333 w; exact kf_197 w; exact kf_197 w
theorem Tr.Ok.no_clone {T : Tr} {p : Plan} (h : T.Ok p) : T.m "clone" = none := by
  cases T <;> cases p <;> first | exact h.elim | exact h.1.cl
theorem s_clone (G : Gl w g0) : ∀ (d : Nat) {p : Plan} {T : Tr} {gs : List Heap} {cs : List (Addr × Cel)} {h : Heap} {t : Nat} {A : Around} {Q : Value → Shared → Prop}, p.ok d → T.Ok p → Kns gs cs T.cells →
    Kn g0 gs cs h → Rm A (30 * d + 30) → (∀ (t : Tr) h' t', t.Ok p → t.m "parent" = none → t.Calm → t.n ≤ 20 → Kn g0 gs (t.cells ++ cs) h' → Q (.ref t.x) (S r h' t')) →
    wpAny (model Pg w) A (call (.ref (cloneFn T)) [.ref T.x]) Q NoE (S r h t) := by
  intro d
  induction d using Nat.strongRecOn with
  | ind d ih =>
    intro p T gs cs h t A Q hp hT hc H R K
    by_cases hnd : p.isNode
    rotate_left
    · match p, hnd, hp, hT, K with
      | .leaf wd bl row, _, hp, hT, K =>
        have e : cloneFn T = 333 := by cases T <;> first | rfl | exact hT.elim
        rw [e]
        exact s_clone_leaf G hT hc H R.le K
      | .one .., hnd, _, _, _ => exact absurd trivial hnd
      | .two .., hnd, _, _, _ => exact absurd trivial hnd
    obtain ⟨d1, rfl, hk, hoks, hlen⟩ := hp.node hnd
    obtain ⟨la, N, hC, hn, hlm, hkok, hksub⟩ := hT.node hnd
    have e : cloneFn T = 197 := by cases T <;> first | rfl | (exact absurd hC (by show (374 : Addr) ≠ 294; decide))
    rw [e]
    have hI := hc.ins
    rw [hC] at hI
    have hob := hI.ob
    have hns := hI.ns
    have hch := N.chl
    have hl := hc.casts hlm
    obtain ⟨tk, hty⟩ := N.typ
    have hfx := N.fix
    refine enter G H (R.le (k := 30 * d1 + 60)) (n := 30 * d1 + 59) (binds := [(Str.ofString "self", .ref T.x)]) (by exact rfl) (by exact rfl) (by exact rfl) (fun s _ => BindsTo.of_eq (by exact rfl)) (by exact rfl) (by exact rfl) (by exact rfl) (by exact rfl) (by exact rfl) (by exact rfl) (by exact rfl) (by exact rfl) ?_
    intro L h₁ t₁ env A' e R H hs' hL
    dsimp only at e
    repeat walk_at "go"
    refine ⟨by exact rfl, ?_⟩
    repeat walk_at "go"
    refine callK G e (by assumption) (by exact rfl) (gl_Node w) (gl_Node_kp w) (by exact rfl) ?_
    repeat walk_at "go"
    refine lc e (by assumption) (by exact rfl) (by exact rfl) (by exact rfl) (by exact rfl) (by exact rfl) (fun _ => rfl) ?_
    repeat walk_at "go"
    refine itL (by assumption) (by walk_at "has") fun I h' H hs => ?_
    refine ⟨gs, _, h', _, rfl, H, fun A' h3 t3 Q E k q => itself_lit H (.head _) k q, ?_⟩
    intro acc C as env' h3 t3 has e' hs3 H
    match as, has with
    | [], _ =>
    have H := H.withBase
    refine comp_src (σ := List Tr) (csf := fun σ => kidCells σ ++ (L, .ns fun x => List.lookup x [(Str.ofString "self", Value.ref T.x)].reverse) :: cs)
        (J := fun i σ g ys => g0 = g ∧ ys = σ.map (fun t => Value.ref t.x) ∧ All2 (fun (t : Tr) q => t.Ok q ∧ t.m "parent" = none ∧ t.Calm ∧ t.n ≤ 20) σ (p.kids.take i)) (K := fun h => h.IsList la (T.kids.map fun t => Value.ref t.x).toArray)
        (src_list R.hd I la _) (by rw [sizeLine_eq]; simp; rw [hkok.len]; omega) (by exact rfl) (by exact rfl) (fun _ _ σ _ _ _ H => ?_) (fun _ _ _ _ _ _ _ _ q => go_name q) ?_ ?_
        _ 0 g0 [] [] _ h3 t3 rfl (Nat.zero_le _) ⟨rfl, rfl, trivial⟩ rfl H
    · exact Has.at (a := la) (c := .lst (T.kids.map fun t => Value.ref t.x).toArray) H (Has.consG (Has.cons (Has.cons (Has.cons (Has.app (Has.cons hl))))))
    · rintro i v g σ ys m h t hi hv ⟨rfl, rfl, hσ⟩ hlen' H
      obtain ⟨kid, hkd, rfl⟩ : ∃ kid, T.kids[i]? = some kid ∧ v = .ref kid.x := by
        have : (List.map (fun t => Value.ref t.x) T.kids)[i]? = some v := hv
        rw [List.getElem?_map] at this
        obtain ⟨a, b, c⟩ := Option.map_eq_some_iff.mp this
        exact ⟨a, b, c.symm⟩
      obtain ⟨q, hq, hqok, _⟩ := hkok.get' hkd
      have hqd := hoks q (List.mem_of_getElem? hq)
      have hkc : Kns gs cs kid.cells := hc.kid (hksub kid (List.mem_of_getElem? hkd))
      have hob2 := hkc.ins.ob
      have hns2 := hkc.ins.ns
      have okm := kid.me_clone w
      have okn := hqok.no_clone
      repeat walk_at "go"
      refine cw0 G (by assumption) (kid.kf_clone w) ?_
      refine ih d1 (by omega) hqd hqok (fun z hz => ?_) (by assumption) R.le fun t h' t' ht hp hcm hn H => ?_
      · exact Has.consG (Has.cons (Has.cons (Has.cons (Has.app (Has.cons (hkc z hz))))))
      have H2 := H.perm (perm_in (A := t.cells) (B := kidCells σ))
      rw [← kidCells_snoc] at H2
      refine ⟨g0, σ ++ [t], _, _, _, rfl, H2, rfl, by simp, ?_⟩
      obtain ⟨hi', he⟩ := List.getElem?_eq_some_iff.mp hq
      rw [List.take_succ_eq_append_getElem hi', he]
      exact hσ.snoc ⟨ht, hp, hcm, hn⟩
    · rintro g σ ys m h t ⟨rfl, rfl, hσ⟩ hlen' H
      have hσ : All2 (fun (t : Tr) q => t.Ok q ∧ t.m "parent" = none ∧ t.Calm ∧ t.n ≤ 20) σ p.kids := by rw [List.take_of_length_le (by simp [hkok.len])] at hσ; exact hσ
      refine ⟨⟨_, rfl⟩, _, _, _, _, _, rfl, H, fun h H => ?_⟩
      have H : Kn g0 (g0 :: gs) ((L, .ns fun x => List.lookup x [(Str.ofString "self", Value.ref T.x)].reverse) :: (acc, .lst (σ.map fun t => Value.ref t.x).toArray) :: (kidCells σ ++ cs)) h := H.perm ((List.Perm.swap _ _ _).trans (List.Perm.cons _ List.perm_middle.symm))
      repeat walk_at "go"
      refine kwAll_cons ?_
      repeat walk_at "go"
      refine kwAll_nil ?_
      refine ⟨Kn.base (by assumption), ?_⟩
      have H : Kn g0 (g0 :: gs) (kidCells σ ++ (acc, .lst (σ.map fun t => Value.ref t.x).toArray) :: (L, .ns fun x => List.lookup x [(Str.ofString "self", Value.ref T.x)].reverse) :: cs) h := H.perm ((List.perm_middle.trans (List.Perm.cons _ List.perm_middle)).trans (List.Perm.swap _ _ _))
      refine s_node G (kids := σ) (kw := [("fixers_applied", .none)]) R.le hk bind_node2 H (.inl (.head _)) (by rw [hσ.len]; omega) (fun t ht => ?_) ?_
      · obtain ⟨i, hi⟩ := List.getElem?_of_mem ht
        obtain ⟨q, _, hq⟩ := hσ.get' hi
        exact ⟨hq.2.1, by omega⟩
      intro x d mk md l' m n h' t' N hp hw hn H
      repeat walk_at "go"
      have hσ2 : All2 (fun (t : Tr) q => t.Ok q ∧ t.m "parent" = some (.ref x)) (σ.map (adopt x)) p.kids := by
        refine hσ.map_left fun t q z => ⟨z.1.put (.inl rfl) (by omega), ?_⟩
        unfold adopt Tr.setN
        rw [Tr.put_m]; exact putAt_self _ _ _
      obtain ⟨t, e1, e2, e3, e4, e5, e6⟩ := Tr.build (d := d) (mk := mk) (md := md) (l := l') (m := m) (n := n) hnd hσ2 N (by omega)
      have e0 : List.map (fun t => Value.ref t.x) (List.map (adopt x) σ) = List.map (fun t => Value.ref t.x) σ := by
        rw [List.map_map]; refine List.map_congr_left fun t _ => ?_
        show Value.ref (t.setN _ _).x = _
        unfold Tr.setN; rw [Tr.put_x]
      rw [e0] at e5
      subst e1 e2 e3
      refine K t _ _ e4 hp (e6 hw (by omega) fun k hk => ?_) hn ((H.gsub (fun x hx => .tail _ hx)).pick (e5.append (.drop (.drop .rfl))))
      obtain ⟨k0, hk0, rfl⟩ := List.mem_map.mp hk
      obtain ⟨i, hi⟩ := List.getElem?_of_mem hk0
      obtain ⟨q, _, hq⟩ := hσ.get' hi
      exact hq.2.2.1.put (by omega)
end
section
open MeetsSeq MeetsSeq2 MeetsSeq3 SeqRoads2
open AutoSeq1 (wpAny_loadPart')
/-- y and x compare as b at every state of I, and a state of I is left -/
def EqI (w : World) (I : Shared → Prop) (A : Around) (y x : Value) (b : Bool) : Prop :=
  ∀ (s : Shared) (E : Value → Shared → Prop) (Q : Bool → Shared → Prop), I s → (∀ s', I s' → Q b s') → wpAny (model Pg w) A (eqBool y x) Q E s
def RcI (w : World) (I : Shared → Prop) (A : Around) (y x : Value) (b : Bool) : Prop :=
  ∀ (s : Shared) (E : Value → Shared → Prop) (Q : Value → Shared → Prop), I s → (∀ s', I s' → Q (.bool b) s') → wpAny (model Pg w) A (richCompare .Eq y x) Q E s
/-- how a builtin's entry goes on -/
abbrev onward (w : World) (A : Around) (R : Result → Shared → Prop) : Fin → Shared → Prop := fun fin s' => match fin with | .done f => R (.ok f) s' | .again c' => c'.quiet = true ∧ codeAny (model Pg w) A c' R s'
variable {w : World} {I : Shared → Prop} {A : Around}
theorem EqI.ofAt {y x : Value} {b : Bool} (h : ∀ s, SeqAt.EqAt A s y x b) : EqI w I A y x b := fun s E Q i q => h s Pg w E Q (q s i)
theorem EqI.ofRefs {l b : Addr} {k : Bool} (hne : l ≠ b) (h : RcI w I A (.ref l) (.ref b) k) : EqI w I A (.ref l) (.ref b) k := fun s E Q i q => by
  unfold eqBool
  refine wpAny_holding ?_
  refine wpAny_ite_split (fun hab => absurd (by have := eq_of_beq hab; injection this) hne) (fun _ => ?_)
  exact wpAny_bind (h s E _ i fun s' i' => wpAny_truthy_bool (q s' i'))

theorem list_loopI {l b : Addr} {xs ys : Array Value} (hl : ∀ s, I s → s.heap.IsList l xs) (hb : ∀ s, I s → s.heap.IsList b ys) (hsz : xs.size = ys.size) (e : Nat → Bool)
    (he : ∀ j (h1 : j < xs.size) (h2 : j < ys.size), EqI w I A.in1 xs[j] ys[j] (e j)) (R : Result → Shared → Prop) : ∀ (k i : Nat), xs.size - i = k → ∀ s, I s →
      (∀ s', I s' → R (.ok (.ret (.bool (((List.range xs.size).drop i).all e)))) s') →
      wpAny (model Pg w) A.in1 (Builtin.«list.__eq__.loop» ⟨[.ref l, .ref b, rawInt i, rawInt 2], []⟩) (onward w A R) (fun x s' => R (.error x) s') s := by
  intro k
  induction k with
  | zero =>
    intro i hk s hi q
    have q := q s hi
    obtain ⟨⟨cls, dd, data, sl⟩, ho, hc, n, hd⟩ := hl s hi
    obtain ⟨⟨cls2, dd2, data2, sl2⟩, ho2, hc2, n2, hd2⟩ := hb s hi
    simp only at hc hd hc2 hd2
    subst hc hd hc2 hd2
    obtain ⟨hp, g, d, tk, os⟩ := s
    wp_walk using wpAny_loadPart' ho, wpAny_loadPart' ho2
    rw [show xs[((i : Nat) : Int).toNat]? = none by simp; omega, show ys[((i : Nat) : Int).toNat]? = none by simp; omega]
    rw [show (List.range xs.size).drop i = [] by simp; omega] at q
    wp_walk using wpAny_loadPart' ho, wpAny_loadPart' ho2
    show R (.ok (.ret (.bool (xs.size == ys.size)))) _
    rw [hsz]
    simpa using q
  | succ k ih =>
    intro i hk s hi q
    obtain ⟨⟨cls, dd, data, sl⟩, ho, hc, n, hd⟩ := hl s hi
    obtain ⟨⟨cls2, dd2, data2, sl2⟩, ho2, hc2, n2, hd2⟩ := hb s hi
    simp only at hc hd hc2 hd2
    subst hc hd hc2 hd2
    have h1 : i < xs.size := by omega
    have h2 : i < ys.size := by omega
    have hd : (List.range xs.size).drop i = i :: (List.range xs.size).drop (i + 1) := by simp [List.drop_eq_getElem_cons, h1]
    rw [hd] at q
    obtain ⟨hp, g, d, tk, os⟩ := s
    wp_walk using wpAny_loadPart' ho, wpAny_loadPart' ho2
    rw [show xs[((i : Nat) : Int).toNat]? = some xs[i] by simp [h1], show ys[((i : Nat) : Int).toNat]? = some ys[i] by simp [h2]]
    refine wpAny_bind (he i h1 h2 _ _ _ hi fun s' hi' => ?_)
    have q' := q s' hi'
    rw [List.all_cons] at q'
    cases hv : e i with
    | true =>
      obtain ⟨hp', g', d', tk', os'⟩ := s'
      wp_walk
      refine ⟨plainId_quiet plain_eq_loop _, codeAny_builtin entry_eq_loop ?_⟩
      rw [Around.under_plainId plain_eq_loop _, show ((i : Int) + 1) = ((i + 1 : Nat) : Int) by omega]
      refine ih (i + 1) (by omega) _ hi' fun s'' hi'' => ?_
      have := q s'' hi''
      rw [List.all_cons, hv] at this
      simpa using this
    | false =>
      rw [hv] at q'
      obtain ⟨⟨cls, dd, data, sl⟩, ho, hc, n, hd⟩ := hl s' hi'
      obtain ⟨⟨cls2, dd2, data2, sl2⟩, ho2, hc2, n2, hd2⟩ := hb s' hi'
      simp only at hc hd hc2 hd2
      subst hc hd hc2 hd2
      obtain ⟨hp', g', d', tk', os'⟩ := s'
      wp_walk using wpAny_loadPart' ho, wpAny_loadPart' ho2
      rw [show xs[((i : Nat) : Int).toNat]? = some xs[i] by simp [h1], show ys[((i : Nat) : Int).toNat]? = some ys[i] by simp [h2]]
      wp_walk
      simpa using q'

theorem RcI.lists {l b : Addr} {xs ys : Array Value} (hl : ∀ s, I s → s.heap.IsList l xs) (hb : ∀ s, I s → s.heap.IsList b ys) (hu : A.units < cLine) (hsz : xs.size = ys.size) (e : Nat → Bool)
    (he : ∀ j (h1 : j < xs.size) (h2 : j < ys.size), EqI w I A.in1 xs[j] ys[j] (e j)) : RcI w I A (.ref l) (.ref b) ((List.range xs.size).all e) := fun s E Q hi q => by
  have tl := (hl s hi).typeIs
  have tb := (hb s hi).typeIs
  refine wpAny_richCompare_same_room (op := .Eq) tl tb F.slot_list_eq (wpAny_call (codeAny_call_builtin F.slot_list_eq.plain F.entry_list_eq (F.slot_list_eq.check _ _ _ _ _ _ _ _ tl (F.args_list_eq_2 _ _) ?_))) hu
  have key := list_loopI hl hb hsz e he (wants (fun v s' => v ≠ .notImplemented ∧ Q v s') E) _ 0 rfl s hi (fun s' hi' => ⟨(fun x => nomatch x), q s' hi'⟩)
  obtain ⟨⟨cls, dd, data, sl⟩, ho, hc, n, hd⟩ := hl s hi
  obtain ⟨⟨cls2, dd2, data2, sl2⟩, ho2, hc2, n2, hd2⟩ := hb s hi
  simp only at hc hd hc2 hd2
  subst hc hd hc2 hd2
  obtain ⟨hp, g, d, tk, os⟩ := s
  have f3 := AutoSeq1.sub_list_list
  have hne : ¬ (xs.size != ys.size) = true := by simp [hsz]
  wp_walk using wpAny_loadPart' ho, wpAny_loadPart' ho2
  refine ⟨plainId_quiet plain_eq_loop _, codeAny_builtin entry_eq_loop ?_⟩
  rw [Around.under_plainId plain_eq_loop _]
  exact key

theorem RcI.lengths {l b : Addr} {xs ys : Array Value} (hl : ∀ s, I s → s.heap.IsList l xs) (hb : ∀ s, I s → s.heap.IsList b ys) (hu : A.units < cLine) (hsz : (xs.size != ys.size) = true) : RcI w I A (.ref l) (.ref b) false :=
  fun s E Q hi q => SeqAt.RcAt.lists_lengths (hl s hi) (hb s hi) hsz hu Pg w E Q (q s hi)

/-- two pairs -/
theorem RcI.pairs {l b : Addr} {x1 x2 y1 y2 : Value} {e1 e2 : Bool} (hl : ∀ s, I s → s.heap.IsTuple l #[x1, x2]) (hb : ∀ s, I s → s.heap.IsTuple b #[y1, y2]) (hu : A.units < cLine)
    (h1 : EqI w I A.in1 x1 y1 e1) (h2 : EqI w I A.in1 x2 y2 e2) : RcI w I A (.ref l) (.ref b) (e1 && e2) := fun s E Q hi q => by
  have tl := IsTup.typeIs (hl s hi)
  have tb := IsTup.typeIs (hb s hi)
  refine wpAny_richCompare_same_room (op := .Eq) tl tb F.slot_tuple_eq (wpAny_call (codeAny_call_builtin F.slot_tuple_eq.plain F.entry_tuple_eq (F.slot_tuple_eq.check _ _ _ _ _ _ _ _ tl (F.args_tuple_eq_2 _ _) ?_))) hu
  obtain ⟨⟨cls, dd, data, sl⟩, ho, hc, n, hd⟩ := hl s hi
  obtain ⟨⟨cls2, dd2, data2, sl2⟩, ho2, hc2, n2, hd2⟩ := hb s hi
  simp only at hc hd hc2 hd2
  subst hc hd hc2 hd2
  obtain ⟨hp, g, d, tk, os⟩ := s
  have f2 := AutoSeq1.sub_tuple_tuple
  have hz : (#[x1, x2].toList.zip #[y1, y2].toList) = [(x1, y1), (x2, y2)] := rfl
  wp_walk using wpAny_loadPart' ho, wpAny_loadPart' ho2, wpAny_forIn_list _ (fun rest b s' => b.1 = none ∧ I s' ∧ (rest = [(x1, y1), (x2, y2)] ∨ (rest = [(x2, y2)] ∧ e1 = true) ∨ (rest = [] ∧ e1 = true ∧ e2 = true))) _
  case turn =>
    rintro ⟨y, x⟩ rest b s' ⟨hb', hi', hz⟩
    rcases hz with hz | ⟨hz, rfl⟩ | ⟨hz, _⟩
    · injection hz with ha hr
      injection ha with ha1 ha2
      subst ha1 ha2 hr
      refine wpAny_bind (h1 _ _ _ hi' fun s'' hi'' => ?_)
      have := q s'' hi''
      obtain ⟨hp'', g'', d'', tk'', os''⟩ := s''
      cases e1 with
      | false =>
        wp_walk
        exact ⟨(fun x => nomatch x), this⟩
      | true =>
        wp_walk
        exact ⟨rfl, hi'', .inr (.inl ⟨rfl, rfl⟩)⟩
    · injection hz with ha hr
      injection ha with ha1 ha2
      subst ha1 ha2 hr
      refine wpAny_bind (h2 _ _ _ hi' fun s'' hi'' => ?_)
      have := q s'' hi''
      obtain ⟨hp'', g'', d'', tk'', os''⟩ := s''
      cases e2 with
      | false =>
        wp_walk
        exact ⟨(fun x => nomatch x), this⟩
      | true =>
        wp_walk
        exact ⟨rfl, hi'', .inr (.inr ⟨rfl, rfl, rfl⟩)⟩
    · cases hz
  case fin =>
    rintro ⟨b1, b2⟩ s' ⟨hb', hi', hz⟩
    simp only at hb'
    subst hb'
    rcases hz with hz | ⟨hz, _⟩ | ⟨_, rfl, rfl⟩
    · cases hz
    · cases hz
    have := q s' hi'
    obtain ⟨hp'', g'', d'', tk'', os''⟩ := s'
    wp_walk
    exact ⟨(fun x => nomatch x), this⟩
  case h =>
    exact ⟨rfl, hi, .inl rfl⟩
end
/-- how two kinds of instances stand to each other -/
structure CmpOk (w : World) (C : Addr) : Prop where
  eq : findIn (KK w) (.ref C) "__eq__" = some (some (.ref 56))
  ne : findIn (KK w) (.ref C) "__ne__" = some (some (.builtin "object.__ne__"))
  pg : plainGet (KK w) C "__class__" = true
  hd : hasDictIn (KK w) C = true
  at_ : findIn (KK w) (.ref C) "__class__" = some (some (.builtin "object.__class__"))
  mro : mroIn (KK w) C (.type "object") = some true
  mks : makesIn (KK w) C = true
  ob : ∃ od cd sl, (KK w).lookup C = some ⟨.type "type", od, .cls cd, sl⟩
theorem fn_56 (w : World) : isFn (KK w) (.ref 56) = true := by kernel_rfl
theorem sp_class (w : World) : specialIn (KK w) (.builtin "object.__class__") "__get__" = some (some (.builtin "getset_descriptor.__get__")) := by kernel_rfl
theorem tk_class (w : World) : takesIn (KK w) (.builtin "object.__class__") = some true := by kernel_rfl
theorem cmp_Node (w : World) : CmpOk w 294 := ⟨by kernel_rfl, by kernel_rfl, by kernel_rfl, by kernel_rfl, by kernel_rfl, by kernel_rfl, by kernel_rfl, _, _, _, by exact rfl⟩
theorem cmp_Leaf (w : World) : CmpOk w 374 := ⟨by kernel_rfl, by kernel_rfl, by kernel_rfl, by kernel_rfl, by kernel_rfl, by kernel_rfl, by kernel_rfl, _, _, _, by exact rfl⟩
theorem sub_NL (w : World) : subIn (KK w) (.ref 294) (.ref 374) = some false := by kernel_rfl
theorem sub_LN (w : World) : subIn (KK w) (.ref 374) (.ref 294) = some false := by kernel_rfl
theorem Tr.cmp (w : World) (T : Tr) : CmpOk w T.C := by cases T; exact cmp_Leaf w; exact cmp_Node w; exact cmp_Node w
theorem Tr.sub (w : World) (T U : Tr) (h : T.C ≠ U.C) : subIn (KK w) (.ref T.C) (.ref U.C) = some false := by
  cases T <;> cases U <;> first | exact absurd rfl h | exact sub_NL w | exact sub_LN w
section
variable {w : World} {g0 h : Heap} {gs : List Heap} {cs : List (Addr × Cel)} {r : Shared} {t n n' : Nat} {A : Around} {E : Value → Shared → Prop} {x y C D d d' : Addr} {m m' : Str → Option Value}
theorem a_class {expr : Bool} {Q : Value → Shared → Prop} (G : Gl w g0) (H : Kn g0 gs cs h) (I : Ins gs cs x C d m n) (ok : CmpOk w C) (k : ∀ t', Q (.ref C) (S r h t')) :
    wpAny (model Pg w) A (getAttr (.ref x) "__class__" expr) Q E (S r h t) := by
  obtain ⟨o, I', _⟩ := I.inst H
  have X := (G.of H).K
  refine get_bind (s := S r h t) X I' (plainGet_of ok.pg).1 (findObj_data (by obtain ⟨cd, hc, _⟩ := any_some ok.hd; rw [hc]; rfl) ok.at_ (sp_class w) (tk_class w)) (plainGet_of ok.pg).2
    (wpAny_call (class_get (s := S r h (t + 1)) X I' ok.mro (handed_on rfl (k _))))
theorem isnot_same {Q : Value → Shared → Prop} {s : Shared} (k : Q (.bool false) s) : wpAny (model Pg w) A (compareOp .IsNot (.ref C) (.ref C)) Q E s := by
  show wpAny _ _ (do return .bool (!(← isSame (.ref C) (.ref C)))) Q E s
  exact wpAny_bind (wpAny_isSame_ref_self (wpAny_pure k))
theorem isnot_cls {Q : Value → Shared → Prop} (G : Gl w g0) (H : Kn g0 gs cs h) (c1 : CmpOk w C) (c2 : CmpOk w D) (hne : C ≠ D) (k : Q (.bool true) (S r h t)) : wpAny (model Pg w) A (compareOp .IsNot (.ref C) (.ref D)) Q E (S r h t) := by
  obtain ⟨od, cd, sl, e1⟩ := c1.ob
  obtain ⟨od2, cd2, sl2, e2⟩ := c2.ob
  have X := (G.of H).K
  show wpAny _ _ (do return .bool (!(← isSame (.ref C) (.ref D)))) Q E _
  exact wpAny_bind (wpAny_isSame_ref_other (s := S r h t) hne (X _ _ e1) (X _ _ e2) (fun q => by injection q with q; exact absurd q (by decide)) (wpAny_pure k))
/-- the answer of __eq__ -/
def EqAns (Q : Option Value → Shared → Prop) (v : Value) (s' : Shared) : Prop := match v with
  | .notImplemented => Q none s'
  | v => Q (some v) s'
theorem try_eq {b : Value} {Q : Option Value → Shared → Prop} (G : Gl w g0) (H : Kn g0 gs cs h) (I : Ins gs cs x C d m n) (ok : CmpOk w C)
    (k : wpAny (model Pg w) A (call (.ref 56) [.ref x, b]) (EqAns Q) E (S r h t)) : wpAny (model Pg w) A (tryCompare (.ref x) "__eq__" b) Q E (S r h t) := by
  obtain ⟨o, I', _⟩ := I.inst H
  unfold tryCompare
  refine wpAny_bind (ifBound_K (s := S r h t) (G.of H).K I' ok.eq (fn_56 w) (wpAny_mono k (fun v s' hv => ?_) fun _ _ e => e))
  cases v <;> exact wpAny_pure hv
/-- the question of the subclass -/
theorem right_first {α : Type} {kont : Bool → Sem α} {Q : α → Shared → Prop} (G : Gl w g0) (H : Kn g0 gs cs h) (hs : C ≠ D → subIn (KK w) (.ref D) (.ref C) = some false)
    (k : wpAny (model Pg w) A (kont false) Q E (S r h t)) : wpAny (model Pg w) A (if Value.ref C != Value.ref D then isSubtype (.ref D) (.ref C) >>= kont else pure false >>= kont) Q E (S r h t) := by
  by_cases q : C = D
  · subst q
    rw [if_neg (by simp)]
    exact wpAny_bind (wpAny_pure k)
  · rw [if_pos (by simp [q])]
    exact wpAny_bind ((looks_subIn (G.of H).K (hs q)).here k)
theorem cmpE : cmpInfo .Eq = (("==", "__eq__", "__eq__") : String × Str × Str) := rfl
theorem cmpN : cmpInfo .NotEq = (("!=", "__ne__", "__ne__") : String × Str × Str) := rfl
/-- == of instances of one kind -/
theorem rc_same {Q : Value → Shared → Prop} (G : Gl w g0) (H : Kn g0 gs cs h) (I : Ins gs cs x C d m n) (J : Ins gs cs y C d' m' n') (ok : CmpOk w C) (hu : A.units < cLine)
    (k : wpAny (model Pg w) A (call (.ref 56) [.ref x, .ref y]) (fun v s' => ∃ b, v = .bool b ∧ Q (.bool b) s') E (S r h t)) : wpAny (model Pg w) A (richCompare .Eq (.ref x) (.ref y)) Q E (S r h t) := by
  obtain ⟨o, I', _⟩ := I.inst H
  obtain ⟨o2, J', _⟩ := J.inst H
  unfold richCompare
  simp only [oneThing_ref]
  refine wpAny_holding (wpAny_bind (wpAny_cRoomFor hu ?_))
  rw [cmpE]
  dsimp only
  refine wpAny_bind (I'.type.here (wpAny_bind (J'.type.here (right_first G H (fun q => absurd rfl q) ?_))))
  simp only [Bool.false_eq_true, if_false]
  refine wpAny_bind (try_eq G H I ok (wpAny_mono k (fun v s' hv => ?_) fun _ _ e => e))
  obtain ⟨b, rfl, hv⟩ := hv
  exact wpAny_pure hv
/-- == of instances of two kinds -/
theorem rc_other {Q : Value → Shared → Prop} (G : Gl w g0) (H : Kn g0 gs cs h) (I : Ins gs cs x C d m n) (J : Ins gs cs y D d' m' n') (ok : CmpOk w C) (ok2 : CmpOk w D) (hne : C ≠ D) (hs : subIn (KK w) (.ref D) (.ref C) = some false) (hu : A.units < cLine)
    (k1 : ∀ (Q : Value → Shared → Prop) h t, Kn g0 gs cs h → (∀ h' t', Kn g0 gs cs h' → Q .notImplemented (S r h' t')) → wpAny (model Pg w) A (call (.ref 56) [.ref x, .ref y]) Q E (S r h t))
    (k2 : ∀ (Q : Value → Shared → Prop) h t, Kn g0 gs cs h → (∀ h' t', Kn g0 gs cs h' → Q .notImplemented (S r h' t')) → wpAny (model Pg w) A (call (.ref 56) [.ref y, .ref x]) Q E (S r h t))
    (k : ∀ h' t', Kn g0 gs cs h' → Q (.bool false) (S r h' t')) : wpAny (model Pg w) A (richCompare .Eq (.ref x) (.ref y)) Q E (S r h t) := by
  obtain ⟨o, I', _⟩ := I.inst H
  obtain ⟨o2, J', _⟩ := J.inst H
  unfold richCompare
  simp only [oneThing_ref]
  refine wpAny_holding (wpAny_bind (wpAny_cRoomFor hu ?_))
  rw [cmpE]
  dsimp only
  refine wpAny_bind (I'.type.here (wpAny_bind (J'.type.here (right_first G H (fun _ => hs) ?_))))
  simp only [Bool.false_eq_true, if_false]
  refine wpAny_bind (try_eq G H I ok (k1 _ _ _ H fun h1 t1 H1 => ?_))
  show wpAny _ _ _ _ _ _
  dsimp only
  simp only [Bool.not_false, if_true]
  refine wpAny_bind (try_eq G H1 J ok2 (k2 _ _ _ H1 fun h2 t2 H2 => ?_))
  show wpAny _ _ _ _ _ _
  dsimp only
  have hxy : x ≠ y := by
    rintro rfl
    have e1 := I.ob.at H
    have e2 := J.ob.at H
    have e : some (instObj C d) = some (instObj D d') := e1.symm.trans e2
    injection e with e
    have : (instObj C d).cls = (instObj D d').cls := by rw [e]
    injection this with this
    exact hne this
  refine wpAny_bind (wpAny_rule (wpAny_bind (wpAny_isSame_ref_other (s := S r h2 t2) hxy (I.ob.at H2) (J.ob.at H2) (fun q => by cases q) (wpAny_pure (k h2 t2 H2)))))

theorem ne_kind : builtinKind "object.__ne__" = some .slot := F.cmpKind_ne
/-- != of instances, by way of object.__ne__ -/
theorem try_ne {b : Value} {Q : Option Value → Shared → Prop} (G : Gl w g0) (H : Kn g0 gs cs h) (I : Ins gs cs x C d m n) (ok : CmpOk w C) (hu : A.units + 1 < cLine)
    (k : wpAny (model Pg w) A.in1 (call (.ref 56) [.ref x, b]) (fun v s' => match v with | .bool c => Q (some (.bool (!c))) s' | .notImplemented => Q none s' | _ => False) E (S r h t)) : wpAny (model Pg w) A (tryCompare (.ref x) "__ne__" b) Q E (S r h t) := by
  obtain ⟨o, I', _⟩ := I.inst H
  have X := (G.of H).K
  have Y := makes_of (M := model Pg w) X ok.mks
  unfold tryCompare
  refine wpAny_bind ?_
  have tx : Looks (model Pg w) h (isInstance (.ref x) (.type "object")) true := I'.type.andThen Y.top
  simp only [callSpecialIfBound?, bindSpecialIfBound?]
  refine wpAny_holding (wpAny_bind (wpAny_bind (wpAny_bind (I'.type.here ((looks_findIn X ok.ne).here ?_)))))
  simp only [F.cmp_object.ne.bind]
  have inner : wpAny (model Pg w) A (call (.builtin "object.__ne__") [.ref x, b]) (fun v s' => wpAny (model Pg w) A (match some v with | some .notImplemented | none => pure none | some v => pure (some v)) Q E s') E (S r h t) := by
    refine wpAny_call (codeAny_call_builtin F.cmp_object.ne.plain F.cmpEntry_ne (@check_slot (model Pg w) _ _ _ "object.__ne__" "object" "__ne__" (.ref x) [b] [] _ F.cmpKind_ne F.cmpSplit_ne tx (F.cmpArgs_ne _ _) ?_))
    unfold Builtin.«object.__ne__»
    repeat (first
      | with_reducible refine wpAny_cRoomFor (by show A.units + 1 < cLine; exact hu) ?_
      | refine wpAny_bind (m := callSpecialIfBound? (.ref x) (Str.ofString "__eq__") [b]) (ifBound_K (s := S r h t) X I' ok.eq (fn_56 w) (wpAny_mono k (fun v s' hv => ?_) fun _ _ e => e))
      | wp_step)
    rcases v with _ | _ | _ | _ | _ | _ | _ | _ | _ <;> first | exact hv.elim | skip
    · exact wpAny_pure (wpAny_pure hv)
    · exact wpAny_bind (wpAny_truthy_bool (wpAny_pure (wpAny_pure hv)))
  refine wpAny_bind (wpAny_askSetting (wpAny_ite ?_))
  have fin : wpAny (model Pg w) A (call (.builtin "object.__ne__") ([.ref x] ++ [b]) >>= fun v => pure (some v)) (fun v s' => wpAny (model Pg w) A (match v with | some .notImplemented | none => pure none | some v => pure (some v)) Q E s') E (S r h t) :=
    wpAny_bind (wpAny_mono inner (fun v s' h' => wpAny_pure h') fun _ _ h' => h')
  split
  · exact wpAny_bind (wpAny_pure (wpAny_pure fin))
  · exact wpAny_tryCatch (wpAny_bind (wpAny_pure (wpAny_pure fin)))
theorem rn_same {Q : Value → Shared → Prop} (G : Gl w g0) (H : Kn g0 gs cs h) (I : Ins gs cs x C d m n) (J : Ins gs cs y C d' m' n') (ok : CmpOk w C) (hu : A.units + 1 < cLine)
    (k : wpAny (model Pg w) A.in1 (call (.ref 56) [.ref x, .ref y]) (fun v s' => ∃ b, v = .bool b ∧ Q (.bool (!b)) s') E (S r h t)) : wpAny (model Pg w) A (richCompare .NotEq (.ref x) (.ref y)) Q E (S r h t) := by
  obtain ⟨o, I', _⟩ := I.inst H
  obtain ⟨o2, J', _⟩ := J.inst H
  unfold richCompare
  simp only [oneThing_ref]
  refine wpAny_holding (wpAny_bind (wpAny_cRoomFor (Nat.lt_of_succ_lt hu) ?_))
  rw [cmpN]
  dsimp only
  refine wpAny_bind (I'.type.here (wpAny_bind (J'.type.here (right_first G H (fun q => absurd rfl q) ?_))))
  simp only [Bool.false_eq_true, if_false]
  refine wpAny_bind (try_ne G H I ok hu (wpAny_mono k (fun v s' hv => ?_) fun _ _ e => e))
  obtain ⟨b, rfl, hv⟩ := hv
  exact wpAny_pure hv
theorem rn_other {Q : Value → Shared → Prop} (G : Gl w g0) (H : Kn g0 gs cs h) (I : Ins gs cs x C d m n) (J : Ins gs cs y D d' m' n') (ok : CmpOk w C) (ok2 : CmpOk w D) (hne : C ≠ D) (hs : subIn (KK w) (.ref D) (.ref C) = some false) (hu : A.units + 1 < cLine)
    (k1 : ∀ (Q : Value → Shared → Prop) h t, Kn g0 gs cs h → (∀ h' t', Kn g0 gs cs h' → Q .notImplemented (S r h' t')) → wpAny (model Pg w) A.in1 (call (.ref 56) [.ref x, .ref y]) Q E (S r h t))
    (k2 : ∀ (Q : Value → Shared → Prop) h t, Kn g0 gs cs h → (∀ h' t', Kn g0 gs cs h' → Q .notImplemented (S r h' t')) → wpAny (model Pg w) A.in1 (call (.ref 56) [.ref y, .ref x]) Q E (S r h t))
    (k : ∀ h' t', Kn g0 gs cs h' → Q (.bool true) (S r h' t')) : wpAny (model Pg w) A (richCompare .NotEq (.ref x) (.ref y)) Q E (S r h t) := by
  obtain ⟨o, I', _⟩ := I.inst H
  obtain ⟨o2, J', _⟩ := J.inst H
  unfold richCompare
  simp only [oneThing_ref]
  refine wpAny_holding (wpAny_bind (wpAny_cRoomFor (Nat.lt_of_succ_lt hu) ?_))
  rw [cmpN]
  dsimp only
  refine wpAny_bind (I'.type.here (wpAny_bind (J'.type.here (right_first G H (fun _ => hs) ?_))))
  simp only [Bool.false_eq_true, if_false]
  refine wpAny_bind (try_ne G H I ok hu (k1 _ _ _ H fun h1 t1 H1 => ?_))
  dsimp only
  simp only [Bool.not_false, if_true]
  refine wpAny_bind (try_ne G H1 J ok2 hu (k2 _ _ _ H1 fun h2 t2 H2 => ?_))
  dsimp only
  have hxy : x ≠ y := by
    rintro rfl
    have e1 := I.ob.at H
    have e2 := J.ob.at H
    have e : some (instObj C d) = some (instObj D d') := e1.symm.trans e2
    injection e with e
    have : (instObj C d).cls = (instObj D d').cls := by rw [e]
    injection this with this
    exact hne this
  refine wpAny_bind (wpAny_rule (wpAny_bind (wpAny_isSame_ref_other (s := S r h2 t2) hxy (I.ob.at H2) (J.ob.at H2) (fun q => by cases q) (wpAny_pure (k h2 t2 H2)))))
end
/-- kinds and words agree -/
def Plan.same : Plan → Plan → Bool
  | .leaf wd _ _, .leaf wd' _ _ => wd == wd'
  | .one k p, .one k' p' => k == k' && p.same p'
  | .two k p q, .two k' p' q' => k == k' && (p.same p' && q.same q')
  | _, _ => false
theorem ns_same {h : Heap} {d : Addr} {m m' : Str → Option Value} {n n' : Nat} (a : NsAt h d m n) (b : NsAt h d m' n') : m = m' := by
  obtain ⟨o, es, ep, ho, hd, _, hm, _⟩ := a
  obtain ⟨o', es', ep', ho', hd', _, hm', _⟩ := b
  rw [ho] at ho'; cases ho'
  rw [hd] at hd'; cases hd'
  funext x
  rw [← hm x, ← hm' x]
theorem lst_same {h : Heap} {l : Addr} {xs ys : Array Value} (a : h.IsList l xs) (b : h.IsList l ys) : xs = ys := by
  obtain ⟨o, ho, _, n, hd⟩ := a
  obtain ⟨o', ho', _, n', hd'⟩ := b
  rw [ho] at ho'; cases ho'
  rw [hd] at hd'; cases hd'; rfl
theorem inst_same {h : Heap} {x C C' d d' : Addr} (a : h.get? x = some (instObj C d)) (b : h.get? x = some (instObj C' d')) : C = C' ∧ d = d' := by
  rw [a] at b
  injection b with b
  have h1 : (instObj C d).cls = (instObj C' d').cls := by rw [b]
  have h2 : (instObj C d).dict = (instObj C' d').dict := by rw [b]
  injection h1 with h1
  injection h2 with h2
  exact ⟨h1, h2⟩
/-- a tree is known by its address -/
theorem det {g0 h : Heap} {gs : List Heap} {cs : List (Addr × Cel)} (H : Kn g0 gs cs h) : ∀ {T U : Tr} {p q : Plan}, T.Ok p → U.Ok q → Kns gs cs T.cells → Kns gs cs U.cells → T.x = U.x → p.same q = true := by
  intro T
  have root : ∀ {T U : Tr}, Kns gs cs T.cells → Kns gs cs U.cells → T.x = U.x → T.C = U.C ∧ T.m = U.m := fun {T U} a b e => by
    have h1 := a.ins.ob.at H
    have h2 := b.ins.ob.at H
    rw [e] at h1
    obtain ⟨e1, e2⟩ := inst_same h1 h2
    have h3 := a.ins.ns.at H
    have h4 := b.ins.ns.at H
    rw [e2] at h3
    exact ⟨e1, ns_same h3 h4⟩
  have kidsOf : ∀ {T U : Tr} {p q : Plan}, T.Ok p → U.Ok q → Kns gs cs T.cells → Kns gs cs U.cells → T.x = U.x → (T.kids.map fun t => Value.ref t.x) = (U.kids.map fun t => Value.ref t.x) := fun {T U p q} a b c d e => by
    obtain ⟨_, em⟩ := root c d e
    obtain ⟨l, h1, h2, _⟩ := a.children
    obtain ⟨l', h3, h4, _⟩ := b.children
    rw [em, h3] at h1
    cases h1
    have := lst_same ((c.casts h2).at H) ((d.casts h4).at H)
    simpa using this
  induction T with
  | leaf x d mk md fa ch m n =>
    intro U p q hT hU hc hd e
    obtain ⟨eC, em⟩ := root hc hd e
    have ek := kidsOf hT hU hc hd e
    cases U <;> first | (exact absurd eC (by show (374 : Addr) ≠ 294; decide)) | skip
    cases p <;> cases q <;> first | exact hT.elim | exact hU.elim | skip
    obtain ⟨t1, h1⟩ := hT.1.val
    obtain ⟨t2, h2⟩ := hU.1.val
    have em : m = _ := em
    subst em
    rw [h1] at h2
    cases h2
    exact beq_self_eq_true _
  | one x d mk md l m n c ih =>
    intro U p q hT hU hc hd e
    obtain ⟨eC, em⟩ := root hc hd e
    have ek := kidsOf hT hU hc hd e
    cases U <;> first | (exact absurd eC (by show (294 : Addr) ≠ 374; decide)) | (exact absurd (congrArg List.length ek) (fun q : (1 : Nat) = 2 => nomatch q)) | skip
    rename_i x' d' mk' md' l' m' n' c'
    cases p <;> cases q <;> first | exact hT.elim | exact hU.elim | skip
    obtain ⟨t1, h1⟩ := hT.1.typ
    obtain ⟨t2, h2⟩ := hU.1.typ
    have em : m = m' := em
    subst em
    rw [h1] at h2
    cases h2
    have e2 : c.x = c'.x := by
      have : [Value.ref c.x] = [Value.ref c'.x] := ek
      injection this with this
      injection this
    have := ih hT.2.2.2 hU.2.2.2 (hc.kid fun z hz => .tail _ (.tail _ (.tail _ (.tail _ (.tail _ hz))))) (hd.kid fun z hz => .tail _ (.tail _ (.tail _ (.tail _ (.tail _ hz))))) e2
    show (_ == _ && _) = true
    rw [this, beq_self_eq_true]; rfl
  | two x d mk md l m n c f ih ih2 =>
    intro U p q hT hU hc hd e
    obtain ⟨eC, em⟩ := root hc hd e
    have ek := kidsOf hT hU hc hd e
    cases U <;> first | (exact absurd eC (by show (294 : Addr) ≠ 374; decide)) | (exact absurd (congrArg List.length ek) (fun q : (2 : Nat) = 1 => nomatch q)) | skip
    rename_i x' d' mk' md' l' m' n' c' f'
    cases p <;> cases q <;> first | exact hT.elim | exact hU.elim | skip
    obtain ⟨t1, h1⟩ := hT.1.typ
    obtain ⟨t2, h2⟩ := hU.1.typ
    have em : m = m' := em
    subst em
    rw [h1] at h2
    cases h2
    obtain ⟨e2, e3⟩ : c.x = c'.x ∧ f.x = f'.x := by
      have : [Value.ref c.x, Value.ref f.x] = [Value.ref c'.x, Value.ref f'.x] := ek
      injection this with a b
      injection b with b _
      exact ⟨by injection a, by injection b⟩
    have k1 : ∀ {c f : Tr} {x d mk md l : Addr} {m n}, ∀ z ∈ c.cells, z ∈ (Tr.two x d mk md l m n c f).cells := fun z hz => .tail _ (.tail _ (.tail _ (.tail _ (.tail _ (List.mem_append_left _ hz)))))
    have k2 : ∀ {c f : Tr} {x d mk md l : Addr} {m n}, ∀ z ∈ f.cells, z ∈ (Tr.two x d mk md l m n c f).cells := fun {c f x d mk md l m n} z hz => .tail _ (.tail _ (.tail _ (.tail _ (.tail _ (List.mem_append_right c.cells hz)))))
    have i1 := ih hT.2.2.2.2.1 hU.2.2.2.2.1 (hc.kid k1) (hd.kid k1) e2
    have i2 := ih2 hT.2.2.2.2.2 hU.2.2.2.2.2 (hc.kid k2) (hd.kid k2) e3
    show (_ == _ && (_ && _)) = true
    rw [i1, i2, beq_self_eq_true]; rfl
def eqFn : Tr → Addr | .leaf .. => 326 | _ => 192
theorem Tr.me_eq (w : World) (T : Tr) : MethOk w T.C "_eq" (eqFn T) := by cases T; exact me_Leaf__eq w; exact me_Node__eq w; exact me_Node__eq w
theorem Tr.kf_eq (w : World) (T : Tr) : keepIn (KK w) (.ref (eqFn T)) = true := by cases T; exact kf_326 w; exact kf_192 w; exact kf_192 w
theorem Tr.Ok.no_eq {T : Tr} {p : Plan} (h : T.Ok p) : T.m "_eq" = none := by
  cases T <;> cases p <;> first | exact h.elim | exact h.1.eq
section
variable {w : World} {g0 g : Heap} {r : Shared}
/-- Base.__eq__, its first question -/
theorem s_beq0 (G : Gl w g0) {T U : Tr} {gs : List Heap} {cs : List (Addr × Cel)} {h : Heap} {t : Nat} {A : Around} {Q : Value → Shared → Prop} {n : Nat} (hT : T.m "_eq" = none) (hc : Kns gs cs T.cells) (hd : Kns gs cs U.cells) (H : Kn g0 gs cs h) (R : Rm A (n + 1))
    (k1 : T.C ≠ U.C → ∀ h' t', Kn g0 gs cs h' → Q .notImplemented (S r h' t'))
    (k2 : T.C = U.C → ∀ A' h' t' (Q' : Value → Shared → Prop), Rm A' n → Kn g0 gs cs h' → (∀ b h' t', Kn g0 gs cs h' → Q b (S r h' t') → Q' b (S r h' t')) → wpAny (model Pg w) A' (call (.ref (eqFn T)) [.ref T.x, .ref U.x]) Q' NoE (S r h' t')) :
    wpAny (model Pg w) A (call (.ref 56) [.ref T.x, .ref U.x]) Q NoE (S r h t) := by
  have hob := hc.ins.ob
  have hns := hc.ins.ns
  have hob2 := hd.ins.ob
  have hns2 := hd.ins.ns
  refine enter G H R (n := n) (binds := [(Str.ofString "self", .ref T.x), (Str.ofString "other", .ref U.x)]) (by exact rfl) (by exact rfl) (by exact rfl) (fun s _ => BindsTo.of_eq (by exact rfl)) (by exact rfl) (by exact rfl) (by exact rfl) (by exact rfl) (by exact rfl) (by exact rfl) (by exact rfl) (by exact rfl) ?_
  intro L h₁ t₁ env A' e R H hs' hL
  dsimp only at e
  repeat walk_at "go"
  refine a_class G H ⟨by walk_at "has", by walk_at "has"⟩ (T.cmp w) fun t' => ?_
  repeat walk_at "go"
  refine a_class G H ⟨by walk_at "has", by walk_at "has"⟩ (U.cmp w) fun t' => ?_
  by_cases q : T.C = U.C
  · rw [← q]
    refine isnot_same ?_
    have okm := T.me_eq w
    repeat walk_at "go"
    refine ⟨fun q => (by cases q), fun _ => ?_⟩
    repeat walk_at "go"
    refine cw G (T.kf_eq w) ?_
    repeat walk_at "go"
    refine k2 q A' _ _ _ R H.drop fun b h' t' H' z => ?_
    repeat walk_at "go"
    exact z
  · refine isnot_cls G H (T.cmp w) (U.cmp w) q ?_
    repeat walk_at "go"
    refine ⟨fun _ => ?_, fun q => (by cases q)⟩
    repeat walk_at "go"
    refine n_blt G e H (by exact rfl) (no_NI w) blt_NI ?_
    repeat walk_at "go"
    exact k1 q _ _ H.drop
theorem s_bne (G : Gl w g0) {T U : Tr} {p : Plan} {gs : List Heap} {cs : List (Addr × Cel)} {h : Heap} {t : Nat} {A : Around} {Q : Value → Shared → Prop} (hT : T.Ok p) (hc : Kns gs cs T.cells) (hd : Kns gs cs U.cells) (q : T.C ≠ U.C) (H : Kn g0 gs cs h) (R : Rm A 2)
    (k : ∀ h' t', Kn g0 gs cs h' → Q .notImplemented (S r h' t')) : wpAny (model Pg w) A (call (.ref 56) [.ref T.x, .ref U.x]) Q NoE (S r h t) :=
  s_beq0 G hT.no_eq hc hd H R (fun _ => k) fun e => absurd e q

/-- the states at hand -/
abbrev Inv (r : Shared) (g0 : Heap) (gs : List Heap) (cs : List (Addr × Cel)) (s : Shared) : Prop := ∃ h t, s = S r h t ∧ Kn g0 gs cs h

theorem Plan.same_C {T U : Tr} {p q : Plan} (h1 : T.Ok p) (h2 : U.Ok q) (e : T.C ≠ U.C) : p.same q = false := by
  cases T <;> cases p <;> first | exact h1.elim | (cases U <;> cases q <;> first | exact h2.elim | exact absurd rfl e | rfl)
/-- == of two trees, by the call of __eq__ for one kind -/
theorem rc_tree (G : Gl w g0) {T U : Tr} {p q : Plan} {gs : List Heap} {cs : List (Addr × Cel)} {A : Around} {n : Nat} (hT : T.Ok p) (hU : U.Ok q) (hc : Kns gs cs T.cells) (hd : Kns gs cs U.cells) (R : Rm A (n + 2))
    (ih : T.C = U.C → ∀ (Q : Value → Shared → Prop) h t, Kn g0 gs cs h → (∀ h' t', Kn g0 gs cs h' → Q (.bool (p.same q)) (S r h' t')) → wpAny (model Pg w) A (call (.ref 56) [.ref T.x, .ref U.x]) Q NoE (S r h t)) :
    RcI w (Inv r g0 gs cs) A (.ref T.x) (.ref U.x) (p.same q) := by
  rintro s E Q ⟨h, t, rfl, H⟩ k
  have k : ∀ h' t', Kn g0 gs cs h' → Q (.bool (p.same q)) (S r h' t') := fun h' t' H' => k _ ⟨h', t', rfl, H'⟩
  refine wpAny_mono (E := NoE) ?_ (fun _ _ q => q) (fun _ _ q => q.elim)
  by_cases e : T.C = U.C
  · have hd' := hd.ins
    rw [← e] at hd'
    exact rc_same G H hc.ins hd' (T.cmp w) R.units (ih e _ h t H fun h' t' H' => ⟨_, rfl, k h' t' H'⟩)
  · rw [Plan.same_C hT hU e] at k
    exact rc_other G H hc.ins hd.ins (T.cmp w) (U.cmp w) e (Tr.sub w U T (fun z => e z.symm)) R.units (fun Q h t H k => s_bne G hT hc hd e H R.le k) (fun Q h t H k => s_bne G hU hd hc (fun z => e z.symm) H R.le k) k
theorem rn_tree (G : Gl w g0) {T U : Tr} {p q : Plan} {gs : List Heap} {cs : List (Addr × Cel)} {A : Around} {n : Nat} {h : Heap} {t : Nat} {Q : Value → Shared → Prop} (hT : T.Ok p) (hU : U.Ok q) (hc : Kns gs cs T.cells) (hd : Kns gs cs U.cells) (H : Kn g0 gs cs h) (R : Rm A (n + 3))
    (ih : T.C = U.C → ∀ (Q : Value → Shared → Prop) h t, Kn g0 gs cs h → (∀ h' t', Kn g0 gs cs h' → Q (.bool (p.same q)) (S r h' t')) → wpAny (model Pg w) A.in1 (call (.ref 56) [.ref T.x, .ref U.x]) Q NoE (S r h t))
    (k : ∀ h' t', Kn g0 gs cs h' → Q (.bool (!(p.same q))) (S r h' t')) : wpAny (model Pg w) A (richCompare .NotEq (.ref T.x) (.ref U.x)) Q NoE (S r h t) := by
  have hu : A.units + 1 < cLine := R.in1.units
  by_cases e : T.C = U.C
  · have hd' := hd.ins
    rw [← e] at hd'
    exact rn_same G H hc.ins hd' (T.cmp w) hu (ih e _ h t H fun h' t' H' => ⟨_, rfl, k h' t' H'⟩)
  · rw [Plan.same_C hT hU e] at k
    exact rn_other G H hc.ins hd.ins (T.cmp w) (U.cmp w) e (Tr.sub w U T (fun z => e z.symm)) hu (fun Q h t H k => s_bne G hT hc hd e H R.in1.le k) (fun Q h t H k => s_bne G hU hd hc (fun z => e z.symm) H R.in1.le k) k

theorem s_beq_leaf (G : Gl w g0) {T U : Tr} {wd bl wd' bl' : Str} {row row' : Int} {gs : List Heap} {cs : List (Addr × Cel)} {h : Heap} {t : Nat} {A : Around} {Q : Value → Shared → Prop} (hT : T.Ok (.leaf wd bl row)) (hU : U.Ok (.leaf wd' bl' row')) (hc : Kns gs cs T.cells) (hd : Kns gs cs U.cells)
    (H : Kn g0 gs cs h) (R : Rm A 20) (K : ∀ h' t', Kn g0 gs cs h' → Q (.bool (wd == wd')) (S r h' t')) :
    wpAny (model Pg w) A (call (.ref 326) [.ref T.x, .ref U.x]) Q NoE (S r h t) := by
  obtain ⟨fa, ch, N, hC, hn, _, _, _⟩ := hT.leaf
  obtain ⟨fa', ch', N', hC', hn', _, _, _⟩ := hU.leaf
  have hI := hc.ins
  have hJ := hd.ins
  rw [hC] at hI
  rw [hC'] at hJ
  have hob := hI.ob
  have hns := hI.ns
  have hob2 := hJ.ob
  have hns2 := hJ.ns
  obtain ⟨t1, h1⟩ := N.typ
  obtain ⟨t2, h2⟩ := N.val
  obtain ⟨t3, h3⟩ := N'.typ
  obtain ⟨t4, h4⟩ := N'.val
  refine enter G H R (n := 19) (binds := [(Str.ofString "self", .ref T.x), (Str.ofString "other", .ref U.x)]) (by exact rfl) (by exact rfl) (by exact rfl) (fun s _ => BindsTo.of_eq (by exact rfl)) (by exact rfl) (by exact rfl) (by exact rfl) (by exact rfl) (by exact rfl) (by exact rfl) (by exact rfl) (by exact rfl) ?_
  intro L h₁ t₁ env A' e R H hs' hL
  dsimp only at e
  repeat walk_at "go"
  refine ⟨sz, _, _, _, _, rfl, by assumption, fun ta h' H hs => ?_⟩
  repeat walk_at "go"
  refine ⟨sz, _, _, _, _, rfl, by assumption, fun tb h' H hs => ?_⟩
  show wpAny _ _ (richCompare .Eq _ _) _ _ _
  refine RcI.pairs (I := Inv r g0 gs ((tb, .tup #[.int 1 t3, .str wd' t4]) :: (ta, .tup #[.int 1 t1, .str wd t2]) :: (L, .ns fun x => List.lookup x [(Str.ofString "self", Value.ref T.x), (Str.ofString "other", Value.ref U.x)].reverse) :: cs))
    (fun s ⟨h, t, e, H⟩ => by subst e; exact H.tup (.tail _ (.head _))) (fun s ⟨h, t, e, H⟩ => by subst e; exact H.tup (.head _)) R.units
    (EqI.ofAt fun s => SeqAt.EqAt.int_int _ _ _ _) (EqI.ofAt fun s => SeqAt.EqAt.str_str _ _ _ _) _ _ _ ⟨_, _, rfl, H⟩ ?_
  rintro s ⟨h', t', rfl, H⟩
  rw [show ((1 : Int) == 1) = true by decide, Bool.true_and]
  repeat walk_at "go"
  exact K _ _ H.drop.drop.drop
end
section
variable {w : World} {g0 g : Heap} {r : Shared}
theorem eq_tree (G : Gl w g0) {T U : Tr} {p q : Plan} {gs : List Heap} {cs : List (Addr × Cel)} {A : Around} {n : Nat} (hT : T.Ok p) (hU : U.Ok q) (hc : Kns gs cs T.cells) (hd : Kns gs cs U.cells) (R : Rm A (n + 2))
    (ih : T.C = U.C → ∀ (Q : Value → Shared → Prop) h t, Kn g0 gs cs h → (∀ h' t', Kn g0 gs cs h' → Q (.bool (p.same q)) (S r h' t')) → wpAny (model Pg w) A (call (.ref 56) [.ref T.x, .ref U.x]) Q NoE (S r h t)) :
    EqI w (Inv r g0 gs cs) A (.ref T.x) (.ref U.x) (p.same q) := by
  by_cases e : T.x = U.x
  · rintro s E Q ⟨h, t, rfl, H⟩ k
    rw [det H hT hU hc hd e] at k
    rw [e]
    exact SeqAt.EqAt.same _ Pg w E Q (k _ ⟨h, t, rfl, H⟩)
  · exact EqI.ofRefs e (rc_tree G hT hU hc hd R ih)
theorem eq_kids (G : Gl w g0) {T U : Tr} {p q : Plan} {gs : List Heap} {cs : List (Addr × Cel)} {A : Around} {n : Nat} {h : Heap} (H : Kn g0 gs cs h) (hT : T.Ok p) (hU : U.Ok q) (hc : Kns gs cs T.cells) (hd : Kns gs cs U.cells) (hp : p.isNode) (hq : q.isNode)
    {l l' : Addr} (hl : T.m "children" = some (.ref l)) (hl' : U.m "children" = some (.ref l')) (R : Rm A (n + 4))
    (ih : ∀ c ∈ T.kids, ∀ c' ∈ U.kids, ∀ pc qc, pc ∈ p.kids → c.Ok pc → c'.Ok qc → Kns gs cs c.cells → Kns gs cs c'.cells → c.C = c'.C → ∀ (A' : Around) (Q : Value → Shared → Prop) h t, Rm A' n → Kn g0 gs cs h → (∀ h' t', Kn g0 gs cs h' → Q (.bool (pc.same qc)) (S r h' t')) → wpAny (model Pg w) A' (call (.ref 56) [.ref c.x, .ref c'.x]) Q NoE (S r h t)) :
    ∃ e2, EqI w (Inv r g0 gs cs) A (.ref l) (.ref l') e2 ∧ p.same q = (p.kind == q.kind && e2) := by
  have one : ∀ {x d mk md l : Addr} {m n} {c : Tr} {pc : Plan} {k : Int} {V : Tr}, V = .one x d mk md l m n c → V.Ok (.one k pc) → Kns gs cs V.cells → V.m "children" = some (.ref l) ∧ Has gs cs l (.lst #[.ref c.x]) ∧ c.Ok pc ∧ Kns gs cs c.cells := by
    intro x d mk md l m n c pc k V e hV hK
    subst e
    exact ⟨hV.1.chl, hK (l, .lst #[.ref c.x]) (.tail _ (.tail _ (.tail _ (.tail _ (.head _))))), hV.2.2.2, hK.kid fun z hz => .tail _ (.tail _ (.tail _ (.tail _ (.tail _ hz))))⟩
  have two : ∀ {x d mk md l : Addr} {m n} {c f : Tr} {pc pf : Plan} {k : Int} {V : Tr}, V = .two x d mk md l m n c f → V.Ok (.two k pc pf) → Kns gs cs V.cells → V.m "children" = some (.ref l) ∧ Has gs cs l (.lst #[.ref c.x, .ref f.x]) ∧ c.Ok pc ∧ f.Ok pf ∧ Kns gs cs c.cells ∧ Kns gs cs f.cells := by
    intro x d mk md l m n c f pc pf k V e hV hK
    subst e
    exact ⟨hV.1.chl, hK (l, .lst #[.ref c.x, .ref f.x]) (.tail _ (.tail _ (.tail _ (.tail _ (.head _))))), hV.2.2.2.2.1, hV.2.2.2.2.2, hK.kid fun z hz => .tail _ (.tail _ (.tail _ (.tail _ (.tail _ (List.mem_append_left _ hz))))),
      hK.kid fun z hz => .tail _ (.tail _ (.tail _ (.tail _ (.tail _ (List.mem_append_right c.cells hz)))))⟩
  have lat : ∀ {l : Addr} {xs : Array Value}, Has gs cs l (.lst xs) → ∀ s, Inv r g0 gs cs s → s.heap.IsList l xs := fun hl s ⟨h, t, e, H⟩ => by subst e; exact hl.at H
  have R1 : Rm A.in1 (n + 3) := R.in1
  cases T <;> cases p <;> first | exact hT.elim | exact hp.elim | skip
  · rename_i x d mk md lT m n0 c k pc
    obtain ⟨c1, c2, c3, c4⟩ := one rfl hT hc
    obtain rfl : lT = l := by rw [c1] at hl; injection hl with hl; injection hl
    cases U <;> cases q <;> first | exact hU.elim | exact hq.elim | skip
    · rename_i x' d' mk' md' lU m' n' c' k' qc
      obtain ⟨d1, d2, d3, d4⟩ := one rfl hU hd
      obtain rfl : lU = l' := by rw [d1] at hl'; injection hl' with hl'; injection hl'
      by_cases e : lT = lU
      · subst e
        refine ⟨true, EqI.ofAt fun s => SeqAt.EqAt.same _, ?_⟩
        have := lst_same (c2.at H) (d2.at H)
        have : c.x = c'.x := by simpa using this
        show (k == k' && pc.same qc) = _
        rw [det H c3 d3 c4 d4 this]; rfl
      · have E : EqI w (Inv r g0 gs cs) A.in1 (.ref c.x) (.ref c'.x) (pc.same qc) := eq_tree G c3 d3 c4 d4 (R1.le (k := n + 2)) fun e Q h t H k => ih c (.head _) c' (.head _) pc qc (.head _) c3 d3 c4 d4 e _ Q h t R1.le H k
        refine ⟨pc.same qc, EqI.ofRefs e ?_, rfl⟩
        have := RcI.lists (lat c2) (lat d2) R.units rfl (fun _ => pc.same qc) (fun j h1 h2 => by
          obtain rfl : j = 0 := by have : j < 1 := h1; omega
          exact E)
        simpa [List.range_succ] using this
    · rename_i x' d' mk' md' lU m' n' c' f' k' qc qf
      obtain ⟨d1, d2, d3, d4, d5, d6⟩ := two rfl hU hd
      obtain rfl : lU = l' := by rw [d1] at hl'; injection hl' with hl'; injection hl'
      by_cases e : lT = lU
      · subst e
        have := congrArg Array.size (lst_same (c2.at H) (d2.at H))
        exact nomatch (show (1 : Nat) = 2 from this)
      · exact ⟨false, EqI.ofRefs e (RcI.lengths (lat c2) (lat d2) R.units rfl), by show false = _; rw [Bool.and_false]⟩
  · rename_i x d mk md lT m n0 c f k pc pf
    obtain ⟨c1, c2, c3, c4, c5, c6⟩ := two rfl hT hc
    obtain rfl : lT = l := by rw [c1] at hl; injection hl with hl; injection hl
    cases U <;> cases q <;> first | exact hU.elim | exact hq.elim | skip
    · rename_i x' d' mk' md' lU m' n' c' k' qc
      obtain ⟨d1, d2, d3, d4⟩ := one rfl hU hd
      obtain rfl : lU = l' := by rw [d1] at hl'; injection hl' with hl'; injection hl'
      by_cases e : lT = lU
      · subst e
        have := congrArg Array.size (lst_same (c2.at H) (d2.at H))
        exact nomatch (show (2 : Nat) = 1 from this)
      · exact ⟨false, EqI.ofRefs e (RcI.lengths (lat c2) (lat d2) R.units rfl), by show false = _; rw [Bool.and_false]⟩
    · rename_i x' d' mk' md' lU m' n' c' f' k' qc qf
      obtain ⟨d1, d2, d3, d4, d5, d6⟩ := two rfl hU hd
      obtain rfl : lU = l' := by rw [d1] at hl'; injection hl' with hl'; injection hl'
      by_cases e : lT = lU
      · subst e
        refine ⟨true, EqI.ofAt fun s => SeqAt.EqAt.same _, ?_⟩
        have := lst_same (c2.at H) (d2.at H)
        have : c.x = c'.x ∧ f.x = f'.x := by simpa using this
        show (k == k' && (pc.same qc && pf.same qf)) = _
        rw [det H c3 d3 c5 d5 this.1, det H c4 d4 c6 d6 this.2]; rfl
      · have E : EqI w (Inv r g0 gs cs) A.in1 (.ref c.x) (.ref c'.x) (pc.same qc) := eq_tree G c3 d3 c5 d5 (R1.le (k := n + 2)) fun e Q h t H k => ih c (.head _) c' (.head _) pc qc (.head _) c3 d3 c5 d5 e _ Q h t R1.le H k
        have E2 : EqI w (Inv r g0 gs cs) A.in1 (.ref f.x) (.ref f'.x) (pf.same qf) := eq_tree G c4 d4 c6 d6 (R1.le (k := n + 2)) fun e Q h t H k => ih f (.tail _ (.head _)) f' (.tail _ (.head _)) pf qf (.tail _ (.head _)) c4 d4 c6 d6 e _ Q h t R1.le H k
        refine ⟨pc.same qc && pf.same qf, EqI.ofRefs e ?_, rfl⟩
        have := RcI.lists (lat c2) (lat d2) R.units rfl (fun j => if j = 0 then pc.same qc else pf.same qf) (fun j h1 h2 => by
          have : j < 2 := h1
          obtain rfl | rfl : j = 0 ∨ j = 1 := by omega
          · exact E
          · exact E2)
        simpa [List.range_succ] using this

theorem s_beq (G : Gl w g0) : ∀ (d : Nat) {p q : Plan} {T U : Tr} {gs : List Heap} {cs : List (Addr × Cel)} {h : Heap} {t : Nat} {A : Around} {Q : Value → Shared → Prop}, p.ok d → T.Ok p → U.Ok q → Kns gs cs T.cells → Kns gs cs U.cells → T.C = U.C →
    Kn g0 gs cs h → Rm A (30 * d + 30) → (∀ h' t', Kn g0 gs cs h' → Q (.bool (p.same q)) (S r h' t')) → wpAny (model Pg w) A (call (.ref 56) [.ref T.x, .ref U.x]) Q NoE (S r h t) := by
  intro d
  induction d using Nat.strongRecOn with
  | ind d ih =>
    intro p q T U gs cs h t A Q hp hT hU hc hd hCC H R K
    refine s_beq0 (n := 30 * d + 29) G hT.no_eq hc hd H R (fun e => absurd hCC e) fun _ A' h' t' Q' R H' k => ?_
    have K : ∀ h' t', Kn g0 gs cs h' → Q' (.bool (p.same q)) (S r h' t') := fun h' t' H' => k _ _ _ H' (K _ _ H')
    clear k H
    have H := H'
    by_cases hnd : p.isNode
    rotate_left
    · match p, hnd, hT, K with
      | .leaf wd bl row, _, hT, K =>
        obtain ⟨wd', bl', row', rfl⟩ : ∃ wd' bl' row', q = .leaf wd' bl' row' := by
          cases T <;> first | exact hT.elim | skip
          cases U <;> first | (exact absurd hCC (by show (374 : Addr) ≠ 294; decide)) | skip
          cases q <;> first | exact hU.elim | exact ⟨_, _, _, rfl⟩
        have e : eqFn T = 326 := by cases T <;> first | rfl | exact hT.elim
        rw [e]
        exact s_beq_leaf G hT hU hc hd H R.le K
      | .one .., hnd, _, _ => exact absurd trivial hnd
      | .two .., hnd, _, _ => exact absurd trivial hnd
    obtain ⟨d1, rfl, hk, hoks, hlen⟩ := hp.node hnd
    obtain ⟨la, N, hC, hn, hlm, hkok, hksub⟩ := hT.node hnd
    have hnq : q.isNode := by
      cases q with
      | leaf => obtain ⟨_, _, _, e, _⟩ := hU.leaf; rw [hC, e] at hCC; exact absurd hCC (by decide)
      | one => trivial
      | two => trivial
    obtain ⟨lb, N', hC', hn', hlm', hkok', hksub'⟩ := hU.node hnq
    have e : eqFn T = 192 := by cases T <;> first | rfl | (exact absurd hC (by show (374 : Addr) ≠ 294; decide))
    rw [e]
    have hI := hc.ins
    have hJ := hd.ins
    rw [hC] at hI
    rw [hC'] at hJ
    have hob := hI.ob
    have hns := hI.ns
    have hob2 := hJ.ob
    have hns2 := hJ.ns
    obtain ⟨t1, h1⟩ := N.typ
    have h2 := N.chl
    obtain ⟨t3, h3⟩ := N'.typ
    have h4 := N'.chl
    refine enter G H R (n := 30 * d1 + 58) (binds := [(Str.ofString "self", .ref T.x), (Str.ofString "other", .ref U.x)]) (by exact rfl) (by exact rfl) (by exact rfl) (fun s _ => BindsTo.of_eq (by exact rfl)) (by exact rfl) (by exact rfl) (by exact rfl) (by exact rfl) (by exact rfl) (by exact rfl) (by exact rfl) (by exact rfl) ?_
    intro L h₁ t₁ env A' e R H hs' hL
    dsimp only at e
    repeat walk_at "go"
    refine ⟨sz, _, _, _, _, rfl, by assumption, fun ta h' H hs => ?_⟩
    repeat walk_at "go"
    refine ⟨sz, _, _, _, _, rfl, by assumption, fun tb h' H hs => ?_⟩
    show wpAny _ _ (richCompare .Eq _ _) _ _ _
    obtain ⟨e2, E, hsame⟩ := eq_kids (A := A'.in1) (n := 30 * d1 + 30) G H hT hU hc.cons.cons.cons hd.cons.cons.cons hnd hnq h2 h4 (R.in1 (n := 30 * d1 + 57)).le
      (fun c hc1 c' hc2 pc qc hpc ok1 ok2 k1 k2 e A' Q h t R H K => ih d1 (by omega) (hoks pc hpc) ok1 ok2 k1 k2 e H R K)
    refine RcI.pairs (I := Inv r g0 gs ((tb, .tup #[.int q.kind t3, .ref lb]) :: (ta, .tup #[.int p.kind t1, .ref la]) :: (L, .ns fun x => List.lookup x [(Str.ofString "self", Value.ref T.x), (Str.ofString "other", Value.ref U.x)].reverse) :: cs))
      (fun s ⟨h, t, e, H⟩ => by subst e; exact H.tup (.tail _ (.head _))) (fun s ⟨h, t, e, H⟩ => by subst e; exact H.tup (.head _)) R.units
      (EqI.ofAt fun s => SeqAt.EqAt.int_int _ _ _ _) E _ _ _ ⟨_, _, rfl, H⟩ ?_
    rintro s ⟨h', t', rfl, H⟩
    rw [← hsame]
    repeat walk_at "go"
    exact K _ _ H.drop.drop.drop
theorem s_eq (G : Gl w g0) {d : Nat} {p q : Plan} {T U : Tr} {gs : List Heap} {cs : List (Addr × Cel)} {h : Heap} {t : Nat} {A : Around} {Q : Value → Shared → Prop} (hp : p.ok d) (hT : T.Ok p) (hU : U.Ok q) (hc : Kns gs cs T.cells) (hd : Kns gs cs U.cells)
    (H : Kn g0 gs cs h) (R : Rm A (30 * d + 33)) (K : ∀ h' t', Kn g0 gs cs h' → Q (.bool (p.same q)) (S r h' t')) : wpAny (model Pg w) A (compareOp .Eq (.ref T.x) (.ref U.x)) Q NoE (S r h t) := by
  show wpAny _ _ (richCompare .Eq _ _) _ _ _
  exact rc_tree (n := 1) G hT hU hc hd R.le (fun e Q h t H k => s_beq G d hp hT hU hc hd e H R.le k) _ _ _ ⟨h, t, rfl, H⟩ fun s' ⟨h', t', e, H'⟩ => by subst e; exact K h' t' H'
theorem s_ne (G : Gl w g0) {d : Nat} {p q : Plan} {T U : Tr} {gs : List Heap} {cs : List (Addr × Cel)} {h : Heap} {t : Nat} {A : Around} {Q : Value → Shared → Prop} (hp : p.ok d) (hT : T.Ok p) (hU : U.Ok q) (hc : Kns gs cs T.cells) (hd : Kns gs cs U.cells)
    (H : Kn g0 gs cs h) (R : Rm A (30 * d + 33)) (K : ∀ h' t', Kn g0 gs cs h' → Q (.bool (!(p.same q))) (S r h' t')) : wpAny (model Pg w) A (compareOp .NotEq (.ref T.x) (.ref U.x)) Q NoE (S r h t) := by
  show wpAny _ _ (richCompare .NotEq _ _) _ _ _
  exact rn_tree (n := 0) G hT hU hc hd H R.le (fun e Q h t H k => s_beq G d hp hT hU hc hd e H (R.in1 (n := 30 * d + 32)).le k) K
end
theorem Plan.told_lay : ∀ p : Plan, p.wordy → p.told.canLay0 = true
  | .leaf .., h => by have h : PyData.strOk _ = true := h; simp [Plan.told, PyData.canLay0, h]
  | .one k p, h => by simp [Plan.told, PyData.canLay0, PyData.canLayAll0, p.told_lay h]
  | .two k p q, h => by simp [Plan.told, PyData.canLay0, PyData.canLayAll0, p.told_lay h.1, q.told_lay h.2]
theorem Plan.told_depth : ∀ {d : Nat} {p : Plan}, p.ok d → p.told.depth ≤ 2 * d
  | _, .leaf .., _ => by simp [Plan.told, PyData.depth]
  | 0, .one .., h => h.elim
  | 0, .two .., h => h.elim
  | d + 1, .one k p, h => by have := Plan.told_depth h.2; simp [Plan.told, PyData.depth, PyData.depthAll]; omega
  | d + 1, .two k p q, h => by have := Plan.told_depth h.2.1; have := Plan.told_depth h.2.2; simp [Plan.told, PyData.depth, PyData.depthAll]; omega
theorem Plan.told_shaped {d : Nat} {p : Plan} (h : p.ok d) (hd : d ≤ 6) (hw : p.wordy) : SeqAt.shaped p.told = true := by
  unfold SeqAt.shaped
  rw [p.told_lay hw, Bool.true_and, decide_eq_true_eq]
  have := Plan.told_depth h
  omega
theorem Plan.eqv_told : ∀ p q : Plan, PyData.eqv p.told q.told = p.same q
  | .leaf .., q => by cases q <;> simp [Plan.told, PyData.eqv, Plan.same]
  | .one k p, q => by cases q <;> simp [Plan.told, PyData.eqv, PyData.eqvAll, Plan.same, Plan.eqv_told p]
  | .two k p p2, q => by cases q <;> simp [Plan.told, PyData.eqv, PyData.eqvAll, Plan.same, Plan.eqv_told p, Plan.eqv_told p2]
abbrev pathD (π : List Nat) : PyData := .tuple (π.map fun (i : Nat) => PyData.int i)
theorem eqv_path : ∀ π ρ : List Nat, PyData.eqvAll (π.map fun (i : Nat) => PyData.int i) (ρ.map fun (i : Nat) => PyData.int i) = (π == ρ)
  | [], [] => by simp [PyData.eqvAll]
  | [], _ :: _ => by simp [PyData.eqvAll]
  | _ :: _, [] => by simp [PyData.eqvAll]
  | i :: π, j :: ρ => by
    rw [List.map_cons, List.map_cons, PyData.eqvAll, eqv_path π ρ, PyData.eqv]
    show _ = ((i == j) && (π == ρ))
    congr 1
    by_cases h : i = j
    · subst h; rw [beq_self_eq_true, beq_self_eq_true]
    · have h' : ¬ (i : Int) = j := by omega
      rw [beq_eq_false_iff_ne.mpr h, beq_eq_false_iff_ne.mpr h']
theorem eqv_bools : ∀ l l' : List Bool, PyData.eqvAll (l.map PyData.bool) (l'.map PyData.bool) = (l == l')
  | [], [] => by simp [PyData.eqvAll]
  | [], _ :: _ => by simp [PyData.eqvAll]
  | _ :: _, [] => by simp [PyData.eqvAll]
  | i :: π, j :: ρ => by
    rw [List.map_cons, List.map_cons, PyData.eqvAll, eqv_bools π ρ, PyData.eqv]
    rfl
theorem shaped_bools : ∀ l : List Bool, SeqAt.shaped (.list (l.map PyData.bool)) = true := fun l => by
  have h1 : ∀ l : List Bool, PyData.canLayAll0 (l.map PyData.bool) = true := fun l => by
    induction l with
    | nil => simp [PyData.canLayAll0]
    | cons a l ih => simp [PyData.canLayAll0, PyData.canLay0, ih]
  have h2 : ∀ l : List Bool, PyData.depthAll (l.map PyData.bool) = 0 := fun l => by
    induction l with
    | nil => simp [PyData.depthAll]
    | cons a l ih => simp [PyData.depthAll, PyData.depth, ih]
  simp [SeqAt.shaped, PyData.canLay0, PyData.depth, h1, h2]
theorem lay_paths : ∀ ps : List (List Nat), PyData.canLayAll0 (ps.map pathD) = true := fun ps => by
  induction ps with
  | nil => simp [PyData.canLayAll0]
  | cons a l ih =>
    have : PyData.canLay0 (pathD a) = true := by
      have := shaped_path a
      unfold SeqAt.shaped at this
      exact (Bool.and_eq_true_iff.mp this).1
    simp only [List.map_cons, PyData.canLayAll0, this, ih, Bool.and_self]
theorem depth_path (π : List Nat) : PyData.depth (pathD π) ≤ 1 := by
  have : ∀ l : List Nat, PyData.depthAll (l.map fun (i : Nat) => PyData.int i) = 0 := fun l => by
    induction l with
    | nil => simp [PyData.depthAll]
    | cons a l ih => simp [PyData.depthAll, PyData.depth, ih]
  simp [pathD, PyData.depth, this]
theorem rd_paths {g : Heap} {v : Value} {ps : List (List Nat)} (x : PathsAt (Fz g) v ps) : RdV g v (.list (ps.map pathD)) := by
  obtain ⟨l, vs, rfl, h1, h2⟩ := x
  exact rd_list h1 (h2.map_left fun π v z => path_rd z)
section
variable {w : World} {g0 h : Heap} {gs : List Heap} {cs : List (Addr × Cel)} {r : Shared} {t : Nat} {A : Around} {E Q : Value → Shared → Prop}
/-- one in around -/
theorem i_inPaths {g : Heap} {v c : Value} {π : List Nat} {ps : List (List Nat)} (H : Kn g0 gs cs h) (hg : g ∈ gs) (hc : PathsAt (Fz g) c ps) (hv : PathAt (fun a c => Has gs cs a c) v π) (R : Rm A 5) (k : Q (.bool (ps.contains π)) (S r h t)) :
    wpAny (model Pg w) A (compareOp .In v c) Q E (S r h t) := by
  obtain ⟨as, r1⟩ : RdV h c (.list (ps.map pathD)) := (rd_paths hc).keeps (H.keep g hg)
  obtain ⟨as2, r2⟩ : RdV h v (pathD π) := path_rd (hv.mono fun a c z => z.at H)
  have hl : PyData.canLay0 (pathD π) = true := by
    have := shaped_path π
    unfold SeqAt.shaped at this
    exact (Bool.and_eq_true_iff.mp this).1
  refine SeqAt.in_list_reads (s := S r h t) r1 r2 (lay_paths ps) hl (by have := R.un; have := depth_path π; show A.units + 1 + _ < 9900; omega) ?_
  have : (ps.map pathD).any (fun y => PyData.eqv y (pathD π)) = ps.contains π := by
    clear r1 k hc
    induction ps with
    | nil => rfl
    | cons a ps ih =>
      rw [List.map_cons, List.any_cons, List.contains_cons, ih]
      congr 1
      show PyData.eqvAll _ _ = _
      rw [eqv_path]; exact Bool.beq_comm
  rw [this]; exact k
/-- told == told -/
theorem i_eqTold {g g' : Heap} {v v' : Value} {p q : Plan} {d d' : Nat} (H : Kn g0 gs cs h) (hg : g ∈ gs) (hg' : g' ∈ gs) (x : RdV g v p.told) (x' : RdV g' v' q.told) (hp : p.ok d) (hq : q.ok d') (hd : d ≤ 6) (hd' : d' ≤ 6) (hw : p.wordy) (hw' : q.wordy) (hu : A.units + 64 < 9900) (k : Q (.bool (p.same q)) (S r h t)) :
    wpAny (model Pg w) A (compareOp .Eq v v') Q E (S r h t) := by
  obtain ⟨as, r1⟩ := x.keeps (H.keep g hg)
  obtain ⟨as2, r2⟩ := x'.keeps (H.keep g' hg')
  refine eq_dataH (s := S r h t) r1 r2 (Plan.told_shaped hp hd hw) (Plan.told_shaped hq hd' hw') hu ?_
  rw [Plan.eqv_told]; exact k
theorem i_neTold {g g' : Heap} {v v' : Value} {p q : Plan} {d d' : Nat} (H : Kn g0 gs cs h) (hg : g ∈ gs) (hg' : g' ∈ gs) (x : RdV g v p.told) (x' : RdV g' v' q.told) (hp : p.ok d) (hq : q.ok d') (hd : d ≤ 6) (hd' : d' ≤ 6) (hw : p.wordy) (hw' : q.wordy) (hu : A.units + 64 < 9900) (k : Q (.bool (!(p.same q))) (S r h t)) :
    wpAny (model Pg w) A (compareOp .NotEq v v') Q E (S r h t) := by
  obtain ⟨as, r1⟩ := x.keeps (H.keep g hg)
  obtain ⟨as2, r2⟩ := x'.keeps (H.keep g' hg')
  refine ne_dataH (s := S r h t) r1 r2 (Plan.told_shaped hp hd hw) (Plan.told_shaped hq hd' hw') hu ?_
  rw [Plan.eqv_told]; exact k
end
/-- a plain list -/
abbrev lo (xs : Array Value) (n : Nat) : Obj := { cls := .type "list", dict := none, data := .seq xs n, slots := #[] }
section
variable {w : World} {A : Around}
theorem rev_loop (hh : A.handled = none) {I l S : Addr} {xs : Array Value} (hIS : I ≠ S) (hlS : l ≠ S) (hlI : l ≠ I) (res : Value) (R : Result → Shared → Prop) : ∀ (k : Nat) (s : Shared) (acc : Array Value) (c : Nat), k ≤ xs.size → acc.size + k ≤ 1000 →
    s.heap.IsRevIter I l ((k : Int) - 1) → s.heap.IsList l xs → s.heap.get? S = some (lo acc c) →
    (∀ h' c', (∀ b o, b ≠ I → b ≠ S → s.heap.get? b = some o → h'.get? b = some o) → h'.get? S = some (lo (acc ++ ((xs.toList.take k).reverse).toArray) c') → R (.ok (.ret res)) { s with heap := h' }) →
    codeAny (model Pg w) A (.builtin "list.extend.loop" ⟨[.ref S, .ref I, res], []⟩) R s := by
  intro k
  induction k with
  | zero =>
    intro s acc c hk hz hI hl hS hR
    refine codeAny_builtin F.entry_extend_loop ?_
    rw [Around.under_plainId F.plain_extend_loop _]
    show wpAny _ A.in1 (pyNext (.ref I) >>= _) _ _ s
    refine wpAny_bind (wpAny_pyNext_rev_end hh hI fun h' he => ?_)
    refine wpAny_pure (hR h' c (fun b o h1 _ e => he b o h1 e) ?_)
    have := he S _ (Ne.symm hIS) hS
    simpa using this
  | succ k ih =>
    intro s acc c hk hz hI hl hS hR
    have hlt : k < xs.size := by omega
    refine codeAny_builtin F.entry_extend_loop ?_
    rw [Around.under_plainId F.plain_extend_loop _]
    show wpAny _ A.in1 (pyNext (.ref I) >>= _) _ _ s
    rw [show (((k + 1 : Nat) : Int) - 1) = (k : Int) by omega] at hI
    refine wpAny_bind (wpAny_pyNext_rev_item hI hl (x := xs[k]) (by simp [hlt]) fun h1 hI1 hs1 => ?_)
    have ho : h1.get? S = some (lo acc c) := (hs1.2 S (Ne.symm hIS)).trans hS
    show wpAny _ A.in1 (updateSeq S (·.push xs[k]) >>= _) _ _ _
    refine wpAny_bind (wpAny_updateSeq ho rfl (wpAny_pure ⟨plainId_quiet F.plain_extend_loop _, ih _ (acc.push xs[k]) _ (by omega) (by simp; omega) ?_ ?_ (Heap.get?_update_self _ ho rfl) fun h' c' hk' hS' => ?_⟩) (by rw [sizeLine_eq]; omega) (by rw [sizeLine_eq]; simp; omega))
    · exact hI1.at fun o e => (Heap.get?_update_other _ _ (Ne.symm hIS)).trans e
    · exact hl.at fun o e => (Heap.get?_update_other _ _ (Ne.symm hlS)).trans ((hs1.2 l hlI).trans e)
    · refine hR h' c' (fun b o h1' h2 e => hk' b o h1' h2 ((Heap.get?_update_other _ _ (Ne.symm h2)).trans ((hs1.2 b h1').trans e))) ?_
      have e : acc ++ ((xs.toList.take (k + 1)).reverse).toArray = acc.push xs[k] ++ ((xs.toList.take k).reverse).toArray := by
        rw [List.take_succ_eq_append_getElem (by simpa using hlt)]
        simp
      rw [e]; exact hS'
theorem nolen_lri : typeLookup (.type "list_reverseiterator") "__len__" = pure none := by rw [typeLookup_type, builtinLookup_eq_fast]; kernel_rfl
theorem hint_lri : typeLookup (.type "list_reverseiterator") "__length_hint__" = pure (some (.builtin "list_reverseiterator.__length_hint__")) := by rw [typeLookup_type, builtinLookup_eq_fast]; kernel_rfl
theorem rev_extend (hh : A.handled = none) {I l S : Addr} {xs acc : Array Value} (hIS : I ≠ S) (hlS : l ≠ S) (hlI : l ≠ I) (res : Value) (R : Result → Shared → Prop) (s : Shared) (hz : acc.size + xs.size ≤ 1000)
    {c : Nat} (hI : s.heap.IsRevIter I l ((xs.size : Int) - 1)) (hl : s.heap.IsList l xs) (hS : s.heap.get? S = some (lo acc c))
    (hR : ∀ h' c', (∀ b o, b ≠ I → b ≠ S → s.heap.get? b = some o → h'.get? b = some o) → h'.get? S = some (lo (acc ++ xs.toList.reverse.toArray) c') → R (.ok (.ret res)) { s with heap := h' }) :
    wpAny (model Pg w) A.in1 (Builtin.List.listExtendWith (.ref S) (.ref I) res) (onward w A R) (fun e s' => R (.error e) s') s := by
  unfold Builtin.List.listExtendWith
  have hT := hI.typeIs
  refine wpAny_bind (wpAny_typeOf hT ?_)
  have h1 : Builtin.List.listSameRef (.ref S) (.ref I) = false := by simp [Builtin.List.listSameRef, Ne.symm hIS]
  have h2 : (Value.type "list_reverseiterator" == Value.type "list") = false := by decide
  have h3 : (Value.type "list_reverseiterator" == Value.type "tuple") = false := by decide
  simp only [h1, h2, h3, Bool.or_false, Bool.false_eq_true, if_false]
  refine wpAny_bind (wpAny_pyIter_revIter hI ?_)
  refine wpAny_bind (wpAny_holding ?_)
  unfold Builtin.List.listLengthHint
  refine wpAny_bind (wpAny_specialOf hT nolen_lri ?_)
  show wpAny _ A.in1 (specialOf (Value.ref I) (Str.ofString "__length_hint__") >>= _) _ _ _
  refine wpAny_bind (wpAny_specialOf hT hint_lri ?_)
  (generalize hid : ("list_reverseiterator.__length_hint__" : String) = id0; (fail_if_success (clear hid id0)); wp_delta; rw [show splitId id0 = some ("list_reverseiterator", "__length_hint__") from by subst hid; decide +kernel]; subst hid)
  refine wpAny_bind (wpAny_isInstance (b := true) hT (by rw [isSubtype_type]; kernel_rfl) ?_)
  refine wpAny_pure ?_
  rw [if_neg (by decide)]
  refine wpAny_pure ⟨plainId_quiet F.plain_extend_loop _, rev_loop hh hIS hlS hlI res R xs.size s acc c (Nat.le_refl _) hz hI hl hS fun h' c' hk' hS' => hR h' c' hk' ?_⟩
  rw [show xs.toList.take xs.size = xs.toList from List.take_of_length_le (by simp)] at hS'
  exact hS'
theorem list_of_rev (hh : A.handled = none) {I l : Addr} {xs : Array Value} (hlI : l ≠ I) (s : Shared) {E : Value → Shared → Prop} {Q : Value → Shared → Prop} (hz : xs.size ≤ 1000)
    (hI : s.heap.IsRevIter I l ((xs.size : Int) - 1)) (hl : s.heap.IsList l xs)
    (hQ : ∀ a h' c', s.heap.get? a = none → (∀ b o, b ≠ I → s.heap.get? b = some o → h'.get? b = some o) → h'.get? a = some (lo xs.toList.reverse.toArray c') → Q (.ref a) { s with heap := h' }) :
    wpAny (model Pg w) A (call (.type "list") [.ref I]) Q E s := by
  have hIlt : I < s.heap.objs.size := let ⟨_, ho, _⟩ := hI; Heap.lt_size ho
  have hllt : l < s.heap.objs.size := let ⟨_, ho, _⟩ := hl; Heap.lt_size ho
  refine callType_codes (Q₁ := fun obj s₁ => obj = .ref s.heap.objs.size ∧ s₁ = { s with heap := s.heap.push { cls := .type "list", data := .seq #[] } }) F.called_list (F.typeCall_list_1 _) F.entry_list_init
    (code_list_new _ ⟨rfl, rfl⟩) fun obj s₁ h₁ => ?_
  obtain ⟨rfl, rfl⟩ := h₁
  have hS : (s.heap.push { cls := .type "list", data := .seq #[] }).get? s.heap.objs.size = some { cls := .type "list", data := .seq #[] } := Heap.get?_push_size _ rfl
  refine ⟨⟨_, hS, rfl⟩, F.args_list_init_2 _ _, ?_⟩
  show wpAny _ _ (do let old ← Builtin.List.listItems (.ref s.heap.objs.size); Builtin.List.listUpdate (.ref s.heap.objs.size) (fun _ => #[]); letGo old.toList.reverse; Builtin.List.listExtendWith (.ref s.heap.objs.size) (.ref I) .none) _ _ _
  refine wpAny_bind ?_
  unfold Builtin.List.listItems
  refine wpAny_bind (wpAny_seqItems hS rfl (wpAny_pure ?_))
  show wpAny _ _ (updateSeq s.heap.objs.size (fun _ => #[]) >>= fun _ => letGo (#[] : Array Value).toList.reverse >>= fun _ => Builtin.List.listExtendWith (.ref s.heap.objs.size) (.ref I) .none) _ _ _
  refine wpAny_bind (wpAny_updateSeq hS rfl ?_)
  have hS₂ := Heap.get?_update_self (Obj.mapSeq (fun _ => (#[] : Array Value))) hS rfl
  have oth : ∀ b o, s.heap.get? b = some o → ((s.heap.push { cls := .type "list", data := .seq #[] }).update s.heap.objs.size (Obj.mapSeq (fun _ => (#[] : Array Value)))).get? b = some o :=
    fun b o e => (Heap.get?_update_other _ _ (Nat.ne_of_gt (Heap.lt_size e))).trans (Heap.get?_push_of_some _ e)
  refine wpAny_bind (wpAny_letGo ?_)
  refine rev_extend (A := A.in1) (acc := #[]) hh (Nat.ne_of_lt hIlt) (Nat.ne_of_lt hllt) hlI .none _ _ (by simpa using hz) (hI.at (oth I)) (hl.at (oth l)) hS₂ fun h' c' hk' hS' => ?_
  refine ⟨rfl, hQ _ h' c' (none_of_stays fun _ _ e => e) (fun b o hb e => hk' b o hb (Nat.ne_of_lt (Heap.lt_size e)) (oth b o e)) (by simpa using hS')⟩
theorem extend_rev (hh : A.handled = none) {I l S : Addr} {xs acc : Array Value} (hIS : I ≠ S) (hlS : l ≠ S) (hlI : l ≠ I) (s : Shared) {E : Value → Shared → Prop} {Q : Value → Shared → Prop} (hz : acc.size + xs.size ≤ 1000)
    {c : Nat} (hI : s.heap.IsRevIter I l ((xs.size : Int) - 1)) (hl : s.heap.IsList l xs) (hS : s.heap.get? S = some (lo acc c))
    (hQ : ∀ h' c', (∀ b o, b ≠ I → b ≠ S → s.heap.get? b = some o → h'.get? b = some o) → h'.get? S = some (lo (acc ++ xs.toList.reverse.toArray) c') → Q .none { s with heap := h' }) :
    wpAny (model Pg w) A (call (.builtin "list.extend") [.ref S, .ref I]) Q E s := by
  refine wpAny_call (codeAny_call_builtin F.slot_list_extend.plain F.entry_list_extend (F.slot_list_extend.check _ _ _ _ _ _ _ _ ⟨_, hS, rfl⟩ (F.args_list_extend_2 _ _) ?_))
  show wpAny _ _ (Builtin.List.listExtendWith (.ref S) (.ref I) .none) _ _ _
  exact rev_extend (A := A) hh hIS hlS hlI .none (wants Q E) _ hz hI hl hS fun h' c' hk hS' => hQ h' c' hk hS'
end
section
variable {w : World} {g0 h : Heap} {gs : List Heap} {cs cs' : List (Addr × Cel)} {r : Shared} {t : Nat} {A : Around} {E : Value → Shared → Prop} {I l : Addr} {c0 : Cel}
theorem Kn.hide (H : Kn g0 gs ((I, c0) :: cs) h) : Kn g0 gs cs (hideAll h [I]) :=
  H.loseE (C := I) fun b o hb e => hideAll_get _ e fun hm => hb (List.mem_singleton.mp hm)
theorem Kn.newE {a : Addr} {c : Cel} {h' : Heap} (H : Kn g0 gs ((I, c0) :: cs) h) (k : ∀ b o, b ≠ I → h.get? b = some o → h'.get? b = some o) (x : c.At h' a) (ha : h.get? a = none) : Kn g0 gs ((a, c) :: cs) h' := by
  refine H.hide.new (fun b o e => ?_) x ?_
  · have e' := of_hideAll _ e
    refine k b o (fun q => ?_) e'
    have := hide_off [I] h (a := I) (List.mem_singleton.mpr rfl)
    rw [q, this] at e; cases e
  · cases e : (hideAll h [I]).get? a with
    | none => rfl
    | some o => have := of_hideAll _ e; rw [ha] at this; cases this
theorem Kn.upE {a : Addr} {c c' : Cel} {h' : Heap} (H : Kn g0 gs ((I, c0) :: cs) h) (u : Up a c c' cs cs') (k : ∀ b o, b ≠ I → b ≠ a → h.get? b = some o → h'.get? b = some o) (x : c'.At h' a) : Kn g0 gs cs' h' := by
  refine H.hide.up u (fun b o hb e => ?_) x
  have e' := of_hideAll _ e
  refine k b o (fun q => ?_) hb e'
  have := hide_off [I] h (a := I) (List.mem_singleton.mpr rfl)
  rw [q, this] at e; cases e
theorem Has.apart {p : Addr × Cel} {a : Addr} {c : Cel} (H : Kn g0 gs (p :: cs) h) (x : Has gs cs a c) : a ≠ p.1 := by
  rcases x with x | ⟨g, hg, x⟩
  · rintro rfl
    exact (List.nodup_cons.mp H.nd).1 (List.mem_map.mpr ⟨_, x, rfl⟩)
  · rintro rfl
    obtain ⟨o, e⟩ := x.some
    have := H.off p (.head _) g hg
    rw [this] at e; cases e
/-- reversed(list) -/
theorem c_reversed {xs : Array Value} {Q : Value → Shared → Prop} (H : Kn g0 gs cs h) (hl : Has gs cs l (.lst xs)) (k : ∀ I h', Kn g0 gs ((I, .ob (revObj l ((xs.size : Int) - 1))) :: cs) h' → h.StaysIn h' → Q (.ref I) (S r h' t)) :
    wpAny (model Pg w) A (call (.type "reversed") [.ref l]) Q E (S r h t) :=
  call_reversed_list (s := S r h t) (hl.at H) (k _ _ (H.push (c := .ob _) (Heap.get?_push_size _ rfl)) fun b o e => Heap.get?_push_of_some _ e)
theorem c_listRev {xs : Array Value} {Q : Value → Shared → Prop} (hh : A.handled = none) (H : Kn g0 gs ((I, .ob (revObj l ((xs.size : Int) - 1))) :: cs) h) (hl : Has gs cs l (.lst xs)) (hz : xs.size ≤ 1000)
    (k : ∀ a c h', Kn g0 gs ((a, .ob (lo xs.toList.reverse.toArray c)) :: cs) h' → Q (.ref a) (S r h' t)) : wpAny (model Pg w) A (call (.type "list") [.ref I]) Q E (S r h t) :=
  list_of_rev hh (hl.apart H) (S r h t) hz ⟨_, H.here, rfl, rfl⟩ (hl.cons.at H) fun a h' c' ha hk hx => k a c' h' (H.newE (c := .ob _) hk hx ha)
theorem c_extRev {Sk : Addr} {xs acc : Array Value} {c : Nat} {Q : Value → Shared → Prop} (hh : A.handled = none) (H : Kn g0 gs ((I, .ob (revObj l ((xs.size : Int) - 1))) :: (Sk, .ob (lo acc c)) :: cs) h) (hl : Has gs cs l (.lst xs)) (hz : acc.size + xs.size ≤ 1000)
    (k : ∀ c' h', Kn g0 gs ((Sk, .ob (lo (acc ++ xs.toList.reverse.toArray) c')) :: cs) h' → Q .none (S r h' t)) : wpAny (model Pg w) A (call (.builtin "list.extend") [.ref Sk, .ref I]) Q E (S r h t) := by
  have hS : Has gs ((Sk, .ob (lo acc c)) :: cs) Sk (.ob (lo acc c)) := .inl (.head _)
  have hSI : Sk ≠ I := hS.apart H
  have hlS : l ≠ Sk := hl.apart H.drop
  exact extend_rev hh (Ne.symm hSI) hlS (hl.cons.apart H) (S r h t) hz ⟨_, H.here, rfl, rfl⟩ (hl.cons.cons.at H) (H.ob (.tail _ (.head _))) fun h' c' hk hx => k c' h' (H.upE (c' := .ob _) .here (fun b o h1 h2 e => hk b o h1 h2 e) hx)
/-- methods of the stack -/
theorem g_lo {id : String} {Sk : Addr} {acc : Array Value} {c : Nat} {name : Str} {pl : Sem Bool} {Q : Value × List Value → Shared → Prop} (slot : Slot "list" name id) (hty : typeOf (.builtin id) = pure (.type "method_descriptor"))
    (H : Kn g0 gs cs h) (m : (Sk, Cel.ob (lo acc c)) ∈ cs) (k : Q (.builtin id, [.ref Sk]) (S r h t)) : wpAny (model Pg w) A (getMethod (.ref Sk) name pl) Q E (S r h t) :=
  getMethod_list_of (s := S r h t) (items := acc) slot hty ⟨_, H.ob m, rfl, _, rfl⟩ ⟨_, H.ob m, rfl⟩ k
theorem c_pop {Sk : Addr} {acc : Array Value} {c : Nat} {y : Value} {Q : Value → Shared → Prop} (H : Kn g0 gs ((Sk, .ob (lo (acc.push y) c)) :: cs) h) (hz : acc.size ≤ 1000)
    (k : ∀ c' h', Kn g0 gs ((Sk, .ob (lo acc c')) :: cs) h' → Q y (S r h' t)) : wpAny (model Pg w) A (call (.builtin "list.pop") [.ref Sk]) Q E (S r h t) := by
  refine call_meets (s := S r h t) F.slot_list_pop ⟨_, H.here, rfl⟩ F.entry_list_pop (F.args_list_pop_1 _) (MeetsSeq.list_pop_last Sk (acc.push y) c y (by simp) (by rw [sizeLine_eq]; simp; omega)) ⟨H.here, ?_⟩
  have e : (acc.push y).eraseIdxIfInBounds ((acc.push y).size - 1) = acc := by
    apply Array.ext'
    rw [Array.toList_eraseIdxIfInBounds, Array.toList_push, Array.size_push, Nat.add_sub_cancel, List.eraseIdx_append_of_length_le (by simp)]
    simp
  show Q y (S r _ t)
  obtain ⟨c', hc'⟩ : ∃ c', (Obj.mapSeq (fun xs => xs.eraseIdxIfInBounds ((acc.push y).size - 1)) (lo (acc.push y) c)) = lo ((acc.push y).eraseIdxIfInBounds ((acc.push y).size - 1)) c' := ⟨_, rfl⟩
  rw [e] at hc'
  refine k c' _ (H.upS (c' := .ob (lo acc c')) .here (Heap.SameBut.update ..) ?_)
  have := Heap.get?_update_self (Obj.mapSeq fun xs => xs.eraseIdxIfInBounds ((acc.push y).size - 1)) H.here rfl
  rw [hc'] at this
  exact this
end
theorem Ex.thereA {α : Type} {a : α} {A r r' : List α} (e : Ex a r r') : Ex a (A ++ r) (A ++ r') := by
  induction A with
  | nil => exact e
  | cons b A ih => exact .there ih
/-- a run taken out -/
def ExA {α : Type} (B r r' : List α) : Prop := (B ++ r').Perm r
theorem ExA.here {α : Type} {B r : List α} : ExA B (B ++ r) r := .refl _
theorem ExA.thereA {α : Type} {A B r r' : List α} (e : ExA B r r') : ExA B (A ++ r) (A ++ r') := by
  unfold ExA at e ⊢
  rw [← List.append_assoc]
  refine List.Perm.trans (List.perm_append_comm.append_right r') ?_
  rw [List.append_assoc]
  exact e.append_left A
theorem ExA.thereC {α : Type} {B r r' : List α} {p : α} (e : ExA B r r') : ExA B (p :: r) (p :: r') := by
  unfold ExA at e ⊢
  exact List.perm_middle.trans (e.cons p)
theorem Sub.exA {α : Type} {B l r r' : List α} (e : ExA B r r') (s : Sub l r') : Sub (B ++ l) r := by
  obtain ⟨z, p⟩ := s
  refine ⟨z, ?_⟩
  rw [List.append_assoc]
  exact (p.append_left B).trans e
theorem Sub.nil {α : Type} {r : List α} : Sub ([] : List α) r := ⟨r, .refl _⟩
theorem Sub.congr {α : Type} {a b c : List α} (p : a.Perm b) (s : Sub b c) : Sub a c := let ⟨z, q⟩ := s; ⟨z, (p.append_right z).trans q⟩
theorem Sub.congr' {α : Type} {a b c : List α} (s : Sub a b) (p : b.Perm c) : Sub a c := let ⟨z, q⟩ := s; ⟨z, q.trans p⟩
theorem perm_of_sub {α : Type} {a b : List α} (s : Sub a b) (h : b.length = a.length) : a.Perm b := by
  obtain ⟨z, p⟩ := s
  have := p.length_eq
  rw [List.length_append] at this
  have : z = [] := List.eq_nil_of_length_eq_zero (by omega)
  subst this
  rwa [List.append_nil] at p
theorem Sub.cons {α : Type} {p : α} {a b : List α} (s : Sub a b) : Sub (p :: a) (p :: b) := .ex .here s
theorem Sub.appR {α : Type} {a b c : List α} (s : Sub a b) : Sub (a ++ c) (b ++ c) := s.append .rfl
theorem ExA.last {α : Type} {B : List α} : ExA B B [] := by unfold ExA; rw [List.append_nil]
theorem Sub.rflNil {α : Type} {B : List α} : Sub B (B ++ []) := by rw [List.append_nil]; exact .rfl
theorem Sub.lastA {α : Type} {B r r' : List α} (e : ExA B r r') : Sub B r := ⟨r', e⟩
local macro_rules | `(tactic| walk_at "exA") => `(tactic| ((repeat (first | (with_reducible exact ExA.here) | (with_reducible exact ExA.last) | (with_reducible apply ExA.thereC) | (with_reducible apply ExA.thereA))); fail_if_success (show _)))
local macro_rules | `(tactic| walk_at "pick2") => `(tactic| ((repeat (first | (with_reducible exact Sub.rfl) | (with_reducible exact Sub.rflNil) | (with_reducible exact Sub.nil) | (with_reducible refine Sub.ex (by ((repeat (first | (with_reducible exact Ex.here) | (with_reducible apply Ex.there) | (with_reducible apply Ex.thereA))); fail_if_success (show _))) ?_) | (with_reducible refine Sub.exA (by ((repeat (first | (with_reducible exact ExA.here) | (with_reducible exact ExA.last) | (with_reducible apply ExA.thereC) | (with_reducible apply ExA.thereA))); fail_if_success (show _))) ?_) | (with_reducible exact Sub.lastA (by ((repeat (first | (with_reducible exact ExA.here) | (with_reducible exact ExA.last) | (with_reducible apply ExA.thereC) | (with_reducible apply ExA.thereA))); fail_if_success (show _))))) ); fail_if_success (show _)))
/-- one above -/
structure Sp where
  x : Addr
  d : Addr
  m : Str → Option Value
  n : Nat
def Sp.mark (a : Sp) : Sp := ⟨a.x, a.d, putAt a.m "was_changed" (.bool true), a.n + 1⟩
def spCells (l : List Sp) : List (Addr × Cel) := l.map fun a => (a.d, .dct a.m a.n)
structure Sp.Ok (a : Sp) : Prop where
  was : a.m "was_changed" = none
  cg : a.m "changed" = none
  n : a.n ≤ 100
def Links (m : Str → Option Value) : List Sp → (Str → Option Value) → Prop
  | [], top => m "parent" = top "parent"
  | a :: l, top => m "parent" = some (.ref a.x) ∧ Links a.m l top
theorem Links.snoc {r : Sp} {top : Str → Option Value} : ∀ {l : List Sp} {m : Str → Option Value}, Links m l top → top "parent" = some (.ref r.x) → Links m (l ++ [r]) r.m
  | [], m, h, e => ⟨h.trans e, rfl⟩
  | a :: l, m, h, e => ⟨h.1, Links.snoc h.2 e⟩
/-- another tree at a place, and those above it marked -/
def Tr.set (V : Tr) : Tr → List Nat → Tr
  | _, [] => V
  | .leaf x d mk md fa ch m n, _ :: _ => .leaf x d mk md fa ch m n
  | .one x d mk md l m n c, 0 :: π => .one x d mk md l (putAt m "was_changed" (.bool true)) (n + 1) (Tr.set V c π)
  | .one x d mk md l m n c, (_ + 1) :: _ => .one x d mk md l m n c
  | .two x d mk md l m n c e, 0 :: π => .two x d mk md l (putAt m "was_changed" (.bool true)) (n + 1) (Tr.set V c π) e
  | .two x d mk md l m n c e, 1 :: π => .two x d mk md l (putAt m "was_changed" (.bool true)) (n + 1) c (Tr.set V e π)
  | .two x d mk md l m n c e, (_ + 2) :: _ => .two x d mk md l m n c e
theorem Tr.set_nil {V T : Tr} : Tr.set V T [] = V := by cases T <;> rfl
theorem Tr.set_x {V T U : Tr} {π : List Nat} (h : T.at? π = some U) (e : V.x = U.x) : (Tr.set V T π).x = T.x := by
  match T, π with
  | T, [] => cases h; rw [Tr.set_nil]; exact e
  | .leaf .., _ :: _ => rfl
  | .one .., 0 :: _ => rfl
  | .one .., (_ + 1) :: _ => rfl
  | .two .., 0 :: _ => rfl
  | .two .., 1 :: _ => rfl
  | .two .., (_ + 2) :: _ => rfl
theorem Tr.Ok.cg {T : Tr} {p : Plan} (h : T.Ok p) : T.m "changed" = none ∧ T.n ≤ 100 := by
  cases T <;> cases p <;> first | exact h.elim | exact ⟨h.1.cg, h.2⟩ | exact ⟨h.1.cg, h.2.1⟩
theorem spCells_snoc (l : List Sp) (r : Sp) : spCells (l ++ [r]) = spCells l ++ [(r.d, .dct r.m r.n)] := by unfold spCells; rw [List.map_append]; rfl
theorem mark_snoc (l : List Sp) (r : Sp) : (l ++ [r]).map Sp.mark = l.map Sp.mark ++ [⟨r.x, r.d, putAt r.m "was_changed" (.bool true), r.n + 1⟩] := by rw [List.map_append]; rfl
/-- the place, those above it, the rest -/
def Focus (T U : Tr) (π : List Nat) : Prop := ∃ anc Γ, Sub (U.cells ++ (spCells anc ++ Γ)) T.cells ∧ (∀ V, V.x = U.x → Sub (Tr.set V T π).cells (V.cells ++ (spCells (anc.map Sp.mark) ++ Γ))) ∧
    (∀ a ∈ anc, a.Ok) ∧ Links U.m anc T.m ∧ (∀ a ∈ anc, (a.x, Cel.ob (instObj 294 a.d)) ∈ Γ) ∧ anc.length = π.length
theorem focus_nil {T : Tr} : Focus T T [] :=
  ⟨[], [], by show Sub (_ ++ []) _; rw [List.append_nil]; exact .rfl, fun V _ => by rw [Tr.set_nil]; show Sub _ (_ ++ []); rw [List.append_nil]; exact .rfl, fun _ h => (nomatch h), rfl, fun _ h => (nomatch h), rfl⟩
theorem focus : ∀ {T U : Tr} {p : Plan} {π : List Nat}, T.at? π = some U → T.Ok p → T.Calm → Focus T U π := by
  intro T
  induction T with
  | leaf x d mk md fa ch m n =>
    intro U p π h _ _
    cases π with
    | nil => cases h; exact focus_nil
    | cons i π => exact nomatch h
  | one x d mk md l m n c ih =>
    intro U p π h hT hC
    cases π with
    | nil => cases h; exact focus_nil
    | cons i π =>
      match i, h with
      | 0, h =>
        cases p <;> first | exact hT.elim | skip
        have h : c.at? π = some U := h
        obtain ⟨anc, Γ, s1, s2, s3, s4, s5, s6⟩ := ih h hT.2.2.2 hC.2
        refine ⟨anc ++ [⟨x, d, m, n⟩], (x, .ob (instObj 294 d)) :: (mk, .ob (instObj 31 md)) :: (md, .dct (fun _ => none) 0) :: (l, .lst #[.ref c.x]) :: Γ, ?_, fun V hV => ?_, ?_, Links.snoc s4 hT.2.2.1, ?_, by simp [s6]⟩
        · refine Sub.trans ?_ (show Sub ((d, Cel.dct m n) :: (x, .ob (instObj 294 d)) :: (mk, .ob (instObj 31 md)) :: (md, .dct (fun _ => none) 0) :: (l, .lst #[.ref c.x]) :: (U.cells ++ (spCells anc ++ Γ))) _ from s1.cons.cons.cons.cons.cons)
          rw [spCells_snoc]
          simp only [List.append_assoc, List.cons_append, List.nil_append]
          walk_at "pick2"
        · have e := Tr.set_x h hV
          refine Sub.trans (show Sub _ ((d, Cel.dct (putAt m "was_changed" (.bool true)) (n + 1)) :: (x, .ob (instObj 294 d)) :: (mk, .ob (instObj 31 md)) :: (md, .dct (fun _ => none) 0) :: (l, .lst #[.ref c.x]) :: (V.cells ++ (spCells (anc.map Sp.mark) ++ Γ))) from ?_) ?_
          · have := (s2 V hV).cons (p := (l, Cel.lst #[.ref c.x])) |>.cons (p := (md, Cel.dct (fun _ => none) 0)) |>.cons (p := (mk, Cel.ob (instObj 31 md))) |>.cons (p := (x, Cel.ob (instObj 294 d))) |>.cons (p := (d, Cel.dct (putAt m "was_changed" (.bool true)) (n + 1)))
            rw [← e] at this ⊢
            exact this
          · rw [mark_snoc, spCells_snoc]
            simp only [List.append_assoc, List.cons_append, List.nil_append]
            walk_at "pick2"
        · intro a ha
          rcases List.mem_append.mp ha with ha | ha
          · exact s3 a ha
          · cases List.mem_singleton.mp ha
            exact ⟨hC.1.1, hT.1.cg, hT.2.1⟩
        · intro a ha
          rcases List.mem_append.mp ha with ha | ha
          · exact .tail _ (.tail _ (.tail _ (.tail _ (s5 a ha))))
          · cases List.mem_singleton.mp ha
            exact .head _
  | two x d mk md l m n c f ih1 ih2 =>
    intro U p π h hT hC
    cases π with
    | nil => cases h; exact focus_nil
    | cons i π =>
      match i, h with
      | 0, h =>
        cases p <;> first | exact hT.elim | skip
        have h : c.at? π = some U := h
        obtain ⟨anc, Γ, s1, s2, s3, s4, s5, s6⟩ := ih1 h hT.2.2.2.2.1 hC.2.1
        refine ⟨anc ++ [⟨x, d, m, n⟩], (x, .ob (instObj 294 d)) :: (mk, .ob (instObj 31 md)) :: (md, .dct (fun _ => none) 0) :: (l, .lst #[.ref c.x, .ref f.x]) :: (Γ ++ f.cells), ?_, fun V hV => ?_, ?_, Links.snoc s4 hT.2.2.1, ?_, by simp [s6]⟩
        · refine Sub.trans ?_ (show Sub ((d, Cel.dct m n) :: (x, .ob (instObj 294 d)) :: (mk, .ob (instObj 31 md)) :: (md, .dct (fun _ => none) 0) :: (l, .lst #[.ref c.x, .ref f.x]) :: ((U.cells ++ (spCells anc ++ Γ)) ++ f.cells)) _ from (s1.appR (c := f.cells)).cons.cons.cons.cons.cons)
          rw [spCells_snoc]
          simp only [List.append_assoc, List.cons_append, List.nil_append]
          walk_at "pick2"
        · have e := Tr.set_x h hV
          refine Sub.trans (show Sub _ ((d, Cel.dct (putAt m "was_changed" (.bool true)) (n + 1)) :: (x, .ob (instObj 294 d)) :: (mk, .ob (instObj 31 md)) :: (md, .dct (fun _ => none) 0) :: (l, .lst #[.ref c.x, .ref f.x]) :: ((V.cells ++ (spCells (anc.map Sp.mark) ++ Γ)) ++ f.cells)) from ?_) ?_
          · have := ((s2 V hV).appR (c := f.cells)).cons (p := (l, Cel.lst #[.ref c.x, .ref f.x])) |>.cons (p := (md, Cel.dct (fun _ => none) 0)) |>.cons (p := (mk, Cel.ob (instObj 31 md))) |>.cons (p := (x, Cel.ob (instObj 294 d))) |>.cons (p := (d, Cel.dct (putAt m "was_changed" (.bool true)) (n + 1)))
            rw [← e] at this ⊢
            exact this
          · rw [mark_snoc, spCells_snoc]
            simp only [List.append_assoc, List.cons_append, List.nil_append]
            walk_at "pick2"
        · intro a ha
          rcases List.mem_append.mp ha with ha | ha
          · exact s3 a ha
          · cases List.mem_singleton.mp ha
            exact ⟨hC.1.1, hT.1.cg, hT.2.1⟩
        · intro a ha
          rcases List.mem_append.mp ha with ha | ha
          · exact .tail _ (.tail _ (.tail _ (.tail _ (List.mem_append_left _ (s5 a ha)))))
          · cases List.mem_singleton.mp ha
            exact .head _
      | 1, h =>
        cases p <;> first | exact hT.elim | skip
        have h : f.at? π = some U := h
        obtain ⟨anc, Γ, s1, s2, s3, s4, s5, s6⟩ := ih2 h hT.2.2.2.2.2 hC.2.2
        refine ⟨anc ++ [⟨x, d, m, n⟩], (x, .ob (instObj 294 d)) :: (mk, .ob (instObj 31 md)) :: (md, .dct (fun _ => none) 0) :: (l, .lst #[.ref c.x, .ref f.x]) :: (Γ ++ c.cells), ?_, fun V hV => ?_, ?_, Links.snoc s4 hT.2.2.2.1, ?_, by simp [s6]⟩
        · refine Sub.trans ?_ (show Sub ((d, Cel.dct m n) :: (x, .ob (instObj 294 d)) :: (mk, .ob (instObj 31 md)) :: (md, .dct (fun _ => none) 0) :: (l, .lst #[.ref c.x, .ref f.x]) :: (c.cells ++ (U.cells ++ (spCells anc ++ Γ)))) _ from (s1.app (A := c.cells)).cons.cons.cons.cons.cons)
          rw [spCells_snoc]
          simp only [List.append_assoc, List.cons_append, List.nil_append]
          walk_at "pick2"
        · have e := Tr.set_x h hV
          refine Sub.trans (show Sub _ ((d, Cel.dct (putAt m "was_changed" (.bool true)) (n + 1)) :: (x, .ob (instObj 294 d)) :: (mk, .ob (instObj 31 md)) :: (md, .dct (fun _ => none) 0) :: (l, .lst #[.ref c.x, .ref f.x]) :: (c.cells ++ (V.cells ++ (spCells (anc.map Sp.mark) ++ Γ)))) from ?_) ?_
          · have := ((s2 V hV).app (A := c.cells)).cons (p := (l, Cel.lst #[.ref c.x, .ref f.x])) |>.cons (p := (md, Cel.dct (fun _ => none) 0)) |>.cons (p := (mk, Cel.ob (instObj 31 md))) |>.cons (p := (x, Cel.ob (instObj 294 d))) |>.cons (p := (d, Cel.dct (putAt m "was_changed" (.bool true)) (n + 1)))
            rw [← e] at this ⊢
            exact this
          · rw [mark_snoc, spCells_snoc]
            simp only [List.append_assoc, List.cons_append, List.nil_append]
            walk_at "pick2"
        · intro a ha
          rcases List.mem_append.mp ha with ha | ha
          · exact s3 a ha
          · cases List.mem_singleton.mp ha
            exact ⟨hC.1.1, hT.1.cg, hT.2.1⟩
        · intro a ha
          rcases List.mem_append.mp ha with ha | ha
          · exact .tail _ (.tail _ (.tail _ (.tail _ (List.mem_append_left _ (s5 a ha)))))
          · cases List.mem_singleton.mp ha
            exact .head _
theorem nb_Node (w : World) : findIn (KK w) (.ref 294) "__bool__" = some none := by kernel_rfl
theorem nl_Node (w : World) : findIn (KK w) (.ref 294) "__len__" = some none := by kernel_rfl
section
variable {w : World} {g0 : Heap} {gs : List Heap} {r : Shared}
theorem s_chg (G : Gl w g0) {top : Str → Option Value} (htop : top "parent" = none ∨ top "parent" = some .none) : ∀ (l : List Sp) {a : Sp} {cs : List (Addr × Cel)} {h : Heap} {t : Nat} {A : Around} {Q : Value → Shared → Prop},
    Links a.m l top → (∀ b ∈ a :: l, b.Ok) → (∀ b ∈ a :: l, Has gs cs b.x (.ob (instObj 294 b.d))) → Kn g0 gs (spCells (a :: l) ++ cs) h → Rm A (10 * l.length + 10) →
    (∀ h' t', Kn g0 gs (spCells ((a :: l).map Sp.mark) ++ cs) h' → Q .none (S r h' t')) → wpAny (model Pg w) A (call (.ref 113) [.ref a.x]) Q NoE (S r h t) := by
  intro l
  induction l with
  | nil =>
    intro a cs h t A Q hl hok hob H R K
    have hp : a.m "parent" = none ∨ a.m "parent" = some .none := by
      have : a.m "parent" = top "parent" := hl
      rw [this]; exact htop
    obtain ⟨h1, h2, h3⟩ := hok a (.head _)
    have ho := hob a (.head _)
    have H : Kn g0 gs ((a.d, .dct a.m a.n) :: cs) h := H
    refine enter G H R (n := 9) (binds := [(Str.ofString "self", .ref a.x)]) (by exact rfl) (by exact rfl) (by exact rfl) (fun s _ => BindsTo.of_eq (by exact rfl)) (by exact rfl) (by exact rfl) (by exact rfl) (by exact rfl) (by exact rfl) (by exact rfl) (by exact rfl) (by exact rfl) ?_
    intro L h₁ t₁ env A' e R H hs' hL
    dsimp only at e
    repeat walk_at "go"
    refine ⟨fun q => (by cases q), fun _ => ?_⟩
    repeat walk_at "go"
    have fin : ∀ {h : Heap} {t : Nat}, Kn g0 gs ((L, .ns fun x => List.lookup x [(Str.ofString "self", Value.ref a.x)].reverse) :: (a.d, .dct a.m a.n) :: cs) h →
       wpAny (model Pg w) A' (getAttr (.ref a.x) "parent" true) (fun v s₁ => v = .none ∧ ∃ h t, s₁ = S r h t ∧ Kn g0 gs ((L, .ns fun x => List.lookup x [(Str.ofString "self", Value.ref a.x)].reverse) :: (a.d, .dct a.m a.n) :: cs) h) NoE (S r h t) := by
      intro h t H
      rcases hp with hp | hp
      · walk_at "cls"
        exact ⟨rfl, _, _, rfl, H⟩
      · walk_at "own"
        exact ⟨rfl, _, _, rfl, H⟩
    refine wpAny_mono (fin H) (fun v s₁ q => ?_) fun _ _ q => q
    obtain ⟨rfl, h, t, rfl, H⟩ := q
    repeat walk_at "go"
    refine ⟨fun q => (by cases q), fun _ => ?_⟩
    repeat walk_at "go"
    refine wpAny_Constant_bool ?_
    repeat walk_at "go"
    rename_i H
    exact K _ _ H.drop
  | cons b l ih =>
    intro a cs h t A Q hl hok hob H R K
    obtain ⟨hp, hl⟩ := hl
    obtain ⟨h1, h2, h3⟩ := hok a (.head _)
    obtain ⟨h4, h5, h6⟩ := hok b (.tail _ (.head _))
    have ho := hob a (.head _)
    have ho2 := hob b (.tail _ (.head _))
    have H : Kn g0 gs ((a.d, .dct a.m a.n) :: (b.d, .dct b.m b.n) :: (spCells l ++ cs)) h := H
    refine enter G H (R.le (k := 10 * l.length + 20) (by simp only [List.length_cons]; omega)) (n := 10 * l.length + 19) (binds := [(Str.ofString "self", .ref a.x)]) (by exact rfl) (by exact rfl) (by exact rfl) (fun s _ => BindsTo.of_eq (by exact rfl)) (by exact rfl) (by exact rfl) (by exact rfl) (by exact rfl) (by exact rfl) (by exact rfl) (by exact rfl) (by exact rfl) ?_
    intro L h₁ t₁ env A' e R H hs' hL
    dsimp only at e
    repeat walk_at "go"
    refine ⟨fun q => (by cases q), fun _ => ?_⟩
    repeat walk_at "go"
    refine tr_inst G (by assumption) (⟨by walk_at "has", by walk_at "has"⟩ : Ins _ _ b.x 294 b.d b.m b.n) (nb_Node w) (nl_Node w) ?_
    repeat walk_at "go"
    refine ⟨fun _ => ?_, fun q => (by cases q)⟩
    repeat walk_at "go"
    refine cw0 G (by assumption) (kf_113 w) ?_
    have H2 : Kn g0 gs (spCells (b :: l) ++ ((L, .ns fun x => List.lookup x [(Str.ofString "self", Value.ref a.x)].reverse) :: (a.d, .dct a.m a.n) :: cs)) h₁ := H.pick (by
      show Sub ((b.d, Cel.dct b.m b.n) :: (spCells l ++ _)) _
      walk_at "pick2")
    refine ih hl (fun c hc => hok c (.tail _ hc)) (fun c hc => (hob c (.tail _ hc)).cons.cons) H2 (R.le (by simp only [List.length_cons] at *; omega)) fun h' t' H => ?_
    have H : Kn g0 gs ((L, .ns fun x => List.lookup x [(Str.ofString "self", Value.ref a.x)].reverse) :: (a.d, .dct a.m a.n) :: (spCells ((b :: l).map Sp.mark) ++ cs)) h' := H.pick (by walk_at "pick2")
    repeat walk_at "go"
    refine wpAny_Constant_bool ?_
    repeat walk_at "go"
    rename_i H
    exact K _ _ H.drop
end
section
variable {w : World} {g0 h : Heap} {gs : List Heap} {cs : List (Addr × Cel)} {r : Shared} {t n : Nat} {A : Around} {Q : Value → Shared → Prop}
theorem s_maps1 (G : Gl w g0) {x d : Addr} {m : Str → Option Value} {a b : Value} (hx : Ins gs cs x 294 d m n) (hm1 : m "prev_sibling_map" = some .none) (hm2 : m "next_sibling_map" = some .none) (H : Kn g0 gs cs h) (R : Rm A 5)
    (K : ∀ h' t', Kn g0 gs cs h' → Q .none (S r h' t')) : wpAny (model Pg w) A (call (.ref 277) [.ref x, a, b]) Q NoE (S r h t) := by
  have hob := hx.ob
  have hns := hx.ns
  refine enter G H R (n := 4) (binds := [(Str.ofString "self", .ref x), (Str.ofString "old", a), (Str.ofString "child", b)]) (by exact rfl) (by exact rfl) (by exact rfl) (fun s _ => BindsTo.of_eq (by exact rfl)) (by exact rfl) (by exact rfl) (by exact rfl) (by exact rfl) (by exact rfl) (by exact rfl) (by exact rfl) (by exact rfl) ?_
  intro L h₁ t₁ env A' e R H hs' hL
  dsimp only at e
  repeat walk_at "go"
  refine ⟨fun _ => ?_, fun q => (by cases q)⟩
  refine ⟨fun _ => ?_, fun q => (by cases q)⟩
  repeat walk_at "go"
  refine wpAny_Return_none ?_
  repeat walk_at "go"
  exact K _ _ (Kn.drop (by assumption))
theorem s_maps2 (G : Gl w g0) {x d : Addr} {m : Str → Option Value} {a b : Value} (hx : Ins gs cs x 294 d m n) (hm1 : m "prev_sibling_map" = some .none) (hm2 : m "next_sibling_map" = some .none) (H : Kn g0 gs cs h) (R : Rm A 5)
    (K : ∀ h' t', Kn g0 gs cs h' → Q .none (S r h' t')) : wpAny (model Pg w) A (call (.ref 284) [.ref x, a, b]) Q NoE (S r h t) := by
  have hob := hx.ob
  have hns := hx.ns
  refine enter G H R (n := 4) (binds := [(Str.ofString "self", .ref x), (Str.ofString "old", a), (Str.ofString "new_children", b)]) (by exact rfl) (by exact rfl) (by exact rfl) (fun s _ => BindsTo.of_eq (by exact rfl)) (by exact rfl) (by exact rfl) (by exact rfl) (by exact rfl) (by exact rfl) (by exact rfl) (by exact rfl) (by exact rfl) ?_
  intro L h₁ t₁ env A' e R H hs' hL
  dsimp only at e
  repeat walk_at "go"
  refine ⟨fun _ => ?_, fun q => (by cases q)⟩
  refine ⟨fun _ => ?_, fun q => (by cases q)⟩
  repeat walk_at "go"
  refine wpAny_Return_none ?_
  repeat walk_at "go"
  exact K _ _ (Kn.drop (by assumption))
end
theorem putAt_side {m : Str → Option Value} {x y : Str} {v : Value} {o : Option Value} (h : m y = o) (hxy : y ≠ x) : putAt m x v y = o := (if_neg hxy).trans h
section
variable {w : World} {g0 h : Heap} {gs : List Heap} {cs : List (Addr × Cel)} {r : Shared} {t n : Nat} {A : Around} {Q : Value → Shared → Prop}
/-- Node.set_child -/
theorem s_setc (G : Gl w g0) {top : Str → Option Value} (htop : top "parent" = none ∨ top "parent" = some .none) {x d mk l : Addr} {m : Str → Option Value} {n : Nat} {k : Int} {xs : Array Value} {O F : Tr} {anc : List Sp} {i : Nat} {ti : Tok}
    (N : NodeNs m mk l k) (hok : ∀ b ∈ (⟨x, d, m, n⟩ :: anc : List Sp), b.Ok) (hl : Links m anc top) (hob : ∀ b ∈ (⟨x, d, m, n⟩ :: anc : List Sp), Has gs cs b.x (.ob (instObj 294 b.d)))
    (hO : Has gs cs O.x (.ob (instObj O.C O.d))) (hF : Has gs cs F.x (.ob (instObj F.C F.d))) (hOn : O.n ≤ 100) (hFn : F.n ≤ 100) (hi : xs.toList[i]? = some (.ref O.x)) (hi2 : i < 2)
    (H : Kn g0 gs ((d, .dct m n) :: (l, .lst xs) :: (O.d, .dct O.m O.n) :: (F.d, .dct F.m F.n) :: (spCells anc ++ cs)) h) (R : Rm A (10 * anc.length + 30))
    (K : ∀ h' t', Kn g0 gs ((d, .dct (putAt m "was_changed" (.bool true)) (n + 1)) :: (l, .lst (xs.setIfInBounds i (.ref F.x))) :: (O.d, .dct (putAt O.m "parent" .none) (O.n + 1)) :: (F.d, .dct (putAt F.m "parent" (.ref x)) (F.n + 1)) :: (spCells (anc.map Sp.mark) ++ cs)) h' → Q .none (S r h' t')) :
    wpAny (model Pg w) A (call (.ref 235) [.ref x, .int i ti, .ref F.x]) Q NoE (S r h t) := by
  have hx := hob ⟨x, d, m, n⟩ (.head _)
  have hch := N.chl
  have hcg := N.cg
  have hr1 := N.r1
  have ok1 : SetOk w F.C "parent" := by cases F; exact se_Leaf_parent w; exact se_Node_parent w; exact se_Node_parent w
  have ok2 : SetOk w O.C "parent" := by cases O; exact se_Leaf_parent w; exact se_Node_parent w; exact se_Node_parent w
  have hxs : i < xs.size := by have := (List.getElem?_eq_some_iff.mp hi).1; simpa using this
  refine enter G H R (n := 10 * anc.length + 29) (binds := [(Str.ofString "self", .ref x), (Str.ofString "i", .int i ti), (Str.ofString "child", .ref F.x)]) (by exact rfl) (by exact rfl) (by exact rfl) (fun s _ => BindsTo.of_eq (by exact rfl)) (by exact rfl) (by exact rfl) (by exact rfl) (by exact rfl) (by exact rfl) (by exact rfl) (by exact rfl) (by exact rfl) ?_
  intro L h₁ t₁ env A' e R H hs' hL
  dsimp only at e
  repeat walk_at "go"
  refine l_at (xs := xs) (by assumption) (by walk_at "has") (by omega) (by omega) (v := .ref O.x) (by simpa using hi) ?_
  repeat walk_at "go"
  refine wpAny_Assign_Subscript ?_
  repeat walk_at "go"
  refine l_set (xs := xs) (xs' := xs.setIfInBounds i (.ref F.x)) (by assumption) (by omega) (by omega) (by walk_at "up") (by omega) (by simp) fun h' H => ?_
  repeat walk_at "go"
  refine cw0 G (by assumption) (kf_113 w) ?_
  have H : Kn g0 gs ((L, .ns _) :: (d, .dct m n) :: (l, .lst (xs.setIfInBounds i (.ref F.x))) :: (O.d, .dct (putAt O.m "parent" .none) (O.n + 1)) :: (F.d, .dct (putAt F.m "parent" (.ref x)) (F.n + 1)) :: (spCells anc ++ cs)) h' := H
  have H2 : Kn g0 gs (spCells (⟨x, d, m, n⟩ :: anc) ++ ((L, .ns _) :: (l, .lst (xs.setIfInBounds i (.ref F.x))) :: (O.d, .dct (putAt O.m "parent" .none) (O.n + 1)) :: (F.d, .dct (putAt F.m "parent" (.ref x)) (F.n + 1)) :: cs)) h' := H.pick (by
    show Sub ((d, Cel.dct m n) :: (spCells anc ++ _)) _
    walk_at "pick2")
  refine s_chg G htop anc (a := ⟨x, d, m, n⟩) hl hok (fun b hb => (hob b hb).cons.cons.cons.cons) H2 R.le fun h' t' H => ?_
  have H : Kn g0 gs ((L, .ns _) :: (d, .dct (putAt m "was_changed" (.bool true)) (n + 1)) :: (l, .lst (xs.setIfInBounds i (.ref F.x))) :: (O.d, .dct (putAt O.m "parent" .none) (O.n + 1)) :: (F.d, .dct (putAt F.m "parent" (.ref x)) (F.n + 1)) :: (spCells (anc.map Sp.mark) ++ cs)) h' := H.pick (by
    show Sub _ ((d, Cel.dct (putAt m "was_changed" (.bool true)) (n + 1)) :: (spCells (anc.map Sp.mark) ++ _))
    walk_at "pick2")
  have hr1 : putAt m "was_changed" (.bool true) "_replace_in_sibling_maps" = none := putAt_side hr1 (by decide)
  repeat walk_at "go"
  refine cw G (kf_277 w) ?_
  repeat walk_at "go"
  refine s_maps1 (d := d) (m := putAt m "was_changed" (.bool true)) (n := n + 1) G ⟨hx.app.cons.cons.cons.cons.cons, .inl (.tail _ (.head _))⟩ (putAt_side N.pm (by decide)) (putAt_side N.nm (by decide)) H R.le fun h' t' H => ?_
  repeat walk_at "go"
  exact K _ _ H.drop
end
theorem not_list (w : World) (T : Tr) : kin_notT (KK w) T.C "list" = true := by cases T; kernel_rfl; kernel_rfl; kernel_rfl
theorem not_Leaf (w : World) : kin_not (KK w) 294 374 = true := by kernel_rfl
theorem is_Leaf (w : World) : isIn (KK w) (.ref 374) 374 = true := by kernel_rfl
abbrev enumObj (it : Addr) (i : Int) (old : Value) : Obj := { cls := .type "enumerate", dict := none, data := .fields #[.none, .bool false, .ref it, rawInt i, .none, old], slots := #[] }
abbrev enumOut (it : Addr) (i : Int) (item : Value) (a : Addr) : Obj := { cls := .type "enumerate", dict := none, data := .fields #[rawInt a, .bool false, .ref it, rawInt i, .none, item], slots := #[] }
section
variable {w : World} {g0 h : Heap} {gs : List Heap} {cs cs' : List (Addr × Cel)} {r : Shared} {t n : Nat} {A : Around} {E : Value → Shared → Prop} {x C d l : Addr} {m : Str → Option Value}
theorem isi_list {Q : Value → Shared → Prop} {T : Tr} (G : Gl w g0) (H : Kn g0 gs cs h) (I : Ins gs cs T.x T.C T.d m n) (k : ∀ t', Q (.bool false) (S r h t')) : wpAny (model Pg w) A (call (.builtin "isinstance") [.ref T.x, .type "list"]) Q E (S r h t) := by
  obtain ⟨o, I', _⟩ := I.inst H
  have ok := T.cmp w
  exact kin_callT (s := S r h t) (G.of H).K I' (not_list w T) (by kernel_rfl) ok.pg ok.hd ok.at_ (sp_class w) (tk_class w) ok.mro (k _)
theorem isi_Leaf_no {Q : Value → Shared → Prop} (G : Gl w g0) (H : Kn g0 gs cs h) (I : Ins gs cs x 294 d m n) (k : ∀ t', Q (.bool false) (S r h t')) : wpAny (model Pg w) A (call (.builtin "isinstance") [.ref x, .ref 374]) Q E (S r h t) := by
  obtain ⟨o, I', _⟩ := I.inst H
  have ok := cmp_Node w
  exact kin_callC (s := S r h t) (G.of H).K I' (not_Leaf w) ok.pg ok.hd ok.at_ (sp_class w) (tk_class w) ok.mro (k _)
theorem isi_Leaf_yes {Q : Value → Shared → Prop} (G : Gl w g0) (H : Kn g0 gs cs h) (I : Ins gs cs x 374 d m n) (k : Q (.bool true) (S r h t)) : wpAny (model Pg w) A (call (.builtin "isinstance") [.ref x, .ref 374]) Q E (S r h t) := by
  obtain ⟨o, I', _⟩ := I.inst H
  exact isi_call (s := S r h t) (G.of H).K (fun M => I'.type) (is_Leaf w) (fun q => by cases q) k

theorem Kn.new2 {h' : Heap} {a b : Addr} {c c' : Cel} (H : Kn g0 gs cs h) (k : h.StaysIn h') (x : c.At h' a) (y : c'.At h' b) (ha : h.get? a = none) (hb : h.get? b = none) (hab : b ≠ a) : Kn g0 gs ((a, c) :: (b, c') :: cs) h' := by
  have H1 : Kn g0 gs ((b, c') :: cs) (hideAll h' [a]) := H.new (fun d o e => hideAll_get _ (k d o e) fun hm => by rw [List.mem_singleton.mp hm, ha] at e; cases e) (y.mono fun o e => hideAll_get _ e fun hm => hab (List.mem_singleton.mp hm)) hb
  exact H1.new (fun d o e => of_hideAll _ e) x (hide_off [a] h' (List.mem_singleton.mpr rfl))
theorem c_enum {xs : Array Value} {Q : Value → Shared → Prop} (H : Kn g0 gs cs h) (hl : Has gs cs l (.lst xs)) (k : ∀ e it h', Kn g0 gs ((e, .ob (enumObj it 0 .none)) :: (it, .lit l 0) :: cs) h' → Q (.ref e) (S r h' t)) :
    wpAny (model Pg w) A (call (.type "enumerate") [.ref l]) Q E (S r h t) :=
  call_enumerate_list (s := S r h t) (hl.at H) fun h' h1 h2 _ h4 => k _ _ h' (H.new2 (c := .ob _) (c' := .lit l 0) h4 h1 h2 lt_none (none_of_stays fun _ _ e => e) (Nat.ne_of_lt (Nat.lt_succ_self _)))
theorem i_enum {e it : Addr} {i : Int} {old : Value} {Q : Value → Shared → Prop} (H : Kn g0 gs cs h) (m : (e, Cel.ob (enumObj it i old)) ∈ cs) (k : Q (.ref e) (S r h t)) : wpAny (model Pg w) A (pyIter (.ref e)) Q E (S r h t) :=
  wpAny_pyIter_enum (s := S r h t) (H.ob m) k
theorem Kn.apart {a b : Addr} {c c' : Cel} (H : Kn g0 gs ((a, c) :: (b, c') :: cs) h) : b ≠ a := fun q => (List.nodup_cons.mp H.nd).1 (by rw [← q]; exact List.mem_cons_self ..)
theorem e_next {xs : Array Value} {e it : Addr} {i : Nat} {old y : Value} {Q : Option Value → Shared → Prop} (H : Kn g0 gs ((e, .ob (enumObj it i old)) :: (it, .lit l i) :: cs) h) (hl : Has gs cs l (.lst xs)) (hx : xs[i]? = some y)
    (k : ∀ T h' t' tk, Kn g0 gs ((T, .tup #[.int i tk, y]) :: (e, .ob (enumOut it ((i : Int) + 1) y T)) :: (it, .lit l (i + 1)) :: cs) h' → Q (some (.ref T)) (S r h' t')) : wpAny (model Pg w) A (pyNext (.ref e)) Q E (S r h t) := by
  have hne : e ≠ it := Ne.symm H.apart
  refine wpAny_pyNext_enum_item (s := S r h t) (H.ob (.head _)) (H.lit (.tail _ (.head _))) (hl.cons.cons.at H) hx hne fun h' h1 h2 h3 _ h5 => ?_
  have H2 : Kn g0 gs cs (hideAll h [e, it]) := by
    have H1 := H.hide
    have := H1.hide
    refine this.stays fun b o q => ?_
    have q1 := of_hideAll _ q
    have q2 := of_hideAll _ q1
    refine hideAll_get _ q2 fun hm => ?_
    rcases List.mem_cons.mp hm with rfl | hm
    · rw [hide_off [b] h (List.mem_singleton.mpr rfl)] at q1; cases q1
    · rw [List.mem_singleton.mp hm, hide_off [it] _ (List.mem_singleton.mpr rfl)] at q; cases q
  have stay : (hideAll h [e, it]).StaysIn h' := fun b o q => h5 b o (fun hb => by rw [hb, hide_off [e, it] h (.head _)] at q; cases q) (fun hb => by rw [hb, hide_off [e, it] h (.tail _ (.head _))] at q; cases q) (of_hideAll _ q)
  have hT : h.get? h.objs.size = none := none_of_stays fun _ _ e => e
  have e1 : e < h.objs.size := Heap.lt_size (H.ob (.head _))
  have e2 : it < h.objs.size := (H.at_ _ (.tail _ (.head _))).lt
  have hn : ∀ a, h.get? a = none → (hideAll h [e, it]).get? a = none := fun a ha => by
    cases q : (hideAll h [e, it]).get? a with
    | none => rfl
    | some o => rw [of_hideAll _ q] at ha; cases ha
  have H3 : Kn g0 gs ((e, .ob (enumOut it ((i : Int) + 1) y h.objs.size)) :: (it, .lit l (i + 1)) :: cs) (hideAll h' [h.objs.size]) := by
    refine H2.new2 (fun b o q => hideAll_get _ (stay b o q) fun hm => ?_) (hideAll_get _ h1 fun hm => absurd (List.mem_singleton.mp hm) (Nat.ne_of_lt e1)) (Cel.At.mono (c := .lit l (i + 1)) (fun o q => hideAll_get _ q fun hm => absurd (List.mem_singleton.mp hm) (Nat.ne_of_lt e2)) h2) (hide_off _ _ (.head _)) (hide_off _ _ (.tail _ (.head _))) (Ne.symm hne)
    rw [List.mem_singleton.mp hm, hn _ hT] at q; cases q
  exact k _ h' _ _ (H3.new (fun b o q => of_hideAll _ q) (c := .tup _) ⟨_, h3, rfl, _, rfl⟩ (hide_off _ _ (.head _)))
theorem e_go {elts : List Expr} {j : Nat} {pos : Pos} {T e it : Addr} {i : Int} {y : Value} {c : Cel} {Q : Unit → Shared → Prop} (H : Kn g0 gs ((T, c) :: (e, .ob (enumOut it i y T)) :: cs) h)
    (k : ∀ h', Kn g0 gs ((T, c) :: (e, .ob (enumObj it i y)) :: cs) h' → Q () (S r h' t)) : wpAny (model Pg w) A (letOwnedTupleGo (.Tuple elts j pos) (.ref e) (.ref T)) Q E (S r h t) :=
  wpAny_letOwnedTupleGo_enum (s := S r h t) (H.ob (.tail _ (.head _))) fun h' he hs => k h' (H.upS (.there .here) hs he)
end
section
variable {w : World} {g0 h : Heap} {gs : List Heap} {cs : List (Addr × Cel)} {r : Shared} {t n : Nat} {A : Around} {env : Env}
theorem x_cut {Q : Flow → Shared → Prop} {st : Stmt} {s : Shared} (M : Shared → Prop) (k1 : wpAny (model Pg w) A (exec st env) (fun f s => f = .next ∧ M s) NoE s) (k2 : ∀ s', M s' → Q .next s') : wpAny (model Pg w) A (exec st env) Q NoE s :=
  wpAny_mono k1 (fun f s' q => by obtain ⟨rfl, q⟩ := q; exact k2 s' q) fun _ _ q => q
theorem for_find {elts : List Expr} {j0 : Nat} {pos : Pos} {body orelse : List Stmt} {R : Result → Shared → Prop} {l e it : Addr} {xs : Array Value} (i : Nat) (csf : (Str → Option Value) → List (Addr × Cel)) (J : (Str → Option Value) → Prop)
    (hl : ∀ m, Has gs (csf m) l (.lst xs)) (hi : i < xs.size)
    (step : ∀ j y m T tk h t, xs[j]? = some y → j ≤ i → J m → Kn g0 gs ((T, .tup #[.int (j : Nat) tk, y]) :: (e, .ob (enumObj it ((j + 1 : Nat) : Int) y)) :: (it, .lit l (j + 1)) :: csf m) h →
      wpAny (model Pg w) A (assign (.Tuple elts j0 pos) env (.ref T)) (fun _ s₂ => wpAny (model Pg w) A (execs body env) (fun f s₃ =>
        (j < i → f = .next ∧ ∃ m' h t, s₃ = S r h t ∧ J m' ∧ Kn g0 gs ((e, .ob (enumObj it ((j + 1 : Nat) : Int) y)) :: (it, .lit l (j + 1)) :: csf m') h) ∧ (j = i → f = .brk ∧ R (.ok .next) s₃)) NoE s₂) NoE (S r h t)) :
    ∀ (k j : Nat) (m : Str → Option Value) (old : Value) (h : Heap) (t : Nat), i - j = k → j ≤ i → J m → Kn g0 gs ((e, .ob (enumObj it (j : Nat) old)) :: (it, .lit l j) :: csf m) h →
      codeAny (model Pg w) A (.forLoop (.Tuple elts j0 pos) (.ref e) body orelse env) R (S r h t) := by
  intro k
  induction k with
  | zero =>
    intro j m old h t hk hj hJ H
    have hx : xs[j]? = some (xs[j]'(by omega)) := Array.getElem?_eq_getElem (by omega)
    refine for_turn (e_next H (hl m) hx fun T h' t' tk H => ?_)
    refine e_go H fun h' H => ?_
    refine wpAny_mono (step j _ m T tk h' t' hx hj hJ H) (fun _ s₂ q => wpAny_mono q (fun f s₃ q => ?_) fun _ _ q => q) fun _ _ q => q
    obtain ⟨rfl, q2⟩ := q.2 (by omega)
    exact q2
  | succ k ih =>
    intro j m old h t hk hj hJ H
    have hx : xs[j]? = some (xs[j]'(by omega)) := Array.getElem?_eq_getElem (by omega)
    refine for_turn (e_next H (hl m) hx fun T h' t' tk H => ?_)
    refine e_go H fun h' H => ?_
    refine wpAny_mono (step j _ m T tk h' t' hx hj hJ H) (fun _ s₂ q => wpAny_mono q (fun f s₃ q => ?_) fun _ _ q => q) fun _ _ q => q
    obtain ⟨rfl, m', h'', t'', rfl, hJ', H'⟩ := q.1 (by omega)
    show codeAny _ _ _ _ _
    exact ih (j + 1) m' _ h'' t'' (by omega) (by omega) hJ' H'
end
section
variable {w : World} {g0 h : Heap} {gs : List Heap} {cs : List (Addr × Cel)} {r : Shared} {t n : Nat} {A : Around} {Q : Value → Shared → Prop}
theorem Links.put {m top : Str → Option Value} {l : List Sp} {y : Str} {v : Value} (h : Links m l top) (hy : (Str.ofString "parent") ≠ y) : Links (putAt m y v) l top := by
  cases l with
  | nil => exact (putAt_other hy).trans h
  | cons a l => exact ⟨(putAt_other hy).trans h.1, h.2⟩
/-- Base.replace -/
theorem s_repl (G : Gl w g0) {top : Str → Option Value} (htop : top "parent" = none ∨ top "parent" = some .none) {x d mk l : Addr} {m : Str → Option Value} {n : Nat} {k : Int} {xs A0 B0 : Array Value} {O F : Tr} {anc : List Sp} {i : Nat}
    (N : NodeNs m mk l k) (hok : ∀ b ∈ (⟨x, d, m, n⟩ :: anc : List Sp), b.Ok) (hl : Links m anc top) (hob : ∀ b ∈ (⟨x, d, m, n⟩ :: anc : List Sp), Has gs cs b.x (.ob (instObj 294 b.d)))
    (hO : Has gs cs O.x (.ob (instObj O.C O.d))) (hF : Has gs cs F.x (.ob (instObj F.C F.d))) (hOn : O.n ≤ 100) (hFn : F.n ≤ 100) (hi : xs.toList[i]? = some (.ref O.x)) (hi2 : i < 2) (hOp : O.m "parent" = some (.ref x))
    (hne : ∀ j < i, ∃ c o, xs.toList[j]? = some (.ref c) ∧ c ≠ O.x ∧ Has gs cs c (.ob o) ∧ o.cls ≠ .type "tuple") (hxz : xs.size ≤ 10)
    (hA : slicePick xs none (some (i : Int)) none = A0) (hB : slicePick xs (some ((i : Int) + 1)) none none = B0) (hAz : A0.size ≤ 10) (hBz : B0.size ≤ 10) (hnn : n ≤ 90)
    (H : Kn g0 gs ((d, .dct m n) :: (l, .lst xs) :: (O.d, .dct O.m O.n) :: (F.d, .dct F.m F.n) :: (spCells anc ++ cs)) h) (R : Rm A (10 * anc.length + 30))
    (K : ∀ l2 h' t', Kn g0 gs ((d, .dct (putAt (putAt m "children" (.ref l2)) "was_changed" (.bool true)) (n + 1 + 1)) :: (l2, .lst (A0 ++ #[Value.ref F.x] ++ B0)) :: (O.d, .dct (putAt O.m "parent" .none) (O.n + 1)) :: (F.d, .dct (putAt F.m "parent" (.ref x)) (F.n + 1)) :: (spCells (anc.map Sp.mark) ++ cs)) h' → Q .none (S r h' t')) :
    wpAny (model Pg w) A (call (.ref 99) [.ref O.x, .ref F.x]) Q NoE (S r h t) := by
  have hx := hob ⟨x, d, m, n⟩ (.head _)
  have hch := N.chl
  have hcg := N.cg
  have hr2 := N.r2
  have ok1 : SetOk w F.C "parent" := by cases F; exact se_Leaf_parent w; exact se_Node_parent w; exact se_Node_parent w
  have ok2 : SetOk w O.C "parent" := by cases O; exact se_Leaf_parent w; exact se_Node_parent w; exact se_Node_parent w
  have ok3 : OwnOk w O.C "parent" := O.own_parent w
  have hxi : i < xs.size := by have := (List.getElem?_eq_some_iff.mp hi).1; simpa using this
  refine enter G H R (n := 10 * anc.length + 29) (binds := [(Str.ofString "self", .ref O.x), (Str.ofString "new", .ref F.x)]) (by exact rfl) (by exact rfl) (by exact rfl) (fun s _ => BindsTo.of_eq (by exact rfl)) (by exact rfl) (by exact rfl) (by exact rfl) (by exact rfl) (by exact rfl) (by exact rfl) (by exact rfl) (by exact rfl) ?_
  intro L h₁ t₁ env A' e R H hs' hL
  dsimp only at e
  repeat walk_at "go"
  refine ⟨by exact rfl, ?_⟩
  repeat walk_at "go"
  refine ⟨by exact rfl, ?_⟩
  repeat walk_at "go"
  walk_at "isinstance"
  refine isi_list (T := F) G (by assumption) ⟨by walk_at "has", by walk_at "has"⟩ fun t' => ?_
  repeat walk_at "go"
  refine ⟨fun _ => ?_, fun q => (by cases q)⟩
  repeat walk_at "go"
  refine ⟨sz, _, _, _, _, rfl, by assumption, fun ln h' H hs => ?_⟩
  repeat walk_at "go"
  refine x_cut (fun s' => ∃ mL h t, s' = S r h t ∧ mL "self" = some (.ref O.x) ∧ mL "new" = some (.ref ln) ∧ mL "parent" = some (.ref x) ∧ (∃ tk, mL "i" = some (.int i tk)) ∧ Kn g0 gs ((ln, .lst #[.ref F.x]) :: (L, .ns mL) :: (d, .dct m n) :: (l, .lst xs) :: (O.d, .dct O.m O.n) :: (F.d, .dct F.m F.n) :: (spCells anc ++ cs)) h) ?_ ?_
  · refine x_for ?_
    walk_at "enumerate"
    refine c_enum (by assumption) (by walk_at "has") fun ee it h' H => ?_
    repeat walk_at "go"
    refine i_enum H (.head _) ?_
    refine for_find (l := l) (xs := xs) i (fun mL => (ln, .lst #[.ref F.x]) :: (L, .ns mL) :: (d, .dct m n) :: (l, .lst xs) :: (O.d, .dct O.m O.n) :: (F.d, .dct F.m F.n) :: (spCells anc ++ cs)) (fun mL => mL "self" = some (.ref O.x) ∧ mL "new" = some (.ref ln) ∧ mL "parent" = some (.ref x))
      (fun mL => by walk_at "has") hxi ?_ i 0 _ .none _ _ rfl (Nat.zero_le _) ⟨by exact rfl, by exact rfl, by exact rfl⟩ H
    rintro j y mL T tk h t hy hj ⟨e1, e2, e3⟩ H
    repeat walk_at "go"
    rename_i H
    by_cases hji : j = i
    · subst hji
      obtain rfl : y = .ref O.x := by
        have h1 : xs.toList[j]? = some y := by rw [← hy, Array.getElem?_toList]
        rw [hi] at h1; exact (Option.some.inj h1).symm
      refine wpAny_is_ref_self ?_
      repeat walk_at "go"
      refine ⟨fun _ => ?_, fun q => (by cases q)⟩
      repeat walk_at "go"
      refine wpAny_Break ?_
      refine seq_brk ?_
      refine ⟨fun q => absurd q (Nat.lt_irrefl _), fun _ => ⟨rfl, ?_⟩⟩
      refine ⟨rfl, _, _, _, rfl, ?_, ?_, ?_, ⟨tk, ?_⟩, H.drop.drop.drop⟩
      · exact e1
      · exact e2
      · exact e3
      · exact rfl
    · have hlt : j < i := by omega
      obtain ⟨c, o, h1, h2, h3, h4⟩ := hne j hlt
      obtain rfl : y = .ref c := by
        have h1' : xs.toList[j]? = some y := by rw [← hy, Array.getElem?_toList]
        rw [h1] at h1'; exact (Option.some.inj h1').symm
      refine wpAny_is_ref_other h2 (Has.at H h3.app.cons.cons.cons.cons.cons.cons.cons.cons.cons) (Has.at H hO.app.cons.cons.cons.cons.cons.cons.cons.cons.cons) h4 ?_
      repeat walk_at "go"
      refine ⟨fun q => (by cases q), fun _ => ?_⟩
      repeat walk_at "go"
      refine ⟨fun _ => ⟨rfl, _, _, _, rfl, ⟨?_, ?_, ?_⟩, H.drop⟩, fun q => absurd q hji⟩
      · exact e1
      · exact e2
      · exact e3
  · rintro s' ⟨mL, h, t, rfl, e1, e2, e3, ⟨tk, e4⟩, H⟩
    repeat walk_at "go"
    refine cw G (kf_284 w) ?_
    repeat walk_at "go"
    refine s_maps2 (d := d) (m := m) (n := n) G ⟨hx.app.cons.cons.cons.cons.cons.cons, .inl (.tail _ (.tail _ (.head _)))⟩ N.pm N.nm H R.le fun h' t' H => ?_
    repeat walk_at "go"
    refine ⟨_, _, _, _, rfl, by assumption, fun sl h' H hs => ?_⟩
    repeat walk_at "go"
    refine l_slice (xs := xs) (lo := none) (hi := some (i : Int)) H (by walk_at "has") (.head _) .none (.int _ _) (by omega) fun a1 h' H hs => ?_
    rw [hA] at H
    repeat walk_at "go"
    refine b_addL (xs := A0) (ys := #[.ref F.x]) H (H.lst (.head _)) (Has.at (c := .lst #[.ref F.x]) H (by walk_at "has")) (by simp; omega) fun a2 h' H hs => ?_
    repeat walk_at "go"
    refine ⟨_, _, _, _, rfl, by assumption, fun sl2 h' H hs => ?_⟩
    repeat walk_at "go"
    refine l_slice (xs := xs) (lo := some ((i : Int) + 1)) (hi := none) H (by walk_at "has") (.head _) (.int _ _) .none (by omega) fun a3 h' H hs => ?_
    rw [hB] at H
    repeat walk_at "go"
    refine b_addL (xs := A0 ++ #[Value.ref F.x]) (ys := B0) H (Has.at (a := a2) (c := .lst (A0 ++ #[Value.ref F.x])) H (by walk_at "has")) (H.lst (.head _)) (by simp; omega) fun l2 h' H hs => ?_
    have H : Kn g0 gs ((l2, .lst (A0 ++ #[Value.ref F.x] ++ B0)) :: (ln, .lst #[.ref F.x]) :: (L, .ns _) :: (d, .dct m n) :: (O.d, .dct O.m O.n) :: (F.d, .dct F.m F.n) :: (spCells anc ++ cs)) h' := H.pick (by walk_at "pick2")
    repeat walk_at "go"
    refine cw0 G (by assumption) (kf_113 w) ?_
    rename_i H
    have H : Kn g0 gs ((l2, .lst (A0 ++ #[Value.ref F.x] ++ B0)) :: (ln, .lst #[.ref F.x]) :: (L, .ns _) :: (d, .dct (putAt m "children" (.ref l2)) (n + 1)) :: (O.d, .dct O.m O.n) :: (F.d, .dct F.m F.n) :: (spCells anc ++ cs)) _ := H
    have H2 : Kn g0 gs (spCells (⟨x, d, putAt m "children" (.ref l2), n + 1⟩ :: anc) ++ ((L, .ns _) :: (l2, .lst (A0 ++ #[Value.ref F.x] ++ B0)) :: (ln, .lst #[.ref F.x]) :: (O.d, .dct O.m O.n) :: (F.d, .dct F.m F.n) :: cs)) _ := H.pick (by
      show Sub ((d, Cel.dct (putAt m "children" (.ref l2)) (n + 1)) :: (spCells anc ++ _)) _
      walk_at "pick2")
    refine s_chg G htop anc (a := ⟨x, d, putAt m "children" (.ref l2), n + 1⟩) (hl.put (by decide)) (fun b hb => ?_) (fun b hb => ?_) H2 R.le fun h' t' H => ?_
    · rcases List.mem_cons.mp hb with rfl | hb
      · have := hok _ (.head _)
        exact ⟨(putAt_other (m := m) (x := "children") (y := "was_changed") (v := .ref l2) (by decide)).trans this.was, (putAt_other (m := m) (x := "children") (y := "changed") (v := .ref l2) (by decide)).trans this.cg, by show n + 1 ≤ 100; omega⟩
      · exact hok b (.tail _ hb)
    · rcases List.mem_cons.mp hb with rfl | hb
      · exact hx.cons.cons.cons.cons.cons
      · exact (hob b (.tail _ hb)).cons.cons.cons.cons.cons
    have H : Kn g0 gs ((ln, .lst #[.ref F.x]) :: (L, .ns _) :: (d, .dct (putAt (putAt m "children" (.ref l2)) "was_changed" (.bool true)) (n + 1 + 1)) :: (l2, .lst (A0 ++ #[Value.ref F.x] ++ B0)) :: (O.d, .dct O.m O.n) :: (F.d, .dct F.m F.n) :: (spCells (anc.map Sp.mark) ++ cs)) h' := H.pick (by
      show Sub _ ((d, Cel.dct (putAt (putAt m "children" (.ref l2)) "was_changed" (.bool true)) (n + 1 + 1)) :: (spCells (anc.map Sp.mark) ++ _))
      walk_at "pick2")
    repeat walk_at "go"
    refine x_for ?_
    repeat walk_at "go"
    refine itL H (.inl (.head _)) fun I h' H hs => ?_
    have X := src_list (w := w) R.hd I ln #[Value.ref F.x]
    refine for_turn (X.item 0 r h' _ _ (by show 0 < 1; decide) (H.lit (.head _)) (H.lst (.tail _ (.head _))) fun v h' t' hv hc hs => ?_)
    cases hv
    have H : Kn g0 gs ((I, .lit ln 1) :: _) h' := H.upS .here hs hc
    refine go_name ?_
    repeat walk_at "go"
    rename_i H
    refine for_turn (X.done r _ _ _ (H.lit (.head _)) (H.lst (.tail _ (.head _))) fun h' t' hs => ?_)
    have H := H.loseE hs
    repeat walk_at "go"
    rename_i H
    exact K _ _ _ H.drop.drop
end
theorem Tr.x_tail (T : Tr) : (T.x, Cel.ob (instObj T.C T.d)) ∈ T.tail := by cases T <;> exact .head _
theorem Tr.at_ok {T U : Tr} {p : Plan} {π : List Nat} (h : T.at? π = some U) (hT : T.Ok p) : ∃ q, p.at? π = some q ∧ U.Ok q := by
  induction π generalizing T p with
  | nil => cases h; exact ⟨p, rfl, hT⟩
  | cons i π ih =>
    unfold Tr.at? at h
    split at h
    · rename_i V hV
      obtain ⟨_, _, _, _, hk, _⟩ := hT.children
      obtain ⟨q, hq, hqo⟩ := hk.get' hV
      obtain ⟨q', h1, h2⟩ := ih h hqo
      refine ⟨q', ?_, h2⟩
      unfold Plan.at?
      rw [hq]; exact h1
    · cases h
theorem Tr.Calm.kid {T : Tr} (h : T.Calm) : ∀ k ∈ T.kids, k.Calm := by
  intro k hk
  cases T with
  | leaf => nomatch hk
  | one => cases List.mem_singleton.mp hk; exact h.2
  | two =>
    rcases List.mem_cons.mp hk with rfl | hk
    · exact h.2.1
    · cases List.mem_singleton.mp hk; exact h.2.2
theorem Tr.at_calm {T U : Tr} {π : List Nat} (h : T.at? π = some U) (hT : T.Calm) : U.Calm := by
  induction π generalizing T with
  | nil => cases h; exact hT
  | cons i π ih =>
    unfold Tr.at? at h
    split at h
    · rename_i V hV
      exact ih h (hT.kid V (List.mem_of_getElem? hV))
    · cases h
/-- a node with other names and another child -/
def Tr.re (U : Tr) (l' : Addr) (m' : Str → Option Value) (n' : Nat) (F : Tr) (i : Nat) : Tr := match U, i with
  | .leaf x d mk md fa ch m n, _ => .leaf x d mk md fa ch m n
  | .one x d mk md _ _ _ _, _ => .one x d mk md l' m' n' F
  | .two x d mk md _ _ _ _ e, 0 => .two x d mk md l' m' n' F e
  | .two x d mk md _ _ _ c _, _ + 1 => .two x d mk md l' m' n' c F
structure Split (U : Tr) (i : Nat) (O : Tr) (l : Addr) (xs A0 B0 : Array Value) (W : List (Addr × Cel)) : Prop where
  s1 : Sub ((U.d, .dct U.m U.n) :: (l, .lst xs) :: (O.cells ++ W)) U.cells
  s2 : ∀ l' m' n' F, Sub (U.re l' m' n' F i).cells ((U.d, .dct m' n') :: (l', .lst (xs.setIfInBounds i (.ref F.x))) :: (F.cells ++ W))
  at_ : xs.toList[i]? = some (.ref O.x)
  z : xs.size ≤ 2
  i2 : i < 2
  ob : (U.x, Cel.ob (instObj 294 U.d)) ∈ W
  hA : slicePick xs none (some (i : Int)) none = A0
  hB : slicePick xs (some ((i : Int) + 1)) none none = B0
  hAz : A0.size ≤ 10
  hBz : B0.size ≤ 10
  hAB : ∀ v, A0 ++ #[v] ++ B0 = xs.setIfInBounds i v
  oth : ∀ j < i, ∃ (c : Addr) (o : Obj), xs.toList[j]? = some (.ref c) ∧ (c, Cel.ob o) ∈ W ∧ o.cls ≠ .type "tuple"
theorem pick_from1 (a b : Value) : slicePick #[a, b] (some (((0 : Nat) : Int) + 1)) none none = #[b] := by
  have e : sliceRange (sliceBounds (some (((0 : Nat) : Int) + 1)) none none 2).1 (sliceBounds (some (((0 : Nat) : Int) + 1)) none none 2).2.1 (sliceBounds (some (((0 : Nat) : Int) + 1)) none none 2).2.2 = [1] := by decide
  unfold slicePick
  show (List.filterMap (fun x => #[a, b][x]?) (sliceRange (sliceBounds (some (((0 : Nat) : Int) + 1)) none none 2).1 (sliceBounds (some (((0 : Nat) : Int) + 1)) none none 2).2.1 (sliceBounds (some (((0 : Nat) : Int) + 1)) none none 2).2.2)).toArray = #[b]
  rw [e]; rfl
theorem Tr.Ok.split {U O : Tr} {p : Plan} {i : Nat} (hU : U.Ok p) (hi : U.kids[i]? = some O) : ∃ l xs A0 B0 W, U.m "children" = some (.ref l) ∧ Split U i O l xs A0 B0 W := by
  cases U <;> cases p <;> first | exact hU.elim | skip
  · exact absurd hi (by show ([] : List Tr)[i]? ≠ some O; simp)
  · rename_i x d mk md l m n c k pc
    match i, hi with
    | 0, hi =>
      obtain rfl : c = O := Option.some.inj hi
      refine ⟨l, #[.ref c.x], #[], #[], [(x, .ob (instObj 294 d)), (mk, .ob (instObj 31 md)), (md, .dct (fun _ => none) 0)], hU.1.chl, ?_, fun l' m' n' F => ?_, rfl, (by show 1 ≤ 2; decide), by decide, .head _, rfl, rfl, by decide, by decide, fun v => rfl, fun j hj => by omega⟩
      · show Sub ((d, Cel.dct m n) :: (l, .lst #[.ref c.x]) :: (c.cells ++ [(x, .ob (instObj 294 d)), (mk, .ob (instObj 31 md)), (md, .dct (fun _ => none) 0)])) ((d, Cel.dct m n) :: (x, .ob (instObj 294 d)) :: (mk, .ob (instObj 31 md)) :: (md, .dct (fun _ => none) 0) :: (l, .lst #[.ref c.x]) :: c.cells)
        walk_at "pick2"
      · show Sub ((d, Cel.dct m' n') :: (x, .ob (instObj 294 d)) :: (mk, .ob (instObj 31 md)) :: (md, .dct (fun _ => none) 0) :: (l', .lst #[.ref F.x]) :: F.cells) ((d, Cel.dct m' n') :: (l', .lst #[.ref F.x]) :: (F.cells ++ [(x, .ob (instObj 294 d)), (mk, .ob (instObj 31 md)), (md, .dct (fun _ => none) 0)]))
        walk_at "pick2"
    | i + 1, hi => exact nomatch hi
  · rename_i x d mk md l m n c f k pc pf
    match i, hi with
    | 0, hi =>
      obtain rfl : c = O := Option.some.inj hi
      refine ⟨l, #[.ref c.x, .ref f.x], #[], #[.ref f.x], (x, .ob (instObj 294 d)) :: (mk, .ob (instObj 31 md)) :: (md, .dct (fun _ => none) 0) :: f.cells, hU.1.chl, ?_, fun l' m' n' F => ?_, rfl, (by show 2 ≤ 2; decide), by decide, .head _, rfl, pick_from1 _ _, by decide, by show 1 ≤ 10; decide, fun v => rfl, fun j hj => by omega⟩
      · show Sub ((d, Cel.dct m n) :: (l, .lst #[.ref c.x, .ref f.x]) :: (c.cells ++ ((x, .ob (instObj 294 d)) :: (mk, .ob (instObj 31 md)) :: (md, .dct (fun _ => none) 0) :: f.cells))) ((d, Cel.dct m n) :: (x, .ob (instObj 294 d)) :: (mk, .ob (instObj 31 md)) :: (md, .dct (fun _ => none) 0) :: (l, .lst #[.ref c.x, .ref f.x]) :: (c.cells ++ f.cells))
        walk_at "pick2"
      · show Sub ((d, Cel.dct m' n') :: (x, .ob (instObj 294 d)) :: (mk, .ob (instObj 31 md)) :: (md, .dct (fun _ => none) 0) :: (l', .lst #[.ref F.x, .ref f.x]) :: (F.cells ++ f.cells)) ((d, Cel.dct m' n') :: (l', .lst #[.ref F.x, .ref f.x]) :: (F.cells ++ ((x, .ob (instObj 294 d)) :: (mk, .ob (instObj 31 md)) :: (md, .dct (fun _ => none) 0) :: f.cells)))
        walk_at "pick2"
    | 1, hi =>
      obtain rfl : f = O := Option.some.inj hi
      refine ⟨l, #[.ref c.x, .ref f.x], #[.ref c.x], #[], (x, .ob (instObj 294 d)) :: (mk, .ob (instObj 31 md)) :: (md, .dct (fun _ => none) 0) :: c.cells, hU.1.chl, ?_, fun l' m' n' F => ?_, rfl, (by show 2 ≤ 2; decide), by decide, .head _, rfl, rfl, by show 1 ≤ 10; decide, by decide, fun v => rfl, fun j hj => ?_⟩
      · show Sub ((d, Cel.dct m n) :: (l, .lst #[.ref c.x, .ref f.x]) :: (f.cells ++ ((x, .ob (instObj 294 d)) :: (mk, .ob (instObj 31 md)) :: (md, .dct (fun _ => none) 0) :: c.cells))) ((d, Cel.dct m n) :: (x, .ob (instObj 294 d)) :: (mk, .ob (instObj 31 md)) :: (md, .dct (fun _ => none) 0) :: (l, .lst #[.ref c.x, .ref f.x]) :: (c.cells ++ f.cells))
        walk_at "pick2"
      · show Sub ((d, Cel.dct m' n') :: (x, .ob (instObj 294 d)) :: (mk, .ob (instObj 31 md)) :: (md, .dct (fun _ => none) 0) :: (l', .lst #[.ref c.x, .ref F.x]) :: (c.cells ++ F.cells)) ((d, Cel.dct m' n') :: (l', .lst #[.ref c.x, .ref F.x]) :: (F.cells ++ ((x, .ob (instObj 294 d)) :: (mk, .ob (instObj 31 md)) :: (md, .dct (fun _ => none) 0) :: c.cells)))
        walk_at "pick2"
      · obtain rfl : j = 0 := by omega
        exact ⟨c.x, _, rfl, .tail _ (.tail _ (.tail _ c.x_mem)), fun q => by cases q⟩
    | i + 2, hi => exact nomatch hi
theorem Tr.re_x (U : Tr) (l' : Addr) (m' : Str → Option Value) (n' : Nat) (F : Tr) (i : Nat) : (U.re l' m' n' F i).x = U.x := by
  cases U <;> cases i <;> rfl
theorem NodeNs.put_children {m : Str → Option Value} {mk l k} (N : NodeNs m mk l k) (l2 : Addr) : NodeNs (putAt m "children" (.ref l2)) mk l2 k := by
  have o : ∀ y : Str, y ≠ "children" → putAt m "children" (.ref l2) y = m y := fun y h => putAt_other h
  refine ⟨?_, ?_, putAt_self _ _ _, ?_, ?_, ?_, ?_, ?_, ?_, ?_, ?_, ?_, ?_, ?_⟩ <;> rw [o _ (by decide)]
  · exact N.mark
  · exact N.typ
  · exact N.fix
  · exact N.pm
  · exact N.nm
  · exact N.eq
  · exact N.cl
  · exact N.lv
  · exact N.rp
  · exact N.cg
  · exact N.sc
  · exact N.r1
  · exact N.r2
/-- the names behind the change -/
structure NewNs (U : Tr) (k : Int) (m' : Str → Option Value) (l' : Addr) (n' : Nat) : Prop where
  ns : NodeNs m' U.mk l' k
  was : m' "was_changed" = some (.bool true)
  par : m' "parent" = U.m "parent"
  n : n' ≤ 60
theorem keys_apart {A B : List (Addr × Cel)} {a b : Addr} {c c' : Cel} (nd : ((A ++ B).map (·.1)).Nodup) (h1 : (a, c) ∈ A) (h2 : (b, c') ∈ B) : a ≠ b := by
  rintro rfl
  rw [List.map_append] at nd
  exact (List.nodup_append.mp nd).2.2 _ (List.mem_map.mpr ⟨_, h1, rfl⟩) _ (List.mem_map.mpr ⟨_, h2, rfl⟩) rfl
section
variable {w : World} {g0 h : Heap} {gs : List Heap} {cs : List (Addr × Cel)} {r : Shared} {t : Nat} {A : Around} {Q : Value → Shared → Prop}
theorem mut_in {T U O F : Tr} {π : List Nat} {i : Nat} {l : Addr} {xs A0 B0 : Array Value} {W Γ : List (Addr × Cel)} {anc : List Sp} (X : Split U i O l xs A0 B0 W) (f1 : Sub (U.cells ++ (spCells anc ++ Γ)) T.cells)
    (H : Kn g0 gs (T.cells ++ (F.cells ++ cs)) h) :
    Kn g0 gs ((U.d, .dct U.m U.n) :: (l, .lst xs) :: (O.d, .dct O.m O.n) :: (F.d, .dct F.m F.n) :: (spCells anc ++ (O.tail ++ (F.tail ++ (W ++ (Γ ++ cs)))))) h := by
  have b := ((X.s1.appR (c := spCells anc ++ Γ)).trans f1).append (.rfl : Sub (F.cells ++ cs) (F.cells ++ cs))
  refine H.pick (Sub.trans ?_ b)
  simp only [Tr.cells, List.append_assoc, List.cons_append, List.nil_append]
  walk_at "pick2"
theorem mut_out {T U O F : Tr} {π : List Nat} {i : Nat} {l l' : Addr} {xs A0 B0 : Array Value} {W Γ : List (Addr × Cel)} {anc : List Sp} {m' : Str → Option Value} {n' : Nat} (X : Split U i O l xs A0 B0 W)
    (f2 : ∀ V : Tr, V.x = U.x → Sub (Tr.set V T π).cells (V.cells ++ (spCells (anc.map Sp.mark) ++ Γ)))
    (H : Kn g0 gs ((U.d, .dct m' n') :: (l', .lst (xs.setIfInBounds i (.ref F.x))) :: (O.d, .dct (putAt O.m "parent" .none) (O.n + 1)) :: (F.d, .dct (putAt F.m "parent" (.ref U.x)) (F.n + 1)) :: (spCells (anc.map Sp.mark) ++ (O.tail ++ (F.tail ++ (W ++ (Γ ++ cs)))))) h) :
    Kn g0 gs ((Tr.set (U.re l' m' n' (F.setN "parent" (.ref U.x)) i) T π).cells ++ ((O.setN "parent" .none).cells ++ cs)) h := by
  have hx : (F.setN "parent" (.ref U.x)).x = F.x := Tr.put_x _ _ _
  have a := X.s2 l' m' n' (F.setN "parent" (.ref U.x))
  rw [hx] at a
  have b := ((f2 _ (U.re_x l' m' n' (F.setN "parent" (.ref U.x)) i)).trans (a.appR (c := spCells (anc.map Sp.mark) ++ Γ))).append (.rfl : Sub ((O.setN "parent" .none).cells ++ cs) ((O.setN "parent" .none).cells ++ cs))
  refine H.pick (b.trans ?_)
  rw [Tr.setN_cells, Tr.setN_cells]
  simp only [List.append_assoc, List.cons_append, List.nil_append]
  walk_at "pick2"
theorem s_mut1 (G : Gl w g0) {T U O F : Tr} {p : Plan} {π : List Nat} {i : Nat} {ti : Tok} (hT : T.Ok p) (hC : T.Calm) (hp : T.m "parent" = none ∨ T.m "parent" = some .none) (hU : T.at? π = some U) (hO : U.kids[i]? = some O) (hFn : F.n ≤ 50)
    (H : Kn g0 gs (T.cells ++ (F.cells ++ cs)) h) (R : Rm A (10 * π.length + 30))
    (K : ∀ l' m' n' k h' t', p.at? π = some k → NewNs U k.kind m' l' n' → Kn g0 gs ((Tr.set (U.re l' m' n' (F.setN "parent" (.ref U.x)) i) T π).cells ++ ((O.setN "parent" .none).cells ++ cs)) h' → Q .none (S r h' t')) :
    wpAny (model Pg w) A (call (.ref 235) [.ref U.x, .int i ti, .ref F.x]) Q NoE (S r h t) := by
  obtain ⟨anc, Γ, f1, f2, f3, f4, f5, f6⟩ := focus hU hT hC
  obtain ⟨qU, hqU, hUok⟩ := Tr.at_ok hU hT
  have hUc := (Tr.at_calm hU hC).root
  obtain ⟨l, xs, A0, B0, W, hch, X⟩ := hUok.split hO
  have hnode : qU.isNode := by
    cases qU with
    | leaf => obtain ⟨_, _, _, _, _, _, _, e⟩ := hUok.leaf; rw [e] at hO; exact nomatch hO
    | one => trivial
    | two => trivial
  obtain ⟨lN, N, hUC, hUn, _, hkok, _⟩ := hUok.node hnode
  obtain rfl : lN = l := by have := N.chl; rw [hch] at this; injection this with this; injection this with this; exact this.symm
  obtain ⟨qO, _, hOok, _⟩ := hkok.get' hO
  have hcg := hUok.cg
  refine s_setc G hp (x := U.x) (d := U.d) (m := U.m) (n := U.n) (mk := U.mk) (O := O) (F := F) (xs := xs) N (fun b hb => ?_) f4 (fun b hb => ?_) (.inl (List.mem_append_left _ O.x_tail)) (.inl (List.mem_append_right _ (List.mem_append_left _ F.x_tail))) hOok.cg.2 (by omega) X.at_ X.i2
    (mut_in (π := π) X f1 H) (by rw [f6]; exact R) fun h' t' H => ?_
  · rcases List.mem_cons.mp hb with rfl | hb
    · exact ⟨hUc.1, hcg.1, hcg.2⟩
    · exact f3 b hb
  · rcases List.mem_cons.mp hb with rfl | hb
    · exact .inl (List.mem_append_right _ (List.mem_append_right _ (List.mem_append_left _ X.ob)))
    · exact .inl (List.mem_append_right _ (List.mem_append_right _ (List.mem_append_right _ (List.mem_append_left _ (f5 b hb)))))
  · exact K lN _ _ qU _ _ hqU ⟨N.put (.inr rfl), putAt_self _ _ _, putAt_other (by decide), by have := hUc.2; omega⟩ (mut_out X f2 H)
theorem s_mut2 (G : Gl w g0) {T U O F : Tr} {p : Plan} {π : List Nat} {i : Nat} (hT : T.Ok p) (hC : T.Calm) (hp : T.m "parent" = none ∨ T.m "parent" = some .none) (hU : T.at? π = some U) (hO : U.kids[i]? = some O) (hFn : F.n ≤ 50)
    (H : Kn g0 gs (T.cells ++ (F.cells ++ cs)) h) (R : Rm A (10 * π.length + 30))
    (K : ∀ l' m' n' k h' t', p.at? π = some k → NewNs U k.kind m' l' n' → Kn g0 gs ((Tr.set (U.re l' m' n' (F.setN "parent" (.ref U.x)) i) T π).cells ++ ((O.setN "parent" .none).cells ++ cs)) h' → Q .none (S r h' t')) :
    wpAny (model Pg w) A (call (.ref 99) [.ref O.x, .ref F.x]) Q NoE (S r h t) := by
  obtain ⟨anc, Γ, f1, f2, f3, f4, f5, f6⟩ := focus hU hT hC
  obtain ⟨qU, hqU, hUok⟩ := Tr.at_ok hU hT
  have hUc := (Tr.at_calm hU hC).root
  obtain ⟨l, xs, A0, B0, W, hch, X⟩ := hUok.split hO
  have hnode : qU.isNode := by
    cases qU with
    | leaf => obtain ⟨_, _, _, _, _, _, _, e⟩ := hUok.leaf; rw [e] at hO; exact nomatch hO
    | one => trivial
    | two => trivial
  obtain ⟨lN, N, hUC, hUn, _, hkok, _⟩ := hUok.node hnode
  obtain rfl : lN = l := by have := N.chl; rw [hch] at this; injection this with this; injection this with this; exact this.symm
  obtain ⟨qO, _, hOok, hOp⟩ := hkok.get' hO
  have hcg := hUok.cg
  have H1 := mut_in (π := π) X f1 H
  refine s_repl G hp (x := U.x) (d := U.d) (m := U.m) (n := U.n) (mk := U.mk) (O := O) (F := F) (xs := xs) N (fun b hb => ?_) f4 (fun b hb => ?_) (.inl (List.mem_append_left _ O.x_tail)) (.inl (List.mem_append_right _ (List.mem_append_left _ F.x_tail))) hOok.cg.2 (by omega) X.at_ X.i2 hOp
    (fun j hj => ?_) (by have := X.z; omega) X.hA X.hB X.hAz X.hBz (by have := hUc.2; omega) H1 (by rw [f6]; exact R) fun l2 h' t' H => ?_
  · rcases List.mem_cons.mp hb with rfl | hb
    · exact ⟨hUc.1, hcg.1, hcg.2⟩
    · exact f3 b hb
  · rcases List.mem_cons.mp hb with rfl | hb
    · exact .inl (List.mem_append_right _ (List.mem_append_right _ (List.mem_append_left _ X.ob)))
    · exact .inl (List.mem_append_right _ (List.mem_append_right _ (List.mem_append_right _ (List.mem_append_left _ (f5 b hb)))))
  · obtain ⟨c, o, h1, h2, h3⟩ := X.oth j hj
    refine ⟨c, o, h1, ?_, .inl (List.mem_append_right _ (List.mem_append_right _ (List.mem_append_left _ h2))), h3⟩
    have H2 : Kn g0 gs (O.tail ++ (F.tail ++ (W ++ (Γ ++ cs)))) h := H1.pick (by walk_at "pick2")
    exact (keys_apart H2.nd O.x_tail (List.mem_append_right _ (List.mem_append_left _ h2))).symm
  · rw [X.hAB] at H
    exact K l2 _ _ qU _ _ hqU ⟨(N.put_children l2).put (.inr rfl), putAt_self _ _ _, (putAt_other (by decide)).trans (putAt_other (by decide)), by have := hUc.2; omega⟩ (mut_out X f2 H)
end
theorem Tr.set_root {V T U : Tr} {π : List Nat} (h : T.at? π = some U) (e : V.m "parent" = U.m "parent") : (Tr.set V T π).m "parent" = T.m "parent" := by
  have o : ∀ m : Str → Option Value, putAt m "was_changed" (.bool true) "parent" = m "parent" := fun m => putAt_other (by decide)
  match T, π with
  | T, [] => cases h; rw [Tr.set_nil]; exact e
  | .leaf .., _ :: _ => rfl
  | .one .., 0 :: _ => exact o _
  | .one .., (_ + 1) :: _ => rfl
  | .two .., 0 :: _ => exact o _
  | .two .., 1 :: _ => exact o _
  | .two .., (_ + 2) :: _ => rfl
theorem Plan.put_nil {q p : Plan} : Plan.put q p [] = q := by cases p <;> rfl
theorem Tr.set_ok {V U : Tr} {kv : Plan} (hV : V.Ok kv) (hx : V.x = U.x) (hp : V.m "parent" = U.m "parent") : ∀ {T : Tr} {p : Plan} {π : List Nat}, T.at? π = some U → T.Ok p → T.Calm → (Tr.set V T π).Ok (Plan.put kv p π) := by
  intro T
  induction T with
  | leaf x d mk md fa ch m n =>
    intro p π h _ _
    cases π with
    | nil => rw [Tr.set_nil, Plan.put_nil]; exact hV
    | cons i π => exact nomatch h
  | one x d mk md l m n c ih =>
    intro p π h hT hC
    cases π with
    | nil => rw [Tr.set_nil, Plan.put_nil]; exact hV
    | cons i π =>
      match i, h with
      | 0, h =>
        cases p <;> first | exact hT.elim | skip
        have h : c.at? π = some U := h
        have hr := Tr.set_root h hp
        exact ⟨hT.1.put (.inr rfl), by show n + 1 ≤ 100; have := hC.1.2; omega, hr.trans hT.2.2.1, ih h hT.2.2.2 hC.2⟩
      | i + 1, h => exact nomatch h
  | two x d mk md l m n c f ih1 ih2 =>
    intro p π h hT hC
    cases π with
    | nil => rw [Tr.set_nil, Plan.put_nil]; exact hV
    | cons i π =>
      match i, h with
      | 0, h =>
        cases p <;> first | exact hT.elim | skip
        have h : c.at? π = some U := h
        have hr := Tr.set_root h hp
        exact ⟨hT.1.put (.inr rfl), by show n + 1 ≤ 100; have := hC.1.2; omega, hr.trans hT.2.2.1, hT.2.2.2.1, ih1 h hT.2.2.2.2.1 hC.2.1, hT.2.2.2.2.2⟩
      | 1, h =>
        cases p <;> first | exact hT.elim | skip
        have h : f.at? π = some U := h
        have hr := Tr.set_root h hp
        exact ⟨hT.1.put (.inr rfl), by show n + 1 ≤ 100; have := hC.1.2; omega, hT.2.2.1, hr.trans hT.2.2.2.1, hT.2.2.2.2.1, ih2 h hT.2.2.2.2.2 hC.2.2⟩
      | i + 2, h => exact nomatch h
theorem Tr.re_ok {U O F : Tr} {k q : Plan} {i : Nat} {l' : Addr} {m' : Str → Option Value} {n' : Nat} (hU : U.Ok k) (hO : U.kids[i]? = some O) (hF : F.Ok q) (hFp : F.m "parent" = some (.ref U.x)) (N : NewNs U k.kind m' l' n') :
    (U.re l' m' n' F i).Ok (Plan.put q k [i]) ∧ (U.re l' m' n' F i).m = m' ∧ (U.re l' m' n' F i).x = U.x ∧ (U.re l' m' n' F i).kids[i]? = some F ∧ (U.re l' m' n' F i).mk = U.mk ∧ (U.re l' m' n' F i).C = U.C := by
  cases U <;> cases k <;> first | exact hU.elim | skip
  · exact absurd hO (by show ([] : List Tr)[i]? ≠ some O; simp)
  · match i, hO with
    | 0, _ => exact ⟨⟨N.ns, by have := N.n; omega, hFp, by show F.Ok (Plan.put q _ []); rw [Plan.put_nil]; exact hF⟩, rfl, rfl, rfl, rfl, rfl⟩
    | i + 1, h => exact nomatch h
  · match i, hO with
    | 0, _ => exact ⟨⟨N.ns, by have := N.n; omega, hFp, hU.2.2.2.1, by show F.Ok (Plan.put q _ []); rw [Plan.put_nil]; exact hF, hU.2.2.2.2.2⟩, rfl, rfl, rfl, rfl, rfl⟩
    | 1, _ => exact ⟨⟨N.ns, by have := N.n; omega, hU.2.2.1, hFp, hU.2.2.2.2.1, by show F.Ok (Plan.put q _ []); rw [Plan.put_nil]; exact hF⟩, rfl, rfl, rfl, rfl, rfl⟩
    | i + 2, h => exact nomatch h
theorem Plan.put_put {q p k : Plan} {π : List Nat} {i : Nat} (h : p.at? π = some k) : Plan.put (Plan.put q k [i]) p π = Plan.put q p (π ++ [i]) := by
  induction π generalizing p with
  | nil => cases h; rw [Plan.put_nil]; rfl
  | cons j π ih =>
    cases p with
    | leaf => exact nomatch h
    | one k' p =>
      match j, h with
      | 0, h => show Plan.one k' _ = Plan.one k' _; rw [ih h]; rfl
      | j + 1, h => exact nomatch h
    | two k' p p2 =>
      match j, h with
      | 0, h => show Plan.two k' _ _ = Plan.two k' _ _; rw [ih h]; rfl
      | 1, h => show Plan.two k' _ _ = Plan.two k' _ _; rw [ih h]; rfl
      | j + 2, h => exact nomatch h
theorem Tr.set_at {V T U : Tr} {π ρ : List Nat} (h : T.at? π = some U) : (Tr.set V T π).at? (π ++ ρ) = V.at? ρ := by
  induction π generalizing T with
  | nil => rw [Tr.set_nil]; rfl
  | cons j π ih =>
    cases T with
    | leaf => exact nomatch h
    | one x d mk md l m n c =>
      match j, h with
      | 0, h => exact ih (T := c) h
      | j + 1, h => exact nomatch h
    | two x d mk md l m n c f =>
      match j, h with
      | 0, h => exact ih (T := c) h
      | 1, h => exact ih (T := f) h
      | j + 2, h => exact nomatch h
theorem Plan.ok.mono {d e : Nat} {p : Plan} (h : p.ok d) (hde : d ≤ e) : p.ok e := by
  induction hde with
  | refl => exact h
  | step _ ih => exact ih.up
theorem Plan.put_ok {q : Plan} {e : Nat} (hq : q.ok e) : ∀ {p : Plan} {d : Nat} {π : List Nat}, p.ok d → (Plan.put q p π).ok (d + e) := by
  intro p
  induction p with
  | leaf wd bl row =>
    intro d π h
    cases π with
    | nil => rw [Plan.put_nil]; exact hq.mono (by omega)
    | cons j π => exact Plan.ok.mono h (by omega)
  | one k p ih =>
    intro d π h
    cases d with
    | zero => exact h.elim
    | succ d =>
      match π with
      | [] => rw [Plan.put_nil]; exact hq.mono (by omega)
      | 0 :: π => rw [show d + 1 + e = d + e + 1 by omega]; exact ⟨h.1, ih h.2⟩
      | (j + 1) :: π => exact Plan.ok.mono (p := .one k p) h (by omega)
  | two k p p2 ih1 ih2 =>
    intro d π h
    cases d with
    | zero => exact h.elim
    | succ d =>
      match π with
      | [] => rw [Plan.put_nil]; exact hq.mono (by omega)
      | 0 :: π => rw [show d + 1 + e = d + e + 1 by omega]; exact ⟨h.1, ih1 h.2.1, h.2.2.mono (by omega)⟩
      | 1 :: π => rw [show d + 1 + e = d + e + 1 by omega]; exact ⟨h.1, h.2.1.mono (by omega), ih2 h.2.2⟩
      | (j + 2) :: π => exact Plan.ok.mono (p := .two k p p2) h (by omega)
theorem Plan.put_wordy {q : Plan} (hq : q.wordy) : ∀ {p : Plan} {π : List Nat}, p.wordy → (Plan.put q p π).wordy := by
  intro p
  induction p with
  | leaf wd bl row => intro π h; cases π with | nil => rw [Plan.put_nil]; exact hq | cons j π => exact h
  | one k p ih =>
    intro π h
    match π with
    | [] => rw [Plan.put_nil]; exact hq
    | 0 :: π => exact ih h
    | (j + 1) :: π => exact h
  | two k p p2 ih1 ih2 =>
    intro π h
    match π with
    | [] => rw [Plan.put_nil]; exact hq
    | 0 :: π => exact ⟨ih1 h.1, h.2⟩
    | 1 :: π => exact ⟨h.1, ih2 h.2⟩
    | (j + 2) :: π => exact h
theorem Plan.at_ok {p q : Plan} {π : List Nat} {d : Nat} (h : p.at? π = some q) (hp : p.ok d) (hw : p.wordy) : π.length ≤ d ∧ q.ok d ∧ q.wordy := by
  induction π generalizing p d with
  | nil => cases h; exact ⟨Nat.zero_le _, hp, hw⟩
  | cons j π ih =>
    cases d with
    | zero => cases p <;> first | exact hp.elim | exact nomatch h
    | succ d =>
      cases p with
      | leaf => exact nomatch h
      | one k p =>
        match j, h with
        | 0, h => obtain ⟨a, b, c⟩ := ih (p := p) h hp.2 hw; exact ⟨Nat.succ_le_succ a, b.up, c⟩
        | j + 1, h => exact nomatch h
      | two k p p2 =>
        match j, h with
        | 0, h => obtain ⟨a, b, c⟩ := ih (p := p) h hp.2.1 hw.1; exact ⟨Nat.succ_le_succ a, b.up, c⟩
        | 1, h => obtain ⟨a, b, c⟩ := ih (p := p2) h hp.2.2 hw.2; exact ⟨Nat.succ_le_succ a, b.up, c⟩
        | j + 2, h => exact nomatch h
/-- the places are places -/
theorem Plan.paths_at {p : Plan} : ∀ {β ρ : List Nat}, ρ ∈ p.paths β → ∃ σ q, ρ = β ++ σ ∧ p.at? σ = some q := by
  induction p with
  | leaf => intro β ρ h; cases List.mem_singleton.mp h; exact ⟨[], _, (List.append_nil _).symm, rfl⟩
  | one k p ih =>
    intro β ρ h
    rcases List.mem_cons.mp h with rfl | h
    · exact ⟨[], _, (List.append_nil _).symm, rfl⟩
    · obtain ⟨σ, q, rfl, e⟩ := ih h
      exact ⟨0 :: σ, q, by simp, e⟩
  | two k p p2 ih1 ih2 =>
    intro β ρ h
    rcases List.mem_cons.mp h with rfl | h
    · exact ⟨[], _, (List.append_nil _).symm, rfl⟩
    · rcases List.mem_append.mp h with h | h
      · obtain ⟨σ, q, rfl, e⟩ := ih1 h
        exact ⟨0 :: σ, q, by simp, e⟩
      · obtain ⟨σ, q, rfl, e⟩ := ih2 h
        exact ⟨1 :: σ, q, by simp, e⟩
theorem Plan.paths_head {p : Plan} {β : List Nat} : ∃ r, p.paths β = β :: r ∧ ∀ ρ ∈ r, ∃ j σ, ρ = β ++ j :: σ := by
  cases p with
  | leaf => exact ⟨[], rfl, fun _ h => nomatch h⟩
  | one k p => exact ⟨_, rfl, fun ρ h => by obtain ⟨σ, q, rfl, _⟩ := Plan.paths_at h; exact ⟨0, σ, by simp⟩⟩
  | two k p p2 =>
    refine ⟨_, rfl, fun ρ h => ?_⟩
    rcases List.mem_append.mp h with h | h
    · obtain ⟨σ, q, rfl, _⟩ := Plan.paths_at h; exact ⟨0, σ, by simp⟩
    · obtain ⟨σ, q, rfl, _⟩ := Plan.paths_at h; exact ⟨1, σ, by simp⟩
theorem Tr.at_of {T : Tr} {p q : Plan} {π : List Nat} (hT : T.Ok p) (h : p.at? π = some q) : ∃ U, T.at? π = some U ∧ U.Ok q := by
  induction π generalizing T p with
  | nil => cases h; exact ⟨T, rfl, hT⟩
  | cons i π ih =>
    unfold Plan.at? at h
    split at h
    · rename_i p' hp'
      obtain ⟨_, _, _, _, hk, _⟩ := hT.children
      obtain ⟨V, hV, hVo⟩ := hk.get hp'
      obtain ⟨U, h1, h2⟩ := ih hVo h
      refine ⟨U, ?_, h2⟩
      unfold Tr.at?
      rw [hV]; exact h1
    · cases h
theorem at_snoc {T O : Tr} {π : List Nat} {i : Nat} (h : T.at? (π ++ [i]) = some O) : ∃ U, T.at? π = some U ∧ U.kids[i]? = some O := by
  induction π generalizing T with
  | nil =>
    refine ⟨T, rfl, ?_⟩
    have h : T.at? [i] = some O := h
    unfold Tr.at? at h
    split at h
    · rename_i V hV; cases h; exact hV
    · cases h
  | cons j π ih =>
    have h : T.at? (j :: (π ++ [i])) = some O := h
    unfold Tr.at? at h
    split at h
    · rename_i V hV
      obtain ⟨U, h1, h2⟩ := ih h
      refine ⟨U, ?_, h2⟩
      unfold Tr.at?
      rw [hV]; exact h1
    · cases h
/-- those around a place, itself too -/
def pre (β π : List Nat) : List (List Nat) := (List.range (π.length + 1)).map fun k => β ++ π.take k
theorem pre_nil (β : List Nat) : pre β [] = [β] := by simp [pre]
theorem pre_cons (β : List Nat) (i : Nat) (π : List Nat) : pre β (i :: π) = β :: pre (β ++ [i]) π := by
  unfold pre
  rw [List.length_cons, List.range_succ_eq_map, List.map_cons, List.map_map]
  congr 1
  · simp
  · refine List.map_congr_left fun k _ => ?_
    simp
theorem pre_ext {β π ρ : List Nat} (h : ρ ∈ pre β π) : ∃ σ, ρ = β ++ σ := by
  obtain ⟨k, _, rfl⟩ := List.mem_map.mp h
  exact ⟨_, rfl⟩
theorem flags_calm {T : Tr} {p : Plan} (hT : T.Ok p) (hC : T.Calm) (β : List Nat) {f : List Nat → Bool} (hf : ∀ ρ ∈ p.paths β, f ρ = false) : T.Flags ((p.paths β).map f) := by
  induction T generalizing p β with
  | leaf => cases p <;> first | exact hT.elim | skip; exact ⟨false, .inl ⟨hC.1, rfl⟩, by simp only [Plan.paths, List.map_cons, List.map_nil]; rw [hf _ (.head _)]⟩
  | one x d mk md l m n c ih =>
    cases p <;> first | exact hT.elim | skip
    refine ⟨false, _, .inl ⟨hC.1.1, rfl⟩, ih hT.2.2.2 hC.2 (β ++ [0]) (fun ρ h => hf ρ (.tail _ h)), ?_⟩
    simp only [Plan.paths, List.map_cons]
    rw [hf _ (.head _)]
  | two x d mk md l m n c e ih1 ih2 =>
    cases p <;> first | exact hT.elim | skip
    refine ⟨false, _, _, .inl ⟨hC.1.1, rfl⟩, ih1 hT.2.2.2.2.1 hC.2.1 (β ++ [0]) (fun ρ h => hf ρ (.tail _ (List.mem_append_left _ h))), ih2 hT.2.2.2.2.2 hC.2.2 (β ++ [1]) (fun ρ h => hf ρ (.tail _ (List.mem_append_right _ h))), ?_⟩
    simp only [Plan.paths, List.map_cons, List.map_append]
    rw [hf _ (.head _)]
theorem not_pre_self {β σ π : List Nat} {i j : Nat} (h : i ≠ j) : (pre β (i :: π)).contains (β ++ j :: σ) = false := by
  rw [pre_cons, List.contains_cons, Bool.or_eq_false_iff]
  refine ⟨beq_eq_false_iff_ne.mpr fun e => ?_, ?_⟩
  · have := congrArg List.length e; simp at this
  · rw [← Bool.not_eq_true, List.contains_iff_mem]
    intro hm
    obtain ⟨τ, e⟩ := pre_ext hm
    rw [List.append_assoc] at e
    have := List.append_cancel_left e
    injection this with a _
    exact h a.symm
theorem pre_kid {β σ π : List Nat} {i : Nat} : (pre β (i :: π)).contains (β ++ i :: σ) = (pre (β ++ [i]) π).contains (β ++ i :: σ) := by
  rw [pre_cons, List.contains_cons]
  have : (β ++ i :: σ == β) = false := beq_eq_false_iff_ne.mpr fun e => by have := congrArg List.length e; simp at this
  rw [this, Bool.false_or]
theorem pre_root {β π : List Nat} : (pre β π).contains β = true := by
  rw [List.contains_iff_mem]
  cases π with
  | nil => rw [pre_nil]; exact .head _
  | cons i π => rw [pre_cons]; exact .head _
theorem paths_ext {p : Plan} {β ρ : List Nat} {j : Nat} (h : ρ ∈ p.paths (β ++ [j])) : ∃ σ, ρ = β ++ j :: σ := by
  obtain ⟨σ, _, rfl, _⟩ := Plan.paths_at h
  exact ⟨σ, by simp⟩
theorem Tr.Flags.congr {T : Tr} {l l' : List Bool} (h : T.Flags l) (e : l = l') : T.Flags l' := e ▸ h
/-- who has changed -/
theorem flags_set {V U : Tr} {kv : Plan} (hV : ∀ β, V.Flags ((kv.paths β).map fun ρ => (pre β []).contains ρ)) : ∀ {T : Tr} {p : Plan} {π : List Nat} (β : List Nat), T.at? π = some U → T.Ok p → T.Calm → (Tr.set V T π).Flags (((Plan.put kv p π).paths β).map fun ρ => (pre β π).contains ρ) := by
  intro T
  induction T with
  | leaf x d mk md fa ch m n =>
    intro p π β h _ _
    cases π with
    | nil => rw [Tr.set_nil, Plan.put_nil]; exact hV β
    | cons i π => exact nomatch h
  | one x d mk md l m n c ih =>
    intro p π β h hT hC
    cases π with
    | nil => rw [Tr.set_nil, Plan.put_nil]; exact hV β
    | cons i π =>
      match i, h with
      | 0, h =>
        cases p <;> first | exact hT.elim | skip
        have h : c.at? π = some U := h
        refine Tr.Flags.congr (l := true :: _) ⟨true, _, .inr (putAt_self _ _ _), ih (β ++ [0]) h hT.2.2.2 hC.2, rfl⟩ ?_
        show _ = List.map _ (β :: Plan.paths _ (β ++ [0]))
        rw [List.map_cons, pre_root]
        congr 1
        refine List.map_congr_left fun ρ hρ => ?_
        obtain ⟨σ, rfl⟩ := paths_ext hρ
        exact pre_kid.symm
      | i + 1, h => exact nomatch h
  | two x d mk md l m n c f ih1 ih2 =>
    intro p π β h hT hC
    cases π with
    | nil => rw [Tr.set_nil, Plan.put_nil]; exact hV β
    | cons i π =>
      match i, h with
      | 0, h =>
        cases p <;> first | exact hT.elim | skip
        have h : c.at? π = some U := h
        rename_i k pc pf
        refine Tr.Flags.congr (l := true :: (_ ++ _)) ⟨true, _, _, .inr (putAt_self _ _ _), ih1 (β ++ [0]) h hT.2.2.2.2.1 hC.2.1, flags_calm (f := fun ρ => (pre β (0 :: π)).contains ρ) hT.2.2.2.2.2 hC.2.2 (β ++ [1]) (fun ρ hρ => ?_), rfl⟩ ?_
        · obtain ⟨σ, rfl⟩ := paths_ext hρ
          exact not_pre_self (by decide)
        show _ = List.map _ (β :: (Plan.paths _ (β ++ [0]) ++ Plan.paths _ (β ++ [1])))
        rw [List.map_cons, List.map_append, pre_root]
        congr 2
        refine List.map_congr_left fun ρ hρ => ?_
        obtain ⟨σ, rfl⟩ := paths_ext hρ
        exact pre_kid.symm
      | 1, h =>
        cases p <;> first | exact hT.elim | skip
        have h : f.at? π = some U := h
        rename_i k pc pf
        refine Tr.Flags.congr (l := true :: (_ ++ _)) ⟨true, _, _, .inr (putAt_self _ _ _), flags_calm (f := fun ρ => (pre β (1 :: π)).contains ρ) hT.2.2.2.2.1 hC.2.1 (β ++ [0]) (fun ρ hρ => ?_), ih2 (β ++ [1]) h hT.2.2.2.2.2 hC.2.2, rfl⟩ ?_
        · obtain ⟨σ, rfl⟩ := paths_ext hρ
          exact not_pre_self (by decide)
        show _ = List.map _ (β :: (Plan.paths _ (β ++ [0]) ++ Plan.paths _ (β ++ [1])))
        rw [List.map_cons, List.map_append, pre_root]
        congr 2
        refine List.map_congr_left fun ρ hρ => ?_
        obtain ⟨σ, rfl⟩ := paths_ext hρ
        exact pre_kid.symm
      | i + 2, h => exact nomatch h
theorem not_pre_nil {β σ : List Nat} {j : Nat} : (pre β []).contains (β ++ j :: σ) = false := by
  rw [pre_nil, List.contains_cons, Bool.or_eq_false_iff]
  exact ⟨beq_eq_false_iff_ne.mpr fun e => by have := congrArg List.length e; simp at this, rfl⟩
theorem flags_re {U O F : Tr} {k q : Plan} {i : Nat} {l' : Addr} {m' : Str → Option Value} {n' : Nat} (hU : U.Ok k) (hC : U.Calm) (hO : U.kids[i]? = some O) (hF : F.Ok q) (hFC : F.Calm) (N : NewNs U k.kind m' l' n') (β : List Nat) :
    (U.re l' m' n' F i).Flags (((Plan.put q k [i]).paths β).map fun ρ => (pre β []).contains ρ) := by
  have kid : ∀ {T : Tr} {p : Plan} {j : Nat}, T.Ok p → T.Calm → T.Flags ((p.paths (β ++ [j])).map fun ρ => (pre β []).contains ρ) := fun a b => flags_calm a b _ fun ρ hρ => by
    obtain ⟨σ, rfl⟩ := paths_ext hρ; exact not_pre_nil
  cases U <;> cases k <;> first | exact hU.elim | skip
  · exact absurd hO (by show ([] : List Tr)[i]? ≠ some O; simp)
  · match i, hO with
    | 0, _ =>
      refine Tr.Flags.congr (l := true :: _) ⟨true, _, .inr N.was, kid (j := 0) hF hFC, rfl⟩ ?_
      show _ = List.map _ (β :: Plan.paths (Plan.put q _ []) (β ++ [0]))
      rw [List.map_cons, pre_root, Plan.put_nil]
    | i + 1, h => exact nomatch h
  · match i, hO with
    | 0, _ =>
      refine Tr.Flags.congr (l := true :: (_ ++ _)) ⟨true, _, _, .inr N.was, kid (j := 0) hF hFC, kid (j := 1) hU.2.2.2.2.2 hC.2.2, rfl⟩ ?_
      show _ = List.map _ (β :: (Plan.paths (Plan.put q _ []) (β ++ [0]) ++ Plan.paths _ (β ++ [1])))
      rw [List.map_cons, List.map_append, pre_root, Plan.put_nil]
    | 1, _ =>
      refine Tr.Flags.congr (l := true :: (_ ++ _)) ⟨true, _, _, .inr N.was, kid (j := 0) hU.2.2.2.2.1 hC.2.1, kid (j := 1) hF hFC, rfl⟩ ?_
      show _ = List.map _ (β :: (Plan.paths _ (β ++ [0]) ++ Plan.paths (Plan.put q _ []) (β ++ [1])))
      rw [List.map_cons, List.map_append, pre_root, Plan.put_nil]
    | i + 2, h => exact nomatch h
theorem Plan.same_refl : ∀ p : Plan, p.same p = true
  | .leaf .. => beq_self_eq_true _
  | .one k p => by show (k == k && p.same p) = true; rw [p.same_refl, beq_self_eq_true]; rfl
  | .two k p q => by show (k == k && (p.same p && q.same q)) = true; rw [p.same_refl, q.same_refl, beq_self_eq_true]; rfl
theorem Plan.same_symm : ∀ p q : Plan, p.same q = q.same p
  | .leaf .., q => by cases q <;> first | rfl | exact Bool.beq_comm
  | .one k p, q => by cases q <;> first | rfl | (show (_ == _ && _) = (_ == _ && _); rw [Plan.same_symm p, Bool.beq_comm])
  | .two k p p2, q => by cases q <;> first | rfl | (show (_ == _ && (_ && _)) = (_ == _ && (_ && _)); rw [Plan.same_symm p, Plan.same_symm p2, Bool.beq_comm])
theorem eq_Mark (w : World) : findIn (KK w) (.ref 31) "__eq__" = some (some (.builtin "object.__eq__")) := by kernel_rfl
theorem ne_Mark (w : World) : findIn (KK w) (.ref 31) "__ne__" = some (some (.builtin "object.__ne__")) := by kernel_rfl
section
variable {w : World} {g0 h : Heap} {gs : List Heap} {cs : List (Addr × Cel)} {r : Shared} {t n n' : Nat} {A : Around} {E : Value → Shared → Prop} {a b d d' : Addr} {m m' : Str → Option Value}
/-- object.__eq__ by way of a mark -/
theorem mark_special {M : Model} (hM : ∃ prog w', M = model prog w') {Q : Option Value → Shared → Prop} (G : Gl w g0) (H : Kn g0 gs cs h) (I : Ins gs cs a 31 d m n) {y : Value} {v : Value}
    (he : ∀ A Q, Q (.done (.ret v)) (S r h t) → wpAny M A (Builtin.«object.__eq__» ⟨[.ref a, y], []⟩) Q E (S r h t)) (k : Q (some v) (S r h t)) :
    wpAny M A (callSpecialIfBound? (.ref a) (Str.ofString "__eq__") [y]) Q E (S r h t) := by
  obtain ⟨prog, w', rfl⟩ := hM
  obtain ⟨o, I', _⟩ := I.inst H
  have X := (G.of H).K
  have Y := makes_of (M := model prog w') X (mk_Mark w)
  have tx : Looks (model prog w') h (isInstance (.ref a) (.type "object")) true := I'.type.andThen Y.top
  simp only [callSpecialIfBound?, bindSpecialIfBound?]
  refine wpAny_holding (wpAny_bind (wpAny_bind (wpAny_bind (I'.type.here ((looks_findIn X (eq_Mark w)).here ?_)))))
  simp only [F.cmp_object.eq.bind]
  have inner : wpAny (model prog w') A (call (.builtin "object.__eq__") [.ref a, y]) (fun v s' => Q (some v) s') E (S r h t) :=
    wpAny_call (codeAny_call_builtin F.cmp_object.eq.plain F.cmpEntry_eq (@check_slot (model prog w') _ _ _ "object.__eq__" "object" "__eq__" (.ref a) [y] [] _ F.cmpKind_eq F.cmpSplit_eq tx (F.cmpArgs_eq _ _) (he _ _ k)))
  refine wpAny_bind (wpAny_askSetting (wpAny_ite ?_))
  have fin : wpAny (model prog w') A (call (.builtin "object.__eq__") ([.ref a] ++ [y]) >>= fun v => pure (some v)) Q E (S r h t) :=
    wpAny_bind (wpAny_mono inner (fun v s' h' => wpAny_pure h') fun _ _ h' => h')
  split
  · exact wpAny_bind (wpAny_pure (wpAny_pure fin))
  · exact wpAny_tryCatch (wpAny_bind (wpAny_pure (wpAny_pure fin)))
theorem mark_eq (G : Gl w g0) (H : Kn g0 gs cs h) (I : Ins gs cs a 31 d m n) (J : Ins gs cs b 31 d' m' n') (hab : a ≠ b) (hu : A.units < cLine) : SeqAt.EqAt A (S r h t) (.ref a) (.ref b) false := by
  refine SeqAt.EqAt.of_refs hab fun prog w' E Q k => ?_
  have oa : h.get? a = some (instObj 31 d) := I.ob.at H
  have ob : h.get? b = some (instObj 31 d') := J.ob.at H
  obtain ⟨o, I', _⟩ := I.inst H
  obtain ⟨o2, J', _⟩ := J.inst H
  unfold richCompare
  simp only [oneThing_ref]
  refine wpAny_holding (wpAny_bind (wpAny_cRoomFor hu ?_))
  rw [cmpE]
  dsimp only
  refine wpAny_bind (I'.type.here (wpAny_bind (J'.type.here ?_)))
  rw [if_neg (by simp)]
  refine wpAny_bind (wpAny_pure ?_)
  simp only [Bool.false_eq_true, if_false]
  unfold tryCompare
  refine wpAny_bind (wpAny_bind (mark_special ⟨prog, w', rfl⟩ G H I (v := .notImplemented) (fun A Q q => objEq_entry_other (s := S r h t) hab oa ob (fun q => by cases q) q) ?_))
  refine wpAny_pure ?_
  dsimp only
  simp only [Bool.not_false, if_true]
  refine wpAny_bind (wpAny_bind (mark_special ⟨prog, w', rfl⟩ G H J (v := .notImplemented) (fun A Q q => objEq_entry_other (s := S r h t) hab.symm ob oa (fun q => by cases q) q) ?_))
  refine wpAny_pure ?_
  dsimp only
  exact wpAny_bind (wpAny_rule (wpAny_bind (wpAny_isSame_ref_other (s := S r h t) hab oa ob (fun q => by cases q) (wpAny_pure k))))
/-- a mark is itself -/
theorem mark_ne {Q : Value → Shared → Prop} (G : Gl w g0) (H : Kn g0 gs cs h) (I : Ins gs cs a 31 d m n) (hu : A.units + 1 < cLine) (k : Q (.bool false) (S r h t)) : wpAny (model Pg w) A (compareOp .NotEq (.ref a) (.ref a)) Q E (S r h t) := by
  show wpAny _ _ (richCompare .NotEq _ _) _ _ _
  obtain ⟨o, I', _⟩ := I.inst H
  have X := (G.of H).K
  have Y := makes_of (M := model Pg w) X (mk_Mark w)
  have tx : Looks (model Pg w) h (isInstance (.ref a) (.type "object")) true := I'.type.andThen Y.top
  unfold richCompare
  simp only [oneThing_ref]
  refine wpAny_holding (wpAny_bind (wpAny_cRoomFor (Nat.lt_of_succ_lt hu) ?_))
  rw [cmpN]
  dsimp only
  refine wpAny_bind (I'.type.here (wpAny_bind (I'.type.here ?_)))
  rw [if_neg (by simp)]
  refine wpAny_bind (wpAny_pure ?_)
  simp only [Bool.false_eq_true, if_false]
  unfold tryCompare
  refine wpAny_bind (wpAny_bind ?_)
  simp only [callSpecialIfBound?, bindSpecialIfBound?]
  refine wpAny_holding (wpAny_bind (wpAny_bind (wpAny_bind (I'.type.here ((looks_findIn X (ne_Mark w)).here ?_)))))
  simp only [F.cmp_object.ne.bind]
  have inner : ∀ {Q : Value → Shared → Prop}, Q (.bool false) (S r h t) → wpAny (model Pg w) A (call (.builtin "object.__ne__") [.ref a, .ref a]) Q E (S r h t) := by
    intro Q k
    refine wpAny_call (codeAny_call_builtin F.cmp_object.ne.plain F.cmpEntry_ne (@check_slot (model Pg w) _ _ _ "object.__ne__" "object" "__ne__" (.ref a) [.ref a] [] _ F.cmpKind_ne F.cmpSplit_ne tx (F.cmpArgs_ne _ _) ?_))
    unfold Builtin.«object.__ne__»
    repeat (first
      | with_reducible refine wpAny_cRoomFor (by show A.units + 1 < cLine; exact hu) ?_
      | refine wpAny_bind (m := callSpecialIfBound? (.ref a) (Str.ofString "__eq__") [.ref a]) (mark_special ⟨Pg, w, rfl⟩ G H I (v := .bool true) (fun A Q q => objEq_entry_same q) ?_)
      | wp_step)
    exact k
  refine wpAny_bind (wpAny_askSetting (wpAny_ite ?_))
  split
  · refine wpAny_bind (wpAny_pure (wpAny_pure (wpAny_bind (wpAny_mono (inner (Q := fun v s' => v = .bool false ∧ s' = S r h t) ⟨rfl, rfl⟩) (fun v s' q => ?_) fun _ _ q => q))))
    obtain ⟨rfl, rfl⟩ := q
    exact wpAny_pure (wpAny_pure (wpAny_pure k))
  · refine wpAny_tryCatch (wpAny_bind (wpAny_pure (wpAny_pure (wpAny_bind (wpAny_mono (inner (Q := fun v s' => v = .bool false ∧ s' = S r h t) ⟨rfl, rfl⟩) (fun v s' q => ?_) fun _ _ q => q)))))
    obtain ⟨rfl, rfl⟩ := q
    exact wpAny_pure (wpAny_pure (wpAny_pure k))
end
section
variable {w : World} {g0 h : Heap} {gs : List Heap} {cs : List (Addr × Cel)} {r : Shared} {t : Nat} {A : Around} {E : Value → Shared → Prop}
theorem s_any {l : Addr} {bs : List Bool} {Q : Value → Shared → Prop} (hh : A.handled = none) (H : Kn g0 gs cs h) (hl : Has gs cs l (.lst (bs.map Value.bool).toArray)) (k : ∀ h' t', Kn g0 gs cs h' → Q (.bool (bs.any id)) (S r h' t')) :
    wpAny (model Pg w) A (call (.builtin "any") [.ref l]) Q E (S r h t) := by
  refine call_any_walk (it_list (r := r) H (hl.at H) fun I h2 H2 hs => ?_)
  have hne : l ≠ I := hl.apart H2
  refine ⟨I, [I, l], [I], bs.length, fun i v => (bs.map Value.bool).toArray[i]? = some v, fun i h => h.IsListIter I l i ∧ h.IsList l (bs.map Value.bool).toArray, fun i => (bs[i]?).getD false, rfl, ?_, ⟨H2.lit (.head _), hl.cons.at H2⟩, ?_, fun h' tk hk => ?_⟩
  · have := Walks.list (prog := Pg) (w := w) (A := A.in1) hh I l hne (bs.map Value.bool).toArray
    rw [show (bs.map Value.bool).toArray.size = bs.length by simp] at this
    exact this
  · intro i v s Q E hv q
    have hv : (bs.map Value.bool).toArray[i]? = some v := hv
    rw [List.getElem?_toArray, List.getElem?_map] at hv
    obtain ⟨b, hb, rfl⟩ := Option.map_eq_some_iff.mp hv
    refine wpAny_truthy_bool ?_
    dsimp only at q
    rw [hb] at q; exact q
  · have e : (List.range bs.length).any (fun i => (bs[i]?).getD false) = bs.any id := by
      rw [Bool.eq_iff_iff, List.any_eq_true, List.any_eq_true]
      constructor
      · rintro ⟨i, hi, hb⟩
        have hi : i < bs.length := by simpa using hi
        rw [List.getElem?_eq_getElem hi] at hb
        exact ⟨bs[i], List.getElem_mem hi, hb⟩
      · rintro ⟨b, hb, hb2⟩
        obtain ⟨i, hi, rfl⟩ := List.getElem_of_mem hb
        exact ⟨i, by simpa using hi, by rw [List.getElem?_eq_getElem hi]; exact hb2⟩
    rw [e]
    exact k h' tk (H2.loseE fun b o hb q => hk b o (fun hm => hb (List.mem_singleton.mp hm)) q)
end
section
variable {w : World} {A : Around}
theorem Rm.over0 {n : Nat} {body : List Stmt} {env : Env} (R : Rm A (n + 1)) : Rm (A.over (.func body env) []) n :=
  ⟨R.hd, by have := R.dp; show A.depth + 0 + 1 + n < 1000; omega, by have := R.un; show A.units + 0 + (Code.func body env).cUnits + 10 * n < 9900; have e : (Code.func body env).cUnits = 3 := rfl; omega⟩
theorem Rm.over1 {n : Nat} {body b1 b2 : List Stmt} {env : Env} {test : Expr} {k : Result → Sem PySem.Fin} {p : Pos} (R : Rm A (n + 3)) : Rm (A.over (.whileLoop test b1 b2 env) [.ret k none false [] (.func body env) p []]) n :=
  ⟨by show (marksOver [Frame.ret k none false [] (.func body env) p []] (A.handled, A.handled)).1 = none; rw [R.hd]; rfl, by have := R.dp; show A.depth + 1 + 0 + n < 1000; omega, by
    have := R.un
    have e1 : (Code.func body env).cUnits = 3 := rfl
    have e2 : (Code.whileLoop test b1 b2 env).cUnits = 0 := rfl
    show A.units + unitsOf [(Code.func body env, p)] + (Code.whileLoop test b1 b2 env).cUnits + 10 * n < 9900
    have e3 : unitsOf [(Code.func body env, p)] = 3 := rfl
    omega⟩
end
section
variable {M : Model} {A : Around} {R : GenEnd} {Y : Protocol} {n : Nat} {s₀ : Shared} {c : Code} {fs : List Frame} {s : Shared} {env : Env}
  {K : Flow → Sem PySem.Fin} {Hd : Value → Sem PySem.Fin} {gd : Bool → Bool} {lv : List Value → List Value}
/-- a statement that yields nothing -/
theorem seg_plain {st : Stmt} {rest : List Stmt} (h : wpAny M (A.over c fs) (exec st env) (fun f s' => f = .next ∧ Seg M A R Y n s₀ c ((execs rest env).wrap K Hd gd lv) fs s') NoE s) :
    Seg M A R Y n s₀ c ((execs (st :: rest) env).wrap K Hd gd lv) fs s :=
  seg_execs_cons (seg_wrap (wpAny_mono h (fun f s' q => by obtain ⟨rfl, q⟩ := q; exact q) fun _ _ q => q.elim))
theorem seg_If {test : Expr} {body orelse rest : List Stmt} {pos : Pos} (h : wpAny M (A.over c fs) (isTrue test env (eval test env)) (fun b s' =>
      (b = true → Seg M A R Y n s₀ c ((execs body env).wrap (fun f => match f with | .next => (execs rest env).wrap K Hd gd lv | f => K f) Hd gd lv) fs s') ∧
      (b = false → Seg M A R Y n s₀ c ((execs orelse env).wrap (fun f => match f with | .next => (execs rest env).wrap K Hd gd lv | f => K f) Hd gd lv) fs s')) NoE s) :
    Seg M A R Y n s₀ c ((execs (.If test body orelse pos :: rest) env).wrap K Hd gd lv) fs s := by
  refine seg_execs_cons ?_
  rw [arm_exec_If]
  refine seg_at ?_
  show Seg M A R Y n s₀ c (Sem.wrap _ Hd gd lv (isTrue test env (eval test env) >>= fun b => if b = true then execs body env else execs orelse env)) fs s
  rw [Sem.bind_eq_wrap', Sem.wrap_wrap]
  refine seg_wrap (wpAny_mono h (fun b s' q => ?_) fun _ _ q => q.elim)
  cases b with
  | true => exact q.1 rfl
  | false => exact q.2 rfl
end
/-- the state with the generator's own state -/
def rg (r : Shared) (st : GenState) : Shared := { r with gens := r.gens.push st }
theorem setGen_rg (r : Shared) (st st' : GenState) (h : Heap) (t : Nat) : (S (rg r st) h t).setGen r.gens.size st' = S (rg r st') h t := by
  unfold Shared.setGen
  have : (r.gens.push st).setIfInBounds r.gens.size st' = r.gens.push st' := by
    apply Array.ext'
    simp
  show (⟨h, (r.gens.push st).setIfInBounds r.gens.size st', r.drawn, t, r.os⟩ : Shared) = _
  rw [this]; rfl
theorem gens_rg (r : Shared) (st : GenState) (h : Heap) (t : Nat) : (S (rg r st) h t).gens[r.gens.size]? = some st := Array.getElem?_push_size ..
section
variable (w : World) (r : Shared) (g0 : Heap) (gs : List Heap) (C : Addr) (cs : List (Addr × Cel))
/-- the generator at rest, its own places gc -/
def GInv (gc : List (Addr × Cel)) (s : Shared) : Prop := ∃ m h t, s = S (rg r .running) h t ∧ Kn g0 gs (gc ++ (C, .ns m) :: cs) h
def LeafOf (F Lf : Tr) : Prop := (∃ wd bl row, Lf.Ok (.leaf wd bl row)) ∧ ∀ z ∈ Lf.cells, z ∈ F.cells
def GY (F : Tr) : Protocol := fun _ _ v s₁ kap => ∃ gc Lf, v = .ref (Tr.x Lf) ∧ LeafOf F Lf ∧ GInv r g0 gs C cs gc s₁ ∧ ∀ s'', GInv r g0 gs C cs gc s'' → kap (.send .none) s''
def GP : Nat → Shared → Shared → Prop := fun _ _ s₁ => ∃ gc, GInv r g0 gs C cs gc s₁
abbrev GR : GenEnd := fun n s₀ res s₁ => res = .ok (.ret .none) ∧ GP r g0 gs C cs n s₀ s₁
end
section
variable {w : World} {r : Shared} {g0 : Heap} {gs : List Heap} {C : Addr} {cs : List (Addr × Cel)} {A : Around} {env : Env} {Lg : Addr} {F : Tr}
theorem seg_done {n : Nat} {s₀ s : Shared} {c : Code} {gc : List (Addr × Cel)} (h : GInv r g0 gs C cs gc s) : Seg (model Pg w) A (GR r g0 gs C cs) (GY r g0 gs C cs F) n s₀ c (.pure (.done (.ret .none))) [] s :=
  seg_end (.ok (.ret .none)) ⟨rfl, gc, h⟩
/-- Leaf.leaves -/
theorem goes_leaf {wd bl : Str} {row : Int} (hF : F.Ok (.leaf wd bl row)) {fd : FuncData} {oc : Value} {od : Option Addr} {osl : Array (Option Value)} {body : List Stmt} (ho : (KK w).lookup 340 = some ⟨oc, od, .func fd, osl⟩) (hb : fd.body = .stmts body)
    (e : EnvIs env Lg fd.scope.names []) (hsc : env.scope.isCoroutine = false) {m : Str → Option Value} (hm : m "self" = some (.ref F.x)) (R : Rm A 10) {n : Nat} (hn : 1 ≤ n) :
    ∀ s'', GInv r g0 gs C cs [(Lg, .ns m)] s'' → (GenState.fresh (.func body env)).Goes (model Pg w) A (GR r g0 gs C cs) (GY r g0 gs C cs F) n (.send .none) s'' := by
  obtain rfl := fd_eq ho (by exact rfl)
  cases hb
  obtain ⟨n, rfl⟩ : ∃ k, n = k + 1 := ⟨n - 1, by omega⟩
  rintro s'' ⟨mC, h, t, rfl, H⟩
  dsimp only at e
  refine ⟨rfl, seg_func ?_⟩
  refine seg_execs_cons (seg_Expr_Yield rfl rfl rfl (wpAny_mono (E := NoE) ?_ (fun _ _ q => q) fun _ _ q => q.elim) hsc (by unfold interactive; rw [e.kind]; rfl))
  refine n_loc e H (.head _) (by exact rfl) hm ?_
  intro kap hk
  refine ⟨[(Lg, .ns m)], F, rfl, ⟨⟨wd, bl, row, hF⟩, fun z hz => hz⟩, ⟨mC, h, t, rfl, H⟩, fun s'' q => hk .none s'' ?_⟩
  exact seg_execs_nil (seg_done q)
end
def Tr.size : Tr → Nat
  | .leaf .. => 1
  | .one _ _ _ _ _ _ _ c => c.size + 1
  | .two _ _ _ _ _ _ _ c e => c.size + e.size + 1
theorem Tr.size_kids (T : Tr) : T.size = (T.kids.map Tr.size).sum + 1 := by
  cases T <;> simp [Tr.size, Tr.kids]
theorem Tr.size_pos (T : Tr) : 1 ≤ T.size := by rw [T.size_kids]; omega
section
variable {M : Model} {A : Around} {R : GenEnd} {Y : Protocol} {fs : List Frame} {env : Env} {test : Expr} {body orelse : List Stmt}
theorem seg_loop_ind (Inv : Nat → Shared → Prop)
    (step : ∀ μ n s₀ s, Inv μ s → μ ≤ n → (∀ μ' n' s₀' s', μ' < μ → μ' ≤ n' → Inv μ' s' → Seg M A R Y n' s₀' (.whileLoop test body orelse env) (M.den (.whileLoop test body orelse env)) fs s') →
      Seg M A R Y n s₀ (.whileLoop test body orelse env) (M.den (.whileLoop test body orelse env)) fs s) :
    ∀ μ n s₀ s, Inv μ s → μ ≤ n → Seg M A R Y n s₀ (.whileLoop test body orelse env) (M.den (.whileLoop test body orelse env)) fs s := by
  intro μ
  induction μ using Nat.strongRecOn with
  | ind μ ih => exact fun n s₀ s hi hn => step μ n s₀ s hi hn fun μ' n' s₀' s' h1 h2 h3 => ih μ' h1 n' s₀' s' h3 h2
end
theorem size_len (st : List Tr) : st.length ≤ (st.map Tr.size).sum := by
  induction st with
  | nil => exact Nat.zero_le _
  | cons a st ih => simp only [List.length_cons, List.map_cons, List.sum_cons]; have := a.size_pos; omega
theorem slot_pop_ty : typeOf (.builtin "list.pop") = pure (.type "method_descriptor") := F.type_list_pop
section
variable {w : World} {r : Shared} {g0 : Heap} {gs : List Heap} {C : Addr} {cs : List (Addr × Cel)} {A : Around} {env : Env} {Lg : Addr} {F : Tr}
abbrev vals (st : List Tr) : Array Value := (st.map fun t => Value.ref t.x).toArray
/-- the stack of a walk through a tree -/
def StackOk (F : Tr) (st : List Tr) : Prop := ∀ t ∈ st, (∃ p, t.Ok p) ∧ ∀ z ∈ t.cells, z ∈ F.cells
def LInv (r : Shared) (g0 : Heap) (gs : List Heap) (C : Addr) (cs : List (Addr × Cel)) (Lg : Addr) (F : Tr) (μ : Nat) (s : Shared) : Prop :=
  ∃ (st : List Tr) (stk : Addr) (c : Nat) (m mC : Str → Option Value) (h : Heap) (t : Nat), s = S (rg r .running) h t ∧ (st.map Tr.size).sum = μ ∧ μ ≤ 100 ∧ StackOk F st ∧ m "stack" = some (.ref stk) ∧
    Kn g0 gs ((stk, .ob (lo (vals st) c)) :: (Lg, .ns m) :: (C, .ns mC) :: cs) h
/-- Node.leaves -/
theorem goes_node (G : Gl w g0) {p : Plan} (hF : F.Ok p) (hnd : p.isNode) (hz : F.size ≤ 100) (hFc : ∀ z ∈ F.cells, z ∈ cs) {fd : FuncData} {oc : Value} {od : Option Addr} {osl : Array (Option Value)} {body : List Stmt} (ho : (KK w).lookup 144 = some ⟨oc, od, .func fd, osl⟩) (hb : fd.body = .stmts body)
    (e : EnvIs env Lg fd.scope.names []) (hsc : env.scope.isCoroutine = false) {m : Str → Option Value} (hm : m "self" = some (.ref F.x)) (R : Rm A 20) {n : Nat} (hn : F.size ≤ n) :
    ∀ s'', GInv r g0 gs C cs [(Lg, .ns m)] s'' → (GenState.fresh (.func body env)).Goes (model Pg w) A (GR r g0 gs C cs) (GY r g0 gs C cs F) n (.send .none) s'' := by
  obtain rfl := fd_eq ho (by exact rfl)
  cases hb
  rintro s'' ⟨mC, h, t, rfl, H⟩
  dsimp only at e
  obtain ⟨la, N, hC, hnn, hlm, hkok, hksub⟩ := hF.node hnd
  have hob : Has gs cs F.x (.ob (instObj 294 F.d)) := .inl (by have := hFc _ F.x_mem; rwa [hC] at this)
  have hns : Has gs cs F.d (.dct F.m F.n) := .inl (hFc _ (.head _))
  have hch := N.chl
  have hl : Has gs cs la (.lst (F.kids.map fun t => Value.ref t.x).toArray) := .inl (hFc _ hlm)
  have hkl : F.kids.length ≤ 2 := by obtain ⟨_, _, _, h, _⟩ := hF.children; exact h
  have R0 : ∀ b, Rm (A.over (.func b env) []) 10 := fun b => Rm.over0 (n := 10) R.le
  refine ⟨rfl, seg_func ?_⟩
  have H : Kn g0 gs ((Lg, .ns m) :: (C, .ns mC) :: cs) h := H
  refine seg_plain ?_
  repeat walk_at "go"
  walk_at "list"
  walk_at "reversed"
  refine c_reversed H (by walk_at "has") fun I h' H hs => ?_
  repeat walk_at "go"
  refine c_listRev (R0 _).hd H (by walk_at "has") (by simp; omega) fun stk c h' H => ?_
  repeat walk_at "go"
  refine ⟨rfl, seg_execs_cons (seg_While fun p => ?_)⟩
  rename_i H
  rw [show (List.map (fun t => Value.ref t.x) F.kids).toArray.toList.reverse.toArray = vals F.kids.reverse by simp [vals]] at H
  refine seg_loop_ind (LInv r g0 gs C cs Lg F) ?_ (F.kids.map Tr.size).sum _ _ _ ⟨F.kids.reverse, stk, c, _, mC, _, _, rfl, by rw [List.map_reverse, List.sum_reverse], by have := F.size_kids; omega, fun k hk => ?_, by exact rfl, H⟩ (by have := F.size_kids; omega)
  · rintro μ n s₀ s ⟨st, stk, c, m, mC, h, t, rfl, hμ, hμ2, hst, hm, H⟩ hn ih
    have R1 : ∀ {b b1 b2 k p test}, Rm (A.over (.whileLoop test b1 b2 env) [.ret k none false [] (.func b env) p []]) 10 := fun {b b1 b2 k p test} => Rm.over1 (n := 10) R.le
    refine seg_whileLoop ?_
    repeat walk_at "go"
    have hstl : st.length ≤ μ := by
      rw [← hμ]; exact size_len st
    refine wpAny_truthy_list (s := S (rg r .running) h t) (items := vals st) ⟨_, H.ob (.head _), rfl, _, rfl⟩ (by simp; omega) ?_
    rcases List.eq_nil_or_concat st with rfl | ⟨st', k, hc'⟩
    · show if false = true then _ else _
      rw [if_neg (by decide)]
      refine seg_execs_nil (seg_leaf (.ok .next) ?_)
      exact seg_execs_nil (env := env) (seg_done (gc := [(stk, .ob (lo (vals []) c)), (Lg, .ns m)]) ⟨mC, h, _, rfl, H⟩)
    · rw [List.concat_eq_append] at hc'
      subst hc'
      have hv : vals (st' ++ [k]) = (vals st').push (.ref k.x) := by simp [vals]
      rw [show (!(vals (st' ++ [k])).isEmpty) = true by rw [hv]; simp]
      rw [if_pos rfl]
      rw [hv] at H
      rw [List.length_append] at hstl
      obtain ⟨⟨pk, hk⟩, hkc⟩ := hst k (List.mem_append_right _ (List.mem_singleton.mpr rfl))
      have hst' : StackOk F st' := fun t ht => hst t (List.mem_append_left _ ht)
      rw [List.map_append, List.sum_append] at hμ
      have hsz : (st'.map Tr.size).sum + k.size = μ := by simpa using hμ
      refine seg_plain ?_
      repeat walk_at "go"
      refine g_lo PySem.F.slot_list_pop slot_pop_ty H (.head _) ?_
      repeat walk_at "go"
      refine c_pop H (by simp; omega) fun c' h' H => ?_
      repeat walk_at "go"
      refine ⟨rfl, seg_If ?_⟩
      rename_i H
      repeat walk_at "go"
      walk_at "isinstance"
      refine n_glob G e H (by exact rfl) (gl_Leaf w) ?_
      repeat walk_at "go"
      have hkI : Ins gs cs k.x k.C k.d k.m k.n := ⟨.inl (hFc _ (hkc _ k.x_mem)), .inl (hFc _ (hkc _ (.head _)))⟩
      by_cases hkn : pk.isNode
      · obtain ⟨lk, Nk, hkC, _, hlk, hkk, hks⟩ := hk.node hkn
        rw [hkC] at hkI
        have hob2 := hkI.ob
        have hns2 := hkI.ns
        have hch2 := Nk.chl
        have hl2 : Has gs cs lk (.lst (k.kids.map fun t => Value.ref t.x).toArray) := .inl (hFc _ (hkc _ hlk))
        have hkl2 : k.kids.length ≤ 2 := by obtain ⟨_, _, _, h, _⟩ := hk.children; exact h
        refine isi_Leaf_no G H ⟨by walk_at "has", by walk_at "has"⟩ fun t' => ?_
        repeat walk_at "go"
        refine ⟨fun q => (by cases q), fun _ => seg_plain ?_⟩
        repeat walk_at "go"
        refine g_lo PySem.F.slot_list_extend PySem.F.type_list_extend H (.head _) ?_
        repeat walk_at "go"
        walk_at "reversed"
        refine c_reversed H (by walk_at "has") fun I h' H hs => ?_
        repeat walk_at "go"
        refine c_extRev R1.hd H (by walk_at "has") (by simp; omega) fun c2 h' H => ?_
        rw [← show vals (st' ++ k.kids.reverse) = vals st' ++ (List.map (fun t => Value.ref t.x) k.kids).toArray.toList.reverse.toArray by simp [vals]] at H
        repeat walk_at "go"
        refine ⟨rfl, seg_execs_nil (env := env) (seg_execs_nil (env := env) (seg_again rfl (ih ((st' ++ k.kids.reverse).map Tr.size).sum n s₀ _ ?_ ?_ ⟨st' ++ k.kids.reverse, stk, c2, _, mC, h', _, rfl, rfl, ?_, ?_, ?_, H⟩)))⟩
        · have := k.size_kids; rw [List.map_append, List.sum_append, List.map_reverse, List.sum_reverse]; omega
        · have := k.size_kids; rw [List.map_append, List.sum_append, List.map_reverse, List.sum_reverse]; omega
        · have := k.size_kids; rw [List.map_append, List.sum_append, List.map_reverse, List.sum_reverse]; omega
        · intro t ht
          rcases List.mem_append.mp ht with ht | ht
          · exact hst' t ht
          · have ht := List.mem_reverse.mp ht
            obtain ⟨i, hi⟩ := List.getElem?_of_mem ht
            obtain ⟨q, _, hq⟩ := hkk.get' hi
            exact ⟨⟨q, hq.1⟩, fun z hz => hkc z (hks t ht z hz)⟩
        · exact hm
      · match pk, hkn, hk with
        | .leaf wd bl row, _, hk =>
          obtain ⟨_, _, _, hkC, _, _, _, _⟩ := hk.leaf
          rw [hkC] at hkI
          have hob2 := hkI.ob
          have hns2 := hkI.ns
          refine isi_Leaf_yes G H ⟨by walk_at "has", by walk_at "has"⟩ ?_
          repeat walk_at "go"
          obtain ⟨n, rfl⟩ : ∃ j, n = j + 1 := ⟨n - 1, by have := k.size_pos; omega⟩
          refine ⟨fun _ => seg_execs_cons (seg_Expr_Yield rfl rfl rfl (wpAny_mono (E := NoE) ?_ (fun _ _ q => q) fun _ _ q => q.elim) hsc (by unfold interactive; rw [e.kind]; rfl)), fun q => (by cases q)⟩
          refine n_loc e H (.tail _ (.head _)) (by exact rfl) (by exact rfl) ?_
          intro kap hkap
          refine ⟨[(stk, .ob (lo (vals st') c')), (Lg, .ns _)], k, rfl, ⟨⟨wd, bl, row, hk⟩, hkc⟩, ⟨mC, _, _, rfl, H⟩, ?_⟩
          rintro s'' ⟨mC2, h2, t2, rfl, H2⟩
          refine hkap .none _ (seg_execs_nil (env := env) (seg_execs_nil (env := env) (seg_again rfl (ih (st'.map Tr.size).sum n _ _ ?_ ?_ ⟨st', stk, c', _, mC2, h2, t2, rfl, rfl, ?_, hst', ?_, H2⟩))))
          · have := k.size_pos; omega
          · have := k.size_pos; omega
          · omega
          · exact hm
        | .one .., hkn, _ => exact absurd trivial hkn
        | .two .., hkn, _ => exact absurd trivial hkn
  · have hk := List.mem_reverse.mp hk
    obtain ⟨i, hi⟩ := List.getElem?_of_mem hk
    obtain ⟨q, _, hq⟩ := hkok.get' hi
    exact ⟨⟨q, hq.1⟩, hksub k hk⟩
end
def leavesFn : Tr → Addr | .leaf .. => 340 | _ => 144
theorem Tr.me_leaves (w : World) (T : Tr) : MethOk w T.C "leaves" (leavesFn T) := by cases T; exact me_Leaf_leaves w; exact me_Node_leaves w; exact me_Node_leaves w
theorem Tr.kf_leaves (w : World) (T : Tr) : keepIn (KK w) (.ref (leavesFn T)) = true := by cases T; exact kf_340 w; exact kf_144 w; exact kf_144 w
theorem Tr.Ok.no_leaves {T : Tr} {p : Plan} (h : T.Ok p) : T.m "leaves" = none := by
  cases T <;> cases p <;> first | exact h.elim | exact h.1.lv
theorem Tr.size_le {T : Tr} {p : Plan} : ∀ {d : Nat}, T.Ok p → p.ok d → T.size + 1 ≤ 2 ^ (d + 1) := by
  induction T generalizing p with
  | leaf => intro d h1 h2; have : 1 ≤ 2 ^ d := Nat.one_le_two_pow; rw [Nat.pow_succ]; show 2 ≤ _; omega
  | one x dd mk md l m n c ih =>
    intro d h1 h2
    cases p <;> first | exact h1.elim | skip
    cases d <;> first | exact h2.elim | skip
    have := ih h1.2.2.2 h2.2
    rw [Nat.pow_succ]; show c.size + 1 + 1 ≤ _; omega
  | two x dd mk md l m n c e ih1 ih2 =>
    intro d h1 h2
    cases p <;> first | exact h1.elim | skip
    cases d <;> first | exact h2.elim | skip
    have := ih1 h1.2.2.2.2.1 h2.2.1
    have := ih2 h1.2.2.2.2.2 h2.2.2
    rw [Nat.pow_succ]; show c.size + e.size + 1 + 1 ≤ _; omega
structure IsGO (go : Obj) (g : Nat) : Prop where
  c : go.cls = .type "generator"
  d : ∃ nm qn, go.data = .fields #[.int g 0, nm, qn]
  s : go.slots = #[]
section
variable {w : World} {r : Shared} {g0 h : Heap} {gs : List Heap} {cs : List (Addr × Cel)} {A : Around} {E Q : Value → Shared → Prop} {t : Nat}
theorem call_gen {f : Addr} {oc : Value} {od : Option Addr} {osl : Array (Option Value)} {fd : FuncData} {args : List Value} {kw : List (Str × Value)} {binds : List (Str × Value)} {body : List Stmt} {n : Nat}
    (G : Gl w g0) (H : Kn g0 gs cs h) (R : Rm A (n + 1))
    (ho : (KK w).lookup f = some ⟨oc, od, .func fd, osl⟩) (hb : fd.body = .stmts body) (hcd : codeIn (KK w) fd.code fd.qualname = true)
    (hbind : ∀ s : Shared, s.heap = h → BindsTo s fd ⟨args, kw⟩ binds)
    (hcell : (fd.scope.names.all fun x => x.2 != .cell) = true) (hloc : (binds.all fun x => decide (fd.scope.names.lookup x.1 = some .local)) = true)
    (hco : fd.scope.isCoroutine = false) (hgen : fd.scope.isGenerator = true) (hk : fd.scope.kind = .function) (hg : fd.globals = mainGlobals) (hbl : fd.builtins = builtinsNs) (hcl : fd.closure = [])
    (k : ∀ a L env go h₁ t₁, EnvIs env L fd.scope.names [] → env.scope.isCoroutine = false → IsGO go r.gens.size → Kn g0 gs ((a, .ob go) :: (L, .ns (fun x => binds.reverse.lookup x)) :: cs) h₁ →
      Q (.ref a) (S (rg r (.fresh (.func body env))) h₁ t₁)) :
    wpAny (model Pg w) A (call (.ref f) args kw) Q E (S r h t) := by
  have GH := G.of H
  refine wpAny_call (codeAny_call_generator (fd := fd) (body := body) R.room (GH.K _ _ ho) rfl hco hgen hb (codeRec_of GH.K hcd) (hbind _ rfl _ _ _ _ (wpAny_newFunctionEnv
    (fun x hx => by have := List.all_eq_true.mp hcell x hx; simpa using this) (locs hloc) (fun h₁ hns hs₁ => ?_) hk)))
  have hn : h.get? h.objs.size = none := none_of_stays fun _ _ e => e
  have st : h.StaysIn h₁ := fun b o e => hs₁.extBut b o (Nat.ne_of_lt (Heap.lt_size e)) (Heap.get?_push_of_some _ e)
  have H1 : Kn g0 gs ((h.objs.size, .ns (fun x => binds.reverse.lookup x)) :: cs) h₁ := H.new st (c := .ns _) hns hn
  refine ⟨(G.of H1).lim, ?_⟩
  exact k _ _ (newEnv fd.scope h.objs.size fd.globals fd.closure (fd.qualname ++ ".<locals>.") (some f) fd.code none fd.builtins) _ _ _ ⟨hk, rfl, rfl, hg, hbl, hcl⟩ hco ⟨rfl, ⟨_, _, rfl⟩, rfl⟩ (H1.push (c := .ob _) (Heap.get?_push_size _ rfl))
theorem s_leaves (G : Gl w g0) {F : Tr} {p : Plan} (hF : F.Ok p) (hz : F.size ≤ 100) (H : Kn g0 gs cs h) (R : Rm A 30)
    (K : ∀ a Lg m gst go h' t', (∀ {gs' : List Heap} {C : Addr} {cs' : List (Addr × Cel)} {A' : Around}, Rm A' 20 → (∀ z ∈ F.cells, z ∈ cs') → ∀ s'', GInv r g0 gs' C cs' [(Lg, .ns m)] s'' →
        (gst : GenState).Goes (model Pg w) A' (GR r g0 gs' C cs') (GY r g0 gs' C cs' F) F.size (.send .none) s'') → IsGO go r.gens.size → Kn g0 gs ((a, .ob go) :: (Lg, .ns m) :: cs) h' → Q (.ref a) (S (rg r gst) h' t')) :
    wpAny (model Pg w) A (call (.ref (leavesFn F)) [.ref F.x]) Q E (S r h t) := by
  by_cases hnd : p.isNode
  · have e : leavesFn F = 144 := by cases F <;> cases p <;> first | rfl | exact hF.elim | exact hnd.elim
    rw [e]
    refine call_gen (n := 29) G H R (binds := [(Str.ofString "self", .ref F.x)]) (by exact rfl) (by exact rfl) (by exact rfl) (fun s _ => BindsTo.of_eq (by exact rfl)) (by exact rfl) (by exact rfl) (by exact rfl) (by exact rfl) (by exact rfl) (by exact rfl) (by exact rfl) (by exact rfl) ?_
    intro a L env go h₁ t₁ e hsc hgo H
    exact K a L _ _ go h₁ t₁ (fun {gs' C cs' A'} R' hc => goes_node G hF hnd hz hc (by exact rfl) (by exact rfl) e hsc (by exact rfl) R' (Nat.le_refl _)) hgo H
  · match p, hnd, hF with
    | .leaf wd bl row, _, hF =>
      have e : leavesFn F = 340 := by cases F <;> first | rfl | exact hF.elim
      rw [e]
      refine call_gen (n := 29) G H R (binds := [(Str.ofString "self", .ref F.x)]) (by exact rfl) (by exact rfl) (by exact rfl) (fun s _ => BindsTo.of_eq (by exact rfl)) (by exact rfl) (by exact rfl) (by exact rfl) (by exact rfl) (by exact rfl) (by exact rfl) (by exact rfl) (by exact rfl) ?_
      intro a L env go h₁ t₁ e hsc hgo H
      exact K a L _ _ go h₁ t₁ (fun {gs' C cs' A'} R' hc => goes_leaf hF (by exact rfl) (by exact rfl) e hsc (by exact rfl) R'.le F.size_pos) hgo H
    | .one .., hnd, _ => exact absurd trivial hnd
    | .two .., hnd, _ => exact absurd trivial hnd
/-- a comprehension over a generator that lets nothing in -/
theorem gen_loop (G : Gl w g0) {F : Tr} {C a acc : Addr} {go : Obj} (hgo : IsGO go r.gens.size) (ha : Has gs cs a (.ob go)) {env : Env} {elt iter c : Expr} {x : Str} {px : Pos} {gens : List Comprehension} {scope : Scope} {pos : Pos} {d : Nat} {Rs : Result → Shared → Prop} {k : Nat} (R : Rm A k)
    (hgen : gens[d]? = some ⟨.Name x px, iter, [c], 0⟩) (hn : gens[d + 1]? = none)
    (turn : ∀ (rr : Shared) (Lf : Tr) gc m h t, LeafOf F Lf → Kn g0 gs ((C, .ns m) :: (gc ++ cs)) h → wpAny (model Pg w) A (assign (.Name x px) env (.ref Lf.x)) (fun _ s₃ => wpAny (model Pg w) A (isTrue c env (eval c env)) (fun b s₄ =>
      b = false ∧ ∃ m' h' t', s₄ = S rr h' t' ∧ Kn g0 gs ((C, .ns m') :: (gc ++ cs)) h') NoE s₃) NoE (S rr h t))
    (fin : ∀ gc m h t, Kn g0 gs ((C, .ns m) :: (gc ++ cs)) h → Rs (.ok .next) (S (rg r .finished) h t)) :
    ∀ (n : Nat) (gst : GenState) (gc : List (Addr × Cel)) (m : Str → Option Value) (h : Heap) (t : Nat),
      (∀ s'', GInv r g0 gs C cs gc s'' → gst.Goes (model Pg w) A.in1 (GR r g0 gs C cs) (GY r g0 gs C cs F) n (.send .none) s'') → Kn g0 gs (gc ++ (C, .ns m) :: cs) h →
      codeAny (model Pg w) A (.compLoop (.ListComp elt gens scope pos) d (.ref a) (.ref acc) env) Rs (S (rg r gst) h t) := by
  intro n
  induction n with
  | zero => 
    intro gst gc m h t hG H
    obtain ⟨nm, qn, hd⟩ := hgo.d
    refine comp_turn_if hgen hn (wpAny_pyNext_gen (s := S (rg r gst) h t) (n := 0) (P := GP r g0 gs C cs) (Y := GY r g0 gs C cs F) R.hd (G.of H).lim R.room ⟨go, nm, qn, Has.at H ha.cons.app, hgo.c, hd, hgo.s⟩ (gens_rg r gst h t) ?_ ?_ ?_)
    · rw [setGen_rg]; exact hG _ ⟨m, h, t, rfl, H⟩
    · rintro v s₁ gs' ⟨gc', Lf, rfl, hL, q, hk⟩
      exact (hk _ q).elim
    · rintro s₁ ⟨gc', m', h', t', rfl, H'⟩ h'' hs
      show Rs (.ok .next) { ((S (rg r .running) h' t').setGen r.gens.size .finished) with heap := h'' }
      rw [setGen_rg]
      exact fin gc' m' h'' t' ((H'.perm List.perm_middle.symm).stays hs)
  | succ n ih =>
    intro gst gc m h t hG H
    obtain ⟨nm, qn, hd⟩ := hgo.d
    refine comp_turn_if hgen hn (wpAny_pyNext_gen (s := S (rg r gst) h t) (n := n + 1) (P := GP r g0 gs C cs) (Y := GY r g0 gs C cs F) R.hd (G.of H).lim R.room ⟨go, nm, qn, Has.at H ha.cons.app, hgo.c, hd, hgo.s⟩ (gens_rg r gst h t) ?_ ?_ ?_)
    · rw [setGen_rg]; exact hG _ ⟨m, h, t, rfl, H⟩
    · rintro v s₁ gs' ⟨gc', Lf, rfl, hL, ⟨m', h', t', rfl, H'⟩, hk⟩
      rw [setGen_rg]
      refine go_name ?_
      refine wpAny_mono (turn (rg r gs') Lf gc' m' h' t' hL (H'.perm List.perm_middle.symm)) (fun _ s₃ q => wpAny_mono q (fun b s₄ q => ?_) fun _ _ q => q) fun _ _ q => q
      obtain ⟨rfl, m2, h2, t2, rfl, H2⟩ := q
      exact ⟨fun q => (by cases q), fun _ => ih gs' gc' m2 h2 t2 (fun s'' q => hk s'' q) (H2.perm List.perm_middle)⟩
    · rintro s₁ ⟨gc', m', h', t', rfl, H'⟩ h'' hs
      show Rs (.ok .next) { ((S (rg r .running) h' t').setGen r.gens.size .finished) with heap := h'' }
      rw [setGen_rg]
      exact fin gc' m' h'' t' ((H'.perm List.perm_middle.symm).stays hs)
end
/-- how a comprehension over a generator ends -/
def CompEndG (g0 : Heap) (Q : Value → Shared → Prop) (C acc : Addr) (res : Result) (s' : Shared) : Prop :=
  (∃ f, res = .ok f) ∧ ∃ r gs cs m h' t', s' = S r h' t' ∧ Kn g0 gs ((C, .ns m) :: cs) h' ∧ ∀ h'', Kn g0 gs cs h'' → Q (.ref acc) (S r h'' t')
def CompGoG (w : World) (g0 : Heap) (A : Around) (elt : Expr) (gens : List Comprehension) (scope : Scope) (pos : Pos) (nm' : List (Str × NameKind)) (cn : List Str) (cl' : List (Str × Addr)) (Q : Value → Shared → Prop) (it : Value) (s₂ : Shared) : Prop :=
  ∃ r gs cs h2 t2, s₂ = S r h2 t2 ∧ Kn g0 gs cs h2 ∧ (∀ (A' : Around) h3 t3 Q E, h2.StaysIn h3 → Q it (S r h3 t3) → wpAny (model Pg w) A' (pyIter it) Q E (S r h3 t3)) ∧
    ∀ acc C as env' h3 t3, as.length = cn.length → EnvIs env' C nm' ((cn.zip as).reverse ++ cl') → h2.StaysIn h3 →
      Kn g0 gs ((C, .ns fun _ => none) :: (acc, .lst #[]) :: (as.map (fun a => (a, Cel.cell none)) ++ cs)) h3 →
      codeAny (model Pg w) A (.compLoop (.ListComp elt gens scope pos) 0 it (.ref acc) env') (CompEndG g0 Q C acc) (S r h3 t3)
section
variable {w : World} {g0 h : Heap} {gs : List Heap} {cs : List (Addr × Cel)} {r : Shared} {t n : Nat} {A : Around} {env : Env} {L : Addr} {nm : List (Str × NameKind)} {cl : List (Str × Addr)}
theorem lcG {Q : Value → Shared → Prop} {elt target iter : Expr} {ifs : List Expr} {rest : List Comprehension} {scope : Scope} {pos : Pos} {nm' : List (Str × NameKind)} {cn : List Str} {cl' : List (Str × Addr)}
    (ev : EnvIs env L nm cl) (_H : Kn g0 gs cs h) (hclos : closL cl scope.names [] = some cl') (hkind : scope.kind = .function)
    (hnames : (scope.names.all fun x => x.2 != .local || scope.names.lookup x.1 == some .local) = true) (hn : relab nm scope.names = nm') (hcn : cellNames scope.names = cn)
    (hs : ∀ x, foldedSetIterable iter env x = pure x)
    (k : wpAny (model Pg w) A (eval iter env) (fun x s₁ => wpAny (model Pg w) A (pyIter x) (CompGoG w g0 A elt (⟨target, iter, ifs, 0⟩ :: rest) scope pos nm' cn cl' Q) NoE s₁) NoE (S r h t)) :
    wpAny (model Pg w) A (eval (.ListComp elt (⟨target, iter, ifs, 0⟩ :: rest) scope pos) env) Q NoE (S r h t) := by
  rw [eval_ListComp]
  refine wpAny_comprehension_free (g := ⟨target, iter, ifs, 0⟩) (gs := rest) (use := none) rfl hs (closure_of ev hclos) hkind
    (fun x hx hl => by have := List.all_eq_true.mp hnames x hx; rw [hl] at this; simpa using this) ?_
  refine wpAny_mono k (fun x s₁ h₁ => wpAny_mono h₁ (fun it s₂ h₂ => ?_) fun _ _ q => q) fun _ _ q => q
  obtain ⟨r, gs, cs, h2, t2, rfl, H, hit, k⟩ := h₂
  refine wpAny_newList ?_
  have H1 : Kn g0 gs ((h2.objs.size, Cel.lst #[]) :: cs) (h2.push { cls := .type "list", data := .seq ([] : List Value).toArray }) := H.push ⟨_, Heap.get?_push_size _ rfl, rfl, _, rfl⟩
  refine env_new (r := r) H1 fun C as h' hl H' hst hC => binds_nil ?_
  have hst2 : h2.StaysIn h' := fun b o e => hst b o (Heap.get?_push_of_some _ e)
  subst hcn
  refine comp_start (g := ⟨target, iter, ifs, 0⟩) rfl rfl (fun A' Q E q => hit A' h' t2 Q E hst2 q) ?_
  refine codeAny_mono (k h2.objs.size C as _ h' t2 hl ⟨?_, ?_, rfl, ?_, ?_, rfl⟩ hst2 (H'.perm ?_)) (fun res s' q => ?_)
  · exact hkind
  · rw [← hn]; exact relab_is ev scope
  · exact ev.glob
  · exact ev.blt
  · exact List.Perm.trans (List.Perm.cons _ List.perm_middle.symm) List.perm_middle.symm
  · obtain ⟨⟨f, rfl⟩, r', gs', cs', m, h'', t'', rfl, H'', k''⟩ := q
    exact ⟨m, H''.ns (.head _), fun h3 hs3 => k'' h3 (H''.lose hs3)⟩
end
/-- the law's own def -/
noncomputable def lawFd (w : World) : Option FuncData := match (KK w).lookup 439 with | some ⟨_, _, .func fd, _⟩ => some fd | _ => none
noncomputable def lawBody (w : World) : List Stmt := match lawFd w with | some fd => (match fd.body with | .stmts b => b | _ => []) | none => []
noncomputable def lawNames (w : World) : List (Str × NameKind) := match lawFd w with | some fd => fd.scope.names | none => []
/-- the addresses of the law's cells -/
structure LawEnv where
  L : Addr
  c1 : Addr
  c2 : Addr
  c3 : Addr
  c4 : Addr
  c5 : Addr
  c6 : Addr
  c7 : Addr
  c8 : Addr
  c9 : Addr
abbrev LawEnv.cl (e : LawEnv) : List (Str × Addr) := [(Str.ofString "around", e.c9), (Str.ofString "told", e.c8), (Str.ofString "one", e.c7), (Str.ofString "things", e.c6), (Str.ofString "path", e.c5), (Str.ofString "places", e.c4), (Str.ofString "trees", e.c3), (Str.ofString "plans", e.c2), (Str.ofString "state", e.c1)]
/-- what they hold -/
abbrev LawEnv.cells (e : LawEnv) (m : Str → Option Value) (v1 v2 v3 v4 v5 v6 v7 v8 v9 : Option Value) (X : List (Addr × Cel)) : List (Addr × Cel) :=
  (e.L, .ns m) :: (e.c1, .cell v1) :: (e.c2, .cell v2) :: (e.c3, .cell v3) :: (e.c4, .cell v4) :: (e.c5, .cell v5) :: (e.c6, .cell v6) :: (e.c7, .cell v7) :: (e.c8, .cell v8) :: (e.c9, .cell v9) :: X
/-- the script's first sixty -/
structure Ints60 (xs : Array Value) : Prop where
  i : ∀ (i : Nat) v, xs[i]? = some v → ∃ z tz, v = Value.int z tz
  z : xs.size ≤ 60
theorem slice60 {xs : Array Value} (h : ∀ (i : Nat) v, xs[i]? = some v → ∃ z tz, v = Value.int z tz) : Ints60 (slicePick xs none (some 60) none) := by
  constructor
  · intro i v hv
    unfold slicePick at hv
    rw [List.getElem?_toArray] at hv
    have := List.mem_of_getElem? hv
    obtain ⟨j, _, hj⟩ := List.mem_filterMap.mp this
    exact h j v hj
  · unfold slicePick
    rw [List.size_toArray]
    refine Nat.le_trans (List.length_filterMap_le _ _) ?_
    refine sliceRange_length_le _ _ _ 60 (fun _ => ⟨by simp [sliceBounds], ?_⟩) (fun q => absurd (by simp [sliceBounds]) q)
    simp [sliceBounds]; omega
section
variable {w : World} {g0 h : Heap} {gs : List Heap} {r : Shared} {t n : Nat} {A : Around} {env : Env}
theorem x_asgC {E0 : Value → Shared → Prop} {L : Addr} {nm : List (Str × NameKind)} {cl : List (Str × Addr)} {Q : Flow → Shared → Prop} {x : Str} {p' pos sp : Pos} {elt : Expr} {gens : List Comprehension} {scope : Scope} {s : Shared} (ev : EnvIs env L nm cl) (hl : nm.lookup x = some .cell)
    (k : wpAny (model Pg w) A (eval (.ListComp elt gens scope sp) env) (fun v s₁ => wpAny (model Pg w) A (storeName env x v) (fun _ => Q .next) E0 s₁) E0 s) : wpAny (model Pg w) A (exec (.Assign [.Name x p'] (.ListComp elt gens scope sp) pos) env) Q E0 s := by
  refine x_asg k ?_
  show (pure (env.blockKind == .function && env.kindOf x == some .local && p'.line == sp.line && !(scope.names.any fun (n, k) => n == x && (k == .local || k == .cell))) : Sem Bool) = pure false
  rw [ev.kindOf hl]
  have : (some NameKind.cell == some NameKind.local) = false := by decide
  rw [this, Bool.and_false, Bool.false_and, Bool.false_and]
/-- 0: state -/
theorem st0 (G : Gl w g0) {E : LawEnv} {st : Stmt} {nm : List (Str × NameKind)} (hst : (lawBody w)[0]? = some st) (hnm : lawNames w = nm) (e : EnvIs env E.L nm E.cl) {ls : Addr} {xs : Array Value} {m : Str → Option Value} (hm : m "script" = some (.ref ls)) (hl : Has gs [] ls (.lst xs)) (hx : ∀ (i : Nat) v, xs[i]? = some v → ∃ z tz, v = Value.int z tz) (hz : xs.size ≤ 63)
    (H : Kn g0 gs (E.cells m none none none none none none none none none []) h) :
    wpAny (model Pg w) A (exec st env) (fun f s => f = .next ∧ ∃ (g : Heap) (il stA : Addr) (k : Int) (tk : Tok) (ys : Array Value) (h' : Heap) (t' : Nat), s = S r h' t' ∧ Ints60 ys ∧ Fz g il (.lst ys) ∧ 0 ≤ k ∧
      Kn g0 [g] ((stA, .lst #[.ref il, .int k tk]) :: E.cells m (some (.ref stA)) none none none none none none none none []) h') NoE (S r h t) := by
  obtain rfl : _ = st := Option.some.inj ((show (lawBody w)[0]? = some _ from rfl).symm.trans hst)
  obtain rfl : _ = nm := (show lawNames w = _ from rfl).symm.trans hnm
  clear hst
  have hl := hl.mono (fun _ h => h) (fun _ h => nomatch h) (cs' := E.cells m none none none none none none none none none [])
  repeat walk_at "go"
  refine ⟨_, _, _, _, rfl, by assumption, fun sl h' H hs => ?_⟩
  repeat walk_at "go"
  refine l_slice (xs := xs) (lo := none) (hi := some 60) H (by walk_at "has") (.head _) .none (.int _ _) (by omega) fun il h' H hs => ?_
  repeat walk_at "go"
  refine ⟨sz, _, _, _, _, rfl, by assumption, fun stA h' H hs => ?_⟩
  repeat walk_at "go"
  rename_i H
  obtain ⟨g, f1, f2, f3, f4⟩ := Kn.freeze (c1 := [(il, _)]) (H.pick (cs' := (il, _) :: (stA, _) :: E.cells m (some (.ref stA)) none none none none none none none none []) (by walk_at "pick"))
  exact ⟨rfl, g, il, stA, 0, _, _, _, _, rfl, slice60 hx, f1 _ (.head _), by decide, f4.gsub fun x hx => by cases List.mem_singleton.mp hx; exact .head _⟩
theorem law_next (G : Gl w g0) {Q : Value → Shared → Prop} {ps rest : List (Addr × Cel)} {stA il : Addr} {ys : Array Value} {k lim : Int} {tk tl : Tok} (hil : Has gs [] il (.lst ys)) (hI : Ints60 ys) (hk : 0 ≤ k) (hl : 0 < lim) (R : Rm A 5)
    (H : Kn g0 gs (ps ++ (stA, .lst #[.ref il, .int k tk]) :: rest) h)
    (K : ∀ v tv h' t' k' tk', 0 ≤ v → v < lim → 0 ≤ k' → Kn g0 gs (ps ++ (stA, .lst #[.ref il, .int k' tk']) :: rest) h' → Q (.int v tv) (S r h' t')) :
    wpAny (model Pg w) A (call (.ref 383) [.ref stA, .int lim tl]) Q NoE (S r h t) :=
  s_next G (cs' := fun k tk => ps ++ (stA, .lst #[.ref il, .int k tk]) :: rest) H R (fun k' tk' => .app .here) hil hI.i hI.z hk hl K
theorem law_plan (G : Gl w g0) {Q : Value → Shared → Prop} {ps rest : List (Addr × Cel)} {stA il : Addr} {ys : Array Value} {k : Int} {tk td : Tok} (hil : Has gs [] il (.lst ys)) (hI : Ints60 ys) (hk : 0 ≤ k) (R : Rm A 40)
    (H : Kn g0 gs (ps ++ (stA, .lst #[.ref il, .int k tk]) :: rest) h)
    (K : ∀ v p g' h' t' k' tk', p.ok 2 ∧ p.wordy → PlanAt (Fz g') p v → (∀ x ∈ gs, x.StaysIn g') → 0 ≤ k' → Kn g0 (g' :: gs) (ps ++ (stA, .lst #[.ref il, .int k' tk']) :: rest) h' → Q v (S r h' t')) :
    wpAny (model Pg w) A (call (.ref 388) [.ref stA, .int 2 td]) Q NoE (S r h t) :=
  s_plan G hI.i hI.z 2 (by decide) (cs' := fun k tk => ps ++ (stA, .lst #[.ref il, .int k tk]) :: rest) H R (fun _ _ k' tk' => .app .here) rfl hil hk K
/-- the plans -/
structure PlanOk (p : Plan) : Prop where
  ok : p.ok 3
  wd : p.wordy
  nd : p.isNode
/-- 1: plans -/
theorem st1 (G : Gl w g0) {E : LawEnv} {st : Stmt} {nm : List (Str × NameKind)} (hst : (lawBody w)[1]? = some st) (hnm : lawNames w = nm) (e : EnvIs env E.L nm E.cl) (R : Rm A 400) {m : Str → Option Value} {g : Heap} {il stA : Addr} {k : Int} {tk : Tok} {ys : Array Value} (hI : Ints60 ys) (hil : Fz g il (.lst ys)) (hk : 0 ≤ k)
    (H : Kn g0 [g] ((stA, .lst #[.ref il, .int k tk]) :: E.cells m (some (.ref stA)) none none none none none none none none []) h) :
    wpAny (model Pg w) A (exec st env) (fun f s => f = .next ∧ ∃ (g' : Heap) (lp : Addr) (k : Int) (tk : Tok) (v0 v1 : Value) (p0 p1 : Plan) (h' : Heap) (t' : Nat), s = S r h' t' ∧ Fz g' il (.lst ys) ∧ 0 ≤ k ∧ Fz g' lp (.lst #[v0, v1]) ∧
      PlanOk p0 ∧ PlanOk p1 ∧ PlanAt (Fz g') p0 v0 ∧ PlanAt (Fz g') p1 v1 ∧
      Kn g0 [g'] ((stA, .lst #[.ref il, .int k tk]) :: E.cells m (some (.ref stA)) (some (.ref lp)) none none none none none none none []) h') NoE (S r h t) := by
  obtain rfl : _ = st := Option.some.inj ((show (lawBody w)[1]? = some _ from rfl).symm.trans hst)
  obtain rfl : _ = nm := (show lawNames w = _ from rfl).symm.trans hnm
  clear hst
  refine x_asgC e (by exact rfl) ?_
  refine lc e (by assumption) (by exact rfl) (by exact rfl) (by exact rfl) (by exact rfl) (by exact rfl) (fun _ => rfl) ?_
  walk_at "range"
  rename_i tn _
  refine rg_call (by assumption) fun ra t1 t2 h' t' H hs => ?_
  refine rg_iter (n := 2) H (.head _) (by omega) fun I h' H hs => ?_
  refine ⟨[g], _, h', t', rfl, H, fun A' h3 t3 Q E k q => itself_rit H (.head _) k q, ?_⟩
  intro acc C as env' h3 t3 has e' hs3 H
  match as, has with
  | [], _ =>
  obtain ⟨g1, _, f2, _, H⟩ := Kn.freeze (c1 := []) H
  refine comp_src (σ := Int × Tok) (csf := fun σ => (ra, .ob (rng 0 (2 : Nat) 1 t1 tn t2)) :: (stA, .lst #[.ref il, .int σ.1 σ.2]) :: E.cells m (some (.ref stA)) none none none none none none none none [])
    (J := fun i σ g' zs => 0 ≤ σ.1 ∧ g.StaysIn g' ∧ ∃ ps : List Plan, All2 (fun p v => PlanOk p ∧ PlanAt (Fz g') p v) ps zs) (K := fun _ => True)
    (src_range R.hd I 2) (by rw [sizeLine_eq]; omega) (by exact rfl) (by exact rfl) (fun _ _ _ _ _ _ _ => trivial) (fun _ _ _ _ _ _ _ _ q => go_name q) ?_ ?_
    2 0 g1 (k, tk) [] _ h3 t3 rfl (Nat.zero_le _) ⟨hk, f2 g (.head _), [], trivial⟩ rfl (H.gsub fun x hx => by cases List.mem_singleton.mp hx; exact .head _)
  · intro i x g' σ zs mC h t hi hx hJ hlz H
    obtain ⟨hk, hgs, ps, hps⟩ := hJ
    have hil' : ∀ gs, Has (g' :: gs) [] il (.lst ys) := fun gs => .inr ⟨g', .head _, Cel.At.mono (hgs il) hil⟩
    repeat walk_at "go"
    refine lc e' (by assumption) (by exact rfl) (by exact rfl) (by exact rfl) (by exact rfl) (by exact rfl) (fun _ => rfl) ?_
    walk_at "range"
    walk_at "next"
    refine law_next G (ps := [(C, _), (acc, _), (I, _), (ra, _)]) (hil' _) hI hk (by decide) R.le (by assumption) ?_
    intro v2 tv2 h' t' k2 tk2 h20 h21 hk2 H
    repeat walk_at "go"
    rename_i tkr _
    obtain ⟨n, hn, hn2⟩ : ∃ n : Nat, 1 + v2 = n ∧ (n = 1 ∨ n = 2) := ⟨(1 + v2).toNat, by omega, by omega⟩
    rw [hn]
    refine rg_call H fun ra2 t1 t2 h' t' H hs => ?_
    refine rg_iter (n := n) H (.head _) (by omega) fun I2 h' H hs => ?_
    refine ⟨[g'], _, h', t', rfl, H, fun A' h3 t3 Q E k q => itself_rit H (.head _) k q, ?_⟩
    intro acc2 C2 as env2 h3 t3 has e2 hs3 H
    match as, has with
    | [], _ =>
    have H : Kn g0 [g'] ((C2, .ns fun _ => none) :: (acc2, .lst #[]) :: (I2, .ob (rit ((0 : Nat) : Int) (n - (0 : Nat)) 1)) :: (ra2, .ob (rng 0 n 1 t1 tkr t2)) :: (C, .ns _) :: (acc, .lst zs.toArray) :: (I, _) :: (ra, _) :: (stA, .lst #[.ref il, .int k2 tk2]) :: E.cells m (some (.ref stA)) none none none none none none none none []) h3 := H
    generalize (fun y => if y = Str.ofString "side" then some x else mC y) = mC' at H
    obtain ⟨g1, _, f2, _, H⟩ := Kn.freeze (c1 := []) H
    refine comp_src (σ := Int × Tok) (csf := fun σ => (ra2, .ob (rng 0 n 1 t1 tkr t2)) :: (C, .ns mC') :: (acc, .lst zs.toArray) :: (I, _) :: (ra, _) :: (stA, .lst #[.ref il, .int σ.1 σ.2]) :: E.cells m (some (.ref stA)) none none none none none none none none [])
      (J := fun i σ g2 ws => 0 ≤ σ.1 ∧ g'.StaysIn g2 ∧ ∃ ps : List Plan, All2 (fun p v => (p.ok 2 ∧ p.wordy) ∧ PlanAt (Fz g2) p v) ps ws) (K := fun _ => True)
      (src_range R.hd I2 n) (by rw [sizeLine_eq]; omega) (by exact rfl) (by exact rfl) (fun _ _ _ _ _ _ _ => trivial) (fun _ _ _ _ _ _ _ _ q => go_name q) ?_ ?_
      n 0 g1 (k2, tk2) [] _ h3 t3 rfl (Nat.zero_le _) ⟨hk2, f2 g' (.head _), [], trivial⟩ rfl (H.gsub fun x hx => by cases List.mem_singleton.mp hx; exact .head _)
    · intro j y g2 σ2 ws m2 h t hj hy hJ2 hlw H
      obtain ⟨hk3, hg2, ps2, hps2⟩ := hJ2
      repeat walk_at "go"
      walk_at "plan"
      refine law_plan G (ps := [(C2, _), (acc2, _), (I2, _), (ra2, _), (C, _), (acc, _), (I, _), (ra, _)]) (.inr ⟨g2, .head _, Cel.At.mono (fun o e => hg2 il o (hgs il o e)) hil⟩) hI hk3 R.le (by assumption) ?_
      intro v p g3 h' t' k4 tk4 hp hpv hg3 hk4 H
      refine ⟨g3, (k4, tk4), _, _, _, rfl, H.gsub fun x hx => ?_, hk4, fun b o q => hg3 g2 (.head _) b o (hg2 b o q), ps2 ++ [p], ?_⟩
      · cases List.mem_singleton.mp hx; exact .head _
      · exact (hps2.mono fun p v q => ⟨q.1, q.2.mono fun a c z => z.mono (hg3 g2 (.head _) a)⟩).snoc ⟨hp, hpv⟩
    · intro g2 σ2 ws m2 h t hJ2 hlw H
      obtain ⟨hk3, hg2, ps2, hps2⟩ := hJ2
      refine ⟨⟨_, rfl⟩, _, _, _, _, _, rfl, H, fun h H => ?_⟩
      repeat walk_at "go"
      refine ⟨sz, _, _, _, _, rfl, by assumption, fun ta h' H hs => ?_⟩
      obtain ⟨g4, f1, f2, f3, f4⟩ := Kn.freeze (c1 := [(ta, _), (acc2, _)]) H
      have hps2 := hps2.mono fun p v q => (⟨q.1, q.2.mono fun a c z => z.mono (f2 g2 (.head _) _)⟩ : (p.ok 2 ∧ p.wordy) ∧ PlanAt (Fz g4) p v)
      have hacc : Fz g4 acc2 (.lst ws.toArray) := f1 _ (.tail _ (.head _))
      have hg4 : g'.StaysIn g4 := fun b o q => f2 g2 (.head _) b o (hg2 b o q)
      have fin : ∀ p : Plan, PlanOk p → PlanAt (Fz g4) p (.ref ta) → ∃ g5 σ5 m5 h5 t5, S r h' t = S r h5 t5 ∧ Kn g0 [g5] ((C, .ns m5) :: (acc, .lst zs.toArray) :: (I, .ob (rit ((i + 1 : Nat) : Int) ((2 : Nat) - (i + 1 : Nat)) 1)) :: (ra, .ob (rng 0 (2 : Nat) 1 _ tn _)) :: (stA, .lst #[.ref il, .int (Prod.fst σ5) (Prod.snd σ5)]) :: E.cells m (some (.ref stA)) none none none none none none none none []) h5 ∧
          (0 ≤ σ5.1 ∧ g.StaysIn g5 ∧ ∃ ps : List Plan, All2 (fun p v => PlanOk p ∧ PlanAt (Fz g5) p v) ps (zs ++ [.ref ta])) := fun p hp hv =>
        ⟨g4, σ2, mC', h', t, rfl, (f4.gsub fun x hx => by cases List.mem_singleton.mp hx; exact .head _).pick (by walk_at "pick"), hk3, fun b o q => hg4 b o (hgs b o q), ps ++ [p],
          (hps.mono fun p v q => ⟨q.1, q.2.mono fun a c z => z.mono (hg4 a)⟩).snoc ⟨hp, hv⟩⟩
      rcases hn2 with rfl | rfl
      · match ws, ps2, hlw, hps2, hacc with
        | [y], [p], _, hps2, hacc =>
          exact fin (.one 256 p) ⟨⟨by decide, hps2.1.1.1⟩, hps2.1.1.2, trivial⟩ ⟨ta, _, acc2, y, rfl, f1 _ (.head _), hacc, hps2.1.2⟩
      · match ws, ps2, hlw, hps2, hacc with
        | [y, z], [p, q], _, hps2, hacc =>
          exact fin (.two 256 p q) ⟨⟨by decide, hps2.1.1.1, hps2.2.1.1.1⟩, ⟨hps2.1.1.2, hps2.2.1.1.2⟩, trivial⟩ ⟨ta, _, acc2, y, z, rfl, f1 _ (.head _), hacc, hps2.1.2, hps2.2.1.2⟩
  · intro g' σ zs mC h t hJ hlz H
    obtain ⟨hk, hgs, ps, hps⟩ := hJ
    refine ⟨⟨_, rfl⟩, _, _, _, _, _, rfl, H, fun h H => ?_⟩
    repeat walk_at "go"
    rename_i H
    obtain ⟨g4, f1, f2, f3, f4⟩ := Kn.freeze (c1 := [(acc, _)]) (H.pick (cs' := (acc, _) :: (stA, _) :: E.cells m (some (.ref stA)) (some (.ref acc)) none none none none none none none []) (by walk_at "pick"))
    match zs, ps, hlz, hps with
    | [v0, v1], [p0, p1], _, hps =>
      exact ⟨rfl, g4, acc, σ.1, σ.2, v0, v1, p0, p1, _, _, rfl, Cel.At.mono (fun o e => f2 g' (.head _) il o (hgs il o e)) hil, hk, f1 _ (.head _), hps.1.1, hps.2.1.1, hps.1.2.mono fun a c z => z.mono (f2 g' (.head _) a), hps.2.1.2.mono fun a c z => z.mono (f2 g' (.head _) a),
        f4.gsub fun x hx => by cases List.mem_singleton.mp hx; exact .head _⟩
end
structure D1 (g : Heap) (il lp : Addr) (ys : Array Value) (v0 v1 : Value) (p0 p1 : Plan) : Prop where
  i60 : Ints60 ys
  il : Fz g il (.lst ys)
  lp : Fz g lp (.lst #[v0, v1])
  o0 : PlanOk p0
  o1 : PlanOk p1
  a0 : PlanAt (Fz g) p0 v0
  a1 : PlanAt (Fz g) p1 v1
theorem D1.mono {g g' il lp ys v0 v1 p0 p1} (x : D1 g il lp ys v0 v1 p0 p1) (k : g.StaysIn g') : D1 g' il lp ys v0 v1 p0 p1 :=
  ⟨x.i60, Cel.At.mono (k _) x.il, Cel.At.mono (k _) x.lp, x.o0, x.o1, x.a0.mono fun a c z => z.mono (k a), x.a1.mono fun a c z => z.mono (k a)⟩
structure D2 (g : Heap) (lt : Addr) (T0 T1 : Tr) (p0 p1 : Plan) : Prop where
  lt : Fz g lt (.lst #[.ref T0.x, .ref T1.x])
  k0 : T0.Ok p0
  c0 : T0.Calm
  r0 : T0.m "parent" = none
  k1 : T1.Ok p1
  c1 : T1.Calm
  f1 : ∀ z ∈ T1.cells, Fz g z.1 z.2
theorem D2.mono {g g' lt T0 T1 p0 p1} (x : D2 g lt T0 T1 p0 p1) (k : g.StaysIn g') : D2 g' lt T0 T1 p0 p1 :=
  ⟨Cel.At.mono (k _) x.lt, x.k0, x.c0, x.r0, x.k1, x.c1, fun z hz => Cel.At.mono (k _) (x.f1 z hz)⟩
structure D3 (g : Heap) (lq : Addr) (q0 q1 : Value) (p0 p1 : Plan) : Prop where
  lq : Fz g lq (.lst #[q0, q1])
  a0 : PathsAt (Fz g) q0 (p0.paths [])
  a1 : PathsAt (Fz g) q1 (p1.paths [])
theorem PathsAt.mono {F F' : Addr → Cel → Prop} {v : Value} {ps : List (List Nat)} (x : PathsAt F v ps) (m : ∀ a c, F a c → F' a c) : PathsAt F' v ps := let ⟨l, vs, e, h1, h2⟩ := x; ⟨l, vs, e, m _ _ h1, h2.mono fun π v z => z.mono m⟩
theorem D3.mono {g g' lq q0 q1 p0 p1} (x : D3 g lq q0 q1 p0 p1) (k : g.StaysIn g') : D3 g' lq q0 q1 p0 p1 :=
  ⟨Cel.At.mono (k _) x.lq, x.a0.mono fun a c z => z.mono (k a), x.a1.mono fun a c z => z.mono (k a)⟩
theorem fzHas {g : Heap} {gs : List Heap} {cs : List (Addr × Cel)} {a : Addr} {c : Cel} (h : Fz g a c) (m : g ∈ gs) : Has gs cs a c := .inr ⟨g, m, h⟩
theorem All2.two {α β : Type} {R : α → β → Prop} {a b : α} {m : List β} (h : All2 R [a, b] m) : ∃ x y, m = [x, y] ∧ R a x ∧ R b y :=
  match m, h with
  | [x, y], h => ⟨x, y, rfl, h.1, h.2.1⟩
theorem All2.twoR {α β : Type} {R : α → β → Prop} {a b : β} {m : List α} (h : All2 R m [a, b]) : ∃ x y, m = [x, y] ∧ R x a ∧ R y b :=
  match m, h with
  | [x, y], h => ⟨x, y, rfl, h.1, h.2.1⟩
section
variable {w : World} {g0 h : Heap} {r : Shared} {t n : Nat} {A : Around} {env : Env}
/-- 3: places -/
theorem st3 (G : Gl w g0) {E : LawEnv} {st : Stmt} {nm : List (Str × NameKind)} (hst : (lawBody w)[3]? = some st) (hnm : lawNames w = nm) (e : EnvIs env E.L nm E.cl) (R : Rm A 400) {m : Str → Option Value} {g : Heap} {il stA lp lt : Addr} {k : Int} {tk : Tok} {ys : Array Value} {v0 v1 : Value} {p0 p1 : Plan} (D : D1 g il lp ys v0 v1 p0 p1) {X : List (Addr × Cel)}
    (H : Kn g0 [g] ((stA, .lst #[.ref il, .int k tk]) :: E.cells m (some (.ref stA)) (some (.ref lp)) (some (.ref lt)) none none none none none none X) h) :
    wpAny (model Pg w) A (exec st env) (fun f s => f = .next ∧ ∃ (g' : Heap) (lq : Addr) (q0 q1 : Value) (h' : Heap) (t' : Nat), s = S r h' t' ∧ g.StaysIn g' ∧ D3 g' lq q0 q1 p0 p1 ∧
      Kn g0 [g'] ((stA, .lst #[.ref il, .int k tk]) :: E.cells m (some (.ref stA)) (some (.ref lp)) (some (.ref lt)) (some (.ref lq)) none none none none none X) h') NoE (S r h t) := by
  obtain rfl : _ = st := Option.some.inj ((show (lawBody w)[3]? = some _ from rfl).symm.trans hst)
  obtain rfl : _ = nm := (show lawNames w = _ from rfl).symm.trans hnm
  clear hst
  refine x_asgC e (by exact rfl) ?_
  refine lc e (by assumption) (by exact rfl) (by exact rfl) (by exact rfl) (by exact rfl) (by exact rfl) (fun _ => rfl) ?_
  repeat walk_at "go"
  refine itL H (fzHas D.lp (.head _)) fun I h' H hs => ?_
  refine ⟨[g], _, h', _, rfl, H, fun A' h3 t3 Q E k q => itself_lit H (.head _) k q, ?_⟩
  intro acc C as env' h3 t3 has e' hs3 H
  match as, has with
  | [], _ =>
  obtain ⟨g1, _, f2, _, H⟩ := Kn.freeze (c1 := []) H
  refine comp_src (σ := Unit) (csf := fun _ => (stA, .lst #[.ref il, .int k tk]) :: E.cells m (some (.ref stA)) (some (.ref lp)) (some (.ref lt)) none none none none none none X)
      (J := fun i σ g' zs => g.StaysIn g' ∧ All2 (fun (q : Plan) v => PathsAt (Fz g') v (q.paths [])) ([p0, p1].take i) zs) (K := fun h => h.IsList lp #[v0, v1])
      (src_list R.hd I lp #[v0, v1]) (by rw [sizeLine_eq]; show 2 ≤ _; decide) (by exact rfl) (by exact rfl) (fun _ _ σ _ _ _ H => Has.at (c := .lst #[v0, v1]) H (fzHas D.lp (.tail _ (.head _)))) (fun _ _ _ _ _ _ _ _ q => go_name q) ?_ ?_
      2 0 g1 () [] _ h3 t3 rfl (Nat.zero_le _) ⟨f2 g (.head _), trivial⟩ rfl H
  · rintro i v g' σ zs mC h t hi hv ⟨hgg, hσ⟩ hlen' H
    obtain ⟨q, hq, hqo, hqv⟩ : ∃ q, [p0, p1][i]? = some q ∧ PlanOk q ∧ PlanAt (Fz g) q v := by
      have hi : i < 2 := hi
      obtain rfl | rfl : i = 0 ∨ i = 1 := by omega
      · cases hv; exact ⟨p0, rfl, D.o0, D.a0⟩
      · cases hv; exact ⟨p1, rfl, D.o1, D.a1⟩
    repeat walk_at "go"
    walk_at "paths"
    refine ⟨by show 0 ≤ _; omega, _, _, _, _, rfl, by assumption, fun te h' H hs => ?_⟩
    repeat walk_at "go"
    obtain ⟨g2, f1, f2, f3, H⟩ := Kn.freeze (c1 := [(te, _)]) H
    refine s_paths G 3 (by decide) hqo.ok (hqv.mono fun a c z => .inr ⟨g, .tail _ (.tail _ (.head _)), z⟩) (π := []) ⟨te, #[], rfl, .inr ⟨g2, .head _, f1 _ (.head _)⟩, trivial⟩ (by decide) H R.le fun v' g3 h' t' hv' hg3 H => ?_
    refine ⟨g3, (), _, _, _, rfl, H.gsub (gs' := [g3, g]) (fun x hx => (by
      rcases List.mem_cons.mp hx with rfl | hx
      · exact .head _
      · exact .tail _ (.tail _ (.tail _ hx)))), fun b o z => hg3 g' (.tail _ (.head _)) b o (hgg b o z), ?_⟩
    obtain ⟨hi', he⟩ := List.getElem?_eq_some_iff.mp hq
    rw [List.take_succ_eq_append_getElem hi', he]
    exact (hσ.mono fun q v z => z.mono fun a c z => Cel.At.mono (hg3 g' (.tail _ (.head _)) a) z).snoc hv'
  · rintro g' σ zs mC h t ⟨hgg, hσ⟩ hlen' H
    refine ⟨⟨_, rfl⟩, _, _, _, _, _, rfl, H, fun h H => ?_⟩
    repeat walk_at "go"
    obtain ⟨q0, q1, rfl, hσ0, hσ1⟩ := All2.two (a := p0) (b := p1) hσ
    rename_i H
    obtain ⟨g4, f1, f2, f3, f4⟩ := Kn.freeze (c1 := [(acc, .lst #[q0, q1])]) (H.pick (cs' := (acc, .lst #[q0, q1]) :: (stA, .lst #[.ref il, .int k tk]) :: E.cells m (some (.ref stA)) (some (.ref lp)) (some (.ref lt)) (some (.ref acc)) none none none none none X) (by walk_at "pick"))
    exact ⟨rfl, g4, acc, q0, q1, _, _, rfl, f2 g (.tail _ (.head _)), ⟨f1 _ (.head _), hσ0.mono fun a c z => z.mono (f2 g' (.head _) a), hσ1.mono fun a c z => z.mono (f2 g' (.head _) a)⟩, f4.gsub fun x hx => by cases List.mem_singleton.mp hx; exact .head _⟩
end
section
variable {w : World} {g0 h : Heap} {r : Shared} {t n : Nat} {A : Around} {env : Env}
/-- 2: trees -/
theorem st2 (G : Gl w g0) {E : LawEnv} {st : Stmt} {nm : List (Str × NameKind)} (hst : (lawBody w)[2]? = some st) (hnm : lawNames w = nm) (e : EnvIs env E.L nm E.cl) (R : Rm A 400) {m : Str → Option Value} {g : Heap} {il stA lp : Addr} {k : Int} {tk : Tok} {ys : Array Value} {v0 v1 : Value} {p0 p1 : Plan} (D : D1 g il lp ys v0 v1 p0 p1)
    (H : Kn g0 [g] ((stA, .lst #[.ref il, .int k tk]) :: E.cells m (some (.ref stA)) (some (.ref lp)) none none none none none none none []) h) :
    wpAny (model Pg w) A (exec st env) (fun f s => f = .next ∧ ∃ (g' : Heap) (lt : Addr) (T0 T1 : Tr) (h' : Heap) (t' : Nat), s = S r h' t' ∧ g.StaysIn g' ∧ D2 g' lt T0 T1 p0 p1 ∧
      Kn g0 [g'] ((stA, .lst #[.ref il, .int k tk]) :: E.cells m (some (.ref stA)) (some (.ref lp)) (some (.ref lt)) none none none none none none T0.cells) h') NoE (S r h t) := by
  obtain rfl : _ = st := Option.some.inj ((show (lawBody w)[2]? = some _ from rfl).symm.trans hst)
  obtain rfl : _ = nm := (show lawNames w = _ from rfl).symm.trans hnm
  clear hst
  refine x_asgC e (by exact rfl) ?_
  refine lc e (by assumption) (by exact rfl) (by exact rfl) (by exact rfl) (by exact rfl) (by exact rfl) (fun _ => rfl) ?_
  repeat walk_at "go"
  refine itL H (fzHas D.lp (.head _)) fun I h' H hs => ?_
  refine ⟨[g], _, h', _, rfl, H, fun A' h3 t3 Q E k q => itself_lit H (.head _) k q, ?_⟩
  intro acc C as env' h3 t3 has e' hs3 H
  match as, has with
  | [], _ =>
  have H := H.withBase
  refine comp_src (σ := List Tr) (csf := fun σ => kidCells σ ++ ((stA, .lst #[.ref il, .int k tk]) :: E.cells m (some (.ref stA)) (some (.ref lp)) none none none none none none none []))
      (J := fun i σ g' zs => g0 = g' ∧ zs = σ.map (fun t => Value.ref t.x) ∧ All2 (fun (t : Tr) q => t.Ok q ∧ t.m "parent" = none ∧ t.Calm ∧ t.n ≤ 20) σ ([p0, p1].take i)) (K := fun h => h.IsList lp #[v0, v1])
      (src_list R.hd I lp #[v0, v1]) (by rw [sizeLine_eq]; show 2 ≤ _; decide) (by exact rfl) (by exact rfl) (fun _ _ σ _ _ _ H => Has.at (c := .lst #[v0, v1]) H (fzHas D.lp (.tail _ (.head _)))) (fun _ _ _ _ _ _ _ _ q => go_name q) ?_ ?_
      2 0 g0 [] [] _ h3 t3 rfl (Nat.zero_le _) ⟨rfl, rfl, trivial⟩ rfl H
  · rintro i v g' σ zs mC h t hi hv ⟨rfl, rfl, hσ⟩ hlen' H
    obtain ⟨q, hq, hqo, hqv⟩ : ∃ q, [p0, p1][i]? = some q ∧ PlanOk q ∧ PlanAt (Fz g) q v := by
      have hi : i < 2 := hi
      obtain rfl | rfl : i = 0 ∨ i = 1 := by omega
      · cases hv; exact ⟨p0, rfl, D.o0, D.a0⟩
      · cases hv; exact ⟨p1, rfl, D.o1, D.a1⟩
    repeat walk_at "go"
    walk_at "made"
    refine s_made G 3 hqo.ok (hqv.mono fun a c z => .inr ⟨g, .tail _ (.head _), z⟩) (by assumption) R.le fun t h' t' ht hp hcm hn H => ?_
    have H2 := H.perm (perm_in (A := t.cells) (B := kidCells σ))
    rw [← kidCells_snoc] at H2
    refine ⟨g0, σ ++ [t], _, _, _, rfl, H2, rfl, by simp, ?_⟩
    obtain ⟨hi', he⟩ := List.getElem?_eq_some_iff.mp hq
    rw [List.take_succ_eq_append_getElem hi', he]
    exact hσ.snoc ⟨ht, hp, hcm, hn⟩
  · rintro g' σ zs mC h t ⟨rfl, rfl, hσ⟩ hlen' H
    refine ⟨⟨_, rfl⟩, _, _, _, _, _, rfl, H, fun h H => ?_⟩
    obtain ⟨T0, T1, rfl, hσ0, hσ1⟩ := All2.twoR (a := p0) (b := p1) hσ
    have H : Kn g0 [g0, g] ((stA, .lst #[.ref il, .int k tk]) :: E.cells m (some (.ref stA)) (some (.ref lp)) none none none none none none none ((acc, .lst #[.ref T0.x, .ref T1.x]) :: (T1.cells ++ T0.cells))) h := H.pick (by
        show Sub _ ((acc, Cel.lst #[.ref T0.x, .ref T1.x]) :: ((T0.cells ++ (T1.cells ++ [])) ++ _))
        simp only [List.append_assoc, List.cons_append, List.nil_append]
        walk_at "pick2")
    repeat walk_at "go"
    rename_i H
    have H : Kn g0 [g0, g] ((stA, .lst #[.ref il, .int k tk]) :: E.cells m (some (.ref stA)) (some (.ref lp)) (some (.ref acc)) none none none none none none ((acc, .lst #[.ref T0.x, .ref T1.x]) :: (T1.cells ++ T0.cells))) _ := H
    obtain ⟨g4, f1, f2, f3, f4⟩ := Kn.freeze (c1 := (acc, .lst #[.ref T0.x, .ref T1.x]) :: T1.cells) (c2 := (stA, .lst #[.ref il, .int k tk]) :: E.cells m (some (.ref stA)) (some (.ref lp)) (some (.ref acc)) none none none none none none T0.cells) (H.pick (by
        simp only [List.cons_append]
        walk_at "pick2"))
    exact ⟨rfl, g4, acc, T0, T1, _, _, rfl, f2 g (.tail _ (.head _)), ⟨f1 _ (.head _), hσ0.1, hσ0.2.2.1, hσ0.2.1, hσ1.1, hσ1.2.2.1, fun z hz => f1 z (.tail _ hz)⟩, f4.gsub fun x hx => by cases List.mem_singleton.mp hx; exact .head _⟩
end
/-- one pair of things -/
def ThingAt (g : Heap) (T : Tr) (p : Plan) (π : List Nat) (v : Value) : Prop := ∃ a vt U q, v = .ref a ∧ Fz g a (.tup #[.ref U.x, vt]) ∧ T.at? π = some U ∧ p.at? π = some q ∧ RdV g vt q.told
theorem ThingAt.mono {g g' T p π v} (x : ThingAt g T p π v) (k : g.StaysIn g') : ThingAt g' T p π v :=
  let ⟨a, vt, U, q, e, h1, h2, h3, h4⟩ := x; ⟨a, vt, U, q, e, Cel.At.mono (k _) h1, h2, h3, h4.keeps k⟩
def RowAt (g : Heap) (T : Tr) (p : Plan) (v : Value) : Prop := ∃ l zs, v = .ref l ∧ Fz g l (.lst zs.toArray) ∧ All2 (ThingAt g T p) (p.paths []) zs
theorem RowAt.mono {g g' T p v} (x : RowAt g T p v) (k : g.StaysIn g') : RowAt g' T p v :=
  let ⟨l, zs, e, h1, h2⟩ := x; ⟨l, zs, e, Cel.At.mono (k _) h1, h2.mono fun _ _ z => z.mono k⟩
structure D4 (g : Heap) (lg : Addr) (w0 w1 : Value) (T0 T1 : Tr) (p0 p1 : Plan) : Prop where
  lg : Fz g lg (.lst #[w0, w1])
  a0 : RowAt g T0 p0 w0
  a1 : RowAt g T1 p1 w1
theorem D4.mono {g g' lg w0 w1 T0 T1 p0 p1} (x : D4 g lg w0 w1 T0 T1 p0 p1) (k : g.StaysIn g') : D4 g' lg w0 w1 T0 T1 p0 p1 :=
  ⟨Cel.At.mono (k _) x.lg, x.a0.mono k, x.a1.mono k⟩
theorem PlanOk.paths_le {p : Plan} (h : PlanOk p) : (p.paths []).length ≤ 15 := by have := Plan.paths_len (π := []) h.ok; omega
section
variable {w : World} {g0 h : Heap} {r : Shared} {t n : Nat} {A : Around} {env : Env}
/-- 4: things -/
theorem st4 (G : Gl w g0) {E : LawEnv} {st : Stmt} {nm : List (Str × NameKind)} (hst : (lawBody w)[4]? = some st) (hnm : lawNames w = nm) (e : EnvIs env E.L nm E.cl) (R : Rm A 400) {m : Str → Option Value} {g : Heap} {il stA lp lt lq : Addr} {k : Int} {tk : Tok} {ys : Array Value} {v0 v1 q0 q1 : Value} {p0 p1 : Plan} {T0 T1 : Tr}
    (D1 : D1 g il lp ys v0 v1 p0 p1) (D2 : D2 g lt T0 T1 p0 p1) (D3 : D3 g lq q0 q1 p0 p1)
    (H : Kn g0 [g] ((stA, .lst #[.ref il, .int k tk]) :: E.cells m (some (.ref stA)) (some (.ref lp)) (some (.ref lt)) (some (.ref lq)) none none none none none T0.cells) h) :
    wpAny (model Pg w) A (exec st env) (fun f s => f = .next ∧ ∃ (g' : Heap) (lg : Addr) (w0 w1 : Value) (h' : Heap) (t' : Nat), s = S r h' t' ∧ g.StaysIn g' ∧ D4 g' lg w0 w1 T0 T1 p0 p1 ∧
      Kn g0 [g'] ((stA, .lst #[.ref il, .int k tk]) :: E.cells m (some (.ref stA)) (some (.ref lp)) (some (.ref lt)) (some (.ref lq)) none (some (.ref lg)) none none none T0.cells) h') NoE (S r h t) := by
  obtain rfl : _ = st := Option.some.inj ((show (lawBody w)[4]? = some _ from rfl).symm.trans hst)
  obtain rfl : _ = nm := (show lawNames w = _ from rfl).symm.trans hnm
  clear hst
  refine x_asgC e (by exact rfl) ?_
  refine lc e (by assumption) (by exact rfl) (by exact rfl) (by exact rfl) (by exact rfl) (by exact rfl) (fun _ => rfl) ?_
  walk_at "range"
  rename_i tn _
  refine rg_call (by assumption) fun ra t1 t2 h' t' H hs => ?_
  refine rg_iter (n := 2) H (.head _) (by omega) fun I h' H hs => ?_
  refine ⟨[g], _, h', t', rfl, H, fun A' h3 t3 Q E k q => itself_rit H (.head _) k q, ?_⟩
  intro acc C as env' h3 t3 has e' hs3 H
  match as, has with
  | [cc], _ =>
  have H : Kn g0 [g] ((C, .ns fun _ => none) :: (acc, .lst #[]) :: (cc, .cell none) :: (I, .ob (rit ((0 : Nat) : Int) ((2 : Nat) - (0 : Nat)) 1)) :: (ra, .ob (rng 0 (2 : Nat) 1 t1 tn t2)) :: (stA, .lst #[.ref il, .int k tk]) :: E.cells m (some (.ref stA)) (some (.ref lp)) (some (.ref lt)) (some (.ref lq)) none none none none none T0.cells) h3 := H
  have H : Kn g0 [g] ((C, .ns fun _ => none) :: (acc, .lst #[]) :: (I, .ob (rit ((0 : Nat) : Int) ((2 : Nat) - (0 : Nat)) 1)) :: (cc, .cell none) :: (ra, .ob (rng 0 (2 : Nat) 1 t1 tn t2)) :: (stA, .lst #[.ref il, .int k tk]) :: E.cells m (some (.ref stA)) (some (.ref lp)) (some (.ref lt)) (some (.ref lq)) none none none none none T0.cells) h3 := H.perm (by refine .cons _ (.cons _ (.swap _ _ _)))
  obtain ⟨g1, _, f2, _, H⟩ := Kn.freeze (c1 := []) H
  refine comp_src (σ := Option Value) (csf := fun σ => (cc, .cell σ) :: (ra, .ob (rng 0 (2 : Nat) 1 t1 tn t2)) :: (stA, .lst #[.ref il, .int k tk]) :: E.cells m (some (.ref stA)) (some (.ref lp)) (some (.ref lt)) (some (.ref lq)) none none none none none T0.cells)
    (J := fun i σ g' zs => g.StaysIn g' ∧ All2 (fun (x : Tr × Plan) v => RowAt g' x.1 x.2 v) ([(T0, p0), (T1, p1)].take i) zs) (K := fun _ => True)
    (src_range R.hd I 2) (by rw [sizeLine_eq]; omega) (by exact rfl) (by exact rfl) (fun _ _ _ _ _ _ _ => trivial) (fun _ _ _ _ _ _ _ _ q => go_name q) ?_ ?_
    2 0 g1 none [] _ h3 t3 rfl (Nat.zero_le _) ⟨f2 g (.head _), trivial⟩ rfl H
  · rintro i x g' σ zs mC h t hi ⟨tx, rfl⟩ ⟨hgs, hJ⟩ hlz H
    obtain ⟨T, p, pv, qv, hTp, hpv, hqv, hT, hp, hT2, hTC, hP, hQ⟩ : ∃ T p pv qv, [(T0, p0), (T1, p1)][i]? = some (T, p) ∧ [v0, v1][i]? = some pv ∧ [q0, q1][i]? = some qv ∧ [.ref T0.x, .ref T1.x][i]? = some (Value.ref T.x) ∧ PlanOk p ∧ T.Ok p ∧
        (∀ gs cs, g ∈ gs → Kns gs (cs ++ T0.cells) T.cells) ∧ PlanAt (Fz g) p pv ∧ PathsAt (Fz g) qv (p.paths []) := by
      obtain rfl | rfl : i = 0 ∨ i = 1 := by omega
      · exact ⟨T0, p0, v0, q0, rfl, rfl, rfl, rfl, D1.o0, D2.k0, fun gs cs _ z hz => .inl (List.mem_append_right _ hz), D1.a0, D3.a0⟩
      · exact ⟨T1, p1, v1, q1, rfl, rfl, rfl, rfl, D1.o1, D2.k1, fun gs cs hg z hz => fzHas (D2.f1 z hz) hg, D1.a1, D3.a1⟩
    repeat walk_at "go"
    refine lc e' (by assumption) (by exact rfl) (by exact rfl) (by exact rfl) (by exact rfl) (by exact rfl) (fun _ => rfl) ?_
    repeat walk_at "go"
    refine l_at (xs := #[q0, q1]) (by assumption) (fzHas D3.lq (.tail _ (.head _))) (by omega) (by omega) (v := qv) (by simpa using hqv) ?_
    obtain ⟨lq', vs, rfl, hlq, hvs⟩ := hQ
    refine itL (by assumption) (fzHas hlq (.tail _ (.head _))) fun I2 h' H hs => ?_
    refine ⟨[g', g], _, h', _, rfl, H, fun A' h3 t3 Q E k q => itself_lit H (.head _) k q, ?_⟩
    intro acc2 C2 as env2 h3 t3 has e2 hs3 H
    match as, has with
    | [], _ =>
    have H : Kn g0 [g', g] ((C2, .ns fun _ => none) :: (acc2, .lst #[]) :: (I2, .lit lq' 0) :: (C, .ns mC) :: (acc, .lst zs.toArray) :: (I, .ob (rit ((i + 1 : Nat) : Int) ((2 : Nat) - (i + 1 : Nat)) 1)) :: (cc, .cell (some (.int i tx))) :: (ra, .ob (rng 0 (2 : Nat) 1 t1 tn t2)) :: (stA, .lst #[.ref il, .int k tk]) :: E.cells m (some (.ref stA)) (some (.ref lp)) (some (.ref lt)) (some (.ref lq)) none none none none none T0.cells) h3 := H
    obtain ⟨g1, _, f2, _, H⟩ := Kn.freeze (c1 := []) H
    have hvl : (p.paths []).length = vs.size := by have := hvs.len; simpa using this
    refine comp_src (σ := Unit) (csf := fun _ => (C, .ns mC) :: (acc, .lst zs.toArray) :: (I, .ob (rit ((i + 1 : Nat) : Int) ((2 : Nat) - (i + 1 : Nat)) 1)) :: (cc, .cell (some (.int i tx))) :: (ra, .ob (rng 0 (2 : Nat) 1 t1 tn t2)) :: (stA, .lst #[.ref il, .int k tk]) :: E.cells m (some (.ref stA)) (some (.ref lp)) (some (.ref lt)) (some (.ref lq)) none none none none none T0.cells)
      (J := fun j _ g2 ws => g'.StaysIn g2 ∧ All2 (ThingAt g2 T p) ((p.paths []).take j) ws) (K := fun h => h.IsList lq' vs)
      (src_list R.hd I2 lq' vs) (by rw [sizeLine_eq]; have := hp.paths_le; omega) (by exact rfl) (by exact rfl) (fun _ _ σ _ _ _ H => Has.at (c := .lst vs) H (fzHas hlq (.tail _ (.tail _ (.head _))))) (fun _ _ _ _ _ _ _ _ q => go_name q) ?_ ?_
      vs.size 0 g1 () [] _ h3 t3 rfl (Nat.zero_le _) ⟨f2 g' (.head _), trivial⟩ rfl H
    · rintro j y g2 σ2 ws m2 h t hj hy ⟨hg2, hJ2⟩ hlw H
      obtain ⟨π, hπ, hy'⟩ := hvs.get hy
      obtain ⟨π', q, e0, hq⟩ := Plan.paths_at (List.mem_of_getElem? hπ)
      rw [List.nil_append] at e0
      rw [← e0] at hq
      clear e0
      obtain ⟨U, hU, hUq⟩ := Tr.at_of hT2 hq
      obtain ⟨hl3, hq3, hqw⟩ := Plan.at_ok hq hp.ok hp.wd
      have hy2 : ∀ gs, g ∈ gs → PathAt (fun a c => Has gs [] a c) y π := fun gs hg => hy'.mono fun a c z => fzHas z hg
      repeat walk_at "go"
      walk_at "at"
      refine l_at (xs := #[.ref T0.x, .ref T1.x]) (by assumption) (fzHas D2.lt (by simp)) (by omega) (by omega) (v := .ref T.x) (by simpa using hT) ?_
      repeat walk_at "go"
      rename_i H
      refine s_at G hT2 (hTC _ ((C2, _) :: (acc2, _) :: (I2, _) :: (C, _) :: (acc, _) :: (I, _) :: (cc, _) :: (ra, _) :: (stA, _) :: (E.L, _) :: (E.c1, _) :: (E.c2, _) :: (E.c3, _) :: (E.c4, _) :: (E.c5, _) :: (E.c6, _) :: (E.c7, _) :: (E.c8, _) :: [(E.c9, _)]) (by simp)) (hy2 _ (by simp)) (by omega) hU H R.le fun h' t' H => ?_
      repeat walk_at "go"
      walk_at "told"
      walk_at "part"
      refine l_at (xs := #[v0, v1]) (by assumption) (fzHas D1.lp (by simp)) (by omega) (by omega) (v := pv) (by simpa using hpv) ?_
      repeat walk_at "go"
      refine s_part (gs := [g2, g', g]) G (hP.mono fun a c z => fzHas z (by simp)) (hy2 _ (by simp)) (by omega) hq (by assumption) R.le fun v h' t' hv H => ?_
      repeat walk_at "go"
      refine s_told G 3 (by decide) hq3 hv H R.le fun vt g3 h' t' hvt hg3 H => ?_
      repeat walk_at "go"
      refine ⟨sz, _, _, _, _, rfl, by assumption, fun te h' H hs => ?_⟩
      obtain ⟨g4, f1, f2, f3, H⟩ := Kn.freeze (c1 := [(te, _)]) H
      refine ⟨g4, (), _, _, _, rfl, H.gsub (gs' := [g4, g', g]) (fun x hx => by simp at hx ⊢; rcases hx with rfl | rfl | rfl <;> simp), fun b o z => f2 g2 (.tail _ (.head _)) b o (hg2 b o z), ?_⟩
      obtain ⟨hi', he⟩ := List.getElem?_eq_some_iff.mp hπ
      rw [List.take_succ_eq_append_getElem hi', he]
      exact (hJ2.mono fun q v z => z.mono (f2 g2 (.tail _ (.head _)))).snoc ⟨te, vt, U, q, rfl, f1 _ (.head _), hU, hq, hvt.keeps (f2 g3 (.head _))⟩
    · rintro g2 σ2 ws m2 h t ⟨hg2, hJ2⟩ hlw H
      refine ⟨⟨_, rfl⟩, _, _, _, _, _, rfl, H, fun h H => ?_⟩
      rw [List.take_of_length_le (by omega)] at hJ2
      obtain ⟨g4, f1, f2, f3, H⟩ := Kn.freeze (c1 := [(acc2, .lst ws.toArray)]) H
      refine ⟨g4, some (.int i tx), mC, _, _, rfl, (H.gsub (gs' := [g4, g]) (fun x hx => by simp at hx ⊢; rcases hx with rfl | rfl <;> simp)), fun b o z => f2 g2 (.head _) b o (hg2 b o (hgs b o z)), ?_⟩
      obtain ⟨hi', he⟩ := List.getElem?_eq_some_iff.mp hTp
      rw [List.take_succ_eq_append_getElem hi', he]
      exact (hJ.mono fun q v z => z.mono fun b o z => f2 g2 (.head _) b o (hg2 b o z)).snoc ⟨acc2, ws, rfl, f1 _ (.head _), hJ2.mono fun _ _ z => z.mono (f2 g2 (.head _))⟩
  · rintro g' σ zs mC h t ⟨hgs, hJ⟩ hlz H
    refine ⟨⟨_, rfl⟩, _, _, _, _, _, rfl, H, fun h H => ?_⟩
    repeat walk_at "go"
    obtain ⟨w0, w1, rfl, hw0, hw1⟩ := All2.two (a := (T0, p0)) (b := (T1, p1)) hJ
    rename_i H
    obtain ⟨g4, f1, f2, f3, f4⟩ := Kn.freeze (c1 := [(acc, .lst #[w0, w1])]) (H.pick (cs' := (acc, .lst #[w0, w1]) :: (stA, .lst #[.ref il, .int k tk]) :: E.cells m (some (.ref stA)) (some (.ref lp)) (some (.ref lt)) (some (.ref lq)) none (some (.ref acc)) none none none T0.cells) (by walk_at "pick"))
    exact ⟨rfl, g4, acc, w0, w1, _, _, rfl, f2 g (.tail _ (.head _)), ⟨f1 _ (.head _), hw0.mono (f2 g' (.head _)), hw1.mono (f2 g' (.head _))⟩, f4.gsub fun x hx => by cases List.mem_singleton.mp hx; exact .head _⟩
end
theorem Tr.kid_cells {T V : Tr} {i : Nat} (h : T.kids[i]? = some V) : ∀ z ∈ V.cells, z ∈ T.cells := by
  intro z hz
  cases T with
  | leaf => simp [Tr.kids] at h
  | one x d mk md l m n c =>
    match i, h with
    | 0, h => cases h; exact .tail _ (.tail _ (.tail _ (.tail _ (.tail _ hz))))
  | two x d mk md l m n c e =>
    show z ∈ (d, Cel.dct m n) :: (x, Cel.ob (instObj 294 d)) :: (mk, Cel.ob (instObj 31 md)) :: (md, Cel.dct (fun _ => none) 0) :: (l, Cel.lst #[.ref c.x, .ref e.x]) :: (c.cells ++ e.cells)
    match i, h with
    | 0, h => cases h; exact .tail _ (.tail _ (.tail _ (.tail _ (.tail _ (List.mem_append_left _ hz)))))
    | 1, h => cases h; exact .tail _ (.tail _ (.tail _ (.tail _ (.tail _ (List.mem_append_right _ hz)))))
theorem Tr.at_cells {U : Tr} : ∀ {T : Tr} {π : List Nat}, T.at? π = some U → ∀ z ∈ U.cells, z ∈ T.cells := by
  intro T π
  induction π generalizing T with
  | nil => intro h z hz; cases h; exact hz
  | cons i π ih =>
    intro h z hz
    unfold Tr.at? at h
    split at h
    · rename_i V hV
      exact Tr.kid_cells hV z (ih h z hz)
    · cases h
theorem Kns.at {gs cs} {T U : Tr} {π : List Nat} (k : Kns gs cs T.cells) (h : T.at? π = some U) : Kns gs cs U.cells := fun z hz => k z (Tr.at_cells h z hz)
section
variable {w : World} {g0 h : Heap} {gs : List Heap} {cs : List (Addr × Cel)} {r : Shared} {t n : Nat} {A : Around} {env : Env} {E : Value → Shared → Prop}
theorem i_neBool {a b : Bool} {Q : Value → Shared → Prop} {s : Shared} (hu : A.units + 64 < 9900) (k : Q (.bool (!(a == b))) s) : wpAny (model Pg w) A (compareOp .NotEq (.bool a) (.bool b)) Q E s := by
  refine ne_dataH (Reads.bool a) (Reads.bool b) (by rfl) (by rfl) hu ?_
  have : PyData.eqv (.bool a) (.bool b) = (a == b) := by cases a <;> cases b <;> rfl
  rw [this]; exact k
theorem e_or {x y : Expr} {pos : Pos} {Q : Value → Shared → Prop} {s : Shared}
    (k : wpAny (model Pg w) A (eval x env) (fun v s₁ => v = .bool false ∧ wpAny (model Pg w) A (eval y env) Q E s₁) E s) : wpAny (model Pg w) A (eval (.BoolOp .Or [x, y] pos) env) Q E s :=
  wpAny_Or2 (wpAny_mono k (fun v s₁ q => by obtain ⟨rfl, q⟩ := q; exact tr_bool q) fun _ _ q => q)
end
section
variable {w : World} {g0 h : Heap} {r : Shared} {t n : Nat} {A : Around} {env : Env}
theorem Rm.u64 (R : Rm A 10) : A.units + 64 < 9900 := by have := R.un; omega
/-- 5: the telling -/
theorem st5 (G : Gl w g0) {E : LawEnv} {st : Stmt} {nm : List (Str × NameKind)} (hst : (lawBody w)[5]? = some st) (hnm : lawNames w = nm) (e : EnvIs env E.L nm E.cl) (R : Rm A 400) {m : Str → Option Value} {g : Heap} {il stA lp lt lq lg : Addr} {k : Int} {tk : Tok} {ys : Array Value} {v0 v1 w0 w1 : Value} {p0 p1 : Plan} {T0 T1 : Tr}
    (D1 : D1 g il lp ys v0 v1 p0 p1) (D2 : D2 g lt T0 T1 p0 p1) (D4 : D4 g lg w0 w1 T0 T1 p0 p1)
    (H : Kn g0 [g] ((stA, .lst #[.ref il, .int k tk]) :: E.cells m (some (.ref stA)) (some (.ref lp)) (some (.ref lt)) (some (.ref lq)) none (some (.ref lg)) none none none T0.cells) h) :
    wpAny (model Pg w) A (exec st env) (fun f s => f = .next ∧ ∃ (o7 o8 : Option Value) (h' : Heap) (t' : Nat), s = S r h' t' ∧
      Kn g0 [g] ((stA, .lst #[.ref il, .int k tk]) :: E.cells m (some (.ref stA)) (some (.ref lp)) (some (.ref lt)) (some (.ref lq)) none (some (.ref lg)) o7 o8 none T0.cells) h') NoE (S r h t) := by
  obtain rfl : _ = st := Option.some.inj ((show (lawBody w)[5]? = some _ from rfl).symm.trans hst)
  obtain rfl : _ = nm := (show lawNames w = _ from rfl).symm.trans hnm
  clear hst
  have hu := (R.le (k := 10)).u64
  have hlg := D4.lg
  obtain ⟨l0, zs0, rfl, hl0, hz0⟩ := D4.a0
  obtain ⟨l1, zs1, rfl, hl1, hz1⟩ := D4.a1
  have hlen0 : zs0.length ≤ 15 := by rw [← hz0.len]; exact D1.o0.paths_le
  have hlen1 : zs1.length ≤ 15 := by rw [← hz1.len]; exact D1.o1.paths_le
  have lgH : ∀ cs, Has [g] cs lg (.lst #[.ref l0, .ref l1]) := fun cs => fzHas hlg (.head _)
  have l0H : ∀ cs, Has [g] cs l0 (.lst zs0.toArray) := fun cs => fzHas hl0 (.head _)
  have l1H : ∀ cs, Has [g] cs l1 (.lst zs1.toArray) := fun cs => fzHas hl1 (.head _)
  refine x_for ?_
  repeat walk_at "go"
  refine l_at (xs := #[.ref l0, .ref l1]) (by assumption) (lgH _) (by omega) (by omega) (v := .ref l0) (by rfl) ?_
  refine itL (by assumption) (l0H _) fun I h' H hs => ?_
  have H := H.withBase
  refine for_src (σ := Option Value × Option Value) (gs := [g]) (csf := fun σ => (stA, .lst #[.ref il, .int k tk]) :: E.cells m (some (.ref stA)) (some (.ref lp)) (some (.ref lt)) (some (.ref lq)) none (some (.ref lg)) σ.1 σ.2 none T0.cells)
    (J := fun i σ g' => g0 = g') (K := fun h => h.IsList l0 zs0.toArray) (src_list R.hd I l0 zs0.toArray) (fun i g' σ h H => Has.at (c := .lst zs0.toArray) H (l0H _).consG) ?_ ?_ ?_ _ 0 g0 (none, none) _ _ rfl (Nat.zero_le _) rfl H
  · intro i v r' h t Q hP hc q
    obtain ⟨π, hπ, a, vt, U, q', e, h1, h2, h3, h4⟩ := hz0.get (i := i) (by simpa using hP)
    subst e
    exact go_tupL hc q
  · rintro i v g' σ h t hi hv rfl H
    obtain ⟨π, hπ, a, vt, U, p, e, ha, hU, hp, hvt⟩ := hz0.get (i := i) (by simpa using hv)
    subst e
    obtain ⟨p', hp', hUp⟩ := Tr.at_ok hU D2.k0
    cases hp.symm.trans hp'
    obtain ⟨_, hp3, hpw⟩ := Plan.at_ok hp D1.o0.ok D1.o0.wd
    have haH : ∀ cs, Has [g0, g] cs a (.tup #[.ref U.x, vt]) := fun cs => fzHas ha (.tail _ (.head _))
    have hUc : ∀ cs, Kns [g0, g] (cs ++ T0.cells) U.cells := fun cs => Kns.at (fun z hz => .inl (List.mem_append_right _ hz)) hU
    have haT := haH T0.cells
    repeat walk_at "go"
    refine s_ne G (d := 3) hp3 hUp hUp (hUc [(I, _), (stA, _), (E.L, _), (E.c1, _), (E.c2, _), (E.c3, _), (E.c4, _), (E.c5, _), (E.c6, _), (E.c7, _), (E.c8, _), (E.c9, _)]) (hUc [(I, _), (stA, _), (E.L, _), (E.c1, _), (E.c2, _), (E.c3, _), (E.c4, _), (E.c5, _), (E.c6, _), (E.c7, _), (E.c8, _), (E.c9, _)]) (by assumption) R.le fun h' t' H => ?_
    rw [Plan.same_refl]
    repeat walk_at "go"
    refine ⟨fun q => (by cases q), fun _ => ?_⟩
    repeat walk_at "go"
    walk_at "any"
    refine lc e (by assumption) (by exact rfl) (by exact rfl) (by exact rfl) (by exact rfl) (by exact rfl) (fun _ => rfl) ?_
    repeat walk_at "go"
    have H : Kn g0 [g0, g] ((I, .lit l0 (i + 1)) :: (stA, .lst #[.ref il, .int k tk]) :: E.cells m (some (.ref stA)) (some (.ref lp)) (some (.ref lt)) (some (.ref lq)) none (some (.ref lg)) (some (.ref U.x)) (some vt) none T0.cells) h' := H
    refine l_at (xs := #[.ref l0, .ref l1]) H ((lgH _).consG) (by omega) (by omega) (v := .ref l1) (by rfl) ?_
    refine itL H (l1H _).consG fun I2 h' H hs => ?_
    refine ⟨[g0, g], _, h', _, rfl, H, fun A' h3 t3 Q E k q => itself_lit H (.head _) k q, ?_⟩
    intro acc C as env' h3 t3 has e' hs3 H
    match as, has with
    | [], _ =>
    refine comp_src (σ := Unit) (gs := [g]) (csf := fun _ => (I, .lit l0 (i + 1)) :: (stA, .lst #[.ref il, .int k tk]) :: E.cells m (some (.ref stA)) (some (.ref lp)) (some (.ref lt)) (some (.ref lq)) none (some (.ref lg)) (some (.ref U.x)) (some vt) none T0.cells)
      (J := fun j _ g2 ws => g0 = g2 ∧ ws = (List.replicate j false).map Value.bool) (K := fun h => h.IsList l1 zs1.toArray)
      (src_list R.hd I2 l1 zs1.toArray) (by rw [sizeLine_eq]; simp; omega) (by exact rfl) (by exact rfl) (fun _ _ σ _ _ _ H => Has.at (c := .lst zs1.toArray) H (l1H _).consG) ?_ ?_ ?_
      _ 0 g0 () [] _ h3 t3 rfl (Nat.zero_le _) ⟨rfl, rfl⟩ rfl H
    · intro i v r' h t Q hP hc q
      obtain ⟨π, hπ, a, vt, U, q', e, h1, h2, h3, h4⟩ := hz1.get (i := i) (by simpa using hP)
      subst e
      exact go_tupL hc q
    · rintro j v g2 σ2 ws m2 h t hj hv ⟨rfl, rfl⟩ hlw H
      obtain ⟨ρ, hρ, b, vt2, V, q, e3, hb, hV, hq, hvt2⟩ := hz1.get (i := j) (by simpa using hv)
      subst e3
      obtain ⟨q', hq', hVq⟩ := Tr.at_ok hV D2.k1
      cases hq.symm.trans hq'
      obtain ⟨_, hq3, hqw⟩ := Plan.at_ok hq D1.o1.ok D1.o1.wd
      have hbT : Has [g0, g] T0.cells b (.tup #[.ref V.x, vt2]) := fzHas hb (.tail _ (.head _))
      have hVc : ∀ cs, Kns [g0, g] cs V.cells := fun cs => Kns.at (fun z hz => fzHas (D2.f1 z hz) (.tail _ (.head _))) hV
      repeat walk_at "go"
      refine e_or ?_
      repeat walk_at "go"
      refine s_eq G (d := 3) hp3 hUp hVq (hUc [(C, _), (acc, _), (I2, _), (I, _), (stA, _), (E.L, _), (E.c1, _), (E.c2, _), (E.c3, _), (E.c4, _), (E.c5, _), (E.c6, _), (E.c7, _), (E.c8, _), (E.c9, _)]) (hVc _) (by assumption) R.le fun h' t' H => ?_
      repeat walk_at "go"
      refine i_eqTold (by assumption) (.tail _ (.head _)) (.tail _ (.head _)) hvt hvt2 hp3 hq3 (by decide) (by decide) hpw hqw hu ?_
      refine i_neBool hu ?_
      rw [beq_self_eq_true]
      refine ⟨rfl, ?_⟩
      repeat walk_at "go"
      refine s_ne G (d := 3) hq3 hVq hUp (hVc _) (hUc [(C, _), (acc, _), (I2, _), (I, _), (stA, _), (E.L, _), (E.c1, _), (E.c2, _), (E.c3, _), (E.c4, _), (E.c5, _), (E.c6, _), (E.c7, _), (E.c8, _), (E.c9, _)]) (by assumption) R.le fun h' t' H => ?_
      repeat walk_at "go"
      refine i_neTold (by assumption) (.tail _ (.head _)) (.tail _ (.head _)) hvt hvt2 hp3 hq3 (by decide) (by decide) hpw hqw hu ?_
      refine i_neBool hu ?_
      rw [Plan.same_symm q p, beq_self_eq_true]
      refine ⟨g0, (), _, _, _, rfl, H, rfl, ?_⟩
      rw [List.replicate_succ', List.map_append]; rfl
    · rintro g2 σ2 ws m2 h t ⟨rfl, rfl⟩ hlw H
      refine ⟨⟨_, rfl⟩, _, _, _, _, _, rfl, H, fun h H => ?_⟩
      repeat walk_at "go"
      refine s_any (bs := List.replicate zs1.toArray.size false) R.hd H (.inl (.head _)) fun h' t' H => ?_
      rw [show (List.replicate zs1.toArray.size false).any id = false by simp [List.any_replicate]]
      repeat walk_at "go"
      refine ⟨fun q => (by cases q), fun _ => ?_⟩
      repeat walk_at "go"
      exact ⟨rfl, g0, (some (.ref U.x), some vt), _, _, rfl, H.drop, rfl⟩
  · rintro g' σ h t rfl H
    exact ⟨rfl, _, _, _, _, rfl, H.gsub fun x hx => .tail _ hx⟩
end
theorem Plan.paths_two {p : Plan} (h : p.isNode) : 2 ≤ (p.paths []).length := by
  cases p with
  | leaf => exact h.elim
  | one k q =>
    obtain ⟨r, hr, _⟩ := Plan.paths_head (p := q) (β := [] ++ [0])
    show 2 ≤ ([] :: q.paths ([] ++ [0])).length
    rw [hr]; simp
  | two k q q' =>
    obtain ⟨r, hr, _⟩ := Plan.paths_head (p := q) (β := [] ++ [0])
    show 2 ≤ ([] :: (q.paths ([] ++ [0]) ++ q'.paths ([] ++ [1]))).length
    rw [hr]; simp
section
variable {w : World} {g0 h : Heap} {gs : List Heap} {cs : List (Addr × Cel)} {r : Shared} {t n : Nat} {A : Around} {env : Env} {E : Value → Shared → Prop}
theorem bt_or3 {Q : Bool → Shared → Prop} {x y z : Expr} {pos : Pos} {whole : Sem Value} {s : Shared}
    (k : wpAny (model Pg w) A (isTrue x env (eval x env)) (fun b s₁ => b = false ∧ wpAny (model Pg w) A (isTrue y env (eval y env)) (fun b s₂ => b = false ∧ wpAny (model Pg w) A (isTrue z env (eval z env)) Q E s₂) E s₁) E s) :
    wpAny (model Pg w) A (isTrue (.BoolOp .Or [x, y, z] pos) env whole) Q E s :=
  wpAny_isTrue_BoolOp (wpAny_allTrue_Or_cons (wpAny_mono k (fun b s₁ q => by
    obtain ⟨rfl, q⟩ := q
    exact wpAny_allTrue_Or_cons (wpAny_mono q (fun b s₁ q => by
      obtain ⟨rfl, q⟩ := q
      exact wpAny_allTrue_Or_cons (wpAny_mono q (fun b s₂ q => by cases b with | true => exact q | false => exact wpAny_allTrue_Or_nil q) fun _ _ q => q)) fun _ _ q => q)) fun _ _ q => q))
theorem i_neStr {x : Str} {a b : Tok} {Q : Value → Shared → Prop} {s : Shared} (k : Q (.bool false) s) : wpAny (model Pg w) A (compareOp .NotEq (.str x a) (.str x b)) Q E s :=
  ne_str (by rw [bne_self_eq_false]; exact k)
end
section
variable {w : World} {g0 h : Heap} {r : Shared} {t n : Nat} {A : Around} {env : Env}
/-- 6: path -/
theorem st6 (G : Gl w g0) {E : LawEnv} {st : Stmt} {nm : List (Str × NameKind)} (hst : (lawBody w)[6]? = some st) (hnm : lawNames w = nm) (e : EnvIs env E.L nm E.cl) (R : Rm A 400) {m : Str → Option Value} {g : Heap} {il stA lp lt lq lg : Addr} {k : Int} {tk : Tok} {ys : Array Value} {v0 v1 q0 q1 : Value} {p0 p1 : Plan} {o7 o8 : Option Value} {X : List (Addr × Cel)}
    (D1 : D1 g il lp ys v0 v1 p0 p1) (D3 : D3 g lq q0 q1 p0 p1) (hk : 0 ≤ k)
    (H : Kn g0 [g] ((stA, .lst #[.ref il, .int k tk]) :: E.cells m (some (.ref stA)) (some (.ref lp)) (some (.ref lt)) (some (.ref lq)) none (some (.ref lg)) o7 o8 none X) h) :
    wpAny (model Pg w) A (exec st env) (fun f s => f = .next ∧ ∃ (pv : Value) (π : List Nat) (i : Nat) (q : Plan) (k : Int) (tk : Tok) (h' : Heap) (t' : Nat), s = S r h' t' ∧ 0 ≤ k ∧ PathAt (Fz g) pv (π ++ [i]) ∧ p0.at? (π ++ [i]) = some q ∧
      Kn g0 [g] ((stA, .lst #[.ref il, .int k tk]) :: E.cells m (some (.ref stA)) (some (.ref lp)) (some (.ref lt)) (some (.ref lq)) (some pv) (some (.ref lg)) o7 o8 none X) h') NoE (S r h t) := by
  obtain rfl : _ = st := Option.some.inj ((show (lawBody w)[6]? = some _ from rfl).symm.trans hst)
  obtain rfl : _ = nm := (show lawNames w = _ from rfl).symm.trans hnm
  clear hst
  have hlq := D3.lq
  obtain ⟨l0, vs, rfl, hl0, hvs⟩ := D3.a0
  have lqH : ∀ cs, Has [g] cs lq (.lst #[.ref l0, q1]) := fun cs => fzHas hlq (.head _)
  have l0H : ∀ cs, Has [g] cs l0 (.lst vs) := fun cs => fzHas hl0 (.head _)
  have hsz : vs.size = (p0.paths []).length := by have := hvs.len; simpa using this.symm
  have h15 := D1.o0.paths_le
  have h2 := Plan.paths_two D1.o0.nd
  repeat walk_at "go"
  refine l_at (xs := #[.ref l0, q1]) (by assumption) (lqH _) (by omega) (by omega) (v := .ref l0) (by rfl) ?_
  repeat walk_at "go"
  walk_at "next"
  walk_at "len"
  refine l_at (xs := #[.ref l0, q1]) (by assumption) (lqH _) (by omega) (by omega) (v := .ref l0) (by rfl) ?_
  repeat walk_at "go"
  refine l_len (Has.at (c := .lst vs) (by assumption) (l0H _)) (by omega) fun tl t' => ?_
  repeat walk_at "go"
  refine law_next G (ps := []) (fzHas D1.il (.head _)) D1.i60 hk (by omega) R.le (by assumption) ?_
  intro v2 tv2 h' t' k2 tk2 h20 h21 hk2 H
  repeat walk_at "go"
  obtain ⟨j, hj⟩ : ∃ j : Nat, v2 = j := ⟨v2.toNat, by omega⟩
  subst hj
  obtain ⟨π, hπ⟩ : ∃ π, (p0.paths [])[1 + j]? = some π := ⟨_, List.getElem?_eq_getElem (by omega)⟩
  obtain ⟨pv, hpv, hR⟩ := hvs.get' hπ
  refine l_at (xs := vs) (by assumption) (l0H _) (by omega) (by omega) (v := pv) (by rw [show (1 + (j : Int)).toNat = 1 + j by omega]; exact hpv) ?_
  repeat walk_at "go"
  obtain ⟨q, hq⟩ : ∃ q, p0.at? π = some q := by
    obtain ⟨_, q, e0, hq⟩ := Plan.paths_at (List.mem_of_getElem? hπ)
    rw [List.nil_append] at e0
    rw [e0]; exact ⟨q, hq⟩
  have hne : π ≠ [] := by
    obtain ⟨rr, hr, hr2⟩ := Plan.paths_head (p := p0) (β := [])
    rw [hr, Nat.add_comm, List.getElem?_cons_succ] at hπ
    obtain ⟨_, _, e0⟩ := hr2 π (List.mem_of_getElem? hπ)
    rw [e0]; exact fun q => nomatch q
  obtain ⟨ρ, i, e1⟩ : ∃ ρ i, π = ρ ++ [i] := ⟨π.dropLast, π.getLast hne, (List.dropLast_concat_getLast hne).symm⟩
  rw [e1] at hR hq
  rename_i H
  exact ⟨rfl, pv, ρ, i, q, k2, tk2, _, _, rfl, hk2, hR, hq, H⟩
/-- 7: part -/
theorem st7 (G : Gl w g0) {E : LawEnv} {st : Stmt} {nm : List (Str × NameKind)} (hst : (lawBody w)[7]? = some st) (hnm : lawNames w = nm) (e : EnvIs env E.L nm E.cl) (R : Rm A 400) {m : Str → Option Value} {g : Heap} {il stA lp lt lq lg : Addr} {k : Int} {tk : Tok} {ys : Array Value} {v0 v1 q0 q1 : Value} {p0 p1 : Plan} {o5 o7 o8 : Option Value} {X : List (Addr × Cel)}
    (D1 : D1 g il lp ys v0 v1 p0 p1) (D3 : D3 g lq q0 q1 p0 p1) (hk : 0 ≤ k)
    (H : Kn g0 [g] ((stA, .lst #[.ref il, .int k tk]) :: E.cells m (some (.ref stA)) (some (.ref lp)) (some (.ref lt)) (some (.ref lq)) o5 (some (.ref lg)) o7 o8 none X) h) :
    wpAny (model Pg w) A (exec st env) (fun f s => f = .next ∧ ∃ (rv : Value) (ρ : List Nat) (q : Plan) (k : Int) (tk : Tok) (h' : Heap) (t' : Nat), s = S r h' t' ∧ 0 ≤ k ∧ PathAt (Fz g) rv ρ ∧ p1.at? ρ = some q ∧
      Kn g0 [g] ((stA, .lst #[.ref il, .int k tk]) :: E.cells (putAt m "part" rv) (some (.ref stA)) (some (.ref lp)) (some (.ref lt)) (some (.ref lq)) o5 (some (.ref lg)) o7 o8 none X) h') NoE (S r h t) := by
  obtain rfl : _ = st := Option.some.inj ((show (lawBody w)[7]? = some _ from rfl).symm.trans hst)
  obtain rfl : _ = nm := (show lawNames w = _ from rfl).symm.trans hnm
  clear hst
  have hlq := D3.lq
  obtain ⟨l1, vs, rfl, hl1, hvs⟩ := D3.a1
  have lqH : ∀ cs, Has [g] cs lq (.lst #[q0, .ref l1]) := fun cs => fzHas hlq (.head _)
  have l1H : ∀ cs, Has [g] cs l1 (.lst vs) := fun cs => fzHas hl1 (.head _)
  have hsz : vs.size = (p1.paths []).length := by have := hvs.len; simpa using this.symm
  have h15 := D1.o1.paths_le
  have h2 := Plan.paths_two D1.o1.nd
  repeat walk_at "go"
  refine l_at (xs := #[q0, .ref l1]) (by assumption) (lqH _) (by omega) (by omega) (v := .ref l1) (by rfl) ?_
  repeat walk_at "go"
  walk_at "next"
  walk_at "len"
  refine l_at (xs := #[q0, .ref l1]) (by assumption) (lqH _) (by omega) (by omega) (v := .ref l1) (by rfl) ?_
  repeat walk_at "go"
  refine l_len (Has.at (c := .lst vs) (by assumption) (l1H _)) (by omega) fun tl t' => ?_
  repeat walk_at "go"
  refine law_next G (ps := []) (fzHas D1.il (.head _)) D1.i60 hk (by omega) R.le (by assumption) ?_
  intro v2 tv2 h' t' k2 tk2 h20 h21 hk2 H
  repeat walk_at "go"
  obtain ⟨j, hj⟩ : ∃ j : Nat, v2 = j := ⟨v2.toNat, by omega⟩
  subst hj
  obtain ⟨π, hπ⟩ : ∃ π, (p1.paths [])[j]? = some π := ⟨_, List.getElem?_eq_getElem (by omega)⟩
  obtain ⟨pv, hpv, hR⟩ := hvs.get' hπ
  refine l_at (xs := vs) (by assumption) (l1H _) (by omega) (by omega) (v := pv) (by rw [show (j : Int).toNat = j by omega]; exact hpv) ?_
  repeat walk_at "go"
  obtain ⟨q, hq⟩ : ∃ q, p1.at? π = some q := by
    obtain ⟨_, q, e0, hq⟩ := Plan.paths_at (List.mem_of_getElem? hπ)
    rw [List.nil_append] at e0
    rw [e0]; exact ⟨q, hq⟩
  rename_i H
  exact ⟨rfl, pv, π, q, k2, tk2, _, _, rfl, hk2, hR, hq, H⟩
end
/-- the part of the second tree -/
structure D5 (g : Heap) (rv : Value) (ρ : List Nat) (q : Plan) (p1 : Plan) (V T1 : Tr) : Prop where
  pa : PathAt (Fz g) rv ρ
  at_ : p1.at? ρ = some q
  ok : q.ok 3
  wd : q.wordy
  ln : ρ.length ≤ 3
  tat : T1.at? ρ = some V
  vk : V.Ok q
theorem D5.mono {g g' rv ρ q p1 V T1} (x : D5 g rv ρ q p1 V T1) (k : g.StaysIn g') : D5 g' rv ρ q p1 V T1 :=
  ⟨x.pa.mono fun a c z => z.mono (k a), x.at_, x.ok, x.wd, x.ln, x.tat, x.vk⟩
theorem D5.of {g il lp ys v0 v1 p0 p1 lt T0 T1 rv ρ q} (D1 : D1 g il lp ys v0 v1 p0 p1) (D2 : D2 g lt T0 T1 p0 p1) (h1 : PathAt (Fz g) rv ρ) (h2 : p1.at? ρ = some q) : ∃ V, D5 g rv ρ q p1 V T1 := by
  obtain ⟨V, hV, hVq⟩ := Tr.at_of D2.k1 h2
  obtain ⟨a, b, c⟩ := Plan.at_ok h2 D1.o1.ok D1.o1.wd
  exact ⟨V, h1, h2, b, c, a, hV, hVq⟩
/-- the clone -/
structure D6 (F : Tr) (q : Plan) : Prop where
  ok : F.Ok q
  np : F.m "parent" = none
  cm : F.Calm
  n20 : F.n ≤ 20
section
variable {w : World} {g0 h : Heap} {r : Shared} {t n : Nat} {A : Around} {env : Env}
/-- 8: fresh -/
theorem st8 (G : Gl w g0) {E : LawEnv} {st : Stmt} {nm : List (Str × NameKind)} (hst : (lawBody w)[8]? = some st) (hnm : lawNames w = nm) (e : EnvIs env E.L nm E.cl) (R : Rm A 400) {m : Str → Option Value} {g : Heap} {stA lp lt lq lg : Addr} {sv : Cel} {p0 p1 q : Plan} {o5 o7 o8 : Option Value} {T0 T1 V : Tr} {rv : Value} {ρ : List Nat} {X : List (Addr × Cel)}
    (D2 : D2 g lt T0 T1 p0 p1) (D5 : D5 g rv ρ q p1 V T1) (hm : m "part" = some rv)
    (H : Kn g0 [g] ((stA, sv) :: E.cells m (some (.ref stA)) (some (.ref lp)) (some (.ref lt)) (some (.ref lq)) o5 (some (.ref lg)) o7 o8 none X) h) :
    wpAny (model Pg w) A (exec st env) (fun f s => f = .next ∧ ∃ (F : Tr) (h' : Heap) (t' : Nat), s = S r h' t' ∧ D6 F q ∧
      Kn g0 [g] ((stA, sv) :: E.cells (putAt m "fresh" (.ref F.x)) (some (.ref stA)) (some (.ref lp)) (some (.ref lt)) (some (.ref lq)) o5 (some (.ref lg)) o7 o8 none (X ++ F.cells)) h') NoE (S r h t) := by
  obtain rfl : _ = st := Option.some.inj ((show (lawBody w)[8]? = some _ from rfl).symm.trans hst)
  obtain rfl : _ = nm := (show lawNames w = _ from rfl).symm.trans hnm
  clear hst
  have hlt := D2.lt
  have ltH : ∀ cs, Has [g] cs lt (.lst #[.ref T0.x, .ref T1.x]) := fun cs => fzHas hlt (.head _)
  have hVc : ∀ cs, Kns [g] cs V.cells := fun cs => Kns.at (fun z hz => fzHas (D2.f1 z hz) (.head _)) D5.tat
  have hob2 := (hVc X).ins.ob
  have hns2 := (hVc X).ins.ns
  have okm := V.me_clone w
  have okn := D5.vk.no_clone
  repeat walk_at "go"
  walk_at "at"
  refine l_at (xs := #[.ref T0.x, .ref T1.x]) (by assumption) (ltH _) (by omega) (by omega) (v := .ref T1.x) (by rfl) ?_
  repeat walk_at "go"
  refine s_at G D2.k1 (fun z hz => fzHas (D2.f1 z hz) (.head _)) (D5.pa.mono fun a c z => fzHas z (.head _)) (by have := D5.ln; omega) D5.tat (by assumption) R.le fun h' t' H => ?_
  repeat walk_at "go"
  refine cw0 G (by assumption) (V.kf_clone w) ?_
  refine s_clone G 3 D5.ok D5.vk (hVc _) (by assumption) R.le fun F h' t' h1 h2 h3 h4 H => ?_
  have H : Kn g0 [g] ((stA, sv) :: E.cells m (some (.ref stA)) (some (.ref lp)) (some (.ref lt)) (some (.ref lq)) o5 (some (.ref lg)) o7 o8 none (X ++ F.cells)) h' := H.perm (List.perm_append_comm (l₁ := ((stA, sv) :: E.cells m (some (.ref stA)) (some (.ref lp)) (some (.ref lt)) (some (.ref lq)) o5 (some (.ref lg)) o7 o8 none X)))
  repeat walk_at "go"
  rename_i H
  exact ⟨rfl, F, _, _, rfl, ⟨h1, h2, h3, h4⟩, H⟩
/-- 9: the clone is the part -/
theorem st9 (G : Gl w g0) {E : LawEnv} {st : Stmt} {nm : List (Str × NameKind)} (hst : (lawBody w)[9]? = some st) (hnm : lawNames w = nm) (e : EnvIs env E.L nm E.cl) (R : Rm A 400) {m : Str → Option Value} {g : Heap} {stA il lp lt lq lg : Addr} {ys : Array Value} {v0 v1 : Value} {sv : Cel} {p0 p1 q : Plan} {o5 o7 o8 : Option Value} {T0 T1 V F : Tr} {rv : Value} {ρ : List Nat} {X : List (Addr × Cel)}
    (D1 : D1 g il lp ys v0 v1 p0 p1) (D2 : D2 g lt T0 T1 p0 p1) (D5 : D5 g rv ρ q p1 V T1) (D6 : D6 F q) (hm : m "part" = some rv) (hmf : m "fresh" = some (.ref F.x))
    (H : Kn g0 [g] ((stA, sv) :: E.cells m (some (.ref stA)) (some (.ref lp)) (some (.ref lt)) (some (.ref lq)) o5 (some (.ref lg)) o7 o8 none (X ++ F.cells)) h) :
    wpAny (model Pg w) A (exec st env) (fun f s => f = .next ∧ ∃ (h' : Heap) (t' : Nat), s = S r h' t' ∧
      Kn g0 [g] ((stA, sv) :: E.cells m (some (.ref stA)) (some (.ref lp)) (some (.ref lt)) (some (.ref lq)) o5 (some (.ref lg)) o7 o8 none (X ++ F.cells)) h') NoE (S r h t) := by
  obtain rfl : _ = st := Option.some.inj ((show (lawBody w)[9]? = some _ from rfl).symm.trans hst)
  obtain rfl : _ = nm := (show lawNames w = _ from rfl).symm.trans hnm
  clear hst
  have hlt := D2.lt
  have hlp := D1.lp
  have ltH : ∀ cs, Has [g] cs lt (.lst #[.ref T0.x, .ref T1.x]) := fun cs => fzHas hlt (.head _)
  have lpH : ∀ cs, Has [g] cs lp (.lst #[v0, v1]) := fun cs => fzHas hlp (.head _)
  have hVc : ∀ cs, Kns [g] cs V.cells := fun cs => Kns.at (fun z hz => fzHas (D2.f1 z hz) (.head _)) D5.tat
  have hFX : Kns [g] (X ++ F.cells) F.cells := fun z hz => .inl (List.mem_append_right _ hz)
  have hFc : ∀ l, Kns [g] (l ++ (X ++ F.cells)) F.cells := fun l => hFX.mono (fun _ z => z) fun _ z => List.mem_append_right _ z
  have hob2 := hFX.ins.ob
  have hns2 := hFX.ins.ns
  have okp := F.cls_parent w
  have okn := D6.np
  repeat walk_at "go"
  refine bt_or3 ?_
  repeat walk_at "go"
  walk_at "at"
  refine l_at (xs := #[.ref T0.x, .ref T1.x]) (by assumption) (ltH _) (by omega) (by omega) (v := .ref T1.x) (by rfl) ?_
  repeat walk_at "go"
  refine s_at G D2.k1 (fun z hz => fzHas (D2.f1 z hz) (.head _)) (D5.pa.mono fun a c z => fzHas z (.head _)) (by have := D5.ln; omega) D5.tat (by assumption) R.le fun h' t' H => ?_
  refine s_ne G (d := 3) D5.ok D6.ok D5.vk (hFc [(stA, _), (E.L, _), (E.c1, _), (E.c2, _), (E.c3, _), (E.c4, _), (E.c5, _), (E.c6, _), (E.c7, _), (E.c8, _), (E.c9, _)]) (hVc _) (by assumption) R.le fun h' t' H => ?_
  rw [Plan.same_refl]
  repeat walk_at "go"
  refine ⟨rfl, ?_⟩
  have H : Kn g0 [g] ((stA, sv) :: E.cells m (some (.ref stA)) (some (.ref lp)) (some (.ref lt)) (some (.ref lq)) o5 (some (.ref lg)) o7 o8 none (X ++ F.cells)) h' := H
  repeat walk_at "go"
  refine ⟨rfl, ?_⟩
  repeat walk_at "go"
  walk_at "str"
  refine s_str G 3 (by decide) D5.ok D6.ok (hFc [(stA, _), (E.L, _), (E.c1, _), (E.c2, _), (E.c3, _), (E.c4, _), (E.c5, _), (E.c6, _), (E.c7, _), (E.c8, _), (E.c9, _)]) (by assumption) R.le fun tk1 h' t' H => ?_
  have H : Kn g0 [g] ((stA, sv) :: E.cells m (some (.ref stA)) (some (.ref lp)) (some (.ref lt)) (some (.ref lq)) o5 (some (.ref lg)) o7 o8 none (X ++ F.cells)) h' := H
  repeat walk_at "go"
  walk_at "text"
  walk_at "part"
  refine l_at (xs := #[v0, v1]) (by assumption) (lpH _) (by omega) (by omega) (v := v1) (by rfl) ?_
  repeat walk_at "go"
  refine s_part (gs := [g]) G (D1.a1.mono fun a c z => fzHas z (.head _)) (D5.pa.mono fun a c z => fzHas z (.head _)) (by have := D5.ln; omega) D5.at_ (by assumption) R.le fun v h' t' hv H => ?_
  repeat walk_at "go"
  refine s_text G 3 (by decide) D5.ok hv H R.le fun tk2 h' t' H => ?_
  refine i_neStr ?_
  repeat walk_at "go"
  refine ⟨fun q => (by cases q), fun _ => ?_⟩
  repeat walk_at "go"
  exact ⟨rfl, _, _, rfl, H⟩
end
theorem Tr.own_mark (w : World) (T : Tr) : OwnOk w T.C "mark" := by cases T; exact ow_Leaf_mark w; exact ow_Node_mark w; exact ow_Node_mark w
theorem Tr.Ok.marks {T : Tr} {p : Plan} (h : T.Ok p) : T.m "mark" = some (.ref T.mk) ∧ ∃ md, (T.mk, Cel.ob (instObj 31 md)) ∈ T.cells ∧ (md, Cel.dct (fun _ => none) 0) ∈ T.cells := by
  cases T with
  | leaf x d mk md fa ch m n =>
    cases p with
    | leaf => exact ⟨h.1.mark, md, .tail _ (.tail _ (.head _)), .tail _ (.tail _ (.tail _ (.head _)))⟩
    | one => exact h.elim
    | two => exact h.elim
  | one x d mk md l m n c =>
    cases p with
    | one => exact ⟨h.1.mark, md, .tail _ (.tail _ (.head _)), .tail _ (.tail _ (.tail _ (.head _)))⟩
    | leaf => exact h.elim
    | two => exact h.elim
  | two x d mk md l m n c e =>
    cases p with
    | two => exact ⟨h.1.mark, md, .tail _ (.tail _ (.head _)), .tail _ (.tail _ (.tail _ (.head _)))⟩
    | leaf => exact h.elim
    | one => exact h.elim
section
variable {w : World} {g0 h : Heap} {r : Shared} {t n : Nat} {A : Around} {env : Env}
theorem Kn.marks {gs : List Heap} {cs : List (Addr × Cel)} {g : Heap} {a d b : Addr} (H : Kn g0 gs cs h) (hg : g ∈ gs) (ha : Fz g a (.ob (instObj 31 d))) {c : Cel} (hb : (b, c) ∈ cs) : a ≠ b := by
  rintro rfl
  have h1 := H.off _ hb g hg
  have h2 : g.get? a = some (instObj 31 d) := ha
  rw [h1] at h2; cases h2
/-- 10: no mark of the clone is one of the second tree's -/
theorem st10 (G : Gl w g0) {E : LawEnv} {st : Stmt} {nm : List (Str × NameKind)} (hst : (lawBody w)[10]? = some st) (hnm : lawNames w = nm) (e : EnvIs env E.L nm E.cl) (R : Rm A 400) {m : Str → Option Value} {g : Heap} {stA lt lg : Addr} {w0 w1 : Value} {sv : Cel} {p0 p1 q : Plan} {o2 o3 o4 o5 o7 o8 : Option Value} {T0 T1 F : Tr} {X : List (Addr × Cel)}
    (D2 : D2 g lt T0 T1 p0 p1) (D4 : D4 g lg w0 w1 T0 T1 p0 p1) (hp1 : PlanOk p1) (hq3 : q.ok 3) (D6 : D6 F q) (hmf : m "fresh" = some (.ref F.x))
    (H : Kn g0 [g] ((stA, sv) :: E.cells m (some (.ref stA)) o2 o3 o4 o5 (some (.ref lg)) o7 o8 none (X ++ F.cells)) h) :
    wpAny (model Pg w) A (exec st env) (fun f s => f = .next ∧ ∃ (h' : Heap) (t' : Nat), s = S (rg r .finished) h' t' ∧
      Kn g0 [g] ((stA, sv) :: E.cells m (some (.ref stA)) o2 o3 o4 o5 (some (.ref lg)) o7 o8 none (X ++ F.cells)) h') NoE (S r h t) := by
  obtain rfl : _ = st := Option.some.inj ((show (lawBody w)[10]? = some _ from rfl).symm.trans hst)
  obtain rfl : _ = nm := (show lawNames w = _ from rfl).symm.trans hnm
  clear hst
  have hu := (R.le (k := 10)).u64
  have hlg := D4.lg
  obtain ⟨l1, zs1, rfl, hl1, hz1⟩ := D4.a1
  have hlen1 : zs1.length ≤ 15 := by rw [← hz1.len]; exact hp1.paths_le
  have lgH : ∀ cs, Has [g] cs lg (.lst #[w0, .ref l1]) := fun cs => fzHas hlg (.head _)
  have l1H : ∀ cs, Has [g] cs l1 (.lst zs1.toArray) := fun cs => fzHas hl1 (.head _)
  have hFX : Kns [g] (X ++ F.cells) F.cells := fun z hz => .inl (List.mem_append_right _ hz)
  have hob2 := hFX.ins.ob
  have hns2 := hFX.ins.ns
  have okm := F.me_leaves w
  have okn := D6.ok.no_leaves
  have hFz : F.size ≤ 100 := by have := Tr.size_le D6.ok hq3; omega
  repeat walk_at "go"
  refine lcG e (by assumption) (by exact rfl) (by exact rfl) (by exact rfl) (by exact rfl) (by exact rfl) (fun _ => rfl) ?_
  repeat walk_at "go"
  refine cw0 G (by assumption) (F.kf_leaves w) ?_
  refine s_leaves G D6.ok hFz (by assumption) R.le fun a Lg mg gst go h' t' hG hgo H => ?_
  obtain ⟨gnm, gqn, hgd⟩ := hgo.d
  refine wpAny_pyIter_gen (s := S (rg r gst) h' t') (g := r.gens.size) ⟨go, gnm, gqn, Has.at H (.inl (.head _)), hgo.c, hgd, hgo.s⟩ ?_
  refine ⟨rg r gst, [g], _, h', t', rfl, H, fun A' h3 t3 Q E k q => wpAny_pyIter_gen (s := S (rg r gst) h3 t3) (g := r.gens.size) ⟨go, gnm, gqn, (H.stays k).ob (.head _), hgo.c, hgd, hgo.s⟩ q, ?_⟩
  intro acc C as env' h3 t3 has e' hs3 H
  match as, has with
  | [], _ =>
  have H : Kn g0 [g] ([(Lg, Cel.ns mg)] ++ (C, .ns fun _ => none) :: ((acc, .lst #[]) :: (a, .ob go) :: (stA, sv) :: E.cells m (some (.ref stA)) o2 o3 o4 o5 (some (.ref lg)) o7 o8 none (X ++ F.cells))) h3 := H.pick (by
    simp only [List.cons_append, List.nil_append]
    walk_at "pick")
  refine gen_loop G (F := F) (gs := [g]) (cs := (acc, .lst #[]) :: (a, .ob go) :: (stA, sv) :: E.cells m (some (.ref stA)) o2 o3 o4 o5 (some (.ref lg)) o7 o8 none (X ++ F.cells)) hgo (.inl (.tail _ (.head _))) R (by exact rfl) (by exact rfl) ?_ ?_ F.size gst [(Lg, .ns mg)] _ h3 t3
    (hG (R.le (k := 21)).in1 (fun z hz => .tail _ (.tail _ (.tail _ (.tail _ (.tail _ (.tail _ (.tail _ (.tail _ (.tail _ (.tail _ (.tail _ (.tail _ (.tail _ (List.mem_append_right _ hz))))))))))))))) H
  · intro rr Lf gc mC h t hL H
    obtain ⟨⟨wd, bl, row, hLo⟩, hLc⟩ := hL
    have H : Kn g0 [g] ((C, .ns mC) :: (acc, .lst #[]) :: (a, .ob go) :: (stA, sv) :: E.cells m (some (.ref stA)) o2 o3 o4 o5 (some (.ref lg)) o7 o8 none ((X ++ F.cells) ++ gc)) h := H.perm (.cons _ (List.perm_append_comm (l₁ := (acc, .lst #[]) :: (a, .ob go) :: (stA, sv) :: E.cells m (some (.ref stA)) o2 o3 o4 o5 (some (.ref lg)) o7 o8 none (X ++ F.cells))))
    obtain ⟨hmk, md, hmc, hmdc⟩ := hLo.marks
    have hLX : Kns [g] ((X ++ F.cells) ++ gc) Lf.cells := fun z hz => .inl (List.mem_append_left _ (List.mem_append_right _ (hLc z hz)))
    have hob3 := hLX.ins.ob
    have hns3 := hLX.ins.ns
    have okm3 := Lf.own_mark w
    repeat walk_at "go"
    refine lc e' (by assumption) (by exact rfl) (by exact rfl) (by exact rfl) (by exact rfl) (by exact rfl) (fun _ => rfl) ?_
    repeat walk_at "go"
    refine l_at (xs := #[w0, .ref l1]) (by assumption) (lgH _) (by omega) (by omega) (v := .ref l1) (by rfl) ?_
    refine itL (by assumption) (l1H _) fun I2 h' H hs => ?_
    refine ⟨[g], _, h', _, rfl, H, fun A' h3 t3 Q E k q => itself_lit H (.head _) k q, ?_⟩
    intro acc2 C2 as env2 h3 t3 has e2 hs3 H
    match as, has with
    | [], _ =>
    have H : Kn g0 [g] ((C2, .ns fun _ => none) :: (acc2, .lst #[]) :: (I2, .lit l1 0) :: (C, .ns (putAt mC "leaf" (.ref Lf.x))) :: (acc, .lst #[]) :: (a, .ob go) :: (stA, sv) :: E.cells m (some (.ref stA)) o2 o3 o4 o5 (some (.ref lg)) o7 o8 none ((X ++ F.cells) ++ gc)) h3 := H
    have H := H.withBase
    refine comp_src (σ := Unit) (gs := [g]) (csf := fun _ => (C, .ns (putAt mC "leaf" (.ref Lf.x))) :: (acc, .lst #[]) :: (a, .ob go) :: (stA, sv) :: E.cells m (some (.ref stA)) o2 o3 o4 o5 (some (.ref lg)) o7 o8 none ((X ++ F.cells) ++ gc))
      (J := fun j _ g2 ws => g0 = g2 ∧ All2 (fun π v => ∃ U p, T1.at? π = some U ∧ Tr.Ok U p ∧ v = .ref U.mk) ((p1.paths []).take j) ws) (K := fun h => h.IsList l1 zs1.toArray)
      (src_list R.hd I2 l1 zs1.toArray) (by rw [sizeLine_eq]; simp; omega) (by exact rfl) (by exact rfl) (fun _ _ σ _ _ _ H => Has.at (c := .lst zs1.toArray) H (l1H _).consG) ?_ ?_ ?_
      _ 0 g0 () [] _ h3 t3 rfl (Nat.zero_le _) ⟨rfl, trivial⟩ rfl H
    · intro i v r' h t Q hP hc q
      obtain ⟨π, hπ, a, vt, U, q', e, h1, h2, h3, h4⟩ := hz1.get (i := i) (by simpa using hP)
      subst e
      exact go_tupL hc q
    · rintro j v g2 σ2 ws m2 h t hj hv ⟨rfl, hJ⟩ hlw H
      obtain ⟨ρ, hρ, b, vt2, V, q', e3, hb, hV, hq', hvt2⟩ := hz1.get (i := j) (by simpa using hv)
      subst e3
      obtain ⟨p', hp', hVq⟩ := Tr.at_ok hV D2.k1
      obtain ⟨hmk2, _⟩ := hVq.marks
      have hbT : Has [g0, g] ((X ++ F.cells) ++ gc) b (.tup #[.ref V.x, vt2]) := fzHas hb (.tail _ (.head _))
      have hVc : Kns [g0, g] ((X ++ F.cells) ++ gc) V.cells := Kns.at (fun z hz => fzHas (D2.f1 z hz) (.tail _ (.head _))) hV
      have hob4 := hVc.ins.ob
      have hns4 := hVc.ins.ns
      have okm4 := V.own_mark w
      repeat walk_at "go"
      refine ⟨g0, (), _, _, _, rfl, by assumption, rfl, ?_⟩
      obtain ⟨hi', he⟩ := List.getElem?_eq_some_iff.mp hρ
      rw [List.take_succ_eq_append_getElem hi', he]
      exact hJ.snoc ⟨V, p', hV, hVq, rfl⟩
    · rintro g2 σ2 ws m2 h t ⟨rfl, hJ⟩ hlw H
      refine ⟨⟨_, rfl⟩, _, _, _, _, _, rfl, H, fun h H => ?_⟩
      have hmI : Ins [g0, g] ((acc2, .lst ws.toArray) :: (C, .ns (putAt mC "leaf" (.ref Lf.x))) :: (acc, .lst #[]) :: (a, .ob go) :: (stA, sv) :: E.cells m (some (.ref stA)) o2 o3 o4 o5 (some (.ref lg)) o7 o8 none ((X ++ F.cells) ++ gc)) Lf.mk 31 md (fun _ => none) 0 := by
        have h1 : Ins [g0, g] ((X ++ F.cells) ++ gc) Lf.mk 31 md (fun _ => none) 0 := ⟨(hLX _ hmc).consG, (hLX _ hmdc).consG⟩
        exact h1.mono (fun _ z => z) fun _ z => .tail _ (.tail _ (.tail _ (.tail _ (.tail _ (.tail _ (.tail _ (.tail _ (.tail _ (.tail _ (.tail _ (.tail _ (.tail _ (.tail _ (.tail _ z))))))))))))))
      have hmM : (Lf.mk, Cel.ob (instObj 31 md)) ∈ (acc2, Cel.lst ws.toArray) :: (C, .ns (putAt mC "leaf" (.ref Lf.x))) :: (acc, .lst #[]) :: (a, .ob go) :: (stA, sv) :: E.cells m (some (.ref stA)) o2 o3 o4 o5 (some (.ref lg)) o7 o8 none ((X ++ F.cells) ++ gc) :=
        .tail _ (.tail _ (.tail _ (.tail _ (.tail _ (.tail _ (.tail _ (.tail _ (.tail _ (.tail _ (.tail _ (.tail _ (.tail _ (.tail _ (.tail _ (List.mem_append_left _ (List.mem_append_right _ (hLc _ hmc)))))))))))))))))
      refine SeqAt.in_listAt (s := S rr h t) (fun _ => false) (H.lst (.head _)) (fun y hy => ?_) ?_
      · obtain ⟨i, hi⟩ := List.getElem?_of_mem (List.mem_toArray.mp hy)
        obtain ⟨π, _, U, p, hU, hUp, rfl⟩ := hJ.get hi
        obtain ⟨_, md2, hc1, hc2⟩ := hUp.marks
        have hf1 : Fz g U.mk (.ob (instObj 31 md2)) := D2.f1 _ (Tr.at_cells hU _ hc1)
        have hf2 : Fz g md2 (.dct (fun _ => none) 0) := D2.f1 _ (Tr.at_cells hU _ hc2)
        exact mark_eq G H ⟨fzHas hf1 (.tail _ (.head _)), fzHas hf2 (.tail _ (.head _))⟩ hmI (Kn.marks H (.tail _ (.head _)) hf1 hmM) (by show A.units + 1 < 9900; omega)
      · rw [show (ws.toArray.any fun _ => false) = false by simp]
        repeat walk_at "go"
        refine ⟨rfl, _, _, _, rfl, (((H.drop.gsub (gs' := [g]) fun x hx => .tail _ hx).perm (.cons _ (List.perm_append_comm (l₂ := (acc, .lst #[]) :: (a, .ob go) :: (stA, sv) :: E.cells m (some (.ref stA)) o2 o3 o4 o5 (some (.ref lg)) o7 o8 none (X ++ F.cells))))))⟩
  · intro gc mC h t H
    refine ⟨⟨_, rfl⟩, rg r .finished, [g], _, _, h, t, rfl, H, fun h'' H => ?_⟩
    have H : Kn g0 [g] ((acc, .lst #[]) :: (stA, sv) :: E.cells m (some (.ref stA)) o2 o3 o4 o5 (some (.ref lg)) o7 o8 none (X ++ F.cells)) h'' := (H.perm (List.perm_append_comm (l₁ := (acc, .lst #[]) :: (a, .ob go) :: (stA, sv) :: E.cells m (some (.ref stA)) o2 o3 o4 o5 (some (.ref lg)) o7 o8 none (X ++ F.cells)))).sub (by
      show List.Sublist _ ((acc, .lst #[]) :: (a, .ob go) :: (stA, sv) :: E.cells m (some (.ref stA)) o2 o3 o4 o5 (some (.ref lg)) o7 o8 none ((X ++ F.cells) ++ gc))
      refine .cons_cons _ (.cons _ ?_)
      refine .cons_cons _ (.cons_cons _ (.cons_cons _ (.cons_cons _ (.cons_cons _ (.cons_cons _ (.cons_cons _ (.cons_cons _ (.cons_cons _ (.cons_cons _ (.cons_cons _ (List.sublist_append_left _ _)))))))))))
      )
    repeat walk_at "go"
    refine ⟨sz, _, _, _, _, rfl, H, fun le h' H hs => ?_⟩
    obtain ⟨as1, r1⟩ := rd_list (g := h') (a := acc) (ys := #[]) (ds := []) (H.lst (.tail _ (.head _))) trivial
    obtain ⟨as2, r2⟩ := rd_list (g := h') (a := le) (ys := #[]) (ds := []) (H.lst (.head _)) trivial
    refine ne_dataH (s := S _ h' _) r1 r2 (shaped_bools []) (shaped_bools []) hu ?_
    rw [show PyData.eqv (.list []) (.list []) = true from rfl]
    repeat walk_at "go"
    refine ⟨fun q => (by cases q), fun _ => ?_⟩
    repeat walk_at "go"
    exact ⟨rfl, _, _, rfl, H.drop.drop⟩
end
theorem Tr.Ok.no_replace {T : Tr} {p : Plan} (h : T.Ok p) : T.m "replace" = none := by
  cases T <;> cases p <;> first | exact h.elim | exact h.1.rp
theorem Tr.me_replace (w : World) (T : Tr) : MethOk w T.C "replace" 99 := by cases T; exact me_Leaf_replace w; exact me_Node_replace w; exact me_Node_replace w
/-- the old part of the first tree -/
structure D7 (g : Heap) (pv : Value) (π : List Nat) (i : Nat) (p0 k0 : Plan) (T0 U O : Tr) : Prop where
  pa : PathAt (Fz g) pv (π ++ [i])
  ln : (π ++ [i]).length ≤ 3
  uat : T0.at? π = some U
  kid : U.kids[i]? = some O
  oat : T0.at? (π ++ [i]) = some O
  pat : p0.at? π = some k0
  uk : U.Ok k0
  nd : k0.isNode
  oc : U.C = 294
  op : O.m "parent" = some (.ref U.x)
  ook : ∃ q, O.Ok q
  sc : U.m "set_child" = none
theorem D7.mono {g g' pv π i p0 k0 T0 U O} (x : D7 g pv π i p0 k0 T0 U O) (k : g.StaysIn g') : D7 g' pv π i p0 k0 T0 U O :=
  ⟨x.pa.mono fun a c z => z.mono (k a), x.ln, x.uat, x.kid, x.oat, x.pat, x.uk, x.nd, x.oc, x.op, x.ook, x.sc⟩
theorem D7.of {g il lp ys v0 v1 p0 p1 lt T0 T1 pv π i q} (D1 : D1 g il lp ys v0 v1 p0 p1) (D2 : D2 g lt T0 T1 p0 p1) (h1 : PathAt (Fz g) pv (π ++ [i])) (h2 : p0.at? (π ++ [i]) = some q) : ∃ k0 U O, D7 g pv π i p0 k0 T0 U O := by
  obtain ⟨O, hO, hOq⟩ := Tr.at_of D2.k0 h2
  obtain ⟨U, hU, hUO⟩ := at_snoc hO
  obtain ⟨k0, hk0, hUk⟩ := Tr.at_ok hU D2.k0
  obtain ⟨a, b, c⟩ := Plan.at_ok h2 D1.o0.ok D1.o0.wd
  have hnode : k0.isNode := by
    cases k0 with
    | leaf => obtain ⟨_, _, _, _, _, _, _, e⟩ := hUk.leaf; rw [e] at hUO; exact nomatch hUO
    | one => trivial
    | two => trivial
  obtain ⟨lN, N, hUC, hUn, _, hkok, _⟩ := hUk.node hnode
  obtain ⟨q', _, _, hOp⟩ := hkok.get' hUO
  exact ⟨k0, U, O, h1, a, hU, hUO, hO, hk0, hUk, hnode, hUC, hOp, ⟨q, hOq⟩, N.sc⟩
section
variable {w : World} {g0 h : Heap} {r : Shared} {t n : Nat} {A : Around} {env : Env}
/-- 11: before -/
theorem st11 (G : Gl w g0) {E : LawEnv} {st : Stmt} {nm : List (Str × NameKind)} (hst : (lawBody w)[11]? = some st) (hnm : lawNames w = nm) (e : EnvIs env E.L nm E.cl) (R : Rm A 400) {m : Str → Option Value} {g : Heap} {stA lt : Addr} {sv : Cel} {p0 p1 : Plan} {o2 o4 o5 o6 o7 o8 : Option Value} {T0 T1 : Tr} {Y : List (Addr × Cel)}
    (D2 : D2 g lt T0 T1 p0 p1) (hp0 : PlanOk p0)
    (H : Kn g0 [g] ((stA, sv) :: E.cells m (some (.ref stA)) o2 (some (.ref lt)) o4 o5 o6 o7 o8 none (T0.cells ++ Y)) h) :
    wpAny (model Pg w) A (exec st env) (fun f s => f = .next ∧ ∃ (B : Tr) (g' : Heap) (h' : Heap) (t' : Nat), s = S r h' t' ∧ g.StaysIn g' ∧ B.Ok p0 ∧ B.Calm ∧ (∀ z ∈ B.cells, Fz g' z.1 z.2) ∧
      Kn g0 [g'] ((stA, sv) :: E.cells (putAt m "before" (.ref B.x)) (some (.ref stA)) o2 (some (.ref lt)) o4 o5 o6 o7 o8 none (T0.cells ++ Y)) h') NoE (S r h t) := by
  obtain rfl : _ = st := Option.some.inj ((show (lawBody w)[11]? = some _ from rfl).symm.trans hst)
  obtain rfl : _ = nm := (show lawNames w = _ from rfl).symm.trans hnm
  clear hst
  have hlt := D2.lt
  have ltH : ∀ cs, Has [g] cs lt (.lst #[.ref T0.x, .ref T1.x]) := fun cs => fzHas hlt (.head _)
  have hTX : Kns [g] (T0.cells ++ Y) T0.cells := fun z hz => .inl (List.mem_append_left _ hz)
  have hTc : ∀ l, Kns [g] (l ++ (T0.cells ++ Y)) T0.cells := fun l => hTX.mono (fun _ z => z) fun _ z => List.mem_append_right _ z
  have hob2 := hTX.ins.ob
  have hns2 := hTX.ins.ns
  have okm := T0.me_clone w
  have okn := D2.k0.no_clone
  repeat walk_at "go"
  refine l_at (xs := #[.ref T0.x, .ref T1.x]) (by assumption) (ltH _) (by omega) (by omega) (v := .ref T0.x) (by rfl) ?_
  repeat walk_at "go"
  refine cw0 G (by assumption) (T0.kf_clone w) ?_
  refine s_clone G 3 hp0.ok D2.k0 (hTc [(stA, _), (E.L, _), (E.c1, _), (E.c2, _), (E.c3, _), (E.c4, _), (E.c5, _), (E.c6, _), (E.c7, _), (E.c8, _), (E.c9, _)]) (by assumption) R.le fun B h' t' h1 h2 h3 h4 H => ?_
  obtain ⟨g4, f1, f2, f3, H⟩ := Kn.freeze (c1 := B.cells) H
  have H : Kn g0 [g4] ((stA, sv) :: E.cells m (some (.ref stA)) o2 (some (.ref lt)) o4 o5 o6 o7 o8 none (T0.cells ++ Y)) h' := H.gsub fun x hx => by cases List.mem_singleton.mp hx; exact .head _
  repeat walk_at "go"
  rename_i H
  exact ⟨rfl, B, g4, _, _, rfl, f2 g (.head _), h1, h3, f1, H⟩
/-- 12: old -/
theorem st12 (G : Gl w g0) {E : LawEnv} {st : Stmt} {nm : List (Str × NameKind)} (hst : (lawBody w)[12]? = some st) (hnm : lawNames w = nm) (e : EnvIs env E.L nm E.cl) (R : Rm A 400) {m : Str → Option Value} {g : Heap} {stA lt : Addr} {sv : Cel} {p0 p1 k0 : Plan} {o2 o4 o6 o7 o8 : Option Value} {T0 T1 U O : Tr} {Y : List (Addr × Cel)} {pv : Value} {π : List Nat} {i : Nat}
    (D2 : D2 g lt T0 T1 p0 p1) (D7 : D7 g pv π i p0 k0 T0 U O)
    (H : Kn g0 [g] ((stA, sv) :: E.cells m (some (.ref stA)) o2 (some (.ref lt)) o4 (some pv) o6 o7 o8 none (T0.cells ++ Y)) h) :
    wpAny (model Pg w) A (exec st env) (fun f s => f = .next ∧ ∃ (h' : Heap) (t' : Nat), s = S r h' t' ∧
      Kn g0 [g] ((stA, sv) :: E.cells (putAt m "old" (.ref O.x)) (some (.ref stA)) o2 (some (.ref lt)) o4 (some pv) o6 o7 o8 none (T0.cells ++ Y)) h') NoE (S r h t) := by
  obtain rfl : _ = st := Option.some.inj ((show (lawBody w)[12]? = some _ from rfl).symm.trans hst)
  obtain rfl : _ = nm := (show lawNames w = _ from rfl).symm.trans hnm
  clear hst
  have hlt := D2.lt
  have ltH : ∀ cs, Has [g] cs lt (.lst #[.ref T0.x, .ref T1.x]) := fun cs => fzHas hlt (.head _)
  have hTX : Kns [g] (T0.cells ++ Y) T0.cells := fun z hz => .inl (List.mem_append_left _ hz)
  have hTc : ∀ l, Kns [g] (l ++ (T0.cells ++ Y)) T0.cells := fun l => hTX.mono (fun _ z => z) fun _ z => List.mem_append_right _ z
  repeat walk_at "go"
  walk_at "at"
  refine l_at (xs := #[.ref T0.x, .ref T1.x]) (by assumption) (ltH _) (by omega) (by omega) (v := .ref T0.x) (by rfl) ?_
  repeat walk_at "go"
  refine s_at G D2.k0 (hTc [(stA, _), (E.L, _), (E.c1, _), (E.c2, _), (E.c3, _), (E.c4, _), (E.c5, _), (E.c6, _), (E.c7, _), (E.c8, _), (E.c9, _)]) (D7.pa.mono fun a c z => fzHas z (.head _)) (by have := D7.ln; omega) D7.oat (by assumption) R.le fun h' t' H => ?_
  have H : Kn g0 [g] ((stA, sv) :: E.cells m (some (.ref stA)) o2 (some (.ref lt)) o4 (some pv) o6 o7 o8 none (T0.cells ++ Y)) h' := H
  repeat walk_at "go"
  rename_i H
  exact ⟨rfl, _, _, rfl, H⟩
/-- 13: up -/
theorem st13 (G : Gl w g0) {E : LawEnv} {st : Stmt} {nm : List (Str × NameKind)} (hst : (lawBody w)[13]? = some st) (hnm : lawNames w = nm) (e : EnvIs env E.L nm E.cl) (R : Rm A 400) {m : Str → Option Value} {g : Heap} {stA : Addr} {sv : Cel} {p0 k0 : Plan} {o2 o3 o4 o5 o6 o7 o8 : Option Value} {T0 U O : Tr} {Y : List (Addr × Cel)} {pv : Value} {π : List Nat} {i : Nat}
    (D7 : D7 g pv π i p0 k0 T0 U O) (hm : m "old" = some (.ref O.x))
    (H : Kn g0 [g] ((stA, sv) :: E.cells m (some (.ref stA)) o2 o3 o4 o5 o6 o7 o8 none (T0.cells ++ Y)) h) :
    wpAny (model Pg w) A (exec st env) (fun f s => f = .next ∧ ∃ (h' : Heap) (t' : Nat), s = S r h' t' ∧
      Kn g0 [g] ((stA, sv) :: E.cells (putAt m "up" (.ref U.x)) (some (.ref stA)) o2 o3 o4 o5 o6 o7 o8 none (T0.cells ++ Y)) h') NoE (S r h t) := by
  obtain rfl : _ = st := Option.some.inj ((show (lawBody w)[13]? = some _ from rfl).symm.trans hst)
  obtain rfl : _ = nm := (show lawNames w = _ from rfl).symm.trans hnm
  clear hst
  have hTX : Kns [g] (T0.cells ++ Y) O.cells := Kns.at (fun z hz => .inl (List.mem_append_left _ hz)) D7.oat
  have hob2 := hTX.ins.ob
  have hns2 := hTX.ins.ns
  have okp := O.own_parent w
  have hop := D7.op
  repeat walk_at "go"
  rename_i H
  exact ⟨rfl, _, _, rfl, H⟩
end
section
variable {w : World} {g0 h : Heap} {r : Shared} {t n : Nat} {A : Around} {env : Env}
theorem t_len {gs : List Heap} {cs : List (Addr × Cel)} {E : Value → Shared → Prop} {Q : Value → Shared → Prop} {l : Addr} {xs : Array Value} (H : Kn g0 gs cs h) (hl : Has gs cs l (.tup xs)) (hi : (xs.size : Int) < 2 ^ 63) (k : ∀ tk t', Q (.int xs.size tk) (S r h t')) :
    wpAny (model Pg w) A (call (.builtin "len") [.ref l]) Q E (S r h t) := PyProof.Rows.len_tuple (s := S r h t) (Has.at (c := .tup xs) H hl) hi (k _ _)
/-- 14: the new part in the old one's place -/
theorem st14 (G : Gl w g0) {E : LawEnv} {st : Stmt} {nm : List (Str × NameKind)} (hst : (lawBody w)[14]? = some st) (hnm : lawNames w = nm) (e : EnvIs env E.L nm E.cl) (R : Rm A 400) {m : Str → Option Value} {g : Heap} {stA il lt : Addr} {k : Int} {tk : Tok} {ys : Array Value} {p0 p1 k0 q : Plan} {o2 o3 o4 o6 o7 o8 : Option Value} {T0 T1 U O F : Tr} {pv : Value} {π : List Nat} {i : Nat}
    (hil : Fz g il (.lst ys)) (hI : Ints60 ys) (hk : 0 ≤ k) (D2 : D2 g lt T0 T1 p0 p1) (D6 : D6 F q) (D7 : D7 g pv π i p0 k0 T0 U O) (hmo : m "old" = some (.ref O.x)) (hmu : m "up" = some (.ref U.x)) (hmf : m "fresh" = some (.ref F.x))
    (H : Kn g0 [g] ((stA, .lst #[.ref il, .int k tk]) :: E.cells m (some (.ref stA)) o2 o3 o4 (some pv) o6 o7 o8 none (T0.cells ++ F.cells)) h) :
    wpAny (model Pg w) A (exec st env) (fun f s => f = .next ∧ ∃ (l' : Addr) (m' : Str → Option Value) (n' : Nat) (k : Int) (tk : Tok) (h' : Heap) (t' : Nat), s = S r h' t' ∧ NewNs U k0.kind m' l' n' ∧
      Kn g0 [g] ((stA, .lst #[.ref il, .int k tk]) :: E.cells m (some (.ref stA)) o2 o3 o4 (some pv) o6 o7 o8 none ((Tr.set (U.re l' m' n' (F.setN "parent" (.ref U.x)) i) T0 π).cells ++ (O.setN "parent" .none).cells)) h') NoE (S r h t) := by
  obtain rfl : _ = st := Option.some.inj ((show (lawBody w)[14]? = some _ from rfl).symm.trans hst)
  obtain rfl : _ = nm := (show lawNames w = _ from rfl).symm.trans hnm
  clear hst
  have hln := D7.ln
  rw [List.length_append, List.length_singleton] at hln
  obtain ⟨pa, pxs, rfl, hpa, hpxs⟩ := D7.pa
  have paH : ∀ cs, Has [g] cs pa (.tup pxs) := fun cs => fzHas hpa (.head _)
  have hTX : Kns [g] (T0.cells ++ F.cells) O.cells := Kns.at (fun z hz => .inl (List.mem_append_left _ hz)) D7.oat
  have hUX : Kns [g] (T0.cells ++ F.cells) U.cells := Kns.at (fun z hz => .inl (List.mem_append_left _ hz)) D7.uat
  have hob2 := hTX.ins.ob
  have hns2 := hTX.ins.ns
  have hob3 := hUX.ins.ob
  have hns3 := hUX.ins.ns
  have okr := O.me_replace w
  obtain ⟨qO, hqO⟩ := D7.ook
  have nor := hqO.no_replace
  have oks : MethOk w U.C "set_child" 235 := by rw [D7.oc]; exact me_Node_set_child w
  have nos := D7.sc
  have hpsz : pxs.size = π.length + 1 := by have := hpxs.len; simpa using this.symm
  obtain ⟨iv, hiv, itk, rfl⟩ := hpxs.get' (i := π.length) (a := i) (by simp)
  have uniq : ∀ {k k' : Plan}, p0.at? π = some k → p0.at? π = some k' → k = k' := fun a b => Option.some.inj (a.symm.trans b)
  have hpat := D7.pat
  refine x_if ?_
  repeat walk_at "go"
  walk_at "next"
  refine law_next G (ps := []) (fzHas hil (.head _)) hI hk (by omega) R.le (by assumption) ?_
  intro v2 tv2 h' t' k2 tk2 h20 h21 hk2 H
  repeat walk_at "go"
  rename_i H _
  have H : Kn g0 [g] ((stA, .lst #[.ref il, .int k2 tk2]) :: E.cells m (some (.ref stA)) o2 o3 o4 (some (.ref pa)) o6 o7 o8 none (T0.cells ++ F.cells)) h' := by assumption
  have fin : ∀ {X Y : List (Addr × Cel)} {h : Heap} {k tk}, Kn g0 [g] (X ++ (Y ++ ((stA, .lst #[.ref il, .int k tk]) :: E.cells m (some (.ref stA)) o2 o3 o4 (some (.ref pa)) o6 o7 o8 none []))) h → Kn g0 [g] ((stA, .lst #[.ref il, .int k tk]) :: E.cells m (some (.ref stA)) o2 o3 o4 (some (.ref pa)) o6 o7 o8 none (X ++ Y)) h := fun {X Y h k tk} H => by
    rw [← List.append_assoc] at H
    exact H.perm (List.perm_append_comm (l₁ := (stA, .lst #[.ref il, .int k tk]) :: E.cells m (some (.ref stA)) o2 o3 o4 (some (.ref pa)) o6 o7 o8 none []))
  have start : ∀ {X Y : List (Addr × Cel)} {h : Heap} {k tk}, Kn g0 [g] ((stA, .lst #[.ref il, .int k tk]) :: E.cells m (some (.ref stA)) o2 o3 o4 (some (.ref pa)) o6 o7 o8 none (X ++ Y)) h → Kn g0 [g] (X ++ (Y ++ ((stA, .lst #[.ref il, .int k tk]) :: E.cells m (some (.ref stA)) o2 o3 o4 (some (.ref pa)) o6 o7 o8 none []))) h := fun {X Y h k tk} H => by
    rw [← List.append_assoc]
    exact H.perm (List.perm_append_comm (l₂ := (stA, .lst #[.ref il, .int k tk]) :: E.cells m (some (.ref stA)) o2 o3 o4 (some (.ref pa)) o6 o7 o8 none []))
  refine ⟨fun _ => ?_, fun _ => ?_⟩
  · repeat walk_at "go"
    refine cw G (kf_235 w) ?_
    repeat walk_at "go"
    walk_at "len"
    refine t_len H (paH _) (by omega) fun tl t' => ?_
    repeat walk_at "go"
    refine t_at (xs := pxs) H (paH _) (by omega) (by omega) (v := .int i itk) (by rw [show ((pxs.size : Int) - 1).toNat = π.length by omega]; exact hiv) ?_
    repeat walk_at "go"
    refine s_mut1 G D2.k0 D2.c0 (.inl D2.r0) D7.uat D7.kid (by have := D6.n20; omega) (start H) R.le fun l' m' n' k h' t' hk' hN H => ?_
    cases uniq hpat hk'
    repeat walk_at "go"
    exact ⟨rfl, l', m', n', k2, tk2, _, _, rfl, hN, fin H⟩
  · repeat walk_at "go"
    refine cw G (kf_99 w) ?_
    repeat walk_at "go"
    refine s_mut2 G D2.k0 D2.c0 (.inl D2.r0) D7.uat D7.kid (by have := D6.n20; omega) (start H) R.le fun l' m' n' k h' t' hk' hN H => ?_
    cases uniq hpat hk'
    repeat walk_at "go"
    exact ⟨rfl, l', m', n', k2, tk2, _, _, rfl, hN, fin H⟩
end
/-- the tree that has the new part -/
structure D8 (N T0 U F : Tr) (P : Plan) (π : List Nat) (i : Nat) : Prop where
  x : N.x = T0.x
  ok : N.Ok P
  okP : P.ok 6
  wd : P.wordy
  fat : N.at? (π ++ [i]) = some F
  uat : ∃ V, N.at? π = some V ∧ V.mk = U.mk ∧ V.x = U.x ∧ ∃ kv, V.Ok kv
  fl : N.Flags ((P.paths []).map fun ρ => (pre [] π).contains ρ)
/-- a clone that is taken on -/
structure D9 (F F' U : Tr) (q : Plan) : Prop where
  x : F'.x = F.x
  ok : F'.Ok q
  par : F'.m "parent" = some (.ref U.x)
theorem D9.of {F U : Tr} {q : Plan} (D : D6 F q) : D9 F (F.setN "parent" (.ref U.x)) U q :=
  ⟨Tr.put_x _ _ _, Tr.Ok.put D.ok (.inl rfl) (by have := D.n20; omega), by rw [Tr.setN, Tr.put_m]; exact putAt_self _ _ _⟩
theorem D8.of {g il lp ys v0 v1 p0 p1 lt T0 T1 pv π i k0 U O rv ρ q V F l' m' n'} (D1 : D1 g il lp ys v0 v1 p0 p1) (D2 : D2 g lt T0 T1 p0 p1) (D5 : D5 g rv ρ q p1 V T1) (D6 : D6 F q) (D7 : D7 g pv π i p0 k0 T0 U O) (N : NewNs U k0.kind m' l' n') :
    D8 (Tr.set (U.re l' m' n' (F.setN "parent" (.ref U.x)) i) T0 π) T0 U (F.setN "parent" (.ref U.x)) (Plan.put q p0 (π ++ [i])) π i := by
  have D9 := D9.of (U := U) D6
  have hFC : (F.setN "parent" (.ref U.x)).Calm := Tr.Calm.put D6.cm (by have := D6.n20; omega)
  obtain ⟨a1, a2, a3, a4, a5, a6⟩ := Tr.re_ok (l' := l') (n' := n') D7.uk D7.kid D9.ok D9.par N
  have hUC := Tr.at_calm D7.uat D2.c0
  have hpp := Plan.put_put (q := q) (i := i) D7.pat
  have hat : ∀ σ, (Tr.set (U.re l' m' n' (F.setN "parent" (.ref U.x)) i) T0 π).at? (π ++ σ) = (U.re l' m' n' (F.setN "parent" (.ref U.x)) i).at? σ := fun σ => Tr.set_at D7.uat
  refine ⟨Tr.set_x D7.uat a3, ?_, Plan.put_ok (d := 3) (e := 3) D5.ok D1.o0.ok, Plan.put_wordy D5.wd D1.o0.wd, ?_, ⟨_, ?_, a5, a3, _, a1⟩, ?_⟩
  · rw [← hpp]; exact Tr.set_ok a1 a3 (by rw [a2]; exact N.par) D7.uat D2.k0 D2.c0
  · rw [hat]; unfold Tr.at?; rw [a4]; rfl
  · have := hat []; rw [List.append_nil] at this; rw [this]; rfl
  · rw [← hpp]; exact flags_set (fun β => flags_re D7.uk hUC D7.kid D9.ok hFC N β) [] D7.uat D2.k0 D2.c0
section
variable {w : World} {g0 h : Heap} {r : Shared} {t n : Nat} {A : Around} {env : Env}
/-- 15: plan -/
theorem st15 (G : Gl w g0) {E : LawEnv} {st : Stmt} {nm : List (Str × NameKind)} (hst : (lawBody w)[15]? = some st) (hnm : lawNames w = nm) (e : EnvIs env E.L nm E.cl) (R : Rm A 400) {m : Str → Option Value} {g : Heap} {stA il lp lt : Addr} {ys : Array Value} {v0 v1 pv rv : Value} {sv : Cel} {p0 p1 k0 q : Plan} {o3 o4 o6 o7 o8 : Option Value} {T0 T1 U O V : Tr} {π ρ : List Nat} {i : Nat} {X : List (Addr × Cel)}
    (D1 : D1 g il lp ys v0 v1 p0 p1) (D5 : D5 g rv ρ q p1 V T1) (D7 : D7 g pv π i p0 k0 T0 U O) (hp0 : ∃ k, p0.at? (π ++ [i]) = some k) (hm : m "part" = some rv)
    (H : Kn g0 [g] ((stA, sv) :: E.cells m (some (.ref stA)) (some (.ref lp)) o3 o4 (some pv) o6 o7 o8 none X) h) :
    wpAny (model Pg w) A (exec st env) (fun f s => f = .next ∧ ∃ (P : Value) (g' : Heap) (h' : Heap) (t' : Nat), s = S r h' t' ∧ g.StaysIn g' ∧ PlanAt (Fz g') (Plan.put q p0 (π ++ [i])) P ∧
      Kn g0 [g'] ((stA, sv) :: E.cells (putAt m "plan" P) (some (.ref stA)) (some (.ref lp)) o3 o4 (some pv) o6 o7 o8 none X) h') NoE (S r h t) := by
  obtain rfl : _ = st := Option.some.inj ((show (lawBody w)[15]? = some _ from rfl).symm.trans hst)
  obtain rfl : _ = nm := (show lawNames w = _ from rfl).symm.trans hnm
  clear hst
  have hlp := D1.lp
  have lpH : ∀ cs, Has [g] cs lp (.lst #[v0, v1]) := fun cs => fzHas hlp (.head _)
  obtain ⟨k, hk⟩ := hp0
  have hln := D7.ln
  repeat walk_at "go"
  walk_at "put"
  refine l_at (xs := #[v0, v1]) (by assumption) (lpH _) (by omega) (by omega) (v := v0) (by rfl) ?_
  repeat walk_at "go"
  walk_at "part"
  refine l_at (xs := #[v0, v1]) (by assumption) (lpH _) (by omega) (by omega) (v := v1) (by rfl) ?_
  repeat walk_at "go"
  refine s_part (gs := [g]) G (D1.a1.mono fun a c z => fzHas z (.head _)) (D5.pa.mono fun a c z => fzHas z (.head _)) (by have := D5.ln; omega) D5.at_ (by assumption) R.le fun v h' t' hv H => ?_
  repeat walk_at "go"
  refine s_put (gs := [g]) G 3 D1.o0.ok (D1.a0.mono fun a c z => fzHas z (.head _)) hv (D7.pa.mono fun a c z => fzHas z (.head _)) (by omega) hk H R.le fun P g' h' t' hP hg' H => ?_
  have H : Kn g0 [g'] ((stA, sv) :: E.cells m (some (.ref stA)) (some (.ref lp)) o3 o4 (some pv) o6 o7 o8 none X) h' := H.gsub fun x hx => by cases List.mem_singleton.mp hx; exact .head _
  repeat walk_at "go"
  rename_i H
  exact ⟨rfl, P, g', _, _, rfl, hg' g (.head _), hP, H⟩
/-- 16: what the first tree is now -/
theorem st16 (G : Gl w g0) {E : LawEnv} {st : Stmt} {nm : List (Str × NameKind)} (hst : (lawBody w)[16]? = some st) (hnm : lawNames w = nm) (e : EnvIs env E.L nm E.cl) (R : Rm A 400) {m : Str → Option Value} {g : Heap} {stA il lp lt : Addr} {ys : Array Value} {v0 v1 Pv : Value} {sv : Cel} {p0 p1 P : Plan} {o4 o5 o6 o7 o8 : Option Value} {T0 T1 U N F' B : Tr} {π : List Nat} {i : Nat} {Y : List (Addr × Cel)}
    (D1 : D1 g il lp ys v0 v1 p0 p1) (hlt : Fz g lt (.lst #[.ref T0.x, .ref T1.x])) (D8 : D8 N T0 U F' P π i) (hB : B.Ok p0) (hBz : ∀ z ∈ B.cells, Fz g z.1 z.2) (hPv : PlanAt (Fz g) P Pv) (hmb : m "before" = some (.ref B.x)) (hmp : m "plan" = some Pv)
    (H : Kn g0 [g] ((stA, sv) :: E.cells m (some (.ref stA)) (some (.ref lp)) (some (.ref lt)) o4 o5 o6 o7 o8 none (N.cells ++ Y)) h) :
    wpAny (model Pg w) A (exec st env) (fun f s => f = .next ∧ ∃ (h' : Heap) (t' : Nat), s = S r h' t' ∧
      Kn g0 [g] ((stA, sv) :: E.cells m (some (.ref stA)) (some (.ref lp)) (some (.ref lt)) o4 o5 o6 o7 o8 none (N.cells ++ Y)) h') NoE (S r h t) := by
  obtain rfl : _ = st := Option.some.inj ((show (lawBody w)[16]? = some _ from rfl).symm.trans hst)
  obtain rfl : _ = nm := (show lawNames w = _ from rfl).symm.trans hnm
  clear hst
  have hu := (R.le (k := 10)).u64
  have hlp := D1.lp
  rw [← D8.x] at hlt
  have ltH : ∀ gs cs, g ∈ gs → Has gs cs lt (.lst #[.ref N.x, .ref T1.x]) := fun gs cs hg => fzHas hlt hg
  have lpH : ∀ gs cs, g ∈ gs → Has gs cs lp (.lst #[v0, v1]) := fun gs cs hg => fzHas hlp hg
  have hNX : ∀ gs, Kns gs (N.cells ++ Y) N.cells := fun gs z hz => .inl (List.mem_append_left _ hz)
  have hNc : ∀ gs l, Kns gs (l ++ (N.cells ++ Y)) N.cells := fun gs l => (hNX gs).mono (fun _ z => z) fun _ z => List.mem_append_right _ z
  have hBc : ∀ gs cs, g ∈ gs → Kns gs cs B.cells := fun gs cs hg z hz => fzHas (hBz z hz) hg
  repeat walk_at "go"
  refine bt_or3 ?_
  repeat walk_at "go"
  refine l_at (xs := #[.ref N.x, .ref T1.x]) (by assumption) (ltH _ _ (.head _)) (by omega) (by omega) (v := .ref N.x) (by rfl) ?_
  repeat walk_at "go"
  refine s_eq G (d := 6) D8.okP D8.ok hB (hNc _ [(stA, _), (E.L, _), (E.c1, _), (E.c2, _), (E.c3, _), (E.c4, _), (E.c5, _), (E.c6, _), (E.c7, _), (E.c8, _), (E.c9, _)]) (hBc _ _ (.head _)) (by assumption) R.le fun h' t' H => ?_
  have H : Kn g0 [g] ((stA, sv) :: E.cells m (some (.ref stA)) (some (.ref lp)) (some (.ref lt)) o4 o5 o6 o7 o8 none (N.cells ++ Y)) h' := H
  repeat walk_at "go"
  walk_at "told"
  refine s_told G 6 (by decide) D8.okP (hPv.mono fun a c z => fzHas z (.head _)) (by assumption) R.le fun vt1 g1 h' t' hvt1 hg1 H => ?_
  repeat walk_at "go"
  walk_at "told"
  refine l_at (xs := #[v0, v1]) (by assumption) (lpH _ _ (.tail _ (.head _))) (by omega) (by omega) (v := v0) (by rfl) ?_
  repeat walk_at "go"
  refine s_told G 3 (by decide) D1.o0.ok (D1.a0.mono fun a c z => fzHas z (.tail _ (.head _))) (by assumption) R.le fun vt2 g2 h' t' hvt2 hg2 H => ?_
  refine i_eqTold H (.tail _ (.head _)) (.head _) hvt1 hvt2 D8.okP D1.o0.ok (by decide) (by decide) D8.wd D1.o0.wd hu ?_
  refine i_neBool hu ?_
  rw [beq_self_eq_true]
  repeat walk_at "go"
  refine ⟨rfl, ?_⟩
  have H : Kn g0 [g] ((stA, sv) :: E.cells m (some (.ref stA)) (some (.ref lp)) (some (.ref lt)) o4 o5 o6 o7 o8 none (N.cells ++ Y)) h' := H.gsub fun x hx => by cases List.mem_singleton.mp hx; exact .tail _ (.tail _ (.head _))
  repeat walk_at "go"
  refine l_at (xs := #[.ref N.x, .ref T1.x]) (by assumption) (ltH _ _ (.head _)) (by omega) (by omega) (v := .ref N.x) (by rfl) ?_
  repeat walk_at "go"
  walk_at "made"
  refine s_made (gs := [g]) G 6 D8.okP (hPv.mono fun a c z => fzHas z (.head _)) (by assumption) R.le fun M h' t' hM1 hM2 hM3 hM4 H => ?_
  refine s_ne G (d := 6) D8.okP D8.ok hM1 ((hNc _ [(stA, _), (E.L, _), (E.c1, _), (E.c2, _), (E.c3, _), (E.c4, _), (E.c5, _), (E.c6, _), (E.c7, _), (E.c8, _), (E.c9, _)]).mono (fun _ z => z) fun _ z => List.mem_append_right _ z) (fun z hz => .inl (List.mem_append_left _ hz)) H R.le fun h' t' H => ?_
  rw [Plan.same_refl]
  repeat walk_at "go"
  refine ⟨rfl, ?_⟩
  have H : Kn g0 [g] ((stA, sv) :: E.cells m (some (.ref stA)) (some (.ref lp)) (some (.ref lt)) o4 o5 o6 o7 o8 none (N.cells ++ Y)) h' := H.sub (List.sublist_append_right _ _)
  repeat walk_at "go"
  walk_at "str"
  refine l_at (xs := #[.ref N.x, .ref T1.x]) (by assumption) (ltH _ _ (.head _)) (by omega) (by omega) (v := .ref N.x) (by rfl) ?_
  repeat walk_at "go"
  refine s_str G 6 (by decide) D8.okP D8.ok (hNc _ [(stA, _), (E.L, _), (E.c1, _), (E.c2, _), (E.c3, _), (E.c4, _), (E.c5, _), (E.c6, _), (E.c7, _), (E.c8, _), (E.c9, _)]) (by assumption) R.le fun tk1 h' t' H => ?_
  have H : Kn g0 [g] ((stA, sv) :: E.cells m (some (.ref stA)) (some (.ref lp)) (some (.ref lt)) o4 o5 o6 o7 o8 none (N.cells ++ Y)) h' := H
  repeat walk_at "go"
  walk_at "text"
  refine s_text G 6 (by decide) D8.okP (hPv.mono fun a c z => fzHas z (.head _)) H R.le fun tk2 h' t' H => ?_
  refine i_neStr ?_
  repeat walk_at "go"
  refine ⟨fun q => (by cases q), fun _ => ?_⟩
  repeat walk_at "go"
  exact ⟨rfl, _, _, rfl, H⟩
end
section
variable {w : World} {g0 h : Heap} {gs : List Heap} {cs : List (Addr × Cel)} {r : Shared} {t n : Nat} {A : Around} {env : Env} {E : Value → Shared → Prop}
theorem adj_to (k n : Nat) (hk : k ≤ n) : Builtin.Slice.sliceAdjust none (some (k : Int)) 1 (n : Int) = (0, (k : Int)) := by
  simp [Builtin.Slice.sliceAdjust]; omega
theorem pl_to (k : Nat) : Builtin.Slice.slicePlaces 0 (k : Int) 1 = k := by
  simp [Builtin.Slice.slicePlaces]; omega
theorem applied_to {s : Shared} {sl : Addr} {k n : Nat} {u : Tok} {Q : Int × Int × Nat → Shared → Prop} {E : Value → Shared → Prop} (hs : s.heap.IsSliceOf sl .none (.int k u) .none) (hk : k ≤ n) (q : Q (0, 1, k) s) :
    wpAny (model Pg w) A (Builtin.Slice.sliceApplied (.ref sl) (pure (n : Int))) Q E s := by
  obtain ⟨os, hos, hcs, hds⟩ := id hs
  unfold Builtin.Slice.sliceApplied Builtin.Slice.sliceFields
  refine wpAny_bind (wpAny_bind (wpAny_field hos hds (x := .none) rfl (wpAny_bind (wpAny_field hos hds (x := .int k u) rfl (wpAny_bind (wpAny_field hos hds (x := .none) rfl (wpAny_pure ?_)))))))
  refine wpAny_bind (slicePart_none ?_)
  show wpAny _ _ (if ((1 : Int) == 0) = true then _ else _) _ _ s
  rw [if_neg (by decide)]
  refine wpAny_bind (slicePart_none (wpAny_bind (slicePart_int (wpAny_bind (wpAny_pure ?_)))))
  show wpAny _ _ (match Builtin.Slice.sliceAdjust none (some (k : Int)) 1 (n : Int) with | (lo, hi) => pure (lo, (1 : Int), Builtin.Slice.slicePlaces lo hi 1)) _ _ s
  rw [adj_to k n hk]
  show wpAny _ _ (pure ((0 : Int), (1 : Int), Builtin.Slice.slicePlaces 0 (k : Int) 1)) _ _ s
  rw [pl_to k]
  exact wpAny_pure q
theorem pick_to (xs : Array Value) (k : Nat) : ((List.range k).filterMap fun (j : Nat) => xs[((0 : Int) + (j : Int) * 1).toNat]?).toArray = (xs.toList.take k).toArray := by
  have e : (fun (j : Nat) => xs[((0 : Int) + (j : Int) * 1).toNat]?) = fun j => xs.toList[j]? := by
    funext j
    have : ((0 : Int) + (j : Int) * 1).toNat = j := by omega
    rw [this, Array.getElem?_toList]
  rw [e]
  congr 1
  generalize xs.toList = l
  induction k with
  | zero => rfl
  | succ k ih =>
    rw [List.range_succ, List.filterMap_append, ih, List.take_add_one]
    congr 1
theorem tup_to {s : Shared} {t sl : Addr} {items : Array Value} {k : Nat} {u : Tok} {Q : Value → Shared → Prop} (ht : IsTup s.heap t items) (hs : s.heap.IsSliceOf sl .none (.int k u) .none) (hk : k < items.size) (hz : items.size ≤ 1000)
    (q : Q (.ref s.heap.objs.size) { s with heap := s.heap.push { cls := .type "tuple", data := .seq (items.toList.take k).toArray } }) : wpAny (model Pg w) A (getItem (.ref t) (.ref sl)) Q E s := by
  have htake : sizeOk (.seq (items.toList.take k).toArray) := by
    show (items.toList.take k).toArray.size ≤ sizeLine
    rw [List.size_toArray, List.length_take, sizeLine_eq]
    have : items.toList.length = items.size := Array.length_toList
    omega
  obtain ⟨os, hos, hcs, hds⟩ := id hs
  have hTs : s.TypeIs (.ref sl) "slice" := ⟨os, hos, hcs⟩
  unfold getItem
  try with_reducible refine wpAny_holding ?_
  first | refine wpAny_bind (wpAny_pure ?_) | skip
  refine wpAny_bind (wpAny_sequenceKey ht.typeIs (by decide) ?_)
  refine wpAny_bind (wpAny_callSpecial?_slot (name := Str.ofString "__getitem__") ht.typeIs slot_tuple_getitem
    (wpAny_call_entry slot_tuple_getitem ht.typeIs entry_tuple_getitem ?_ (args_tuple_getitem _ _)))
  show wpAny _ _ (Builtin.Tuple.tupleItemsOf (.ref t) >>= _) _ _ s
  refine wpAny_bind (tupleItemsOf_ ht ?_)
  refine wpAny_bind (wpAny_typeOf hTs ?_)
  rw [if_pos (by decide)]
  refine wpAny_bind (applied_to hs (Nat.le_of_lt hk) ?_)
  have hno : ¬ (((0 : Int) == 0 && (1 : Int) == 1 && k == items.size) = true) := by simp; omega
  show wpAny _ _ (if ((0 : Int) == 0 && (1 : Int) == 1 && k == items.size) = true then _ else _) _ _ s
  rw [if_neg hno, pick_to items k]
  first
    | exact wpAny_bind (m := Builtin.Tuple.tupleExact _) (wpAny_newObj_type (wpAny_pure ⟨_, rfl, wpAny_pure q⟩) htake)
    | exact wpAny_bind (m := Builtin.Tuple.tupleExact _) (wpAny_newObj_type (wpAny_bind (wpAny_pure (wpAny_pure ⟨_, rfl, wpAny_pure q⟩))) htake)
    | exact wpAny_bind (wpAny_bind (m := Builtin.Tuple.tupleExact _) (wpAny_newObj_type (wpAny_pure (wpAny_pure ⟨_, rfl, wpAny_pure q⟩)) htake))
    | exact wpAny_bind (wpAny_bind (m := Builtin.Tuple.tupleExact _) (wpAny_newObj_type (wpAny_pure ⟨_, rfl, wpAny_pure q⟩) htake))
theorem t_to {value slice : Expr} {l sl : Addr} {xs : Array Value} {k : Nat} {u : Tok} {Q : Value → Shared → Prop} {ops : List Value} (H : Kn g0 gs cs h) (hl : Has gs cs l (.tup xs))
    (hs : (sl, Cel.ob { cls := .type "slice", data := .fields #[.none, .int k u, .none] }) ∈ cs) (hk : k < xs.size) (hsz : xs.size ≤ 1000)
    (q : ∀ a h', Kn g0 gs ((a, .tup (xs.toList.take k).toArray) :: cs) h' → h.StaysIn h' → Q (.ref a) (S r h' t))
    (he : subscripted slice false (.ref l) (.ref sl) = operate ops (getItem (.ref l) (.ref sl)) := by with_unfolding_all rfl) :
    wpAny (model Pg w) A (subscriptTail value slice (.ref l) (.ref sl)) Q E (S r h t) :=
  tail_any (T := "tuple") (s := S r h t) (IsTup.typeIs (hl.at H)) slot_tuple_getitem.lookup (tup_to (s := S r h t) (hl.at H) ⟨_, H.ob hs, rfl, rfl⟩ hk hsz
    (q _ _ (H.push (c := .tup _) ⟨_, Heap.get?_push_size _ rfl, rfl, _, rfl⟩) fun b o e => Heap.get?_push_of_some _ e)) he
end
section
variable {w : World} {g0 h : Heap} {r : Shared} {t n : Nat} {A : Around} {env : Env}
/-- 17: whose child is whose -/
theorem st17 (G : Gl w g0) {E : LawEnv} {st : Stmt} {nm : List (Str × NameKind)} (hst : (lawBody w)[17]? = some st) (hnm : lawNames w = nm) (e : EnvIs env E.L nm E.cl) (R : Rm A 400) {m : Str → Option Value} {g : Heap} {stA lt : Addr} {sv : Cel} {P q : Plan} {o2 o4 o6 o7 o8 : Option Value} {T0 T1 U N F F' O' : Tr} {π : List Nat} {i : Nat} {pv : Value}
    (hlt : Fz g lt (.lst #[.ref T0.x, .ref T1.x])) (D8 : D8 N T0 U F' P π i) (D9 : D9 F F' U q) (hpv : PathAt (Fz g) pv (π ++ [i])) (hln : (π ++ [i]).length ≤ 3) (hOp : O'.m "parent" = some .none)
    (hmo : m "old" = some (.ref O'.x)) (hmu : m "up" = some (.ref U.x)) (hmf : m "fresh" = some (.ref F.x))
    (H : Kn g0 [g] ((stA, sv) :: E.cells m (some (.ref stA)) o2 (some (.ref lt)) o4 (some pv) o6 o7 o8 none (N.cells ++ O'.cells)) h) :
    wpAny (model Pg w) A (exec st env) (fun f s => f = .next ∧ ∃ (h' : Heap) (t' : Nat), s = S r h' t' ∧
      Kn g0 [g] ((stA, sv) :: E.cells m (some (.ref stA)) o2 (some (.ref lt)) o4 (some pv) o6 o7 o8 none (N.cells ++ O'.cells)) h') NoE (S r h t) := by
  obtain rfl : _ = st := Option.some.inj ((show (lawBody w)[17]? = some _ from rfl).symm.trans hst)
  obtain rfl : _ = nm := (show lawNames w = _ from rfl).symm.trans hnm
  clear hst
  have hu : A.units + 1 < cLine := by have := R.un; show A.units + 1 < 9900; omega
  rw [← D8.x] at hlt
  have ltH : ∀ gs cs, g ∈ gs → Has gs cs lt (.lst #[.ref N.x, .ref T1.x]) := fun gs cs hg => fzHas hlt hg
  obtain ⟨V, hV, hVmk, hVx, kv, hVk⟩ := D8.uat
  have hNX : Kns [g] (N.cells ++ O'.cells) N.cells := fun z hz => .inl (List.mem_append_left _ hz)
  have hNc : ∀ l, Kns [g] (l ++ (N.cells ++ O'.cells)) N.cells := fun l => hNX.mono (fun _ z => z) fun _ z => List.mem_append_right _ z
  have hOX : Kns [g] (N.cells ++ O'.cells) O'.cells := fun z hz => .inl (List.mem_append_right _ hz)
  have hVX := hNX.at hV
  have hFX := hNX.at D8.fat
  have ob1 := hOX.ins.ob
  have ns1 := hOX.ins.ns
  have ob2 := hVX.ins.ob
  have ns2 := hVX.ins.ns
  have ob3 := hFX.ins.ob
  have ns3 := hFX.ins.ns
  have okp1 := O'.own_parent w
  have okp2 := F'.own_parent w
  have okm1 := F'.own_mark w
  have okm2 := V.own_mark w
  have hpar := D9.par
  rw [← hVx] at hpar hmu
  rw [← D9.x] at hmf
  obtain ⟨mk1, md1, mc1, md1c⟩ := D9.ok.marks
  obtain ⟨mk2, md2, mc2, md2c⟩ := hVk.marks
  repeat walk_at "go"
  refine bt_or3 ?_
  repeat walk_at "go"
  refine ⟨rfl, ?_⟩
  repeat walk_at "go"
  walk_at "at"
  refine l_at (xs := #[.ref N.x, .ref T1.x]) (by assumption) (ltH _ _ (.head _)) (by omega) (by omega) (v := .ref N.x) (by rfl) ?_
  repeat walk_at "go"
  refine s_at G D8.ok (hNc [(stA, _), (E.L, _), (E.c1, _), (E.c2, _), (E.c3, _), (E.c4, _), (E.c5, _), (E.c6, _), (E.c7, _), (E.c8, _), (E.c9, _)]) (hpv.mono fun a c z => fzHas z (.head _)) (by omega) D8.fat (by assumption) R.le fun h' t' H => ?_
  have H : Kn g0 [g] ((stA, sv) :: E.cells m (some (.ref stA)) o2 (some (.ref lt)) o4 (some pv) o6 o7 o8 none (N.cells ++ O'.cells)) h' := H
  repeat walk_at "go"
  refine mark_ne G H ⟨by have := hFX _ mc1; walk_at "has", by have := hFX _ md1c; walk_at "has"⟩ hu ?_
  repeat walk_at "go"
  refine ⟨rfl, ?_⟩
  repeat walk_at "go"
  refine mark_ne G H ⟨by have := hVX _ mc2; walk_at "has", by have := hVX _ md2c; walk_at "has"⟩ hu ?_
  repeat walk_at "go"
  refine ⟨fun q => (by cases q), fun _ => ?_⟩
  repeat walk_at "go"
  exact ⟨rfl, _, _, rfl, H⟩
end
theorem All2.take {α β : Type} {R : α → β → Prop} : ∀ {l : List α} {m : List β}, All2 R l m → ∀ k, All2 R (l.take k) (m.take k)
  | [], [], _, _ => by simp; trivial
  | _ :: _, _ :: _, _, 0 => trivial
  | _ :: _, _ :: _, h, k + 1 => ⟨h.1, h.2.take k⟩
section
variable {w : World} {g0 h : Heap} {r : Shared} {t n : Nat} {A : Around} {env : Env}
/-- 18: around -/
theorem st18 (G : Gl w g0) {E : LawEnv} {st : Stmt} {nm : List (Str × NameKind)} (hst : (lawBody w)[18]? = some st) (hnm : lawNames w = nm) (e : EnvIs env E.L nm E.cl) (R : Rm A 400) {m : Str → Option Value} {g : Heap} {stA : Addr} {sv : Cel} {o2 o3 o4 o6 o7 o8 : Option Value} {X : List (Addr × Cel)} {π : List Nat} {i : Nat} {pv : Value}
    (hpv : PathAt (Fz g) pv (π ++ [i])) (hln : (π ++ [i]).length ≤ 3)
    (H : Kn g0 [g] ((stA, sv) :: E.cells m (some (.ref stA)) o2 o3 o4 (some pv) o6 o7 o8 none X) h) :
    wpAny (model Pg w) A (exec st env) (fun f s => f = .next ∧ ∃ (la : Value) (g' : Heap) (h' : Heap) (t' : Nat), s = S r h' t' ∧ g.StaysIn g' ∧ PathsAt (Fz g') la (pre [] π) ∧
      Kn g0 [g'] ((stA, sv) :: E.cells m (some (.ref stA)) o2 o3 o4 (some pv) o6 o7 o8 (some la) X) h') NoE (S r h t) := by
  obtain rfl : _ = st := Option.some.inj ((show (lawBody w)[18]? = some _ from rfl).symm.trans hst)
  obtain rfl : _ = nm := (show lawNames w = _ from rfl).symm.trans hnm
  clear hst
  rw [List.length_append, List.length_singleton] at hln
  obtain ⟨pa, pxs, rfl, hpa, hpxs⟩ := hpv
  have hpsz : pxs.size = π.length + 1 := by have := hpxs.len; simpa using this.symm
  refine x_asgC e (by exact rfl) ?_
  refine lc e (by assumption) (by exact rfl) (by exact rfl) (by exact rfl) (by exact rfl) (by exact rfl) (fun _ => rfl) ?_
  walk_at "range"
  walk_at "len"
  refine t_len (by assumption) (fzHas hpa (.head _)) (by omega) fun tn t' => ?_
  repeat walk_at "go"
  rw [hpsz]
  refine rg_call (by assumption) fun ra t1 t2 h' t' H hs => ?_
  refine rg_iter (n := π.length + 1) H (.head _) (by omega) fun I h' H hs => ?_
  refine ⟨[g], _, h', t', rfl, H, fun A' h3 t3 Q E k q => itself_rit H (.head _) k q, ?_⟩
  intro acc C as env' h3 t3 has e' hs3 H
  match as, has with
  | [], _ =>
  obtain ⟨g1, _, f2, _, H⟩ := Kn.freeze (c1 := []) H
  refine comp_src (σ := Unit) (csf := fun _ => (ra, .ob (rng 0 ((π.length + 1 : Nat) : Int) 1 t1 tn t2)) :: (stA, sv) :: E.cells m (some (.ref stA)) o2 o3 o4 (some (.ref pa)) o6 o7 o8 none X)
    (J := fun j _ g2 ws => g.StaysIn g2 ∧ All2 (fun ρ v => PathAt (Fz g2) v ρ) ((pre [] π).take j) ws) (K := fun _ => True)
    (src_range R.hd I (π.length + 1)) (by rw [sizeLine_eq]; omega) (by exact rfl) (by exact rfl) (fun _ _ _ _ _ _ _ => trivial) (fun _ _ _ _ _ _ _ _ q => go_name q) ?_ ?_
    (π.length + 1) 0 g1 () [] _ h3 t3 rfl (Nat.zero_le _) ⟨f2 g (.head _), trivial⟩ rfl H
  · rintro j x g2 σ ws mC h t hj ⟨tx, rfl⟩ ⟨hgg, hJ⟩ hlz H
    repeat walk_at "go"
    refine ⟨_, _, _, _, rfl, by assumption, fun sl h' H hs => ?_⟩
    repeat walk_at "go"
    refine t_to (xs := pxs) (k := j) H (fzHas hpa (by simp)) (.head _) (by omega) (by omega) fun a h' H hs => ?_
    obtain ⟨g4, f1, f2, f3, H⟩ := Kn.freeze (c1 := [(a, _)]) H
    refine ⟨g4, (), _, _, _, rfl, (H.gsub (gs' := [g4, g]) (fun x hx => by simp at hx ⊢; rcases hx with rfl | rfl <;> simp)).drop, fun b o z => f2 g2 (.head _) b o (hgg b o z), ?_⟩
    have hpr : (pre [] π)[j]? = some ((π ++ [i]).take j) := by
      unfold pre
      rw [List.getElem?_map, List.getElem?_range (by omega)]
      show some ([] ++ π.take j) = _
      rw [List.nil_append, List.take_append_of_le_length (by omega)]
    obtain ⟨hi', he⟩ := List.getElem?_eq_some_iff.mp hpr
    rw [List.take_succ_eq_append_getElem hi', he]
    exact (hJ.mono fun ρ v z => z.mono fun b o z => Cel.At.mono (f2 g2 (.head _) b) z).snoc ⟨a, _, rfl, f1 _ (.head _), by rw [List.toList_toArray]; exact hpxs.take j⟩
  · rintro g2 σ ws mC h t ⟨hgg, hJ⟩ hlz H
    refine ⟨⟨_, rfl⟩, _, _, _, _, _, rfl, H, fun h H => ?_⟩
    rw [List.take_of_length_le (by unfold pre; simp)] at hJ
    repeat walk_at "go"
    rename_i H
    obtain ⟨g4, f1, f2, f3, f4⟩ := Kn.freeze (c1 := [(acc, .lst ws.toArray)]) (H.pick (cs' := (acc, .lst ws.toArray) :: (stA, sv) :: E.cells m (some (.ref stA)) o2 o3 o4 (some (.ref pa)) o6 o7 o8 (some (.ref acc)) X) (by walk_at "pick"))
    exact ⟨rfl, .ref acc, g4, _, _, rfl, f2 g (.tail _ (.head _)), ⟨acc, ws.toArray, rfl, f1 _ (.head _), hJ.mono fun ρ v z => z.mono fun b o z => Cel.At.mono (f2 g2 (.head _) b) z⟩, f4.gsub fun x hx => by cases List.mem_singleton.mp hx; exact .head _⟩
end
section
variable {w : World} {g0 h : Heap} {r : Shared} {t n : Nat} {A : Around} {env : Env}
theorem e_and {x y : Expr} {pos : Pos} {Q : Value → Shared → Prop} {E : Value → Shared → Prop} {s : Shared}
    (k : wpAny (model Pg w) A (eval x env) (fun v s₁ => v = .bool true ∧ wpAny (model Pg w) A (eval y env) Q E s₁) E s) : wpAny (model Pg w) A (eval (.BoolOp .And [x, y] pos) env) Q E s :=
  wpAny_And2 (wpAny_mono k (fun v s₁ q => by obtain ⟨rfl, q⟩ := q; exact tr_bool q) fun _ _ q => q)
theorem rd_bools {g : Heap} {a : Addr} {l : List Bool} (x : g.IsList a (l.map Value.bool).toArray) : RdV g (.ref a) (.list (l.map PyData.bool)) := by
  refine rd_list x ?_
  rw [List.toList_toArray]
  clear x
  induction l with
  | nil => trivial
  | cons b l ih => exact ⟨⟨_, .bool b⟩, ih⟩
/-- 19: the answer -/
theorem st19 (G : Gl w g0) {E : LawEnv} {st : Stmt} {nm : List (Str × NameKind)} (hst : (lawBody w)[19]? = some st) (hnm : lawNames w = nm) (e : EnvIs env E.L nm E.cl) (R : Rm A 400) {m : Str → Option Value} {g : Heap} {stA lt : Addr} {sv : Cel} {o2 o4 o5 o6 o7 o8 : Option Value} {p0 p1 P : Plan} {T0 T1 U N F' B : Tr} {Y : List (Addr × Cel)} {π : List Nat} {i : Nat} {la Pv : Value}
    (D2 : D2 g lt T0 T1 p0 p1) (hp0 : PlanOk p0) (hp1 : PlanOk p1) (D8 : D8 N T0 U F' P π i) (hla : PathsAt (Fz g) la (pre [] π)) (hB : B.Ok p0) (hBC : B.Calm) (hBz : ∀ z ∈ B.cells, Fz g z.1 z.2) (hPv : PlanAt (Fz g) P Pv) (hln : (π ++ [i]).length ≤ 3)
    (hmb : m "before" = some (.ref B.x)) (hmp : m "plan" = some Pv)
    (H : Kn g0 [g] ((stA, sv) :: E.cells m (some (.ref stA)) o2 (some (.ref lt)) o4 o5 o6 o7 o8 (some la) (N.cells ++ Y)) h) :
    wpAny (model Pg w) A (exec st env) (fun f s => f = .ret (.bool true) ∧ ∃ (h' : Heap) (t' : Nat), s = S r h' t' ∧ g0.StaysIn h') NoE (S r h t) := by
  obtain rfl : _ = st := Option.some.inj ((show (lawBody w)[19]? = some _ from rfl).symm.trans hst)
  obtain rfl : _ = nm := (show lawNames w = _ from rfl).symm.trans hnm
  clear hst
  have hu := (R.le (k := 10)).u64
  have hlt := D2.lt
  have hlt2 := D2.lt
  rw [← D8.x] at hlt
  have ltH : ∀ gs cs, g ∈ gs → Has gs cs lt (.lst #[.ref N.x, .ref T1.x]) := fun gs cs hg => fzHas hlt hg
  have hNc : ∀ gs l, Kns gs (l ++ (N.cells ++ Y)) N.cells := fun gs l z hz => .inl (List.mem_append_right _ (List.mem_append_left _ hz))
  have hBc : ∀ gs cs, g ∈ gs → Kns gs cs B.cells := fun gs cs hg z hz => fzHas (hBz z hz) hg
  have hTc : ∀ gs cs, g ∈ gs → Kns gs cs T1.cells := fun gs cs hg z hz => fzHas (D2.f1 z hz) hg
  have hPl := Plan.paths_len (π := []) D8.okP
  repeat walk_at "go"
  refine e_and ?_
  repeat walk_at "go"
  walk_at "changed"
  refine l_at (xs := #[.ref N.x, .ref T1.x]) (by assumption) (ltH _ _ (.head _)) (by omega) (by omega) (v := .ref N.x) (by rfl) ?_
  repeat walk_at "go"
  refine s_changed G 6 (by decide) D8.okP D8.ok D8.fl (hNc _ [(stA, _), (E.L, _), (E.c1, _), (E.c2, _), (E.c3, _), (E.c4, _), (E.c5, _), (E.c6, _), (E.c7, _), (E.c8, _), (E.c9, _)]) (by assumption) R.le fun fa g1 h' t' hfa hg1 H => ?_
  have H : Kn g0 [g1, g] ((stA, sv) :: E.cells m (some (.ref stA)) o2 (some (.ref lt)) o4 o5 o6 o7 o8 (some la) (N.cells ++ Y)) h' := H
  repeat walk_at "go"
  refine lc e (by assumption) (by exact rfl) (by exact rfl) (by exact rfl) (by exact rfl) (by exact rfl) (fun _ => rfl) ?_
  walk_at "paths"
  refine ⟨by show 0 ≤ _; omega, _, _, _, _, rfl, by assumption, fun te h' H hs => ?_⟩
  repeat walk_at "go"
  obtain ⟨g2, f1, f2, f3, H⟩ := Kn.freeze (c1 := [(te, _)]) H
  refine s_paths G 6 (by decide) D8.okP (hPv.mono fun a c z => .inr ⟨g, .tail _ (.tail _ (.head _)), z⟩) (π := []) ⟨te, #[], rfl, .inr ⟨g2, .head _, f1 _ (.head _)⟩, trivial⟩ (by decide) H R.le fun v' g3 h' t' hv' hg3 H => ?_
  obtain ⟨lp, pvs, rfl, hlp, hpvs⟩ := hv'
  have H : Kn g0 [g3, g1, g] ((stA, sv) :: E.cells m (some (.ref stA)) o2 (some (.ref lt)) o4 o5 o6 o7 o8 (some la) (N.cells ++ Y)) h' := H.gsub fun x hx => by simp at hx ⊢; rcases hx with rfl | rfl | rfl <;> simp
  refine itL H (fzHas hlp (.head _)) fun I h' H hs => ?_
  refine ⟨[g3, g1, g], _, h', _, rfl, H, fun A' h3 t3 Q E k q => itself_lit H (.head _) k q, ?_⟩
  intro acc C as env' h3 t3 has e' hs3 H
  match as, has with
  | [], _ =>
  have H := H.withBase
  have hpsz : pvs.size = (P.paths []).length := by have := hpvs.len; simpa using this.symm
  refine comp_src (σ := Unit) (gs := [g3, g1, g]) (csf := fun _ => (stA, sv) :: E.cells m (some (.ref stA)) o2 (some (.ref lt)) o4 o5 o6 o7 o8 (some la) (N.cells ++ Y))
    (J := fun j _ g2 ws => g0 = g2 ∧ ws = (((P.paths []).take j).map fun ρ => (pre [] π).contains ρ).map Value.bool) (K := fun h => h.IsList lp pvs)
    (src_list R.hd I lp pvs) (by rw [sizeLine_eq]; omega) (by exact rfl) (by exact rfl) (fun _ _ σ _ _ _ H => Has.at (c := .lst pvs) H (fzHas hlp (.tail _ (.head _)))) (fun _ _ _ _ _ _ _ _ q => go_name q) ?_ ?_
    _ 0 g0 () [] _ h3 t3 rfl (Nat.zero_le _) ⟨rfl, rfl⟩ rfl H
  · rintro j y g5 σ ws mC h t hj hy ⟨rfl, rfl⟩ hlw H
    obtain ⟨ρ, hρ, hyρ⟩ := hpvs.get hy
    repeat walk_at "go"
    rename_i H
    refine i_inPaths H (.tail _ (.tail _ (.tail _ (.head _)))) hla (hyρ.mono fun a c z => fzHas z (.tail _ (.head _))) R.le ?_
    refine ⟨g0, (), _, _, _, rfl, H, rfl, ?_⟩
    obtain ⟨hi', he⟩ := List.getElem?_eq_some_iff.mp hρ
    rw [List.take_succ_eq_append_getElem hi', he, List.map_append, List.map_append]; rfl
  · rintro g5 σ ws mC h t ⟨rfl, rfl⟩ hlw H
    refine ⟨⟨_, rfl⟩, _, _, _, _, _, rfl, H, fun h H => ?_⟩
    rw [List.take_of_length_le (by omega)] at H
    obtain ⟨as1, r1⟩ := (rd_bools hfa).keeps (H.keep g1 (.tail _ (.tail _ (.head _))))
    obtain ⟨as2, r2⟩ := rd_bools (H.lst (.head _))
    refine eq_dataH (s := S r h t) r1 r2 (shaped_bools _) (shaped_bools _) hu ?_
    have heq : PyData.eqv (.list (((P.paths []).map fun ρ => (pre [] π).contains ρ).map PyData.bool)) (.list (((P.paths []).map fun ρ => (pre [] π).contains ρ).map PyData.bool)) = true := by
      show PyData.eqvAll _ _ = true
      rw [eqv_bools, beq_self_eq_true]
    rw [heq]
    refine ⟨rfl, ?_⟩
    have H : Kn g0 [g] ((stA, sv) :: E.cells m (some (.ref stA)) o2 (some (.ref lt)) o4 o5 o6 o7 o8 (some la) (N.cells ++ Y)) h := H.drop.gsub fun x hx => by cases List.mem_singleton.mp hx; simp
    refine wpAny_UnaryOp ?_
    walk_at "any"
    walk_at "changed"
    refine l_at (xs := #[.ref N.x, .ref T1.x]) (by assumption) (ltH _ _ (.head _)) (by omega) (by omega) (v := .ref T1.x) (by rfl) ?_
    repeat walk_at "go"
    refine s_changed G 3 (by decide) hp1.ok D2.k1 (flags_calm D2.k1 D2.c1 [] (f := fun _ => false) fun _ _ => rfl) (hTc _ _ (.head _)) (by assumption) R.le fun fb g6 h' t' hfb hg6 H => ?_
    repeat walk_at "go"
    walk_at "changed"
    refine s_changed G 3 (by decide) hp0.ok hB (flags_calm hB hBC [] (f := fun _ => false) fun _ _ => rfl) (hBc _ _ (.tail _ (.head _))) (by assumption) R.le fun fc g7 h' t' hfc hg7 H => ?_
    repeat walk_at "go"
    refine b_addL H (Has.at (c := .lst _) H (fzHas hfb (.tail _ (.head _)))) (Has.at (c := .lst _) H (fzHas hfc (.head _))) (by have h1 := hp0.paths_le; have h2 := hp1.paths_le; simp; omega) fun a h' H hs => ?_
    repeat walk_at "go"
    refine s_any (bs := ((p1.paths []).map fun _ => false) ++ ((p0.paths []).map fun _ => false)) R.hd H (.inl (by
      rw [List.map_append, List.append_toArray]; exact .head _)) fun h' t' H => ?_
    refine not_value ?_
    rw [show (((p1.paths []).map fun _ => false) ++ ((p0.paths []).map fun _ => false)).any id = false by simp]
    repeat walk_at "go"
    exact ⟨rfl, _, _, rfl, H.base⟩
end
section
variable {w : World} {g0 h : Heap} {gs : List Heap} {r : Shared} {t n : Nat} {A : Around} {env : Env}
theorem law_step {l : List Stmt} {k : Nat} (hk : k < l.length) {M : Shared → Prop} {Q : Flow → Shared → Prop} {s : Shared} (k1 : ∀ st, l[k]? = some st → wpAny (model Pg w) A (exec st env) (fun f s => f = .next ∧ M s) NoE s)
    (k2 : ∀ s', M s' → wpAny (model Pg w) A (execs (l.drop (k + 1)) env) Q NoE s') : wpAny (model Pg w) A (execs (l.drop k) env) Q NoE s := by
  rw [List.drop_eq_getElem_cons hk]
  exact x_seq (x_cut M (k1 _ (List.getElem?_eq_getElem hk)) k2)
theorem law_len (w : World) : (lawBody w).length = 20 := by rfl
/-- the law's body -/
theorem law_body (G : Gl w g0) {E : LawEnv} {Q : Value → Shared → Prop} (e : EnvIs env E.L (lawNames w) E.cl) (R : Rm A 400) {ls : Addr} {xs : Array Value} {m : Str → Option Value} (hm : m "script" = some (.ref ls)) (hl : Has gs [] ls (.lst xs)) (hx : ∀ (i : Nat) v, xs[i]? = some v → ∃ z tz, v = Value.int z tz) (hz : xs.size ≤ 63)
    (H : Kn g0 gs (E.cells m none none none none none none none none none []) h) (K : ∀ h' t', g0.StaysIn h' → Q (.bool true) (S (rg r .finished) h' t')) :
    wpAny (model Pg w) A (execs (lawBody w) env) (retQ Q) NoE (S r h t) := by
  have hn := law_len w
  have h0 : lawBody w = (lawBody w).drop 0 := rfl
  rw [h0]
  refine law_step (by omega) (fun st hst => st0 G hst rfl e hm hl hx hz H) ?_
  rintro _ ⟨g, il, stA, k, tk, ys, h, t, rfl, hI, hil, hk, H⟩
  refine law_step (by omega) (fun st hst => st1 G hst rfl e R hI hil hk H) ?_
  rintro _ ⟨g1, lp, k, tk, v0, v1, p0, p1, h, t, rfl, hil, hk, hlp, o0, o1, a0, a1, H⟩
  have D1 : D1 g1 il lp ys v0 v1 p0 p1 := ⟨hI, hil, hlp, o0, o1, a0, a1⟩
  refine law_step (by omega) (fun st hst => st2 G hst rfl e R D1 H) ?_
  rintro _ ⟨g2, lt, T0, T1, h, t, rfl, hg, D2, H⟩
  have D1 := D1.mono hg
  refine law_step (by omega) (fun st hst => st3 G hst rfl e R D1 H) ?_
  rintro _ ⟨g3, lq, q0, q1, h, t, rfl, hg, D3, H⟩
  have D1 := D1.mono hg
  have D2 := D2.mono hg
  refine law_step (by omega) (fun st hst => st4 G hst rfl e R D1 D2 D3 H) ?_
  rintro _ ⟨g4, lg, w0, w1, h, t, rfl, hg, D4, H⟩
  have D1 := D1.mono hg
  have D2 := D2.mono hg
  have D3 := D3.mono hg
  refine law_step (by omega) (fun st hst => st5 G hst rfl e R D1 D2 D4 H) ?_
  rintro _ ⟨o7, o8, h, t, rfl, H⟩
  refine law_step (by omega) (fun st hst => st6 G hst rfl e R D1 D3 hk H) ?_
  rintro _ ⟨pv, π, i, qk, k, tk, h, t, rfl, hk, hpv, hat, H⟩
  obtain ⟨k0, U, O, D7⟩ := D7.of D1 D2 hpv hat
  refine law_step (by omega) (fun st hst => st7 G hst rfl e R D1 D3 hk H) ?_
  rintro _ ⟨rv, ρ, q, k, tk, h, t, rfl, hk, hrv, hρ, H⟩
  obtain ⟨V, D5⟩ := D5.of D1 D2 hrv hρ
  refine law_step (by omega) (fun st hst => st8 G hst rfl e R D2 D5 (by exact rfl) H) ?_
  rintro _ ⟨F, h, t, rfl, D6, H⟩
  refine law_step (by omega) (fun st hst => st9 G hst rfl e R D1 D2 D5 D6 (by exact rfl) (by exact rfl) H) ?_
  rintro _ ⟨h, t, rfl, H⟩
  refine law_step (by omega) (fun st hst => st10 G hst rfl e R D2 D4 D1.o1 D5.ok D6 (by exact rfl) H) ?_
  rintro _ ⟨h, t, rfl, H⟩
  refine law_step (by omega) (fun st hst => st11 G hst rfl e R D2 D1.o0 H) ?_
  rintro _ ⟨B, g5, h, t, rfl, hg, hB, hBC, hBz, H⟩
  have D1 := D1.mono hg
  have D2 := D2.mono hg
  have D5 := D5.mono hg
  have D7 := D7.mono hg
  refine law_step (by omega) (fun st hst => st12 G hst rfl e R D2 D7 H) ?_
  rintro _ ⟨h, t, rfl, H⟩
  refine law_step (by omega) (fun st hst => st13 G hst rfl e R D7 (by exact rfl) H) ?_
  rintro _ ⟨h, t, rfl, H⟩
  refine law_step (by omega) (fun st hst => st14 G hst rfl e R D1.il D1.i60 hk D2 D6 D7 (by exact rfl) (by exact rfl) (by exact rfl) H) ?_
  rintro _ ⟨l', m', n', k, tk, h, t, rfl, hN, H⟩
  have D8 := D8.of D1 D2 D5 D6 D7 hN
  refine law_step (by omega) (fun st hst => st15 (lt := lt) G hst rfl e R D1 D5 D7 ⟨_, hat⟩ (by exact rfl) H) ?_
  rintro _ ⟨Pv, g6, h, t, rfl, hg, hPv, H⟩
  have D1 := D1.mono hg
  have D2 := D2.mono hg
  have D7 := D7.mono hg
  have hBz : ∀ z ∈ B.cells, Fz g6 z.1 z.2 := fun z hz => Cel.At.mono (hg _) (hBz z hz)
  refine law_step (by omega) (fun st hst => st16 G hst rfl e R D1 D2.lt D8 hB hBz hPv (by exact rfl) (by exact rfl) H) ?_
  rintro _ ⟨h, t, rfl, H⟩
  have hOx : (O.setN "parent" .none).x = O.x := Tr.put_x _ _ _
  have hOp : (O.setN "parent" .none).m "parent" = some .none := by rw [Tr.setN, Tr.put_m]; exact putAt_self _ _ _
  refine law_step (by omega) (fun st hst => st17 G hst rfl e R D2.lt D8 (D9.of D6) D7.pa D7.ln hOp (by rw [hOx]; exact rfl) (by exact rfl) (by exact rfl) H) ?_
  rintro _ ⟨h, t, rfl, H⟩
  refine law_step (by omega) (fun st hst => st18 G hst rfl e R D7.pa D7.ln H) ?_
  rintro _ ⟨la, g7, h, t, rfl, hg, hla, H⟩
  have D2 := D2.mono hg
  have hBz : ∀ z ∈ B.cells, Fz g7 z.1 z.2 := fun z hz => Cel.At.mono (hg _) (hBz z hz)
  have hPv := hPv.mono fun a c z => z.mono (hg a)
  rw [List.drop_eq_getElem_cons (show 19 < (lawBody w).length by omega)]
  refine x_seq (wpAny_mono (st19 G (List.getElem?_eq_getElem (by omega)) rfl e R D2 D1.o0 D1.o1 D8 hla hB hBC hBz hPv D7.ln (by exact rfl) (by exact rfl) H) (fun f s q => ?_) fun _ _ q => q)
  obtain ⟨rfl, h', t', rfl, hk⟩ := q
  exact K h' t' hk
/-- the law -/
theorem s_law (G : Gl w g0) {Q : Value → Shared → Prop} {ls : Addr} {xs : Array Value} (hl : Has gs [] ls (.lst xs)) (hx : ∀ (i : Nat) v, xs[i]? = some v → ∃ z tz, v = Value.int z tz) (hz : xs.size ≤ 63)
    (H : Kn g0 gs [] h) (R : Rm A 402) (K : ∀ h' t', g0.StaysIn h' → Q (.bool true) (S (rg r .finished) h' t')) :
    wpAny (model Pg w) A (call (.ref 439) [.ref ls]) Q NoE (S r h t) := by
  refine enterC G H R (n := 400) (cn := [Str.ofString "state", Str.ofString "plans", Str.ofString "trees", Str.ofString "places", Str.ofString "path", Str.ofString "things", Str.ofString "one", Str.ofString "told", Str.ofString "around"]) (binds := [(Str.ofString "script", .ref ls)]) (by exact rfl) (by exact rfl) (by exact rfl) (fun s _ => BindsTo.of_eq (by exact rfl)) (by exact rfl) (by exact rfl) (by exact rfl) (by exact rfl) (by exact rfl) (by exact rfl) (by exact rfl) ?_
  intro L as h₁ env A' A'' has e R R2 H hs' hL
  dsimp only at e
  match as, has with
  | [c1, c2, c3, c4, c5, c6, c7, c8, c9], _ =>
  have H : Kn g0 gs ((c1, .cell none) :: (c2, .cell none) :: (c3, .cell none) :: (c4, .cell none) :: (c5, .cell none) :: (c6, .cell none) :: (c7, .cell none) :: (c8, .cell none) :: (c9, .cell none) :: (L, .ns fun _ => none) :: []) h₁ := H
  have e : EnvIs env L _ (LawEnv.cl ⟨L, c1, c2, c3, c4, c5, c6, c7, c8, c9⟩) := e
  refine binds_cons (st_lo e H (by exact rfl) (by walk_at "up") fun h' t' H => ?_)
  refine binds_nil ⟨H.base, ?_⟩
  exact law_body (E := ⟨L, c1, c2, c3, c4, c5, c6, c7, c8, c9⟩) G e R (m := putAt (fun _ => none) "script" (.ref ls)) (by exact rfl) hl hx hz (H.pick (by walk_at "pick")) K
end
theorem ints_of : ∀ {vs : List Value} {ns : List Int}, IntsAre vs ns → ∀ (i : Nat) v, vs[i]? = some v → ∃ z tz, v = Value.int z tz
  | _, _, .nil, i, v, h => by simp at h
  | _, _, .cons n t hr, 0, v, h => by simp at h; exact ⟨n, t, h.symm⟩
  | _, _, .cons n t hr, i + 1, v, h => ints_of hr i v (by simpa using h)
theorem kn_start (h : Heap) : Kn h [h] [] h :=
  ⟨fun _ _ e => e, (fun _ hp => by cases hp), (fun g hg => by cases List.mem_singleton.mp hg; exact fun _ _ e => e), (fun _ hp => by cases hp), (fun _ hp => by cases hp), List.nodup_nil⟩
end Mine
theorem PySem.Challenge.cw_cu0001_01_holds : PySem.Challenge.rw_cu0001_01.Holds := by
  refine Mine.hd ?_
  intro w s₀ s₁ mg mb G Y fa o pm cd doc dV kV ho hd hcd hD hmg hg args vals as hpre hlay hrd hwl hlo
  have KX := kIn_of Y
  refine Ground.open G ?_
  intro T B D TE TW
  try (refine guard_noD D (by decide +kernel) ?_; clear D)
  wrow_args hpre hlay hrd hwl hlo
  rename_i ns _ _ _ _ _ _ _ l vs _ hL _ _ _ hI _ hlen _
  clear hd hcd hD ho Y
  have hmg : mg "law" = some (.ref fa) := hmg
  have e1 := mg_of KX T.g (show nsIn (Mine.KK w) mainGlobals "law" = some (some (.ref 439)) from rfl)
  rw [hmg] at e1
  obtain rfl : fa = 439 := by injection e1 with e1; injection e1
  have Gl : Mine.Gl w s₁.heap := ⟨KX, T.nolimit, mb, T.b, T.builtins⟩
  have hz : vs.length = ns.length := hI.length
  refine wpAny_mono (Mine.s_law (r := s₁) (t := s₁.toks) (A := callerA) (Q := fun v s' => v = .bool true ∧ ∃ h' t', s' = Mine.S (Mine.rg s₁ .finished) h' t' ∧ s₁.heap.StaysIn h') Gl (ls := l) (xs := vs.toArray) (.inr ⟨s₁.heap, .head _, hL⟩) (fun i v hv => Mine.ints_of hI i v (by simpa using hv)) (by simp; omega) (Mine.kn_start _) ⟨rfl, by decide, by decide⟩ fun h' t' hk => ⟨rfl, h', t', rfl, hk⟩) (fun v s' q => ?_) fun _ _ q => q.elim
  obtain ⟨rfl, h', t', rfl, hk⟩ := q
  refine ⟨.inl ⟨_, .bool true, [], rfl, fun _ => rfl, .bool true, ?_, ?_⟩, .of_keep hk, rfl, ?_⟩
  · wrow_post
  · exact fun _ => ⟨List.nodup_nil, fun _ h => by cases h⟩
  · exact (AllBare.of_eq hg).push rfl
