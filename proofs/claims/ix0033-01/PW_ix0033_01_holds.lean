import PyProof.Rows.All
import PyProof.ExcClass3
import PyProof.ExcBaseAll.Exception
import PyProof.ForAppend
import PyProof.SetKind
import PyProof.DictKinds
import PyProof.DictStraight
import PyProof.Cells
import KE.KBytesWalk
import PyProof.CompFree
import PyProof.AutoIntOps
import KE.KxBytes
import PyProof.ListIndexNeg
import PyProof.LetGo
import KE.KBytesCut
import PyProof.SetRoads
import PyProof.SetNew
import PyProof.NeKinds
import PyProof.EqKinds
import PyProof.Rows.RuleN_isinstance
import PyProof.GenArm
import PyProof.CodeObjX
import KE.KNest
import PyProof.DefMake
import PyProof.ListNew
import PyProof.RulesTry
import PyProof.ExcClass
import PyProof.Rows.SetObj
import PyProof.Rows.SeqMore
import PyProof.FString
import PyProof.ReprRoads
import PyProof.ReprLen
import PyProof.Rows.RuleU_int
import KE.KTypeOf
import KE.KSuperObj
import PyProof.TupleOfSeq
import PyProof.TupleCall
import PyProof.WalksMore
import PyProof.Rows.SortStr
import PyProof.DictCompW
import Wide.All
import OpenK.AllK
import Wide.FinOn
import PySem.Challenge.RW_ix0033_01
set_option Elab.async false
set_option linter.all false
set_option maxRecDepth 100000
set_option bootstrap.genMatcherCode false
set_option genSizeOf false
set_option genInjectivity false
set_option tactic.hygienic false
namespace Mine
open PySem PySem.Calls PySem.Spec PySem.W PySem.W.X PyProof.Rows
open PySem.Str (ofString)
open PySem renaming wpAny_bind -> wB, wpAny_pure -> wP
open PySem.Heap renaming get?_push_of_some -> gP
open _root_.List renaming mem_cons_of_mem -> mC
open _root_.Bool renaming false_ne_true -> fT
noncomputable abbrev VP := PySem.Value -> (Shared) -> Prop
section
theorem E02 {a b : Prop} {Q : Prop} (h : a /\ b) (i : a -> b -> Q) : Q := i h.1 h.2
theorem E03 {a b c : Prop} {Q : Prop} (h : a /\ b /\ c) (i : a -> b -> c -> Q) : Q := i h.1 h.2.1 h.2.2
theorem E04 {a b c d : Prop} {Q : Prop} (h : a /\ b /\ c /\ d) (i : a -> b -> c -> d -> Q) : Q := i h.1 h.2.1 h.2.2.1 h.2.2.2
theorem E05 {a b c d e : Prop} {Q : Prop} (h : a /\ b /\ c /\ d /\ e) (i : a -> b -> c -> d -> e -> Q) : Q := i h.1 h.2.1 h.2.2.1 h.2.2.2.1 h.2.2.2.2
theorem E07 {a b c d e f g : Prop} {Q : Prop} (h : a /\ b /\ c /\ d /\ e /\ f /\ g) (i : a -> b -> c -> d -> e -> f -> g -> Q) : Q := i h.1 h.2.1 h.2.2.1 h.2.2.2.1 h.2.2.2.2.1 h.2.2.2.2.2.1 h.2.2.2.2.2.2
theorem E11 {A : Sort _} {a : A -> Prop} {Q : Prop} (h : ∃ x, a x) (i : ∀ x, a x -> Q) : Q := h.elim fun x h => i x h
theorem E12 {A : Sort _} {a b : A -> Prop} {Q : Prop} (h : ∃ x, a x /\ b x) (i : ∀ x, a x -> b x -> Q) : Q := h.elim fun x h => i x h.1 h.2
theorem E13 {A : Sort _} {a b c : A -> Prop} {Q : Prop} (h : ∃ x, a x /\ b x /\ c x) (i : ∀ x, a x -> b x -> c x -> Q) : Q := h.elim fun x h => i x h.1 h.2.1 h.2.2
theorem E14 {A : Sort _} {a b c d : A -> Prop} {Q : Prop} (h : ∃ x, a x /\ b x /\ c x /\ d x) (i : ∀ x, a x -> b x -> c x -> d x -> Q) : Q := h.elim fun x h => i x h.1 h.2.1 h.2.2.1 h.2.2.2
theorem E21 {A B : Sort _} {a : A -> B -> Prop} {Q : Prop} (h : ∃ x y, a x y) (i : ∀ x y, a x y -> Q) : Q := h.elim fun x h => h.elim fun y h => i x y h
theorem E22 {A B : Sort _} {a b : A -> B -> Prop} {Q : Prop} (h : ∃ x y, a x y /\ b x y) (i : ∀ x y, a x y -> b x y -> Q) : Q := h.elim fun x h => h.elim fun y h => i x y h.1 h.2
theorem E23 {A B : Sort _} {a b c : A -> B -> Prop} {Q : Prop} (h : ∃ x y, a x y /\ b x y /\ c x y) (i : ∀ x y, a x y -> b x y -> c x y -> Q) : Q := h.elim fun x h => h.elim fun y h => i x y h.1 h.2.1 h.2.2
theorem E24 {A B : Sort _} {a b c d : A -> B -> Prop} {Q : Prop} (h : ∃ x y, a x y /\ b x y /\ c x y /\ d x y) (i : ∀ x y, a x y -> b x y -> c x y -> d x y -> Q) : Q := h.elim fun x h => h.elim fun y h => i x y h.1 h.2.1 h.2.2.1 h.2.2.2
theorem E26 {A B : Sort _} {a b c d e f : A -> B -> Prop} {Q : Prop} (h : ∃ x y, a x y /\ b x y /\ c x y /\ d x y /\ e x y /\ f x y) (i : ∀ x y, a x y -> b x y -> c x y -> d x y -> e x y -> f x y -> Q) : Q := h.elim fun x h => h.elim fun y h => i x y h.1 h.2.1 h.2.2.1 h.2.2.2.1 h.2.2.2.2.1 h.2.2.2.2.2
theorem E27 {A B : Sort _} {a b c d e f g : A -> B -> Prop} {Q : Prop} (h : ∃ x y, a x y /\ b x y /\ c x y /\ d x y /\ e x y /\ f x y /\ g x y) (i : ∀ x y, a x y -> b x y -> c x y -> d x y -> e x y -> f x y -> g x y -> Q) : Q := h.elim fun x h => h.elim fun y h => i x y h.1 h.2.1 h.2.2.1 h.2.2.2.1 h.2.2.2.2.1 h.2.2.2.2.2.1 h.2.2.2.2.2.2
theorem E32 {A B C : Sort _} {a b : A -> B -> C -> Prop} {Q : Prop} (h : ∃ x y z, a x y z /\ b x y z) (i : ∀ x y z, a x y z -> b x y z -> Q) : Q := h.elim fun x h => h.elim fun y h => h.elim fun z h => i x y z h.1 h.2
theorem E33 {A B C : Sort _} {a b c : A -> B -> C -> Prop} {Q : Prop} (h : ∃ x y z, a x y z /\ b x y z /\ c x y z) (i : ∀ x y z, a x y z -> b x y z -> c x y z -> Q) : Q := h.elim fun x h => h.elim fun y h => h.elim fun z h => i x y z h.1 h.2.1 h.2.2
theorem E34 {A B C : Sort _} {a b c d : A -> B -> C -> Prop} {Q : Prop} (h : ∃ x y z, a x y z /\ b x y z /\ c x y z /\ d x y z) (i : ∀ x y z, a x y z -> b x y z -> c x y z -> d x y z -> Q) : Q := h.elim fun x h => h.elim fun y h => h.elim fun z h => i x y z h.1 h.2.1 h.2.2.1 h.2.2.2
theorem E35 {A B C : Sort _} {a b c d e : A -> B -> C -> Prop} {Q : Prop} (h : ∃ x y z, a x y z /\ b x y z /\ c x y z /\ d x y z /\ e x y z) (i : ∀ x y z, a x y z -> b x y z -> c x y z -> d x y z -> e x y z -> Q) : Q := h.elim fun x h => h.elim fun y h => h.elim fun z h => i x y z h.1 h.2.1 h.2.2.1 h.2.2.2.1 h.2.2.2.2
theorem E36 {A B C : Sort _} {a b c d e f : A -> B -> C -> Prop} {Q : Prop} (h : ∃ x y z, a x y z /\ b x y z /\ c x y z /\ d x y z /\ e x y z /\ f x y z) (i : ∀ x y z, a x y z -> b x y z -> c x y z -> d x y z -> e x y z -> f x y z -> Q) : Q := h.elim fun x h => h.elim fun y h => h.elim fun z h => i x y z h.1 h.2.1 h.2.2.1 h.2.2.2.1 h.2.2.2.2.1 h.2.2.2.2.2
theorem E37 {A B C : Sort _} {a b c d e f g : A -> B -> C -> Prop} {Q : Prop} (h : ∃ x y z, a x y z /\ b x y z /\ c x y z /\ d x y z /\ e x y z /\ f x y z /\ g x y z) (i : ∀ x y z, a x y z -> b x y z -> c x y z -> d x y z -> e x y z -> f x y z -> g x y z -> Q) : Q := h.elim fun x h => h.elim fun y h => h.elim fun z h => i x y z h.1 h.2.1 h.2.2.1 h.2.2.2.1 h.2.2.2.2.1 h.2.2.2.2.2.1 h.2.2.2.2.2.2
theorem E41 {A B C D : Sort _} {a : A -> B -> C -> D -> Prop} {Q : Prop} (h : ∃ x y z u, a x y z u) (i : ∀ x y z u, a x y z u -> Q) : Q := h.elim fun x h => h.elim fun y h => h.elim fun z h => h.elim fun u h => i x y z u h
theorem E43 {A B C D : Sort _} {a b c : A -> B -> C -> D -> Prop} {Q : Prop} (h : ∃ x y z u, a x y z u /\ b x y z u /\ c x y z u) (i : ∀ x y z u, a x y z u -> b x y z u -> c x y z u -> Q) : Q := h.elim fun x h => h.elim fun y h => h.elim fun z h => h.elim fun u h => i x y z u h.1 h.2.1 h.2.2
theorem E44 {A B C D : Sort _} {a b c d : A -> B -> C -> D -> Prop} {Q : Prop} (h : ∃ x y z u, a x y z u /\ b x y z u /\ c x y z u /\ d x y z u) (i : ∀ x y z u, a x y z u -> b x y z u -> c x y z u -> d x y z u -> Q) : Q := h.elim fun x h => h.elim fun y h => h.elim fun z h => h.elim fun u h => i x y z u h.1 h.2.1 h.2.2.1 h.2.2.2
theorem E45 {A B C D : Sort _} {a b c d e : A -> B -> C -> D -> Prop} {Q : Prop} (h : ∃ x y z u, a x y z u /\ b x y z u /\ c x y z u /\ d x y z u /\ e x y z u) (i : ∀ x y z u, a x y z u -> b x y z u -> c x y z u -> d x y z u -> e x y z u -> Q) : Q := h.elim fun x h => h.elim fun y h => h.elim fun z h => h.elim fun u h => i x y z u h.1 h.2.1 h.2.2.1 h.2.2.2.1 h.2.2.2.2
theorem wpEq {α : Type} {M : Model} {A : Around} {x y : Sem α} {Q : α -> Shared -> Prop} {E : VP} {s : Shared} (h : x = y) (k : wpAny M A y Q E s) : wpAny M A x Q E s := h ▸ k
noncomputable def Sim (o o' : Obj) : Prop := o'.cls = o.cls /\ o'.dict = o.dict /\ o'.data = o.data /\ (o.cls = .type "frame" \/ o'.slots = o.slots)
theorem Sim.refl (o : Obj) : Sim o o := ⟨rfl, rfl, rfl, .inr rfl⟩
theorem Sim.trans {a b c : Obj} (x : Sim a b) (y : Sim b c) : Sim a c :=
 ⟨y.1.trans x.1, y.2.1.trans x.2.1, y.2.2.1.trans x.2.2.1, by
  rcases x.2.2.2 with h | h
  ·exact .inl h
  ·rcases y.2.2.2 with k | k
   ·exact .inl (x.1 ▸ k)
   ·exact .inr (k.trans h)⟩
theorem Sim.eq {o o' : Obj} (x : Sim o o') (h : o.cls ≠ .type "frame") : o' = o := by
 refine E04 x ?_; clear x; intro a b c d
 rcases d with d | d
 ·exact absurd d h
 ·cases o; cases o'; simp_all
structure Cx where
 prog : Program
 w : World
 h₁ : Heap
 tabs : List (Addr × Addr)
 mg : Str -> Option Value
 mb : Str -> Option Value
 ip : Pos
 iq : Str
noncomputable def Cx.T (C : Cx) : List Addr := C.tabs.map (·.2)
noncomputable def bmB : List Value := [.type "Exception", .type "BaseException", .type "object"]
noncomputable def C58 (o : Obj) : Prop := ∃ nm q bs hdct sn sub ab col dd k0 k1 k2 k3 k5, o = excClassObj nm q 58 57 bs (.ref 45 :: bmB) hdct sn sub ab col dd k0 k1 k2 k3 k5 "Exception.__new__"
structure Pe (h : Heap) : Prop where
 c58 : ∃ o, h.get? 58 = some o /\ C58 o
 n57 : ∃ m, h.Ns 57 m /\ m "__init__" = none
 c45 : ∃ c0 dd cd sl, h.get? 45 = some { cls := c0, dict := dd, data := .cls cd, slots := sl } /\ cd.ns = 44
 n44 : ∃ m, h.Ns 44 m /\ m "__init__" = none
noncomputable def CodeC (h : Heap) (cv : Value) (q : Str) : Prop := ∃ c o vs t, cv = .ref c /\ h.get? c = some o /\ o.cls = .type "code" /\ o.data = .fields vs /\ vs[1]? = some (.str q t)
theorem CodeC.rec {h : Heap} {cv : Value} {q : Str} (x : CodeC h cv q) : h.CodeRec cv q := let ⟨c, o, vs, t, a, b, _, d, e⟩ := x; ⟨c, o, vs, t, a, b, d, e⟩
structure Base (C : Cx) (h : Heap) : Prop where
 old : ∀ a o, C.h₁.get? a = some o -> a ∉ C.T -> h.get? a = some o
 tab : ∀ p ∈ C.tabs, ∃ ps, h.IsCode p.1 p.2 ps /\ h.get? p.2 = some { cls := .none, data := .fields ps } /\
  (∃ ps0 more, C.h₁.get? p.2 = some { cls := .none, data := .fields ps0 } /\ ps = ps0 ++ more) /\ ∀ cv, codeAmong C.ip ps.toList = some cv -> CodeC h cv C.iq
structure Cx.Ok (C : Cx) : Prop where
 base : Base C C.h₁
 gns : C.h₁.Ns 3 C.mg
 bns : C.h₁.Ns 0 C.mb
 lim : C.h₁.NoLimit
 t3 : (3 : Addr) ∉ C.T
 t0 : (0 : Addr) ∉ C.T
 t2 : (2 : Addr) ∉ C.T
 code : ∀ p ∈ C.tabs, p.1 ∉ C.T
 pe : Pe C.h₁
 tpe : ∀ a ∈ ([44, 45, 57, 58] : List Addr), a ∉ C.T
 bim : ∃ bm ob, C.mg "__builtins__" = some (.ref bm) /\ bm ≠ builtinsNs /\ bm ∉ C.T /\ C.h₁.get? bm = some ob /\ ob.cls = .type "module" /\ ob.dict = some builtinsNs /\ ob.data = .plain
 tcl : ∀ p ∈ C.tabs, ∃ o vs, C.h₁.get? p.1 = some o /\ o.cls = .type "code" /\ o.data = .fields vs /\ vs[11]? = some (.ref p.2)
 tne : ∀ p ∈ C.tabs, ∀ p' ∈ C.tabs, p'.2 = p.2 -> p' = p
noncomputable def NotRec (d : Data) : Prop := ∀ vs, d ≠ .fields vs
structure Ev (C : Cx) (W : Addr -> Prop) (G : Nat -> Prop) (s s' : Shared) : Prop where
 kp : ∀ a o, s.heap.get? a = some o -> ¬ W a -> a ∉ C.T -> ∃ o', s'.heap.get? a = some o' /\ Sim o o'
 al : ∀ a o, s.heap.get? a = some o -> ∃ o', s'.heap.get? a = some o' /\ o'.cls = o.cls /\ (NotRec o.data -> NotRec o'.data)
 gk : ∀ i g, s.gens[i]? = some g -> ¬ G i -> s'.gens[i]? = some g
 gz : s.gens.size <= s'.gens.size
 bs : Base C s.heap -> Base C s'.heap
 os : s'.os = s.os
 br : AllBare s.gens -> AllBare s'.gens
noncomputable def No {α : Type} : α -> Prop := fun _ => False
variable {C : Cx} {W W' : Addr -> Prop} {G G' : Nat -> Prop} {s s' s'' : Shared}
theorem Ev.refl : Ev C W G s s := ⟨fun _ o e _ _ => ⟨o, e, .refl o⟩, fun _ o e => ⟨o, e, rfl, id⟩, fun _ _ e _ => e, Nat.le_refl _, id, rfl, id⟩
theorem Ev.trans (x : Ev C W G s s') (y : Ev C W' G' s' s'') (hw : ∀ a, W' a -> W a \/ s.heap.get? a = none) (hg : ∀ i, G' i -> G i \/ s.gens.size <= i) : Ev C W G s s'' where
 kp := fun a o e hn ht => by
  refine E12 (x.kp a o e hn ht) fun o' e' q => ?_
  refine E12 (y.kp a o' e' (fun h => (hw a h).elim hn fun z => by rw [e] at z; cases z) ht) fun o'' e'' q' => ?_
  exact ⟨o'', e'', q.trans q'⟩
 al := fun a o e => by
  refine E13 (x.al a o e) fun o' e' q1 q2 => ?_
  refine E13 (y.al a o' e') fun o'' e'' r1 r2 => ?_
  exact ⟨o'', e'', r1.trans q1, fun h => r2 (q2 h)⟩
 gk := fun i g e hn => y.gk i g (x.gk i g e hn) fun h => (hg i h).elim hn fun z => by
  have := (Array.getElem?_eq_some_iff.mp e).1
  lia
 gz := Nat.le_trans x.gz y.gz
 bs := fun h => y.bs (x.bs h)
 os := y.os.trans x.os
 br := fun h => y.br (x.br h)
theorem Ev.tr (x : Ev C W G s s') (y : Ev C W G s' s'') : Ev C W G s s'' := x.trans y (fun _ h => .inl h) (fun _ h => .inl h)
theorem Ev.mono (x : Ev C W G s s') (hw : ∀ a, W a -> W' a \/ s.heap.get? a = none) (hg : ∀ i, G i -> G' i \/ s.gens.size <= i) : Ev C W' G' s s' :=
 Ev.trans (Ev.refl (W := W') (G := G')) x hw hg
theorem Ev.gone (x : Ev C W G s s') {a : Addr} (h : s'.heap.get? a = none) : s.heap.get? a = none := by
 cases e : s.heap.get? a with
 | none => rfl
 | some o => refine E12 (x.al a o e) fun o' e' _ => ?_; rw [h] at e'; cases e'
theorem Ev.up (x : Ev C No No s s') : Ev C W G s s' := x.mono (fun _ h => h.elim) (fun _ h => h.elim)
theorem Base.of_keep {h h' : Heap} (k : ∀ b o, h.get? b = some o -> h'.get? b = some o) (x : Base C h) : Base C h' where
 old := fun a o e ht => k _ _ (x.old a o e ht)
 tab := fun p hp => let ⟨ps, a, b, r, z⟩ := x.tab p hp; ⟨ps, a.keeps k, k _ _ b, r, fun cv e => let ⟨c, o, vs, t, y1, y2, y3⟩ := z cv e; ⟨c, o, vs, t, y1, k _ _ y2, y3⟩⟩
theorem Ev.keep {h' : Heap} {tk : Nat} (k : ∀ b o, s.heap.get? b = some o -> h'.get? b = some o) : Ev C W G s { s with heap := h', toks := tk } where
 kp := fun a o e _ _ => ⟨o, k a o e, .refl o⟩
 al := fun a o e => ⟨o, k a o e, rfl, id⟩
 gk := fun _ _ e _ => e
 gz := Nat.le_refl _
 bs := Base.of_keep k
 os := rfl
 br := id
theorem Ev.turn (hc : C.Ok) {h' : Heap} {tk : Nat} {a : Addr} {o o' : Obj} (ha : s.heap.get? a = some o) (hn : C.h₁.get? a = none) (hx : Heap.ExtBut a s.heap h') (ho : h'.get? a = some o') (hcl : o'.cls = o.cls) (hr : NotRec o.data -> NotRec o'.data) (hnc : o.cls ≠ .type "code") :
  Ev C (· = a) G s { s with heap := h', toks := tk } where
 kp := fun b ob e hb _ => ⟨ob, hx b ob hb e, .refl ob⟩
 al := fun b ob e => by
  by_cases q : b = a
  ·subst q; rw [ha] at e; cases e; exact ⟨o', ho, hcl, hr⟩
  ·exact ⟨ob, hx b ob q e, rfl, id⟩
 gk := fun _ _ e _ => e
 gz := Nat.le_refl _
 bs := fun B => by
  have ne : ∀ b ob, C.h₁.get? b = some ob -> b ≠ a := fun b ob e q => by rw [q, hn] at e; cases e
  refine ⟨fun b ob e ht => hx b ob (ne b ob e) (B.old b ob e ht), fun p hp => ?_⟩
  refine E14 (B.tab p hp) ?_; rintro ps i t ⟨ps0, more, e0, e1⟩ z
  refine E13 (hc.base.tab p hp) fun ps' i' t' _ => ?_
  obtain ⟨_, _, _, _, _, _, _, _, _, _, ec, _⟩ := i'
  exact ⟨ps, i.extBut hx (ne _ _ ec) (ne _ _ t'), hx _ _ (ne _ _ t') t, ⟨ps0, more, e0, e1⟩, fun cv e => let ⟨c, oc, vs, t, y1, y2, y3, y4⟩ := z cv e; ⟨c, oc, vs, t, y1, hx _ _ (fun q => by subst q; rw [ha] at y2; cases y2; exact hnc y3) y2, y3, y4⟩⟩
 os := rfl
 br := id
theorem Base.gone {h : Heap} (x : Base C h) {a : Addr} (hn : h.get? a = none) : C.h₁.get? a = none := by
 cases e : C.h₁.get? a with
 | none => rfl
 | some o =>
  by_cases ht : a ∈ C.T
  ·refine E12 (List.mem_map.mp ht) ?_; rintro p hp rfl
   refine E13 (x.tab p hp) fun ps _ t _ => ?_
   rw [hn] at t; cases t
  ·have := x.old a o e ht
   rw [hn] at this; cases this
theorem get_fresh (h : Heap) : h.get? h.objs.size = none := by
 cases e : h.get? h.objs.size with
 | none => rfl
 | some o => exact absurd (Heap.lt_size e) (Nat.lt_irrefl _)
theorem Base.gns (hc : C.Ok) {h : Heap} (x : Base C h) : h.Ns 3 C.mg := by
 refine E32 hc.gns fun o es ep ho r => ?_
 exact ⟨o, es, ep, x.old _ _ ho hc.t3, r⟩
theorem Base.bns (hc : C.Ok) {h : Heap} (x : Base C h) : h.Ns 0 C.mb := by
 refine E32 hc.bns fun o es ep ho r => ?_
 exact ⟨o, es, ep, x.old _ _ ho hc.t0, r⟩
theorem Base.lim (hc : C.Ok) {h : Heap} (x : Base C h) : h.NoLimit := by
 refine E12 hc.lim ?_; rintro mc ⟨o, es, ep, ho, r⟩ q
 exact ⟨mc, ⟨o, es, ep, x.old _ _ ho hc.t2, r⟩, q⟩
theorem Base.ns (hc : C.Ok) {h : Heap} (x : Base C h) {a : Addr} {m : Str -> Option Value} (ht : a ∉ C.T) (n : C.h₁.Ns a m) : h.Ns a m := by
 refine E32 n ?_; clear n; intro o es ep ho r
 exact ⟨o, es, ep, x.old _ _ ho ht, r⟩
theorem Base.pe (hc : C.Ok) {h : Heap} (x : Base C h) : Pe h where
 c58 := hc.pe.c58.imp fun _ z => ⟨x.old _ _ z.1 (hc.tpe _ (by simp)), z.2⟩
 n57 := let ⟨m, n, e⟩ := hc.pe.n57; ⟨m, x.ns hc (hc.tpe _ (by simp)) n, e⟩
 c45 := let ⟨a1, a2, a3, a4, e, f⟩ := hc.pe.c45; ⟨a1, a2, a3, a4, x.old _ _ e (hc.tpe _ (by simp)), f⟩
 n44 := let ⟨m, n, e⟩ := hc.pe.n44; ⟨m, x.ns hc (hc.tpe _ (by simp)) n, e⟩
theorem Pe.tail {h : Heap} (p : Pe h) : OwnTail h bmB (.ref 45 :: bmB) := by
 obtain ⟨c0, dd, cd, sl, e, f⟩ := p.c45
 refine E12 p.n44 fun m n z => ?_
 exact .own e (by rw [f]; exact n) z .base
set_option genInjectivity true in
inductive AV where
 | none
 | bool (b : Bool)
 | int (i : Int)
 | bytes (b : List UInt8)
 | str
 | tup (xs : List AV)
 | lst (xs : List AV)
 | flags (a b c d : Bool)
 | raw (v : Value)
 | own (xs : List AV)
 | set (S : List (List UInt8))
 | vset (S : List (List UInt8))
 | dict (kvs : List (List UInt8 × List UInt8))
noncomputable def AV.pl : AV -> Bool
 | .own _ => false
 | .set _ => false
 | .vset _ => false
 | _ => true
noncomputable def AV.ow : AV -> Bool
 | .own _ => true
 | .set _ => true
 | _ => false
noncomputable def hvf : Addr := 190
noncomputable def IsFlags (h : Heap) (a : Addr) (x y z u : Bool) : Prop := ∃ o n, h.get? a = some o /\ o.cls = .ref hvf /\ o.data = .seq #[.bool x, .bool y, .bool z, .bool u] n
mutual
noncomputable def Rep (q : Addr -> Nat) (h : Heap) : AV -> Value -> Prop
 | .none, v => v = .none
 | .bool b, v => v = .bool b
 | .int i, v => ∃ t, v = .int i t
 | .bytes b, v => ∃ t, v = .bytes ⟨b⟩ t
 | .str, v => ∃ x t, v = .str x t /\ x.length <= 1000000
 | .tup xs, v => ∃ a vs, v = .ref a /\ h.IsTuple a ⟨vs⟩ /\ RepL q h xs vs
 | .lst xs, v => ∃ a vs, v = .ref a /\ q a = 0 /\ h.IsList a ⟨vs⟩ /\ RepL q h xs vs
 | .flags x y z u, v => ∃ a, v = .ref a /\ IsFlags h a x y z u
 | .raw u, v => v = u
 | .own _, _ => False
 | .set _, _ => False
 | .vset _, _ => False
 | .dict _, _ => False
noncomputable def RepL (q : Addr -> Nat) (h : Heap) : List AV -> List Value -> Prop
 | [], [] => True
 | x :: xs, v :: vs => Rep q h x v /\ RepL q h xs vs
 | [], _ :: _ => False
 | _ :: _, [] => False
end
noncomputable def Kept (R : Addr -> Prop) (h h' : Heap) : Prop := ∀ a o, h.get? a = some o -> NotRec o.data -> (o.cls = .type "tuple" \/ o.cls = .ref hvf \/ R a) -> ∃ o', h'.get? a = some o' /\ Sim o o'
noncomputable def Agree (h : Heap) (q q' : Addr -> Nat) : Prop := ∀ a o, h.get? a = some o -> q' a = q a
theorem Agree.refl {h : Heap} {q : Addr -> Nat} : Agree h q q := fun _ _ _ => rfl
theorem NotRec.seq {xs : Array Value} {n : Nat} : NotRec (.seq xs n) := fun vs e => by cases e
mutual
theorem Rep.mono {R : Addr -> Prop} {q q' : Addr -> Nat} {h h' : Heap} (k : Kept R h h') (hR : ∀ a o, h.get? a = some o -> o.cls ≠ .type "frame" -> q a = 0 -> R a) (hq : ∀ a o, h.get? a = some o -> q a = 0 -> q' a = 0) : ∀ (x : AV) (v : Value), Rep q h x v -> Rep q' h' x v
 | .none, v, r => by rw [Rep] at r ⊢; exact r
 | .bool b, v, r => by rw [Rep] at r ⊢; exact r
 | .int i, v, r => by rw [Rep] at r ⊢; exact r
 | .bytes b, v, r => by rw [Rep] at r ⊢; exact r
 | .str, v, r => by rw [Rep] at r ⊢; exact r
 | .raw u, v, r => by rw [Rep] at r ⊢; exact r
 | .flags x y z u, v, r => by
  rw [Rep] at r ⊢
  obtain ⟨a, e, o, n, ho, hc, hs⟩ := r
  refine E12 (k a o ho (by rw [hs]; exact .seq) (.inr (.inl hc))) fun o' ho' q => ?_
  exact ⟨a, e, o', n, ho', q.1.trans hc, q.2.2.1.trans hs⟩
 | .tup xs, v, r => by
  rw [Rep] at r ⊢
  refine E23 r ?_; clear r; rintro a vs e ⟨o, ho, hc, n, hd⟩ rl
  refine E12 (k a o ho (by rw [hd]; exact .seq) (.inl hc)) fun o' ho' q => ?_
  exact ⟨a, vs, e, ⟨o', ho', q.1.trans hc, n, q.2.2.1.trans hd⟩, RepL.mono k hR hq xs vs rl⟩
 | .lst xs, v, r => by
  rw [Rep] at r ⊢
  refine E24 r ?_; clear r; rintro a vs e hp ⟨o, ho, hc, n, hd⟩ rl
  refine E12 (k a o ho (by rw [hd]; exact .seq) (.inr (.inr (hR a o ho (by rw [hc]; nofun) hp)))) fun o' ho' q => ?_
  exact ⟨a, vs, e, hq a o ho hp, ⟨o', ho', q.1.trans hc, n, q.2.2.1.trans hd⟩, RepL.mono k hR hq xs vs rl⟩
 | .own _, v, r => by rw [Rep] at r; exact r.elim
 | .set _, v, r => by rw [Rep] at r; exact r.elim
 | .vset _, v, r => by rw [Rep] at r; exact r.elim
 | .dict _, v, r => by rw [Rep] at r; exact r.elim
theorem RepL.mono {R : Addr -> Prop} {q q' : Addr -> Nat} {h h' : Heap} (k : Kept R h h') (hR : ∀ a o, h.get? a = some o -> o.cls ≠ .type "frame" -> q a = 0 -> R a) (hq : ∀ a o, h.get? a = some o -> q a = 0 -> q' a = 0) : ∀ (xs : List AV) (vs : List Value), RepL q h xs vs -> RepL q' h' xs vs
 | [], [], _ => by rw [RepL]; trivial
 | x :: xs, v :: vs, r => by
  rw [RepL] at r ⊢
  exact ⟨Rep.mono k hR hq x v r.1, RepL.mono k hR hq xs vs r.2⟩
 | [], _ :: _, r => by rw [RepL] at r; exact r.elim
 | _ :: _, [], r => by rw [RepL] at r; exact r.elim
end
theorem RepL.length {q : Addr -> Nat} {h : Heap} : ∀ {xs : List AV} {vs : List Value}, RepL q h xs vs -> vs.length = xs.length
 | [], [], _ => rfl
 | x :: xs, v :: vs, r => by rw [RepL] at r; simp [RepL.length r.2]
 | [], _ :: _, r => by rw [RepL] at r; exact r.elim
 | _ :: _, [], r => by rw [RepL] at r; exact r.elim
theorem RepL.get {q : Addr -> Nat} {h : Heap} : ∀ {xs : List AV} {vs : List Value}, RepL q h xs vs -> ∀ (i : Nat) (x : AV), xs[i]? = some x -> ∃ v, vs[i]? = some v /\ Rep q h x v
 | [], [], _, i, x, e => by simp at e
 | x :: xs, v :: vs, r, 0, y, e => by
  rw [RepL] at r
  simp at e; subst e
  exact ⟨v, rfl, r.1⟩
 | x :: xs, v :: vs, r, i + 1, y, e => by
  rw [RepL] at r
  simpa using RepL.get r.2 i y (by simpa using e)
 | [], _ :: _, r, _, _, _ => by rw [RepL] at r; exact r.elim
 | _ :: _, [], r, _, _, _ => by rw [RepL] at r; exact r.elim
theorem RepL.app {q : Addr -> Nat} {h : Heap} : ∀ {xs ys : List AV} {vs us : List Value}, RepL q h xs vs -> RepL q h ys us -> RepL q h (xs ++ ys) (vs ++ us)
 | [], _, [], _, _, r => r
 | x :: xs, _, v :: vs, _, r, z => by
  rw [RepL] at r
  show RepL q h (x :: (xs ++ _)) (v :: (vs ++ _))
  rw [RepL]
  exact ⟨r.1, RepL.app r.2 z⟩
 | [], _, _ :: _, _, r, _ => by rw [RepL] at r; exact r.elim
 | _ :: _, _, [], _, r, _ => by rw [RepL] at r; exact r.elim
theorem RepL.drop {q : Addr -> Nat} {h : Heap} : ∀ {xs : List AV} {vs : List Value} (k : Nat), RepL q h xs vs -> RepL q h (xs.drop k) (vs.drop k)
 | xs, vs, 0, r => r
 | [], [], k + 1, r => r
 | x :: xs, v :: vs, k + 1, r => by
  rw [RepL] at r
  exact RepL.drop k r.2
 | [], _ :: _, _, r => by rw [RepL] at r; exact r.elim
 | _ :: _, [], _, r => by rw [RepL] at r; exact r.elim
theorem RepL.take {q : Addr -> Nat} {h : Heap} : ∀ {xs : List AV} {vs : List Value} (k : Nat), RepL q h xs vs -> RepL q h (xs.take k) (vs.take k)
 | xs, vs, 0, r => by simp [RepL]
 | [], [], k + 1, r => by simp [RepL]
 | x :: xs, v :: vs, k + 1, r => by
  rw [RepL] at r
  show RepL q h (x :: xs.take k) (v :: vs.take k)
  rw [RepL]
  exact ⟨r.1, RepL.take k r.2⟩
 | [], _ :: _, _, r => by rw [RepL] at r; exact r.elim
 | _ :: _, [], _, r => by rw [RepL] at r; exact r.elim
end
section
set_option tactic.hygienic true
namespace B
theorem slot_hash : Slot "bytes" "__hash__" "bytes.__hash__" :=
 .of (owner := "bytes") (n := "__hash__") (by rw [typeLookup_type, builtinLookup_eq_fast]; kernel_rfl) (by decide +kernel) (by decide +kernel) (by decide +kernel)
  (by first | exact .inl (by decide +kernel) | exact .inr (by decide +kernel)) (by rw [isSubtype_type]; kernel_rfl)
theorem entry_hash : entryFor table "bytes.__hash__" = some Builtin.«bytes.__hash__» := entryFor_of_tree (by kernel_rfl)
theorem args_hash_1 (a : Value) : argsOk "bytes.__hash__" ⟨[a], []⟩ := by
 unfold argsOk; rw [signature?_of (id := "bytes.__hash__") (n := ['_', '_', 'h', 's', 'a', 'h', '_', '_']) (o := ['s', 'e', 't', 'y', 'b']) (by kernel_rfl) FB.owner_bytes]; kernel_rfl
end B
noncomputable def isB (x : List UInt8) : Value -> Bool
 | .bytes y _ => y == ⟨x⟩
 | _ => false
theorem isB_shape {x : List UInt8} {v : Value} (h : isB x v = true) : ∃ t, v = .bytes ⟨x⟩ t := by
 cases v <;> simp_all [isB]
noncomputable def redH (i : Int) : Int :=
 if -(2 ^ 63 : Int) <= i && i < 2 ^ 63 then (if i == -1 then -2 else i) else
  let m : Int := 2 ^ 61 - 1
  let h := (i.natAbs : Int) % m
  let h := if i < 0 then -h else h
  (if h == -1 then -2 else h)
noncomputable def hashB (w : World) (x : List UInt8) : Int := redH (hashStr w ⟨(⟨x⟩ : Array UInt8).map (·.toNat)⟩)
section
variable {prog : Program} {w : World} {A : Around} {E : VP} {s : Shared}
theorem pyHash_bytes {x : List UInt8} {t : Tok} {Q : Int -> Shared -> Prop} (h : Q (hashB w x) { s with toks := s.toks + 1 }) :
  wpAny (model prog w) A (pyHash (.bytes ⟨x⟩ t)) Q E s := by
 have T := typeIs_bytes s ⟨x⟩ t
 show wpAny _ _ (pyHashByItsType (.bytes ⟨x⟩ t)) Q E s
 unfold pyHashByItsType
 have hv : [Value.bytes ⟨x⟩ t].any Value.onHeap = false := rfl
 refine wB ?_
 rw [cRoomFor, if_neg (by rw [hv]; exact fT)]; refine wP ?_
 refine wB (wpAny_specialOf T B.slot_hash.lookup ?_)
 show wpAny _ _ (if (some (Value.builtin "bytes.__hash__") == some Value.none) = true then _ else _) Q E s
 rw [if_neg (by rw [beq_builtin_none]; exact fT)]
 refine wB (wpAny_specialOf T B.slot_hash.lookup ?_)
 show wpAny _ _ (callSpecialIfBoundUnlessNone? (.bytes ⟨x⟩ t) "__hash__" _ >>= _) Q E s
 refine wB (wpAny_callSpecialIfBoundUnlessNone?_slot T B.slot_hash
  (wpAny_call_entry B.slot_hash T B.entry_hash
   (show wpAny _ _ (strHash ⟨(⟨x⟩ : Array UInt8).map (·.toNat)⟩ >>= fun i => (do ret (<- mkInt i))) _ _ s from ?_) (B.args_hash_1 _)))
 unfold strHash
 refine wB (wB (wpAny_askSetting (wP (wpAny_ret_mkInt ?_))))
 show wpAny _ _ (pyHashByItsType.reduced (hashStr w ⟨(⟨x⟩ : Array UInt8).map (·.toNat)⟩)) Q E _
 unfold hashB redH at h
 unfold pyHashByItsType.reduced
 split
 ·rename_i hc
  rw [if_pos hc] at h
  exact wP h
 ·rename_i hc
  rw [if_neg hc] at h
  exact wB (wpAny_rule (wP h))
theorem eqBool_bytes {a b : List UInt8} {t u : Tok} {Q : Bool -> Shared -> Prop} (h : Q (decide (a = b)) s) :
  wpAny (model prog w) A (eqBool (.bytes ⟨a⟩ t) (.bytes ⟨b⟩ u)) Q E s := by
 unfold eqBool
 show wpAny _ _ (if (Value.bytes ⟨a⟩ t == Value.bytes ⟨b⟩ u) = true then _ else _) Q E s
 by_cases hab : (Value.bytes ⟨a⟩ t == Value.bytes ⟨b⟩ u) = true
 ·refine wpEq (if_pos hab) ?_
  have e : a = b := by have := eq_of_beq hab; injection this with x; injection x
  subst e
  exact wB (wpAny_rule (wP (by simpa using h)))
 ·refine wpEq (if_neg hab) ?_
  refine wB (richCompare_gives (op := .Eq) (T := "bytes") rfl rfl FB.slot_bytes_eq FB.entry_bytes_eq (FB.args_bytes_eq_2 _ _) (gives_bytes_eq ⟨a⟩ ⟨b⟩ t u) (fun x => nomatch x) (wpAny_truthy_bool ?_))
  have e : ((⟨a⟩ : Array UInt8).toList == (⟨b⟩ : Array UInt8).toList) = decide (a = b) := by
   by_cases q : a = b <;> simp [q]
  rw [e]; exact h
end
noncomputable def byK (prog : Program) (w : World) : KeyKind prog w (List UInt8) where
 is := isB
 hash := hashB w
 inj := fun v a b ha hb => by
  refine E11 (isB_shape ha) ?_; rintro t rfl
  refine E11 (isB_shape hb) fun u h => ?_
  injection h with x
  injection x
 byValue := fun k v h => by refine E11 (isB_shape h) ?_; rintro t rfl; rfl
 pyHash := fun hv h => by refine E11 (isB_shape hv) ?_; rintro t rfl; exact pyHash_bytes h
 eqBool := fun hu hv h => by
  refine E11 (isB_shape hu) ?_; rintro t rfl
  refine E11 (isB_shape hv) ?_; rintro u rfl
  exact eqBool_bytes h
 «strs» := fun k x t v h => by simp [isB] at h
theorem byK_is {prog : Program} {w : World} (x : List UInt8) (t : Tok) : (byK prog w).is x (.bytes ⟨x⟩ t) = true := by simp [byK, isB]
noncomputable def Rp (C : Cx) (q : Addr -> Nat) (h : Heap) (av : AV) (v : Value) : Prop :=
 match av with
 | .own xs => ∃ a vs, v = .ref a /\ q a = 1 /\ PlainL h a ⟨vs⟩ /\ RepL q h xs vs
 | .set S => ∃ a, v = .ref a /\ q a = 1 /\ h.SetOf (byK C.prog C.w) a (fun k => S.contains k) S.length
 | .vset S => ∃ a, v = .ref a /\ q a = 1 /\ h.SetOf (byK C.prog C.w) a (fun k => S.contains k) S.length
 | .dict kvs => ∃ a vvs, v = .ref a /\ q a = 0 /\ h.DictOf (byK C.prog C.w) a vvs /\ vvs.map (·.1) = kvs.map (·.1) /\ RepL q h (kvs.map fun p => .bytes p.2) (vvs.map (·.2)) /\ a ≠ sysModules
 | av => Rep q h av v
noncomputable def RpL (C : Cx) (q : Addr -> Nat) (h : Heap) : List AV -> List Value -> Prop
 | [], [] => True
 | x :: xs, v :: vs => Rp C q h x v /\ RpL C q h xs vs
 | [], _ :: _ => False
 | _ :: _, [] => False
theorem Kept.of {R : Addr -> Prop} {h h' : Heap} (k : Kept R h h') {a : Addr} {o : Obj} (e : h.get? a = some o) (hd : NotRec o.data) (hc : o.cls ≠ .type "frame") (r : R a) : h'.get? a = some o := by
 refine E12 (k a o e hd (.inr (.inr r))) fun o' e' z => ?_
 rw [e', z.eq hc]
theorem Rp.mono' {C : Cx} {R : Addr -> Prop} {q q' : Addr -> Nat} {h h' : Heap} (k : Kept R h h') (hR : ∀ a o, h.get? a = some o -> o.cls ≠ .type "frame" -> q a = 0 \/ q a = 1 -> R a) (hq : ∀ a o, h.get? a = some o -> q a = 0 \/ q a = 1 -> q' a = q a) (av : AV) (v : Value) (r : Rp C q h av v) : Rp C q' h' av v := by
 have hq0 : ∀ a o, h.get? a = some o -> q a = 0 -> q' a = 0 := fun a o e z => (hq a o e (.inl z)).trans z
 have deep : ∀ (x : AV) (v : Value), Rep q h x v -> Rep q' h' x v := Rep.mono k (fun a o e n z => hR a o e n (.inl z)) hq0
 cases av <;> try exact deep _ _ r
 case own xs =>
  refine E24 r ?_; clear r; rintro a vs e hp ⟨o, n, ho, hc, hdn, hd⟩ rl
  refine E12 (k a o ho (by rw [hd]; exact .seq) (.inr (.inr (hR a o ho (by rw [hc]; nofun) (.inr hp))))) fun o' ho' z => ?_
  exact ⟨a, vs, e, (hq a o ho (.inr hp)).trans hp, ⟨o', n, ho', z.1.trans hc, z.2.1.trans hdn, z.2.2.1.trans hd⟩, RepL.mono k (fun a o e n z => hR a o e n (.inl z)) hq0 xs vs rl⟩
 case set S =>
  obtain ⟨a, e, hp, o, es, ep, t, ho, hx, hd, r⟩ := r
  exact ⟨a, e, (hq a o ho (.inr hp)).trans hp, o, es, ep, t, k.of ho (by rw [hd]; nofun) (by rw [hx.1]; nofun) (hR a o ho (by rw [hx.1]; nofun) (.inr hp)), hx, hd, r⟩
 case vset S =>
  obtain ⟨a, e, hp, o, es, ep, t, ho, hx, hd, r⟩ := r
  exact ⟨a, e, (hq a o ho (.inr hp)).trans hp, o, es, ep, t, k.of ho (by rw [hd]; nofun) (by rw [hx.1]; nofun) (hR a o ho (by rw [hx.1]; nofun) (.inr hp)), hx, hd, r⟩
 case dict kvs =>
  refine E26 r ?_; clear r; rintro a vvs e hp ⟨o, es, ep, ho, hx, hd, r⟩ hk rl hsy
  exact ⟨a, vvs, e, (hq a o ho (.inl hp)).trans hp, ⟨o, es, ep, k.of ho (by rw [hd]; nofun) (by rw [hx.1]; nofun) (hR a o ho (by rw [hx.1]; nofun) (.inl hp)), hx, hd, r⟩, hk, RepL.mono k (fun a o e n z => hR a o e n (.inl z)) hq0 _ _ rl, hsy⟩
theorem Rp.mono {C : Cx} {R : Addr -> Prop} {q q' : Addr -> Nat} {h h' : Heap} (k : Kept R h h') (hR : ∀ a o, h.get? a = some o -> o.cls ≠ .type "frame" -> q a = 0 \/ q a = 1 -> R a) (hq : Agree h q q') (av : AV) (v : Value) (r : Rp C q h av v) : Rp C q' h' av v :=
 r.mono' k hR (fun a o e _ => hq a o e)
theorem Rp.monoPl {C : Cx} {R : Addr -> Prop} {q q' : Addr -> Nat} {h h' : Heap} (k : Kept R h h') (hR : ∀ a o, h.get? a = some o -> o.cls ≠ .type "frame" -> q a = 0 -> R a) (hq : Agree h q q') (av : AV) (v : Value) (hp : av.pl = true) (r : Rp C q h av v) : Rp C q' h' av v := by
 have hq0 : ∀ a o, h.get? a = some o -> q a = 0 -> q' a = 0 := fun a o e z => (hq a o e).trans z
 have deep : ∀ (x : AV) (v : Value), Rep q h x v -> Rep q' h' x v := Rep.mono k hR hq0
 cases av <;> try exact deep _ _ r
 case own xs => cases hp
 case set S => cases hp
 case vset S => cases hp
 case dict kvs =>
  refine E26 r ?_; clear r; rintro a vvs e hp ⟨o, es, ep, ho, hx, hd, r⟩ hk rl hsy
  exact ⟨a, vvs, e, (hq a o ho).trans hp, ⟨o, es, ep, k.of ho (by rw [hd]; nofun) (by rw [hx.1]; nofun) (hR a o ho (by rw [hx.1]; nofun) hp), hx, hd, r⟩, hk, RepL.mono k hR hq0 _ _ rl, hsy⟩
theorem Rp.of_rep {C : Cx} {q : Addr -> Nat} {h : Heap} {av : AV} {v : Value} (r : Rep q h av v) : Rp C q h av v := by
 cases av <;> first | exact r | (rw [Rep] at r; exact r.elim)
theorem RpL.of_repL {C : Cx} {q : Addr -> Nat} {h : Heap} : ∀ {xs : List AV} {vs : List Value}, RepL q h xs vs -> RpL C q h xs vs
 | [], [], _ => trivial
 | x :: xs, v :: vs, r => by rw [RepL] at r; exact ⟨.of_rep r.1, RpL.of_repL r.2⟩
 | [], _ :: _, r => by rw [RepL] at r; exact r.elim
 | _ :: _, [], r => by rw [RepL] at r; exact r.elim
theorem RpL.mono {C : Cx} {R : Addr -> Prop} {q q' : Addr -> Nat} {h h' : Heap} (k : Kept R h h') (hR : ∀ a o, h.get? a = some o -> o.cls ≠ .type "frame" -> q a = 0 \/ q a = 1 -> R a) (hq : Agree h q q') : ∀ (xs : List AV) (vs : List Value), RpL C q h xs vs -> RpL C q' h' xs vs
 | [], [], _ => trivial
 | x :: xs, v :: vs, r => ⟨Rp.mono k hR hq x v r.1, RpL.mono k hR hq xs vs r.2⟩
 | [], _ :: _, r => r.elim
 | _ :: _, [], r => r.elim
variable {C : Cx} {W W' : Addr -> Prop} {G G' : Nat -> Prop} {s s' s'' : Shared}
theorem T_rec {C : Cx} {h : Heap} (B : Base C h) {a : Addr} {o : Obj} (ha : a ∈ C.T) (e : h.get? a = some o) : ∃ vs, o.data = .fields vs := by
 refine E12 (List.mem_map.mp ha) ?_; rintro p hp rfl
 refine E13 (B.tab p hp) fun ps _ t _ => ?_
 rw [e] at t
 cases t
 exact ⟨_, rfl⟩
theorem Ev.sim (x : Ev C W G s s') (B : Base C s.heap) {a : Addr} {o : Obj} (e : s.heap.get? a = some o) (hd : NotRec o.data) (hw : ¬ W a) : ∃ o', s'.heap.get? a = some o' /\ Sim o o' :=
 x.kp a o e hw fun ht => by
  refine E11 (T_rec B ht e) fun vs h => ?_
  exact hd vs h
noncomputable def Mild (R W : Addr -> Prop) (h : Heap) : Prop := ∀ a, W a -> ¬ R a /\ ∀ o, h.get? a = some o -> o.cls ≠ .type "tuple" /\ o.cls ≠ .ref hvf
theorem Mild.no {R : Addr -> Prop} {h : Heap} : Mild R No h := fun _ h => h.elim
theorem Ev.kept {R : Addr -> Prop} (x : Ev C W G s s') (B : Base C s.heap) (m : Mild R W s.heap) : Kept R s.heap s'.heap := fun a o e hd hc =>
 x.sim B e hd fun hw => by
  refine E02 (m a hw) fun h1 h2 => ?_
  rcases hc with hc | hc | hc
  ·exact (h2 o e).1 hc
  ·exact (h2 o e).2 hc
  ·exact h1 hc
theorem Rp.ev {q : Addr -> Nat} (x : Ev C No G s s') (B : Base C s.heap) {av : AV} {v : Value} (r : Rp C q s.heap av v) : Rp C q s'.heap av v :=
 Rp.mono (x.kept (R := fun _ => True) B .no) (fun _ _ _ _ _ => trivial) .refl av v r
theorem RpL.ev {q : Addr -> Nat} (x : Ev C No G s s') (B : Base C s.heap) {av : List AV} {v : List Value} (r : RpL C q s.heap av v) : RpL C q s'.heap av v :=
 RpL.mono (x.kept (R := fun _ => True) B .no) (fun _ _ _ _ _ => trivial) .refl av v r
theorem RepL.ev {q : Addr -> Nat} (x : Ev C No G s s') (B : Base C s.heap) {av : List AV} {v : List Value} (r : RepL q s.heap av v) : RepL q s'.heap av v :=
 RepL.mono (x.kept (R := fun _ => True) B .no) (fun _ _ _ _ _ => trivial) (fun _ _ _ z => z) av v r
end
noncomputable def Room (n : Nat) (A : Around) : Prop := (A.handled = none /\ A.guards = some []) /\ A.depth + 3 * n + 20 <= 1000 /\ A.units + 30 * n + 300 <= 9900
theorem Room.mono {n m : Nat} {A : Around} (r : Room n A) (h : m <= n) : Room m A := ⟨r.1, by have := r.2.1; lia, by have := r.2.2; lia⟩
theorem Room.h {n : Nat} {A : Around} (r : Room n A) : A.handled = none := r.1.1
theorem Room.d {n : Nat} {A : Around} (r : Room n A) : A.depth < recursionLimit := by have := r.2.1; show _ < 1000; lia
structure Ac where
 C : Cx
 A : Around
 env : Env
 fl : List Env
 n : Nat
 W : Addr -> Prop
noncomputable abbrev Env1 := List (Str × AV)
structure Ac.EOk (c : Ac) : Prop where
 C : c.C.Ok
 room : Room c.n c.A
 frames : c.A.frames = some c.fl
 kind : c.env.scope.kind = .function
 g : c.env.globals = 3
 b : c.env.builtins = 0
structure Ac.Ok (c : Ac) : Prop extends Ac.EOk c where
 top : ∃ o, c.fl = c.env :: o
 fr : c.env.frame = some c.env.locals
theorem Ac.Ok.e {c : Ac} (h : c.Ok) : c.EOk := h.1
theorem Ac.Ok.mk' {c : Ac} (C : c.C.Ok) (room : Room c.n c.A) (frames : c.A.frames = some c.fl) (top : ∃ o, c.fl = c.env :: o) (kind : c.env.scope.kind = .function) (g : c.env.globals = 3) (b : c.env.builtins = 0) (fr : c.env.frame = some c.env.locals) : c.Ok :=
 { C := C, room := room, frames := frames, kind := kind, g := g, b := b, top := top, fr := fr }
noncomputable def Col (C : Cx) (q : Addr -> Nat) (s : Shared) : Prop := ∀ a, q a ≠ 0 -> C.h₁.get? a = none /\ ∃ o, s.heap.get? a = some o /\ o.cls ≠ .type "tuple" /\ o.cls ≠ .ref hvf
theorem Col.ev {C : Cx} {W : Addr -> Prop} {G : Nat -> Prop} {q : Addr -> Nat} {s s' : Shared} (g : Col C q s) (x : Ev C W G s s') : Col C q s' := fun a h => by
 obtain ⟨h1, o, h2, h3⟩ := g a h
 refine E13 (x.al a o h2) fun o' h4 h5 _ => ?_
 exact ⟨h1, o', h4, by rw [h5]; exact h3⟩
theorem Col.fr {C : Cx} {q : Addr -> Nat} {s : Shared} (g : Col C q s) (a : Addr) (h : s.heap.get? a = none) : q a = 0 := by
 by_cases z : q a = 0
 ·exact z
 ·obtain ⟨_, o, ho, _⟩ := g a z
  rw [h] at ho; cases ho
structure Gd (C : Cx) (q : Addr -> Nat) (s : Shared) : Prop where
 base : Base C s.heap
 col : Col C q s
theorem Gd.ev {C : Cx} {W : Addr -> Prop} {G : Nat -> Prop} {q : Addr -> Nat} {s s' : Shared} (g : Gd C q s) (x : Ev C W G s s') : Gd C q s' := ⟨x.bs g.base, g.col.ev x⟩
theorem Gd.fr {C : Cx} {q : Addr -> Nat} {s : Shared} (g : Gd C q s) (a : Addr) (h : s.heap.get? a = none) : q a = 0 := g.col.fr a h
noncomputable def FrF (h : Heap) (fl : List Env) : Prop := ∀ env ∈ fl, ∃ L o, env.frame = some L /\ h.get? L = some o /\ o.cls = .type "frame"
theorem FrF.al {h h' : Heap} (k : ∀ a o, h.get? a = some o -> ∃ o', h'.get? a = some o' /\ o'.cls = o.cls /\ (NotRec o.data -> NotRec o'.data)) {fl : List Env} (x : FrF h fl) : FrF h' fl := fun env he => by
 refine E23 (x env he) fun L o h1 h2 h3 => ?_
 refine E13 (k L o h2) fun o' a b _ => ?_
 exact ⟨L, o', h1, a, b.trans h3⟩
structure St (c : Ac) (q : Addr -> Nat) (Z U : Env1) (s : Shared) : Prop where
 base : Base c.C s.heap
 col : Col c.C q s
 new : ∀ a, s.heap.get? a = none -> c.W a
 loc : ∃ m, s.heap.Ns c.env.locals m /\ ∀ x av, U.lookup x = some av -> c.env.kindOf x = some .local /\ ∃ v, m x = some v /\ Rp c.C q s.heap av v /\ (av.ow = true -> ∀ a, v = .ref a -> c.W a)
 cel : ∀ x av, Z.lookup x = some av -> (c.env.kindOf x = some .cell \/ c.env.kindOf x = some .free) /\ ∃ a o v, c.env.cells.lookup x = some a /\ q a = 0 /\ s.heap.get? a = some o /\ o.data = .cell (some v) /\ Rp c.C q s.heap av v
 frs : s.heap.FunFrames c.C.h₁ c.fl
 frf : FrF s.heap c.fl
 own : c.C.h₁.get? c.env.locals = none /\ q c.env.locals = 0 /\ c.W c.env.locals
noncomputable def Gv (C : Cx) (A : Around) (q : Addr -> Nat) (s : Shared) (t : Sem Value) (av : AV) : Prop :=
 ∀ {Q : VP} {E : VP}, (∀ v s', Ev C No No s s' -> Rp C q s'.heap av v -> Q v s') -> wpAny (model C.prog C.w) A t Q E s
noncomputable def Gt {α : Type} (C : Cx) (A : Around) (s : Shared) (t : Sem α) (b : α) : Prop :=
 ∀ {Q : α -> Shared -> Prop} {E : VP}, (∀ s', Ev C No No s s' -> Q b s') -> wpAny (model C.prog C.w) A t Q E s
noncomputable def GvL (C : Cx) (A : Around) (q : Addr -> Nat) (s : Shared) (t : Sem (List Value)) (avs : List AV) : Prop :=
 ∀ {Q : List Value -> Shared -> Prop} {E : VP}, (∀ vs s', Ev C No No s s' -> RpL C q s'.heap avs vs -> Q vs s') -> wpAny (model C.prog C.w) A t Q E s
section
variable {c : Ac} {q : Addr -> Nat} {Z U : Env1} {s s' : Shared}
theorem St.gd (S : St c q Z U s) : Gd c.C q s := ⟨S.base, S.col⟩
theorem St.fr (S : St c q Z U s) (a : Addr) (h : s.heap.get? a = none) : q a = 0 /\ c.W a := ⟨S.col.fr a h, S.new a h⟩
theorem ns_sim {h h' : Heap} {a : Addr} {m : Str -> Option Value} (n : h.Ns a m) (k : ∀ o, h.get? a = some o -> ∃ o', h'.get? a = some o' /\ Sim o o') : h'.Ns a m := by
 refine E33 n ?_; clear n; intro o es ep ho hd r
 refine E12 (k o ho) fun o' ho' q => ?_
 exact ⟨o', es, ep, ho', q.2.2.1.trans hd, r⟩
theorem frs_al {h h' base : Heap} (k : ∀ a o, h.get? a = some o -> ∃ o', h'.get? a = some o' /\ o'.cls = o.cls /\ (NotRec o.data -> NotRec o'.data)) : ∀ {l : List Env}, h.FunFrames base l -> h'.FunFrames base l
 | [], _ => trivial
 | env :: rest, hl => by
  refine E03 hl ?_; clear hl; rintro hk ⟨L, o, hf, hn, ho, hd⟩ hr
  refine E13 (k L o ho) fun o' ho' _ hd' => ?_
  exact ⟨hk, ⟨L, o', hf, hn, ho', hd' hd⟩, frs_al k hr⟩
theorem St.step {W : Addr -> Prop} {G : Nat -> Prop} {q' : Addr -> Nat} {R : Addr -> Prop} (S : St c q Z U s) (x : Ev c.C W G s s') (m : Mild R W s.heap)
  (hR : ∀ a, q a = 0 \/ q a = 1 -> R a) (hq : Agree s.heap q q') (hf : Col c.C q' s') : St c q' Z U s' where
 base := x.bs S.base
 col := hf
 new := fun a h => S.new a (x.gone h)
 loc := by
  refine E12 S.loc fun mm hn h => ?_
  have k := x.kept S.base m
  refine ⟨mm, ns_sim hn fun o e => ?_, fun y av e => ?_⟩
  ·refine E33 hn ?_; clear hn; intro o' es ep ho hd _
   rw [e] at ho
   cases ho
   exact k _ o e (by rw [hd]; nofun) (.inr (.inr (hR _ (.inl S.own.2.1))))
  ·obtain ⟨kk, v, hv, r, ow⟩ := h y av e
   exact ⟨kk, v, hv, r.mono k (fun a _ _ _ z => hR a z) hq, ow⟩
 cel := fun y av e => by
  have k := x.kept S.base m
  obtain ⟨kk, a, o, v, h1, hqa, h2, h3, r⟩ := S.cel y av e
  refine E12 (k a o h2 (by rw [h3]; nofun) (.inr (.inr (hR _ (.inl hqa))))) fun o' ho' z => ?_
  exact ⟨kk, a, o', v, h1, (hq a o h2).trans hqa, ho', z.2.2.1.trans h3, r.mono k (fun a _ _ _ z => hR a z) hq⟩
 frs := frs_al x.al S.frs
 frf := S.frf.al x.al
 own := by
  refine E12 S.loc ?_; rintro mm ⟨o', es, ep, ho, hd, _⟩ h
  exact ⟨S.own.1, (hq _ o' ho).trans S.own.2.1, S.own.2.2⟩
theorem St.ev (S : St c q Z U s) (x : Ev c.C No No s s') : St c q Z U s' :=
 S.step (R := fun _ => True) x .no (fun _ _ => trivial) .refl (S.col.ev x)
theorem St.sub {Z' U' : Env1} (S : St c q Z U s) (h : ∀ x av, U'.lookup x = some av -> U.lookup x = some av) (h' : ∀ x av, Z'.lookup x = some av -> Z.lookup x = some av) : St c q Z' U' s :=
 { S with
  loc := let ⟨m, a, b⟩ := S.loc; ⟨m, a, fun x av e => b x av (h x av e)⟩
  cel := fun x av e => S.cel x av (h' x av e) }
noncomputable def EV (c : Ac) (Z U : Env1) (e : Expr) (av : AV) : Prop := ∀ q s, St c q Z U s -> Gv c.C c.A q s (eval e c.env) av
noncomputable def ET (c : Ac) (Z U : Env1) (e : Expr) (b : Bool) : Prop := ∀ q s, St c q Z U s -> Gt c.C c.A s (isTrue e c.env (eval e c.env)) b
theorem ev_int {i : Int} {k : Nat} {p : Pos} : EV c Z U (.Constant (.int i) k p) (.int i) := fun q s S Q E h =>
 wpAny_Constant_int (h _ _ (.keep fun _ _ e => e) (.of_rep (by rw [Rep]; exact ⟨_, rfl⟩)))
theorem ev_bytes {x : List UInt8} {k : Nat} {p : Pos} : EV c Z U (.Constant (.bytes x) k p) (.bytes x) := fun q s S Q E h =>
 Constant_bytes (h _ _ (.keep fun _ _ e => e) (.of_rep (by rw [Rep]; exact ⟨_, rfl⟩)))
theorem ev_bool {x : Bool} {k : Nat} {p : Pos} : EV c Z U (.Constant (.bool x) k p) (.bool x) := fun q s S Q E h =>
 wP (h _ _ .refl (.of_rep (by rw [Rep])))
theorem ev_none {k : Nat} {p : Pos} : EV c Z U (.Constant .none k p) .none := fun q s S Q E h =>
 wP (h _ _ .refl (.of_rep (by rw [Rep])))
theorem ev_str {x : Str} {k : Nat} {p : Pos} (hx : x.length <= 1000000) : EV c Z U (.Constant (.str x) k p) .str := fun q s S Q E h =>
 wpAny_mkText (h _ _ (.keep fun _ _ e => e) (.of_rep (by rw [Rep]; exact ⟨_, _, rfl, hx⟩)))
theorem wp_doc {C : Cx} {prog : Program} {w : World} {A : Around} {E : VP} {s : Shared} {env : Env} {x : Str} {k : Nat} {p : Pos} {Q : VP} (h : ∀ v s', Ev C No No s s' -> Q v s') : wpAny (model prog w) A (eval (.Constant (.str x) k p) env) Q E s :=
 wpAny_mkText (h _ _ (.keep fun _ _ e => e))
theorem ev_local (hc : c.EOk) {x : Str} {p : Pos} {av : AV} (h : U.lookup x = some av) (hd : (x == ("__debug__" : Str)) = false := by decide +kernel) : EV c Z U (.Name x p) av := fun q s S Q E k => by
 refine E12 S.loc fun m hn hl => ?_
 obtain ⟨hk, v, hv, r, _⟩ := hl x av h
 exact wpAny_Name (wpAny_loadName_local hc.kind hk hn hv (k v s .refl r)) hd
theorem ev_global (hc : c.EOk) {x : Str} {p : Pos} {av : AV} {v : Value} (hg : c.C.mg x = some v) (hk : c.env.kindOf x = some .globalImplicit) (r : ∀ q s, Gd c.C q s -> Rp c.C q s.heap av v) (hd : (x == ("__debug__" : Str)) = false) :
  EV c Z U (.Name x p) av := fun q s S Q E k => by
 refine wpAny_Name ?_ hd
 rw [loadName_read hc.kind hk]
 unfold loadGlobal
 rw [hc.g]
 refine wB (wpAny_nsGet (S.base.gns hc.C) ?_)
 rw [hg]
 exact wP (k v s .refl (r q _ S.gd))
theorem ev_builtin (hc : c.EOk) {x : Str} {p : Pos} {v : Value} (hg : c.C.mg x = none) (hb : c.C.mb x = some v) (hk : c.env.kindOf x = some .globalImplicit) (hd : (x == ("__debug__" : Str)) = false) :
  EV c Z U (.Name x p) (.raw v) := fun q s S Q E k => by
 refine wpAny_Name ?_ hd
 rw [loadName_read hc.kind hk]
 unfold loadGlobal
 rw [hc.g, hc.b]
 refine wB (wpAny_nsGet (S.base.gns hc.C) ?_)
 rw [hg]
 refine wB (wpAny_nsGet (S.base.bns hc.C) ?_)
 rw [hb]
 exact wP (k v s .refl (.of_rep (by rw [Rep])))
end
section
variable {c : Ac} {q : Addr -> Nat} {Z U : Env1} {s s' : Shared}
noncomputable def Op2 (C : Cx) (A : Around) (f : Value -> Value -> Sem Value) (x y z : AV) : Prop :=
 ∀ q s v u, Gd C q s -> Rp C q s.heap x v -> Rp C q s.heap y u -> Gv C A q s (f v u) z
theorem ev_bin {l r : Expr} {op : Operator} {p : Pos} {x y z : AV} (hl : EV c Z U l x) (hr : EV c Z U r y) (ho : Op2 c.C c.A (binaryOp op) x y z) : EV c Z U (.BinOp l op r p) z := fun q s S Q E k =>
 wpAny_BinOp (hl q s S fun v s1 ew rB => hr q s1 (S.ev ew) fun u s2 eD rD =>
  ho q s2 v u ((S.ev ew).ev eD).gd (rB.ev eD (S.ev ew).base) rD fun t s3 eH rH => k t s3 ((ew.tr eD).tr eH) rH)
theorem ev_cmp {l r : Expr} {op : CmpOp} {p : Pos} {x y z : AV} (hl : EV c Z U l x) (hr : EV c Z U r y) (ho : Op2 c.C c.A (compareOp op) x y z) (hm : behindInMarks op r = false := by with_unfolding_all rfl) : EV c Z U (.Compare l [op] [r] p) z := fun q s S Q E k =>
 wpAny_Compare1 (hl q s S fun v s1 ew rB => hr q s1 (S.ev ew) fun u s2 eD rD =>
  ho q s2 v u ((S.ev ew).ev eD).gd (rB.ev eD (S.ev ew).base) rD fun t s3 eH rH => k t s3 ((ew.tr eD).tr eH) rH) hm
theorem et_cmp {l r : Expr} {op : CmpOp} {p : Pos} {x y : AV} {z : Bool} (hl : EV c Z U l x) (hr : EV c Z U r y) (ho : Op2 c.C c.A (compareOp op) x y (.bool z)) (hm : behindInMarks op r = false := by with_unfolding_all rfl) : ET c Z U (.Compare l [op] [r] p) z := fun q s S Q E k =>
 wpAny_isTrue_Compare1 (hl q s S fun v s1 ew rB => hr q s1 (S.ev ew) fun u s2 eD rD =>
  ho q s2 v u ((S.ev ew).ev eD).gd (rB.ev eD (S.ev ew).base) rD fun t s3 eH rH => by
   obtain rfl : t = .bool z := rH
   exact wpAny_truthy_bool (k s3 ((ew.tr eD).tr eH))) hm
theorem et_chain {l m r : Expr} {o1 o2 : CmpOp} {p : Pos} {x y z : AV} {a b : Bool} (hl : EV c Z U l x) (hm : EV c Z U m y) (hr : EV c Z U r z) (h1 : Op2 c.C c.A (compareOp o1) x y (.bool a)) (h2 : Op2 c.C c.A (compareOp o2) y z (.bool b))
  (hm2 : behindInMarks o2 r = false := by with_unfolding_all rfl) : ET c Z U (.Compare l [o1, o2] [m, r] p) (a && b) := fun q s S Q E k => by
 rw [arm_isTrue_Compare]
 refine wB (hl q s S fun v s1 ew rB => ?_)
 simp only [evalEach, markedEach, markedBehindIn_of_false hm2]
 refine wB (wpAny_holding (hm q s1 (S.ev ew) fun u s2 eD rD => ?_))
 refine wB (wpAny_standAt ?_)
 refine wB (wpAny_holding (h1 q s2 v u ((S.ev ew).ev eD).gd (rB.ev eD (S.ev ew).base) rD fun t s3 eH rH => ?_))
 obtain rfl : t = .bool a := rH
 refine wB (wpAny_release ?_)
 refine wB (wpAny_holding (wpAny_truthy_bool ?_))
 cases a with
 | false => exact wP (k s3 ((ew.tr eD).tr eH))
 | true =>
  simp only [if_true]
  refine wB (wpAny_holding (hr q s3 (((S.ev ew).ev eD).ev eH) fun w₁ s4 eJ rJ => ?_))
  refine wB (wpAny_standAt ?_)
  refine wB (wpAny_operating (h2 q s4 u w₁ ((((S.ev ew).ev eD).ev eH).ev eJ).gd ((rD.ev eH ((S.ev ew).ev eD).base).ev eJ (((S.ev ew).ev eD).ev eH).base) rJ fun t s5 e5 r5 => ?_))
  obtain rfl : t = .bool b := r5
  exact wpAny_holding (wpAny_truthy_bool (k s5 ((((ew.tr eD).tr eH).tr eJ).tr e5)))
noncomputable def OpT (C : Cx) (A : Around) (x : AV) (b : Bool) : Prop := ∀ q s v, Gd C q s -> Rp C q s.heap x v -> Gt C A s (truthy v) b
theorem opt_bool {C : Cx} {A : Around} {b : Bool} : OpT C A (.bool b) b := fun q s v B r Q E k => by
 obtain rfl : v = .bool b := r
 exact wpAny_truthy_bool (k s .refl)
theorem opt_none {C : Cx} {A : Around} : OpT C A .none false := fun q s v B r Q E k => by
 obtain rfl : v = .none := r
 exact wP (k s .refl)
theorem opt_bytes {C : Cx} {A : Around} {b : List UInt8} (h : b.length <= 1000000) : OpT C A (.bytes b) (!b.isEmpty) := fun q s v B r Q E k => by
 obtain ⟨t, rfl⟩ : ∃ t, v = .bytes ⟨b⟩ t := r
 refine truthy_bytes (by show b.length <= _; lia) ?_
 have e : (((⟨b⟩ : Array UInt8).size : Int) != 0) = !b.isEmpty := by cases b <;> simp; lia
 rw [e]
 exact k _ (.keep fun _ _ e => e)
theorem listTruth {C : Cx} {A : Around} {xs : List AV} (h : xs.length <= 1000000) {q : Addr -> Nat} {s : Shared} {a : Addr} {vs : List Value} (hl : s.heap.IsList a ⟨vs⟩) (rl : RepL q s.heap xs vs) : Gt C A s (truthy (.ref a)) (!xs.isEmpty) := fun k => by
 have hlen := rl.length
 refine wpAny_truthy_list hl (by show ((vs.length : Nat) : Int) < _; lia) ?_
 have e : (!(⟨vs⟩ : Array Value).isEmpty) = !xs.isEmpty := by
  cases xs with
  | nil => cases vs with
   | nil => rfl
   | cons => simp at hlen
  | cons => cases vs with
   | nil => simp at hlen
   | cons => rfl
 rw [e]
 exact k _ (.keep fun _ _ e => e)
theorem opt_lst {C : Cx} {A : Around} {xs : List AV} (h : xs.length <= 1000000) : OpT C A (.lst xs) (!xs.isEmpty) := fun q s v B r => by
 have r' : Rep q s.heap (.lst xs) v := r
 rw [Rep] at r'
 obtain ⟨a, vs, rfl, hp, hl, rl⟩ := r'
 intro Q E k; exact listTruth h hl rl k
theorem opt_own {C : Cx} {A : Around} {xs : List AV} (h : xs.length <= 1000000) : OpT C A (.own xs) (!xs.isEmpty) := fun q s v B r => by
 obtain ⟨a, vs, rfl, hp, hl, rl⟩ := r
 intro Q E k; exact listTruth h hl.isList rl k
theorem et_val {e : Expr} {x : AV} {b : Bool} (h : EV c Z U e x) (ht : OpT c.C c.A x b)
  (he : isTrue e c.env (eval e c.env) = (do let v <- eval e c.env; standAt e.pos; holding [v] (truthy v)) := by rfl) : ET c Z U e b := fun q s S Q E k =>
 wpAny_isTrue_value (h q s S fun v s1 ew rB => ht q s1 v (S.ev ew).gd rB fun s2 eD => k s2 (ew.tr eD)) he
theorem et_not {x : Expr} {p : Pos} {b : Bool} (h : ET c Z U x b) : ET c Z U (.UnaryOp .Not x p) (!b) := fun q s S Q E k => by
 rw [arm_isTrue_UnaryOp]
 exact wB (h q s S fun s1 ew => wP (k s1 ew))
noncomputable def ALL (c : Ac) (Z U : Env1) (op : BoolOp) (es : List Expr) (b : Bool) : Prop := ∀ q s, St c q Z U s -> Gt c.C c.A s (allTrue op es c.env) b
theorem et_bool {op : BoolOp} {es : List Expr} {p : Pos} {b : Bool} (h : ALL c Z U op es b) : ET c Z U (.BoolOp op es p) b := fun q s S Q E k => wpAny_isTrue_BoolOp (h q s S k)
theorem all_and_nil : ALL c Z U .And [] true := fun q s S Q E k => wpAny_allTrue_And_nil (k s .refl)
theorem all_or_nil : ALL c Z U .Or [] false := fun q s S Q E k => wpAny_allTrue_Or_nil (k s .refl)
theorem all_and {x : Expr} {rest : List Expr} {a b : Bool} (h : ET c Z U x a) (hr : a = true -> ALL c Z U .And rest b) : ALL c Z U .And (x :: rest) (a && b) := fun q s S Q E k =>
 wpAny_allTrue_And_cons (h q s S fun s1 ew => by
  cases a with
  | false => exact k s1 ew
  | true => exact hr rfl q s1 (S.ev ew) fun s2 eD => k s2 (ew.tr eD))
theorem all_or {x : Expr} {rest : List Expr} {a b : Bool} (h : ET c Z U x a) (hr : a = false -> ALL c Z U .Or rest b) : ALL c Z U .Or (x :: rest) (a || b) := fun q s S Q E k =>
 wpAny_allTrue_Or_cons (h q s S fun s1 ew => by
  cases a with
  | true => exact k s1 ew
  | false => exact hr rfl q s1 (S.ev ew) fun s2 eD => k s2 (ew.tr eD))
noncomputable def EVB (c : Ac) (Z U : Env1) (op : BoolOp) (es : List Expr) (b : Bool) : Prop := ∀ p q s, St c q Z U s -> Gv c.C c.A q s (boolOp p op (evalEach es c.env)) (.bool b)
theorem ev_boolop {op : BoolOp} {es : List Expr} {p : Pos} {b : Bool} (h : EVB c Z U op es b) : EV c Z U (.BoolOp op es p) (.bool b) := fun q s S Q E k => by
 rw [arm_eval_BoolOp]; exact h p q s S k
theorem evb_one {op : BoolOp} {x : Expr} {b : Bool} (h : EV c Z U x (.bool b)) : EVB c Z U op [x] b := fun p q s S Q E k => h q s S k
theorem evb_and {x y : Expr} {rest : List Expr} {a b : Bool} (h : EV c Z U x (.bool a)) (hr : a = true -> EVB c Z U .And (y :: rest) b) : EVB c Z U .And (x :: y :: rest) (a && b) := fun p q s S Q E k => by
 show wpAny _ _ (boolOp p .And (eval x c.env :: eval y c.env :: evalEach rest c.env)) _ _ _
 refine wB (h q s S fun v s1 ew rB => ?_)
 obtain rfl : v = .bool a := rB
 refine wB (wpAny_standAt (wB (wpAny_holding (wpAny_truthy_bool ?_))))
 cases a with
 | false => exact wP (k _ s1 ew (.of_rep (by rw [Rep]; rfl)))
 | true => exact hr rfl p q s1 (S.ev ew) fun v s2 eD rD => k v s2 (ew.tr eD) rD
theorem evb_or {x y : Expr} {rest : List Expr} {a b : Bool} (h : EV c Z U x (.bool a)) (hr : a = false -> EVB c Z U .Or (y :: rest) b) : EVB c Z U .Or (x :: y :: rest) (a || b) := fun p q s S Q E k => by
 show wpAny _ _ (boolOp p .Or (eval x c.env :: eval y c.env :: evalEach rest c.env)) _ _ _
 refine wB (h q s S fun v s1 ew rB => ?_)
 obtain rfl : v = .bool a := rB
 refine wB (wpAny_standAt (wB (wpAny_holding (wpAny_truthy_bool ?_))))
 cases a with
 | true => exact wP (k _ s1 ew (.of_rep (by rw [Rep]; rfl)))
 | false => exact hr rfl p q s1 (S.ev ew) fun v s2 eD rD => k v s2 (ew.tr eD) rD
theorem ev_if {t x y : Expr} {p : Pos} {b : Bool} {z : AV} (ht : ET c Z U t b) (hx : b = true -> EV c Z U x z) (hy : b = false -> EV c Z U y z) : EV c Z U (.IfExp t x y p) z := fun q s S Q E k => by
 refine IfExp_ (ht q s S fun s1 ew => ?_)
 cases b with
 | true => exact hx rfl q s1 (S.ev ew) fun v s2 eD r => k v s2 (ew.tr eD) r
 | false => exact hy rfl q s1 (S.ev ew) fun v s2 eD r => k v s2 (ew.tr eD) r
noncomputable def GvD (C : Cx) (A : Around) (q : Addr -> Nat) (s : Shared) (t : Sem (List Value)) (avs : List AV) : Prop :=
 ∀ {Q : List Value -> Shared -> Prop} {E : VP}, (∀ vs s', Ev C No No s s' -> RepL q s'.heap avs vs -> Q vs s') -> wpAny (model C.prog C.w) A t Q E s
noncomputable def EVL (c : Ac) (Z U : Env1) (es : List Expr) (xs : List AV) : Prop := ∀ p q s, St c q Z U s -> GvD c.C c.A q s (spliced (backTo p (starEach es c.env))) xs
noncomputable def AV.dp : AV -> Bool
 | .own _ => false
 | .set _ => false
 | .vset _ => false
 | .dict _ => false
 | _ => true
theorem Rp.deep {C : Cx} {q : Addr -> Nat} {h : Heap} {av : AV} {v : Value} (hd : av.dp = true) (r : Rp C q h av v) : Rep q h av v := by
 cases av <;> first | exact r | cases hd
theorem evl_nil : EVL c Z U [] [] := fun p q s S Q E k => wpAny_items_nil (k [] s .refl (by rw [RepL]; trivial))
theorem evl_cons {e : Expr} {rest : List Expr} {x : AV} {xs : List AV} (h : EV c Z U e x) (hr : EVL c Z U rest xs) (hd : x.dp = true := by rfl) (he : starEach (e :: rest) c.env = (false, eval e c.env) :: starEach rest c.env := by rfl) : EVL c Z U (e :: rest) (x :: xs) := fun p q s S Q E k =>
 wpAny_items_cons (h q s S fun v s1 ew rB => hr p q s1 (S.ev ew) fun vs s2 eD rD => k (v :: vs) s2 (ew.tr eD) (by rw [RepL]; exact ⟨Rp.deep hd (rB.ev eD (S.ev ew).base), rD⟩)) he
theorem newTup {C : Cx} {q : Addr -> Nat} {s : Shared} {xs : List AV} {vs : List Value} (B : Base C s.heap) (r : RepL q s.heap xs vs) (Q : VP) (k : ∀ v s', Ev C No No s s' -> Rp C q s'.heap (.tup xs) v -> Q v s') :
  Q (.ref s.heap.objs.size) { s with heap := s.heap.push { cls := .type "tuple", data := .seq vs.toArray } } := by
 have eD : Ev C No No s { s with heap := s.heap.push { cls := .type "tuple", data := .seq vs.toArray } } := .keep fun _ _ e => gP _ e
 refine k _ _ eD (.of_rep ?_)
 rw [Rep]
 exact ⟨_, vs, rfl, ⟨_, Heap.get?_push_size _ rfl, rfl, _, rfl⟩, r.ev eD B⟩
theorem newLst {C : Cx} {q : Addr -> Nat} {s : Shared} {xs : List AV} {vs : List Value} (B : Gd C q s) (r : RepL q s.heap xs vs) (Q : VP) (k : ∀ v s', Ev C No No s s' -> Rp C q s'.heap (.lst xs) v -> Q v s') :
  Q (.ref s.heap.objs.size) { s with heap := s.heap.push { cls := .type "list", data := .seq vs.toArray } } := by
 have eD : Ev C No No s { s with heap := s.heap.push { cls := .type "list", data := .seq vs.toArray } } := .keep fun _ _ e => gP _ e
 refine k _ _ eD (.of_rep ?_)
 rw [Rep]
 exact ⟨_, vs, rfl, B.fr _ (get_fresh _), ⟨_, Heap.get?_push_size _ rfl, rfl, _, rfl⟩, r.ev eD B.base⟩
theorem ev_tup {es : List Expr} {k : Nat} {p : Pos} {xs : List AV} (h : EVL c Z U es xs) (hz : xs.length <= 1000) : EV c Z U (.Tuple es k p) (.tup xs) := fun q s S Q E k => by
 refine wpAny_Tuple (h p q s S fun vs s1 ew rB => ?_)
 have hl := rB.length
 exact ⟨by rw [sizeLine_eq]; omega, newTup (S.ev ew).base rB Q fun v s' e r => k v s' (ew.tr e) r⟩
theorem ev_lst {es : List Expr} {p : Pos} {xs : List AV} (h : EVL c Z U es xs) (hz : xs.length <= 1000) : EV c Z U (.List es p) (.lst xs) := fun q s S Q E k => by
 refine wpAny_List (h p q s S fun vs s1 ew rB => ?_)
 have hl := rB.length
 exact ⟨by rw [sizeLine_eq]; omega, newLst (S.ev ew).gd rB Q fun v s' e r => k v s' (ew.tr e) r⟩
end
section
noncomputable def peC : Addr := 58
noncomputable def Exn (W : Addr -> Prop) (h : Heap) (tr : Bool) (x : Value) : Prop :=
 ∃ e oe vs, x = .ref e /\ W e /\ h.get? e = some oe /\ oe.cls = .ref peC /\ oe.data = .fields vs /\
  ((tr = false /\ vs[1]? = some .none) \/ ∃ T oT ts, vs[1]? = some (.ref T) /\ W T /\ T ≠ e /\ h.get? T = some oT /\ oT.cls = .type "traceback" /\ oT.data = .fields ts /\ 3 < ts.size)
theorem Exn.mono {W W' : Addr -> Prop} {h : Heap} {tr : Bool} {x : Value} (r : Exn W h tr x) (k : ∀ a o, h.get? a = some o -> W a -> W' a) : Exn W' h tr x := by
 refine E36 r ?_; clear r; intro e oe vs h1 h2 h3 h4 h5 h6
 refine ⟨e, oe, vs, h1, k _ _ h3 h2, h3, h4, h5, h6.imp id ?_⟩
 rintro ⟨T, oT, ts, t1, t2, t3, t4, t5⟩
 exact ⟨T, oT, ts, t1, k _ _ t4 t2, t3, t4, t5⟩
theorem Exn.any {W : Addr -> Prop} {h : Heap} {x : Value} (r : Exn W h true x) : Exn W h false x := by
 refine E36 r ?_; clear r; intro e oe vs h1 h2 h3 h4 h5 h6
 exact ⟨e, oe, vs, h1, h2, h3, h4, h5, .inr (h6.resolve_left (by rintro ⟨z, _⟩; cases z))⟩
variable {C : Cx} {W W' : Addr -> Prop} {G G' : Nat -> Prop} {s s' s'' : Shared}
theorem Ev.slots (hc : C.Ok) {S : List Addr} {h' : Heap} (x : Heap.SlotsOnly S s.heap h') (hS : ∀ a ∈ S, C.h₁.get? a = none /\ ∃ o, s.heap.get? a = some o /\ o.cls = .type "frame") : Ev C No No s { s with heap := h' } where
 kp := fun a o e _ _ => by
  by_cases q : a ∈ S
  ·refine E11 (x.2.2 a o e) fun sl h1 => ?_
   obtain ⟨_, o', e', hf⟩ := hS a q
   rw [e] at e'; cases e'
   exact ⟨_, h1, rfl, rfl, rfl, .inl hf⟩
  ·exact ⟨o, (x.2.1 a q).trans e, .refl o⟩
 al := fun a o e => let ⟨sl, h1⟩ := x.2.2 a o e; ⟨_, h1, rfl, id⟩
 gk := fun _ _ e _ => e
 gz := Nat.le_refl _
 bs := fun B => by
  have k : ∀ a o, C.h₁.get? a = some o -> h'.get? a = s.heap.get? a := fun a o e => x.2.1 a fun q => by rw [(hS a q).1] at e; cases e
  refine ⟨fun a o e ht => (k a o e).trans (B.old a o e ht), fun p hp => ?_⟩
  refine E14 (B.tab p hp) ?_; rintro ps i t ⟨ps0, more, e0, e1⟩ z
  refine E13 (hc.base.tab p hp) fun _ i' t' _ => ?_
  obtain ⟨_, _, _, _, _, _, _, _, _, _, ec, _⟩ := i'
  exact ⟨ps, i.at2 (fun o e => (k _ _ ec).trans e) (fun o e => (k _ _ t').trans e), (k _ _ t').trans t, ⟨ps0, more, e0, e1⟩, fun cv e => let ⟨c, oc, vs, tt, y1, y2, y3, y4⟩ := z cv e; ⟨c, oc, vs, tt, y1, (x.2.1 c fun q => by obtain ⟨_, o', ho', hf⟩ := hS c q; rw [y2] at ho'; cases ho'; rw [y3] at hf; exact absurd hf (by simp)).trans y2, y3, y4⟩⟩
 os := rfl
 br := id
theorem Ev.upd (hc : C.Ok) {a : Addr} {f : Obj -> Obj} {o : Obj} (ha : s.heap.get? a = some o) (hn : C.h₁.get? a = none) (hf : (f o).isFreed = false) (hcl : (f o).cls = o.cls) (hr : NotRec o.data -> NotRec (f o).data) (hnc : o.cls ≠ .type "code") :
  Ev C (· = a) G s { s with heap := s.heap.update a f } :=
 .turn hc (tk := s.toks) ha hn (fun b ob hb e => (Heap.get?_update_other _ _ (Ne.symm hb)).trans e) (Heap.get?_update_self _ ha hf) hcl hr hnc
structure Fx (C : Cx) (A : Around) (fl : List Env) (s : Shared) : Prop where
 ok : C.Ok
 base : Base C s.heap
 frames : A.frames = some fl
 frs : s.heap.FunFrames C.h₁ fl
 frf : FrF s.heap fl
theorem Fx.ev {A : Around} {fl : List Env} (x : Fx C A fl s) (e : Ev C W G s s') : Fx C A fl s' := ⟨x.ok, e.bs x.base, x.frames, frs_al e.al x.frs, x.frf.al e.al⟩
theorem Fx.slots {A : Around} {fl : List Env} (x : Fx C A fl s) {h' : Heap} (k : Heap.SlotsOnly (fl.filterMap (·.frame)) s.heap h') : Ev C No No s { s with heap := h' } := by
 refine .slots x.ok k fun a ha => ⟨(x.frs.mem ha).1, ?_⟩
 refine E12 (List.mem_filterMap.mp ha) fun env he hl => ?_
 refine E23 (x.frf env he) fun L o h1 h2 h3 => ?_
 rw [hl] at h1; cases h1
 exact ⟨o, h2, h3⟩
structure Wr (C : Cx) (W : Addr -> Prop) (s : Shared) : Prop where
 new : ∀ a, s.heap.get? a = none -> W a
 old : ∀ a, W a -> C.h₁.get? a = none
theorem Wr.ev (x : Wr C W s) (e : Ev C W' G s s') : Wr C W s' := ⟨fun a h => x.new a (e.gone h), x.old⟩
theorem Ev.into (x : Ev C W G s s') (y : Ev C W' G' s' s'') (hw : ∀ a, W' a -> W a) (hg : ∀ i, G' i -> G i) : Ev C W G s s'' := x.trans y (fun a h => .inl (hw a h)) (fun i h => .inl (hg i h))
section
variable {A : Around} {env : Env} {outer : List Env} {x : Value} {E : VP}
theorem mapF {o : Obj} {vs : Array Value} (hd : o.data = .fields vs) (f : Array Value -> Array Value) : (Obj.mapFields f o).isFreed = false /\ (Obj.mapFields f o).cls = o.cls /\ (Obj.mapFields f o).data = .fields (f vs) /\ (NotRec o.data -> NotRec (Obj.mapFields f o).data) :=
 ⟨Obj.isFreed_of_fields (Obj.data_mapFields hd f), Obj.cls_mapFields _ _, Obj.data_mapFields hd f, fun h => (h vs hd).elim⟩
theorem newEntry_any (F : Fx C A (env :: outer) s) (w : Wr C W s) (X : Exn W s.heap false x) {L : Addr} (hL : env.frame = some L) {hd : Bool} {head : Value} {Q : Unit -> Shared -> Prop}
  (k : ∀ s', Ev C W No s s' -> Exn W s'.heap true x -> Q () s') :
  wpAny (model C.prog C.w) A (do setField x 1 (<- EntryCells.newEntry head (<- frameOf env) .none (rawInt L) .none (<- entryPlaceOf L hd))) Q E s := by
 refine wB (wpAny_frameOf_fun F.frames F.frs hL fun h₁ hs1 => ?_)
 have ew := F.slots hs1
 refine wB (wpAny_entryPlaceOf fun pl hpl => ?_)
 refine wB ?_
 unfold EntryCells.newEntry newFields
 refine wpAny_newObj_type ?_ (hpl.sizeOk5 _ _ _ _ _)
 have eD : Ev C No No { s with heap := h₁ } { s with heap := h₁.push { cls := .type "traceback", dict := none, data := .fields ([head, .ref L, .none, rawInt L, .none] ++ (if pl.isEmpty then List.replicate 6 Value.none else pl)).toArray } } := .keep fun _ _ e => gP _ e
 refine E36 X ?_; clear X; rintro e oe vs rfl hWe he hcl hdd h1
 have ne : oe.cls ≠ .type "frame" := by rw [hcl]; nofun
 have heD : (h₁.push { cls := .type "traceback", dict := none, data := .fields ([head, .ref L, .none, rawInt L, .none] ++ (if pl.isEmpty then List.replicate 6 Value.none else pl)).toArray }).get? e = some oe := by
  have hT : e ∉ C.T := fun ht => by
   have h := w.old e hWe
   refine E12 (List.mem_map.mp ht) ?_; rintro p hp rfl
   refine E13 (F.ok.base.tab p hp) fun _ _ t' _ => ?_
   rw [h] at t'; cases t'
  refine E12 (ew.kp e oe he id hT) fun o' ho' z => ?_
  rw [z.eq ne] at ho'
  exact gP _ ho'
 have hsz : 1 < vs.size := by
  rcases h1 with ⟨_, h⟩ | ⟨T, oT, ts, h, _⟩
  ·exact (Array.getElem?_eq_some_iff.mp h).1
  ·exact (Array.getElem?_eq_some_iff.mp h).1
 refine wpAny_setField heD hdd hsz ?_
 refine E04 (mapF hdd (·.setIfInBounds 1 (Value.ref h₁.objs.size))) fun m1 m2 m3 m4 => ?_
 have eH := Ev.upd (G := No) (s := { s with heap := h₁.push { cls := .type "traceback", dict := none, data := .fields ([head, .ref L, .none, rawInt L, .none] ++ (if pl.isEmpty then List.replicate 6 Value.none else pl)).toArray } }) F.ok heD (w.old e hWe) m1 m2 m4 (by rw [hcl]; simp)
 have hlt : e ≠ h₁.objs.size := by
  intro q
  have := (F.ev ew).base
  refine E12 (ew.al e oe he) fun o' ho' _ => ?_
  exact absurd (Heap.lt_size ho') (by rw [q]; exact Nat.lt_irrefl _)
 refine k _ (((ew.tr eD).up.into (eH.mono (W' := W) (fun a q => .inl (q ▸ hWe)) (fun _ h => .inl h)) (fun _ h => h) (fun _ h => h))) ?_
 refine ⟨e, _, _, rfl, hWe, Heap.get?_update_self _ heD m1, m2.trans hcl, m3, .inr ⟨h₁.objs.size, _, _, by simp [hsz], ?_, Ne.symm hlt, (Heap.get?_update_other _ _ hlt).trans (Heap.get?_push_size h₁ rfl), rfl, rfl, ?_⟩⟩
 ·exact w.new _ (ew.gone (get_fresh h₁))
 ·simp only [List.size_toArray, List.length_append, List.length_cons, List.length_nil]; lia
theorem note_any (F : Fx C A (env :: outer) s) (w : Wr C W s) (X : Exn W s.heap false x) {Q : Unit -> Shared -> Prop}
  (k : ∀ s', Ev C W No s s' -> Exn W s'.heap true x -> Q () s') : wpAny (model C.prog C.w) A (noteFrame x env) Q E s := by
 refine E23 (F.frf env (List.mem_cons_self ..)) fun L oL hL hoL hcL => ?_
 unfold noteFrame
 simp only [hL]
 have X' := X
 refine E36 X ?_; clear X; rintro e oe vs rfl hWe he hcl hdd h1
 rcases h1 with ⟨_, h⟩ | ⟨T, oT, ts, h, hWT, hTe, hT, hcT, hdT, h3⟩
 ·refine wB (wpAny_field he hdd h ?_)
  refine wpEq (if_neg (by decide)) ?_
  exact newEntry_any F w X' hL k
 ·refine wB (wpAny_field he hdd h ?_)
  refine wpEq (if_pos (show (Value.ref T != Value.none) = true from by simp)) ?_
  refine wB (wpAny_field hT hdT (x := ts[3]) (by simp [h3]) ?_)
  by_cases q : (ts[3] == rawInt L) = true
  ·refine wpEq (if_pos q) ?_
   exact wP (k s .refl ⟨e, oe, vs, rfl, hWe, he, hcl, hdd, .inr ⟨T, oT, ts, h, hWT, hTe, hT, hcT, hdT, h3⟩⟩)
  ·refine wpEq (if_neg q) ?_
   refine wB (wpAny_setField hT hdT h3 ?_)
   refine E04 (mapF hdT (·.setIfInBounds 3 Value.none)) fun m1 m2 m3 m4 => ?_
   have ew := Ev.upd (G := No) F.ok hT (w.old T hWT) m1 m2 m4 (by rw [hcT]; simp)
   have e1' : Ev C W No s _ := ew.mono (fun a q => .inl (q ▸ hWT)) (fun _ h => .inl h)
   refine newEntry_any (F.ev ew) (w.ev ew) ⟨e, oe, vs, rfl, hWe, (Heap.get?_update_other _ _ hTe).trans he, hcl, hdd, .inr ⟨T, _, _, h, hWT, hTe, Heap.get?_update_self _ hT m1, m2.trans hcT, m3, by simpa using h3⟩⟩ hL fun s' eD X2 => k s' (e1'.tr eD) X2
theorem flight_any (F : Fx C A (env :: outer) s) (w : Wr C W s) (X : Exn W s.heap true x) {f : Option Addr} {Q : Unit -> Shared -> Prop}
  (k : ∀ s', Ev C W No s s' -> Exn W s'.heap true x -> Q () s') : wpAny (model C.prog C.w) A (setFlight x f) Q E s := by
 refine E36 X ?_; clear X; rintro e oe vs rfl hWe he hcl hdd h1
 refine E37 (h1.resolve_left (by rintro ⟨z, _⟩; cases z)) fun T oT ts h hWT hTe hT hcT hdT h3 => ?_
 unfold setFlight
 refine wB (wpAny_field he hdd h ?_)
 refine wpEq (if_pos (show (Value.ref T != Value.none) = true from by simp)) ?_
 refine wpAny_setField hT hdT h3 ?_
 refine E04 (mapF hdT (·.setIfInBounds 3 (f.elim .none fun f => rawInt f))) fun m1 m2 m3 m4 => ?_
 have ew := Ev.upd (G := No) F.ok hT (w.old T hWT) m1 m2 m4 (by rw [hcT]; simp)
 exact k _ (ew.mono (fun a q => .inl (q ▸ hWT)) (fun _ h => .inl h)) ⟨e, oe, vs, rfl, hWe, (Heap.get?_update_other _ _ hTe).trans he, hcl, hdd, .inr ⟨T, _, _, h, hWT, hTe, Heap.get?_update_self _ hT m1, m2.trans hcT, m3, by simpa using h3⟩⟩
theorem leaving_any (F : Fx C A (env :: outer) s) (w : Wr C W s) (X : Exn W s.heap false x) {Q : Unit -> Shared -> Prop}
  (k : ∀ s', Ev C W No s s' -> Exn W s'.heap true x -> Q () s') : wpAny (model C.prog C.w) A (leaving env x) Q E s := by
 unfold leaving
 exact wB (note_any F w X fun s1 ew X1 => flight_any (F.ev ew) (w.ev ew) X1 fun s2 eD X2 => k s2 (ew.tr eD) X2)
theorem noted_any (F : Fx C A (env :: outer) s) (w : Wr C W s) (X : Exn W s.heap false x)
  (k : ∀ s', Ev C W No s s' -> Exn W s'.heap true x -> E x s') : notedBy (model C.prog C.w) A env E x s := note_any F w X k
theorem cameBack_any (F : Fx C A (env :: outer) s) (w : Wr C W s) (X : Exn W s.heap true x)
  (k : ∀ s', Ev C W No s s' -> Exn W s'.heap true x -> E x s') : cameBackBy (model C.prog C.w) A env E x s := by
 have X' := X
 refine E36 X ?_; clear X; rintro e oe vs rfl hWe he hcl hdd h1
 refine E37 (h1.resolve_left (by rintro ⟨z, _⟩; cases z)) fun T oT ts h hWT hTe hT hcT hdT h3 => ?_
 unfold cameBackBy
 refine wB (wpAny_field he hdd h ?_)
 refine wpEq (if_neg (show ¬ (Value.ref T == Value.none) = true from by simp)) ?_
 exact flight_any F w X' k
end
end
section
set_option tactic.hygienic true
noncomputable def up (x : Str) (av : AV) : Env1 -> Env1
 | [] => [(x, av)]
 | (y, b) :: r => if x == y then (x, av) :: r else (y, b) :: up x av r
theorem up_lookup {x : Str} {av : AV} : ∀ {U : Env1} {y : Str}, (up x av U).lookup y = if y = x then some av else U.lookup y
 | [], y => by
  by_cases h : y = x
  ·subst h; simp [up, List.lookup]
  ·simp [up, List.lookup, h, beq_eq_false_iff_ne.mpr h]
 | (z, b) :: r, y => by
  have ih := up_lookup (x := x) (av := av) (U := r) (y := y)
  unfold up
  by_cases hxz : x = z
  ·subst hxz
   simp only [beq_self_eq_true, if_true, List.lookup]
   by_cases h : y = x
   ·subst h; simp
   ·simp [h, beq_eq_false_iff_ne.mpr h]
  ·simp only [beq_eq_false_iff_ne.mpr hxz, Bool.false_eq_true, if_false, List.lookup]
   by_cases h : y = z
   ·subst h
    simp [Ne.symm hxz]
   ·simp only [beq_eq_false_iff_ne.mpr h]
    exact ih
theorem putName_cls (n : Str) (h : Int) (key v : Value) (o : Obj) : (Obj.putName n h key v o).cls = o.cls := by
 obtain ⟨c, d, dt, sl⟩ := o
 cases dt <;> try rfl
 case dict es n' =>
  simp only [Obj.putName_eq, Obj.putNameByArray]
  split <;> rfl
theorem putName_free (n : Str) (h : Int) (key v : Value) (o : Obj) (hf : o.isFreed = false) : (Obj.putName n h key v o).isFreed = false := by
 obtain ⟨c, d, dt, sl⟩ := o
 cases dt <;> first | rfl | exact hf | skip
 case dict es n' =>
  simp only [Obj.putName_eq, Obj.putNameByArray]
  split <;> rfl
theorem nsSet_cls {M : Model} {A : Around} {a : Addr} {m : Str -> Option Value} {name : Str} {v : Value} {s : Shared} {Q : Unit -> Shared -> Prop} {E : VP} (hn : s.heap.Ns a m)
  (h : ∀ h', h'.Ns a (fun x => if x = name then some v else m x) -> Heap.SameBut a s.heap h' -> (∀ o, s.heap.get? a = some o -> ∃ o', h'.get? a = some o' /\ o'.cls = o.cls) -> Q () { s with heap := h', toks := s.toks + 1 }) :
  wpAny M A (nsSet a name v) Q E s := fun Γ p hΓ => by
 have H := Sem.wp_nsSet M Γ (fun e _ s' => E e s') p s hn name v (fun _ _ s' => ∃ h', s' = { s with heap := h', toks := s.toks + 1 } /\ h'.Ns a (fun x => if x = name then some v else m x) /\ Heap.SameBut a s.heap h') (fun h' x y => ⟨h', rfl, x, y⟩)
 refine E34 hn ?_; clear hn; intro o es ep ho hd hk hm
 simp only [nsSet, strHash, Sem.wp_bind', Sem.wp_cmd_ask, Sem.wp_pure', Sem.wp_cmd_mkText] at H ⊢
 rw [Sem.wp_loadPart_of M Γ _ p { s with toks := s.toks + 1 } (o := o) _ ho] at H ⊢
 have hany : es.any (·.refKey) = false := by
  rw [Array.any_eq_false']; intro e he; refine E21 (hk e he) fun n t h => ?_; simp [DictEntry.refKey, h]
 simp only [hd, aRefKeyMayBeTheName_eq, aRefKeyMayBeTheNameByArray, hany, Bool.and_false, Bool.false_eq_true, if_false, Sem.wp_cmd_updatePart] at H ⊢
 obtain ⟨h1, h', e, hN, hS⟩ := H
 refine ⟨h1, ?_⟩
 rw [e]
 refine h h' hN hS fun oB hoB => ?_
 rw [ho] at hoB; cases hoB
 injection e with ew
 refine E33 hN ?_; clear hN; intro o' es' ep' ho' hd' _
 refine ⟨o', ho', ?_⟩
 rw [<- ew, Heap.get?_update_self _ ho (putName_free _ _ _ _ _ (Heap.get?_some_iff.mp ho).2)] at ho'
 cases ho'
 exact putName_cls ..
section
variable {c : Ac} {q : Addr -> Nat} {Z U : Env1} {s s' : Shared}
theorem St.fx (hc : c.EOk) (S : St c q Z U s) : Fx c.C c.A c.fl s := ⟨hc.C, S.base, hc.frames, S.frs, S.frf⟩
theorem St.locC (hc : c.Ok) (S : St c q Z U s) : ∃ o, s.heap.get? c.env.locals = some o /\ o.cls = .type "frame" := by
 refine E11 hc.top fun o ht => ?_
 refine E23 (S.frf c.env (by rw [ht]; exact List.mem_cons_self ..)) fun L ob h1 h2 h3 => ?_
 rw [hc.fr] at h1; cases h1
 exact ⟨ob, h2, h3⟩
theorem Agree.tr {C : Cx} {W : Addr -> Prop} {G : Nat -> Prop} {q q' q'' : Addr -> Nat} (x : Agree s.heap q q') (e : Ev C W G s s') (y : Agree s'.heap q' q'') : Agree s.heap q q'' := fun a o h => by
 refine E12 (e.al a o h) fun o' h' _ => ?_
 exact (y a o' h').trans (x a o h)
theorem St.store (hc : c.Ok) (S : St c q Z U s) {x : Str} {av : AV} {v : Value} (hx : c.env.kindOf x = some .local) (r : Rp c.C q s.heap av v) (ow : av.ow = true -> ∀ a, v = .ref a -> c.W a) {Q : Unit -> Shared -> Prop} {E : VP}
  (k : ∀ s', Ev c.C (· = c.env.locals) No s s' -> St c q Z (up x av U) s' -> Q () s') : wpAny (model c.C.prog c.C.w) c.A (storeName c.env x v) Q E s := by
 refine E12 S.loc fun m hn hl => ?_
 refine E12 (S.locC hc) fun oL hoL hcL => ?_
 rw [storeName_local hx (by rw [hc.kind]; rfl)]
 refine nsSet_cls hn fun h' hn' hsb hcl => ?_
 refine E33 (id hn') fun o' es' ep' ho' hd' _ => ?_
 have hcl' : o'.cls = oL.cls /\ (NotRec oL.data -> NotRec o'.data) := ⟨by refine E12 (hcl oL hoL) fun oz h2 h3 => ?_; rw [ho'] at h2; cases h2; exact h3, fun _ vs e => by rw [hd'] at e; cases e⟩
 have e : Ev c.C (· = c.env.locals) No s { s with heap := h', toks := s.toks + 1 } := .turn hc.C hoL S.own.1 hsb.extBut ho' hcl'.1 hcl'.2 (by rw [hcL]; simp)
 have md : Mild (· ≠ c.env.locals) (· = c.env.locals) s.heap := fun a ha => ⟨fun h => h ha, fun o ho => by subst ha; rw [hoL] at ho; cases ho; rw [hcL]; exact ⟨nofun, nofun⟩⟩
 have kp := e.kept S.base md
 have mono : ∀ av v, Rp c.C q s.heap av v -> Rp c.C q h' av v := fun av v r => r.mono kp (fun a o ho hne _ h => by subst h; rw [hoL] at ho; cases ho; exact hne hcL) .refl
 refine k _ e ?_
 exact {
  base := e.bs S.base
  col := S.col.ev e
  new := fun a h => S.new a (e.gone h)
  loc := ⟨_, hn', fun y av' h => by
   rw [up_lookup] at h
   by_cases hy : y = x
   ·rw [if_pos hy] at h; cases h
    subst hy
    exact ⟨hx, v, by simp, mono _ _ r, ow⟩
   ·rw [if_neg hy] at h
    obtain ⟨hk, u, hu, r', ow'⟩ := hl y av' h
    exact ⟨hk, u, by simp [hy, hu], mono _ _ r', ow'⟩⟩
  cel := fun y av' h => by
   obtain ⟨kk, a, o, u, h1, hqa, h2, h3, r'⟩ := S.cel y av' h
   have hne : a ≠ c.env.locals := fun h => by
    subst h
    refine E33 hn ?_; clear hn; intro oB _ _ h4 h5 _
    rw [h2] at h4; cases h4; rw [h3] at h5; cases h5
   exact ⟨kk, a, o, u, h1, hqa, hsb.extBut a o hne h2, h3, mono _ _ r'⟩
  frs := frs_al e.al S.frs
  frf := S.frf.al e.al
  own := S.own }
end
end
noncomputable def Wq (c : Ac) (q : Addr -> Nat) : Addr -> Prop := fun a => c.W a /\ (q a = 1 \/ a = c.env.locals)
noncomputable def AgX (W : Addr -> Prop) (h : Heap) (q q' : Addr -> Nat) : Prop := ∀ a o, h.get? a = some o -> ¬ W a -> q' a = q a
noncomputable def Nw (s : Shared) : Addr -> Prop := fun a => s.heap.get? a = none
structure Out (c : Ac) (Z : Env1) (q : Addr -> Nat) (s : Shared) (N : Env1 -> Prop) (R : AV -> Prop) (X : Prop) (Q : Flow -> Shared -> Prop) (E : VP) : Prop where
 n : ∀ q' U' s', N U' -> Agree s.heap q q' -> Ev c.C (Wq c q) No s s' -> St c q' Z U' s' -> Q .next s'
 r : ∀ q' av v s', R av -> AgX c.W s.heap q q' -> Ev c.C (Wq c q) No s s' -> Gd c.C q' s' -> Rp c.C q' s'.heap av v -> Q (.ret v) s'
 x : X -> ∀ x s', Ev c.C (Wq c q) No s s' -> Exn (Nw s) s'.heap false x -> E x s'
section
variable {c : Ac} {q qB : Addr -> Nat} {Z U : Env1} {s s1 s' : Shared} {N N' : Env1 -> Prop} {R R' : AV -> Prop} {X X' : Prop} {Q : Flow -> Shared -> Prop} {E : VP}
theorem Wq.agree (ag : Agree s.heap q qB) : ∀ a, Wq c qB a -> Wq c q a \/ s.heap.get? a = none := fun a h => by
 cases e : s.heap.get? a with
 | none => exact .inr rfl
 | some o => exact .inl ⟨h.1, h.2.imp (fun z => (ag a o e).symm.trans z) id⟩
theorem Ev.wq (x : Ev c.C (Wq c q) No s s1) (ag : Agree s.heap q qB) (y : Ev c.C (Wq c qB) No s1 s') : Ev c.C (Wq c q) No s s' :=
 x.trans y (Wq.agree ag) (fun _ h => h.elim)
theorem Out.after (o : Out c Z q s N R X Q E) (ag : Agree s.heap q qB) (x : Ev c.C (Wq c q) No s s1) : Out c Z qB s1 N R X Q E where
 n := fun q' U' s' hN ag' x' S => o.n q' U' s' hN (ag.tr x ag') (x.wq ag x') S
 r := fun q' av v s' hR ag' x' g r => o.r q' av v s' hR (fun a ob e nw => by
  refine E12 (x.al a ob e) fun o' e' _ => ?_
  exact (ag' a o' e' nw).trans (ag a ob e)) (x.wq ag x') g r
 x := fun hX v s' x' r => o.x hX v s' (x.wq ag x') (r.mono fun a _ _ h => x.gone h)
theorem Out.with (o : Out c Z q s N R X Q E) (hN : ∀ U, N' U -> N U) (hR : ∀ a, R' a -> R a) (hX : X' -> X) : Out c Z q s N' R' X' Q E :=
 ⟨fun q' U' s' h => o.n q' U' s' (hN _ h), fun q' av v s' h => o.r q' av v s' (hR _ h), fun h => o.x (hX h)⟩
noncomputable def S1 (c : Ac) (Z U : Env1) (st : Stmt) (N : Env1 -> Prop) (R : AV -> Prop) (X : Prop) : Prop :=
 ∀ q s, St c q Z U s -> ∀ Q E, Out c Z q s N R X Q E -> wpAny (model c.C.prog c.C.w) c.A (exec st c.env) Q E s
noncomputable def SX (c : Ac) (Z U : Env1) (sts : List Stmt) (N : Env1 -> Prop) (R : AV -> Prop) (X : Prop) : Prop :=
 ∀ q s, St c q Z U s -> ∀ Q E, Out c Z q s N R X Q E -> wpAny (model c.C.prog c.C.w) c.A (execs sts c.env) Q E s
theorem s_nil (h : N U) : SX c Z U [] N R X := fun q s S Q E o => wpAny_execs_nil (o.n q U s h .refl .refl S)
theorem s_cons {st : Stmt} {rest : List Stmt} {N1 : Env1 -> Prop} (h : S1 c Z U st N1 R X) (k : ∀ U', N1 U' -> SX c Z U' rest N R X) : SX c Z U (st :: rest) N R X := fun q s S Q E o =>
 wpAny_execs_cons (h q s S _ E ⟨fun q' U' s' hN ag x S' => k U' hN q' s' S' Q E (o.after ag x), fun q' av v s' hR ag x g r => o.r q' av v s' hR ag x g r, o.x⟩)
theorem s_then {st : Stmt} {rest : List Stmt} {U₁ : Env1} (h : S1 c Z U st (· = U₁) R X) (k : SX c Z U₁ rest N R X) : SX c Z U (st :: rest) N R X :=
 s_cons h fun _ e => e ▸ k
theorem S1.weak {st : Stmt} (h : S1 c Z U st N' R' X') (hN : ∀ U, N' U -> N U) (hR : ∀ a, R' a -> R a) (hX : X' -> X) : S1 c Z U st N R X := fun q s S Q E o => h q s S Q E (o.with hN hR hX)
theorem SX.weak {st : List Stmt} (h : SX c Z U st N' R' X') (hN : ∀ U, N' U -> N U) (hR : ∀ a, R' a -> R a) (hX : X' -> X) : SX c Z U st N R X := fun q s S Q E o => h q s S Q E (o.with hN hR hX)
theorem Ev.loc (S : St c q Z U s) (x : Ev c.C (· = c.env.locals) No s s') : Ev c.C (Wq c q) No s s' := x.mono (fun a h => .inl (by subst h; exact ⟨S.own.2.2, .inr rfl⟩)) (fun _ h => h.elim)
theorem s_assign (hc : c.Ok) {x : Str} {p p' : Pos} {e : Expr} {av : AV} (h : EV c Z U e av) (hx : c.env.kindOf x = some .local) (how : av.ow = false := by rfl)
  (hs : swapsWith e (some (.Name x p')) p.line c.env = pure false := by rfl) : S1 c Z U (.Assign [.Name x p'] e p) (· = up x av U) R X := fun q s S Q E o =>
 wpAny_Assign_Name (h q s S fun v s1 ew rB => (S.ev ew).store hc hx rB (fun z => by rw [how] at z; cases z) fun s2 eD S2 =>
  o.n q _ s2 rfl .refl (ew.up.tr (eD.loc (S.ev ew))) S2) hs
theorem s_return (hc : c.Ok) {e : Expr} {p : Pos} {av : AV} (h : EV c Z U e av) (hR : R av) : S1 c Z U (.Return (some e) p) N R X := fun q s S Q E o =>
 wpAny_Return_some (h q s S fun v s1 ew rB => o.r q av v s1 hR (fun _ _ _ _ => rfl) ew.up (S.ev ew).gd rB)
theorem s_if {t : Expr} {body els : List Stmt} {p : Pos} {b : Bool} (ht : ET c Z U t b) (h1 : b = true -> SX c Z U body N R X) (h2 : b = false -> SX c Z U els N R X) : S1 c Z U (.If t body els p) N R X := fun q s S Q E o =>
 wpAny_If (ht q s S fun s1 ew => by
  cases b with
  | true => exact h1 rfl q s1 (S.ev ew) Q E (o.after .refl ew.up)
  | false => exact h2 rfl q s1 (S.ev ew) Q E (o.after .refl ew.up))
theorem s_assert (hc : c.Ok) {t : Expr} {p : Pos} (ht : ET c Z U t true) : S1 c Z U (.Assert t none p) (· = U) R X := fun q s S Q E o =>
 wpAny_Assert hc.room.h (ht q s S fun s1 ew => o.n q U s1 rfl .refl ew.up (S.ev ew))
theorem s_aug (hc : c.Ok) {x : Str} {op : Operator} {e : Expr} {p p' : Pos} {u av z : AV} (hl : U.lookup x = some u) (hx : c.env.kindOf x = some .local) (h : EV c Z U e av) (ho : Op2 c.C c.A (inplaceOp op) u av z) (how : z.ow = false := by rfl) :
  S1 c Z U (.AugAssign (.Name x p') op e p) (· = up x z U) R X := fun q s S Q E o => by
 refine E12 S.loc fun m hn hv => ?_
 obtain ⟨hk, v, hm, r, _⟩ := hv x u hl
 refine wpAny_AugAssign_Name (wpAny_loadName_local hc.kind hk hn hm ?_)
 exact h q s S fun v' s1 ew rB => ho q s1 v v' (S.ev ew).gd (r.ev ew S.base) rB fun t s2 eD rD => ((S.ev ew).ev eD).store hc hx rD (fun z => by rw [how] at z; cases z) fun s3 eH S3 =>
  o.n q _ s3 rfl .refl ((ew.tr eD).up.tr (eH.loc ((S.ev ew).ev eD))) S3
theorem s_own (hc : c.Ok) {x : Str} {p p' p'' : Pos} {es : List Expr} {xs : List AV} (h : EVL c Z U es xs) (hz : xs.length <= 1000) (hx : c.env.kindOf x = some .local)
  (hs : swapsWith (.List es p'') (some (.Name x p')) p.line c.env = pure false := by rfl) : S1 c Z U (.Assign [.Name x p'] (.List es p'') p) (· = up x (.own xs) U) R X := fun q s S Q E o => by
 refine wpAny_Assign_Name (wpAny_List (h p'' q s S fun vs s1 ew rB => ⟨by have := rB.length; rw [sizeLine_eq]; lia, ?_⟩)) hs
 have SB := S.ev ew
 have eD : Ev c.C No No s1 { s1 with heap := s1.heap.push { cls := .type "list", data := .seq vs.toArray } } := .keep fun _ _ e => gP _ e
 have ag : Agree s1.heap q fun a => if a = s1.heap.objs.size then 1 else q a := fun a ob e => if_neg fun z => by subst z; exact absurd (Heap.lt_size e) (Nat.lt_irrefl _)
 have S2 : St c (fun a => if a = s1.heap.objs.size then 1 else q a) Z U { s1 with heap := s1.heap.push { cls := .type "list", data := .seq vs.toArray } } :=
  SB.step (R := fun _ => True) eD .no (fun _ _ => trivial) ag fun a ha => by
   by_cases z : a = s1.heap.objs.size
   ·subst z
    exact ⟨SB.base.gone (get_fresh _), _, Heap.get?_push_size _ rfl, by show Value.type "list" ≠ Value.type "tuple"; simp, by show Value.type "list" ≠ _; simp⟩
   ·exact (SB.col.ev eD) a (by have h : (if a = s1.heap.objs.size then 1 else q a) ≠ 0 := ha; rwa [if_neg z] at h)
 have rl : RepL (fun a => if a = s1.heap.objs.size then 1 else q a) (s1.heap.push { cls := .type "list", data := .seq vs.toArray }) xs vs :=
  RepL.mono (eD.kept (R := fun _ => True) SB.base .no) (fun _ _ _ _ _ => trivial) (fun a ob e z => (ag a ob e).trans z) _ _ rB
 have rD : Rp c.C (fun a => if a = s1.heap.objs.size then 1 else q a) (s1.heap.push { cls := .type "list", data := .seq vs.toArray }) (.own xs) (.ref s1.heap.objs.size) :=
  ⟨_, vs, rfl, if_pos rfl, ⟨_, _, Heap.get?_push_size _ rfl, rfl, rfl, rfl⟩, rl⟩
 refine S2.store hc hx rD (fun _ a e => by cases e; exact (SB.fr _ (get_fresh _)).2) fun s3 eH S3 => ?_
 have ag0 : Agree s.heap q fun a => if a = s1.heap.objs.size then 1 else q a := Agree.tr .refl ew ag
 exact o.n _ _ s3 rfl ag0 ((ew.tr eD).up.wq ag0 (eH.loc S2)) S3
theorem s_ret_own (hc : c.Ok) {x : Str} {p p' : Pos} {xs : List AV} (hl : U.lookup x = some (.own xs)) (hR : R (.lst xs)) (hd : (x == ("__debug__" : Str)) = false := by rfl) : S1 c Z U (.Return (some (.Name x p')) p) N R X := fun q s S Q E o => by
 refine E12 S.loc fun m hn hv => ?_
 obtain ⟨hk, v, hm, ⟨a, vs, rfl, hq, hi, rl⟩, hw⟩ := hv x _ hl
 refine wpAny_Return_some (wpAny_Name (wpAny_loadName_local hc.kind hk hn hm ?_) hd)
 have hWa := hw rfl a rfl
 refine o.r (fun b => if b = a then 0 else q b) (.lst xs) _ s hR (fun b ob e hnW => if_neg fun z : b = a => hnW (z ▸ hWa)) .refl ⟨S.base, fun b h => ?_⟩ (.of_rep ?_)
 ·refine S.col b fun z => h ?_
  show (if _ then _ else _) = 0
  split
  ·rfl
  ·exact z
 ·rw [Rep]
  refine ⟨a, vs, rfl, if_pos rfl, hi.isList, RepL.mono (R := fun _ => True) (fun b ob e _ _ => ⟨ob, e, .refl ob⟩) (fun _ _ _ _ _ => trivial) (fun b ob e z => ?_) _ _ rl⟩
  show (if _ then _ else _) = 0
  split
  ·rfl
  ·exact z
theorem s_raise (hc : c.Ok) {x : Str} {np cp p : Pos} {e : Expr} {av : AV} (hf : EV c Z U (.Name x np) (.raw (.ref peC))) (h : EV c Z U e av)
  (hs : starEach [e] c.env = [(false, eval e c.env)] := by rfl) : S1 c Z U (.Raise (some (.Call (.Name x np) [e] [] cp)) none p) N R True := fun q s S Q E o => by
 obtain ⟨_, h58, a1, a2, a3, a4, a5, a6, a7, a8, a9, b1, b2, b3, b4, b5, rfl⟩ := hc.C.pe.c58
 refine E12 hc.C.pe.n57 fun m57 n57 i57 => ?_
 refine wpAny_Raise_call_subU PySem.F.excBase_Exception (bmB := bmB) (by decide) PySem.F.excBase_Exception (C := 58) (N := 57) (nm := a1) (q := a2) (bs := a3) (hdct := a4) (sn := a5) (sub := a6) (ab := a7) (col := a8) (dd := a9) (k0 := b1) (k1 := b2) (k2 := b3) (k3 := b4) (k5 := b5) (newId := "Exception.__new__") (mN := m57) (bm := .ref 45 :: bmB) (by decide) hc.room.h (by rw [hs]; rfl) i57 ?_
 refine hf q s S fun f s1 ew rB => ?_
 obtain rfl : f = .ref peC := rB
 refine ⟨rfl, ?_⟩
 rw [hs]
 refine Calls.evalArgs_plain (Calls.spliced_cons (h q s1 (S.ev ew) fun v s2 eD rD => Calls.spliced_nil ?_))
 have B2 := ((S.ev ew).ev eD).base
 refine ⟨rfl, by rw [sizeLine_eq]; show 1 <= _; lia, B2.old _ _ h58 (hc.C.tpe _ (by simp)), B2.ns hc.C (hc.C.tpe _ (by simp)) n57, (B2.pe hc.C).tail, fun h' e hm => ?_⟩
 have eH : Ev c.C No No s2 { s2 with heap := h' } := .keep hm.keeps
 refine E12 hm.there fun t ht _ => ?_
 exact o.x trivial _ _ ((ew.tr eD).tr eH).up ⟨e, _, _, rfl, (ew.tr eD).gone hm.new, ht, rfl, rfl, .inl ⟨rfl, rfl⟩⟩
end
section
variable {M : Model} {A : Around} {E : VP} {s : Shared}
theorem lookup_snoc {β : Type} (l : List (Str × β)) (n : Str) (v : β) : (fun x => (l ++ [(n, v)]).reverse.lookup x) = fun x => if x = n then some v else l.reverse.lookup x := by
 funext x
 rw [List.reverse_append]
 show List.lookup x ((n, v) :: l.reverse) = _
 by_cases h : x = n
 ·subst h; simp [List.lookup]
 ·simp [List.lookup, h, beq_eq_false_iff_ne.mpr h]
theorem storeAll {env : Env} {L : Addr} (hL : env.locals = L) (hk : env.scope.kind = .function) (binds : List (Str × Value)) (hl : ∀ x ∈ binds, env.kindOf x.1 = some .local)
  {oL : Obj} (hoL : s.heap.get? L = some oL) (hcL : oL.cls = .type "frame") (hn : s.heap.Ns L fun _ => none) {Q : PUnit -> Shared -> Prop}
  (k : ∀ h' tk, h'.Ns L (fun x => binds.reverse.lookup x) -> (∃ o, h'.get? L = some o /\ o.cls = .type "frame") -> Heap.SameBut L s.heap h' -> Q ⟨⟩ { s with heap := h', toks := tk }) :
  wpAny M A (forIn binds PUnit.unit fun (x : Str × Value) r => do storeName env x.1 x.2; pure (ForInStep.yield PUnit.unit)) Q E s := by
 refine wpAny_forIn_list _ (fun rest _ s' => ∃ done h' tk, binds = done ++ rest /\ s' = { s with heap := h', toks := tk } /\ h'.Ns L (fun x => done.reverse.lookup x) /\ (∃ o, h'.get? L = some o /\ o.cls = .type "frame") /\ Heap.SameBut L s.heap h') _ ?_ ?_ binds _
  ⟨[], _, _, rfl, rfl, hn, ⟨oL, hoL, hcL⟩, .refl ..⟩
 ·rintro ⟨name, v⟩ rest _ s' ⟨done, h', tk, hb, rfl, hns, ⟨o, ho, hc⟩, hsb⟩
  subst hL
  have hk' : env.kindOf name = some .local := hl (name, v) (by rw [hb]; simp)
  rw [storeName_local hk' (by rw [hk]; rfl)]
  refine wB (nsSet_cls hns fun h'' hns' hsb' hcl => wP ⟨done ++ [(name, v)], h'', _, by simp [hb], rfl, ?_, ?_, hsb.trans hsb'⟩)
  ·rw [lookup_snoc]; exact hns'
  ·refine E12 (hcl o ho) fun o' h1 h2 => ?_
   exact ⟨o', h1, h2.trans hc⟩
 ·rintro _ s' ⟨done, h', tk, hb, rfl, hns, hc, hsb⟩
  rw [List.append_nil] at hb; subst hb
  exact k h' tk hns hc hsb
theorem newEnv0 {scope : Scope} {globals : Addr} {closure : List (Str × Addr)} {binds : List (Str × Value)} {qual : Str} {func : Option Addr} {code : Value} {builtins : Addr} {Q : Env -> Shared -> Prop}
  (hc : ∀ x ∈ scope.names, x.2 ≠ .cell) (hl : ∀ x ∈ binds, scope.names.lookup x.1 = some .local) (hk : scope.kind = .function)
  (k : ∀ h' tk, h'.Ns s.heap.objs.size (fun x => binds.reverse.lookup x) -> (∃ o, h'.get? s.heap.objs.size = some o /\ o.cls = .type "frame") -> (∀ b o, s.heap.get? b = some o -> h'.get? b = some o) ->
   Q (newEnv scope s.heap.objs.size globals closure qual func code none builtins) { s with heap := h', toks := tk }) :
  wpAny M A (newFunctionEnv scope globals closure binds qual func code none builtins) Q E s := by
 simp only [newFunctionEnv, Option.isSome_none, Bool.false_eq_true, if_false]
 refine wB (wpAny_alloc ?_)
 rw [forIn_yield_id closure (fun x hx c => by
  obtain ⟨name, kind⟩ := x
  have : (kind == NameKind.cell) = false := by simpa using hc _ hx
  simp only [this, Bool.false_eq_true, if_false])]
 refine wB (wP (wB ?_))
 refine storeAll (env := { scope, locals := s.heap.objs.size, globals, cells := closure, qual, func, code, frame := some s.heap.objs.size, builtins }) (L := s.heap.objs.size) rfl hk binds hl
  (Heap.get?_push_size _ rfl) rfl (Heap.Ns.new ..) fun h' tk hns hcl hsb => wP (k h' tk hns hcl fun b o e => hsb.extBut b o (Nat.ne_of_lt (Heap.lt_size e)) (gP _ e))
theorem storeCell {env : Env} {name : Str} {c : Addr} {v : Value} {o : Obj} {v0 : Option Value} {Q : Unit -> Shared -> Prop} (hk : env.scope.kind = .function) (hl : env.kindOf name = some .cell) (hc : env.cells.lookup name = some c) (ho : s.heap.get? c = some o) (hd : o.data = .cell v0)
  (h : ∀ h', h'.get? c = some { o with data := .cell (some v) } -> Heap.SameBut c s.heap h' -> Q () { s with heap := h' }) : wpAny M A (storeName env name v) Q E s := by
 unfold storeName
 rw [hl, hk]
 refine wB (wpAny_cellOf hc ?_)
 unfold cellSet
 refine wB (wpAny_load ho ?_)
 rw [hd]
 exact wpAny_update ho (h _ (Heap.get?_update_self _ ho rfl) (Heap.SameBut.update ..))
theorem newEnv1 {scope : Scope} {globals : Addr} {closure : List (Str × Addr)} {x0 : Str} {v0 : Value} {binds : List (Str × Value)} {qual : Str} {func : Option Addr} {code : Value} {builtins : Addr} {Q : Env -> Shared -> Prop}
  {pre post : List (Str × NameKind)} (hnm : scope.names = pre ++ (x0, .cell) :: post) (hpre : ∀ x ∈ pre, x.2 ≠ .cell) (hpost : ∀ x ∈ post, x.2 ≠ .cell) (hx : scope.names.lookup x0 = some .cell)
  (hl : ∀ x ∈ binds, scope.names.lookup x.1 = some .local) (hk : scope.kind = .function)
  (k : ∀ h' tk, h'.Ns s.heap.objs.size (fun x => binds.reverse.lookup x) -> (∃ o, h'.get? s.heap.objs.size = some o /\ o.cls = .type "frame") -> h'.get? (s.heap.objs.size + 1) = some { cls := .type "cell", data := .cell (some v0) } -> (∀ b o, s.heap.get? b = some o -> h'.get? b = some o) ->
   Q (newEnv scope s.heap.objs.size globals ((x0, s.heap.objs.size + 1) :: closure) qual func code none builtins) { s with heap := h', toks := tk }) :
  wpAny M A (newFunctionEnv scope globals closure ((x0, v0) :: binds) qual func code none builtins) Q E s := by
 simp only [newFunctionEnv, Option.isSome_none, Bool.false_eq_true, if_false]
 refine wB (wpAny_alloc ?_)
 rw [hnm]
 refine wB ?_
 refine wpAny_forIn_list _ (fun rest b s' => (∃ pre', rest = pre' ++ (x0, NameKind.cell) :: post /\ (∀ x ∈ pre', x.2 ≠ .cell) /\ b = closure /\ s' = { s with heap := s.heap.push { cls := .type "frame", data := .dict #[] } }) \/
  ((∀ x ∈ rest, x.2 ≠ .cell) /\ b = (x0, s.heap.objs.size + 1) :: closure /\ s' = { s with heap := (s.heap.push { cls := .type "frame", data := .dict #[] }).push { cls := .type "cell", data := .cell none } })) _ ?_ ?_ _ _ (.inl ⟨pre, rfl, hpre, rfl, rfl⟩)
 ·rintro ⟨x, kd⟩ rest b s' (⟨pre', hr, hp, rfl, rfl⟩ | ⟨hp, rfl, rfl⟩)
  ·cases pre' with
   | nil =>
    simp only [List.nil_append, List.cons.injEq, Prod.mk.injEq] at hr
    refine E02 hr ?_; clear hr; rintro ⟨rfl, rfl⟩ rfl
    simp only [beq_self_eq_true, if_true]
    refine wB (wpAny_alloc (wP (.inr ⟨hpost, ?_, rfl⟩)))
    show (x, (s.heap.push _).objs.size) :: b = _
    rw [Heap.size_push]
   | cons y r =>
    simp only [List.cons_append, List.cons.injEq] at hr
    refine E02 hr ?_; clear hr; rintro rfl rfl
    have : (kd == NameKind.cell) = false := by simpa using hp _ (List.mem_cons_self ..)
    simp only [this, Bool.false_eq_true, if_false]
    exact wP (.inl ⟨r, rfl, fun x hx => hp x (mC _ hx), rfl, rfl⟩)
  ·have : (kd == NameKind.cell) = false := by simpa using hp _ (List.mem_cons_self ..)
   simp only [this, Bool.false_eq_true, if_false]
   exact wP (.inr ⟨fun x hx => hp x (mC _ hx), rfl, rfl⟩)
 ·rintro b s' (⟨pre', hr, _⟩ | ⟨_, rfl, rfl⟩)
  ·exact absurd hr (by simp)
  ·refine wB ?_
   rw [List.forIn_cons]
   refine wB (wB ?_)
   have hc0 : ((s.heap.push { cls := .type "frame", data := .dict #[] }).push { cls := .type "cell", data := .cell none }).get? (s.heap.objs.size + 1) = some { cls := .type "cell", data := .cell none } :=
    Heap.get?_push_at (by rw [Heap.size_push]) rfl
   refine storeCell (env := { scope, locals := s.heap.objs.size, globals, cells := (x0, s.heap.objs.size + 1) :: closure, qual, func, code, frame := some s.heap.objs.size, builtins }) hk hx (by simp [List.lookup]) hc0 rfl fun h' hc' hsb => ?_
   refine wP ?_
   have n1 : s.heap.objs.size ≠ s.heap.objs.size + 1 := Nat.ne_of_lt (Nat.lt_succ_self _)
   have hL := hsb.extBut s.heap.objs.size _ n1 (gP { cls := .type "cell", data := .cell none } (Heap.get?_push_size s.heap (o := { cls := .type "frame", data := .dict #[] }) rfl))
   have hns : h'.Ns s.heap.objs.size fun _ => none := ⟨_, #[], 0, hL, rfl, fun _ he => by simp at he, fun _ => rfl⟩
   refine storeAll (env := { scope, locals := s.heap.objs.size, globals, cells := (x0, s.heap.objs.size + 1) :: closure, qual, func, code, frame := some s.heap.objs.size, builtins }) (L := s.heap.objs.size) rfl hk binds hl
    hL rfl hns fun h'' tk hns' hcl hsb' => wP (k h'' tk hns' hcl ?_ fun b o e => ?_)
   ·exact hsb'.extBut _ _ (Ne.symm n1) hc'
   ·have := Heap.lt_size e
    exact hsb'.extBut b o (Nat.ne_of_lt this) (hsb.extBut b o (Nat.ne_of_lt (Nat.lt_succ_of_lt this)) (gP _ (gP _ e)))
end
structure FnAt (C : Cx) (a : Addr) (fd : FuncData) (body : List Stmt) : Prop where
 ho : ∃ o, C.h₁.get? a = some o /\ o.data = .func fd
 at' : a ∉ C.T
 code : ∃ c oc vs t, fd.code = .ref c /\ c ∉ C.T /\ C.h₁.get? c = some oc /\ oc.data = .fields vs /\ vs[1]? = some (.str fd.qualname t)
 body : fd.body = .stmts body
 co : fd.scope.isCoroutine = false
 kind : fd.scope.kind = .function
 g : fd.globals = 3
 b : fd.builtins = 0
theorem FnAt.codeRec {C : Cx} {a : Addr} {fd : FuncData} {body : List Stmt} (F : FnAt C a fd body) {h : Heap} (B : Base C h) : h.CodeRec fd.code fd.qualname := by
 refine E45 F.code fun c oc vs t h1 h2 h3 h4 h5 => ?_
 exact ⟨c, oc, vs, t, h1, B.old _ _ h3 h2, h4, h5⟩
noncomputable def FC (C : Cx) (n : Nat) (f : Value) (avs : List AV) (R : AV -> Prop) (X : Prop) : Prop :=
 ∀ A fl q s vs, Room n A -> Fx C A fl s -> Gd C q s -> RpL C q s.heap avs vs -> ∀ (Q : VP) (E : VP),
  (∀ av v s', R av -> Ev C No No s s' -> Rp C q s'.heap av v -> Q v s') -> (X -> ∀ x s', Ev C No No s s' -> Exn (Nw s) s'.heap true x -> E x s') ->
  wpAny (model C.prog C.w) A (call f vs) Q E s
theorem RpL.length {C : Cx} {q : Addr -> Nat} {h : Heap} : ∀ {xs : List AV} {vs : List Value}, RpL C q h xs vs -> vs.length = xs.length
 | [], [], _ => rfl
 | x :: xs, v :: vs, r => by simp [RpL.length r.2]
 | [], _ :: _, r => r.elim
 | _ :: _, [], r => r.elim
theorem RpL.zip {C : Cx} {q : Addr -> Nat} {h : Heap} : ∀ {names : List Str} {xs : List AV} {vs : List Value}, RpL C q h xs vs -> ∃ l : List (Str × AV × Value), names.zip xs = l.map (fun p => (p.1, p.2.1)) /\ names.zip vs = l.map (fun p => (p.1, p.2.2)) /\ ∀ p ∈ l, p.2.1 ∈ xs /\ Rp C q h p.2.1 p.2.2
 | [], xs, vs, r => ⟨[], by simp, by simp, by simp⟩
 | n :: ns, [], [], r => ⟨[], by simp, by simp, by simp⟩
 | n :: ns, x :: xs, v :: vs, r => by
  refine E13 (RpL.zip (names := ns) r.2) fun l h1 h2 h3 => ?_
  refine ⟨(n, x, v) :: l, by simp [h1], by simp [h2], fun p hp => ?_⟩
  rcases List.mem_cons.mp hp with rfl | hp
  ·exact ⟨List.mem_cons_self .., r.1⟩
  ·exact ⟨mC _ (h3 p hp).1, (h3 p hp).2⟩
 | _ :: _, [], _ :: _, r => r.elim
 | _ :: _, _ :: _, [], r => r.elim
theorem look_both {x : Str} {av : AV} : ∀ {l : List (Str × AV × Value)}, (l.map (fun p => (p.1, p.2.1))).lookup x = some av -> ∃ v, (l.map (fun p => (p.1, p.2.2))).lookup x = some v /\ (x, av, v) ∈ l
 | [], h => by simp at h
 | (y, a, v) :: l, h => by
  simp only [List.map_cons, List.lookup] at h ⊢
  by_cases e : x = y
  ·subst e
   simp only [beq_self_eq_true] at h ⊢
   cases h
   exact ⟨v, rfl, List.mem_cons_self ..⟩
  ·simp only [beq_eq_false_iff_ne.mpr e] at h ⊢
   refine E12 (look_both h) fun v' h1 h2 => ?_
   exact ⟨v', h1, mC _ h2⟩
theorem Room.deep {n : Nat} {A : Around} (r : Room (n + 1) A) (env : Env) : Room n (A.deeper env) := ⟨r.1, by have := r.2.1; show A.depth + 1 + 3 * n + 20 <= 1000; lia, by have := r.2.2; show A.units + 3 + 30 * n + 300 <= 9900; lia⟩
theorem Room.in1 {n : Nat} {A : Around} (r : Room (n + 1) A) : Room n A.in1 := ⟨r.1, by have := r.2.1; show A.depth + 3 * n + 20 <= 1000; omega, by have := r.2.2; show A.units + 1 + 30 * n + 300 <= 9900; lia⟩
noncomputable def BindW (C : Cx) (fd : FuncData) (names : List Str) : Prop := ∀ (vs : List Value) (A : Around) (Q : List (Str × Value) -> Shared -> Prop) (E : VP) (s : Shared), Base C s.heap -> vs.length = names.length -> Q (names.zip vs) s -> wpAny (model C.prog C.w) A (bindArgs fd ⟨vs, []⟩) Q E s
theorem bindW {C : Cx} {fd : FuncData} {names : List Str} (h : ∀ vs : List Value, vs.length = names.length -> bindArgs fd ⟨vs, []⟩ = pure (names.zip vs)) : BindW C fd names := fun vs A Q E s _ hl k => by rw [h vs hl]; exact wP k
theorem fc_of {C : Cx} {n : Nat} {a : Addr} {fd : FuncData} {body : List Stmt} {names : List Str} {avs : List AV} {R : AV -> Prop} {X : Prop} (hC : C.Ok) (F : FnAt C a fd body) (hg : fd.scope.isGenerator = false) (hcell : ∀ x ∈ fd.scope.names, x.2 ≠ .cell)
  (hb : BindW C fd names) (hlen : avs.length = names.length) (hloc : ∀ x ∈ names, fd.scope.names.lookup x = some .local) (how : ∀ av ∈ avs, av.ow = false)
  (hR : ∀ xs, ¬ R (.own xs)) (hS : ∀ xs, ¬ R (.set xs) /\ ¬ R (.vset xs) /\ ∀ ys, ¬ R (.dict ys))
  (H : ∀ c : Ac, c.Ok -> c.C = C -> c.n = n -> c.env.scope = fd.scope -> SX c [] (names.zip avs).reverse body (fun _ => R .none) R X) : FC C (n + 1) (.ref a) avs R X := by
 intro A fl q s vs hr hF hG hrl Q E hQ hX
 refine E12 F.ho fun o hoB hdat => ?_
 have ho := hF.base.old _ _ hoB F.at'
 refine wpAny_call (codeAny_call_function hr.d ho hdat F.co hg F.body (F.codeRec hF.base) ?_)
 refine hb vs _ _ _ _ hF.base (by rw [hrl.length, hlen]) (newEnv0 hcell (fun x hx => hloc _ (List.of_mem_zip (show (x.1, x.2) ∈ _ from hx)).1) F.kind fun h' tk hns hcl hkeep => ?_)
 have ew : Ev C No No s { s with heap := h', toks := tk } := .keep hkeep
 have Fw := hF.ev ew
 refine ⟨Fw.base.lim hC, codeAny_func ?_⟩
 have hnew : C.h₁.get? s.heap.objs.size = none := hF.base.gone (get_fresh _)
 let env := newEnv fd.scope s.heap.objs.size fd.globals fd.closure (fd.qualname ++ ".<locals>.") (some a) fd.code none fd.builtins
 let c : Ac := ⟨C, A.deeper env, env, env :: fl, n, Nw s⟩
 have hc : c.Ok := .mk' hC (hr.deep env) (by show A.frames.map _ = _; rw [hF.frames]; rfl) ⟨fl, rfl⟩ F.kind F.g F.b rfl
 refine E12 hcl ?_; clear hcl; intro oL hoL hcL
 have S : St c q [] (names.zip avs).reverse { s with heap := h', toks := tk } := {
  base := Fw.base
  col := hG.col.ev ew
  new := fun b h => ew.gone h
  loc := ⟨_, hns, fun x av h => by
   refine E13 (RpL.zip (names := names) hrl) fun l h1 h2 h3 => ?_
   rw [h1, <- List.map_reverse] at h
   refine E12 (look_both h) fun v h4 h5 => ?_
   have h6 := h3 _ (List.mem_reverse.mp h5)
   refine ⟨?_, v, by rw [h2, <- List.map_reverse]; exact h4, h6.2.ev ew hF.base, fun z => by rw [how _ h6.1] at z; cases z⟩
   have : (x, v) ∈ names.zip vs := by rw [h2]; exact List.mem_map.mpr ⟨_, List.mem_reverse.mp h5, rfl⟩
   exact hloc _ (List.of_mem_zip this).1⟩
  cel := fun x av h => by simp [List.lookup] at h
  frs := ⟨by show fd.scope.kind ≠ .module; rw [F.kind]; nofun, ⟨_, oL, rfl, hnew, hoL, fun vs e => by refine E33 hns ?_; clear hns; intro o' _ _ ho' hd' _; rw [hoL] at ho'; cases ho'; rw [hd'] at e; cases e⟩, Fw.frs⟩
  frf := fun en hen => by
   rcases List.mem_cons.mp hen with rfl | hen
   ·exact ⟨_, oL, rfl, hoL, hcL⟩
   ·exact Fw.frf en hen
  own := ⟨hnew, hG.fr _ (get_fresh _), get_fresh _⟩ }
 have toNo : ∀ s', Ev C (Wq c q) No { s with heap := h', toks := tk } s' -> Ev C No No s s' := fun s' x => ew.trans x (fun b hb => .inr hb.1) (fun _ h => h.elim)
 refine H c hc rfl rfl rfl q _ S _ _ ⟨fun q' U' s' hN ag x S' => hQ .none .none s' hN (toNo s' x) (.of_rep (by rw [Rep])), fun q' av v s' hR' ag x g r => ?_, fun hX' x s' eD X2 => ?_⟩
 ·refine hQ av v s' hR' (toNo s' x) ?_
  have deep : Rep q' s'.heap av v := by
   cases av <;> first | exact r | exact absurd hR' (hR _) | exact absurd hR' (hS _).1 | exact absurd hR' (hS _).2.1 | exact absurd hR' ((hS []).2.2 _)
  refine .of_rep (Rep.mono (R := fun _ => True) (fun b ob e _ _ => ⟨ob, e, .refl ob⟩) (fun _ _ _ _ _ => trivial) (fun b ob e z => ?_) _ _ deep)
  cases hs : s.heap.get? b with
  | none => exact hG.fr b hs
  | some ob' => exact (ag b _ (hkeep _ _ hs) (fun h => by have h' : s.heap.get? b = none := h; rw [hs] at h'; cases h')).symm.trans z
 ·have F2 : Fx C (A.deeper env) (env :: fl) s' := ⟨hC, eD.bs Fw.base, hc.frames, frs_al eD.al S.frs, S.frf.al eD.al⟩
  have W2 : Wr C (Nw s) s' := ⟨fun b h => (toNo s' eD).gone h, fun b h => hF.base.gone h⟩
  refine leaving_any F2 W2 (X2.mono fun b _ _ h => ew.gone h) fun s'' eH X3 => ?_
  exact hX hX' x s'' ((toNo s' eD).trans eH (fun b h => .inr h) (fun _ h => .inl h)) X3
section
structure Apart (O K W : Addr -> Prop) (OG G : Nat -> Prop) (h : Heap) : Prop where
 o : ∀ a, W a -> ¬ O a /\ ¬ K a
 t : ∀ a o, W a -> h.get? a = some o -> o.cls ≠ .type "tuple" /\ o.cls ≠ .ref hvf
 g : ∀ i, G i -> ¬ OG i
theorem Apart.no {O K : Addr -> Prop} {OG : Nat -> Prop} {h : Heap} : Apart O K No OG No h := ⟨fun _ h => h.elim, fun _ _ h => h.elim, fun _ h => h.elim⟩
structure Owns (C : Cx) (O K : Addr -> Prop) (OG : Nat -> Prop) (s : Shared) : Prop where
 o : ∀ a, O a -> C.h₁.get? a = none /\ ∃ o, s.heap.get? a = some o /\ o.cls ≠ .type "tuple" /\ o.cls ≠ .ref hvf
 k : ∀ a, K a -> ∃ o, s.heap.get? a = some o /\ (o.cls = .type "list" \/ o.cls = .type "dict")
 g : ∀ i, OG i -> i < s.gens.size
noncomputable def R0 (h : Heap) (av : AV) (v : Value) : Prop := Rep (fun _ => 1) h av v
noncomputable def StrS (C : Cx) (n : Nat) (err : Bool) (K : Addr -> Prop) (it : Value) : List AV -> (Addr -> Prop) -> (Nat -> Prop) -> Shared -> Prop
 | [], O, OG, s => Owns C O K OG s /\ ∀ s1 W G, Ev C W G s s1 -> Apart O K W OG G s.heap -> ∀ A fl, Room n A -> Fx C A fl s1 -> ∀ (Q : Option Value -> Shared -> Prop) (E : VP),
   (err = false -> ∀ s2, Ev C O OG s1 s2 -> Q none s2) -> (err = true -> ∀ x s2, Ev C O OG s1 s2 -> Exn (Nw s1) s2.heap true x -> E x s2) -> wpAny (model C.prog C.w) A (pyNext it) Q E s1
 | x :: xs, O, OG, s => Owns C O K OG s /\ ∀ s1 W G, Ev C W G s s1 -> Apart O K W OG G s.heap -> ∀ A fl, Room n A -> Fx C A fl s1 -> ∀ (Q : Option Value -> Shared -> Prop) (E : VP),
   (∀ v s2 O' OG', Ev C O OG s1 s2 -> R0 s2.heap x v -> (∀ a, O' a -> O a \/ Nw s1 a) -> (∀ i, OG' i -> OG i \/ s1.gens.size <= i) -> StrS C n err K it xs O' OG' s2 -> Q (some v) s2) -> wpAny (model C.prog C.w) A (pyNext it) Q E s1
variable {C : Cx} {n : Nat} {err : Bool} {K O O' W : Addr -> Prop} {OG OG' G : Nat -> Prop} {it : Value} {s s1 s2 : Shared}
theorem Owns.ev (x : Owns C O K OG s) (e : Ev C W G s s1) : Owns C O K OG s1 where
 o := fun a h => by
  obtain ⟨h1, o, h2, h3⟩ := x.o a h
  refine E13 (e.al a o h2) fun o' h4 h5 _ => ?_
  exact ⟨h1, o', h4, by rw [h5]; exact h3⟩
 k := fun a h => by
  refine E12 (x.k a h) fun o h2 h3 => ?_
  refine E13 (e.al a o h2) fun o' h4 h5 _ => ?_
  exact ⟨o', h4, by rw [h5]; exact h3⟩
 g := fun i h => Nat.lt_of_lt_of_le (x.g i h) e.gz
theorem StrS.owns : ∀ {xs : List AV}, StrS C n err K it xs O OG s -> Owns C O K OG s
 | [], h => h.1
 | _ :: _, h => h.1
theorem Apart.then {W1 W2 : Addr -> Prop} {GB GD : Nat -> Prop} {h h' : Heap} (a : Apart O K W1 OG GB h) (b : Apart O K W2 OG GD h') (al : ∀ a o, h.get? a = some o -> ∃ o', h'.get? a = some o' /\ o'.cls = o.cls) :
  Apart O K (fun a => W1 a \/ W2 a) OG (fun i => GB i \/ GD i) h where
 o := fun x hx => hx.elim (a.o x) (b.o x)
 t := fun x o hx e => hx.elim (fun z => a.t x o z e) fun z => by
  refine E12 (al x o e) fun o' h1 h2 => ?_
  rw [<- h2]
  exact b.t x o' z h1
 g := fun i hi => hi.elim (a.g i) (b.g i)
theorem Ev.or {W1 W2 : Addr -> Prop} {GB GD : Nat -> Prop} (x : Ev C W1 GB s s1) (y : Ev C W2 GD s1 s2) : Ev C (fun a => W1 a \/ W2 a) (fun i => GB i \/ GD i) s s2 :=
 (x.mono (fun _ h => .inl (.inl h)) (fun _ h => .inl (.inl h))).trans y (fun _ h => .inl (.inr h)) (fun _ h => .inl (.inr h))
theorem StrS.ev : ∀ {xs : List AV}, StrS C n err K it xs O OG s -> Ev C W G s s1 -> Apart O K W OG G s.heap -> StrS C n err K it xs O OG s1
 | [], h, e, ap => ⟨h.1.ev e, fun s2 W' G' e' ap' => h.2 s2 _ _ (e.or e') (ap.then ap' fun a o q => let ⟨o', h1, h2, _⟩ := e.al a o q; ⟨o', h1, h2⟩)⟩
 | _ :: _, h, e, ap => ⟨h.1.ev e, fun s2 W' G' e' ap' => h.2 s2 _ _ (e.or e') (ap.then ap' fun a o q => let ⟨o', h1, h2, _⟩ := e.al a o q; ⟨o', h1, h2⟩)⟩
theorem R0.ev {av : AV} {v : Value} (r : R0 s.heap av v) (e : Ev C W G s s1) (B : Base C s.heap) (t : ∀ a o, W a -> s.heap.get? a = some o -> o.cls ≠ .type "tuple" /\ o.cls ≠ .ref hvf) : R0 s1.heap av v :=
 Rep.mono (R := fun _ => False) (e.kept B fun a h => ⟨id, fun o ho => t a o h ho⟩) (fun _ _ _ _ h => by cases h) (fun _ _ _ h => by cases h) av v r
theorem R0.rep {av : AV} {v : Value} {h : Heap} {q : Addr -> Nat} (r : R0 h av v) : Rep q h av v :=
 Rep.mono (R := fun _ => True) (fun a o e _ _ => ⟨o, e, .refl o⟩) (fun _ _ _ _ _ => trivial) (fun _ _ _ h => by cases h) av v r
noncomputable def AV.nl : AV -> Bool
 | .lst _ => false
 | .tup xs => nlL xs
 | .own _ => false
 | .set _ => false
 | .vset _ => false
 | .dict _ => false
 | _ => true
where nlL : List AV -> Bool
 | [] => true
 | x :: xs => nl x && nlL xs
theorem Rp.nlR {C : Cx} {q : Addr -> Nat} {h : Heap} {y : AV} {v : Value} (hy : y.nl = true) (r : Rp C q h y v) : Rep q h y v := by cases y <;> first | exact r | cases hy
mutual
theorem Rep.r0 {h : Heap} {q : Addr -> Nat} : ∀ (av : AV) (v : Value), av.nl = true -> Rep q h av v -> R0 h av v
 | .none, v, _, r => by unfold R0; rw [Rep] at r ⊢; exact r
 | .bool b, v, _, r => by unfold R0; rw [Rep] at r ⊢; exact r
 | .int i, v, _, r => by unfold R0; rw [Rep] at r ⊢; exact r
 | .bytes b, v, _, r => by unfold R0; rw [Rep] at r ⊢; exact r
 | .str, v, _, r => by unfold R0; rw [Rep] at r ⊢; exact r
 | .raw u, v, _, r => by unfold R0; rw [Rep] at r ⊢; exact r
 | .flags x y z u, v, _, r => by unfold R0; rw [Rep] at r ⊢; exact r
 | .tup xs, v, n, r => by
  unfold R0
  rw [Rep] at r ⊢
  refine E23 r ?_; clear r; intro a vs e ht rl
  exact ⟨a, vs, e, ht, RepL.r0 xs vs n rl⟩
 | .lst _, v, n, r => by cases n
 | .own _, v, n, r => by cases n
 | .set _, v, n, r => by cases n
 | .vset _, v, n, r => by cases n
 | .dict _, v, n, r => by cases n
theorem RepL.r0 {h : Heap} {q : Addr -> Nat} : ∀ (xs : List AV) (vs : List Value), AV.nl.nlL xs = true -> RepL q h xs vs -> RepL (fun _ => 1) h xs vs
 | [], [], _, _ => by rw [RepL]; trivial
 | x :: xs, v :: vs, n, r => by
  rw [RepL] at r ⊢
  have n' : (x.nl && AV.nl.nlL xs) = true := n
  rw [Bool.and_eq_true] at n'
  exact ⟨Rep.r0 x v n'.1 r.1, RepL.r0 xs vs n'.2 r.2⟩
 | [], _ :: _, _, r => by rw [RepL] at r; exact r.elim
 | _ :: _, [], _, r => by rw [RepL] at r; exact r.elim
end
noncomputable def GEnd (C : Cx) (n : Nat) (err : Bool) (K : Addr -> Prop) (fin : Flow) : List AV -> (Addr -> Prop) -> (Nat -> Prop) -> Shared -> End -> Shared -> Prop
 | [], O, OG, s0, e, s' => Ev C O OG s0 s' /\ ((err = false /\ e = .ret (.ok fin)) \/ (err = true /\ ∃ x, e = .ret (.error x) /\ Exn (Nw s0) s'.heap true x))
 | x :: xs, O, OG, s0, e, s' => ∃ v l k c p fs O' OG', e = .susp v false l k c p fs /\ fs.any Frame.guarded = false /\ R0 s'.heap x v /\ Ev C O OG s0 s' /\ (∀ a, O' a -> O a \/ Nw s0 a) /\ (∀ i, OG' i -> OG i \/ s0.gens.size <= i) /\
   Owns C O' K OG' s' /\ ∀ s1 W G, Ev C W G s' s1 -> Apart O' K W OG' G s'.heap -> ∀ A fl, Room n A -> Fx C A fl s1 -> SegX (model C.prog C.w) A c (k (.send .none)) fs s1 (GEnd C n err K fin xs O' OG' s1)
noncomputable def Rsm (C : Cx) (n : Nat) (err : Bool) (K : Addr -> Prop) (fin : Flow) (c : Code) (t : Sem Fin) (fs : List Frame) (xs : List AV) (O : Addr -> Prop) (OG : Nat -> Prop) (s : Shared) : Prop :=
 Owns C O K OG s /\ ∀ s1 W G, Ev C W G s s1 -> Apart O K W OG G s.heap -> ∀ A fl, Room n A -> Fx C A fl s1 -> SegX (model C.prog C.w) A c t fs s1 (GEnd C n err K fin xs O OG s1)
theorem Ev.setGen {g : Nat} {st : GenState} (hb : st.bare = true) : Ev C No (· = g) s (s.setGen g st) where
 kp := fun a o e _ _ => ⟨o, e, .refl o⟩
 al := fun a o e => ⟨o, e, rfl, id⟩
 gk := fun i x e hn => by
  have hn' : g ≠ i := fun h => hn h.symm
  show (s.gens.setIfInBounds g st)[i]? = _
  rw [Array.getElem?_setIfInBounds_ne hn']; exact e
 gz := by show _ <= (s.gens.setIfInBounds g st).size; simp
 bs := id
 os := rfl
 br := fun h y hy => by
  have hy' : y ∈ s.gens.setIfInBounds g st := hy
  rcases Array.mem_or_eq_of_mem_setIfInBounds hy' with h1 | h1
  ·exact h y h1
  ·rw [h1]; exact hb
theorem not_stop (hc : C.Ok) (B : Base C s.heap) {x : Value} {Wx : Addr -> Prop} {tr : Bool} (X : Exn Wx s.heap tr x) {A : Around} {Q : Bool -> Shared -> Prop} {E : VP} (h : Q false s) :
  wpAny (model C.prog C.w) A (isInstance x (.type "StopIteration")) Q E s := by
 refine E35 X ?_; clear X; rintro e oe vs rfl _ he hcl _
 obtain ⟨_, h58, a1, a2, a3, a4, a5, a6, a7, a8, a9, b1, b2, b3, b4, b5, rfl⟩ := (B.pe hc).c58
 unfold isInstance typeOf
 refine wB (wB (wpAny_loadPart he (wP ?_)))
 rw [hcl]
 exact wpAny_isSubtype_exc (g := s.gens) (d := s.drawn) (t := s.toks) (os := s.os) h58 (by exact h)
theorem wake {A : Around} {g : Nat} {gs : GenState} {l : List Value} {k : GenResult -> Sem α} {cq : Code} {tA : Sem Fin} {fs0 : List Frame} {Q : α -> Shared -> Prop} {E : VP}
  (hg : s.gens[g]? = some gs) (hgs : (gs = .fresh cq /\ tA = denote table cq /\ fs0 = []) \/ (∃ kA lA p0 cl, gs = .suspended kA lA cq p0 fs0 cl /\ tA = kA (.send .none)))
  (x : SegX (model C.prog C.w) A cq tA fs0 (s.setGen g .running) fun e s1 => wpAny (model C.prog C.w) A (k e.result) Q E (s1.setGen g e.genState)) :
  wpAny (model C.prog C.w) A (.resume g (.send .none) l k) Q E s := fun Γ p hΓ =>
 wake_any _ C.prog C.w hg (hgs.imp (fun ⟨a, b, c⟩ => ⟨a, rfl, b, c⟩) fun ⟨kA, lA, p0, cl, a, b⟩ => ⟨kA, lA, p0, cl, a, b⟩) (fun Γ => Γ.In A) (fun _ h => h)
  (x.mono fun e s1 h Γ p hC => h Γ p hC) Γ p hΓ
end
section
variable {C : Cx} {n : Nat} {err : Bool} {K O O' W : Addr -> Prop} {OG OG' G : Nat -> Prop} {s s1 s2 : Shared}
theorem isGen_sim {h h' : Heap} {a : Addr} {g : Nat} (x : h.IsGen a g) (k : ∀ o, h.get? a = some o -> ∃ o', h'.get? a = some o' /\ Sim o o') : h'.IsGen a g := by
 refine E33 x ?_; clear x; intro o nm qn ho hc r
 refine E12 (k o ho) fun o' ho' z => ?_
 rw [z.eq (by rw [hc]; nofun)] at ho'
 exact ⟨o, nm, qn, ho', hc, r⟩
theorem Base.noT (hc : C.Ok) {a : Addr} (h : C.h₁.get? a = none) : a ∉ C.T := fun ht => by
 refine E12 (List.mem_map.mp ht) ?_; rintro p hp rfl
 refine E13 (hc.base.tab p hp) fun _ _ t' _ => ?_
 rw [h] at t'; cases t'
theorem isGen_ev (hc : C.Ok) {a : Addr} {g : Nat} (x : s.heap.IsGen a g) (hn : C.h₁.get? a = none) (e : Ev C W G s s1) (hw : ¬ W a) : s1.heap.IsGen a g :=
 isGen_sim x fun o ho => e.kp a o ho hw (Base.noT hc hn)
theorem setGen_at {g : Nat} {gs x : GenState} (h : s.gens[g]? = some gs) : (s.setGen g x).gens[g]? = some x := by
 have hlt := (Array.getElem?_eq_some_iff.mp h).1
 simp [Shared.setGen, hlt]
noncomputable def GQ (C : Cx) (a : Addr) (g : Nat) (Q : Option Value -> Shared -> Prop) (E : VP) (e : End) (s1 : Shared) : Prop :=
 match e with
 | .ret (.ok f) => (f = .next \/ f = .ret .none) /\ ∀ h', (∀ b o, s1.heap.get? b = some o -> h'.get? b = some o) -> Q none { s1.setGen g .finished with heap := h' }
 | .ret (.error x) => s1.heap.IsGen a g /\ Base C s1.heap /\ (∃ Wx, Exn Wx s1.heap true x) /\ E x (s1.setGen g .finished)
 | .susp v _ _ _ _ _ _ => Q (some v) (s1.setGen g e.genState)
theorem gen_next (hc : C.Ok) {a : Addr} {g : Nat} {gs : GenState} {cq : Code} {tA : Sem Fin} {fs0 : List Frame} {A : Around} {fl : List Env} {Q : Option Value -> Shared -> Prop} {E : VP}
  (hI : s.heap.IsGen a g) (hg : s.gens[g]? = some gs) (hgs : (gs = .fresh cq /\ tA = denote table cq /\ fs0 = []) \/ (∃ kA lA p0 cl, gs = .suspended kA lA cq p0 fs0 cl /\ tA = kA (.send .none)))
  (hr : Room (n + 1) A) (F : Fx C A fl s)
  (x : SegX (model C.prog C.w) A.in1 cq tA fs0 (s.setGen g .running) fun e s1 => e.quiet = true -> GQ C a g Q E e s1) :
  wpAny (model C.prog C.w) A (pyNext (.ref a)) Q E s := by
 unfold pyNext
 refine wB (wpAny_attempt (wpAny_callSpecial?_slot (name := ofString "__next__") hI.typeIs slot_gen_next
  (wpAny_call_entry slot_gen_next hI.typeIs entry_gen_next ?_ (args_gen_next _))))
 show wpAny _ A.in1 (Builtin.Generator.genWake (.ref a) (.send .none)) _ _ s
 unfold Builtin.Generator.genWake
 refine wB (wpAny_holding (wpAny_genNumber hI (wB (wpAny_genState hg ?_))))
 have room : ∀ {Q' : Unit -> Shared -> Prop} {E' : VP}, Q' () s -> wpAny (model C.prog C.w) A.in1 roomToWake Q' E' s := fun h => wpAny_roomToWake (F.base.lim hc) hr.d h
 have key : ∀ (e : End) (s1 : Shared), e.quiet = true -> GQ C a g Q E e s1 ->
   wpAny (model C.prog C.w) A.in1 (match e.result with
   | .yielded v => ret v
   | .returned v => (do
    if v == .none then raiseNew (<- newExc (.type "StopIteration") [])
    rule "generator.return-value"; throw (<- newExc (.type "StopIteration") [v]))
   | .raised e => Builtin.Generator.genLeft (.ref a) e
   | .running => (do rule "generator.already-executing"; raiseError "ValueError" "generator already executing")
   | .justStarted => (do rule "generator.send-to-fresh"; raiseError "TypeError" "can't send non-None value to a just-started generator")
   | .finished => (do raiseNew (<- newExc (.type "StopIteration") []) : Sem Fin)) (fun fin s' => ∃ v, fin = .done (.ret v) /\ wpAny (model C.prog C.w) A (pure (some v)) Q E s')
   (fun e s' => wpAny (model C.prog C.w) A (do if <- isInstance e (.type "StopIteration") then pure none else throw e) Q E s') (s1.setGen g e.genState) := by
  intro e s1 hq hpost
  match e, hpost with
  | .ret (.ok f), hpost =>
   refine E02 hpost ?_; clear hpost; intro hf hQ
   have hres : End.result (.ret (.ok f)) = .returned .none := by rcases hf with rfl | rfl <;> rfl
   rw [hres]
   show wpAny _ A.in1 (newExc (.type "StopIteration") [] >>= _) _ _ _
   refine wB ?_
   unfold newExc newTuple
   refine wB (wpAny_newObj_type ?_ (by size_fits))
   refine wB (m := firstArgMember _ _) (wpAny_of_eq (a := Value.none) (by first | rfl | (simp only [firstArgMember]; rfl)) ?_)
   refine wpAny_newObj_type ?_ (by size_fits)
   unfold raiseNew
   refine wB (wB (wpAny_handled ?_))
   rw [show A.in1.handled = none from hr.h]
   refine wpAny_throw ?_
   refine wB (wpAny_isInstance (T := "StopIteration") (b := true) ⟨_, Heap.get?_push_size _ rfl, rfl⟩ isSubtype_stop ?_)
   exact wP (hQ _ fun b o hb => gP _ (gP _ hb))
  | .ret (.error x), hpost =>
   refine E04 hpost ?_; clear hpost; rintro hI' B' ⟨Wx, X'⟩ hE
   refine E34 hI' ?_; clear hI'; intro o nm qn ho hcl hd _
   show wpAny _ A.in1 (Builtin.Generator.genLeft (.ref a) x) _ _ (s1.setGen g .finished)
   unfold Builtin.Generator.genLeft
   refine wB ?_
   unfold Builtin.Generator.madeByALambda
   refine wB (wpAny_load (s := s1.setGen g .finished) ho (wP ?_))
   rw [hd]
   have e0 : (o.cls == Value.type "generator" && (match (Data.fields #[.int g 0, nm, qn] : Data) with | .fields vs => vs[3]? == some (.bool true) | _ => false)) = false := by simp
   rw [e0]
   refine wB (not_stop hc (s := s1.setGen g .finished) B' X' ?_)
   unfold Builtin.Generator.genEscaped
   refine wB (not_stop hc (s := s1.setGen g .finished) B' X' ?_)
   refine wpAny_throw (wB (not_stop hc (s := s1.setGen g .finished) B' X' (wpAny_throw hE)))
  | .susp v gq l k c p fs, hpost =>
   exact wP ⟨v, rfl, wP hpost⟩
 cases gs with
 | running => rcases hgs with ⟨h, _⟩ | ⟨_, _, _, _, h, _⟩ <;> cases h
 | finished => rcases hgs with ⟨h, _⟩ | ⟨_, _, _, _, h, _⟩ <;> cases h
 | fresh c =>
  refine wB (room ?_)
  show wpAny _ A.in1 (.resume g (.send .none) [] _) _ _ s
  refine wake hg hgs ?_
  rintro Γ p hcode hΓ
  refine E23 (x Γ p hcode hΓ) fun e s1 hruns hq hpost => ?_
  exact ⟨e, s1, hruns, hq, key e s1 hq (hpost hq)⟩
 | suspended k l c p fs cl =>
  refine wB (room ?_)
  show wpAny _ A.in1 (.resume g (.send .none) [] _) _ _ s
  refine wake hg hgs ?_
  rintro Γ p hcode hΓ
  refine E23 (x Γ p hcode hΓ) fun e s1 hruns hq hpost => ?_
  exact ⟨e, s1, hruns, hq, key e s1 hq (hpost hq)⟩
theorem Ev.tok {h' : Heap} (k : ∀ b o, s.heap.get? b = some o -> h'.get? b = some o) : Ev C No No s { s with heap := h' } := .keep k
theorem gen_str (hc : C.Ok) {a : Addr} {g : Nat} {fin : Flow} (hfin : fin = .next \/ fin = .ret .none) : ∀ (xs : List AV) (O : Addr -> Prop) (OG : Nat -> Prop) (s : Shared) (gs : GenState) (cq : Code) (tA : Sem Fin) (fs0 : List Frame),
  s.heap.IsGen a g -> C.h₁.get? a = none -> ¬ O a -> ¬ OG g -> ¬ K a -> s.gens[g]? = some gs -> ((gs = .fresh cq /\ tA = denote table cq /\ fs0 = []) \/ (∃ kA lA p0 cl, gs = .suspended kA lA cq p0 fs0 cl /\ tA = kA (.send .none))) -> gs.bare = true ->
  Rsm C n err K fin cq tA fs0 xs O OG s -> StrS C (n + 1) err K (.ref a) xs (fun b => O b \/ b = a) (fun i => OG i \/ i = g) s
 | xs, O, OG, s, gs, cq, tA, fs0, hI, hn, hOa, hOg, hKa, hg, hgs, hbare, ⟨ow, hR⟩ => by
  have owns : Owns C (fun b => O b \/ b = a) K (fun i => OG i \/ i = g) s := by
   refine ⟨fun b hb => hb.elim (ow.o b) fun e => ?_, ow.k, fun i hi => hi.elim (ow.g i) fun e => e ▸ (Array.getElem?_eq_some_iff.mp hg).1⟩
   subst e
   refine E33 hI ?_; clear hI; intro o nm qn ho hcl _
   exact ⟨hn, o, ho, by rw [hcl]; nofun, by rw [hcl]; nofun⟩
  have common : ∀ s1 W G, Ev C W G s s1 -> Apart (fun b => O b \/ b = a) K W (fun i => OG i \/ i = g) G s.heap -> ∀ A fl, Room (n + 1) A -> Fx C A fl s1 -> ∀ (Q : Option Value -> Shared -> Prop) (E : VP),
    (∀ e s2, e.quiet = true -> GEnd C n err K fin xs O OG (s1.setGen g .running) e s2 -> GQ C a g Q E e s2) -> wpAny (model C.prog C.w) A (pyNext (.ref a)) Q E s1 := by
   intro s1 W G e ap A fl hr F Q E hQ
   have hI1 : s1.heap.IsGen a g := isGen_ev hc hI hn e fun h => (ap.o a h).1 (.inr rfl)
   have hg1 : s1.gens[g]? = some gs := e.gk g gs hg fun h => ap.g g h (.inr rfl)
   refine gen_next hc hI1 hg1 hgs hr F ?_
   have F' : Fx C A.in1 fl (s1.setGen g .running) := ⟨F.ok, F.base, F.frames, F.frs, F.frf⟩
   refine (hR _ _ _ (e.or (Ev.setGen (st := .running) rfl)) ⟨fun b hb => hb.elim (fun h => ⟨fun z => (ap.o b h).1 (.inl z), (ap.o b h).2⟩) fun h => h.elim, fun b o hb eo => hb.elim (fun h => ap.t b o h eo) fun h => h.elim, fun i hi => hi.elim (fun h z => ap.g i h (.inl z)) fun (h : i = g) z => hOg (h ▸ z)⟩ A.in1 fl hr.in1 F').mono ?_
   intro eD s2 h hq
   exact hQ eD s2 hq h
  cases xs with
  | nil =>
   refine ⟨owns, fun s1 W G e ap A fl hr F Q E hQ hE => common s1 W G e ap A fl hr F Q E fun eD s2 hq hG => ?_⟩
   refine E02 hG ?_; clear hG; intro ev h
   have ev' : Ev C (fun b => O b \/ b = a) (fun i => OG i \/ i = g) s1 s2 := (Ev.setGen (st := .running) rfl |>.mono (fun _ h => h.elim) (fun _ h => .inl (.inr h))).trans ev (fun _ h => .inl (.inl h)) (fun _ h => .inl (.inl h))
   have evf : Ev C (fun b => O b \/ b = a) (fun i => OG i \/ i = g) s1 (s2.setGen g .finished) := ev'.trans (.setGen rfl) (fun _ h => h.elim) (fun _ h => .inl (.inr h))
   rcases h with ⟨he, rfl⟩ | ⟨he, x, rfl, X⟩
   ·exact ⟨hfin, fun h' k => hQ he _ (evf.trans (.tok k) (fun _ h => h.elim) (fun _ h => h.elim))⟩
   ·have hI1 : s1.heap.IsGen a g := isGen_ev hc hI hn e fun h => (ap.o a h).1 (.inr rfl)
    exact ⟨isGen_ev (s := s1.setGen g .running) hc hI1 hn ev hOa, ev.bs F.base, ⟨_, X⟩, hE he x _ evf X⟩
  | cons x xs =>
   refine ⟨owns, fun s1 W G e ap A fl hr F Q E hQ => common s1 W G e ap A fl hr F Q E fun eD s2 hq hG => ?_⟩
   obtain ⟨v, l, k, c, p, fs, O', OG', rfl, hgd, r0, ev, hO', hOG', ow', hR'⟩ := hG
   have ev' : Ev C (fun b => O b \/ b = a) (fun i => OG i \/ i = g) s1 s2 := (Ev.setGen (st := .running) rfl |>.mono (fun _ h => h.elim) (fun _ h => .inl (.inr h))).trans ev (fun _ h => .inl (.inl h)) (fun _ h => .inl (.inl h))
   have hb : (End.susp v false l k c p fs).genState.bare = true := End.bare_of_quiet hq
   have evf : Ev C (fun b => O b \/ b = a) (fun i => OG i \/ i = g) s1 (s2.setGen g (End.susp v false l k c p fs).genState) := ev'.trans (.setGen hb) (fun _ h => h.elim) (fun _ h => .inl (.inr h))
   have hI1 : s1.heap.IsGen a g := isGen_ev hc hI hn e fun h => (ap.o a h).1 (.inr rfl)
   have hg1 : s1.gens[g]? = some gs := e.gk g gs hg fun h => ap.g g h (.inr rfl)
   have hI2 : s2.heap.IsGen a g := isGen_ev (s := s1.setGen g .running) hc hI1 hn ev hOa
   have hg2 : s2.gens[g]? = some .running := ev.gk g _ (setGen_at hg1) hOg
   have haN : ∀ b, Nw (s1.setGen g .running) b -> b ≠ a := fun b hb q => by
    subst q
    refine E32 hI1 ?_; clear hI1; intro o _ _ ho _
    have hb' : s1.heap.get? b = none := hb
    rw [ho] at hb'; cases hb'
   have hOg' : ¬ OG' g := fun h => (hOG' g h).elim hOg fun z => by
    have hlt := (Array.getElem?_eq_some_iff.mp hg1).1
    have z' : s1.gens.size <= g := by simpa [Shared.setGen] using z
    lia
   refine hQ v _ (fun b => O' b \/ b = a) (fun i => OG' i \/ i = g) evf r0 (fun b hb => hb.elim (fun h => (hO' b h).imp .inl id) fun h => .inl (.inr h)) (fun i hi => hi.elim (fun h => (hOG' i h).imp .inl fun z => by simpa [Shared.setGen] using z) fun h => .inl (.inr h)) ?_
   refine gen_str hc hfin xs O' OG' _ _ c (k (.send .none)) fs hI2 hn (fun h => (hO' a h).elim hOa fun z => haN a z rfl) hOg' hKa (setGen_at hg2) (.inr ⟨k, l, p, _, rfl, rfl⟩) hb ⟨ow'.ev (Ev.setGen hb), fun s3 W' G' e' ap' => ?_⟩
   exact hR' s3 _ _ ((Ev.setGen hb).or e') ⟨fun b hb => hb.elim (fun h => h.elim) (ap'.o b), fun b o hb eo => hb.elim (fun h => h.elim) fun h => ap'.t b o h eo, fun i hi => hi.elim (fun (h : i = g) z => hOg' (h ▸ z)) (ap'.g i)⟩
end
section
set_option tactic.hygienic true
noncomputable def Slf (C : Cx) (K : Addr -> Prop) (it : Value) (O : Addr -> Prop) (OG : Nat -> Prop) (s : Shared) : Prop :=
 ∀ s1 W G, Ev C W G s s1 -> Apart O K W OG G s.heap -> ∀ A (Q : VP) (E : VP), Q it s1 -> wpAny (model C.prog C.w) A (pyIter it) Q E s1
noncomputable def Itb (C : Cx) (n : Nat) (err : Bool) (K : Addr -> Prop) (v : Value) (xs : List AV) (O : Addr -> Prop) (OG : Nat -> Prop) (s : Shared) : Prop :=
 Owns C O K OG s /\ ∀ s1 W G, Ev C W G s s1 -> Apart O K W OG G s.heap -> ∀ A fl, Room n A -> Fx C A fl s1 -> ∀ (Q : VP) (E : VP),
  (∀ it s2 O', Ev C No No s1 s2 -> (∀ a, O' a -> O a \/ Nw s1 a) -> StrS C n err K it xs O' OG s2 -> Slf C K it O' OG s2 -> Q it s2) -> wpAny (model C.prog C.w) A (pyIter v) Q E s1
structure Src where
 live : Bool
 v : Value
 xs : List AV
 err : Bool
noncomputable def SrcOk (C : Cx) (n : Nat) (K : Addr -> Prop) (i : Src) (O : Addr -> Prop) (OG : Nat -> Prop) (s : Shared) : Prop :=
 if i.live then StrS C n i.err K i.v i.xs O OG s else Itb C n i.err K i.v i.xs O OG s
section
variable {C : Cx} {n : Nat} {err : Bool} {K O O' W : Addr -> Prop} {OG OG' G : Nat -> Prop} {s s1 s2 : Shared} {v : Value} {xs : List AV}
theorem Itb.ev (h : Itb C n err K v xs O OG s) (e : Ev C W G s s1) (ap : Apart O K W OG G s.heap) : Itb C n err K v xs O OG s1 :=
 ⟨h.1.ev e, fun s2 W' G' e' ap' => h.2 s2 _ _ (e.or e') (ap.then ap' fun a o q => let ⟨o', h1, h2, _⟩ := e.al a o q; ⟨o', h1, h2⟩)⟩
theorem SrcOk.ev {i : Src} (h : SrcOk C n K i O OG s) (e : Ev C W G s s1) (ap : Apart O K W OG G s.heap) : SrcOk C n K i O OG s1 := by
 unfold SrcOk at h ⊢
 split
 ·rename_i hl; rw [if_pos hl] at h; exact StrS.ev h e ap
 ·rename_i hl; rw [if_neg hl] at h; exact h.ev e ap
theorem SrcOk.owns {i : Src} (h : SrcOk C n K i O OG s) : Owns C O K OG s := by
 unfold SrcOk at h
 split at h
 ·exact StrS.owns h
 ·exact h.1
end
noncomputable def ItsOk (C : Cx) (n : Nat) (K : Addr -> Prop) (q : Addr -> Nat) (s : Shared) : (Nat -> Prop) -> List Src -> Prop
 | _, [] => True
 | OG, i :: r => ∃ O OG1 OG2, SrcOk C n K i O OG1 s /\ (∀ a, O a -> q a = 2 + r.length) /\ (∀ j, OG1 j -> OG j /\ ¬ OG2 j) /\ (∀ j, OG2 j -> OG j) /\ ItsOk C n K q s OG2 r
theorem ItsOk.ev {C : Cx} {n : Nat} {K W : Addr -> Prop} {q q' : Addr -> Nat} {G : Nat -> Prop} {s s1 : Shared} (e : Ev C W G s s1) (hq : Agree s.heap q q') (hW : ∀ a, W a -> ¬ K a /\ (∀ o, s.heap.get? a = some o -> o.cls ≠ .type "tuple" /\ o.cls ≠ .ref hvf)) :
  ∀ {its : List Src} {OG : Nat -> Prop}, (∀ j, G j -> ¬ OG j) -> (∀ a, W a -> ∀ k, k < its.length -> q a ≠ 2 + k) -> ItsOk C n K q s OG its -> ItsOk C n K q' s1 OG its
 | [], _, _, _, _ => trivial
 | i :: r, OG, hG, hc, ⟨O, OG1, OG2, h1, h2, h3, h4, hr⟩ => by
  refine ⟨O, OG1, OG2, h1.ev e ⟨fun a ha => ⟨fun z => hc a ha r.length (by simp) (h2 a z), (hW a ha).1⟩, fun a o ha ho => (hW a ha).2 o ho, fun j hj hz => hG j hj (h3 j hz).1⟩, fun a ha => ?_, h3, h4,
   hr.ev e hq hW (fun j hj z => hG j hj (h4 j z)) fun a ha k hk => hc a ha k (by simp; lia)⟩
  obtain ⟨_, o, ho, _⟩ := h1.owns.o a ha
  exact (hq a o ho).trans (h2 a ha)
structure Gk where
 C : Cx
 n : Nat
 err : Bool
 K : Addr -> Prop
 fin : Flow
 env : Env
noncomputable def Oof (g : Gk) (q : Addr -> Nat) : Addr -> Prop := fun a => q a ≠ 0 \/ a = g.env.locals \/ ∃ x, g.env.cells.lookup x = some a
structure Gk.Ok (g : Gk) : Prop where
 kind : g.env.scope.kind = .function
 gl : g.env.globals = 3
 bi : g.env.builtins = 0
 fr : g.env.frame = some g.env.locals
 co : g.env.scope.isCoroutine = false
 hC : g.C.Ok
structure GSt (g : Gk) (c : Ac) (qA q : Addr -> Nat) (Z U : Env1) (its : List Src) (OG0 OG : Nat -> Prop) (s0 s : Shared) : Prop where
 C : c.C = g.C
 env : c.env = g.env
 n : c.n = g.n
 ok : c.Ok
 S : St c q Z U s
 cW : ∀ a, c.W a ↔ (Oof g qA a \/ Nw s0 a)
 ag : Agree s0.heap qA q
 since : Ev g.C (Oof g qA) OG0 s0 s
 its : ItsOk g.C g.n g.K q s OG its
 og : ∀ i, OG i -> (OG0 i \/ s0.gens.size <= i) /\ i < s.gens.size
 kk : ∀ a, g.K a -> q a = 0 /\ ∃ o, s.heap.get? a = some o /\ (o.cls = .type "list" \/ o.cls = .type "dict")
 o0 : ∀ a, (a = g.env.locals \/ ∃ x, g.env.cells.lookup x = some a) -> q a = 0 /\ g.C.h₁.get? a = none /\ (∃ o, s0.heap.get? a = some o) /\ ∃ o, s.heap.get? a = some o /\ o.cls ≠ .type "tuple" /\ o.cls ≠ .ref hvf /\ ¬ (o.cls = .type "list" \/ o.cls = .type "dict")
noncomputable def OvOk (g : Gk) (code : Code) (fs : List Frame) : Prop := ∀ A fl, Room (g.n + 1) A -> A.frames = some fl -> (A.over code fs).frames = some (g.env :: fl) /\ Room g.n (A.over code fs)
noncomputable def RC (g : Gk) (code : Code) (fs : List Frame) (t : Sem Fin) (Z U : Env1) (its : List Src) (zs : List AV) : Prop :=
 ∀ A fl c qA q OG0 OG s0 s, Room (g.n + 1) A -> Fx g.C A fl s0 -> c.A = A.over code fs -> c.fl = g.env :: fl -> GSt g c qA q Z U its OG0 OG s0 s ->
  SegX (model g.C.prog g.C.w) A code t fs s (GEnd g.C (g.n + 1) g.err g.K g.fin zs (Oof g qA) OG0 s0)
noncomputable def HC (g : Gk) (code : Code) (fs : List Frame) (tr : Bool) (H : Value -> Sem Fin) : Prop :=
 ∀ A fl qA OG0 s0 s x, Room (g.n + 1) A -> Fx g.C A fl s0 -> Fx g.C (A.over code fs) (g.env :: fl) s -> Ev g.C (Oof g qA) OG0 s0 s -> g.err = true -> Exn (Nw s0) s.heap tr x ->
  SegX (model g.C.prog g.C.w) A code (H x) fs s (GEnd g.C (g.n + 1) g.err g.K g.fin [] (Oof g qA) OG0 s0)
structure Cont (g : Gk) (code : Code) (fs : List Frame) (gd : Bool -> Bool) : Prop where
 ov : OvOk g code fs
 sp : splitAtGen fs = none
 gu : fs.any Frame.guarded = false
 gd : gd false = false
noncomputable def G1 (g : Gk) (Z U : Env1) (its : List Src) (st : Stmt) (zs : List AV) (Kc : Env1 -> List Src -> List AV -> Prop) : Prop :=
 ∀ code fs K H gd lv, Cont g code fs gd -> (∀ U' its' zs', Kc U' its' zs' -> RC g code fs (K .next) Z U' its' zs') -> HC g code fs false H -> RC g code fs ((exec st g.env).wrap K H gd lv) Z U its zs
noncomputable def GX (g : Gk) (Z U : Env1) (its : List Src) (sts : List Stmt) (zs : List AV) (Kc : Env1 -> List Src -> List AV -> Prop) : Prop :=
 ∀ code fs K H gd lv, Cont g code fs gd -> (∀ U' its' zs', Kc U' its' zs' -> RC g code fs (K .next) Z U' its' zs') -> HC g code fs false H -> RC g code fs ((execs sts g.env).wrap K H gd lv) Z U its zs
section
variable {g : Gk} {Z U : Env1} {its : List Src} {zs : List AV} {Kc K1 : Env1 -> List Src -> List AV -> Prop}
theorem gx_nil (h : Kc U its zs) : GX g Z U its [] zs Kc := fun code fs K H gd lv ct hK hH => hK U its zs h
theorem gx_cons {st : Stmt} {rest : List Stmt} (h : G1 g Z U its st zs K1) (k : ∀ U' its' zs', K1 U' its' zs' -> GX g Z U' its' rest zs' Kc) : GX g Z U its (st :: rest) zs Kc := fun code fs K H gd lv ct hK hH => by
 rw [execs_cons_wrap]
 exact h code fs _ H gd lv ct (fun U' its' zs' h' => k U' its' zs' h' code fs K H gd lv ct hK hH) hH
theorem g_wrap {α : Type} {M : Model} {A : Around} {c : Code} {fs : List Frame} {P : End -> Shared -> Prop} {s : Shared} {m : Sem α} {K : α -> Sem Fin} {H : Value -> Sem Fin} {gd : Bool -> Bool} {lv : List Value -> List Value}
  (h : wpAny M (A.over c fs) m (fun a s' => SegX M A c (K a) fs s' P) (fun x s' => SegX M A c (H x) fs s' P) s) : SegX M A c (m.wrap K H gd lv) fs s P := by
 rintro Γ p rfl hΓ
 refine E22 (runs_wrap_of_wp (Φ := fun e s' => e.quiet = true /\ P e s') K H gd lv m (h (Γ.over fs) p (hΓ.over fs)) (fun a p' s' h' => h' Γ p' rfl hΓ) (fun x p' s' h' => h' Γ p' rfl hΓ)) fun e s' hr hq => ?_
 exact ⟨e, s', hr, hq⟩
theorem GSt.next {c : Ac} {qA q q' : Addr -> Nat} {U' : Env1} {OG0 OG : Nat -> Prop} {s0 s s' : Shared} (G : GSt g c qA q Z U its OG0 OG s0 s) (ag : Agree s.heap q q') (e : Ev c.C (Wq c q) No s s') (S : St c q' Z U' s') :
  GSt g c qA q' Z U' its OG0 OG s0 s' := by
 have hC := G.C
 have agree : Agree s0.heap qA q' := by rw [hC] at e; exact G.ag.tr G.since ag
 have hW : ∀ a, Wq c q a -> (q a = 1 \/ a = g.env.locals) := fun a h => by rw [<- G.env]; exact h.2
 have hLoc : ∀ a, a = g.env.locals -> q a = 0 := fun a h => (G.o0 a (.inl h)).1
 refine { C := G.C, env := G.env, n := G.n, ok := G.ok, S := S, cW := G.cW, ag := agree, since := ?_, its := ?_, og := fun i h => ⟨(G.og i h).1, Nat.lt_of_lt_of_le (G.og i h).2 e.gz⟩, kk := fun a h => ?_, o0 := fun a h => ?_ }
 ·rw [hC] at e
  exact G.since.trans e (fun a h => (G.cW a).mp h.1) (fun _ h => h.elim)
 ·rw [hC] at e
  refine G.its.ev e ag (fun a h => ⟨fun hk => ?_, fun o ho => ?_⟩) (fun _ h => h.elim) (fun a h k hk => ?_)
  ·obtain ⟨k1, o, ho, k2⟩ := G.kk a hk
   rcases hW a h with z | z
   ·lia
   ·obtain ⟨_, _, _, o', ho', _, _, z'⟩ := G.o0 a (.inl z)
    rw [ho] at ho'; cases ho'; exact z' k2
  ·rcases hW a h with z | z
   ·obtain ⟨_, o', ho', h1, h2⟩ := G.S.col a (by lia)
    rw [ho] at ho'; cases ho'; exact ⟨h1, h2⟩
   ·obtain ⟨_, _, _, o', ho', h1, h2, _⟩ := G.o0 a (.inl z)
    rw [ho] at ho'; cases ho'; exact ⟨h1, h2⟩
  ·rcases hW a h with z | z
   ·lia
   ·have := hLoc a z; lia
 ·obtain ⟨k1, o, ho, k2⟩ := G.kk a h
  refine E13 (e.al a o ho) fun o' ho' k3 _ => ?_
  exact ⟨(ag a o ho).trans k1, o', ho', by rw [k3]; exact k2⟩
 ·obtain ⟨h1, h2, h3, o, ho, h4⟩ := G.o0 a h
  refine E13 (e.al a o ho) fun o' ho' h5 _ => ?_
  exact ⟨(ag a o ho).trans h1, h2, h3, o', ho', by rw [h5]; exact h4⟩
theorem g1_plain {st : Stmt} {N : Env1 -> Prop} {X : Prop} (h : ∀ c : Ac, c.Ok -> c.C = g.C -> c.env = g.env -> c.n = g.n -> S1 c Z U st N (fun _ => False) X) (hN : ∀ U', N U' -> Kc U' its zs) (hX : X -> zs = [] /\ g.err = true) : G1 g Z U its st zs Kc := fun code fs K H gd lv ct hK hH A fl c qA q OG0 OG s0 s hr F hA hfl G => by
 have hC := G.C
 refine g_wrap ?_
 have := h c G.ok G.C G.env G.n q s G.S (fun f s' => SegX (model g.C.prog g.C.w) A code (K f) fs s' (GEnd g.C (g.n + 1) g.err g.K g.fin zs (Oof g qA) OG0 s0)) (fun x s' => SegX (model g.C.prog g.C.w) A code (H x) fs s' (GEnd g.C (g.n + 1) g.err g.K g.fin zs (Oof g qA) OG0 s0)) ⟨fun q' U' s' hN' ag e S => ?_, fun q' av v s' hR => hR.elim, fun hX' x s' e X' => ?_⟩
 ·rw [G.env, hA, hC] at this; exact this
 ·exact hK U' its zs (hN U' hN') A fl c qA q' OG0 OG s0 s' hr F hA hfl (G.next ag e S)
 ·refine E02 (hX hX') ?_; rintro rfl he
  have F' := G.S.fx G.ok.e
  rw [hA, hfl, hC] at F'
  rw [hC] at e
  exact hH A fl qA OG0 s0 s' x hr F (F'.ev e) (G.since.trans e (fun a h => (G.cW a).mp h.1) (fun _ h => h.elim)) he (X'.mono fun a _ _ h => G.since.gone h)
theorem g1_if {t : Expr} {body els : List Stmt} {p : Pos} {b : Bool} (ht : ∀ c : Ac, c.Ok -> c.C = g.C -> c.env = g.env -> c.n = g.n -> ET c Z U t b) (h1 : b = true -> GX g Z U its body zs Kc) (h2 : b = false -> GX g Z U its els zs Kc) : G1 g Z U its (.If t body els p) zs Kc := fun code fs K H gd lv ct hK hH A fl c qA q OG0 OG s0 s hr F hA hfl G => by
 rw [exec_If]
 rw [Sem.bind_eq_wrap', Sem.wrap_wrap]
 refine g_wrap (wpAny_standAt ?_)
 rw [Sem.bind_eq_wrap', Sem.wrap_wrap]
 refine g_wrap ?_
 have hC := G.C
 have := ht c G.ok G.C G.env G.n q s G.S (Q := fun b' s' => SegX (model g.C.prog g.C.w) A code (((if b' = true then execs body g.env else execs els g.env) : Sem Flow).wrap K H gd lv) fs s' (GEnd g.C (g.n + 1) g.err g.K g.fin zs (Oof g qA) OG0 s0))
  (E := fun x s' => SegX (model g.C.prog g.C.w) A code (H x) fs s' (GEnd g.C (g.n + 1) g.err g.K g.fin zs (Oof g qA) OG0 s0)) fun s' e => ?_
 ·rw [G.env, hA, hC] at this; exact this
 ·have G' := G.next .refl e.up (G.S.ev e)
  cases b with
  | true => exact h1 rfl code fs K H gd lv ct hK hH A fl c qA q OG0 OG s0 s' hr F hA hfl G'
  | false => exact h2 rfl code fs K H gd lv ct hK hH A fl c qA q OG0 OG s0 s' hr F hA hfl G'
noncomputable def AV.okY : AV -> Bool
 | .own xs => AV.nl.nlL xs
 | .set _ => true
 | .vset _ => true
 | av => av.nl
theorem AV.nl_okY {a : AV} (h : a.nl = true) : a.okY = true := by cases a <;> first | exact h | cases h
theorem Rp.ext {C : Cx} {q : Addr -> Nat} {h h' : Heap} {av : AV} {v : Value} (ok : av.okY = true) (k : Kept (fun a => q a ≠ 0) h h') (r : Rp C q h av v) : Rp C q h' av v := by
 have deep : ∀ (x : AV) (v : Value), x.nl = true -> Rep q h x v -> Rep q h' x v := fun x v hn r =>
  R0.rep (Rep.mono (q := fun _ => 1) (q' := fun _ => 1) k (fun _ _ _ _ z => by cases z) (fun _ _ _ z => z) x v (Rep.r0 x v hn r))
 have deepL : ∀ (xs : List AV) (vs : List Value), AV.nl.nlL xs = true -> RepL q h xs vs -> RepL q h' xs vs := fun xs vs hn r =>
  RepL.mono (q := fun _ => 1) (q' := q) (R := fun a => q a ≠ 0) k (fun _ _ _ _ z => by cases z) (fun _ _ _ z => by cases z) xs vs (RepL.r0 xs vs hn r)
 cases av <;> try exact deep _ _ ok r
 case own xs =>
  refine E24 r ?_; clear r; rintro a vs e hp ⟨o, m, ho, hc, hdn, hd⟩ rl
  refine E12 (k a o ho (by rw [hd]; exact .seq) (.inr (.inr (by show q a ≠ 0; lia)))) fun o' ho' z => ?_
  exact ⟨a, vs, e, hp, ⟨o', m, ho', z.1.trans hc, z.2.1.trans hdn, z.2.2.1.trans hd⟩, deepL xs vs ok rl⟩
 case set S =>
  obtain ⟨a, e, hp, o, es, ep, t, ho, hx, hd, r⟩ := r
  exact ⟨a, e, hp, o, es, ep, t, k.of ho (by rw [hd]; nofun) (by rw [hx.1]; nofun) (by show q a ≠ 0; lia), hx, hd, r⟩
 case vset S =>
  obtain ⟨a, e, hp, o, es, ep, t, ho, hx, hd, r⟩ := r
  exact ⟨a, e, hp, o, es, ep, t, k.of ho (by rw [hd]; nofun) (by rw [hx.1]; nofun) (by show q a ≠ 0; lia), hx, hd, r⟩
 case dict kvs => cases ok
noncomputable def OkY (U : Env1) : Prop := ∀ x av, U.lookup x = some av -> av.okY = true
theorem GSt.owns {c : Ac} {qA q : Addr -> Nat} {OG0 OG : Nat -> Prop} {s0 s : Shared} (G : GSt g c qA q Z U its OG0 OG s0 s) : Owns g.C (Oof g q) g.K OG s where
 o := fun a h => by
  rcases h with h | h
  ·have := G.S.col a h
   rw [G.C] at this
   exact this
  ·obtain ⟨_, h2, _, o, ho, h3, h4, _⟩ := G.o0 a h
   exact ⟨h2, o, ho, h3, h4⟩
 k := fun a h => (G.kk a h).2
 g := fun i h => (G.og i h).2
theorem GSt.again {c : Ac} {qA q : Addr -> Nat} {OG0 OG : Nat -> Prop} {s0 s s1 : Shared} {W : Addr -> Prop} {Gw : Nat -> Prop} (ok : g.Ok) (G : GSt g c qA q Z U its OG0 OG s0 s) (hY : OkY U) (hYk : OkY Z) (e : Ev g.C W Gw s s1) (ap : Apart (Oof g q) g.K W OG Gw s.heap)
  {A : Around} {fl : List Env} {code : Code} {fs : List Frame} (hr : Room (g.n + 1) A) (F : Fx g.C A fl s1) (ov : OvOk g code fs) :
  GSt g ⟨g.C, A.over code fs, g.env, g.env :: fl, g.n, fun a => Oof g q a \/ Nw s1 a⟩ q q Z U its OG OG s1 s1 := by
 have hC := G.C
 have B : Base g.C s.heap := by have := G.S.base; rwa [hC] at this
 have kp : Kept (fun a => q a ≠ 0) s.heap s1.heap := e.kept B fun a h => ⟨fun z => (ap.o a h).1 (.inl z), fun o ho => ap.t a o h ho⟩
 have kpO : ∀ a o, (a = g.env.locals \/ ∃ x, g.env.cells.lookup x = some a) -> s.heap.get? a = some o -> NotRec o.data -> ∃ o', s1.heap.get? a = some o' /\ Sim o o' := fun a o h ho hd =>
  e.sim B ho hd fun hw => (ap.o a hw).1 (.inr h)
 refine E02 (ov A fl hr F.frames) fun fr1 fr2 => ?_
 refine E12 (G.S.locC G.ok) fun oL hoL hcL => ?_
 rw [G.env] at hoL
 refine E12 G.S.loc fun m hn hl => ?_
 rw [G.env] at hn
 have hnB : s1.heap.Ns g.env.locals m := by
  refine ns_sim hn fun o ho => ?_
  refine E33 hn ?_; clear hn; intro o' _ _ ho' hd _
  rw [ho] at ho'; cases ho'
  exact kpO _ _ (.inl rfl) ho (by rw [hd]; nofun)
 refine E13 (e.al _ _ hoL) fun oL1 hoL1 hcL1 hdL1 => ?_
 have own := G.S.own
 rw [G.env, hC] at own
 have hcol : Col g.C q s := by have := G.S.col; rwa [hC] at this
 refine { C := rfl, env := rfl, n := rfl, ok := .mk' ok.hC fr2 fr1 ⟨fl, rfl⟩ ok.kind ok.gl ok.bi ok.fr, S := ?_, cW := fun a => Iff.rfl, ag := .refl, since := .refl, its := ?_, og := fun i h => ⟨.inl h, Nat.lt_of_lt_of_le (G.og i h).2 e.gz⟩, kk := fun a h => ?_, o0 := fun a h => ?_ }
 ·exact {
   base := e.bs B
   col := hcol.ev e
   new := fun a h => .inr h
   loc := ⟨m, hnB, fun x av h => by
    obtain ⟨hk, v, hv, r, ow⟩ := hl x av h
    rw [G.env] at hk
    rw [hC] at r
    refine ⟨hk, v, hv, r.ext (hY x av h) kp, fun z a ha => .inl (.inl ?_)⟩
    subst ha
    cases av <;> first | cases z | skip
    case own xs => refine E23 r ?_; clear r; intro a' _ e' hp _; cases e'; lia
    case set S => refine E13 r ?_; clear r; intro a' e' hp _; cases e'; lia⟩
   cel := fun x av h => by
    obtain ⟨hk, a, o, v, h1, hqa, h2, h3, r⟩ := G.S.cel x av h
    rw [G.env] at hk h1
    rw [hC] at r
    refine E12 (kpO a o (.inr ⟨x, h1⟩) h2 (by rw [h3]; nofun)) fun o' ho' z => ?_
    exact ⟨hk, a, o', v, h1, hqa, ho', z.2.2.1.trans h3, r.ext (hYk x av h) kp⟩
   frs := ⟨by rw [ok.kind]; nofun, ⟨_, oL1, ok.fr, own.1, hoL1, hdL1 (by refine E33 hn ?_; clear hn; intro o' _ _ ho' hd _; rw [hoL] at ho'; cases ho'; rw [hd]; nofun)⟩, F.frs⟩
   frf := fun en hen => by
    rcases List.mem_cons.mp hen with rfl | hen
    ·exact ⟨_, oL1, ok.fr, hoL1, hcL1.trans hcL⟩
    ·exact F.frf en hen
   own := ⟨own.1, own.2.1, .inl (.inr (.inl rfl))⟩ }
 ·exact G.its.ev e .refl (fun a h => ⟨(ap.o a h).2, fun o ho => ap.t a o h ho⟩) (fun j h z => ap.g j h z) fun a h k _ z => (ap.o a h).1 (.inl (by lia))
 ·obtain ⟨k1, o, ho, k2⟩ := G.kk a h
  refine E13 (e.al a o ho) fun o' ho' k3 _ => ?_
  exact ⟨k1, o', ho', by rw [k3]; exact k2⟩
 ·obtain ⟨h1, h2, _, o, ho, h4⟩ := G.o0 a h
  refine E13 (e.al a o ho) fun o' ho' h5 _ => ?_
  exact ⟨h1, h2, ⟨o', ho'⟩, o', ho', by rw [h5]; exact h4⟩
theorem g1_yield {e : Expr} {yp p : Pos} {y : AV} (ok : g.Ok) (h : ∀ c : Ac, c.Ok -> c.C = g.C -> c.env = g.env -> c.n = g.n -> EV c Z U e y) (hn : y.nl = true) (hY : OkY U) (hYk : OkY Z) (hK : Kc U its zs)
  (hi : interactive g.env = false := by rfl) : G1 g Z U its (.Expr (.Yield (some e) yp) p) (y :: zs) Kc := fun code fs K H gd lv ct hKc hH A fl c qA q OG0 OG s0 s hr F hA hfl G => by
 obtain ⟨cC, cA, ce, cf, cn, cW⟩ := c
 obtain rfl : cC = g.C := G.C
 obtain rfl : ce = g.env := G.env
 obtain rfl : cn = g.n := G.n
 obtain rfl : cA = A.over code fs := hA
 rw [exec_Expr g.env _ p hi rfl]
 rw [Sem.bind_eq_wrap', Sem.wrap_wrap]
 refine g_wrap (wpAny_standAt ?_)
 have hy : ∀ v, yieldOut g.env v = yieldValue v := fun v => by simp only [yieldOut, ok.co, Bool.false_eq_true, if_false]
 rw [arm_eval_Yield]
 simp only [hy]
 rw [Sem.bind_eq_wrap', Sem.bind_eq_wrap', Sem.wrap_wrap, Sem.wrap_wrap]
 refine g_wrap (h _ G.ok rfl rfl rfl q s G.S fun v s1 ew rB => ?_)
 have GB := G.next .refl ew.up (G.S.ev ew)
 refine s_cmd _ _ _ _ _ _ (m := standAt yp) (wpAny_standAt ?_)
 have r0 : R0 s1.heap y v := Rep.r0 (q := q) y v hn (Rp.nlR hn rB)
 show SegX _ A code (.yield v (gd false) _ _) fs s1 _
 rw [ct.gd]
 refine s_yield _ _ _ _ _ _ s1 v _ _ ct.sp ct.gu fun p' => ?_
 refine ⟨v, _, _, code, p', fs, Oof g q, OG, rfl, ct.gu, r0, GB.since, fun a h => ?_, fun i h => (G.og i h).1, GB.owns, fun s2 W Gw eD ap A' fl' hr' F' => ?_⟩
 ·rcases h with h | h
  ·cases hs : s0.heap.get? a with
   | none => exact .inr hs
   | some o => exact .inl (.inl (by rw [<- G.ag a o hs]; exact h))
  ·exact .inl (.inr h)
 ·show SegX _ A' code (K .next) fs s2 _
  exact hKc U its zs hK A' fl' _ q q OG OG s2 s2 hr' F' rfl rfl (GB.again ok hY hYk eD ap hr' F' ct.ov)
end
end
section
variable {g : Gk} {Z U : Env1} {its : List Src} {zs : List AV} {Kc K1 : Env1 -> List Src -> List AV -> Prop}
theorem Cont.push {c c' : Code} {fs : List Frame} {gd : Bool -> Bool} {k : Result -> Sem Fin} {l : List Value} {p : Pos} (ct : Cont g c fs gd) (h1 : c'.envs = []) (h2 : c'.weight = 0) (h3 : c'.cUnits = 0) : Cont g c' (.ret k none (gd false) l c p [] :: fs) id where
 ov := fun A fl hr hA => by
  refine E02 (ct.ov A fl hr hA) fun f r => ?_
  refine ⟨?_, ?_, ?_, ?_⟩
  ·show pushEnvs c'.envs (pushEnvs (envsOf ((c, p) :: fs.map Frame.where_)) A.frames) = _
   rw [h1, envsOf_cons, pushEnvs_eq, pushEnvs_eq]
   have f' : pushEnvs c.envs (pushEnvs (envsOf (fs.map Frame.where_)) A.frames) = some (g.env :: fl) := f
   rw [pushEnvs_eq, pushEnvs_eq] at f'
   rw [hA] at f' ⊢
   simp only [Option.map_some, List.nil_append, List.append_assoc] at f' ⊢
   exact f'
  ·refine ⟨r.1.1, ?_⟩
   have f' : pushGuards c.guards (pushGuards (guardsOf (fs.map Frame.where_)) A.guards) = some [] := r.1.2
   show pushGuards c'.guards (pushGuards (guardsOf ((c, p) :: fs.map Frame.where_)) A.guards) = some []
   rw [Code.guards_of_weight h2, guardsOf_cons, pushGuards_eq, pushGuards_eq]
   rw [pushGuards_eq, pushGuards_eq] at f'
   rw [hr.1.2] at f' ⊢
   simp only [Option.map_some, List.nil_append, List.append_assoc] at f' ⊢
   exact f'
  ·have := r.2.1
   show A.depth + frameCount ((c, p) :: fs.map Frame.where_) + c'.weight + 3 * g.n + 20 <= 1000
   have h4 : A.depth + frameCount (fs.map Frame.where_) + c.weight + 3 * g.n + 20 <= 1000 := this
   rw [frameCount_cons, h2]; lia
  ·have := r.2.2
   show A.units + unitsOf ((c, p) :: fs.map Frame.where_) + c'.cUnits + 30 * g.n + 300 <= 9900
   have h4 : A.units + unitsOf (fs.map Frame.where_) + c.cUnits + 30 * g.n + 300 <= 9900 := this
   rw [unitsOf_cons, h3]; lia
 sp := by
  show (splitAtGen fs).map _ = none
  rw [ct.sp]; rfl
 gu := by
  show ((gd false) || fs.any Frame.guarded) = false
  rw [ct.gd, ct.gu]; rfl
 gd := rfl
theorem HC.noted {code : Code} {fs : List Frame} {H : Value -> Sem Fin} (h : HC g code fs true H) : HC g code fs false (fun x => (do noteFrame x g.env; theTreesLotGoes x : Sem Unit).wrap (fun _ => H x) .raise id id) := fun A fl qA OG0 s0 s x hr F F' e he X => by
 refine g_wrap ?_
 have w : Wr g.C (Nw s0) s := ⟨fun a h => e.gone h, fun a h => F.base.gone h⟩
 refine wB (note_any F' w X fun s1 ew X1 => wpAny_theTreesLotGoes ?_)
 exact h A fl qA OG0 s0 s1 x hr F (F'.ev ew) (e.trans ew (fun a h => .inr h) (fun _ h => h.elim)) he X1
theorem g_bw {α β : Type} {M : Model} {A : Around} {c : Code} {fs : List Frame} {P : End -> Shared -> Prop} {s : Shared} {m : Sem α} {K' : α -> Sem β} {K : β -> Sem Fin} {H : Value -> Sem Fin} {gd : Bool -> Bool} {lv : List Value -> List Value}
  (h : wpAny M (A.over c fs) m (fun a s' => SegX M A c ((K' a).wrap K H gd lv) fs s' P) (fun x s' => SegX M A c (H x) fs s' P) s) : SegX M A c ((m >>= K').wrap K H gd lv) fs s P := by
 rw [Sem.bind_eq_wrap', Sem.wrap_wrap]; exact g_wrap h
noncomputable def recol (O : Addr -> Prop) (n : Nat) (q : Addr -> Nat) : Addr -> Nat := open Classical in fun a => if O a then n else q a
theorem recol_in {O : Addr -> Prop} {n : Nat} {q : Addr -> Nat} {a : Addr} (h : O a) : recol O n q a = n := by unfold recol; exact if_pos h
theorem recol_out {O : Addr -> Prop} {n : Nat} {q : Addr -> Nat} {a : Addr} (h : ¬ O a) : recol O n q a = q a := by unfold recol; exact if_neg h
theorem recol_ne {O : Addr -> Prop} {n : Nat} {q : Addr -> Nat} {a : Addr} (h : recol O n q a ≠ 0) : O a \/ q a ≠ 0 := by
 by_cases z : O a
 ·exact .inl z
 ·exact .inr (by rwa [recol_out z] at h)
theorem GSt.took {c : Ac} {qA q : Addr -> Nat} {OG0 OG OG1 OG2 OG1' : Nat -> Prop} {O O' : Addr -> Prop} {s0 s s' : Shared} {i i' : Src} {r : List Src} (G : GSt g c qA q Z U (i :: r) OG0 OG s0 s) (ow : Owns g.C O g.K OG1 s) (hO : ∀ a, O a -> q a = 2 + r.length)
  (h1 : ∀ j, OG1 j -> OG j /\ ¬ OG2 j) (h2 : ∀ j, OG2 j -> OG j) (hr : ItsOk g.C g.n g.K q s OG2 r) (e : Ev g.C O OG1 s s') (hO' : ∀ a, O' a -> O a \/ Nw s a) (hOG' : ∀ j, OG1' j -> OG1 j \/ s.gens.size <= j) (hi : SrcOk g.C g.n g.K i' O' OG1' s') :
  GSt g c qA (recol O' (2 + r.length) q) Z U (i' :: r) OG0 (fun j => OG j \/ OG1' j) s0 s' := by
 have hC := G.C
 have ex : ∀ a o, s.heap.get? a = some o -> O' a -> O a := fun a o h z => (hO' a z).resolve_right fun n => by have n' : s.heap.get? a = none := n; rw [h] at n'; cases n'
 have ag : Agree s.heap q (recol O' (2 + r.length) q) := fun a o h => by
  by_cases z : O' a
  ·rw [recol_in z, hO a (ex a o h z)]
  ·exact recol_out z
 have sv : ∀ a, q a ≠ 0 -> Oof g qA a \/ Nw s0 a := fun a h => by
  cases hs : s0.heap.get? a with
  | none => exact .inr hs
  | some o => exact .inl (.inl (by rw [<- G.ag a o hs]; exact h))
 refine { C := G.C, env := G.env, n := G.n, ok := G.ok, S := ?_, cW := G.cW, ag := G.ag.tr G.since ag, since := ?_, its := ?_, og := fun j h => ?_, kk := fun a h => ?_, o0 := fun a h => ?_ }
 ·have e' : Ev c.C O OG1 s s' := by rw [hC]; exact e
  refine G.S.step (R := fun a => q a = 0 \/ q a = 1) e' (fun a h => ⟨fun z => by have := hO a h; omega, fun o ho => ?_⟩) (fun _ h => h) ag fun a h => ?_
  ·obtain ⟨_, o', ho', h3⟩ := ow.o a h
   rw [ho] at ho'; cases ho'; exact h3
  ·rw [hC]
   rcases recol_ne h with z | z
   ·exact hi.owns.o a z
   ·have := (G.S.col.ev e') a z
    rwa [hC] at this
 ·exact G.since.trans e (fun a h => sv a (by have := hO a h; omega)) (fun j h => (G.og j (h1 j h).1).1)
 ·refine ⟨O', OG1', OG2, hi, fun a h => recol_in h, fun j h => ⟨.inr h, fun z => ?_⟩, fun j h => .inl (h2 j h), ?_⟩
  ·rcases hOG' j h with y | y
   ·exact (h1 j y).2 z
   ·have := (G.og j (h2 j z)).2; lia
  ·refine hr.ev e ag (fun a h => ⟨fun hk => ?_, fun o ho => ?_⟩) (fun j h => (h1 j h).2) fun a h k hk => ?_
   ·have := (G.kk a hk).1; have := hO a h; lia
   ·obtain ⟨_, o', ho', h3⟩ := ow.o a h
    rw [ho] at ho'; cases ho'; exact h3
   ·have := hO a h; omega
 ·rcases h with h | h
  ·exact ⟨(G.og j h).1, Nat.lt_of_lt_of_le (G.og j h).2 e.gz⟩
  ·refine ⟨?_, hi.owns.g j h⟩
   rcases hOG' j h with y | y
   ·exact (G.og j (h1 j y).1).1
   ·exact .inr (Nat.le_trans G.since.gz y)
 ·obtain ⟨k1, o, ho, k2⟩ := G.kk a h
  refine E13 (e.al a o ho) fun o' ho' k3 _ => ?_
  exact ⟨(ag a o ho).trans k1, o', ho', by rw [k3]; exact k2⟩
 ·obtain ⟨h1, h2, h3, o, ho, h4⟩ := G.o0 a h
  refine E13 (e.al a o ho) fun o' ho' h5 _ => ?_
  exact ⟨(ag a o ho).trans h1, h2, h3, o', ho', by rw [h5]; exact h4⟩
theorem ItsOk.wide {C : Cx} {n : Nat} {K : Addr -> Prop} {q : Addr -> Nat} {s : Shared} : ∀ {its : List Src} {OG OG' : Nat -> Prop}, (∀ j, OG j -> OG' j) -> ItsOk C n K q s OG its -> ItsOk C n K q s OG' its
 | [], _, _, _, _ => trivial
 | i :: r, OG, OG', h, ⟨O, OG1, OG2, h1, h2, h3, h4, hr⟩ => ⟨O, OG1, OG2, h1, h2, fun j hj => ⟨h j (h3 j hj).1, (h3 j hj).2⟩, fun j hj => h j (h4 j hj), hr⟩
theorem GSt.gone {c : Ac} {qA q : Addr -> Nat} {OG0 OG OG1 OG2 : Nat -> Prop} {O : Addr -> Prop} {s0 s s' : Shared} {i : Src} {r : List Src} (G : GSt g c qA q Z U (i :: r) OG0 OG s0 s) (ow : Owns g.C O g.K OG1 s) (hO : ∀ a, O a -> q a = 2 + r.length)
  (h1 : ∀ j, OG1 j -> OG j /\ ¬ OG2 j) (h2 : ∀ j, OG2 j -> OG j) (hr : ItsOk g.C g.n g.K q s OG2 r) (e : Ev g.C O OG1 s s') :
  GSt g c qA q Z U r OG0 OG s0 s' := by
 have hC := G.C
 have sv : ∀ a, q a ≠ 0 -> Oof g qA a \/ Nw s0 a := fun a h => by
  cases hs : s0.heap.get? a with
  | none => exact .inr hs
  | some o => exact .inl (.inl (by rw [<- G.ag a o hs]; exact h))
 refine { C := G.C, env := G.env, n := G.n, ok := G.ok, S := ?_, cW := G.cW, ag := G.ag, since := ?_, its := ?_, og := fun j h => ⟨(G.og j h).1, Nat.lt_of_lt_of_le (G.og j h).2 e.gz⟩, kk := fun a h => ?_, o0 := fun a h => ?_ }
 ·have e' : Ev c.C O OG1 s s' := by rw [hC]; exact e
  refine G.S.step (R := fun a => q a = 0 \/ q a = 1) e' (fun a h => ⟨fun z => by have := hO a h; omega, fun o ho => ?_⟩) (fun _ h => h) .refl (G.S.col.ev e')
  obtain ⟨_, o', ho', h3⟩ := ow.o a h
  rw [ho] at ho'; cases ho'; exact h3
 ·exact G.since.trans e (fun a h => sv a (by have := hO a h; omega)) (fun j h => (G.og j (h1 j h).1).1)
 ·refine ItsOk.wide h2 (hr.ev e .refl (fun a h => ⟨fun hk => ?_, fun o ho => ?_⟩) (fun j h => (h1 j h).2) fun a h k hk => ?_)
  ·have := (G.kk a hk).1; have := hO a h; omega
  ·obtain ⟨_, o', ho', h3⟩ := ow.o a h
   rw [ho] at ho'; cases ho'; exact h3
  ·have := hO a h; omega
 ·obtain ⟨k1, o, ho, k2⟩ := G.kk a h
  refine E13 (e.al a o ho) fun o' ho' k3 _ => ?_
  exact ⟨k1, o', ho', by rw [k3]; exact k2⟩
 ·obtain ⟨h1, h2, h3, o, ho, h4⟩ := G.o0 a h
  refine E13 (e.al a o ho) fun o' ho' h5 _ => ?_
  exact ⟨h1, h2, h3, o', ho', by rw [h5]; exact h4⟩
theorem g_loop {name : Str} {px : Pos} {it : Value} {body : List Stmt} {fs' : List Frame} {r : List Src} {e : Bool} {Inv : List AV -> Env1 -> List AV -> Prop} (ok : g.Ok) (ct : Cont g (.forLoop (.Name name px) it body [] g.env) fs' id)
  (hx : g.env.kindOf name = some .local)
  (hend : ∀ U zs, Inv [] U zs -> e = false -> RC g (.block [] g.env) fs' (.pure (.done .next)) Z U r zs) (herr : ∀ U zs, Inv [] U zs -> e = true -> zs = [] /\ g.err = true)
  (hH : HC g (.forLoop (.Name name px) it body [] g.env) fs' true (fun x => .raise x)) (hl : ∀ x xs U zs, Inv (x :: xs) U zs -> x.ow = false)
  (hb : ∀ x xs U zs, Inv (x :: xs) U zs -> GX g Z (up name x U) (⟨true, it, xs, e⟩ :: r) body zs fun U' its' zs' => its' = ⟨true, it, xs, e⟩ :: r /\ Inv xs U' zs') :
  ∀ xs U zs, Inv xs U zs -> RC g (.forLoop (.Name name px) it body [] g.env) fs' (denote table (.forLoop (.Name name px) it body [] g.env)) Z U (⟨true, it, xs, e⟩ :: r) zs := by
 have hHn := HC.noted hH
 intro xs
 induction xs with
 | nil =>
  intro U zs hI A fl c qA q OG0 OG s0 s hr F hA hfl G
  obtain ⟨cC, cA, ce, cf, cn, cW⟩ := c
  obtain rfl : cC = g.C := G.C
  obtain rfl : ce = g.env := G.env
  obtain rfl : cn = g.n := G.n
  obtain rfl : cA = A.over _ fs' := hA
  obtain rfl : cf = g.env :: fl := hfl
  refine E35 G.its fun O OG1 OG2 h1 h2 h3 h4 h5 => ?_
  have hS : StrS g.C g.n e g.K it [] O OG1 s := h1
  show SegX _ A _ ((forTurn (.Name name px) it body [] g.env).onRaise (fun x => do noteFrame x g.env; theTreesLotGoes x)) fs' s _
  rw [Sem.onRaise_eq_wrap]
  have Fs := G.S.fx G.ok.e
  unfold forTurn
  refine g_bw (wpAny_standAt ?_)
  refine g_bw (wpAny_onRaise (hS.2 s No No .refl .no _ _ G.ok.room Fs _ _ (fun he s2 ev => ?_) (fun he x s2 ev X => ?_)))
  ·show SegX _ A _ (.pure (.again (.block [] g.env))) fs' s2 _
   refine s_again _ _ _ _ _ _ s2 _ rfl ?_
   exact hend U zs hI he A fl _ qA q OG0 OG s0 s2 hr F rfl rfl (G.gone hS.1 h2 h3 h4 h5 ev)
  ·refine E02 (herr U zs hI he) ?_; rintro rfl hg
   refine wpAny_standAt ?_
   have eD := (G.gone hS.1 h2 h3 h4 h5 ev).since
   rw [Sem.bind_eq_wrap]
   exact hHn A fl qA OG0 s0 s2 x hr F (Fs.ev ev) eD hg (X.any.mono fun a _ _ h => G.since.gone h)
 | cons x xs ih =>
  intro U zs hI A fl c qA q OG0 OG s0 s hr F hA hfl G
  obtain ⟨cC, cA, ce, cf, cn, cW⟩ := c
  obtain rfl : cC = g.C := G.C
  obtain rfl : ce = g.env := G.env
  obtain rfl : cn = g.n := G.n
  obtain rfl : cA = A.over _ fs' := hA
  obtain rfl : cf = g.env :: fl := hfl
  refine E35 G.its fun O OG1 OG2 h1 h2 h3 h4 h5 => ?_
  have hS : StrS g.C g.n e g.K it (x :: xs) O OG1 s := h1
  show SegX _ A _ ((forTurn (.Name name px) it body [] g.env).onRaise (fun x => do noteFrame x g.env; theTreesLotGoes x)) fs' s _
  rw [Sem.onRaise_eq_wrap]
  have Fs := G.S.fx G.ok.e
  unfold forTurn
  refine g_bw (wpAny_standAt ?_)
  refine g_bw (wpAny_onRaise (hS.2 s No No .refl .no _ _ G.ok.room Fs _ _ fun v s2 O' OG' ev r0 hO' hOG' hS' => ?_))
  have GD := G.took hS.1 h2 h3 h4 h5 ev hO' hOG' (i' := ⟨true, it, xs, e⟩) hS'
  refine g_bw (wpAny_of_eq (rfl : letOwnedTupleGo (.Name name px) it v = pure ()) ?_)
  refine g_bw (wpAny_assign_Name (GD.S.store GD.ok hx (av := x) (.of_rep r0.rep) (fun z => by rw [hl x xs U zs hI] at z; cases z) fun s3 eH S3 => ?_))
  have GH := GD.next .refl (eH.loc GD.S) S3
  refine SegX.mono (P := GEnd g.C (g.n + 1) g.err g.K g.fin zs (Oof g qA) OG0 s0) ?_ fun _ _ h => h
  rw [Sem.bind_eq_wrap', Sem.wrap_wrap]
  refine hb x xs U zs hI _ fs' _ _ _ _ ⟨ct.ov, ct.sp, ct.gu, rfl⟩ (fun U' its' zs' ⟨h6, h7⟩ => ?_) ?_ A fl _ qA _ OG0 _ s0 s3 hr F rfl rfl GH
  ·subst h6
   intro A fl c qA q OG0 OG s0 s hr F hA hfl G
   exact s_again _ _ _ _ _ _ s _ rfl (ih U' zs' h7 A fl c qA q OG0 OG s0 s hr F hA hfl G)
  ·intro A fl qA OG0 s0 s x hr F F' e he X
   have := hHn A fl qA OG0 s0 s x hr F F' e he X
   refine SegX.mono (P := GEnd g.C (g.n + 1) g.err g.K g.fin [] (Oof g qA) OG0 s0) ?_ fun _ _ h => h
   show SegX _ A _ (Sem.bind _ _) fs' s _
   rw [Sem.bind_eq_wrap]
   exact this
theorem GSt.reA {c : Ac} {qA q : Addr -> Nat} {OG0 OG : Nat -> Prop} {s0 s : Shared} {A' : Around} {fl : List Env} (G : GSt g c qA q Z U its OG0 OG s0 s) (hfl : c.fl = g.env :: fl) (h1 : A'.frames = some (g.env :: fl)) (h2 : Room g.n A') :
  GSt g { c with A := A' } qA q Z U its OG0 OG s0 s :=
 {
  C := G.C, env := G.env, n := G.n, cW := G.cW, ag := G.ag, since := G.since, its := G.its, og := G.og, kk := G.kk, o0 := G.o0,
  ok := .mk' G.ok.C (by show Room c.n A'; rw [G.n]; exact h2) (by show A'.frames = some c.fl; rw [h1, hfl]) G.ok.top G.ok.kind G.ok.g G.ok.b G.ok.fr,
  S := { base := G.S.base, col := G.S.col, new := G.S.new, loc := G.S.loc, cel := G.S.cel, frs := G.S.frs, frf := G.S.frf, own := G.S.own } }
theorem g_run {name : Str} {px : Pos} {it : Value} {body : List Stmt} {r : List Src} {xs : List AV} {e : Bool} {Inv : List AV -> Env1 -> List AV -> Prop} (ok : g.Ok) {code : Code} {fs : List Frame} {K : Flow -> Sem Fin} {H : Value -> Sem Fin} {gd : Bool -> Bool} {lv : List Value -> List Value}
  (ct : Cont g code fs gd) (hK : ∀ U' its' zs', Kc U' its' zs' -> RC g code fs (K .next) Z U' its' zs') (hH : HC g code fs false H)
  (hx : g.env.kindOf name = some .local) (hI : Inv xs U zs)
  (hend : ∀ U zs, Inv [] U zs -> e = false -> Kc U r zs) (herr : ∀ U zs, Inv [] U zs -> e = true -> zs = [] /\ g.err = true)
  (hl : ∀ x xs U zs, Inv (x :: xs) U zs -> x.ow = false)
  (hb : ∀ x xs U zs, Inv (x :: xs) U zs -> GX g Z (up name x U) (⟨true, it, xs, e⟩ :: r) body zs fun U' its' zs' => its' = ⟨true, it, xs, e⟩ :: r /\ Inv xs U' zs') :
  RC g code fs ((runOwn (.forLoop (.Name name px) it body [] g.env) g.env).wrap K H gd lv) Z U (⟨true, it, xs, e⟩ :: r) zs := by
 intro A fl c qA q OG0 OG s0 s hr F hA hfl G
 have kk : ∀ p, SegX (model g.C.prog g.C.w) A (.forLoop (.Name name px) it body [] g.env) (denote table (.forLoop (.Name name px) it body [] g.env))
   (.ret (fun rr => ((match rr with | .ok f => (.pure f : Sem Flow) | .error e => .raise e).onRaise fun (x : Value) => do
    if (<- field x 1) == Value.none then unsupported "frame.own-activation:exception-without-traceback"
    setFlight x g.env.frame).wrap K H gd lv) none (gd false) (lv []) code p [] :: fs) s (GEnd g.C (g.n + 1) g.err g.K g.fin zs (Oof g qA) OG0 s0) := by
  intro p
  have ct' := ct.push (c' := .forLoop (.Name name px) it body [] g.env) (k := fun rr => ((match rr with | .ok f => (.pure f : Sem Flow) | .error e => .raise e).onRaise fun (x : Value) => do
    if (<- field x 1) == Value.none then unsupported "frame.own-activation:exception-without-traceback"
    setFlight x g.env.frame).wrap K H gd lv) (l := lv []) (p := p) rfl rfl rfl
  refine E02 (ct'.ov A fl hr F.frames) fun f1 f2 => ?_
  have G' := G.reA hfl f1 f2
  refine g_loop ok ct' hx (fun U' zs' hI' he => ?_) herr ?_ hl hb xs U zs hI A fl { c with A := _ } qA q OG0 OG s0 s hr F rfl hfl G'
  ·intro A fl c qA q OG0 OG s0 s hr F hA hfl G
   refine E02 (ct.ov A fl hr F.frames) fun f1 f2 => ?_
   refine s_pop _ _ _ _ _ _ s (.ok .next) _ rfl _ _ _ _ _ _ _ ?_
   have G' := G.reA hfl f1 f2
   exact hK U' r zs' (hend U' zs' hI' he) A fl { c with A := _ } qA q OG0 OG s0 s hr F rfl hfl G'
  ·intro A fl qA OG0 s0 s x hr F F' e he X
   refine s_pop _ _ _ _ _ _ s (.error x) _ rfl _ _ _ _ _ _ _ ?_
   refine E02 (ct.ov A fl hr F.frames) fun f1 f2 => ?_
   have F2 : Fx g.C (A.over code fs) (g.env :: fl) s := ⟨F'.ok, F'.base, f1, F'.frs, F'.frf⟩
   have w : Wr g.C (Nw s0) s := ⟨fun a h => e.gone h, fun a h => F.base.gone h⟩
   show SegX _ A code (Sem.wrap K H gd lv (Sem.bind (do
    if (<- field x 1) == Value.none then unsupported "frame.own-activation:exception-without-traceback"
    setFlight x g.env.frame) fun _ => Sem.raise x)) fs s _
   rw [Sem.bind_eq_wrap, Sem.wrap_wrap]
   refine g_wrap ?_
   exact cameBack_any (E := fun x s' => SegX (model g.C.prog g.C.w) A code (H x) fs s' (GEnd g.C (g.n + 1) g.err g.K g.fin [] (Oof g qA) OG0 s0)) F2 w X fun s1 ew X1 =>
    hH A fl qA OG0 s0 s1 x hr F (F2.ev ew) (e.trans ew (fun a h => .inr h) (fun _ h => h.elim)) he X1.any
 exact s_call _ _ _ _ _ _ s _ _ _ _ _ kk
theorem g1_for_src {name : Str} {px p : Pos} {iter : Expr} {v : Value} {body : List Stmt} {r : List Src} {xs : List AV} {e : Bool} {Inv : List AV -> Env1 -> List AV -> Prop} (ok : g.Ok)
  (h : ∀ c : Ac, c.Ok -> c.C = g.C -> c.env = g.env -> c.n = g.n -> EV c Z U iter (.raw v)) (hx : g.env.kindOf name = some .local) (hI : Inv xs U zs)
  (hend : ∀ U zs, Inv [] U zs -> e = false -> Kc U r zs) (herr : ∀ U zs, Inv [] U zs -> e = true -> zs = [] /\ g.err = true)
  (hl : ∀ x xs U zs, Inv (x :: xs) U zs -> x.ow = false)
  (hb : ∀ it x xs U zs, Inv (x :: xs) U zs -> GX g Z (up name x U) (⟨true, it, xs, e⟩ :: r) body zs fun U' its' zs' => its' = ⟨true, it, xs, e⟩ :: r /\ Inv xs U' zs')
  (hs : ∀ x, foldedSetIterable iter g.env x = pure x := by intro _; rfl) : G1 g Z U (⟨false, v, xs, e⟩ :: r) (.For (.Name name px) iter body [] p) zs Kc := fun code fs K H gd lv ct hKc hH A fl c qA q OG0 OG s0 s hr F hA hfl G => by
 obtain ⟨cC, cA, ce, cf, cn, cW⟩ := c
 obtain rfl : cC = g.C := G.C
 obtain rfl : ce = g.env := G.env
 obtain rfl : cn = g.n := G.n
 obtain rfl : cA = A.over code fs := hA
 obtain rfl : cf = g.env :: fl := hfl
 rw [exec_For]
 refine g_bw (wpAny_standAt ?_)
 refine g_bw (h _ G.ok rfl rfl rfl q s G.S fun v' s1 ew rB => ?_)
 obtain rfl : v' = v := rB
 have GB := G.next .refl ew.up (G.S.ev ew)
 refine g_bw (wpAny_of_eq (hs v') ?_)
 refine g_bw (wpAny_standAt ?_)
 refine E35 GB.its fun O OG1 OG2 h1 h2 h3 h4 h5 => ?_
 have hB : Itb g.C g.n e g.K v' xs O OG1 s1 := h1
 refine g_bw (wpAny_holding (hB.2 s1 No No .refl .no _ _ G.ok.room (GB.S.fx G.ok.e) _ _ fun it s2 O' eD hO' hS _ => ?_))
 have GD := GB.took (i' := ⟨true, it, xs, e⟩) hB.1 h2 h3 h4 h5 eD.up hO' (fun j hj => .inl hj) hS
 exact g_run ok ct hKc hH hx hI hend herr hl (hb it) A fl _ qA _ OG0 _ s0 s2 hr F rfl rfl GD
noncomputable def GvF (C : Cx) (A : Around) (s : Shared) (t : Sem Value) (xs : List AV) : Prop :=
 ∀ {Q : VP} {E : VP}, (∀ a vs s', Ev C No No s s' -> Nw s a -> s'.heap.IsList a ⟨vs⟩ -> RepL (fun _ => 1) s'.heap xs vs -> Q (.ref a) s') -> wpAny (model C.prog C.w) A t Q E s
noncomputable def EVF (c : Ac) (Z U : Env1) (e : Expr) (xs : List AV) : Prop := ∀ q s, St c q Z U s -> GvF c.C c.A s (eval e c.env) xs
end
section
variable {prog : Program} {w : World} {A : Around} {E : VP} {s : Shared}
theorem list_end {it : Addr} {i : Nat} {l : Addr} {items : Array Value} {Q : Option Value -> Shared -> Prop} (hh : A.handled = none) (hit : s.heap.IsListIter it l i) (hl : s.heap.IsList l items) (hx : items[i]? = none)
  (hQ : ∀ h', Heap.ExtBut it s.heap h' -> (∃ o, h'.get? it = some o /\ ∀ o', s.heap.get? it = some o' -> o.cls = o'.cls) -> Q none { s with heap := h' }) : wpAny (model prog w) A (pyNext (.ref it)) Q E s := by
 refine E13 (id hit) fun o ho hc hd => ?_
 obtain ⟨ol, hol, _, nl, hdl⟩ := hl
 unfold pyNext
 refine wB (wpAny_attempt (wpAny_callSpecial?_slot (name := ofString "__next__") hit.typeIs slot_listiter_next
  (wpAny_call_entry slot_listiter_next hit.typeIs entry_listiter_next ?_ (args_listiter_next _))))
 show wpAny _ _ (field (.ref it) 0 >>= _) _ _ s
 refine wB (wpAny_field ho hd (x := Value.ref l) rfl ?_)
 show wpAny _ _ (if (Value.ref l == Value.none) = true then _ else _) _ _ s
 refine wpEq (if_neg (show ¬ ((Value.ref l == Value.none) = true) from fT)) ?_
 show wpAny _ _ (field (.ref it) 1 >>= _) _ _ s
 refine wB (wpAny_field ho hd (x := .int i 0) rfl ?_)
 show wpAny _ _ (seqItems? (.ref l) >>= _) _ _ s
 refine wB (wpAny_seqItems hol hdl ?_)
 simp only [Int.toNat_natCast, hx]
 refine wB (wpAny_rule (wB (wpAny_setField ho hd (by simp) ?_)))
 show wpAny _ _ (newExc (.type "StopIteration") [] >>= _) _ _ _
 refine wB ?_
 unfold newExc newTuple
 refine wB (wpAny_newObj_type ?_ (by size_fits))
 refine wB (m := firstArgMember _ _) (wpAny_of_eq (a := Value.none) (by first | rfl | (simp only [firstArgMember]; rfl)) ?_)
 refine wpAny_newObj_type ?_ (by size_fits)
 unfold raiseNew
 refine wB (wpAny_handled ?_)
 first | rw [show A.in1.handled = none from hh] | rw [hh]
 refine wB (wP (wpAny_throw ?_))
 refine wB (wpAny_isInstance (T := "StopIteration") (b := true) ⟨_, Heap.get?_push_size _ rfl, rfl⟩ isSubtype_stop ?_)
 refine wP (hQ _ (((Heap.SameBut.update ..).extBut.push _).push _) ⟨_, gP _ (gP _ (Heap.get?_update_self _ ho (Obj.isFreed_of_fields (Obj.data_mapFields hd _)))), fun o' ho' => ?_⟩)
 rw [ho] at ho'; cases ho'
 exact Obj.cls_mapFields ..
theorem tuple_end {it : Addr} {i : Nat} {l : Addr} {items : Array Value} {Q : Option Value -> Shared -> Prop} (hh : A.handled = none) (hit : s.heap.IsTupleIter it l i) (hl : s.heap.IsTuple l items) (hx : items[i]? = none)
  (hQ : ∀ h', Heap.ExtBut it s.heap h' -> (∃ o, h'.get? it = some o /\ ∀ o', s.heap.get? it = some o' -> o.cls = o'.cls) -> Q none { s with heap := h' }) : wpAny (model prog w) A (pyNext (.ref it)) Q E s := by
 refine E13 (id hit) fun o ho hc hd => ?_
 obtain ⟨ol, hol, _, nl, hdl⟩ := hl
 unfold pyNext
 refine wB (wpAny_attempt (wpAny_callSpecial?_slot (name := ofString "__next__") hit.typeIs F.slot_tuple_iterator_next
  (wpAny_call_entry F.slot_tuple_iterator_next hit.typeIs F.entry_tuple_iterator_next ?_ (F.args_tuple_iterator_next_1 _))))
 show wpAny _ _ (field (.ref it) 0 >>= _) _ _ s
 refine wB (wpAny_field ho hd (x := Value.ref l) rfl ?_)
 show wpAny _ _ (if (Value.ref l == Value.none) = true then _ else _) _ _ s
 refine wpEq (if_neg (show ¬ ((Value.ref l == Value.none) = true) from fT)) ?_
 show wpAny _ _ (field (.ref it) 1 >>= _) _ _ s
 refine wB (wpAny_field ho hd (x := .int i 0) rfl ?_)
 show wpAny _ _ (seqItems? (.ref l) >>= _) _ _ s
 refine wB (wpAny_seqItems hol hdl ?_)
 simp only [Int.toNat_natCast, hx]
 refine wB (wpAny_rule (wB (wpAny_setField ho hd (by simp) ?_)))
 show wpAny _ _ (newExc (.type "StopIteration") [] >>= _) _ _ _
 refine wB ?_
 unfold newExc newTuple
 refine wB (wpAny_newObj_type ?_ (by size_fits))
 refine wB (m := firstArgMember _ _) (wpAny_of_eq (a := Value.none) (by first | rfl | (simp only [firstArgMember]; rfl)) ?_)
 refine wpAny_newObj_type ?_ (by size_fits)
 unfold raiseNew
 refine wB (wpAny_handled ?_)
 first | rw [show A.in1.handled = none from hh] | rw [hh]
 refine wB (wP (wpAny_throw ?_))
 refine wB (wpAny_isInstance (T := "StopIteration") (b := true) ⟨_, Heap.get?_push_size _ rfl, rfl⟩ isSubtype_stop ?_)
 refine wP (hQ _ (((Heap.SameBut.update ..).extBut.push _).push _) ⟨_, gP _ (gP _ (Heap.get?_update_self _ ho (Obj.isFreed_of_fields (Obj.data_mapFields hd _)))), fun o' ho' => ?_⟩)
 rw [ho] at ho'; cases ho'
 exact Obj.cls_mapFields ..
theorem bytes_end {it : Addr} {i : Nat} {b : Array UInt8} {t : Tok} {Q : Option Value -> Shared -> Prop} (hh : A.handled = none) (hit : KBw.IsBytesIter s.heap it b t i)  (hx : b[i]? = none)
  (hQ : ∀ h', Heap.ExtBut it s.heap h' -> (∃ o, h'.get? it = some o /\ ∀ o', s.heap.get? it = some o' -> o.cls = o'.cls) -> Q none { s with heap := h' }) : wpAny (model prog w) A (pyNext (.ref it)) Q E s := by
 refine E13 (id hit) fun o ho hc hd => ?_
 skip
 unfold pyNext
 refine wB (wpAny_attempt (wpAny_callSpecial?_slot (name := ofString "__next__") (KBw.iter_typeIs hit) KBw.slot_next
  (wpAny_call_entry KBw.slot_next (KBw.iter_typeIs hit) KBw.entry_next ?_ (KBw.args_next _))))
 show wpAny _ _ (field (.ref it) 0 >>= _) _ _ s
 refine wB (wpAny_field ho hd (x := Value.bytes b t) rfl ?_)
 show wpAny _ _ (if (Value.bytes b t == Value.none) = true then _ else _) _ _ s
 refine wpEq (if_neg (show ¬ ((Value.bytes b t == Value.none) = true) from fT)) ?_
 show wpAny _ _ (field (.ref it) 1 >>= _) _ _ s
 refine wB (wpAny_field ho hd (x := .int i 0) rfl ?_)
 refine wB (wpAny_of_eq (a := b) rfl ?_)
 simp only [Int.toNat_natCast, hx]
 refine wB (wpAny_rule (wB (wpAny_setField ho hd (by simp) ?_)))
 show wpAny _ _ (newExc (.type "StopIteration") [] >>= _) _ _ _
 refine wB ?_
 unfold newExc newTuple
 refine wB (wpAny_newObj_type ?_ (by size_fits))
 refine wB (m := firstArgMember _ _) (wpAny_of_eq (a := Value.none) (by first | rfl | (simp only [firstArgMember]; rfl)) ?_)
 refine wpAny_newObj_type ?_ (by size_fits)
 unfold raiseNew
 refine wB (wpAny_handled ?_)
 first | rw [show A.in1.handled = none from hh] | rw [hh]
 refine wB (wP (wpAny_throw ?_))
 refine wB (wpAny_isInstance (T := "StopIteration") (b := true) ⟨_, Heap.get?_push_size _ rfl, rfl⟩ isSubtype_stop ?_)
 refine wP (hQ _ (((Heap.SameBut.update ..).extBut.push _).push _) ⟨_, gP _ (gP _ (Heap.get?_update_self _ ho (Obj.isFreed_of_fields (Obj.data_mapFields hd _)))), fun o' ho' => ?_⟩)
 rw [ho] at ho'; cases ho'
 exact Obj.cls_mapFields ..
end
section
variable {C : Cx} {n : Nat} {K O W : Addr -> Prop} {OG G : Nat -> Prop} {s s1 s2 : Shared}
noncomputable def R0L (h : Heap) (xs : List AV) (vs : List Value) : Prop := RepL (fun _ => 1) h xs vs
theorem R0L.ev {xs : List AV} {vs : List Value} (r : R0L s.heap xs vs) (e : Ev C W G s s1) (B : Base C s.heap) (t : ∀ a o, W a -> s.heap.get? a = some o -> o.cls ≠ .type "tuple" /\ o.cls ≠ .ref hvf) : R0L s1.heap xs vs :=
 RepL.mono (R := fun _ => False) (e.kept B fun a h => ⟨id, fun o ho => t a o h ho⟩) (fun _ _ _ _ h => by cases h) (fun _ _ _ h => by cases h) xs vs r
theorem drop_cons {vs : List Value} {i : Nat} {x : AV} {xs : List AV} {h : Heap} (r : R0L h (x :: xs) (vs.drop i)) : ∃ v, vs[i]? = some v /\ R0 h x v /\ R0L h xs (vs.drop (i + 1)) := by
 cases e : vs.drop i with
 | nil => rw [e] at r; exact r.elim
 | cons v rest =>
  rw [e] at r
  unfold R0L at r
  rw [RepL] at r
  have h1 : vs[i]? = some v := by
   have := congrArg (·[0]?) e
   simpa using this
  have h2 : vs.drop (i + 1) = rest := by
   have := congrArg List.tail e
   simpa using this
  exact ⟨v, h1, r.1, by rw [h2]; exact r.2⟩
theorem drop_nil {vs : List Value} {i : Nat} {h : Heap} (r : R0L h [] (vs.drop i)) : vs[i]? = none := by
 cases e : vs.drop i with
 | nil =>
  have := congrArg List.length e
  simp at this
  simp; omega
 | cons v rest => rw [e] at r; unfold R0L at r; rw [RepL] at r; exact r.elim
theorem Ev.iter (hc : C.Ok) {it : Addr} {o o' : Obj} {vs : Array Value} {h' : Heap} {tk : Nat} (ho : s.heap.get? it = some o) (hd : o.data = .fields vs) (hnc : o.cls ≠ .type "code") (hn : C.h₁.get? it = none) (hx : Heap.ExtBut it s.heap h') (ho' : h'.get? it = some o') (hcl : o'.cls = o.cls) (hO : O it) :
  Ev C O OG s { s with heap := h', toks := tk } :=
 (Ev.turn (G := No) hc ho hn hx ho' hcl (fun z => (z vs hd).elim) hnc).mono (fun a h => .inl (h ▸ hO)) (fun _ h => h.elim)
theorem notT_cls {h : Heap} (B : Base C h) {a : Addr} {o : Obj} (ho : h.get? a = some o) (hc : o.cls ≠ .none) : a ∉ C.T := fun ht => by
 refine E12 (List.mem_map.mp ht) ?_; rintro p hp rfl
 refine E13 (B.tab p hp) fun ps _ t _ => ?_
 rw [ho] at t; cases t; exact hc rfl
theorem list_str (hc : C.Ok) {it l : Addr} {vs : List Value} : ∀ (xs : List AV) (i : Nat) (s : Shared), Base C s.heap -> s.heap.IsListIter it l i -> s.heap.IsList l ⟨vs⟩ -> C.h₁.get? it = none -> O it -> (K l \/ O l) -> l ≠ it -> R0L s.heap xs (vs.drop i) -> Owns C O K OG s -> StrS C n false K (.ref it) xs O OG s
 | xs, i, s, B, hit, hl, hn, hO, hK, hne, r, ow => by
  have main : ∀ s1 W G, Ev C W G s s1 -> Apart O K W OG G s.heap -> s1.heap.IsListIter it l i /\ s1.heap.IsList l ⟨vs⟩ := by
   intro s1 W G e ap
   refine E13 hit ?_; clear hit; intro o ho hcl hd
   obtain ⟨ol, hol, hcl', m, hd'⟩ := hl
   refine E12 (e.kp it o ho (fun h => (ap.o it h).1 hO) (Base.noT hc hn)) fun o' ho' z => ?_
   refine E12 (e.kp l ol hol (fun h => hK.elim (ap.o l h).2 (ap.o l h).1) (notT_cls B hol (by rw [hcl']; nofun))) fun ol' hol' z' => ?_
   exact ⟨⟨o', ho', z.1.trans hcl, z.2.2.1.trans hd⟩, ⟨ol', hol', z'.1.trans hcl', m, z'.2.2.1.trans hd'⟩⟩
  cases xs with
  | nil =>
   refine ⟨ow, fun s1 W G e ap A fl hr F Q E hQ _ => ?_⟩
   refine E02 (main s1 W G e ap) fun hit1 hlB => ?_
   refine list_end hr.h hit1 hlB (by simpa using drop_nil r) fun h' hx ⟨o', ho', hcl⟩ => ?_
   refine E13 hit1 ?_; clear hit1; intro o ho hcI hd
   exact hQ rfl _ (Ev.iter hc (tk := s1.toks) ho hd (by rw [hcI]; simp) hn hx ho' (hcl o ho) hO)
  | cons x xs =>
   refine E13 (drop_cons r) fun v hv r0 r' => ?_
   refine ⟨ow, fun s1 W G e ap A fl hr F Q E hQ => ?_⟩
   refine E02 (main s1 W G e ap) fun hit1 hlB => ?_
   refine wpAny_pyNext_list_item hit1 hlB (x := v) (by simpa using hv) fun h' hit' hsb => ?_
   refine E13 hit1 ?_; clear hit1; intro o ho hcl hd
   have hcI := hcl
   refine E13 (id hit') fun o' ho' hcl' hd' => ?_
   have eD : Ev C O OG s1 { s1 with heap := h' } := Ev.iter hc (tk := s1.toks) ho hd (by rw [hcI]; simp) hn hsb.extBut ho' (hcl'.trans hcl.symm) hO
   have e2' : Ev C (· = it) No s1 { s1 with heap := h' } := Ev.iter hc (O := (· = it)) (tk := s1.toks) ho hd (by rw [hcI]; simp) hn hsb.extBut ho' (hcl'.trans hcl.symm) rfl
   have tD : ∀ a o, a = it -> s1.heap.get? a = some o -> o.cls ≠ .type "tuple" /\ o.cls ≠ .ref hvf := fun a oo ha hoo => by subst ha; rw [ho] at hoo; cases hoo; rw [hcl]; exact ⟨by simp, by simp⟩
   refine hQ v _ O OG eD ((r0.ev e B ap.t).ev e2' F.base tD) (fun _ h => .inl h) (fun _ h => .inl h) ?_
   exact list_str hc xs (i + 1) _ (eD.bs F.base) hit' (hlB.extBut hsb.extBut hne) hn hO hK hne ((r'.ev e B ap.t).ev e2' F.base tD) ((ow.ev e).ev eD)
theorem tuple_str (hc : C.Ok) {it l : Addr} {vs : List Value} : ∀ (xs : List AV) (i : Nat) (s : Shared), Base C s.heap -> s.heap.IsTupleIter it l i -> s.heap.IsTuple l ⟨vs⟩ -> C.h₁.get? it = none -> O it -> l ≠ it -> R0L s.heap xs (vs.drop i) -> Owns C O K OG s -> StrS C n false K (.ref it) xs O OG s
 | xs, i, s, B, hit, hl, hn, hO, hne, r, ow => by
  have main : ∀ s1 W G, Ev C W G s s1 -> Apart O K W OG G s.heap -> s1.heap.IsTupleIter it l i /\ s1.heap.IsTuple l ⟨vs⟩ := by
   intro s1 W G e ap
   refine E13 hit ?_; clear hit; intro o ho hcl hd
   obtain ⟨ol, hol, hcl', m, hd'⟩ := hl
   refine E12 (e.kp it o ho (fun h => (ap.o it h).1 hO) (Base.noT hc hn)) fun o' ho' z => ?_
   refine E12 (e.kp l ol hol (fun h => (ap.t l ol h hol).1 hcl') (notT_cls B hol (by rw [hcl']; nofun))) fun ol' hol' z' => ?_
   exact ⟨⟨o', ho', z.1.trans hcl, z.2.2.1.trans hd⟩, ⟨ol', hol', z'.1.trans hcl', m, z'.2.2.1.trans hd'⟩⟩
  cases xs with
  | nil =>
   refine ⟨ow, fun s1 W G e ap A fl hr F Q E hQ _ => ?_⟩
   refine E02 (main s1 W G e ap) fun hit1 hlB => ?_
   refine tuple_end hr.h hit1 hlB (by simpa using drop_nil r) fun h' hx ⟨o', ho', hcl⟩ => ?_
   refine E13 hit1 ?_; clear hit1; intro o ho hcI hd
   exact hQ rfl _ (Ev.iter hc (tk := s1.toks) ho hd (by rw [hcI]; simp) hn hx ho' (hcl o ho) hO)
  | cons x xs =>
   refine E13 (drop_cons r) fun v hv r0 r' => ?_
   refine ⟨ow, fun s1 W G e ap A fl hr F Q E hQ => ?_⟩
   refine E02 (main s1 W G e ap) fun hit1 hlB => ?_
   refine wpAny_pyNext_tuple_item hit1 hlB (x := v) (by simpa using hv) fun h' hit' hsb => ?_
   refine E13 hit1 ?_; clear hit1; intro o ho hcl hd
   have hcI := hcl
   refine E13 (id hit') fun o' ho' hcl' hd' => ?_
   have eD : Ev C O OG s1 { s1 with heap := h' } := Ev.iter hc (tk := s1.toks) ho hd (by rw [hcI]; simp) hn hsb.extBut ho' (hcl'.trans hcl.symm) hO
   have e2' : Ev C (· = it) No s1 { s1 with heap := h' } := Ev.iter hc (O := (· = it)) (tk := s1.toks) ho hd (by rw [hcI]; simp) hn hsb.extBut ho' (hcl'.trans hcl.symm) rfl
   have tD : ∀ a o, a = it -> s1.heap.get? a = some o -> o.cls ≠ .type "tuple" /\ o.cls ≠ .ref hvf := fun a oo ha hoo => by subst ha; rw [ho] at hoo; cases hoo; rw [hcl]; exact ⟨by simp, by simp⟩
   refine hQ v _ O OG eD ((r0.ev e B ap.t).ev e2' F.base tD) (fun _ h => .inl h) (fun _ h => .inl h) ?_
   exact tuple_str hc xs (i + 1) _ (eD.bs F.base) hit' (hlB.extBut hsb.extBut hne) hn hO hne ((r'.ev e B ap.t).ev e2' F.base tD) ((ow.ev e).ev eD)
noncomputable def bInts (b : List UInt8) : List AV := b.map fun c => .int c.toNat
theorem bytes_str (hc : C.Ok) {it : Addr} {b : List UInt8} {t : Tok} : ∀ (zs : List UInt8) (i : Nat) (s : Shared), b.drop i = zs -> Base C s.heap -> KBw.IsBytesIter s.heap it ⟨b⟩ t i -> C.h₁.get? it = none -> O it -> Owns C O K OG s -> StrS C n false K (.ref it) (bInts zs) O OG s := by
 have main : ∀ i (s : Shared), KBw.IsBytesIter s.heap it ⟨b⟩ t i -> C.h₁.get? it = none -> O it -> ∀ s1 W G, Ev C W G s s1 -> Apart O K W OG G s.heap -> KBw.IsBytesIter s1.heap it ⟨b⟩ t i := by
  intro i s hit hn hO s1 W G e ap
  refine E13 hit ?_; clear hit; intro o ho hcl hd
  refine E12 (e.kp it o ho (fun h => (ap.o it h).1 hO) (Base.noT hc hn)) fun o' ho' z => ?_
  exact ⟨o', ho', z.1.trans hcl, z.2.2.1.trans hd⟩
 intro zs
 induction zs with
 | nil =>
  intro i s hb B hit hn hO ow
  have hlen : b.length <= i := by have := congrArg List.length hb; simp at this; omega
  refine ⟨ow, fun s1 W G e ap A fl hr F Q E hQ _ => ?_⟩
  have hit1 := main i s hit hn hO s1 W G e ap
  refine bytes_end hr.h hit1 (by simp; lia) fun h' hx ⟨o', ho', hcl⟩ => ?_
  refine E13 hit1 ?_; clear hit1; intro o ho hcI hd
  exact hQ rfl _ (Ev.iter hc (tk := s1.toks) ho hd (by rw [hcI]; simp) hn hx ho' (hcl o ho) hO)
 | cons x xs ih =>
  intro i s hb B hit hn hO ow
  have hlt : i < b.length := by
   rcases Nat.lt_or_ge i b.length with h | h
   ·exact h
   ·rw [List.drop_of_length_le h] at hb; cases hb
  have h1 : b[i]? = some x := by have := congrArg (·[0]?) hb; simpa using this
  have h2 : b.drop (i + 1) = xs := by have := congrArg List.tail hb; simpa using this
  refine ⟨ow, fun s1 W G e ap A fl hr F Q E hQ => ?_⟩
  have hit1 := main i s hit hn hO s1 W G e ap
  refine KBw.next_item hit1 (c := x) (by simpa using h1) fun h' hit' hsb => ?_
  refine E13 hit1 ?_; clear hit1; intro o ho hcl hd
  have hcI := hcl
  refine E13 (id hit') fun o' ho' hcl' hd' => ?_
  have eD : Ev C O OG s1 { s1 with heap := h', toks := s1.toks + 1 } := Ev.iter hc ho hd (by rw [hcI]; simp) hn hsb.extBut ho' (hcl'.trans hcl.symm) hO
  refine hQ _ _ O OG eD (by unfold R0; rw [Rep]; exact ⟨_, rfl⟩) (fun _ h => .inl h) (fun _ h => .inl h) ?_
  exact ih (i + 1) { s1 with heap := h', toks := s1.toks + 1 } h2 (eD.bs F.base) hit' hn hO ((ow.ev e).ev eD)
end
section
variable {c : Ac} {q qB : Addr -> Nat} {Z U : Env1} {s s1 s' : Shared} {N N' : Env1 -> Prop} {R R' : AV -> Prop} {X X' : Prop} {Q : Flow -> Shared -> Prop} {E : VP}
structure Lp (c : Ac) (Z : Env1) (q : Addr -> Nat) (s : Shared) (Kl : Addr -> Prop) (it : Value) (xs : List AV) (U : Env1) (qB : Addr -> Nat) (O : Addr -> Prop) (OG : Nat -> Prop) (s1 : Shared) : Prop where
 S : St c qB Z U s1
 ag : Agree s.heap q qB
 since : Ev c.C (Wq c q) No s s1
 str : StrS c.C c.n false Kl it xs O OG s1
 hO : ∀ a, O a -> qB a = 2 /\ Nw s a
 hG : ∀ i, OG i -> s.gens.size <= i
 hl : ∀ a, Kl a -> qB a = 0
theorem Lp.apart (hc : c.Ok) {Kl : Addr -> Prop} {it : Value} {xs : List AV} {O : Addr -> Prop} {OG : Nat -> Prop} (L : Lp c Z q s Kl it xs U qB O OG s1) : Apart O Kl (Wq c qB) OG No s1.heap where
 o := fun a h => ⟨fun z => by
   have h2 := (L.hO a z).1
   rcases h.2 with y | y
   ·lia
   ·subst y; have := L.S.own.2.1; lia, fun z => by
   rcases h.2 with y | y
   ·have := L.hl a z; lia
   ·refine E12 (L.str.owns.k _ z) fun o ho h2 => ?_
    refine E12 (L.S.locC hc) fun o' ho' h3 => ?_
    rw [<- y, ho] at ho'; cases ho'; rw [h3] at h2; exact absurd h2 (by simp)⟩
 t := fun a o h ho => by
  rcases h.2 with y | y
  ·obtain ⟨_, o', ho', h1⟩ := L.S.col a (by lia)
   rw [ho] at ho'; cases ho'; exact h1
  ·refine E12 (L.S.locC hc) fun o' ho' h3 => ?_
   rw [<- y, ho] at ho'; cases ho'; rw [h3]; exact ⟨by simp, by simp⟩
 g := fun _ h => h.elim
theorem Lp.next (hc : c.Ok) {Kl : Addr -> Prop} {it : Value} {xs : List AV} {O : Addr -> Prop} {OG : Nat -> Prop} {U' : Env1} {qD : Addr -> Nat} (L : Lp c Z q s Kl it xs U qB O OG s1) (ag : Agree s1.heap qB qD) (e : Ev c.C (Wq c qB) No s1 s') (S : St c qD Z U' s') : Lp c Z q s Kl it xs U' qD O OG s' where
 S := S
 ag := L.ag.tr L.since ag
 since := L.since.wq L.ag e
 str := L.str.ev e (L.apart hc)
 hO := fun a h => by
  obtain ⟨_, o, ho, _⟩ := L.str.owns.o a h
  exact ⟨(ag a o ho).trans (L.hO a h).1, (L.hO a h).2⟩
 hG := L.hG
 hl := fun l hl => by
  refine E12 (L.str.owns.k l hl) fun o ho _ => ?_
  exact (ag l o ho).trans (L.hl l hl)
theorem Lp.step {Kl : Addr -> Prop} {it : Value} {xs : List AV} {O O' : Addr -> Prop} {OG : Nat -> Prop} (L : Lp c Z q s Kl it xs U qB O OG s1) (e : Ev c.C O OG s1 s') (hO' : ∀ a, O' a -> O a \/ Nw s1 a) (ho : ∀ a, O' a -> c.C.h₁.get? a = none /\ ∃ o, s'.heap.get? a = some o /\ o.cls ≠ .type "tuple" /\ o.cls ≠ .ref hvf) :
  ∃ qD, St c qD Z U s' /\ Agree s.heap q qD /\ Ev c.C (Wq c q) No s s' /\ (∀ a, O' a -> qD a = 2 /\ Nw s a) /\ ∀ a, Kl a -> qD a = 0 := by
 have nw : ∀ a, O' a -> Nw s a := fun a h => (hO' a h).elim (fun z => (L.hO a z).2) fun z => L.since.gone z
 have ag : Agree s1.heap qB (recol O' 2 qB) := fun a o h => by
  by_cases z : O' a
  ·rw [recol_in z, (L.hO a ((hO' a z).resolve_right fun n => by have n' : s1.heap.get? a = none := n; rw [h] at n'; cases n')).1]
  ·exact recol_out z
 refine ⟨recol O' 2 qB, ?_, L.ag.tr L.since ag, ?_, fun a h => ⟨recol_in h, nw a h⟩, ?_⟩
 ·refine L.S.step (R := fun a => qB a = 0 \/ qB a = 1) e (fun a h => ⟨fun z => by have := (L.hO a h).1; lia, fun o ho => ?_⟩) (fun _ h => h) ag fun a h => ?_
  ·obtain ⟨_, o', ho', h3⟩ := L.str.owns.o a h
   rw [ho] at ho'; cases ho'; exact h3
  ·rcases recol_ne h with z | z
   ·exact ho a z
   ·exact (L.S.col.ev e) a z
 ·exact L.since.trans e (fun a h => .inr (L.hO a h).2) (fun i h => .inr (L.hG i h))
 ·intro l hl
  refine E12 (L.str.owns.k l hl) fun o ho _ => ?_
  exact (ag l o ho).trans (L.hl l hl)
noncomputable def nlL (xs : List AV) : Prop := ∀ x ∈ xs, x.nl = true
theorem nlL.b {xs : List AV} (h : nlL xs) : AV.nl.nlL xs = true := by
 induction xs with
 | nil => rfl
 | cons x xs ih => show (x.nl && AV.nl.nlL xs) = true; rw [h x (List.mem_cons_self ..), ih fun y hy => h y (mC _ hy)]; rfl
theorem AV.nl_ow {x : AV} (h : x.nl = true) : x.ow = false := by cases x <;> first | rfl | cases h
theorem loop_fail (hc : c.Ok) (S : St c q Z U s) {x : Value} (e : Ev c.C (Wq c q) No s s') (Xn : Exn (Nw s) s'.heap false x) (k : ∀ s3, Ev c.C (Wq c q) No s s3 -> Exn (Nw s) s3.heap false x -> E x s3) :
  notedBy (model c.C.prog c.C.w) c.A c.env (fun e s'' => cameBackBy (model c.C.prog c.C.w) c.A c.env E e s'') x s' := by
 refine E11 hc.top fun o' ht => ?_
 have F := (S.fx hc.e)
 rw [ht] at F
 have w : Wr c.C (Nw s) s' := ⟨fun a h => e.gone h, fun a h => S.base.gone h⟩
 refine noted_any (F.ev e) w Xn fun s2 eD X2 => ?_
 refine cameBack_any ((F.ev e).ev eD) (w.ev eD) X2 fun s3 eH X3 => ?_
 exact k s3 ((e.trans eD (fun a h => .inr h) (fun _ h => h.elim)).trans eH (fun a h => .inr h) (fun _ h => h.elim)) X3.any
theorem s_while (hc : c.Ok) {test : Expr} {body : List Stmt} {p : Pos} {Inv : Nat -> Env1 -> Prop} {n0 : Nat} (hI : Inv n0 U)
  (hb : ∀ n U', Inv n U' -> ∃ b, ET c Z U' test b /\ (b = false -> N U') /\ (b = true -> SX c Z U' body (fun U'' => ∃ m, m < n /\ Inv m U'') R X)) : S1 c Z U (.While test body [] p) N R X := fun q s S Q E o => by
 refine wpAny_While ?_
 refine codeAny_whileLoop (R := fun r s' => match r with | .ok f => Q f s' | .error e => cameBackBy (model c.C.prog c.C.w) c.A c.env E e s')
  (fun n s' => ∃ U' q', Inv n U' /\ St c q' Z U' s' /\ Agree s.heap q q' /\ Ev c.C (Wq c q) No s s') ?_ n0 ⟨U, q, hI, S, .refl, .refl⟩
 rintro n s2 ⟨U', q', hI', S', ag, ev⟩
 refine E13 (hb n U' hI') fun b ht h0 h1 => ?_
 refine ht q' s2 S' fun s3 eH => ?_
 have S3 := S'.ev eH
 have ev3 := ev.wq ag eH.up
 cases b with
 | false => exact wpAny_execs_nil (o.n _ U' s3 (h0 rfl) ag ev3 S3)
 | true =>
  refine h1 rfl q' s3 S3 _ _ ⟨fun qK U₅ s5 ⟨m, hm, hN⟩ ag5 e5 S5 => ⟨m, hm, U₅, qK, hN, S5, ag.tr ev3 ag5, ev3.wq ag e5⟩, fun qK av v s5 hR ag5 e5 gK r5 => ?_, fun hX x s5 e5 X5 => ?_⟩
  ·exact (o.after ag ev3).r qK av v s5 hR ag5 e5 gK r5
  ·exact loop_fail hc S (ev3.wq ag e5) (X5.mono fun a _ _ h => ev3.gone h) fun s6 e6 X6 => o.x hX x s6 e6 X6
end
section
variable {c : Ac} {q qB : Addr -> Nat} {Z U : Env1} {s s1 s' : Shared} {N N' : Env1 -> Prop} {R R' : AV -> Prop} {X X' : Prop}
noncomputable def EI (c : Ac) (Z U : Env1) (e : Expr) (xs : List AV) : Prop := ∀ q s, St c q Z U s -> ∀ (Q : VP) (E : VP),
 (∀ it s2 O K, Ev c.C No No s s2 -> (∀ a, O a -> Nw s a) -> (∀ a, K a -> q a = 0 /\ ¬ O a) -> StrS c.C c.n false K it xs O No s2 ->
  (∀ s3, Ev c.C No No s2 s3 -> ∀ (Q : VP) (E : VP), Q it s3 -> wpAny (model c.C.prog c.C.w) c.A (pyIter it) Q E s3) -> Q it s2) ->
 wpAny (model c.C.prog c.C.w) c.A (eval e c.env) (fun x s1 => wpAny (model c.C.prog c.C.w) c.A (pyIter x) Q E s1) E s
theorem Ev.simF (hc : C.Ok) (x : Ev C No No s s') {a : Addr} {o : Obj} (e : s.heap.get? a = some o) (hn : C.h₁.get? a = none) : ∃ o', s'.heap.get? a = some o' /\ Sim o o' :=
 x.kp a o e id (Base.noT hc hn)
theorem ei_list (hc : c.EOk) {e : Expr} {xs : List AV} (h : EV c Z U e (.lst xs)) (hn : nlL xs) : EI c Z U e xs := fun q s S Q E k => by
 refine h q s S fun v s1 ew rB => ?_
 have r1' : Rep q s1.heap (.lst xs) v := rB
 rw [Rep] at r1'
 refine E24 r1' ?_; clear r1'; rintro l vs rfl hql hl rl
 refine wpAny_pyIter_list hl ?_
 have SB := S.ev ew
 have rl' := RepL.r0 xs vs hn.b rl
 have eD : Ev c.C No No s1 { s1 with heap := s1.heap.push { cls := .type "list_iterator", data := .fields #[.ref l, .int 0 0] } } := .keep fun _ _ e => gP _ e
 obtain ⟨ol, hol, hcl, m, hd⟩ := id hl
 have hne : l ≠ s1.heap.objs.size := Nat.ne_of_lt (Heap.lt_size hol)
 have hit := Heap.get?_push_size s1.heap (o := { cls := .type "list_iterator", data := .fields #[.ref l, .int 0 0] }) rfl
 have hnew := SB.base.gone (get_fresh s1.heap)
 refine k _ _ (· = s1.heap.objs.size) (· = l) (ew.tr eD) (fun a h => by subst h; exact ew.gone (get_fresh _)) (fun a h => by subst h; exact ⟨hql, hne⟩) ?_ fun s3 eH Q E hQ => ?_
 ·exact list_str hc.C (vs := vs) xs 0 _ (SB.ev eD).base ⟨_, hit, rfl, rfl⟩ (hl.push _) hnew rfl (.inl rfl) hne (by simpa using R0L.ev rl' eD SB.base (fun _ _ h => h.elim))
   ⟨fun a h => by subst h; exact ⟨hnew, _, hit, by simp, by simp⟩, fun a h => by subst h; exact ⟨ol, gP _ hol, .inl hcl⟩, fun _ h => h.elim⟩
 ·refine E12 (eH.simF hc.C hit hnew) fun o' ho' z => ?_
  exact wpAny_pyIter_listiter (i := 0) (l := l) ⟨o', ho', z.1, z.2.2.1⟩ hQ
end
noncomputable def CT (c : Ac) (Z U : Env1) (ifs : List Expr) (b : Bool) : Prop := ∀ q s, St c q Z U s -> Gt c.C c.A s (forIn ifs true fun t r => if r = true then do let ok <- isTrue t c.env (eval t c.env); pure (ForInStep.yield ok) else pure (ForInStep.yield r)) b
theorem ct_nil {c : Ac} {Z U : Env1} : CT c Z U [] true := fun q s S Q E k => by
 rw [List.forIn_nil]; exact wP (k s .refl)
theorem ct_one {c : Ac} {Z U : Env1} {t : Expr} {b : Bool} (h : ET c Z U t b) : CT c Z U [t] b := fun q s S Q E k => by
 rw [List.forIn_cons]
 simp only [if_true]
 refine wB (wB (h q s S fun s1 ew => wP ?_))
 simp only [List.forIn_nil]
 exact wP (k s1 ew)
noncomputable def compC (c : Ac) (scope : Scope) (cl : List (Str × Addr)) (L : Addr) (s : Shared) : Ac := ⟨c.C, c.A, compEnvC scope cl L c.env, c.fl, c.n, Nw s⟩
structure CompOk (c : Ac) (scope : Scope) (cl : List (Str × Addr)) (Z Z' : Env1) (x : Str) : Prop where
 clos : closureFor scope c.env = pure cl
 kind : scope.kind = .function
 cell : ∀ y ∈ scope.names, y.2 ≠ .cell
 names : ∀ y ∈ scope.names, y.2 = .local -> scope.names.lookup y.1 = some .local
 hx : scope.names.lookup x = some .local
 cells : ∀ y av, Z'.lookup y = some av -> Z.lookup y = some av /\ ((relabel scope c.env).names.lookup y = some .cell \/ (relabel scope c.env).names.lookup y = some .free) /\ cl.lookup y = c.env.cells.lookup y
 builtins : c.env.builtins = 0
theorem newEnvD {M : Model} {A : Around} {E : VP} {s : Shared} {scope : Scope} {globals : Addr} {closure : List (Str × Addr)} {qual : Str} {func : Option Addr} {code : Value} {outer : Env} {builtins : Addr} {Q : Env -> Shared -> Prop}
  (hc : ∀ x ∈ scope.names, x.2 ≠ .cell)
  (k : ∀ h', h' = s.heap.push { cls := .type "dict", data := .dict #[] } ->
   Q { scope, locals := s.heap.objs.size, globals, cells := closure, qual, func, code := outer.code, frame := outer.frame, builtins := outer.builtins } { s with heap := h' }) :
  wpAny M A (newFunctionEnv scope globals closure [] qual func code (some outer) builtins) Q E s := by
 simp only [newFunctionEnv, Option.isSome_some, if_true]
 refine wB (wpAny_alloc ?_)
 rw [forIn_yield_id closure (fun x hx c => by
  obtain ⟨name, kind⟩ := x
  have : (kind == NameKind.cell) = false := by simpa using hc _ hx
  simp only [this, Bool.false_eq_true, if_false])]
 refine wB (wP (wB ?_))
 rw [List.forIn_nil]
 exact wP (wP (k _ rfl))
theorem store_comp {c : Ac} {q : Addr -> Nat} {Z U : Env1} {s : Shared} (hc : c.EOk) (S : St c q Z U s) {oL : Obj} (hoL : s.heap.get? c.env.locals = some oL) (hcL : oL.cls = .type "dict") (hnd : ∀ x av, U.lookup x = some av -> av.nl = true) (hkd : ∀ x av, Z.lookup x = some av -> av.okY = true)
  {x : Str} {av : AV} {v : Value} (hx : c.env.kindOf x = some .local) (r : R0 s.heap av v) (hav : av.nl = true) {Q : Unit -> Shared -> Prop} {E : VP}
  (k : ∀ s', Ev c.C (· = c.env.locals) No s s' -> St c q Z (up x av U) s' -> (∃ o, s'.heap.get? c.env.locals = some o /\ o.cls = .type "dict") -> Q () s') : wpAny (model c.C.prog c.C.w) c.A (storeName c.env x v) Q E s := by
 refine E12 S.loc fun m hn hl => ?_
 rw [storeName_local hx (by rw [hc.kind]; rfl)]
 refine nsSet_cls hn fun h' hn' hsb hcl => ?_
 refine E33 (id hn') fun o' es' ep' ho' hd' _ => ?_
 have hcl' : o'.cls = oL.cls := by refine E12 (hcl oL hoL) fun oz h2 h3 => ?_; rw [ho'] at h2; cases h2; exact h3
 have e : Ev c.C (· = c.env.locals) No s { s with heap := h', toks := s.toks + 1 } := .turn hc.C hoL S.own.1 hsb.extBut ho' hcl' (fun _ vs e => by rw [hd'] at e; cases e) (by rw [hcL]; simp)
 have md : Mild (· ≠ c.env.locals) (· = c.env.locals) s.heap := fun a ha => ⟨fun h => h ha, fun o ho => by subst ha; rw [hoL] at ho; cases ho; rw [hcL]; exact ⟨by simp, by simp⟩⟩
 have kp := e.kept S.base md
 have t0 : ∀ a o, a = c.env.locals -> s.heap.get? a = some o -> o.cls ≠ .type "tuple" /\ o.cls ≠ .ref hvf := fun a o h ho => (md a h).2 o ho
 have mono : ∀ av v, av.nl = true -> Rp c.C q s.heap av v -> Rp c.C q h' av v := fun av v hn r =>
  .of_rep (R0.rep (R0.ev (s := s) (s1 := { s with heap := h', toks := s.toks + 1 }) (Rep.r0 (q := q) av v hn (Rp.nlR hn r)) e S.base t0))
 have monoY : ∀ av v, av.okY = true -> Rp c.C q s.heap av v -> Rp c.C q h' av v := fun av v hn r => by
  refine r.ext hn (e.kept S.base fun a ha => ⟨fun z => ?_, (md a ha).2⟩)
  subst ha
  exact z S.own.2.1
 refine k _ e ?_ ⟨o', ho', hcl'.trans hcL⟩
 exact {
  base := e.bs S.base
  col := S.col.ev e
  new := fun a h => S.new a (e.gone h)
  loc := ⟨_, hn', fun y av' h => by
   rw [up_lookup] at h
   by_cases hy : y = x
   ·rw [if_pos hy] at h; cases h
    subst hy
    exact ⟨hx, v, by simp, mono _ _ hav (.of_rep r.rep), fun z => by rw [AV.nl_ow hav] at z; cases z⟩
   ·rw [if_neg hy] at h
    obtain ⟨hk, u, hu, r', ow'⟩ := hl y av' h
    exact ⟨hk, u, by simp [hy, hu], mono _ _ (hnd y av' h) r', ow'⟩⟩
  cel := fun y av' h => by
   obtain ⟨kk, a, o, u, h1, hqa, h2, h3, r'⟩ := S.cel y av' h
   have hne : a ≠ c.env.locals := fun h => by
    subst h
    refine E33 hn ?_; clear hn; intro oB _ _ h4 h5 _
    rw [h2] at h4; cases h4; rw [h3] at h5; cases h5
   exact ⟨kk, a, o, u, h1, hqa, hsb.extBut a o hne h2, h3, monoY _ _ (hkd y av' h) r'⟩
  frs := frs_al e.al S.frs
  frf := S.frf.al e.al
  own := S.own }
structure AccOk (C : Cx) (F : List AV -> Heap -> Addr -> Prop) : Prop where
 obj : ∀ {ys h D}, F ys h D -> ∃ o, h.get? D = some o /\ (o.cls = .type "list" \/ o.cls = .type "dict")
 stay : ∀ {ys D W G s s'}, F ys s.heap D -> Ev C W G s s' -> Base C s.heap -> (∀ a o, W a -> s.heap.get? a = some o -> o.cls ≠ .type "tuple" /\ o.cls ≠ .ref hvf) -> (∃ o o', s.heap.get? D = some o /\ s'.heap.get? D = some o' /\ Sim o o') -> F ys s'.heap D
noncomputable def LstA (ys : List AV) (h : Heap) (D : Addr) : Prop := ∃ vs, h.IsList D ⟨vs⟩ /\ R0L h ys vs
theorem lstA_ok (C : Cx) : AccOk C LstA where
 obj := fun ⟨_, ⟨o, ho, hc, _⟩, _⟩ => ⟨o, ho, .inl hc⟩
 stay := fun ⟨vs, ⟨o, ho, hc, m, hd⟩, rl⟩ e B t ⟨oB, o', h1, h2, z⟩ => by
  rw [ho] at h1; cases h1
  exact ⟨vs, ⟨o', h2, z.1.trans hc, m, z.2.2.1.trans hd⟩, rl.ev e B t⟩
structure Cp (c c' : Ac) (Z' : Env1) (q : Addr -> Nat) (s : Shared) (K : Addr -> Prop) (it : Value) (F : List AV -> Heap -> Addr -> Prop) (D : Addr) (xs ys : List AV) (U : Env1) (qB : Addr -> Nat) (O : Addr -> Prop) (OG : Nat -> Prop) (s1 : Shared) : Prop where
 ok : AccOk c.C F
 S : St c' qB Z' U s1
 nd : ∀ x av, U.lookup x = some av -> av.nl = true
 loc : ∃ o, s1.heap.get? c'.env.locals = some o /\ o.cls = .type "dict"
 acc : F ys s1.heap D
 hD : qB D = 3 /\ Nw s D
 since : Ev c.C No No s s1
 str : StrS c.C c.n false K it xs O OG s1
 hO : ∀ a, O a -> qB a = 2 /\ Nw s a
 hG : ∀ i, OG i -> s.gens.size <= i
 hK : ∀ a, K a -> qB a = 0 /\ a ≠ c'.env.locals
section
variable {c c' : Ac} {q qB : Addr -> Nat} {Z Z' U : Env1} {s s1 s' : Shared}
theorem Cp.step {K : Addr -> Prop} {it : Value} {F : List AV -> Heap -> Addr -> Prop} {D : Addr} {xs xs' ys : List AV} {O O' : Addr -> Prop} {OG OG' : Nat -> Prop} (hC : c'.C = c.C) (P : Cp c c' Z' q s K it F D xs ys U qB O OG s1) (e : Ev c.C O OG s1 s') (hO' : ∀ a, O' a -> O a \/ Nw s1 a) (hG' : ∀ i, OG' i -> OG i \/ s1.gens.size <= i)
  (hs : StrS c.C c.n false K it xs' O' OG' s') : ∃ qD, Cp c c' Z' q s K it F D xs' ys U qD O' OG' s' := by
 refine E12 P.loc fun oL hoL hcL => ?_
 refine E12 (P.ok.obj P.acc) fun oD hoD hcD => ?_
 have ow := P.str.owns
 have nw : ∀ a, O' a -> Nw s a := fun a h => (hO' a h).elim (fun z => (P.hO a z).2) fun z => P.since.gone z
 have ex : ∀ a o, s1.heap.get? a = some o -> O' a -> O a := fun a o h z => (hO' a z).resolve_right fun n => by have n' : s1.heap.get? a = none := n; rw [h] at n'; cases n'
 have ag : Agree s1.heap qB (recol O' 2 qB) := fun a o h => by
  by_cases z : O' a
  ·rw [recol_in z, (P.hO a (ex a o h z)).1]
  ·exact recol_out z
 have t : ∀ a o, O a -> s1.heap.get? a = some o -> o.cls ≠ .type "tuple" /\ o.cls ≠ .ref hvf := fun a o h ho => by
  obtain ⟨_, o', ho', h3⟩ := ow.o a h
  rw [ho] at ho'; cases ho'; exact h3
 have B1 : Base c.C s1.heap := by have := P.S.base; rwa [hC] at this
 have nOL : ¬ O c'.env.locals := fun h => by have h1 := (P.hO _ h).1; have h2 := P.S.own.2.1; lia
 have nOD : ¬ O D := fun h => by have := (P.hO _ h).1; have := P.hD.1; lia
 refine E12 (e.kp _ _ hoL nOL (by have := P.S.own.1; rw [hC] at this; exact fun ht => by refine E12 (List.mem_map.mp ht) fun pp hp hpp => ?_; refine E13 (B1.tab pp hp) fun _ _ t' _ => ?_; rw [hpp, hoL] at t'; cases t'; exact absurd hcL (by simp))) fun oL' hoL' zL => ?_
 refine E12 (e.kp _ _ hoD nOD (notT_cls B1 hoD (by rcases hcD with hcD | hcD <;> (rw [hcD]; nofun)))) fun oD' hoD' zD => ?_
 refine ⟨recol O' 2 qB, {
  S := ?_, nd := P.nd, loc := ⟨oL', hoL', zL.1.trans hcL⟩, ok := P.ok, acc := P.ok.stay P.acc e B1 t ⟨oD, oD', hoD, hoD', zD⟩
  hD := ⟨(ag D oD hoD).trans P.hD.1, P.hD.2⟩, since := P.since.trans e (fun a h => .inr (P.hO a h).2) (fun i h => .inr (P.hG i h)), str := hs, hO := fun a h => ⟨recol_in h, nw a h⟩, hG := fun i h => (hG' i h).elim (P.hG i) fun z => Nat.le_trans P.since.gz z
  hK := fun a h => ?_ }⟩
 ·have e' : Ev c'.C O OG s1 s' := by rw [hC]; exact e
  refine P.S.step (R := fun a => qB a = 0 \/ qB a = 1) e' (fun a h => ⟨fun z => by have := (P.hO a h).1; lia, fun o ho => t a o h ho⟩) (fun _ h => h) ag fun a h => ?_
  rw [hC]
  rcases recol_ne h with z | z
  ·exact hs.owns.o a z
  ·have := (P.S.col.ev e') a z
   rwa [hC] at this
 ·refine E12 (ow.k a h) fun o ho _ => ?_
  exact ⟨(ag a o ho).trans (P.hK a h).1, (P.hK a h).2⟩
theorem Cp.apart {K : Addr -> Prop} {it : Value} {F : List AV -> Heap -> Addr -> Prop} {D : Addr} {xs ys : List AV} {O : Addr -> Prop} {OG : Nat -> Prop} (P : Cp c c' Z' q s K it F D xs ys U qB O OG s1) : Apart O K (fun a => a = D \/ a = c'.env.locals) OG No s1.heap where
 o := fun a h => by
  refine E12 P.loc fun oL hoL hcL => ?_
  rcases h with rfl | rfl
  ·exact ⟨fun z => by have := (P.hO _ z).1; have := P.hD.1; lia, fun z => by have := (P.hK _ z).1; have := P.hD.1; lia⟩
  ·refine ⟨fun z => by have h1 := (P.hO _ z).1; have h2 := P.S.own.2.1; lia, fun z => (P.hK _ z).2 rfl⟩
 t := fun a o h ho => by
  refine E12 P.loc fun oL hoL hcL => ?_
  refine E12 (P.ok.obj P.acc) fun oD hoD hcD => ?_
  rcases h with rfl | rfl
  ·rw [hoD] at ho; cases ho; rcases hcD with hcD | hcD <;> (rw [hcD]; exact ⟨by simp, by simp⟩)
  ·rw [hoL] at ho; cases ho; rw [hcL]; exact ⟨by simp, by simp⟩
 g := fun _ h => h.elim
theorem Apart.sub {O K W W' : Addr -> Prop} {OG G : Nat -> Prop} {h : Heap} (a : Apart O K W OG G h) (k : ∀ x, W' x -> W x) : Apart O K W' OG G h := ⟨fun x hx => a.o x (k x hx), fun x o hx => a.t x o (k x hx), a.g⟩
structure Cf (c : Ac) (L : Addr) (s : Shared) (F : List AV -> Heap -> Addr -> Prop) (D : Addr) (ys : List AV) (s' : Shared) : Prop where
 acc : F ys s'.heap D
 ns : ∃ m, s'.heap.Ns L m
 loc : ∃ o, s'.heap.get? L = some o /\ o.cls = .type "dict"
 since : Ev c.C No No s s'
 hD : Nw s D
 hL : Nw s L
 hne : D ≠ L
theorem Cp.fin {K : Addr -> Prop} {it : Value} {F : List AV -> Heap -> Addr -> Prop} {D : Addr} {xs ys : List AV} {O : Addr -> Prop} {OG : Nat -> Prop} (hC : c'.C = c.C) (hW : ∀ a, c'.W a -> Nw s a) (P : Cp c c' Z' q s K it F D xs ys U qB O OG s1) (e : Ev c.C O OG s1 s') : Cf c c'.env.locals s F D ys s' := by
 refine E12 P.loc fun oL hoL hcL => ?_
 refine E12 (P.ok.obj P.acc) fun oD hoD hcD => ?_
 have B1 : Base c.C s1.heap := by have := P.S.base; rwa [hC] at this
 have t : ∀ a o, O a -> s1.heap.get? a = some o -> o.cls ≠ .type "tuple" /\ o.cls ≠ .ref hvf := fun a o h ho => by
  obtain ⟨_, o', ho', h3⟩ := P.str.owns.o a h
  rw [ho] at ho'; cases ho'; exact h3
 have nOL : ¬ O c'.env.locals := fun h => by have h1 := (P.hO _ h).1; have h2 := P.S.own.2.1; lia
 have nOD : ¬ O D := fun h => by have := (P.hO _ h).1; have := P.hD.1; lia
 refine E12 (e.kp _ _ hoL nOL (notT_cls B1 hoL (by rw [hcL]; nofun))) fun oL' hoL' zL => ?_
 refine E12 (e.kp _ _ hoD nOD (notT_cls B1 hoD (by rcases hcD with hcD | hcD <;> (rw [hcD]; nofun)))) fun oD' hoD' zD => ?_
 refine E12 P.S.loc ?_; rintro mm ⟨o, es, ep, ho, hd, r⟩ _
 rw [hoL] at ho; cases ho
 exact ⟨P.ok.stay P.acc e B1 t ⟨oD, oD', hoD, hoD', zD⟩, ⟨mm, oL', es, ep, hoL', zL.2.2.1.trans hd, r⟩, ⟨oL', hoL', zL.1.trans hcL⟩, P.since.trans e (fun a h => .inr (P.hO a h).2) (fun i h => .inr (P.hG i h)), P.hD.2, hW _ P.S.own.2.2, fun z => by have h1 := P.hD.1; rw [z, P.S.own.2.1] at h1; lia⟩
theorem Cp.ev {K : Addr -> Prop} {it : Value} {F : List AV -> Heap -> Addr -> Prop} {D : Addr} {xs ys : List AV} {O : Addr -> Prop} {OG : Nat -> Prop} (hC : c'.C = c.C) (P : Cp c c' Z' q s K it F D xs ys U qB O OG s1) (e : Ev c.C No No s1 s') : Cp c c' Z' q s K it F D xs ys U qB O OG s' := by
 refine E12 P.loc fun oL hoL hcL => ?_
 refine E12 (P.ok.obj P.acc) fun oD hoD hcD => ?_
 have B1 : Base c.C s1.heap := by have := P.S.base; rwa [hC] at this
 refine E12 (e.kp _ _ hoL id (notT_cls B1 hoL (by rw [hcL]; nofun))) fun oL' hoL' zL => ?_
 refine E12 (e.kp _ _ hoD id (notT_cls B1 hoD (by rcases hcD with hcD | hcD <;> (rw [hcD]; nofun)))) fun oD' hoD' zD => ?_
 have e' : Ev c'.C No No s1 s' := by rw [hC]; exact e
 exact { S := P.S.ev e', nd := P.nd, loc := ⟨oL', hoL', zL.1.trans hcL⟩, ok := P.ok, acc := P.ok.stay P.acc e B1 (fun _ _ h => h.elim) ⟨oD, oD', hoD, hoD', zD⟩, hD := P.hD, since := P.since.tr e, str := P.str.ev e .no, hO := P.hO, hG := P.hG, hK := P.hK }
theorem Cp.store {K : Addr -> Prop} {it : Value} {F : List AV -> Heap -> Addr -> Prop} {D : Addr} {xs ys : List AV} {O : Addr -> Prop} {OG : Nat -> Prop} (hc : c'.EOk) (hC : c'.C = c.C) (hA : c'.A = c.A) (hW : ∀ a, c'.W a -> Nw s a) (hκ : ∀ y av, Z'.lookup y = some av -> av.okY = true) (P : Cp c c' Z' q s K it F D xs ys U qB O OG s1) {x : Str} {av : AV} {v : Value} (hx : c'.env.kindOf x = some .local) (r : R0 s1.heap av v) (hav : av.nl = true)
  {Q : Unit -> Shared -> Prop} {E : VP} (k : ∀ s', Cp c c' Z' q s K it F D xs ys (up x av U) qB O OG s' -> Q () s') : wpAny (model c.C.prog c.C.w) c.A (storeName c'.env x v) Q E s1 := by
 refine E12 P.loc fun oL hoL hcL => ?_
 rw [<- hC, <- hA]
 refine store_comp hc P.S hoL hcL P.nd hκ hx r hav fun s' e S' ⟨o', ho', hcl'⟩ => ?_
 rw [hC] at e
 refine E12 (P.ok.obj P.acc) fun oD hoD hcD => ?_
 have B1 : Base c.C s1.heap := by have := P.S.base; rwa [hC] at this
 have hne : D ≠ c'.env.locals := fun z => by have h1 := P.hD.1; rw [z, P.S.own.2.1] at h1; lia
 refine E12 (e.kp _ _ hoD hne (notT_cls B1 hoD (by rcases hcD with hcD | hcD <;> (rw [hcD]; nofun)))) fun oD' hoD' zD => ?_
 have ap := P.apart.sub (W' := (· = c'.env.locals)) fun a h => .inr h
 refine k s' { S := S', nd := fun y av' h => ?_, loc := ⟨o', ho', hcl'⟩, ok := P.ok, acc := P.ok.stay P.acc e B1 ap.t ⟨oD, oD', hoD, hoD', zD⟩, hD := P.hD, since := P.since.trans e (fun a h => .inr (by subst h; exact hW _ P.S.own.2.2)) (fun _ h => h.elim), str := P.str.ev e ap, hO := P.hO, hG := P.hG, hK := P.hK }
 rw [up_lookup] at h
 split at h
 ·cases h; exact hav
 ·exact P.nd y av' h
theorem Cp.append {K : Addr -> Prop} {it : Value} {D : Addr} {xs ys : List AV} {O : Addr -> Prop} {OG : Nat -> Prop} (hok : c.C.Ok) (hC : c'.C = c.C) (P : Cp c c' Z' q s K it LstA D xs ys U qB O OG s1) {av : AV} {v : Value} (r : R0 s1.heap av v) (hlen : ys.length <= 1000000)
  {Q : VP} {E : VP} (k : ∀ s', Cp c c' Z' q s K it LstA D xs (ys ++ [av]) U qB O OG s' -> Q .none s') : wpAny (model c.C.prog c.C.w) c.A (call (.builtin "list.append") [.ref D, v]) Q E s1 := by
 refine E12 P.acc fun vs hl rl => ?_
 have hlv := RepL.length rl
 refine wpAny_list_append hl (fun h' hl' hsb => ?_) (by rw [sizeLine_eq]; show vs.length <= _; lia)
 obtain ⟨oD, hoD, hcD, m, hdD⟩ := hl
 obtain ⟨oD', hoD', hcD', m', hdD'⟩ := id hl'
 refine E12 P.loc fun oL hoL hcL => ?_
 have B1 : Base c.C s1.heap := by have := P.S.base; rwa [hC] at this
 have hn : c.C.h₁.get? D = none := by
  have := (P.S.col D (by have := P.hD.1; lia)).1
  rwa [hC] at this
 have e : Ev c.C (· = D) No s1 { s1 with heap := h' } := .turn hok (tk := s1.toks) hoD hn hsb.extBut hoD' (hcD'.trans hcD.symm) (fun _ vs e => by rw [hdD'] at e; cases e) (by rw [hcD]; simp)
 have hne : D ≠ c'.env.locals := fun z => by have h1 := P.hD.1; rw [z, P.S.own.2.1] at h1; lia
 have ap := P.apart.sub (W' := (· = D)) fun a h => .inl h
 have e' : Ev c'.C (· = D) No s1 { s1 with heap := h' } := by rw [hC]; exact e
 refine k _ { S := ?_, nd := P.nd, loc := ⟨oL, hsb.extBut _ oL (Ne.symm hne) hoL, hcL⟩, ok := P.ok, acc := ⟨vs ++ [v], by simpa using hl', RepL.app (rl.ev e B1 ap.t) (by rw [RepL]; exact ⟨r.ev e B1 ap.t, by rw [RepL]; trivial⟩)⟩, hD := P.hD, since := P.since.trans e (fun a h => .inr (by subst h; exact P.hD.2)) (fun _ h => h.elim), str := P.str.ev e ap, hO := P.hO, hG := P.hG, hK := P.hK }
 exact P.S.step (R := fun a => qB a = 0 \/ qB a = 1) e' (fun a h => ⟨fun z => by subst h; have := P.hD.1; lia, fun o ho => ap.t a o h ho⟩) (fun _ h => h) .refl (P.S.col.ev e')
theorem comp_loop {elt iter : Expr} {x : Str} {px : Pos} {ifs : List Expr} {scope : Scope} {pos : Pos} {it : Value} {D : Addr} {K : Addr -> Prop} {RR : Result -> Shared -> Prop} {p : AV -> Bool} {f : AV -> AV} {xs0 : List AV} (hc : c'.EOk) (hC : c'.C = c.C) (hA : c'.A = c.A) (hn : c'.n = c.n) (hW : ∀ a, c'.W a -> Nw s a)
  (hx : c'.env.kindOf x = some .local) (hlen : xs0.length <= 1000000) (hκ : ∀ y av, Z'.lookup y = some av -> av.okY = true)
  (ht : ∀ y ∈ xs0, y.nl = true /\ CT c' Z' [(x, y)] ifs (p y) /\ (p y = true -> EV c' Z' [(x, y)] elt (f y) /\ (f y).nl = true))
  (hRR : ∀ s', Cf c c'.env.locals s LstA D ((xs0.filter p).map f) s' -> RR (.ok .next) s')
  {xs ys : List AV} {O : Addr -> Prop} {OG : Nat -> Prop} (hρ : U = [] \/ ∃ y, U = [(x, y)]) (P : Cp c c' Z' q s K it LstA D xs ys U qB O OG s1) (hxs : ∃ pre, xs0 = pre ++ xs /\ ys = (pre.filter p).map f) :
  codeAny (model c.C.prog c.C.w) c.A (.compLoop (.ListComp elt [⟨.Name x px, iter, ifs, 0⟩] scope pos) 0 it (.ref D) c'.env) RR s1 := by
 obtain ⟨cC, cA, ce, cf, cn, cW⟩ := c'
 obtain rfl : cC = c.C := hC
 obtain rfl : cA = c.A := hA
 obtain rfl : cn = c.n := hn
 let d : Ac := ⟨c.C, c.A, ce, cf, c.n, cW⟩
 change d.EOk at hc
 change Cp c d Z' q s K it LstA D xs ys U qB O OG s1 at P
 change ∀ y ∈ xs0, y.nl = true /\ CT d Z' [(x, y)] ifs (p y) /\ (p y = true -> EV d Z' [(x, y)] elt (f y) /\ (f y).nl = true) at ht
 obtain ⟨I, mk, el⟩ : ∃ I : Nat -> Shared -> Prop, (∀ n s', (∃ xs ys U q' O OG, n = xs.length /\ (U = [] \/ ∃ y, U = [(x, y)]) /\ Cp c d Z' q s K it LstA D xs ys U q' O OG s' /\ ∃ pre, xs0 = pre ++ xs /\ ys = (pre.filter p).map f) -> I n s') /\ ∀ n s', I n s' -> ∃ xs ys U q' O OG, n = xs.length /\ (U = [] \/ ∃ y, U = [(x, y)]) /\ Cp c d Z' q s K it LstA D xs ys U q' O OG s' /\ ∃ pre, xs0 = pre ++ xs /\ ys = (pre.filter p).map f := ⟨_, fun _ _ h => h, fun _ _ h => h⟩
 refine codeAny_compLoop_tests I ?_ xs.length (mk _ _ ⟨xs, ys, U, qB, O, OG, rfl, hρ, P, hxs⟩)
 intro n s2 hi
 replace hi := el _ _ hi
 clear el P
 obtain ⟨xs, ys, U, qD, O, OG, rfl, hρ, P, pre, hpre, rfl⟩ := hi
 have F2 := P.S.fx hc
 have room : Room c.n c.A := hc.room
 have hok : c.C.Ok := hc.C
 cases xs with
 | nil =>
  refine P.str.2 s2 No No .refl .no _ _ room F2 _ _ (fun _ s3 eH => ?_) (fun z => by cases z)
  rw [List.append_nil] at hpre
  subst hpre
  exact hRR s3 (P.fin (by rfl) hW eH)
 | cons y xs =>
  refine P.str.2 s2 No No .refl .no _ _ room F2 _ _ fun v s3 O3 OG3 eH r0 hO3 hG3 hs3 => ?_
  refine E11 (P.step (by rfl) eH hO3 hG3 hs3) fun qH P3 => ?_
  refine E03 (ht y (by rw [hpre]; simp)) fun hy hct hev => ?_
  refine wpAny_assign_Name (P3.store hc (by rfl) (by rfl) hW hκ hx r0 hy fun s4 P4 => ?_)
  have hup : up x y U = [(x, y)] := by
   rcases hρ with rfl | ⟨z, rfl⟩
   ·rfl
   ·simp [up]
  rw [hup] at P4
  refine hct qH s4 P4.S fun s5 e5 => ?_
  have P5 := P4.ev (by rfl) e5
  have hpre' : xs0 = (pre ++ [y]) ++ xs := by rw [hpre]; simp
  cases hp : p y with
  | false =>
   rw [if_neg (by simp)]
   exact ⟨xs.length, by simp, mk _ _ ⟨xs, _, _, qH, O3, OG3, rfl, .inr ⟨y, rfl⟩, P5, pre ++ [y], hpre', by simp [List.filter_append, hp]⟩⟩
  | true =>
   rw [if_pos rfl]
   refine E02 (hev hp) fun he hfn => ?_
   refine he qH s5 P5.S fun w₁ s6 e6 r6 => ?_
   have P6 := P5.ev (by rfl) e6
   have hl : ((pre.filter p).map f).length <= 1000000 := by
    have h1 : (pre.filter p).length <= pre.length := List.length_filter_le ..
    have h2 : pre.length <= xs0.length := by rw [hpre]; simp
    simp; lia
   refine P6.append hok (by rfl) (Rep.r0 (q := qH) _ _ hfn (Rp.nlR hfn r6)) hl fun s7 P7 => ?_
   exact ⟨xs.length, by simp, mk _ _ ⟨xs, _, _, qH, O3, OG3, rfl, .inr ⟨y, rfl⟩, P7, pre ++ [y], hpre', by simp [List.filter_append, hp]⟩⟩
end
section
variable {c : Ac} {q qB : Addr -> Nat} {Z Z' U : Env1} {s s1 s' : Shared} {N : Env1 -> Prop} {R : AV -> Prop} {X : Prop}
theorem comp_core {elt iter : Expr} {x : Str} {px : Pos} {ifs : List Expr} {scope : Scope} {cl : List (Str × Addr)} {pos : Pos} {p : AV -> Bool} {f : AV -> AV} {xs : List AV} (hc : c.EOk) (S : St c q Z U s) (hI : EI c Z U iter xs) (ok : CompOk c scope cl Z Z' x)
  (hlen : xs.length <= 1000000) (hκ : ∀ y av, Z'.lookup y = some av -> av.okY = true)
  (ht : ∀ c' : Ac, c'.EOk -> c'.C = c.C -> c'.n = c.n -> c'.env.scope = relabel scope c.env -> ∀ y ∈ xs, y.nl = true /\ CT c' Z' [(x, y)] ifs (p y) /\ (p y = true -> EV c' Z' [(x, y)] elt (f y) /\ (f y).nl = true))
  {RR : Value -> Addr -> Result -> Shared -> Prop} {E : VP} (hRR : ∀ D L s', Cf c L s LstA D ((xs.filter p).map f) s' -> RR (.ref D) L (.ok .next) s') :
  wpAny (model c.C.prog c.C.w) c.A (eval iter c.env) (fun xv s1 => wpAny (model c.C.prog c.C.w) c.A (pyIter xv) (fun it s2 => wpAny (model c.C.prog c.C.w) c.A (newList []) (fun acc s3 =>
   wpAny (model c.C.prog c.C.w) c.A (newFunctionEnv scope c.env.globals cl [] c.env.qual none .none (some c.env)) (fun cenv s4 =>
    codeAny (model c.C.prog c.C.w) c.A (.compStart (.ListComp elt [⟨.Name x px, iter, ifs, 0⟩] scope pos) 0 it acc { cenv with scope := relabel scope c.env }) (RR acc cenv.locals) s4) E s3) E s2) E s1) E s := by
 refine hI q s S _ _ fun it s2 O K eD hO hK hstr hself => ?_
 have S2 := S.ev eD
 refine wpAny_newObj_type (newEnvD ok.cell fun h' hh => ?_)
 subst hh
 dsimp only
 have eH : Ev c.C No No s2 { s2 with heap := s2.heap.push { cls := .type "list", dict := none, data := .seq ([] : List Value).toArray } } := .keep fun _ _ e => gP _ e
 generalize hs3 : ({ s2 with heap := s2.heap.push { cls := .type "list", dict := none, data := .seq ([] : List Value).toArray } } : Shared) = s3 at eH
 have hh3 : s2.heap.push { cls := .type "list", dict := none, data := .seq ([] : List Value).toArray } = s3.heap := by rw [<- hs3]
 rw [hh3]
 have eJ : Ev c.C No No s3 { s3 with heap := s3.heap.push { cls := .type "dict", data := .dict #[] } } := .keep fun _ _ e => gP _ e
 have hs4 : ({ s2 with heap := s3.heap.push { cls := .type "dict", data := .dict #[] } } : Shared) = { s3 with heap := s3.heap.push { cls := .type "dict", data := .dict #[] } } := by rw [<- hs3]
 rw [hs4]
 generalize hs4' : ({ s3 with heap := s3.heap.push { cls := .type "dict", data := .dict #[] } } : Shared) = s4 at eJ
 have e24 := eH.tr eJ
 have e04 := eD.tr e24
 have S3 := S2.ev eH
 have S4 := S3.ev eJ
 have hDget : s4.heap.get? s2.heap.objs.size = some { cls := .type "list", dict := none, data := .seq ([] : List Value).toArray } := by
  rw [<- hs4']
  refine gP _ ?_
  show s3.heap.get? _ = _
  rw [<- hh3]
  exact Heap.get?_push_size _ rfl
 have hLget : s4.heap.get? s3.heap.objs.size = some { cls := .type "dict", data := .dict #[] } := by
  rw [<- hs4']
  exact Heap.get?_push_size _ rfl
 have hDn : Nw s s2.heap.objs.size := eD.gone (get_fresh _)
 have hLn : Nw s s3.heap.objs.size := (eD.tr eH).gone (get_fresh _)
 have hne : s2.heap.objs.size ≠ s3.heap.objs.size := by
  rw [<- hh3, Heap.size_push]; exact Nat.ne_of_lt (Nat.lt_succ_self _)
 have str4 := hstr.ev e24 .no
 have owJ := str4.owns
 have exO : ∀ a, O a -> a ≠ s2.heap.objs.size /\ a ≠ s3.heap.objs.size := fun a h => by
  obtain ⟨_, o, ho, _⟩ := hstr.owns.o a h
  refine ⟨Nat.ne_of_lt (Heap.lt_size ho), fun z => ?_⟩
  subst z
  have := eH.gone (get_fresh s3.heap)
  rw [ho] at this; cases this
 have exK : ∀ a, K a -> a ≠ s2.heap.objs.size := fun a h => by
  refine E12 (hstr.owns.k a h) fun o ho _ => ?_
  exact Nat.ne_of_lt (Heap.lt_size ho)
 have exKL : ∀ a, K a -> a ≠ s3.heap.objs.size := fun a h z => by
  refine E12 (hstr.owns.k a h) fun o ho _ => ?_
  subst z
  have := eH.gone (get_fresh s3.heap)
  rw [ho] at this; cases this
 have old : ∀ a o, s.heap.get? a = some o -> recol (· = s2.heap.objs.size) 3 (recol O 2 q) a = q a := fun a o h => by
  have h' : ¬ Nw s a := fun z => by have z' : s.heap.get? a = none := z; rw [h] at z'; cases z'
  rw [recol_out fun z => h' (by rw [z]; exact hDn), recol_out fun z => h' (hO a z)]
 have c'ok : (compC c scope cl s3.heap.objs.size s).EOk := ⟨hc.C, hc.room, hc.frames, ok.kind, hc.g, hc.b⟩
 have P : Cp c (compC c scope cl s3.heap.objs.size s) Z' q s K it LstA s2.heap.objs.size xs [] [] (recol (· = s2.heap.objs.size) 3 (recol O 2 q)) O No s4 := {
  S := {
   base := S4.base
   col := fun a h => by
    rcases recol_ne h with z | z
    ·subst z; exact ⟨S2.base.gone (get_fresh _), _, hDget, by simp, by simp⟩
    ·rcases recol_ne z with z | z
     ·exact owJ.o a z
     ·exact S4.col a z
   new := fun a h => e04.gone h
   loc := ⟨fun _ => none, ⟨_, #[], 0, hLget, rfl, fun _ he => by simp at he, fun _ => rfl⟩, fun x av h => by simp [List.lookup] at h⟩
   cel := fun y av h => by
    refine E03 (ok.cells y av h) fun h1 h2 h3 => ?_
    obtain ⟨_, a, o, v, h4, h5, h6, h7, r⟩ := S.cel y av h1
    refine E12 (e04.sim S.base h6 (by rw [h7]; nofun) id) fun o' ho' z => ?_
    refine ⟨h2, a, o', v, h3.trans h4, (old a o h6).trans h5, ho', z.2.2.1.trans h7, r.mono (R := fun _ => True) (e04.kept S.base .no) (fun _ _ _ _ _ => trivial) old⟩
   frs := S4.frs
   frf := S4.frf
   own := ⟨S.base.gone hLn, ((recol_out (O := (· = s2.heap.objs.size)) (Ne.symm hne)).trans ((recol_out fun z => (exO _ z).2 rfl).trans (S.fr _ hLn).1)), hLn⟩ }
  nd := fun x av h => by simp [List.lookup] at h
  loc := ⟨_, hLget, rfl⟩
  ok := lstA_ok _
  acc := ⟨[], ⟨_, hDget, rfl, _, rfl⟩, by unfold R0L; rw [RepL]; trivial⟩
  hD := ⟨recol_in rfl, hDn⟩
  since := e04
  str := str4
  hO := fun a h => ⟨(recol_out (O := (· = s2.heap.objs.size)) (exO a h).1).trans (recol_in h), hO a h⟩
  hG := fun _ h => h.elim
  hK := fun a h => ⟨(recol_out (O := (· = s2.heap.objs.size)) (exK a h)).trans ((recol_out (hK a h).2).trans (hK a h).1), exKL a h⟩ }
 have loop : ∀ s5, Ev c.C No No s4 s5 -> codeAny (model c.C.prog c.C.w) c.A (.compLoop (.ListComp elt [⟨.Name x px, iter, ifs, 0⟩] scope pos) 0 it (.ref s2.heap.objs.size) (compEnvC scope cl s3.heap.objs.size c.env)) (RR (.ref s2.heap.objs.size) s3.heap.objs.size) s5 := fun s5 e5 =>
  comp_loop (c' := compC c scope cl s3.heap.objs.size s) c'ok rfl rfl rfl (fun _ h => h) (lookup_relabel_local ok.hx) hlen hκ (ht _ c'ok rfl rfl rfl) (fun s' h => hRR _ _ s' h) (.inl rfl) (P.ev (by rfl) e5) ⟨[], rfl, rfl⟩
 exact codeAny_compStart_list (loop s4 .refl) (hself s4 e24 _ _ (loop s4 .refl))
theorem Ev.freshBut {W : Addr -> Prop} {G : Nat -> Prop} (hc : C.Ok) (e : Ev C W G s s') {L : Addr} {h' : Heap} (hsb : Heap.SameBut L s'.heap h') (hL : Nw s L) (hn : C.h₁.get? L = none) (hnc : ∃ o, s'.heap.get? L = some o /\ o.cls ≠ .type "code") : Ev C W G s { s' with heap := h' } where
 kp := fun a o h hw ht => by
  refine E12 (e.kp a o h hw ht) fun o' ho' z => ?_
  exact ⟨o', hsb.extBut a o' (fun z => by subst z; have hL' : s.heap.get? a = none := hL; rw [h] at hL'; cases hL') ho', z⟩
 al := fun a o h => by
  refine E12 (e.al a o h) fun o' ho' z => ?_
  exact ⟨o', hsb.extBut a o' (fun z => by subst z; have hL' : s.heap.get? a = none := hL; rw [h] at hL'; cases hL') ho', z⟩
 gk := e.gk
 gz := e.gz
 bs := fun B => by
  have B' := e.bs B
  have ne : ∀ b ob, C.h₁.get? b = some ob -> b ≠ L := fun b ob h z => by rw [z, hn] at h; cases h
  refine ⟨fun a o h ht => hsb.extBut a o (ne a o h) (B'.old a o h ht), fun p hp => ?_⟩
  refine E14 (B'.tab p hp) ?_; rintro ps i t ⟨ps0, more, e0, e1⟩ z
  refine E13 (hc.base.tab p hp) fun _ i' t' _ => ?_
  obtain ⟨_, _, _, _, _, _, _, _, _, _, ec, _⟩ := i'
  exact ⟨ps, i.extBut hsb.extBut (ne _ _ ec) (ne _ _ t'), hsb.extBut _ _ (ne _ _ t') t, ⟨ps0, more, e0, e1⟩, fun cv e => let ⟨c, oc, vs, tt, y1, y2, y3, y4⟩ := z cv e; ⟨c, oc, vs, tt, y1, hsb.extBut _ _ (fun q => by refine E12 hnc ?_; clear hnc; intro o ho hn; rw [<- q, y2] at ho; cases ho; exact hn y3) y2, y3, y4⟩⟩
 os := e.os
 br := e.br
theorem Cf.after {L D : Addr} {ys : List AV} (h : Cf c L s LstA D ys s') {h' : Heap} (hsb : Heap.SameBut L s'.heap h') (B : Base c.C s'.heap) : ∃ vs, h'.IsList D ⟨vs⟩ /\ R0L h' ys vs := by
 refine E12 h.acc fun vs hl rl => ?_
 refine E12 h.loc fun oL hoL hcL => ?_
 refine ⟨vs, hl.extBut hsb.extBut h.hne, RepL.mono (R := fun _ => False) (fun a o ho hd hc => ?_) (fun _ _ _ _ z => by cases z) (fun _ _ _ z => by cases z) _ _ rl⟩
 refine ⟨o, hsb.extBut a o (fun z => ?_) ho, .refl o⟩
 subst z
 rw [hoL] at ho; cases ho
 rcases hc with hc | hc | hc
 ·rw [hcL] at hc; exact absurd hc (by simp)
 ·rw [hcL] at hc; exact absurd hc (by simp)
 ·exact hc
theorem ev_comp {elt iter : Expr} {x : Str} {px : Pos} {ifs : List Expr} {scope : Scope} {cl : List (Str × Addr)} {pos : Pos} {p : AV -> Bool} {f : AV -> AV} {xs : List AV} (hc : c.EOk) (hI : EI c Z U iter xs) (ok : CompOk c scope cl Z Z' x)
  (hlen : xs.length <= 1000000) (hκ : ∀ y av, Z'.lookup y = some av -> av.okY = true)
  (ht : ∀ c' : Ac, c'.EOk -> c'.C = c.C -> c'.n = c.n -> c'.env.scope = relabel scope c.env -> ∀ y ∈ xs, y.nl = true /\ CT c' Z' [(x, y)] ifs (p y) /\ (p y = true -> EV c' Z' [(x, y)] elt (f y) /\ (f y).nl = true))
  (hs : ∀ x, foldedSetIterable iter c.env x = pure x := by intro _; rfl) : EV c Z U (.ListComp elt [⟨.Name x px, iter, ifs, 0⟩] scope pos) (.lst ((xs.filter p).map f)) := fun q s S Q E k => by
 rw [eval_ListComp]
 refine wpAny_comprehension_free (use := none) rfl hs ok.clos ok.kind ok.names (comp_core (RR := fun acc L => compPost _ _ E none Q acc L) hc S hI ok hlen hκ ht fun D L s' h => ?_)
 refine E11 h.ns fun m hm => ?_
 refine ⟨m, hm, fun h' hsb => ?_⟩
 have B' := (S.ev h.since).base
 refine E12 (h.after hsb B') fun vs hl rl => ?_
 refine k _ _ (h.since.freshBut hc.C hsb h.hL (S.base.gone h.hL) (let ⟨oL, a, b⟩ := h.loc; ⟨oL, a, by rw [b]; simp⟩)) (.of_rep ?_)
 rw [Rep]
 exact ⟨D, vs, rfl, (S.fr _ h.hD).1, hl, RepL.mono (R := fun _ => True) (fun a o ho _ _ => ⟨o, ho, .refl o⟩) (fun _ _ _ _ _ => trivial) (fun _ _ _ z => by cases z) _ _ rl⟩
theorem s_comp {elt iter : Expr} {x y : Str} {px py : Pos} {ifs : List Expr} {scope : Scope} {cl : List (Str × Addr)} {pos spos : Pos} {p : AV -> Bool} {f : AV -> AV} {xs : List AV} (hc : c.Ok) (hI : EI c Z U iter xs) (ok : CompOk c scope cl Z Z' x)
  (hlen : xs.length <= 1000000) (hκ : ∀ y av, Z'.lookup y = some av -> av.okY = true)
  (ht : ∀ c' : Ac, c'.EOk -> c'.C = c.C -> c'.n = c.n -> c'.env.scope = relabel scope c.env -> ∀ y ∈ xs, y.nl = true /\ CT c' Z' [(x, y)] ifs (p y) /\ (p y = true -> EV c' Z' [(x, y)] elt (f y) /\ (f y).nl = true))
  (hy : c.env.kindOf y = some .local) (hsw : swapsWith (.ListComp elt [⟨.Name x px, iter, ifs, 0⟩] scope pos) (some (.Name y py)) spos.line c.env = pure true)
  (hs : ∀ x, foldedSetIterable iter c.env x = pure x := by intro _; rfl) : S1 c Z U (.Assign [.Name y py] (.ListComp elt [⟨.Name x px, iter, ifs, 0⟩] scope pos) spos) (· = up y (.lst ((xs.filter p).map f)) U) R X := fun q s S Q E o => by
 rw [exec_Assign_Name_used _ _ _ _ hsw]
 refine wB (wpAny_standAt (wB ?_))
 show wpAny _ c.A (do let _ <- comprehension (.ListComp elt [⟨.Name x px, iter, ifs, 0⟩] scope pos) scope c.env _ (newList []) false (eval iter c.env) (some (assign (.Name y py) c.env))) _ _ s
 refine wB (wpAny_mono (wpAny_comprehension_free (use := some (assign (.Name y py) c.env)) (Q := fun _ s' => Q .next s') rfl hs ok.clos ok.kind ok.names
  (comp_core (RR := fun acc L => compPost _ _ E (some (assign (.Name y py) c.env)) (fun _ s' => Q .next s') acc L) hc.e S hI ok hlen hκ ht fun D L s' h => ?_)) (fun _ s' hq => wP (wP hq)) fun _ _ e => e)
 refine E11 h.ns fun m hm => ?_
 refine E12 h.acc fun vs hl rl => ?_
 refine E12 h.loc fun oL hoL hcL => ?_
 have hLn := S.base.gone h.hL
 have ag : Agree s.heap q (recol (· = L) 3 q) := fun a o ho => recol_out fun z => by subst z; have := h.hL; unfold Nw at this; rw [ho] at this; cases this
 have S' : St c (recol (· = L) 3 q) Z U s' := S.step (R := fun _ => True) h.since .no (fun _ _ => trivial) ag fun a ha => by
  rcases recol_ne ha with z | z
  ·subst z; exact ⟨hLn, oL, hoL, by rw [hcL]; simp, by rw [hcL]; simp⟩
  ·exact (S.col.ev h.since) a z
 refine E12 (S'.locC hc) fun oF hoF hcF => ?_
 have hneF : L ≠ c.env.locals := fun z => by subst z; rw [hoL] at hoF; cases hoF; rw [hcL] at hcF; exact absurd hcF (by simp)
 have hD0 : recol (· = L) 3 q D = 0 := (recol_out (O := (· = L)) h.hne).trans (S.fr _ h.hD).1
 refine wpAny_assign_Name (S'.store hc hy (av := .lst ((xs.filter p).map f)) (v := .ref D) (.of_rep (by rw [Rep]; exact ⟨D, vs, rfl, hD0, hl, RepL.mono (R := fun _ => True) (fun a o ho _ _ => ⟨o, ho, .refl o⟩) (fun _ _ _ _ _ => trivial) (fun _ _ _ z => by cases z) _ _ rl⟩)) (fun z => by cases z) fun s2 eD S2 => ?_)
 have hmD : s2.heap.Ns L m := ns_sim hm fun ob hob => eD.kp L ob hob hneF (Base.noT hc.C hLn)
 refine ⟨m, hmD, fun h' hsb => ?_⟩
 refine E13 (eD.al L oL hoL) fun oL2 hoL2 zL2 _ => ?_
 have hcL2 := zL2.trans hcL
 have e02 : Ev c.C (· = c.env.locals) No s s2 := (h.since.up (W := (· = c.env.locals)) (G := No)).tr eD
 have eAll := e02.freshBut hc.C hsb h.hL hLn ⟨oL2, hoL2, by rw [hcL2]; simp⟩
 have kp : Kept (fun a => a ≠ L) s2.heap h' := fun a o ho hd hcc => ⟨o, hsb.extBut a o (fun z => by
  subst z
  rw [hoL2] at ho; cases ho
  rcases hcc with hcc | hcc | hcc
  ·rw [hcL2] at hcc; exact absurd hcc (by simp)
  ·rw [hcL2] at hcc; exact absurd hcc (by simp)
  ·exact hcc rfl) ho, .refl o⟩
 have neL : ∀ a, recol (· = L) 3 q a = 0 \/ recol (· = L) 3 q a = 1 -> a ≠ L := fun a h z => by subst z; have h3 : recol (· = a) 3 q a = 3 := recol_in rfl; lia
 have mono : ∀ av v, Rp c.C (recol (· = L) 3 q) s2.heap av v -> Rp c.C q h' av v := fun av v r => r.mono' kp (fun a _ _ _ h => neL a h) (fun a _ _ h => (recol_out (O := (· = L)) (neL a h)).symm)
 have ex : ∀ a o, s2.heap.get? a = some o -> a ≠ L -> h'.get? a = some o := fun a o ho hne => hsb.extBut a o hne ho
 refine o.n q _ _ rfl .refl (eAll.loc S) ?_
 exact {
  base := eAll.bs S.base
  col := S.col.ev eAll
  new := fun a ha => S.new a (eAll.gone ha)
  loc := by
   refine E12 S2.loc fun mm hn hv => ?_
   refine E33 hn ?_; clear hn; intro on es ep hon hdn hr
   refine ⟨mm, ⟨on, es, ep, ex _ _ hon (Ne.symm hneF), hdn, hr⟩, fun x av hx => ?_⟩
   obtain ⟨hk, v, hv1, r, ow⟩ := hv x av hx
   exact ⟨hk, v, hv1, mono av v r, ow⟩
  cel := fun x av hx => by
   obtain ⟨hk, a, oc, v, h1, h2, h3, h4, r⟩ := S2.cel x av hx
   have hne := neL a (.inl h2)
   exact ⟨hk, a, oc, v, h1, (recol_out (O := (· = L)) hne).symm.trans h2, ex a oc h3 hne, h4, mono av v r⟩
  frs := frs_al eAll.al S.frs
  frf := S.frf.al eAll.al
  own := S.own }
end
section
variable {c : Ac} {q qB : Addr -> Nat} {Z U : Env1} {s s1 s' : Shared} {N N' : Env1 -> Prop} {R R' : AV -> Prop} {X X' : Prop} {Q : Flow -> Shared -> Prop} {E : VP}
theorem s_forI (hc : c.Ok) {name : Str} {px p : Pos} {iter : Expr} {body : List Stmt} {xs : List AV} {Inv : List AV -> Env1 -> Prop} (h : EI c Z U iter xs) (hx : c.env.kindOf name = some .local) (hI : Inv xs U)
  (hend : ∀ U', Inv [] U' -> N U') (hb : ∀ x xs U', Inv (x :: xs) U' -> x.ow = false /\ SX c Z (up name x U') body (Inv xs) R X)
  (hs : ∀ x, foldedSetIterable iter c.env x = pure x := by intro _; rfl) : S1 c Z U (.For (.Name name px) iter body [] p) N R X := fun q s S Q E o => by
 refine wpAny_For (h q s S _ _ fun it s2 O K eD hO hK hst _ => ?_) hs
 have ag : Agree s.heap q (recol O 2 q) := fun a ob e => recol_out fun z => by have := hO a z; unfold Nw at this; rw [e] at this; cases this
 have L : Lp c Z q s K it xs U (recol O 2 q) O No s2 := {
  S := S.step (R := fun _ => True) eD .no (fun _ _ => trivial) ag fun a h => by
   rcases recol_ne h with z | z
   ·exact hst.owns.o a z
   ·exact (S.col.ev eD) a z
  ag := ag, since := eD.up, str := hst, hO := fun a h => ⟨recol_in h, hO a h⟩, hG := fun _ h => h.elim
  hl := fun a h => (recol_out (hK a h).2).trans (hK a h).1 }
 refine codeAny_forLoop (R := fun r s' => match r with | .ok f => Q f s' | .error e => cameBackBy (model c.C.prog c.C.w) c.A c.env E e s')
  (fun n s' => ∃ xs U' q' O OG, n = xs.length /\ Inv xs U' /\ Lp c Z q s K it xs U' q' O OG s') ?_ xs.length ⟨xs, U, _, O, No, rfl, hI, L⟩
 rintro n s2 ⟨ys, U', q', O', OG', rfl, hI', L'⟩
 have F' := L'.S.fx hc.e
 cases ys with
 | nil =>
  refine L'.str.2 s2 No No .refl .no _ _ hc.room F' _ _ (fun _ s3 eH => ?_) (fun z => by cases z)
  refine E14 (L'.step eH (O' := O') (fun _ h => .inl h) (L'.str.owns.ev eH).o) fun qq hS hag hev _ => ?_
  exact wpAny_execs_nil (o.n _ U' s3 (hend U' hI') hag hev hS)
 | cons y ys =>
  refine L'.str.2 s2 No No .refl .no _ _ hc.room F' _ _ fun v s3 O3 OG3 eH r0 hO3 hG3 hs3 => ?_
  obtain ⟨qq, hS, hag, hev, hq, hql'⟩ := L'.step eH hO3 hs3.owns.o
  refine E02 (hb y ys U' hI') fun how hbody => ?_
  have L3 : Lp c Z q s K it ys U' qq O3 OG3 s3 := ⟨hS, hag, hev, hs3, hq, fun i h => (hG3 i h).elim (L'.hG i) fun z => Nat.le_trans L'.since.gz z, hql'⟩
  refine wpAny_assign_Name (hS.store hc hx (av := y) (.of_rep r0.rep) (fun z => by rw [how] at z; cases z) fun s4 eJ S4 => ?_)
  have L4 := L3.next hc .refl (eJ.loc hS) S4
  refine hbody _ s4 S4 _ _ ⟨fun qK U₅ s5 hN ag5 e5 S5 => ⟨ys.length, by simp, ys, U₅, qK, O3, OG3, rfl, hN, L4.next hc ag5 e5 S5⟩, fun qK av v s5 hR ag5 e5 gK r5 => ?_, fun hX x s5 e5 X5 => ?_⟩
  ·exact (o.after L4.ag L4.since).r qK av v s5 hR ag5 e5 gK r5
  ·exact loop_fail hc S (L4.since.wq L4.ag e5) (X5.mono fun a _ _ h => L4.since.gone h) fun s6 e6 X6 => o.x hX x s6 e6 X6
theorem s_for (hc : c.Ok) {name : Str} {px p : Pos} {iter : Expr} {body : List Stmt} {xs : List AV} {Inv : List AV -> Env1 -> Prop} (h : EV c Z U iter (.lst xs)) (hn : nlL xs) (hx : c.env.kindOf name = some .local) (hI : Inv xs U)
  (hend : ∀ U', Inv [] U' -> N U') (hb : ∀ x xs U', Inv (x :: xs) U' -> x.ow = false /\ SX c Z (up name x U') body (Inv xs) R X)
  (hs : ∀ x, foldedSetIterable iter c.env x = pure x := by intro _; rfl) : S1 c Z U (.For (.Name name px) iter body [] p) N R X :=
 s_forI hc (ei_list hc.e h hn) hx hI hend hb hs
theorem ei_bytes (hc : c.EOk) {e : Expr} {b : List UInt8} (h : EV c Z U e (.bytes b)) (hb : b.length <= 1000000) : EI c Z U e (bInts b) := fun q s S Q E k => by
 refine h q s S fun v s1 ew rB => ?_
 obtain ⟨t, rfl⟩ : ∃ t, v = .bytes ⟨b⟩ t := rB
 refine KBw.pyIter_bytes ?_
 have SB := S.ev ew
 have eD : Ev c.C No No s1 { s1 with heap := s1.heap.push { cls := .type "bytes_iterator", data := .fields #[.bytes ⟨b⟩ t, .int 0 0] } } := .keep fun _ _ e => gP _ e
 have hit := Heap.get?_push_size s1.heap (o := { cls := .type "bytes_iterator", data := .fields #[.bytes ⟨b⟩ t, .int 0 0] }) rfl
 have hnew := SB.base.gone (get_fresh s1.heap)
 refine k _ _ (· = s1.heap.objs.size) No (ew.tr eD) (fun a h => by subst h; exact ew.gone (get_fresh _)) (fun a h => h.elim) ?_ fun s3 eH Q E hQ => ?_
 ·exact bytes_str (C := c.C) (n := c.n) (K := No) (O := (· = s1.heap.objs.size)) (OG := No) hc.C (b := b) (t := t) b 0 _ rfl (SB.ev eD).base ⟨_, hit, rfl, rfl⟩ hnew rfl ⟨fun a h => by subst h; exact ⟨hnew, _, hit, by simp, by simp⟩, fun a h => h.elim, fun _ h => h.elim⟩
 ·refine E12 (eH.simF hc.C hit hnew) fun o' ho' z => ?_
  exact KBw.pyIter_self (b := ⟨b⟩) (t := t) (i := 0) ⟨o', ho', z.1, z.2.2.1⟩ hQ
end
section
variable {C : Cx} {A : Around} {x y : AV} {a b : Int} {u v : List UInt8}
theorem rp_int {q : Addr -> Nat} {h : Heap} {i : Int} {t : Tok} : Rp C q h (.int i) (.int i t) := .of_rep (by rw [Rep]; exact ⟨_, rfl⟩)
theorem rp_bytes {q : Addr -> Nat} {h : Heap} {b : List UInt8} {t : Tok} : Rp C q h (.bytes b) (.bytes ⟨b⟩ t) := .of_rep (by rw [Rep]; exact ⟨_, rfl⟩)
theorem rp_bool {q : Addr -> Nat} {h : Heap} {b : Bool} : Rp C q h (.bool b) (.bool b) := .of_rep (by rw [Rep])
theorem de_int {q : Addr -> Nat} {h : Heap} {i : Int} {v : Value} (r : Rp C q h (.int i) v) : ∃ t, v = .int i t := r
theorem de_bytes {q : Addr -> Nat} {h : Heap} {b : List UInt8} {v : Value} (r : Rp C q h (.bytes b) v) : ∃ t, v = .bytes ⟨b⟩ t := r
theorem de_bool {q : Addr -> Nat} {h : Heap} {b : Bool} {v : Value} (r : Rp C q h (.bool b) v) : v = .bool b := r
theorem de_none {q : Addr -> Nat} {h : Heap} {v : Value} (r : Rp C q h .none v) : v = .none := r
theorem tok1 {C : Cx} {s : Shared} : Ev C No No s { s with toks := s.toks + 1 } := .keep fun _ _ e => e
theorem toks {C : Cx} {s : Shared} {t : Nat} : Ev C No No s { s with toks := t } := .keep fun _ _ e => e
theorem i_eq : Op2 C A (compareOp .Eq) (.int a) (.int b) (.bool (a == b)) := fun q s v u G r1 r2 Q E k => by
 refine E11 (de_int r1) ?_; rintro t rfl; refine E11 (de_int r2) ?_; rintro t' rfl
 exact PySem.P.eq_int (k _ _ .refl rp_bool)
theorem i_le : Op2 C A (compareOp .LtE) (.int a) (.int b) (.bool (decide (a <= b))) := fun q s v u G r1 r2 Q E k => by
 refine E11 (de_int r1) ?_; rintro t rfl; refine E11 (de_int r2) ?_; rintro t' rfl
 exact PySem.P.le_int (k _ _ .refl rp_bool)
theorem i_lt : Op2 C A (compareOp .Lt) (.int a) (.int b) (.bool (decide (a < b))) := fun q s v u G r1 r2 Q E k => by
 refine E11 (de_int r1) ?_; rintro t rfl; refine E11 (de_int r2) ?_; rintro t' rfl
 exact PySem.P.lt_int (k _ _ .refl rp_bool)
theorem i_ge : Op2 C A (compareOp .GtE) (.int a) (.int b) (.bool (decide (a ≥ b))) := fun q s v u G r1 r2 Q E k => by
 refine E11 (de_int r1) ?_; rintro t rfl; refine E11 (de_int r2) ?_; rintro t' rfl
 exact PySem.P.ge_int (k _ _ .refl rp_bool)
theorem i_gt : Op2 C A (compareOp .Gt) (.int a) (.int b) (.bool (decide (a > b))) := fun q s v u G r1 r2 Q E k => by
 refine E11 (de_int r1) ?_; rintro t rfl; refine E11 (de_int r2) ?_; rintro t' rfl
 exact PySem.P.gt_int (k _ _ .refl rp_bool)
theorem i_ne : Op2 C A (compareOp .NotEq) (.int a) (.int b) (.bool (a != b)) := fun q s v u G r1 r2 Q E k => by
 refine E11 (de_int r1) ?_; rintro t rfl; refine E11 (de_int r2) ?_; rintro t' rfl
 exact PySem.P.ne_int (k _ _ .refl rp_bool)
theorem i_add : Op2 C A (binaryOp .Add) (.int a) (.int b) (.int (a + b)) := fun q s v u G r1 r2 Q E k => by
 refine E11 (de_int r1) ?_; rintro t rfl; refine E11 (de_int r2) ?_; rintro t' rfl
 exact PySem.P.add_int (k _ _ tok1 rp_int)
theorem i_sub : Op2 C A (binaryOp .Sub) (.int a) (.int b) (.int (a - b)) := fun q s v u G r1 r2 Q E k => by
 refine E11 (de_int r1) ?_; rintro t rfl; refine E11 (de_int r2) ?_; rintro t' rfl
 exact PySem.P.sub_int (k _ _ tok1 rp_int)
theorem i_iadd : Op2 C A (inplaceOp .Add) (.int a) (.int b) (.int (a + b)) := fun q s v u G r1 r2 Q E k => by
 refine E11 (de_int r1) ?_; rintro t rfl; refine E11 (de_int r2) ?_; rintro t' rfl
 exact wpAny_iadd_int (k _ _ tok1 rp_int)
theorem i_mod (hb : (b == 0) = false) : Op2 C A (binaryOp .Mod) (.int a) (.int b) (.int (a.fmod b)) := fun q s v u G r1 r2 Q E k => by
 refine E11 (de_int r1) ?_; rintro t rfl; refine E11 (de_int r2) ?_; rintro t' rfl
 exact AutoIntOps.mod_1 (by rw [hb]; simp) (k _ _ tok1 rp_int)
theorem i_div (hb : (b == 0) = false) (hp : ∀ a, Builtin.divisionGoesByPylong a b = false) : Op2 C A (binaryOp .FloorDiv) (.int a) (.int b) (.int (a.fdiv b)) := fun q s v u G r1 r2 Q E k => by
 refine E11 (de_int r1) ?_; rintro t rfl; refine E11 (de_int r2) ?_; rintro t' rfl
 exact AutoIntOps.floordiv_1 (by rw [hb]; simp) (by rw [hp]; simp) (k _ _ tok1 rp_int)
theorem b_eq : Op2 C A (compareOp .Eq) (.bytes u) (.bytes v) (.bool (u == v)) := fun q s v u G r1 r2 Q E k => by
 refine E11 (de_bytes r1) ?_; rintro t rfl; refine E11 (de_bytes r2) ?_; rintro t' rfl
 exact eq_bytes (k _ _ .refl rp_bool)
theorem b_ne : Op2 C A (compareOp .NotEq) (.bytes u) (.bytes v) (.bool (u != v)) := fun q s v u G r1 r2 Q E k => by
 refine E11 (de_bytes r1) ?_; rintro t rfl; refine E11 (de_bytes r2) ?_; rintro t' rfl
 exact ne_bytes (k _ _ .refl rp_bool)
theorem b_add (h : u.length + v.length <= 1000000) : Op2 C A (binaryOp .Add) (.bytes u) (.bytes v) (.bytes (u ++ v)) := fun q s v' u' G r1 r2 Q E k => by
 refine E11 (de_bytes r1) ?_; rintro t rfl; refine E11 (de_bytes r2) ?_; rintro t' rfl
 refine KBy.add_bytes (by show u.length + v.length <= _; lia) fun t' k' => ?_
 have e : (⟨u⟩ : Array UInt8) ++ ⟨v⟩ = ⟨u ++ v⟩ := by simp
 rw [e]
 exact k _ _ toks rp_bytes
end
noncomputable def EqEnc {α : Type} [DecidableEq α] (enc : α -> AV) : Prop := ∀ (A : Around) (s : Shared) (q : Addr -> Nat) (a b : α) (v u : Value), A.units + 20 < cLine -> Rep q s.heap (enc a) v -> Rep q s.heap (enc b) u -> SeqAt.EqAt A s v u (decide (a = b))
theorem eqE_bytes : EqEnc (α := List UInt8) AV.bytes := fun A s q a b v u hu r1 r2 => by
 rw [Rep] at r1 r2
 refine E11 r1 ?_; clear r1; rintro t rfl; refine E11 r2 ?_; clear r2; rintro t' rfl
 exact fun prog w E Q h => eqBool_bytes h
theorem eqE_int : EqEnc (α := Int) AV.int := fun A s q a b v u hu r1 r2 => by
 rw [Rep] at r1 r2
 refine E11 r1 ?_; clear r1; rintro t rfl; refine E11 r2 ?_; clear r2; rintro t' rfl
 have e : (a == b) = decide (a = b) := by by_cases z : a = b <;> simp [z]
 exact fun prog w E Q h => wpAny_eqBool_int (by rw [e]; exact h)
structure Fld where
 n : List UInt8
 v : List UInt8
 x : Option Bool
 deriving DecidableEq
noncomputable def xL : Option Bool -> List AV
 | none => []
 | some b => [.bool b]
noncomputable def Fld.av (f : Fld) : AV := .tup (.bytes f.n :: .bytes f.v :: xL f.x)
noncomputable def flds (l : List Fld) : AV := .lst (l.map Fld.av)
theorem Fld.nl (f : Fld) : f.av.nl = true := by
 obtain ⟨n, v, x⟩ := f
 cases x <;> rfl
noncomputable def xV : Option Bool -> List Value
 | none => []
 | some b => [.bool b]
theorem xL_rep {q : Addr -> Nat} {h : Heap} : ∀ (x : Option Bool) (ys : List Value), RepL q h (xL x) ys -> ys = xV x
 | none, ys, r => by
  cases ys with
  | nil => rfl
  | cons => rw [xL, RepL] at r; exact r.elim
 | some b, ys, r => by
  cases ys with
  | nil => rw [xL, RepL] at r; exact r.elim
  | cons y r' =>
   rw [xL, RepL, Rep] at r
   cases r' with
   | nil => rw [r.1]; rfl
   | cons => have := r.2; rw [RepL] at this; exact this.elim
noncomputable def fV (f : Fld) (t t' : Tok) : List Value := .bytes ⟨f.n⟩ t :: .bytes ⟨f.v⟩ t' :: xV f.x
theorem fld_rep {q : Addr -> Nat} {h : Heap} {f : Fld} {v : Value} (r : Rep q h f.av v) : ∃ l t t', v = .ref l /\ h.IsTuple l ⟨fV f t t'⟩ := by
 unfold Fld.av at r
 rw [Rep] at r
 refine E23 r ?_; rintro l vs rfl ht rl
 cases vs with
 | nil => rw [RepL] at rl; exact rl.elim
 | cons a vs =>
  rw [RepL, Rep] at rl
  refine E02 rl ?_; rintro ⟨t, rfl⟩ rl
  cases vs with
  | nil => rw [RepL] at rl; exact rl.elim
  | cons b vs =>
   rw [RepL, Rep] at rl
   refine E02 rl ?_; rintro ⟨t', rfl⟩ rl
   cases xL_rep _ _ rl
   exact ⟨l, t, t', rfl, ht⟩
noncomputable def fE (p q r : Bool) : Nat -> Bool
 | 0 => p
 | 1 => q
 | _ => r
theorem fE_all (p q : Bool) : ∀ x y : Option Bool, ((List.range (min ((xV x).length + 2) ((xV y).length + 2))).all (fE p q (decide (x = y))) && ((xV x).length + 2 == (xV y).length + 2)) = (p && (q && decide (x = y)))
 | none, none => by revert p q; decide
 | none, some _ => by revert p q; exact fun p q => by cases p <;> cases q <;> rfl
 | some _, none => by revert p q; exact fun p q => by cases p <;> cases q <;> rfl
 | some a, some b => by revert p q a b; decide
theorem fld_dec (f g : Fld) : decide (f = g) = (decide (f.n = g.n) && (decide (f.v = g.v) && decide (f.x = g.x))) := by
 obtain ⟨a, b, x⟩ := f; obtain ⟨a', b', x'⟩ := g
 rw [<- Bool.decide_and, <- Bool.decide_and]
 exact decide_eq_decide.mpr ⟨fun e => by cases e; exact ⟨rfl, rfl, rfl⟩, fun ⟨e1, e2, e3⟩ => by cases e1; cases e2; cases e3; rfl⟩
theorem fV_at {A : Around} {s : Shared} {x y : Option Bool} : ∀ j (h1 : j < (xV x).length) (h2 : j < (xV y).length), SeqAt.EqAt A s (xV x)[j] (xV y)[j] (decide (x = y)) := by
 cases x with
 | none => exact fun _ h _ => nomatch h
 | some a => cases y with
  | none => exact fun _ _ h => nomatch h
  | some b =>
   intro j h _
   cases Nat.lt_one_iff.mp h
   have := SeqAt.EqAt.bool_bool (A := A) (s := s) a b
   have e : (a == b) = decide (some a = some b) := by cases a <;> cases b <;> rfl
   rw [e] at this
   exact this
theorem eqE_fld : EqEnc Fld.av := fun A s q f g v u hu r1 r2 => by
 refine E32 (fld_rep r1) ?_; rintro l t1 t2 rfl ht
 refine E32 (fld_rep r2) ?_; rintro l' t3 t4 rfl ht'
 rw [fld_dec]
 by_cases hne : l = l'
 ·subst hne
  refine E13 ht fun o ho _ ⟨m, hd⟩ => ?_
  refine E13 ht' fun o' ho' _ ⟨m', hd'⟩ => ?_
  rw [ho] at ho'; cases ho'
  rw [hd] at hd'
  have e : fV f t1 t2 = fV g t3 t4 := by injection hd' with h1 _; injection h1
  have e1 : f.n = g.n := by injection e with h1; injection h1 with h1; injection h1
  have e2 : f.v = g.v := by injection e with _ h2; injection h2 with h1; injection h1 with h1; injection h1
  have e3 : f.x = g.x := by
   injection e with _ h2; injection h2 with _ h2
   generalize f.x = x at h2; generalize g.x = y at h2
   cases x <;> cases y <;> first | rfl | (injection h2 with h; injection h with h; rw [h]) | cases h2
  rw [e1, e2, e3, decide_eq_true rfl, decide_eq_true rfl, decide_eq_true rfl]
  intro prog ww E Q h
  unfold eqBool
  refine wpAny_holding ?_
  refine wpEq (if_pos (beq_self_eq_true _)) ?_
  exact wB (wpAny_rule (wP h))
 ·refine .of_refs hne ?_
  rw [<- fE_all]
  exact SeqAt.RcAt.tuples ht ht' (by omega) fun j h1 h2 => match j, h1, h2 with
   | 0, _, _ => fun prog w E Q h => eqBool_bytes h
   | 1, _, _ => fun prog w E Q h => eqBool_bytes h
   | j + 2, h1, h2 => fV_at j (Nat.lt_of_succ_lt_succ (Nat.lt_of_succ_lt_succ h1)) (Nat.lt_of_succ_lt_succ (Nat.lt_of_succ_lt_succ h2))
theorem range_all {α : Type} [DecidableEq α] {l m : List α} (h : l.length = m.length) : (List.range l.length).all (fun j => decide (l[j]? = m[j]?)) = decide (l = m) := by
 by_cases e : l = m
 ·subst e; simp
 ·rw [decide_eq_false e, List.all_eq_false]
  refine Classical.byContradiction fun hn => e (List.ext_getElem? fun j => ?_)
  by_cases hj : j < l.length
  ·refine Classical.byContradiction fun hne => hn ⟨j, by simpa using hj, by simpa using hne⟩
  ·rw [List.getElem?_eq_none (by lia), List.getElem?_eq_none (by omega)]
theorem repL_at {q : Addr -> Nat} {h : Heap} {xs : List AV} {vs : List Value} (r : RepL q h xs vs) (j : Nat) (h1 : j < vs.length) : ∃ x, xs[j]? = some x /\ Rep q h x vs[j] := by
 have hl := r.length
 refine E12 (r.get j (xs[j]'(by omega)) (by simp)) fun v hv r' => ?_
 refine ⟨xs[j]'(by lia), by simp, ?_⟩
 rw [List.getElem?_eq_getElem h1] at hv; cases hv
 exact r'
theorem rc_list {α : Type} [DecidableEq α] {enc : α -> AV} (he : EqEnc enc) {A : Around} {s : Shared} {q : Addr -> Nat} {a b : List α} {v u : Value} (hu : A.units + 30 < cLine) (r1 : Rep q s.heap (.lst (a.map enc)) v) (r2 : Rep q s.heap (.lst (b.map enc)) u) :
  SeqAt.RcAt A s v u (decide (a = b)) /\ SeqAt.RcNeAt A s v u (!decide (a = b)) := by
 rw [Rep] at r1 r2
 refine E24 r1 ?_; clear r1; rintro l vs rfl _ hl rl
 refine E24 r2 ?_; clear r2; rintro l' vs' rfl _ hl' rl'
 have h1 := rl.length
 have h2 := rl'.length
 rw [List.length_map] at h1 h2
 by_cases hlen : a.length = b.length
 ·have e : ∀ j (h3 : j < (⟨vs⟩ : Array Value).size) (h4 : j < (⟨vs'⟩ : Array Value).size), SeqAt.EqAt A.in1 s (⟨vs⟩ : Array Value)[j] (⟨vs'⟩ : Array Value)[j] (decide (a[j]? = b[j]?)) := fun j h3 h4 => by
   have h3' : j < vs.length := h3
   have h4' : j < vs'.length := h4
   refine E12 (repL_at rl j h3') fun x hx rx => ?_
   refine E12 (repL_at rl' j h4') fun y hy ry => ?_
   rw [List.getElem?_map] at hx hy
   have ha : a[j]? = some (a[j]'(by lia)) := List.getElem?_eq_getElem _
   have hb : b[j]? = some (b[j]'(by omega)) := List.getElem?_eq_getElem _
   rw [ha] at hx; rw [hb] at hy
   cases hx; cases hy
   have := he A.in1 s q _ _ _ _ (by show A.units + 1 + 20 < cLine; omega) rx ry
   rw [ha, hb]
   simpa using this
  have hs : (⟨vs⟩ : Array Value).size = (⟨vs'⟩ : Array Value).size := by show vs.length = vs'.length; lia
  have k1 := SeqAt.RcAt.lists hl hl' hs (by omega) e
  have k2 := SeqAt.RcNeAt.lists hl hl' hs (by omega) e
  have hz : (⟨vs⟩ : Array Value).size = a.length := h1
  rw [hz, range_all hlen] at k1 k2
  exact ⟨k1, k2⟩
 ·have hs : ((⟨vs⟩ : Array Value).size != (⟨vs'⟩ : Array Value).size) = true := by show (vs.length != vs'.length) = true; simp; lia
  have hne : decide (a = b) = false := decide_eq_false fun z => hlen (by rw [z])
  rw [hne]
  exact ⟨SeqAt.RcAt.lists_lengths hl hl' hs (by omega), SeqAt.RcNeAt.lists_lengths hl hl' hs (by omega)⟩
theorem l_eq {α : Type} [DecidableEq α] {enc : α -> AV} (he : EqEnc enc) {C : Cx} {A : Around} {a b : List α} (hu : A.units + 30 < cLine) : Op2 C A (compareOp .Eq) (.lst (a.map enc)) (.lst (b.map enc)) (.bool (decide (a = b))) := fun q s v u G r1 r2 Q E k =>
 (rc_list he hu r1 r2).1 _ _ _ _ (k _ _ .refl rp_bool)
theorem l_ne {α : Type} [DecidableEq α] {enc : α -> AV} (he : EqEnc enc) {C : Cx} {A : Around} {a b : List α} (hu : A.units + 30 < cLine) : Op2 C A (compareOp .NotEq) (.lst (a.map enc)) (.lst (b.map enc)) (.bool (!decide (a = b))) := fun q s v u G r1 r2 Q E k =>
 (rc_list he hu r1 r2).2 _ _ _ _ (k _ _ .refl rp_bool)
section
variable {c : Ac} {Z U : Env1} {C : Cx} {A : Around} {x y z : AV}
noncomputable def GI (C : Cx) (A : Around) (x i z : AV) : Prop := ∀ q s v u, Gd C q s -> Rp C q s.heap x v -> Rp C q s.heap i u -> ∃ T id, typeLookup (.type T) "__getitem__" = pure (some (.builtin id)) /\ s.TypeIs v T /\ Gv C A q s (getItem v u) z
theorem tailG {A : Around} {E : VP} {s : Shared} {value slice : Expr} {o i : Value} {Q : VP} (h : ∃ T id, typeLookup (.type T) "__getitem__" = pure (some (.builtin id)) /\ s.TypeIs o T /\ wpAny (model C.prog C.w) A (getItem o i) Q E s)
  (hs : ∃ ops, subscripted slice false o i = operate ops (getItem o i)) : wpAny (model C.prog C.w) A (subscriptTail value slice o i) Q E s := by
 refine E23 h ?_; clear h; intro T id hl hT hg
 refine E11 hs ?_; clear hs; intro ops hs
 unfold subscriptTail
 refine wB ?_
 rw [getitemInPython_of_ne hT.not_modules]
 refine wB (wpAny_specialOf hT hl ?_)
 have fin : wpAny (model C.prog C.w) A (subscripted slice false o i) (fun r s3 => wpAny (model C.prog C.w) A (letTemporaryGo value o r >>= fun _ => pure r) Q E s3) E s := by
  rw [hs]
  exact wpAny_operating (wpAny_mono hg (fun r s3 h₃ => wB (wpAny_letTemporaryGo (wP h₃))) fun _ _ x => x)
 first
  | exact wP (wB fin)
  | exact wB (wP (wB fin))
  | exact wB fin
theorem ev_sub {value slice : Expr} {p : Pos} {i : AV} (hv : EV c Z U value x) (hi : EV c Z U slice i) (hg : GI c.C c.A x i z) (hs : ∀ o i, ∃ ops, subscripted slice false o i = operate ops (getItem o i) := by exact fun _ _ => ⟨_, rfl⟩) : EV c Z U (.Subscript value slice p) z := fun q s S Q E k =>
 Subscript_ (hv q s S fun v s1 ew rB => hi q s1 (S.ev ew) fun u s2 eD rD => by
  refine E23 (hg q s2 v u ((S.ev ew).ev eD).gd (rB.ev eD (S.ev ew).base) rD) fun T id hl hT hgv => ?_
  exact tailG ⟨T, id, hl, hT, hgv fun w s3 eH rH => k w s3 ((ew.tr eD).tr eH) rH⟩ (hs v u))
theorem de_tup {q : Addr -> Nat} {h : Heap} {xs : List AV} {v : Value} (r : Rp C q h (.tup xs) v) : ∃ a vs, v = .ref a /\ h.IsTuple a ⟨vs⟩ /\ RepL q h xs vs := by
 have r' : Rep q h (.tup xs) v := r
 rwa [Rep] at r'
theorem de_lst {q : Addr -> Nat} {h : Heap} {xs : List AV} {v : Value} (r : Rp C q h (.lst xs) v) : ∃ a vs, v = .ref a /\ q a = 0 /\ h.IsList a ⟨vs⟩ /\ RepL q h xs vs := by
 have r' : Rep q h (.lst xs) v := r
 rwa [Rep] at r'
theorem gi_tup {xs : List AV} {n : Nat} (hx : xs[n]? = some z) (hn : n < 1000000) : GI C A (.tup xs) (.int (n : Int)) z := fun q s v u G r1 r2 => by
 refine E23 (de_tup r1) ?_; rintro a vs rfl ht rl
 refine E11 (de_int r2) ?_; rintro t rfl
 refine E12 (rl.get n z hx) fun w hw rw' => ?_
 refine ⟨"tuple", _, slot_tuple_getitem.lookup, ht.typeIs, fun k => ?_⟩
 have hlt : n < vs.length := (List.getElem?_eq_some_iff.mp hw).1
 refine PyProof.Rows.getItem_tuple (j := n) ht (by lia) (by lia) ?_ (by simpa using hw) (k w s .refl (.of_rep rw'))
 have h1 : ¬ ((n : Int) < 0) := by lia
 have h2 : (n : Int) < (⟨vs⟩ : Array Value).size := by show (n : Int) < (vs.length : Nat); lia
 simp [seqIndex?, h1]
 exact hlt
theorem gi_lst {xs : List AV} {i : Int} (h0 : 0 <= i) (hx : xs[i.toNat]? = some z) (hn : i < 1000000) : GI C A (.lst xs) (.int i) z := fun q s v u G r1 r2 => by
 refine E24 (de_lst r1) ?_; rintro a vs rfl _ hl rl
 refine E11 (de_int r2) ?_; rintro t rfl
 refine E12 (rl.get _ z hx) fun w hw rw' => ?_
 exact ⟨"list", _, slot_list_getitem.lookup, hl.typeIs, fun k => wpAny_getItem_list hl h0 (by lia) (by simpa using hw) (k w s .refl (.of_rep rw'))⟩
theorem gi_last {q : Addr -> Nat} {s : Shared} {a : Addr} {vs : List Value} {xs : List AV} {t : Tok} (hl : s.heap.IsList a ⟨vs⟩) (rl : RepL q s.heap (xs ++ [z]) vs) (hn : xs.length < 1000000) : ∃ T id, typeLookup (.type T) "__getitem__" = pure (some (.builtin id)) /\ s.TypeIs (.ref a) T /\ Gv C A q s (getItem (.ref a) (.int (-1) t)) z := by
 have hlen := rl.length
 refine E12 (rl.get xs.length z (by simp)) fun w hw rw' => ?_
 have hlt : xs.length < vs.length := (List.getElem?_eq_some_iff.mp hw).1
 refine ⟨"list", _, slot_list_getitem.lookup, hl.typeIs, fun k => ?_⟩
 refine wpAny_getItem_list_neg hl (by lia) ?_ (by lia) ?_ (k w s .refl (.of_rep rw'))
 ·show -((vs.length : Nat) : Int) <= -1; lia
 ·have e : ((-1 : Int) + ((⟨vs⟩ : Array Value).size : Int)).toNat = xs.length := by
   show ((-1 : Int) + ((vs.length : Nat) : Int)).toNat = _
   simp at hlen; lia
  first
   | (rw [e]; simpa using hw)
   | (simp at hlen ⊢; rw [show vs.length - 1 = xs.length by lia]; exact hw)
theorem gi_lst_last {xs : List AV} (hn : xs.length < 1000000) : GI C A (.lst (xs ++ [z])) (.int (-1)) z := fun q s v u G r1 r2 => by
 refine E24 (de_lst r1) ?_; rintro a vs rfl _ hl rl
 refine E11 (de_int r2) ?_; rintro t rfl
 exact gi_last hl rl hn
theorem gi_own_last {xs : List AV} (hn : xs.length < 1000000) : GI C A (.own (xs ++ [z])) (.int (-1)) z := fun q s v u G r1 r2 => by
 refine E24 r1 ?_; clear r1; rintro a vs rfl _ hl rl
 refine E11 (de_int r2) ?_; rintro t rfl
 exact gi_last hl.isList rl hn
theorem gi_bytes {b : List UInt8} {i : Int} (hfit : b.length <= 1000000) (h0 : 0 <= i) (h1 : i < b.length) : GI C A (.bytes b) (.int i) (.int (b.getD i.toNat 0).toNat) := fun q s v u G r1 r2 => by
 refine E11 (de_bytes r1) ?_; rintro t rfl
 refine E11 (de_int r2) ?_; rintro t' rfl
 exact ⟨"bytes", _, FB.slot_bytes_getitem.lookup, typeIs_bytes _ _ _, fun k => getItem_bytes (l := b) (by lia) h0 h1 (k _ _ tok1 rp_int)⟩
theorem gi_bytes_last {b : List UInt8} (hfit : b.length <= 1000000) (hne : b ≠ []) : GI C A (.bytes b) (.int (-1)) (.int (b.getD (b.length - 1) 0).toNat) := fun q s v u G r1 r2 => by
 refine E11 (de_bytes r1) ?_; rintro t rfl
 refine E11 (de_int r2) ?_; rintro t' rfl
 have hpos : 0 < b.length := List.length_pos_iff.mpr hne
 refine ⟨"bytes", _, FB.slot_bytes_getitem.lookup, typeIs_bytes _ _ _, fun k => ?_⟩
 refine getItem_gives (typeIs_bytes s _ t) (by decide) FB.slot_bytes_getitem FB.entry_bytes_getitem (FB.args_bytes_getitem_2 _ _) (gives_bytes_getitem _ (-1) t t' (b.getD (b.length - 1) 0) ?_ ?_) (k _ _ tok1 rp_int)
 ·decide
 ·have e : seqIndex? (-1) (⟨b⟩ : Array UInt8).size = some (b.length - 1) := by
   have h2 : 0 <= -1 + (b.length : Int) := by lia
   have h3 : -1 + (b.length : Int) < b.length := by lia
   have h4 : (-1 + (b.length : Int)).toNat = b.length - 1 := by lia
   simp [seqIndex?, h2, h3, h4]
  rw [e]
  have hl : b.length - 1 < b.length := by omega
  simp [hl]
noncomputable def EO (c : Ac) (Z U : Env1) (e : Option Expr) (i : Option Int) : Prop := ∀ q s, St c q Z U s -> ∀ (Q : VP) (E : VP), (∀ v s', Ev c.C No No s s' -> IsPart v i -> Q v s') -> wpAny (model c.C.prog c.C.w) c.A (evalPart e c.env) Q E s
theorem eo_none : EO c Z U none none := fun q s S Q E k => wP (k _ s .refl .none)
theorem eo_int {e : Expr} {i : Int} (h : EV c Z U e (.int i)) : EO c Z U (some e) (some i) := fun q s S Q E k => h q s S fun v s1 ew rB => by
 refine E11 (de_int rB) ?_; rintro t rfl
 exact k _ _ ew (.int i t)
noncomputable def GS (C : Cx) (A : Around) (x : AV) (lo hi : Option Int) (z : AV) : Prop := ∀ q s v a l u, Gd C q s -> Rp C q s.heap x v -> s.heap.IsSliceOf a l u .none -> IsPart l lo -> IsPart u hi -> ∃ T id, typeLookup (.type T) "__getitem__" = pure (some (.builtin id)) /\ s.TypeIs v T /\ Gv C A q s (getItem v (.ref a)) z
theorem ev_slice {value : Expr} {lower upper : Option Expr} {p p' : Pos} {lo hi : Option Int} (hv : EV c Z U value x) (hl : EO c Z U lower lo) (hu : EO c Z U upper hi) (hg : GS c.C c.A x lo hi z) : EV c Z U (.Subscript value (.Slice lower upper none p') p) z := fun q s S Q E k =>
 Subscript_ (hv q s S fun v s1 ew rB => wpAny_Slice (hl q s1 (S.ev ew) _ _ fun l s2 eD il => hu q s2 ((S.ev ew).ev eD) _ _ fun u s3 eH iu => wP (by
  have eJ : Ev c.C No No s3 { s3 with heap := s3.heap.push { cls := .type "slice", data := .fields #[l, u, .none] } } := .keep fun _ _ e => gP _ e
  have S3 := ((S.ev ew).ev eD).ev eH
  have rJ := ((rB.ev eD (S.ev ew).base).ev eH ((S.ev ew).ev eD).base).ev eJ S3.base
  refine E23 (hg q _ v _ l u (S3.ev eJ).gd rJ (Heap.IsSliceOf.new _ _ _ _) il iu) fun T id h1 hT hgv => ?_
  exact tailG ⟨T, id, h1, hT, hgv fun w s5 e5 r5 => k w s5 ((((ew.tr eD).tr eH).tr eJ).tr e5) r5⟩ ⟨_, rfl⟩)))
theorem gs_bytes {b : List UInt8} {lo hi : Option Int} (hfit : b.length <= 1000000) : GS C A (.bytes b) lo hi (.bytes ((b.drop (lo.elim 0 (clipAt b.length))).take (hi.elim b.length (clipAt b.length) - lo.elim 0 (clipAt b.length)))) := fun q s v a l u G r hs il iu => by
 refine E11 (de_bytes r) ?_; rintro t rfl
 refine ⟨"bytes", _, FB.slot_bytes_getitem.lookup, typeIs_bytes _ _ _, fun k => ?_⟩
 refine getItem_meets (typeIs_bytes _ _ _) (by decide) FB.slot_bytes_getitem FB.entry_bytes_getitem (FB.args_bytes_getitem_2 _ _) (KBc.meets_slice2 ⟨b⟩ t a il iu) ⟨hs, ?_, fun t' n => ?_⟩
 ·have := KBc.size_picked_le ⟨b⟩ lo hi
  rw [sizeLine_eq]
  have h2 : (⟨b⟩ : Array UInt8).size = b.length := rfl
  lia
 ·have e := KBc.picked_eq ⟨b⟩ lo hi
  rw [e]
  exact k _ _ toks rp_bytes
theorem gs_tup {xs : List AV} {n : Nat} (h1 : 1 <= n) (hn : n <= xs.length) (hz : xs.length <= 1000) : GS C A (.tup xs) (some (n : Int)) none (.tup (xs.drop n)) := fun q s v a l u G r hs il iu => by
 refine E23 (de_tup r) ?_; rintro b vs rfl ht rl
 cases iu
 cases il with | int i t =>
 have hlen := rl.length
 refine ⟨"tuple", _, slot_tuple_getitem.lookup, ht.typeIs, fun k => ?_⟩
 refine getItem_tuple_from ht hs h1 (by show n <= vs.length; lia) ?_ (by rw [sizeLine_eq]; show vs.length <= _; lia)
 exact newTup G.base (rl.drop n) _ k
theorem pick_eq (b : Array Value) (lo hi : Option Int) :
  slicePick b lo hi none = ((b.toList.drop (lo.elim 0 (clipAt b.size))).take (hi.elim b.size (clipAt b.size) - lo.elim 0 (clipAt b.size))).toArray := by
 unfold slicePick
 rw [sliceBounds_plain]
 simp only [sliceRange_one, pick_run]
theorem gs_lst {xs : List AV} {lo hi : Option Int} (hz : xs.length <= 1000000) : GS C A (.lst xs) lo hi (.lst ((xs.drop (lo.elim 0 (clipAt xs.length))).take (hi.elim xs.length (clipAt xs.length) - lo.elim 0 (clipAt xs.length)))) := fun q s v a l u G r hs il iu => by
 refine E24 (de_lst r) ?_; rintro b vs rfl _ hl rl
 have hlen := rl.length
 refine ⟨"list", _, slot_list_getitem.lookup, hl.typeIs, fun k => ?_⟩
 refine wpAny_getItem_list_slice hl hs il iu .none (by simp) ?_ (by rw [sizeLine_eq]; show vs.length <= _; lia)
 rw [pick_eq]
 have hsz : (⟨vs⟩ : Array Value).size = xs.length := hlen
 rw [hsz]
 exact newLst G ((rl.drop _).take _) _ k
end
section
variable {c : Ac} {Z U : Env1} {C : Cx} {A : Around} {x y z : AV}
theorem any_contains {α : Type} [BEq α] [LawfulBEq α] [DecidableEq α] (l : List α) (b : α) : l.any (fun y => decide (y = b)) = l.contains b := by
 induction l with
 | nil => rfl
 | cons a r ih =>
  rw [List.any_cons, ih, List.contains_cons]
  by_cases e : a = b
  ·subst e; simp
  ·have e' : ¬ b = a := fun z => e z.symm
   simp [e, e']
noncomputable def eB (b : List UInt8) : Value -> Bool
 | .bytes ⟨a⟩ _ => decide (a = b)
 | _ => false
noncomputable def eI (b : Int) : Value -> Bool
 | .int a _ => decide (a = b)
 | _ => false
theorem bytes_any {q : Addr -> Nat} {h : Heap} {b : List UInt8} : ∀ {l : List (List UInt8)} {vs : List Value}, RepL q h (l.map .bytes) vs -> vs.any (eB b) = l.contains b /\ ∀ y ∈ vs, ∃ a t, y = .bytes ⟨a⟩ t
 | [], [], _ => ⟨rfl, by simp⟩
 | [], _ :: _, r => by rw [List.map_nil, RepL] at r; exact r.elim
 | _ :: _, [], r => by rw [List.map_cons, RepL] at r; exact r.elim
 | a :: l, v :: vs, r => by
  rw [List.map_cons, RepL] at r
  refine E02 (bytes_any (b := b) r.2) fun h1 h2 => ?_
  have r1 := r.1
  rw [Rep] at r1
  refine E11 r1 ?_; clear r1; rintro t rfl
  refine ⟨?_, fun y hy => (List.mem_cons.mp hy).elim (fun e => ⟨a, t, e⟩) (h2 y)⟩
  rw [List.any_cons, h1, <- any_contains, <- any_contains, List.any_cons]
  rfl
theorem int_any {q : Addr -> Nat} {h : Heap} {b : Int} : ∀ {l : List Int} {vs : List Value}, RepL q h (l.map .int) vs -> vs.any (eI b) = l.contains b /\ ∀ y ∈ vs, ∃ a t, y = .int a t
 | [], [], _ => ⟨rfl, by simp⟩
 | [], _ :: _, r => by rw [List.map_nil, RepL] at r; exact r.elim
 | _ :: _, [], r => by rw [List.map_cons, RepL] at r; exact r.elim
 | a :: l, v :: vs, r => by
  rw [List.map_cons, RepL] at r
  refine E02 (int_any (b := b) r.2) fun h1 h2 => ?_
  have r1 := r.1
  rw [Rep] at r1
  refine E11 r1 ?_; clear r1; rintro t rfl
  refine ⟨?_, fun y hy => (List.mem_cons.mp hy).elim (fun e => ⟨a, t, e⟩) (h2 y)⟩
  rw [List.any_cons, h1, <- any_contains, <- any_contains, List.any_cons]
  rfl
theorem b_in {l : List (List UInt8)} {b : List UInt8} : Op2 C A (compareOp .In) (.bytes b) (.tup (l.map .bytes)) (.bool (l.contains b)) := fun q s v u G r1 r2 Q E k => by
 refine E11 (de_bytes r1) ?_; rintro t rfl
 refine E23 (de_tup r2) ?_; rintro a vs rfl ht rl
 refine E02 (bytes_any (b := b) rl) fun h1 h2 => ?_
 refine SeqAt.in_tupleAt (eB b) ht (fun y hy => ?_) ?_
 ·refine E21 (h2 y (by simpa using hy)) ?_; rintro a' t' rfl
  exact fun prog w E Q h => eqBool_bytes h
 ·have e : (⟨vs⟩ : Array Value).any (eB b) = l.contains b := by rw [<- h1]; simp
  rw [e]; exact k _ _ .refl rp_bool
theorem b_notIn {l : List (List UInt8)} {b : List UInt8} : Op2 C A (compareOp .NotIn) (.bytes b) (.tup (l.map .bytes)) (.bool (!l.contains b)) := fun q s v u G r1 r2 Q E k => by
 refine E11 (de_bytes r1) ?_; rintro t rfl
 refine E23 (de_tup r2) ?_; rintro a vs rfl ht rl
 refine E02 (bytes_any (b := b) rl) fun h1 h2 => ?_
 refine SeqAt.notIn_tupleAt (eB b) ht (fun y hy => ?_) ?_
 ·refine E21 (h2 y (by simpa using hy)) ?_; rintro a' t' rfl
  exact fun prog w E Q h => eqBool_bytes h
 ·have e : (⟨vs⟩ : Array Value).any (eB b) = l.contains b := by rw [<- h1]; simp
  rw [e]; exact k _ _ .refl rp_bool
theorem i_in {l : List Int} {b : Int} : Op2 C A (compareOp .In) (.int b) (.tup (l.map .int)) (.bool (l.contains b)) := fun q s v u G r1 r2 Q E k => by
 refine E11 (de_int r1) ?_; rintro t rfl
 refine E23 (de_tup r2) ?_; rintro a vs rfl ht rl
 refine E02 (int_any (b := b) rl) fun h1 h2 => ?_
 refine SeqAt.in_tupleAt (eI b) ht (fun y hy => ?_) ?_
 ·refine E21 (h2 y (by simpa using hy)) ?_; rintro a' t' rfl
  have := SeqAt.EqAt.int_int (A := A.in1) (s := s) a' t' b t
  have e : (a' == b) = eI b (.int a' t') := by show (a' == b) = decide (a' = b); by_cases z : a' = b <;> simp [z]
  rw [e] at this; exact this
 ·have e : (⟨vs⟩ : Array Value).any (eI b) = l.contains b := by rw [<- h1]; simp
  rw [e]; exact k _ _ .refl rp_bool
theorem b_inSet {S : List (List UInt8)} {b : List UInt8} : Op2 C A (compareOp .In) (.bytes b) (.set S) (.bool (S.contains b)) := fun q s v u G r1 r2 Q E k => by
 refine E11 (de_bytes r1) ?_; rintro t rfl
 refine E13 r2 ?_; clear r2; rintro a rfl _ hs
 exact wpAny_inSet_of (byK_is b t) rfl hs (k _ _ tok1 rp_bool)
theorem b_inVset {S : List (List UInt8)} {b : List UInt8} : Op2 C A (compareOp .In) (.bytes b) (.vset S) (.bool (S.contains b)) := fun q s v u G r1 r2 Q E k => by
 refine E11 (de_bytes r1) ?_; rintro t rfl
 refine E13 r2 ?_; clear r2; rintro a rfl _ hs
 exact wpAny_inSet_of (byK_is b t) rfl hs (k _ _ tok1 rp_bool)
theorem b_notInVset {S : List (List UInt8)} {b : List UInt8} : Op2 C A (compareOp .NotIn) (.bytes b) (.vset S) (.bool (!S.contains b)) := fun q s v u G r1 r2 Q E k => by
 refine E11 (de_bytes r1) ?_; rintro t rfl
 refine E13 r2 ?_; clear r2; rintro a rfl _ hs
 exact wpAny_notInSet_of (byK_is b t) rfl hs (k _ _ tok1 rp_bool)
theorem wpAny_isNotNone' {M : Model} {A : Around} {E : VP} {s : Shared} {v : Value} {Q : VP} (h : Q (.bool (!(v == .none))) s) : wpAny M A (compareOp .IsNot v .none) Q E s := by
 first | exact PySem.R3.isNot_none h | exact PySem.isNot_none h | exact PySem.P.isNot_none h | exact PySem.V.isNot_none h
theorem v_isNot (hx : ∀ q h v, Rp C q h x v -> (v == Value.none) = false) : Op2 C A (compareOp .IsNot) x .none (.bool true) := fun q s v u G r1 r2 Q E k => by
 obtain rfl := de_none r2
 have e := hx q s.heap v r1
 refine wpAny_isNotNone' ?_
 rw [e]
 exact k _ _ .refl rp_bool
theorem n_isNot : Op2 C A (compareOp .IsNot) .none .none (.bool false) := fun q s v u G r1 r2 Q E k => by
 obtain rfl := de_none r1
 obtain rfl := de_none r2
 exact wpAny_isNotNone' (k _ _ .refl rp_bool)
theorem sub_bytes_none : isSubtype (.type "bytes") (.type "NoneType") = pure false := by rw [isSubtype_type]; kernel_rfl
theorem slot_bytes_eq_refl : Slot "bytes" (cmpInfo .Eq).2.2 "bytes.__eq__" :=
 .of (owner := "bytes") (n := "__eq__") (by rw [typeLookup_type, builtinLookup_eq_fast]; kernel_rfl) (by decide +kernel) (by decide +kernel) (by decide +kernel)
  (by first | exact .inl (by decide +kernel) | exact .inr (by decide +kernel)) (by rw [isSubtype_type]; kernel_rfl)
theorem gives_none_eq (b : Array UInt8) (u : Tok) : Gives (Builtin.«NoneType.__eq__» ⟨[.none, .bytes b u], []⟩) (.val .notImplemented) := by
 refine .of_wp fun M A E s Q hq => ?_
 wp_walk
 exact ⟨_, rfl, hq⟩
theorem gives_bytes_eq_none (b : Array UInt8) (u : Tok) : Gives (Builtin.«bytes.__eq__» ⟨[.bytes b u, .none], []⟩) (.val .notImplemented) := by
 refine .of_wp fun M A E s Q hq => ?_
 show wpAny M A (isInstance .none (.type "bytes") >>= fun r => _) _ E s
 refine wB (wpAny_isInstance (T := "NoneType") (b := false) rfl (by rw [isSubtype_type]; kernel_rfl) ?_)
 show wpAny M A (rule _ >>= fun _ => ret .notImplemented) _ E s
 exact wB (wpAny_rule (wP ⟨_, rfl, hq⟩))
theorem n_eq {b : List UInt8} : Op2 C A (compareOp .Eq) .none (.bytes b) (.bool false) := fun q s v u G r1 r2 Q E k => by
 obtain rfl := de_none r1
 refine E11 (de_bytes r2) ?_; rintro t rfl
 exact SeqAt.rc_eq_decline_or (k := false) rfl (typeIs_bytes s ⟨b⟩ t) (by decide) sub_bytes_none F.slot_NoneType_eq slot_bytes_eq_refl
  (fun _ hq => call_gives F.slot_NoneType_eq rfl F.entry_NoneType_eq (F.args_NoneType_eq_2 _ _) (gives_none_eq ⟨b⟩ t) hq)
  (fun _ hq => call_gives slot_bytes_eq_refl (typeIs_bytes s ⟨b⟩ t) FB.entry_bytes_eq (FB.args_bytes_eq_2 _ _) (gives_bytes_eq_none ⟨b⟩ t) hq)
  (fun _ hq => wpAny_of_eq (rfl : isSame .none (.bytes ⟨b⟩ t) = pure false) hq) (.inl rfl) (k _ _ .refl rp_bool)
theorem ln_ne {xs : List AV} (hu : A.units + 30 < cLine) : Op2 C A (compareOp .NotEq) .none (.lst xs) (.bool true) := fun q s v u G r1 r2 Q E k => by
 obtain rfl := de_none r1
 refine E24 (de_lst r2) ?_; rintro a vs rfl _ hl _
 exact SeqAt.RcNeAt.none_list hl (by omega) _ _ _ _ (k _ _ .refl rp_bool)
theorem nl_ne {xs : List AV} (hu : A.units + 30 < cLine) : Op2 C A (compareOp .NotEq) (.lst xs) .none (.bool true) := fun q s v u G r1 r2 Q E k => by
 obtain rfl := de_none r2
 refine E24 (de_lst r1) ?_; rintro a vs rfl _ hl _
 exact SeqAt.RcNeAt.list_none hl (by omega) _ _ _ _ (k _ _ .refl rp_bool)
theorem nn_ne : Op2 C A (compareOp .NotEq) .none .none (.bool false) := fun q s v u G r1 r2 Q E k => by
 obtain rfl := de_none r1
 obtain rfl := de_none r2
 exact SeqAt.RcNeAt.none_none _ _ _ _ (k _ _ .refl rp_bool)
noncomputable def EVA (c : Ac) (Z U : Env1) (es : List Expr) (xs : List AV) : Prop := ∀ p q s, St c q Z U s -> GvL c.C c.A q s (spliced (backTo p (starEach es c.env))) xs
theorem eva_nil : EVA c Z U [] [] := fun p q s S Q E k => wpAny_items_nil (k [] s .refl trivial)
theorem eva_cons {e : Expr} {rest : List Expr} {x : AV} {xs : List AV} (h : EV c Z U e x) (hr : EVA c Z U rest xs) (he : starEach (e :: rest) c.env = (false, eval e c.env) :: starEach rest c.env := by rfl) : EVA c Z U (e :: rest) (x :: xs) := fun p q s S Q E k =>
 wpAny_items_cons (h q s S fun v s1 ew rB => hr p q s1 (S.ev ew) fun vs s2 eD rD => k (v :: vs) s2 (ew.tr eD) ⟨rB.ev eD (S.ev ew).base, rD⟩) he
noncomputable def CB (C : Cx) (A : Around) (f : Value) (xs : List AV) (z : AV) : Prop := ∀ q s vs, Gd C q s -> RpL C q s.heap xs vs -> Gv C A q s (call f vs) z
theorem ev_callB {f e : Expr} {rest : List Expr} {p : Pos} {id : String} {xs : List AV} (hf : EV c Z U f (.raw (.builtin id))) (ha : EVA c Z U (e :: rest) xs) (hc : CB c.C c.A (.builtin id) xs z)
  (he : starEach (e :: rest) c.env = (false, eval e c.env) :: starEach rest c.env := by rfl) (hplain : (backTo p (starEach rest c.env)).any (·.1) = false := by rfl)
  (hcall : eval (.Call f (e :: rest) [] p) c.env = (do callWith p (<- eval f c.env) [] (backTo p (starEach (e :: rest) c.env)) (backToKw p (keywordEach [] c.env))) := by rfl) : EV c Z U (.Call f (e :: rest) [] p) z := fun q s S Q E k => by
 refine Call_ (hf q s S fun v s1 ew rB => ?_) hcall
 obtain rfl : v = .builtin id := rB
 exact callWith_builtin1 (ha p q s1 (S.ev ew) fun vs s2 eD rD => hc q s2 vs ((S.ev ew).ev eD).gd rD fun w s3 eH rH => k w s3 ((ew.tr eD).tr eH) rH) he hplain
theorem ev_callT1 {f e : Expr} {rest : List Expr} {p : Pos} {T : String} {xs : List AV} (hf : EV c Z U f (.raw (.type T))) (ha : EVA c Z U (e :: rest) xs) (hc : CB c.C c.A (.type T) xs z)
  (he : starEach (e :: rest) c.env = (false, eval e c.env) :: starEach rest c.env := by rfl) (hplain : (backTo p (starEach rest c.env)).any (·.1) = false := by rfl)
  (hcall : eval (.Call f (e :: rest) [] p) c.env = (do callWith p (<- eval f c.env) [] (backTo p (starEach (e :: rest) c.env)) (backToKw p (keywordEach [] c.env))) := by rfl) : EV c Z U (.Call f (e :: rest) [] p) z := fun q s S Q E k => by
 refine Call_ (hf q s S fun v s1 ew rB => ?_) hcall
 obtain rfl : v = .type T := rB
 exact PyProof.Rows.callWith_type1 (ha p q s1 (S.ev ew) fun vs s2 eD rD => hc q s2 vs ((S.ev ew).ev eD).gd rD fun w s3 eH rH => k w s3 ((ew.tr eD).tr eH) rH) he hplain
theorem one {C : Cx} {q : Addr -> Nat} {h : Heap} {x : AV} {vs : List Value} (r : RpL C q h [x] vs) : ∃ v, vs = [v] /\ Rp C q h x v := by
 match vs, r with
 | [v], r => exact ⟨v, rfl, r.1⟩
 | v :: u :: _, r => exact r.2.elim
theorem two {C : Cx} {q : Addr -> Nat} {h : Heap} {x y : AV} {vs : List Value} (r : RpL C q h [x, y] vs) : ∃ v u, vs = [v, u] /\ Rp C q h x v /\ Rp C q h y u := by
 match vs, r with
 | [v, u], r => exact ⟨v, u, rfl, r.1, r.2.1⟩
 | [v], r => exact r.2.elim
 | v :: u :: _ :: _, r => exact r.2.2.elim
theorem c_len_bytes {b : List UInt8} (h : b.length <= 1000000) : CB C A (.builtin "len") [.bytes b] (.int b.length) := fun q s vs G r Q E k => by
 refine E12 (one r) ?_; rintro v rfl r'
 refine E11 (de_bytes r') ?_; rintro t rfl
 exact len_bytes (by show b.length <= _; lia) (k _ _ toks rp_int)
theorem c_len_lst {xs : List AV} (h : xs.length <= 1000000) : CB C A (.builtin "len") [.lst xs] (.int xs.length) := fun q s vs G r Q E k => by
 refine E12 (one r) ?_; rintro v rfl r'
 refine E24 (de_lst r') ?_; rintro a vs rfl _ hl rl
 have hlen := rl.length
 refine call_len_list hl (by show ((vs.length : Nat) : Int) < _; lia) (k _ _ toks ?_)
 have e : ((⟨vs⟩ : Array Value).size : Int) = xs.length := by show ((vs.length : Nat) : Int) = _; rw [hlen]
 rw [e]; exact rp_int
theorem c_isB {b : List UInt8} : CB C A (.builtin "isinstance") [.bytes b, .raw (.type "bytes")] (.bool true) := fun q s vs G r Q E k => by
 refine E23 (two r) ?_; rintro v u rfl r1 r2
 refine E11 (de_bytes r1) ?_; rintro t rfl
 obtain rfl : u = .type "bytes" := r2
 exact call_isinstance_yes (typeIs_bytes s _ t) (by show typeOf _ = _; simp only [typeOf]; kernel_rfl) F.sub_bytes_bytes (k _ _ .refl rp_bool)
end
section
set_option tactic.hygienic true
namespace B
theorem slot_lower : Slot "bytes" "lower" "bytes.lower" :=
 .of (owner := "bytes") (n := "lower") (by rw [typeLookup_type, builtinLookup_eq_fast]; kernel_rfl) (by decide +kernel) (by decide +kernel) (by decide +kernel)
  (by first | exact .inl (by decide +kernel) | exact .inr (by decide +kernel)) (by rw [isSubtype_type]; kernel_rfl)
theorem type_lower : typeOf (.builtin "bytes.lower") = pure (.type "method_descriptor") := by show builtinType _ = _; rw [builtinType_eq_fast]; kernel_rfl
theorem entry_lower : entryFor table "bytes.lower" = some Builtin.«bytes.lower» := entryFor_of_tree (by kernel_rfl)
theorem args_lower (a : Value) : argsOk "bytes.lower" ⟨[a], []⟩ := by
 unfold argsOk; rw [signature?_of (id := "bytes.lower") (n := ['r', 'e', 'w', 'o', 'l']) (o := ['s', 'e', 't', 'y', 'b']) (by kernel_rfl) FB.owner_bytes]; kernel_rfl
theorem slot_strip : Slot "bytes" "strip" "bytes.strip" :=
 .of (owner := "bytes") (n := "strip") (by rw [typeLookup_type, builtinLookup_eq_fast]; kernel_rfl) (by decide +kernel) (by decide +kernel) (by decide +kernel)
  (by first | exact .inl (by decide +kernel) | exact .inr (by decide +kernel)) (by rw [isSubtype_type]; kernel_rfl)
theorem type_strip : typeOf (.builtin "bytes.strip") = pure (.type "method_descriptor") := by show builtinType _ = _; rw [builtinType_eq_fast]; kernel_rfl
theorem entry_strip : entryFor table "bytes.strip" = some Builtin.«bytes.strip» := entryFor_of_tree (by kernel_rfl)
theorem args_strip (a : Value) : argsOk "bytes.strip" ⟨[a], []⟩ := by
 unfold argsOk; rw [signature?_of (id := "bytes.strip") (n := ['p', 'i', 'r', 't', 's']) (o := ['s', 'e', 't', 'y', 'b']) (by kernel_rfl) FB.owner_bytes]; kernel_rfl
theorem slot_split : Slot "bytes" "split" "bytes.split" :=
 .of (owner := "bytes") (n := "split") (by rw [typeLookup_type, builtinLookup_eq_fast]; kernel_rfl) (by decide +kernel) (by decide +kernel) (by decide +kernel)
  (by first | exact .inl (by decide +kernel) | exact .inr (by decide +kernel)) (by rw [isSubtype_type]; kernel_rfl)
theorem type_split : typeOf (.builtin "bytes.split") = pure (.type "method_descriptor") := by show builtinType _ = _; rw [builtinType_eq_fast]; kernel_rfl
theorem entry_split : entryFor table "bytes.split" = some Builtin.«bytes.split» := entryFor_of_tree (by kernel_rfl)
theorem args_split (a b : Value) : argsOk "bytes.split" ⟨[a, b], []⟩ := by
 unfold argsOk; rw [signature?_of (id := "bytes.split") (n := ['t', 'i', 'l', 'p', 's']) (o := ['s', 'e', 't', 'y', 'b']) (by kernel_rfl) FB.owner_bytes]; kernel_rfl
theorem slot_find : Slot "bytes" "find" "bytes.find" :=
 .of (owner := "bytes") (n := "find") (by rw [typeLookup_type, builtinLookup_eq_fast]; kernel_rfl) (by decide +kernel) (by decide +kernel) (by decide +kernel)
  (by first | exact .inl (by decide +kernel) | exact .inr (by decide +kernel)) (by rw [isSubtype_type]; kernel_rfl)
theorem type_find : typeOf (.builtin "bytes.find") = pure (.type "method_descriptor") := by show builtinType _ = _; rw [builtinType_eq_fast]; kernel_rfl
theorem entry_find : entryFor table "bytes.find" = some Builtin.«bytes.find» := entryFor_of_tree (by kernel_rfl)
theorem args_find (a b c : Value) : argsOk "bytes.find" ⟨[a, b, c], []⟩ := by
 unfold argsOk; rw [signature?_of (id := "bytes.find") (n := ['d', 'n', 'i', 'f']) (o := ['s', 'e', 't', 'y', 'b']) (by kernel_rfl) FB.owner_bytes]; kernel_rfl
theorem slot_join : Slot "bytes" "join" "bytes.join" :=
 .of (owner := "bytes") (n := "join") (by rw [typeLookup_type, builtinLookup_eq_fast]; kernel_rfl) (by decide +kernel) (by decide +kernel) (by decide +kernel)
  (by first | exact .inl (by decide +kernel) | exact .inr (by decide +kernel)) (by rw [isSubtype_type]; kernel_rfl)
theorem type_join : typeOf (.builtin "bytes.join") = pure (.type "method_descriptor") := by show builtinType _ = _; rw [builtinType_eq_fast]; kernel_rfl
theorem entry_join : entryFor table "bytes.join" = some Builtin.«bytes.join» := entryFor_of_tree (by kernel_rfl)
theorem args_join (a b : Value) : argsOk "bytes.join" ⟨[a, b], []⟩ := by
 unfold argsOk; rw [signature?_of (id := "bytes.join") (n := ['n', 'i', 'o', 'j']) (o := ['s', 'e', 't', 'y', 'b']) (by kernel_rfl) FB.owner_bytes]; kernel_rfl
end B
section
variable {c : Ac} {Z U : Env1} {C : Cx} {A : Around} {x y z : AV}
open Builtin
theorem gives_lower (b : Array UInt8) (t : Tok) : Gives («bytes.lower» ⟨[.bytes b t], []⟩) (.bytes (b.toList.map Bytes.toLower).toArray) := by
 refine .of_wp fun M A E s Q hq => ?_
 show wpAny M A (mkBytes (b.toList.map Bytes.toLower).toArray >>= fun r => ret r) _ E s
 exact wB (wpAny_mkBytes (wP ⟨_, rfl, hq.2⟩) hq.1)
theorem gives_strip (b : Array UInt8) (t : Tok) : Gives («bytes.strip» ⟨[.bytes b t], []⟩) (if (((b.toList.dropWhile Bytes.isSpace).reverse.dropWhile Bytes.isSpace).reverse).length == b.size then .val (.bytes b t) else .bytes (((b.toList.dropWhile Bytes.isSpace).reverse.dropWhile Bytes.isSpace).reverse).toArray) := by
 refine .of_wp fun M A E s Q hq => ?_
 show wpAny M A (if (((b.toList.dropWhile Bytes.isSpace).reverse.dropWhile Bytes.isSpace).reverse.length == b.size) = true then _ else _) _ E s
 split
 ·rename_i h
  rw [if_pos h] at hq
  refine wB (wpAny_rule ?_)
  refine wB (m := Bytes.Kind.same .bytes (.bytes b t)) ?_
  show wpAny M A (typeOf (.bytes b t) >>= fun r => _) _ E s
  exact wB (wpAny_typeOf (typeIs_bytes s b t) (wP (wP ⟨_, rfl, hq⟩)))
 ·rename_i h
  rw [if_neg h] at hq
  exact wB (wpAny_mkBytes (wP ⟨_, rfl, hq.2⟩) hq.1)
theorem rplC {q : Addr -> Nat} {h : Heap} {x : AV} {xs : List AV} {v : Value} {vs : List Value} (r : Rp C q h x v) (rs : RpL C q h xs vs) : RpL C q h (x :: xs) (v :: vs) := ⟨r, rs⟩
theorem rplN {q : Addr -> Nat} {h : Heap} : RpL C q h [] [] := trivial
theorem ev_meth0 {o : Expr} {name : Str} {id : String} {apos p : Pos} {b : List UInt8} (ho : EV c Z U o (.bytes b)) (slot : Slot "bytes" name id) (ty : typeOf (.builtin id) = pure (.type "method_descriptor")) (hc : CB c.C c.A (.builtin id) [.bytes b] z)
  (hbase : attributeBase o name c.env (eval o c.env) = eval o c.env := by rfl) (hline : (apos.endLine == p.line) = true := by rfl) : EV c Z U (.Call (.Attribute o name apos) [] [] p) z := fun q s S Q E k => by
 refine wpAny_Call_method hbase (by rfl) hline FB.plainAttrs_bytes slot ty (ho q s S fun v s1 ew rB => ?_)
 refine E11 (de_bytes rB) ?_; rintro t rfl
 refine ⟨typeIs_bytes s1 _ t, fun a e => (nomatch e), ?_⟩
 exact callWith_method0 (hc q s1 _ (S.ev ew).gd (rplC rB rplN) fun w s2 eD rD => k w s2 (ew.tr eD) rD)
theorem ev_meth {o e : Expr} {rest : List Expr} {name : Str} {id : String} {apos p : Pos} {b : List UInt8} {xs : List AV} (ho : EV c Z U o (.bytes b)) (ha : EVA c Z U (e :: rest) xs) (slot : Slot "bytes" name id) (ty : typeOf (.builtin id) = pure (.type "method_descriptor")) (hc : CB c.C c.A (.builtin id) (.bytes b :: xs) z)
  (hfew : ((backTo p (starEach (e :: rest) c.env)).all (fun x => !x.1) && (backToKw p (keywordEach [] c.env)).all (fun x => x.1.isSome)
   && decide ((e :: rest).length + ([] : List Keyword).length + (if ([] : List Keyword).isEmpty then 0 else 1) < 30)) = true := by rfl)
  (he : starEach (e :: rest) c.env = (false, eval e c.env) :: starEach rest c.env := by rfl) (hplain : (backTo p (starEach rest c.env)).any (·.1) = false := by rfl)
  (hbase : attributeBase o name c.env (eval o c.env) = eval o c.env := by rfl) (hline : (apos.endLine == p.line) = true := by rfl) : EV c Z U (.Call (.Attribute o name apos) (e :: rest) [] p) z := fun q s S Q E k => by
 refine wpAny_Call_method hbase hfew hline FB.plainAttrs_bytes slot ty (ho q s S fun v s1 ew rB => ?_)
 refine E11 (de_bytes rB) ?_; rintro t rfl
 refine ⟨typeIs_bytes s1 _ t, fun a e => (nomatch e), ?_⟩
 exact callWith_method1 (ha p q s1 (S.ev ew) fun vs s2 eD rD => hc q s2 _ ((S.ev ew).ev eD).gd (rplC (Rp.ev eD (S.ev ew).base rB) rD) fun w s3 eH rH => k w s3 ((ew.tr eD).tr eH) rH) he hplain
theorem c_lower {b : List UInt8} (h : b.length <= 1000000) : CB C A (.builtin "bytes.lower") [.bytes b] (.bytes (b.map Bytes.toLower)) := fun q s vs G r Q E k => by
 refine E12 (one r) ?_; rintro v rfl r'
 refine E11 (de_bytes r') ?_; rintro t rfl
 refine call_gives B.slot_lower (typeIs_bytes s _ t) B.entry_lower (B.args_lower _) (gives_lower ⟨b⟩ t) ⟨?_, k _ _ tok1 rp_bytes⟩
 show (b.map Bytes.toLower).length <= _
 rw [List.length_map, sizeLine_eq]; lia
noncomputable def stripB (b : List UInt8) : List UInt8 := ((b.dropWhile Bytes.isSpace).reverse.dropWhile Bytes.isSpace).reverse
theorem stripB_sub (b : List UInt8) : (stripB b).length <= b.length /\ ((stripB b).length = b.length -> stripB b = b) := by
 unfold stripB
 have h1 : (b.dropWhile Bytes.isSpace).length <= b.length := (List.dropWhile_sublist _).length_le
 have h2 : ((b.dropWhile Bytes.isSpace).reverse.dropWhile Bytes.isSpace).length <= (b.dropWhile Bytes.isSpace).reverse.length := (List.dropWhile_sublist _).length_le
 simp only [List.length_reverse] at h2 ⊢
 refine ⟨by lia, fun h => ?_⟩
 have e1 : b.dropWhile Bytes.isSpace = b := (List.dropWhile_sublist _).eq_of_length (by lia)
 have e2 : (b.dropWhile Bytes.isSpace).reverse.dropWhile Bytes.isSpace = (b.dropWhile Bytes.isSpace).reverse := (List.dropWhile_sublist _).eq_of_length (by simp; lia)
 rw [e2, e1, List.reverse_reverse]
theorem c_strip {b : List UInt8} (h : b.length <= 1000000) : CB C A (.builtin "bytes.strip") [.bytes b] (.bytes (stripB b)) := fun q s vs G r Q E k => by
 refine E12 (one r) ?_; rintro v rfl r'
 refine E11 (de_bytes r') ?_; rintro t rfl
 refine E02 (stripB_sub b) fun h1 h2 => ?_
 refine call_gives B.slot_strip (typeIs_bytes s _ t) B.entry_strip (B.args_strip _) (gives_strip ⟨b⟩ t) ?_
 by_cases hh : (stripB b).length = b.length
 ·have e : ((((⟨b⟩ : Array UInt8).toList.dropWhile Bytes.isSpace).reverse.dropWhile Bytes.isSpace).reverse.length == (⟨b⟩ : Array UInt8).size) = true := by simpa [stripB] using hh
  rw [if_pos e]
  rw [h2 hh] at k
  exact k _ _ .refl rp_bytes
 ·have e : ((((⟨b⟩ : Array UInt8).toList.dropWhile Bytes.isSpace).reverse.dropWhile Bytes.isSpace).reverse.length == (⟨b⟩ : Array UInt8).size) = false := by simpa [stripB] using hh
  rw [if_neg (by rw [e]; simp)]
  refine ⟨?_, k _ _ tok1 rp_bytes⟩
  show (stripB b).length <= _
  rw [sizeLine_eq]; lia
noncomputable def findR (b sub : Array UInt8) (i : Int) : Int :=
 match (if (Bytes.window b.size (some i) none).2 - (Bytes.window b.size (some i) none).1 < sub.size then none else some ((Bytes.window b.size (some i) none).1.toNat, (Bytes.window b.size (some i) none).2.toNat)).bind fun (lo, hi) => Bytes.find? b sub lo hi with
 | some k => k
 | none => -1
theorem bound_int (i : Int) (w : Tok) : Bytes.bound? (some (.int i w)) = pure (some i) := by
 unfold Bytes.bound?
 have e : specialOf (.int i w) "__index__" = typeLookup (.type "int") "__index__" := rfl
 simp only [e, F.slot_int_index.lookup, pure_bind]
 rfl
theorem like_eq {id : String} {b : Array UInt8} {t : Tok} : Bytes.bytesLike id (.bytes b t) = pure b := by
 unfold Bytes.bytesLike
 rw [KBy.buffer_eq]
 rfl
theorem gives_find (b sub : Array UInt8) (i : Int) (t u w : Tok) : Gives («bytes.find» ⟨[.bytes b t, .bytes sub u, .int i w], []⟩) (.int (findR b sub i)) := by
 refine .of_wp fun M A E s Q hq => ?_
 unfold «bytes.find» Bytes.searchM Bytes.searchArgs
 refine wB (wB ?_)
 refine wpAny_of_eq (a := (.bytes b t, [.bytes sub u, .int i w])) rfl ?_
 dsimp only
 refine wB (wpAny_of_eq (a := some i) (bound_int i w) ?_)
 refine wB (wpAny_of_eq (a := none) rfl ?_)
 refine wB (wpAny_of_eq (KBy.buffer_eq (b := sub) (t := u)) ?_)
 refine wB (wP ?_)
 refine wB (wpAny_of_eq (a := b) rfl ?_)
 refine wP ?_
 unfold findR at hq
 dsimp only
 simp only [Bool.false_eq_true, if_false]
 split
 ·rename_i k hk
  rw [hk] at hq
  exact wB (wpAny_mkInt (wP ⟨_, rfl, hq⟩))
 ·rename_i hk
  rw [hk] at hq
  exact wB (wpAny_rule (wB (wpAny_mkInt (wP ⟨_, rfl, hq⟩))))
theorem mapNew {M : Model} {A : Around} {E : VP} : ∀ (l : List (Array UInt8)) {s : Shared} {Q : List Value -> Shared -> Prop}, (∀ b ∈ l, b.size <= 1000000) ->
  (∀ vs tk, RepL (fun _ => 1) s.heap (l.map fun b => .bytes b.toList) vs -> Q vs { s with toks := tk }) -> wpAny M A (l.mapM Bytes.Kind.bytes.new) Q E s
 | [], s, Q, _, k => by
  rw [List.mapM_nil]
  exact wP (k [] s.toks (by rw [List.map_nil, RepL]; trivial))
 | b :: l, s, Q, hz, k => by
  rw [List.mapM_cons]
  refine wB ?_
  show wpAny M A (mkBytes b) _ E s
  refine wpAny_mkBytes ?_ (by rw [sizeLine_eq]; have := hz b (List.mem_cons_self ..); lia)
  refine wB (mapNew l (fun x hx => hz x (mC _ hx)) fun vs tk r => wP (k _ tk ?_))
  rw [List.map_cons, RepL]
  refine ⟨?_, r⟩
  rw [Rep]
  exact ⟨_, rfl⟩
noncomputable def pieces (b sub : Array UInt8) : List (Array UInt8) := Bytes.between b sub.size ((Bytes.occurrences b sub 0 b.size).take (b.size + 1))
theorem gives_split (b sub : Array UInt8) (t u : Tok) (hs : sub.isEmpty = false) {s : Shared} {M : Model} {A : Around} {E : VP} {Q : Fin -> Shared -> Prop} (hz : ∀ x ∈ pieces b sub, x.size <= 1000000) (hn : (pieces b sub).length <= 1000000)
  (k : ∀ vs tk, RepL (fun _ => 1) s.heap ((pieces b sub).map fun b => .bytes b.toList) vs -> Q (.done (.ret (.ref s.heap.objs.size))) { s with toks := tk, heap := s.heap.push { cls := .type "list", data := .seq vs.toArray } }) : wpAny M A («bytes.split» ⟨[.bytes b t, .bytes sub u], []⟩) Q E s := by
 unfold «bytes.split» Bytes.splitM
 dsimp only
 refine wB (wpAny_of_eq (a := [some (.bytes sub u), none]) rfl ?_)
 dsimp only
 refine wB (wP ?_)
 refine wB (wpAny_of_eq (a := b) rfl ?_)
 refine wB (wpAny_of_eq like_eq ?_)
 rw [hs]
 simp only [Bool.false_eq_true, if_false]
 have hlim : (if (-1 : Int) < 0 then b.size + 1 else (-1 : Int).toNat) = b.size + 1 := if_pos (by decide)
 rw [hlim]
 split
 ·rename_i h
  have e : (Bytes.occurrences b sub 0 b.size).take (b.size + 1) = [] := List.isEmpty_iff.mp h
  have hp : pieces b sub = [b] := by
   unfold pieces; rw [e]
   simp [Bytes.between]
  refine wB (wpAny_rule ?_)
  refine wB (m := Bytes.Kind.same .bytes (.bytes b t)) ?_
  show wpAny M A (typeOf (.bytes b t) >>= fun r => _) _ E s
  refine wB (wpAny_typeOf (typeIs_bytes s b t) (wP ?_))
  refine wB (wpAny_newObj_type (wP ?_) (by size_fits))
  have := k [.bytes b t] s.toks (by rw [hp]; show RepL _ _ [.bytes b.toList] _; rw [RepL]; refine ⟨?_, by rw [RepL]; trivial⟩; rw [Rep]; exact ⟨t, rfl⟩)
  exact this
 ·refine wB (mapNew _ hz fun vs tk r => ?_)
  have hl := r.length
  rw [List.length_map] at hl
  refine wB (wpAny_newObj_type (wP (k vs tk r)) ?_)
  show vs.toArray.size <= sizeLine
  rw [sizeLine_eq]
  unfold pieces at hn
  simp
  lia
end
end
section
variable {c : Ac} {Z U : Env1} {C : Cx} {A : Around} {x y z : AV}
open Builtin
theorem take_eq {id : String} {b : Array UInt8} {t : Tok} : Bytes.takeBufferQuiet? id (.bytes b t) 0 = pure (some (b, none)) := by kernel_rfl
theorem letGoAll {M : Model} {A : Around} {E : VP} {s : Shared} {keep : List Value} {Q : Unit -> Shared -> Prop} (h : Q () s) : ∀ (l : List (Value × Option Value)), (∀ p ∈ l, p.2 = none) -> wpAny M A (Bytes.joinLetGo l keep) Q E s
 | [], _ => wP h
 | (x, w) :: rest, hn => by
  have : w = none := hn (x, w) (List.mem_cons_self ..)
  subst this
  unfold Bytes.joinLetGo
  dsimp only
  exact wB (wpAny_letGo (letGoAll h rest fun p hp => hn p (mC _ hp)))
theorem bytesL_at {h : Heap} {q : Addr -> Nat} {bs : List (List UInt8)} {vs : List Value} (r : RepL q h (bs.map .bytes) vs) (i : Nat) (hi : i < bs.length) : ∃ t, vs[i]? = some (.bytes ⟨bs[i]⟩ t) := by
 refine E12 (r.get i (.bytes bs[i]) (by simp [hi])) fun v hv rv => ?_
 rw [Rep] at rv
 refine E11 rv ?_; clear rv; rintro t rfl
 exact ⟨t, hv⟩
theorem foldl_len : ∀ (bs : List (List UInt8)) (n : Nat), bs.foldl (fun n b => n + b.length) n = n + (bs.map List.length).sum
 | [], n => by simp
 | b :: r, n => by
  rw [List.foldl_cons, foldl_len r, List.map_cons, List.sum_cons]; lia
theorem joined_aux (sep : Array UInt8) : ∀ (l : List (Array UInt8)) (k : Nat) (out : Array UInt8), ((l.zipIdx k).foldl (fun out (p : Array UInt8 × Nat) => (if p.2 > 0 then out ++ sep else out) ++ p.1) out).size = out.size + (l.map Array.size).sum + sep.size * (if k = 0 then l.length - 1 else l.length)
 | [], k, out => by simp
 | a :: r, k, out => by
  rw [List.zipIdx_cons, List.foldl_cons, joined_aux sep r (k + 1)]
  rw [if_neg (Nat.succ_ne_zero k), List.map_cons, List.sum_cons]
  by_cases h : k = 0
  ·subst h; simp; lia
  ·have h' : k > 0 := Nat.pos_of_ne_zero h
   simp only [h, h', if_true, if_false, Array.size_append, List.length_cons]
   rw [Nat.mul_add, Nat.mul_one]; lia
theorem joined_size (sep : Array UInt8) (l : List (Array UInt8)) : (Bytes.joined sep l).size = (l.map Array.size).sum + sep.size * (l.length - 1) := by
 have := joined_aux sep l 0 #[]
 simpa [Bytes.joined] using this
theorem join_run (sep : Array UInt8) (t : Tok) {a : Addr} {s : Shared} {q : Addr -> Nat} {bs : List (List UInt8)} {vs : List Value} (hl : s.heap.IsList a ⟨vs⟩) (r : RepL q s.heap (bs.map .bytes) vs) (hne : bs ≠ []) (hz : (bs.foldl (fun n b => n + b.length) (sep.size * (bs.length - 1))) <= 1000000)
  {M : Model} {A : Around} {E : VP} {Q : Fin -> Shared -> Prop} (k : ∀ t' tk, Q (.done (.ret (.bytes (Bytes.joined sep (bs.map fun b => ⟨b⟩)) t'))) { s with toks := tk }) : wpAny M A («bytes.join» ⟨[.bytes sep t, .ref a], []⟩) Q E s := by
 have hlen := r.length
 rw [List.length_map] at hlen
 obtain ⟨o, ho, hc, n, hd⟩ := id hl
 have T : s.TypeIs (.ref a) "list" := ⟨o, ho, hc⟩
 unfold «bytes.join» Bytes.joinM
 refine wB (wpAny_of_eq (a := (.bytes sep t, .ref a)) rfl ?_)
 show wpAny M A (Bytes.joinItems (.ref a) >>= fun seq => _) _ E s
 have jI : ∀ {Q' : VP}, Q' (.ref a) s -> wpAny M A (Bytes.joinItems (.ref a)) Q' E s := fun h => by
  unfold Bytes.joinItems
  refine wB (wpAny_typeOf T ?_)
  simp only [beq_self_eq_true, Bool.true_or, if_true]
  exact wP h
 refine wB (jI ?_)
 show wpAny M A (seqItems? (.ref a) >>= fun seq => _) _ E s
 refine wB (wpAny_seqItems ho hd ?_)
 cases bs with
 | nil => exact absurd rfl hne
 | cons bB rest => cases rest with
  | nil => cases vs with
   | nil => simp at hlen
   | cons v vs' => cases vs' with
    | cons => simp at hlen
    | nil =>
     refine E11 (bytesL_at r 0 (by simp)) fun t' ht => ?_
     have hv : v = .bytes ⟨bB⟩ t' := by simpa using ht
     subst hv
     show wpAny M A (typeOf (.bytes ⟨bB⟩ t') >>= fun r => _) _ E s
     refine wB (wpAny_typeOf (typeIs_bytes s _ t') ?_)
     refine wpEq (if_pos (by rfl)) ?_
     refine wB (wpAny_rule (wP ?_))
     have := k t' s.toks
     have e : Bytes.joined sep ([bB].map fun b => ⟨b⟩) = ⟨bB⟩ := by simp [Bytes.joined]
     rw [e] at this
     exact this
  | cons bD rest => cases vs with
   | nil => simp at hlen
   | cons vB vs' => cases vs' with
    | nil => simp at hlen
    | cons vD vs' =>
     refine wB ?_
     rw [Std.Legacy.Range.forIn_eq_forIn_range']
     have hsz : (⟨vB :: vD :: vs'⟩ : Array Value).size = (bB :: bD :: rest).length := hlen
     obtain ⟨bs, hB⟩ : ∃ x, x = bB :: bD :: rest := ⟨_, rfl⟩
     obtain ⟨vs, hV⟩ : ∃ x, x = vB :: vD :: vs' := ⟨_, rfl⟩
     rw [<- hB] at r k hz hsz
     rw [<- hV] at r hd hsz
     rw [<- hV]
     refine wpAny_forIn_list _
      (fun l (st : Array (Array UInt8) × List (Value × Option Value)) s' => ∃ i, s' = s /\ l = List.range' i (bs.length - i) /\ i <= bs.length /\ st.1.toList = (bs.take i).map (fun b => ⟨b⟩) /\ (∀ p ∈ st.2, p.2 = none /\ p.1.onHeap = false)) _ ?_ ?_ _ _ ⟨0, rfl, ?_, Nat.zero_le _, by simp, by simp⟩
     ·rintro j l ⟨parts, taken⟩ s' ⟨i, rfl, hr, hi, hp, ht⟩
      have hlt : i < bs.length := by
       rcases Nat.lt_or_ge i bs.length with h | h
       ·exact h
       ·rw [Nat.sub_eq_zero_of_le h] at hr; simp at hr
      have hr' : j = i /\ l = List.range' (i + 1) (bs.length - (i + 1)) := by
       have e : bs.length - i = (bs.length - (i + 1)) + 1 := by lia
       rw [e, List.range'_succ] at hr
       injection hr with h1 h2
       exact ⟨h1, h2⟩
      refine E02 hr' ?_; clear hr'; rintro rfl rfl
      refine E11 (bytesL_at r j hlt) fun t' hv => ?_
      refine wB (wpAny_seqItems ho hd ?_)
      have hnow : (⟨vs⟩ : Array Value).getD j Value.none = .bytes ⟨bs[j]⟩ t' := by
       simp [Array.getD_eq_getD_getElem?, hv]
      have hany : (taken.any fun p => p.1.onHeap) = false := by
       rw [List.any_eq_false]
       intro p hp'
       simp [(ht p hp').2]
      show wpAny M A (if (false || taken.any fun p => p.1.onHeap) = true then _ else _) _ E _
      rw [hany]
      refine wpEq (if_neg (by simp)) ?_
      rw [hnow]
      refine wB (wpAny_holding (wpAny_of_eq take_eq ?_))
      refine wB (wpAny_seqItems ho hd ?_)
      show wpAny M A (if ((⟨vs⟩ : Array Value).size != (⟨vs⟩ : Array Value).size) = true then _ else _) _ E _
      refine wpEq (if_neg (by simp)) ?_
      refine wP ⟨j + 1, rfl, rfl, hlt, ?_, fun p hp' => ?_⟩
      ·show (parts.push ⟨bs[j]⟩).toList = _
       have e : bs.take (j + 1) = bs.take j ++ [bs[j]] := by rw [List.take_succ, List.getElem?_eq_getElem hlt]; rfl
       rw [Array.toList_push, hp, e, List.map_append]
       rfl
      ·have hp'' : p ∈ taken ++ [(.bytes ⟨bs[j]⟩ t', none)] := hp'
       rcases List.mem_append.mp hp'' with h | h
       ·exact ht p h
       ·rw [List.mem_singleton] at h; subst h; exact ⟨rfl, rfl⟩
     ·rintro ⟨parts, taken⟩ s' ⟨i, rfl, hr, hi, hp, ht⟩
      have hil : i = bs.length := by
       have := congrArg List.length hr
       simp at this; lia
      subst hil
      rw [List.take_length] at hp
      refine wB (wpAny_of_eq (a := sep) rfl ?_)
      have hpa : parts = (bs.map fun b => (⟨b⟩ : Array UInt8)).toArray := by rw [<- hp]
      have hlong : Bytes.tooLong (parts.foldl (· + ·.size) (sep.size * (parts.size - 1))) = false := by
       refine KBy.tooLong_not ?_
       have e : parts.foldl (· + ·.size) (sep.size * (parts.size - 1)) = bs.foldl (fun n b => n + b.length) (sep.size * (bs.length - 1)) := by
        rw [hpa]; simp [List.foldl_map]
       rw [e]; lia
      show wpAny M A (if Bytes.tooLong (parts.foldl (· + ·.size) (sep.size * (parts.size - 1))) = true then _ else _) _ E _
      rw [hlong]
      refine wpEq (if_neg (by simp)) ?_
      refine wB ?_
      show wpAny M A (mkBytes (Bytes.joined sep parts.toList)) _ E _
      refine wpAny_mkBytes ?_ ?_
      ·refine wB (wpAny_holding (wpAny_point ?_))
       refine wB (letGoAll ?_ taken fun p hp' => (ht p hp').1)
       refine wP ?_
       rw [hp]
       exact k _ _
      ·have h1 := joined_size sep (bs.map fun b => (⟨b⟩ : Array UInt8))
       rw [hp, sizeLine_eq]
       have h2 := foldl_len bs (sep.size * (bs.length - 1))
       rw [h2] at hz
       have h3 : ((bs.map fun b => (⟨b⟩ : Array UInt8)).map Array.size) = bs.map List.length := by simp
       rw [h3, List.length_map] at h1
       lia
     ·simp [Std.Legacy.Range.size, hsz]
end
theorem StrS.up1 {C : Cx} {n m : Nat} (h : n <= m) {err : Bool} {K : Addr -> Prop} {it : Value} : ∀ {xs : List AV} {O : Addr -> Prop} {OG : Nat -> Prop} {s : Shared}, StrS C n err K it xs O OG s -> StrS C m err K it xs O OG s
 | [], _, _, _, x => ⟨x.1, fun s1 W G e ap A fl hr F Q E h1 h2 => x.2 s1 W G e ap A fl (hr.mono h) F Q E h1 h2⟩
 | _ :: _, _, _, _, x => ⟨x.1, fun s1 W G e ap A fl hr F Q E h1 => x.2 s1 W G e ap A fl (hr.mono h) F Q E fun v s2 O' OG' eD r hO hG hs => h1 v s2 O' OG' eD r hO hG (StrS.up1 h hs)⟩
theorem func_seg {prog : Program} {w : World} {A : Around} {body : List Stmt} {env : Env} {s : Shared} {P : End -> Shared -> Prop}
  (h : SegX (model prog w) A (.func body env) ((execs body env).wrap (fun f => .pure (.done (.ret (match f with | .ret v => v | _ => .none)))) (fun e => (leaving env e).wrap (fun _ => .raise e) .raise id id) id id) [] s P) :
  SegX (model prog w) A (.func body env) (denote table (.func body env)) [] s P := by
 show SegX _ A _ (.point [] fun _ => ((execs body env).onRaise (leaving env)) >>= _) [] s P
 refine s_cmd _ _ _ _ _ _ (m := point) (wpAny_point ?_)
 rw [Sem.onRaise_eq_wrap, Sem.bind_eq_wrap', Sem.wrap_wrap]
 rw [Sem.wrap_congr (execs body env) _ _ (K' := fun f => .pure (.done (.ret (match f with | .ret v => v | _ => .none))))
  (H' := fun e => (leaving env e).wrap (fun _ => .raise e) .raise id id) (fun f => by cases f <;> rfl)
  (fun e => by rw [Sem.bind_eq_wrap, Sem.wrap_wrap]; rfl)]
 exact h
theorem func_rsm {g : Gk} (ok : g.Ok) (hfin : g.fin = .ret .none) {body : List Stmt} {Z U : Env1} {its : List Src} {zs : List AV} (H : GX g Z U its body zs fun _ _ zs' => zs' = [] /\ g.err = false) :
  RC g (.func body g.env) [] (denote table (.func body g.env)) Z U its zs := by
 have ct : Cont g (.func body g.env) [] id := {
  ov := fun A fl hr hA => by
   refine ⟨?_, hr.1, ?_, ?_⟩
   ·show pushEnvs (Code.func body g.env).envs (pushEnvs (envsOf []) A.frames) = _
    rw [hA]; rfl
   ·have := hr.2.1
    show A.depth + frameCount [] + (Code.func body g.env).weight + 3 * g.n + 20 <= 1000
    have e : (Code.func body g.env).weight = 1 := rfl
    rw [e]; simp [frameCount]; lia
   ·have := hr.2.2
    show A.units + unitsOf [] + (Code.func body g.env).cUnits + 30 * g.n + 300 <= 9900
    have e : (Code.func body g.env).cUnits = 3 := rfl
    rw [e]; simp [unitsOf]; lia
  sp := rfl
  gu := rfl
  gd := rfl }
 have core := H (.func body g.env) [] (fun f => .pure (.done (.ret (match f with | .ret v => v | _ => .none)))) (fun e => (leaving g.env e).wrap (fun _ => .raise e) .raise id id) id id ct
  (fun U' its' zs' ⟨h1, h2⟩ => by
   subst h1
   intro A fl c qA q OG0 OG s0 s hr F hA hfl G
   refine s_end _ _ _ _ _ s (.ok (.ret .none)) _ rfl ⟨G.since, .inl ⟨h2, by rw [hfin]⟩⟩)
  (fun A fl qA OG0 s0 s x hr F F' e he X => by
   refine g_wrap ?_
   have w : Wr g.C (Nw s0) s := ⟨fun a h => e.gone h, fun a h => F.base.gone h⟩
   refine leaving_any F' w X fun s1 ew X1 => ?_
   refine s_end _ _ _ _ _ s1 (.error x) _ rfl ⟨e.trans ew (fun a h => .inr h) (fun _ h => h.elim), .inr ⟨he, x, rfl, X1⟩⟩)
 intro A fl c qA q OG0 OG s0 s hr F hA hfl G
 exact func_seg (core A fl c qA q OG0 OG s0 s hr F hA hfl G)
theorem itb_gen (hc : C.Ok) {n : Nat} {err : Bool} {K O : Addr -> Prop} {OG : Nat -> Prop} {a : Addr} {g : Nat} {xs : List AV} {s : Shared} (hI : s.heap.IsGen a g) (hn : C.h₁.get? a = none) (hO : O a) (h : StrS C n err K (.ref a) xs O OG s) : Itb C n err K (.ref a) xs O OG s :=
 ⟨h.owns, fun s1 W G e ap A fl hr F Q E k => wpAny_pyIter_gen (isGen_ev hc hI hn e fun z => (ap.o a z).1 hO) (k _ s1 O .refl (fun _ h => .inl h) (h.ev e ap) fun s2 W' G' e' ap' A Q E hQ => wpAny_pyIter_gen (isGen_ev hc (isGen_ev hc hI hn e fun z => (ap.o a z).1 hO) hn e' fun z => (ap'.o a z).1 hO) hQ)⟩
theorem itb_list {C : Cx} (hc : C.Ok) {n : Nat} {l : Addr} {vs : List Value} {xs : List AV} {s : Shared} {OG : Nat -> Prop} (B : Base C s.heap) (hl : s.heap.IsList l ⟨vs⟩) (rl : R0L s.heap xs vs) : Itb C n false (· = l) (.ref l) xs No No s := by
 obtain ⟨ol, hol, hcl, m, hd⟩ := id hl
 refine ⟨⟨fun _ h => h.elim, fun a h => by subst h; exact ⟨ol, hol, .inl hcl⟩, fun _ h => h.elim⟩, fun s1 W G e ap A fl hr F Q E k => ?_⟩
 have hlB : s1.heap.IsList l ⟨vs⟩ := by
  refine E12 (e.kp l ol hol (fun h => (ap.o l h).2 rfl) (notT_cls B hol (by rw [hcl]; nofun))) fun o' ho' z => ?_
  exact ⟨o', ho', z.1.trans hcl, m, z.2.2.1.trans hd⟩
 refine wpAny_pyIter_list hlB ?_
 have eD : Ev C No No s1 { s1 with heap := s1.heap.push { cls := .type "list_iterator", data := .fields #[.ref l, .int 0 0] } } := .keep fun _ _ e => gP _ e
 refine E13 (id hlB) fun ol1 hol1 hcl1 _ => ?_
 have hne : l ≠ s1.heap.objs.size := Nat.ne_of_lt (Heap.lt_size hol1)
 have hit := Heap.get?_push_size s1.heap (o := { cls := .type "list_iterator", data := .fields #[.ref l, .int 0 0] }) rfl
 have hnew := F.base.gone (get_fresh s1.heap)
 refine k _ _ (· = s1.heap.objs.size) eD (fun a h => .inr (by subst h; exact get_fresh _)) ?_ fun s3 W' G' e' ap' A Q E hQ => ?_
 rotate_left
 ·refine E12 (e'.kp _ _ hit (fun h => (ap'.o _ h).1 rfl) (Base.noT hc hnew)) fun o' ho' z => ?_
  exact wpAny_pyIter_listiter (i := 0) (l := l) ⟨o', ho', z.1, z.2.2.1⟩ hQ
 refine list_str hc (vs := vs) xs 0 _ (eD.bs F.base) ⟨_, hit, rfl, rfl⟩ (hlB.push _) hnew rfl (.inl rfl) hne (by simpa using (rl.ev e B ap.t).ev eD F.base (fun _ _ h => h.elim)) ⟨fun a h => ?_, fun a h => ?_, fun _ h => h.elim⟩
 ·subst h; exact ⟨hnew, _, hit, by simp, by simp⟩
 ·subst h; exact ⟨ol1, gP _ hol1, .inl hcl1⟩
theorem genKeep {s : Shared} {C : Cx} {h' : Heap} {tk : Nat} {c : Code} (k : ∀ b o, s.heap.get? b = some o -> h'.get? b = some o) : Ev C No No s { s with heap := h', toks := tk, gens := s.gens.push (.fresh c) } where
 kp := fun a o e _ _ => ⟨o, k a o e, .refl o⟩
 al := fun a o e => ⟨o, k a o e, rfl, id⟩
 gk := fun i g e _ => by
  show (s.gens.push _)[i]? = _
  have hlt := (Array.getElem?_eq_some_iff.mp e).1
  rw [Array.getElem?_push_lt hlt]
  simpa [Array.getElem?_eq_getElem hlt] using e
 gz := by show _ <= (s.gens.push _).size; simp
 bs := Base.of_keep k
 os := rfl
 br := fun h => h.push rfl
theorem gen_call {C : Cx} {n : Nat} {fa : Addr} {fd : FuncData} {body : List Stmt} {names : List Str} {avs zs xs : List AV} {err err' : Bool} {K O : Addr -> Prop} {OG : Nat -> Prop} {v : Value} {us : List Value} {A : Around} {fl : List Env} {s : Shared}
  (hC : C.Ok) (F : FnAt C fa fd body) (hg : fd.scope.isGenerator = true) (hcell : ∀ x ∈ fd.scope.names, x.2 ≠ .cell)
  (hb : ∀ vs : List Value, vs.length = names.length -> bindArgs fd ⟨vs, []⟩ = pure (names.zip vs)) (hlen : avs.length + 1 = names.length) (hloc : ∀ x ∈ names, fd.scope.names.lookup x = some .local) (hnl : nlL avs) (hcl : fd.closure = [])
  (hr : Room (n + 2) A) (hF : Fx C A fl s) (hI : Itb C n err K v xs O OG s) (hKO : ∀ a, K a -> ¬ O a) (rl : R0L s.heap avs us)
  (H : ∀ env : Env, env.scope = fd.scope -> env.cells = [] -> (⟨C, n, err', K, .ret .none, env⟩ : Gk).Ok -> GX ⟨C, n, err', K, .ret .none, env⟩ [] (names.zip (.raw v :: avs)).reverse [⟨false, v, xs, err⟩] body zs fun _ _ zs' => zs' = [] /\ err' = false)
  {Q : VP} {E : VP} (k : ∀ a s' O' OG', Ev C No No s s' -> (∀ b, O' b -> O b \/ Nw s b) -> (∀ i, OG' i -> OG i \/ s.gens.size <= i) -> (∀ b, K b -> ¬ O' b) -> Itb C (n + 2) err' K (.ref a) zs O' OG' s' -> (∃ gi, s'.heap.IsGen a gi) -> Q (.ref a) s') :
  wpAny (model C.prog C.w) A (call (.ref fa) (v :: us)) Q E s := by
 refine E12 F.ho fun o hoB hdat => ?_
 have ho := hF.base.old _ _ hoB F.at'
 have hul : us.length = avs.length := RepL.length rl
 refine wpAny_call (codeAny_call_generator hr.d ho hdat F.co hg F.body (F.codeRec hF.base) ?_)
 rw [hb (v :: us) (by simp; lia)]
 refine wP (newEnv0 hcell (fun x hx => hloc _ (List.of_mem_zip (show (x.1, x.2) ∈ _ from hx)).1) F.kind fun h' tk hns hclF hkeep => ?_)
 have ew : Ev C No No s { s with heap := h', toks := tk } := .keep hkeep
 have Fw := hF.ev ew
 refine ⟨Fw.base.lim hC, ?_⟩
 have hnew : C.h₁.get? s.heap.objs.size = none := hF.base.gone (get_fresh _)
 let env := newEnv fd.scope s.heap.objs.size fd.globals fd.closure (fd.qualname ++ ".<locals>.") (some fa) fd.code none fd.builtins
 let g : Gk := ⟨C, n, err', K, .ret .none, env⟩
 have ok : g.Ok := ⟨F.kind, F.g, F.b, rfl, F.co, hC⟩
 refine E12 hclF ?_; clear hclF; intro oL hoL hcL
 have hLlt := Heap.lt_size hoL
 have hkeep2 : ∀ b o, s.heap.get? b = some o -> (h'.push { cls := .type "generator", data := .fields #[.int s.gens.size 0, .str fd.name tk, .str fd.qualname (tk + 1)] }).get? b = some o := fun b o e => gP _ (hkeep b o e)
 have eD : Ev C No No s { s with heap := h'.push { cls := .type "generator", data := .fields #[.int s.gens.size 0, .str fd.name tk, .str fd.qualname (tk + 1)] }, toks := tk + 1 + 1, gens := s.gens.push (.fresh (.func body env)) } := genKeep hkeep2
 generalize hs' : ({ s with heap := h'.push { cls := .type "generator", data := .fields #[.int s.gens.size 0, .str fd.name tk, .str fd.qualname (tk + 1)] }, toks := tk + 1 + 1, gens := s.gens.push (.fresh (.func body env)) } : Shared) = s' at eD
 have hheap : s'.heap = h'.push { cls := .type "generator", data := .fields #[.int s.gens.size 0, .str fd.name tk, .str fd.qualname (tk + 1)] } := by rw [<- hs']
 have hgens : s'.gens = s.gens.push (.fresh (.func body env)) := by rw [<- hs']
 have F2 := hF.ev eD
 have hI2 := hI.ev eD .no
 have owD := hI2.1
 have hoL2 : s'.heap.get? s.heap.objs.size = some oL := by rw [hheap]; exact gP _ hoL
 have hns2 : s'.heap.Ns s.heap.objs.size fun x => (names.zip (v :: us)).reverse.lookup x := by
  refine E32 hns ?_; clear hns; intro o' es ep ho' r
  exact ⟨o', es, ep, by rw [hheap]; exact gP _ ho', r⟩
 have hOL : ∀ b, O b -> b ≠ s.heap.objs.size /\ b ≠ h'.objs.size := fun b hb => by
  obtain ⟨_, o', ho', _⟩ := hI.1.o b hb
  exact ⟨Nat.ne_of_lt (Heap.lt_size ho'), Nat.ne_of_lt (Heap.lt_size (hkeep _ _ ho'))⟩
 have hKL : ∀ b, K b -> b ≠ s.heap.objs.size /\ b ≠ h'.objs.size := fun b hb => by
  refine E12 (hI.1.k b hb) fun o' ho' _ => ?_
  exact ⟨Nat.ne_of_lt (Heap.lt_size ho'), Nat.ne_of_lt (Heap.lt_size (hkeep _ _ ho'))⟩
 have hroomE : Room n (A.over (.func body env) []) /\ (A.over (.func body env) []).frames = some (env :: fl) := by
  refine ⟨⟨hr.1, ?_, ?_⟩, ?_⟩
  ·have := hr.2.1
   show A.depth + frameCount [] + (Code.func body env).weight + 3 * n + 20 <= 1000
   have e : (Code.func body env).weight = 1 := rfl
   rw [e]; simp [frameCount]; lia
  ·have := hr.2.2
   show A.units + unitsOf [] + (Code.func body env).cUnits + 30 * n + 300 <= 9900
   have e : (Code.func body env).cUnits = 3 := rfl
   rw [e]; simp [unitsOf]; lia
  ·show pushEnvs (Code.func body env).envs (pushEnvs (envsOf []) A.frames) = _
   rw [hF.frames]; rfl
 have hneL : oL.cls ≠ .type "tuple" /\ oL.cls ≠ .ref hvf /\ ¬ (oL.cls = .type "list" \/ oL.cls = .type "dict") := by rw [hcL]; exact ⟨by simp, by simp, by simp⟩
 have hdL : NotRec oL.data := fun vs e => by
  refine E33 hns2 ?_; clear hns2; intro o' _ _ ho' hd' _
  rw [hoL2] at ho'; cases ho'; rw [hd'] at e; cases e
 have colour : ∀ b, recol O 2 (fun _ => 0) b ≠ 0 -> O b := fun b h => (recol_ne h).resolve_right (by simp)
 have Lcol : recol O 2 (fun _ => 0) s.heap.objs.size = 0 := recol_out fun z => (hOL _ z).1 rfl
 have S : St ⟨C, A.over (.func body env) [], env, env :: fl, n, fun b => Oof g (recol O 2 fun _ => 0) b \/ Nw s' b⟩ (recol O 2 fun _ => 0) [] (names.zip (.raw v :: avs)).reverse s' := {
  base := F2.base
  col := fun b h => owD.o b (colour b h)
  new := fun b h => .inr h
  loc := ⟨_, hns2, fun x av h => by
   have rl2 : RpL C (recol O 2 fun _ => 0) s'.heap (.raw v :: avs) (v :: us) := rplC (.of_rep (by rw [Rep])) (.of_repL (RepL.mono (R := fun _ => False) (eD.kept hF.base .no) (fun _ _ _ _ z => by cases z) (fun _ _ _ z => by cases z) _ _ rl))
   refine E13 (RpL.zip (names := names) rl2) fun l h1 h2 h3 => ?_
   rw [h1, <- List.map_reverse] at h
   refine E12 (look_both h) fun w h4 h5 => ?_
   have h6 := h3 _ (List.mem_reverse.mp h5)
   refine ⟨?_, w, by rw [h2, <- List.map_reverse]; exact h4, h6.2, fun z => ?_⟩
   ·have : (x, w) ∈ names.zip (v :: us) := by rw [h2]; exact List.mem_map.mpr ⟨_, List.mem_reverse.mp h5, rfl⟩
    exact hloc _ (List.of_mem_zip this).1
   ·rcases List.mem_cons.mp h6.1 with e | e
    ·have e' : av = .raw v := e
     rw [e'] at z; cases z
    ·have e' : av.ow = false := AV.nl_ow (hnl _ e)
     rw [e'] at z; cases z⟩
  cel := fun x av h => by simp [List.lookup] at h
  frs := ⟨by show fd.scope.kind ≠ .module; rw [F.kind]; nofun, ⟨_, oL, rfl, hnew, hoL2, hdL⟩, F2.frs⟩
  frf := fun en hen => by
   rcases List.mem_cons.mp hen with rfl | hen
   ·exact ⟨_, oL, rfl, hoL2, hcL⟩
   ·exact F2.frf en hen
  own := ⟨hnew, Lcol, .inl (.inr (.inl rfl))⟩ }
 have G : GSt g ⟨C, A.over (.func body env) [], env, env :: fl, n, fun b => Oof g (recol O 2 fun _ => 0) b \/ Nw s' b⟩ (recol O 2 fun _ => 0) (recol O 2 fun _ => 0) [] (names.zip (.raw v :: avs)).reverse [⟨false, v, xs, err⟩] OG OG s' s' := {
  C := rfl, env := rfl, n := rfl
  ok := .mk' hC hroomE.1 hroomE.2 ⟨fl, rfl⟩ F.kind F.g F.b rfl
  S := S
  cW := fun a => Iff.rfl
  ag := .refl
  since := .refl
  its := ⟨O, OG, No, hI2, fun a h => recol_in h, fun j h => ⟨h, id⟩, fun j h => h.elim, trivial⟩
  og := fun i h => ⟨.inl h, owD.g i h⟩
  kk := fun a h => ⟨recol_out fun z => hKO a h z, owD.k a h⟩
  o0 := fun a h => by
   rcases h with h | ⟨x, h⟩
   ·subst h
    exact ⟨Lcol, hnew, ⟨oL, hoL2⟩, oL, hoL2, hneL⟩
   ·have h' : List.lookup x fd.closure = some a := h
    rw [hcl] at h'; simp at h' }
 have hY : OkY (names.zip (.raw v :: avs)).reverse := fun x av h => by
  have hm : (x, av) ∈ names.zip (.raw v :: avs) := List.mem_reverse.mp (mem_of_lookup h)
  rcases List.mem_cons.mp (List.of_mem_zip hm).2 with e | e
  ·rw [e]; rfl
  ·have := hnl _ e
   cases av <;> first | exact this | cases this
 have hYk : OkY [] := fun x av h => by simp [List.lookup] at h
 have ovk : OvOk g (.func body env) [] := fun A fl hr hA => by
  refine ⟨?_, hr.1, ?_, ?_⟩
  ·show pushEnvs (Code.func body env).envs (pushEnvs (envsOf []) A.frames) = _
   rw [hA]; rfl
  ·have := hr.2.1
   show A.depth + frameCount [] + (Code.func body env).weight + 3 * n + 20 <= 1000
   have e : (Code.func body env).weight = 1 := rfl
   have t : A.depth + 3 * (n + 1) + 20 <= 1000 := this
   rw [e]; simp [frameCount]; lia
  ·have := hr.2.2
   show A.units + unitsOf [] + (Code.func body env).cUnits + 30 * n + 300 <= 9900
   have e : (Code.func body env).cUnits = 3 := rfl
   have t : A.units + 30 * (n + 1) + 300 <= 9900 := this
   rw [e]; simp [unitsOf]; lia
 have hcells : env.cells = [] := hcl
 have rsm : Rsm C (n + 1) err' K (.ret .none) (.func body env) (denote table (.func body env)) [] zs (Oof g (recol O 2 fun _ => 0)) OG s' :=
  ⟨G.owns, fun s1 W Gw e ap A fl hr F => func_rsm ok rfl (H env rfl hcells ok) A fl _ _ _ OG OG s1 s1 hr F rfl rfl (G.again ok hY hYk e ap hr F ovk)⟩
 have hIg : s'.heap.IsGen h'.objs.size s.gens.size := ⟨_, .str fd.name tk, .str fd.qualname (tk + 1), by rw [hheap]; exact Heap.get?_push_size _ rfl, rfl, rfl, rfl⟩
 have hga : C.h₁.get? h'.objs.size = none := Fw.base.gone (get_fresh _)
 have nOof : ¬ Oof g (recol O 2 fun _ => 0) h'.objs.size := fun z => by
  rcases z with z | z | ⟨x, z⟩
  ·exact (hOL _ (colour _ z)).2 rfl
  ·exact Nat.ne_of_gt hLlt z
  ·have h' : List.lookup x fd.closure = some _ := z
   rw [hcl] at h'; simp at h'
 have hgl : s'.gens[s.gens.size]? = some (.fresh (.func body env)) := by rw [hgens]; simp
 have str := gen_str hC (.inr rfl) zs (Oof g (recol O 2 fun _ => 0)) OG s' (.fresh (.func body env)) (.func body env) _ [] hIg hga nOof (fun z => by have := hI.1.g _ z; lia) (fun z => (hKL _ z).2 rfl) hgl (.inl ⟨rfl, rfl, rfl⟩) rfl rsm
 have itb := itb_gen hC hIg hga (.inr rfl) str
 refine k _ s' _ _ eD (fun b hb => ?_) (fun i hi => ?_) (fun b hb hz => ?_) itb ⟨_, hIg⟩
 ·rcases hb with (hb | hb | ⟨x, hb⟩) | hb
  ·exact .inl (colour b hb)
  ·have hb' : b = s.heap.objs.size := hb
   exact .inr (by rw [hb']; exact get_fresh _)
  ·have h' : List.lookup x fd.closure = some b := hb
   rw [hcl] at h'; simp at h'
  ·exact .inr (by rw [hb]; exact ew.gone (get_fresh h'))
 ·rcases hi with hi | hi
  ·exact .inl hi
  ·exact .inr (by lia)
 ·rcases hz with (hz | hz | ⟨x, hz⟩) | hz
  ·exact hKO b hb (colour b hz)
  ·exact (hKL b hb).1 hz
  ·have h' : List.lookup x fd.closure = some b := hz
   rw [hcl] at h'; simp at h'
  ·exact (hKL b hb).2 hz
noncomputable def PF (C : Cx) (m k : Nat) (f : Value) (avs : List AV) (xs : List AV) (err : Bool) (zs : List AV) (err' : Bool) : Prop :=
 ∀ n A fl s v us K O OG, Room (n + m) A -> Fx C A fl s -> Itb C n err K v xs O OG s -> (∀ a, K a -> ¬ O a) -> R0L s.heap avs us -> ∀ (Q : VP) (E : VP),
  (∀ a s' O' OG', Ev C No No s s' -> (∀ b, O' b -> O b \/ Nw s b) -> (∀ i, OG' i -> OG i \/ s.gens.size <= i) -> (∀ b, K b -> ¬ O' b) -> Itb C (n + k) err' K (.ref a) zs O' OG' s' -> (∃ gi, s'.heap.IsGen a gi) -> Q (.ref a) s') ->
  wpAny (model C.prog C.w) A (call f (v :: us)) Q E s
theorem Itb.up1 {C : Cx} {n m : Nat} (h : n <= m) {err : Bool} {K O : Addr -> Prop} {OG : Nat -> Prop} {v : Value} {xs : List AV} {s : Shared} (x : Itb C n err K v xs O OG s) : Itb C m err K v xs O OG s :=
 ⟨x.1, fun s1 W G e ap A fl hr F Q E k => x.2 s1 W G e ap A fl (hr.mono h) F Q E fun it s2 O' eD hO hs hf => k it s2 O' eD hO (hs.up1 h) hf⟩
structure PS (c : Ac) (q : Addr -> Nat) (Z U : Value -> Env1) (v : Value) (n : Nat) (err : Bool) (K : Addr -> Prop) (xs : List AV) (O : Addr -> Prop) (OG : Nat -> Prop) (s : Shared) : Prop where
 S : St c q (Z v) (U v) s
 I : Itb c.C n err K v xs O OG s
 hO : ∀ a, O a -> q a = 2
 hK : ∀ a, K a -> q a = 0
noncomputable def PX (c : Ac) (Z U : Value -> Env1) (n : Nat) (xs : List AV) (err : Bool) (sts : List Stmt) (n' : Nat) (zs : List AV) (err' : Bool) : Prop :=
 ∀ q v K O OG s, PS c q Z U v n err K xs O OG s -> ∀ (Q : Flow -> Shared -> Prop) (E : VP),
  (∀ a s' O' OG', Ev c.C (Wq c q) No s s' -> (∀ b, O' b -> O b \/ Nw s b) -> (∀ i, OG' i -> OG i \/ s.gens.size <= i) -> (∀ b, K b -> ¬ O' b) -> Itb c.C n' err' K (.ref a) zs O' OG' s' -> (∃ gi, s'.heap.IsGen a gi) -> Q (.ret (.ref a)) s') ->
  wpAny (model c.C.prog c.C.w) c.A (execs sts c.env) Q E s
section
variable {c : Ac} {q qB : Addr -> Nat} {Z U : Value -> Env1} {hn : Str} {v : Value} {n n' : Nat} {err err' : Bool} {K O O' : Addr -> Prop} {OG OG' : Nat -> Prop} {xs zs : List AV} {s s1 s' : Shared}
theorem PS.apart (hc : c.Ok) (P : PS c q Z U v n err K xs O OG s) : Apart O K (Wq c q) OG No s.heap where
 o := fun a h => ⟨fun z => by
   have h2 := P.hO a z
   rcases h.2 with y | y
   ·lia
   ·subst y; have := P.S.own.2.1; lia, fun z => by
   rcases h.2 with y | y
   ·have := P.hK a z; lia
   ·refine E12 (P.I.1.k a z) fun o ho h2 => ?_
    refine E12 (P.S.locC hc) fun o' ho' h3 => ?_
    rw [<- y, ho] at ho'; cases ho'; rw [h3] at h2; exact absurd h2 (by simp)⟩
 t := fun a o h ho => by
  rcases h.2 with y | y
  ·obtain ⟨_, o', ho', h1⟩ := P.S.col a (by lia)
   rw [ho] at ho'; cases ho'; exact h1
  ·refine E12 (P.S.locC hc) fun o' ho' h3 => ?_
   rw [<- y, ho] at ho'; cases ho'; rw [h3]; exact ⟨by simp, by simp⟩
 g := fun _ h => h.elim
theorem px_plain (hc : c.Ok) {st : Stmt} {rest : List Stmt} {U₁ : Value -> Env1} (h : ∀ w, S1 c (Z w) (U w) st (· = U₁ w) (fun _ => False) False) (k : PX c Z U₁ n xs err rest n' zs err') : PX c Z U n xs err (st :: rest) n' zs err' := fun q v K O OG s P Q E hQ =>
 wpAny_execs_cons (h v q s P.S _ E ⟨fun q' U' s' e ag ev S' => by
  subst e
  have ow := P.I.1
  refine k q' v K O OG s' ⟨S', P.I.ev ev (P.apart hc), fun a h => ?_, fun a h => ?_⟩ Q E fun a s'' O' OG' ev' h1 h2 h3 h4 h5 => hQ a s'' O' OG' (ev.wq ag ev') (fun b hb => (h1 b hb).imp id fun z => ev.gone z) (fun i hi => (h2 i hi).imp id fun z => Nat.le_trans ev.gz z) h3 h4 h5
  ·obtain ⟨_, o, ho, _⟩ := ow.o a h
   exact (ag a o ho).trans (P.hO a h)
  ·refine E12 (ow.k a h) fun o ho _ => ?_
   exact (ag a o ho).trans (P.hK a h), fun _ _ _ _ hR => hR.elim, fun hX => hX.elim⟩)
theorem px_if (hc : c.Ok) {t : Expr} {body rest : List Stmt} {p : Pos} {b : Bool} (ht : ∀ w, ET c (Z w) (U w) t b) (h1 : b = true -> PX c Z U n xs err body n' zs err') (h2 : b = false -> PX c Z U n xs err rest n' zs err') : PX c Z U n xs err (.If t body [] p :: rest) n' zs err' := fun q v K O OG s P Q E hQ =>
 wpAny_execs_cons (wpAny_If (ht v q s P.S fun s1 ew => by
  have PB : PS c q Z U v n err K xs O OG s1 := ⟨P.S.ev ew, P.I.ev ew .no, P.hO, P.hK⟩
  have hQ1 : ∀ a s' O' OG', Ev c.C (Wq c q) No s1 s' -> (∀ b, O' b -> O b \/ Nw s1 b) -> (∀ i, OG' i -> OG i \/ s1.gens.size <= i) -> (∀ b, K b -> ¬ O' b) -> Itb c.C n' err' K (.ref a) zs O' OG' s' -> (∃ gi, s'.heap.IsGen a gi) -> Q (.ret (.ref a)) s' :=
   fun a s'' O' OG' ev' h1 h2 h3 h4 h5 => hQ a s'' O' OG' (ew.up.tr ev') (fun b hb => (h1 b hb).imp id fun z => ew.gone z) (fun i hi => (h2 i hi).imp id fun z => Nat.le_trans ew.gz z) h3 h4 h5
  cases b with
  | true => exact h1 rfl q v K O OG s1 PB _ E fun a s'' O' OG' ev' h1 h2 h3 h4 h5 => hQ1 a s'' O' OG' ev' h1 h2 h3 h4 h5
  | false => exact wpAny_execs_nil (h2 rfl q v K O OG s1 PB Q E hQ1)))
theorem px_call (hc : c.Ok) {f : Expr} {hp p : Pos} {rest : List Expr} {fa : Addr} {ob : Obj} {fd : FuncData} {avs : List AV} {m k : Nat} {zs1 : List AV} {err1 : Bool} (hob : ∀ h, Base c.C h -> h.get? fa = some ob) (hfd : ob.data = .func fd)
  (hl : ∀ w, (U w).lookup hn = some (.raw w)) (hf : ∀ w, EV c (Z w) (U w) f (.raw (.ref fa))) (hk : c.env.kindOf hn = some .local) (hdbg : (hn == ("__debug__" : Str)) = false) (ha : ∀ w, EVA c (Z w) (U w) rest avs) (hnl : nlL avs) (hPF : PF c.C m k (.ref fa) avs xs err zs1 err1) (hm : n + m <= c.n)
  (he : starEach (.Name hn hp :: rest) c.env = (false, eval (.Name hn hp) c.env) :: starEach rest c.env := by rfl)
  (hcall : eval (.Call f (.Name hn hp :: rest) [] p) c.env = (do callWith p (<- eval f c.env) [] (backTo p (starEach (.Name hn hp :: rest) c.env)) (backToKw p (keywordEach [] c.env))) := by rfl) :
  ∀ q v K O OG s, PS c q Z U v n err K xs O OG s -> ∀ (Q : VP) (E : VP),
   (∀ a s' O' OG', Ev c.C No No s s' -> (∀ b, O' b -> O b \/ Nw s b) -> (∀ i, OG' i -> OG i \/ s.gens.size <= i) -> (∀ b, K b -> ¬ O' b) -> Itb c.C (n + k) err1 K (.ref a) zs1 O' OG' s' -> (∃ gi, s'.heap.IsGen a gi) -> Q (.ref a) s') ->
   wpAny (model c.C.prog c.C.w) c.A (eval (.Call f (.Name hn hp :: rest) [] p) c.env) Q E s := fun q v K O OG s P Q E hQ => by
 refine Call_ (hf v q s P.S fun w s1 ew rB => ?_) hcall
 obtain rfl : w = .ref fa := rB
 refine callWith_def hfd (wpAny_items_cons (ev_local hc.e (hl v) hdbg q s1 (P.S.ev ew) fun w s2 eD rD => ha v p q s2 ((P.S.ev ew).ev eD) fun us s3 eH rH => ?_) he) he
 obtain rfl : w = v := rD
 have e03 := (ew.tr eD).tr eH
 have B3 := (P.S.ev e03).base
 refine ⟨hob _ B3, ?_⟩
 have F := (P.S.ev e03).fx hc.e
 have hr0 : ∀ (avs : List AV) (us : List Value), nlL avs -> RpL c.C q s3.heap avs us -> R0L s3.heap avs us := by
  intro avs us hnl r
  induction avs generalizing us with
  | nil => cases us with
   | nil => unfold R0L; rw [RepL]; trivial
   | cons => exact r.elim
  | cons x xs ih => cases us with
   | nil => exact r.elim
   | cons u us =>
    unfold R0L
    rw [RepL]
    have hx := hnl x (List.mem_cons_self ..)
    exact ⟨Rep.r0 (q := q) x u hx (Rp.nlR hx r.1), ih us (fun y hy => hnl y (mC _ hy)) r.2⟩
 have hKO : ∀ a, K a -> ¬ O a := fun a h z => by have := P.hK a h; have := P.hO a z; lia
 exact hPF n c.A c.fl s3 w us K O OG (hc.room.mono hm) F (P.I.ev e03 .no) hKO (hr0 avs us hnl rH) Q E fun a s4 O' OG' eJ h1 h2 h3 h4 h5 => hQ a s4 O' OG' (e03.tr eJ) (fun b hb => (h1 b hb).imp id fun z => e03.gone z) (fun i hi => (h2 i hi).imp id fun z => Nat.le_trans e03.gz z) h3 h4 h5
end
theorem inter_f {env : Env} (h : env.scope.kind = .function) : interactive env = false := by
 unfold interactive; rw [h]; rfl
theorem up_over {x : Str} {a b : AV} {U : Env1} (y : Str) (av : AV) (h : (up x a U).lookup y = some av) : (up x a (up x b U)).lookup y = some av := by
 rw [up_lookup] at h ⊢
 by_cases z : y = x
 ·rw [if_pos z] at h ⊢; exact h
 ·rw [if_neg z] at h ⊢; rw [up_lookup, if_neg z]; exact h
theorem up_self {x : Str} {a : AV} {U : Env1} : (up x a U).lookup x = some a := by rw [up_lookup, if_pos rfl]
noncomputable def rh (hn : Str) (U : Env1) : Value -> Env1 := fun w => up hn (.raw w) U
noncomputable def k0 : Value -> Env1 := fun _ => []
section
variable {c : Ac} {q qB : Addr -> Nat} {Z U : Env1} {hn : Str} {v : Value} {n n' : Nat} {err err' : Bool} {K O O' : Addr -> Prop} {OG OG' : Nat -> Prop} {xs zs : List AV} {s s1 s' : Shared}
 {N : Env1 -> Prop} {R : AV -> Prop} {X : Prop}
theorem s_doc (hc : c.Ok) {x : Str} {k : Nat} {p p' : Pos} : S1 c Z U (.Expr (.Constant (.str x) k p) p') (· = U) R X := fun q s S Q E o =>
 wpAny_Expr_any (wp_doc fun _ _ e => o.n q U _ rfl .refl e.up (S.ev e)) (inter_f hc.kind)
theorem pAp (hc : c.Ok) (S : St c q Z U s) (ow : Owns c.C O K OG s) (hO : ∀ a, O a -> q a = 2) (hK : ∀ a, K a -> q a = 0) : Apart O K (Wq c q) OG No s.heap where
 o := fun a h => ⟨fun z => by
   have h2 := hO a z
   rcases h.2 with y | y
   ·lia
   ·subst y; have := S.own.2.1; lia, fun z => by
   rcases h.2 with y | y
   ·have := hK a z; lia
   ·refine E12 (ow.k a z) fun o ho h2 => ?_
    refine E12 (S.locC hc) fun o' ho' h3 => ?_
    rw [<- y, ho] at ho'; cases ho'; rw [h3] at h2; exact absurd h2 (by simp)⟩
 t := fun a o h ho => by
  rcases h.2 with y | y
  ·obtain ⟨_, o', ho', h1⟩ := S.col a (by lia)
   rw [ho] at ho'; cases ho'; exact h1
  ·refine E12 (S.locC hc) fun o' ho' h3 => ?_
   rw [<- y, ho] at ho'; cases ho'; rw [h3]; exact ⟨by simp, by simp⟩
 g := fun _ h => h.elim
theorem px_return (hc : c.Ok) {f : Expr} {hp p ps : Pos} {rest : List Expr} {sts : List Stmt} {fa : Addr} {ob : Obj} {fd : FuncData} {avs : List AV} {m k : Nat} {zs1 : List AV} {err1 : Bool} (hob : ∀ h, Base c.C h -> h.get? fa = some ob) (hfd : ob.data = .func fd)
  (hf : ∀ w, EV c (k0 w) (rh hn U w) f (.raw (.ref fa))) (hk : c.env.kindOf hn = some .local) (hdbg : (hn == ("__debug__" : Str)) = false) (ha : ∀ w, EVA c (k0 w) (rh hn U w) rest avs) (hnl : nlL avs) (hPF : PF c.C m k (.ref fa) avs xs err zs1 err1) (hm : n + m <= c.n)
  (he : starEach (.Name hn hp :: rest) c.env = (false, eval (.Name hn hp) c.env) :: starEach rest c.env := by rfl)
  (hcall : eval (.Call f (.Name hn hp :: rest) [] p) c.env = (do callWith p (<- eval f c.env) [] (backTo p (starEach (.Name hn hp :: rest) c.env)) (backToKw p (keywordEach [] c.env))) := by rfl) :
  PX c k0 (rh hn U) n xs err (.Return (some (.Call f (.Name hn hp :: rest) [] p)) ps :: sts) (n + k) zs1 err1 := fun q v K O OG s P Q E hQ =>
 wpAny_execs_cons (wpAny_Return_some (px_call hc hob hfd (fun w => up_self) hf hk hdbg ha hnl hPF hm he hcall q v K O OG s P _ _ fun a s1 O1 OG1 ew h1 h2 h3 hI hig => hQ a s1 O1 OG1 ew.up h1 h2 h3 hI hig))
end
theorem pf_gen {C : Cx} {fa : Addr} {fd : FuncData} {body : List Stmt} {names : List Str} {avs zs xs : List AV} {err err' : Bool}
  (hC : C.Ok) (F : FnAt C fa fd body) (hg : fd.scope.isGenerator = true) (hcell : ∀ x ∈ fd.scope.names, x.2 ≠ .cell)
  (hb : ∀ vs : List Value, vs.length = names.length -> bindArgs fd ⟨vs, []⟩ = pure (names.zip vs)) (hlen : avs.length + 1 = names.length) (hloc : ∀ x ∈ names, fd.scope.names.lookup x = some .local) (hnl : nlL avs) (hcl : fd.closure = []) {m : Nat}
  (H : ∀ n K v env, env.scope = fd.scope -> env.cells = [] -> (⟨C, n + m, err', K, .ret .none, env⟩ : Gk).Ok -> GX ⟨C, n + m, err', K, .ret .none, env⟩ [] (names.zip (.raw v :: avs)).reverse [⟨false, v, xs, err⟩] body zs fun _ _ zs' => zs' = [] /\ err' = false) :
  PF C (m + 2) (m + 2) (.ref fa) avs xs err zs err' := fun n A fl s v us K O OG hr hF hI hKO rl Q E k =>
 gen_call hC F hg hcell hb hlen hloc hnl hcl (n := n + m) (by exact hr) hF (hI.up1 (Nat.le_add_right n m)) hKO rl (fun env h1 h2 ok => H n K v env h1 h2 ok) fun a s' O' OG' e h1 h2 h3 h4 h5 => k a s' O' OG' e h1 h2 h3 h4 h5
theorem pf_of {C : Cx} {fa : Addr} {fd : FuncData} {body : List Stmt} {hn : Str} {names : List Str} {U : Env1} {avs zs xs : List AV} {err err' : Bool} {m k : Nat}
  (hC : C.Ok) (F : FnAt C fa fd body) (hg : fd.scope.isGenerator = false) (hcell : ∀ x ∈ fd.scope.names, x.2 ≠ .cell)
  (hb : BindW C fd names) (hlen : avs.length + 1 = names.length) (hloc : ∀ x ∈ names, fd.scope.names.lookup x = some .local) (hnl : nlL avs)
  (hsub : ∀ v x av, (up hn (.raw v) U).lookup x = some av -> (names.zip (.raw v :: avs)).reverse.lookup x = some av)
  (H : ∀ n (c : Ac), c.Ok -> c.C = C -> c.n = n + m -> c.env.scope = fd.scope -> c.env.code = fd.code -> PX c k0 (rh hn U) n xs err body (n + k) zs err') : PF C (m + 1) k (.ref fa) avs xs err zs err' := fun n A fl s v us K O OG hr hF hI hKO rl Q E hQ => by
 refine E12 F.ho fun o hoB hdat => ?_
 have ho := hF.base.old _ _ hoB F.at'
 have hul : us.length = avs.length := RepL.length rl
 refine wpAny_call (codeAny_call_function hr.d ho hdat F.co hg F.body (F.codeRec hF.base) ?_)
 refine hb (v :: us) _ _ _ _ hF.base (by simp; lia) (newEnv0 hcell (fun x hx => hloc _ (List.of_mem_zip (show (x.1, x.2) ∈ _ from hx)).1) F.kind fun h' tk hns hcl hkeep => ?_)
 have ew : Ev C No No s { s with heap := h', toks := tk } := .keep hkeep
 have Fw := hF.ev ew
 refine ⟨Fw.base.lim hC, codeAny_func ?_⟩
 have hnew : C.h₁.get? s.heap.objs.size = none := hF.base.gone (get_fresh _)
 let env := newEnv fd.scope s.heap.objs.size fd.globals fd.closure (fd.qualname ++ ".<locals>.") (some fa) fd.code none fd.builtins
 let c : Ac := ⟨C, A.deeper env, env, env :: fl, n + m, Nw s⟩
 have hc : c.Ok := .mk' hC (hr.deep env) (by show A.frames.map _ = _; rw [hF.frames]; rfl) ⟨fl, rfl⟩ F.kind F.g F.b rfl
 refine E12 hcl ?_; clear hcl; intro oL hoL hcL
 have hI1 := hI.ev ew .no
 have hOL : ∀ b, O b -> b ≠ s.heap.objs.size := fun b hb => by
  obtain ⟨_, o', ho', _⟩ := hI.1.o b hb
  exact Nat.ne_of_lt (Heap.lt_size ho')
 have colour : ∀ b, recol O 2 (fun _ => 0) b ≠ 0 -> O b := fun b h => (recol_ne h).resolve_right (by simp)
 have Lcol : recol O 2 (fun _ => 0) s.heap.objs.size = 0 := recol_out fun z => hOL _ z rfl
 have S : St c (recol O 2 fun _ => 0) [] (up hn (.raw v) U) { s with heap := h', toks := tk } := {
  base := Fw.base
  col := fun b h => hI1.1.o b (colour b h)
  new := fun b h => ew.gone h
  loc := ⟨_, hns, fun x av h => by
   have h := hsub v x av h
   have rl2 : RpL C (recol O 2 fun _ => 0) h' (.raw v :: avs) (v :: us) := rplC (.of_rep (by rw [Rep])) (.of_repL (RepL.mono (R := fun _ => False) (ew.kept hF.base .no) (fun _ _ _ _ z => by cases z) (fun _ _ _ z => by cases z) _ _ rl))
   refine E13 (RpL.zip (names := names) rl2) fun l h1 h2 h3 => ?_
   rw [h1, <- List.map_reverse] at h
   refine E12 (look_both h) fun w h4 h5 => ?_
   have h6 := h3 _ (List.mem_reverse.mp h5)
   refine ⟨?_, w, by rw [h2, <- List.map_reverse]; exact h4, h6.2, fun z => ?_⟩
   ·have : (x, w) ∈ names.zip (v :: us) := by rw [h2]; exact List.mem_map.mpr ⟨_, List.mem_reverse.mp h5, rfl⟩
    exact hloc _ (List.of_mem_zip this).1
   ·rcases List.mem_cons.mp h6.1 with e | e
    ·have e' : av = .raw v := e
     rw [e'] at z; cases z
    ·have e' : av.ow = false := AV.nl_ow (hnl _ e)
     rw [e'] at z; cases z⟩
  cel := fun x av h => by simp [List.lookup] at h
  frs := ⟨by show fd.scope.kind ≠ .module; rw [F.kind]; nofun, ⟨_, oL, rfl, hnew, hoL, fun vs e => by refine E33 hns ?_; clear hns; intro o' _ _ ho' hd' _; rw [hoL] at ho'; cases ho'; rw [hd'] at e; cases e⟩, Fw.frs⟩
  frf := fun en hen => by
   rcases List.mem_cons.mp hen with rfl | hen
   ·exact ⟨_, oL, rfl, hoL, hcL⟩
   ·exact Fw.frf en hen
  own := ⟨hnew, Lcol, get_fresh _⟩ }
 refine H n c hc rfl rfl rfl rfl _ v K O OG _ ⟨S, hI1.up1 (Nat.le_refl _), fun a h => recol_in h, fun a h => recol_out (hKO a h)⟩ _ _ fun a s' O' OG' eD h1 h2 h3 h4 h5 => ?_
 refine hQ a s' O' OG' (ew.trans eD (fun b hb => .inr hb.1) (fun _ h => h.elim)) (fun b hb => (h1 b hb).imp id fun z => ew.gone z) (fun i hi => (h2 i hi).imp id fun z => z) h3 h4 h5
section
theorem codeAmong_other {ip pos : Pos} {c : Value} (hne : ¬ (pos.line = ip.line /\ pos.col = ip.col)) : ∀ (l : List Value), TriplesOk l -> codeAmong ip (l ++ [rawInt pos.line, rawInt pos.col, c]) = codeAmong ip l
 | [], _ => by
  simp only [List.nil_append, rawInt, codeAmong]
  have : ((((pos.line : Nat) : Int) == ((ip.line : Nat) : Int)) && (((pos.col : Nat) : Int) == ((ip.col : Nat) : Int))) = false := by
   rw [Bool.and_eq_false_iff]
   by_cases h : pos.line = ip.line
   ·right
    have : pos.col ≠ ip.col := fun z => hne ⟨h, z⟩
    simpa using fun z => this (by exact_mod_cast z)
   ·left
    simpa using fun z => h (by exact_mod_cast z)
  rw [this]; simp
 | .int a t :: .int b u :: x :: rest, h => by
  have ih := codeAmong_other (c := c) hne rest h
  simp only [List.cons_append, codeAmong]
  rw [ih]
variable {C : Cx} {W W' : Addr -> Prop} {G G' : Nat -> Prop} {s s' s'' : Shared}
theorem Ev.grow (hc : C.Ok) {p : Addr × Addr} (hp : p ∈ C.tabs) {ps more : Array Value} {h' : Heap} {tk : Nat} (t0 : s.heap.get? p.2 = some { cls := .none, data := .fields ps }) (hx : Heap.ExtBut p.2 s.heap h') (i : h'.IsCode p.1 p.2 (ps ++ more)) (t : h'.get? p.2 = some { cls := .none, data := .fields (ps ++ more) })
  (hz : (∀ cv, codeAmong C.ip ps.toList = some cv -> CodeC s.heap cv C.iq) -> ∀ cv, codeAmong C.ip (ps ++ more).toList = some cv -> CodeC h' cv C.iq) : Ev C W G s { s with heap := h', toks := tk } where
 kp := fun a o e _ ht => ⟨o, hx a o (fun z => ht (z ▸ List.mem_map.mpr ⟨p, hp, rfl⟩)) e, .refl o⟩
 al := fun a o e => by
  by_cases z : a = p.2
  ·subst z; rw [t0] at e; cases e; exact ⟨_, t, rfl, fun h => (h ps rfl).elim⟩
  ·exact ⟨o, hx a o z e, rfl, id⟩
 gk := fun _ _ e _ => e
 gz := Nat.le_refl _
 bs := fun B => by
  refine ⟨fun a o e ht => hx a o (fun z => ht (z ▸ List.mem_map.mpr ⟨p, hp, rfl⟩)) (B.old a o e ht), fun p' hp' => ?_⟩
  refine E14 (B.tab p' hp') ?_; rintro ps' i' t' ⟨ps0, more', e0, e1⟩ z
  by_cases q : p'.2 = p.2
  ·obtain rfl := hc.tne p hp p' hp' q
   rw [t0] at t'
   obtain rfl : ps = ps' := by simpa using t'
   exact ⟨ps ++ more, i, t, ⟨ps0, more' ++ more, e0, by rw [e1, Array.append_assoc]⟩, hz z⟩
  ·have h1 : p'.1 ≠ p.2 := fun y => hc.code p' hp' (y ▸ List.mem_map.mpr ⟨p, hp, rfl⟩)
   exact ⟨ps', i'.extBut hx h1 q, hx _ _ q t', ⟨ps0, more', e0, e1⟩, fun cv e => let ⟨c, oc, vs, tt, y1, y2, y3, y4⟩ := z cv e; ⟨c, oc, vs, tt, y1, hx _ _ (fun y => by subst y; rw [t0] at y2; cases y2; cases y3) y2, y3, y4⟩⟩
 os := rfl
 br := id
theorem Base.tableAt (hc : C.Ok) {h : Heap} (B : Base C h) {p : Addr × Addr} (hp : p ∈ C.tabs) : ∃ ps, h.IsCode p.1 p.2 ps /\ h.TableAt p.1 p.2 ps /\ h.get? p.2 = some { cls := .none, data := .fields ps } /\ ∀ cv, codeAmong C.ip ps.toList = some cv -> CodeC h cv C.iq := by
 refine E14 (B.tab p hp) fun ps i t _ z => ?_
 refine E24 (hc.tcl p hp) fun o vs ho h1 h2 h3 => ?_
 exact ⟨ps, i, ⟨⟨o, vs, B.old _ _ ho (hc.code p hp), h1, h2, h3⟩, t⟩, t, z⟩
theorem isCode_triples {h : Heap} {c P : Addr} {ps : Array Value} (i : h.IsCode c P ps) : TriplesOk ps.toList := by
 obtain ⟨o, vs, file, tf, flags, tg, inF, text, tt, op, ho, hd, h11, h2, h7, h9, h10, hop, hpd, htr, hne⟩ := i
 exact htr
theorem genexprCode_any {A : Around} {E : VP} (hc : C.Ok) (B : Base C s.heap) {env : Env} {p : Addr × Addr} (hp : p ∈ C.tabs) (hcode : env.code = .ref p.1) {pos : Pos} {q : Str} {scope : Scope} (hpos : ¬ (pos.line = C.ip.line /\ pos.col = C.ip.col))
  {Q : VP} (k : ∀ cv s', Ev C No No s s' -> s'.gens = s.gens -> Q cv s') : wpAny (model C.prog C.w) A (genexprCode env pos q scope) Q E s := by
 refine E14 (B.tableAt hc hp) fun ps i ta t z => ?_
 cases hnf : codeAmong pos ps.toList with
 | some cv => exact wpAny_codeAt_hit hcode i hnf (k cv s .refl rfl)
 | none =>
  refine wpAny_genexprCodeX hcode i ta hnf fun c' h' tk hx hc1 hc2 i' hrec ta' hnew => ?_
  refine k _ _ (.grow hc hp t hx i' ta'.2 fun z cv e => ?_) rfl
  have hl : (ps ++ #[rawInt pos.line, rawInt pos.col, Value.ref c']).toList = ps.toList ++ [rawInt pos.line, rawInt pos.col, .ref c'] := by simp
  rw [hl, codeAmong_other hpos _ (isCode_triples i)] at e
  refine E43 (z cv e) fun c oc vs tt y1 y2 y3 => ?_
  exact ⟨c, oc, vs, tt, y1, hx _ _ (fun y => by subst y; rw [t] at y2; cases y2; cases y3.1) y2, y3⟩
theorem compTurn_gen0 (elt target iter : Expr) (scope : Scope) (pos : Pos) (it acc : Value) (env : Env) :
  compTurn (.GeneratorExp elt [⟨target, iter, [], 0⟩] scope pos) 0 it acc env = (standAt iter.pos >>= fun _ => pyNext it >>= fun r => match r with
   | none => pure (.done .next)
   | some v => letOwnedTupleGo target it v >>= fun _ => assign target env v >>= fun _ => (eval elt env >>= fun v => standAt elt.pos >>= fun _ => yieldOut env v >>= fun _ => pure ()) >>= fun _ => again (.compLoop (.GeneratorExp elt [⟨target, iter, [], 0⟩] scope pos) 0 it acc env)) := by rfl
end
section
variable {g : Gk} {x : Str} {px px2 pos : Pos} {iter : Expr} {scope : Scope} {it acc : Value}
theorem ov_comp (code : Code) (h1 : code.envs = [g.env]) (h2 : code.weight = 1) (h3 : code.cUnits <= 3) (h4 : code.isGuard = false := by rfl) : OvOk g code [] := fun A fl hr hA => by
 refine ⟨?_, ⟨hr.1.1, by show pushGuards code.guards (pushGuards (guardsOf []) A.guards) = _; rw [Code.guards, h4, hr.1.2]; rfl⟩, ?_, ?_⟩
 ·show pushEnvs code.envs (pushEnvs (envsOf []) A.frames) = _
  rw [hA, h1]; rfl
 ·have := hr.2.1
  show A.depth + frameCount [] + code.weight + 3 * g.n + 20 <= 1000
  rw [h2]; simp [frameCount]; lia
 ·have := hr.2.2
  show A.units + unitsOf [] + code.cUnits + 30 * g.n + 300 <= 9900
  simp [unitsOf]; lia
theorem hc_leave (ok : g.Ok) {code : Code} : HC g code [] false (fun e => (leaving g.env e).wrap (fun _ => .raise e) .raise id id) := fun A fl qA OG0 s0 s x hr F F' e he X => by
 refine g_wrap ?_
 have w : Wr g.C (Nw s0) s := ⟨fun a h => e.gone h, fun a h => F.base.gone h⟩
 refine leaving_any F' w X fun s1 ew X1 => ?_
 exact s_end _ _ _ _ _ s1 (.error x) _ rfl ⟨e.trans ew (fun a h => .inr h) (fun _ h => h.elim), .inr ⟨he, x, rfl, X1⟩⟩
theorem rc_gloop (ok : g.Ok) (hfin : g.fin = .next) (hx : g.env.kindOf x = some .local) (hd : (x == ("__debug__" : Str)) = false) :
  ∀ xs U, nlL xs -> OkY U -> RC g (.compLoop (.GeneratorExp (.Name x px) [⟨.Name x px2, iter, [], 0⟩] scope pos) 0 it acc g.env) [] (denote table (.compLoop (.GeneratorExp (.Name x px) [⟨.Name x px2, iter, [], 0⟩] scope pos) 0 it acc g.env)) [] U [⟨true, it, xs, g.err⟩] xs := by
 intro xs
 have ov : OvOk g (.compLoop (.GeneratorExp (.Name x px) [⟨.Name x px2, iter, [], 0⟩] scope pos) 0 it acc g.env) [] := ov_comp _ rfl rfl (by first | exact Nat.le_refl 3 | (show (1:Nat) <= 3; decide) | (show (2:Nat) <= 3; decide) | (show (0:Nat) <= 3; decide))
 induction xs with
 | nil =>
  intro U hnl hY A fl c qA q OG0 OG s0 s hr F hA hfl G
  obtain ⟨cC, cA, ce, cf, cn, cW⟩ := c
  obtain rfl : cC = g.C := G.C
  obtain rfl : ce = g.env := G.env
  obtain rfl : cn = g.n := G.n
  obtain rfl : cA = A.over _ [] := hA
  obtain rfl : cf = g.env :: fl := hfl
  refine E35 G.its fun O OG1 OG2 h1 h2 h3 h4 h5 => ?_
  have hS : StrS g.C g.n g.err g.K it [] O OG1 s := h1
  show SegX _ A _ ((compTurn (.GeneratorExp (.Name x px) [⟨.Name x px2, iter, [], 0⟩] scope pos) 0 it acc g.env).onRaise (leaving g.env)) [] s _
  rw [Sem.onRaise_eq_wrap, compTurn_gen0]
  have Fs := G.S.fx G.ok.e
  refine g_bw (wpAny_standAt ?_)
  refine g_bw (hS.2 s No No .refl .no _ _ G.ok.room Fs _ _ (fun he s2 ev => ?_) (fun he x s2 ev X => ?_))
  ·exact s_end _ _ _ _ _ s2 (.ok .next) _ rfl ⟨(G.gone hS.1 h2 h3 h4 h5 ev).since, .inl ⟨he, by rw [hfin]⟩⟩
  ·have eD := (G.gone hS.1 h2 h3 h4 h5 ev).since
   show SegX _ A _ (Sem.bind (leaving g.env x) _) [] s2 _
   rw [Sem.bind_eq_wrap]
   exact hc_leave ok A fl qA OG0 s0 s2 x hr F (Fs.ev ev) eD he (X.any.mono fun a _ _ h => G.since.gone h)
 | cons y xs ih =>
  intro U hnl hY A fl c qA q OG0 OG s0 s hr F hA hfl G
  obtain ⟨cC, cA, ce, cf, cn, cW⟩ := c
  obtain rfl : cC = g.C := G.C
  obtain rfl : ce = g.env := G.env
  obtain rfl : cn = g.n := G.n
  obtain rfl : cA = A.over _ [] := hA
  obtain rfl : cf = g.env :: fl := hfl
  refine E35 G.its fun O OG1 OG2 h1 h2 h3 h4 h5 => ?_
  have hS : StrS g.C g.n g.err g.K it (y :: xs) O OG1 s := h1
  have hy := hnl y (List.mem_cons_self ..)
  have hnl' : nlL xs := fun z hz => hnl z (mC _ hz)
  show SegX _ A _ ((compTurn (.GeneratorExp (.Name x px) [⟨.Name x px2, iter, [], 0⟩] scope pos) 0 it acc g.env).onRaise (leaving g.env)) [] s _
  rw [Sem.onRaise_eq_wrap, compTurn_gen0]
  have Fs := G.S.fx G.ok.e
  refine g_bw (wpAny_standAt ?_)
  refine g_bw (hS.2 s No No .refl .no _ _ G.ok.room Fs _ _ fun v s2 O' OG' ev r0 hO' hOG' hS' => ?_)
  have GD := G.took hS.1 h2 h3 h4 h5 ev hO' hOG' (i' := ⟨true, it, xs, g.err⟩) hS'
  refine g_bw (wpAny_of_eq (rfl : letOwnedTupleGo (.Name x px2) it v = pure ()) ?_)
  refine g_bw (wpAny_assign_Name (GD.S.store GD.ok hx (av := y) (.of_rep r0.rep) (fun z => by rw [AV.nl_ow hy] at z; cases z) fun s3 eH S3 => ?_))
  have GH := GD.next .refl (eH.loc GD.S) S3
  have hlk : (up x y U).lookup x = some y := up_self
  rw [Sem.bind_eq_wrap', Sem.wrap_wrap]
  refine g_bw (ev_local GH.ok.e hlk hd _ s3 S3 fun v' s4 eJ rJ => ?_)
  have GJ := GH.next .refl eJ.up (S3.ev eJ)
  refine g_bw (wpAny_standAt ?_)
  have hyo : yieldOut g.env v' = yieldValue v' := by simp only [yieldOut, ok.co, Bool.false_eq_true, if_false]
  rw [hyo]
  have r0' : R0 s4.heap y v' := Rep.r0 (q := recol O' (2 + 0) q) y v' hy (Rp.nlR hy rJ)
  refine s_yield _ _ _ _ _ _ s4 v' _ _ rfl rfl fun p' => ?_
  have hY' : OkY (up x y U) := fun z av h => by
   rw [up_lookup] at h
   split at h
   ·cases h; exact AV.nl_okY hy
   ·exact hY z av h
  refine ⟨v', _, _, _, p', [], Oof g (recol O' 2 q), _, rfl, rfl, r0', GJ.since, fun a h => ?_, fun i h => (GJ.og i h).1, GJ.owns, fun s5 W Gw e5 ap A' fl' hr' F' => ?_⟩
  ·rcases h with h | h
   ·cases hs : s0.heap.get? a with
    | none => exact .inr hs
    | some o => exact .inl (.inl (by rw [<- GJ.ag a o hs]; exact h))
   ·exact .inl (.inr h)
  ·refine s_again _ _ _ _ _ _ s5 _ rfl ?_
   exact ih (up x y U) hnl' hY' A' fl' _ _ _ _ _ s5 s5 hr' F' rfl rfl (GJ.again ok hY' (fun _ _ h => by simp [List.lookup] at h) e5 ap hr' F' ov)
theorem rc_gstart (ok : g.Ok) (hfin : g.fin = .next) (hx : g.env.kindOf x = some .local) (hd : (x == ("__debug__" : Str)) = false) {xs : List AV} {U : Env1} (hnl : nlL xs) (hY : OkY U)
  {A : Around} {fl : List Env} {c : Ac} {qA q : Addr -> Nat} {OG0 OG : Nat -> Prop} {s0 s : Shared} (hr : Room (g.n + 1) A) (F : Fx g.C A fl s0)
  (hA : c.A = A.over (.compStart (.GeneratorExp (.Name x px) [⟨.Name x px2, iter, [], 0⟩] scope pos) 0 it acc g.env) []) (hfl : c.fl = g.env :: fl) (G : GSt g c qA q [] U [⟨true, it, xs, g.err⟩] OG0 OG s0 s)
  (hself : ∀ (A : Around) (Q : VP) (E : VP), Q it s -> wpAny (model g.C.prog g.C.w) A (pyIter it) Q E s) :
  SegX (model g.C.prog g.C.w) A (.compStart (.GeneratorExp (.Name x px) [⟨.Name x px2, iter, [], 0⟩] scope pos) 0 it acc g.env) (denote table (.compStart (.GeneratorExp (.Name x px) [⟨.Name x px2, iter, [], 0⟩] scope pos) 0 it acc g.env)) [] s (GEnd g.C (g.n + 1) g.err g.K g.fin xs (Oof g qA) OG0 s0) := by
 have ov : OvOk g (.compLoop (.GeneratorExp (.Name x px) [⟨.Name x px2, iter, [], 0⟩] scope pos) 0 it acc g.env) [] := ov_comp _ rfl rfl (by first | exact Nat.le_refl 3 | (show (1:Nat) <= 3; decide) | (show (2:Nat) <= 3; decide) | (show (0:Nat) <= 3; decide))
 refine E02 (ov A fl hr F.frames) fun f1 f2 => ?_
 have main : SegX (model g.C.prog g.C.w) A (.compStart (.GeneratorExp (.Name x px) [⟨.Name x px2, iter, [], 0⟩] scope pos) 0 it acc g.env) (.pure (.again (.compLoop (.GeneratorExp (.Name x px) [⟨.Name x px2, iter, [], 0⟩] scope pos) 0 it acc g.env))) [] s (GEnd g.C (g.n + 1) g.err g.K g.fin xs (Oof g qA) OG0 s0) :=
  s_again _ _ _ _ _ _ s _ rfl (rc_gloop ok hfin hx hd xs U hnl hY A fl { c with A := _ } qA q OG0 OG s0 s hr F rfl hfl (G.reA hfl f1 f2))
 show SegX _ A _ ((compStart (.GeneratorExp (.Name x px) [⟨.Name x px2, iter, [], 0⟩] scope pos) 0 it acc g.env).onRaise (leaving g.env)) [] s _
 rw [Sem.onRaise_eq_wrap]
 unfold compStart
 show SegX _ A _ ((ask >>= _ : Sem Fin).wrap _ _ _ _) [] s _
 refine g_bw (wpAny_askSetting ?_)
 split
 ·exact main
 ·refine g_bw (wpAny_rule ?_)
  show SegX _ A _ ((standAt iter.pos >>= _ : Sem Fin).wrap _ _ _ _) [] s _
  refine g_bw (wpAny_standAt ?_)
  refine g_bw (hself _ _ _ ?_)
  exact main
end
section
variable {c : Ac} {q qB : Addr -> Nat} {Z U : Value -> Env1} {v : Value} {n n' : Nat} {err err' : Bool} {xs zs : List AV}
theorem room_gen {n : Nat} {A : Around} {fl : List Env} {env : Env} {code : Code} (h1 : code.envs = [env]) (h2 : code.weight = 1) (h3 : code.cUnits <= 3) (hr : Room (n + 1) A) (hA : A.frames = some fl) (h4 : code.isGuard = false := by rfl) : Room n (A.over code []) /\ (A.over code []).frames = some (env :: fl) := by
 refine ⟨⟨⟨hr.1.1, by show pushGuards code.guards (pushGuards (guardsOf []) A.guards) = _; rw [Code.guards, h4, hr.1.2]; rfl⟩, ?_, ?_⟩, ?_⟩
 ·have := hr.2.1
  show A.depth + frameCount [] + code.weight + 3 * n + 20 <= 1000
  rw [h2]; simp [frameCount]; lia
 ·have := hr.2.2
  show A.units + unitsOf [] + code.cUnits + 30 * n + 300 <= 9900
  simp [unitsOf]; lia
 ·show pushEnvs code.envs (pushEnvs (envsOf []) A.frames) = _
  rw [hA, h1]; rfl
theorem px_genexp (hc : c.Ok) {x : Str} {px px2 pos ps : Pos} {iter : Expr} {scope : Scope} {sts : List Stmt} {p : Addr × Addr} (hp : p ∈ c.C.tabs) (hcode : c.env.code = .ref p.1) (hpos : ¬ (pos.line = c.C.ip.line /\ pos.col = c.C.ip.col))
  (hco : scope.isCoroutine = false) (hclos : closureFor scope c.env = pure []) (hcell : ∀ y ∈ scope.names, y.2 ≠ .cell) (h0 : scope.names.lookup (".0" : Str) = some NameKind.local) (hx : scope.names.lookup x = some NameKind.local) (hd : (x == ("__debug__" : Str)) = false) (hkind : scope.kind = .function)
  (hit : ∀ w, EV c (Z w) (U w) iter (.raw w)) (hnl : nlL xs) (hm : n + 1 <= c.n) (hs : ∀ x, genFold iter c.env x = pure x := by intro _; rfl) :
  PX c Z U n xs err (.Return (some (.GeneratorExp (.Name x px) [⟨.Name x px2, iter, [], 0⟩] scope pos)) ps :: sts) (n + 2) xs err := fun q v K O OG s P Q E hQ => by
 refine wpAny_execs_cons (wpAny_Return_some ?_)
 rw [eval_GeneratorExp1 _ _ _ _ _ _ _ hco, hclos]
 refine wB (hit v q s P.S fun v' s1 ew rB => ?_)
 obtain rfl : v' = v := rB
 have I1 := P.I.ev ew .no
 have SB := P.S.ev ew
 refine wB (wpAny_standAt ?_)
 refine wB (wpAny_of_eq (hs v') ?_)
 refine wB (wpAny_holding (I1.2 s1 No No .refl .no c.A c.fl (hc.room.mono (by lia)) (SB.fx hc.e) _ _ fun it s2 O2 eD hO2 hS hSelf => ?_))
 have S2 := SB.ev eD
 refine wB (wpAny_enterFrame (S2.base.lim hc.C) hc.room.d ?_)
 refine wB (wP ?_)
 refine wB (genexprCode_any hc.C S2.base hp hcode hpos fun cv s3 eH _ => ?_)
 have S3 := S2.ev eH
 refine E27 hc.C.bim fun bm ob b1 b2 b3 b4 b5 b6 b7 => ?_
 rw [hc.g]
 refine wB (wpAny_builtinsFor (S3.base.gns hc.C) b1 b2 (S3.base.old _ _ b4 b3) b5 b6 b7 ?_)
 have hbinds : ∀ y ∈ ([((".0" : Str), it)] : List (Str × Value)), scope.names.lookup y.1 = some NameKind.local := by
  intro y hy
  rcases List.mem_cons.mp hy with rfl | hy
  ·exact h0
  ·cases hy
 refine wB (newEnv0 hcell hbinds hkind fun h' tk hns hclF hkeep => ?_)
 simp only [newGenerator, newFields]
 refine wB (wpAny_newGen (wB (wpAny_mkText (wB (wpAny_mkText (wpAny_newObj_type ?_ (by size_fits)))))))
 have hkeep2 : ∀ b o, s3.heap.get? b = some o -> (h'.push { cls := .type "generator", data := .fields #[.int s3.gens.size 0, .str "<genexpr>" tk, .str (c.env.qual ++ "<genexpr>") (tk + 1)] }).get? b = some o := fun b o e => gP _ (hkeep b o e)
 let env := newEnv scope s3.heap.objs.size 3 [] (c.env.qual ++ "<genexpr>.") none cv none builtinsNs
 let code : Code := .compStart (.GeneratorExp (.Name x px) [⟨.Name x px2, iter, [], 0⟩] scope pos) 0 it .none env
 have eJ : Ev c.C No No s3 { s3 with heap := h'.push { cls := .type "generator", data := .fields #[.int s3.gens.size 0, .str "<genexpr>" tk, .str (c.env.qual ++ "<genexpr>") (tk + 1)] }, toks := tk + 1 + 1, gens := s3.gens.push (.fresh code) } := genKeep hkeep2
 show Q _ { s3 with heap := h'.push { cls := .type "generator", data := .fields #[.int s3.gens.size 0, .str "<genexpr>" tk, .str (c.env.qual ++ "<genexpr>") (tk + 1)] }, toks := tk + 1 + 1, gens := s3.gens.push (.fresh code) }
 generalize hs' : ({ s3 with heap := h'.push { cls := .type "generator", data := .fields #[.int s3.gens.size 0, .str "<genexpr>" tk, .str (c.env.qual ++ "<genexpr>") (tk + 1)] }, toks := tk + 1 + 1, gens := s3.gens.push (.fresh code) } : Shared) = s' at eJ
 have hheap : s'.heap = h'.push { cls := .type "generator", data := .fields #[.int s3.gens.size 0, .str "<genexpr>" tk, .str (c.env.qual ++ "<genexpr>") (tk + 1)] } := by rw [<- hs']
 have hgens : s'.gens = s3.gens.push (.fresh code) := by rw [<- hs']
 have e24 : Ev c.C No No s2 s' := eH.tr eJ
 have hS4 := hS.ev e24 .no
 have owJ := hS4.owns
 let g : Gk := ⟨c.C, n, err, K, .next, env⟩
 have ok : g.Ok := ⟨hkind, rfl, rfl, rfl, hco, hc.C⟩
 refine E12 hclF ?_; clear hclF; intro oL hoL hcL
 have hoL2 : s'.heap.get? s3.heap.objs.size = some oL := by rw [hheap]; exact gP _ hoL
 have B4 := (S3.ev eJ).base
 have hnew : c.C.h₁.get? s3.heap.objs.size = none := S3.base.gone (get_fresh _)
 have owH := (hS.ev eH .no).owns
 have hOL : ∀ b, O2 b -> b ≠ s3.heap.objs.size /\ b ≠ h'.objs.size := fun b hb => by
  obtain ⟨_, o', ho', _⟩ := owH.o b hb
  exact ⟨Nat.ne_of_lt (Heap.lt_size ho'), Nat.ne_of_lt (Heap.lt_size (hkeep _ _ ho'))⟩
 have hKL : ∀ b, K b -> b ≠ s3.heap.objs.size /\ b ≠ h'.objs.size := fun b hb => by
  refine E12 (owH.k b hb) fun o' ho' _ => ?_
  exact ⟨Nat.ne_of_lt (Heap.lt_size ho'), Nat.ne_of_lt (Heap.lt_size (hkeep _ _ ho'))⟩
 have hKO : ∀ b, K b -> ¬ O2 b := fun b hb z => by
  rcases hO2 b z with y | y
  ·have := P.hK b hb; have := P.hO b y; lia
  ·refine E12 (I1.1.k b hb) fun o ho _ => ?_
   have y' : s1.heap.get? b = none := y
   rw [ho] at y'; cases y'
 have hneL : oL.cls ≠ .type "tuple" /\ oL.cls ≠ .ref hvf /\ ¬ (oL.cls = .type "list" \/ oL.cls = .type "dict") := by rw [hcL]; exact ⟨by simp, by simp, by simp⟩
 have hns2 : s'.heap.Ns s3.heap.objs.size fun x => ([((".0" : Str), it)] : List (Str × Value)).reverse.lookup x := by
  refine E32 hns ?_; clear hns; intro o' es ep ho' r
  exact ⟨o', es, ep, by rw [hheap]; exact gP _ ho', r⟩
 have hdL : NotRec oL.data := fun vs e => by
  refine E33 hns2 ?_; clear hns2; intro o' _ _ ho' hd' _
  rw [hoL2] at ho'; cases ho'; rw [hd'] at e; cases e
 have colour : ∀ b, recol O2 2 (fun _ => 0) b ≠ 0 -> O2 b := fun b h => (recol_ne h).resolve_right (by simp)
 have Lcol : recol O2 2 (fun _ => 0) s3.heap.objs.size = 0 := recol_out fun z => (hOL _ z).1 rfl
 have F4 := (S3.ev eJ).fx hc.e
 refine E02 (room_gen (env := env) (code := code) rfl rfl (by first | exact Nat.le_refl 3 | (show (1:Nat) <= 3; decide) | (show (2:Nat) <= 3; decide) | (show (0:Nat) <= 3; decide)) (hc.room.mono hm) hc.frames) fun rm1 rm2 => ?_
 have S : St ⟨c.C, c.A.over code [], env, env :: c.fl, n, fun b => Oof g (recol O2 2 fun _ => 0) b \/ Nw s' b⟩ (recol O2 2 fun _ => 0) [] [] s' := {
  base := B4
  col := fun b h => owJ.o b (colour b h)
  new := fun b h => .inr h
  loc := ⟨_, hns2, fun x av h => by simp [List.lookup] at h⟩
  cel := fun x av h => by simp [List.lookup] at h
  frs := ⟨by show scope.kind ≠ .module; rw [hkind]; nofun, ⟨_, oL, rfl, hnew, hoL2, hdL⟩, F4.frs⟩
  frf := fun en hen => by
   rcases List.mem_cons.mp hen with rfl | hen
   ·exact ⟨_, oL, rfl, hoL2, hcL⟩
   ·exact F4.frf en hen
  own := ⟨hnew, Lcol, .inl (.inr (.inl rfl))⟩ }
 have G : GSt g ⟨c.C, c.A.over code [], env, env :: c.fl, n, fun b => Oof g (recol O2 2 fun _ => 0) b \/ Nw s' b⟩ (recol O2 2 fun _ => 0) (recol O2 2 fun _ => 0) [] [] [⟨true, it, xs, err⟩] OG OG s' s' := {
  C := rfl, env := rfl, n := rfl
  ok := .mk' hc.C rm1 rm2 ⟨c.fl, rfl⟩ hkind rfl rfl rfl
  S := S
  cW := fun a => Iff.rfl
  ag := .refl
  since := .refl
  its := ⟨O2, OG, No, hS4, fun a h => recol_in h, fun j h => ⟨h, id⟩, fun j h => h.elim, trivial⟩
  og := fun i h => ⟨.inl h, owJ.g i h⟩
  kk := fun a h => ⟨recol_out fun z => hKO a h z, owJ.k a h⟩
  o0 := fun a h => by
   rcases h with h | ⟨x, h⟩
   ·subst h
    exact ⟨Lcol, hnew, ⟨oL, hoL2⟩, oL, hoL2, hneL⟩
   ·have h' : List.lookup x ([] : List (Str × Addr)) = some a := h
    simp at h' }
 have hY : OkY [] := fun x av h => by simp [List.lookup] at h
 have ov : OvOk g code [] := ov_comp _ rfl rfl (by first | exact Nat.le_refl 3 | (show (1:Nat) <= 3; decide) | (show (2:Nat) <= 3; decide) | (show (0:Nat) <= 3; decide))
 have apO : ∀ {W : Addr -> Prop} {Gw : Nat -> Prop}, Apart (Oof g (recol O2 2 fun _ => 0)) K W OG Gw s'.heap -> Apart O2 K W OG Gw s'.heap := fun ap => ⟨fun a h => ⟨fun z => (ap.o a h).1 (.inl (by rw [recol_in z]; simp)), (ap.o a h).2⟩, ap.t, ap.g⟩
 have rsm : Rsm c.C (n + 1) err K .next code (denote table code) [] xs (Oof g (recol O2 2 fun _ => 0)) OG s' :=
  ⟨G.owns, fun s5 W Gw e ap A fl hr F => rc_gstart ok rfl (x := x) hx hd hnl hY hr F rfl rfl (G.again ok hY hY e ap hr F ov) fun A' Q' E' hq => hSelf s5 _ _ (e24.or e) (Apart.then .no (apO ap) fun a o h => let ⟨o', x1, x2, _⟩ := e24.al a o h; ⟨o', x1, x2⟩) A' Q' E' hq⟩
 have hIg : s'.heap.IsGen h'.objs.size s3.gens.size := ⟨_, .str "<genexpr>" tk, .str (c.env.qual ++ "<genexpr>") (tk + 1), by rw [hheap]; exact Heap.get?_push_size _ rfl, rfl, rfl, rfl⟩
 have e3' : Ev c.C No No s3 { s3 with heap := h', toks := tk } := .keep hkeep
 have hga : c.C.h₁.get? h'.objs.size = none := (e3'.bs S3.base).gone (get_fresh _)
 have hLlt := Heap.lt_size hoL
 have nOof : ¬ Oof g (recol O2 2 fun _ => 0) h'.objs.size := fun z => by
  rcases z with z | z | ⟨x, z⟩
  ·exact (hOL _ (colour _ z)).2 rfl
  ·exact Nat.ne_of_gt hLlt z
  ·have h' : List.lookup x ([] : List (Str × Addr)) = some _ := z
   simp at h'
 have hgl : s'.gens[s3.gens.size]? = some (.fresh code) := by rw [hgens]; simp
 have str := gen_str hc.C (.inl rfl) xs (Oof g (recol O2 2 fun _ => 0)) OG s' (.fresh code) code _ [] hIg hga nOof (fun z => by have := owH.g _ z; lia) (fun z => (hKL _ z).2 rfl) hgl (.inl ⟨rfl, rfl, rfl⟩) rfl rsm
 have itb := itb_gen hc.C hIg hga (.inr rfl) str
 have e02 := ew.tr eD
 have e03 := e02.tr eH
 refine hQ _ s' _ _ (e03.tr eJ).up (fun b hb => ?_) (fun i hi => ?_) (fun b hb hz => ?_) itb ⟨_, hIg⟩
 ·rcases hb with (hb | hb | ⟨x, hb⟩) | hb
  ·exact (hO2 b (colour b hb)).imp id fun z => ew.gone z
  ·have hb' : b = s3.heap.objs.size := hb
   exact .inr (by rw [hb']; exact e03.gone (get_fresh _))
  ·have h' : List.lookup x ([] : List (Str × Addr)) = some b := hb
   simp at h'
  ·exact .inr (by rw [hb]; exact (e03.tr e3').gone (get_fresh h'))
 ·rcases hi with hi | hi
  ·exact .inl hi
  ·exact .inr (by have := e03.gz; lia)
 ·rcases hz with (hz | hz | ⟨x, hz⟩) | hz
  ·exact hKO b hb (colour b hz)
  ·exact (hKL b hb).1 hz
  ·have h' : List.lookup x ([] : List (Str × Addr)) = some b := hz
   simp at h'
  ·exact (hKL b hb).2 hz
end
theorem look1 {α : Type} {x y : Str} {a b : α} (h : List.lookup x [(y, a)] = some b) : x = y /\ b = a := by
 simp only [List.lookup] at h
 by_cases e : x = y
 ·subst e; simp at h; exact ⟨rfl, h.symm⟩
 ·simp [beq_eq_false_iff_ne.mpr e] at h
theorem gen_callC {C : Cx} {n : Nat} {fa a0 : Addr} {o : Obj} {x0 : Str} {fd : FuncData} {body : List Stmt} {zs xs : List AV} {err err' : Bool} {K O : Addr -> Prop} {OG : Nat -> Prop} {v : Value} {A : Around} {fl : List Env} {s : Shared}
  (hC : C.Ok) (ho : s.heap.get? fa = some o) (hdat : o.data = .func fd) (hco : fd.scope.isCoroutine = false) (hkind : fd.scope.kind = .function) (hgl : fd.globals = 3) (hbi : fd.builtins = 0) (hbody : fd.body = .stmts body) (hrec : s.heap.CodeRec fd.code fd.qualname) (hg : fd.scope.isGenerator = true) (hcell : ∀ x ∈ fd.scope.names, x.2 ≠ .cell)
  (hb : bindArgs fd ⟨[], []⟩ = pure []) (hcl : fd.closure = [(x0, a0)]) (hfree : fd.scope.names.lookup x0 = some .free) (hcn : C.h₁.get? a0 = none) (hco' : s.heap.get? a0 = some { cls := .type "cell", data := .cell (some v) }) (hOa : ¬ O a0)
  (hr : Room (n + 2) A) (hF : Fx C A fl s) (hI : Itb C n err K v xs O OG s) (hKO : ∀ a, K a -> ¬ O a)
  (H : ∀ env : Env, env.scope = fd.scope -> env.cells = [(x0, a0)] -> (⟨C, n, err', K, .ret .none, env⟩ : Gk).Ok -> GX ⟨C, n, err', K, .ret .none, env⟩ [(x0, .raw v)] [] [⟨false, v, xs, err⟩] body zs fun _ _ zs' => zs' = [] /\ err' = false)
  {Q : VP} {E : VP} (k : ∀ a s' O' OG', Ev C No No s s' -> (∀ b, O' b -> O b \/ Nw s b \/ b = a0) -> (∀ i, OG' i -> OG i \/ s.gens.size <= i) -> (∀ b, K b -> ¬ O' b) -> Itb C (n + 2) err' K (.ref a) zs O' OG' s' -> (∃ gi, s'.heap.IsGen a gi) -> Q (.ref a) s') :
  wpAny (model C.prog C.w) A (call (.ref fa) []) Q E s := by
 refine wpAny_call (codeAny_call_generator hr.d ho hdat hco hg hbody hrec ?_)
 rw [hb]
 refine wP (newEnv0 hcell (fun x hx => by cases hx) hkind fun h' tk hns hclF hkeep => ?_)
 have ew : Ev C No No s { s with heap := h', toks := tk } := .keep hkeep
 have Fw := hF.ev ew
 refine ⟨Fw.base.lim hC, ?_⟩
 have hnew : C.h₁.get? s.heap.objs.size = none := hF.base.gone (get_fresh _)
 let env := newEnv fd.scope s.heap.objs.size fd.globals fd.closure (fd.qualname ++ ".<locals>.") (some fa) fd.code none fd.builtins
 let g : Gk := ⟨C, n, err', K, .ret .none, env⟩
 have ok : g.Ok := ⟨hkind, hgl, hbi, rfl, hco, hC⟩
 refine E12 hclF ?_; clear hclF; intro oL hoL hcL
 have hLlt := Heap.lt_size hoL
 have hkeep2 : ∀ b o, s.heap.get? b = some o -> (h'.push { cls := .type "generator", data := .fields #[.int s.gens.size 0, .str fd.name tk, .str fd.qualname (tk + 1)] }).get? b = some o := fun b o e => gP _ (hkeep b o e)
 have eD : Ev C No No s { s with heap := h'.push { cls := .type "generator", data := .fields #[.int s.gens.size 0, .str fd.name tk, .str fd.qualname (tk + 1)] }, toks := tk + 1 + 1, gens := s.gens.push (.fresh (.func body env)) } := genKeep hkeep2
 generalize hs' : ({ s with heap := h'.push { cls := .type "generator", data := .fields #[.int s.gens.size 0, .str fd.name tk, .str fd.qualname (tk + 1)] }, toks := tk + 1 + 1, gens := s.gens.push (.fresh (.func body env)) } : Shared) = s' at eD
 have hheap : s'.heap = h'.push { cls := .type "generator", data := .fields #[.int s.gens.size 0, .str fd.name tk, .str fd.qualname (tk + 1)] } := by rw [<- hs']
 have hgens : s'.gens = s.gens.push (.fresh (.func body env)) := by rw [<- hs']
 have F2 := hF.ev eD
 have hI2 := hI.ev eD .no
 have owD := hI2.1
 have hcell2 : s'.heap.get? a0 = some { cls := .type "cell", data := .cell (some v) } := by rw [hheap]; exact hkeep2 _ _ hco'
 have hoL2 : s'.heap.get? s.heap.objs.size = some oL := by rw [hheap]; exact gP _ hoL
 have hns2 : s'.heap.Ns s.heap.objs.size fun x => ([] : List (Str × Value)).reverse.lookup x := by
  refine E32 hns ?_; clear hns; intro o' es ep ho' r
  exact ⟨o', es, ep, by rw [hheap]; exact gP _ ho', r⟩
 have hOL : ∀ b, O b -> b ≠ s.heap.objs.size /\ b ≠ h'.objs.size := fun b hb => by
  obtain ⟨_, o', ho', _⟩ := hI.1.o b hb
  exact ⟨Nat.ne_of_lt (Heap.lt_size ho'), Nat.ne_of_lt (Heap.lt_size (hkeep _ _ ho'))⟩
 have hKL : ∀ b, K b -> b ≠ s.heap.objs.size /\ b ≠ h'.objs.size := fun b hb => by
  refine E12 (hI.1.k b hb) fun o' ho' _ => ?_
  exact ⟨Nat.ne_of_lt (Heap.lt_size ho'), Nat.ne_of_lt (Heap.lt_size (hkeep _ _ ho'))⟩
 have hroomE : Room n (A.over (.func body env) []) /\ (A.over (.func body env) []).frames = some (env :: fl) := by
  refine ⟨⟨hr.1, ?_, ?_⟩, ?_⟩
  ·have := hr.2.1
   show A.depth + frameCount [] + (Code.func body env).weight + 3 * n + 20 <= 1000
   have e : (Code.func body env).weight = 1 := rfl
   rw [e]; simp [frameCount]; lia
  ·have := hr.2.2
   show A.units + unitsOf [] + (Code.func body env).cUnits + 30 * n + 300 <= 9900
   have e : (Code.func body env).cUnits = 3 := rfl
   rw [e]; simp [unitsOf]; lia
  ·show pushEnvs (Code.func body env).envs (pushEnvs (envsOf []) A.frames) = _
   rw [hF.frames]; rfl
 have hneL : oL.cls ≠ .type "tuple" /\ oL.cls ≠ .ref hvf /\ ¬ (oL.cls = .type "list" \/ oL.cls = .type "dict") := by rw [hcL]; exact ⟨by simp, by simp, by simp⟩
 have hdL : NotRec oL.data := fun vs e => by
  refine E33 hns2 ?_; clear hns2; intro o' _ _ ho' hd' _
  rw [hoL2] at ho'; cases ho'; rw [hd'] at e; cases e
 have colour : ∀ b, recol O 2 (fun _ => 0) b ≠ 0 -> O b := fun b h => (recol_ne h).resolve_right (by simp)
 have Lcol : recol O 2 (fun _ => 0) s.heap.objs.size = 0 := recol_out fun z => (hOL _ z).1 rfl
 have S : St ⟨C, A.over (.func body env) [], env, env :: fl, n, fun b => Oof g (recol O 2 fun _ => 0) b \/ Nw s' b⟩ (recol O 2 fun _ => 0) [(x0, .raw v)] [] s' := {
  base := F2.base
  col := fun b h => owD.o b (colour b h)
  new := fun b h => .inr h
  loc := ⟨_, hns2, fun x av h => by simp [List.lookup] at h⟩
  cel := fun x av h => by
   refine E02 (look1 h) ?_; rintro rfl rfl
   exact ⟨.inr hfree, a0, _, v, by rw [show env.cells = [(x, a0)] from hcl]; simp [List.lookup], recol_out hOa, hcell2, rfl, .of_rep (by rw [Rep])⟩
  frs := ⟨by show fd.scope.kind ≠ .module; rw [hkind]; nofun, ⟨_, oL, rfl, hnew, hoL2, hdL⟩, F2.frs⟩
  frf := fun en hen => by
   rcases List.mem_cons.mp hen with rfl | hen
   ·exact ⟨_, oL, rfl, hoL2, hcL⟩
   ·exact F2.frf en hen
  own := ⟨hnew, Lcol, .inl (.inr (.inl rfl))⟩ }
 have G : GSt g ⟨C, A.over (.func body env) [], env, env :: fl, n, fun b => Oof g (recol O 2 fun _ => 0) b \/ Nw s' b⟩ (recol O 2 fun _ => 0) (recol O 2 fun _ => 0) [(x0, .raw v)] [] [⟨false, v, xs, err⟩] OG OG s' s' := {
  C := rfl, env := rfl, n := rfl
  ok := .mk' hC hroomE.1 hroomE.2 ⟨fl, rfl⟩ hkind hgl hbi rfl
  S := S
  cW := fun a => Iff.rfl
  ag := .refl
  since := .refl
  its := ⟨O, OG, No, hI2, fun a h => recol_in h, fun j h => ⟨h, id⟩, fun j h => h.elim, trivial⟩
  og := fun i h => ⟨.inl h, owD.g i h⟩
  kk := fun a h => ⟨recol_out fun z => hKO a h z, owD.k a h⟩
  o0 := fun a h => by
   rcases h with h | ⟨x, h⟩
   ·subst h
    exact ⟨Lcol, hnew, ⟨oL, hoL2⟩, oL, hoL2, hneL⟩
   ·have h' : List.lookup x fd.closure = some a := h
    rw [hcl] at h'
    refine E02 (look1 h') ?_; rintro rfl rfl
    exact ⟨recol_out hOa, hcn, ⟨_, hcell2⟩, _, hcell2, by simp, by simp, by simp⟩ }
 have hY : OkY [] := fun x av h => by simp [List.lookup] at h
 have hYk : OkY [(x0, .raw v)] := fun x av h => by refine E02 (look1 h) ?_; rintro rfl rfl; rfl
 have ovk : OvOk g (.func body env) [] := fun A fl hr hA => by
  refine ⟨?_, hr.1, ?_, ?_⟩
  ·show pushEnvs (Code.func body env).envs (pushEnvs (envsOf []) A.frames) = _
   rw [hA]; rfl
  ·have := hr.2.1
   show A.depth + frameCount [] + (Code.func body env).weight + 3 * n + 20 <= 1000
   have e : (Code.func body env).weight = 1 := rfl
   have t : A.depth + 3 * (n + 1) + 20 <= 1000 := this
   rw [e]; simp [frameCount]; lia
  ·have := hr.2.2
   show A.units + unitsOf [] + (Code.func body env).cUnits + 30 * n + 300 <= 9900
   have e : (Code.func body env).cUnits = 3 := rfl
   have t : A.units + 30 * (n + 1) + 300 <= 9900 := this
   rw [e]; simp [unitsOf]; lia
 have hcells : env.cells = [(x0, a0)] := hcl
 have rsm : Rsm C (n + 1) err' K (.ret .none) (.func body env) (denote table (.func body env)) [] zs (Oof g (recol O 2 fun _ => 0)) OG s' :=
  ⟨G.owns, fun s1 W Gw e ap A fl hr F => func_rsm ok rfl (H env rfl hcells ok) A fl _ _ _ OG OG s1 s1 hr F rfl rfl (G.again ok hY hYk e ap hr F ovk)⟩
 have hIg : s'.heap.IsGen h'.objs.size s.gens.size := ⟨_, .str fd.name tk, .str fd.qualname (tk + 1), by rw [hheap]; exact Heap.get?_push_size _ rfl, rfl, rfl, rfl⟩
 have hga : C.h₁.get? h'.objs.size = none := Fw.base.gone (get_fresh _)
 have nOof : ¬ Oof g (recol O 2 fun _ => 0) h'.objs.size := fun z => by
  rcases z with z | z | ⟨x, z⟩
  ·exact (hOL _ (colour _ z)).2 rfl
  ·exact Nat.ne_of_gt hLlt z
  ·have h' : List.lookup x fd.closure = some _ := z
   rw [hcl] at h'
   refine E02 (look1 h') fun _ h2 => ?_
   exact Nat.ne_of_lt (Heap.lt_size (hkeep _ _ hco')) h2.symm
 have hgl : s'.gens[s.gens.size]? = some (.fresh (.func body env)) := by rw [hgens]; simp
 have str := gen_str hC (.inr rfl) zs (Oof g (recol O 2 fun _ => 0)) OG s' (.fresh (.func body env)) (.func body env) _ [] hIg hga nOof (fun z => by have := hI.1.g _ z; lia) (fun z => (hKL _ z).2 rfl) hgl (.inl ⟨rfl, rfl, rfl⟩) rfl rsm
 have itb := itb_gen hC hIg hga (.inr rfl) str
 refine k _ s' _ _ eD (fun b hb => ?_) (fun i hi => ?_) (fun b hb hz => ?_) itb ⟨_, hIg⟩
 ·rcases hb with (hb | hb | ⟨x, hb⟩) | hb
  ·exact .inl (colour b hb)
  ·have hb' : b = s.heap.objs.size := hb
   exact .inr (.inl (by rw [hb']; exact get_fresh _))
  ·have h' : List.lookup x fd.closure = some b := hb
   rw [hcl] at h'
   refine E02 (look1 h') fun _ h2 => ?_
   exact .inr (.inr h2)
  ·exact .inr (.inl (by rw [hb]; exact ew.gone (get_fresh h')))
 ·rcases hi with hi | hi
  ·exact .inl hi
  ·exact .inr (by lia)
 ·rcases hz with (hz | hz | ⟨x, hz⟩) | hz
  ·exact hKO b hb (colour b hz)
  ·exact (hKL b hb).1 hz
  ·have h' : List.lookup x fd.closure = some b := hz
   rw [hcl] at h'
   refine E02 (look1 h') fun _ h2 => ?_
   refine E12 (hI.1.k b hb) fun o' ho' hc' => ?_
   rw [h2, hco'] at ho'; cases ho'; exact absurd hc' (by simp)
  ·exact (hKL b hb).2 hz
section
variable {C : Cx} {W W' : Addr -> Prop} {G G' : Nat -> Prop} {s s' s'' : Shared}
theorem CodeC.ev {cv : Value} {q : Str} (x : CodeC s.heap cv q) (B : Base C s.heap) (e : Ev C W G s s') (hw : ∀ a o, W a -> s.heap.get? a = some o -> o.cls ≠ .type "code") : CodeC s'.heap cv q := by
 refine E44 x ?_; clear x; intro c oc vs t y1 y2 y3 y4
 refine E12 (e.kp c oc y2 (fun h => hw c oc h y2 y3) (notT_cls B y2 (by rw [y3]; simp))) fun o' ho' z => ?_
 rw [z.eq (by rw [y3]; simp)] at ho'
 exact ⟨c, oc, vs, t, y1, ho', y3, y4⟩
theorem functionCode_any {A : Around} {E : VP} (hc : C.Ok) (B : Base C s.heap) {env : Env} {p : Addr × Addr} (hp : p ∈ C.tabs) (hcode : env.code = .ref p.1) {name : Str} {fl : Nat} {params : Arguments} {scope : Scope} {body : FuncBody}
  {Q : VP} (k : ∀ cv s', Ev C No No s s' -> s'.gens = s.gens -> CodeC s'.heap cv C.iq -> Q cv s') : wpAny (model C.prog C.w) A (functionCode env C.ip fl name C.iq params scope body) Q E s := by
 refine E14 (B.tableAt hc hp) fun ps i ta t z => ?_
 cases hnf : codeAmong C.ip ps.toList with
 | some cv => exact wpAny_functionCode_hit hcode i hnf (k cv s .refl rfl (z cv hnf))
 | none =>
  refine wpAny_functionCodeX hcode i ta hnf fun c' h' tk hx hc1 hc2 i' hrec ta' hnew => ?_
  refine E13 hnew ?_; clear hnew; rintro P' _ _ ⟨⟨oc, vc, g1, g2, g3, _⟩, _⟩
  refine E44 hrec ?_; clear hrec; intro cD oz vs2 tD q1 q2 q3 q4
  cases q1
  rw [g1] at q2; cases q2
  have cc : CodeC h' (.ref c') C.iq := ⟨c', oc, vs2, tD, rfl, g1, g2, q3, q4⟩
  refine k _ _ (.grow hc hp t hx i' ta'.2 fun _ cv e => ?_) rfl cc
  have hl : (ps ++ #[rawInt C.ip.line, rawInt C.ip.col, Value.ref c']).toList = ps.toList ++ [rawInt C.ip.line, rawInt C.ip.col, .ref c'] := by simp
  rw [hl, codeAmong_snoc _ (isCode_triples i) hnf] at e
  cases e
  exact cc
theorem makeFn_any {A : Around} {E : VP} (hc : C.Ok) (B : Base C s.heap) {env : Env} {p : Addr × Addr} (hp : p ∈ C.tabs) (hcode : env.code = .ref p.1) (hg : env.globals = 3) {name : Str} {fl : Nat} {params : Arguments} {scope : Scope} {body : List Stmt} {x0 : Str} {a0 : Addr}
  (hcl : closureFor scope env = pure [(x0, a0)]) (hdoc : docOf body = none)
  {Q : VP} (k : ∀ (a : Addr) (o : Obj) pm cv ctv s', Ev C No No s s' -> s'.gens = s.gens -> Nw s a -> s'.heap.get? a = some o -> o.cls = .type "function" -> o.data = .func (fnX name C.iq params body scope [(x0, a0)] .none .none .none pm none cv ctv) -> CodeC s'.heap cv C.iq -> Q (.ref a) s') :
  wpAny (model C.prog C.w) A (makeFunction name C.iq params (.stmts body) scope env [] [] [] C.ip fl) Q E s := by
 rw [makeFunction_eq]
 simp only [List.zip_nil_right, List.filterMap_nil, List.isEmpty_nil, if_true, pure_bind]
 unfold makeTail
 rw [hcl, hg]
 refine wB (wP ?_)
 simp only [List.isEmpty_cons, Bool.false_eq_true, if_false]
 refine wB (wpAny_newTextTuple ?_)
 generalize hs1 : ({ s with heap := s.heap.push { cls := .type "tuple", data := .seq _ } } : Shared) = s1
 have ew : Ev C No No s s1 := by rw [<- hs1]; exact .keep fun _ _ e => gP _ e
 have hg1 : s1.gens = s.gens := by rw [<- hs1]
 refine wB (functionCode_any hc (ew.bs B) hp hcode fun cv s2 eD hg2 cc => ?_)
 have B2 := eD.bs (ew.bs B)
 refine E27 hc.bim fun bm ob b1 b2 b3 b4 b5 b6 b7 => ?_
 refine wB (wpAny_builtinsFor (B2.gns hc) b1 b2 (B2.old _ _ b4 b3) b5 b6 b7 ?_)
 refine wB (wpAny_nsGet (B2.gns hc) ?_)
 rw [hdoc]
 refine wB (wP (wpAny_newObj_type ?_ (by size_fits)))
 have eH : ∀ o, Ev C No No s2 { s2 with heap := s2.heap.push o } := fun o => .keep fun _ _ e => gP _ e
 refine k _ _ _ cv _ _ ((ew.tr eD).tr (eH _)) (hg2.trans hg1) ((ew.tr eD).gone (get_fresh _)) (Heap.get?_push_size _ rfl) rfl rfl ?_
 refine E43 cc ?_; clear cc; intro c oc vs t y1 y2 y3
 exact ⟨c, oc, vs, t, y1, gP _ y2, y3⟩
end
section
variable {c : Ac} {Z U : Env1}
theorem ev_cell (hc : c.EOk) {x : Str} {p : Pos} {av : AV} (h : Z.lookup x = some av) (hd : (x == ("__debug__" : Str)) = false) (hcd : (x == ("__classdict__" : Str)) = false := by decide) : EV c Z U (.Name x p) av := fun q s S Q E k => by
 obtain ⟨hk, a, o, v, h1, hqa, h2, h3, r⟩ := S.cel x av h
 rcases hk with hk | hk
 ·exact wpAny_Name (wpAny_loadName_cell hc.kind hk h1 ⟨o, h2, h3⟩ (k v s .refl r)) hd
 ·exact wpAny_Name (wpAny_loadName_free hc.kind hk h1 ⟨o, h2, h3⟩ (k v s .refl r) hcd) hd
end
theorem pf_path {C : Cx} {fa : Addr} {fd : FuncData} {hn fln iname sk x : Str} {dx : Str} {dk : Nat} {dp dp' sp spos itp px px2 gp gpos rp ip' np cp rp' : Pos} {iparams : Arguments} {ibody : List Stmt} {iscope gscope : Scope} {se : Expr} {fv : AV} {b : Bool} {zs xs : List AV} {err err' : Bool} {p : Addr × Addr} {pre post : List (Str × NameKind)}
  (hC : C.Ok) (F : FnAt C fa fd [.Expr (.Constant (.str dx) dk dp) dp', .FunctionDef iname iparams ibody [] none [] iscope none iname C.ip, .Assign [.Name sk sp] se spos, .If (.Name sk itp) [.Return (some (.GeneratorExp (.Name x px) [⟨.Name x px2, .Name hn gp, [], 0⟩] gscope gpos)) rp] [] ip', .Return (some (.Call (.Name iname np) [] [] cp)) rp'])
  (hg : fd.scope.isGenerator = false) (hp : p ∈ C.tabs) (hcode : fd.code = .ref p.1)
  (hnm : fd.scope.names = pre ++ (hn, .cell) :: post) (hpre : ∀ x ∈ pre, x.2 ≠ .cell) (hpost : ∀ x ∈ post, x.2 ≠ .cell) (hhn : fd.scope.names.lookup hn = some .cell) (hfl : fd.scope.names.lookup fln = some .local) (hsk : fd.scope.names.lookup sk = some .local) (hin : fd.scope.names.lookup iname = some .local)
  (hcl0 : fd.closure = []) (hb : ∀ v u : Value, bindArgs fd ⟨[v, u], []⟩ = pure [(hn, v), (fln, u)]) (hfv : fv.nl = true)
  (hiq : fd.qualname ++ ".<locals>." ++ iname = C.iq)
  (hd0 : iparams.defaults = []) (hk0 : iparams.kw_defaults = []) (hann : ∀ env, annTrees iparams none env = []) (hdoc : docOf ibody = none)
  (hico : iscope.isCoroutine = false) (hig : iscope.isGenerator = true) (hik : iscope.kind = .function) (hic : ∀ x ∈ iscope.names, x.2 ≠ .cell) (hif : iscope.names.lookup hn = some .free)
  (hclos : ∀ (env : Env) a0, env.cells = [(hn, a0)] -> closureFor iscope env = pure [(hn, a0)])
  (hib : ∀ q cl doc pm an cv ct, bindArgs (fnX iname q iparams ibody iscope cl .none .none doc pm an cv ct) ⟨[], []⟩ = pure [])
  (hgpos : ¬ (gpos.line = C.ip.line /\ gpos.col = C.ip.col)) (hgco : gscope.isCoroutine = false) (hgf : ∀ x ∈ gscope.names, x.2 ≠ .free) (hgcell : ∀ y ∈ gscope.names, y.2 ≠ .cell) (hg0 : gscope.names.lookup (".0" : Str) = some NameKind.local) (hgx : gscope.names.lookup x = some NameKind.local) (hgd : (x == ("__debug__" : Str)) = false) (hgk : gscope.kind = .function)
  (dh : (hn == ("__debug__" : Str)) = false) (dch : (hn == ("__classdict__" : Str)) = false) (ds : (sk == ("__debug__" : Str)) = false) (di : (iname == ("__debug__" : Str)) = false) (dsi : iname ≠ sk) (dfi : fln ≠ iname)
  (hsw : ∀ env, swapsWith se (some (.Name sk sp)) spos.line env = pure false)
  (hse : ∀ c : Ac, c.Ok -> c.C = C -> c.env.scope = fd.scope -> 2 <= c.n -> ∀ Z U, U.lookup fln = some fv -> EV c Z U se (.bool b)) (hnl : nlL xs)
  (hskip : b = true -> zs = xs /\ err' = err)
  (H : b = false -> ∀ n K v a0 env, env.scope = iscope -> env.cells = [(hn, a0)] -> (⟨C, n, err', K, .ret .none, env⟩ : Gk).Ok -> GX ⟨C, n, err', K, .ret .none, env⟩ [(hn, .raw v)] [] [⟨false, v, xs, err⟩] ibody zs fun _ _ zs' => zs' = [] /\ err' = false) :
  PF C 3 2 (.ref fa) [fv] xs err zs err' := fun n A fl s v us K O OG hr hF hI hKO rl Q E hQ => by
 refine E12 F.ho fun o hoB hdat => ?_
 have ho := hF.base.old _ _ hoB F.at'
 obtain ⟨u, rfl, ru⟩ : ∃ u, us = [u] /\ R0 s.heap fv u := by
  cases us with
  | nil => unfold R0L at rl; rw [RepL] at rl; exact rl.elim
  | cons u us => cases us with
   | nil => unfold R0L at rl; rw [RepL] at rl; exact ⟨u, rfl, rl.1⟩
   | cons _ _ => unfold R0L at rl; rw [RepL] at rl; have := rl.2; rw [RepL] at this; exact this.elim
 refine wpAny_call (codeAny_call_function hr.d ho hdat F.co hg F.body (F.codeRec hF.base) ?_)
 rw [hb v u]
 refine wP (newEnv1 hnm hpre hpost hhn (fun x hx => by
  rcases List.mem_cons.mp hx with rfl | hx
  ·exact hfl
  ·cases hx) F.kind fun h' tk hns hclF hcell hkeep => ?_)
 have ew : Ev C No No s { s with heap := h', toks := tk } := .keep hkeep
 have Fw := hF.ev ew
 refine ⟨Fw.base.lim hC, codeAny_func ?_⟩
 have hnew : C.h₁.get? s.heap.objs.size = none := hF.base.gone (get_fresh _)
 let env := newEnv fd.scope s.heap.objs.size fd.globals ((hn, s.heap.objs.size + 1) :: fd.closure) (fd.qualname ++ ".<locals>.") (some fa) fd.code none fd.builtins
 let c : Ac := ⟨C, A.deeper env, env, env :: fl, n + 2, Nw s⟩
 have hc : c.Ok := .mk' hC (hr.deep env) (by show A.frames.map _ = _; rw [hF.frames]; rfl) ⟨fl, rfl⟩ F.kind F.g F.b rfl
 have hcells : c.env.cells = [(hn, s.heap.objs.size + 1)] := by show (hn, s.heap.objs.size + 1) :: fd.closure = _; rw [hcl0]
 have gone1 : s.heap.get? (s.heap.objs.size + 1) = none := by
  cases e : s.heap.get? (s.heap.objs.size + 1) with
  | none => rfl
  | some ob => exact absurd (Heap.lt_size e) (Nat.not_lt.mpr (Nat.le_succ _))
 have hnewA : C.h₁.get? (s.heap.objs.size + 1) = none := hF.base.gone gone1
 refine E12 hclF ?_; clear hclF; intro oL hoL hcL
 have hI1 := hI.ev ew .no
 have hOL : ∀ b, O b -> b ≠ s.heap.objs.size /\ b ≠ s.heap.objs.size + 1 := fun b hb => by
  obtain ⟨_, o', ho', _⟩ := hI.1.o b hb
  exact ⟨Nat.ne_of_lt (Heap.lt_size ho'), Nat.ne_of_lt (Nat.lt_succ_of_lt (Heap.lt_size ho'))⟩
 have colour : ∀ b, recol O 2 (fun _ => 0) b ≠ 0 -> O b := fun b h => (recol_ne h).resolve_right (by simp)
 have Lcol : recol O 2 (fun _ => 0) s.heap.objs.size = 0 := recol_out fun z => (hOL _ z).1 rfl
 have Acol : recol O 2 (fun _ => 0) (s.heap.objs.size + 1) = 0 := recol_out fun z => (hOL _ z).2 rfl
 have S : St c (recol O 2 fun _ => 0) [(hn, .raw v)] [(fln, fv)] { s with heap := h', toks := tk } := {
  base := Fw.base
  col := fun b h => hI1.1.o b (colour b h)
  new := fun b h => ew.gone h
  loc := ⟨_, hns, fun x av h => by
   refine E02 (look1 h) ?_; rintro rfl rfl
   refine ⟨hfl, u, by simp [List.lookup], .of_rep (R0.rep (ru.ev ew hF.base fun _ _ h => h.elim)), fun z => by rw [AV.nl_ow hfv] at z; cases z⟩⟩
  cel := fun x av h => by
   refine E02 (look1 h) ?_; rintro rfl rfl
   exact ⟨.inl hhn, _, _, v, by rw [hcells]; simp [List.lookup], Acol, hcell, rfl, .of_rep (by rw [Rep])⟩
  frs := ⟨by show fd.scope.kind ≠ .module; rw [F.kind]; nofun, ⟨_, oL, rfl, hnew, hoL, fun vs e => by refine E33 hns ?_; clear hns; intro o' _ _ ho' hd' _; rw [hoL] at ho'; cases ho'; rw [hd'] at e; cases e⟩, Fw.frs⟩
  frf := fun en hen => by
   rcases List.mem_cons.mp hen with rfl | hen
   ·exact ⟨_, oL, rfl, hoL, hcL⟩
   ·exact Fw.frf en hen
  own := ⟨hnew, Lcol, get_fresh _⟩ }
 generalize hs1 : ({ s with heap := h', toks := tk } : Shared) = s1 at ew Fw hI1 S
 have hcell1 : s1.heap.get? (s.heap.objs.size + 1) = some { cls := .type "cell", data := .cell (some v) } := by rw [<- hs1]; exact hcell
 have hO : ∀ a, O a -> recol O 2 (fun _ => 0) a = 2 := fun a h => recol_in h
 have hK : ∀ a, K a -> recol O 2 (fun _ => 0) a = 0 := fun a h => recol_out (hKO a h)
 show wpAny _ c.A (execs _ c.env) _ _ s1
 refine wpAny_execs_cons (wpAny_Expr_any (wp_doc (C := C) fun _ s2 eD => ?_) (inter_f F.kind) rfl)
 have S2 := S.ev eD
 refine wpAny_execs_cons (nestDef_K hd0 hk0 (hann _) ?_)
 have hq : qualnameIn c.env iname iname = C.iq := by
  have hk : c.env.kindOf iname = some .local := hin
  unfold qualnameIn
  rw [hk]
  exact hiq
 rw [hq]
 refine makeFn_any hC S2.base hp hcode F.g (hclos c.env _ hcells) hdoc fun f of pm cv ctv s3 eH _ hf hof hofc hofd hrec => ?_
 have S3 := S2.ev eH
 refine S3.store hc hin (av := .raw (.ref f)) (.of_rep (by rw [Rep])) (fun z => by cases z) fun s4 eJ S4 => ?_
 refine wpAny_execs_cons (wpAny_Assign_Name (hse c hc rfl rfl (Nat.le_add_left 2 n) _ _ ?_ _ s4 S4 fun bv s5 e5 r5 => ?_) (hsw _))
 ·rw [up_lookup, if_neg dfi]; simp [List.lookup]
 obtain rfl : bv = .bool b := r5
 have S5 := S4.ev e5
 refine S5.store hc hsk (av := .bool b) (.of_rep (by rw [Rep])) (fun z => by cases z) fun s6 e6 S6 => ?_
 have hlk : (up sk (.bool b) (up iname (.raw (.ref f)) [(fln, fv)])).lookup sk = some (.bool b) := up_self
 refine wpAny_execs_cons (wpAny_If (et_val (ev_local hc.e hlk ds) opt_bool (by rfl) _ s6 S6 fun s7 e7 => ?_))
 have S7 := S6.ev e7
 have e4w : Ev C (· = c.env.locals) No s3 s4 := eJ
 have e6w : Ev C (· = c.env.locals) No s5 s6 := e6
 have e14 : Ev C (· = c.env.locals) No s1 s4 := ((eD.tr eH).up (W := (· = c.env.locals)) (G := No)).tr e4w
 have e17 : Ev C (· = c.env.locals) No s1 s7 := (e14.tr (e5.up.tr e6w)).tr e7.up
 have apL : ∀ {s' : Shared} (S' : ∃ Z U, St c (recol O 2 fun _ => 0) Z U s'), Ev C (· = c.env.locals) No s1 s' -> Apart O K (· = c.env.locals) OG No s'.heap := fun {s'} ⟨Z, U, S'⟩ e => by
  have ap := pAp hc S' (hI1.1.ev e) hO hK
  exact ap.sub fun a h => ⟨by subst h; exact S'.own.2.2, .inr h⟩
 have hI7 : Itb C n err K v xs O OG s7 := by
  have h4 := (hI1.ev (eD.tr eH) .no).ev e4w (apL ⟨_, _, S3⟩ ((eD.tr eH).up))
  exact ((h4.ev e5 .no).ev e6w (apL ⟨_, _, S5⟩ (e14.tr e5.up))).ev e7 .no
 have e07 : Ev C No No s s7 := ew.trans e17 (fun a h => .inr (by subst h; exact get_fresh _)) (fun _ h => h.elim)
 have hcell7 : s7.heap.get? (s.heap.objs.size + 1) = some { cls := .type "cell", data := .cell (some v) } := by
  refine E12 (e17.kp _ _ hcell1 (Nat.ne_of_gt (Nat.lt_succ_self _)) (Base.noT hC hnewA)) fun o' ho' z => ?_
  rw [z.eq (by simp)] at ho'
  exact ho'
 have hQ7 : ∀ a s' O' OG', Ev C (Wq c (recol O 2 fun _ => 0)) No s7 s' -> (∀ b, O' b -> O b \/ Nw s b) -> (∀ i, OG' i -> OG i \/ s7.gens.size <= i) -> (∀ b, K b -> ¬ O' b) -> Itb C (n + 2) err' K (.ref a) zs O' OG' s' -> (∃ gi, s'.heap.IsGen a gi) -> Q (.ref a) s' := fun a s' O' OG' ev h1 h2 h3 h4 h5 =>
  hQ a s' O' OG' (e07.trans ev (fun b hb => .inr hb.1) (fun _ h => h.elim)) h1 (fun i hi => (h2 i hi).imp id fun z => Nat.le_trans e07.gz z) h3 h4 h5
 cases b with
 | true =>
  refine E02 (hskip rfl) ?_; rintro rfl rfl
  refine px_genexp (Z := fun w => [(hn, .raw w)]) (U := fun _ => up sk (.bool true) (up iname (.raw (.ref f)) [(fln, fv)])) hc hp hcode hgpos hgco (closureFor_none hgf) hgcell hg0 hgx hgd hgk (fun w => ev_cell hc.e (by simp [List.lookup]) dh dch) hnl (Nat.le_succ _) (by intro _; rfl) _ v K O OG s7 ⟨S7, hI7, hO, hK⟩ _ _ fun a s' O' OG' ev h1 h2 h3 h4 h5 => ?_
  exact hQ7 a s' O' OG' ev (fun b hb => (h1 b hb).imp id fun z => e07.gone z) h2 h3 h4 h5
 | false =>
  refine wpAny_execs_nil (wpAny_execs_cons (wpAny_Return_some (Call_Name0 ?_)))
  have hlf : (up sk (.bool false) (up iname (.raw (.ref f)) [(fln, fv)])).lookup iname = some (.raw (.ref f)) := by rw [up_lookup, if_neg dsi, up_self]
  refine ev_local hc.e hlf di _ s7 S7 fun fv' s8 e8 r8 => ?_
  obtain rfl : fv' = .ref f := r8
  have hfB : C.h₁.get? f = none := (S2.base).gone hf
  have fne : f ≠ s.heap.objs.size := fun z => by
   refine E12 (eD.al _ _ (show s1.heap.get? s.heap.objs.size = some oL by rw [<- hs1]; exact hoL)) fun o' ho' _ => ?_
   have hf' : s2.heap.get? f = none := hf
   rw [z, ho'] at hf'; cases hf'
  have e38 : Ev C (· = c.env.locals) No s3 s8 := ((e4w.tr (e5.up.tr e6w)).tr e7.up).tr e8.up
  have hof8 : s8.heap.get? f = some of := by
   refine E12 (e38.kp _ _ hof fne (Base.noT hC hfB)) fun o' ho' z => ?_
   rw [z.eq (by rw [hofc]; simp)] at ho'
   exact ho'
  have hrec8 : CodeC s8.heap cv C.iq := hrec.ev S3.base e38 fun a o' h ho' => by
   subst h
   refine E12 (S3.locC hc) fun oF hoF hcF => ?_
   rw [hoF] at ho'; cases ho'; rw [hcF]; simp
  have e08 := e07.tr e8
  have hI8 := hI7.ev e8 .no
  refine callWith_F0 (env := c.env) (first := []) ⟨of.cls, of.dict, _, of.slots, hof8.trans (by cases of; cases hofd; rfl)⟩ ?_
  show wpAny _ c.A (call (.ref f) []) _ _ s8
  refine gen_callC (n := n) hC hof8 hofd hico hik rfl rfl rfl hrec8.rec hig hic (hib _ _ _ _ _ _ _) rfl hif hnewA (by
   refine E12 (e8.kp _ _ hcell7 id (Base.noT hC hnewA)) fun o' ho' z => ?_
   rw [z.eq (by simp)] at ho'
   exact ho') (fun z => (hOL _ z).2 rfl) hc.room ((S7.ev e8).fx hc.e) hI8 hKO (fun env h1 h2 ok => H rfl n K v _ env h1 h2 ok) fun a s' O' OG' ev h1 h2 h3 h4 h5 => ?_
  refine hQ7 a s' O' OG' (e8.tr ev).up (fun b hb => ?_) (fun i hi => (h2 i hi).imp id fun z => Nat.le_trans e8.gz z) h3 h4 h5
  rcases h1 b hb with z | z | z
  ·exact .inl z
  ·exact .inr (e08.gone z)
  ·exact .inr (by rw [z]; exact gone1)
section
variable {C : Cx} {n : Nat} {err : Bool} {K : Addr -> Prop} {A : Around} {fl : List Env} {it : Value} {D : Addr}
theorem Room.two {n : Nat} {A : Around} (r : Room (n + 1) A) : Room n A.in1.in1 := ⟨r.1, by have := r.2.1; show A.depth + 3 * n + 20 <= 1000; lia, by have := r.2.2; show A.units + 1 + 1 + 30 * n + 300 <= 9900; lia⟩
theorem Fx.in1 {s : Shared} (F : Fx C A fl s) : Fx C A.in1 fl s := ⟨F.ok, F.base, F.frames, F.frs, F.frf⟩
noncomputable abbrev lobj (acc : Array Value) (k : Nat) : Obj := { cls := .type "list", dict := none, data := .seq acc k, slots := #[] }
theorem ext_loop (hC : C.Ok) (hr : Room n A.in1) {res : Value} {R : Result -> Shared -> Prop} (hn : C.h₁.get? D = none) (hK : ¬ K D) :
  ∀ (xs : List AV) (ys : List AV) (acc : Array Value) (k : Nat) (O : Addr -> Prop) (OG : Nat -> Prop) (s : Shared), Fx C A.in1 fl s -> StrS C n err K it xs O OG s -> s.heap.get? D = some (lobj acc k) -> R0L s.heap ys acc.toList -> ¬ O D -> (ys ++ xs).length <= 1000000 ->
   (err = false -> ∀ s' acc' k', Ev C (fun a => a = D \/ O a) OG s s' -> s'.heap.get? D = some (lobj acc' k') -> R0L s'.heap (ys ++ xs) acc'.toList -> R (.ok (.ret res)) s') ->
   (err = true -> ∀ x s', Ev C (fun a => a = D \/ O a) OG s s' -> Exn (Nw s) s'.heap true x -> R (.error x) s') ->
   codeAny (model C.prog C.w) A (.builtin "list.extend.loop" ⟨[.ref D, it, res], []⟩) R s
 | [], ys, acc, k, O, OG, s, F, hS, hD, rl, hOD, hlen, h1, h2 => by
  refine codeAny_builtin PySem.F.entry_extend_loop ?_
  rw [Around.under_plainId PySem.F.plain_extend_loop _]
  show wpAny _ A.in1 (pyNext it >>= _) _ _ s
  have ow := hS.owns
  have t : ∀ a o, O a -> s.heap.get? a = some o -> o.cls ≠ .type "tuple" /\ o.cls ≠ .ref hvf := fun a o h ho => by
   obtain ⟨_, o', ho', h3⟩ := ow.o a h
   rw [ho] at ho'; cases ho'; exact h3
  have keepD : ∀ {s'}, Ev C O OG s s' -> s'.heap.get? D = some (lobj acc k) := fun {s'} e => by
   refine E12 (e.kp D _ hD hOD (Base.noT hC hn)) fun o' ho' z => ?_
   rw [z.eq (by simp)] at ho'
   exact ho'
  refine wB (hS.2 s No No .refl .no _ _ hr F _ _ (fun he s2 e => ?_) fun he x s2 e X => ?_)
  ·refine wP (h1 he s2 acc k (e.mono (fun a h => .inl (.inr h)) fun i h => .inl h) (keepD e) ?_)
   rw [List.append_nil]
   exact rl.ev e F.base t
  ·exact h2 he x s2 (e.mono (fun a h => .inl (.inr h)) fun i h => .inl h) X
 | x :: xs, ys, acc, k, O, OG, s, F, hS, hD, rl, hOD, hlen, h1, h2 => by
  refine codeAny_builtin PySem.F.entry_extend_loop ?_
  rw [Around.under_plainId PySem.F.plain_extend_loop _]
  show wpAny _ A.in1 (pyNext it >>= _) _ _ s
  have ow := hS.owns
  have t : ∀ a o, O a -> s.heap.get? a = some o -> o.cls ≠ .type "tuple" /\ o.cls ≠ .ref hvf := fun a o h ho => by
   obtain ⟨_, o', ho', h3⟩ := ow.o a h
   rw [ho] at ho'; cases ho'; exact h3
  refine wB (hS.2 s No No .refl .no _ _ hr F _ _ fun v s2 O' OG' e r0 hO hG hS' => ?_)
  refine E12 (e.kp D _ hD hOD (Base.noT hC hn)) fun o' ho' z => ?_
  rw [z.eq (by simp)] at ho'
  have hD2 : s2.heap.get? D = some (lobj acc k) := ho'
  have hal : acc.size = ys.length := by have := RepL.length rl; simpa using this
  have hOD' : ¬ O' D := fun h => by
   rcases hO D h with y | y
   ·exact hOD y
   ·have y' : s.heap.get? D = none := y; rw [hD] at y'; cases y'
  show wpAny _ A.in1 (updateSeq D (·.push v) >>= _) _ _ _
  refine wB ?_
  have hl2 : ys.length + (xs.length + 1) <= 1000000 := by simpa using hlen
  refine wpAny_updateSeq (f := fun (x : Array Value) => x.push v) hD2 rfl (wP ⟨plainId_quiet PySem.F.plain_extend_loop _, ?_⟩) (by rw [sizeLine_eq]; omega) (by show (acc.push v).size <= sizeLine + 1; rw [Array.size_push, sizeLine_eq]; omega)
  have hD3 := Heap.get?_update_self (Obj.mapSeq (fun x => x.push v)) hD2 rfl
  have eH : Ev C (· = D) No s2 { s2 with heap := s2.heap.update D (Obj.mapSeq fun x => x.push v) } := .upd hC hD2 hn rfl rfl (fun _ vs e => by cases e) (by simp)
  have tH : ∀ a o, a = D -> s2.heap.get? a = some o -> o.cls ≠ .type "tuple" /\ o.cls ≠ .ref hvf := fun a o h ho => by subst h; rw [hD2] at ho; cases ho; exact ⟨by simp, by simp⟩
  have B2 := e.bs F.base
  have ap3 : Apart O' K (· = D) OG' No s2.heap := ⟨fun a h => by subst h; exact ⟨hOD', hK⟩, tH, fun _ h => h.elim⟩
  have rl3 : R0L (s2.heap.update D (Obj.mapSeq fun x => x.push v)) (ys ++ [x]) (acc.push v).toList := by
   have r1 : R0L (s2.heap.update D (Obj.mapSeq fun x => x.push v)) ys acc.toList := R0L.ev (s := s2) (s1 := { s2 with heap := s2.heap.update D (Obj.mapSeq fun x => x.push v) }) (rl.ev e F.base t) eH B2 tH
   have r2 : R0 (s2.heap.update D (Obj.mapSeq fun x => x.push v)) x v := R0.ev (s := s2) (s1 := { s2 with heap := s2.heap.update D (Obj.mapSeq fun x => x.push v) }) r0 eH B2 tH
   rw [Array.toList_push]
   exact RepL.app r1 (by rw [RepL]; exact ⟨r2, by rw [RepL]; trivial⟩)
  have comb : ∀ {s'}, Ev C (fun a => a = D \/ O' a) OG' { s2 with heap := s2.heap.update D (Obj.mapSeq fun x => x.push v) } s' -> Ev C (fun a => a = D \/ O a) OG s s' := fun {s'} eJ => by
   have ew : Ev C (fun a => a = D \/ O a) OG s s2 := e.mono (fun a h => .inl (.inr h)) fun i h => .inl h
   have eD : Ev C (fun a => a = D \/ O a) OG s { s2 with heap := s2.heap.update D (Obj.mapSeq fun x => x.push v) } := ew.trans eH (fun a h => .inl (.inl h)) (fun _ h => h.elim)
   exact eD.trans eJ (fun a h => by
    rcases h with h | h
    ·exact .inl (.inl h)
    ·rcases hO a h with y | y
     ·exact .inl (.inr y)
     ·exact .inr y) (fun i h => hG i h)
  refine ext_loop hC hr hn hK xs (ys ++ [x]) (acc.push v) _ O' OG' _ ((F.ev e).ev eH) (hS'.ev eH ap3) hD3 rl3 hOD' (by simpa using hlen) (fun he s' acc' k' eJ hD4 rl4 => ?_) fun he x s' eJ X => ?_
  ·exact h1 he s' acc' k' (comb eJ) hD4 (by simpa using rl4)
  ·refine h2 he x s' (comb eJ) (X.mono fun a _ _ h => e.gone (eH.gone h))
theorem list_call (hC : C.Ok) {a g : Addr} {xs : List AV} {O : Addr -> Prop} {OG : Nat -> Prop} {s : Shared} (hr : Room (n + 1) A) (F : Fx C A fl s) (hig : s.heap.IsGen a g) (I : Itb C n err K (.ref a) xs O OG s) (hlen : xs.length <= 1000000) {Q : VP} {E : VP}
  (h1 : err = false -> ∀ D vs s', Ev C O OG s s' -> Nw s D -> s'.heap.IsList D ⟨vs⟩ -> R0L s'.heap xs vs -> Q (.ref D) s') (h2 : err = true -> ∀ x s', Ev C O OG s s' -> Exn (Nw s) s'.heap true x -> E x s') :
  wpAny (model C.prog C.w) A (call (.type "list") [.ref a]) Q E s := by
 refine callType_codes (Q₁ := fun obj s1 => obj = .ref s.heap.objs.size /\ s1 = { s with heap := s.heap.push { cls := .type "list", data := .seq #[] } }) PySem.F.called_list (PySem.F.typeCall_list_1 _) PySem.F.entry_list_init
  (code_list_new _ ⟨rfl, rfl⟩) fun obj s1 h₁ => ?_
 refine E02 h₁ ?_; clear h₁; rintro rfl rfl
 have hS : (s.heap.push { cls := .type "list", data := .seq #[] }).get? s.heap.objs.size = some { cls := .type "list", data := .seq #[] } := Heap.get?_push_size _ rfl
 refine ⟨⟨_, hS, rfl⟩, PySem.F.args_list_init_2 _ _, ?_⟩
 have hn : C.h₁.get? s.heap.objs.size = none := F.base.gone (get_fresh _)
 have hDa : s.heap.objs.size ≠ a := fun z => by
  refine E32 hig ?_; clear hig; intro o nm qn ho _
  exact absurd (Heap.lt_size ho) (by rw [<- z]; exact Nat.lt_irrefl _)
 generalize hD : s.heap.objs.size = D at *
 have hgone : Nw s D := by rw [<- hD]; exact get_fresh _
 have ew : Ev C No No s { s with heap := s.heap.push { cls := .type "list", data := .seq #[] } } := .keep fun _ _ e => gP _ e
 have hga := hig.push { cls := .type "list", data := .seq #[] }
 show wpAny _ A.in1.in1 (do let old <- Builtin.List.listItems (.ref D); Builtin.List.listUpdate (.ref D) (fun _ => #[]); letGo old.toList.reverse; Builtin.List.listExtendWith (.ref D) (.ref a) .none) _ _ _
 refine wB ?_
 unfold Builtin.List.listItems
 refine wB (wpAny_seqItems hS rfl (wP ?_))
 show wpAny _ A.in1.in1 (updateSeq D (fun _ => #[]) >>= fun _ => letGo (#[] : Array Value).toList.reverse >>= fun _ => Builtin.List.listExtendWith (.ref D) (.ref a) .none) _ _ _
 refine wB (wpAny_updateSeq hS rfl ?_)
 have hS2 := Heap.get?_update_self (Obj.mapSeq (fun _ => (#[] : Array Value))) hS rfl
 refine wB (wpAny_letGo ?_)
 have oth : ∀ b o, b ≠ D -> s.heap.get? b = some o -> ((s.heap.push { cls := .type "list", data := .seq #[] }).update D (Obj.mapSeq (fun _ => (#[] : Array Value)))).get? b = some o :=
  fun b o hb e => (Heap.get?_update_other _ _ (Ne.symm hb)).trans (gP _ e)
 have neD : ∀ b o, s.heap.get? b = some o -> b ≠ D := fun b o e z => by have h' : s.heap.get? D = none := hgone; rw [z, h'] at e; cases e
 have eD : Ev C No No s { s with heap := (s.heap.push { cls := .type "list", data := .seq #[] }).update D (Obj.mapSeq (fun _ => (#[] : Array Value))) } := .keep fun b o e => oth b o (neD b o e) e
 have hig2 : ((s.heap.push { cls := .type "list", data := .seq #[] }).update D (Obj.mapSeq (fun _ => (#[] : Array Value)))).IsGen a g := by
  refine E32 hig ?_; clear hig; intro o nm qn ho r
  exact ⟨o, nm, qn, oth a o (Ne.symm hDa) ho, r⟩
 unfold Builtin.List.listExtendWith
 refine wB (wpAny_typeOf hig2.typeIs ?_)
 have g1 : Builtin.List.listSameRef (.ref D) (.ref a) = false := by simp [Builtin.List.listSameRef, hDa]
 have g2 : (Value.type "generator" == Value.type "list") = false := by decide
 have g3 : (Value.type "generator" == Value.type "tuple") = false := by decide
 simp only [g1, g2, g3, Bool.or_false, Bool.false_eq_true, if_false]
 have I2 := I.ev eD .no
 have F2 : Fx C A.in1.in1 fl _ := (F.ev eD).in1.in1
 refine wB (I2.2 _ No No .refl .no A.in1.in1 fl hr.two F2 _ _ fun it s3 O' eH hO' hS' _ => ?_)
 refine wB (wpAny_holding ?_)
 have hig3 : s3.heap.IsGen a g := isGen_sim hig2 fun o ho => eH.kp a o ho id (by
  refine notT_cls F2.base ho ?_
  refine E33 hig2 ?_; clear hig2; intro o' nm qn ho' hc _
  rw [ho] at ho'; cases ho'; rw [hc]; simp)
 unfold Builtin.List.listLengthHint
 refine wB (wpAny_specialOf hig3.typeIs PySem.F.gen_no_len ?_)
 show wpAny _ A.in1.in1 (specialOf (Value.ref a) (ofString "__length_hint__") >>= _) _ _ _
 refine wB (wpAny_specialOf hig3.typeIs PySem.F.gen_no_hint ?_)
 refine wP ?_
 show wpAny _ A.in1.in1 (rule "list.extend.makes-room" >>= fun _ => Builtin.List.listTouch (.ref D) >>= fun _ =>
  again (.builtin "list.extend.loop" ⟨[.ref D, it, .none], []⟩)) _ _ _
 refine wB (wpAny_rule ?_)
 refine wB ?_
 show wpAny _ A.in1.in1 (updateSeq D (·.push .none) >>= fun _ => updateSeq D (·.pop)) _ _ _
 have hD3 : ∃ k, s3.heap.get? D = some (lobj #[] k) := by
  refine E12 (eH.kp D _ hS2 id (Base.noT hC hn)) fun o' ho' z => ?_
  rw [z.eq (by simp [Obj.mapSeq])] at ho'
  exact ⟨_, ho'⟩
 refine E11 hD3 ?_; clear hD3; intro kH hD3
 refine wB (wpAny_updateSeq hD3 rfl ?_)
 have hS4 := Heap.get?_update_self (Obj.mapSeq (·.push Value.none)) hD3 rfl
 refine wpAny_updateSeq (hz := by seq_fits) hS4 rfl ?_
 have hS5 := Heap.get?_update_self (Obj.mapSeq (·.pop)) hS4 rfl
 have e5 : Ev C (· = D) No s3 { s3 with heap := (s3.heap.update D (Obj.mapSeq (·.push Value.none))).update D (Obj.mapSeq (·.pop)) } :=
  .turn hC (tk := s3.toks) hD3 hn (fun b o hb e => (Heap.get?_update_other _ _ (Ne.symm hb)).trans ((Heap.get?_update_other _ _ (Ne.symm hb)).trans e)) hS5 rfl (fun _ vs e => by cases e) (by simp)
 have hOD : ¬ O D := fun h => by
  obtain ⟨_, o, ho, _⟩ := I.1.o D h
  exact neD D o ho rfl
 have hKD : ¬ K D := fun h => by
  refine E12 (I.1.k D h) fun o ho _ => ?_
  exact neD D o ho rfl
 have hOD' : ¬ O' D := fun h => by
  rcases hO' D h with y | y
  ·exact hOD y
  ·have y' : Heap.get? _ D = none := y; rw [hS2] at y'; cases y'
 have tK : ∀ a o, a = D -> s3.heap.get? a = some o -> o.cls ≠ .type "tuple" /\ o.cls ≠ .ref hvf := fun a o h ho => by subst h; rw [hD3] at ho; cases ho; exact ⟨by simp, by simp⟩
 refine wP ⟨plainId_quiet PySem.F.plain_extend_loop _, ?_⟩
 have F5 : Fx C A.in1.in1 fl _ := (F2.ev eH).ev e5
 have back : ∀ {s'}, Ev C (fun a => a = D \/ O' a) OG { s3 with heap := (s3.heap.update D (Obj.mapSeq (·.push Value.none))).update D (Obj.mapSeq (·.pop)) } s' -> Ev C O OG s s' := fun {s'} e6 => by
  have e13 : Ev C O OG s s3 := (eD.tr eH).up
  have e15 := e13.trans e5 (fun a h => .inr (by subst h; exact hgone)) (fun _ h => h.elim)
  exact e15.trans e6 (fun a h => by
   rcases h with h | h
   ·exact .inr (by subst h; exact hgone)
   ·exact (hO' a h).imp id fun z => eD.gone z) (fun i h => .inl h)
 refine ext_loop (n := n) (A := A.in1) hC hr.two hn hKD xs [] #[] _ O' OG _ F5 (hS'.ev e5 ⟨fun a h => by subst h; exact ⟨hOD', hKD⟩, tK, fun _ h => h.elim⟩) hS5 (by unfold R0L; simp [RepL]) hOD' (by simpa using hlen) (fun he s' acc' k' e6 hD6 rl => ?_) fun he x s' e6 X => ?_
 ·exact ⟨rfl, h1 he D acc'.toList s' (back e6) hgone ⟨_, hD6, rfl, k', rfl⟩ (by simpa using rl)⟩
 ·refine h2 he x s' (back e6) (X.mono fun a _ _ h => ?_)
  exact eD.gone (eH.gone (e5.gone h))
end
section
variable {c : Ac} {Z U : Env1}
noncomputable def EVS (c : Ac) (Z U : Env1) (n : Nat) (gen : Bool) (e : Expr) (xs : List AV) (err : Bool) : Prop := ∀ q s, St c q Z U s -> ∀ (Q : VP) (E : VP),
 (∀ v s' K O OG, Ev c.C No No s s' -> (∀ b, O b -> Nw s b) -> (∀ i, OG i -> s.gens.size <= i) -> (∀ b, K b -> ¬ O b) -> Itb c.C n err K v xs O OG s' -> (gen = true -> ∃ a g, v = .ref a /\ s'.heap.IsGen a g) -> Q v s') -> wpAny (model c.C.prog c.C.w) c.A (eval e c.env) Q E s
theorem evs_lst (hc : c.EOk) {e : Expr} {xs : List AV} {n : Nat} (h : EV c Z U e (.lst xs)) (hn : nlL xs) : EVS c Z U n false e xs false := fun q s S Q E k => h q s S fun v s1 ew rB => by
 refine E24 (de_lst rB) ?_; rintro l vs rfl hql hl rl
 exact k _ s1 _ No No ew (fun _ h => h.elim) (fun _ h => h.elim) (fun _ _ h => h.elim) (itb_list (OG := No) hc.C (S.ev ew).base hl (RepL.r0 xs vs hn.b rl)) (fun z => by cases z)
theorem rplR0 {C : Cx} {q : Addr -> Nat} {h : Heap} : ∀ {avs : List AV} {us : List Value}, nlL avs -> RpL C q h avs us -> R0L h avs us
 | [], [], _, _ => by unfold R0L; rw [RepL]; trivial
 | [], _ :: _, _, r => r.elim
 | _ :: _, [], _, r => r.elim
 | x :: xs, u :: us, hnl, r => by
  unfold R0L
  rw [RepL]
  have hx := hnl x (List.mem_cons_self ..)
  exact ⟨Rep.r0 (q := q) x u hx (Rp.nlR hx r.1), rplR0 (fun y hy => hnl y (mC _ hy)) r.2⟩
theorem evs_call (hc : c.EOk) {f e : Expr} {p : Pos} {rest : List Expr} {fa : Addr} {ob : Obj} {fd : FuncData} {avs xs zs : List AV} {n m k : Nat} {gen err err' : Bool} (hob : ∀ h, Base c.C h -> h.get? fa = some ob) (hfd : ob.data = .func fd)
  (hf : EV c Z U f (.raw (.ref fa))) (hs : EVS c Z U n gen e xs err) (ha : EVA c Z U rest avs) (hnl : nlL avs) (hPF : PF c.C m k (.ref fa) avs xs err zs err') (hm : n + m <= c.n)
  (he : starEach (e :: rest) c.env = (false, eval e c.env) :: starEach rest c.env := by rfl)
  (hcall : eval (.Call f (e :: rest) [] p) c.env = (do callWith p (<- eval f c.env) [] (backTo p (starEach (e :: rest) c.env)) (backToKw p (keywordEach [] c.env))) := by rfl) :
  EVS c Z U (n + k) true (.Call f (e :: rest) [] p) zs err' := fun q s S Q E hQ => by
 refine Call_ (hf q s S fun w s1 ew rB => ?_) hcall
 obtain rfl : w = .ref fa := rB
 refine callWith_def hfd (wpAny_items_cons (hs q s1 (S.ev ew) _ _ fun w s2 K O OG eD hO hOG hKO hI _ => ha p q s2 ((S.ev ew).ev eD) fun us s3 eH rH => ?_) he) he
 have e03 := (ew.tr eD).tr eH
 have S3 := S.ev e03
 refine ⟨hob _ S3.base, ?_⟩
 exact hPF n c.A c.fl s3 w us K O OG (hc.room.mono hm) (S3.fx hc) (hI.ev eH .no) hKO (rplR0 hnl rH) Q E fun a s4 O' OG' eJ h1 h2 h3 h4 h5 => hQ _ s4 K O' OG' (e03.tr eJ) (fun b hb => (h1 b hb).elim (fun z => ew.gone (hO b z)) fun z => e03.gone z) (fun i hi => (h2 i hi).elim (fun z => Nat.le_trans ew.gz (hOG i z)) fun z => Nat.le_trans e03.gz z) h3 h4 (fun _ => let ⟨g, hg⟩ := h5; ⟨a, g, rfl, hg⟩)
noncomputable def EVX (c : Ac) (Z U : Env1) (e : Expr) (av : AV) (err : Bool) : Prop := ∀ q s, St c q Z U s -> ∀ (Q : VP) (E : VP),
 (err = false -> ∀ v s', Ev c.C No No s s' -> Rp c.C q s'.heap av v -> Q v s') -> (err = true -> ∀ x s', Ev c.C No No s s' -> Exn (Nw s) s'.heap true x -> E x s') -> wpAny (model c.C.prog c.C.w) c.A (eval e c.env) Q E s
theorem EVX.ev {e : Expr} {av : AV} (h : EVX c Z U e av false) : EV c Z U e av := fun q s S Q E k => h q s S Q E (fun _ v s' => k v s') fun z => by cases z
theorem evx_list (hc : c.EOk) {f e : Expr} {p : Pos} {xs : List AV} {n : Nat} {err : Bool} (hf : EV c Z U f (.raw (.type "list"))) (hs : EVS c Z U n true e xs err) (hm : n + 1 <= c.n) (hlen : xs.length <= 1000000)
  (he : starEach [e] c.env = [(false, eval e c.env)] := by rfl)
  (hcall : eval (.Call f [e] [] p) c.env = (do callWith p (<- eval f c.env) [] (backTo p (starEach [e] c.env)) (backToKw p (keywordEach [] c.env))) := by rfl) :
  EVX c Z U (.Call f [e] [] p) (.lst xs) err := fun q s S Q E h1 h2 => by
 refine Call_ (hf q s S fun w s1 ew rB => ?_) hcall
 obtain rfl : w = .type "list" := rB
 have SB := S.ev ew
 refine PyProof.Rows.callWith_type1 (wpAny_items_cons (hs q s1 SB _ _ fun w s2 K O OG eD hO hOG hKO hI hg => wpAny_items_nil ?_) he) he (by rfl)
 refine E22 (hg rfl) ?_; rintro a g rfl hig
 have S2 := SB.ev eD
 have e02 := ew.tr eD
 have toNo : ∀ {s'}, Ev c.C O OG s2 s' -> Ev c.C No No s s' := fun {s'} e => e02.trans e (fun b hb => .inr (ew.gone (hO b hb))) fun i hi => .inr (Nat.le_trans ew.gz (hOG i hi))
 refine list_call hc.C (hc.room.mono hm) (S2.fx hc) hig hI hlen (fun he D vs s' e hD hl rl => h1 he _ s' (toNo e) ?_) fun he x s' e X => h2 he x s' (toNo e) (X.mono fun _ _ _ h => e02.gone h)
 refine .of_rep ?_
 rw [Rep]
 exact ⟨D, vs, rfl, (S2.fr D hD).1, hl, RepL.mono (R := fun _ => True) (fun a o ho _ _ => ⟨o, ho, .refl o⟩) (fun _ _ _ _ _ => trivial) (fun _ _ _ z => by cases z) _ _ rl⟩
end
section
variable {c : Ac} {Z U : Env1} {N : Env1 -> Prop} {R : AV -> Prop} {X : Prop}
theorem sx_returnX {e : Expr} {p : Pos} {av : AV} {err : Bool} (h : EVX c Z U e av err) (hR : err = false -> R av) {q : Addr -> Nat} {s : Shared} (S : St c q Z U s) {Q : Flow -> Shared -> Prop} {E : VP}
  (h1 : err = false -> ∀ v s', Ev c.C No No s s' -> Rp c.C q s'.heap av v -> Q (.ret v) s') (h2 : err = true -> ∀ x s', Ev c.C No No s s' -> Exn (Nw s) s'.heap true x -> E x s') : wpAny (model c.C.prog c.C.w) c.A (exec (.Return (some e) p) c.env) Q E s :=
 wpAny_Return_some (h q s S _ _ (fun he v s' e r => h1 he v s' e r) h2)
theorem exn_matches {C : Cx} (hC : C.Ok) {s : Shared} (B : Base C s.heap) {x : Value} {W : Addr -> Prop} {tr : Bool} (X : Exn W s.heap tr x) {A : Around} {Q : Bool -> Shared -> Prop} {E : VP} (h : Q true s) : wpAny (model C.prog C.w) A (excMatches x (.ref peC)) Q E s := by
 refine E35 X ?_; clear X; rintro e oe vs rfl _ he hcl _
 obtain ⟨_, h58, a1, a2, a3, a4, a5, a6, a7, a8, a9, b1, b2, b3, b4, b5, rfl⟩ := (B.pe hC).c58
 obtain ⟨hp, g, d, t, os⟩ := s
 exact wpAny_excMatches_sub_self h58 he hcl (by decide) h
theorem s_try (hc : c.Ok) {e : Expr} {px : Str} {pp rp cp rp2 hp tp : Pos} {k : Nat} {av : AV} {err : Bool} (h : EVX c Z U e av err) (hg : c.C.mg px = some (.ref peC)) (hk : c.env.kindOf px = some .globalImplicit) (hd : (px == ("__debug__" : Str)) = false)
  (hR : R (if err then .none else av)) : S1 c Z U (.Try [.Return (some e) rp] [.ExceptHandler (some (.Name px pp)) none [.Return (some (.Constant .none k cp)) rp2] hp] [] [] tp) N R X := fun q s S Q E o => by
 refine wpAny_Try_except (wpAny_execs_cons (sx_returnX (R := fun _ => True) h (fun _ => trivial) S (fun he v s1 ew rB => ?_) fun he x s1 ew X1 => ?_))
 ·rw [he] at hR
  exact o.r q av v s1 hR (fun _ _ _ _ => rfl) ew.up (S.ev ew).gd rB
 ·rw [he] at hR
  have Fw := (S.ev ew).fx hc.e
  refine E11 hc.top fun outer hfl => ?_
  rw [hfl] at Fw
  have w : Wr c.C (Nw s) s1 := ⟨fun a h => ew.gone h, fun a h => S.base.gone h⟩
  refine note_any Fw w X1.any fun s2 eD X2 => ?_
  refine flight_any (Fw.ev eD) (w.ev eD) X2 fun s3 eH X3 => ?_
  have e13 : Ev c.C (Nw s) No s s3 := (ew.up.tr eD).tr eH
  have X3' := X3
  refine E32 X3' ?_; clear X3'; rintro ea oe vs rfl _
  refine wpAny_handleBy_cons (codeAny_handlers_test ?_) (by intro q; cases q)
  refine wpAny_Name ?_ hd
  rw [loadName_read hc.kind hk]
  unfold loadGlobal
  rw [hc.g]
  have B3 := e13.bs S.base
  refine wB (wpAny_nsGet (B3.gns hc.C) ?_)
  rw [hg]
  refine wP ?_
  refine exn_matches hc.C B3 X3 ?_
  refine codeAny_handlers_suite ?_
  have F3 : Fx c.C (c.A.mark (some (.ref ea))) (c.env :: outer) s3 := let F := (Fw.ev eD).ev eH; ⟨F.ok, F.base, F.frames, F.frs, F.frf⟩
  refine flight_any F3 ((w.ev eD).ev eH) X3 fun s4 eJ X4 => ?_
  refine wpAny_execs_cons (wpAny_Return_some (wP ?_))
  have e14 : Ev c.C (Nw s) No s s4 := e13.tr eJ
  have e14' : Ev c.C No No s s4 := e14.mono (fun a h => .inr h) (fun _ h => .inl h)
  exact o.r q .none .none s4 hR (fun _ _ _ _ => rfl) e14'.up (S.ev e14').gd (.of_rep (by rw [Rep]))
end
section
set_option tactic.hygienic true
section
variable {c : Ac} {q : Addr -> Nat} {Z U : Env1} {s s' : Shared} {N : Env1 -> Prop} {R : AV -> Prop} {X : Prop}
theorem ns_unique {h : Heap} {a : Addr} {m m' : Str -> Option Value} (x : h.Ns a m) (y : h.Ns a m') : m = m' := by
 refine E34 x ?_; clear x; intro o es ep ho hd _ h1
 refine E34 y ?_; clear y; intro o' es' ep' ho' hd' _ h2
 rw [ho] at ho'; cases ho'
 rw [hd] at hd'; cases hd'
 funext n
 rw [<- h1, <- h2]
noncomputable def Sole (x : Str) (U : Env1) : Prop := ∀ y av, U.lookup y = some av -> av.pl = false -> y = x
noncomputable def PlK (Z : Env1) : Prop := ∀ y av, Z.lookup y = some av -> av.pl = true
theorem plk_nil : PlK [] := fun y av h => by simp [List.lookup] at h
theorem St.put (hc : c.Ok) (S : St c q Z U s) {x : Str} {av av' : AV} {a : Addr} (hx : U.lookup x = some av) (hone : Sole x U) (hκ : PlK Z) (hq : q a = 1) (e : Ev c.C (· = a) No s s') (hW : c.W a)
  (hm : ∃ m, s.heap.Ns c.env.locals m /\ m x = some (.ref a)) (r : Rp c.C q s'.heap av' (.ref a)) : St c q Z (up x av' U) s' := by
 have hne : c.env.locals ≠ a := fun z => by have := S.own.2.1; rw [z, hq] at this; lia
 have hcl : ∀ o, s.heap.get? a = some o -> o.cls ≠ .type "tuple" /\ o.cls ≠ .ref hvf := fun o ho => by
  obtain ⟨_, o', ho', h⟩ := S.col a (by lia)
  rw [ho] at ho'; cases ho'; exact h
 have k : Kept (· ≠ a) s.heap s'.heap := e.kept S.base fun b h => ⟨fun z => z h, fun o ho => by subst h; exact hcl o ho⟩
 have hR : ∀ b o, s.heap.get? b = some o -> o.cls ≠ .type "frame" -> q b = 0 -> b ≠ a := fun b _ _ _ z y => by rw [y, hq] at z; cases z
 have locSim : ∀ o, s.heap.get? c.env.locals = some o -> ∃ o', s'.heap.get? c.env.locals = some o' /\ Sim o o' := fun o ho => e.kp _ o ho hne (by
  refine E12 (S.locC hc) fun oF hoF hcF => ?_
  exact notT_cls S.base hoF (by rw [hcF]; nofun))
 refine E12 S.loc fun m hn hl => ?_
 refine E12 hm ?_; clear hm; intro m' hn' hm'
 exact {
  base := e.bs S.base
  col := S.col.ev e
  new := fun b h => S.new b (e.gone h)
  loc := ⟨m, ns_sim hn locSim, fun y av2 h => by
   rw [up_lookup] at h
   split at h
   ·rename_i hy
    cases h
    subst hy
    obtain ⟨h1, v, h2, h3, h4⟩ := hl _ _ hx
    have hmm : m = m' := ns_unique hn hn'
    rw [hmm, hm'] at h2
    cases h2
    exact ⟨h1, _, by rw [hmm]; exact hm', r, fun _ b hb => by cases hb; exact hW⟩
   ·obtain ⟨h1, v, h2, h3, h4⟩ := hl _ _ h
    refine ⟨h1, v, h2, h3.monoPl k hR .refl _ _ ?_, h4⟩
    cases hp : av2.pl with
    | true => rfl
    | false => exact absurd (hone y av2 h hp) (by assumption)⟩
  cel := fun y av2 h => by
   obtain ⟨h1, b, o, v, h2, h3, h4, h5, h6⟩ := S.cel y av2 h
   refine E12 (k b o h4 (by rw [h5]; nofun) (.inr (.inr fun z => by rw [z, hq] at h3; cases h3))) fun o' ho' z => ?_
   exact ⟨h1, b, o', v, h2, h3, ho', z.2.2.1.trans h5, h6.monoPl k hR .refl _ _ (hκ y av2 h)⟩
  frs := frs_al e.al S.frs
  frf := S.frf.al e.al
  own := S.own }
theorem s_append (hc : c.Ok) {x : Str} {np ap p p' : Pos} {elt : Expr} {xs : List AV} {y : AV} (hl : U.lookup x = some (.own xs)) (hone : Sole x U) (hκ : PlK Z) (h : EV c Z U elt y) (hd : y.dp = true) (hlen : xs.length <= 1000000)
  (hx : (x == ("__debug__" : Str)) = false := by rfl) (hline : (ap.endLine == p.line) = true := by rfl)
  (hbase : attributeBase (.Name x np) "append" c.env (eval (.Name x np) c.env) = eval (.Name x np) c.env := by rfl)
  (hfew : ((backTo p (starEach [elt] c.env)).all (fun x => !x.1) && (backToKw p (keywordEach [] c.env)).all (fun x => x.1.isSome)
   && decide (([elt] : List Expr).length + ([] : List Keyword).length + (if ([] : List Keyword).isEmpty then 0 else 1) < 30)) = true := by rfl)
  (htrees : backTo p (starEach [elt] c.env) = [(false, eval elt c.env)] := by rfl)
  (hs : swapsWith (.Call (.Attribute (.Name x np) "append" ap) [elt] [] p) none p'.line c.env = pure false := by rfl) :
  S1 c Z U (.Expr (.Call (.Attribute (.Name x np) "append" ap) [elt] [] p) p') (· = up x (.own (xs ++ [y])) U) R X := fun q s S Q E o => by
 refine E12 S.loc fun m hn hv => ?_
 obtain ⟨hk, v, hm, ⟨a, vs, rfl, hqa, hi, rl⟩, hw⟩ := hv x _ hl
 refine wpAny_Expr_any (wpAny_Call_append hbase hfew hline htrees (wpAny_Name (wpAny_loadName_local hc.kind hk hn hm ⟨a, ⟨vs⟩, rfl, hi, h q s S fun u s1 ew rB => ?_⟩) hx)) (inter_f hc.kind) hs
 have SB := S.ev ew
 have hi1 : PlainL s1.heap a ⟨vs⟩ := by
  refine E24 hi ?_; clear hi; intro ol n ho h1 h2 h3
  refine E12 (ew.sim S.base ho (by rw [h3]; nofun) id) fun o' ho' z => ?_
  exact ⟨o', n, ho', z.1.trans h1, z.2.1.trans h2, z.2.2.1.trans h3⟩
 have rl1 := rl.ev ew S.base
 have hvl := RepL.length rl
 refine list_append_plainL hi1 (fun h' hi' hsb => ?_) (by rw [sizeLine_eq]; show vs.length <= _; lia)
 refine E24 (id hi1) fun o1 n1 ho1 hc1 hd1 hda1 => ?_
 refine E24 (id hi') fun o2 n2 ho2 hc2 hd2 hda2 => ?_
 have hnew : c.C.h₁.get? a = none := (S.col a (by lia)).1
 have eD : Ev c.C (· = a) No s1 { s1 with heap := h' } := .turn hc.C (tk := s1.toks) ho1 hnew hsb.extBut ho2 (hc2.trans hc1.symm) (fun _ vs e => by rw [hda2] at e; cases e) (by rw [hc1]; simp)
 have kp : Kept (· ≠ a) s1.heap h' := eD.kept SB.base fun b h => ⟨fun z => z h, fun o ho => by subst h; rw [ho1] at ho; cases ho; rw [hc1]; exact ⟨by simp, by simp⟩⟩
 have hR : ∀ b o, s1.heap.get? b = some o -> o.cls ≠ .type "frame" -> q b = 0 -> b ≠ a := fun b _ _ _ z w => by rw [w, hqa] at z; cases z
 have rD : Rp c.C q h' (.own (xs ++ [y])) (.ref a) := by
  refine ⟨a, vs ++ [u], rfl, hqa, by simpa using hi', RepL.app (RepL.mono kp hR (fun _ _ _ z => z) _ _ rl1) ?_⟩
  rw [RepL]
  exact ⟨Rep.mono kp hR (fun _ _ _ z => z) _ _ (Rp.deep hd rB), by rw [RepL]; trivial⟩
 have locm : ∃ m, s1.heap.Ns c.env.locals m /\ m x = some (.ref a) := by
  refine E12 (S.locC hc) fun oF hoF hcF => ?_
  exact ⟨m, ns_sim hn fun ob ho => ew.kp _ ob ho id (by rw [hoF] at ho; cases ho; exact notT_cls S.base hoF (by rw [hcF]; nofun)), hm⟩
 have S2 := SB.put hc hl hone hκ hqa eD (hw rfl a rfl) locm rD
 refine o.n q _ _ rfl .refl (ew.up.tr (eD.mono (fun b h => .inl ?_) (fun _ h => .inl h))) S2
 subst h
 exact ⟨hw rfl b rfl, .inl hqa⟩
end
end
section
variable {c : Ac} {q : Addr -> Nat} {Z U : Env1} {s s' : Shared} {N : Env1 -> Prop} {R : AV -> Prop} {X : Prop}
theorem s_add (hc : c.Ok) {x : Str} {np ap p p' : Pos} {elt : Expr} {T : List (List UInt8)} {b : List UInt8} (hl : U.lookup x = some (.set T)) (hone : Sole x U) (hκ : PlK Z) (h : EV c Z U elt (.bytes b)) (hb : T.contains b = false) (hlen : T.length + 1 < scanBound)
  (hx : (x == ("__debug__" : Str)) = false := by rfl) (hline : (ap.endLine == p.line) = true := by rfl)
  (hbase : attributeBase (.Name x np) "add" c.env (eval (.Name x np) c.env) = eval (.Name x np) c.env := by rfl)
  (he : starEach [elt] c.env = [(false, eval elt c.env)] := by rfl)
  (hs : swapsWith (.Call (.Attribute (.Name x np) "add" ap) [elt] [] p) none p'.line c.env = pure false := by rfl) :
  S1 c Z U (.Expr (.Call (.Attribute (.Name x np) "add" ap) [elt] [] p) p') (· = up x (.set (T ++ [b])) U) R X := fun q s S Q E o => by
 refine E12 S.loc fun m hn hv => ?_
 obtain ⟨hk, v, hm, ⟨a, rfl, hqa, hS⟩, hw⟩ := hv x _ hl
 refine wpAny_Expr_any (Call_method1 hbase he hline (wpAny_Name (wpAny_loadName_local hc.kind hk hn hm ⟨"set", "set.add", PySem.F.plainAttrs_set, PySem.F.slot_set_add, PySem.F.type_set_add, hS.typeIs, hS.noDict, ?_⟩) hx)) (inter_f hc.kind) hs
 refine Calls.callWith_builtin rfl (Calls.evalArgs_plain (Calls.spliced_cons (h q s S fun u s1 ew rB => Calls.spliced_nil ?_)))
 refine E11 (de_bytes rB) ?_; rintro t rfl
 have SB := S.ev ew
 have rS1 : Rp c.C q s1.heap (.set T) (.ref a) := Rp.ev ew S.base (av := .set T) ⟨a, rfl, hqa, hS⟩
 refine E13 rS1 ?_; clear rS1; intro a' ha' _ hS1
 cases ha'
 refine call_set_add (byK_is b t) (by rfl) hS1 hlen fun h' hsb hS' => ?_
 refine E44 (id hS1) fun o1 es1 ep1 t1 ho1 hx1 hd1 _ => ?_
 refine E44 (id hS') fun o2 es2 ep2 t2 ho2 hx2 hd2 _ => ?_
 have hnew : c.C.h₁.get? a = none := (S.col a (by lia)).1
 have eD : Ev c.C (· = a) No s1 { s1 with heap := h', toks := s1.toks + 1 } := .turn hc.C ho1 hnew hsb.extBut ho2 (hx2.1.trans hx1.1.symm) (fun _ vs e => by rw [hd2] at e; cases e) (by rw [hx1.1]; simp)
 have rD : Rp c.C q h' (.set (T ++ [b])) (.ref a) := by
  refine ⟨a, rfl, hqa, ?_⟩
  rw [if_neg (by rw [hb]; simp)] at hS'
  have ef : (fun k' => T.contains k' || decide (k' = b)) = fun k' => (T ++ [b]).contains k' := by
   funext k'
   simp only [List.contains_append, List.contains_cons, List.contains_nil, Bool.or_false]
   congr 1
   by_cases z : k' = b
   ·subst z; simp
   ·simp [z]
  rw [ef] at hS'
  simpa using hS'
 have locm : ∃ m, s1.heap.Ns c.env.locals m /\ m x = some (.ref a) := by
  refine E12 (S.locC hc) fun oF hoF hcF => ?_
  exact ⟨m, ns_sim hn fun ob ho => ew.kp _ ob ho id (by rw [hoF] at ho; cases ho; exact notT_cls S.base hoF (by rw [hcF]; nofun)), hm⟩
 have S2 := SB.put hc hl hone hκ hqa eD (hw rfl a rfl) locm rD
 refine o.n q _ _ rfl .refl (ew.up.tr (eD.mono (fun b h => .inl ?_) (fun _ h => .inl h))) S2
 subst h
 exact ⟨hw rfl b rfl, .inl hqa⟩
theorem s_set0 (hc : c.Ok) {x f : Str} {p p' fp cp : Pos} (hf : EV c Z U (.Name f fp) (.raw (.type "set"))) (hx : c.env.kindOf x = some .local)
  (hs : swapsWith (.Call (.Name f fp) [] [] cp) (some (.Name x p')) p.line c.env = pure false := by rfl) : S1 c Z U (.Assign [.Name x p'] (.Call (.Name f fp) [] [] cp) p) (· = up x (.set []) U) R X := fun q s S Q E o => by
 refine wpAny_Assign_Name (Call_Name0 (hf q s S fun w s1 ew rB => ?_)) hs
 obtain rfl : w = .type "set" := rB
 refine callWith_type0 (env := c.env) (call_set_0 fun led => ?_)
 have SB := S.ev ew
 have eD : Ev c.C No No s1 { s1 with heap := s1.heap.push { cls := .type "set", dict := none, data := .set #[] 0 (.fresh 0 0 led) } } := .keep fun _ _ e => gP _ e
 have ag : Agree s1.heap q fun a => if a = s1.heap.objs.size then 1 else q a := fun a ob e => if_neg fun z => by subst z; exact absurd (Heap.lt_size e) (Nat.lt_irrefl _)
 have S2 : St c (fun a => if a = s1.heap.objs.size then 1 else q a) Z U { s1 with heap := s1.heap.push { cls := .type "set", dict := none, data := .set #[] 0 (.fresh 0 0 led) } } :=
  SB.step (R := fun _ => True) eD .no (fun _ _ => trivial) ag fun a ha => by
   by_cases z : a = s1.heap.objs.size
   ·subst z
    exact ⟨SB.base.gone (get_fresh _), _, Heap.get?_push_size _ rfl, by show Value.type "set" ≠ Value.type "tuple"; simp, by show Value.type "set" ≠ _; simp⟩
   ·exact (SB.col.ev eD) a (by have h : (if a = s1.heap.objs.size then 1 else q a) ≠ 0 := ha; rwa [if_neg z] at h)
 have rD : Rp c.C (fun a => if a = s1.heap.objs.size then 1 else q a) (s1.heap.push { cls := .type "set", dict := none, data := .set #[] 0 (.fresh 0 0 led) }) (.set []) (.ref s1.heap.objs.size) := by
  refine ⟨_, rfl, if_pos rfl, ?_⟩
  exact (setObjOf_fresh (knd := byK c.C.prog c.C.w) led).setOf (Heap.get?_push_size _ rfl) (by decide)
 refine S2.store hc hx rD (fun _ a e => by cases e; exact (SB.fr _ (get_fresh _)).2) fun s3 eH S3 => ?_
 have ag0 : Agree s.heap q fun a => if a = s1.heap.objs.size then 1 else q a := Agree.tr .refl ew ag
 exact o.n _ _ s3 rfl ag0 ((ew.tr eD).up.wq ag0 (eH.loc S2)) S3
end
section
variable {C : Cx} {A : Around}
theorem l_add {xs ys : List AV} (hz : xs.length + ys.length <= 1000000) : Op2 C A (binaryOp .Add) (.lst xs) (.lst ys) (.lst (xs ++ ys)) := fun q s v u G r1 r2 Q E k => by
 refine E24 (de_lst r1) ?_; rintro l vs rfl hql hl rl
 refine E24 (de_lst r2) ?_; rintro b ws rfl hqb hb rb
 have h1 := RepL.length rl
 have h2 := RepL.length rb
 obtain ⟨⟨cls, dd, data, sl⟩, ho, hc, n, hd⟩ := hl
 obtain ⟨⟨cls2, dd2, data2, sl2⟩, ho2, hc2, n2, hd2⟩ := hb
 simp only at hc hd hc2 hd2
 subst hc hd hc2 hd2
 refine PySem.concat_meets ⟨_, ho, rfl⟩ ⟨_, ho2, rfl⟩ noFill_list_add seq_list_add PySem.F.slot_list_add PySem.F.entry_list_add (PySem.F.args_list_add_2 _ _) (list_addW l b ⟨vs⟩ ⟨ws⟩ n n2 dd dd2 sl sl2 (by rw [sizeLine_eq]; show vs.length + ws.length <= _; lia)) ⟨ho, ho2, ?_⟩
 have e : (⟨vs⟩ : Array Value) ++ ⟨ws⟩ = (vs ++ ws).toArray := by simp
 rw [e]
 exact newLst G (RepL.app rl rb) (fun v s' => Q v s') fun v s' ev r => k v s' ev r
theorem t_add {xs ys : List AV} (hz : xs.length + ys.length <= 1000000) (hx : xs ≠ []) : Op2 C A (binaryOp .Add) (.tup xs) (.tup ys) (.tup (xs ++ ys)) := fun q s v u G r1 r2 Q E k => by
 refine E23 (de_tup r1) ?_; rintro l vs rfl hl rl
 refine E23 (de_tup r2) ?_; rintro b ws rfl hb rb
 have h1 := RepL.length rl
 have h2 := RepL.length rb
 have hl0 := hl
 obtain ⟨⟨cls, dd, data, sl⟩, ho, hc, n, hd⟩ := hl
 obtain ⟨⟨cls2, dd2, data2, sl2⟩, ho2, hc2, n2, hd2⟩ := hb
 simp only at hc hd hc2 hd2
 subst hc hd hc2 hd2
 have hvs : vs ≠ [] := fun z => by rw [z] at h1; cases xs with
  | nil => exact hx rfl
  | cons => simp at h1
 have hv0 : ¬ (⟨vs⟩ : Array Value).isEmpty = true := by
  cases vs with
  | nil => exact absurd rfl hvs
  | cons => simp [Array.isEmpty]
 by_cases hy : ys = []
 ·subst hy
  have hw : ws = [] := List.length_eq_zero_iff.mp (by simpa using h2)
  subst hw
  refine PySem.concat_meets ⟨_, ho, rfl⟩ ⟨_, ho2, rfl⟩ noFill_tuple_add seq_tuple_add PySem.F.slot_tuple_add PySem.F.entry_tuple_add (PySem.F.args_tuple_add_2 _ _) (tuple_addW1 l b ⟨vs⟩ ⟨[]⟩ n n2 dd dd2 sl sl2 hv0 (by rfl)) ⟨ho, ho2, ?_⟩
  exact k (.ref l) _ toks (.of_rep (by rw [Rep, List.append_nil]; exact ⟨l, vs, rfl, hl0, rl⟩))
 ·have hw0 : ¬ (⟨ws⟩ : Array Value).isEmpty = true := by
   cases ws with
   | nil => cases ys with
    | nil => exact absurd rfl hy
    | cons => simp at h2
   | cons => simp [Array.isEmpty]
  refine PySem.concat_meets ⟨_, ho, rfl⟩ ⟨_, ho2, rfl⟩ noFill_tuple_add seq_tuple_add PySem.F.slot_tuple_add PySem.F.entry_tuple_add (PySem.F.args_tuple_add_2 _ _) (tuple_addW2 l b ⟨vs⟩ ⟨ws⟩ n n2 dd dd2 sl sl2 hv0 hw0 (by rw [sizeLine_eq]; show vs.length + ws.length <= _; lia)) ⟨ho, ho2, ?_⟩
  have e : (⟨vs⟩ : Array Value) ++ ⟨ws⟩ = (vs ++ ws).toArray := by simp
  rw [e]
  exact newTup G.base (RepL.app rl rb) (fun v s' => Q v s') fun v s' ev r => k v s' ev r
end
section
variable {c : Ac} {Z U : Env1} {N : Env1 -> Prop} {R : AV -> Prop} {X : Prop}
theorem evr_callF (hc : c.EOk) {f e : Expr} {rest : List Expr} {p : Pos} {fa : Addr} {ob : Obj} {fd : FuncData} {n : Nat} {avs : List AV} {R : AV -> Prop} {X : Prop} (hob : ∀ h, Base c.C h -> h.get? fa = some ob) (hfd : ob.data = .func fd)
  (hf : EV c Z U f (.raw (.ref fa))) (ha : EVA c Z U (e :: rest) avs) (hF : FC c.C n (.ref fa) avs R X) (hn : n <= c.n)
  (he : starEach (e :: rest) c.env = (false, eval e c.env) :: starEach rest c.env := by rfl)
  (hcall : eval (.Call f (e :: rest) [] p) c.env = (do callWith p (<- eval f c.env) [] (backTo p (starEach (e :: rest) c.env)) (backToKw p (keywordEach [] c.env))) := by rfl) :
  ∀ q s, St c q Z U s -> ∀ (Q : VP) (E : VP), (∀ av v s', R av -> Ev c.C No No s s' -> Rp c.C q s'.heap av v -> Q v s') -> (X -> ∀ x s', Ev c.C No No s s' -> Exn (Nw s) s'.heap true x -> E x s') ->
   wpAny (model c.C.prog c.C.w) c.A (eval (.Call f (e :: rest) [] p) c.env) Q E s := fun q s S Q E hQ hX => by
 refine Call_ (hf q s S fun w s1 ew rB => ?_) hcall
 obtain rfl : w = .ref fa := rB
 refine callWith_def hfd (ha p q s1 (S.ev ew) fun us s2 eD rD => ?_) he
 have e02 := ew.tr eD
 have S2 := S.ev e02
 refine ⟨hob _ S2.base, ?_⟩
 exact hF c.A c.fl q s2 us (hc.room.mono hn) (S2.fx hc) S2.gd rD Q E (fun av v s' hR ev r => hQ av v s' hR (e02.tr ev) r) fun hx x s' ev Xn => hX hx x s' (e02.tr ev) (Xn.mono fun a _ _ h => e02.gone h)
theorem ev_callF (hc : c.EOk) {f e : Expr} {rest : List Expr} {p : Pos} {fa : Addr} {ob : Obj} {fd : FuncData} {n : Nat} {avs : List AV} {z : AV} (hob : ∀ h, Base c.C h -> h.get? fa = some ob) (hfd : ob.data = .func fd)
  (hf : EV c Z U f (.raw (.ref fa))) (ha : EVA c Z U (e :: rest) avs) (hF : FC c.C n (.ref fa) avs (· = z) False) (hn : n <= c.n)
  (he : starEach (e :: rest) c.env = (false, eval e c.env) :: starEach rest c.env := by rfl)
  (hcall : eval (.Call f (e :: rest) [] p) c.env = (do callWith p (<- eval f c.env) [] (backTo p (starEach (e :: rest) c.env)) (backToKw p (keywordEach [] c.env))) := by rfl) : EV c Z U (.Call f (e :: rest) [] p) z := fun q s S Q E k =>
 evr_callF hc hob hfd hf ha hF hn he hcall q s S Q E (fun av v s' h ev r => k v s' ev (h ▸ r)) fun h => h.elim
theorem ev_callF0 (hc : c.EOk) {x : Str} {np p : Pos} {fa : Addr} {ob : Obj} {fd : FuncData} {n : Nat} {z : AV} (hob : ∀ h, Base c.C h -> h.get? fa = some ob) (hfd : ob.data = .func fd)
  (hf : EV c Z U (.Name x np) (.raw (.ref fa))) (hF : FC c.C n (.ref fa) [] (· = z) False) (hn : n <= c.n) : EV c Z U (.Call (.Name x np) [] [] p) z := fun q s S Q E k => by
 refine Call_Name0 (hf q s S fun w s1 ew rB => ?_)
 obtain rfl : w = .ref fa := rB
 have SB := S.ev ew
 have ho := hob _ SB.base
 refine callWith_F0 (env := c.env) (first := []) ⟨ob.cls, ob.dict, fd, ob.slots, ho.trans (by cases ob; cases hfd; rfl)⟩ ?_
 exact hF c.A c.fl q s1 [] (hc.room.mono hn) (SB.fx hc) SB.gd trivial Q E (fun av v s' h ev r => k v s' (ew.tr ev) (h ▸ r)) fun h => h.elim
theorem s_callF (hc : c.Ok) {f e : Expr} {rest : List Expr} {p p' : Pos} {fa : Addr} {ob : Obj} {fd : FuncData} {n : Nat} {avs : List AV} (hob : ∀ h, Base c.C h -> h.get? fa = some ob) (hfd : ob.data = .func fd)
  (hf : EV c Z U f (.raw (.ref fa))) (ha : EVA c Z U (e :: rest) avs) {R1 : AV -> Prop} (hF : FC c.C n (.ref fa) avs R1 X) (hn : n <= c.n)
  (he : starEach (e :: rest) c.env = (false, eval e c.env) :: starEach rest c.env := by rfl)
  (hcall : eval (.Call f (e :: rest) [] p) c.env = (do callWith p (<- eval f c.env) [] (backTo p (starEach (e :: rest) c.env)) (backToKw p (keywordEach [] c.env))) := by rfl)
  (hs : swapsWith (.Call f (e :: rest) [] p) none p'.line c.env = pure false := by rfl) : S1 c Z U (.Expr (.Call f (e :: rest) [] p) p') (fun U' => (∃ av, R1 av) /\ U' = U) R X := fun q s S Q E o =>
 wpAny_Expr_any (evr_callF hc.e hob hfd hf ha hF hn he hcall q s S _ E (fun av v s' h ev r => o.n q U s' ⟨⟨av, h⟩, rfl⟩ .refl ev.up (S.ev ev)) fun hx x s' ev Xn => o.x hx x s' ev.up Xn.any) (inter_f hc.kind) hs
end
section
variable {C : Cx} {A : Around} {c : Ac} {Z U : Env1}
theorem three {C : Cx} {q : Addr -> Nat} {h : Heap} {x y z : AV} {vs : List Value} (r : RpL C q h [x, y, z] vs) : ∃ v u w, vs = [v, u, w] /\ Rp C q h x v /\ Rp C q h y u /\ Rp C q h z w := by
 match vs, r with
 | [v, u, w], r => exact ⟨v, u, w, rfl, r.1, r.2.1, r.2.2.1⟩
 | [_, _], r => exact r.2.2.elim
 | [_], r => exact r.2.elim
 | _ :: _ :: _ :: _ :: _, r => exact r.2.2.2.elim
theorem c_find {b sub : List UInt8} {i : Int} : CB C A (.builtin "bytes.find") [.bytes b, .bytes sub, .int i] (.int (findR ⟨b⟩ ⟨sub⟩ i)) := fun q s vs G r Q E k => by
 refine E34 (three r) ?_; rintro v u w rfl r1 r2 r3
 refine E11 (de_bytes r1) ?_; rintro t rfl
 refine E11 (de_bytes r2) ?_; rintro t' rfl
 refine E11 (de_int r3) ?_; rintro t'' rfl
 exact call_gives B.slot_find (typeIs_bytes s _ t) B.entry_find (B.args_find _ _ _) (gives_find ⟨b⟩ ⟨sub⟩ i t t' t'') (k _ _ tok1 rp_int)
theorem c_join {sep : List UInt8} {bs : List (List UInt8)} (hne : bs ≠ []) (hz : (bs.foldl (fun n b => n + b.length) (sep.length * (bs.length - 1))) <= 1000000) :
  CB C A (.builtin "bytes.join") [.bytes sep, .lst (bs.map .bytes)] (.bytes (PySem.Builtin.Bytes.joined ⟨sep⟩ (bs.map fun b => ⟨b⟩)).toList) := fun q s vs G r Q E k => by
 refine E23 (two r) ?_; rintro v u rfl r1 r2
 refine E11 (de_bytes r1) ?_; rintro t rfl
 refine E24 (de_lst r2) ?_; rintro a ws rfl _ hl rl
 refine wpAny_call_entry B.slot_join (typeIs_bytes s _ t) B.entry_join ?_ (B.args_join _ _)
 exact join_run ⟨sep⟩ t hl rl hne hz fun t' tk => ⟨_, rfl, k _ _ toks rp_bytes⟩
theorem c_join_own {sep : List UInt8} {bs : List (List UInt8)} (hne : bs ≠ []) (hz : (bs.foldl (fun n b => n + b.length) (sep.length * (bs.length - 1))) <= 1000000) :
  CB C A (.builtin "bytes.join") [.bytes sep, .own (bs.map .bytes)] (.bytes (PySem.Builtin.Bytes.joined ⟨sep⟩ (bs.map fun b => ⟨b⟩)).toList) := fun q s vs G r Q E k => by
 obtain ⟨v, u, rfl, r1, a, ws, rfl, _, hl, rl⟩ := two r
 refine E11 (de_bytes r1) ?_; rintro t rfl
 refine wpAny_call_entry B.slot_join (typeIs_bytes s _ t) B.entry_join ?_ (B.args_join _ _)
 exact join_run ⟨sep⟩ t hl.isList rl hne hz fun t' tk => ⟨_, rfl, k _ _ toks rp_bytes⟩
end
section
variable {C : Cx} {A : Around} {c : Ac} {Z U : Env1}
theorem itb_new {C : Cx} (hc : C.Ok) {n : Nat} {K : Addr -> Prop} {l : Addr} {vs : List Value} {xs : List AV} {s : Shared} (B : Base C s.heap) (hl : s.heap.IsList l ⟨vs⟩) (hn : C.h₁.get? l = none) (hKs : ∀ a, K a -> ∃ o, s.heap.get? a = some o /\ (o.cls = .type "list" \/ o.cls = .type "dict")) (rl : R0L s.heap xs vs) : Itb C n false K (.ref l) xs (· = l) No s := by
 obtain ⟨ol, hol, hcl, m, hd⟩ := id hl
 refine ⟨⟨fun a h => by subst h; exact ⟨hn, ol, hol, by rw [hcl]; simp, by rw [hcl]; simp⟩, hKs, fun _ h => h.elim⟩, fun s1 W G e ap A fl hr F Q E k => ?_⟩
 have hlB : s1.heap.IsList l ⟨vs⟩ := by
  refine E12 (e.kp l ol hol (fun h => (ap.o l h).1 rfl) (notT_cls B hol (by rw [hcl]; nofun))) fun o' ho' z => ?_
  exact ⟨o', ho', z.1.trans hcl, m, z.2.2.1.trans hd⟩
 refine wpAny_pyIter_list hlB ?_
 have eD : Ev C No No s1 { s1 with heap := s1.heap.push { cls := .type "list_iterator", data := .fields #[.ref l, .int 0 0] } } := .keep fun _ _ e => gP _ e
 refine E13 (id hlB) fun ol1 hol1 hcl1 _ => ?_
 have hne : l ≠ s1.heap.objs.size := Nat.ne_of_lt (Heap.lt_size hol1)
 have hit := Heap.get?_push_size s1.heap (o := { cls := .type "list_iterator", data := .fields #[.ref l, .int 0 0] }) rfl
 have hnew := F.base.gone (get_fresh s1.heap)
 refine k _ _ (fun a => a = l \/ a = s1.heap.objs.size) eD (fun a h => h.imp id fun z => by subst z; exact get_fresh _) ?_ fun s3 W' G' e' ap' A Q E hQ => ?_
 rotate_left
 ·refine E12 (e'.kp _ _ hit (fun h => (ap'.o _ h).1 (.inr rfl)) (Base.noT hc hnew)) fun o' ho' z => ?_
  exact wpAny_pyIter_listiter (i := 0) (l := l) ⟨o', ho', z.1, z.2.2.1⟩ hQ
 refine list_str hc (vs := vs) xs 0 _ (eD.bs F.base) ⟨_, hit, rfl, rfl⟩ (hlB.push _) hnew (.inr rfl) (.inr (.inl rfl)) hne (by simpa using (rl.ev e B ap.t).ev eD F.base (fun _ _ h => h.elim)) ⟨fun a h => ?_, fun a h => ?_, fun _ h => h.elim⟩
 ·rcases h with h | h
  ·subst h; exact ⟨hn, ol1, gP _ hol1, by rw [hcl1]; simp, by rw [hcl1]; simp⟩
  ·subst h; exact ⟨hnew, _, hit, by simp, by simp⟩
 ·refine E12 (hKs a h) fun o ho h => ?_
  refine E13 (e.al a o ho) fun o' ho' h' _ => ?_
  exact ⟨o', gP _ ho', (by rw [h']; exact h)⟩
end
section
variable {g : Gk} {Z U : Env1} {its : List Src} {zs : List AV} {Kc K1 : Env1 -> List Src -> List AV -> Prop}
theorem GSt.add {c : Ac} {qA q : Addr -> Nat} {OG0 OG : Nat -> Prop} {s0 s s' : Shared} (G : GSt g c qA q Z U its OG0 OG s0 s) (e : Ev g.C No No s s') {l : Addr} {vs : List Value} {xs : List AV} (hl : Nw s l) (hi : s'.heap.IsList l ⟨vs⟩) (rl : R0L s'.heap xs vs) :
  GSt g c qA (recol (· = l) (2 + its.length) q) Z U (⟨false, .ref l, xs, false⟩ :: its) OG0 OG s0 s' := by
 have hC := G.C
 have ec : Ev c.C No No s s' := by rw [hC]; exact e
 have GB := G.next .refl ec.up (G.S.ev ec)
 have ag : Agree s.heap q (recol (· = l) (2 + its.length) q) := fun a o ho => recol_out fun z => by subst z; have h' : s.heap.get? a = none := hl; rw [ho] at h'; cases h'
 have B : Base g.C s.heap := by have := G.S.base; rwa [hC] at this
 have hn : g.C.h₁.get? l = none := B.gone hl
 obtain ⟨ol, hol, hcl, m, hd⟩ := id hi
 have Gx := G.next ag ec.up (G.S.step (R := fun _ => True) ec .no (fun _ _ => trivial) ag fun a ha => by
  rcases recol_ne ha with z | z
  ·have z' : a = l := z
   subst z'
   exact ⟨by rw [hC]; exact hn, ol, hol, by rw [hcl]; simp, by rw [hcl]; simp⟩
  ·exact (G.S.col.ev ec) a z)
 refine { Gx with its := ⟨(· = l), No, OG, itb_new (by have := G.ok.C; rwa [hC] at this) (e.bs B) hi hn (fun a h => (Gx.kk a h).2) rl, fun a h => recol_in h, fun j h => h.elim, fun j h => h, Gx.its⟩ }
theorem g1_for_new {name : Str} {px p : Pos} {iter : Expr} {body : List Stmt} {xs : List AV} {Inv : List AV -> Env1 -> List AV -> Prop} (ok : g.Ok)
  (h : ∀ c : Ac, c.Ok -> c.C = g.C -> c.env = g.env -> c.n = g.n -> EVF c Z U iter xs) (hx : g.env.kindOf name = some .local) (hI : Inv xs U zs)
  (hend : ∀ U zs, Inv [] U zs -> Kc U its zs)
  (hl : ∀ x xs U zs, Inv (x :: xs) U zs -> x.ow = false)
  (hb : ∀ it x xs U zs, Inv (x :: xs) U zs -> GX g Z (up name x U) (⟨true, it, xs, false⟩ :: its) body zs fun U' its' zs' => its' = ⟨true, it, xs, false⟩ :: its /\ Inv xs U' zs')
  (hs : ∀ x, foldedSetIterable iter g.env x = pure x := by intro _; rfl) : G1 g Z U its (.For (.Name name px) iter body [] p) zs Kc := fun code fs K H gd lv ct hKc hH A fl c qA q OG0 OG s0 s hr F hA hfl G => by
 obtain ⟨cC, cA, ce, cf, cn, cW⟩ := c
 obtain rfl : cC = g.C := G.C
 obtain rfl : ce = g.env := G.env
 obtain rfl : cn = g.n := G.n
 obtain rfl : cA = A.over code fs := hA
 obtain rfl : cf = g.env :: fl := hfl
 rw [exec_For]
 refine g_bw (wpAny_standAt ?_)
 refine g_bw (h _ G.ok rfl rfl rfl q s G.S fun l vs s1 ew hnw hli rB => ?_)
 have GB := G.add ew hnw hli rB
 refine g_bw (wpAny_of_eq (hs (.ref l)) ?_)
 refine g_bw (wpAny_standAt ?_)
 refine E35 GB.its fun O OG1 OG2 h1 h2 h3 h4 h5 => ?_
 have hB : Itb g.C g.n false g.K (.ref l) xs O OG1 s1 := h1
 refine g_bw (wpAny_holding (hB.2 s1 No No .refl .no _ _ G.ok.room (GB.S.fx G.ok.e) _ _ fun it s2 O' eD hO' hS _ => ?_))
 have GD := GB.took (i' := ⟨true, it, xs, false⟩) hB.1 h2 h3 h4 h5 eD.up hO' (fun j hj => .inl hj) hS
 exact g_run ok ct hKc hH hx hI (fun U zs hI' _ => hend U zs hI') (fun _ _ _ z => by cases z) hl (hb it) A fl _ qA _ OG0 _ s0 s2 hr F rfl rfl GD
end
section
variable {c : Ac} {Z U : Env1}
theorem evf_split {o e : Expr} {apos p : Pos} {b sub : List UInt8} (ho : EV c Z U o (.bytes b)) (ha : EV c Z U e (.bytes sub)) (hs : sub.isEmpty = false) (hz : ∀ x ∈ pieces ⟨b⟩ ⟨sub⟩, x.size <= 1000000) (hn : (pieces ⟨b⟩ ⟨sub⟩).length <= 1000000)
  (hfew : ((backTo p (starEach [e] c.env)).all (fun x => !x.1) && (backToKw p (keywordEach [] c.env)).all (fun x => x.1.isSome)
   && decide (([e] : List Expr).length + ([] : List Keyword).length + (if ([] : List Keyword).isEmpty then 0 else 1) < 30)) = true := by rfl)
  (he : starEach [e] c.env = [(false, eval e c.env)] := by rfl)
  (hbase : attributeBase o "split" c.env (eval o c.env) = eval o c.env := by rfl) (hline : (apos.endLine == p.line) = true := by rfl) : EVF c Z U (.Call (.Attribute o "split" apos) [e] [] p) ((pieces ⟨b⟩ ⟨sub⟩).map fun x => .bytes x.toList) := fun q s S Q E k => by
 refine wpAny_Call_method hbase hfew hline FB.plainAttrs_bytes B.slot_split B.type_split (ho q s S fun v s1 ew rB => ?_)
 refine E11 (de_bytes rB) ?_; rintro t rfl
 refine ⟨typeIs_bytes s1 _ t, fun a e => (nomatch e), ?_⟩
 refine callWith_method1 (eva_cons (rest := []) ha eva_nil he p q s1 (S.ev ew) fun vs s2 eD rD => ?_) he (by rfl)
 refine E12 (one rD) ?_; rintro u rfl r'
 refine E11 (de_bytes r') ?_; rintro t' rfl
 refine wpAny_call_entry B.slot_split (typeIs_bytes s2 _ t) B.entry_split ?_ (B.args_split _ _)
 refine gives_split ⟨b⟩ ⟨sub⟩ t t' (by cases sub with | nil => cases hs | cons => simp [Array.isEmpty]) hz hn fun vs tk rl => ⟨_, rfl, ?_⟩
 have eH : Ev c.C No No s2 { s2 with toks := tk, heap := s2.heap.push { cls := .type "list", data := .seq vs.toArray } } := .keep fun _ _ e => gP _ e
 exact k _ vs _ ((ew.tr eD).tr eH) ((ew.tr eD).gone (get_fresh _)) ⟨_, Heap.get?_push_size _ rfl, rfl, _, rfl⟩ (R0L.ev (C := c.C) rl eH ((S.ev ew).ev eD).base (fun _ _ h => h.elim))
end
noncomputable def stA (i : Nat) : Stmt := (PySem.Challenge.pw_ix0033_01.main.body[i]?).getD (.Pass ⟨0, 0, 0, 0⟩)
noncomputable def stIn (s : Stmt) (i : Nat) : Stmt := match s with
 | .ClassDef _ _ _ b _ _ _ _ _ _ _ => (b[i]?).getD (.Pass ⟨0, 0, 0, 0⟩)
 | s => s
noncomputable def dBody : Stmt -> List Stmt
 | .FunctionDef _ _ b _ _ _ _ _ _ _ => b
 | _ => []
noncomputable def dArgs : Stmt -> Arguments
 | .FunctionDef _ a _ _ _ _ _ _ _ _ => a
 | _ => ⟨[], [], none, [], [], none, []⟩
noncomputable def dName : Stmt -> Str
 | .FunctionDef n _ _ _ _ _ _ _ _ _ => n
 | _ => ⟨#[]⟩
noncomputable def dScope : Stmt -> Scope
 | .FunctionDef _ _ _ _ _ _ s _ _ _ => s
 | _ => ⟨.function, [], false, false, []⟩
noncomputable def dPos : Stmt -> Pos
 | .FunctionDef _ _ _ _ _ _ _ _ _ p => p
 | _ => ⟨0, 0, 0, 0⟩
structure FnE (C : Cx) (a : Addr) (st : Stmt) (fd : FuncData) (dv : Value) : Prop where
 at' : FnAt C a fd (dBody st)
 sc : fd.scope = dScope st
 cl : fd.closure = []
 pa : fd.params = dArgs st
 df : fd.defaults = dv
noncomputable abbrev FnD (C : Cx) (a : Addr) (st : Stmt) (fd : FuncData) : Prop := FnE C a st fd .none
theorem len3 {α : Type} {l : List α} (h : l.length = 3) : ∃ a b c, l = [a, b, c] := by
 rcases l with _ | ⟨a, _ | ⟨b, _ | ⟨c, _ | ⟨d, l⟩⟩⟩⟩ <;> simp at h
 exact ⟨a, b, c, rfl⟩
theorem len4 {α : Type} {l : List α} (h : l.length = 4) : ∃ a b c d, l = [a, b, c, d] := by
 rcases l with _ | ⟨a, _ | ⟨b, _ | ⟨c, _ | ⟨d, _ | ⟨e, l⟩⟩⟩⟩⟩ <;> simp at h
 exact ⟨a, b, c, d, rfl⟩
theorem len1 {α : Type} {l : List α} (h : l.length = 1) : ∃ a, l = [a] := by
 rcases l with _ | ⟨a, _ | ⟨z, l⟩⟩ <;> simp at h
 exact ⟨a, rfl⟩
theorem len2 {α : Type} {l : List α} (h : l.length = 2) : ∃ a b, l = [a, b] := by
 rcases l with _ | ⟨a, _ | ⟨b, _ | ⟨z, l⟩⟩⟩ <;> simp at h
 exact ⟨a, b, rfl⟩
theorem len5 {α : Type} {l : List α} (h : l.length = 5) : ∃ a b c d e, l = [a, b, c, d, e] := by
 rcases l with _ | ⟨a, _ | ⟨b, _ | ⟨c, _ | ⟨d, _ | ⟨e, _ | ⟨z, l⟩⟩⟩⟩⟩⟩ <;> simp at h
 exact ⟨a, b, c, d, e, rfl⟩
theorem bind0 {fd : FuncData} {ps : Arguments} (h : fd.params = ps) (hd : fd.defaults = .none) (k : ∀  nm q bo sc g cl kd dc pm an co ct bi, bindArgs ⟨nm, q, ps, bo, sc, g, cl, .none, kd, dc, pm, an, co, ct, bi⟩ ⟨[], []⟩ = pure [] := by intros; kernel_rfl) : ∀ vs : List Value, vs.length = ([] : List Str).length -> bindArgs fd ⟨vs, []⟩ = pure (([] : List Str).zip vs) := fun vs hv => by
 cases List.length_eq_zero_iff.mp hv
 cases fd; cases h; cases hd
 exact k ..
theorem bind1 {fd : FuncData} {ps : Arguments} {a : Str} (h : fd.params = ps) (hd : fd.defaults = .none) (k : ∀ x nm q bo sc g cl kd dc pm an co ct bi, bindArgs ⟨nm, q, ps, bo, sc, g, cl, .none, kd, dc, pm, an, co, ct, bi⟩ ⟨[x], []⟩ = pure [(a, x)] := by intros; kernel_rfl) : ∀ vs : List Value, vs.length = [a].length -> bindArgs fd ⟨vs, []⟩ = pure ([a].zip vs) := fun vs hv => by
 obtain ⟨x, rfl⟩ := len1 hv
 cases fd; cases h; cases hd
 exact k ..
theorem bind2 {fd : FuncData} {ps : Arguments} {a b : Str} (h : fd.params = ps) (hd : fd.defaults = .none) (k : ∀ x y nm q bo sc g cl kd dc pm an co ct bi, bindArgs ⟨nm, q, ps, bo, sc, g, cl, .none, kd, dc, pm, an, co, ct, bi⟩ ⟨[x, y], []⟩ = pure [(a, x), (b, y)] := by intros; kernel_rfl) : ∀ vs : List Value, vs.length = [a, b].length -> bindArgs fd ⟨vs, []⟩ = pure ([a, b].zip vs) := fun vs hv => by
 obtain ⟨x, y, rfl⟩ := len2 hv
 cases fd; cases h; cases hd
 exact k ..
theorem bind3 {fd : FuncData} {ps : Arguments} {a b c : Str} (h : fd.params = ps) (hd : fd.defaults = .none) (k : ∀ x y z nm q bo sc g cl kd dc pm an co ct bi, bindArgs ⟨nm, q, ps, bo, sc, g, cl, .none, kd, dc, pm, an, co, ct, bi⟩ ⟨[x, y, z], []⟩ = pure [(a, x), (b, y), (c, z)] := by intros; kernel_rfl) : ∀ vs : List Value, vs.length = [a, b, c].length -> bindArgs fd ⟨vs, []⟩ = pure ([a, b, c].zip vs) := fun vs hv => by
 obtain ⟨x, y, z, rfl⟩ := len3 hv
 cases fd; cases h; cases hd
 exact k ..
theorem bind4 {fd : FuncData} {ps : Arguments} {a b c d : Str} (h : fd.params = ps) (hd : fd.defaults = .none) (k : ∀ x y z u nm q bo sc g cl kd dc pm an co ct bi, bindArgs ⟨nm, q, ps, bo, sc, g, cl, .none, kd, dc, pm, an, co, ct, bi⟩ ⟨[x, y, z, u], []⟩ = pure [(a, x), (b, y), (c, z), (d, u)] := by intros; kernel_rfl) : ∀ vs : List Value, vs.length = [a, b, c, d].length -> bindArgs fd ⟨vs, []⟩ = pure ([a, b, c, d].zip vs) := fun vs hv => by
 obtain ⟨x, y, z, u, rfl⟩ := len4 hv
 cases fd; cases h; cases hd
 exact k ..
theorem bind5 {fd : FuncData} {ps : Arguments} {a b c d e : Str} (h : fd.params = ps) (hd : fd.defaults = .none) (k : ∀ x y z u v nm q bo sc g cl kd dc pm an co ct bi, bindArgs ⟨nm, q, ps, bo, sc, g, cl, .none, kd, dc, pm, an, co, ct, bi⟩ ⟨[x, y, z, u, v], []⟩ = pure [(a, x), (b, y), (c, z), (d, u), (e, v)] := by intros; kernel_rfl) : ∀ vs : List Value, vs.length = [a, b, c, d, e].length -> bindArgs fd ⟨vs, []⟩ = pure ([a, b, c, d, e].zip vs) := fun vs hv => by
 obtain ⟨x, y, z, u, v, rfl⟩ := len5 hv
 cases fd; cases h; cases hd
 exact k ..
noncomputable def AV.ret : AV -> Bool
 | .own _ => false
 | .set _ => false
 | .vset _ => false
 | .dict _ => false
 | _ => true
theorem ow1 {a : AV} (h : a.ow = false) : ∀ av ∈ [a], av.ow = false := fun _ z => List.mem_singleton.mp z ▸ h
theorem owC {a : AV} {l : List AV} (h : a.ow = false) (k : ∀ av ∈ l, av.ow = false) : ∀ av ∈ a :: l, av.ow = false := fun _ z => (List.mem_cons.mp z).elim (· ▸ h) (k _)
theorem ow2 {a b : AV} (h : a.ow = false) (i : b.ow = false) : ∀ av ∈ [a, b], av.ow = false := owC h (ow1 i)
theorem ow3 {a b c : AV} (h : a.ow = false) (i : b.ow = false) (j : c.ow = false) : ∀ av ∈ [a, b, c], av.ow = false := owC h (ow2 i j)
theorem ow4 {a b c d : AV} (h : a.ow = false) (i : b.ow = false) (j : c.ow = false) (k : d.ow = false) : ∀ av ∈ [a, b, c, d], av.ow = false := owC h (ow3 i j k)
theorem fc_std {C : Cx} (hC : C.Ok) {a : Addr} {st : Stmt} {fd : FuncData} {dv : Value} (F : FnE C a st fd dv) {n : Nat} {names : List Str} {avs : List AV} {z : AV} {X : Prop} (hg : (dScope st).isGenerator = false) (hcell : ∀ x ∈ (dScope st).names, x.2 ≠ .cell) (hb : BindW C fd names) (hlen : avs.length = names.length) (hloc : ∀ x ∈ names, (dScope st).names.lookup x = some .local) (how : ∀ av ∈ avs, av.ow = false) (hz : z.ret = true)
  (H : ∀ c : Ac, c.Ok -> c.C = C -> c.n = n -> c.env.scope = fd.scope -> SX c [] (names.zip avs).reverse (dBody st) (fun _ => AV.none = z) (· = z) X) : FC C (n + 1) (.ref a) avs (· = z) X :=
 fc_of (R := (· = z)) hC F.at' (F.sc ▸ hg) (F.sc ▸ hcell) hb hlen (F.sc ▸ hloc) how (fun _ e => by subst e; cases hz) (fun _ => ⟨fun e => (by subst e; cases hz), fun e => (by subst e; cases hz), fun _ e => (by subst e; cases hz)⟩) H
theorem OkY.up {U : Env1} {x : Str} {a : AV} (h : OkY U) (ha : a.okY = true) : OkY (Mine.up x a U) := fun y av e => by
 rw [up_lookup] at e
 by_cases hy : y = x
 ·rw [if_pos hy] at e; cases e; exact ha
 ·rw [if_neg hy] at e; exact h y av e
theorem OkY.nil : OkY [] := fun y av e => by simp [List.lookup] at e
theorem OkY.cons {U : Env1} {x : Str} {a : AV} (ha : a.okY = true) (h : OkY U) : OkY ((x, a) :: U) := fun y av e => by
 by_cases hy : y = x
 ·subst hy; simp [List.lookup] at e; subst e; exact ha
 ·simp [List.lookup, beq_eq_false_iff_ne.mpr hy] at e; exact h y av e
theorem Fld.okY (f : Fld) : f.av.okY = true := f.nl
theorem look_up {U : Env1} {x : Str} {a : AV} : (Mine.up x a U).lookup x = some a := up_self
theorem look_ne {U : Env1} {x y : Str} {a : AV} (h : (y == x) = false := by decide +kernel) : (Mine.up x a U).lookup y = U.lookup y := by
 rw [up_lookup, if_neg (by simpa using h)]
section
variable {c : Ac} {Z U : Env1}
theorem ev_f0 (hc : c.EOk) {x : Str} {f : Fld} {p p2 p3 : Pos} {k : Nat} (h : U.lookup x = some f.av) (hd : (x == ("__debug__" : Str)) = false := by decide +kernel) : EV c Z U (.Subscript (.Name x p) (.Constant (.int 0) k p2) p3) (.bytes f.n) :=
 ev_sub (ev_local hc h hd) ev_int (gi_tup (n := 0) rfl (by decide))
theorem ev_f1 (hc : c.EOk) {x : Str} {f : Fld} {p p2 p3 : Pos} {k : Nat} (h : U.lookup x = some f.av) (hd : (x == ("__debug__" : Str)) = false := by decide +kernel) : EV c Z U (.Subscript (.Name x p) (.Constant (.int 1) k p2) p3) (.bytes f.v) :=
 ev_sub (ev_local hc h hd) ev_int (gi_tup (n := 1) rfl (by decide))
theorem xL_len (x : Option Bool) : (xL x).length <= 1 := by cases x <;> simp [xL]
theorem ev_f2 (hc : c.EOk) {x : Str} {f : Fld} {p p2 p3 p4 : Pos} {k : Nat} (h : U.lookup x = some f.av) (hd : (x == ("__debug__" : Str)) = false := by decide +kernel) : EV c Z U (.Subscript (.Name x p) (.Slice (some (.Constant (.int 2) k p2)) none none p4) p3) (.tup (xL f.x)) :=
 ev_slice (ev_local hc h hd) (eo_int ev_int) eo_none (gs_tup (n := 2) (by decide) (by simp) (by have := xL_len f.x; simp; lia))
end
noncomputable def lowF (f : Fld) : Fld := { f with n := f.n.map PySem.Builtin.Bytes.toLower }
section
open PySem.Builtin
namespace B
theorem slot_repr : Slot "bytes" "__repr__" "bytes.__repr__" :=
 .of (owner := "bytes") (n := "__repr__") (by rw [typeLookup_type, builtinLookup_eq_fast]; kernel_rfl) (by decide +kernel) (by decide +kernel) (by decide +kernel)
  (by first | exact .inl (by decide +kernel) | exact .inr (by decide +kernel)) (by rw [isSubtype_type]; kernel_rfl)
theorem entry_repr : entryFor table "bytes.__repr__" = some Builtin.«bytes.__repr__» := entryFor_of_tree (by kernel_rfl)
theorem args_repr (a : Value) : argsOk "bytes.__repr__" ⟨[a], []⟩ := by
 unfold argsOk; rw [signature?_of (id := "bytes.__repr__") (n := ['_', '_', 'r', 'p', 'e', 'r', '_', '_']) (o := ['s', 'e', 't', 'y', 'b']) (by kernel_rfl) FB.owner_bytes]; kernel_rfl
end B
theorem foldl_size {α : Type} (f : UInt8 -> Array α) (n : Nat) (hf : ∀ c, (f c).size <= n) : ∀ (l : List UInt8) (acc : Array α), (l.foldl (fun acc c => acc ++ f c) acc).size <= acc.size + n * l.length
 | [], acc => by simp
 | c :: l, acc => by
  have h := foldl_size f n hf l (acc ++ f c)
  have h2 := hf c
  simp only [Array.size_append] at h
  simp only [List.foldl_cons, List.length_cons, Nat.mul_succ]
  lia
noncomputable def litF (w : Bool) (c : Nat) : Array Nat := if c == (if w then 34 else 39) || c == 92 then #[92, c]
 else if c == 9 then #[92, 116] else if c == 10 then #[92, 110] else if c == 13 then #[92, 114] else if c < 32 || c ≥ 127 then #[92, 120, (if c / 16 < 10 then 48 + c / 16 else 87 + c / 16), (if c % 16 < 10 then 48 + c % 16 else 87 + c % 16)] else #[c]
theorem lit4 : ∀ w : Bool, ∀ c, c < 256 -> (litF w c).size <= 4 := by decide +kernel
theorem literal_len (b : List UInt8) : (Bytes.literal ⟨b⟩ false).length <= 4 * b.length + 3 := by
 have h := foldl_size (α := Nat) (fun c => litF ((⟨b⟩ : Array UInt8).contains 39 && !(⟨b⟩ : Array UInt8).contains 34) c.toNat) 4 (fun c => lit4 _ _ c.toNat_lt) b #[98, (if (⟨b⟩ : Array UInt8).contains 39 && !(⟨b⟩ : Array UInt8).contains 34 then 34 else 39)]
 unfold Bytes.literal
 show (Array.push _ _).size <= _
 rw [Array.size_push]
 rw [<- Array.foldl_toList]
 exact Nat.le_trans (Nat.succ_le_succ h) (by show 2 + 4 * b.length + 1 <= _; lia)
theorem gives_repr (b : List UInt8) (t : Tok) (hb : b.length <= 1000000) : Gives («bytes.__repr__» ⟨[.bytes ⟨b⟩ t], []⟩) (.str (Bytes.literal ⟨b⟩ false)) := by
 refine .of_wp fun M A E s Q hq => ?_
 have e : (Bytes.tooLong (4 * (⟨b⟩ : Array UInt8).size + 3 + 0)) = false := by
  unfold Bytes.tooLong; rw [decide_eq_false_iff_not]; show ¬ (4 * b.length + 3 + 0 > 2 ^ 24); lia
 show wpAny M A (Bytes.literalAsked ⟨b⟩ >>= fun x => _) _ E s
 unfold Bytes.literalAsked
 rw [e]
 exact wB (wP (wB (wpAny_mkStr (wP ⟨_, rfl, hq.2⟩) hq.1)))
section
variable {c : Ac} {Z U : Env1}
noncomputable def Part (c : Ac) (Z U : Env1) (e : Expr) : Prop := ∀ q s, St c q Z U s -> ∀ (Q : VP) (E : VP), (∀ y t s', Ev c.C No No s s' -> y.length <= 100000 -> Q (.str y t) s') -> wpAny (model c.C.prog c.C.w) c.A (eval e c.env) Q E s
theorem parts_any (hc : c.EOk) : ∀ (vs : List Expr) (acc : Str) (q : Addr -> Nat) (s s0 : Shared) (Q : VP) (E : VP), St c q Z U s -> Ev c.C No No s0 s -> (∀ e ∈ vs, Part c Z U e) -> acc.length + 100000 * vs.length <= 900000 ->
  (∀ y t s', Ev c.C No No s0 s' -> y.length <= 1000000 -> Q (.str y t) s') -> wpAny (model c.C.prog c.C.w) c.A (joinParts acc (evalEach vs c.env)) Q E s
 | [], acc, q, s, s0, Q, E, S, e, _, hz, k => by
  have h1 : acc.length <= 900000 := by simpa using hz
  exact joinParts_nil (k _ _ _ (e.tr tok1) (by lia)) (by show _ <= 2 ^ 24; lia)
 | x :: r, acc, q, s, s0, Q, E, S, e, hp, hz, k => by
  rw [evalEach]
  refine joinParts_cons (hp x (List.mem_cons_self ..) q s S _ _ fun y t s1 ew hy => ?_)
  simp only [List.length_cons, Nat.mul_succ] at hz
  have hl : (acc ++ y).length = acc.length + y.length := strLen_append ..
  exact ⟨by rw [hl]; show _ <= 2 ^ 24; lia, parts_any hc r (acc ++ y) q s1 s0 Q E (S.ev ew) (e.tr ew) (fun e he => hp e (mC _ he)) (by rw [hl]; lia) k⟩
theorem ev_fstr (hc : c.EOk) {vB vD : Expr} {rest : List Expr} {p : Pos} (h : ∀ e ∈ vB :: vD :: rest, Part c Z U e) (hl : rest.length <= 7) : EV c Z U (.JoinedStr (vB :: vD :: rest) p) .str := fun q s S Q E k => by
 refine JoinedStr_many ?_
 refine parts_any (Z := Z) (U := U) hc (vB :: vD :: rest) Str.empty q s s Q E S .refl h ?_ fun y t s' e hy => k _ s' e (.of_rep (by rw [Rep]; exact ⟨_, _, rfl, hy⟩))
 show 0 + _ <= _
 simp only [List.length_cons]; lia
theorem pt_str {x : Str} {k : Nat} {p : Pos} (hx : x.length <= 100000) : Part c Z U (.Constant (.str x) k p) := fun q s S Q E h =>
 wpAny_mkText (h _ _ _ (.keep fun _ _ e => e) hx)
theorem pt_nil : ∀ e ∈ ([] : List Expr), Part c Z U e := fun _ h => by cases h
theorem pt_cons {v : Expr} {r : List Expr} (h : Part c Z U v) (k : ∀ e ∈ r, Part c Z U e) : ∀ e ∈ v :: r, Part c Z U e := fun e he => by
 rcases List.mem_cons.mp he with rfl | he
 ·exact h
 ·exact k e he
theorem pt_repr (hc : c.EOk) {v : Expr} {b : List UInt8} {p : Pos} (h : EV c Z U v (.bytes b)) (hb : b.length <= 20000) : Part c Z U (.FormattedValue v 114 none p) := fun q s S Q E k => by
 have hl := literal_len b
 refine wpAny_FormattedValue_repr (h q s S fun x s1 ew rB => ?_)
 refine E11 (de_bytes rB) ?_; rintro t rfl
 refine wpAny_pyReprObj_gives (typeIs_bytes _ _ _) B.slot_repr B.entry_repr (B.args_repr _) (gives_repr b t (by lia)) ?_ (hx := by show _ <= 2 ^ 24; omega)
 exact formatField_str (fun t' tk => k _ _ _ (ew.tr toks) (by lia)) (by show _ <= 2 ^ 24; omega)
theorem pt_plain (hc : c.EOk) {v : Expr} {p : Pos} (h : Part c Z U v) : Part c Z U (.FormattedValue v (-1) none p) := fun q s S Q E k => by
 refine wpAny_FormattedValue_plain (h q s S _ _ fun y t s1 ew hy => ?_)
 exact formatField_str (fun t' tk => k _ _ _ (ew.tr toks) hy) (by show _ <= 2 ^ 24; lia)
theorem reprs {C : Cx} {q : Addr -> Nat} {h h₀ : Heap} {as : List Addr} {d : Nat} : ∀ {bs : List (List UInt8)} {vs : List Value}, (∀ b ∈ bs, b.length <= 1000) -> RepL q h (bs.map .bytes) vs -> ∃ ts : List Str, ts.length = vs.length /\ (∀ t ∈ ts, t.length <= 5000) /\ ∀ (i : Nat) (y : Value), vs[i]? = some y -> ∃ t, ts[i]? = some t /\ ReprK C.prog C.w as h₀ d y t
 | [], [], _, _ => ⟨[], rfl, (fun t h => by cases h), fun i y e => by simp at e⟩
 | b :: bs, v :: vs, hb, r => by
  rw [List.map_cons, RepL] at r
  refine E13 (reprs (C := C) (h₀ := h₀) (as := as) (d := d) (fun b hb' => hb b (mC _ hb')) r.2) fun ts h1 h2 h3 => ?_
  have r1 := r.1
  rw [Rep] at r1
  refine E11 r1 ?_; clear r1; rintro t rfl
  have hl := literal_len b
  have hb1 := hb b (List.mem_cons_self ..)
  refine ⟨Bytes.literal ⟨b⟩ false :: ts, by simp [h1], fun x hx => ?_, fun i y e => ?_⟩
  ·rcases List.mem_cons.mp hx with rfl | hx
   ·lia
   ·exact h2 x hx
  ·cases i with
   | zero =>
    cases e
    refine ⟨_, rfl, .of_is (fun n hn A E s Q hq => ?_) _ _ _⟩
    rw [pyReprUnder_leaf (v := .bytes ⟨b⟩ t) (by lia) (fun _ e => nomatch e)]
    unfold pyRepr
    exact wB (wpAny_pyReprObj_gives (typeIs_bytes _ _ _) B.slot_repr B.entry_repr (B.args_repr _) (gives_repr b t (by lia)) (wP (hq _)) (hx := by show _ <= 2 ^ 24; lia))
   | succ i => exact h3 i y (by simpa using e)
 | [], _ :: _, _, r => by rw [List.map_nil, RepL] at r; exact r.elim
 | _ :: _, [], _, r => by rw [List.map_cons, RepL] at r; exact r.elim
theorem sum_le {ts : List Str} {n : Nat} (h : ∀ t ∈ ts, t.length <= n) : (ts.map (·.length)).sum <= n * ts.length := by
 induction ts with
 | nil => simp
 | cons t r ih =>
  have h1 := h t (List.mem_cons_self ..)
  have h2 := ih fun t ht => h t (mC _ ht)
  simp only [List.map_cons, List.sum_cons, List.length_cons, Nat.mul_succ]; lia
theorem repr_list {C : Cx} {A : Around} {q : Addr -> Nat} {s : Shared} {bs : List (List UInt8)} {a : Addr} {vs : List Value} (hg : A.guards = some []) (hu : A.units + 2 < cLine) (hl : s.heap.IsList a ⟨vs⟩) (r : RepL q s.heap (bs.map .bytes) vs) (hb : ∀ b ∈ bs, b.length <= 1000) (hn : bs.length <= 15) (hne : bs ≠ [])
  {Q : VP} {E : VP} (k : ∀ y t s', Ev C No No s s' -> y.length <= 100000 -> Q (.str y t) s') : wpAny (model C.prog C.w) A (call (.builtin "list.__repr__") [.ref a]) Q E s := by
 refine E13 (reprs (C := C) (h₀ := s.heap) (as := []) (d := 0) hb r) fun ts h1 h2 h3 => ?_
 have hlen : vs.length = bs.length := by have := r.length; simpa using this
 obtain ⟨o, ho, hc, m, hd⟩ := hl
 have hle : (listText ts).length <= 90000 := by
  have h4 := listText_len_le ts
  have h5 := sum_le h2
  have h6 : ts.length <= 15 := by lia
  have h7 : 5000 * ts.length <= 5000 * 15 := Nat.mul_le_mul_left _ h6
  lia
 cases vs with
 | nil => exact absurd (List.length_eq_zero_iff.mp (by simpa using hlen.symm)) hne
 | cons x l =>
  exact call_list_reprK ho hc hd (as := []) (by simp) (by simpa using h1) (fun i y e => h3 i y (by simpa using e)) hg (fun b _ => Clear.nil b) (d := 0) (by lia) (fun _ _ e => e) (fun h' u tk hk => k _ _ _ (.keep hk) (by lia)) (by show _ <= 2 ^ 24; lia)
theorem pt_list (hc : c.EOk) {v : Expr} {bs : List (List UInt8)} {p : Pos} (h : EV c Z U v (.lst (bs.map .bytes))) (hb : ∀ b ∈ bs, b.length <= 1000) (hn : bs.length <= 15) (hne : bs ≠ []) : Part c Z U (.FormattedValue v (-1) none p) := fun q s S Q E k => by
 refine wpAny_FormattedValue_plain (h q s S fun x s1 ew rB => ?_)
 refine E24 (de_lst rB) ?_; rintro a vs rfl _ hl r
 have hu := hc.room.2.2
 refine wpAny_formatField_slot (fun _ _ => nofun) (by show _ < 9900; omega) hl.typeIs F.slot_list_format F.slot_list_str F.slot_list_repr.toG
  (repr_list (C := c.C) (A := c.A.in1.in1) (q := q) (s := { s1 with toks := s1.toks + 1 }) hc.room.1.2 (by show c.A.units + 1 + 1 + 2 < 9900; omega) hl r hb hn hne fun y t s' e hy => ⟨_, _, rfl, k _ _ _ ((ew.tr tok1).tr e) hy⟩)
theorem pt_listR (hc : c.EOk) {v : Expr} {bs : List (List UInt8)} {p : Pos} (h : EV c Z U v (.lst (bs.map .bytes))) (hb : ∀ b ∈ bs, b.length <= 1000) (hn : bs.length <= 15) (hne : bs ≠ []) : Part c Z U (.FormattedValue v 114 none p) := fun q s S Q E k => by
 refine wpAny_FormattedValue_repr (h q s S fun x s1 ew rB => ?_)
 refine E24 (de_lst rB) ?_; rintro a vs rfl _ hl r
 have hu := hc.room.2.2
 refine wpAny_pyReprObj_slot (by show _ < 9900; omega) hl.typeIs F.slot_list_repr.toG (repr_list (C := c.C) (q := q) (s := s1) hc.room.1.2 (by show c.A.units + 2 < 9900; omega) hl r hb hn hne fun y t s' e hy => ⟨_, _, rfl, ?_⟩)
 exact formatField_str (fun t' tk => k _ _ _ ((ew.tr e).tr toks) hy) (by show _ <= 2 ^ 24; lia)
theorem pt_chr (hc : c.EOk) {f v : Expr} {i : Int} {p : Pos} (hf : EV c Z U f (.raw (.builtin "chr"))) (h : EV c Z U v (.int i)) (h0 : 0 <= i) (h1 : i < 256)
  (he : starEach [v] c.env = (false, eval v c.env) :: starEach [] c.env := by rfl) (hplain : (backTo p (starEach [] c.env)).any (·.1) = false := by rfl)
  (hcall : eval (.Call f [v] [] p) c.env = (do callWith p (<- eval f c.env) [] (backTo p (starEach [v] c.env)) (backToKw p (keywordEach [] c.env))) := by rfl) : Part c Z U (.Call f [v] [] p) := fun q s S Q E k => by
 refine Call_ (hf q s S fun w s1 ew rB => ?_) hcall
 obtain rfl : w = .builtin "chr" := rB
 refine callWith_builtin1 (eva_cons h eva_nil he p q s1 (S.ev ew) fun vs s2 eD rD => ?_) he hplain
 refine E12 (one rD) ?_; rintro w rfl r
 refine E11 (de_int r) ?_; rintro t rfl
 exact P.chr_of_int (by simp; lia) (k _ _ _ ((ew.tr eD).tr tok1) (by show 1 <= _; decide))
end
end
noncomputable def Cst (C : Cx) (x : Str) (a : Addr) (l : List (List UInt8)) : Prop := C.mg x = some (.ref a) /\ a ∉ C.T /\ ∃ vs, C.h₁.IsTuple a ⟨vs⟩ /\ RepL (fun _ => 0) C.h₁ (l.map .bytes) vs
noncomputable def hopsA : List (List UInt8) := [[99, 111, 110, 110, 101, 99, 116, 105, 111, 110], [112, 114, 111, 120, 121, 45, 99, 111, 110, 110, 101, 99, 116, 105, 111, 110], [107, 101, 101, 112, 45, 97, 108, 105, 118, 101], [116, 114, 97, 110, 115, 102, 101, 114, 45, 101, 110, 99, 111, 100, 105, 110, 103], [117, 112, 103, 114, 97, 100, 101]]
noncomputable def nMethod : List UInt8 := [58, 109, 101, 116, 104, 111, 100]
noncomputable def nScheme : List UInt8 := [58, 115, 99, 104, 101, 109, 101]
noncomputable def nAuth : List UInt8 := [58, 97, 117, 116, 104, 111, 114, 105, 116, 121]
noncomputable def nPath : List UInt8 := [58, 112, 97, 116, 104]
noncomputable def nStatus : List UInt8 := [58, 115, 116, 97, 116, 117, 115]
noncomputable def nProto : List UInt8 := [58, 112, 114, 111, 116, 111, 99, 111, 108]
noncomputable def nSecA : List UInt8 := [97, 117, 116, 104, 111, 114, 105, 122, 97, 116, 105, 111, 110]
noncomputable def nSecB : List UInt8 := [112, 114, 111, 120, 121, 45, 97, 117, 116, 104, 111, 114, 105, 122, 97, 116, 105, 111, 110]
noncomputable def nCookie : List UInt8 := [99, 111, 111, 107, 105, 101]
noncomputable def nHost : List UInt8 := [104, 111, 115, 116]
noncomputable def nTe : List UInt8 := [116, 101]
noncomputable def hopsB : List (List UInt8) := [[99, 111, 110, 110, 101, 99, 116, 105, 111, 110], [107, 101, 101, 112, 45, 97, 108, 105, 118, 101], [112, 114, 111, 120, 121, 45, 99, 111, 110, 110, 101, 99, 116, 105, 111, 110], [116, 114, 97, 110, 115, 102, 101, 114, 45, 101, 110, 99, 111, 100, 105, 110, 103], [117, 112, 103, 114, 97, 100, 101]]
noncomputable def pseuA : List (List UInt8) := [nMethod, nScheme, nAuth, nPath, nStatus, nProto]
noncomputable def secs : List (List UInt8) := [nSecA, nSecB]
noncomputable def reqO : List (List UInt8) := [nScheme, nPath, nAuth, nMethod, nProto]
noncomputable def fnTab : List (Addr × Nat) := [(116, 15), (200, 17), (207, 18), (214, 19), (221, 20), (228, 21), (235, 22), (242, 23), (247, 24), (254, 25), (261, 26), (268, 27), (275, 28), (282, 29), (289, 30), (296, 31), (303, 32), (310, 33), (325, 35), (332, 36),
 (363, 39), (370, 40), (378, 42), (383, 43), (390, 44), (397, 45), (404, 46), (409, 47), (414, 48), (421, 49), (428, 50), (433, 51), (440, 52)]
noncomputable def biTab : List (Str × Value) := [(ofString "len", .builtin "len"), (ofString "isinstance", .builtin "isinstance"), (ofString "bytes", .type "bytes"), (ofString "list", .type "list"), (ofString "set", .type "set"), (ofString "sorted", .builtin "sorted"), (ofString "chr", .builtin "chr"), (ofString "tuple", .type "tuple"), (ofString "type", .type "type"), (ofString "issubclass", .builtin "issubclass")]
noncomputable def HF (P : Params) : Frag := [
 (2, { cls := Value.none, data := Data.dict #[{ hash := PyData.keyHash P (ofString "type.__subclasses__.Exception.0"), key := Value.str (ofString "type.__subclasses__.Exception.0") 266, val := Value.int 45 0 }, { hash := PyData.keyHash P (ofString "type.__subclasses__.Exception.n"), key := Value.str (ofString "type.__subclasses__.Exception.n") 267, val := Value.int 1 0 }] 2 }),
 (99, { cls := Value.type "type", data := Data.cls { name := ofString "_tuplegetter", bases := [Value.type "object"], mro := [Value.ref 99, Value.type "object"], ns := 98, qualname := ofString "_tuplegetter" }, slots := #[none, none, some (Value.str (ofString "_tuplegetter") 292), some (Value.str (ofString "_tuplegetter") 300), some (Value.builtin "object.__new__"), some (Value.bool true)] }),
 (98, { cls := Value.type "dict", data := Data.dict #[{ hash := PyData.keyHash P (ofString "__module__"), key := Value.str (ofString "__module__") 299, val := Value.str (ofString "h2.utilities") 290 }, { hash := PyData.keyHash P (ofString "__firstlineno__"), key := Value.str (ofString "__firstlineno__") 303, val := Value.int 36 302 }, { hash := PyData.keyHash P (ofString "__init__"), key := Value.str (ofString "__init__") 312, val := Value.ref 74 }, { hash := PyData.keyHash P (ofString "__get__"), key := Value.str (ofString "__get__") 321, val := Value.ref 82 }, { hash := PyData.keyHash P (ofString "__set__"), key := Value.str (ofString "__set__") 330, val := Value.ref 89 }, { hash := PyData.keyHash P (ofString "__delete__"), key := Value.str (ofString "__delete__") 338, val := Value.ref 96 }, { hash := PyData.keyHash P (ofString "__static_attributes__"), key := Value.str (ofString "__static_attributes__") 341, val := Value.ref 97 }, { hash := PyData.keyHash P (ofString "__dict__"), key := Value.str (ofString "__dict__") 343, val := Value.ref 100 }, { hash := PyData.keyHash P (ofString "__weakref__"), key := Value.str (ofString "__weakref__") 345, val := Value.ref 101 }, { hash := PyData.keyHash P (ofString "__doc__"), key := Value.str (ofString "__doc__") 346, val := Value.none }] 4 }),
 (190, { cls := Value.type "type", data := Data.cls { name := ofString "HeaderValidationFlags", bases := [Value.type "tuple"], mro := [Value.ref 190, Value.type "tuple", Value.type "object"], ns := 189, qualname := ofString "HeaderValidationFlags", hasDict := false }, slots := #[some (Value.ref 117), none, some (Value.str (ofString "HeaderValidationFlags") 388), some (Value.str (ofString "HeaderValidationFlags") 396), some Value.none, some (Value.bool false)] }),
 (189, { cls := Value.type "dict", data := Data.dict #[{ hash := PyData.keyHash P (ofString "__module__"), key := Value.str (ofString "__module__") 395, val := Value.str (ofString "h2.utilities") 290 }, { hash := PyData.keyHash P (ofString "__firstlineno__"), key := Value.str (ofString "__firstlineno__") 399, val := Value.int 85 398 }, { hash := PyData.keyHash P (ofString "__doc__"), key := Value.str (ofString "__doc__") 401, val := Value.str (ofString "HeaderValidationFlags(is_client, is_trailer, is_response_header, is_push_promise)") 400 }, { hash := PyData.keyHash P (ofString "__slots__"), key := Value.str (ofString "__slots__") 403, val := Value.ref 125 }, { hash := PyData.keyHash P (ofString "_fields"), key := Value.str (ofString "_fields") 408, val := Value.ref 126 }, { hash := PyData.keyHash P (ofString "_field_defaults"), key := Value.str (ofString "_field_defaults") 409, val := Value.ref 127 }, { hash := PyData.keyHash P (ofString "__new__"), key := Value.str (ofString "__new__") 421, val := Value.ref 191 }, { hash := PyData.keyHash P (ofString "_make"), key := Value.str (ofString "_make") 443, val := Value.ref 143 }, { hash := PyData.keyHash P (ofString "_replace"), key := Value.str (ofString "_replace") 454, val := Value.ref 152 }, { hash := PyData.keyHash P (ofString "__replace__"), key := Value.str (ofString "__replace__") 455, val := Value.ref 152 }, { hash := PyData.keyHash P (ofString "__repr__"), key := Value.str (ofString "__repr__") 463, val := Value.ref 159 }, { hash := PyData.keyHash P (ofString "_asdict"), key := Value.str (ofString "_asdict") 470, val := Value.ref 166 }, { hash := PyData.keyHash P (ofString "__getnewargs__"), key := Value.str (ofString "__getnewargs__") 478, val := Value.ref 173 }, { hash := PyData.keyHash P (ofString "__match_args__"), key := Value.str (ofString "__match_args__") 483, val := Value.ref 174 }, { hash := PyData.keyHash P (ofString "is_client"), key := Value.str (ofString "is_client") 493, val := Value.ref 176 }, { hash := PyData.keyHash P (ofString "is_trailer"), key := Value.str (ofString "is_trailer") 503, val := Value.ref 179 }, { hash := PyData.keyHash P (ofString "is_response_header"), key := Value.str (ofString "is_response_header") 513, val := Value.ref 182 }, { hash := PyData.keyHash P (ofString "is_push_promise"), key := Value.str (ofString "is_push_promise") 523, val := Value.ref 185 }, { hash := PyData.keyHash P (ofString "__static_attributes__"), key := Value.str (ofString "__static_attributes__") 524, val := Value.ref 187 }] 2 }),
 (179, { cls := Value.ref 99, dict := some 178 }),
 (178, { cls := Value.type "dict", data := Data.dict #[{ hash := PyData.keyHash P (ofString "index"), key := Value.str (ofString "index") 500, val := Value.int 1 494 }, { hash := PyData.keyHash P (ofString "__doc__"), key := Value.str (ofString "__doc__") 502, val := Value.str (ofString "Alias for field number 1") 495 }] 2 }),
 (182, { cls := Value.ref 99, dict := some 181 }),
 (181, { cls := Value.type "dict", data := Data.dict #[{ hash := PyData.keyHash P (ofString "index"), key := Value.str (ofString "index") 510, val := Value.int 2 504 }, { hash := PyData.keyHash P (ofString "__doc__"), key := Value.str (ofString "__doc__") 512, val := Value.str (ofString "Alias for field number 2") 505 }] 2 }),
 (191, { cls := Value.type "staticmethod", data := Data.fields #[Value.ref 134] })]
noncomputable def blks : List (List Fld) := [[⟨nMethod, [71, 69, 84], none⟩, ⟨nScheme, [104, 116, 116, 112, 115], none⟩, ⟨nPath, [47], none⟩, ⟨nAuth, [97, 46, 98], none⟩],
 [⟨nStatus, [50, 48, 48], none⟩],
 [⟨[115, 117, 109], [49], none⟩],
 [⟨nMethod, [71, 69, 84], none⟩, ⟨nScheme, [104, 116, 116, 112], none⟩, ⟨nPath, [47, 112], none⟩, ⟨nHost, [97, 46, 98], none⟩],
 [⟨nMethod, [67, 79, 78, 78, 69, 67, 84], none⟩, ⟨nAuth, [97, 46, 98], none⟩],
 [⟨nMethod, [67, 79, 78, 78, 69, 67, 84], none⟩, ⟨nProto, [119, 115], none⟩, ⟨nScheme, [104, 116, 116, 112], none⟩, ⟨nPath, [47], none⟩, ⟨nAuth, [97, 46, 98], none⟩]]
noncomputable def innerSt : Stmt := ((dBody (stA 27))[1]?).getD (.Pass ⟨0, 0, 0, 0⟩)
structure Tp (C : Cx) : Prop where
 ok : C.Ok
 fn : ∀ p ∈ fnTab, ∃ fd, FnD C p.1 (stA p.2) fd /\ C.mg (dName (stA p.2)) = some (.ref p.1) /\ fd.qualname = dName (stA p.2) /\ fd.code = .ref (p.1 - 1)
 norm : ∃ fd, FnE C 318 (stA 34) fd (.ref 311) /\ C.mg (dName (stA 34)) = some (.ref 318)
 get : ∃ fd, FnE C 82 (stIn (stA 7) 1) fd (.ref 75)
 new : ∃ fd, FnE C 134 (stIn (stA 16) 4) fd .none
 d311 : (311 : Addr) ∉ C.T /\ ∃ o n, C.h₁.get? 311 = some o /\ o.data = .seq #[.bool false] n
 d75 : (75 : Addr) ∉ C.T /\ ∃ o n, C.h₁.get? 75 = some o /\ o.data = .seq #[.none] n
 tabs : ((267, 263) : Addr × Addr) ∈ C.tabs /\ ((260, 256) : Addr × Addr) ∈ C.tabs /\ ((295, 291) : Addr × Addr) ∈ C.tabs
 ip : C.ip = dPos innerSt
 iq : C.iq = ofString "_check_path_header" ++ ".<locals>." ++ "inner"
 kf : ∀ p ∈ HF C.w.params, C.h₁.get? p.1 = some p.2 /\ p.1 ∉ C.T
 bi : ∀ p ∈ biTab, C.mg p.1 = none /\ C.mb p.1 = some p.2
 pe : C.mg (ofString "ProtocolError") = some (.ref peC)
 hv : C.mg (ofString "HeaderValidationFlags") = some (.ref hvf)
 c104 : Cst C (ofString "CONNECTION_HEADERS") 104 hopsA
 c105 : Cst C (ofString "_ALLOWED_PSEUDO_HEADER_FIELDS") 105 pseuA
 c106 : Cst C (ofString "_SECURE_HEADERS") 106 secs
 c107 : Cst C (ofString "_REQUEST_ONLY_HEADERS") 107 reqO
 c108 : Cst C (ofString "_RESPONSE_ONLY_HEADERS") 108 [nStatus]
 c109 : Cst C (ofString "_CONNECT_REQUEST_ONLY_HEADERS") 109 [nProto]
 c371 : Cst C (ofString "_law_hops") 371 hopsB
 sig : ∃ t, C.mg (ofString "SIGIL") = some (.int 58 t)
 blk : ∃ v, C.mg (ofString "_law_blocks") = some v /\ Rep (fun _ => 0) C.h₁ (.lst (blks.map flds)) v
theorem Tp.kin {C : Cx} (T : Tp C) {h : Heap} (B : Base C h) : (HF C.w.params).In h := fun a o e => by
 have := T.kf _ (mem_of_lookupK e)
 exact B.old _ _ this.1 this.2
section
variable {c : Ac} {Z U : Env1} {C : Cx} {N : Env1 -> Prop} {R : AV -> Prop}
theorem repB {q q' : Addr -> Nat} {h h' : Heap} : ∀ {l : List (List UInt8)} {vs : List Value}, RepL q h (l.map .bytes) vs -> RepL q' h' (l.map .bytes) vs
 | [], [], _ => by rw [List.map_nil, RepL]; trivial
 | x :: l, v :: vs, r => by
  rw [List.map_cons, RepL] at r ⊢
  rw [Rep] at r ⊢
  exact ⟨r.1, repB r.2⟩
 | [], _ :: _, r => by rw [List.map_nil, RepL] at r; exact r.elim
 | _ :: _, [], r => by rw [List.map_cons, RepL] at r; exact r.elim
theorem ev_cst (hc : c.EOk) (h1 : c.C = C) {x : Str} {p : Pos} {a : Addr} {l : List (List UInt8)} (t : Cst C x a l) (hk : c.env.kindOf x = some .globalImplicit) (hd : (x == ("__debug__" : Str)) = false := by decide +kernel) : EV c Z U (.Name x p) (.tup (l.map .bytes)) := by
 subst h1
 obtain ⟨h1, h2, vs, ⟨o, ho, hcl, n, hdt⟩, r⟩ := t
 refine ev_global hc h1 hk (fun q s G => .of_rep ?_) hd
 rw [Rep]
 exact ⟨a, vs, rfl, ⟨o, G.base.old _ _ ho h2, hcl, n, hdt⟩, repB r⟩
theorem ev_bi (hc : c.EOk) (h1 : c.C = C) (T : Tp C) {x : Str} {v : Value} {p : Pos} (hx : (x, v) ∈ biTab) (hk : c.env.kindOf x = some .globalImplicit) (hd : (x == ("__debug__" : Str)) = false := by decide +kernel) : EV c Z U (.Name x p) (.raw v) := by
 subst h1
 exact ev_builtin hc (T.bi _ hx).1 (T.bi _ hx).2 hk hd
theorem ev_fn (hc : c.EOk) (h1 : c.C = C) (T : Tp C) (a : Addr) (i : Nat) {x : Str} {p : Pos} (h : (a, i) ∈ fnTab) (hx : dName (stA i) = x) (hk : c.env.kindOf x = some .globalImplicit) (hd : (x == ("__debug__" : Str)) = false := by decide +kernel) : EV c Z U (.Name x p) (.raw (.ref a)) := by
 subst h1
 refine E13 (T.fn _ h) fun fd _ hm _ => ?_
 subst hx
 exact ev_global hc hm hk (fun q s G => .of_rep (by rw [Rep])) hd
theorem ev_pe (hc : c.EOk) (h1 : c.C = C) (T : Tp C) {p : Pos} (hk : c.env.kindOf (ofString "ProtocolError") = some .globalImplicit) : EV c Z U (.Name (ofString "ProtocolError") p) (.raw (.ref peC)) := by
 subst h1
 exact ev_global hc T.pe hk (fun q s G => .of_rep (by rw [Rep])) (by decide +kernel)
theorem ev_sig (hc : c.EOk) (h1 : c.C = C) (T : Tp C) {p : Pos} (hk : c.env.kindOf (ofString "SIGIL") = some .globalImplicit) : EV c Z U (.Name (ofString "SIGIL") p) (.int 58) := by
 subst h1
 refine E11 T.sig fun t h => ?_
 exact ev_global hc h hk (fun q s G => .of_rep (by rw [Rep]; exact ⟨t, rfl⟩)) (by decide +kernel)
theorem sx_raise (hc : c.Ok) (h1 : c.C = C) (T : Tp C) {m : Str} {p p' p2 p3 np cp : Pos} {e : Expr} (he : EV c Z U e .str) (hm : c.env.kindOf m = some .local) (hk : c.env.kindOf (ofString "ProtocolError") = some .globalImplicit) (hd : (m == ("__debug__" : Str)) = false)
  (hs : swapsWith e (some (.Name m p)) p'.line c.env = pure false := by rfl) :
  SX c Z U [.Assign [.Name m p] e p', .Raise (some (.Call (.Name (ofString "ProtocolError") np) [.Name m p2] [] cp)) none p3] N R True :=
 s_then (s_assign hc he hm rfl hs) (s_cons (N1 := fun _ => False) (s_raise hc (ev_pe hc.e h1 T hk) (ev_local hc.e up_self hd)) fun _ h => h.elim)
end
section
variable {g : Gk} {Z U : Env1} {its : List Src} {zs : List AV} {Kc K1 : Env1 -> List Src -> List AV -> Prop}
theorem gx_raises {sts : List Stmt} (h : ∀ c : Ac, c.Ok -> c.C = g.C -> c.env = g.env -> c.n = g.n -> SX c Z U sts (fun _ => False) (fun _ => False) True) (hz : zs = []) (he : g.err = true) : GX g Z U its sts zs Kc := fun code fs K H gd lv ct hK hH A fl c qA q OG0 OG s0 s hr F hA hfl G => by
 have hC := G.C
 refine g_wrap ?_
 have := h c G.ok G.C G.env G.n q s G.S (fun f s' => SegX (model g.C.prog g.C.w) A code (K f) fs s' (GEnd g.C (g.n + 1) g.err g.K g.fin zs (Oof g qA) OG0 s0)) (fun x s' => SegX (model g.C.prog g.C.w) A code (H x) fs s' (GEnd g.C (g.n + 1) g.err g.K g.fin zs (Oof g qA) OG0 s0)) ⟨fun q' U' s' hN' => hN'.elim, fun q' av v s' hR => hR.elim, fun _ x s' e X' => ?_⟩
 ·rw [G.env, hA, hC] at this; exact this
 ·subst hz
  have F' := G.S.fx G.ok.e
  rw [hA, hfl, hC] at F'
  rw [hC] at e
  exact hH A fl qA OG0 s0 s' x hr F (F'.ev e) (G.since.trans e (fun a h => (G.cW a).mp h.1) (fun _ h => h.elim)) he (X'.mono fun a _ _ h => G.since.gone h)
theorem g1_fields {σ : Type} (out : σ -> List Fld -> List AV) (er : σ -> List Fld -> Bool) (rel : σ -> List Fld -> Env1 -> Prop) (B : Fld -> Prop) {name : Str} {px p : Pos} {iter : Expr} {v : Value} {body : List Stmt} {r : List Src} {l : List Fld} {e : Bool} {st : σ} (ok : g.Ok)
  (h : ∀ c : Ac, c.Ok -> c.C = g.C -> c.env = g.env -> c.n = g.n -> EV c Z U iter (.raw v)) (hx : g.env.kindOf name = some .local) (hI : rel st l U) (hB : ∀ f ∈ l, B f) (hz : zs = out st l) (he : g.err = er st l)
  (hend : ∀ st U, rel st [] U -> e = false -> g.err = er st [] -> Kc U r (out st [])) (herr : ∀ st, e = true -> out st [] = [] /\ er st [] = true)
  (hb : ∀ it st f l U, rel st (f :: l) U -> B f -> (∀ f ∈ l, B f) -> g.err = er st (f :: l) -> GX g Z (up name f.av U) (⟨true, it, l.map Fld.av, e⟩ :: r) body (out st (f :: l)) fun U' its' zs' => its' = ⟨true, it, l.map Fld.av, e⟩ :: r /\ ∃ st', rel st' l U' /\ zs' = out st' l /\ g.err = er st' l)
  (hs : ∀ x, foldedSetIterable iter g.env x = pure x := by intro _; rfl) : G1 g Z U (⟨false, v, l.map Fld.av, e⟩ :: r) (.For (.Name name px) iter body [] p) zs Kc := by
 refine g1_for_src ok (Inv := fun xs U zs => ∃ st l, (∀ f ∈ l, B f) /\ xs = l.map Fld.av /\ rel st l U /\ zs = out st l /\ g.err = er st l) h hx ⟨st, l, hB, rfl, hI, hz, he⟩ ?_ ?_ ?_ ?_ hs
 ·rintro U zs ⟨st, l, _, h1, h2, rfl, h3⟩ he
  cases l with
  | nil => exact hend st U h2 he h3
  | cons _ _ => cases h1
 ·rintro U zs ⟨st, l, _, h1, h2, rfl, h3⟩ he
  cases l with
  | nil => exact ⟨(herr st he).1, h3.trans (herr st he).2⟩
  | cons _ _ => cases h1
 ·rintro x xs U zs ⟨st, l, _, h1, _⟩
  cases l with
  | nil => cases h1
  | cons f l => cases h1; rfl
 ·rintro it x xs U zs ⟨st, l, hB, h1, h2, rfl, h3⟩
  cases l with
  | nil => cases h1
  | cons f l =>
   cases h1
   exact fun code fs K H gd lv ct hK hH => hb it st f l U h2 (hB f (List.mem_cons_self ..)) (fun f hf => hB f (mC _ hf)) h3 code fs K H gd lv ct (fun U' its' zs' ⟨h4, st', h5, h6, h7⟩ => hK U' its' zs' ⟨h4, st', l, fun f hf => hB f (mC _ hf), rfl, h5, h6, h7⟩) hH
theorem kindA {env : Env} {fd : FuncData} {C : Cx} {a : Addr} {i : Nat} (F : FnD C a (stA i) fd) (h : env.scope = fd.scope) {x : Str} {kd : NameKind} (hx : (dScope (stA i)).names.lookup x = some kd) : env.kindOf x = some kd := by
 show env.scope.names.lookup x = _; rw [h, F.sc]; exact hx
end
noncomputable def genOk (s : Scope) : Bool := s.isGenerator && s.names.all (fun x => decide (x.2 ≠ .cell)) && decide (s.names.lookup (ofString "headers") = some .local) && decide (s.names.lookup (ofString "hdr_validation_flags") = some .local) && decide (s.names.lookup (ofString "header") = some .local)
theorem genOk_of {s : Scope} (h : genOk s = true) : s.isGenerator = true /\ (∀ x ∈ s.names, x.2 ≠ .cell) /\ s.names.lookup (ofString "headers") = some .local /\ s.names.lookup (ofString "hdr_validation_flags") = some .local /\ s.names.lookup (ofString "header") = some .local := by
 simp only [genOk, Bool.and_eq_true, List.all_eq_true, decide_eq_true_eq] at h
 exact ⟨h.1.1.1.1, h.1.1.1.2, h.1.1.2, h.1.2, h.2⟩
noncomputable abbrev twoP : List Str := [ofString "headers", ofString "hdr_validation_flags"]
theorem pf_gen2 {C : Cx} {a : Addr} {i : Nat} {fd : FuncData} (T : Tp C) (F : FnD C a (stA i) fd) {fv : AV} (hfv : fv.nl = true) (hg : genOk (dScope (stA i)) = true) {p1 p2 : Pos} (hp : dArgs (stA i) = ⟨[], [⟨ofString "headers", none, p1⟩, ⟨ofString "hdr_validation_flags", none, p2⟩], none, [], [], none, []⟩)
  {zs xs : List AV} {err err' : Bool} {m : Nat} {body : List Stmt} (hbody : dBody (stA i) = body)
  (H : ∀ n K v env, env.scope = fd.scope -> env.cells = [] -> (⟨C, n + m, err', K, .ret .none, env⟩ : Gk).Ok -> GX ⟨C, n + m, err', K, .ret .none, env⟩ [] [(ofString "hdr_validation_flags", fv), (ofString "headers", .raw v)] [⟨false, v, xs, err⟩] body zs fun _ _ zs' => zs' = [] /\ err' = false) :
  PF C (m + 2) (m + 2) (.ref a) [fv] xs err zs err' := by
 refine E05 (genOk_of hg) fun h1 h2 h3 h4 _ => ?_
 exact pf_gen T.ok (hbody ▸ F.at') (by rw [F.sc]; exact h1) (by rw [F.sc]; exact h2) (names := twoP) (bind2 (F.pa.trans hp) F.df) rfl
  (by
   rw [F.sc]; intro x hx; rcases List.mem_cons.mp hx with rfl | hx
   ·exact h3
   ·rcases List.mem_cons.mp hx with rfl | hx
    ·exact h4
    ·cases hx) (by simpa [nlL] using hfv) F.cl H
theorem pf_fields {C : Cx} {a : Addr} {i : Nat} {fd : FuncData} (T : Tp C) (F : FnD C a (stA i) fd) {fv : AV} (hfv : fv.nl = true) (hg : genOk (dScope (stA i)) = true) {p1 p2 : Pos} (hp : dArgs (stA i) = ⟨[], [⟨ofString "headers", none, p1⟩, ⟨ofString "hdr_validation_flags", none, p2⟩], none, [], [], none, []⟩)
  {dx : Str} {dk : Nat} {dp dp' px ph pf : Pos} {body : List Stmt} (hbody : dBody (stA i) = [.Expr (.Constant (.str dx) dk dp) dp', .For (.Name (ofString "header") px) (.Name (ofString "headers") ph) body [] pf])
  (out : List Fld -> List AV) (er : List Fld -> Bool) (B : Fld -> Prop) (l : List Fld) (e : Bool) (hB : ∀ f ∈ l, B f) (h0 : out [] = []) (h1 : er [] = e)
  (H : ∀ g : Gk, g.Ok -> g.C = C -> g.env.scope = fd.scope -> ∀ it f l U, OkY U -> B f -> g.err = er (f :: l) -> GX g [] (up (ofString "header") f.av U) [⟨true, it, l.map Fld.av, e⟩] body (out (f :: l)) fun U' its' zs' => its' = [⟨true, it, l.map Fld.av, e⟩] /\ OkY U' /\ zs' = out l /\ g.err = er l) :
  PF C 2 2 (.ref a) [fv] (l.map Fld.av) e (out l) (er l) := by
 refine pf_gen2 (m := 0) T F hfv hg hp hbody fun n K v env hsc hcells ok => ?_
 refine gx_cons (K1 := fun U its zs => U = ([(ofString "hdr_validation_flags", fv), (ofString "headers", .raw v)] : Env1) /\ its = [⟨false, v, l.map Fld.av, e⟩] /\ zs = out l) (g1_plain (fun c hc h1 h2 h3 => s_doc hc) (fun U' e => ⟨e, rfl, rfl⟩) (X := False) (fun z => z.elim)) ?_
 rintro U its zs ⟨rfl, rfl, rfl⟩
 refine E05 (genOk_of hg) fun _ _ k3 k4 k5 => ?_
 refine gx_cons (K1 := fun _ _ zs => zs = [] /\ er l = false) (g1_fields (σ := Unit) (fun _ => out) (fun _ => er) (fun _ _ U => OkY U) B (st := ()) ok (fun c hc h1 h2 h3 => ev_local hc.e rfl) (kindA F hsc k5) (.cons (AV.nl_okY hfv) (.cons rfl .nil)) hB rfl rfl (fun _ U _ he hr => ⟨h0, hr.trans (h1.trans he)⟩) (fun _ he => ⟨h0, h1.trans he⟩) ?_) fun _ _ _ h => gx_nil h
 intro it _ f l U hY hBf _ he code fs Kf Hf gd lv ct hK hH
 exact H _ ok rfl hsc it f l U hY hBf he code fs Kf Hf gd lv ct (fun U' its' zs' ⟨h1, h2, h3, h4⟩ => hK U' its' zs' ⟨h1, (), h2, h3, h4⟩) hH
theorem gx_yield {g : Gk} {Z U : Env1} {its : List Src} {zs : List AV} {Kc : Env1 -> List Src -> List AV -> Prop} {e : Expr} {yp p : Pos} {y : AV} (ok : g.Ok) (h : ∀ c : Ac, c.Ok -> c.C = g.C -> c.env = g.env -> c.n = g.n -> EV c Z U e y) (hn : y.nl = true) (hY : OkY U) (hYk : OkY Z) (hK : Kc U its zs) : GX g Z U its [.Expr (.Yield (some e) yp) p] (y :: zs) Kc :=
 gx_cons (g1_yield ok h hn hY hYk hK (inter_f ok.kind)) fun _ _ _ h => gx_nil h
noncomputable def small (n : Nat) (f : Fld) : Prop := f.n.length <= n /\ f.v.length <= n
noncomputable def stripF (f : Fld) : Fld := { f with n := stripB f.n, v := stripB f.v }
theorem xSum (x : Option Bool) (a b : AV) : ([a, b] : List AV).length + (xL x).length <= 1000000 := by have := xL_len x; simp; lia
theorem pf_lower {C : Cx} (T : Tp C) {fv : AV} (hfv : fv.nl = true) (l : List Fld) (hB : ∀ f ∈ l, small 1000 f) (e : Bool) : PF C 2 2 (.ref 275) [fv] (l.map Fld.av) e (l.map fun f => (lowF f).av) e := by
 refine E12 (T.fn (275, 28) (by decide)) fun fd F _ => ?_
 refine pf_fields T F hfv (by decide +kernel) rfl rfl (fun l => l.map fun f => (lowF f).av) (fun _ => e) (small 1000) l e hB rfl rfl fun g ok hC hsc it f l U hY hf he => ?_
 exact gx_yield (zs := l.map fun f => (lowF f).av) ok (fun c hc h1 h2 h3 => ev_bin (ev_tup (evl_cons (ev_meth0 (ev_f0 hc.e look_up) B.slot_lower B.type_lower (c_lower (by have := hf.1; lia))) (evl_cons (ev_f1 hc.e look_up) evl_nil)) (by simp)) (ev_f2 hc.e look_up) (t_add (xSum ..) (by simp))) (lowF f).nl (hY.up f.okY) .nil ⟨rfl, hY.up f.okY, rfl, he⟩
theorem pf_strip {C : Cx} (T : Tp C) {fv : AV} (hfv : fv.nl = true) (l : List Fld) (hB : ∀ f ∈ l, small 1000 f) (e : Bool) : PF C 2 2 (.ref 282) [fv] (l.map Fld.av) e (l.map fun f => (stripF f).av) e := by
 refine E12 (T.fn (282, 29) (by decide)) fun fd F _ => ?_
 refine pf_fields T F hfv (by decide +kernel) rfl rfl (fun l => l.map fun f => (stripF f).av) (fun _ => e) (small 1000) l e hB rfl rfl fun g ok hC hsc it f l U hY hf he => ?_
 exact gx_yield (zs := l.map fun f => (stripF f).av) ok (fun c hc h1 h2 h3 => ev_bin (ev_tup (evl_cons (ev_meth0 (ev_f0 hc.e look_up) B.slot_strip B.type_strip (c_strip (by have := hf.1; lia))) (evl_cons (ev_meth0 (ev_f1 hc.e look_up) B.slot_strip B.type_strip (c_strip (by have := hf.2; lia))) evl_nil)) (by simp)) (ev_f2 hc.e look_up) (t_add (xSum ..) (by simp))) (stripF f).nl (hY.up f.okY) .nil ⟨rfl, hY.up f.okY, rfl, he⟩
noncomputable def keepF (f : Fld) : Bool := !hopsA.contains f.n
theorem pf_conn {C : Cx} (T : Tp C) {fv : AV} (hfv : fv.nl = true) (l : List Fld) (hB : ∀ f ∈ l, small 1000 f) (e : Bool) : PF C 2 2 (.ref 289) [fv] (l.map Fld.av) e ((l.filter keepF).map Fld.av) e := by
 refine E12 (T.fn (289, 30) (by decide)) fun fd F _ => ?_
 refine pf_fields T F hfv (by decide +kernel) rfl rfl (fun l => (l.filter keepF).map Fld.av) (fun _ => e) (small 1000) l e hB rfl rfl fun g ok hC hsc it f l U hY hf he => ?_
 refine gx_cons (g1_if (b := keepF f) (fun c hc h1 h2 h3 => et_cmp (ev_f0 hc.e look_up) (ev_cst hc.e (h1.trans hC) T.c104 (h2 ▸ kindA F hsc (by decide +kernel)) (by decide +kernel)) b_notIn) (fun hb => ?_) fun hb => ?_) fun _ _ _ h => gx_nil h
 ·show GX _ _ _ _ _ (((f :: l).filter keepF).map Fld.av) _
  rw [List.filter_cons_of_pos hb]
  exact gx_yield (zs := (l.filter keepF).map Fld.av) ok (fun c hc h1 h2 h3 => ev_local hc.e look_up) f.nl (hY.up f.okY) .nil ⟨rfl, hY.up f.okY, rfl, he⟩
 ·show GX _ _ _ _ _ (((f :: l).filter keepF).map Fld.av) _
  rw [List.filter_cons_of_neg (by simp [hb])]
  exact gx_nil ⟨rfl, hY.up f.okY, rfl, he⟩
noncomputable def bTrailers : List UInt8 := [116, 114, 97, 105, 108, 101, 114, 115]
noncomputable def outC (bad : Fld -> Bool) : List Fld -> List AV
 | [] => []
 | f :: l => if bad f then [] else f.av :: outC bad l
noncomputable def erC (bad : Fld -> Bool) (e : Bool) : List Fld -> Bool
 | [] => e
 | f :: l => if bad f then true else erC bad e l
theorem pf_check {C : Cx} {a : Addr} {i : Nat} {fd : FuncData} (T : Tp C) (F : FnD C a (stA i) fd) {fv : AV} (hfv : fv.nl = true) (hg : genOk (dScope (stA i)) = true) {p1 p2 : Pos} (hp : dArgs (stA i) = ⟨[], [⟨ofString "headers", none, p1⟩, ⟨ofString "hdr_validation_flags", none, p2⟩], none, [], [], none, []⟩)
  {dx : Str} {dk : Nat} {dp dp' px ph pf pi pm pa pm2 np cp pr ph2 yp py : Pos} {t em : Expr} (hbody : dBody (stA i) = [.Expr (.Constant (.str dx) dk dp) dp', .For (.Name (ofString "header") px) (.Name (ofString "headers") ph)
   [.If t [.Assign [.Name (ofString "msg") pm] em pa, .Raise (some (.Call (.Name (ofString "ProtocolError") np) [.Name (ofString "msg") pm2] [] cp)) none pr] [] pi, .Expr (.Yield (some (.Name (ofString "header") ph2)) yp) py] [] pf])
  (hk : decide ((dScope (stA i)).names.lookup (ofString "msg") = some .local) && decide ((dScope (stA i)).names.lookup (ofString "ProtocolError") = some .globalImplicit) = true)
  (bad : Fld -> Bool) (B : Fld -> Prop) (l : List Fld) (e : Bool) (hB : ∀ f ∈ l, B f)
  (hsw : ∀ env, swapsWith em (some (.Name (ofString "msg") pm)) pa.line env = pure false)
  (hT : ∀ (c : Ac) U f, c.Ok -> c.C = C -> c.env.scope = fd.scope -> B f -> U.lookup (ofString "header") = some f.av -> ET c [] U t (bad f))
  (hM : ∀ (c : Ac) U f, c.Ok -> c.C = C -> c.env.scope = fd.scope -> B f -> bad f = true -> U.lookup (ofString "header") = some f.av -> EV c [] U em .str) :
  PF C 2 2 (.ref a) [fv] (l.map Fld.av) e (outC bad l) (erC bad e l) := by
 refine pf_fields T F hfv hg hp hbody (outC bad) (erC bad e) B l e hB rfl rfl fun g ok hC hsc it f l U hY hf he => ?_
 have hk' := hk
 simp only [Bool.and_eq_true, decide_eq_true_eq] at hk'
 refine E02 hk' ?_; clear hk'; intro k1 k2
 refine gx_cons (K1 := fun U' its' zs' => U' = up (ofString "header") f.av U /\ its' = [⟨true, it, l.map Fld.av, e⟩] /\ zs' = outC bad (f :: l) /\ bad f = false) (g1_if (b := bad f) (fun c hc h1 h2 h3 => hT c _ f hc (h1.trans hC) (h2 ▸ hsc) hf look_up) (fun hb => ?_) fun hb => gx_nil ⟨rfl, rfl, rfl, hb⟩) ?_
 ·refine gx_raises (fun c hc h1 h2 h3 => sx_raise hc (h1.trans hC) T (hM c _ f hc (h1.trans hC) (h2 ▸ hsc) hf hb look_up) (h2 ▸ kindA F hsc k1) (h2 ▸ kindA F hsc k2) (by decide +kernel) (hsw _)) ?_ ?_
  ·show (if bad f then [] else _) = _; rw [if_pos hb]
  ·rw [he]; show (if bad f then true else _) = _; rw [if_pos hb]
 ·rintro U' its' zs' ⟨rfl, rfl, rfl, hb⟩
  have e1 : outC bad (f :: l) = f.av :: outC bad l := if_neg (by simp [hb])
  have e2 : erC bad e (f :: l) = erC bad e l := if_neg (by simp [hb])
  rw [e1]
  exact gx_yield (zs := outC bad l) ok (fun c hc h1 h2 h3 => ev_local hc.e look_up) f.nl (hY.up f.okY) .nil ⟨rfl, hY.up f.okY, rfl, he.trans e2⟩
noncomputable def badTe (f : Fld) : Bool := f.n == nTe && (f.v.map PySem.Builtin.Bytes.toLower != bTrailers && true)
theorem pf_te {C : Cx} (T : Tp C) {fv : AV} (hfv : fv.nl = true) (l : List Fld) (hB : ∀ f ∈ l, small 1000 f) (e : Bool) : PF C 2 2 (.ref 221) [fv] (l.map Fld.av) e (outC badTe l) (erC badTe e l) := by
 refine E12 (T.fn (221, 20) (by decide)) fun fd F _ => ?_
 refine pf_check T F hfv (by decide +kernel) rfl rfl (by decide +kernel) badTe (small 1000) l e hB (fun _ => rfl) (fun c U f hc h1 h2 hf h => ?_) fun c U f hc h1 h2 hf _ h => ?_
 ·exact et_bool (all_and (et_cmp (ev_f0 hc.e h) ev_bytes b_eq) fun _ => all_and (et_cmp (ev_meth0 (ev_f1 hc.e h) B.slot_lower B.type_lower (c_lower (by have := hf.2; lia))) ev_bytes b_ne) fun _ => all_and_nil)
 ·exact ev_fstr hc.e (pt_cons (pt_str (by decide +kernel)) (pt_cons (pt_repr hc.e (ev_f1 hc.e h) (by have := hf.2; lia)) pt_nil)) (by simp)
noncomputable def badHop (f : Fld) : Bool := hopsA.contains f.n
theorem pf_rconn {C : Cx} (T : Tp C) {fv : AV} (hfv : fv.nl = true) (l : List Fld) (hB : ∀ f ∈ l, small 1000 f) (e : Bool) : PF C 2 2 (.ref 228) [fv] (l.map Fld.av) e (outC badHop l) (erC badHop e l) := by
 refine E12 (T.fn (228, 21) (by decide)) fun fd F _ => ?_
 refine pf_check T F hfv (by decide +kernel) rfl rfl (by decide +kernel) badHop (small 1000) l e hB (fun _ => rfl) (fun c U f hc h1 h2 hf h => ?_) fun c U f hc h1 h2 hf _ h => ?_
 ·exact et_cmp (ev_f0 hc.e h) (ev_cst hc.e h1 T.c104 (kindA F h2 (by decide +kernel)) (by decide +kernel)) b_in
 ·exact ev_fstr hc.e (pt_cons (pt_str (by decide +kernel)) (pt_cons (pt_repr hc.e (ev_f0 hc.e h) (by have := hf.1; lia)) (pt_cons (pt_str (by decide +kernel)) pt_nil))) (by simp)
noncomputable def badEmp (f : Fld) : Bool := ((f.n.length : Int) == 0)
theorem pf_emp {C : Cx} (T : Tp C) {fv : AV} (hfv : fv.nl = true) (l : List Fld) (hB : ∀ f ∈ l, small 1000 f) (e : Bool) : PF C 2 2 (.ref 214) [fv] (l.map Fld.av) e (outC badEmp l) (erC badEmp e l) := by
 refine E12 (T.fn (214, 19) (by decide)) fun fd F _ => ?_
 refine pf_check T F hfv (by decide +kernel) rfl rfl (by decide +kernel) badEmp (small 1000) l e hB (fun _ => rfl) (fun c U f hc h1 h2 hf h => ?_) fun c U f hc h1 h2 hf _ h => ?_
 ·exact et_cmp (ev_callB (ev_bi hc.e h1 T (by decide +kernel) (kindA F h2 (by decide +kernel))) (eva_cons (ev_f0 hc.e h) eva_nil) (c_len_bytes (by have := hf.1; lia))) ev_int i_eq
 ·exact ev_str (by decide +kernel)
noncomputable def secB (f : Fld) : Bool := secs.contains f.n || ((f.n == nCookie && (decide ((f.v.length : Int) < 20) && true)) || false)
noncomputable def secF (f : Fld) : Fld := if secB f then { f with x := some true } else f
theorem pf_sec {C : Cx} (T : Tp C) {fv : AV} (hfv : fv.nl = true) (l : List Fld) (hB : ∀ f ∈ l, small 1000 f) (e : Bool) : PF C 2 2 (.ref 116) [fv] (l.map Fld.av) e (l.map fun f => (secF f).av) e := by
 refine E12 (T.fn (116, 15) (by decide)) fun fd F _ => ?_
 refine pf_fields T F hfv (by decide +kernel) rfl rfl (fun l => l.map fun f => (secF f).av) (fun _ => e) (small 1000) l e hB rfl rfl fun g ok hC hsc it f l U hY hf he => ?_
 have kd : ∀ {c : Ac}, c.env = g.env -> ∀ {x : Str} {k : NameKind} (_ : (dScope (stA 15)).names.lookup x = some k := by decide +kernel), c.env.kindOf x = some k := fun h2 _ _ h => h2 ▸ kindA F hsc h
 refine gx_cons (K1 := fun U' its' zs' => U' = up (ofString "header") f.av U /\ its' = [⟨true, it, l.map Fld.av, e⟩] /\ zs' = (f :: l).map fun f => (secF f).av) (g1_plain (X := False) (fun c hc h1 h2 h3 => s_assert hc (et_val (ev_callB (ev_bi hc.e (h1.trans hC) T (by decide +kernel) (kd h2)) (eva_cons (ev_f0 hc.e look_up) (eva_cons (ev_bi hc.e (h1.trans hC) T (v := .type "bytes") (by decide +kernel) (kd h2)) eva_nil)) c_isB) opt_bool)) (fun U' e => ⟨e, rfl, rfl⟩) (fun z => z.elim)) ?_
 rintro U' its' zs' ⟨rfl, rfl, rfl⟩
 refine gx_cons (g1_if (b := secB f) (fun c hc h1 h2 h3 => et_bool (all_or (et_cmp (ev_f0 hc.e look_up) (ev_cst hc.e (h1.trans hC) T.c106 (kd h2) (by decide +kernel)) b_in) fun _ => all_or (et_bool (all_and (et_cmp (ev_f0 hc.e look_up) ev_bytes b_eq) fun _ => all_and (et_cmp (ev_callB (ev_bi hc.e (h1.trans hC) T (by decide +kernel) (kd h2)) (eva_cons (ev_f1 hc.e look_up) eva_nil) (c_len_bytes (by have := hf.2; lia))) ev_int i_lt) fun _ => all_and_nil)) fun _ => all_or_nil)) (fun hb => ?_) fun hb => ?_) fun _ _ _ h => gx_nil h
 ·have e1 : secF f = { f with x := some true } := if_pos hb
  rw [List.map_cons, e1]
  exact gx_yield (zs := l.map fun f => (secF f).av) ok (fun c hc h1 h2 h3 => ev_tup (evl_cons (ev_f0 (f := f) hc.e look_up) (evl_cons (ev_f1 (f := f) hc.e look_up) (evl_cons ev_bool evl_nil))) (by simp [xL])) (Fld.nl { f with x := some true }) (hY.up f.okY) .nil ⟨rfl, hY.up f.okY, rfl, he⟩
 ·have e1 : secF f = f := if_neg (by simp [hb])
  rw [List.map_cons, e1]
  exact gx_yield (zs := l.map fun f => (secF f).av) ok (fun c hc h1 h2 h3 => ev_local hc.e look_up) f.nl (hY.up f.okY) .nil ⟨rfl, hY.up f.okY, rfl, he⟩
section
variable {c : Ac} {Z U : Env1}
theorem ev_neg {x : Expr} {p : Pos} {i : Int} (h : EV c Z U x (.int i)) : EV c Z U (.UnaryOp .USub x p) (.int (-i)) := fun q s S Q E k => by
 rw [arm_eval_UnaryOp]
 refine wB (h q s S fun v s1 ew rB => ?_)
 refine E11 (de_int rB) ?_; rintro t rfl
 exact wB (wpAny_standAt (wpAny_holding (PyProof.Rows.neg_int (k _ _ (ew.tr tok1) rp_int))))
theorem s_bytes (hc : c.Ok) {name : Str} {px p : Pos} {iter : Expr} {body : List Stmt} {b : List UInt8} (ok : UInt8 -> Bool) (rel : Env1 -> Prop) {R : AV -> Prop} (h : EV c Z U iter (.bytes b)) (hb : b.length <= 1000000) (hx : c.env.kindOf name = some .local) (hI : rel U)
  (H : ∀ d U', rel U' -> SX c Z (up name (.int (UInt8.toNat d : Nat)) U') body (fun U'' => rel U'' /\ ok d = true) R (ok d = false))
  (hs : ∀ x, foldedSetIterable iter c.env x = pure x := by intro _; rfl) : S1 c Z U (.For (.Name name px) iter body [] p) (fun U' => rel U' /\ b.all ok = true) R (b.all ok = false) := by
 refine s_forI hc (ei_bytes hc.e h hb) hx (Inv := fun xs U' => rel U' /\ ∃ r, xs = bInts r /\ b.all ok = r.all ok) ⟨hI, b, rfl, rfl⟩ ?_ ?_ hs
 ·rintro U' ⟨h1, r, h2, h3⟩
  cases r with
  | nil => exact ⟨h1, h3.trans rfl⟩
  | cons _ _ => cases h2
 ·rintro x xs U' ⟨h1, r, h2, h3⟩
  cases r with
  | nil => cases h2
  | cons d r =>
   cases h2
   refine ⟨rfl, (H d U' h1).weak (fun U'' ⟨h4, h5⟩ => ⟨h4, r, rfl, ?_⟩) (fun _ h => h) fun h4 => ?_⟩
   ·rw [h3, List.all_cons, h5, Bool.true_and]
   ·rw [h3, List.all_cons, h4, Bool.false_and]
end
noncomputable def up8 (c : UInt8) : Bool := decide ((65 : Int) <= (c.toNat : Int)) && decide ((c.toNat : Int) <= 90)
noncomputable def odd8 (c : UInt8) : Bool := decide ((c.toNat : Int) <= 32) || (decide ((c.toNat : Int) ≥ 127) || false)
noncomputable def okN8 (c : UInt8) : Bool := !up8 c && !odd8 c
noncomputable def badV8 (c : UInt8) : Bool := ((c.toNat : Int) == 0) || (((c.toNat : Int) == 10) || (((c.toNat : Int) == 13) || false))
noncomputable def okV8 (c : UInt8) : Bool := !badV8 c
noncomputable def at8 (v : List UInt8) (i : Nat) : Int := ((v.getD i 0).toNat : Nat)
noncomputable def sur8 (v : List UInt8) : Bool := (at8 v 0 == 32) || ((at8 v 0 == 9) || ((at8 v (v.length - 1) == 32) || ((at8 v (v.length - 1) == 9) || false)))
noncomputable def colon (n : List UInt8) : Bool := findR ⟨n⟩ ⟨[58]⟩ 1 != -1
noncomputable def badIll (f : Fld) : Bool := !f.n.all okN8 || colon f.n || (!f.v.isEmpty && (!f.v.all okV8 || sur8 f.v))
section
variable {c : Ac} {Z U : Env1}
theorem ev_at0 (hc : c.EOk) {x : Str} {b : List UInt8} {p p2 p3 : Pos} {k : Nat} (h : U.lookup x = some (.bytes b)) (hd : (x == ("__debug__" : Str)) = false) (hz : b.length <= 1000000) (hp : 0 < b.length) : EV c Z U (.Subscript (.Name x p) (.Constant (.int 0) k p2) p3) (.int (at8 b 0)) :=
 ev_sub (ev_local hc h hd) ev_int (gi_bytes (i := 0) hz (by decide) (by lia))
theorem ev_atL (hc : c.EOk) {x : Str} {b : List UInt8} {p p2 p3 p4 : Pos} {k : Nat} (h : U.lookup x = some (.bytes b)) (hd : (x == ("__debug__" : Str)) = false) (hz : b.length <= 1000000) (hp : b ≠ []) : EV c Z U (.Subscript (.Name x p) (.UnaryOp .USub (.Constant (.int 1) k p2) p4) p3) (.int (at8 b (b.length - 1))) :=
 ev_sub (ev_local hc h hd) (ev_neg ev_int) (gi_bytes_last hz hp)
end
theorem pf_ill {C : Cx} (T : Tp C) {fv : AV} (hfv : fv.nl = true) (l : List Fld) (hB : ∀ f ∈ l, small 1000 f) (e : Bool) : PF C 2 2 (.ref 207) [fv] (l.map Fld.av) e (outC badIll l) (erC badIll e l) := by
 refine E12 (T.fn (207, 18) (by decide)) fun fd F _ => ?_
 refine pf_fields T F hfv (by decide +kernel) rfl rfl (outC badIll) (erC badIll e) (small 1000) l e hB rfl rfl fun g ok hC hsc it f l U hY hf he => ?_
 have kd : ∀ {c : Ac}, c.env = g.env -> ∀ {x : Str} {k : NameKind} (_ : (dScope (stA 18)).names.lookup x = some k := by decide +kernel), c.env.kindOf x = some k := fun h2 _ _ h => h2 ▸ kindA F hsc h
 have bad : badIll f = true -> outC badIll (f :: l) = [] /\ g.err = true := fun h => ⟨if_pos h, he.trans (if_pos h)⟩
 let rel : Env1 -> Prop := fun U => OkY U /\ U.lookup (ofString "header") = some f.av
 let rel2 : Env1 -> Prop := fun U => rel U /\ U.lookup (ofString "field_value") = some (.bytes f.v)
 have relC : ∀ {U x a}, rel U -> ((ofString "header") == x) = false -> a.okY = true -> rel (up x a U) := fun h hx ha => ⟨h.1.up ha, by rw [look_ne hx]; exact h.2⟩
 have rel2C : ∀ {U x a}, rel2 U -> ((ofString "header") == x) = false -> ((ofString "field_value") == x) = false -> a.okY = true -> rel2 (up x a U) := fun h hx hx2 ha => ⟨relC h.1 hx ha, by rw [look_ne hx2]; exact h.2⟩
 refine gx_cons (K1 := fun U' its' zs' => rel U' /\ its' = [⟨true, it, l.map Fld.av, e⟩] /\ zs' = outC badIll (f :: l) /\ f.n.all okN8 = true)
  (g1_plain (N := fun U' => rel U' /\ f.n.all okN8 = true) (X := f.n.all okN8 = false) (fun c hc h1 h2 h3 => s_bytes hc okN8 rel (ev_f0 hc.e look_up) (by have := hf.1; lia) (kd h2) ⟨hY.up f.okY, look_up⟩ fun d U' hr => ?_) (fun U' h => ⟨h.1, rfl, rfl, h.2⟩) fun h => bad (by simp [badIll, h])) ?_
 ·have hr' := relC (a := .int (UInt8.toNat d : Nat)) hr (x := ofString "c") (by decide +kernel) rfl
  refine s_cons (N1 := fun U'' => U'' = up (ofString "c") (.int (UInt8.toNat d : Nat)) U' /\ up8 d = false) (s_if (b := up8 d) (et_chain ev_int (ev_local hc.e look_up) ev_int i_le i_le) (fun hb => ?_) fun hb => s_nil ⟨rfl, hb⟩) ?_
  ·exact (sx_raise hc (h1.trans hC) T (ev_fstr hc.e (pt_cons (pt_str (by decide +kernel)) (pt_cons (pt_repr hc.e (ev_f0 hc.e hr'.2) (by have := hf.1; lia)) (pt_cons (pt_str (by decide +kernel)) pt_nil))) (by simp)) (kd h2) (kd h2) (by decide +kernel)).weak (fun _ h => h) (fun _ h => h) fun _ => by simp [okN8, hb]
  ·rintro U'' ⟨rfl, hb1⟩
   refine s_cons (N1 := fun U'' => rel U'' /\ okN8 d = true) (s_if (b := odd8 d) (et_bool (all_or (et_cmp (ev_local hc.e look_up) ev_int i_le) fun _ => all_or (et_cmp (ev_local hc.e look_up) ev_int i_ge) fun _ => all_or_nil)) (fun hb => ?_) fun hb => s_nil ⟨hr', by simp [okN8, hb1, hb]⟩) fun U'' h => s_nil h
   exact (sx_raise hc (h1.trans hC) T (ev_fstr hc.e (pt_cons (pt_str (by decide +kernel)) (pt_cons (pt_plain hc.e (pt_chr hc.e (ev_bi hc.e (h1.trans hC) T (by decide +kernel) (kd h2)) (ev_local hc.e look_up) (by lia) (by have := d.toNat_lt; lia))) (pt_cons (pt_str (by decide +kernel)) (pt_cons (pt_repr hc.e (ev_f0 hc.e hr'.2) (by have := hf.1; lia)) pt_nil)))) (by simp)) (kd h2) (kd h2) (by decide +kernel)).weak (fun _ h => h) (fun _ h => h) fun _ => by simp [okN8, hb]
 rintro U₁ its' zs' ⟨hr, rfl, rfl, hn⟩
 refine gx_cons (K1 := fun U' its' zs' => rel U' /\ its' = [⟨true, it, l.map Fld.av, e⟩] /\ zs' = outC badIll (f :: l) /\ colon f.n = false)
  (g1_if (b := colon f.n) (fun c hc h1 h2 h3 => et_cmp (ev_meth (ev_f0 hc.e hr.2) (eva_cons ev_bytes (eva_cons ev_int eva_nil)) B.slot_find B.type_find c_find) (ev_neg ev_int) i_ne) (fun hb => ?_) fun hb => gx_nil ⟨hr, rfl, rfl, hb⟩) ?_
 ·refine E02 (bad (by simp [badIll, hb])) fun b1 b2 => ?_
  exact gx_raises (fun c hc h1 h2 h3 => sx_raise hc (h1.trans hC) T (ev_fstr hc.e (pt_cons (pt_str (by decide +kernel)) (pt_cons (pt_repr hc.e (ev_f0 hc.e hr.2) (by have := hf.1; lia)) pt_nil)) (by simp)) (kd h2) (kd h2) (by decide +kernel)) b1 b2
 rintro U₂ its' zs' ⟨hr, rfl, rfl, hcol⟩
 refine gx_cons (K1 := fun U' its' zs' => rel2 U' /\ its' = [⟨true, it, l.map Fld.av, e⟩] /\ zs' = outC badIll (f :: l))
  (g1_plain (X := False) (fun c hc h1 h2 h3 => s_assign hc (ev_f1 hc.e hr.2) (kd h2)) (fun U' h => by subst h; exact ⟨⟨relC hr (by decide +kernel) rfl, look_up⟩, rfl, rfl⟩) fun h => h.elim) ?_
 rintro U₃ its' zs' ⟨hr, rfl, rfl⟩
 refine gx_cons (K1 := fun U' its' zs' => rel U' /\ its' = [⟨true, it, l.map Fld.av, e⟩] /\ zs' = outC badIll (f :: l) /\ badIll f = false)
  (g1_if (b := !f.v.isEmpty) (fun c hc h1 h2 h3 => et_val (ev_local hc.e hr.2) (opt_bytes (by have := hf.2; lia))) (fun hb => ?_) fun hb => gx_nil ⟨hr.1, rfl, rfl, by simp [badIll, hn, hcol, hb]⟩) ?_
 ·have hne : f.v ≠ [] := fun h => by simp [h] at hb
  have hpos : 0 < f.v.length := List.length_pos_iff.mpr hne
  refine gx_cons (K1 := fun U' its' zs' => rel2 U' /\ its' = [⟨true, it, l.map Fld.av, e⟩] /\ zs' = outC badIll (f :: l) /\ f.v.all okV8 = true)
   (g1_plain (N := fun U' => rel2 U' /\ f.v.all okV8 = true) (X := f.v.all okV8 = false) (fun c hc h1 h2 h3 => s_bytes hc okV8 rel2 (ev_local hc.e hr.2) (by have := hf.2; lia) (kd h2) hr fun d U' hr => ?_) (fun U' h => ⟨h.1, rfl, rfl, h.2⟩) fun h => bad (by simp [badIll, h, hb])) ?_
  ·have hr' := rel2C (a := .int (UInt8.toNat d : Nat)) hr (x := ofString "c") (by decide +kernel) (by decide +kernel) rfl
   refine s_cons (N1 := fun U'' => rel2 U'' /\ okV8 d = true) (s_if (b := badV8 d) (et_bool (all_or (et_cmp (ev_local hc.e look_up) ev_int i_eq) fun _ => all_or (et_cmp (ev_local hc.e look_up) ev_int i_eq) fun _ => all_or (et_cmp (ev_local hc.e look_up) ev_int i_eq) fun _ => all_or_nil)) (fun hb => ?_) fun hb => s_nil ⟨hr', by simp [okV8, hb]⟩) fun U'' h => s_nil h
   exact (sx_raise hc (h1.trans hC) T (ev_fstr hc.e (pt_cons (pt_str (by decide +kernel)) (pt_cons (pt_plain hc.e (pt_chr hc.e (ev_bi hc.e (h1.trans hC) T (by decide +kernel) (kd h2)) (ev_local hc.e look_up) (by lia) (by have := d.toNat_lt; lia))) (pt_cons (pt_str (by decide +kernel)) (pt_cons (pt_repr hc.e (ev_local hc.e hr'.2) (by have := hf.2; lia)) pt_nil)))) (by simp)) (kd h2) (kd h2) (by decide +kernel)).weak (fun _ h => h) (fun _ h => h) fun _ => by simp [okV8, hb]
  rintro U₄ its' zs' ⟨hr, rfl, rfl, hv⟩
  refine gx_cons (g1_if (b := sur8 f.v) (fun c hc h1 h2 h3 => ?_) (fun hb2 => ?_) fun hb2 => gx_nil (by exact ⟨hr.1, rfl, rfl, by simp [badIll, hn, hcol, hv, hb2]⟩)) fun _ _ _ h => gx_nil h
  ·have h0 := hr.2
   have hz : f.v.length <= 1000000 := by have := hf.2; lia
   exact et_bool (all_or (et_cmp (ev_at0 hc.e h0 (by decide +kernel) hz hpos) ev_int i_eq) fun _ => all_or (et_cmp (ev_at0 hc.e h0 (by decide +kernel) hz hpos) ev_int i_eq) fun _ => all_or (et_cmp (ev_atL hc.e h0 (by decide +kernel) hz hne) ev_int i_eq) fun _ => all_or (et_cmp (ev_atL hc.e h0 (by decide +kernel) hz hne) ev_int i_eq) fun _ => all_or_nil)
  ·refine E02 (bad (by simp [badIll, hb2, hb])) fun b1 b2 => ?_
   exact gx_raises (fun c hc h1 h2 h3 => sx_raise hc (h1.trans hC) T (ev_fstr hc.e (pt_cons (pt_str (by decide +kernel)) (pt_cons (pt_repr hc.e (ev_local hc.e hr.2) (by have := hf.2; lia)) pt_nil)) (by simp)) (kd h2) (kd h2) (by decide +kernel)) b1 b2
 rintro U₅ its' zs' ⟨hr, rfl, rfl, hbad⟩
 rw [show outC badIll (f :: l) = f.av :: outC badIll l from if_neg (by simp [hbad])]
 exact gx_yield (zs := outC badIll l) ok (fun c hc h1 h2 h3 => ev_local hc.e hr.2) f.nl hr.1 .nil ⟨rfl, hr.1, rfl, he.trans (if_neg (by simp [hbad]))⟩
section
set_option tactic.hygienic true
namespace B
theorem slot_tga : Slot "tuple" "__getattribute__" "tuple.__getattribute__" :=
 .of (owner := "tuple") (n := "__getattribute__") (by rw [typeLookup_type, builtinLookup_eq_fast]; kernel_rfl) (by decide +kernel) (by decide +kernel) (by decide +kernel)
  (by first | exact .inl (by decide +kernel) | exact .inr (by decide +kernel)) (by rw [isSubtype_type]; kernel_rfl)
theorem entry_tga : entryFor table "tuple.__getattribute__" = some Builtin.«object.__getattribute__» := entryFor_alias (id' := "object.__getattribute__") (by kernel_rfl) rfl (by decide +kernel) (by kernel_rfl)
theorem args_tga (a b : Value) : argsOk "tuple.__getattribute__" ⟨[a, b], []⟩ := by unfold argsOk; kernel_rfl
end B
section
variable {C : Cx} {A : Around} {E : VP} {s : Shared}
theorem IsFlags.type {M : Model} {h : Heap} {x : Addr} {a b c d : Bool} (i : IsFlags h x a b c d) : Looks M h (typeOf (.ref x)) (.ref hvf) := by
 refine E23 i ?_; clear i; intro o n ho hc _
 exact hc ▸ (Looks.ld ho).andThen .now
open Builtin.ObjectAttr in
theorem find_data {K : Frag} {M : Model} {h : Heap} (X : K.In h) {x D : Addr} {name : Str} {a g : Value} (h1 : findIn K (.ref D) name = some (some a)) (h2 : specialIn K a "__get__" = some (some g)) (h3 : takesIn K a = some true) : Looks M h (find (.ref x) (.ref D) name) (.bind g a) := by
 refine (looks_findIn X h1).andThen ((looks_specialIn X h2).andThen ?_)
 exact (show Looks M h (dataDescriptor? (some a) (some g)) (some (g, a)) from (looks_takesIn X h3).andThen .now).andThen (Looks.tag .now)
theorem flag_attr {x : Addr} {a b c d : Bool} {name : Str} {g ds : Value} {expr : Bool} (X : (HF C.w.params).In s.heap) (i : IsFlags s.heap x a b c d)
  (hf1 : findIn (HF C.w.params) (.ref hvf) name = some (some ds)) (hf2 : specialIn (HF C.w.params) ds "__get__" = some (some g)) (hf3 : takesIn (HF C.w.params) ds = some true) {Q : VP}
  (h : wpAny (model C.prog C.w) A.in1 (call g [ds, .ref x, .ref hvf]) (fun v s' => handedIn v = true /\ Q v s') (fun _ _ => False) { s with toks := s.toks + 1 }) :
  wpAny (model C.prog C.w) A (getAttr (.ref x) name expr) Q E s := by
 obtain ⟨hh, gg, dd, tt, os⟩ := s
 have L0 := i.type (M := model C.prog C.w)
 have hga : findIn (HF C.w.params) (.ref hvf) "__getattribute__" = some (some (.builtin "tuple.__getattribute__")) := by kernel_rfl
 have hgt : findIn (HF C.w.params) (.ref hvf) "__getattr__" = some none := by kernel_rfl
 have hmr : mroIn (HF C.w.params) hvf (.type "tuple") = some true := by kernel_rfl
 have L1 := looks_findIn (M := model C.prog C.w) X hga
 have L2 := find_data (M := model C.prog C.w) X (x := x) hf1 hf2 hf3
 unfold getAttr getAttrBy
 refine wB (wpAny_mkText (wpAny_holding (wB (L0.at (wB (L1.at ?_))))))
 dsimp only
 rw [show (onTheHeap (Value.ref hvf) && Value.builtin "tuple.__getattribute__" == Value.builtin "object.__getattribute__") = false from by decide +kernel, if_neg (by decide)]
 unfold getAttrByItsOwn
 refine wB ((looks_hook (M := model C.prog C.w) (mc := .ref hvf) X (r := none) (by rw [if_pos (show onTheHeap (.ref hvf) = true from rfl)]; exact hgt)).at ?_)
 refine wB (wpAny_attempt (wpAny_holding ?_))
 unfold callGetattribute
 rw [show (expr && onTheHeap (Value.builtin "tuple.__getattribute__")) = false from Bool.and_false _, if_neg (by decide)]
 unfold boundAndCalled
 rw [B.slot_tga.bind]
 refine wB (wP ?_)
 show wpAny _ _ (call (.builtin "tuple.__getattribute__") [.ref x, .str name tt]) _ _ _
 refine wpAny_call (codeAny_call_builtin B.slot_tga.plain B.entry_tga ?_)
 refine @check_slot (model C.prog C.w) _ _ ⟨hh, gg, dd, tt + 1, os⟩ "tuple.__getattribute__" "tuple" "__getattribute__" (.ref x) [.str name tt] [] _ (by decide +kernel) (by decide +kernel) (L0.andThen (looks_mroIn X hmr)) (B.args_tga _ _) ?_
 refine wB (wP (wB (wP (wB (L0.at (wB (L2.at ?_)))))))
 show wpAny _ _ (holding [ds] (call g [ds, .ref x, .ref hvf]) >>= ret) _ _ _
 refine wB (wpAny_holding (wpAny_mono h (fun v s' z => wP ?_) fun _ _ z => z.elim))
 refine ?_
 show wpAny _ _ (handedOut v) _ _ _
 rw [handedOut_of z.1]; exact wP z.2
end
section
variable {c : Ac} {Z U : Env1} {C : Cx} {A : Around}
theorem de_flags {q : Addr -> Nat} {h : Heap} {a b x d : Bool} {v : Value} (r : Rp C q h (.flags a b x d) v) : ∃ u, v = .ref u /\ IsFlags h u a b x d := by
 have r' : Rep q h (.flags a b x d) v := r
 rwa [Rep] at r'
theorem f_isNone {a b x d : Bool} : Op2 C A (compareOp .Is) (.flags a b x d) .none (.bool false) := fun q s v u G r1 r2 Q E k => by
 refine E12 (de_flags r1) ?_; rintro w rfl _
 obtain rfl := de_none r2
 exact is_ref_none (k _ s .refl rp_bool)
theorem c_type {a b x d : Bool} : CB C A (.type "type") [.flags a b x d] (.raw (.ref hvf)) := fun q s vs G r Q E k => by
 refine E12 (one r) ?_; rintro v rfl r1
 refine E12 (de_flags r1) ?_; rintro w rfl i
 refine E23 i ?_; clear i; intro o n ho hc _
 obtain ⟨hh, g, d, t, os⟩ := s
 exact call_type_obj ho (by rw [hc]; rfl) (by rw [hc]; exact k _ _ .refl (.of_rep (by rw [Rep])))
theorem c_issub (T : Tp C) : CB C A (.builtin "issubclass") [.raw (.ref hvf), .raw (.type "tuple")] (.bool true) := fun q s vs G r Q E k => by
 refine E23 (two r) ?_; rintro v u rfl r1 r2
 obtain rfl : v = .ref hvf := r1
 obtain rfl : u = .type "tuple" := r2
 have X := T.kin G.base
 have hmr : mroIn (HF C.w.params) hvf (.type "tuple") = some true := by kernel_rfl
 have L := looks_mroIn (M := model C.prog C.w) X hmr
 have hty : typeIn (HF C.w.params) (.ref hvf) = some (.type "type") := by kernel_rfl
 have Lt := looks_typeIn (M := model C.prog C.w) X hty
 refine call_issubclass (S := fun _ R s' => (HF C.w.params).In s'.heap /\ R (.ok (.ret (.bool true))) s') (fun prog w A R s' h => ?_) ⟨X, k _ s .refl rp_bool⟩
 refine E02 h ?_; clear h; intro X' hR
 obtain ⟨hh, gg, dd, tt, os⟩ := s'
 have L := looks_mroIn (M := model prog w) X' hmr
 refine E12 (Option.bind_eq_some_iff.mp hmr) fun cd hcd _ => ?_
 obtain ⟨o, ho, hdt⟩ : ∃ o, hh.get? hvf = some o /\ o.data = .cls cd := by
  unfold clsIn at hcd
  split at hcd
  ·rename_i hl; cases hcd; exact ⟨_, X' _ _ hl, rfl⟩
  ·cases hcd
 have hm : typeOf (.type "tuple") = pure (.type "type") := by kernel_rfl
 refine issubclass_outer ?_
 unfold Builtin.«issubclass.nested»
 repeat (any_goals (first | assumption | (rw [if_pos hm]) | (with_reducible refine ks_wpAny_isType_cls ho hdt ?_) | (with_reducible refine Looks.at L ?_) | wp_step))
theorem looks_here {α : Type} {M : Model} {A : Around} {t : Sem α} {r : α} {Q : α -> Shared -> Prop} {E : VP} {s : Shared} (x : Looks M s.heap t r) (q : Q r s) : wpAny M A t Q E s := x A Q E s (fun _ _ e => e) q
theorem meth_type {K : Frag} {prog : Program} {w : World} {A : Around} {E : VP} {s : Shared} {n : String} {name : Str} {pl : Sem Bool} {v : Value} {Q : Value × List Value -> Shared -> Prop} (X : K.In s.heap) (ht : typeOf (.type n) = pure (.type "type")) (hs : Manifest.isStub n = false)
  (e : findCls K (.type n) (.type "type") name = some (.val v)) (hh : handedIn v = true) (h : Q (v, []) { s with toks := s.toks + 1 }) : wpAny (model prog w) A (getMethod (.type n) name pl) Q E s := by
 have hstub : opaqueClassAbove (.type n) = pure none := by unfold opaqueClassAbove; dsimp only; rw [hs]; rfl
 have L0 : Looks (model prog w) s.heap (typeOf (.type n)) (.type "type") := Looks.of_pure ht
 have hg : findIn K (.type "type") "__getattribute__" = some (some (.builtin "type.__getattribute__")) := type_tga
 unfold getMethod specialOf
 refine wB (wB (looks_here L0 (looks_here (looks_findIn X hg) ?_)))
 dsimp only
 refine wpEq (if_pos canon_tga) ?_
 refine wB (wpAny_mono (Q := fun v => Q (v, [])) (E := E) ?_ (fun _ _ z => wP z) fun _ _ z => z)
 have LO : Looks (model prog w) s.heap (opaqueClassAbove (.type n)) none := Looks.of_pure hstub
 refine cls_open X LO L0 hg (looks_hook X (r := none) (by rfl)) (by show subIn K _ _ = _; rfl) e
  (wP (by show wpAny _ _ (handedOut v) _ _ _; rw [handedOut_of hh]; exact wP h))
theorem ev_index (hc : c.EOk) (h1 : c.C = C) (T : Tp C) {x : Str} {p p2 : Pos} {ds dd : Addr} {i : Int} {tk : Tok} (h : U.lookup x = some (.raw (.ref ds))) (hd : (x == ("__debug__" : Str)) = false)
  (hds : (HF C.w.params).lookup ds = some { cls := .ref 99, dict := some dd }) {od : Obj} (hdd : (HF C.w.params).lookup dd = some od) (hf : findObj (HF C.w.params) 99 (some od) (ofString "index") = some (.value (.int i tk))) : EV c Z U (.Attribute (.Name x p) (ofString "index") p2) (.int i) := fun q s S Q E k => by
 refine Attribute_name (ev_local hc h hd q s S fun v s1 ew rB => ?_)
 obtain rfl : v = .ref ds := rB
 subst h1
 have X := T.kin (S.ev ew).base
 have hga : findIn (HF c.C.w.params) (.ref 99) "__getattribute__" = some (some (.builtin "object.__getattribute__")) := by kernel_rfl
 exact get_value X ⟨X _ _ hds, rfl, rfl, X _ _ hdd⟩ hga hf rfl (k _ _ (ew.tr tok1) rp_int)
theorem flags_item (T : Tp C) {q : Addr -> Nat} {s : Shared} (G : Gd C q s) {u : Addr} {a b x d : Bool} (i : IsFlags s.heap u a b x d) {n : Nat} {tk : Tok} {y : Value} (hy : [Value.bool a, .bool b, .bool x, .bool d][n]? = some y) {Q : VP} {E : VP} (h : Q y s) :
  wpAny (model C.prog C.w) A (call (.builtin "tuple.__getitem__") [.ref u, .int (n : Int) tk]) Q E s := by
 have X := T.kin G.base
 have L0 := i.type (M := model C.prog C.w)
 have hmr : mroIn (HF C.w.params) hvf (.type "tuple") = some true := by kernel_rfl
 have hn : n < 4 := (List.getElem?_eq_some_iff.mp hy).1
 refine E23 i ?_; clear i; intro o m ho hc hs
 obtain ⟨hh, gg, dd, tt, os⟩ := s
 refine wpAny_call (codeAny_call_builtin slot_tuple_getitem.plain entry_tuple_getitem ?_)
 refine @check_slot (model C.prog C.w) _ _ ⟨hh, gg, dd, tt, os⟩ "tuple.__getitem__" "tuple" "__getitem__" (.ref u) [.int (n : Int) tk] [] _ (by decide +kernel) (by decide +kernel) (L0.andThen (looks_mroIn X hmr)) (args_tuple_getitem _ _) ?_
 show wpAny _ _ (Builtin.Tuple.tupleItemsOf (.ref u) >>= _) _ _ _
 refine wB ?_
 unfold Builtin.Tuple.tupleItemsOf
 refine wB (wpAny_seqItems ho hs (wP ?_))
 refine wB (wpAny_typeOf (typeIs_int _ (n : Int) tk) ?_)
 refine wpEq (if_neg (by decide)) ?_
 refine wB (wpAny_specialOf (T := "int") (typeIs_int _ (n : Int) tk) int_index ?_)
 refine wpEq (if_neg (by simp)) ?_
 refine wB (wpAny_of_eq (a := (n : Int)) rfl ?_)
 rw [if_neg (by simp only [Bool.or_eq_true, decide_eq_true_eq]; lia)]
 have hsz : (#[Value.bool a, Value.bool b, Value.bool x, Value.bool d] : Array Value).size = 4 := rfl
 have hj : seqIndex? (n : Int) (#[Value.bool a, Value.bool b, Value.bool x, Value.bool d] : Array Value).size = some n := by
  rw [hsz]
  have h1 : ¬ ((n : Int) < 0) := by lia
  simp [seqIndex?, h1]; lia
 have hx : (#[Value.bool a, Value.bool b, Value.bool x, Value.bool d] : Array Value)[n]? = some y := by simpa using hy
 simp only [hj, Option.bind_some, hx]
 exact wP h
theorem c_titem (T : Tp C) {a b x d y : Bool} {n : Nat} (hy : [a, b, x, d][n]? = some y) : CB C A (.builtin "tuple.__getitem__") [.flags a b x d, .int (n : Int)] (.bool y) := fun q s vs G r Q E k => by
 refine E23 (two r) ?_; rintro v u rfl r1 r2
 refine E12 (de_flags r1) ?_; rintro w rfl i
 refine E11 (de_int r2) ?_; rintro tk rfl
 refine flags_item T G i (y := .bool y) ?_ (k _ s .refl rp_bool)
 have h2 : ([a, b, x, d].map Value.bool)[n]? = some (.bool y) := by rw [List.getElem?_map, hy]; rfl
 exact h2
theorem find_tget (P : Params) : findCls (HF P) (.type "tuple") (.type "type") (ofString "__getitem__") = some (.val (.builtin "tuple.__getitem__")) := by kernel_rfl
theorem ty_tuple : typeOf (.type "tuple") = pure (.type "type") := by kernel_rfl
theorem stub_tuple : Manifest.isStub "tuple" = false := by decide +kernel
theorem handed_tget : handedIn (.builtin "tuple.__getitem__") = true := by decide +kernel
theorem ev_tget {pl : Sem Bool} (hc : c.EOk) (h1 : c.C = C) (T : Tp C) {np apos p : Pos} {e e2 : Expr} {x y z : AV} (hk : c.env.kindOf (ofString "tuple") = some .globalImplicit) (he1 : EV c Z U e x) (he2 : EV c Z U e2 y) (hcb : CB C c.A (.builtin "tuple.__getitem__") [x, y] z)
  (he : starEach [e, e2] c.env = (false, eval e c.env) :: starEach [e2] c.env := by rfl) (he' : starEach [e2] c.env = (false, eval e2 c.env) :: starEach [] c.env := by rfl) (hplain : (backTo p (starEach [e2] c.env)).any (·.1) = false := by rfl)
  (hcall : eval (.Call (.Attribute (.Name (ofString "tuple") np) (ofString "__getitem__") apos) [e, e2] [] p) c.env = (do
   let ov <- eval (.Name (ofString "tuple") np) c.env
   standAt apos.atName
   let (f, first) <- holding [ov] (getMethod ov (ofString "__getitem__") pl)
   callWith p f first (backTo p (starEach [e, e2] c.env)) (backToKw p (keywordEach [] c.env))) := by rfl) :
  EV c Z U (.Call (.Attribute (.Name (ofString "tuple") np) (ofString "__getitem__") apos) [e, e2] [] p) z := fun q s S Q E k => by
 subst h1
 refine methodCall_KW (pl := pl) (ev_bi (Z := Z) (U := U) hc rfl T (v := .type "tuple") (by decide +kernel) hk (by decide +kernel) q s S fun v s1 ew rB => ?_) hcall
 obtain rfl : v = .type "tuple" := rB
 have X := T.kin (S.ev ew).base
 refine meth_type (K := HF c.C.w.params) (n := "tuple") (name := ofString "__getitem__") (v := .builtin "tuple.__getitem__") X ty_tuple stub_tuple (find_tget _) handed_tget ?_
 show wpAny _ _ (callWith p (.builtin "tuple.__getitem__") [] _ _) _ _ _
 have S2 := (S.ev ew).ev (tok1 (C := c.C))
 exact callWith_builtin1 (eva_cons he1 (eva_cons he2 eva_nil he') he p q _ S2 fun vs s3 eH rH => hcb q s3 vs (S2.ev eH).gd rH fun w s4 eJ rJ => k w s4 (((ew.tr tok1).tr eH).tr eJ) rJ) he hplain
end
end
noncomputable abbrev getSt : Stmt := stIn (stA 7) 1
section
variable {c : Ac} {Z U : Env1} {C : Cx} {A : Around}
theorem one_in {a : Addr} {o : Obj} {h : Heap} (e : h.get? a = some o) : Frag.In [(a, o)] h := fun b o' z => by
 unfold List.lookup at z
 cases hb : b == a with
 | true => rw [hb] at z; cases z; rw [eq_of_beq hb]; exact e
 | false => rw [hb] at z; cases z
theorem bindDf {C : Cx} {fd : FuncData} {ps : Arguments} {ns : List Str} {T : Addr} {o : Obj} {dv : Value} {n : Nat} (h : fd.params = ps) (hd : fd.defaults = .ref T) (hT : T ∉ C.T) (ho : C.h₁.get? T = some o) (hdt : o.data = .seq #[dv] n) (hn : ns.length = 3)
  (pk : ∀ x y z nm q bo sc g cl kd d m an co ct bi S c0 dd sl, peek [(T, ⟨c0, dd, .seq #[dv] n, sl⟩)] S (bindArgs ⟨nm, q, ps, bo, sc, g, cl, .ref T, kd, d, m, an, co, ct, bi⟩ ⟨[x, y, z], []⟩) = some (ns.zip [x, y, z])) : BindW C fd ns := fun vs A Q E s B hv k => by
 obtain ⟨x, y, z, rfl⟩ := len3 (hv.trans hn)
 cases fd; cases h; cases hd
 have hs := B.old _ _ ho hT
 cases o; cases hdt
 exact Looks.of_peek (one_in hs) (pk ..) A Q E s (fun _ _ e => e) k
theorem fc_get (T : Tp C) {ds dd : Addr} {n : Nat} {tk : Tok} {a b x d y : Bool} (hy : [a, b, x, d][n]? = some y) (hds : (HF C.w.params).lookup ds = some { cls := .ref 99, dict := some dd }) {od : Obj} (hdd : (HF C.w.params).lookup dd = some od) (hf : findObj (HF C.w.params) 99 (some od) (ofString "index") = some (.value (.int (n : Int) tk))) :
  FC C 1 (.ref 82) [.raw (.ref ds), .flags a b x d, .raw (.ref hvf)] (· = .bool y) False := by
 refine E11 T.get fun fd F => ?_
 obtain ⟨h75, o75, n75, ho75, hd75⟩ := T.d75
 have kd : ∀ {c : Ac}, c.env.scope = fd.scope -> ∀ {x : Str} {k : NameKind} (_ : (dScope getSt).names.lookup x = some k := by decide +kernel), c.env.kindOf x = some k := fun h _ _ hx => by
  show _ = _; unfold Env.kindOf; rw [h, F.sc]; exact hx
 refine fc_std T.ok F (by decide +kernel) (by decide +kernel) (names := [ofString "self", ofString "obj", ofString "objtype"]) (bindDf F.pa F.df h75 ho75 hd75 rfl (by intros; kernel_rfl)) rfl (by decide +kernel) (ow3 rfl rfl rfl) rfl fun c hc h1 h2 h3 => ?_
 refine s_then (U₁ := _) (s_if (b := false) (et_cmp (ev_local hc.e rfl) ev_none f_isNone) (fun h => by cases h) fun _ => s_nil rfl) ?_
 refine s_then (U₁ := _) (s_if (b := !true) (et_not (et_val (ev_callB (ev_bi hc.e h1 T (v := .builtin "issubclass") (by decide +kernel) (kd h3)) (eva_cons (ev_callT1 (ev_bi hc.e h1 T (v := .type "type") (by decide +kernel) (kd h3)) (eva_cons (ev_local hc.e rfl) eva_nil) c_type) (eva_cons (ev_bi hc.e h1 T (v := .type "tuple") (by decide +kernel) (kd h3)) eva_nil)) (by subst h1; exact c_issub T)) opt_bool)) (fun h => by cases h) fun _ => s_nil rfl) ?_
 exact s_cons (N1 := fun _ => False) (s_return hc (ev_tget hc.e h1 T (kd h3) (ev_local hc.e rfl) (ev_index hc.e h1 T rfl (by decide +kernel) hds hdd hf) (c_titem T hy)) rfl) fun _ h => h.elim
theorem ev_flagG (hc : c.EOk) (h1 : c.C = C) (T : Tp C) (hn : 2 <= c.n) {f : Str} {p p2 : Pos} {name : Str} {ds dd : Addr} {n : Nat} {tk : Tok} {a b x d y : Bool} (hl : U.lookup f = some (.flags a b x d)) (hd : (f == ("__debug__" : Str)) = false) (hy : [a, b, x, d][n]? = some y)
  (hds : (HF C.w.params).lookup ds = some { cls := .ref 99, dict := some dd }) {od : Obj} (hdd : (HF C.w.params).lookup dd = some od) (hf : findObj (HF C.w.params) 99 (some od) (ofString "index") = some (.value (.int (n : Int) tk)))
  (hb1 : findIn (HF C.w.params) (.ref hvf) name = some (some (.ref ds))) (hb2 : specialIn (HF C.w.params) (.ref ds) "__get__" = some (some (.ref 82))) (hb3 : takesIn (HF C.w.params) (.ref ds) = some true) : EV c Z U (.Attribute (.Name f p) name p2) (.bool y) := fun q s S Q E k => by
 refine Attribute_name (ev_local hc hl hd q s S fun v s1 ew rB => ?_)
 refine E12 (de_flags rB) ?_; rintro u rfl i
 subst h1
 have SB := S.ev ew
 refine flag_attr (T.kin SB.base) i hb1 hb2 hb3 ?_
 have S2 := SB.ev (tok1 (C := c.C))
 refine fc_get T hy hds hdd hf c.A.in1 c.fl q _ _ (hc.room.mono hn).in1 (S2.fx hc).in1 S2.gd (rplC (.of_rep (by rw [Rep])) (rplC (.of_rep (by rw [Rep]; exact ⟨u, rfl, i⟩)) (rplC (.of_rep (by rw [Rep])) rplN))) _ _ (fun av v s' h e r => ?_) fun h => h.elim
 subst h
 obtain rfl := de_bool r
 exact ⟨rfl, k _ s' ((ew.tr tok1).tr e) r⟩
theorem ev_trailer (hc : c.EOk) (h1 : c.C = C) (T : Tp C) (hn : 2 <= c.n) {f : Str} {p p2 : Pos} {a b x d : Bool} (hl : U.lookup f = some (.flags a b x d)) (hd : (f == ("__debug__" : Str)) = false) : EV c Z U (.Attribute (.Name f p) (ofString "is_trailer") p2) (.bool b) :=
 ev_flagG hc h1 T hn (n := 1) (tk := 494) hl hd rfl (ds := 179) (dd := 178) rfl rfl (by kernel_rfl) (by kernel_rfl) (by kernel_rfl) (by kernel_rfl)
theorem ev_response (hc : c.EOk) (h1 : c.C = C) (T : Tp C) (hn : 2 <= c.n) {f : Str} {p p2 : Pos} {a b x d : Bool} (hl : U.lookup f = some (.flags a b x d)) (hd : (f == ("__debug__" : Str)) = false) : EV c Z U (.Attribute (.Name f p) (ofString "is_response_header") p2) (.bool x) :=
 ev_flagG hc h1 T hn (n := 2) (tk := 504) hl hd rfl (ds := 182) (dd := 181) rfl rfl (by kernel_rfl) (by kernel_rfl) (by kernel_rfl) (by kernel_rfl)
end
structure HvAt (h : Heap) : Prop where
 ex : ∃ oc od cd sl, h.get? hvf = some ⟨oc, od, .cls cd, sl⟩ /\ cd.mro = [.ref hvf, .type "tuple", .type "object"] /\ cd.bases = [.type "tuple"] /\ sl[4]? = some (some .none) /\ cd.hasDel = false
theorem HvAt.of {P : Params} {h : Heap} (X : (HF P).In h) : HvAt h := ⟨_, _, _, _, X hvf _ rfl, rfl, rfl, rfl, rfl⟩
theorem pk_mb (P : Params) (prog : Program) : peek (HF P) ⟨prog, P⟩ (Bind.madeBy (.ref hvf)) = some none := by kernel_rfl
theorem pk_mh (P : Params) (prog : Program) : peek (HF P) ⟨prog, P⟩ (Bind.madeHere "tuple.__new__" (.ref hvf)) = some () := by kernel_rfl
theorem pk_mro (P : Params) (prog : Program) : peek (HF P) ⟨prog, P⟩ (mroOf (.ref hvf)) = some [.ref hvf, .type "tuple", .type "object"] := by kernel_rfl
section
variable {c : Ac} {Z U : Env1} {C : Cx} {A : Around}
theorem chk_tnew (P : Params) (prog : Program) (ta : Addr) : peek (HF P) ⟨prog, P⟩ (checkBuiltinCall "tuple.__new__" ⟨[.ref hvf, .ref ta], []⟩) = some () := by kernel_rfl
theorem hv_init (P : Params) : findIn (HF P) (.ref hvf) "__init__" = some (some (.builtin "object.__init__")) := by kernel_rfl
theorem hv_mro (P : Params) : mroIn (HF P) hvf (.type "tuple") = some true := by kernel_rfl
theorem c_tnew (T : Tp C) {a b x d : Bool} : CB C A (.builtin "tuple.__new__") [.raw (.ref hvf), .tup [.bool a, .bool b, .bool x, .bool d]] (.flags a b x d) := fun q s vs G r Q E k => by
 refine E23 (two r) ?_; rintro v u rfl r1 r2
 obtain rfl : v = .ref hvf := r1
 refine E23 (de_tup r2) ?_; rintro ta vs rfl ht rl
 have hvs : vs = [.bool a, .bool b, .bool x, .bool d] := by
  refine E41 (len4 rl.length) ?_; rintro v1 v2 v3 v4 rfl
  simp only [RepL, Rep] at rl
  rw [rl.1, rl.2.1, rl.2.2.1, rl.2.2.2.1]
 subst hvs
 obtain ⟨ot, hot, hct, nt, hdt⟩ := ht
 have X := T.kin G.base
 have H := HvAt.of X
 refine E45 H.ex fun oc od cd sl ho h1 h2 h3 h4 => ?_
 have L := looks_mroIn (M := model C.prog C.w) X (hv_mro _)
 have Li := looks_findIn (M := model C.prog C.w) X (hv_init _)
 have Lh : Looks (model C.prog C.w) _ _ _ := .of_peek X (pk_mh _ _)
 obtain ⟨hh, gg, dd, tt, os⟩ := s
 refine wpAny_call (codeAny_call_builtin_code (Code.quiet_builtin _ (by decide +kernel)) ?_)
 refine Looks.at (Looks.of_peek X (chk_tnew _ _ ta)) ?_
 refine codeAny_builtin F.entry_tuple_new ?_
 rw [Around.under_plainId F.plain_tuple_new _]
 unfold Builtin.«tuple.__new__»
 repeat (first | simp only [bne_self_eq_false, Bool.false_eq_true, if_false, Bool.not_true, beq_self_eq_true, if_true] | (with_reducible refine ks_wpAny_isType_cls ho rfl ?_) | (with_reducible refine Looks.at L ?_) | (with_reducible refine wpAny_collect_seq ta (.inr rfl) hot hct hdt ?_) | lk)
 intro h' hk
 refine wB (wP (wB (wpAny_alloc (wB ?_))))
 show wpAny _ _ (newObjAsIs (.ref hvf) (.seq #[Value.bool a, Value.bool b, Value.bool x, Value.bool d]) (some h'.objs.size)) _ _ _
 unfold newObjAsIs classHasDel
 refine wB (wpAny_alloc (wB (wB (wpAny_load (gP _ (gP _ (hk _ _ ho))) (wP ?_)))))
 rw [h4]
 refine wP (wP ?_)
 refine k _ _ (.keep (tk := tt) fun b o e => gP _ (gP _ (hk b o e))) (.of_rep ?_)
 rw [Rep]
 exact ⟨_, rfl, _, _, Heap.get?_push_size _ rfl, rfl, rfl⟩
noncomputable abbrev newSt : Stmt := stIn (stA 16) 4
theorem find_tnew (P : Params) : findCls (HF P) (.type "tuple") (.type "type") (ofString "__new__") = some (.val (.builtin "tuple.__new__")) := by kernel_rfl
theorem handed_tnew : handedIn (.builtin "tuple.__new__") = true := by decide +kernel
theorem ev_tmeth {pl : Sem Bool} (hc : c.EOk) (h1 : c.C = C) (T : Tp C) {np apos p : Pos} {m : Str} {id : String} {e e2 : Expr} {x y z : AV} (hm : findCls (HF C.w.params) (.type "tuple") (.type "type") m = some (.val (.builtin id))) (hh : handedIn (.builtin id) = true) (hk : c.env.kindOf (ofString "tuple") = some .globalImplicit) (he1 : EV c Z U e x) (he2 : EV c Z U e2 y) (hcb : CB C c.A (.builtin id) [x, y] z)
  (he : starEach [e, e2] c.env = (false, eval e c.env) :: starEach [e2] c.env := by rfl) (he' : starEach [e2] c.env = (false, eval e2 c.env) :: starEach [] c.env := by rfl) (hplain : (backTo p (starEach [e2] c.env)).any (·.1) = false := by rfl)
  (hcall : eval (.Call (.Attribute (.Name (ofString "tuple") np) m apos) [e, e2] [] p) c.env = (do
   let ov <- eval (.Name (ofString "tuple") np) c.env
   standAt apos.atName
   let (f, first) <- holding [ov] (getMethod ov m pl)
   callWith p f first (backTo p (starEach [e, e2] c.env)) (backToKw p (keywordEach [] c.env))) := by rfl) :
  EV c Z U (.Call (.Attribute (.Name (ofString "tuple") np) m apos) [e, e2] [] p) z := fun q s S Q E k => by
 subst h1
 refine methodCall_KW (pl := pl) (ev_bi (Z := Z) (U := U) hc rfl T (v := .type "tuple") (by decide +kernel) hk (by decide +kernel) q s S fun v s1 ew rB => ?_) hcall
 obtain rfl : v = .type "tuple" := rB
 have X := T.kin (S.ev ew).base
 refine meth_type (K := HF c.C.w.params) (n := "tuple") (name := m) (v := .builtin id) X ty_tuple stub_tuple hm hh ?_
 show wpAny _ _ (callWith p (.builtin id) [] _ _) _ _ _
 have S2 := (S.ev ew).ev (tok1 (C := c.C))
 exact callWith_builtin1 (eva_cons he1 (eva_cons he2 eva_nil he') he p q _ S2 fun vs s3 eH rH => hcb q s3 vs (S2.ev eH).gd rH fun w s4 eJ rJ => k w s4 (((ew.tr tok1).tr eH).tr eJ) rJ) he hplain
theorem fc_hnew (T : Tp C) {a b x d : Bool} : FC C 1 (.ref 134) [.raw (.ref hvf), .bool a, .bool b, .bool x, .bool d] (· = .flags a b x d) False := by
 refine E11 T.new fun fd F => ?_
 have kd : ∀ {c : Ac}, c.env.scope = fd.scope -> ∀ {x : Str} {k : NameKind} (_ : (dScope newSt).names.lookup x = some k := by decide +kernel), c.env.kindOf x = some k := fun h _ _ hx => by
  show _ = _; unfold Env.kindOf; rw [h, F.sc]; exact hx
 refine fc_std T.ok F (by decide +kernel) (by decide +kernel) (names := [ofString "_cls", ofString "is_client", ofString "is_trailer", ofString "is_response_header", ofString "is_push_promise"]) (bindW (bind5 F.pa F.df)) rfl (by decide +kernel) (owC rfl (ow4 rfl rfl rfl rfl)) rfl fun c hc h1 h2 h3 => ?_
 refine s_then (U₁ := _) (s_doc hc) ?_
 exact s_cons (N1 := fun _ => False) (s_return hc (ev_tmeth hc.e h1 T (find_tnew _) handed_tnew (kd h3) (ev_local hc.e rfl) (ev_tup (evl_cons (ev_local hc.e rfl) (evl_cons (ev_local hc.e rfl) (evl_cons (ev_local hc.e rfl) (evl_cons (ev_local hc.e rfl) evl_nil)))) (by simp)) (c_tnew T)) rfl) fun _ h => h.elim
end
theorem hf_reads (P : Params) : readsIn (HF P) hvf (.type "type") = true := by kernel_rfl
theorem hf_new (P : Params) : findCls (HF P) (.ref hvf) (.type "type") (ofString "__new__") = some (.get (.builtin "staticmethod.__get__") (.ref 191) .none (.ref hvf)) := by kernel_rfl
theorem hf_sm (P : Params) : recIn (HF P) 191 "staticmethod" = some [.ref 134] := by kernel_rfl
theorem hf_call (P : Params) : specialIn (HF P) (.ref hvf) "__call__" = some (some (.builtin "type.__call__")) := by kernel_rfl
theorem hf_typ (P : Params) : instIn (HF P) (.ref hvf) (.type "type") = some true := by kernel_rfl
theorem hf_self (P : Params) : mroIn (HF P) hvf (.ref hvf) = some true := by kernel_rfl
theorem hf_init (P : Params) : findIn (HF P) (.ref hvf) "__init__" = some (some (.builtin "object.__init__")) := by kernel_rfl
theorem hf_obj (P : Params) : mroIn (HF P) hvf (.type "object") = some true := by kernel_rfl
theorem hf_keep (P : Params) : keepIn (HF P) (.ref hvf) = true := by kernel_rfl
theorem Room.tc {n : Nat} {A : Around} (r : Room (n + 1) A) (args : Args) (h : args.pos.head? = some (.ref hvf)) : Room n (A.under (.builtin "type.__call__" args)) := by
 obtain ⟨pos, kw⟩ := args
 cases pos with
 | nil => cases h
 | cons v rest =>
  cases h
  refine ⟨⟨r.1.1, ?_⟩, ?_, ?_⟩
  ·show pushGuards (Code.builtin "type.__call__" ⟨.ref hvf :: rest, kw⟩).guards A.guards = _
   rw [Code.guards, show (Code.builtin "type.__call__" ⟨.ref hvf :: rest, kw⟩).isGuard = false from by show guardIds.contains "type.__call__" = false; decide +kernel]
   exact r.1.2
  ·have h2 := r.2.1
   show A.depth + (Code.builtin "type.__call__" ⟨.ref hvf :: rest, kw⟩).weight + 3 * n + 20 <= 1000
   have e : (Code.builtin "type.__call__" ⟨.ref hvf :: rest, kw⟩).weight = 1 := by rfl
   rw [e]; lia
  ·have h2 := r.2.2
   show A.units + (Code.builtin "type.__call__" ⟨.ref hvf :: rest, kw⟩).cUnits + 30 * n + 300 <= 9900
   have e : (Code.builtin "type.__call__" ⟨.ref hvf :: rest, kw⟩).cUnits <= 30 := Nat.le_of_ble_eq_true rfl
   lia
section
variable {c : Ac} {Z U : Env1} {C : Cx} {A : Around}
theorem chk_tcall (P : Params) (prog : Program) (a b x d : Bool) : peek (HF P) ⟨prog, P⟩ (checkBuiltinCall "type.__call__" ⟨.ref hvf :: [.bool a, .bool b, .bool x, .bool d], []⟩) = some () := by kernel_rfl
theorem fc_hvf (T : Tp C) {a b x d : Bool} : FC C 3 (.ref hvf) [.bool a, .bool b, .bool x, .bool d] (· = .flags a b x d) False := by
 intro A fl q s vs hr FX G r Q E hQ _
 have hvs : vs = [.bool a, .bool b, .bool x, .bool d] := by
  refine E41 (len4 r.length) ?_; rintro v1 v2 v3 v4 rfl
  refine E05 r ?_; clear r; intro r1 r2 r3 r4 _
  rw [de_bool r1, de_bool r2, de_bool r3, de_bool r4]
 subst hvs
 have X := T.kin G.base
 have H := HvAt.of X
 refine E45 H.ex fun oc od cd sl ho h1 h2 h3 h4 => ?_
 have Lc := looks_specialIn (M := model C.prog C.w) X (hf_call C.w.params)
 have Lt := looks_instIn (M := model C.prog C.w) X (hf_typ C.w.params)
 have Lm : Looks (model C.prog C.w) _ _ _ := .of_peek X (pk_mro _ _)
 have Lb : Looks (model C.prog C.w) _ _ _ := .of_peek X (pk_mb _ _)
 obtain ⟨hh, gg, dd, tt, os⟩ := s
 refine wpAny_call (codeAny_of_tree ?_)
 show wpAny _ _ (callAny (.ref hvf) _) _ _ _
 refine nd_load ho ?_
 show wpAny _ _ (callAny.viaDunder (.ref hvf) _) _ _ _
 unfold callAny.viaDunder
 refine wB (Lc.at ?_)
 dsimp only
 rw [tc_bind]
 refine wB (wP (wB (wP ?_)))
 refine wP (a := Fin.again (.call (.builtin "type.__call__") ⟨.ref hvf :: [.bool a, .bool b, .bool x, .bool d], []⟩)) (And.intro rfl ?_)
 refine codeAny_call_builtin_code (Code.quiet_builtin _ (by decide +kernel)) (Looks.at (Looks.of_peek X (chk_tcall _ _ a b x d)) (codeAny_builtin entry_typeCall ?_))
 unfold Builtin.«type.__call__»
 repeat (first | simp only [h1, List.isEmpty_cons, Bool.false_eq_true, if_false] | ((with_reducible show wpAny _ _ (getAttr _ _ _) _ _ _); refine cls_bind X (hf_reads _) (hf_new _) ?_) | ((fail_if_success (with_reducible show wpAny _ _ (call _ _ _) _ _ _)); lk))
 refine wpAny_call (sm_get (s := ⟨hh, gg, dd, tt + 1, os⟩) X (hf_sm _) ?_)
 dsimp only
 refine handed_on rfl ?_
 repeat ((fail_if_success (with_reducible show wpAny _ _ (call _ _ _) _ _ _)); lk)
 have e0 : Ev C No No (⟨hh, gg, dd, tt, os⟩ : Shared) ⟨hh, gg, dd, tt + 1, os⟩ := tok1
 have F1 := FX.ev e0
 refine fc_hnew T _ fl q _ _ ((hr.mono (by decide : 2 <= 3)).tc _ rfl) ⟨F1.ok, F1.base, F1.frames, F1.frs, F1.frf⟩ (G.ev e0) (rplC (.of_rep (by rw [Rep])) r) _ _ (fun av v s' h e r' => ?_) fun h => h.elim
 subst h
 refine E12 (de_flags r') ?_; rintro u rfl i
 have e01 := e0.tr e
 have G' := G.ev e01
 have X' := T.kin G'.base
 have Lu := i.type (M := model C.prog C.w)
 have Ls := looks_mroIn (M := model C.prog C.w) X' (hf_self C.w.params)
 have Lo := looks_mroIn (M := model C.prog C.w) X' (hf_obj C.w.params)
 have Li := looks_findIn (M := model C.prog C.w) X' (hf_init C.w.params)
 have Lb' : Looks (model C.prog C.w) _ _ _ := .of_peek X' (pk_mb _ _)
 have fin := hQ _ _ s' rfl e01 r'
 obtain ⟨h2, g2, d2, t2, o2⟩ := s'
 unfold isInstance callSpecial? specialOf
 repeat (first | rw [oi_bind] | ((fail_if_success (with_reducible show wpAny _ _ (call _ _ _) _ _ _)); lk))
 refine wpAny_call (codeAny_call_builtin oi_plain entry_oi ?_)
 refine @check_slot (model C.prog C.w) _ _ ⟨h2, g2, d2, t2, o2⟩ "object.__init__" "object" "__init__" (.ref u) [.bool a, .bool b, .bool x, .bool d] [] _ oi_kind oi_split (Lu.andThen Lo) (by unfold argsOk; kernel_rfl) ?_
 unfold Builtin.«object.__init__»
 repeat (first | simp only [bne_self_eq_false, Bool.false_eq_true, if_false, Bool.not_true, beq_self_eq_true, if_true] | lk)
 exact fin
theorem ev_hvf (hc : c.EOk) (h1 : c.C = C) (T : Tp C) (hn : 3 <= c.n) {np p : Pos} {e1 e2 e3 e4 : Expr} {a b x d : Bool} (hk : c.env.kindOf (ofString "HeaderValidationFlags") = some .globalImplicit)
  (ha : EVA c Z U [e1, e2, e3, e4] [.bool a, .bool b, .bool x, .bool d]) (he : starEach [e1, e2, e3, e4] c.env = (false, eval e1 c.env) :: starEach [e2, e3, e4] c.env := by rfl)
  (hplain : ((backTo p (starEach [e1, e2, e3, e4] c.env)).any (·.1) || (backToKw p (keywordEach [] c.env)).any (·.1.isNone)) = false := by rfl)
  (hcall : eval (.Call (.Name (ofString "HeaderValidationFlags") np) [e1, e2, e3, e4] [] p) c.env = (do callWith p (<- eval (.Name (ofString "HeaderValidationFlags") np) c.env) [] (backTo p (starEach [e1, e2, e3, e4] c.env)) (backToKw p (keywordEach [] c.env))) := by rfl) :
  EV c Z U (.Call (.Name (ofString "HeaderValidationFlags") np) [e1, e2, e3, e4] [] p) (.flags a b x d) := fun q s S Q E k => by
 subst h1
 refine Call_ (ev_global (Z := Z) (U := U) hc T.hv hk (av := .raw (.ref hvf)) (fun q s G => .of_rep (by rw [Rep])) (by decide +kernel) q s S fun v s1 ew rB => ?_) hcall
 obtain rfl : v = .ref hvf := rB
 refine callWith_of (P := fun h => (HF c.C.w.params).In h) hplain (keeps_K (hf_keep _)) ?_
 suffices h : wpAny (model c.C.prog c.C.w) c.A (spliced (backTo p (starEach [e1, e2, e3, e4] c.env))) (fun vs s2 => (HF c.C.w.params).In s2.heap /\ wpAny (model c.C.prog c.C.w) c.A (call (.ref hvf) ([] ++ vs) []) Q E s2) E s1 by
  rw [he] at h ⊢
  exact evalArgs_plain h
 refine ha p q s1 (S.ev ew) fun vs s2 eD rD => ?_
 have S2 := (S.ev ew).ev eD
 refine ⟨T.kin S2.base, ?_⟩
 exact fc_hvf T c.A c.fl q s2 vs (hc.room.mono hn) (S2.fx hc) S2.gd rD Q E (fun av v s' h e r => by subst h; exact k v s' ((ew.tr eD).tr e) r) fun h => h.elim
end
theorem noBool_set : typeLookup (.type "set") "__bool__" = pure none := by rw [typeLookup_type, builtinLookup_eq_fast]; kernel_rfl
section
variable {c : Ac} {Z U : Env1} {C : Cx} {A : Around}
theorem opt_vset {S : List (List UInt8)} : OpT C A (.vset S) (!S.isEmpty) := fun q s v G r Q E k => by
  obtain ⟨a, rfl, hq, o, es, ep, t, ho, hx, hd, h1, h2, h3, h4, h5⟩ := r
  have hT : s.TypeIs (.ref a) "set" := ⟨o, ho, hx.1⟩
  have hb : es.size < 2 ^ 63 := by have : scanBound <= 2 ^ 62 := by decide
                                   lia
  have hne : ((es.size : Int) != 0) = !S.isEmpty := by
    rw [h5]; cases S <;> simp; lia
  have key : wpAny (model C.prog C.w) A (runValue (.builtin "len" ⟨[.ref a], []⟩)) (fun r s' => r = .int es.size (s.toks + 1) /\ Q (!S.isEmpty) s') E s := by
    refine wpAny_runValue (codeAny_builtin entry_len ?_)
    rw [Around.under_plainId plain_len _]
    exact wpAny_mono (wpAny_len_body_set (Q := fun r s' => r = .int es.size (s.toks + 1) /\ Q (!S.isEmpty) s') ho hx hd h4 (by lia) ⟨rfl, k _ toks⟩)
      (fun fin s' h' => by refine E12 h' ?_; clear h'; rintro r rfl hq; exact hq) fun _ _ e => e
  unfold truthy
  first
    | refine wB (wpAny_callSpecial?_none (name := ofString "__bool__") hT noBool_set ?_)
    | refine wB (wP (wB (wpAny_callSpecial?_none (name := ofString "__bool__") hT noBool_set ?_)))
  first
    | refine wB (wpAny_specialOf (name := ofString "__len__") hT F.slot_set_len.lookup ?_)
    | refine wB (wP (wB (wpAny_specialOf (name := ofString "__len__") hT F.slot_set_len.lookup ?_)))
  first
    | exact wB (wpAny_mono key (fun r s' h' => by refine E02 h' ?_; clear h'; rintro rfl hq; exact wP (hne ▸ hq)) fun _ _ e => e)
    | exact wB (wP (wB (wpAny_mono key (fun r s' h' => by obtain ⟨rfl, hq⟩ := h'; exact wP (hne ▸ hq)) fun _ _ e => e)))
theorem ev_vset {e : Expr} {S : List (List UInt8)} (h : EV c Z U e (.set S)) : EV c Z U e (.vset S) := h
theorem pyIter_tuple {s : Shared} {l : Addr} {items : Array Value} {E : VP} {Q : VP} (hl : s.heap.IsTuple l items) (h : Q (.ref s.heap.objs.size) { s with heap := s.heap.push { cls := .type "tuple_iterator", data := .fields #[.ref l, .int 0 0] } }) : wpAny (model C.prog C.w) A (pyIter (.ref l)) Q E s := by
 first | exact wpAny_pyIter_tuple hl h | exact PyProof.Rows.pyIter_tuple hl h | exact PySem.pyIter_tuple hl h
theorem ei_tup (hc : c.EOk) {e : Expr} {xs : List AV} (h : EV c Z U e (.tup xs)) (hn : nlL xs) : EI c Z U e xs := fun q s S Q E k => by
 refine h q s S fun v s1 ew rB => ?_
 refine E23 (de_tup rB) ?_; rintro l vs rfl hl rl
 refine pyIter_tuple hl ?_
 have SB := S.ev ew
 have rl' := RepL.r0 xs vs hn.b rl
 have eD : Ev c.C No No s1 { s1 with heap := s1.heap.push { cls := .type "tuple_iterator", data := .fields #[.ref l, .int 0 0] } } := .keep fun _ _ e => gP _ e
 obtain ⟨ol, hol, hcl, m, hd⟩ := id hl
 have hne : l ≠ s1.heap.objs.size := Nat.ne_of_lt (Heap.lt_size hol)
 have hit := Heap.get?_push_size s1.heap (o := { cls := .type "tuple_iterator", data := .fields #[.ref l, .int 0 0] }) rfl
 have hnew := SB.base.gone (get_fresh s1.heap)
 refine k _ _ (· = s1.heap.objs.size) No (ew.tr eD) (fun a h => by subst h; exact ew.gone (get_fresh _)) (fun a h => h.elim) ?_ fun s3 eH Q E hQ => ?_
 ·exact tuple_str hc.C (vs := vs) xs 0 _ (SB.ev eD).base ⟨_, hit, rfl, rfl⟩ (hl.push _) hnew rfl hne (by simpa using R0L.ev rl' eD SB.base (fun _ _ h => h.elim))
   ⟨fun a h => by subst h; exact ⟨hnew, _, hit, by simp, by simp⟩, fun a h => h.elim, fun _ h => h.elim⟩
 ·refine E12 (eH.simF hc.C hit hnew) fun o' ho' z => ?_
  exact wpAny_pyIter_tupleiter (i := 0) (t := l) ⟨o', ho', z.1, z.2.2.1⟩ hQ
end
theorem fc_of1 {C : Cx} {n : Nat} {a : Addr} {fd : FuncData} {body : List Stmt} {x0 : Str} {names : List Str} {av0 : AV} {avs : List AV} {R : AV -> Prop} {X : Prop} (hC : C.Ok) (F : FnAt C a fd body) (hg : fd.scope.isGenerator = false) {pre post : List (Str × NameKind)}
  (hnm : fd.scope.names = pre ++ (x0, .cell) :: post) (hpre : ∀ x ∈ pre, x.2 ≠ .cell) (hpost : ∀ x ∈ post, x.2 ≠ .cell) (hx0 : fd.scope.names.lookup x0 = some .cell) (hcl : fd.closure = [])
  (hb : BindW C fd (x0 :: names)) (hlen : avs.length = names.length) (hloc : ∀ x ∈ names, fd.scope.names.lookup x = some .local) (how : ∀ av ∈ avs, av.ow = false)
  (hR : ∀ av, R av -> av = .none)
  (H : ∀ (c : Ac) a0, c.Ok -> c.C = C -> c.n = n -> c.env.scope = fd.scope -> c.env.cells = [(x0, a0)] -> SX c [(x0, av0)] (names.zip avs).reverse body (fun _ => R .none) R X) : FC C (n + 1) (.ref a) (av0 :: avs) R X := by
 intro A fl q s vs hr hF hG hrl Q E hQ hX
 refine E12 F.ho fun o hoB hdat => ?_
 have ho := hF.base.old _ _ hoB F.at'
 match vs, hrl with
 | v0 :: vs, ⟨rA, hrl⟩ =>
 refine wpAny_call (codeAny_call_function hr.d ho hdat F.co hg F.body (F.codeRec hF.base) ?_)
 refine hb (v0 :: vs) _ _ _ _ hF.base (by simp [hrl.length, hlen]) ?_
 show wpAny _ _ (newFunctionEnv fd.scope fd.globals fd.closure ((x0, v0) :: names.zip vs) _ _ _ _ _) _ _ _
 refine newEnv1 hnm hpre hpost hx0 (fun x hx => hloc _ (List.of_mem_zip (show (x.1, x.2) ∈ _ from hx)).1) F.kind fun h' tk hns hcl' hcell hkeep => ?_
 have ew : Ev C No No s { s with heap := h', toks := tk } := .keep hkeep
 have Fw := hF.ev ew
 refine ⟨Fw.base.lim hC, codeAny_func ?_⟩
 have hnew : C.h₁.get? s.heap.objs.size = none := hF.base.gone (get_fresh _)
 let env := newEnv fd.scope s.heap.objs.size fd.globals ((x0, s.heap.objs.size + 1) :: fd.closure) (fd.qualname ++ ".<locals>.") (some a) fd.code none fd.builtins
 let c : Ac := ⟨C, A.deeper env, env, env :: fl, n, Nw s⟩
 have hc : c.Ok := .mk' hC (hr.deep env) (by show A.frames.map _ = _; rw [hF.frames]; rfl) ⟨fl, rfl⟩ F.kind F.g F.b rfl
 have gone1 : s.heap.get? (s.heap.objs.size + 1) = none := by
  cases e : s.heap.get? (s.heap.objs.size + 1) with
  | none => rfl
  | some ob => exact absurd (Heap.lt_size e) (Nat.not_lt.mpr (Nat.le_succ _))
 refine E12 hcl' ?_; clear hcl'; intro oL hoL hcL
 have S : St c q [(x0, av0)] (names.zip avs).reverse { s with heap := h', toks := tk } := {
  base := Fw.base
  col := hG.col.ev ew
  new := fun b h => ew.gone h
  loc := ⟨_, hns, fun x av h => by
   refine E13 (RpL.zip (names := names) hrl) fun l h1 h2 h3 => ?_
   rw [h1, <- List.map_reverse] at h
   refine E12 (look_both h) fun v h4 h5 => ?_
   have h6 := h3 _ (List.mem_reverse.mp h5)
   refine ⟨?_, v, by rw [h2, <- List.map_reverse]; exact h4, h6.2.ev ew hF.base, fun z => by rw [how _ h6.1] at z; cases z⟩
   have : (x, v) ∈ names.zip vs := by rw [h2]; exact List.mem_map.mpr ⟨_, List.mem_reverse.mp h5, rfl⟩
   exact hloc _ (List.of_mem_zip this).1⟩
  cel := fun x av h => by
   refine E02 (look1 h) ?_; rintro rfl rfl
   exact ⟨.inl hx0, s.heap.objs.size + 1, _, v0, by show List.lookup x ((x, _) :: _) = _; simp [List.lookup], hG.fr _ gone1, hcell, rfl, rA.ev ew hF.base⟩
  frs := ⟨by show fd.scope.kind ≠ .module; rw [F.kind]; nofun, ⟨_, oL, rfl, hnew, hoL, fun vs e => by refine E33 hns ?_; clear hns; intro o' _ _ ho' hd' _; rw [hoL] at ho'; cases ho'; rw [hd'] at e; cases e⟩, Fw.frs⟩
  frf := fun en hen => by
   rcases List.mem_cons.mp hen with rfl | hen
   ·exact ⟨_, oL, rfl, hoL, hcL⟩
   ·exact Fw.frf en hen
  own := ⟨hnew, hG.fr _ (get_fresh _), get_fresh _⟩ }
 have toNo : ∀ s', Ev C (Wq c q) No { s with heap := h', toks := tk } s' -> Ev C No No s s' := fun s' x => ew.trans x (fun b hb => .inr hb.1) (fun _ h => h.elim)
 refine H c _ hc rfl rfl rfl (by show (x0, _) :: fd.closure = _; rw [hcl]) q _ S _ _ ⟨fun q' U' s' hN ag x S' => hQ .none .none s' hN (toNo s' x) (.of_rep (by rw [Rep])), fun q' av v s' hR' ag x g r => ?_, fun hX' x s' eD X2 => ?_⟩
 ·obtain rfl := hR _ hR'
  exact hQ _ v s' hR' (toNo s' x) r
 ·have F2 : Fx C (A.deeper env) (env :: fl) s' := ⟨hC, eD.bs Fw.base, hc.frames, frs_al eD.al S.frs, S.frf.al eD.al⟩
  have W2 : Wr C (Nw s) s' := ⟨fun b h => (toNo s' eD).gone h, fun b h => hF.base.gone h⟩
  refine leaving_any F2 W2 (X2.mono fun b _ _ h => ew.gone h) fun s'' eH X3 => ?_
  exact hX hX' x s'' ((toNo s' eD).trans eH (fun b h => .inr h) (fun _ h => .inl h)) X3
theorem kindC {C : Cx} {a : Addr} {st : Stmt} {fd : FuncData} {dv : Value} (F : FnE C a st fd dv) {env : Env} (h : env.scope = fd.scope) {x : Str} {k : NameKind} (hx : (dScope st).names.lookup x = some k) : env.kindOf x = some k := by
 show env.scope.names.lookup x = _; rw [h, F.sc]; exact hx
section
variable {C : Cx}
theorem fc_assert (T : Tp C) {S : List (List UInt8)} {b : List UInt8} (hb : b.length <= 1000) : FC C 1 (.ref 235) [.bytes b, .vset S] (fun av => av = .none /\ S.contains b = true) (S.contains b = false) := by
 refine E12 (T.fn (235, 22) (by decide)) fun fd F _ => ?_
 refine fc_of T.ok F.at' (by rw [F.sc]; decide +kernel) (by rw [F.sc]; decide +kernel) (names := [ofString "bytes_header", ofString "header_set"]) (bindW (bind2 F.pa F.df)) rfl (by rw [F.sc]; decide +kernel) (ow2 rfl rfl) (by simp) (by simp) fun c hc h1 h2 h3 => ?_
 refine s_then (U₁ := _) (s_doc hc) ?_
 refine s_cons (N1 := fun _ => S.contains b = true) (s_if (b := !S.contains b) (et_cmp (ev_local hc.e rfl) (ev_local hc.e rfl) b_notInVset) (fun h => ?_) fun h => s_nil (by simpa using h)) fun U h => s_nil ⟨rfl, h⟩
 exact (sx_raise hc h1 T (ev_fstr hc.e (pt_cons (pt_str (by decide +kernel)) (pt_cons (pt_repr hc.e (ev_local hc.e rfl) (by lia)) (pt_cons (pt_str (by decide +kernel)) pt_nil))) (by simp)) (kindC F h3 (by decide +kernel)) (kindC F h3 (by decide +kernel)) (by decide +kernel)).weak (fun _ h => h) (fun _ h => h) fun _ => by simpa using h
theorem s_names {c : Ac} {U : Env1} {R : AV -> Prop} {X : Prop} (hc : c.Ok) {y : Str} {py px pn pi pl pr pos spos : Pos} {tab : Expr} {sc : Scope} {l S : List (List UInt8)} {a0 : Addr} (ht : EV c [(ofString "pseudo_headers", .vset S)] U tab (.tup (l.map .bytes))) (hl : l.length <= 1000) (hcells : c.env.cells = [(ofString "pseudo_headers", a0)])
  (hk : c.env.scope.kind = .function) (hkc : c.env.kindOf (ofString "pseudo_headers") = some .cell)
  (hsc : sc.names = [(ofString ".0", .local), (ofString "name", .local), (ofString "pseudo_headers", .free)]) (hsk : sc.kind = .function) (hy : c.env.kindOf y = some .local)
  (hsw : swapsWith (.ListComp (.Name (ofString "name") pn) [⟨.Name (ofString "name") px, tab, [.Compare (.Name (ofString "name") pl) [.In] [.Name (ofString "pseudo_headers") pr] pi], 0⟩] sc pos) (some (.Name y py)) spos.line c.env = pure true)
  (hs : ∀ x, foldedSetIterable tab c.env x = pure x := by intro _; rfl) :
  S1 c [(ofString "pseudo_headers", .vset S)] U (.Assign [.Name y py] (.ListComp (.Name (ofString "name") pn) [⟨.Name (ofString "name") px, tab, [.Compare (.Name (ofString "name") pl) [.In] [.Name (ofString "pseudo_headers") pr] pi], 0⟩] sc pos) spos) (· = up y (.lst ((l.filter S.contains).map .bytes)) U) R X := by
 let p : AV -> Bool := fun av => match av with | .bytes b => S.contains b | _ => false
 have e : ((l.map AV.bytes).filter p).map id = (l.filter S.contains).map .bytes := by
  rw [List.map_id, List.filter_map]
  rfl
 rw [<- e]
 refine s_comp hc (Z' := [(ofString "pseudo_headers", .vset S)]) (cl := [(ofString "pseudo_headers", a0)]) (p := p) (f := id) (ei_tup hc.e ht fun x hx => ?_) ⟨?_, hsk, ?_, ?_, ?_, ?_, hc.b⟩ (by simp; omega) ?_ ?_ hy hsw hs
 ·refine E12 (List.mem_map.mp hx) ?_; rintro b _ rfl; rfl
 ·unfold closureFor
  simp [hsc, hcells, cellOf, List.lookup]
 ·rw [hsc]; decide +kernel
 ·rw [hsc]; decide +kernel
 ·rw [hsc]; decide +kernel
 ·intro y av h
  refine E02 (look1 h) ?_; rintro rfl rfl
  refine ⟨h, .inl ?_, by rw [hcells]⟩
  have key : (relabel sc c.env).names = [(ofString ".0", NameKind.local), (ofString "name", NameKind.local), (ofString "pseudo_headers", NameKind.cell)] := by
   unfold relabel
   rw [hsc]
   simp [hk, hkc]
  rw [key]
  decide +kernel
 ·intro y av h
  refine E02 (look1 h) ?_; rintro rfl rfl
  rfl
 ·intro c' hc' h1 h2 h3 y hy
  refine E12 (List.mem_map.mp hy) ?_; rintro b _ rfl
  refine ⟨rfl, ct_one (et_cmp (ev_local hc' rfl) (ev_cell hc' rfl (by decide +kernel)) b_inVset), fun _ => ⟨ev_local hc' rfl, rfl⟩⟩
end
noncomputable def oAV : Option (List UInt8) -> AV
 | none => .none
 | some b => .bytes b
theorem oAV_ow (m : Option (List UInt8)) : (oAV m).ow = false := by cases m <;> rfl
noncomputable def bCONNECT : List UInt8 := [67, 79, 78, 78, 69, 67, 84]
noncomputable abbrev sPH : Str := ofString "pseudo_headers"
noncomputable def con (m : Option (List UInt8)) : Bool := m == some bCONNECT
noncomputable def okP (S : List (List UInt8)) (m : Option (List UInt8)) (tr rs : Bool) : Bool :=
 !(tr && !S.isEmpty) && (if rs then S.contains nStatus && (reqO.filter S.contains).isEmpty
  else if !tr then S.contains nMethod && (if con m && !S.contains nProto then !(S.contains nScheme || S.contains nPath) else S.contains nScheme && S.contains nPath) && ([nStatus].filter S.contains).isEmpty && (con m || ([nProto].filter S.contains).isEmpty)
  else true)
section
variable {C : Cx} {c : Ac} {U : Env1} {N : Env1 -> Prop} {R : AV -> Prop} {X : Prop}
theorem o_eq {A : Around} {m : Option (List UInt8)} {b : List UInt8} : Op2 C A (compareOp .Eq) (oAV m) (.bytes b) (.bool (m == some b)) := by
 cases m with
 | none => exact n_eq
 | some a =>
  have e : (some a == some b) = (a == b) := rfl
  rw [e]; exact b_eq
theorem swaps_comp {elt : Expr} {gens : List Comprehension} {sc : Scope} {vp tp : Pos} {y : Str} {line : Nat} (hc : c.EOk) (hy : c.env.kindOf y = some .local) (hl : (tp.line == vp.line) = true) (hn : (sc.names.any fun (n, k) => n == y && (k == .local || k == .cell)) = false) :
  swapsWith (.ListComp elt gens sc vp) (some (.Name y tp)) line c.env = pure true := by
 have hb : c.env.blockKind = .function := by unfold Env.blockKind; simp [hc.kind]
 show (pure (c.env.blockKind == .function && c.env.kindOf y == some .local && tp.line == vp.line && !(sc.names.any fun (n, k) => n == y && (k == .local || k == .cell))) : Sem Bool) = pure true
 rw [hb, hy, hl, hn]; rfl
theorem sx_assert {S : List (List UInt8)} {b : List UInt8} (hc : c.Ok) (h1 : c.C = C) (T : Tp C) (hn : 1 <= c.n) {rest : List Stmt} {fp bp sp p p' : Pos} {k : Nat} (hk : c.env.kindOf (ofString "_assert_header_in_set") = some .globalImplicit) (hb : b.length <= 1000) (hX : S.contains b = false -> X) (kr : S.contains b = true -> SX c [(sPH, .vset S)] U rest N R X) :
  SX c [(sPH, .vset S)] U (.Expr (.Call (.Name (ofString "_assert_header_in_set") fp) [.Constant (.bytes b) k bp, .Name sPH sp] [] p) p' :: rest) N R X := by
 subst h1
 refine E13 (T.fn (235, 22) (by decide)) fun fd F hm _ => ?_
 refine E12 F.at'.ho fun o ho hd => ?_
 refine s_cons (S1.weak (X' := S.contains b = false) (s_callF hc (fun h B => B.old _ _ ho F.at'.at') hd (ev_fn hc.e rfl T 235 22 (by decide) rfl hk (by decide +kernel)) (eva_cons ev_bytes (eva_cons (ev_cell hc.e rfl (by decide +kernel)) eva_nil)) (fc_assert T hb) hn) (fun _ h => h) (fun _ h => h) hX) ?_
 rintro U' ⟨⟨av, _, h⟩, rfl⟩
 exact kr h
theorem sx_inv {S l : List (List UInt8)} {a0 : Addr} (hc : c.Ok) (h1 : c.C = C) (T : Tp C) {rest : List Stmt} {y : Str} {py px pn pi pl pr pos spos ip tp mp ap np mp2 cp rp : Pos} {tab em : Expr} {sc : Scope} (ht : EV c [(sPH, .vset S)] U tab (.tup (l.map .bytes))) (hl : l.length <= 15) (hlb : ∀ b ∈ l, b.length <= 1000) (hcells : c.env.cells = [(sPH, a0)])
  (hkc : c.env.kindOf sPH = some .cell) (hsc : sc.names = [(ofString ".0", .local), (ofString "name", .local), (sPH, .free)]) (hsk : sc.kind = .function) (hy : c.env.kindOf y = some .local) (hyd : (y == ("__debug__" : Str)) = false)
  (hm : c.env.kindOf (ofString "msg") = some .local) (hpe : c.env.kindOf (ofString "ProtocolError") = some .globalImplicit)
  (hE : l.filter S.contains ≠ [] -> EV c [(sPH, .vset S)] (up y (.lst ((l.filter S.contains).map .bytes)) U) em .str)
  (hX : l.filter S.contains ≠ [] -> X) (kr : l.filter S.contains = [] -> SX c [(sPH, .vset S)] (up y (.lst ((l.filter S.contains).map .bytes)) U) rest N R X)
  (hyn : ([(ofString ".0", NameKind.local), (ofString "name", NameKind.local), (sPH, NameKind.free)].any fun (n, k) => n == y && (k == .local || k == .cell)) = false := by decide +kernel) (hln : (py.line == pos.line) = true := by rfl)
  (hsm : swapsWith em (some (.Name (ofString "msg") mp)) ap.line c.env = pure false := by rfl)
  (hs : ∀ x, foldedSetIterable tab c.env x = pure x := by intro _; rfl) :
  SX c [(sPH, .vset S)] U (.Assign [.Name y py] (.ListComp (.Name (ofString "name") pn) [⟨.Name (ofString "name") px, tab, [.Compare (.Name (ofString "name") pl) [.In] [.Name sPH pr] pi], 0⟩] sc pos) spos ::
   .If (.Name y tp) [.Assign [.Name (ofString "msg") mp] em ap, .Raise (some (.Call (.Name (ofString "ProtocolError") np) [.Name (ofString "msg") mp2] [] cp)) none rp] [] ip :: rest) N R X := by
 refine s_then (s_names hc ht (by lia) hcells hc.kind hkc hsc hsk hy (swaps_comp hc.e hy hln (by rw [hsc]; exact hyn)) hs) ?_
 have hlen : (l.filter S.contains).length <= 15 := Nat.le_trans (List.length_filter_le ..) hl
 refine s_cons (N1 := fun U' => U' = up y (.lst ((l.filter S.contains).map .bytes)) U /\ l.filter S.contains = []) (s_if (b := !((l.filter S.contains).map AV.bytes).isEmpty) (et_val (ev_local hc.e up_self hyd) (opt_lst (by simp; lia))) (fun h => ?_) fun h => s_nil ⟨rfl, by simpa using h⟩) ?_
 ·have hne : l.filter S.contains ≠ [] := fun e => by rw [e] at h; cases h
  exact (sx_raise hc h1 T (hE hne) hm hpe (by decide +kernel) hsm).weak (fun _ h => h) (fun _ h => h) fun _ => hX hne
 ·rintro U' ⟨rfl, h⟩
  exact kr h
noncomputable abbrev sFl : Str := ofString "hdr_validation_flags"
noncomputable abbrev sMe : Str := ofString "method"
theorem fc_pseudo (T : Tp C) {S : List (List UInt8)} {m : Option (List UInt8)} {a tr rs d : Bool} : FC C 3 (.ref 247) [.vset S, oAV m, .flags a tr rs d] (fun av => av = .none /\ okP S m tr rs = true) (okP S m tr rs = false) := by
 refine E12 (T.fn (247, 24) (by decide)) fun fd F _ => ?_
 refine fc_of1 (pre := []) (post := (dScope (stA 24)).names.tail) T.ok F.at' (by rw [F.sc]; decide +kernel) (by rw [F.sc]; rfl) (by simp) (by decide +kernel) (by rw [F.sc]; decide +kernel) F.cl (x0 := sPH) (names := [sMe, sFl]) (bindW (bind3 F.pa F.df)) rfl (by rw [F.sc]; decide +kernel) (by intro av h; simp at h; rcases h with rfl | rfl <;> first | exact oAV_ow m | rfl) (fun av h => h.1) fun c a0 hc h1 h2 h3 hcells => ?_
 have kd : ∀ {x : Str} {k : NameKind} (_ : (dScope (stA 24)).names.lookup x = some k := by decide +kernel), c.env.kindOf x = some k := fun h => kindC F h3 h
 let U0 : Env1 := ([sMe, sFl].zip [oAV m, .flags a tr rs d]).reverse
 have hfl : U0.lookup sFl = some (.flags a tr rs d) := rfl
 have hme : U0.lookup sMe = some (oAV m) := rfl
 refine s_then (U₁ := U0) (s_doc hc) ?_
 refine s_cons (N1 := fun U' => U' = U0 /\ (tr && !S.isEmpty) = false) (s_if (b := tr && (!S.isEmpty && true)) (et_bool (all_and (et_val (ev_trailer hc.e h1 T (by lia) hfl (by decide +kernel)) opt_bool) fun _ => all_and (et_val (ev_cell hc.e rfl (by decide +kernel)) opt_vset) fun _ => all_and_nil)) (fun h => ?_) fun h => s_nil ⟨rfl, by simpa using h⟩) ?_
 ·exact (sx_raise hc h1 T (ev_str (by decide +kernel)) kd kd (by decide +kernel)).weak (fun _ h => h) (fun _ h => h) fun _ => by
   have h' : (tr && !S.isEmpty) = true := by simpa using h
   simp only [okP, h', Bool.not_true, Bool.false_and]
 rintro U' ⟨rfl, htr⟩
 refine s_cons (N1 := fun _ => okP S m tr rs = true) (s_if (b := rs) (et_val (ev_response hc.e h1 T (by lia) hfl (by decide +kernel)) opt_bool) (fun hrs => ?_) fun hrs => ?_) fun _ h => s_nil ⟨rfl, h⟩
 ·-- a response
  subst hrs
  refine sx_assert hc h1 T (by lia) kd (by decide) (fun h => ?_) fun hst => ?_
  ·have h' : S.contains nStatus = false := h
   simp only [okP, h', if_true, Bool.false_and, Bool.and_false]
  refine sx_inv hc h1 T (ev_cst hc.e h1 T.c107 kd (by decide +kernel)) (by decide) (by decide) hcells kd rfl rfl kd (by decide +kernel) kd kd (fun hne => ?_) (fun hne => ?_) fun he => ?_
  ·exact ev_fstr hc.e (pt_cons (pt_str (by decide +kernel)) (pt_cons (pt_list hc.e (ev_local hc.e up_self) (fun b hb => (show ∀ b ∈ reqO, b.length <= 1000 by decide) b (List.mem_filter.mp hb).1) (Nat.le_trans (List.length_filter_le ..) (by decide)) hne) pt_nil)) (by simp)
  ·simp only [okP, if_true]
   rw [show (reqO.filter S.contains).isEmpty = false from by simpa using hne]; simp
  ·refine s_nil ?_
   have h' : S.contains nStatus = true := hst
   simp only [okP, htr, h', he, if_true]; rfl
 ·-- no response
  subst hrs
  refine s_cons (N1 := fun _ => okP S m tr false = true) (s_if (b := !false && (!tr && true)) (et_bool (all_and (et_not (et_val (ev_response hc.e h1 T (by lia) hfl (by decide +kernel)) opt_bool)) fun _ => all_and (et_not (et_val (ev_trailer hc.e h1 T (by lia) hfl (by decide +kernel)) opt_bool)) fun _ => all_and_nil)) (fun h => ?_) fun h => s_nil ?_) fun _ h => s_nil h
  ·have : tr = false := by simpa using h
   subst this
   have sIC : (up (ofString "is_connect") (AV.bool (con m)) U0).lookup (ofString "is_connect") = some (.bool (con m)) := up_self
   let ext := con m && S.contains nProto
   let U2 : Env1 := up (ofString "is_extended_connect") (AV.bool ext) (up (ofString "is_connect") (AV.bool (con m)) U0)
   have hic : U2.lookup (ofString "is_connect") = some (.bool (con m)) := (look_ne).trans sIC
   have hix : U2.lookup (ofString "is_extended_connect") = some (.bool ext) := up_self
   have bad : ∀ {p : Prop}, (S.contains nMethod && (if con m && !S.contains nProto then !(S.contains nScheme || S.contains nPath) else S.contains nScheme && S.contains nPath) && ([nStatus].filter S.contains).isEmpty && (con m || ([nProto].filter S.contains).isEmpty)) = false -> okP S m false false = false := fun h => by
    simp only [okP, Bool.false_eq_true, if_false, Bool.not_false, if_true, h, Bool.and_false]
   refine sx_assert hc h1 T (by lia) kd (by decide) (fun h => bad (p := True) ?_) fun hmt => ?_
   ·have h' : S.contains nMethod = false := h
    simp only [h', Bool.false_and]
   refine s_then (s_assign hc (ev_cmp (ev_local hc.e hme) ev_bytes o_eq) kd) ?_
   refine s_then (s_assign hc (ev_boolop (evb_and (ev_local hc.e sIC) fun _ => evb_one (ev_cmp ev_bytes (ev_cell hc.e rfl (by decide +kernel)) b_inVset))) kd) ?_
   have fin : ∀ P : Bool, P = (if con m && !S.contains nProto then !(S.contains nScheme || S.contains nPath) else S.contains nScheme && S.contains nPath) -> P = false -> okP S m false false = false := fun P e h => bad (p := True) (by rw [<- e, h]; simp)
   refine s_cons (N1 := fun U' => U' = U2 /\ (if con m && !S.contains nProto then !(S.contains nScheme || S.contains nPath) else S.contains nScheme && S.contains nPath) = true) (s_if (b := con m && (!ext && true)) (et_bool (all_and (et_val (ev_local hc.e hic) opt_bool) fun _ => all_and (et_not (et_val (ev_local hc.e hix) opt_bool)) fun _ => all_and_nil)) (fun hb => ?_) fun hb => ?_) ?_
   ·have hb' : (con m && !S.contains nProto) = true := by
     have h0 : (con m && (!(con m && S.contains nProto) && true)) = true := hb
     revert h0; cases con m <;> cases S.contains nProto <;> simp
    rw [if_pos hb'] at fin ⊢
    refine s_cons (N1 := fun U' => U' = U2 /\ (!(S.contains nScheme || S.contains nPath)) = true) (s_if (b := S.contains nScheme || (S.contains nPath || false)) (et_bool (all_or (et_cmp ev_bytes (ev_cell hc.e rfl (by decide +kernel)) b_inVset) fun _ => all_or (et_cmp ev_bytes (ev_cell hc.e rfl (by decide +kernel)) b_inVset) fun _ => all_or_nil)) (fun hb2 => ?_) fun hb2 => s_nil ⟨rfl, by simpa using hb2⟩) fun U' h => s_nil h
    refine (sx_raise hc h1 T (ev_str (by decide +kernel)) kd kd (by decide +kernel)).weak (fun _ h => h) (fun _ h => h) fun _ => fin _ rfl ?_
    have h0 : (S.contains nScheme || S.contains nPath) = true := by simpa using hb2
    rw [h0]; rfl
   ·have hb' : (con m && !S.contains nProto) = false := by
     have h0 : (con m && (!(con m && S.contains nProto) && true)) = false := hb
     revert h0; cases con m <;> cases S.contains nProto <;> simp
    rw [if_neg (by rw [hb']; exact fT)] at fin ⊢
    have two : ∀ {f1 b1 q1 x1 y1 f2 b2 q2 x2 y2 : Pos} {k1 k2 : Nat}, SX c [(sPH, .vset S)] U2 [.Expr (.Call (.Name (ofString "_assert_header_in_set") f1) [.Constant (.bytes nScheme) k1 b1, .Name sPH q1] [] x1) y1, .Expr (.Call (.Name (ofString "_assert_header_in_set") f2) [.Constant (.bytes nPath) k2 b2, .Name sPH q2] [] x2) y2] (fun U' => U' = U2 /\ (S.contains nScheme && S.contains nPath) = true) (fun av => av = .none /\ okP S m false false = true) (okP S m false false = false) := by
     intros
     refine sx_assert hc h1 T (by lia) kd (by decide) (fun h => fin _ rfl (by rw [h]; rfl)) fun hs => ?_
     exact sx_assert hc h1 T (by lia) kd (by decide) (fun h => fin _ rfl (by rw [h, Bool.and_false])) fun hp => s_nil ⟨rfl, by rw [hs, hp]; rfl⟩
    exact s_cons (N1 := fun U' => U' = U2 /\ (S.contains nScheme && S.contains nPath) = true) (s_if (b := ext) (et_val (ev_local hc.e hix) opt_bool) (fun _ => two) fun _ => two) fun U' h => s_nil h
   rintro U' ⟨rfl, hmid⟩
   have hE : ∀ {Z U : Env1} {y : Str} {l : List (List UInt8)} {p1 p2 p3 p4 : Pos} {x1 : Str} {k : Nat}, l.filter S.contains ≠ [] -> l.length <= 15 -> (∀ b ∈ l, b.length <= 1000) -> x1.length <= 100000 -> (y == ("__debug__" : Str)) = false -> EV c Z (up y (.lst ((l.filter S.contains).map .bytes)) U) (.JoinedStr [.Constant (.str x1) k p1, .FormattedValue (.Name y p2) (-1) none p3] p4) .str := fun hne h1 h2 h3 h4 =>
    ev_fstr hc.e (pt_cons (pt_str h3) (pt_cons (pt_list hc.e (ev_local hc.e up_self h4) (fun b hb => h2 b (List.mem_filter.mp hb).1) (Nat.le_trans (List.length_filter_le ..) h1) hne) pt_nil)) (by simp)
   have hER : ∀ {Z U : Env1} {y : Str} {l : List (List UInt8)} {p1 p2 p3 p4 : Pos} {x1 : Str} {k : Nat}, l.filter S.contains ≠ [] -> l.length <= 15 -> (∀ b ∈ l, b.length <= 1000) -> x1.length <= 100000 -> (y == ("__debug__" : Str)) = false -> EV c Z (up y (.lst ((l.filter S.contains).map .bytes)) U) (.JoinedStr [.Constant (.str x1) k p1, .FormattedValue (.Name y p2) 114 none p3] p4) .str := fun hne h1 h2 h3 h4 =>
    ev_fstr hc.e (pt_cons (pt_str h3) (pt_cons (pt_listR hc.e (ev_local hc.e up_self h4) (fun b hb => h2 b (List.mem_filter.mp hb).1) (Nat.le_trans (List.length_filter_le ..) h1) hne) pt_nil)) (by simp)
   refine sx_inv hc h1 T (ev_cst hc.e h1 T.c108 kd (by decide +kernel)) (by decide) (by decide) hcells kd rfl rfl kd (by decide +kernel) kd kd (fun hne => hE hne (by decide) (by decide) (by decide +kernel) (by decide +kernel)) (fun hne => bad (p := True) ?_) fun hst => ?_
   ·rw [show ([nStatus].filter S.contains).isEmpty = false from by simpa using hne]; simp
   have hic3 : (up (ofString "invalid_request_headers") (.lst (([nStatus].filter S.contains).map .bytes)) U2).lookup (ofString "is_connect") = some (.bool (con m)) := (look_ne).trans hic
   refine s_cons (N1 := fun _ => okP S m false false = true) (s_if (b := !con m) (et_not (et_val (ev_local hc.e hic3) opt_bool)) (fun hb => ?_) fun hb => s_nil ?_) fun _ h => s_nil h
   ·have hcm : con m = false := by simpa using hb
    refine sx_inv hc h1 T (ev_cst hc.e h1 T.c109 kd (by decide +kernel)) (by decide) (by decide) hcells kd rfl rfl kd (by decide +kernel) kd kd (fun hne => hER hne (by decide) (by decide) (by decide +kernel) (by decide +kernel)) (fun hne => bad (p := True) ?_) fun hpr => s_nil ?_
    ·rw [show ([nProto].filter S.contains).isEmpty = false from by simpa using hne, hcm]; simp
    ·have h' : S.contains nMethod = true := hmt
     simp only [okP, Bool.false_eq_true, if_false, Bool.not_false, if_true, Bool.false_and, h', hst, hpr, Bool.true_and]
     rw [hmid]; simp
   ·have hcm : con m = true := by simpa using hb
    have h' : S.contains nMethod = true := hmt
    simp only [okP, Bool.false_eq_true, if_false, Bool.not_false, if_true, Bool.false_and, h', hst, Bool.true_and]
    rw [hmid, hcm]; simp
  ·have : tr = true := by simpa using h
   subst this
   simp only [okP, htr]; rfl
end
theorem Sole.up {U : Env1} {x y : Str} {a : AV} (h : Sole x U) (ha : a.pl = true) : Sole x (Mine.up y a U) := fun z av e hz => by
 rw [up_lookup] at e
 split at e
 ·cases e; rw [ha] at hz; cases hz
 ·exact h z av e hz
theorem Sole.self {U : Env1} {x : Str} {a : AV} (h : Sole x U) : Sole x (Mine.up x a U) := fun z av e hz => by
 rw [up_lookup] at e
 split at e
 ·assumption
 ·exact h z av e hz
theorem AV.nl_pl {a : AV} (h : a.nl = true) : a.pl = true := by cases a <;> first | rfl | cases h
noncomputable def NlE (U : Env1) : Prop := ∀ y av, U.lookup y = some av -> av.nl = true
theorem NlE.nil : NlE [] := fun y av h => by simp [List.lookup] at h
theorem NlE.cons {U : Env1} {x : Str} {a : AV} (ha : a.nl = true) (h : NlE U) : NlE ((x, a) :: U) := fun y av e => by
 by_cases hy : y = x
 ·subst hy; simp [List.lookup] at e; subst e; exact ha
 ·simp [List.lookup, beq_eq_false_iff_ne.mpr hy] at e; exact h y av e
theorem NlE.okY {U : Env1} (h : NlE U) : OkY U := fun y av e => AV.nl_okY (h y av e)
theorem NlE.sole {U : Env1} {x : Str} (h : NlE U) : Sole x U := fun y av e hp => by rw [AV.nl_pl (h y av e)] at hp; cases hp
noncomputable abbrev sSeen : Str := ofString "seen_pseudo_header_fields"
noncomputable abbrev sReg : Str := ofString "seen_regular_header"
noncomputable abbrev sH : Str := ofString "header"
noncomputable def isP (n : List UInt8) : Bool := at8 n 0 == 58
structure PSt where
 S : List (List UInt8)
 reg : Bool
 m : Option (List UInt8)
noncomputable def PSt.next (st : PSt) (f : Fld) : PSt := if isP f.n then ⟨st.S ++ [f.n], st.reg, if f.n == nMethod then some f.v else st.m⟩ else ⟨st.S, true, st.m⟩
noncomputable def PSt.bad (st : PSt) (f : Fld) : Bool := isP f.n && (st.S.contains f.n || st.reg || !pseuA.contains f.n)
noncomputable def outP : PSt -> List Fld -> List AV
 | _, [] => []
 | st, f :: l => if st.bad f then [] else f.av :: outP (st.next f) l
noncomputable def erP (tr rs e : Bool) : PSt -> List Fld -> Bool
 | st, [] => e || !okP st.S st.m tr rs
 | st, f :: l => if st.bad f then true else erP tr rs e (st.next f) l
noncomputable def relP (fv : AV) (st : PSt) (k : Nat) (U : Env1) : Prop := OkY U /\ U.lookup sSeen = some (.set st.S) /\ U.lookup sReg = some (.bool st.reg) /\ U.lookup sMe = some (oAV st.m) /\ U.lookup sFl = some fv /\ Sole sSeen U /\ st.S.length + k <= 200
theorem relP.other {fv : AV} {st : PSt} {k : Nat} {U : Env1} {x : Str} {a : AV} (h : relP fv st k U) (h1 : a.okY = true) (h2 : a.pl = true) (hx : ((sSeen == x) || (sReg == x) || (sMe == x) || (sFl == x)) = false) : relP fv st k (up x a U) := by
 simp only [Bool.or_eq_false_iff] at hx
 refine E02 hx ?_; clear hx; rintro ⟨⟨x1, x2⟩, x3⟩ x4
 refine E07 h ?_; clear h; intro h0 h3 h4 h5 h6 h7 h8
 exact ⟨h0.up h1, by rw [look_ne x1]; exact h3, by rw [look_ne x2]; exact h4, by rw [look_ne x3]; exact h5, by rw [look_ne x4]; exact h6, h7.up h2, h8⟩
noncomputable def named (f : Fld) : Prop := small 1000 f /\ f.n ≠ []
theorem pf_pseudo {C : Cx} (T : Tp C) {a tr rs d : Bool} (l0 : List Fld) (hB : ∀ f ∈ l0, named f) (hl : l0.length <= 200) (e : Bool) : PF C 5 5 (.ref 242) [.flags a tr rs d] (l0.map Fld.av) e (outP ⟨[], false, none⟩ l0) (erP tr rs e ⟨[], false, none⟩ l0) := by
 refine E12 (T.fn (242, 23) (by decide)) fun fd F _ => ?_
 refine E13 (T.fn (247, 24) (by decide)) fun fd' F' hm' _ => ?_
 refine E12 F'.at'.ho fun o' ho' hd' => ?_
 refine pf_gen2 (m := 3) T F rfl (by decide +kernel) rfl rfl fun n K v env hsc hcells ok => ?_
 have kd : ∀ {c : Ac}, c.env = env -> ∀ {x : Str} {k : NameKind} (_ : (dScope (stA 23)).names.lookup x = some k := by decide +kernel), c.env.kindOf x = some k := fun h2 _ _ h => h2 ▸ kindA F hsc h
 let U0 : Env1 := [(sFl, .flags a tr rs d), (ofString "headers", .raw v)]
 let fv : AV := .flags a tr rs d
 let src : List Src := [⟨false, v, l0.map Fld.av, e⟩]
 let st0 : PSt := ⟨[], false, none⟩
 let out := outP st0 l0
 let g : Gk := ⟨C, n + 3, erP tr rs e st0 l0, K, .ret .none, env⟩
 show GX g [] U0 src _ out _
 have plain : ∀ {U U' : Env1} {st : Stmt} {sts : List Stmt} {Kc}, (∀ c : Ac, c.Ok -> c.C = C -> c.env = env -> c.n = n + 3 -> S1 c [] U st (· = U') (fun _ => False) False) -> GX g [] U' src sts out Kc -> GX g [] U src (st :: sts) out Kc := fun h k =>
  gx_cons (K1 := fun U its zs => U = _ /\ its = src /\ zs = out) (g1_plain h (fun U' e => ⟨e, rfl, rfl⟩) (fun z => z.elim)) (by rintro _ _ _ ⟨rfl, rfl, rfl⟩; exact k)
 refine plain (U := U0) (fun c hc h1 h2 h3 => s_doc hc) ?_
 refine plain (fun c hc h1 h2 h3 => s_set0 hc (ev_bi hc.e h1 T (v := .type "set") (by decide +kernel) (kd h2)) (kd h2)) ?_
 refine plain (fun c hc h1 h2 h3 => s_assign hc ev_bool (kd h2)) ?_
 refine plain (fun c hc h1 h2 h3 => s_assign hc ev_none (kd h2)) ?_
 have hN0 : NlE U0 := .cons rfl (.cons rfl .nil)
 have h0 : relP fv st0 l0.length (up sMe .none (up sReg (.bool false) (up sSeen (.set []) U0))) :=
  ⟨((hN0.okY.up rfl).up rfl).up rfl, rfl, rfl, rfl, rfl, Sole.up (Sole.up (Sole.self hN0.sole) rfl) rfl, by simpa [st0] using hl⟩
 refine gx_cons (K1 := fun U its zs => ∃ st, relP fv st 0 U /\ zs = [] /\ erP tr rs e st0 l0 = erP tr rs e st [] /\ e = false) (g1_fields (σ := PSt) outP (erP tr rs e) (fun st l U => relP fv st l.length U) named (st := st0) ok (fun c hc h1 h2 h3 => ev_local hc.e rfl) (kindA F hsc (by decide +kernel)) h0 hB rfl rfl (fun st U h he hr => ⟨st, h, rfl, hr, he⟩) (fun st he => ⟨rfl, by simp [erP, he]⟩) ?_) ?_
 ·intro it st f l U hR hf _ her
  have hH : relP fv st (f :: l).length (up sH f.av U) := hR.other f.okY (AV.nl_pl f.nl) (by decide +kernel)
  have hh : (up sH f.av U).lookup sH = some f.av := look_up
  have badO : st.bad f = true -> outP st (f :: l) = [] /\ erP tr rs e st0 l0 = true := fun h => ⟨if_pos h, her.trans (if_pos h)⟩
  let its1 : List Src := [⟨true, it, l.map Fld.av, e⟩]
  have raise : ∀ {U' : Env1} {p p' p2 p3 np cp : Pos} {em : Expr} {Kc}, st.bad f = true -> (∀ c : Ac, c.Ok -> EV c [] U' em .str) -> (∀ env, swapsWith em (some (.Name (ofString "msg") p)) p'.line env = pure false) -> GX g [] U' its1 [.Assign [.Name (ofString "msg") p] em p', .Raise (some (.Call (.Name (ofString "ProtocolError") np) [.Name (ofString "msg") p2] [] cp)) none p3] (outP st (f :: l)) Kc := fun hb he hsw =>
   gx_raises (fun c hc h1 h2 h3 => sx_raise hc h1 T (he c hc) (kd h2) (kd h2) (by decide +kernel) (hsw _)) (badO hb).1 (badO hb).2
  refine E07 (id hH) fun k0 k1 k2 k3 k4 k5 k6 => ?_
  have hlen : st.S.length + l.length + 1 <= 200 := by have := k6; simp only [List.length_cons] at this; omega
  have hn1 : f.n.length <= 1000 := hf.1.1
  have hpos : 0 < f.n.length := List.length_pos_iff.mpr hf.2
  have hnx : isP f.n = true -> st.next f = ⟨st.S ++ [f.n], st.reg, if f.n == nMethod then some f.v else st.m⟩ := fun h => if_pos h
  have hnx' : isP f.n = false -> st.next f = ⟨st.S, true, st.m⟩ := fun h => if_neg (by rw [h]; exact fT)
  refine gx_cons (K1 := fun U' its' zs' => relP fv (st.next f) l.length U' /\ U'.lookup sH = some f.av /\ its' = its1 /\ zs' = outP st (f :: l) /\ st.bad f = false) (g1_if (b := isP f.n) (fun c hc h1 h2 h3 => et_cmp (ev_sub (ev_f0 hc.e hh) ev_int (gi_bytes (i := 0) (by lia) (by decide) (by lia))) (ev_sig hc.e h1 T (kd h2)) i_eq) (fun hb => ?_) fun hb => ?_) ?_
  ·refine gx_cons (K1 := fun U' its' zs' => U' = up sH f.av U /\ its' = its1 /\ zs' = outP st (f :: l) /\ st.S.contains f.n = false) (g1_if (b := st.S.contains f.n) (fun c hc h1 h2 h3 => et_cmp (ev_f0 hc.e hh) (ev_local hc.e k1) b_inSet) (fun hb2 => raise (by simp only [PSt.bad, hb, hb2]; rfl) (fun c hc => ev_fstr hc.e (pt_cons (pt_str (by decide +kernel)) (pt_cons (pt_repr hc.e (ev_f0 hc.e hh) (by lia)) pt_nil)) (by simp)) (fun _ => rfl)) fun hb2 => gx_nil ⟨rfl, rfl, rfl, hb2⟩) ?_
   rintro _ _ _ ⟨rfl, rfl, rfl, hc1⟩
   refine gx_cons (K1 := fun U' its' zs' => U' = up sSeen (.set (st.S ++ [f.n])) (up sH f.av U) /\ its' = its1 /\ zs' = outP st (f :: l)) (g1_plain (X := False) (fun c hc h1 h2 h3 => s_add hc k1 k5 plk_nil (ev_f0 hc.e hh) hc1 (by show st.S.length + 1 < 4096; lia)) (fun U' e => ⟨e, rfl, rfl⟩) fun h => h.elim) ?_
   rintro _ _ _ ⟨rfl, rfl, rfl⟩
   have hh2 : (up sSeen (.set (st.S ++ [f.n])) (up sH f.av U)).lookup sH = some f.av := (look_ne).trans hh
   have kr2 : (up sSeen (.set (st.S ++ [f.n])) (up sH f.av U)).lookup sReg = some (.bool st.reg) := (look_ne).trans k2
   have hR2 : relP fv ⟨st.S ++ [f.n], st.reg, st.m⟩ l.length (up sSeen (.set (st.S ++ [f.n])) (up sH f.av U)) :=
    ⟨k0.up rfl, look_up, kr2, (look_ne).trans k3, (look_ne).trans k4, k5.self, by simp; lia⟩
   refine gx_cons (K1 := fun U' its' zs' => U' = up sSeen (.set (st.S ++ [f.n])) (up sH f.av U) /\ its' = its1 /\ zs' = outP st (f :: l) /\ st.reg = false) (g1_if (b := st.reg) (fun c hc h1 h2 h3 => et_val (ev_local hc.e kr2) opt_bool) (fun hb2 => raise (by simp only [PSt.bad, hb, hb2, Bool.or_true, Bool.true_or]; rfl) (fun c hc => ev_fstr hc.e (pt_cons (pt_str (by decide +kernel)) (pt_cons (pt_repr hc.e (ev_f0 hc.e hh2) (by lia)) pt_nil)) (by simp)) (fun _ => rfl)) fun hb2 => gx_nil ⟨rfl, rfl, rfl, hb2⟩) ?_
   rintro _ _ _ ⟨rfl, rfl, rfl, hc2⟩
   refine gx_cons (K1 := fun U' its' zs' => U' = up sSeen (.set (st.S ++ [f.n])) (up sH f.av U) /\ its' = its1 /\ zs' = outP st (f :: l) /\ pseuA.contains f.n = true) (g1_if (b := !pseuA.contains f.n) (fun c hc h1 h2 h3 => et_cmp (ev_f0 hc.e hh2) (ev_cst hc.e h1 T.c105 (kd h2) (by decide +kernel)) b_notIn) (fun hb2 => raise (by simp only [PSt.bad, hb, hb2, Bool.or_true]; rfl) (fun c hc => ev_fstr hc.e (pt_cons (pt_str (by decide +kernel)) (pt_cons (pt_repr hc.e (ev_f0 hc.e hh2) (by lia)) pt_nil)) (by simp)) (fun _ => rfl)) fun hb2 => gx_nil ⟨rfl, rfl, rfl, by simpa using hb2⟩) ?_
   rintro _ _ _ ⟨rfl, rfl, rfl, hc3⟩
   have hbad : st.bad f = false := by simp only [PSt.bad, hc1, hc2, hc3]; simp
   refine gx_cons (g1_if (b := f.n == nMethod) (fun c hc h1 h2 h3 => et_cmp (ev_f0 hc.e hh2) ev_bytes b_eq) (fun hm => ?_) fun hm => gx_nil ?_) fun _ _ _ h => gx_nil h
   ·refine gx_cons (g1_plain (X := False) (fun c hc h1 h2 h3 => s_assign hc (ev_f1 hc.e hh2) (kd h2)) (fun U' e => ?_) fun h => h.elim) fun _ _ _ h => gx_nil h
    subst e
    refine E07 hR2 ?_; clear hR2; intro q0 q1 q2 q3 q4 q5 q6
    refine ⟨?_, (look_ne).trans hh2, rfl, rfl, hbad⟩
    rw [hnx hb, if_pos hm]
    exact ⟨q0.up rfl, (look_ne).trans q1, (look_ne).trans q2, look_up, (look_ne).trans q4, q5.up rfl, q6⟩
   ·refine ⟨?_, hh2, rfl, rfl, hbad⟩
    rw [hnx hb, if_neg (by rw [hm]; exact fT)]
    exact hR2
  ·refine gx_cons (g1_plain (X := False) (fun c hc h1 h2 h3 => s_assign hc ev_bool (kd h2)) (fun U' e => ?_) fun h => h.elim) fun _ _ _ h => gx_nil h
   subst e
   refine ⟨?_, (look_ne).trans hh, rfl, rfl, by simp only [PSt.bad, hb]; rfl⟩
   rw [hnx' hb]
   exact ⟨k0.up rfl, (look_ne).trans k1, look_up, (look_ne).trans k3, (look_ne).trans k4, k5.up rfl, by show st.S.length + _ <= _; omega⟩
  ·rintro U' _ _ ⟨hR', hh', rfl, rfl, hbad⟩
   rw [show outP st (f :: l) = f.av :: outP (st.next f) l from if_neg (by rw [hbad]; exact fT)]
   exact gx_yield (zs := outP (st.next f) l) ok (fun c hc h1 h2 h3 => ev_local hc.e hh') f.nl hR'.1 .nil ⟨rfl, st.next f, hR', rfl, her.trans (if_neg (by rw [hbad]; exact fT))⟩
 ·rintro U its zs ⟨st, ⟨hY, k1, k2, k3, k4, k5, k6⟩, rfl, her, rfl⟩
  have her' : erP tr rs false st0 l0 = !okP st.S st.m tr rs := by rw [her]; simp [erP]
  refine gx_cons (K1 := fun _ _ zs => zs = [] /\ erP tr rs false st0 l0 = false) (g1_plain (N := fun U' => (∃ av, av = AV.none /\ okP st.S st.m tr rs = true) /\ U' = U) (X := okP st.S st.m tr rs = false) (fun c hc h1 h2 h3 => ?_) (fun U' h => ?_) fun h => ?_) fun _ _ _ h => gx_nil h
  ·have h1' : c.C = C := h1
   subst h1'
   exact s_callF hc (fun h B => B.old _ _ ho' F'.at'.at') hd' (ev_fn hc.e rfl T 247 24 (by decide) rfl (kd h2) (by decide +kernel)) (eva_cons (ev_vset (ev_local hc.e k1)) (eva_cons (ev_local hc.e k3) (eva_cons (ev_local hc.e k4) eva_nil))) (fc_pseudo T) (by have h3' : c.n = n + 3 := h3; lia)
  ·refine E02 h ?_; clear h; rintro ⟨av, rfl, h⟩ _
   exact ⟨rfl, by rw [her', h]; rfl⟩
  ·exact ⟨rfl, by show erP tr rs false st0 l0 = true; rw [her', h]; rfl⟩
noncomputable abbrev sAu : Str := ofString "authority_header_val"
noncomputable abbrev sHo : Str := ofString "host_header_val"
structure HSt where
 a : Option (List UInt8)
 h : Option (List UInt8)
noncomputable def HSt.next (st : HSt) (f : Fld) : HSt := if f.n == nAuth then ⟨some f.v, st.h⟩ else if f.n == nHost then ⟨st.a, some f.v⟩ else st
noncomputable def HSt.bad (st : HSt) (f : Fld) : Bool := !(f.n == nAuth) && (f.n == nHost && st.h.isSome)
noncomputable def HSt.end_ (st : HSt) : Bool := (!st.a.isSome && !st.h.isSome) || (st.a.isSome && (st.h.isSome && st.a != st.h))
noncomputable def outH : HSt -> List Fld -> List AV
 | _, [] => []
 | st, f :: l => if st.bad f then [] else f.av :: outH (st.next f) l
noncomputable def erH (e : Bool) : HSt -> List Fld -> Bool
 | st, [] => e || st.end_
 | st, f :: l => if st.bad f then true else erH e (st.next f) l
noncomputable def relH (st : HSt) (U : Env1) : Prop := OkY U /\ U.lookup sAu = some (oAV st.a) /\ U.lookup sHo = some (oAV st.h) /\ (∀ b, st.a = some b -> b.length <= 1000) /\ ∀ b, st.h = some b -> b.length <= 1000
section
variable {C : Cx} {A : Around}
theorem o_isNot {m : Option (List UInt8)} : Op2 C A (compareOp .IsNot) (oAV m) .none (.bool m.isSome) := by
 cases m with
 | none => exact n_isNot
 | some b => exact v_isNot fun q h v r => by refine E11 (de_bytes r) ?_; rintro t rfl; rfl
end
theorem pf_host {C : Cx} (T : Tp C) (l0 : List Fld) (hB : ∀ f ∈ l0, small 1000 f) (e : Bool) : PF C 2 2 (.ref 254) [] (l0.map Fld.av) e (outH ⟨none, none⟩ l0) (erH e ⟨none, none⟩ l0) := by
  refine E12 (T.fn (254, 25) (by decide)) fun fd F _ => ?_
  refine pf_gen (m := 0) T.ok F.at' (by rw [F.sc]; decide +kernel) (by rw [F.sc]; decide +kernel) (names := [ofString "headers"]) (bind1 F.pa F.df) rfl (by rw [F.sc]; decide +kernel) (by simp [nlL]) F.cl fun n K v env hsc hcells ok => ?_
  have kd : ∀ {c : Ac}, c.env = env -> ∀ {x : Str} {k : NameKind} (_ : (dScope (stA 25)).names.lookup x = some k := by decide +kernel), c.env.kindOf x = some k := fun h2 _ _ h => h2 ▸ kindA F hsc h
  let U0 : Env1 := [(ofString "headers", .raw v)]
  let src : List Src := [⟨false, v, l0.map Fld.av, e⟩]
  let st0 : HSt := ⟨none, none⟩
  let out := outH st0 l0
  let g : Gk := ⟨C, n + 0, erH e st0 l0, K, .ret .none, env⟩
  show GX g [] U0 src _ out _
  have plain : ∀ {U U' : Env1} {its : List Src} {zs : List AV} {st : Stmt} {sts : List Stmt} {Kc}, (∀ c : Ac, c.Ok -> c.C = C -> c.env = env -> c.n = n + 0 -> S1 c [] U st (· = U') (fun _ => False) False) -> GX g [] U' its sts zs Kc -> GX g [] U its (st :: sts) zs Kc := fun {U U' its zs _ _ _} h k =>
    gx_cons (K1 := fun U its' zs' => U = _ /\ its' = its /\ zs' = zs) (g1_plain h (fun U' e => ⟨e, rfl, rfl⟩) (fun z => z.elim)) (by rintro _ _ _ ⟨rfl, rfl, rfl⟩; exact k)
  have raise : ∀ {U' : Env1} {its : List Src} {zs : List AV} {p p' p2 p3 np cp : Pos} {em : Expr} {Kc}, zs = [] -> erH e st0 l0 = true -> (∀ c : Ac, c.Ok -> EV c [] U' em .str) -> (∀ env, swapsWith em (some (.Name (ofString "msg") p)) p'.line env = pure false) -> GX g [] U' its [.Assign [.Name (ofString "msg") p] em p', .Raise (some (.Call (.Name (ofString "ProtocolError") np) [.Name (ofString "msg") p2] [] cp)) none p3] zs Kc := fun h1 h2 he hsw =>
    gx_raises (fun c hc e1 e2 e3 => sx_raise hc e1 T (he c hc) (kd e2) (kd e2) (by decide +kernel) (hsw _)) h1 h2
  refine plain (U := U0) (fun c hc h1 h2 h3 => s_doc hc) ?_
  refine plain (fun c hc h1 h2 h3 => s_assign hc ev_none (kd h2)) ?_
  refine plain (fun c hc h1 h2 h3 => s_assign hc ev_none (kd h2)) ?_
  have hN0 : NlE U0 := .cons rfl .nil
  refine gx_cons (K1 := fun U its zs => ∃ st, relH st U /\ zs = [] /\ erH e st0 l0 = st.end_) (g1_fields (σ := HSt) outH (erH e) (fun st _ U => relH st U) (small 1000) (st := st0) ok (fun c hc h1 h2 h3 => ev_local hc.e rfl) (kindA F hsc (by decide +kernel)) ⟨(hN0.okY.up rfl).up rfl, rfl, rfl, fun _ h => by simp [st0] at h, fun _ h => by simp [st0] at h⟩ hB rfl rfl (fun st U h he hr => ⟨st, h, rfl, by rw [show erH e st0 l0 = _ from hr, he]; rfl⟩) (fun st he => ⟨rfl, by simp [erH, he]⟩) ?_) ?_
  . intro it st f l U hR hf _ her
    refine E05 hR ?_; clear hR; intro k0 k1 k2 k3 k4
    have hh : (up sH f.av U).lookup sH = some f.av := look_up
    have hA : (up sH f.av U).lookup sHo = some (oAV st.h) := (look_ne).trans k2
    have hA1 : (up sH f.av U).lookup sAu = some (oAV st.a) := (look_ne).trans k1
    have bad : st.bad f = true -> outH st (f :: l) = [] /\ erH e st0 l0 = true := fun h => ⟨if_pos h, her.trans (if_pos h)⟩
    let its1 : List Src := [⟨true, it, l.map Fld.av, e⟩]
    refine gx_cons (K1 := fun U' its' zs' => relH (st.next f) U' /\ U'.lookup sH = some f.av /\ its' = its1 /\ zs' = outH st (f :: l) /\ st.bad f = false) (g1_if (b := f.n == nAuth) (fun c hc h1 h2 h3 => et_cmp (ev_f0 hc.e hh) ev_bytes b_eq) (fun hb => ?_) fun hb => ?_) ?_
    . refine plain (fun c hc h1 h2 h3 => s_assign hc (ev_f1 hc.e hh) (kd h2)) (gx_nil ?_)
      refine ⟨?_, (look_ne).trans hh, rfl, rfl, by simp only [HSt.bad, hb]; rfl⟩
      rw [show st.next f = ⟨some f.v, st.h⟩ from if_pos hb]
      exact ⟨(k0.up f.okY).up rfl, look_up, (look_ne).trans hA, fun b h => by cases h; exact hf.2, k4⟩
    . refine gx_cons (g1_if (b := f.n == nHost) (fun c hc h1 h2 h3 => et_cmp (ev_f0 hc.e hh) ev_bytes b_eq) (fun hb2 => ?_) fun hb2 => gx_nil ?_) fun _ _ _ h => gx_nil h
      . refine gx_cons (K1 := fun U' its' zs' => U' = up sH f.av U /\ its' = its1 /\ zs' = outH st (f :: l) /\ st.h.isSome = false) (g1_if (b := st.h.isSome) (fun c hc h1 h2 h3 => et_cmp (ev_local hc.e hA) ev_none o_isNot) (fun hb3 => ?_) fun hb3 => gx_nil ⟨rfl, rfl, rfl, hb3⟩) ?_
        . refine E02 (bad (by simp only [HSt.bad, hb, hb2, hb3]; rfl)) fun b1 b2 => ?_
          exact raise b1 b2 (fun c hc => ev_str (by decide +kernel)) (fun _ => rfl)
        . rintro _ _ _ ⟨rfl, rfl, rfl, hc⟩
          refine plain (fun c hc h1 h2 h3 => s_assign hc (ev_f1 hc.e hh) (kd h2)) (gx_nil ?_)
          refine ⟨?_, (look_ne).trans hh, rfl, rfl, by simp only [HSt.bad, hc, Bool.and_false]⟩
          rw [show st.next f = ⟨st.a, some f.v⟩ from by unfold HSt.next; rw [if_neg (by rw [hb]; exact fT), if_pos hb2]]
          exact ⟨(k0.up f.okY).up rfl, (look_ne).trans hA1, look_up, k3, fun b h => by cases h; exact hf.2⟩
      . refine ⟨?_, hh, rfl, rfl, by simp only [HSt.bad, hb2, Bool.false_and, Bool.and_false]⟩
        rw [show st.next f = st from by unfold HSt.next; rw [if_neg (by rw [hb]; exact fT), if_neg (by rw [hb2]; exact fT)]]
        exact ⟨k0.up f.okY, hA1, hA, k3, k4⟩
    . rintro U' _ _ ⟨hR', hh', rfl, rfl, hbad⟩
      rw [show outH st (f :: l) = f.av :: outH (st.next f) l from if_neg (by rw [hbad]; exact fT)]
      exact gx_yield (zs := outH (st.next f) l) ok (fun c hc h1 h2 h3 => ev_local hc.e hh') f.nl hR'.1 .nil ⟨rfl, st.next f, hR', rfl, her.trans (if_neg (by rw [hbad]; exact fT))⟩
  . rintro U its zs ⟨st, ⟨hY, k1, k2, k3, k4⟩, rfl, her⟩
    refine plain (fun c hc h1 h2 h3 => s_assign hc (ev_cmp (ev_local hc.e k1) ev_none o_isNot) (kd h2)) ?_
    refine plain (fun c hc h1 h2 h3 => s_assign hc (ev_cmp (ev_local hc.e ((look_ne).trans k2)) ev_none o_isNot) (kd h2)) ?_
    let U1 : Env1 := up (ofString "host_present") (.bool st.h.isSome) (up (ofString "authority_present") (.bool st.a.isSome) U)
    have ha : U1.lookup (ofString "authority_present") = some (.bool st.a.isSome) := (look_ne).trans look_up
    have hh : U1.lookup (ofString "host_present") = some (.bool st.h.isSome) := look_up
    have ha2 : U1.lookup sAu = some (oAV st.a) := ((look_ne).trans (look_ne)).trans k1
    have hh2 : U1.lookup sHo = some (oAV st.h) := ((look_ne).trans (look_ne)).trans k2
    refine gx_cons (K1 := fun U' its' zs' => U' = U1 /\ zs' = [] /\ (!st.a.isSome && !st.h.isSome) = false) (g1_if (b := !st.a.isSome && (!st.h.isSome && true)) (fun c hc h1 h2 h3 => et_bool (all_and (et_not (et_val (ev_local hc.e ha) opt_bool)) fun _ => all_and (et_not (et_val (ev_local hc.e hh) opt_bool)) fun _ => all_and_nil)) (fun hb => ?_) fun hb => gx_nil ⟨rfl, rfl, by simpa using hb⟩) ?_
    . refine raise rfl (by rw [her]; have h' : (!st.a.isSome && !st.h.isSome) = true := by simpa using hb
                           simp only [HSt.end_, h', Bool.true_or]) (fun c hc => ev_str (by decide +kernel)) (fun _ => rfl)
    rintro _ its' _ ⟨rfl, rfl, hc1⟩
    refine gx_cons (K1 := fun _ _ zs => zs = [] /\ erH e st0 l0 = false) (g1_if (b := st.a.isSome && (st.h.isSome && ((st.a != st.h) && true))) (fun c hc h1 h2 h3 => et_bool (all_and (et_val (ev_local hc.e ha) opt_bool) fun q1 => all_and (et_val (ev_local hc.e hh) opt_bool) fun q2 => all_and (et_cmp (ev_local hc.e ha2) (ev_local hc.e hh2) ?_) fun _ => all_and_nil)) (fun hb => ?_) fun hb => gx_nil ⟨rfl, ?_⟩) fun _ _ _ h => gx_nil h
    . refine E11 (Option.isSome_iff_exists.mp q1) fun x hx => ?_
      refine E11 (Option.isSome_iff_exists.mp q2) fun y hy => ?_
      rw [hx, hy]
      exact b_ne
    . have q : st.a.isSome = true /\ st.h.isSome = true /\ (st.a != st.h) = true := by simpa [Bool.and_eq_true] using hb
      refine E11 (Option.isSome_iff_exists.mp q.1) fun x hx => ?_
      refine E11 (Option.isSome_iff_exists.mp q.2.1) fun y hy => ?_
      refine raise rfl (by rw [her]; simp only [HSt.end_, q.1, q.2.1, q.2.2]; rfl) (fun c hc => ev_fstr hc.e (pt_cons (pt_str (by decide +kernel)) (pt_cons (pt_repr hc.e (ev_local hc.e (ha2.trans (by rw [hx]; rfl))) (by have := k3 x hx; lia)) (pt_cons (pt_str (by decide +kernel)) (pt_cons (pt_repr hc.e (ev_local hc.e (hh2.trans (by rw [hy]; rfl))) (by have := k4 y hy; lia)) pt_nil)))) (by simp)) (fun _ => rfl)
    . rw [her]
      have h' : (st.a.isSome && (st.h.isSome && (st.a != st.h))) = false := by simpa using hb
      simp only [HSt.end_, hc1, h', Bool.or_false]
noncomputable abbrev sCv : Str := ofString "cookie_val"
noncomputable abbrev sCk : Str := ofString "cookies"
noncomputable def bSep : List UInt8 := [59, 32]
noncomputable def crumbs (v : List UInt8) : List (List UInt8) := (pieces ⟨v⟩ ⟨bSep⟩).map (·.toList)
noncomputable def splF (f : Fld) : List Fld := if f.n == nCookie then (crumbs f.v).map fun c => { f with v := c } else [f]
noncomputable def smallC (f : Fld) : Prop := small 1000 f /\ (crumbs f.v).length <= 1000 /\ ∀ c ∈ crumbs f.v, c.length <= 1000
theorem pf_split {C : Cx} (T : Tp C) {fv : AV} (hfv : fv.nl = true) (l : List Fld) (hB : ∀ f ∈ l, smallC f) (e : Bool) : PF C 2 2 (.ref 310) [fv] (l.map Fld.av) e ((l.flatMap splF).map Fld.av) e := by
 refine E12 (T.fn (310, 33) (by decide)) fun fd F _ => ?_
 refine pf_fields T F hfv (by decide +kernel) rfl rfl (fun l => (l.flatMap splF).map Fld.av) (fun _ => e) smallC l e hB rfl rfl fun g ok hC hsc it f l U hY hf he => ?_
 have kd : ∀ {c : Ac}, c.env = g.env -> ∀ {x : Str} {k : NameKind} (_ : (dScope (stA 33)).names.lookup x = some k := by decide +kernel), c.env.kindOf x = some k := fun h2 _ _ h => h2 ▸ kindA F hsc h
 let its1 : List Src := [⟨true, it, l.map Fld.av, e⟩]
 let zz := ((f :: l).flatMap splF).map Fld.av
 have isB : ∀ {c : Ac} {U' : Env1} {e1 : Expr} {np p bp : Pos} {b : List UInt8}, c.Ok -> c.C = g.C -> c.env = g.env -> EV c [] U' e1 (.bytes b) -> starEach [e1, .Name (ofString "bytes") bp] c.env = (false, eval e1 c.env) :: starEach [.Name (ofString "bytes") bp] c.env -> eval (.Call (.Name (ofString "isinstance") np) [e1, .Name (ofString "bytes") bp] [] p) c.env = (do callWith p (<- eval (.Name (ofString "isinstance") np) c.env) [] (backTo p (starEach [e1, .Name (ofString "bytes") bp] c.env)) (backToKw p (keywordEach [] c.env))) -> EV c [] U' (.Call (.Name (ofString "isinstance") np) [e1, .Name (ofString "bytes") bp] [] p) (.bool true) := fun hc h1 h2 h hs hcall =>
  ev_callB (ev_bi hc.e (h1.trans hC) T (by decide +kernel) (kd h2)) (eva_cons h (eva_cons (ev_bi hc.e (h1.trans hC) T (v := .type "bytes") (by decide +kernel) (kd h2)) eva_nil) hs) c_isB hs rfl hcall
 refine gx_cons (K1 := fun U' its' zs' => U' = up sH f.av U /\ its' = its1 /\ zs' = zz) (g1_plain (X := False) (fun c hc h1 h2 h3 => s_assert hc (et_val (isB hc h1 h2 (ev_f0 hc.e look_up) rfl rfl) opt_bool)) (fun U' e => ⟨e, rfl, rfl⟩) (fun z => z.elim)) ?_
 rintro _ _ _ ⟨rfl, rfl, rfl⟩
 refine gx_cons (K1 := fun U' its' zs' => U' = up sH f.av U /\ its' = its1 /\ zs' = zz) (g1_plain (X := False) (fun c hc h1 h2 h3 => s_assert hc (et_val (isB hc h1 h2 (ev_f1 hc.e look_up) rfl rfl) opt_bool)) (fun U' e => ⟨e, rfl, rfl⟩) (fun z => z.elim)) ?_
 rintro _ _ _ ⟨rfl, rfl, rfl⟩
 refine gx_cons (g1_if (b := f.n == nCookie) (fun c hc h1 h2 h3 => et_cmp (ev_f0 hc.e look_up) ev_bytes b_eq) (fun hb => ?_) fun hb => ?_) fun _ _ _ h => gx_nil h
 ·have hz : zz = (crumbs f.v).map (fun c => (({ f with v := c } : Fld)).av) ++ (l.flatMap splF).map Fld.av := by
   show ((splF f) ++ l.flatMap splF).map Fld.av = _
   rw [List.map_append, show splF f = (crumbs f.v).map fun c => { f with v := c } from if_pos hb, List.map_map]; rfl
  rw [hz]
  refine gx_cons (g1_for_new (xs := (pieces ⟨f.v⟩ ⟨bSep⟩).map fun x => .bytes x.toList) (Inv := fun xs U' zs' => OkY U' /\ U'.lookup sH = some f.av /\ ∃ r : List (List UInt8), (∀ c ∈ r, c.length <= 1000) /\ xs = r.map .bytes /\ zs' = r.map (fun c => (({ f with v := c } : Fld)).av) ++ (l.flatMap splF).map Fld.av) ok (fun c hc h1 h2 h3 => ?_) (kindA F hsc (by decide +kernel)) ?_ ?_ ?_ ?_) fun _ _ _ h => gx_nil h
  ·refine evf_split (ev_f1 hc.e look_up) ev_bytes rfl (fun x hx => ?_) ?_
   ·have := hf.2.2 x.toList (List.mem_map.mpr ⟨x, hx, rfl⟩)
    have h2 : x.size = x.toList.length := by simp
    lia
   ·have := hf.2.1
    simp only [crumbs, List.length_map] at this
    show (pieces ⟨f.v⟩ ⟨bSep⟩).length <= _
    lia
  ·exact ⟨hY.up f.okY, look_up, crumbs f.v, hf.2.2, by simp [crumbs, List.map_map], rfl⟩
  ·rintro U' zs' ⟨h1, h2, r, h3, h4, rfl⟩
   cases r with
   | nil => exact ⟨rfl, h1, rfl, he⟩
   | cons _ _ => cases h4
  ·rintro x xs U' zs' ⟨h1, h2, r, h3, h4, h5⟩
   cases r with
   | nil => cases h4
   | cons c r => cases h4; rfl
  ·rintro it' x xs U' zs' ⟨h1, h2, r, h3, h4, rfl⟩
   cases r with
   | nil => cases h4
   | cons c r =>
    cases h4
    have hh : (up sCv (.bytes c) U').lookup sH = some f.av := (look_ne).trans h2
    exact gx_yield (zs := r.map (fun c => (({ f with v := c } : Fld)).av) ++ (l.flatMap splF).map Fld.av) ok (fun cc hc e1 e2 e3 => ev_bin (ev_tup (evl_cons (ev_f0 hc.e hh) (evl_cons (ev_local hc.e look_up) evl_nil)) (by simp)) (ev_f2 hc.e hh) (t_add (xSum ..) (by simp))) (Fld.nl { f with v := c }) (h1.up rfl) .nil ⟨rfl, h1.up rfl, hh, r, fun c hc => h3 c (mC _ hc), rfl, rfl⟩
 ·have hz : zz = f.av :: (l.flatMap splF).map Fld.av := by
   show ((splF f) ++ l.flatMap splF).map Fld.av = _
   rw [show splF f = [f] from if_neg (by rw [hb]; exact fT)]; rfl
  rw [hz]
  exact gx_yield (zs := (l.flatMap splF).map Fld.av) ok (fun c hc h1 h2 h3 => ev_local hc.e look_up) f.nl (hY.up f.okY) .nil ⟨rfl, hY.up f.okY, rfl, he⟩
noncomputable def joinC (cs : List (List UInt8)) : List UInt8 := (PySem.Builtin.Bytes.joined ⟨bSep⟩ (cs.map fun b => ⟨b⟩)).toList
noncomputable def outK (e : Bool) : List (List UInt8) -> List Fld -> List AV
 | cs, [] => if e then [] else if cs.isEmpty then [] else [Fld.av ⟨nCookie, joinC cs, some true⟩]
 | cs, f :: l => if f.n == nCookie then outK e (cs ++ [f.v]) l else f.av :: outK e cs l
noncomputable def relK (cs : List (List UInt8)) (k : Nat) (U : Env1) : Prop := OkY U /\ U.lookup sCk = some (.own (cs.map .bytes)) /\ Sole sCk U /\ cs.length + k <= 200 /\ ∀ c ∈ cs, c.length <= 1000
theorem own_okY (cs : List (List UInt8)) : (AV.own (cs.map .bytes)).okY = true := by
 show AV.nl.nlL _ = true
 induction cs with
 | nil => rfl
 | cons c cs ih => exact ih
theorem sum_len {cs : List (List UInt8)} (h : ∀ c ∈ cs, c.length <= 1000) : (cs.map List.length).sum <= 1000 * cs.length := by
 induction cs with
 | nil => simp
 | cons c cs ih =>
  have h1 := h c (List.mem_cons_self ..)
  have h2 := ih fun c hc => h c (mC _ hc)
  simp only [List.map_cons, List.sum_cons, List.length_cons]; lia
theorem c_joinC {C : Cx} {A : Around} {cs : List (List UInt8)} (hne : cs ≠ []) (h : ∀ c ∈ cs, c.length <= 1000) (hl : cs.length <= 200) : CB C A (.builtin "bytes.join") [.bytes bSep, .own (cs.map .bytes)] (.bytes (joinC cs)) :=
 c_join_own hne (by have hs := sum_len h; rw [foldl_len]; simp [bSep]; omega)
theorem ev_join {c : Ac} (hc : c.Ok) {U : Env1} {p1 p2 p3 p4 : Pos} {k : Nat} {x : Str} {d : List UInt8} {xs : List AV} (h1 : EV c [] U (.Name x p3) (.own xs)) (h : CB c.C c.A (.builtin "bytes.join") [.bytes bSep, .own xs] (.bytes d)) (hl : (p2.endLine == p4.line) = true := by rfl) : EV c [] U
  (.Call (.Attribute (.Constant (.bytes [59, 32]) k p1) (ofString "join") p2) [.Name x p3] [] p4) (.bytes d) := by
 have s := B.slot_join
 have t := B.type_join
 have hb : EV c [] U (.Constant (.bytes [59, 32]) k p1) (.bytes bSep) := ev_bytes
 have he : EVA c [] U [Expr.Name x p3] [.own xs] := eva_cons h1 eva_nil
 exact ev_meth (name := ofString "join") (id := "bytes.join") hb he s t h rfl rfl rfl rfl hl
theorem pf_combine {C : Cx} (T : Tp C) {fv : AV} (hfv : fv.nl = true) (l0 : List Fld) (hB : ∀ f ∈ l0, small 1000 f) (hl : l0.length <= 200) (e : Bool) : PF C 2 2 (.ref 303) [fv] (l0.map Fld.av) e (outK e [] l0) e := by
 refine E12 (T.fn (303, 32) (by decide)) fun fd F _ => ?_
 refine pf_gen2 (m := 0) T F hfv (by decide +kernel) rfl rfl fun n K v env hsc hcells ok => ?_
 have kd : ∀ {c : Ac}, c.env = env -> ∀ {x : Str} {k : NameKind} (_ : (dScope (stA 32)).names.lookup x = some k := by decide +kernel), c.env.kindOf x = some k := fun h2 _ _ h => h2 ▸ kindA F hsc h
 let U0 : Env1 := [(sFl, fv), (ofString "headers", .raw v)]
 let src : List Src := [⟨false, v, l0.map Fld.av, e⟩]
 let out := outK e [] l0
 let g : Gk := ⟨C, n + 0, e, K, .ret .none, env⟩
 show GX g [] U0 src _ out _
 have plain : ∀ {U U' : Env1} {its : List Src} {zs : List AV} {st : Stmt} {sts : List Stmt} {Kc}, (∀ c : Ac, c.Ok -> c.C = C -> c.env = env -> c.n = n + 0 -> S1 c [] U st (· = U') (fun _ => False) False) -> GX g [] U' its sts zs Kc -> GX g [] U its (st :: sts) zs Kc := fun {U U' its zs _ _ _} h k =>
  gx_cons (K1 := fun U its' zs' => U = _ /\ its' = its /\ zs' = zs) (g1_plain h (fun U' e => ⟨e, rfl, rfl⟩) (fun z => z.elim)) (by rintro _ _ _ ⟨rfl, rfl, rfl⟩; exact k)
 refine plain (U := U0) (fun c hc h1 h2 h3 => s_doc hc) ?_
 refine plain (fun c hc h1 h2 h3 => s_own hc evl_nil (by simp) (kd h2)) ?_
 have hN0 : NlE U0 := .cons hfv (.cons rfl .nil)
 refine gx_cons (K1 := fun U its zs => ∃ cs, relK cs 0 U /\ zs = outK e cs [] /\ e = false) (g1_fields (σ := List (List UInt8)) (outK e) (fun _ _ => e) (fun cs l U => relK cs l.length U) (small 1000) (st := []) ok (fun c hc h1 h2 h3 => ev_local hc.e rfl) (kindA F hsc (by decide +kernel)) ⟨hN0.okY.up rfl, look_up, hN0.sole.self, by simpa using hl, fun _ h => by cases h⟩ hB rfl rfl (fun cs U h he hr => ⟨cs, h, rfl, he⟩) (fun cs he => ⟨by simp [outK, he], he⟩) ?_) ?_
 ·intro it cs f l U hR hf _ her
  refine E05 hR ?_; clear hR; intro k0 k1 k2 k3 k4
  simp only [List.length_cons] at k3
  have hck : (up sH f.av U).lookup sCk = some (.own (cs.map .bytes)) := (look_ne).trans k1
  refine gx_cons (g1_if (b := f.n == nCookie) (fun c hc h1 h2 h3 => et_cmp (ev_f0 hc.e look_up) ev_bytes b_eq) (fun hb => ?_) fun hb => ?_) fun _ _ _ h => gx_nil h
  ·rw [show outK e cs (f :: l) = outK e (cs ++ [f.v]) l from if_pos hb]
   refine plain (fun c hc h1 h2 h3 => s_append hc hck (k2.up (AV.nl_pl f.nl)) plk_nil (ev_f1 hc.e look_up) rfl (by simp; lia)) (gx_nil ?_)
   have e1 : cs.map AV.bytes ++ [.bytes f.v] = (cs ++ [f.v]).map .bytes := by simp
   rw [e1]
   exact ⟨rfl, cs ++ [f.v], ⟨(k0.up f.okY).up (own_okY _), look_up, (k2.up (AV.nl_pl f.nl)).self, by simp; lia, fun c hc => by
    rcases List.mem_append.mp hc with hc | hc
    ·exact k4 c hc
    ·rw [List.mem_singleton.mp hc]; exact hf.2⟩, rfl, rfl⟩
  ·rw [show outK e cs (f :: l) = f.av :: outK e cs l from if_neg (by rw [hb]; exact fT)]
   exact gx_yield (zs := outK e cs l) ok (fun c hc h1 h2 h3 => ev_local hc.e look_up) f.nl (k0.up f.okY) .nil ⟨rfl, cs, ⟨k0.up f.okY, hck, k2.up (AV.nl_pl f.nl), by lia, k4⟩, rfl, rfl⟩
 ·rintro U its zs ⟨cs, ⟨k0, k1, k2, k3, k4⟩, rfl, he⟩
  refine gx_cons (K1 := fun _ _ zs => zs = [] /\ e = false) (g1_if (b := !(cs.map AV.bytes).isEmpty) (fun c hc h1 h2 h3 => et_val (ev_local hc.e k1) (opt_own (by simp; lia))) (fun hb => ?_) fun hb => gx_nil ⟨?_, he⟩) fun _ _ _ h => gx_nil h
  ·have hne : cs ≠ [] := fun h => by rw [h] at hb; cases hb
   have hz : outK e cs [] = [Fld.av ⟨nCookie, joinC cs, some true⟩] := by
    unfold outK; rw [he]; simp [hne]
   rw [hz]
   have hs := sum_len k4
   refine plain (fun c hc h1 h2 h3 => s_assign hc (ev_join hc (ev_local hc.e k1) (c_joinC hne k4 (by omega))) (kd h2)) ?_
   exact gx_yield (zs := []) ok (fun c hc h1 h2 h3 => ev_tup (evl_cons ev_bytes (evl_cons (ev_local hc.e look_up) (evl_cons ev_bool evl_nil))) (by simp [xL])) (Fld.nl ⟨nCookie, joinC cs, some true⟩) (k0.up rfl) .nil ⟨rfl, he⟩
  ·unfold outK
   have : cs = [] := by simpa using hb
   subst this
   cases e <;> rfl
noncomputable abbrev sHs : Str := ofString "headers"
noncomputable abbrev sSk : Str := ofString "skip_validation"
theorem px_sub {c : Ac} {Z U U' : Value -> Env1} {n n' : Nat} {err err' : Bool} {xs zs : List AV} {sts : List Stmt} (h : ∀ w x av, (U' w).lookup x = some av -> (U w).lookup x = some av) (k : PX c Z U' n xs err sts n' zs err') : PX c Z U n xs err sts n' zs err' := fun q v K O OG s P Q E hQ =>
 k q v K O OG s ⟨P.S.sub (h v) fun _ _ e => e, P.I, P.hO, P.hK⟩ Q E hQ
theorem rh_look {x : Str} {v : Value} {U : Env1} : (rh x U v).lookup x = some (.raw v) := look_up
theorem rh_ne {x y : Str} {v : Value} {U : Env1} (h : (y == x) = false) : (rh x U v).lookup y = U.lookup y := look_ne h
theorem two_sub {fv : AV} : ∀ (v : Value) (x : Str) (av : AV), (up sHs (.raw v) [(sFl, fv)]).lookup x = some av -> (twoP.zip (.raw v :: [fv])).reverse.lookup x = some av := fun v x av h => by
 have e : up sHs (.raw v) [(sFl, fv)] = [(sFl, fv), (sHs, .raw v)] := by
  unfold up
  rw [if_neg (by decide +kernel)]; rfl
 rw [e] at h; exact h
theorem pf_of2 {C : Cx} {a : Addr} {i : Nat} {fd : FuncData} (T : Tp C) (F : FnD C a (stA i) fd) {fv : AV} (hfv : fv.nl = true) (hg : (dScope (stA i)).isGenerator = false) (hcell : ∀ x ∈ (dScope (stA i)).names, x.2 ≠ .cell) (hl1 : (dScope (stA i)).names.lookup sHs = some .local) (hl2 : (dScope (stA i)).names.lookup sFl = some .local)
  {p1 p2 : Pos} (hp : dArgs (stA i) = ⟨[], [⟨sHs, none, p1⟩, ⟨sFl, none, p2⟩], none, [], [], none, []⟩) {zs xs : List AV} {err err' : Bool} {m k : Nat} {body : List Stmt} (hbody : dBody (stA i) = body)
  (H : ∀ n (c : Ac), c.Ok -> c.C = C -> c.n = n + m -> c.env.scope = fd.scope -> c.env.code = fd.code -> PX c k0 (rh sHs [(sFl, fv)]) n xs err body (n + k) zs err') : PF C (m + 1) k (.ref a) [fv] xs err zs err' :=
 pf_of T.ok (hbody ▸ F.at') (by rw [F.sc]; exact hg) (by rw [F.sc]; exact hcell) (bindW (bind2 (F.pa.trans hp) F.df)) rfl (by
  rw [F.sc]; intro x hx; rcases List.mem_cons.mp hx with rfl | hx
  ·exact hl1
  ·rcases List.mem_cons.mp hx with rfl | hx
   ·exact hl2
   ·cases hx) (by simpa [nlL] using hfv) two_sub H
noncomputable def outHs (b : Bool) (l : List Fld) : List AV := if b then l.map Fld.av else outH ⟨none, none⟩ l
noncomputable def erHs (b e : Bool) (l : List Fld) : Bool := if b then e else erH e ⟨none, none⟩ l
theorem flds_nl (l : List Fld) : nlL (l.map Fld.av) := fun x hx => by
 refine E12 (List.mem_map.mp hx) ?_; rintro f _ rfl
 exact f.nl
theorem skip_val {c : Ac} {C : Cx} {Z U : Env1} (hc : c.EOk) (h1 : c.C = C) (T : Tp C) (hn : 2 <= c.n) {p1 p2 p3 p4 p : Pos} {a tr rs d : Bool} (hl : U.lookup sFl = some (.flags a tr rs d)) : EV c Z U (.BoolOp .Or [.Attribute (.Name sFl p1) (ofString "is_response_header") p2, .Attribute (.Name sFl p3) (ofString "is_trailer") p4] p) (.bool (rs || tr)) :=
 ev_boolop (evb_or (ev_response hc h1 T hn hl (by decide +kernel)) fun _ => evb_one (ev_trailer hc h1 T hn hl (by decide +kernel)))
theorem pf_chost {C : Cx} (T : Tp C) {a tr rs d : Bool} (l : List Fld) (hB : ∀ f ∈ l, small 1000 f) (e : Bool) : PF C 3 2 (.ref 261) [.flags a tr rs d] (l.map Fld.av) e (outHs (rs || tr) l) (erHs (rs || tr) e l) := by
 refine E14 (T.fn (261, 26) (by decide)) fun fd F _ _ hcd => ?_
 refine E12 (T.fn (254, 25) (by decide)) fun fd' F' _ => ?_
 refine E12 F'.at'.ho fun o' ho' hd' => ?_
 refine pf_of2 (m := 2) (k := 2) T F rfl (by decide +kernel) (by decide +kernel) (by decide +kernel) (by decide +kernel) rfl rfl fun n c hc h1 h2 h3 h4 => ?_
 have kd : ∀ {x : Str} {k : NameKind} (_ : (dScope (stA 26)).names.lookup x = some k := by decide +kernel), c.env.kindOf x = some k := fun h => kindC F h3 h
 have hfl : ∀ w, (rh sHs [(sFl, .flags a tr rs d)] w).lookup sFl = some (.flags a tr rs d) := fun w => (rh_ne (by decide +kernel)).trans rfl
 refine px_plain hc (U₁ := rh sHs [(sFl, .flags a tr rs d)]) (fun w => s_doc hc) ?_
 refine px_plain hc (U₁ := fun w => up sSk (.bool (rs || tr)) (rh sHs [(sFl, .flags a tr rs d)] w)) (fun w => s_assign hc (skip_val hc.e h1 T (by lia) (hfl w)) kd) ?_
 refine px_if hc (b := rs || tr) (fun w => et_val (ev_local hc.e look_up) opt_bool) (fun hb => ?_) fun hb => ?_
 ·rw [show outHs (rs || tr) l = l.map Fld.av from if_pos hb, show erHs (rs || tr) e l = e from if_pos hb]
  subst h1
  refine px_genexp hc (p := (260, 256)) T.tabs.2.1 (h4.trans hcd) (by rw [T.ip]; decide +kernel) rfl (by unfold closureFor; rfl) (by decide +kernel) (by decide +kernel) (by decide +kernel) (by decide +kernel) rfl (fun w => ev_local hc.e ((look_ne).trans rh_look)) (flds_nl l) (by lia)
 ·rw [show outHs (rs || tr) l = outH ⟨none, none⟩ l from if_neg (by rw [hb]; exact fT), show erHs (rs || tr) e l = erH e ⟨none, none⟩ l from if_neg (by rw [hb]; exact fT)]
  subst h1
  refine px_sub (U' := rh sHs []) (fun w x av h => ?_) (px_return hc (fun h B => B.old _ _ ho' F'.at'.at') hd' (fun w => ev_fn hc.e rfl T 254 25 (by decide) rfl kd (by decide +kernel)) kd (by decide +kernel) (fun w => eva_nil) (by simp [nlL]) (pf_host T l hB e) (by lia))
  refine E02 (look1 h) ?_; rintro rfl rfl
  exact (look_ne).trans rh_look
theorem pf_csent {C : Cx} (T : Tp C) {a tr rs d : Bool} (l : List Fld) (hB : ∀ f ∈ l, small 1000 f) (e : Bool) : PF C 3 2 (.ref 296) [.flags a tr rs d] (l.map Fld.av) e (outHs (rs || tr) l) (erHs (rs || tr) e l) := by
 refine E14 (T.fn (296, 31) (by decide)) fun fd F _ _ hcd => ?_
 refine E12 (T.fn (254, 25) (by decide)) fun fd' F' _ => ?_
 refine E12 F'.at'.ho fun o' ho' hd' => ?_
 refine pf_of2 (m := 2) (k := 2) T F rfl (by decide +kernel) (by decide +kernel) (by decide +kernel) (by decide +kernel) rfl rfl fun n c hc h1 h2 h3 h4 => ?_
 have kd : ∀ {x : Str} {k : NameKind} (_ : (dScope (stA 31)).names.lookup x = some k := by decide +kernel), c.env.kindOf x = some k := fun h => kindC F h3 h
 have hfl : ∀ w, (rh sHs [(sFl, .flags a tr rs d)] w).lookup sFl = some (.flags a tr rs d) := fun w => (rh_ne (by decide +kernel)).trans rfl
 refine px_plain hc (U₁ := rh sHs [(sFl, .flags a tr rs d)]) (fun w => s_doc hc) ?_
 refine px_plain hc (U₁ := fun w => up sSk (.bool (rs || tr)) (rh sHs [(sFl, .flags a tr rs d)] w)) (fun w => s_assign hc (skip_val hc.e h1 T (by lia) (hfl w)) kd) ?_
 refine px_if hc (b := rs || tr) (fun w => et_val (ev_local hc.e look_up) opt_bool) (fun hb => ?_) fun hb => ?_
 ·rw [show outHs (rs || tr) l = l.map Fld.av from if_pos hb, show erHs (rs || tr) e l = e from if_pos hb]
  subst h1
  refine px_genexp hc (p := (295, 291)) T.tabs.2.2 (h4.trans hcd) (by rw [T.ip]; decide +kernel) rfl (by unfold closureFor; rfl) (by decide +kernel) (by decide +kernel) (by decide +kernel) (by decide +kernel) rfl (fun w => ev_local hc.e ((look_ne).trans rh_look)) (flds_nl l) (by lia)
 ·rw [show outHs (rs || tr) l = outH ⟨none, none⟩ l from if_neg (by rw [hb]; exact fT), show erHs (rs || tr) e l = erH e ⟨none, none⟩ l from if_neg (by rw [hb]; exact fT)]
  subst h1
  refine px_sub (U' := rh sHs []) (fun w x av h => ?_) (px_return hc (fun h B => B.old _ _ ho' F'.at'.at') hd' (fun w => ev_fn hc.e rfl T 254 25 (by decide) rfl kd (by decide +kernel)) kd (by decide +kernel) (fun w => eva_nil) (by simp [nlL]) (pf_host T l hB e) (by lia))
  refine E02 (look1 h) ?_; rintro rfl rfl
  exact (look_ne).trans rh_look
noncomputable def badPath (f : Fld) : Bool := f.n == nPath && (!(!f.v.isEmpty) && true)
noncomputable def outPa (b : Bool) (l : List Fld) : List AV := if b then l.map Fld.av else outC badPath l
noncomputable def erPa (b e : Bool) (l : List Fld) : Bool := if b then e else erC badPath e l
noncomputable def stJ (i : Nat) : Stmt := ((dBody (stA 27))[i]?).getD (.Pass ⟨0, 0, 0, 0⟩)
theorem clo_in {env : Env} {a : Addr} (hc : env.cells = [(sHs, a)]) : closureFor (dScope innerSt) env = pure [(sHs, a)] := by
 have e : (dScope innerSt).names = [(ofString "header", .local), (ofString "msg", .local), (sHs, .free), (ofString "ProtocolError", .globalImplicit)] := rfl
 unfold closureFor
 simp [e, hc, cellOf, List.lookup]
theorem pf_cpath {C : Cx} (T : Tp C) {a tr rs d : Bool} (l : List Fld) (hB : ∀ f ∈ l, small 1000 f) (e : Bool) : PF C 3 2 (.ref 268) [.flags a tr rs d] (l.map Fld.av) e (outPa (rs || tr) l) (erPa (rs || tr) e l) := by
 refine E14 (T.fn (268, 27) (by decide)) fun fd F _ hqn hcd => ?_
 have hsc := F.sc
 have ip : C.ip = dPos innerSt := T.ip
 have hF : FnAt C 268 fd [stJ 0, .FunctionDef (dName innerSt) (dArgs innerSt) (dBody innerSt) [] none [] (dScope innerSt) none (dName innerSt) C.ip, stJ 2, stJ 3, stJ 4] := by rw [ip]; exact F.at'
 have hb2 := bind2 (fd := fd) (a := sHs) (b := sFl) F.pa F.df
 refine pf_path (hn := sHs) (fln := sFl) (iname := ofString "inner") (sk := sSk) (x := ofString "h") (b := rs || tr) (p := (267, 263)) (iscope := dScope innerSt) (iparams := dArgs innerSt) (ibody := dBody innerSt) (pre := []) (post := (dScope (stA 27)).names.tail) T.ok hF (by rw [hsc]; decide +kernel) T.tabs.1 hcd
  (by rw [hsc]; rfl) (by simp) (by decide +kernel) (by rw [hsc]; decide +kernel) (by rw [hsc]; decide +kernel) (by rw [hsc]; decide +kernel) (by rw [hsc]; decide +kernel) F.cl (fun v u => hb2 [v, u] rfl) rfl (by rw [hqn, T.iq]; rfl) rfl rfl (fun _ => rfl) rfl rfl rfl rfl (by decide +kernel) (by decide +kernel) (fun env a0 h => clo_in h) (fun q cl doc pm an cv ct => rfl) (by rw [ip]; decide +kernel) rfl (by decide +kernel) (by decide +kernel) (by decide +kernel) (by decide +kernel) (by decide +kernel) rfl (by decide +kernel) (by decide +kernel) (by decide +kernel) (by decide +kernel) (by decide +kernel) (by decide +kernel) (fun _ => rfl) (fun c hc h1 h2 hn Z U h => skip_val hc.e h1 T hn h) (flds_nl l) (fun hb => ⟨if_pos hb, if_pos hb⟩) fun hb n K v a0 env hs hcells ok => ?_
 have kd : ∀ {c : Ac}, c.env = env -> ∀ {x : Str} {k : NameKind} (_ : (dScope innerSt).names.lookup x = some k := by decide +kernel), c.env.kindOf x = some k := fun h2 x k h => by rw [h2]; show env.scope.names.lookup x = _; rw [hs]; exact h
 have ho : outPa (rs || tr) l = outC badPath l := if_neg (by rw [hb]; exact fT)
 have he : erPa (rs || tr) e l = erC badPath e l := if_neg (by rw [hb]; exact fT)
 rw [ho]
 rw [he] at ok ⊢
 have hB0 := hB
 refine gx_cons (K1 := fun _ _ zs => zs = [] /\ erC badPath e l = false) (g1_fields (σ := Unit) (fun _ => outC badPath) (fun _ => erC badPath e) (fun _ _ U => OkY U) (small 1000) (st := ()) ok (fun c hc h1 h2 h3 => ev_cell hc.e rfl (by decide +kernel)) (by show env.scope.names.lookup _ = _; rw [hs]; decide +kernel) .nil hB rfl rfl (fun _ U _ he hr => ⟨rfl, hr.trans he⟩) (fun _ he => ⟨rfl, he⟩) ?_) fun _ _ _ h => gx_nil h
 intro it _ f l' U hY hf _ her
 refine gx_cons (K1 := fun U' its' zs' => U' = up sH f.av U /\ its' = [⟨true, it, l'.map Fld.av, e⟩] /\ zs' = outC badPath (f :: l') /\ badPath f = false) (g1_if (b := badPath f) (fun c hc h1 h2 h3 => et_bool (all_and (et_cmp (ev_f0 hc.e look_up) ev_bytes b_eq) fun _ => all_and (et_not (et_val (ev_f1 hc.e look_up) (opt_bytes (by have := hf.2; lia)))) fun _ => all_and_nil)) (fun hb => ?_) fun hb => gx_nil ⟨rfl, rfl, rfl, hb⟩) ?_
 ·refine gx_raises (fun c hc h1 h2 h3 => sx_raise hc h1 T (ev_str (by decide +kernel)) (kd h2) (kd h2) (by decide +kernel)) ?_ ?_
  ·show (if badPath f then [] else _) = _; rw [if_pos hb]
  ·rw [her]; show (if badPath f then true else _) = _; rw [if_pos hb]
 ·rintro U' its' zs' ⟨rfl, rfl, rfl, hb⟩
  have e1 : outC badPath (f :: l') = f.av :: outC badPath l' := if_neg (by simp [hb])
  have e2 : erC badPath e (f :: l') = erC badPath e l' := if_neg (by simp [hb])
  rw [e1]
  exact gx_yield (zs := outC badPath l') ok (fun c hc h1 h2 h3 => ev_local hc.e look_up) f.nl (hY.up f.okY) (.cons rfl .nil) ⟨rfl, (), hY.up f.okY, rfl, her.trans e2⟩
noncomputable def P1 (c : Ac) (hn : Str) (U : Env1) (n : Nat) (xs : List AV) (err : Bool) (st : Stmt) (n' : Nat) (zs : List AV) (err' : Bool) : Prop :=
 ∀ q v K O OG s, PS c q k0 (rh hn U) v n err K xs O OG s -> ∀ (Q : Flow -> Shared -> Prop) (E : VP),
  (∀ q' v' s' O' OG', Agree s.heap q q' -> Ev c.C (Wq c q) No s s' -> (∀ b, O' b -> O b \/ Nw s b) -> (∀ i, OG' i -> OG i \/ s.gens.size <= i) -> PS c q' k0 (rh hn U) v' n' err' K zs O' OG' s' -> Q .next s') ->
  wpAny (model c.C.prog c.C.w) c.A (exec st c.env) Q E s
section
variable {c : Ac} {U : Env1} {hn : Str} {n n' nB : Nat} {err err' err1 : Bool} {xs zs zs1 : List AV}
theorem px_cons1 {st : Stmt} {sts : List Stmt} (h : P1 c hn U n xs err st nB zs1 err1) (kx : PX c k0 (rh hn U) nB zs1 err1 sts n' zs err') : PX c k0 (rh hn U) n xs err (st :: sts) n' zs err' := fun q v K O OG s P Q E hQ =>
 wpAny_execs_cons (h q v K O OG s P _ E fun q' v' s1 O1 OG1 ag ew h1 h2 PB => kx q' v' K O1 OG1 s1 PB Q E fun b s2 O' OG' ev g1 g2 g3 g4 g5 => hQ b s2 O' OG' (ew.wq ag ev) (fun y hy => (g1 y hy).elim (h1 y) fun z => .inr (ew.gone z)) (fun i hi => (g2 i hi).elim (h2 i) fun z => .inr (Nat.le_trans ew.gz z)) g3 g4 g5)
theorem p1_if {st : Stmt} {t : Expr} {p : Pos} {b : Bool} (ht : ∀ w, ET c (k0 w) (rh hn U w) t b) (h1 : b = true -> P1 c hn U n xs err st n' zs err') (h2 : b = false -> n' = n /\ zs = xs /\ err' = err) : P1 c hn U n xs err (.If t [st] [] p) n' zs err' := fun q v K O OG s P Q E hQ =>
 wpAny_If (ht v q s P.S fun s1 ew => by
  have PB : PS c q k0 (rh hn U) v n err K xs O OG s1 := ⟨P.S.ev ew, P.I.ev ew .no, P.hO, P.hK⟩
  cases b with
  | true => exact wpAny_execs_cons (h1 rfl q v K O OG s1 PB _ E fun q' v' s2 O' OG' ag e g1 g2 P2 => wpAny_execs_nil (hQ q' v' s2 O' OG' (fun b o ho => let ⟨o', ho', _⟩ := ew.al b o ho; ag b o' ho') (ew.up.tr e) (fun y hy => (g1 y hy).imp id fun z => ew.gone z) (fun i hi => (g2 i hi).imp id fun z => Nat.le_trans ew.gz z) P2))
  | false =>
   refine E03 (h2 rfl) ?_; rintro rfl rfl rfl
   exact wpAny_execs_nil (hQ q v s1 O OG (fun b o ho => rfl) ew.up (fun _ h => .inl h) (fun _ h => .inl h) PB))
theorem p1_assign (hc : c.Ok) {f : Expr} {hp p p' ps : Pos} {rest : List Expr} {fa : Addr} {ob : Obj} {fd : FuncData} {avs : List AV} {m k : Nat} (hob : ∀ h, Base c.C h -> h.get? fa = some ob) (hfd : ob.data = .func fd)
  (hf : ∀ w, EV c (k0 w) (rh hn U w) f (.raw (.ref fa))) (hk : c.env.kindOf hn = some .local) (hdbg : (hn == ("__debug__" : Str)) = false) (ha : ∀ w, EVA c (k0 w) (rh hn U w) rest avs) (hnl : nlL avs) (hPF : PF c.C m k (.ref fa) avs xs err zs err') (hm : n + m <= c.n)
  (he : starEach (.Name hn hp :: rest) c.env = (false, eval (.Name hn hp) c.env) :: starEach rest c.env := by rfl)
  (hcall : eval (.Call f (.Name hn hp :: rest) [] p) c.env = (do callWith p (<- eval f c.env) [] (backTo p (starEach (.Name hn hp :: rest) c.env)) (backToKw p (keywordEach [] c.env))) := by rfl)
  (hs : swapsWith (.Call f (.Name hn hp :: rest) [] p) (some (.Name hn p')) ps.line c.env = pure false := by rfl) :
  P1 c hn U n xs err (.Assign [.Name hn p'] (.Call f (.Name hn hp :: rest) [] p) ps) (n + k) zs err' := fun q v K O OG s P Q E hQ => by
 refine wpAny_Assign_Name (px_call hc hob hfd (fun w => up_self) hf hk hdbg ha hnl hPF hm he hcall q v K O OG s P _ _ fun a s1 O1 OG1 ew h1 h2 h3 hI hig => ?_) hs
 have SB := P.S.ev ew
 have ag : Agree s.heap q (recol O1 2 q) := fun b o ho => by
  by_cases z : O1 b
  ·rw [recol_in z]
   rcases h1 b z with y | y
   ·exact (P.hO b y).symm
   ·have y' : s.heap.get? b = none := y; rw [ho] at y'; cases y'
  ·exact recol_out z
 have S2 : St c (recol O1 2 q) [] (up hn (.raw v) U) s1 := P.S.step (R := fun _ => True) ew .no (fun _ _ => trivial) ag fun b hb => by
  rcases recol_ne hb with z | z
  ·exact hI.1.o b z
  ·exact SB.col b z
 have hO2 : ∀ b, O1 b -> recol O1 2 q b = 2 := fun b h => recol_in h
 have hK2 : ∀ b, K b -> recol O1 2 q b = 0 := fun b h => by rw [recol_out (h3 b h)]; exact P.hK b h
 refine S2.store hc hk (av := .raw (.ref a)) (.of_rep (by rw [Rep])) (fun z => by cases z) fun s2 eD S3 => ?_
 have e2' : Ev c.C (Wq c (recol O1 2 q)) No s1 s2 := eD.loc S2
 have P2 : PS c (recol O1 2 q) k0 (rh hn U) (.ref a) (n + k) err' K zs O1 OG1 s2 := ⟨S3.sub (fun x av h => up_over x av h) fun _ _ h => h, hI.ev e2' (pAp hc S2 hI.1 hO2 hK2), hO2, hK2⟩
 exact hQ _ _ s2 O1 OG1 ag (ew.up.wq ag e2') h1 (fun i hi => h2 i hi) P2
end
theorem outC_map (bad : Fld -> Bool) : ∀ l, outC bad l = (l.takeWhile fun f => !bad f).map Fld.av
 | [] => rfl
 | f :: l => by
  unfold outC
  cases h : bad f with
  | true => simp [List.takeWhile, h]
  | false => simp [List.takeWhile, h, outC_map bad l]
noncomputable def tkP : PSt -> List Fld -> List Fld
 | _, [] => []
 | st, f :: l => if st.bad f then [] else f :: tkP (st.next f) l
theorem outP_map : ∀ l st, outP st l = (tkP st l).map Fld.av
 | [], _ => rfl
 | f :: l, st => by
  unfold outP tkP
  cases h : st.bad f with
  | true => simp
  | false => simp [outP_map l]
noncomputable def tkH : HSt -> List Fld -> List Fld
 | _, [] => []
 | st, f :: l => if st.bad f then [] else f :: tkH (st.next f) l
theorem outH_map : ∀ l st, outH st l = (tkH st l).map Fld.av
 | [], _ => rfl
 | f :: l, st => by
  unfold outH tkH
  cases h : st.bad f with
  | true => simp
  | false => simp [outH_map l]
noncomputable def tkHs (b : Bool) (l : List Fld) : List Fld := if b then l else tkH ⟨none, none⟩ l
theorem outHs_map (b : Bool) (l : List Fld) : outHs b l = (tkHs b l).map Fld.av := by
 unfold outHs tkHs; cases b <;> simp [outH_map]
noncomputable def tkPa (b : Bool) (l : List Fld) : List Fld := if b then l else l.takeWhile fun f => !badPath f
theorem outPa_map (b : Bool) (l : List Fld) : outPa b l = (tkPa b l).map Fld.av := by
 unfold outPa tkPa; cases b <;> simp [outC_map]
noncomputable def cmb (e : Bool) : List (List UInt8) -> List Fld -> List Fld
 | cs, [] => if e then [] else if cs.isEmpty then [] else [⟨nCookie, joinC cs, some true⟩]
 | cs, f :: l => if f.n == nCookie then cmb e (cs ++ [f.v]) l else f :: cmb e cs l
theorem outK_map (e : Bool) : ∀ l cs, outK e cs l = (cmb e cs l).map Fld.av
 | [], cs => by unfold outK cmb; cases e <;> cases cs <;> rfl
 | f :: l, cs => by
  unfold outK cmb
  cases h : f.n == nCookie with
  | true => simp [outK_map e l]
  | false => simp [outK_map e l]
theorem tkP_sub : ∀ l st, ∀ f ∈ tkP st l, f ∈ l
 | [], _, f, h => h
 | g :: l, st, f, h => by
  unfold tkP at h
  split at h
  ·cases h
  ·rcases List.mem_cons.mp h with rfl | h
   ·exact List.mem_cons_self ..
   ·exact mC _ (tkP_sub l _ f h)
theorem tkH_sub : ∀ l st, ∀ f ∈ tkH st l, f ∈ l
 | [], _, f, h => h
 | g :: l, st, f, h => by
  unfold tkH at h
  split at h
  ·cases h
  ·rcases List.mem_cons.mp h with rfl | h
   ·exact List.mem_cons_self ..
   ·exact mC _ (tkH_sub l _ f h)
theorem tkHs_sub {b : Bool} {l : List Fld} : ∀ f ∈ tkHs b l, f ∈ l := fun f h => by
 unfold tkHs at h
 cases b with
 | true => exact h
 | false => exact tkH_sub l _ f h
theorem tw_sub {p : Fld -> Bool} {l : List Fld} : ∀ f ∈ l.takeWhile p, f ∈ l := fun f h => (List.takeWhile_prefix p).sublist.subset h
theorem tw_len {p : Fld -> Bool} {l : List Fld} : (l.takeWhile p).length <= l.length := (List.takeWhile_prefix p).sublist.length_le
section
variable {C : Cx} {c : Ac} {U : Env1} {n n' m k : Nat} {xs zs : List AV} {err err' : Bool} {fv : AV}
theorem p1_pipe (T : Tp C) (hc : c.Ok) (h1 : c.C = C) (a : Addr) (i : Nat) (h : (a, i) ∈ fnTab) {x : Str} (hx : dName (stA i) = x) {np hp fp p p' ps : Pos} (kx : c.env.kindOf x = some .globalImplicit) (kh : c.env.kindOf sHs = some .local) (hfl : U.lookup sFl = some fv) (hfv : fv.nl = true) (hPF : PF C m k (.ref a) [fv] xs err zs err') (hm : n + m <= c.n) (hd : (x == ("__debug__" : Str)) = false)
  (hs : swapsWith (.Call (.Name x np) [.Name sHs hp, .Name sFl fp] [] p) (some (.Name sHs p')) ps.line c.env = pure false := by rfl) :
  P1 c sHs U n xs err (.Assign [.Name sHs p'] (.Call (.Name x np) [.Name sHs hp, .Name sFl fp] [] p) ps) (n + k) zs err' := by
 refine E12 (T.fn (a, i) h) fun fd F _ => ?_
 refine E12 F.at'.ho fun o ho hd' => ?_
 subst h1
 exact p1_assign hc (fun h B => B.old _ _ ho F.at'.at') hd' (fun w => ev_fn hc.e rfl T a i h hx kx hd) kh (by decide +kernel) (fun w => eva_cons (ev_local hc.e ((rh_ne (by decide +kernel)).trans hfl)) eva_nil) (by simpa [nlL] using hfv) hPF hm rfl rfl hs
theorem px_pipe (T : Tp C) (hc : c.Ok) (h1 : c.C = C) (a : Addr) (i : Nat) (h : (a, i) ∈ fnTab) {x : Str} (hx : dName (stA i) = x) {np hp fp p ps : Pos} {sts : List Stmt} (kx : c.env.kindOf x = some .globalImplicit) (kh : c.env.kindOf sHs = some .local) (hfl : U.lookup sFl = some fv) (hfv : fv.nl = true) (hPF : PF C m k (.ref a) [fv] xs err zs err') (hm : n + m <= c.n) (hd : (x == ("__debug__" : Str)) = false) :
  PX c k0 (rh sHs U) n xs err (.Return (some (.Call (.Name x np) [.Name sHs hp, .Name sFl fp] [] p)) ps :: sts) (n + k) zs err' := by
 refine E12 (T.fn (a, i) h) fun fd F _ => ?_
 refine E12 F.at'.ho fun o ho hd' => ?_
 subst h1
 exact px_return hc (fun h B => B.old _ _ ho F.at'.at') hd' (fun w => ev_fn hc.e rfl T a i h hx kx hd) kh (by decide +kernel) (fun w => eva_cons (ev_local hc.e ((rh_ne (by decide +kernel)).trans hfl)) eva_nil) (by simpa [nlL] using hfv) hPF hm
end
noncomputable abbrev LE := List Fld × Bool
noncomputable def sC (bad : Fld -> Bool) (s : LE) : LE := (s.1.takeWhile fun f => !bad f, erC bad s.2 s.1)
noncomputable def sP (tr rs : Bool) (s : LE) : LE := (tkP ⟨[], false, none⟩ s.1, erP tr rs s.2 ⟨[], false, none⟩ s.1)
noncomputable def sH' (b : Bool) (s : LE) : LE := (tkHs b s.1, erHs b s.2 s.1)
noncomputable def sPa (b : Bool) (s : LE) : LE := (tkPa b s.1, erPa b s.2 s.1)
noncomputable def ST (C : Cx) (m k : Nat) (a : Addr) (fv : AV) (B : Fld -> Prop) (l : Nat) (g : LE -> LE) : Prop := ∀ s : LE, (∀ f ∈ s.1, B f) -> s.1.length <= l -> PF C m k (.ref a) [fv] (s.1.map Fld.av) s.2 ((g s).1.map Fld.av) (g s).2
theorem tkP_len : ∀ l st, (tkP st l).length <= l.length
 | [], _ => Nat.le_refl _
 | g :: l, st => by
  unfold tkP
  split
  ·simp
  ·simp only [List.length_cons]; have := tkP_len l (st.next g); lia
section
variable {C : Cx} (T : Tp C) {a tr rs d : Bool}
include T
theorem st_ill {fv : AV} (hfv : fv.nl = true) : ST C 2 2 207 fv named 200 (sC badIll) := fun s h _ => by
 have := pf_ill T hfv s.1 (fun f hf => (h f hf).1) s.2; rw [outC_map] at this; exact this
theorem st_emp {fv : AV} (hfv : fv.nl = true) : ST C 2 2 214 fv named 200 (sC badEmp) := fun s h _ => by
 have := pf_emp T hfv s.1 (fun f hf => (h f hf).1) s.2; rw [outC_map] at this; exact this
theorem st_te {fv : AV} (hfv : fv.nl = true) : ST C 2 2 221 fv named 200 (sC badTe) := fun s h _ => by
 have := pf_te T hfv s.1 (fun f hf => (h f hf).1) s.2; rw [outC_map] at this; exact this
theorem st_rconn {fv : AV} (hfv : fv.nl = true) : ST C 2 2 228 fv named 200 (sC badHop) := fun s h _ => by
 have := pf_rconn T hfv s.1 (fun f hf => (h f hf).1) s.2; rw [outC_map] at this; exact this
theorem st_pseudo : ST C 5 5 242 (.flags a tr rs d) named 200 (sP tr rs) := fun s h hl => by
 have := pf_pseudo T (a := a) (tr := tr) (rs := rs) (d := d) s.1 h hl s.2; rw [outP_map] at this; exact this
theorem st_chost : ST C 3 2 261 (.flags a tr rs d) named 200 (sH' (rs || tr)) := fun s h hl => by
 have := pf_chost T (a := a) (tr := tr) (rs := rs) (d := d) s.1 (fun f hf => (h f hf).1) s.2; rw [outHs_map] at this; exact this
theorem st_csent : ST C 3 2 296 (.flags a tr rs d) named 200 (sH' (rs || tr)) := fun s h hl => by
 have := pf_csent T (a := a) (tr := tr) (rs := rs) (d := d) s.1 (fun f hf => (h f hf).1) s.2; rw [outHs_map] at this; exact this
theorem st_cpath : ST C 3 2 268 (.flags a tr rs d) named 200 (sPa (rs || tr)) := fun s h hl => by
 have := pf_cpath T (a := a) (tr := tr) (rs := rs) (d := d) s.1 (fun f hf => (h f hf).1) s.2; rw [outPa_map] at this; exact this
end
noncomputable def Good (s : LE) : Prop := (∀ f ∈ s.1, named f) /\ s.1.length <= 200
theorem Good.c {s : LE} (h : Good s) {bad : Fld -> Bool} : Good (sC bad s) := ⟨fun f hf => h.1 f (tw_sub f hf), Nat.le_trans tw_len h.2⟩
theorem Good.p {s : LE} (h : Good s) {tr rs : Bool} : Good (sP tr rs s) := ⟨fun f hf => h.1 f (tkP_sub _ _ f hf), Nat.le_trans (tkP_len _ _) h.2⟩
theorem tkH_len : ∀ l st, (tkH st l).length <= l.length
 | [], _ => Nat.le_refl _
 | g :: l, st => by
  unfold tkH
  split
  ·simp
  ·simp only [List.length_cons]; have := tkH_len l (st.next g); lia
theorem Good.h {s : LE} (h : Good s) {b : Bool} : Good (sH' b s) := ⟨fun f hf => h.1 f (tkHs_sub f hf), by
 refine Nat.le_trans ?_ h.2
 show (tkHs b s.1).length <= _
 unfold tkHs
 cases b with
 | true => exact Nat.le_refl _
 | false => exact tkH_len _ _⟩
noncomputable def vOut (tr rs : Bool) (l : List Fld) : LE := sPa (rs || tr) (sH' (rs || tr) (sP tr rs (sC badHop (sC badTe (l, false)))))
noncomputable def vIn (tr rs : Bool) (l : List Fld) : LE := sPa (rs || tr) (sH' (rs || tr) (sP tr rs (sC badHop (sC badTe (sC badEmp (sC badIll (l, false)))))))
theorem pf_vout {C : Cx} (T : Tp C) {a tr rs d : Bool} (l : List Fld) (G0 : Good (l, false)) : PF C 15 13 (.ref 332) [.flags a tr rs d] (l.map Fld.av) false ((vOut tr rs l).1.map Fld.av) (vOut tr rs l).2 := by
 refine E12 (T.fn (332, 36) (by decide)) fun fd F _ => ?_
 refine pf_of2 (m := 14) (k := 13) T F rfl (by decide +kernel) (by decide +kernel) (by decide +kernel) (by decide +kernel) rfl rfl fun n c hc h1 h2 h3 h4 => ?_
 have kd : ∀ {x : Str} {k : NameKind} (_ : (dScope (stA 36)).names.lookup x = some k := by decide +kernel), c.env.kindOf x = some k := fun h => kindC F h3 h
 refine px_plain hc (U₁ := rh sHs [(sFl, .flags a tr rs d)]) (fun w => s_doc hc) ?_
 have G1 : Good (sC badTe (l, false)) := G0.c
 have G2 : Good (sC badHop (sC badTe (l, false))) := G1.c
 have G3 : Good (sP tr rs (sC badHop (sC badTe (l, false)))) := G2.p
 have G4 : Good (sH' (rs || tr) (sP tr rs (sC badHop (sC badTe (l, false))))) := G3.h
 refine px_cons1 (p1_pipe T hc h1 221 20 (by decide) rfl kd kd rfl rfl (st_te T rfl (l, false) G0.1 G0.2) (by omega) (by decide +kernel)) ?_
 refine px_cons1 (p1_pipe T hc h1 228 21 (by decide) rfl kd kd rfl rfl (st_rconn T rfl _ G1.1 G1.2) (by omega) (by decide +kernel)) ?_
 refine px_cons1 (p1_pipe T hc h1 242 23 (by decide) rfl kd kd rfl rfl (st_pseudo T _ G2.1 G2.2) (by lia) (by decide +kernel)) ?_
 refine px_cons1 (p1_pipe T hc h1 296 31 (by decide) rfl kd kd rfl rfl (st_csent T _ G3.1 G3.2) (by lia) (by decide +kernel)) ?_
 exact px_pipe T hc h1 268 27 (by decide) rfl kd kd rfl rfl (st_cpath T _ G4.1 G4.2) (by lia) (by decide +kernel)
theorem pf_vin {C : Cx} (T : Tp C) {a tr rs d : Bool} (l : List Fld) (G0 : Good (l, false)) : PF C 19 17 (.ref 200) [.flags a tr rs d] (l.map Fld.av) false ((vIn tr rs l).1.map Fld.av) (vIn tr rs l).2 := by
 refine E12 (T.fn (200, 17) (by decide)) fun fd F _ => ?_
 refine pf_of2 (m := 18) (k := 17) T F rfl (by decide +kernel) (by decide +kernel) (by decide +kernel) (by decide +kernel) rfl rfl fun n c hc h1 h2 h3 h4 => ?_
 have kd : ∀ {x : Str} {k : NameKind} (_ : (dScope (stA 17)).names.lookup x = some k := by decide +kernel), c.env.kindOf x = some k := fun h => kindC F h3 h
 refine px_plain hc (U₁ := rh sHs [(sFl, .flags a tr rs d)]) (fun w => s_doc hc) ?_
 have Ga : Good (sC badIll (l, false)) := G0.c
 have Gb : Good (sC badEmp (sC badIll (l, false))) := Ga.c
 have G1 : Good (sC badTe (sC badEmp (sC badIll (l, false)))) := Gb.c
 have G2 : Good (sC badHop (sC badTe (sC badEmp (sC badIll (l, false))))) := G1.c
 have G3 : Good (sP tr rs (sC badHop (sC badTe (sC badEmp (sC badIll (l, false)))))) := G2.p
 have G4 : Good (sH' (rs || tr) (sP tr rs (sC badHop (sC badTe (sC badEmp (sC badIll (l, false))))))) := G3.h
 refine px_cons1 (p1_pipe T hc h1 207 18 (by decide) rfl kd kd rfl rfl (st_ill T rfl (l, false) G0.1 G0.2) (by lia) (by decide +kernel)) ?_
 refine px_cons1 (p1_pipe T hc h1 214 19 (by decide) rfl kd kd rfl rfl (st_emp T rfl _ Ga.1 Ga.2) (by lia) (by decide +kernel)) ?_
 refine px_cons1 (p1_pipe T hc h1 221 20 (by decide) rfl kd kd rfl rfl (st_te T rfl _ Gb.1 Gb.2) (by lia) (by decide +kernel)) ?_
 refine px_cons1 (p1_pipe T hc h1 228 21 (by decide) rfl kd kd rfl rfl (st_rconn T rfl _ G1.1 G1.2) (by lia) (by decide +kernel)) ?_
 refine px_cons1 (p1_pipe T hc h1 242 23 (by decide) rfl kd kd rfl rfl (st_pseudo T _ G2.1 G2.2) (by lia) (by decide +kernel)) ?_
 refine px_cons1 (p1_pipe T hc h1 261 26 (by decide) rfl kd kd rfl rfl (st_chost T _ G3.1 G3.2) (by lia) (by decide +kernel)) ?_
 exact px_pipe T hc h1 268 27 (by decide) rfl kd kd rfl rfl (st_cpath T _ G4.1 G4.2) (by lia) (by decide +kernel)
theorem pf_nin {C : Cx} (T : Tp C) {fv : AV} (hfv : fv.nl = true) (l : List Fld) (G0 : Good (l, false)) : PF C 3 2 (.ref 325) [fv] (l.map Fld.av) false ((cmb false [] l).map Fld.av) false := by
 refine E12 (T.fn (325, 35) (by decide)) fun fd F _ => ?_
 refine pf_of2 (m := 2) (k := 2) T F hfv (by decide +kernel) (by decide +kernel) (by decide +kernel) (by decide +kernel) rfl rfl fun n c hc h1 h2 h3 h4 => ?_
 have kd : ∀ {x : Str} {k : NameKind} (_ : (dScope (stA 35)).names.lookup x = some k := by decide +kernel), c.env.kindOf x = some k := fun h => kindC F h3 h
 refine px_plain hc (U₁ := rh sHs [(sFl, fv)]) (fun w => s_doc hc) ?_
 have := pf_combine T hfv l (fun f hf => (G0.1 f hf).1) G0.2 false
 rw [outK_map] at this
 exact px_pipe T hc h1 303 32 (by decide) rfl kd kd rfl hfv this (by lia) (by decide +kernel)
noncomputable abbrev sSpl : Str := ofString "should_split_outbound_cookies"
noncomputable def split1 (sp : Bool) (l : List Fld) : List Fld := if sp then l.flatMap splF else l
noncomputable def nOut (sp : Bool) (l : List Fld) : List Fld := (((split1 sp (l.map lowF)).map stripF).filter keepF).map secF
noncomputable def kNo (sp : Bool) : Nat := if sp then 2 else 0
theorem pf_nout {C : Cx} (T : Tp C) {fv : AV} (hfv : fv.nl = true) (sp : Bool) (l : List Fld) (hB : ∀ f ∈ l, small 1000 f) (hC : sp = true -> ∀ f ∈ l, smallC (lowF f)) : PF C (kNo sp + 9) (kNo sp + 8) (.ref 318) [fv, .bool sp] (l.map Fld.av) false ((nOut sp l).map Fld.av) false := by
 refine E12 T.norm fun fd F _ => ?_
 obtain ⟨hT, o, no, ho, hdt⟩ := T.d311
 refine pf_of (m := kNo sp + 8) (k := kNo sp + 8) (hn := sHs) (U := [(sSpl, .bool sp), (sFl, fv)]) (names := [sHs, sFl, sSpl]) T.ok F.at' (by rw [F.sc]; decide +kernel) (by rw [F.sc]; decide +kernel) (bindDf F.pa F.df hT ho hdt rfl (by intros; kernel_rfl)) rfl (by rw [F.sc]; decide +kernel) (by simp [nlL]; exact ⟨hfv, rfl⟩) (fun v x av h => ?_) fun n c hc h1 h2 h3 h4 => ?_
 ·have e : up sHs (.raw v) [(sSpl, .bool sp), (sFl, fv)] = [(sSpl, .bool sp), (sFl, fv), (sHs, .raw v)] := by
   unfold up
   rw [if_neg (by decide +kernel)]
   unfold up
   rw [if_neg (by decide +kernel)]; rfl
  rw [e] at h; exact h
 have kd : ∀ {x : Str} {k : NameKind} (_ : (dScope (stA 34)).names.lookup x = some k := by decide +kernel), c.env.kindOf x = some k := fun {x k} h => by
  show c.env.scope.names.lookup x = _; rw [h3, F.sc]; exact h
 refine px_plain hc (U₁ := rh sHs [(sSpl, .bool sp), (sFl, fv)]) (fun w => s_doc hc) ?_
 have hB1 : ∀ f ∈ l.map lowF, small 1000 f := fun f hf => by
  refine E12 (List.mem_map.mp hf) ?_; rintro g hg rfl
  have := hB g hg
  exact ⟨by simpa [lowF] using this.1, this.2⟩
 have hB2 : ∀ f ∈ split1 sp (l.map lowF), small 1000 f := fun f hf => by
  unfold split1 at hf
  cases sp with
  | false => exact hB1 f hf
  | true =>
   refine E12 (List.mem_flatMap.mp hf) fun g hg hf => ?_
   refine E12 (List.mem_map.mp hg) ?_; rintro g0 hg0 rfl
   have hs := hC rfl g0 hg0
   unfold splF at hf
   split at hf
   ·refine E12 (List.mem_map.mp hf) ?_; rintro w hw rfl
    exact ⟨hs.1.1, hs.2.2 w hw⟩
   ·rw [List.mem_singleton.mp hf]; exact hs.1
 have hB3 : ∀ f ∈ (split1 sp (l.map lowF)).map stripF, small 1000 f := fun f hf => by
  refine E12 (List.mem_map.mp hf) ?_; rintro g hg rfl
  have := hB2 g hg
  exact ⟨Nat.le_trans (stripB_sub _).1 this.1, Nat.le_trans (stripB_sub _).1 this.2⟩
 have hB4 : ∀ f ∈ ((split1 sp (l.map lowF)).map stripF).filter keepF, small 1000 f := fun f hf => hB3 f (List.mem_filter.mp hf).1
 have w1 := pf_lower T hfv l hB false
 rw [show (l.map fun f => (lowF f).av) = (l.map lowF).map Fld.av from by rw [List.map_map]; rfl] at w1
 have w3 := pf_strip T hfv (split1 sp (l.map lowF)) hB2 false
 rw [show ((split1 sp (l.map lowF)).map fun f => (stripF f).av) = ((split1 sp (l.map lowF)).map stripF).map Fld.av from by rw [List.map_map]; rfl] at w3
 have w4 := pf_conn T hfv _ hB3 false
 have w5 := pf_sec T hfv _ hB4 false
 rw [show ((((split1 sp (l.map lowF)).map stripF).filter keepF).map fun f => (secF f).av) = (nOut sp l).map Fld.av from by rw [nOut, List.map_map]; rfl] at w5
 refine px_cons1 (p1_pipe T hc h1 275 28 (by decide) rfl kd kd rfl hfv w1 (by omega) (by decide +kernel)) ?_
 refine px_cons1 (nB := n + 2 + kNo sp) (zs1 := (split1 sp (l.map lowF)).map Fld.av) (err1 := false) (p1_if (b := sp) (fun w => et_val (ev_local hc.e ((rh_ne (by decide +kernel)).trans rfl)) opt_bool) (fun hsp => ?_) fun hsp => ?_) ?_
 ·subst hsp
  exact p1_pipe T hc h1 310 33 (by decide) rfl kd kd rfl hfv (pf_split T hfv _ (fun f hf => by
   refine E12 (List.mem_map.mp hf) ?_; rintro g hg rfl; exact hC rfl g hg) false) (by simp [kNo] at h2; lia) (by decide +kernel)
 ·subst hsp
  exact ⟨rfl, rfl, rfl⟩
 refine px_cons1 (p1_pipe T hc h1 282 29 (by decide) rfl kd kd rfl hfv w3 (by omega) (by decide +kernel)) ?_
 refine px_cons1 (p1_pipe T hc h1 289 30 (by decide) rfl kd kd rfl hfv w4 (by omega) (by decide +kernel)) ?_
 rw [show n + (kNo sp + 8) = n + 2 + kNo sp + 2 + 2 + 2 from by lia]
 exact px_pipe T hc h1 116 15 (by decide) rfl kd kd rfl hfv w5 (by omega) (by decide +kernel)
open Builtin in
theorem order_lt : ∀ a b : List UInt8, (Bytes.order a b == .lt) = decide (a < b)
 | [], [] => by simp [Bytes.order]
 | [], _ :: _ => by simp [Bytes.order]
 | _ :: _, [] => by simp [Bytes.order]
 | x :: xs, y :: ys => by
  unfold Bytes.order
  rcases Decidable.em (x < y) with h | h
  ·simp [h, List.cons_lt_cons_iff]
  ·rcases Decidable.em (y < x) with h' | h'
   ·have hne : x ≠ y := fun e => by subst e; exact h h'
    simp [h, h', hne, List.cons_lt_cons_iff]
   ·have he : x = y := UInt8.le_antisymm (UInt8.not_lt.mp h') (UInt8.not_lt.mp h)
    subst he
    have hh : ¬ (x > x) := h
    rw [if_neg h, if_neg hh, order_lt xs ys]
    simp [List.cons_lt_cons_iff]
noncomputable abbrev byKind : PyProof.Rows.KeyKind where
 α := List UInt8
 blt a b := decide (a < b)
 irrefl a := by simpa using List.lt_irrefl a
 trans a b c h1 h2 := by simp only [decide_eq_true_eq] at *; exact List.lt_trans h1 h2
 negTrans a b c h := by
  simp only [decide_eq_true_eq] at *
  by_cases hab : a < b
  ·exact .inl hab
  ·exact .inr (List.lt_of_le_of_lt (List.not_lt.mp hab) h)
 total a b h1 h2 := by simp only [decide_eq_false_iff_not] at *; exact List.le_antisymm (List.not_lt.mp h2) (List.not_lt.mp h1)
 keyOf v := match v with | .bytes x _ => some x.toList | _ => none
 dflt := []
theorem slot_bytes_lt : Slot "bytes" "__lt__" "bytes.__lt__" :=
 .of (owner := "bytes") (n := "__lt__") (by rw [typeLookup_type, builtinLookup_eq_fast]; kernel_rfl) (by decide +kernel) (by decide +kernel) (by decide +kernel)
  (by first | exact .inl (by decide +kernel) | exact .inr (by decide +kernel)) (by rw [isSubtype_type]; kernel_rfl)
theorem entry_bytes_lt : entryFor table "bytes.__lt__" = some Builtin.«bytes.__lt__» := entryFor_of_tree (by kernel_rfl)
theorem args_bytes_lt (a b : Value) : argsOk "bytes.__lt__" ⟨[a, b], []⟩ := by
 unfold argsOk; rw [signature?_of (id := "bytes.__lt__") (n := ['_', '_', 't', 'l', '_', '_']) (o := ['s', 'e', 't', 'y', 'b']) (by kernel_rfl) FB.owner_bytes]; kernel_rfl
theorem gives_bytes_lt (a b : Array UInt8) (t u : Tok) : Gives (Builtin.«bytes.__lt__» ⟨[.bytes a t, .bytes b u], []⟩) (.val (.bool (decide (a.toList < b.toList)))) := by
 refine .of_wp fun M A E s Q hq => ?_
 show wpAny M A (isInstance (.bytes b u) (.type "bytes") >>= fun r => _) _ E s
 refine wB (wpAny_isInstance (T := "bytes") (b := true) rfl (by rw [isSubtype_type]; kernel_rfl) ?_)
 show wpAny M A (ret (.bool (Builtin.Bytes.order a.toList b.toList == .lt))) _ E s
 rw [order_lt]
 exact wP ⟨_, rfl, hq⟩
section
variable {prog : Program} {w : World} {A : Around} {E : VP} {s : Shared}
theorem oneLt_bytes {a b : Array UInt8} {t u : Tok} {Q : Bool -> Shared -> Prop} (h : Q (decide (a.toList < b.toList)) s) : wpAny (model prog w) A (oneLt' true (.bytes a t) (.bytes b u)) Q E s := by
 rw [oneLt'_eq]
 simp only [if_true]
 refine wB (wpAny_cRoomFor_byValue rfl ?_)
 refine wB (wpAny_callSpecialIfBound?_slot (typeIs_bytes s a t) slot_bytes_lt (call_gives slot_bytes_lt (typeIs_bytes s a t) entry_bytes_lt (args_bytes_lt _ _) (gives_bytes_lt a b t u) ?_))
 exact wpAny_truthy_bool h
end
theorem byKind_oneLt : byKind.OneLt := by
 intro prog w A E s x y a b Q ha hb h
 cases x <;> simp only [byKind, reduceCtorEq, Option.some.injEq] at ha
 cases y <;> simp only [byKind, reduceCtorEq, Option.some.injEq] at hb
 cases ha; cases hb
 exact oneLt_bytes h
noncomputable def sortB (l : List (List UInt8)) : List (List UInt8) := l.mergeSort fun a b => decide (a <= b)
theorem sortB_of {l m : List (List UInt8)} (hp : l.Perm m) (hs : l.Pairwise (· <= ·)) : l = sortB m := by
 have h1 : (sortB m).Pairwise (· <= ·) := by
  have := List.pairwise_mergeSort (le := fun a b : List UInt8 => decide (a <= b)) (fun a b c h1 h2 => by simp only [decide_eq_true_eq] at *; exact List.le_trans h1 h2) (fun a b => by simp only [Bool.or_eq_true, decide_eq_true_eq]; exact List.le_total ..) m
  exact this.imp fun h => by simpa using h
 exact List.Perm.eq_of_pairwise (le := (· <= ·)) (fun a b _ _ h1 h2 => List.le_antisymm h1 h2) hs h1 (hp.trans (List.mergeSort_perm m _).symm)
theorem repB_all {q : Addr -> Nat} {h : Heap} : ∀ {l : List (List UInt8)} {vs : List Value}, RepL q h (l.map .bytes) vs -> ∀ v ∈ vs, ∃ x t, v = .bytes x t
 | [], [], _, v, hv => by cases hv
 | x :: l, v :: vs, r, u, hu => by
  rw [List.map_cons, RepL] at r
  rcases List.mem_cons.mp hu with rfl | hu
  ·have := r.1; rw [Rep] at this; refine E11 this ?_; clear this; rintro t rfl; exact ⟨_, _, rfl⟩
  ·exact repB_all r.2 u hu
 | [], _ :: _, r, _, _ => by rw [List.map_nil, RepL] at r; exact r.elim
 | _ :: _, [], r, _, _ => by rw [List.map_cons, RepL] at r; exact r.elim
noncomputable def byOf : Value -> List UInt8
 | .bytes x _ => x.toList
 | _ => []
theorem repB_of {q : Addr -> Nat} {h : Heap} : ∀ {vs : List Value}, (∀ v ∈ vs, ∃ x t, v = .bytes x t) -> RepL q h ((vs.map byOf).map .bytes) vs
 | [], _ => by rw [List.map_nil, List.map_nil, RepL]; trivial
 | v :: vs, hv => by
  refine E21 (hv v (List.mem_cons_self ..)) ?_; rintro x t rfl
  rw [List.map_cons, List.map_cons, RepL]
  exact ⟨by rw [Rep]; exact ⟨t, rfl⟩, repB_of fun u hu => hv u (mC _ hu)⟩
theorem repB_strs {q : Addr -> Nat} {h : Heap} : ∀ {l : List (List UInt8)} {vs : List Value}, RepL q h (l.map .bytes) vs -> vs.map byOf = l
 | [], [], _ => rfl
 | x :: l, v :: vs, r => by
  rw [List.map_cons, RepL] at r
  have := r.1; rw [Rep] at this; refine E11 this ?_; clear this; rintro t rfl
  rw [List.map_cons, repB_strs r.2]; rfl
 | [], _ :: _, r => by rw [List.map_nil, RepL] at r; exact r.elim
 | _ :: _, [], r => by rw [List.map_cons, RepL] at r; exact r.elim
theorem mapM_firstB : ∀ {vs : List Value}, (∀ v ∈ vs, ∃ x t, v = .bytes x t) -> vs.mapM firstOfTuple' = pure (vs.map fun _ => none)
 | [], _ => by simp
 | v :: vs, h => by
  refine E21 (h v (List.mem_cons_self ..)) ?_; rintro x t rfl
  rw [List.mapM_cons, show firstOfTuple' (.bytes x t) = pure none from rfl, mapM_firstB fun u hu => h u (mC _ hu)]; simp
theorem mapM_typeB : ∀ {vs : List Value}, (∀ v ∈ vs, ∃ x t, v = .bytes x t) -> vs.mapM typeOf = pure (vs.map fun _ => Value.type "bytes")
 | [], _ => by simp
 | v :: vs, h => by
  refine E21 (h v (List.mem_cons_self ..)) ?_; rintro x t rfl
  rw [List.mapM_cons, mapM_typeB fun u hu => h u (mC _ hu)]
  show (pure (Value.type "bytes") >>= fun b => pure _ >>= fun bs => pure (b :: bs)) = _
  simp
theorem keyKindB {vB vD : Value} {vs : List Value} (hS : ∀ v ∈ vB :: vD :: vs, ∃ x t, v = .bytes x t) : keyKind' (vB :: vD :: vs).toArray = pure oneType' := by
 rw [keyKind'_eq, List.mapM_toArray, mapM_firstB hS]
 simp only [map_pure, pure_bind]
 rw [if_neg (by simp), if_neg (by simp)]
 rw [oneTypeOnly'_eq, List.mapM_toArray, mapM_typeB hS]
 simp only [map_pure, pure_bind]
 have hall : ((List.map (fun _ => Value.type "bytes") (vB :: vD :: vs)).toArray.all fun x => x == Value.type "bytes") = true := by
  simp only [List.all_toArray, List.all_map, List.all_eq_true]
  intro _ _
  rfl
 have h0 : (List.map (fun _ => Value.type "bytes") (vB :: vD :: vs)).toArray[0]? = some (Value.type "bytes") := by simp
 rw [h0]
 simp only [hall, if_true, pure_bind, Option.isSome_some]
section
variable {C : Cx} {A : Around}
theorem c_sorted {l : List (List UInt8)} (h64 : l.length < 64) : CB C A (.builtin "sorted") [.lst (l.map .bytes)] (.lst ((sortB l).map .bytes)) := fun q s vs G r Q E k => by
 refine E12 (one r) ?_; rintro v rfl r'
 refine E24 (de_lst r') ?_; rintro a us rfl hq hl rl
 have hb := repB_all rl
 have hlen : us.length = l.length := by have := RepL.length rl; simpa using this
 refine sortedK byKind_oneLt (vs := us) hl (fun p hp => ?_) (fun vB vD rest e => keyKindB (by rw [<- e]; exact hb)) (by lia) fun st' hp hs => ?_
 ·rw [pairsOf_toList] at hp
  refine E21 (hb _ (mem_zip_self hp).2) fun x t e => ?_
  exact ⟨x.toList, by rw [e]⟩
 ·have hl2 : (arrOf st').toList.Perm (us.zip us) := by rw [<- pairsOf_toList]; exact Array.perm_iff_toList_perm.mp hp
  have hmem : ∀ p, p ∈ (arrOf st').toList -> p.1 = p.2 /\ p.1 ∈ us := fun p hp' => mem_zip_self (hl2.mem_iff.mp hp')
  have eo : ((arrOf st').map (·.2)).toList = (arrOf st').toList.map (·.1) := by
   rw [Array.toList_map]; exact List.map_congr_left fun p hp' => (hmem p hp').1.symm
  have hbo : ∀ v ∈ ((arrOf st').map (·.2)).toList, ∃ x t, v = .bytes x t := fun v hv => by
   rw [eo] at hv
   refine E12 (List.mem_map.mp hv) ?_; rintro p hp' rfl
   exact hb _ (hmem p hp').2
  have hs' : ((arrOf st').toList.map fun p => byOf p.1) = sortB l := by
   refine sortB_of ?_ ?_
   ·have h1 := hl2.map (fun p => byOf p.1)
    have e2 : (us.zip us).map (fun p => byOf p.1) = l := by
     have : (us.zip us).map (fun p => byOf p.1) = ((us.zip us).map Prod.fst).map byOf := by rw [List.map_map]; rfl
     rw [this, List.map_fst_zip (Nat.le_refl _), repB_strs rl]
    rwa [e2] at h1
   ·rw [List.pairwise_iff_getElem]
    intro i j hi hj hij
    have hi' : i < (arrOf st').size := by simpa using hi
    have hj' : j < (arrOf st').size := by simpa using hj
    have h1 := hs i j (Nat.le_of_lt hij) (by rw [<- hp.size_eq]; exact hj')
    have kk : ∀ {i : Nat} (hi : i < (arrOf st').size), KK byKind (arrOf st') i = byOf (arrOf st')[i].1 := fun {i} hi => by
     refine E21 (hb _ (hmem (arrOf st')[i] (by simp)).2) fun x t ex => ?_
     unfold KK; rw [getElem?_pos _ i hi]; show ((byKind.keyOf (arrOf st')[i].1).getD byKind.dflt) = _; rw [ex]; rfl
    rw [kk hi', kk hj'] at h1
    change decide (_ < _) = false at h1
    simp only [List.getElem_map, Array.getElem_toList]
    exact List.not_lt.mp (by simpa using h1)
  have hB : ∀ b o, s.heap.get? b = some o -> (sortedAll s.heap us ((arrOf st').map (·.2))).get? b = some o := fun b o e => sortedAll_old e
  refine k _ _ (.keep hB) (.of_rep ?_)
  refine E11 (sortedAll_at s.heap us ((arrOf st').map (·.2))) fun e he => ?_
  rw [Rep]
  refine ⟨_, ((arrOf st').map (·.2)).toList, rfl, ?_, ⟨_, he, rfl, e, rfl⟩, ?_⟩
  ·refine G.fr _ ?_
   cases hh : s.heap.get? (s.heap.objs.size + 1) with
   | none => rfl
   | some o => exact absurd (Heap.lt_size hh) (Nat.not_lt.mpr (Nat.le_succ _))
  ·have := repB_of (q := q) (h := sortedAll s.heap us ((arrOf st').map (·.2))) hbo
   rw [<- hs']
   rw [eo, List.map_map (f := Prod.fst)] at this
   rw [eo]
   exact this
end
section
variable {prog : Program} {w : World} {A : Around} {E : VP} {s : Shared}
theorem setItem_last {l : Addr} {items : Array Value} {t : Tok} {v : Value} {Q : Unit -> Shared -> Prop} (hl : PlainL s.heap l items) (hp : 0 < items.size)
  (hQ : ∀ h', PlainL h' l (items.setIfInBounds (items.size - 1) v) -> Heap.SameBut l s.heap h' -> Q () { s with heap := h' }) :
  wpAny (model prog w) A (setItem (.ref l) (.int (-1) t) v) Q E s := by
 refine E24 (id hl) fun o n ho hc hdn hd => ?_
 unfold setItem
 try with_reducible refine wpAny_holding ?_
 first | refine wB (wP ?_) | skip
 refine wB (wpAny_sequenceKey hl.isList.typeIs (by decide) ?_)
 refine wB (wpAny_callSpecial?_slot (name := ofString "__setitem__") hl.isList.typeIs slot_list_setitem
  (wpAny_call_entry slot_list_setitem hl.isList.typeIs entry_list_setitem ?_ (args_list_setitem _ _ _)))
 show wpAny _ _ (Builtin.List.listSubscript? (.int (-1) t) >>= _) _ _ s
 refine wB (wpAny_listSubscript_int (fitsIndex_neg (by decide) (by decide)) ?_)
 have hidx := seqIndex_neg (k := -1) (n := items.size) (by decide) (by lia)
 have hj : items.size - 1 < items.size := by omega
 have hx' : items[items.size - 1]? = some items[items.size - 1] := Array.getElem?_eq_getElem hj
 show wpAny _ _ ((Builtin.List.listItems (.ref l) >>= fun xs => pure ((seqIndex? (Int.negSucc 0) xs.size).bind fun i => xs[i]?.map (i, ·))) >>= _) _ _ s
 refine wB (wB ?_)
 show wpAny _ _ (seqItems? (.ref l) >>= _) _ _ s
 refine wB (wpAny_seqItems ho hd (wP (wP ?_)))
 have hidx' : seqIndex? (Int.negSucc 0) items.size = some (items.size - 1) := by
  rw [show (Int.negSucc 0) = -1 from rfl, hidx]
  congr 1; lia
 rw [hidx']
 simp only [Option.bind_some, hx', Option.map_some]
 show wpAny _ _ (setSeqItemAt l (items.size - 1) v >>= _) _ _ s
 refine E11 (Obj.data_mapSeq hd (·.setIfInBounds (items.size - 1) v)) fun n' hd' => ?_
 have hfin : PlainL (s.heap.update l (Obj.mapSeq (·.setIfInBounds (items.size - 1) v))) l (items.setIfInBounds (items.size - 1) v) := by
  refine ⟨_, n', Heap.get?_update_self _ ho (Obj.isFreed_of_seq hd'), (Obj.cls_mapSeq ..).trans hc, ?_, hd'⟩
  obtain ⟨c, d, dt, sl⟩ := o
  subst hd
  exact hdn
 refine wB (wpAny_setSeqItemAt ho hd ?_)
 first
  | exact wB (wP (wP ⟨.none, rfl, wP (hQ _ hfin (Heap.SameBut.update ..))⟩))
  | exact wP ⟨.none, rfl, wP (hQ _ hfin (Heap.SameBut.update ..))⟩
end
theorem repL_init {q : Addr -> Nat} {h : Heap} {z : AV} {u : Value} : ∀ {xs : List AV} {us : List Value}, us.length = xs.length -> RepL q h (xs ++ [z]) (us ++ [u]) -> RepL q h xs us
 | [], [], _, _ => by rw [RepL]; trivial
 | x :: xs, v :: us, hul, r => by
  rw [List.cons_append, List.cons_append, RepL] at r
  rw [RepL]
  exact ⟨r.1, repL_init (by simpa using hul) r.2⟩
 | [], _ :: _, hul, _ => by simp at hul
 | _ :: _, [], hul, _ => by simp at hul
section
variable {c : Ac} {q : Addr -> Nat} {Z U : Env1} {s s' : Shared} {N : Env1 -> Prop} {R : AV -> Prop} {X : Prop}
theorem s_setLast (hc : c.Ok) {x : Str} {np ip cp sp p : Pos} {k : Nat} {e : Expr} {xs : List AV} {y z : AV} (hl : U.lookup x = some (.own (xs ++ [z]))) (hone : Sole x U) (hκ : PlK Z) (h : EV c Z U e y) (hd : y.dp = true) (hlen : xs.length <= 100000)
  (hx : (x == ("__debug__" : Str)) = false := by rfl)
  (hs : swapsWith e (some (.Subscript (.Name x np) (.UnaryOp .USub (.Constant (.int 1) k cp) ip) sp)) p.line c.env = pure false := by rfl) :
  S1 c Z U (.Assign [.Subscript (.Name x np) (.UnaryOp .USub (.Constant (.int 1) k cp) ip) sp] e p) (· = up x (.own (xs ++ [y])) U) R X := fun q s S Q E o => by
 refine wpAny_Assign_Subscript (h q s S fun u s1 ew rB => ?_) hs
 have SB := S.ev ew
 refine E12 SB.loc fun m hn hv => ?_
 obtain ⟨hk, v, hm, ⟨a, vs, rfl, hqa, hi, rl⟩, hw⟩ := hv x _ hl
 refine wpAny_Name (wpAny_loadName_local hc.kind hk hn hm ?_) hx
 refine ev_neg (ev_int (i := 1)) q s1 SB fun iv s2 eD rD => ?_
 refine E11 (de_int rD) ?_; rintro t rfl
 have S2 := SB.ev eD
 have hi2 : PlainL s2.heap a ⟨vs⟩ := by
  refine E24 hi ?_; clear hi; intro ol n ho h1 h2 h3
  refine E12 (eD.sim SB.base ho (by rw [h3]; nofun) id) fun o' ho' z => ?_
  exact ⟨o', n, ho', z.1.trans h1, z.2.1.trans h2, z.2.2.1.trans h3⟩
 have rl2 := rl.ev eD SB.base
 have hvl := RepL.length rl
 simp only [List.length_append, List.length_singleton] at hvl
 refine setItem_last hi2 (by show 0 < vs.length; lia) fun h' hi' hsb => ?_
 refine E24 (id hi2) fun o1 n1 ho1 hc1 hd1 hda1 => ?_
 refine E24 (id hi') fun o2 n2 ho2 hc2 hd2 hda2 => ?_
 have hnew : c.C.h₁.get? a = none := (SB.col a (by lia)).1
 have eH : Ev c.C (· = a) No s2 { s2 with heap := h' } := .turn hc.C (tk := s2.toks) ho1 hnew hsb.extBut ho2 (hc2.trans hc1.symm) (fun _ vs e => by rw [hda2] at e; cases e) (by rw [hc1]; simp)
 have kp : Kept (· ≠ a) s2.heap h' := eH.kept S2.base fun b h => ⟨fun z => z h, fun o ho => by subst h; rw [ho1] at ho; cases ho; rw [hc1]; exact ⟨by simp, by simp⟩⟩
 have hR : ∀ b o, s2.heap.get? b = some o -> o.cls ≠ .type "frame" -> q b = 0 -> b ≠ a := fun b _ _ _ z w => by rw [w, hqa] at z; cases z
 obtain ⟨us, u0, hus⟩ : ∃ us u0, vs = us ++ [u0] := ⟨vs.dropLast, vs.getLast (by intro e; rw [e] at hvl; simp at hvl), (List.dropLast_concat_getLast _).symm⟩
 subst hus
 have hul : us.length = xs.length := by simp at hvl; lia
 have e1 : ((⟨us ++ [u0]⟩ : Array Value).setIfInBounds ((⟨us ++ [u0]⟩ : Array Value).size - 1) u) = ⟨us ++ [u]⟩ := by
  simp
 rw [e1] at hi'
 have rlx : RepL q s2.heap xs us := repL_init hul rl2
 have rH : Rp c.C q h' (.own (xs ++ [y])) (.ref a) := by
  refine ⟨a, us ++ [u], rfl, hqa, hi', RepL.app (RepL.mono kp hR (fun _ _ _ z => z) _ _ rlx) ?_⟩
  rw [RepL]
  exact ⟨Rep.mono kp hR (fun _ _ _ z => z) _ _ (Rp.deep hd (rB.ev eD SB.base)), by rw [RepL]; trivial⟩
 have locm : ∃ m, s2.heap.Ns c.env.locals m /\ m x = some (.ref a) := by
  refine E12 (SB.locC hc) fun oF hoF hcF => ?_
  exact ⟨m, ns_sim hn fun ob ho => eD.kp _ ob ho id (by rw [hoF] at ho; cases ho; exact notT_cls SB.base hoF (by rw [hcF]; nofun)), hm⟩
 have S3 := S2.put hc hl hone hκ hqa eH (hw rfl a rfl) locm rH
 refine o.n q _ _ rfl .refl ((ew.tr eD).up.tr (eH.mono (fun b h => .inl ?_) (fun _ h => .inl h))) S3
 subst h
 exact ⟨hw rfl b rfl, .inl hqa⟩
end
section
variable {C : Cx} {A : Around}
noncomputable def bI (l : List UInt8) : List AV := l.map fun c => .int c.toNat
theorem repI_are {q : Addr -> Nat} {h : Heap} : ∀ {l : List UInt8} {vs : List Value}, RepL q h (bI l) vs -> IntsAre vs (l.map fun c => (c.toNat : Int))
 | [], [], _ => .nil
 | x :: l, v :: vs, r => by
  unfold bI at r
  rw [List.map_cons, RepL] at r
  have := r.1; rw [Rep] at this; refine E11 this ?_; clear this; rintro t rfl
  exact .cons _ t (repI_are r.2)
 | [], _ :: _, r => by unfold bI at r; rw [List.map_nil, RepL] at r; exact r.elim
 | _ :: _, [], r => by unfold bI at r; rw [List.map_cons, RepL] at r; exact r.elim
theorem c_bytesL {l : List UInt8} (hl : l.length <= 1000000) (hh : A.handled = none) : CB C A (.type "bytes") [.lst (bI l)] (.bytes l) := fun q s vs G r Q E k => by
 refine E12 (one r) ?_; rintro v rfl r'
 refine E24 (de_lst r') ?_; rintro a us rfl hq hl' rl
 have hlen : us.length = l.length := by have := RepL.length rl; simpa [bI] using this
 refine PySem.call_bytes_ints hl' (repI_are rl) (fun n hn => ?_) (by rw [sizeLine_eq]; lia) hh fun h' t kk hk => ?_
 ·refine E12 (List.mem_map.mp hn) ?_; rintro c _ rfl
  have := c.toNat_lt
  lia
 ·have e : PySem.byteArr (l.map fun c => (c.toNat : Int)) = ⟨l⟩ := by
   unfold PySem.byteArr
   rw [List.map_map]
   have : (l.map ((fun n : Int => n.toNat.toUInt8) ∘ fun c => (c.toNat : Int))) = l := by
    conv => rhs; rw [<- List.map_id l]
    refine List.map_congr_left fun c _ => ?_
    show ((c.toNat : Int)).toNat.toUInt8 = c
    rw [Int.toNat_natCast]
    exact UInt8.ofNat_toNat
   rw [this]
  rw [e]
  exact k _ _ (.keep hk) rp_bytes
end
section
set_option tactic.hygienic true
noncomputable abbrev KV := List (List UInt8 × List UInt8)
noncomputable def storedB (kvs : KV) (k v : List UInt8) : KV := if kvs.any (fun kv => kv.1 = k) then kvs.map (fun kv => if kv.1 = k then (kv.1, v) else kv) else kvs ++ [(k, v)]
noncomputable def dictB (l : KV) : KV := l.foldl (fun a p => storedB a p.1 p.2) []
noncomputable def kvA (p : List UInt8 × List UInt8) : AV := .tup [.bytes p.1, .bytes p.2]
noncomputable def RdK (C : Cx) (h : Heap) (D : Addr) (kvs : KV) : Prop := D ≠ sysModules /\ ∃ vvs, h.DictOf (byK C.prog C.w) D vvs /\ vvs.map (·.1) = kvs.map (·.1) /\ RepL (fun _ => 0) h (kvs.map fun p => .bytes p.2) (vvs.map (·.2))
noncomputable def DctA (C : Cx) (ys : List AV) (h : Heap) (D : Addr) : Prop := ∃ l : KV, ys = l.map kvA /\ RdK C h D (dictB l)
theorem repKV {q q' : Addr -> Nat} {h h' : Heap} : ∀ {l : KV} {vs : List Value}, RepL q h (l.map fun p => .bytes p.2) vs -> RepL q' h' (l.map fun p => .bytes p.2) vs := fun {l vs} r => by
 have e : (l.map fun p => AV.bytes p.2) = (l.map (·.2)).map .bytes := by rw [List.map_map]; rfl
 rw [e] at r ⊢
 exact repB r
theorem RdK.rp {C : Cx} {h : Heap} {D : Addr} {kvs : KV} {q : Addr -> Nat} (hq : q D = 0) : RdK C h D kvs -> Rp C q h (.dict kvs) (.ref D) := fun ⟨h0, vvs, h1, h2, h3⟩ => ⟨D, vvs, rfl, hq, h1, h2, repKV h3, h0⟩
theorem RdK.at {C : Cx} {h h' : Heap} {D : Addr} {kvs : KV} (hk : ∀ o, h.get? D = some o -> h'.get? D = some o) : RdK C h D kvs -> RdK C h' D kvs := fun ⟨h0, vvs, h1, h2, h3⟩ => ⟨h0, vvs, h1.at hk, h2, repKV h3⟩
theorem dctA_ok (C : Cx) : AccOk C (DctA C) where
 obj := fun ⟨_, _, _, _, h1, _⟩ => by
  refine E33 h1 ?_; clear h1; intro o es ep ho hx _
  exact ⟨o, ho, .inr hx.1⟩
 stay := fun {ys D W G s s'} ⟨l, e0, hr⟩ e B t ⟨oB, o', h1, h2, z⟩ => by
  refine ⟨l, e0, hr.at fun o ho => ?_⟩
  rw [h1] at ho; cases ho
  obtain ⟨_, vvs, h3, _⟩ := hr
  refine E12 (h3.typeIs (s := s)) fun o ho hc => ?_
  rw [h1] at ho; cases ho
  rw [h2, z.eq (by rw [hc]; simp)]
theorem stored_map {vvs : List (List UInt8 × Value)} {kvs : KV} (h : vvs.map (·.1) = kvs.map (·.1)) (k : List UInt8) (v : List UInt8) (u : Value) : (stored vvs k u).map (·.1) = (storedB kvs k v).map (·.1) := by
 have ha : (vvs.any fun kv => kv.1 = k) = kvs.any fun kv => kv.1 = k := by
  have e1 : (vvs.any fun kv => kv.1 = k) = (vvs.map (·.1)).any fun x => x = k := by rw [List.any_map]; rfl
  have e2 : (kvs.any fun kv => kv.1 = k) = (kvs.map (·.1)).any fun x => x = k := by rw [List.any_map]; rfl
  rw [e1, e2, h]
 unfold stored storedB
 rw [ha]
 split
 ·have e1 : (vvs.map (fun kv => if kv.1 = k then (kv.1, u) else kv)).map (·.1) = vvs.map (·.1) := by
   rw [List.map_map]; refine List.map_congr_left fun p _ => ?_; show (if p.1 = k then (p.1, u) else p).1 = p.1; split <;> rfl
  have e2 : (kvs.map (fun kv => if kv.1 = k then (kv.1, v) else kv)).map (·.1) = kvs.map (·.1) := by
   rw [List.map_map]; refine List.map_congr_left fun p _ => ?_; show (if p.1 = k then (p.1, v) else p).1 = p.1; split <;> rfl
  rw [e1, e2, h]
 ·simp [h]
theorem stored_rep {q : Addr -> Nat} {h : Heap} {k v : List UInt8} {u : Value} (hu : Rep q h (.bytes v) u) : ∀ {vvs : List (List UInt8 × Value)} {kvs : KV}, vvs.map (·.1) = kvs.map (·.1) -> RepL q h (kvs.map fun p => .bytes p.2) (vvs.map (·.2)) -> RepL q h ((storedB kvs k v).map fun p => .bytes p.2) ((stored vvs k u).map (·.2)) := fun {vvs kvs} he r => by
 have ha : (vvs.any fun kv => kv.1 = k) = kvs.any fun kv => kv.1 = k := by
  have e1 : (vvs.any fun kv => kv.1 = k) = (vvs.map (·.1)).any fun x => x = k := by rw [List.any_map]; rfl
  have e2 : (kvs.any fun kv => kv.1 = k) = (kvs.map (·.1)).any fun x => x = k := by rw [List.any_map]; rfl
  rw [e1, e2, he]
 unfold stored storedB
 rw [ha]
 split
 ·rename_i hx
  clear hx ha
  induction kvs generalizing vvs with
  | nil => cases vvs with
   | nil => simpa using r
   | cons _ _ => simp at he
  | cons p kvs ih => cases vvs with
   | nil => simp at he
   | cons w vvs =>
    simp only [List.map_cons, List.cons.injEq] at he
    simp only [List.map_cons] at r ⊢
    rw [RepL] at r ⊢
    refine ⟨?_, ih he.2 r.2⟩
    rw [he.1]
    by_cases hk : p.1 = k
    ·rw [if_pos hk, if_pos hk]; exact hu
    ·rw [if_neg hk, if_neg hk]; exact r.1
 ·rw [List.map_append, List.map_append]
  refine RepL.app r ?_
  simp only [List.map_cons, List.map_nil]
  rw [RepL]
  exact ⟨hu, by rw [RepL]; trivial⟩
theorem RdK.put {C : Cx} {A : Around} {s : Shared} {D : Addr} {kvs : KV} {k v : List UInt8} {tk tv : Tok} {Q : Unit -> Shared -> Prop} {E : VP} (r : RdK C s.heap D kvs) (hlen : kvs.length <= 100000)
  (hQ : ∀ h', RdK C h' D (storedB kvs k v) -> Heap.SameBut D s.heap h' -> Q () { s with heap := h', toks := s.toks + 1 }) : wpAny (model C.prog C.w) A (dictSet D (.bytes ⟨k⟩ tk) (.bytes ⟨v⟩ tv)) Q E s := by
 obtain ⟨h0, vvs, h1, h2, h3⟩ := r
 have hl : vvs.length = kvs.length := by have := congrArg List.length h2; simpa using this
 refine wpAny_dictSet_pairs (byK_is k tk) h1 (fun h' hd hsb => hQ h' ⟨h0, _, hd, stored_map h2 k v _, ?_⟩ hsb) (by rw [sizeLine_eq]; lia)
 exact stored_rep (by rw [Rep]; exact ⟨tv, rfl⟩) h2 (repKV h3)
theorem storedB_len {kvs : KV} {k v : List UInt8} : (storedB kvs k v).length <= kvs.length + 1 := by
 unfold storedB; split <;> simp
theorem dictB_snoc (l : KV) (k v : List UInt8) : dictB (l ++ [(k, v)]) = storedB (dictB l) k v := by simp [dictB]
theorem dictB_len (l : KV) : (dictB l).length <= l.length := by
 unfold dictB
 have : ∀ (l a : KV), (l.foldl (fun a p => storedB a p.1 p.2) a).length <= a.length + l.length := by
  intro l
  induction l with
  | nil => simp
  | cons p l ih => intro a; have h1 := ih (storedB a p.1 p.2); have h2 := @storedB_len a p.1 p.2; simp only [List.foldl_cons, List.length_cons]; lia
 simpa using this l []
theorem kvA_inj : ∀ (a b : KV), a.map kvA = b.map kvA -> a = b
 | [], [], _ => rfl
 | [], _ :: _, h => by simp at h
 | _ :: _, [], h => by simp at h
 | p :: a, p' :: b, h => by
  simp only [List.map_cons, List.cons.injEq] at h
  have h1 : kvA p = kvA p' := h.1
  unfold kvA at h1
  simp only [AV.tup.injEq, List.cons.injEq, AV.bytes.injEq, and_true] at h1
  rw [kvA_inj a b h.2, Prod.ext h1.1 h1.2]
section
variable {c c' : Ac} {q qB : Addr -> Nat} {Z Z' U : Env1} {s s1 s' : Shared}
theorem Cp.put {K : Addr -> Prop} {it : Value} {D : Addr} {xs : List AV} {l : KV} {O : Addr -> Prop} {OG : Nat -> Prop} (hok : c.C.Ok) (hC : c'.C = c.C) (P : Cp c c' Z' q s K it (DctA c.C) D xs (l.map kvA) U qB O OG s1) {k v : List UInt8} {tk tv : Tok} (hlen : l.length <= 100000) {Q : Unit -> Shared -> Prop} {E : VP} (kk : ∀ s', Cp c c' Z' q s K it (DctA c.C) D xs ((l ++ [(k, v)]).map kvA) U qB O OG s' -> Q () s') : wpAny (model c.C.prog c.C.w) c.A (dictSet D (.bytes ⟨k⟩ tk) (.bytes ⟨v⟩ tv)) Q E s1 := by
 refine E12 P.acc fun l' he hr => ?_
 have hll : l = l' := kvA_inj _ _ he
 subst hll
 have hd := dictB_len l
 refine hr.put (by lia) fun h' hr' hsb => ?_
 obtain ⟨_, vvs, hD, _⟩ := hr
 refine E12 (hD.typeIs (s := s1)) fun oD hoD hcD => ?_
 obtain ⟨_, vvs', hD', _⟩ := id hr'
 refine E12 (hD'.typeIs (s := ⟨h', s1.gens, s1.drawn, s1.toks, s1.os⟩)) fun oD' hoD' hcD' => ?_
 refine E12 P.loc fun oL hoL hcL => ?_
 have B1 : Base c.C s1.heap := by have := P.S.base; rwa [hC] at this
 have hn : c.C.h₁.get? D = none := by
  have := (P.S.col D (by have := P.hD.1; lia)).1
  rwa [hC] at this
 have hnr : NotRec oD'.data := by
  obtain ⟨o, ho, es, ep, _, hdt, _⟩ := Heap.dictOf_iff.mp hD'
  have hoD'' : h'.get? D = some oD' := hoD'
  rw [ho] at hoD''; cases hoD''
  intro vs e; rw [hdt] at e; cases e
 have e : Ev c.C (· = D) No s1 { s1 with heap := h', toks := s1.toks + 1 } := .turn hok (tk := s1.toks + 1) hoD hn hsb.extBut hoD' (hcD'.trans hcD.symm) (fun _ => hnr) (by rw [hcD]; simp)
 have hne : D ≠ c'.env.locals := fun z => by have h1 := P.hD.1; rw [z, P.S.own.2.1] at h1; lia
 have ap := P.apart.sub (W' := (· = D)) fun a h => .inl h
 have e' : Ev c'.C (· = D) No s1 { s1 with heap := h', toks := s1.toks + 1 } := by rw [hC]; exact e
 refine kk _ { S := ?_, nd := P.nd, loc := ⟨oL, hsb.extBut _ oL (Ne.symm hne) hoL, hcL⟩, ok := P.ok, acc := ⟨l ++ [(k, v)], rfl, by rw [dictB_snoc]; exact hr'⟩, hD := P.hD, since := P.since.trans e (fun a h => .inr (by subst h; exact P.hD.2)) (fun _ h => h.elim), str := P.str.ev e ap, hO := P.hO, hG := P.hG, hK := P.hK }
 exact P.S.step (R := fun a => qB a = 0 \/ qB a = 1) e' (fun a h => ⟨fun z => by subst h; have := P.hD.1; lia, fun o ho => ap.t a o h ho⟩) (fun _ h => h) .refl (P.S.col.ev e')
end
end
section
variable {c c' : Ac} {q qB : Addr -> Nat} {Z Z' U : Env1} {s s1 s' : Shared} {N : Env1 -> Prop} {R : AV -> Prop} {X : Prop}
theorem dcomp_loop {kx vx iter : Expr} {x : Str} {px : Pos} {scope : Scope} {pos : Pos} {it : Value} {D : Addr} {K : Addr -> Prop} {RR : Result -> Shared -> Prop} {kf vf : AV -> List UInt8} {xs0 : List AV} (hc : c'.EOk) (hC : c'.C = c.C) (hA : c'.A = c.A) (hn : c'.n = c.n) (hW : ∀ a, c'.W a -> Nw s a)
  (hx : c'.env.kindOf x = some .local) (hlen : xs0.length <= 100000) (hκ : ∀ y av, Z'.lookup y = some av -> av.okY = true)
  (ht : ∀ y ∈ xs0, y.nl = true /\ EV c' Z' [(x, y)] kx (.bytes (kf y)) /\ EV c' Z' [(x, y)] vx (.bytes (vf y)))
  (hRR : ∀ s', Cf c c'.env.locals s (DctA c.C) D (xs0.map fun y => kvA (kf y, vf y)) s' -> RR (.ok .next) s')
  {xs : List AV} {l : KV} {O : Addr -> Prop} {OG : Nat -> Prop} (hρ : U = [] \/ ∃ y, U = [(x, y)]) (P : Cp c c' Z' q s K it (DctA c.C) D xs (l.map kvA) U qB O OG s1) (hxs : ∃ pre, xs0 = pre ++ xs /\ l = pre.map fun y => (kf y, vf y)) :
  codeAny (model c.C.prog c.C.w) c.A (.compLoop (.DictComp kx vx [⟨.Name x px, iter, [], 0⟩] scope pos) 0 it (.ref D) c'.env) RR s1 := by
 obtain ⟨cC, cA, ce, cf, cn, cW⟩ := c'
 obtain rfl : cC = c.C := hC
 obtain rfl : cA = c.A := hA
 obtain rfl : cn = c.n := hn
 let d : Ac := ⟨c.C, c.A, ce, cf, c.n, cW⟩
 change d.EOk at hc
 change Cp c d Z' q s K it (DctA c.C) D xs (l.map kvA) U qB O OG s1 at P
 change ∀ y ∈ xs0, y.nl = true /\ EV d Z' [(x, y)] kx (.bytes (kf y)) /\ EV d Z' [(x, y)] vx (.bytes (vf y)) at ht
 obtain ⟨I, mk, el⟩ : ∃ I : Nat -> Shared -> Prop, (∀ n s', (∃ xs l U q' O OG, n = xs.length /\ (U = [] \/ ∃ y, U = [(x, y)]) /\ Cp c d Z' q s K it (DctA c.C) D xs (l.map kvA) U q' O OG s' /\ ∃ pre, xs0 = pre ++ xs /\ l = pre.map fun y => (kf y, vf y)) -> I n s') /\ ∀ n s', I n s' -> ∃ xs l U q' O OG, n = xs.length /\ (U = [] \/ ∃ y, U = [(x, y)]) /\ Cp c d Z' q s K it (DctA c.C) D xs (l.map kvA) U q' O OG s' /\ ∃ pre, xs0 = pre ++ xs /\ l = pre.map fun y => (kf y, vf y) := ⟨_, fun _ _ h => h, fun _ _ h => h⟩
 refine codeAny_compLoop_testsD I ?_ xs.length (mk _ _ ⟨xs, l, U, qB, O, OG, rfl, hρ, P, hxs⟩)
 intro n s2 hi
 replace hi := el _ _ hi
 clear el P
 obtain ⟨xs, l, U, qD, O, OG, rfl, hρ, P, pre, hpre, rfl⟩ := hi
 have F2 := P.S.fx hc
 have room : Room c.n c.A := hc.room
 have hok : c.C.Ok := hc.C
 cases xs with
 | nil =>
  refine P.str.2 s2 No No .refl .no _ _ room F2 _ _ (fun _ s3 eH => ?_) (fun z => by cases z)
  rw [List.append_nil] at hpre
  subst hpre
  have := P.fin (by rfl) hW eH
  rw [List.map_map] at this
  exact hRR s3 this
 | cons y xs =>
  refine P.str.2 s2 No No .refl .no _ _ room F2 _ _ fun v s3 O3 OG3 eH r0 hO3 hG3 hs3 => ?_
  refine E11 (P.step (by rfl) eH hO3 hG3 hs3) fun qH P3 => ?_
  refine E03 (ht y (by rw [hpre]; simp)) fun hy hek hev => ?_
  refine wpAny_assign_Name (P3.store hc (by rfl) (by rfl) hW hκ hx r0 hy fun s4 P4 => ?_)
  have hup : up x y U = [(x, y)] := by
   rcases hρ with rfl | ⟨z, rfl⟩
   ·rfl
   ·simp [up]
  rw [hup] at P4
  refine ct_nil (c := d) (Z := Z') (U := [(x, y)]) qH s4 P4.S fun s5 e5 => ?_
  have P5 := P4.ev (by rfl) e5
  have hpre' : xs0 = (pre ++ [y]) ++ xs := by rw [hpre]; simp
  rw [if_pos rfl]
  refine hek qH s5 P5.S fun w₁ s6 e6 r6 => ?_
  refine E11 (de_bytes r6) ?_; rintro tB rfl
  have P6 := P5.ev (by rfl) e6
  refine hev qH s6 P6.S fun w2 s7 e7 r7 => ?_
  refine E11 (de_bytes r7) ?_; rintro tD rfl
  have P7 := P6.ev (by rfl) e7
  have hl : (pre.map fun y => (kf y, vf y)).length <= 100000 := by
   have h2 : pre.length <= xs0.length := by rw [hpre]; simp
   simp; lia
  refine P7.put hok (by rfl) hl fun s8 P8 => ?_
  exact ⟨xs.length, by simp, mk _ _ ⟨xs, _, _, qH, O3, OG3, rfl, .inr ⟨y, rfl⟩, P8, pre ++ [y], hpre', by simp⟩⟩
theorem dcomp_core {kx vx iter : Expr} {x : Str} {px : Pos} {scope : Scope} {cl : List (Str × Addr)} {pos : Pos} {kf vf : AV -> List UInt8} {xs : List AV} (hc : c.EOk) (S : St c q Z U s) (hI : EI c Z U iter xs) (ok : CompOk c scope cl Z Z' x)
  (hlen : xs.length <= 100000) (hκ : ∀ y av, Z'.lookup y = some av -> av.okY = true)
  (ht : ∀ c' : Ac, c'.EOk -> c'.C = c.C -> c'.n = c.n -> c'.env.scope = relabel scope c.env -> ∀ y ∈ xs, y.nl = true /\ EV c' Z' [(x, y)] kx (.bytes (kf y)) /\ EV c' Z' [(x, y)] vx (.bytes (vf y)))
  {RR : Value -> Addr -> Result -> Shared -> Prop} {E : VP} (hRR : ∀ D L s', Cf c L s (DctA c.C) D (xs.map fun y => kvA (kf y, vf y)) s' -> RR (.ref D) L (.ok .next) s') :
  wpAny (model c.C.prog c.C.w) c.A (eval iter c.env) (fun xv s1 => wpAny (model c.C.prog c.C.w) c.A (pyIter xv) (fun it s2 => wpAny (model c.C.prog c.C.w) c.A newDict (fun acc s3 =>
   wpAny (model c.C.prog c.C.w) c.A (newFunctionEnv scope c.env.globals cl [] c.env.qual none .none (some c.env)) (fun cenv s4 =>
    codeAny (model c.C.prog c.C.w) c.A (.compStart (.DictComp kx vx [⟨.Name x px, iter, [], 0⟩] scope pos) 0 it acc { cenv with scope := relabel scope c.env }) (RR acc cenv.locals) s4) E s3) E s2) E s1) E s := by
 refine hI q s S _ _ fun it s2 O K eD hO hK hstr hself => ?_
 have S2 := S.ev eD
 refine wpAny_newObj_type (newEnvD ok.cell fun h' hh => ?_)
 subst hh
 dsimp only
 have eH : Ev c.C No No s2 { s2 with heap := s2.heap.push { cls := .type "dict", dict := none, data := .dict #[] } } := .keep fun _ _ e => gP _ e
 generalize hs3 : ({ s2 with heap := s2.heap.push { cls := .type "dict", dict := none, data := .dict #[] } } : Shared) = s3 at eH
 have hh3 : s2.heap.push { cls := .type "dict", dict := none, data := .dict #[] } = s3.heap := by rw [<- hs3]
 rw [hh3]
 have eJ : Ev c.C No No s3 { s3 with heap := s3.heap.push { cls := .type "dict", data := .dict #[] } } := .keep fun _ _ e => gP _ e
 have hs4 : ({ s2 with heap := s3.heap.push { cls := .type "dict", data := .dict #[] } } : Shared) = { s3 with heap := s3.heap.push { cls := .type "dict", data := .dict #[] } } := by rw [<- hs3]
 rw [hs4]
 generalize hs4' : ({ s3 with heap := s3.heap.push { cls := .type "dict", data := .dict #[] } } : Shared) = s4 at eJ
 have e24 := eH.tr eJ
 have e04 := eD.tr e24
 have S3 := S2.ev eH
 have S4 := S3.ev eJ
 have hDget : s4.heap.get? s2.heap.objs.size = some { cls := .type "dict", dict := none, data := .dict #[] } := by
  rw [<- hs4']
  refine gP _ ?_
  show s3.heap.get? _ = _
  rw [<- hh3]
  exact Heap.get?_push_size _ rfl
 have hLget : s4.heap.get? s3.heap.objs.size = some { cls := .type "dict", data := .dict #[] } := by
  rw [<- hs4']
  exact Heap.get?_push_size _ rfl
 have hDsys : s2.heap.objs.size ≠ sysModules := fun z => by
  obtain ⟨_, h58, a1, a2, a3, a4, a5, a6, a7, a8, a9, b1, b2, b3, b4, b5, rfl⟩ := (S2.base.pe hc.C).c58
  have h1 := Heap.lt_size h58
  rw [z] at h1
  exact absurd h1 (by decide)
 have hDn : Nw s s2.heap.objs.size := eD.gone (get_fresh _)
 have hLn : Nw s s3.heap.objs.size := (eD.tr eH).gone (get_fresh _)
 have hne : s2.heap.objs.size ≠ s3.heap.objs.size := by
  rw [<- hh3, Heap.size_push]; exact Nat.ne_of_lt (Nat.lt_succ_self _)
 have str4 := hstr.ev e24 .no
 have owJ := str4.owns
 have exO : ∀ a, O a -> a ≠ s2.heap.objs.size /\ a ≠ s3.heap.objs.size := fun a h => by
  obtain ⟨_, o, ho, _⟩ := hstr.owns.o a h
  refine ⟨Nat.ne_of_lt (Heap.lt_size ho), fun z => ?_⟩
  subst z
  have := eH.gone (get_fresh s3.heap)
  rw [ho] at this; cases this
 have exK : ∀ a, K a -> a ≠ s2.heap.objs.size := fun a h => by
  refine E12 (hstr.owns.k a h) fun o ho _ => ?_
  exact Nat.ne_of_lt (Heap.lt_size ho)
 have exKL : ∀ a, K a -> a ≠ s3.heap.objs.size := fun a h z => by
  refine E12 (hstr.owns.k a h) fun o ho _ => ?_
  subst z
  have := eH.gone (get_fresh s3.heap)
  rw [ho] at this; cases this
 have old : ∀ a o, s.heap.get? a = some o -> recol (· = s2.heap.objs.size) 3 (recol O 2 q) a = q a := fun a o h => by
  have h' : ¬ Nw s a := fun z => by have z' : s.heap.get? a = none := z; rw [h] at z'; cases z'
  rw [recol_out fun z => h' (by rw [z]; exact hDn), recol_out fun z => h' (hO a z)]
 have c'ok : (compC c scope cl s3.heap.objs.size s).EOk := ⟨hc.C, hc.room, hc.frames, ok.kind, hc.g, hc.b⟩
 have P : Cp c (compC c scope cl s3.heap.objs.size s) Z' q s K it (DctA c.C) s2.heap.objs.size xs [] [] (recol (· = s2.heap.objs.size) 3 (recol O 2 q)) O No s4 := {
  S := {
   base := S4.base
   col := fun a h => by
    rcases recol_ne h with z | z
    ·subst z; exact ⟨S2.base.gone (get_fresh _), _, hDget, by simp, by simp⟩
    ·rcases recol_ne z with z | z
     ·exact owJ.o a z
     ·exact S4.col a z
   new := fun a h => e04.gone h
   loc := ⟨fun _ => none, ⟨_, #[], 0, hLget, rfl, fun _ he => by simp at he, fun _ => rfl⟩, fun x av h => by simp [List.lookup] at h⟩
   cel := fun y av h => by
    refine E03 (ok.cells y av h) fun h1 h2 h3 => ?_
    obtain ⟨_, a, o, v, h4, h5, h6, h7, r⟩ := S.cel y av h1
    refine E12 (e04.sim S.base h6 (by rw [h7]; nofun) id) fun o' ho' z => ?_
    refine ⟨h2, a, o', v, h3.trans h4, (old a o h6).trans h5, ho', z.2.2.1.trans h7, r.mono (R := fun _ => True) (e04.kept S.base .no) (fun _ _ _ _ _ => trivial) old⟩
   frs := S4.frs
   frf := S4.frf
   own := ⟨S.base.gone hLn, ((recol_out (O := (· = s2.heap.objs.size)) (Ne.symm hne)).trans ((recol_out fun z => (exO _ z).2 rfl).trans (S.fr _ hLn).1)), hLn⟩ }
  nd := fun x av h => by simp [List.lookup] at h
  loc := ⟨_, hLget, rfl⟩
  ok := dctA_ok _
  acc := ⟨[], rfl, hDsys, [], (Heap.DictOf.new (knd := byK c.C.prog c.C.w) s2.heap).at (fun o ho => by rw [Heap.get?_push_size _ rfl] at ho; cases ho; exact hDget), rfl, by show RepL _ _ [] []; rw [RepL]; trivial⟩
  hD := ⟨recol_in rfl, hDn⟩
  since := e04
  str := str4
  hO := fun a h => ⟨(recol_out (O := (· = s2.heap.objs.size)) (exO a h).1).trans (recol_in h), hO a h⟩
  hG := fun _ h => h.elim
  hK := fun a h => ⟨(recol_out (O := (· = s2.heap.objs.size)) (exK a h)).trans ((recol_out (hK a h).2).trans (hK a h).1), exKL a h⟩ }
 have loop : ∀ s5, Ev c.C No No s4 s5 -> codeAny (model c.C.prog c.C.w) c.A (.compLoop (.DictComp kx vx [⟨.Name x px, iter, [], 0⟩] scope pos) 0 it (.ref s2.heap.objs.size) (compEnvC scope cl s3.heap.objs.size c.env)) (RR (.ref s2.heap.objs.size) s3.heap.objs.size) s5 := fun s5 e5 =>
  dcomp_loop (c' := compC c scope cl s3.heap.objs.size s) c'ok rfl rfl rfl (fun _ h => h) (lookup_relabel_local ok.hx) hlen hκ (ht _ c'ok rfl rfl rfl) (fun s' h => hRR _ _ s' h) (.inl rfl) (l := []) (P.ev (by rfl) e5) ⟨[], rfl, rfl⟩
 exact codeAny_compStart_dict (loop s4 .refl) (hself s4 e24 _ _ (loop s4 .refl))
end
section
variable {c c' : Ac} {q qB : Addr -> Nat} {Z Z' U : Env1} {s s1 s' : Shared} {N : Env1 -> Prop} {R : AV -> Prop} {X : Prop}
theorem comp_tail (hc : c.Ok) (S : St c q Z U s) {y : Str} {py : Pos} {L D : Addr} {F : List AV -> Heap -> Addr -> Prop} {ys : List AV} {av : AV} {Q : Flow -> Shared -> Prop} {E : VP} (h : Cf c L s F D ys s') (r : Rp c.C (recol (· = L) 3 q) s'.heap av (.ref D)) (how : av.ow = true -> ∀ a, Value.ref D = .ref a -> c.W a) (hy : c.env.kindOf y = some .local) (o : Out c Z q s (· = up y av U) R X Q E) :
  compPost (model c.C.prog c.C.w) c.A E (some (assign (.Name y py) c.env)) (fun _ s' => Q .next s') (.ref D) L (.ok .next) s' := by
 refine E11 h.ns fun m hm => ?_
 refine E12 h.loc fun oL hoL hcL => ?_
 have hLn := S.base.gone h.hL
 have ag : Agree s.heap q (recol (· = L) 3 q) := fun a o ho => recol_out fun z => by subst z; have := h.hL; unfold Nw at this; rw [ho] at this; cases this
 have S' : St c (recol (· = L) 3 q) Z U s' := S.step (R := fun _ => True) h.since .no (fun _ _ => trivial) ag fun a ha => by
  rcases recol_ne ha with z | z
  ·subst z; exact ⟨hLn, oL, hoL, by rw [hcL]; simp, by rw [hcL]; simp⟩
  ·exact (S.col.ev h.since) a z
 refine E12 (S'.locC hc) fun oF hoF hcF => ?_
 have hneF : L ≠ c.env.locals := fun z => by subst z; rw [hoL] at hoF; cases hoF; rw [hcL] at hcF; exact absurd hcF (by simp)
 refine wpAny_assign_Name (S'.store hc hy r how fun s2 eD S2 => ?_)
 have hmD : s2.heap.Ns L m := ns_sim hm fun ob hob => eD.kp L ob hob hneF (Base.noT hc.C hLn)
 refine ⟨m, hmD, fun h' hsb => ?_⟩
 refine E13 (eD.al L oL hoL) fun oL2 hoL2 zL2 _ => ?_
 have hcL2 := zL2.trans hcL
 have e02 : Ev c.C (· = c.env.locals) No s s2 := (h.since.up (W := (· = c.env.locals)) (G := No)).tr eD
 have eAll := e02.freshBut hc.C hsb h.hL hLn ⟨oL2, hoL2, by rw [hcL2]; simp⟩
 have kp : Kept (fun a => a ≠ L) s2.heap h' := fun a o ho hd hcc => ⟨o, hsb.extBut a o (fun z => by
  subst z
  rw [hoL2] at ho; cases ho
  rcases hcc with hcc | hcc | hcc
  ·rw [hcL2] at hcc; exact absurd hcc (by simp)
  ·rw [hcL2] at hcc; exact absurd hcc (by simp)
  ·exact hcc rfl) ho, .refl o⟩
 have neL : ∀ a, recol (· = L) 3 q a = 0 \/ recol (· = L) 3 q a = 1 -> a ≠ L := fun a h z => by subst z; have h3 : recol (· = a) 3 q a = 3 := recol_in rfl; lia
 have mono : ∀ av v, Rp c.C (recol (· = L) 3 q) s2.heap av v -> Rp c.C q h' av v := fun av v r => r.mono' kp (fun a _ _ _ h => neL a h) (fun a _ _ h => (recol_out (O := (· = L)) (neL a h)).symm)
 have ex : ∀ a o, s2.heap.get? a = some o -> a ≠ L -> h'.get? a = some o := fun a o ho hne => hsb.extBut a o hne ho
 refine o.n q _ _ rfl .refl (eAll.loc S) ?_
 exact {
  base := eAll.bs S.base
  col := S.col.ev eAll
  new := fun a ha => S.new a (eAll.gone ha)
  loc := by
   refine E12 S2.loc fun mm hn hv => ?_
   refine E33 hn ?_; clear hn; intro on es ep hon hdn hr
   refine ⟨mm, ⟨on, es, ep, ex _ _ hon (Ne.symm hneF), hdn, hr⟩, fun x av hx => ?_⟩
   obtain ⟨hk, v, hv1, r, ow⟩ := hv x av hx
   exact ⟨hk, v, hv1, mono av v r, ow⟩
  cel := fun x av hx => by
   obtain ⟨hk, a, oc, v, h1, h2, h3, h4, r⟩ := S2.cel x av hx
   have hne := neL a (.inl h2)
   exact ⟨hk, a, oc, v, h1, (recol_out (O := (· = L)) hne).symm.trans h2, ex a oc h3 hne, h4, mono av v r⟩
  frs := frs_al eAll.al S.frs
  frf := S.frf.al eAll.al
  own := S.own }
theorem s_dcomp {kx vx iter : Expr} {x y : Str} {px py : Pos} {scope : Scope} {cl : List (Str × Addr)} {pos spos : Pos} {kf vf : AV -> List UInt8} {xs : List AV} (hc : c.Ok) (hI : EI c Z U iter xs) (ok : CompOk c scope cl Z Z' x)
  (hlen : xs.length <= 100000) (hκ : ∀ y av, Z'.lookup y = some av -> av.okY = true)
  (ht : ∀ c' : Ac, c'.EOk -> c'.C = c.C -> c'.n = c.n -> c'.env.scope = relabel scope c.env -> ∀ y ∈ xs, y.nl = true /\ EV c' Z' [(x, y)] kx (.bytes (kf y)) /\ EV c' Z' [(x, y)] vx (.bytes (vf y)))
  (hy : c.env.kindOf y = some .local) (hsw : swapsWith (.DictComp kx vx [⟨.Name x px, iter, [], 0⟩] scope pos) (some (.Name y py)) spos.line c.env = pure true)
  (hs : ∀ x, foldedSetIterable iter c.env x = pure x := by intro _; rfl) : S1 c Z U (.Assign [.Name y py] (.DictComp kx vx [⟨.Name x px, iter, [], 0⟩] scope pos) spos) (· = up y (.dict (dictB (xs.map fun y => (kf y, vf y)))) U) R X := fun q s S Q E o => by
 rw [exec_Assign_Name_used _ _ _ _ hsw]
 refine wB (wpAny_standAt (wB ?_))
 show wpAny _ c.A (do let _ <- comprehension (.DictComp kx vx [⟨.Name x px, iter, [], 0⟩] scope pos) scope c.env _ newDict false (eval iter c.env) (some (assign (.Name y py) c.env))) _ _ s
 refine wB (wpAny_mono (wpAny_comprehension_free (use := some (assign (.Name y py) c.env)) (Q := fun _ s' => Q .next s') rfl hs ok.clos ok.kind ok.names
  (dcomp_core (RR := fun acc L => compPost _ _ E (some (assign (.Name y py) c.env)) (fun _ s' => Q .next s') acc L) hc.e S hI ok hlen hκ ht fun D L s' h => ?_)) (fun _ s' hq => wP (wP hq)) fun _ _ e => e)
 refine E12 (id h.acc) fun l he hr => ?_
 have hll : (xs.map fun y => (kf y, vf y)) = l := by
  rw [show (xs.map fun y => kvA (kf y, vf y)) = (xs.map fun y => (kf y, vf y)).map kvA from by rw [List.map_map]; rfl] at he
  exact kvA_inj _ _ he
 subst hll
 exact comp_tail hc S h (hr.rp ((recol_out (O := (· = L)) h.hne).trans (S.fr _ h.hD).1)) (fun z => by cases z) hy o
end
section
variable {prog : Program} {w : World} {K : Type} [DecidableEq K] {knd : KeyKind prog w K} {A : Around} {E : VP} {s : Shared}
theorem dict_end {it d : Addr} {i ep : Nat} {kvs : List (K × Value)} {Q : Option Value -> Shared -> Prop} (hh : A.handled = none) (hit : s.heap.IsKeyIter it d i kvs.length ep) (hm : s.heap.DictAt knd d kvs ep) (hx : kvs[i]? = none)
  (hQ : ∀ h', Heap.ExtBut it s.heap h' -> (∃ o, h'.get? it = some o /\ ∀ o', s.heap.get? it = some o' -> o.cls = o'.cls) -> Q none { s with heap := h' }) : wpAny (model prog w) A (pyNext (.ref it)) Q E s := by
 refine E13 (id hit) fun o ho hc hd => ?_
 refine E26 (id hm) fun od es hod hcd hdd hk hp hn => ?_
 have hsz : es.size = kvs.length := by rw [<- hp.length]; simp
 have hge : es.size <= i := by rw [hsz]; simpa using hx
 unfold pyNext
 refine wB (wpAny_attempt (wpAny_callSpecial?_slot (name := ofString "__next__") hit.typeIs F.slot_dict_keyiterator_next
  (wpAny_call_entry F.slot_dict_keyiterator_next hit.typeIs F.entry_dict_keyiterator_next ?_ (F.args_dict_keyiterator_next_1 _))))
 refine wB (wP (wB (wB ?_)))
 first | refine wB (wpAny_typeNameOfWhole_keyiter hit.typeIs (wP ?_)) | refine wB (wpAny_typeNameOf_keyiter hit.typeIs (wP ?_))
 refine wB (wpAny_fieldsOf ho hd ?_)
 rw [show Builtin.Dict_items.ownsTuple "dict_keyiterator" = false from by decide]
 show wpAny _ _ (if (Value.ref d == Value.none) = true then _ else _) _ _ s
 refine wpEq (if_neg (show ¬ ((Value.ref d == Value.none) = true) from fT)) ?_
 refine wB (wP (wB (wpAny_dictEntries hod hdd ?_)))
 rw [if_neg (by rw [hsz]; simp)]
 refine wB (wP (wB (wpAny_dictEpoch hod hdd ?_)))
 refine wpEq (if_neg (by simp)) ?_
 refine wP ?_
 dsimp only
 rw [if_neg (show ¬ ((i : Int) < 0) from by lia), Int.toNat_natCast, Array.getElem?_eq_none hge]
 refine wB ?_
 first | refine wB (wpAny_typeNameOfWhole_keyiter hit.typeIs (wP ?_)) | refine wB (wpAny_typeNameOf_keyiter hit.typeIs (wP ?_))
 show wpAny _ _ (setField (.ref it) 0 .none >>= _) _ _ s
 refine wB (wpAny_setField ho hd (by simp) ?_)
 show wpAny _ _ (newExc (.type "StopIteration") [] >>= _) _ _ _
 refine wB ?_
 unfold newExc newTuple
 refine wB (wpAny_newObj_type ?_ (by size_fits))
 refine wB (m := firstArgMember _ _) (wpAny_of_eq (a := Value.none) (by first | rfl | (simp only [firstArgMember]; rfl)) ?_)
 refine wpAny_newObj_type ?_ (by size_fits)
 unfold raiseNew
 refine wB (wpAny_handled ?_)
 first | rw [show A.in1.handled = none from hh] | rw [hh]
 refine wB (wP (wpAny_throw ?_))
 refine wB (wpAny_isInstance (T := "StopIteration") (b := true) ⟨_, Heap.get?_push_size _ rfl, rfl⟩ isSubtype_stop ?_)
 refine wP (hQ _ (((Heap.SameBut.update ..).extBut.push _).push _) ⟨_, gP _ (gP _ (Heap.get?_update_self _ ho (Obj.isFreed_of_fields (Obj.data_mapFields hd _)))), fun o' ho' => ?_⟩)
 rw [ho] at ho'; cases ho'
 exact Obj.cls_mapFields ..
end
section
variable {C : Cx} {n : Nat} {K O W : Addr -> Prop} {OG G : Nat -> Prop} {s s1 s2 : Shared}
theorem DictAt.cls {prog : Program} {w : World} {h : Heap} {d : Addr} {kvs : List (List UInt8 × Value)} {ep : Nat} (x : h.DictAt (byK prog w) d kvs ep) : ∃ o, h.get? d = some o /\ o.cls = .type "dict" := by
 refine E23 x ?_; clear x; intro o es ho hx _
 exact ⟨o, ho, hx.1⟩
theorem dict_str (hc : C.Ok) {it d : Addr} {kvs : List (List UInt8 × Value)} {ep : Nat} : ∀ (zs : List (List UInt8 × Value)) (i : Nat) (s : Shared), kvs.drop i = zs -> Base C s.heap -> s.heap.IsKeyIter it d i kvs.length ep -> s.heap.DictAt (byK C.prog C.w) d kvs ep -> C.h₁.get? it = none -> O it -> K d -> d ≠ it -> Owns C O K OG s -> StrS C n false K (.ref it) (zs.map fun p => .bytes p.1) O OG s := by
 have main : ∀ i (s : Shared), Base C s.heap -> s.heap.IsKeyIter it d i kvs.length ep -> s.heap.DictAt (byK C.prog C.w) d kvs ep -> C.h₁.get? it = none -> O it -> K d -> ∀ s1 W G, Ev C W G s s1 -> Apart O K W OG G s.heap -> s1.heap.IsKeyIter it d i kvs.length ep /\ s1.heap.DictAt (byK C.prog C.w) d kvs ep := by
  intro i s B hit hd hn hO hK s1 W G e ap
  refine E13 hit ?_; clear hit; intro o ho hcl hdt
  refine E12 (e.kp it o ho (fun h => (ap.o it h).1 hO) (Base.noT hc hn)) fun o' ho' z => ?_
  refine E12 (DictAt.cls hd) fun od hod hcd => ?_
  refine E12 (e.kp d od hod (fun h => (ap.o d h).2 hK) (notT_cls B hod (by rw [hcd]; nofun))) fun od' hod' zd => ?_
  refine ⟨⟨o', ho', z.1.trans hcl, z.2.2.1.trans hdt⟩, hd.at' fun o2 ho2 => ?_⟩
  rw [hod] at ho2; cases ho2
  rw [hod', zd.eq (by rw [hcd]; simp)]
 intro zs
 induction zs with
 | nil =>
  intro i s hb B hit hd hn hO hK hne ow
  have hlen : kvs.length <= i := by have := congrArg List.length hb; simp at this; lia
  refine ⟨ow, fun s1 W G e ap A fl hr F Q E hQ _ => ?_⟩
  refine E02 (main i s B hit hd hn hO hK s1 W G e ap) fun hit1 hdB => ?_
  refine dict_end hr.h hit1 hdB (by simp; lia) fun h' hx ⟨o', ho', hcl⟩ => ?_
  refine E13 hit1 ?_; clear hit1; intro o ho hcI hdt
  exact hQ rfl _ (Ev.iter hc (tk := s1.toks) ho hdt (by rw [hcI]; simp) hn hx ho' (hcl o ho) hO)
 | cons x xs ih =>
  intro i s hb B hit hd hn hO hK hne ow
  have hlt : i < kvs.length := by
   rcases Nat.lt_or_ge i kvs.length with h | h
   ·exact h
   ·rw [List.drop_of_length_le h] at hb; cases hb
  have h1 : kvs[i]? = some x := by have := congrArg (·[0]?) hb; simpa using this
  have h2 : kvs.drop (i + 1) = xs := by have := congrArg List.tail hb; simpa using this
  refine ⟨ow, fun s1 W G e ap A fl hr F Q E hQ => ?_⟩
  refine E02 (main i s B hit hd hn hO hK s1 W G e ap) fun hit1 hdB => ?_
  obtain ⟨xk, xv⟩ := x
  refine wpAny_pyNext_dict_item hit1 hdB h1 fun key h' hkey hit' hsb => ?_
  refine E11 (isB_shape hkey) ?_; rintro t rfl
  refine E13 hit1 ?_; clear hit1; intro o ho hcl hdt
  have hcI := hcl
  refine E13 (id hit') fun o' ho' hcl' hdt' => ?_
  have eD : Ev C O OG s1 { s1 with heap := h' } := Ev.iter hc (tk := s1.toks) ho hdt (by rw [hcI]; simp) hn hsb.extBut ho' (hcl'.trans hcl.symm) hO
  refine hQ _ _ O OG eD (by unfold R0; rw [Rep]; exact ⟨_, rfl⟩) (fun _ h => .inl h) (fun _ h => .inl h) ?_
  exact ih (i + 1) { s1 with heap := h' } h2 (eD.bs F.base) hit' (hdB.extBut hsb.extBut hne) hn hO hK hne ((ow.ev e).ev eD)
end
section
variable {c : Ac} {q : Addr -> Nat} {Z U : Env1} {s s' : Shared}
theorem ei_dict (hc : c.EOk) {e : Expr} {kvs : KV} (h : EV c Z U e (.dict kvs)) : EI c Z U e (kvs.map fun p => .bytes p.1) := fun q s S Q E k => by
 refine h q s S fun v s1 ew rB => ?_
 have SB := S.ev ew
 refine E26 rB ?_; clear rB; rintro d vvs rfl hq hd hk _ hsy
 refine E11 hd.dictAt fun ep ha => ?_
 have hds : (d == sysModules) = false := beq_eq_false_iff_ne.mpr hsy
 refine wpAny_pyIter_dict hds ha ?_
 refine E12 (DictAt.cls ha) fun od hod hcd => ?_
 let ob : Obj := { cls := .type "dict_keyiterator", data := .fields #[.ref d, .int 0 0, .int vvs.length 0, .int ep 0] }
 have eD : Ev c.C No No s1 { s1 with heap := s1.heap.push ob } := .keep fun _ _ e => gP _ e
 have hne : d ≠ s1.heap.objs.size := Nat.ne_of_lt (Heap.lt_size hod)
 have hit := Heap.get?_push_size s1.heap (o := ob) rfl
 have hnew := SB.base.gone (get_fresh s1.heap)
 have hkey : (kvs.map fun p => AV.bytes p.1) = (vvs.drop 0).map fun p => .bytes p.1 := by
  have e1 : (kvs.map fun p => AV.bytes p.1) = (kvs.map (·.1)).map .bytes := by rw [List.map_map]; rfl
  have e2 : ((vvs.drop 0).map fun p => AV.bytes p.1) = (vvs.map (·.1)).map .bytes := by rw [List.drop_zero, List.map_map]; rfl
  rw [e1, e2, hk]
 rw [hkey] at k
 refine k _ _ (· = s1.heap.objs.size) (· = d) (ew.tr eD) (fun a h => by subst h; exact ew.gone (get_fresh _)) (fun a h => by subst h; exact ⟨hq, hne⟩) ?_ fun s3 eH Q E hQ => ?_
 ·exact dict_str hc.C vvs 0 _ rfl (SB.ev eD).base ⟨_, hit, rfl, rfl⟩ (ha.push _) hnew rfl rfl hne ⟨fun a h => by subst h; exact ⟨hnew, _, hit, by simp [ob], by simp [ob]⟩, fun a h => by subst h; exact ⟨od, gP _ hod, .inr hcd⟩, fun _ h => h.elim⟩
 ·refine E12 (eH.simF hc.C hit hnew) fun o' ho' z => ?_
  exact wpAny_pyIter_keyiter (d := d) (i := 0) (n := vvs.length) (ep := ep) ⟨o', ho', z.1, z.2.2.1⟩ hQ
end
noncomputable def valueB (kvs : KV) (k : List UInt8) : Option (List UInt8) := (kvs.find? fun kv => kv.1 = k).map (·.2)
theorem valueAt_rep {q : Addr -> Nat} {h : Heap} {k : List UInt8} : ∀ {vvs : List (List UInt8 × Value)} {kvs : KV}, vvs.map (·.1) = kvs.map (·.1) -> RepL q h (kvs.map fun p => .bytes p.2) (vvs.map (·.2)) -> (∀ v, valueB kvs k = some v -> ∃ t, valueAt vvs k = some (.bytes ⟨v⟩ t)) /\ (valueB kvs k = none -> valueAt vvs k = none)
 | [], [], _, _ => ⟨fun v h => by simp [valueB] at h, fun _ => rfl⟩
 | [], _ :: _, he, _ => by simp at he
 | _ :: _, [], he, _ => by simp at he
 | w :: vvs, p :: kvs, he, r => by
  simp only [List.map_cons, List.cons.injEq] at he
  simp only [List.map_cons] at r
  rw [RepL] at r
  refine E02 (valueAt_rep (k := k) he.2 r.2) fun i1 i2 => ?_
  have hr := r.1
  rw [Rep] at hr
  refine E11 hr ?_; clear hr; intro t ht
  unfold valueB valueAt at *
  by_cases hk : p.1 = k
  ·have hk' : w.1 = k := he.1.trans hk
   simp only [List.find?_cons, hk, hk', decide_true]
   exact ⟨fun v hv => by cases hv; exact ⟨t, by rw [Option.map_some, ht]⟩, fun h => by cases h⟩
  ·have hk' : ¬ w.1 = k := fun z => hk (he.1.symm.trans z)
   simp only [List.find?_cons, hk, hk', decide_false]
   exact ⟨i1, i2⟩
section
variable {C : Cx} {A : Around}
theorem b_inDict {kvs : KV} {b : List UInt8} : Op2 C A (compareOp .In) (.bytes b) (.dict kvs) (.bool (valueB kvs b).isSome) := fun q s v u G r1 r2 Q E k => by
 refine E11 (de_bytes r1) ?_; rintro t rfl
 refine E26 r2 ?_; clear r2; rintro d vvs rfl _ hd hk hr hsy
 refine E02 (valueAt_rep (k := b) hk hr) fun h1 h2 => ?_
 refine wpAny_in_of (byK_is b t) (beq_eq_false_iff_ne.mpr hsy) hd.mapOf ?_
 have e : (valueAt vvs b).isSome = (valueB kvs b).isSome := by
  cases hb : valueB kvs b with
  | none => rw [h2 hb]; rfl
  | some v => refine E11 (h1 v hb) fun t' h => ?_; rw [h]; rfl
 rw [e]
 exact k _ _ tok1 rp_bool
theorem gi_dict {kvs : KV} {b v : List UInt8} (hv : valueB kvs b = some v) : GI C A (.dict kvs) (.bytes b) (.bytes v) := fun q s x u G r1 r2 => by
 refine E11 (de_bytes r2) ?_; rintro t rfl
 refine E26 r1 ?_; clear r1; rintro d vvs rfl _ hd hk hr hsy
 refine E11 ((valueAt_rep (k := b) hk hr).1 v hv) fun t' h => ?_
 exact ⟨"dict", _, slot_dict_getitem.lookup, hd.typeIs, fun k => wpAny_getItem_of (byK_is b t) hd.mapOf h (k _ _ tok1 rp_bytes)⟩
theorem nb_isNot {b : Bool} : Op2 C A (compareOp .IsNot) (.bool b) .none (.bool true) := v_isNot fun q h v r => by
 have := de_bool r
 subst this; rfl
end
section
variable {c : Ac} {Z U : Env1} {C : Cx}
theorem ev_blk (hc : c.EOk) (h1 : c.C = C) (T : Tp C) {p : Pos} (hk : c.env.kindOf (ofString "_law_blocks") = some .globalImplicit) : EV c Z U (.Name (ofString "_law_blocks") p) (.lst (blks.map flds)) := by
 subst h1
 refine E12 T.blk fun v h r => ?_
 refine ev_global hc h hk (fun q s G => .of_rep ?_) (by decide +kernel)
 refine Rep.mono (R := fun _ => True) (q := fun _ => 0) (q' := q) (h := c.C.h₁) (h' := s.heap) (fun a o ho hn _ => ⟨o, G.base.old a o ho fun ht => ?_, .refl o⟩) (fun _ _ _ _ _ => trivial) (fun a o ho _ => ?_) _ _ r
 ·refine E12 (List.mem_map.mp ht) ?_; rintro p hp rfl
  refine E14 (hc.C.base.tab p hp) ?_; rintro _ _ _ ⟨ps, _, t, _⟩ _
  rw [ho] at t; cases t; exact hn _ rfl
 ·by_cases z : q a = 0
  ·exact z
  ·have := (G.col a z).1
   rw [ho] at this; cases this
end
noncomputable def namesL : List (List UInt8) := [[88, 45, 65], [67, 111, 111, 107, 105, 101], [99, 111, 111, 107, 105, 101], [65, 117, 116, 104, 111, 114, 105, 122, 97, 116, 105, 111, 110], [112, 114, 111, 120, 121, 45, 97, 117, 116, 104, 111, 114, 105, 122, 97, 116, 105, 111, 110], [67, 111, 110, 110, 101, 99, 116, 105, 111, 110], [107, 101, 101, 112, 45, 97, 108, 105, 118, 101], [116, 101], [72, 111, 115, 116], [58, 80, 97, 116, 104], [58, 115, 116, 97, 116, 117, 115], [58, 97, 117, 116, 104, 111, 114, 105, 116, 121], [85, 80, 71, 82, 65, 68, 69], [32, 120, 9], [97, 99, 99, 101, 112, 116], [116, 114, 97, 110, 115, 102, 101, 114, 45, 101, 110, 99, 111, 100, 105, 110, 103], [80, 114, 111, 120, 121, 45, 67, 111, 110, 110, 101, 99, 116, 105, 111, 110], [58, 120], [58, 112, 114, 111, 116, 111, 99, 111, 108], [58, 109, 101, 116, 104, 111, 100]]
noncomputable def valuesL : List (List UInt8) := [[97, 46, 98],
 [97, 61, 49, 59, 32, 98, 61, 50],
 [32, 99, 32],
 [],
 [116, 114, 97, 105, 108, 101, 114, 115],
 [9, 84, 114, 97, 105, 108, 101, 114, 115, 32],
 [120, 59, 32, 121, 59, 32, 122],
 [99, 59, 100],
 [48, 49, 50, 51, 52, 53, 54, 55, 56, 57, 48, 49, 50, 51, 52, 53, 54, 55, 56, 57],
 [48, 49, 50, 51, 52, 53, 54, 55, 56, 57, 48, 49, 50, 51, 52, 53, 54, 55, 56],
 [32, 59, 32, 97, 59, 32],
 [103, 122, 105, 112],
 [47],
 [50, 48, 48]]
noncomputable def lowC (c : UInt8) : UInt8 := if 65 <= c /\ c <= 90 then c + 32 else c
noncomputable def lowL (t : List UInt8) : List UInt8 := t.map lowC
noncomputable def wsp (c : UInt8) : Bool := ([9, 10, 11, 12, 13, 32] : List Int).contains (c.toNat : Int)
noncomputable def bareL (t : List UInt8) : List UInt8 := ((t.dropWhile wsp).reverse.dropWhile wsp).reverse
noncomputable def splitL : List UInt8 -> List UInt8 -> List (List UInt8)
 | cur, [] => [cur]
 | cur, [x] => [cur ++ [x]]
 | cur, x :: y :: r => if x = 59 /\ y = 32 then cur :: splitL [] r else splitL (cur ++ [x]) (y :: r)
noncomputable def crumbsL (t : List UInt8) : List (List UInt8) := splitL [] t
noncomputable def compChk (sc : Scope) (x : Str) : Bool := decide (sc.kind = .function) && sc.names.all (fun y => decide (y.2 ≠ .cell) && decide (y.2 ≠ .free) && (decide (y.2 ≠ .local) || decide (sc.names.lookup y.1 = some .local))) && decide (sc.names.lookup x = some .local)
theorem relabel_no {sc : Scope} {env : Env} (h : ∀ y ∈ sc.names, y.2 ≠ .free) : relabel sc env = sc := by
 obtain ⟨k, names, g, co, rest⟩ := sc
 unfold relabel
 have e : names.map (fun (n, k) => if (k == .free && env.scope.kind == .function && env.kindOf n == some .cell) = true then (n, NameKind.cell) else (n, k)) = names := by
  conv => rhs; rw [<- List.map_id names]
  refine List.map_congr_left fun y hy => ?_
  obtain ⟨n, k⟩ := y
  have : k ≠ .free := h (n, k) hy
  have hk : (k == NameKind.free) = false := by cases k <;> first | rfl | exact absurd rfl this
  simp [hk]
 show Scope.mk k (names.map _) g co rest = _
 rw [e]
theorem compChk_of {c : Ac} {Z : Env1} {sc : Scope} {x : Str} (hb : c.env.builtins = 0) (h : compChk sc x = true) : CompOk c sc [] Z [] x /\ relabel sc c.env = sc := by
 simp only [compChk, Bool.and_eq_true, decide_eq_true_eq, List.all_eq_true, Bool.or_eq_true] at h
 refine E02 h ?_; clear h; rintro ⟨h1, h2⟩ h3
 have nf : ∀ y ∈ sc.names, y.2 ≠ .free := fun y hy => (h2 y hy).1.2
 exact ⟨⟨closureFor_none nf, h1, fun y hy => (h2 y hy).1.1, fun y hy z => ((h2 y hy).2.resolve_left fun k => k z), h3, fun y av z => by simp [List.lookup] at z, hb⟩, relabel_no nf⟩
section
variable {c : Ac} {Z U : Env1} {N : Env1 -> Prop} {R : AV -> Prop} {X : Prop}
theorem ev_comp0 {elt iter : Expr} {x : Str} {px : Pos} {ifs : List Expr} {scope : Scope} {pos : Pos} (p : AV -> Bool) (f : AV -> AV) {xs : List AV} (hc : c.EOk) (hI : EI c Z U iter xs) (hk : compChk scope x = true) (hlen : xs.length <= 1000000)
  (ht : ∀ c' : Ac, c'.EOk -> c'.C = c.C -> c'.n = c.n -> c'.env.scope = scope -> ∀ y ∈ xs, y.nl = true /\ CT c' [] [(x, y)] ifs (p y) /\ (p y = true -> EV c' [] [(x, y)] elt (f y) /\ (f y).nl = true))
  (hs : ∀ x, foldedSetIterable iter c.env x = pure x := by intro _; rfl) : EV c Z U (.ListComp elt [⟨.Name x px, iter, ifs, 0⟩] scope pos) (.lst ((xs.filter p).map f)) := by
 refine E02 (compChk_of (Z := Z) hc.b hk) fun ok hr => ?_
 exact ev_comp hc hI ok hlen (fun y av z => by simp [List.lookup] at z) (fun c' h1 h2 h3 h4 => ht c' h1 h2 h3 (h4.trans hr)) hs
theorem s_comp0 {elt iter : Expr} {x y : Str} {px py : Pos} {ifs : List Expr} {scope : Scope} {pos spos : Pos} (p : AV -> Bool) (f : AV -> AV) {xs : List AV} (hc : c.Ok) (hI : EI c Z U iter xs) (hk : compChk scope x = true) (hlen : xs.length <= 1000000)
  (ht : ∀ c' : Ac, c'.EOk -> c'.C = c.C -> c'.n = c.n -> c'.env.scope = scope -> ∀ y ∈ xs, y.nl = true /\ CT c' [] [(x, y)] ifs (p y) /\ (p y = true -> EV c' [] [(x, y)] elt (f y) /\ (f y).nl = true))
  (hy : c.env.kindOf y = some .local) (hyn : (scope.names.any fun (n, k) => n == y && (k == .local || k == .cell)) = false := by decide +kernel) (hln : (py.line == pos.line) = true := by rfl)
  (hs : ∀ x, foldedSetIterable iter c.env x = pure x := by intro _; rfl) : S1 c Z U (.Assign [.Name y py] (.ListComp elt [⟨.Name x px, iter, ifs, 0⟩] scope pos) spos) (· = up y (.lst ((xs.filter p).map f)) U) R X := by
 refine E02 (compChk_of (Z := Z) hc.b hk) fun ok hr => ?_
 exact s_comp hc hI ok hlen (fun y av z => by simp [List.lookup] at z) (fun c' h1 h2 h3 h4 => ht c' h1 h2 h3 (h4.trans hr)) hy (swaps_comp hc.e hy hln hyn) hs
end
section
variable {C : Cx}
noncomputable def cB (x : List UInt8 × Nat × Pos) : Expr := .Constant (.bytes x.1) x.2.1 x.2.2
noncomputable def unB : Expr -> List UInt8 × Nat × Pos
 | .Constant (.bytes b) k p => (b, k, p)
 | _ => ([], 0, ⟨0, 0, 0, 0⟩)
noncomputable def retEs : List Stmt -> List Expr
 | [.Return (some (.List es _)) _] => es
 | _ => []
theorem evl_cB {c : Ac} {Z U : Env1} : ∀ l : List (List UInt8 × Nat × Pos), EVL c Z U (l.map cB) (l.map fun x => .bytes x.1)
 | [] => evl_nil
 | x :: l => evl_cons (e := cB x) (rest := l.map cB) ev_bytes (evl_cB l) rfl rfl
theorem body39 : ∃ p p', dBody (stA 39) = [.Return (some (.List (((retEs (dBody (stA 39))).map unB).map cB) p)) p'] := ⟨_, _, rfl⟩
theorem list39 : ((retEs (dBody (stA 39))).map unB).map (·.1) = namesL := by decide +kernel
theorem body40 : ∃ p p', dBody (stA 40) = [.Return (some (.List (((retEs (dBody (stA 40))).map unB).map cB) p)) p'] := ⟨_, _, rfl⟩
theorem list40 : ((retEs (dBody (stA 40))).map unB).map (·.1) = valuesL := by decide +kernel
theorem fc_table (T : Tp C) {a : Addr} {i : Nat} (h : (a, i) ∈ fnTab) {l : List (List UInt8 × Nat × Pos)} {t : List (List UInt8)} (ht : l.map (·.1) = t) (hb : ∃ p p', dBody (stA i) = [.Return (some (.List (l.map cB) p)) p']) (hg : (dScope (stA i)).isGenerator = false) (hc' : ∀ x ∈ (dScope (stA i)).names, x.2 ≠ .cell) (hp : dArgs (stA i) = ⟨[], [], none, [], [], none, []⟩) (hl : l.length <= 1000) : FC C 1 (.ref a) [] (· = .lst (t.map .bytes)) False := by
 refine E12 (T.fn (a, i) h) fun fd F _ => ?_
 refine E21 hb ?_; clear hb; intro p p' hb
 have F' := F.at'
 rw [hb] at F'
 refine fc_of T.ok F' (by rw [F.sc]; exact hg) (by rw [F.sc]; exact hc') (names := []) (bindW (bind0 (F.pa.trans hp) F.df)) rfl (by simp) (by simp) (by simp) (by simp) fun c hc h1 h2 h3 => ?_
 refine s_cons (N1 := fun _ => False) (s_return hc (ev_lst (xs := t.map .bytes) (by rw [<- ht, List.map_map]; exact evl_cB l) (by rw [<- ht]; simpa using hl)) rfl) fun _ h => h.elim
theorem fc_names (T : Tp C) : FC C 1 (.ref 363) [] (· = .lst (namesL.map .bytes)) False := fc_table T (by decide) list39 body39 (by decide +kernel) (by decide +kernel) rfl (by decide +kernel)
theorem fc_values (T : Tp C) : FC C 1 (.ref 370) [] (· = .lst (valuesL.map .bytes)) False := fc_table T (by decide) list40 body40 (by decide +kernel) (by decide +kernel) rfl (by decide +kernel)
noncomputable abbrev sTx : Str := ofString "text"
noncomputable def lowA : AV -> AV
 | .int i => .int (if 65 <= i /\ i <= 90 then i + 32 else i)
 | a => a
theorem lowA_b (t : List UInt8) : ((bInts t).filter fun _ => true).map lowA = bI (lowL t) := by
 have : ((bInts t).filter fun _ => true) = bInts t := by simp
 rw [this]
 unfold bInts bI lowL
 rw [List.map_map, List.map_map]
 refine List.map_congr_left fun c _ => ?_
 show AV.int (if (65 : Int) <= (c.toNat : Int) /\ (c.toNat : Int) <= 90 then (c.toNat : Int) + 32 else c.toNat) = AV.int ((lowC c).toNat : Int)
 unfold lowC
 by_cases h : (65 : UInt8) <= c /\ c <= 90
 ·have h1 : 65 <= c.toNat := UInt8.le_iff_toNat_le.mp h.1
  have h2 : c.toNat <= 90 := UInt8.le_iff_toNat_le.mp h.2
  rw [if_pos h, if_pos (by lia), UInt8.toNat_add]
  have : (32 : UInt8).toNat = 32 := rfl
  rw [this, Nat.mod_eq_of_lt (by lia)]
  rfl
 ·have h' : ¬ ((65 : Int) <= (c.toNat : Int) /\ (c.toNat : Int) <= 90) := fun ⟨a, b⟩ => h ⟨UInt8.le_iff_toNat_le.mpr (by show 65 <= c.toNat; lia), UInt8.le_iff_toNat_le.mpr (by show c.toNat <= 90; lia)⟩
  rw [if_neg h, if_neg h']
theorem fc_lower (T : Tp C) {t : List UInt8} (ht : t.length <= 1000) : FC C 1 (.ref 383) [.bytes t] (· = .bytes (lowL t)) False := by
 refine E12 (T.fn (383, 43) (by decide)) fun fd F _ => ?_
 refine fc_std T.ok F (by decide +kernel) (by decide +kernel) (names := [sTx]) (bindW (bind1 F.pa F.df)) rfl (by decide +kernel) (ow1 rfl) rfl fun c hc h1 h2 h3 => ?_
 refine s_cons (N1 := fun _ => False) (s_return hc (ev_callT1 (ev_bi hc.e h1 T (v := .type "bytes") (by decide +kernel) (kindC F h3 (by decide +kernel))) (eva_cons (lowA_b t ▸ ev_comp0 (fun _ => true) lowA hc.e (ei_bytes hc.e (ev_local hc.e rfl) (by lia)) (by decide +kernel) (by simp [bInts]; lia) fun c' hc' g1 g2 g3 y hy => ?_) eva_nil) (c_bytesL (by simp [lowL]; lia) hc.room.h)) rfl) fun _ h => h.elim
 refine E12 (List.mem_map.mp hy) ?_; rintro d _ rfl
 refine ⟨rfl, ct_nil, fun _ => ⟨?_, rfl⟩⟩
 have e0 : ∀ {b : Bool}, (decide ((65 : Int) <= (d.toNat : Int)) && decide ((d.toNat : Int) <= 90)) = b -> lowA (.int (d.toNat : Int)) = if b then .int ((d.toNat : Int) + 32) else .int (d.toNat : Int) := fun {b} h => by
  show AV.int (if (65 : Int) <= (d.toNat : Int) /\ (d.toNat : Int) <= 90 then (d.toNat : Int) + 32 else d.toNat) = _
  subst h
  by_cases h : (65 : Int) <= (d.toNat : Int) /\ (d.toNat : Int) <= 90
  ·rw [if_pos h, if_pos (by simpa using h)]
  ·rw [if_neg h, if_neg (by simpa using h)]
 refine ev_if (b := decide ((65 : Int) <= (d.toNat : Int)) && decide ((d.toNat : Int) <= 90)) (et_chain ev_int (ev_local hc' rfl) ev_int i_le i_le) (fun h => ?_) fun h => ?_
 ·rw [e0 h]; exact ev_bin (ev_local hc' rfl) ev_int i_add
 ·rw [e0 h]; exact ev_local hc' rfl
theorem nil_or_snoc : ∀ t : List UInt8, t = [] \/ ∃ r x, t = r ++ [x]
 | [] => .inl rfl
 | x :: t => .inr (by
  rcases nil_or_snoc t with rfl | ⟨r, y, rfl⟩
  ·exact ⟨[], x, rfl⟩
  ·exact ⟨x :: r, y, rfl⟩)
theorem fc_bare (T : Tp C) {t : List UInt8} (ht : t.length <= 1000) : FC C 1 (.ref 390) [.bytes t] (· = .bytes (bareL t)) False := by
 refine E12 (T.fn (390, 44) (by decide)) fun fd F _ => ?_
 refine fc_std T.ok F (by decide +kernel) (by decide +kernel) (names := [sTx]) (bindW (bind1 F.pa F.df)) rfl (by decide +kernel) (ow1 rfl) rfl fun c hc h1 h2 h3 => ?_
 have kd : ∀ {x : Str} {k : NameKind} (_ : (dScope (stA 44)).names.lookup x = some k := by decide +kernel), c.env.kindOf x = some k := fun h => kindC F h3 h
 have hnn : ∀ {t' : List UInt8}, (t' != []) = !t'.isEmpty := fun {t'} => by cases t' <;> rfl
 have elen : ∀ {U : Env1} {t' : List UInt8} {p1 p2 p3 p4 p5 : Pos} {k : Nat}, U.lookup sTx = some (.bytes t') -> t'.length <= 1000 -> EV c [] U (.BinOp (.Call (.Name (ofString "len") p1) [.Name sTx p2] [] p3) .Sub (.Constant (.int 1) k p4) p5) (.int ((t'.length : Int) - 1)) := fun h hl =>
  ev_bin (ev_callB (ev_bi hc.e h1 T (by decide +kernel) kd) (eva_cons (ev_local hc.e h) eva_nil) (c_len_bytes (by lia))) ev_int i_sub
 refine s_cons (N1 := fun U => U.lookup sTx = some (.bytes (t.dropWhile wsp))) (s_while hc (Inv := fun n U => ∃ t', n = t'.length /\ U.lookup sTx = some (.bytes t') /\ t'.length <= 1000 /\ t'.dropWhile wsp = t.dropWhile wsp) (n0 := t.length) ⟨t, rfl, rfl, ht, rfl⟩ ?_) ?_
 ·rintro n U ⟨t', rfl, hl, hlen, hd⟩
  refine ⟨(t' != []) && (([9, 10, 11, 12, 13, 32] : List Int).contains ((t'.getD 0 0).toNat : Int) && true), et_bool (all_and (et_cmp (ev_local hc.e hl) ev_bytes b_ne) fun q => all_and (et_cmp (ev_sub (ev_local hc.e hl) ev_int (gi_bytes (i := 0) (by lia) (by decide) ?_)) (ev_tup (xs := ([9, 10, 11, 12, 13, 32] : List Int).map .int) (evl_cons ev_int (evl_cons ev_int (evl_cons ev_int (evl_cons ev_int (evl_cons ev_int (evl_cons ev_int evl_nil)))))) (by decide)) i_in) fun _ => all_and_nil), fun hb => ?_, fun hb => ?_⟩
  ·rw [hnn] at q
   cases t' with
   | nil => cases q
   | cons x r => simp only [List.length_cons]; lia
  ·rw [hl, <- hd]
   cases t' with
   | nil => rfl
   | cons x r =>
    have hw : wsp x = false := by
     have : wsp x = ((([9, 10, 11, 12, 13, 32] : List Int).contains ((x :: r).getD 0 0).toNat)) := rfl
     rw [this]
     rw [hnn] at hb
     simpa using hb
    rw [List.dropWhile_cons_of_neg (by simp [hw])]
  ·cases t' with
   | nil => rw [hnn] at hb; cases hb
   | cons x r =>
    have hw : wsp x = true := by
     have : wsp x = ((([9, 10, 11, 12, 13, 32] : List Int).contains ((x :: r).getD 0 0).toNat)) := rfl
     rw [this]
     rw [hnn] at hb
     simpa using hb
    rw [List.dropWhile_cons_of_pos hw] at hd
    simp only [List.length_cons] at hlen
    refine s_then (U₁ := up sTx (.bytes r) U) ?_ (s_nil ⟨r.length, by simp, r, rfl, look_up, by lia, hd⟩)
    refine s_assign hc ?_ kd
    have e : (((x :: r).drop ((some (1 : Int)).elim 0 (clipAt (x :: r).length))).take ((none : Option Int).elim (x :: r).length (clipAt (x :: r).length) - (some (1 : Int)).elim 0 (clipAt (x :: r).length))) = r := by
     show ((x :: r).drop (clipAt (x :: r).length ((1 : Nat) : Int))).take ((x :: r).length - clipAt (x :: r).length ((1 : Nat) : Int)) = r
     rw [clipAt_nat]
     simp
    rw [<- e]
    exact ev_slice (ev_local hc.e hl) (eo_int ev_int) eo_none (gs_bytes (by simp; lia))
 ·intro U hl
  have hlen0 : (t.dropWhile wsp).length <= 1000 := Nat.le_trans (List.dropWhile_sublist _).length_le ht
  refine s_cons (N1 := fun U => U.lookup sTx = some (.bytes (bareL t))) (s_while hc (Inv := fun n U => ∃ t', n = t'.length /\ U.lookup sTx = some (.bytes t') /\ t'.length <= 1000 /\ (t'.reverse.dropWhile wsp).reverse = bareL t) (n0 := (t.dropWhile wsp).length) ⟨_, rfl, hl, hlen0, rfl⟩ ?_) fun U' hl' => ?_
  ·rintro n U ⟨t', rfl, hl, hlen, hd⟩
   have lastD : ∀ {x : UInt8} {r : List UInt8}, ((r ++ [x]).getD (((r ++ [x]).length : Int) - 1).toNat 0) = x := fun {x r} => by
    have : (((r ++ [x]).length : Int) - 1).toNat = r.length := by simp
    rw [this]; simp
   refine ⟨(t' != []) && (([9, 10, 11, 12, 13, 32] : List Int).contains ((t'.getD ((t'.length : Int) - 1).toNat 0).toNat : Int) && true), et_bool (all_and (et_cmp (ev_local hc.e hl) ev_bytes b_ne) fun q => all_and (et_cmp (ev_sub (ev_local hc.e hl) (elen hl hlen) (gi_bytes (by lia) ?_ ?_)) (ev_tup (xs := ([9, 10, 11, 12, 13, 32] : List Int).map .int) (evl_cons ev_int (evl_cons ev_int (evl_cons ev_int (evl_cons ev_int (evl_cons ev_int (evl_cons ev_int evl_nil)))))) (by decide)) i_in) fun _ => all_and_nil), fun hb => ?_, fun hb => ?_⟩
   ·rw [hnn] at q
    cases t' with
    | nil => cases q
    | cons x r => simp only [List.length_cons]; omega
   ·rw [hnn] at q
    cases t' with
    | nil => cases q
    | cons x r => simp only [List.length_cons]; omega
   ·rw [hl, <- hd]
    rcases nil_or_snoc t' with rfl | ⟨r, x, rfl⟩
    ·rfl
    ·have hw : wsp x = false := by
      have : wsp x = ((([9, 10, 11, 12, 13, 32] : List Int).contains (((r ++ [x]).getD (((r ++ [x]).length : Int) - 1).toNat 0).toNat))) := by rw [lastD]; rfl
      rw [this]
      rw [hnn] at hb
      simpa using hb
     rw [List.reverse_append]
     show _ = some (AV.bytes (List.dropWhile wsp (x :: r.reverse)).reverse)
     rw [List.dropWhile_cons_of_neg (by simp [hw])]
     simp
   ·rcases nil_or_snoc t' with rfl | ⟨r, x, rfl⟩
    ·rw [hnn] at hb; cases hb
    ·have hw : wsp x = true := by
      have : wsp x = ((([9, 10, 11, 12, 13, 32] : List Int).contains (((r ++ [x]).getD (((r ++ [x]).length : Int) - 1).toNat 0).toNat))) := by rw [lastD]; rfl
      rw [this]
      rw [hnn] at hb
      simpa using hb
     have hd' : (r.reverse.dropWhile wsp).reverse = bareL t := by
      rw [<- hd, List.reverse_append]
      show _ = (List.dropWhile wsp (x :: r.reverse)).reverse
      rw [List.dropWhile_cons_of_pos hw]
     simp only [List.length_append, List.length_singleton] at hlen
     refine s_then (U₁ := up sTx (.bytes r) U) ?_ (s_nil ⟨r.length, by simp, r, rfl, look_up, by lia, hd'⟩)
     refine s_assign hc ?_ kd
     have e : (((r ++ [x]).drop ((none : Option Int).elim 0 (clipAt (r ++ [x]).length))).take ((some (((r ++ [x]).length : Int) - 1)).elim (r ++ [x]).length (clipAt (r ++ [x]).length) - (none : Option Int).elim 0 (clipAt (r ++ [x]).length))) = r := by
      show ((r ++ [x]).drop 0).take (clipAt (r ++ [x]).length (((r ++ [x]).length : Int) - 1) - 0) = r
      have : (((r ++ [x]).length : Int) - 1) = ((r.length : Nat) : Int) := by simp
      rw [this, clipAt_nat]
      simp
     rw [<- e]
     exact ev_slice (ev_local hc.e hl) eo_none (eo_int (elen hl (by simp; lia))) (gs_bytes (by simp; lia))
  ·exact s_cons (N1 := fun _ => False) (s_return hc (ev_local hc.e hl') rfl) fun _ h => h.elim
end
theorem splitL_nil {cur : List UInt8} : splitL cur [] = [cur] := rfl
theorem splitL_cons {cur r : List UInt8} {x : UInt8} : splitL cur (x :: r) = if x = 59 /\ r.head? = some 32 then cur :: splitL [] r.tail else splitL (cur ++ [x]) r := by
 cases r with
 | nil => rw [if_neg fun h => nomatch h.2]; rfl
 | cons y r =>
  by_cases h : x = 59 /\ y = 32
  ·exact (if_pos h).trans (if_pos (h.imp id (congrArg some))).symm
  ·exact (if_neg h).trans (if_neg fun z => h (z.imp id Option.some.inj)).symm
noncomputable abbrev sCr : Str := ofString "crumbs"
noncomputable abbrev sPl : Str := ofString "place"
section
variable {C : Cx}
structure CrI (t : List UInt8) (n : Nat) (U : Env1) : Prop where
 ex : ∃ pre rest dn cur, t = pre ++ rest /\ n = rest.length /\ U.lookup sTx = some (.bytes t) /\ U.lookup sPl = some (.int (pre.length : Int)) /\ U.lookup sCr = some (.own (dn.map AV.bytes ++ [.bytes cur])) /\ crumbsL t = dn ++ splitL cur rest /\ dn.length <= pre.length /\ cur.length <= pre.length
 so : Sole sCr U
theorem take2 {t pre rest : List UInt8} (h : t = pre ++ rest) (k : Nat) : (t.drop (clipAt t.length (pre.length : Int))).take (clipAt t.length ((pre.length : Int) + (k : Int)) - clipAt t.length (pre.length : Int)) = rest.take k := by
 have e1 : ((pre.length : Int) + (k : Int)) = ((pre.length + k : Nat) : Int) := by omega
 rw [e1, clipAt_nat, clipAt_nat]
 have hl : t.length = pre.length + rest.length := by rw [h]; simp
 rw [Nat.min_eq_left (by omega : pre.length <= t.length)]
 have e2 : t.drop pre.length = rest := by rw [h]; simp
 rw [e2]
 by_cases hk : k <= rest.length
 ·rw [Nat.min_eq_left (by omega)]
  congr 1; omega
 ·rw [Nat.min_eq_right (by omega), List.take_of_length_le (by omega), List.take_of_length_le (by omega)]
theorem fc_crumbs (T : Tp C) {t : List UInt8} (ht : t.length <= 1000) : FC C 1 (.ref 397) [.bytes t] (· = .lst ((crumbsL t).map .bytes)) False := by
  refine E12 (T.fn (397, 45) (by decide)) fun fd F _ => ?_
  refine fc_std T.ok F (by decide +kernel) (by decide +kernel) (names := [sTx]) (bindW (bind1 F.pa F.df)) rfl (by decide +kernel) (ow1 rfl) rfl fun c hc h1 h2 h3 => ?_
  have kd : ∀ {x : Str} {k : NameKind} (_ : (dScope (stA 45)).names.lookup x = some k := by decide +kernel), c.env.kindOf x = some k := fun h => kindC F h3 h
  let U0 : Env1 := [(sTx, .bytes t)]
  have hN0 : NlE U0 := .cons rfl .nil
  refine s_then (U₁ := up sCr (.own [.bytes []]) U0) (s_own hc (evl_cons ev_bytes evl_nil) (by simp) kd) ?_
  refine s_then (s_assign hc ev_int kd) ?_
  refine s_cons (N1 := fun U => U.lookup sCr = some (.own ((crumbsL t).map AV.bytes))) (s_while hc (Inv := CrI t) (n0 := t.length) ⟨⟨[], t, [], [], rfl, rfl, rfl, rfl, rfl, rfl, Nat.le_refl _, Nat.le_refl _⟩, Sole.up (Sole.self hN0.sole) rfl⟩ ?_) fun U hl => s_cons (N1 := fun _ => False) (s_ret_own hc hl rfl) fun _ h => h.elim
  rintro n U ⟨⟨pre, rest, dn, cur, he, rfl, l1, l2, l3, l4, l5, l6⟩, so⟩
  have hl : t.length = pre.length + rest.length := by rw [he]; simp
  refine ⟨decide ((pre.length : Int) < (t.length : Int)), et_cmp (ev_local hc.e l2) (ev_callB (ev_bi hc.e h1 T (by decide +kernel) kd) (eva_cons (ev_local hc.e l1) eva_nil) (c_len_bytes (by omega))) i_lt, fun hb => ?_, fun hb => ?_⟩
  . have : rest = [] := by
      have h' : ¬ (pre.length : Int) < (t.length : Int) := by simpa using hb
      exact List.eq_nil_of_length_eq_zero (by omega)
    subst this
    rw [l3, l4, splitL_nil]; simp
  . cases rest with
    | nil => exfalso; have h' : (pre.length : Int) < (t.length : Int) := by simpa using hb
             simp only [List.length_nil] at hl; omega
    | cons x r =>
      simp only [List.length_cons] at hl
      have esl : ∀ {Z : Env1} {p1 p2 p3 p4 p5 p6 : Pos} {k : Nat} (j : Nat), EV c [] U (.Subscript (.Name sTx p1) (.Slice (some (.Name sPl p2)) (some (.BinOp (.Name sPl p3) .Add (.Constant (.int (j : Int)) k p4) p5)) none p6) default) (.bytes ((x :: r).take j)) /\ ∀ q, EV c [] U (.Subscript (.Name sTx p1) (.Slice (some (.Name sPl p2)) (some (.BinOp (.Name sPl p3) .Add (.Constant (.int (j : Int)) k p4) p5)) none p6) q) (.bytes ((x :: r).take j)) := fun {Z p1 p2 p3 p4 p5 p6 k} j => by
        have : ∀ q, EV c [] U (.Subscript (.Name sTx p1) (.Slice (some (.Name sPl p2)) (some (.BinOp (.Name sPl p3) .Add (.Constant (.int (j : Int)) k p4) p5)) none p6) q) (.bytes ((x :: r).take j)) := fun q => by
          rw [<- take2 he j]
          exact ev_slice (ev_local hc.e l1) (eo_int (ev_local hc.e l2)) (eo_int (ev_bin (ev_local hc.e l2) ev_int i_add)) (gs_bytes (by omega))
        exact ⟨this _, this⟩
      have hcond : ((x :: r).take 2 == [59, 32]) = decide (x = 59 /\ r.head? = some 32) := by
        cases r with
        | nil => simp
        | cons y r => by_cases h1 : x = 59 <;> by_cases h2 : y = 32 <;> simp [h1, h2]
      refine s_cons (N1 := fun U'' => ∃ m, m < (x :: r).length /\ CrI t m U'') (s_if (b := (x :: r).take 2 == [59, 32]) (et_cmp ((esl (Z := []) 2).2 _) ev_bytes b_eq) (fun hb2 => ?_) fun hb2 => ?_) fun U h => s_nil h
      . rw [hcond] at hb2
        have hb2 : x = 59 /\ r.head? = some 32 := by simpa using hb2
        cases r with
        | nil => simp at hb2
        | cons y r =>
          refine s_then (s_append hc l3 so plk_nil ev_bytes rfl (by simp; omega)) ?_
          refine s_then (s_aug hc (u := .int (pre.length : Int)) ((look_ne).trans l2) kd ev_int i_iadd) (s_nil ⟨r.length, by simp; omega, ⟨pre ++ [x, y], r, dn ++ [cur], [], ?_, rfl, ?_, ?_, ?_, ?_, ?_, ?_⟩, ?_⟩)
          . rw [he]; simp
          . exact ((look_ne).trans (look_ne)).trans l1
          . rw [look_up]; simp
          . rw [look_ne, look_up]; simp
          . rw [l4, splitL_cons, if_pos hb2]; simp
          . simp; omega
          . simp
          . exact Sole.up (Sole.self so) rfl
      . rw [hcond] at hb2
        have hb2 : ¬ (x = 59 /\ r.head? = some 32) := by simpa using hb2
        have hone : (x :: r).take 1 = [x] := by simp
        refine s_then (s_setLast hc l3 so plk_nil (y := .bytes (cur ++ [x])) (ev_bin (ev_sub (ev_local hc.e l3) (ev_neg ev_int) (gi_own_last (by simp; omega))) (hone ▸ (esl (Z := []) 1).2 _) (b_add (by simp; omega))) rfl (by simp; omega)) ?_
        refine s_then (s_aug hc (u := .int (pre.length : Int)) ((look_ne).trans l2) kd ev_int i_iadd) (s_nil ⟨r.length, by simp, ⟨pre ++ [x], r, dn, cur ++ [x], ?_, rfl, ?_, ?_, ?_, ?_, ?_, ?_⟩, ?_⟩)
        . rw [he]; simp
        . exact ((look_ne).trans (look_ne)).trans l1
        . rw [look_up]; simp
        . rw [look_ne, look_up]
        . rw [l4, splitL_cons, if_neg hb2]
        . simp; omega
        . simp; omega
        . exact Sole.up (Sole.self so) rfl
end
theorem splitL_le : ∀ (n : Nat) (r : List UInt8), r.length <= n -> ∀ cur, (∀ p ∈ splitL cur r, p.length <= cur.length + r.length) /\ (splitL cur r).length <= r.length + 1
 | _, [], _, cur => by rw [splitL_nil]; simp
 | 0, _ :: _, h, _ => by simp at h
 | n + 1, x :: r, h, cur => by
  rw [splitL_cons]
  simp only [List.length_cons] at h
  split
  ·have ih := splitL_le n r.tail (by simp; lia) []
   refine ⟨fun p hp => ?_, ?_⟩
   ·rcases List.mem_cons.mp hp with rfl | hp
    ·simp
    ·have := ih.1 p hp; simp at this ⊢; omega
   ·have := ih.2; simp at this ⊢; omega
  ·have ih := splitL_le n r (by lia) (cur ++ [x])
   refine ⟨fun p hp => ?_, ?_⟩
   ·have := ih.1 p hp; simp at this ⊢; lia
   ·have := ih.2; simp at this ⊢; lia
theorem crumbs_le (t : List UInt8) : (∀ p ∈ crumbsL t, p.length <= t.length) /\ (crumbsL t).length <= t.length + 1 := by
 have := splitL_le t.length t (Nat.le_refl _) []
 simpa [crumbsL] using this
theorem bareL_len (t : List UInt8) : (bareL t).length <= t.length := by
 unfold bareL
 have h1 := (List.dropWhile_sublist wsp (l := t)).length_le
 have h2 := (List.dropWhile_sublist wsp (l := (t.dropWhile wsp).reverse)).length_le
 simp only [List.length_reverse] at h2 ⊢
 lia
theorem lowL_len (t : List UInt8) : (lowL t).length = t.length := by simp [lowL]
noncomputable def secC (name value : List UInt8) : Bool := secs.contains name || ((name == nCookie && (decide ((value.length : Int) < 20) && true)) || false)
noncomputable def madeP (name : List UInt8) (x : Option Bool) (part : List UInt8) : List Fld := if secC name (bareL part) then [⟨name, bareL part, some true⟩] else if hopsB.contains name then [] else [⟨name, bareL part, x⟩]
noncomputable def partsL (sp : Bool) (name v : List UInt8) : List (List UInt8) := if sp && (name == nCookie && true) then crumbsL v else [v]
noncomputable def nameL (f : Fld) : List UInt8 := bareL (lowL f.n)
noncomputable def madeF (sp : Bool) (f : Fld) : List Fld := (partsL sp (nameL f) f.v).flatMap (madeP (nameL f) f.x)
noncomputable def madeL (sp : Bool) (l : List Fld) : List Fld := l.flatMap (madeF sp)
theorem madeP_len {n p : List UInt8} {x : Option Bool} : (madeP n x p).length <= 1 := by unfold madeP; split <;> (try split) <;> simp
noncomputable abbrev sBl : Str := ofString "block"
noncomputable abbrev sSp : Str := ofString "split"
noncomputable abbrev sMd : Str := ofString "made"
noncomputable abbrev sFd : Str := ofString "field"
noncomputable abbrev sNa : Str := ofString "name"
noncomputable abbrev sPt : Str := ofString "part"
noncomputable abbrev sVa : Str := ofString "value"
section
variable {C : Cx}
theorem ev_callN {c : Ac} {Z U : Env1} (hc : c.EOk) (h1 : c.C = C) (T : Tp C) (a : Addr) (i : Nat) (h : (a, i) ∈ fnTab) {x : Str} (hx : dName (stA i) = x) {np p : Pos} {e : Expr} {rest : List Expr} {avs : List AV} {z : AV} {n : Nat} (hk : c.env.kindOf x = some .globalImplicit) (hd : (x == ("__debug__" : Str)) = false) (ha : EVA c Z U (e :: rest) avs) (hF : FC C n (.ref a) avs (· = z) False) (hn : n <= c.n)
  (he : starEach (e :: rest) c.env = (false, eval e c.env) :: starEach rest c.env := by rfl)
  (hcall : eval (.Call (.Name x np) (e :: rest) [] p) c.env = (do callWith p (<- eval (.Name x np) c.env) [] (backTo p (starEach (e :: rest) c.env)) (backToKw p (keywordEach [] c.env))) := by rfl) : EV c Z U (.Call (.Name x np) (e :: rest) [] p) z := by
 subst h1
 refine E12 (T.fn (a, i) h) fun fd F _ => ?_
 refine E12 F.at'.ho fun o ho hd' => ?_
 exact ev_callF hc (fun h B => B.old _ _ ho F.at'.at') hd' (ev_fn hc rfl T a i h hx hk hd) ha hF hn he hcall
theorem ev_callN0 {c : Ac} {Z U : Env1} (hc : c.EOk) (h1 : c.C = C) (T : Tp C) (a : Addr) (i : Nat) (h : (a, i) ∈ fnTab) {x : Str} (hx : dName (stA i) = x) {np p : Pos} {z : AV} {n : Nat} (hk : c.env.kindOf x = some .globalImplicit) (hd : (x == ("__debug__" : Str)) = false) (hF : FC C n (.ref a) [] (· = z) False) (hn : n <= c.n) : EV c Z U (.Call (.Name x np) [] [] p) z := by
 subst h1
 refine E12 (T.fn (a, i) h) fun fd F _ => ?_
 refine E12 F.at'.ho fun o ho hd' => ?_
 exact ev_callF0 hc (fun h B => B.old _ _ ho F.at'.at') hd' (ev_fn hc rfl T a i h hx hk hd) hF hn
structure MdI (block : List Fld) (sp : Bool) (U : Env1) (m : List Fld) : Prop where
 b : U.lookup sBl = some (flds block)
 s : U.lookup sSp = some (.bool sp)
 m : U.lookup sMd = some (.own (m.map Fld.av))
 so : Sole sMd U
theorem MdI.up {block : List Fld} {sp : Bool} {U : Env1} {m : List Fld} {x : Str} {a : AV} (h : MdI block sp U m) (ha : a.pl = true) (hx : ((sBl == x) || (sSp == x) || (sMd == x)) = false) : MdI block sp (Mine.up x a U) m := by
 simp only [Bool.or_eq_false_iff] at hx
 exact ⟨(look_ne hx.1.1).trans h.b, (look_ne hx.1.2).trans h.s, (look_ne hx.2).trans h.m, h.so.up ha⟩
theorem fc_made (T : Tp C) {block : List Fld} {sp : Bool} (hB : ∀ f ∈ block, small 900 f) (hl : block.length <= 200) : FC C 2 (.ref 404) [flds block, .bool sp] (· = flds (madeL sp block)) False := by
 refine E12 (T.fn (404, 46) (by decide)) fun fd F _ => ?_
 refine fc_std T.ok F (by decide +kernel) (by decide +kernel) (names := [sBl, sSp]) (bindW (bind2 F.pa F.df)) rfl (by decide +kernel) (ow2 rfl rfl) rfl fun c hc h1 h2 h3 => ?_
 have kd : ∀ {x : Str} {k : NameKind} (_ : (dScope (stA 46)).names.lookup x = some k := by decide +kernel), c.env.kindOf x = some k := fun h => kindC F h3 h
 let U0 : Env1 := [(sSp, .bool sp), (sBl, flds block)]
 have so0 : Sole sMd U0 := fun y av e hp => by
  by_cases h1 : y = sSp
  ·subst h1; have : U0.lookup sSp = some (.bool sp) := rfl; rw [this] at e; cases e; cases hp
  ·by_cases h2 : y = sBl
   ·subst h2; have : U0.lookup sBl = some (flds block) := rfl; rw [this] at e; cases e; cases hp
   ·simp [U0, List.lookup, beq_eq_false_iff_ne.mpr h1, beq_eq_false_iff_ne.mpr h2] at e
 refine s_then (U₁ := up sMd (.own []) U0) (s_own hc evl_nil (by simp) kd) ?_
 refine s_cons (N1 := fun U => U.lookup sMd = some (.own ((madeL sp block).map Fld.av))) (s_for hc (xs := block.map Fld.av) (Inv := fun xs U => ∃ dn rest, block = dn ++ rest /\ xs = rest.map Fld.av /\ MdI block sp U (madeL sp dn) /\ (madeL sp dn).length <= 1001 * dn.length) (ev_local hc.e (av := flds block) rfl) (flds_nl block) kd ⟨[], block, rfl, rfl, ⟨rfl, rfl, rfl, Sole.self so0⟩, Nat.le_refl _⟩ ?_ ?_) fun U hl => s_cons (N1 := fun _ => False) (s_ret_own hc hl rfl) fun _ h => h.elim
 ·rintro U ⟨dn, rest, e, hx, hm, _⟩
  cases rest with
  | nil => rw [List.append_nil] at e; subst e; exact hm.m
  | cons _ _ => cases hx
 rintro x xs U ⟨dn, rest, e, hx, hm, hml⟩
 cases rest with
 | nil => cases hx
 | cons f rest =>
  cases hx
  have hf : small 900 f := hB f (by rw [e]; simp)
  have hdl : dn.length < 200 := by have := hl; rw [e] at this; simp at this; lia
  refine ⟨rfl, ?_⟩
  have hm1 := hm.up (x := sFd) (a := f.av) (AV.nl_pl f.nl) (by decide +kernel)
  have hn1 : (lowL f.n).length <= 900 := by rw [lowL_len]; exact hf.1
  refine s_then (s_assign hc (av := .bytes (nameL f)) (ev_callN hc.e h1 T 390 44 (by decide) rfl kd (by decide +kernel) (eva_cons (ev_callN hc.e h1 T 383 43 (by decide) rfl kd (by decide +kernel) (eva_cons (ev_f0 hc.e look_up) eva_nil) (fc_lower T (by have := hf.1; lia)) (by lia)) eva_nil) (fc_bare T (by lia)) (by lia)) kd) ?_
  have hm2 := hm1.up (x := sNa) (a := .bytes (nameL f)) rfl (by decide +kernel)
  have hpl : (∀ p ∈ partsL sp (nameL f) f.v, p.length <= 900) /\ (partsL sp (nameL f) f.v).length <= 901 := by
   unfold partsL
   have := crumbs_le f.v
   have hv := hf.2
   split
   ·exact ⟨fun p hp => Nat.le_trans (this.1 p hp) hv, by lia⟩
   ·exact ⟨fun p hp => by rw [List.mem_singleton.mp hp]; exact hv, by simp⟩
  refine s_cons (s_for hc (xs := (partsL sp (nameL f) f.v).map .bytes) (N := fun U => ∃ dn rest', block = dn ++ rest' /\ rest.map Fld.av = rest'.map Fld.av /\ MdI block sp U (madeL sp dn) /\ (madeL sp dn).length <= 1001 * dn.length) (Inv := fun xs U => ∃ pd pr, partsL sp (nameL f) f.v = pd ++ pr /\ xs = pr.map AV.bytes /\ MdI block sp U (madeL sp dn ++ pd.flatMap (madeP (nameL f) f.x)) /\ U.lookup sFd = some f.av /\ U.lookup sNa = some (.bytes (nameL f)) /\ (pd.flatMap (madeP (nameL f) f.x)).length <= pd.length) (by
    refine ev_if (b := sp && (nameL f == nCookie && true)) (et_bool (all_and (et_val (ev_local hc.e hm2.s) opt_bool) fun _ => all_and (et_cmp (ev_local hc.e look_up) ev_bytes b_eq) fun _ => all_and_nil)) (fun h => by
     rw [show partsL sp (nameL f) f.v = crumbsL f.v from if_pos h]
     exact ev_callN hc.e h1 T 397 45 (by decide) rfl kd (by decide +kernel) (eva_cons (ev_f1 hc.e ((look_ne).trans look_up)) eva_nil) (fc_crumbs T (by have := hf.2; lia)) (by lia)) (fun h => by
     rw [show partsL sp (nameL f) f.v = [f.v] from if_neg (by rw [h]; exact fT)]
     exact ev_lst (evl_cons (ev_f1 hc.e ((look_ne).trans look_up)) evl_nil) (by simp))) (fun y hy => by refine E12 (List.mem_map.mp hy) ?_; rintro b _ rfl; rfl) kd ⟨[], _, rfl, rfl, by simpa using hm2, (look_ne).trans look_up, look_up, Nat.le_refl _⟩ ?_ ?_) fun U h => s_nil h
  ·rintro U' ⟨pd, pr, e2, hx, hm', _, _, hlen⟩
   cases pr with
   | cons _ _ => cases hx
   | nil =>
    rw [List.append_nil] at e2
    have em : madeL sp dn ++ pd.flatMap (madeP (nameL f) f.x) = madeL sp (dn ++ [f]) := by rw [<- e2]; simp [madeL, madeF]
    rw [em] at hm'
    refine ⟨dn ++ [f], rest, by rw [e]; simp, rfl, hm', ?_⟩
    rw [<- em, List.length_append]
    have := hpl.2; rw [e2] at this
    rw [List.length_append (as := dn)]; simp only [List.length_singleton]; lia
  ·rintro x xs U' ⟨pd, pr, e2, hx, hm', hfd, hna, hlen⟩
   cases pr with
   | nil => cases hx
   | cons p pr =>
    cases hx
    have hp : p.length <= 900 := hpl.1 p (by rw [e2]; simp)
    have hpd : pd.length <= 900 := by have := hpl.2; rw [e2] at this; simp at this; lia
    refine ⟨rfl, ?_⟩
    refine s_then (s_assign hc (av := .bytes (bareL p)) (ev_callN hc.e h1 T 390 44 (by decide) rfl kd (by decide +kernel) (eva_cons (ev_local hc.e look_up) eva_nil) (fc_bare T (by lia)) (by lia)) kd) ?_
    let U2 := up sVa (.bytes (bareL p)) (up sPt (.bytes p) U')
    have hm3 : MdI block sp U2 (madeL sp dn ++ pd.flatMap (madeP (nameL f) f.x)) := (hm'.up (x := sPt) (a := .bytes p) rfl (by decide +kernel)).up rfl (by decide +kernel)
    have hfd3 : U2.lookup sFd = some f.av := ((look_ne).trans (look_ne)).trans hfd
    have hna3 : U2.lookup sNa = some (.bytes (nameL f)) := ((look_ne).trans (look_ne)).trans hna
    have hva3 : U2.lookup sVa = some (.bytes (bareL p)) := look_up
    have hbl := bareL_len p
    have hmlen : (madeL sp dn ++ pd.flatMap (madeP (nameL f) f.x)).length <= 1000000 := by rw [List.length_append]; lia
    have fin : ∀ {U'' : Env1} {g : List Fld}, madeP (nameL f) f.x p = g -> MdI block sp U'' (madeL sp dn ++ pd.flatMap (madeP (nameL f) f.x) ++ g) -> U''.lookup sFd = some f.av -> U''.lookup sNa = some (.bytes (nameL f)) -> ∃ pd' pr', partsL sp (nameL f) f.v = pd' ++ pr' /\ pr.map AV.bytes = pr'.map AV.bytes /\ MdI block sp U'' (madeL sp dn ++ pd'.flatMap (madeP (nameL f) f.x)) /\ U''.lookup sFd = some f.av /\ U''.lookup sNa = some (.bytes (nameL f)) /\ (pd'.flatMap (madeP (nameL f) f.x)).length <= pd'.length := fun {U'' g} hg h1 h2 h3 => by
     refine ⟨pd ++ [p], pr, by rw [e2]; simp, rfl, ?_, h2, h3, ?_⟩
     ·rw [List.flatMap_append, List.flatMap_singleton, hg, <- List.append_assoc]; exact h1
     ·have := madeP_len (n := nameL f) (x := f.x) (p := p)
      rw [List.flatMap_append, List.flatMap_singleton, List.length_append, List.length_append]; simp only [List.length_singleton]; lia
    have app : ∀ {g : Fld}, MdI block sp (up sMd (.own ((madeL sp dn ++ pd.flatMap (madeP (nameL f) f.x)).map Fld.av ++ [g.av])) U2) (madeL sp dn ++ pd.flatMap (madeP (nameL f) f.x) ++ [g]) := fun {g} => ⟨(look_ne).trans hm3.b, (look_ne).trans hm3.s, by rw [look_up]; simp, Sole.self hm3.so⟩
    refine s_cons (s_if (b := secC (nameL f) (bareL p)) (et_bool (all_or (et_cmp (ev_local hc.e hna3) (ev_tup (xs := secs.map .bytes) (evl_cons ev_bytes (evl_cons ev_bytes evl_nil)) (by decide)) b_in) fun _ => all_or (et_bool (all_and (et_cmp (ev_local hc.e hna3) ev_bytes b_eq) fun _ => all_and (et_cmp (ev_callB (ev_bi hc.e h1 T (by decide +kernel) kd) (eva_cons (ev_local hc.e hva3) eva_nil) (c_len_bytes (by lia))) ev_int i_lt) fun _ => all_and_nil)) fun _ => all_or_nil)) (fun hb => ?_) fun hb => ?_) fun U h => s_nil h
    ·refine s_then (s_append hc hm3.m hm3.so plk_nil (y := (Fld.av ⟨nameL f, bareL p, some true⟩)) (ev_tup (evl_cons (ev_local hc.e hna3) (evl_cons (ev_local hc.e hva3) (evl_cons ev_bool evl_nil))) (by simp [xL])) rfl (by simpa using hmlen)) (s_nil ?_)
     exact fin (by unfold madeP; rw [if_pos hb]) app ((look_ne).trans hfd3) ((look_ne).trans hna3)
    ·refine s_cons (s_if (b := !hopsB.contains (nameL f)) (et_cmp (ev_local hc.e hna3) (ev_cst hc.e h1 T.c371 kd (by decide +kernel)) b_notIn) (fun hb2 => ?_) fun hb2 => ?_) fun U h => s_nil h
     ·refine s_then (s_append hc hm3.m hm3.so plk_nil (y := (Fld.av ⟨nameL f, bareL p, f.x⟩)) (ev_bin (ev_tup (evl_cons (ev_local hc.e hna3) (evl_cons (ev_local hc.e hva3) evl_nil)) (by simp)) (ev_f2 hc.e hfd3) (t_add (xSum ..) (by simp))) rfl (by simpa using hmlen)) (s_nil ?_)
      have hb3 : hopsB.contains (nameL f) = false := by simpa using hb2
      exact fin (by unfold madeP; rw [if_neg (by rw [hb]; exact fT), if_neg (by rw [hb3]; exact fT)]) app ((look_ne).trans hfd3) ((look_ne).trans hna3)
     ·have hb3 : hopsB.contains (nameL f) = true := by simpa using hb2
      exact s_nil (fin (g := []) (by unfold madeP; rw [if_neg (by rw [hb]; exact fT), if_pos hb3]) (by simpa using hm3) hfd3 hna3)
end
theorem getD_at {α : Type} {l : List α} {n : Nat} {d : α} (h : n < l.length) : l.getD n d = l[n] := by
 rw [List.getD_eq_getElem?_getD, List.getElem?_eq_getElem h]; rfl
theorem pyl {b : Int} (h : decide ((if b == 0 then 0 else b.natAbs.log2 / 30 + 1) > 300) = false) : ∀ a, Builtin.divisionGoesByPylong a b = false := fun a => by
 unfold Builtin.divisionGoesByPylong
 show (decide ((if b == 0 then 0 else b.natAbs.log2 / 30 + 1) > 300) && _) = false
 rw [h]; rfl
section
variable {c : Ac} {Z U : Env1}
theorem take_lo {α : Type} (xs : List α) (k : Nat) : (xs.drop ((none : Option Int).elim 0 (clipAt xs.length))).take ((some (k : Int)).elim xs.length (clipAt xs.length) - (none : Option Int).elim 0 (clipAt xs.length)) = xs.take k := by
 show (xs.drop 0).take (clipAt xs.length (k : Int) - 0) = _
 rw [clipAt_nat, List.drop_zero, Nat.sub_zero]
 by_cases h : k <= xs.length
 ·rw [Nat.min_eq_left h]
 ·rw [Nat.min_eq_right (by omega), List.take_of_length_le (by lia), List.take_of_length_le (by omega)]
theorem drop_lo {α : Type} (xs : List α) (k : Nat) : (xs.drop ((some (k : Int)).elim 0 (clipAt xs.length))).take ((none : Option Int).elim xs.length (clipAt xs.length) - (some (k : Int)).elim 0 (clipAt xs.length)) = xs.drop k := by
 show (xs.drop (clipAt xs.length (k : Int))).take (xs.length - clipAt xs.length (k : Int)) = _
 rw [clipAt_nat]
 by_cases h : k <= xs.length
 ·rw [Nat.min_eq_left h, List.take_of_length_le (by simp)]
 ·rw [Nat.min_eq_right (by omega), List.drop_of_length_le (by lia), List.drop_of_length_le (by omega)]; simp
theorem ev_takeL {e v : Expr} {p p' : Pos} {xs : List AV} {k : Nat} (hv : EV c Z U v (.lst xs)) (he : EV c Z U e (.int (k : Int))) (hz : xs.length <= 1000000) : EV c Z U (.Subscript v (.Slice none (some e) none p') p) (.lst (xs.take k)) := by
 rw [<- take_lo]; exact ev_slice hv eo_none (eo_int he) (gs_lst hz)
theorem ev_dropL {e v : Expr} {p p' : Pos} {xs : List AV} {k : Nat} (hv : EV c Z U v (.lst xs)) (he : EV c Z U e (.int (k : Int))) (hz : xs.length <= 1000000) : EV c Z U (.Subscript v (.Slice (some e) none none p') p) (.lst (xs.drop k)) := by
 rw [<- drop_lo]; exact ev_slice hv (eo_int he) eo_none (gs_lst hz)
theorem ev_takeB {e v : Expr} {p p' : Pos} {xs : List UInt8} {k : Nat} (hv : EV c Z U v (.bytes xs)) (he : EV c Z U e (.int (k : Int))) (hz : xs.length <= 1000000) : EV c Z U (.Subscript v (.Slice none (some e) none p') p) (.bytes (xs.take k)) := by
 rw [<- take_lo]; exact ev_slice hv eo_none (eo_int he) (gs_bytes hz)
theorem ev_dropB {e v : Expr} {p p' : Pos} {xs : List UInt8} {k : Nat} (hv : EV c Z U v (.bytes xs)) (he : EV c Z U e (.int (k : Int))) (hz : xs.length <= 1000000) : EV c Z U (.Subscript v (.Slice (some e) none none p') p) (.bytes (xs.drop k)) := by
 rw [<- drop_lo]; exact ev_slice hv (eo_int he) eo_none (gs_bytes hz)
theorem ev_g0 {v : Expr} {f : Fld} {p2 p3 : Pos} {k : Nat} (h : EV c Z U v f.av) : EV c Z U (.Subscript v (.Constant (.int 0) k p2) p3) (.bytes f.n) := ev_sub h ev_int (gi_tup (n := 0) rfl (by decide))
theorem ev_g2 {v : Expr} {f : Fld} {p2 p3 p4 : Pos} {k : Nat} (h : EV c Z U v f.av) : EV c Z U (.Subscript v (.Slice (some (.Constant (.int 2) k p2)) none none p3) p4) (.tup (xL f.x)) := by
 have := gs_tup (C := c.C) (A := c.A) (xs := AV.bytes f.n :: .bytes f.v :: xL f.x) (n := 2) (by decide) (by simp) (by have := xL_len f.x; simp; lia)
 exact ev_slice h (eo_int ev_int) eo_none this
theorem ev_idxL {e v : Expr} {p : Pos} {xs : List AV} {k : Nat} {z : AV} (hv : EV c Z U v (.lst xs)) (he : EV c Z U e (.int (k : Int))) (hk : xs[k]? = some z) (hz : xs.length <= 100000) (hs : ∀ o i, ∃ ops, subscripted e false o i = operate ops (getItem o i) := by exact fun _ _ => ⟨_, rfl⟩) : EV c Z U (.Subscript v e p) z := by
 have : k < xs.length := (List.getElem?_eq_some_iff.mp hk).1
 exact ev_sub hv he (gi_lst (by lia) (by simpa using hk) (by lia)) hs
theorem ev_mod {l r : Expr} {p : Pos} {a : Int} {n : Nat} (hl : EV c Z U l (.int a)) (hr : EV c Z U r (.int (n : Int))) (hn : 0 < n) : EV c Z U (.BinOp l .Mod r p) (.int ((a.fmod n).toNat : Nat)) := by
 have e : (((a.fmod n).toNat : Nat) : Int) = a.fmod n := Int.toNat_of_nonneg (Int.fmod_nonneg_of_pos _ (by omega))
 rw [e]
 exact ev_bin hl hr (i_mod (beq_eq_false_iff_ne.mpr (by lia)))
end
noncomputable def modN (a : Int) (n : Nat) : Nat := (a.fmod n).toNat
theorem modN_lt {a : Int} {n : Nat} (h : 0 < n) : modN a n < n := by
 have h1 := Int.fmod_lt_of_pos a (b := (n : Int)) (by omega)
 have h2 := Int.fmod_nonneg_of_pos a (b := (n : Int)) (by lia)
 unfold modN; omega
noncomputable def moreDrop (block : List Fld) (way : Nat) (rest : Int) : List Fld :=
 let k := modN rest block.length
 (block.take k ++ if way = 5 then (block[k]?.map fun f => { f with v := [] }).toList else []) ++ block.drop (k + 1)
noncomputable def moreVal (value : List UInt8) (way : Nat) (rest : Int) : List UInt8 :=
 if way = 1 then
  let place := modN (rest.fdiv 256) (value.length + 1)
  (value.take place ++ [UInt8.ofNat (modN rest 256)]) ++ value.drop place
 else value
noncomputable def morePut (block : List Fld) (f : Fld) (way : Nat) (rest : Int) : List Fld :=
 let place := if way = 3 then modN rest (block.length + 1) else block.length
 (block.take place ++ [f]) ++ block.drop place
noncomputable def moreL (block : List Fld) (d : Int) : List Fld :=
 let name := namesL.getD (modN d 20) []
 let value := valuesL.getD (modN (d.fdiv 20) 14) []
 let way := modN (d.fdiv 280) 6
 let rest := d.fdiv 1680
 if way > 3 /\ block ≠ [] then moreDrop block way rest
 else morePut block ⟨name, moreVal value way rest, if way = 2 then some (modN rest 2 == 0) else none⟩ way rest
noncomputable abbrev sDr : Str := ofString "drawn"
noncomputable abbrev sWy : Str := ofString "way"
noncomputable abbrev sRe : Str := ofString "rest"
noncomputable abbrev sKk : Str := ofString "k"
noncomputable abbrev sKe : Str := ofString "kept"
section
variable {C : Cx}
theorem take_av {l : List Fld} {k : Nat} : (l.map Fld.av).take k = (l.take k).map Fld.av := by rw [List.map_take]
theorem drop_av {l : List Fld} {k : Nat} : (l.map Fld.av).drop k = (l.drop k).map Fld.av := by rw [List.map_drop]
theorem lst_ne {l : List Fld} {A : Around} {C : Cx} (hu : A.units + 30 < cLine) : Op2 C A (compareOp .NotEq) (flds l) (.lst []) (.bool (!decide (l = []))) := l_ne (enc := Fld.av) eqE_fld (b := []) hu
theorem Room.eq {n : Nat} {A : Around} (r : Room n A) : A.units + 30 < cLine := by have := r.2.2; show _ < 9900; lia
theorem nat_eq {n k : Nat} (h : ((n : Int) == (k : Int)) = true) : n = k := Int.ofNat.inj (eq_of_beq h)
theorem len_tk {α : Type} {xs : List α} {k n : Nat} (h : xs.length <= n) : (xs.take k).length <= n := Nat.le_trans (List.length_take_le' ..) h
theorem len_dr {α : Type} {xs : List α} {k n : Nat} (h : xs.length <= n) : (xs.drop k).length <= n := Nat.le_trans (by rw [List.length_drop]; exact Nat.sub_le ..) h
theorem len_put {α : Type} {l m : List α} {k j : Nat} (h : k <= j) : ((l.take k ++ m) ++ l.drop j).length <= l.length + m.length := by
 rw [List.length_append, List.length_append, List.length_take, List.length_drop]
 omega
theorem le1 {α : Type} {a : α} {n : Nat} : [a].length <= n + 1 := Nat.succ_le_succ (Nat.zero_le n)
theorem len_cut {α : Type} {xs m : List α} {k j : Nat} (h : xs.length <= 1000) (i : m.length <= 1000) : (xs.take k).length + m.length <= 1000000 /\ (xs.take k ++ m).length + (xs.drop j).length <= 1000000 := by
 have h1 := len_tk (k := k) h
 have h2 := len_dr (k := j) h
 rw [List.length_append]
 omega
section
variable {c : Ac} {Z U : Env1}
theorem cutL {e1 e2 e3 : Expr} {p p' : Pos} {xs m : List AV} {k j : Nat} (h1 : EV c Z U e1 (.lst (xs.take k))) (h2 : EV c Z U e2 (.lst m)) (h3 : EV c Z U e3 (.lst (xs.drop j))) (h : xs.length <= 1000) (i : m.length <= 1000) : EV c Z U (.BinOp (.BinOp e1 .Add e2 p) .Add e3 p') (.lst ((xs.take k ++ m) ++ xs.drop j)) :=
 ev_bin (ev_bin h1 h2 (l_add (len_cut (j := j) h i).1)) h3 (l_add (len_cut h i).2)
theorem cutB {e1 e2 e3 : Expr} {p p' : Pos} {xs m : List UInt8} {k j : Nat} (h1 : EV c Z U e1 (.bytes (xs.take k))) (h2 : EV c Z U e2 (.bytes m)) (h3 : EV c Z U e3 (.bytes (xs.drop j))) (h : xs.length <= 1000) (i : m.length <= 1000) : EV c Z U (.BinOp (.BinOp e1 .Add e2 p) .Add e3 p') (.bytes ((xs.take k ++ m) ++ xs.drop j)) :=
 ev_bin (ev_bin h1 h2 (b_add (len_cut (j := j) h i).1)) h3 (b_add (len_cut h i).2)
end
theorem fc_more (T : Tp C) {block : List Fld} {d : Int} (hl : block.length <= 1000) : FC C 2 (.ref 378) [flds block, .int d] (· = flds (moreL block d)) False := by
 refine E12 (T.fn (378, 42) (by decide)) fun fd F _ => ?_
 refine fc_std T.ok F (by decide +kernel) (by decide +kernel) (names := [sBl, sDr]) (bindW (bind2 F.pa F.df)) rfl (by decide +kernel) (ow2 rfl rfl) rfl fun c hc h1 h2 h3 => ?_
 have kd : ∀ {x : Str} {k : NameKind} (_ : (dScope (stA 42)).names.lookup x = some k := by decide +kernel), c.env.kindOf x = some k := fun h => kindC F h3 h
 let U0 : Env1 := [(sDr, .int d), (sBl, flds block)]
 let name := namesL.getD (modN d 20) []
 let value := valuesL.getD (modN (d.fdiv 20) 14) []
 let way := modN (d.fdiv 280) 6
 let rest := d.fdiv 1680
 have hd0 : ∀ {p : Pos}, EV c [] U0 (.Name sDr p) (.int d) := fun {p} => ev_local hc.e rfl
 have hw20 := modN_lt (a := d) (n := 20) (by decide)
 have hw14 := modN_lt (a := d.fdiv 20) (n := 14) (by decide)
 have hnl : (namesL.map AV.bytes)[modN d 20]? = some (.bytes name) := by
  rw [List.getElem?_map, List.getElem?_eq_getElem (by exact hw20)]
  show some (AV.bytes _) = some (AV.bytes (namesL.getD _ _))
  rw [getD_at (by exact hw20)]
 have hvl : (valuesL.map AV.bytes)[modN (d.fdiv 20) 14]? = some (.bytes value) := by
  rw [List.getElem?_map, List.getElem?_eq_getElem (by exact hw14)]
  show some (AV.bytes _) = some (AV.bytes (valuesL.getD _ _))
  rw [getD_at (by exact hw14)]
 have hvlen : value.length <= 20 := by
  have hall : ∀ v ∈ valuesL, v.length <= 20 := by decide
  refine hall _ ?_
  show valuesL.getD _ _ ∈ valuesL
  rw [getD_at (by exact hw14)]
  exact List.getElem_mem _
 have hm : (block.map Fld.av).length <= 1000 := by rw [List.length_map]; exact hl
 have hM := Nat.le_trans hm (by decide : 1000 <= 1000000)
 have hV := Nat.le_trans hvlen (by decide : 20 <= 1000000)
 refine s_then (U₁ := up sNa (.bytes name) U0) (s_assign hc (ev_idxL (ev_callN0 hc.e h1 T 363 39 (by decide) rfl kd (by decide +kernel) (fc_names T) (by lia)) (ev_mod (n := 20) hd0 ev_int (by decide)) hnl (by decide)) kd) ?_
 have hd1 : ∀ {p : Pos}, EV c [] (up sNa (.bytes name) U0) (.Name sDr p) (.int d) := fun {p} => ev_local hc.e rfl
 refine s_then (U₁ := up sVa (.bytes value) (up sNa (.bytes name) U0)) (s_assign hc (ev_idxL (ev_callN0 hc.e h1 T 370 40 (by decide) rfl kd (by decide +kernel) (fc_values T) (by lia)) (ev_mod (n := 14) (ev_bin hd1 ev_int (i_div (by decide) (pyl (by decide +kernel)))) ev_int (by decide)) hvl (by decide)) kd) ?_
 have hd2 : ∀ {p : Pos}, EV c [] (up sVa (.bytes value) (up sNa (.bytes name) U0)) (.Name sDr p) (.int d) := fun {p} => ev_local hc.e rfl
 refine s_then (U₁ := up sWy (.int way) (up sVa (.bytes value) (up sNa (.bytes name) U0))) (s_assign hc (ev_mod (n := 6) (ev_bin hd2 ev_int (i_div (by decide) (pyl (by decide +kernel)))) ev_int (by decide)) kd) ?_
 have hd3 : ∀ {p : Pos}, EV c [] (up sWy (.int way) (up sVa (.bytes value) (up sNa (.bytes name) U0))) (.Name sDr p) (.int d) := fun {p} => ev_local hc.e rfl
 refine s_then (U₁ := up sRe (.int rest) (up sWy (.int way) (up sVa (.bytes value) (up sNa (.bytes name) U0)))) (s_assign hc (ev_bin hd3 ev_int (i_div (by decide) (pyl (by decide +kernel)))) kd) ?_
 let U1 := up sRe (.int rest) (up sWy (.int way) (up sVa (.bytes value) (up sNa (.bytes name) U0)))
 have hbl : U1.lookup sBl = some (flds block) := rfl
 have hwy : U1.lookup sWy = some (.int way) := rfl
 have hre : U1.lookup sRe = some (.int rest) := rfl
 have hva : U1.lookup sVa = some (.bytes value) := rfl
 have hna : U1.lookup sNa = some (.bytes name) := rfl
 have lenB : ∀ {U : Env1} {p1 p2 p3 : Pos}, U.lookup sBl = some (flds block) -> EV c [] U (.Call (.Name (ofString "len") p1) [.Name sBl p2] [] p3) (.int (block.length : Int)) := fun h => by
  have := c_len_lst (C := c.C) (A := c.A) (xs := block.map Fld.av) (by simp; lia)
  rw [List.length_map] at this
  exact ev_callB (ev_bi hc.e h1 T (by decide +kernel) kd) (eva_cons (ev_local hc.e h) eva_nil) this
 let W : Bool := decide ((way : Int) > 3) && (!decide (block = []) && true)
 have hW : (W = true) ↔ (way > 3 /\ block ≠ []) := by
  show (decide ((way : Int) > 3) && (!decide (block = []) && true)) = true ↔ _
  simp; omega
 refine s_cons (N1 := fun U => U = U1 /\ W = false) (s_if (b := W) (et_bool (all_and (et_cmp (ev_local hc.e hwy) ev_int i_gt) fun _ => all_and (et_cmp (ev_local hc.e hbl) (ev_lst evl_nil (by simp)) (lst_ne hc.room.eq)) fun _ => all_and_nil)) (fun hb => ?_) fun hb => s_nil ⟨rfl, hb⟩) ?_
 ·refine E02 (hW.mp hb) fun w3 bne => ?_
  have hpos : 0 < block.length := List.length_pos_iff.mpr bne
  have hk := modN_lt (a := rest) hpos
  let k := modN rest block.length
  have hkk : block[k]? = some block[k] := List.getElem?_eq_getElem hk
  refine s_then (U₁ := up sKk (.int (k : Int)) U1) (s_assign hc (ev_mod (ev_local hc.e hre) (lenB hbl) hpos) kd) ?_
  let U2 := up sKk (.int (k : Int)) U1
  have hbl2 : U2.lookup sBl = some (flds block) := rfl
  have hk2 : U2.lookup sKk = some (.int (k : Int)) := rfl
  have hwy2 : U2.lookup sWy = some (.int way) := rfl
  let kept : List Fld := if way = 5 then (block[k]?.map fun f => { f with v := [] }).toList else []
  have eat : ∀ {p1 p2 p3 : Pos}, EV c [] U2 (.Subscript (.Name sBl p1) (.Name sKk p2) p3) (Fld.av block[k]) := fun {p1 p2 p3} => ev_idxL (xs := block.map Fld.av) (ev_local hc.e hbl2) (ev_local hc.e hk2) (by rw [List.getElem?_map, hkk]; rfl) (by simp; lia)
  refine s_then (U₁ := up sKe (flds kept) U2) (s_assign hc (ev_if (b := (way : Int) == 5) (et_cmp (ev_local hc.e hwy2) ev_int i_eq) (fun h => ?_) fun h => ?_) kd rfl) ?_
  ·have h5 : way = 5 := nat_eq h
   have e : flds kept = .lst [Fld.av { block[k] with v := [] }] := by
    show AV.lst (List.map Fld.av (if way = 5 then _ else _)) = _
    rw [if_pos h5, hkk]; rfl
   rw [e]
   exact ev_lst (evl_cons (ev_bin (ev_tup (evl_cons (ev_g0 eat) (evl_cons ev_bytes evl_nil)) (by simp)) (ev_g2 eat) (t_add (xSum ..) (by simp))) evl_nil) (by simp)
  ·have h5 : ¬ way = 5 := fun z => by rw [z] at h; cases h
   have e : flds kept = .lst [] := by
    show AV.lst (List.map Fld.av (if way = 5 then _ else _)) = _
    rw [if_neg h5]; rfl
   rw [e]
   exact ev_lst evl_nil (by simp)
  ·let U3 := up sKe (flds kept) U2
   have hbl3 : U3.lookup sBl = some (flds block) := rfl
   have hk3 : U3.lookup sKk = some (.int (k : Int)) := rfl
   have hke : U3.lookup sKe = some (flds kept) := look_up
   have hkl : kept.length <= 1 := by
    show (if way = 5 then _ else _ : List Fld).length <= 1
    split
    ·rw [hkk]; simp
    ·simp
   have eR : moreL block d = (block.take k ++ kept) ++ block.drop (k + 1) := by
    unfold moreL
    rw [if_pos ⟨w3, bne⟩]; rfl
   refine s_cons (N1 := fun _ => False) (s_return hc (av := flds (moreL block d)) ?_ rfl) fun _ h => h.elim
   rw [eR]
   show EV c [] _ _ (.lst (((block.take k ++ kept) ++ block.drop (k + 1)).map Fld.av))
   rw [List.map_append, List.map_append, <- take_av, <- drop_av]
   have e1 : ((k : Int) + 1) = ((k + 1 : Nat) : Int) := by lia
   exact cutL (ev_takeL (ev_local hc.e hbl3) (ev_local hc.e hk3) hM) (ev_local hc.e hke) (ev_dropL (ev_local hc.e hbl3) (e1 ▸ ev_bin (ev_local hc.e hk3) ev_int i_add) hM) hm (by rw [List.length_map]; exact Nat.le_trans hkl (by decide))
 ·rintro _ ⟨rfl, hWf⟩
  have hnot : ¬ (way > 3 /\ block ≠ []) := fun z => by rw [hW.mpr z] at hWf; cases hWf
  let v2 := moreVal value way rest
  have hv2 : v2.length <= 21 := by
   show (moreVal value way rest).length <= 21
   unfold moreVal
   split
   ·exact Nat.le_trans (len_put (Nat.le_refl _)) (Nat.succ_le_succ hvlen)
   ·exact Nat.le_succ_of_le hvlen
  refine s_cons (N1 := fun U => U.lookup sBl = some (flds block) /\ U.lookup sWy = some (.int way) /\ U.lookup sRe = some (.int rest) /\ U.lookup sNa = some (.bytes name) /\ U.lookup sVa = some (.bytes v2)) (s_if (b := (way : Int) == 1) (et_cmp (ev_local hc.e hwy) ev_int i_eq) (fun h => ?_) fun h => s_nil ⟨hbl, hwy, hre, hna, ?_⟩) ?_
  ·have h1w : way = 1 := nat_eq h
   let pl := modN (rest.fdiv 256) (value.length + 1)
   have e1 : ((value.length : Int) + 1) = ((value.length + 1 : Nat) : Int) := by lia
   refine s_then (U₁ := up sPl (.int (pl : Int)) U1) (s_assign hc (ev_mod (n := value.length + 1) (ev_bin (ev_local hc.e hre) ev_int (i_div (by decide) (pyl (by decide +kernel)))) (e1 ▸ ev_bin (ev_callB (ev_bi hc.e h1 T (by decide +kernel) kd) (eva_cons (ev_local hc.e hva) eva_nil) (c_len_bytes hV)) ev_int i_add) (by lia)) kd) ?_
   have hva4 : (up sPl (.int (pl : Int)) U1).lookup sVa = some (.bytes value) := rfl
   have hre4 : (up sPl (.int (pl : Int)) U1).lookup sRe = some (.int rest) := rfl
   have hpl4 : (up sPl (.int (pl : Int)) U1).lookup sPl = some (.int (pl : Int)) := look_up
   have e2 : v2 = (value.take pl ++ [UInt8.ofNat (modN rest 256)]) ++ value.drop pl := by
    show moreVal value way rest = _
    unfold moreVal; rw [if_pos h1w]
   have hm := modN_lt (a := rest) (n := 256) (by decide)
   have e3 : AV.lst [.int ((modN rest 256 : Nat) : Int)] = .lst (bI [UInt8.ofNat (modN rest 256)]) := by
    unfold bI
    have : (UInt8.ofNat (modN rest 256)).toNat = modN rest 256 := by
     rw [UInt8.toNat_ofNat']; exact Nat.mod_eq_of_lt hm
    simp [this]
   refine s_then (U₁ := up sVa (.bytes v2) (up sPl (.int (pl : Int)) U1)) (s_assign hc (av := .bytes v2) ?_ kd) (s_nil ⟨rfl, rfl, rfl, rfl, look_up⟩)
   rw [e2]
   exact cutB (ev_takeB (ev_local hc.e hva4) (ev_local hc.e hpl4) hV) (ev_callT1 (ev_bi hc.e h1 T (v := .type "bytes") (by decide +kernel) kd) (eva_cons (e3 ▸ ev_lst (evl_cons (ev_mod (n := 256) (ev_local hc.e hre4) ev_int (by decide)) evl_nil) le1) eva_nil) (c_bytesL (by simp) hc.room.h)) (ev_dropB (ev_local hc.e hva4) (ev_local hc.e hpl4) hV) (Nat.le_trans hvlen (by decide)) le1
  ·have h1w : ¬ way = 1 := fun z => by rw [z] at h; cases h
   have : v2 = value := by
    show moreVal value way rest = _
    unfold moreVal; rw [if_neg h1w]
   rw [this]; exact hva
  ·rintro U ⟨hbl, hwy, hre, hna, hva⟩
   let f : Fld := ⟨name, v2, if way = 2 then some (modN rest 2 == 0) else none⟩
   refine s_then (U₁ := up sFd f.av U) (s_assign hc (ev_if (b := (way : Int) == 2) (et_cmp (ev_local hc.e hwy) ev_int i_eq) (fun h => ?_) fun h => ?_) kd rfl) ?_
   ·have h2w : way = 2 := nat_eq h
    have e : f.av = .tup [.bytes name, .bytes v2, .bool (((modN rest 2 : Nat) : Int) == 0)] := by
     show Fld.av ⟨name, v2, if way = 2 then some (modN rest 2 == 0) else none⟩ = _
     rw [if_pos h2w]
     have : (((modN rest 2 : Nat) : Int) == 0) = (modN rest 2 == 0) := by
      cases hm : modN rest 2 with
      | zero => rfl
      | succ n => rw [beq_eq_false_iff_ne.mpr (by omega), beq_eq_false_iff_ne.mpr (by lia)]
     rw [this]; rfl
    rw [e]
    exact ev_tup (evl_cons (ev_local hc.e hna) (evl_cons (ev_local hc.e hva) (evl_cons (ev_cmp (ev_mod (n := 2) (ev_local hc.e hre) ev_int (by decide)) ev_int i_eq) evl_nil))) (by simp)
   ·have h2w : ¬ way = 2 := fun z => by rw [z] at h; cases h
    have e : f.av = .tup [.bytes name, .bytes v2] := by
     show Fld.av ⟨name, v2, if way = 2 then some (modN rest 2 == 0) else none⟩ = _
     rw [if_neg h2w]; rfl
    rw [e]
    exact ev_tup (evl_cons (ev_local hc.e hna) (evl_cons (ev_local hc.e hva) evl_nil)) (by simp)
   ·have hbl2 : (up sFd f.av U).lookup sBl = some (flds block) := (look_ne).trans hbl
    have hwy2 : (up sFd f.av U).lookup sWy = some (.int way) := (look_ne).trans hwy
    have hre2 : (up sFd f.av U).lookup sRe = some (.int rest) := (look_ne).trans hre
    have hfd2 : (up sFd f.av U).lookup sFd = some f.av := look_up
    let pl := if way = 3 then modN rest (block.length + 1) else block.length
    have e1 : ((block.length : Int) + 1) = ((block.length + 1 : Nat) : Int) := by lia
    refine s_then (U₁ := up sPl (.int (pl : Int)) (up sFd f.av U)) (s_assign hc (ev_if (b := (way : Int) == 3) (et_cmp (ev_local hc.e hwy2) ev_int i_eq) (fun h => ?_) fun h => ?_) kd rfl) ?_
    ·have h3w : way = 3 := nat_eq h
     have e : pl = modN rest (block.length + 1) := if_pos h3w
     rw [e]
     exact ev_mod (n := block.length + 1) (ev_local hc.e hre2) (e1 ▸ ev_bin (lenB hbl2) ev_int i_add) (by lia)
    ·have h3w : ¬ way = 3 := fun z => by rw [z] at h; cases h
     have e : pl = block.length := if_neg h3w
     rw [e]
     exact lenB hbl2
    ·have hbl5 : (up sPl (.int (pl : Int)) (up sFd f.av U)).lookup sBl = some (flds block) := (look_ne).trans hbl2
     have hfd5 : (up sPl (.int (pl : Int)) (up sFd f.av U)).lookup sFd = some f.av := (look_ne).trans hfd2
     have eR : moreL block d = (block.take pl ++ [f]) ++ block.drop pl := by
      unfold moreL
      rw [if_neg hnot]; rfl
     refine s_cons (N1 := fun _ => False) (s_return hc (av := flds (moreL block d)) ?_ rfl) fun _ h => h.elim
     rw [eR]
     show EV c [] _ _ (.lst (((block.take pl ++ [f]) ++ block.drop pl).map Fld.av))
     rw [List.map_append, List.map_append, <- take_av, <- drop_av]
     exact cutL (ev_takeL (ev_local hc.e hbl5) (ev_local hc.e look_up) hM) (ev_lst (xs := [f.av]) (evl_cons (ev_local hc.e hfd5) evl_nil (by rfl)) le1) (ev_dropL (ev_local hc.e hbl5) (ev_local hc.e look_up) hM) hm le1
end
noncomputable def unF : AV -> Fld
 | .tup (.bytes n :: .bytes v :: r) => ⟨n, v, match r with | [.bool b] => some b | _ => none⟩
 | _ => ⟨[], [], none⟩
theorem unF_av (f : Fld) : unF f.av = f := by
 obtain ⟨n, v, x⟩ := f
 cases x <;> rfl
noncomputable def unY : AV -> List UInt8
 | .bytes b => b
 | _ => []
noncomputable def iA (c : UInt8) : AV := .int c.toNat
noncomputable def unI : AV -> UInt8
 | .int i => UInt8.ofNat i.toNat
 | _ => 0
theorem unI_iA (c : UInt8) : unI (iA c) = c := by
 show UInt8.ofNat ((c.toNat : Int)).toNat = c
 rw [Int.toNat_natCast]; exact UInt8.ofNat_toNat
section
variable {c : Ac} {Z U : Env1} {N : Env1 -> Prop} {R : AV -> Prop} {X : Prop}
theorem comp_enc {α : Type} {enc : α -> AV} {un : AV -> α} (hun : ∀ a, un (enc a) = a) (P : α -> Bool) (G : α -> AV) (l : List α) : ((l.map enc).filter fun a => P (un a)).map (fun a => G (un a)) = (l.filter P).map G := by
 rw [List.filter_map, List.map_map]
 have e1 : ((fun a => P (un a)) ∘ enc) = P := funext fun a => by show P (un (enc a)) = _; rw [hun]
 have e2 : ((fun a => G (un a)) ∘ enc) = G := funext fun a => by show G (un (enc a)) = _; rw [hun]
 rw [e1, e2]
theorem ev_compE {α : Type} {enc : α -> AV} (un : AV -> α) (hun : ∀ a, un (enc a) = a) (hnl : ∀ a, (enc a).nl = true) (P : α -> Bool) (G : α -> AV) {l : List α} {elt iter : Expr} {x : Str} {px : Pos} {ifs : List Expr} {scope : Scope} {pos : Pos} (hc : c.EOk) (hI : EI c Z U iter (l.map enc)) (hk : compChk scope x = true) (hlen : l.length <= 1000000)
  (ht : ∀ c' : Ac, c'.EOk -> c'.C = c.C -> c'.n = c.n -> c'.env.scope = scope -> ∀ a ∈ l, CT c' [] [(x, enc a)] ifs (P a) /\ (P a = true -> EV c' [] [(x, enc a)] elt (G a) /\ (G a).nl = true))
  (hs : ∀ x, foldedSetIterable iter c.env x = pure x := by intro _; rfl) : EV c Z U (.ListComp elt [⟨.Name x px, iter, ifs, 0⟩] scope pos) (.lst ((l.filter P).map G)) := by
 rw [<- comp_enc hun P G l]
 refine ev_comp0 _ _ hc hI hk (by simpa using hlen) (fun c' h1 h2 h3 h4 y hy => ?_) hs
 refine E12 (List.mem_map.mp hy) ?_; rintro a ha rfl
 rw [hun]
 exact ⟨hnl a, ht c' h1 h2 h3 h4 a ha⟩
theorem s_compE {α : Type} {enc : α -> AV} (un : AV -> α) (hun : ∀ a, un (enc a) = a) (hnl : ∀ a, (enc a).nl = true) (P : α -> Bool) (G : α -> AV) {l : List α} {elt iter : Expr} {x y : Str} {px py : Pos} {ifs : List Expr} {scope : Scope} {pos spos : Pos} (hc : c.Ok) (hI : EI c Z U iter (l.map enc)) (hk : compChk scope x = true) (hlen : l.length <= 1000000)
  (ht : ∀ c' : Ac, c'.EOk -> c'.C = c.C -> c'.n = c.n -> c'.env.scope = scope -> ∀ a ∈ l, CT c' [] [(x, enc a)] ifs (P a) /\ (P a = true -> EV c' [] [(x, enc a)] elt (G a) /\ (G a).nl = true))
  (hy : c.env.kindOf y = some .local) (hyn : (scope.names.any fun (n, k) => n == y && (k == .local || k == .cell)) = false := by decide +kernel) (hln : (py.line == pos.line) = true := by rfl)
  (hs : ∀ x, foldedSetIterable iter c.env x = pure x := by intro _; rfl) : S1 c Z U (.Assign [.Name y py] (.ListComp elt [⟨.Name x px, iter, ifs, 0⟩] scope pos) spos) (· = up y (.lst ((l.filter P).map G)) U) R X := by
 rw [<- comp_enc hun P G l]
 refine s_comp0 _ _ hc hI hk (by simpa using hlen) (fun c' h1 h2 h3 h4 z hz => ?_) hy hyn hln hs
 refine E12 (List.mem_map.mp hz) ?_; rintro a ha rfl
 rw [hun]
 exact ⟨hnl a, ht c' h1 h2 h3 h4 a ha⟩
theorem bInts_eq (t : List UInt8) : bInts t = t.map iA := rfl
end
noncomputable def nBad (c : UInt8) : Bool := (!(decide ((33 : Int) <= (c.toNat : Int)) && decide ((c.toNat : Int) <= 126))) || ((decide ((65 : Int) <= (c.toNat : Int)) && decide ((c.toNat : Int) <= 90)) || false)
noncomputable def vBad (c : UInt8) : Bool := ([0, 10, 13] : List Int).contains (c.toNat : Int)
noncomputable def badL (f : Fld) : Bool := !decide ((f.n.filter nBad).map (fun c => (c.toNat : Int)) = []) || (!decide ((f.v.filter vBad).map (fun c => (c.toNat : Int)) = []) || false)
noncomputable def legalL (block : List Fld) : Bool := block.all fun f => !badL f
section
variable {C : Cx}
theorem fc_legal (T : Tp C) {block : List Fld} (hB : ∀ f ∈ block, small 1000 f) (hl : block.length <= 1000) : FC C 1 (.ref 414) [flds block] (· = .bool (legalL block)) False := by
 refine E12 (T.fn (414, 48) (by decide)) fun fd F _ => ?_
 refine fc_std T.ok F (by decide +kernel) (by decide +kernel) (names := [sBl]) (bindW (bind1 F.pa F.df)) rfl (by decide +kernel) (ow1 rfl) rfl fun c hc h1 h2 h3 => ?_
 have kd : ∀ {x : Str} {k : NameKind} (_ : (dScope (stA 48)).names.lookup x = some k := by decide +kernel), c.env.kindOf x = some k := fun h => kindC F h3 h
 refine s_cons (N1 := fun _ => legalL block = true) (s_for hc (xs := block.map Fld.av) (Inv := fun xs U => ∃ dn rest, block = dn ++ rest /\ xs = rest.map Fld.av /\ legalL dn = true) (ev_local hc.e (av := flds block) rfl) (flds_nl block) kd ⟨[], block, rfl, rfl, rfl⟩ ?_ ?_) fun U hl => s_cons (N1 := fun _ => False) (s_return hc (ev_bool (x := true)) (by rw [hl])) fun _ h => h.elim
 ·rintro U ⟨dn, rest, e, hx, hm⟩
  cases rest with
  | nil => rw [List.append_nil] at e; subst e; exact hm
  | cons _ _ => cases hx
 rintro x xs U ⟨dn, rest, e, hx, hm⟩
 cases rest with
 | nil => cases hx
 | cons f rest =>
  cases hx
  have hf : small 1000 f := hB f (by rw [e]; simp)
  refine ⟨rfl, ?_⟩
  have cmpE : ∀ {t : List UInt8} {P : UInt8 -> Bool}, (AV.lst ((t.filter P).map iA)) = .lst ((((t.filter P).map fun c => (c.toNat : Int))).map AV.int) := fun {t P} => by rw [List.map_map]; rfl
  refine s_cons (s_if (b := badL f) (et_bool (all_or (et_cmp (cmpE ▸ ev_compE unI unI_iA (fun _ => rfl) nBad iA hc.e (bInts_eq f.n ▸ ei_bytes hc.e (ev_f0 hc.e look_up) (by have := hf.1; lia)) (by decide +kernel) (by have := hf.1; lia) (fun c' hc' g1 g2 g3 d _ => ⟨ct_one (et_bool (all_or (et_not (et_chain ev_int (ev_local hc' rfl) ev_int i_le i_le)) fun _ => all_or (et_chain ev_int (ev_local hc' rfl) ev_int i_le i_le) fun _ => all_or_nil)), fun _ => ⟨ev_local hc' rfl, rfl⟩⟩)) (ev_lst evl_nil (by simp)) (l_ne (enc := AV.int) eqE_int (b := []) hc.room.eq)) fun _ => all_or (et_cmp (cmpE ▸ ev_compE unI unI_iA (fun _ => rfl) vBad iA hc.e (bInts_eq f.v ▸ ei_bytes hc.e (ev_f1 hc.e look_up) (by have := hf.2; lia)) (by decide +kernel) (by have := hf.2; lia) (fun c' hc' g1 g2 g3 d _ => ⟨ct_one (et_cmp (ev_local hc' rfl) (ev_tup (xs := ([0, 10, 13] : List Int).map .int) (evl_cons ev_int (evl_cons ev_int (evl_cons ev_int evl_nil))) (by decide)) i_in), fun _ => ⟨ev_local hc' rfl, rfl⟩⟩)) (ev_lst evl_nil (by simp)) (l_ne (enc := AV.int) eqE_int (b := []) hc.room.eq)) fun _ => all_or_nil)) (fun hb => ?_) fun hb => ?_) fun U h => s_nil h
  ·have : legalL block = false := by rw [e]; simp [legalL, hb]
   exact s_cons (N1 := fun _ => False) (s_return hc (ev_bool (x := false)) (by rw [this])) fun _ h => h.elim
  ·exact s_nil ⟨dn ++ [f], rest, by rw [e]; simp, rfl, by simp [legalL, hb] at hm ⊢; exact hm⟩
end
noncomputable def bConn : List UInt8 := [67, 79, 78, 78, 69, 67, 84]
noncomputable def teBad (f : Fld) : Bool := f.n == nTe && (lowL f.v != bTrailers && true)
noncomputable def namesOf (block : List Fld) : List (List UInt8) := block.map (·.n)
noncomputable def valsOf (block : List Fld) : KV := dictB (block.map fun f => (f.n, f.v))
noncomputable def frontOf (block : List Fld) : List (List UInt8) := (namesOf block).filter isP
noncomputable def hostsOf (block : List Fld) : List (List UInt8) := (block.filter fun f => f.n == nHost).map (·.v)
noncomputable def mustA : List (List UInt8) := [nMethod, nPath, nScheme]
noncomputable def mustB : List (List UInt8) := [nMethod, nPath, nProto, nScheme]
noncomputable def gb1 (b : List Fld) : Bool := !decide ((b.filter teBad).map (fun _ => (1 : Int)) = [])
noncomputable def gb2 (b : List Fld) : Bool := !decide ((namesOf b).filter hopsB.contains = [])
noncomputable def gb3 (b : List Fld) : Bool := !decide ((namesOf b).take (frontOf b).length = frontOf b) || (((((valsOf b).map (·.1)).filter isP).length : Int) != ((frontOf b).length : Int) || false)
noncomputable def gb4 (k : Int) : Bool := (k == 1) || ((k == 2) || false)
noncomputable def gr4 (b : List Fld) (k : Int) : Bool := decide (frontOf b = if k == 1 then [nStatus] else [])
noncomputable def gb9 (b : List Fld) : Bool := (valueB (valsOf b) nMethod).isSome && ((valueB (valsOf b) nMethod).getD [] == bConn && true)
noncomputable def mustOf (b : List Fld) : List (List UInt8) := if gb9 b then (if (valueB (valsOf b) nProto).isSome then mustB else [nMethod]) else mustA
noncomputable def gb10 (b : List Fld) : Bool := !decide (sortB ((frontOf b).filter fun n => n != nAuth) = mustOf b)
noncomputable def gb11 (b : List Fld) : Bool := (valueB (valsOf b) nPath).isSome && ((valueB (valsOf b) nPath).getD [] == [] && true)
noncomputable def gb13 (b : List Fld) : Bool := (valueB (valsOf b) nAuth).isSome
noncomputable def gr13 (b : List Fld) : Bool := decide (hostsOf b = []) || decide (hostsOf b = [(valueB (valsOf b) nAuth).getD []])
noncomputable def gb14 (b : List Fld) : Bool := (((mustOf b).length : Int) == 1) && ((((hostsOf b).length : Int) == 1) && true)
noncomputable def gr15 (b : List Fld) : Bool := ((hostsOf b).length : Int) == 1
noncomputable def goodB (b1 b2 b3 b4 r4 b10 b11 b13 r13 b14 r15 : Bool) : Option Bool :=
 if b1 then some false else if b2 then some false else if b3 then some false else if b4 then some r4 else if b10 then some false else if b11 then some false else if b13 then some r13 else if b14 then none else some r15
noncomputable def goodL (b : List Fld) (k : Int) : Option Bool := goodB (gb1 b) (gb2 b) (gb3 b) (gb4 k) (gr4 b k) (gb10 b) (gb11 b) (gb13 b) (gr13 b) (gb14 b) (gr15 b)
noncomputable def gA : Option Bool -> AV
 | none => .none
 | some b => .bool b
theorem gA_ret : ∀ g, (gA g).ret = true
 | none => rfl
 | some _ => rfl
theorem storedB_keys {kvs : KV} {k v : List UInt8} : ∀ x ∈ (storedB kvs k v).map (·.1), x = k \/ x ∈ kvs.map (·.1) := fun x hx => by
 unfold storedB at hx
 split at hx
 ·have e2 : (kvs.map (fun kv => if kv.1 = k then (kv.1, v) else kv)).map (·.1) = kvs.map (·.1) := by
   rw [List.map_map]; refine List.map_congr_left fun p _ => ?_; show (if p.1 = k then (p.1, v) else p).1 = p.1; split <;> rfl
  rw [e2] at hx; exact .inr hx
 ·rw [List.map_append] at hx
  rcases List.mem_append.mp hx with h | h
  ·exact .inr h
  ·left; simpa using h
theorem dictB_keys (l : KV) : ∀ x ∈ (dictB l).map (·.1), x ∈ l.map (·.1) := by
 have gen : ∀ (l a : KV), ∀ x ∈ (l.foldl (fun a p => storedB a p.1 p.2) a).map (·.1), x ∈ a.map (·.1) \/ x ∈ l.map (·.1) := by
  intro l
  induction l with
  | nil => intro a x hx; exact .inl hx
  | cons p l ih =>
   intro a x hx
   rcases ih _ x hx with h | h
   ·rcases storedB_keys x h with rfl | h
    ·exact .inr (by simp)
    ·exact .inl h
   ·exact .inr (by rw [List.map_cons]; exact mC _ h)
 intro x hx
 rcases gen l [] x hx with h | h
 ·simp at h
 ·exact h
noncomputable abbrev sNs : Str := ofString "names"
noncomputable abbrev sVs : Str := ofString "values"
noncomputable abbrev sFr : Str := ofString "front"
noncomputable abbrev sMu : Str := ofString "must"
noncomputable abbrev sHt : Str := ofString "hosts"
noncomputable abbrev sKi : Str := ofString "kind"
section
variable {C : Cx} {c : Ac} {Z U : Env1} {N : Env1 -> Prop} {R : AV -> Prop} {X : Prop}
theorem sx_ret_if {t e : Expr} {b : Bool} {av : AV} {rest : List Stmt} {ip rp : Pos} (hc : c.Ok) (ht : ET c Z U t b) (he : b = true -> EV c Z U e av) (hR : b = true -> R av) (k : b = false -> SX c Z U rest N R X) : SX c Z U (.If t [.Return (some e) rp] [] ip :: rest) N R X :=
 s_cons (N1 := fun U' => U' = U /\ b = false) (s_if ht (fun h => s_cons (N1 := fun _ => False) (s_return hc (he h) (hR h)) fun _ z => z.elim) fun h => s_nil ⟨rfl, h⟩) fun U' h => h.1 ▸ k h.2
theorem swaps_dcomp {kx vx : Expr} {gens : List Comprehension} {sc : Scope} {vp tp : Pos} {y : Str} {line : Nat} (hc : c.EOk) (hy : c.env.kindOf y = some .local) (hl : (tp.line == vp.line) = true) (hn : (sc.names.any fun (n, k) => n == y && (k == .local || k == .cell)) = false) :
  swapsWith (.DictComp kx vx gens sc vp) (some (.Name y tp)) line c.env = pure true := by
 have hb : c.env.blockKind = .function := by unfold Env.blockKind; simp [hc.kind]
 show (pure (c.env.blockKind == .function && c.env.kindOf y == some .local && tp.line == vp.line && !(sc.names.any fun (n, k) => n == y && (k == .local || k == .cell))) : Sem Bool) = pure true
 rw [hb, hy, hl, hn]; rfl
theorem s_dictE {α : Type} {enc : α -> AV} (un : AV -> α) (hun : ∀ a, un (enc a) = a) (hnl : ∀ a, (enc a).nl = true) (kf vf : α -> List UInt8) {l : List α} {kx vx iter : Expr} {x y : Str} {px py : Pos} {scope : Scope} {pos spos : Pos} (hc : c.Ok) (hI : EI c Z U iter (l.map enc)) (hk : compChk scope x = true) (hlen : l.length <= 100000)
  (ht : ∀ c' : Ac, c'.EOk -> c'.C = c.C -> c'.n = c.n -> c'.env.scope = scope -> ∀ a ∈ l, EV c' [] [(x, enc a)] kx (.bytes (kf a)) /\ EV c' [] [(x, enc a)] vx (.bytes (vf a)))
  (hy : c.env.kindOf y = some .local) (hyn : (scope.names.any fun (n, k) => n == y && (k == .local || k == .cell)) = false := by decide +kernel) (hln : (py.line == pos.line) = true := by rfl)
  (hs : ∀ x, foldedSetIterable iter c.env x = pure x := by intro _; rfl) : S1 c Z U (.Assign [.Name y py] (.DictComp kx vx [⟨.Name x px, iter, [], 0⟩] scope pos) spos) (· = up y (.dict (dictB (l.map fun a => (kf a, vf a)))) U) R X := by
 refine E02 (compChk_of (Z := Z) hc.b hk) fun ok hr => ?_
 have e : (l.map fun a => (kf a, vf a)) = (l.map enc).map fun y => (kf (un y), vf (un y)) := by
  rw [List.map_map]; refine List.map_congr_left fun a _ => ?_; show _ = (kf (un (enc a)), vf (un (enc a))); rw [hun]
 rw [e]
 refine s_dcomp hc hI ok (by simpa using hlen) (fun y av z => by simp [List.lookup] at z) (fun c' h1 h2 h3 h4 z hz => ?_) hy (swaps_dcomp hc.e hy hln hyn) hs
 refine E12 (List.mem_map.mp hz) ?_; rintro a ha rfl
 rw [hun]
 exact ⟨hnl a, ht c' h1 h2 h3 (h4.trans hr) a ha⟩
theorem valueB_nil {kvs : KV} {k : List UInt8} (h : (valueB kvs k).isSome = true) : valueB kvs k = some ((valueB kvs k).getD []) := by
 refine E11 (Option.isSome_iff_exists.mp h) fun v hv => ?_; rw [hv]; rfl
theorem fc_good (T : Tp C) {block : List Fld} {kind : Int} (hB : ∀ f ∈ block, named f) (hl : block.length <= 1000) (h64 : (frontOf block).length < 64) : FC C 2 (.ref 409) [flds block, .int kind] (· = gA (goodL block kind)) False := by
 refine E12 (T.fn (409, 47) (by decide)) fun fd F _ => ?_
 refine fc_std T.ok F (by decide +kernel) (by decide +kernel) (names := [sBl, sKi]) (bindW (bind2 F.pa F.df)) rfl (by decide +kernel) (ow2 rfl rfl) (gA_ret _) fun c hc h1 h2 h3 => ?_
 have kd : ∀ {x : Str} {k : NameKind} (_ : (dScope (stA 47)).names.lookup x = some k := by decide +kernel), c.env.kindOf x = some k := fun h => kindC F h3 h
 have hu := hc.room.eq
 let U0 : Env1 := [(sKi, .int kind), (sBl, flds block)]
 let nm := namesOf block
 have hnm : nm.length <= 1000 := by show (block.map _).length <= _; simpa using hl
 have hkeys : ∀ n ∈ nm, n ≠ [] /\ n.length <= 1000 := fun n hn => by
  refine E12 (List.mem_map.mp hn) ?_; rintro f hf rfl
  exact ⟨(hB f hf).2, (hB f hf).1.1⟩
 have hvk : ∀ n ∈ (valsOf block).map (·.1), n ≠ [] /\ n.length <= 1000 := fun n hn => by
  have := dictB_keys _ n hn
  rw [List.map_map] at this
  exact hkeys n this
 have hvlen : (valsOf block).length <= 1000 := Nat.le_trans (dictB_len _) (by simpa using hl)
 have eiB : ∀ {U : Env1} {p : Pos}, U.lookup sBl = some (flds block) -> EI c [] U (.Name sBl p) (block.map Fld.av) := fun h => ei_list hc.e (ev_local hc.e h) (flds_nl block)
 have at58 : ∀ {c' : Ac} {n : List UInt8} {p1 p2 p3 p4 p5 : Pos} {k1 k2 : Nat}, c'.EOk -> n ≠ [] /\ n.length <= 1000 -> ET c' [] [(sNa, .bytes n)] (.Compare (.Subscript (.Name sNa p1) (.Constant (.int 0) k1 p2) p3) [.Eq] [.Constant (.int 58) k2 p4] p5) (isP n) := fun hc' hn => by
  have := List.length_pos_iff.mpr hn.1
  exact et_cmp (ev_sub (ev_local hc' rfl) ev_int (gi_bytes (i := 0) (by lia) (by decide) (by lia))) ev_int i_eq
 refine s_cons (N1 := (· = up sNs (.lst (nm.map .bytes)) U0)) (S1.weak (s_compE unF unF_av Fld.nl (fun _ => true) (fun f => .bytes f.n) hc (eiB rfl) (by decide +kernel) (by lia) (fun c' hc' g1 g2 g3 f _ => ⟨ct_nil, fun _ => ⟨ev_f0 hc' rfl, rfl⟩⟩) kd) (fun U' h => h.trans (by rw [show (block.filter fun _ => true) = block from by simp, show (block.map fun f => AV.bytes f.n) = nm.map .bytes from by show _ = (block.map _).map _; rw [List.map_map]; rfl]; rfl)) (fun _ h => h) (fun h => h)) ?_
 rintro _ rfl
 refine s_then (U₁ := up sVs (.dict (valsOf block)) (up sNs (.lst (nm.map .bytes)) U0)) (s_dictE unF unF_av Fld.nl (·.n) (·.v) hc (eiB rfl) (by decide +kernel) (by lia) (fun c' hc' g1 g2 g3 f _ => ⟨ev_f0 hc' rfl, ev_f1 hc' rfl⟩) kd) ?_
 let U2 : Env1 := up sVs (.dict (valsOf block)) (up sNs (.lst (nm.map .bytes)) U0)
 have l2n : U2.lookup sNs = some (.lst (nm.map .bytes)) := rfl
 have gl : ∀ {b : Option Bool}, goodL block kind = b -> gA b = gA (goodL block kind) := fun h => by rw [h]
 refine sx_ret_if (b := gb1 block) (av := .bool false) hc ?_ (fun _ => ev_bool) (fun hb1 => gl (b := some false) (by simp [goodL, goodB, hb1])) fun hb1 => ?_
 ·have e : AV.lst ((block.filter teBad).map fun _ => AV.int 1) = .lst (((block.filter teBad).map fun _ => (1 : Int)).map .int) := by rw [List.map_map]; rfl
  refine et_cmp (e ▸ ev_compE unF unF_av Fld.nl teBad (fun _ => .int 1) hc.e (eiB rfl) (by decide +kernel) (by lia) (fun c' hc' g1 g2 g3 f hf => ⟨ct_one (et_bool (all_and (et_cmp (ev_f0 hc' rfl) ev_bytes b_eq) fun _ => all_and (et_cmp (ev_callN hc' (g1.trans h1) T 383 43 (by decide) rfl (by show c'.env.scope.names.lookup _ = _; rw [g3]; decide +kernel) (by decide +kernel) (eva_cons (ev_f1 hc' rfl) eva_nil) (fc_lower T (hB f hf).1.2) (by lia)) ev_bytes b_ne) fun _ => all_and_nil)), fun _ => ⟨ev_int, rfl⟩⟩)) (ev_lst evl_nil (by simp)) (l_ne (enc := AV.int) eqE_int (b := []) hu)
 refine sx_ret_if (b := gb2 block) (av := .bool false) hc ?_ (fun _ => ev_bool) (fun hb2 => gl (b := some false) (by simp [goodL, goodB, hb1, hb2])) fun hb2 => ?_
 ·exact et_cmp (ev_compE (enc := AV.bytes) unY (fun _ => rfl) (fun _ => rfl) hopsB.contains .bytes hc.e (ei_list hc.e (ev_local hc.e l2n) (fun y hy => by refine E12 (List.mem_map.mp hy) ?_; rintro b _ rfl; rfl)) (by decide +kernel) (by lia) (fun c' hc' g1 g2 g3 n _ => ⟨ct_one (et_cmp (ev_local hc' rfl) (ev_cst hc' (g1.trans h1) T.c371 (by show c'.env.scope.names.lookup _ = _; rw [g3]; decide +kernel) (by decide +kernel)) b_in), fun _ => ⟨ev_local hc' rfl, rfl⟩⟩)) (ev_lst evl_nil (by simp)) (l_ne (enc := AV.bytes) eqE_bytes (b := []) hu)
 let fr := frontOf block
 have hfr : fr.length <= 1000 := Nat.le_trans (List.length_filter_le ..) hnm
 refine s_then (U₁ := up sFr (.lst (fr.map .bytes)) U2) (s_compE (enc := AV.bytes) unY (fun _ => rfl) (fun _ => rfl) isP .bytes hc (ei_list hc.e (ev_local hc.e l2n) (fun y hy => by refine E12 (List.mem_map.mp hy) ?_; rintro b _ rfl; rfl)) (by decide +kernel) (by have : (namesOf block).length <= 1000 := hnm; lia) (fun c' hc' g1 g2 g3 n hn => ⟨ct_one (at58 hc' (hkeys n hn)), fun _ => ⟨ev_local hc' rfl, rfl⟩⟩) kd) ?_
 let U3 : Env1 := up sFr (.lst (fr.map .bytes)) U2
 have l3f : U3.lookup sFr = some (.lst (fr.map .bytes)) := look_up
 have l3n : U3.lookup sNs = some (.lst (nm.map .bytes)) := rfl
 have l3v : U3.lookup sVs = some (.dict (valsOf block)) := rfl
 have l3k : U3.lookup sKi = some (.int kind) := rfl
 have lenL : ∀ {U : Env1} {x : Str} {l : List (List UInt8)} {p1 p2 p3 : Pos}, U.lookup x = some (.lst (l.map .bytes)) -> (x == ("__debug__" : Str)) = false -> l.length <= 1000 -> EV c [] U (.Call (.Name (ofString "len") p1) [.Name x p2] [] p3) (.int (l.length : Int)) := fun {U x l p1 p2 p3} h hx hl => by
  have := c_len_lst (C := c.C) (A := c.A) (xs := l.map AV.bytes) (by simp; lia)
  rw [List.length_map] at this
  exact ev_callB (ev_bi hc.e h1 T (by decide +kernel) kd) (eva_cons (ev_local hc.e h hx) eva_nil) this
 refine sx_ret_if (b := gb3 block) (av := .bool false) hc ?_ (fun _ => ev_bool) (fun hb3 => gl (b := some false) (by simp [goodL, goodB, hb1, hb2, hb3])) fun hb3 => ?_
 ·have e : AV.lst ((nm.map AV.bytes).take fr.length) = .lst ((nm.take fr.length).map .bytes) := by rw [List.map_take]
  refine et_bool (all_or (et_cmp (e ▸ ev_takeL (ev_local hc.e l3n) (lenL l3f (by decide +kernel) hfr) (by simp; lia)) (ev_local hc.e l3f) (l_ne (enc := AV.bytes) eqE_bytes hu)) fun _ => all_or (et_cmp ?_ (lenL l3f (by decide +kernel) hfr) i_ne) fun _ => all_or_nil)
  have hk : (((valsOf block).map (·.1)).filter isP).length <= 1000 := Nat.le_trans (List.length_filter_le ..) (by simpa using hvlen)
  have := c_len_lst (C := c.C) (A := c.A) (xs := (((valsOf block).map (·.1)).filter isP).map AV.bytes) (by simp; lia)
  rw [List.length_map] at this
  refine ev_callB (ev_bi hc.e h1 T (by decide +kernel) kd) (eva_cons (ev_compE (enc := AV.bytes) unY (fun _ => rfl) (fun _ => rfl) isP .bytes hc.e ?_ (by decide +kernel) (by simp; lia) (fun c' hc' g1 g2 g3 n hn => ⟨ct_one (at58 hc' (hvk n hn)), fun _ => ⟨ev_local hc' rfl, rfl⟩⟩)) eva_nil) this
  rw [List.map_map]
  exact ei_dict hc.e (kvs := valsOf block) (ev_local hc.e l3v)
 refine sx_ret_if (b := gb4 kind) (av := .bool (gr4 block kind)) hc (et_bool (all_or (et_cmp (ev_local hc.e l3k) ev_int i_eq) fun _ => all_or (et_cmp (ev_local hc.e l3k) ev_int i_eq) fun _ => all_or_nil)) (fun _ => ?_) (fun hb4 => gl (b := some _) (by simp [goodL, goodB, hb1, hb2, hb3, hb4])) fun hb4 => ?_
 ·refine ev_cmp (ev_local hc.e l3f) (ev_if (z := .lst ((if kind == 1 then [nStatus] else []).map .bytes)) (b := kind == 1) (et_cmp (ev_local hc.e l3k) ev_int i_eq) (fun h => ?_) fun h => ?_) (l_eq (enc := AV.bytes) eqE_bytes hu)
  ·rw [if_pos h]; exact ev_lst (evl_cons ev_bytes evl_nil) (by simp)
  ·rw [if_neg (by rw [h]; exact fT)]; exact ev_lst evl_nil (by simp)
 refine s_then (U₁ := up sMu (.lst (mustA.map .bytes)) U3) (s_assign hc (ev_lst (xs := mustA.map .bytes) (evl_cons ev_bytes (evl_cons ev_bytes (evl_cons ev_bytes evl_nil))) (by decide)) kd) ?_
 have l4v : (up sMu (.lst (mustA.map .bytes)) U3).lookup sVs = some (.dict (valsOf block)) := rfl
 refine s_cons (N1 := fun U => U.lookup sVs = some (.dict (valsOf block)) /\ U.lookup sFr = some (.lst (fr.map .bytes)) /\ U.lookup sBl = some (flds block) /\ U.lookup sMu = some (.lst ((mustOf block).map .bytes))) (s_if (b := gb9 block) (et_bool (all_and (et_cmp ev_bytes (ev_local hc.e l4v) b_inDict) fun q => all_and (et_cmp (ev_sub (ev_local hc.e l4v) ev_bytes (gi_dict (valueB_nil q))) ev_bytes b_eq) fun _ => all_and_nil)) (fun hb9 => ?_) fun hb9 => s_nil ⟨rfl, rfl, rfl, ?_⟩) ?_
 ·refine s_then (U₁ := up sMu (.lst ([nMethod].map .bytes)) (up sMu (.lst (mustA.map .bytes)) U3)) (s_assign hc (ev_lst (xs := [nMethod].map .bytes) (evl_cons ev_bytes evl_nil) (by decide)) kd) ?_
  refine s_cons (s_if (b := (valueB (valsOf block) nProto).isSome) (et_cmp ev_bytes (ev_local hc.e (av := .dict (valsOf block)) rfl) b_inDict) (fun hp => ?_) fun hp => s_nil ⟨rfl, rfl, rfl, ?_⟩) fun U h => s_nil h
  ·refine s_then (U₁ := up sMu (.lst (mustB.map .bytes)) (up sMu (.lst ([nMethod].map .bytes)) (up sMu (.lst (mustA.map .bytes)) U3))) (s_assign hc (ev_lst (xs := mustB.map .bytes) (evl_cons ev_bytes (evl_cons ev_bytes (evl_cons ev_bytes (evl_cons ev_bytes evl_nil)))) (by decide)) kd) (s_nil ⟨rfl, rfl, rfl, ?_⟩)
   rw [show mustOf block = mustB from by unfold mustOf; rw [if_pos hb9, if_pos hp]]
   exact look_up
  ·rw [show mustOf block = [nMethod] from by unfold mustOf; rw [if_pos hb9, if_neg (by rw [hp]; exact fT)]]
   exact look_up
 ·rw [show mustOf block = mustA from by unfold mustOf; rw [if_neg (by rw [hb9]; exact fT)]]
  exact look_up
 rintro U ⟨l5v, l5f, l5b, l5m⟩
 have hml : (mustOf block).length <= 4 := by unfold mustOf; split <;> (try split) <;> decide
 have frF : (fr.filter fun n => n != nAuth).length <= fr.length := List.length_filter_le ..
 refine sx_ret_if (b := gb10 block) (av := .bool false) hc (et_cmp (ev_callB (ev_bi hc.e h1 T (by decide +kernel) kd) (eva_cons (ev_compE (enc := AV.bytes) unY (fun _ => rfl) (fun _ => rfl) (fun n => n != nAuth) .bytes hc.e (ei_list hc.e (ev_local hc.e l5f) (fun y hy => by refine E12 (List.mem_map.mp hy) ?_; rintro b _ rfl; rfl)) (by decide +kernel) (by lia) (fun c' hc' g1 g2 g3 n hn => ⟨ct_one (et_cmp (ev_local hc' rfl) ev_bytes b_ne), fun _ => ⟨ev_local hc' rfl, rfl⟩⟩)) eva_nil) (c_sorted (Nat.lt_of_le_of_lt frF h64))) (ev_local hc.e l5m) (l_ne (enc := AV.bytes) eqE_bytes hu)) (fun _ => ev_bool) (fun hb10 => gl (b := some false) (by simp [goodL, goodB, hb1, hb2, hb3, hb4, hb10])) fun hb10 => ?_
 refine sx_ret_if (b := gb11 block) (av := .bool false) hc (et_bool (all_and (et_cmp ev_bytes (ev_local hc.e l5v) b_inDict) fun q => all_and (et_cmp (ev_sub (ev_local hc.e l5v) ev_bytes (gi_dict (valueB_nil q))) ev_bytes b_eq) fun _ => all_and_nil)) (fun _ => ev_bool) (fun hb11 => gl (b := some false) (by simp [goodL, goodB, hb1, hb2, hb3, hb4, hb10, hb11])) fun hb11 => ?_
 let ht := hostsOf block
 have hht : ht.length <= 1000 := by
  show ((block.filter _).map _).length <= _
  rw [List.length_map]; exact Nat.le_trans (List.length_filter_le ..) hl
 refine s_cons (N1 := (· = up sHt (.lst (ht.map .bytes)) U)) (S1.weak (s_compE unF unF_av Fld.nl (fun f => f.n == nHost) (fun f => .bytes f.v) hc (eiB l5b) (by decide +kernel) (by lia) (fun c' hc' g1 g2 g3 f _ => ⟨ct_one (et_cmp (ev_f0 hc' rfl) ev_bytes b_eq), fun _ => ⟨ev_f1 hc' rfl, rfl⟩⟩) kd) (fun U' h => h.trans (by show _ = up sHt (.lst (((block.filter _).map _).map AV.bytes)) U; rw [List.map_map]; rfl)) (fun _ h => h) (fun h => h)) ?_
 rintro _ rfl
 have l6h : (up sHt (.lst (ht.map .bytes)) U).lookup sHt = some (.lst (ht.map .bytes)) := look_up
 have l6v : (up sHt (.lst (ht.map .bytes)) U).lookup sVs = some (.dict (valsOf block)) := (look_ne).trans l5v
 have l6m : (up sHt (.lst (ht.map .bytes)) U).lookup sMu = some (.lst ((mustOf block).map .bytes)) := (look_ne).trans l5m
 refine sx_ret_if (b := gb13 block) (av := .bool (gr13 block)) hc (et_cmp ev_bytes (ev_local hc.e l6v) b_inDict) (fun q => ?_) (fun hb13 => gl (b := some _) (by simp [goodL, goodB, hb1, hb2, hb3, hb4, hb10, hb11, hb13])) fun hb13 => ?_
 ·exact ev_boolop (evb_or (ev_cmp (ev_local hc.e l6h) (ev_lst evl_nil (by simp)) (l_eq (enc := AV.bytes) eqE_bytes (b := []) hu)) fun _ => evb_one (ev_cmp (ev_local hc.e l6h) (ev_lst (xs := [(valueB (valsOf block) nAuth).getD []].map .bytes) (evl_cons (ev_sub (ev_local hc.e l6v) ev_bytes (gi_dict (valueB_nil q))) evl_nil) (by simp)) (l_eq (enc := AV.bytes) eqE_bytes hu)))
 refine sx_ret_if (b := gb14 block) (av := .none) hc (et_bool (all_and (et_cmp (lenL l6m (by decide +kernel) (by lia)) ev_int i_eq) fun _ => all_and (et_cmp (lenL l6h (by decide +kernel) hht) ev_int i_eq) fun _ => all_and_nil)) (fun _ => ev_none) (fun hb14 => gl (b := none) (by simp [goodL, goodB, hb1, hb2, hb3, hb4, hb10, hb11, hb13, hb14])) fun hb14 => ?_
 exact s_cons (N1 := fun _ => False) (s_return hc (av := .bool (gr15 block)) (ev_cmp (lenL l6h (by decide +kernel) hht) ev_int i_eq) (gl (b := some _) (by simp [goodL, goodB, hb1, hb2, hb3, hb4, hb10, hb11, hb13, hb14]))) fun _ h => h.elim
end
noncomputable abbrev sFs : Str := ofString "flags"
noncomputable abbrev sGo : Str := ofString "good"
noncomputable abbrev sCo : Str := ofString "cookies"
noncomputable abbrev sDu : Str := ofString "due"
theorem nl1 {a : AV} (h : a.nl = true) : nlL [a] := fun _ z => List.mem_singleton.mp z ▸ h
noncomputable def oL : Option (List Fld) -> AV
 | none => .none
 | some l => flds l
theorem oL_ret : ∀ g, (oL g).ret = true
 | none => rfl
 | some _ => rfl
noncomputable def errO (x : LE) : Option (List Fld) := if x.2 then none else some x.1
theorem oL_err (x : LE) : (if x.2 then AV.none else .lst (x.1.map Fld.av)) = oL (errO x) := by
 unfold errO; cases x.2 <;> rfl
theorem gA_own {o : Option Bool} : (gA o).ow = false := by cases o <;> rfl
section
variable {C : Cx} {c : Ac} {Z U : Env1} {A : Around}
theorem evs_callN (hc : c.EOk) (h1 : c.C = C) (T : Tp C) (a : Addr) (i : Nat) (h : (a, i) ∈ fnTab) {x : Str} (hx : dName (stA i) = x) {np p : Pos} {e : Expr} {rest : List Expr} {avs xs zs : List AV} {n m k : Nat} {gen err err' : Bool} (hk : c.env.kindOf x = some .globalImplicit) (hd : (x == ("__debug__" : Str)) = false) (hs : EVS c Z U n gen e xs err) (ha : EVA c Z U rest avs) (hnl : nlL avs) (hPF : PF C m k (.ref a) avs xs err zs err') (hm : n + m <= c.n)
  (he : starEach (e :: rest) c.env = (false, eval e c.env) :: starEach rest c.env := by rfl)
  (hcall : eval (.Call (.Name x np) (e :: rest) [] p) c.env = (do callWith p (<- eval (.Name x np) c.env) [] (backTo p (starEach (e :: rest) c.env)) (backToKw p (keywordEach [] c.env))) := by rfl) : EVS c Z U (n + k) true (.Call (.Name x np) (e :: rest) [] p) zs err' := by
 subst h1
 refine E12 (T.fn (a, i) h) fun fd F _ => ?_
 refine E12 F.at'.ho fun o ho hd' => ?_
 exact evs_call hc (fun h B => B.old _ _ ho F.at'.at') hd' (ev_fn hc rfl T a i h hx hk hd) hs ha hnl hPF hm he hcall
theorem optGA {g : Option Bool} : OpT C A (gA g) (g == some true) := by
 cases g with
 | none => exact opt_none
 | some b => cases b <;> exact opt_bool
theorem gA_isNot {g : Option Bool} : Op2 C A (compareOp .IsNot) (gA g) .none (.bool g.isSome) := by
 cases g with
 | none => exact n_isNot
 | some b => exact nb_isNot
theorem oL_ne {x y : Option (List Fld)} (hu : A.units + 30 < cLine) : Op2 C A (compareOp .NotEq) (oL x) (oL y) (.bool (!decide (x = y))) := by
 cases x with
 | none => cases y with
  | none => exact nn_ne
  | some y => exact ln_ne hu
 | some x => cases y with
  | none => exact nl_ne hu
  | some y =>
   have e : (!decide (some x = some y)) = !decide (x = y) := by simp
   rw [e]
   exact l_ne (enc := Fld.av) eqE_fld hu
theorem fc_out (T : Tp C) {a tr rs d : Bool} {block : List Fld} (G : Good (block, false)) : FC C 17 (.ref 421) [flds block, .flags a tr rs d] (· = oL (errO (vOut tr rs block))) False := by
 refine E12 (T.fn (421, 49) (by decide)) fun fd F _ => ?_
 refine fc_std T.ok F (by decide +kernel) (by decide +kernel) (names := [sBl, sFs]) (bindW (bind2 F.pa F.df)) rfl (by decide +kernel) (ow2 rfl rfl) (oL_ret _) fun c hc h1 h2 h3 => ?_
 have kd : ∀ {x : Str} {k : NameKind} (_ : (dScope (stA 49)).names.lookup x = some k := by decide +kernel), c.env.kindOf x = some k := fun h => kindC F h3 h
 have hlen : (vOut tr rs block).1.length <= 200 := by
  have G1 : Good (sC badTe (block, false)) := G.c
  have G2 : Good (sC badHop (sC badTe (block, false))) := G1.c
  have G3 : Good (sP tr rs (sC badHop (sC badTe (block, false)))) := G2.p
  have G4 : Good (sH' (rs || tr) (sP tr rs (sC badHop (sC badTe (block, false))))) := G3.h
  refine Nat.le_trans ?_ G4.2
  show (tkPa _ _).length <= _
  unfold tkPa; split
  ·exact Nat.le_refl _
  ·exact tw_len
 refine s_cons (N1 := fun _ => False) (s_try hc (evx_list hc.e (ev_bi hc.e h1 T (v := .type "list") (by decide +kernel) kd) (evs_callN (n := 0) hc.e h1 T 332 36 (by decide) rfl kd (by decide +kernel) (evs_lst hc.e (ev_local hc.e (av := flds block) rfl) (flds_nl block)) (eva_cons (ev_local hc.e (av := .flags a tr rs d) rfl) eva_nil) (nl1 rfl) (pf_vout T block G) (by lia)) (by lia) (by simp; lia)) (by rw [h1]; exact T.pe) kd (by decide +kernel) (oL_err _)) fun _ h => h.elim
theorem fc_in (T : Tp C) {a tr rs d : Bool} {block : List Fld} (G : Good (block, false)) (G' : Good (cmb false [] block, false)) : FC C 23 (.ref 428) [flds block, .flags a tr rs d] (· = oL (errO (vIn tr rs (cmb false [] block)))) False := by
 refine E12 (T.fn (428, 50) (by decide)) fun fd F _ => ?_
 refine fc_std T.ok F (by decide +kernel) (by decide +kernel) (names := [sBl, sFs]) (bindW (bind2 F.pa F.df)) rfl (by decide +kernel) (ow2 rfl rfl) (oL_ret _) fun c hc h1 h2 h3 => ?_
 have kd : ∀ {x : Str} {k : NameKind} (_ : (dScope (stA 50)).names.lookup x = some k := by decide +kernel), c.env.kindOf x = some k := fun h => kindC F h3 h
 generalize hb : cmb false [] block = bb at G' ⊢
 have hlen : (vIn tr rs bb).1.length <= 200 := by
  have Ga : Good (sC badIll (bb, false)) := G'.c
  have Gb : Good (sC badEmp (sC badIll (bb, false))) := Ga.c
  have G1 : Good (sC badTe (sC badEmp (sC badIll (bb, false)))) := Gb.c
  have G2 : Good (sC badHop (sC badTe (sC badEmp (sC badIll (bb, false))))) := G1.c
  have G3 : Good (sP tr rs (sC badHop (sC badTe (sC badEmp (sC badIll (bb, false)))))) := G2.p
  have G4 : Good (sH' (rs || tr) (sP tr rs (sC badHop (sC badTe (sC badEmp (sC badIll (bb, false))))))) := G3.h
  refine Nat.le_trans ?_ G4.2
  show (tkPa _ _).length <= _
  unfold tkPa; split
  ·exact Nat.le_refl _
  ·exact tw_len
 refine s_cons (N1 := fun _ => False) (s_try hc (evx_list hc.e (ev_bi hc.e h1 T (v := .type "list") (by decide +kernel) kd) (evs_callN (n := 2) hc.e h1 T 200 17 (by decide) rfl kd (by decide +kernel) (evs_callN (n := 0) hc.e h1 T 325 35 (by decide) rfl kd (by decide +kernel) (evs_lst hc.e (ev_local hc.e (av := flds block) rfl) (flds_nl block)) (eva_cons (ev_local hc.e (av := .flags a tr rs d) rfl) eva_nil) (nl1 rfl) (hb ▸ pf_nin T rfl block G) (by lia)) (eva_cons (ev_local hc.e (av := .flags a tr rs d) rfl) eva_nil) (nl1 rfl) (pf_vin T bb G') (by lia)) (by lia) (by simp; lia)) (by rw [h1]; exact T.pe) kd (by decide +kernel) (oL_err _)) fun _ h => h.elim
end
noncomputable def cooksOf (m : List Fld) : List (List UInt8) := (m.filter fun f => f.n == nCookie).map (·.v)
noncomputable def dueL (m : List Fld) : List Fld := if cooksOf m = [] then m.filter fun f => f.n != nCookie else (m.filter fun f => f.n != nCookie) ++ [⟨nCookie, joinC (cooksOf m), some true⟩]
noncomputable def lastE (l : List (List UInt8)) : Bool := l.getLastD [] == []
structure Facts (kind : Int) (sp : Bool) (b : List Fld) : Prop where
 g : Good (b, false)
 s : ∀ f ∈ b, small 900 f
 c : sp = true -> ∀ f ∈ b, smallC (lowF f)
 f64 : (frontOf b).length < 64
 made : nOut sp b = madeL sp b
 gm : Good (madeL sp b, false)
 fm64 : (frontOf (madeL sp b)).length < 64
 out : ∀ g, goodL b kind = some g -> errO (vOut (kind == 2) (kind == 1) b) = if g then some b else none
 outm : ∀ g, goodL (madeL sp b) kind = some g -> errO (vOut (kind == 2) (kind == 1) (madeL sp b)) = if g then some (madeL sp b) else none
 gk : Good (cmb false [] (madeL sp b), false)
 inn : goodL (madeL sp b) kind = some true -> legalL (madeL sp b) = true -> ¬ ((cooksOf (madeL sp b)).length > 1 /\ lastE (cooksOf (madeL sp b)) = true) -> errO (vIn (kind == 2) (kind == 1) (cmb false [] (madeL sp b))) = some (dueL (madeL sp b))
theorem last_snoc {l : List (List UInt8)} (h : l ≠ []) : l = l.dropLast ++ [l.getLastD []] := by
 have := List.dropLast_concat_getLast h
 rw [List.getLastD_eq_getLast?, List.getLast?_eq_some_getLast h]
 exact this.symm
section
variable {C : Cx}
theorem ev_joinL {c : Ac} (hc : c.EOk) {Z U : Env1} {p1 p2 p3 p4 : Pos} {k : Nat} {x : Str} {d : List UInt8} {xs : List AV} (h1 : EV c Z U (.Name x p3) (.lst xs)) (h : CB c.C c.A (.builtin "bytes.join") [.bytes bSep, .lst xs] (.bytes d)) (hl : (p2.endLine == p4.line) = true := by rfl) : EV c Z U
  (.Call (.Attribute (.Constant (.bytes [59, 32]) k p1) (ofString "join") p2) [.Name x p3] [] p4) (.bytes d) := by
 have s := B.slot_join
 have t := B.type_join
 have hb : EV c Z U (.Constant (.bytes [59, 32]) k p1) (.bytes bSep) := ev_bytes
 have he : EVA c Z U [Expr.Name x p3] [.lst xs] := eva_cons h1 eva_nil
 exact ev_meth (name := ofString "join") (id := "bytes.join") hb he s t h rfl rfl rfl rfl hl
theorem evs_norm {c : Ac} {Z U : Env1} (hc : c.EOk) (h1 : c.C = C) (T : Tp C) {x : Str} (hx : dName (stA 34) = x) {np p : Pos} {e : Expr} {rest : List Expr} {avs xs zs : List AV} {n m k : Nat} {gen err err' : Bool} (hk : c.env.kindOf x = some .globalImplicit) (hd : (x == ("__debug__" : Str)) = false) (hs : EVS c Z U n gen e xs err) (ha : EVA c Z U rest avs) (hnl : nlL avs) (hPF : PF C m k (.ref 318) avs xs err zs err') (hm : n + m <= c.n)
  (he : starEach (e :: rest) c.env = (false, eval e c.env) :: starEach rest c.env := by rfl)
  (hcall : eval (.Call (.Name x np) (e :: rest) [] p) c.env = (do callWith p (<- eval (.Name x np) c.env) [] (backTo p (starEach (e :: rest) c.env)) (backToKw p (keywordEach [] c.env))) := by rfl) : EVS c Z U (n + k) true (.Call (.Name x np) (e :: rest) [] p) zs err' := by
 subst h1
 subst hx
 refine E12 T.norm fun fdn Fn hmn => ?_
 refine E12 Fn.at'.ho fun o ho hd' => ?_
 exact evs_call hc (fun h B => B.old _ _ ho Fn.at'.at') hd' (ev_global hc hmn hk (fun q s G => .of_rep (by rw [Rep])) hd) hs ha hnl hPF hm he hcall
theorem fc_agrees (T : Tp C) {a d : Bool} {kind : Int} {sp : Bool} {block : List Fld} (H : Facts kind sp block) : FC C 24 (.ref 433) [flds block, .int kind, .flags a (kind == 2) (kind == 1) d, .bool sp] (· = .bool true) False := by
 refine E12 (T.fn (433, 51) (by decide)) fun fd F _ => ?_
 refine fc_std T.ok F (by decide +kernel) (by decide +kernel) (names := [sBl, sKi, sFs, sSp]) (bindW (bind4 F.pa F.df)) rfl (by decide +kernel) (ow4 rfl rfl rfl rfl) rfl fun c hc h1 h2 h3 => ?_
 have kd : ∀ {x : Str} {k : NameKind} (_ : (dScope (stA 51)).names.lookup x = some k := by decide +kernel), c.env.kindOf x = some k := fun h => kindC F h3 h
 have hu := hc.room.eq
 let fl : AV := .flags a (kind == 2) (kind == 1) d
 let U0 : Env1 := [(sSp, .bool sp), (sFs, fl), (sKi, .int kind), (sBl, flds block)]
 let m := madeL sp block
 have hml : m.length <= 200 := H.gm.2
 have hk2 : kNo sp <= 2 := by unfold kNo; split <;> decide
 refine s_then (U₁ := up sMd (flds m) U0) (s_assign hc (av := flds m) (by
  have e : flds m = .lst ((nOut sp block).map Fld.av) := by rw [H.made]; rfl
  rw [e]
  exact (evx_list hc.e (ev_bi hc.e h1 T (v := .type "list") (by decide +kernel) kd) (evs_norm (n := 0) hc.e h1 T rfl kd (by decide +kernel) (evs_lst hc.e (ev_local hc.e (av := flds block) rfl) (flds_nl block)) (eva_cons (ev_local hc.e (av := fl) rfl) (eva_cons (ev_local hc.e (av := .bool sp) rfl) eva_nil)) (by simp [nlL, AV.nl, fl]) (pf_nout T rfl sp block (fun f hf => ⟨Nat.le_trans (H.s f hf).1 (by decide), Nat.le_trans (H.s f hf).2 (by decide)⟩) H.c) (by lia)) (by lia) (by rw [H.made]; simp; show m.length <= _; lia)).ev) kd) ?_
 let U1 : Env1 := up sMd (flds m) U0
 refine sx_ret_if (b := !decide (m = madeL sp block)) (av := .bool false) hc (et_cmp (ev_local hc.e (av := flds m) rfl) (ev_callN hc.e h1 T 404 46 (by decide) rfl kd (by decide +kernel) (eva_cons (ev_local hc.e (av := flds block) rfl) (eva_cons (ev_local hc.e (av := .bool sp) rfl) eva_nil)) (fc_made T H.s H.g.2) (by lia)) (l_ne (enc := Fld.av) eqE_fld hu)) (fun _ => ev_bool) (fun h => by simp [m] at h) fun _ => ?_
 refine s_then (U₁ := up sGo (gA (goodL block kind)) U1) (s_assign hc (ev_callN hc.e h1 T 409 47 (by decide) rfl kd (by decide +kernel) (eva_cons (ev_local hc.e (av := flds block) rfl) (eva_cons (ev_local hc.e (av := .int kind) rfl) eva_nil)) (fc_good T H.g.1 (Nat.le_trans H.g.2 (by decide)) H.f64) (by lia)) kd gA_own) ?_
 let U2 : Env1 := up sGo (gA (goodL block kind)) U1
 have ifO : ∀ {U : Env1} {x : Str} {l : List Fld} {g : Option Bool} {p1 p2 p3 p4 : Pos} {k : Nat}, U.lookup x = some (flds l) -> (x == ("__debug__" : Str)) = false -> U.lookup sGo = some (gA g) -> EV c [] U (.IfExp (.Name sGo p1) (.Name x p2) (.Constant .none k p3) p4) (oL (if g == some true then some l else none)) := fun hx hd hg =>
  ev_if (et_val (ev_local hc.e hg) optGA) (fun h => by rw [if_pos h]; exact ev_local hc.e hx hd) (fun h => by rw [if_neg (by rw [h]; exact fT)]; exact ev_none)
 have noBad : ∀ {g : Option Bool} {o : Option (List Fld)} {l : List Fld}, (∀ b, g = some b -> o = if b then some l else none) -> (g.isSome && (!decide (o = if g == some true then some l else none) && true)) = false := fun {g o l} h => by
  cases g with
  | none => rfl
  | some b => rw [h b rfl]; cases b <;> simp
 refine sx_ret_if (b := (goodL block kind).isSome && (!decide (errO (vOut (kind == 2) (kind == 1) block) = if goodL block kind == some true then some block else none) && true)) (av := .bool false) hc (et_bool (all_and (et_cmp (ev_local hc.e (av := gA (goodL block kind)) look_up) ev_none gA_isNot) fun _ => all_and (et_cmp (ev_callN hc.e h1 T 421 49 (by decide) rfl kd (by decide +kernel) (eva_cons (ev_local hc.e (av := flds block) rfl) (eva_cons (ev_local hc.e (av := fl) rfl) eva_nil)) (fc_out T H.g) (by lia)) (ifO rfl (by decide +kernel) look_up) (oL_ne hu)) fun _ => all_and_nil)) (fun _ => ev_bool) (fun h => by rw [noBad H.out] at h; cases h) fun _ => ?_
 refine s_then (U₁ := up sGo (gA (goodL m kind)) U2) (s_assign hc (ev_callN hc.e h1 T 409 47 (by decide) rfl kd (by decide +kernel) (eva_cons (ev_local hc.e (av := flds m) rfl) (eva_cons (ev_local hc.e (av := .int kind) rfl) eva_nil)) (fc_good T H.gm.1 (Nat.le_trans H.gm.2 (by decide)) H.fm64) (by lia)) kd gA_own) ?_
 let U3 : Env1 := up sGo (gA (goodL m kind)) U2
 refine sx_ret_if (b := (goodL m kind).isSome && (!decide (errO (vOut (kind == 2) (kind == 1) m) = if goodL m kind == some true then some m else none) && true)) (av := .bool false) hc (et_bool (all_and (et_cmp (ev_local hc.e (av := gA (goodL m kind)) look_up) ev_none gA_isNot) fun _ => all_and (et_cmp (ev_callN hc.e h1 T 421 49 (by decide) rfl kd (by decide +kernel) (eva_cons (ev_local hc.e (av := flds m) rfl) (eva_cons (ev_local hc.e (av := fl) rfl) eva_nil)) (fc_out T H.gm) (by lia)) (ifO rfl (by decide +kernel) look_up) (oL_ne hu)) fun _ => all_and_nil)) (fun _ => ev_bool) (fun h => by rw [noBad H.outm] at h; cases h) fun _ => ?_
 let ck := cooksOf m
 have hck : ck.length <= 200 := by
  show ((m.filter _).map _).length <= _
  rw [List.length_map]; exact Nat.le_trans (List.length_filter_le ..) hml
 have eiM : ∀ {U : Env1} {p : Pos}, U.lookup sMd = some (flds m) -> EI c [] U (.Name sMd p) (m.map Fld.av) := fun h => ei_list hc.e (ev_local hc.e h) (flds_nl m)
 refine s_cons (N1 := (· = up sCo (.lst (ck.map .bytes)) U3)) (S1.weak (s_compE unF unF_av Fld.nl (fun f => f.n == nCookie) (fun f => .bytes f.v) hc (eiM rfl) (by decide +kernel) (by lia) (fun c' hc' g1 g2 g3 f _ => ⟨ct_one (et_cmp (ev_f0 hc' rfl) ev_bytes b_eq), fun _ => ⟨ev_f1 hc' rfl, rfl⟩⟩) kd) (fun U' h => h.trans (by show _ = up sCo (.lst (((m.filter _).map _).map AV.bytes)) U3; rw [List.map_map]; rfl)) (fun _ h => h) (fun h => h)) ?_
 rintro _ rfl
 let U4 : Env1 := up sCo (.lst (ck.map .bytes)) U3
 have l4c : U4.lookup sCo = some (.lst (ck.map .bytes)) := look_up
 have l4g : U4.lookup sGo = some (gA (goodL m kind)) := (look_ne).trans look_up
 have lenC : EV c [] U4 (.Call (.Name (ofString "len") default) [.Name sCo default] [] default) (.int (ck.length : Int)) /\ ∀ {p1 p2 p3 : Pos}, EV c [] U4 (.Call (.Name (ofString "len") p1) [.Name sCo p2] [] p3) (.int (ck.length : Int)) := by
  have : ∀ {p1 p2 p3 : Pos}, EV c [] U4 (.Call (.Name (ofString "len") p1) [.Name sCo p2] [] p3) (.int (ck.length : Int)) := fun {p1 p2 p3} => by
   have := c_len_lst (C := c.C) (A := c.A) (xs := ck.map AV.bytes) (by simp; lia)
   rw [List.length_map] at this
   exact ev_callB (ev_bi hc.e h1 T (by decide +kernel) kd) (eva_cons (ev_local hc.e l4c) eva_nil) this
  exact ⟨this, this⟩
 refine sx_ret_if (b := (!(goodL m kind == some true)) || ((!legalL m) || ((decide ((ck.length : Int) > 1) && (lastE ck && true)) || false))) (av := .bool true) hc (et_bool (all_or (et_not (et_val (ev_local hc.e l4g) optGA)) fun _ => all_or (et_not (et_val (ev_callN hc.e h1 T 414 48 (by decide) rfl kd (by decide +kernel) (eva_cons (ev_local hc.e (av := flds m) rfl) eva_nil) (fc_legal T (fun f hf => (H.gm.1 f hf).1) (by show m.length <= _; lia)) (by lia)) opt_bool)) fun _ => all_or (et_bool (all_and (et_cmp lenC.2 ev_int i_gt) fun q => all_and (et_cmp (ev_sub (x := .lst ((ck.dropLast.map .bytes) ++ [.bytes (ck.getLastD [])])) ?_ (ev_neg ev_int) (gi_lst_last (by simp; omega))) ev_bytes b_eq) fun _ => all_and_nil)) fun _ => all_or_nil)) (fun _ => ev_bool) (fun _ => rfl) fun hb => ?_
 ·have hne : ck ≠ [] := fun z => by rw [z] at q; simp at q
  have e : (ck.dropLast.map AV.bytes) ++ [.bytes (ck.getLastD [])] = ck.map .bytes := by
   conv => rhs; rw [last_snoc hne]
   simp
  rw [e]
  exact ev_local hc.e l4c
 simp only [Bool.or_eq_false_iff, Bool.not_eq_false'] at hb
 refine E04 hb ?_; clear hb; intro hb1 hb2 hb3 _
 have hin := H.inn (by simpa using hb1) hb2 (fun ⟨x, y⟩ => by
  have hy : lastE ck = true := y
  have hx : decide ((ck.length : Int) > 1) = true := by
   have : ck.length > 1 := x
   simpa using by omega
  rw [hx, hy] at hb3; cases hb3)
 let du0 := m.filter fun f => f.n != nCookie
 have hdu0 : du0.length <= 200 := Nat.le_trans (List.length_filter_le ..) hml
 refine s_cons (N1 := (· = up sDu (flds du0) U4)) (S1.weak (s_compE unF unF_av Fld.nl (fun f => f.n != nCookie) Fld.av hc (eiM rfl) (by decide +kernel) (by lia) (fun c' hc' g1 g2 g3 f _ => ⟨ct_one (et_cmp (ev_f0 hc' rfl) ev_bytes b_ne), fun _ => ⟨ev_local hc' rfl, f.nl⟩⟩) kd) (fun U' h => h) (fun _ h => h) (fun h => h)) ?_
 rintro _ rfl
 let U5 : Env1 := up sDu (flds du0) U4
 have l5c : U5.lookup sCo = some (.lst (ck.map .bytes)) := (look_ne).trans look_up
 refine s_cons (N1 := fun U => U.lookup sDu = some (flds (dueL m)) /\ U.lookup sMd = some (flds m) /\ U.lookup sFs = some fl) (s_if (b := !decide (ck = [])) (et_cmp (ev_local hc.e l5c) (ev_lst evl_nil (by simp)) (l_ne (enc := AV.bytes) eqE_bytes (b := []) hu)) (fun h => ?_) fun h => s_nil ⟨?_, rfl, rfl⟩) ?_
 ·have hne : ck ≠ [] := by simpa using h
  have e : dueL m = du0 ++ [⟨nCookie, joinC ck, some true⟩] := if_neg hne
  have hcs : ∀ x ∈ ck, x.length <= 1000 := fun x hx => by
   refine E12 (List.mem_map.mp hx) ?_; rintro f hf rfl
   exact (H.gm.1 f (List.mem_filter.mp hf).1).1.2
  have hs := sum_len hcs
  refine s_then (U₁ := up sDu (flds (dueL m)) U5) (s_assign hc (av := flds (dueL m)) (by
   rw [e]
   show EV c [] _ _ (.lst ((du0 ++ [_]).map Fld.av))
   rw [List.map_append]
   exact ev_bin (ev_local hc.e (av := flds du0) look_up) (ev_lst (xs := [Fld.av ⟨nCookie, joinC ck, some true⟩]) (evl_cons (ev_tup (evl_cons ev_bytes (evl_cons (ev_joinL hc.e (ev_local hc.e l5c) (c_join hne (by rw [foldl_len]; simp [bSep]; omega))) (evl_cons ev_bool evl_nil))) (by simp [xL])) evl_nil (by rfl)) (by simp)) (l_add (by simp; lia))) kd) (s_nil ⟨look_up, rfl, rfl⟩)
 ·have hne : ck = [] := by simpa using h
  rw [show dueL m = du0 from if_pos hne]
  exact look_up
 rintro U ⟨l6d, l6m, l6f⟩
 refine s_cons (N1 := fun _ => False) (s_return hc (av := .bool true) ?_ rfl) fun _ h => h.elim
 have hop : Op2 c.C c.A (compareOp .Eq) (oL (errO (vIn (kind == 2) (kind == 1) (cmb false [] m)))) (flds (dueL m)) (.bool true) := by
  rw [hin]
  have := l_eq (C := c.C) (A := c.A) (enc := Fld.av) eqE_fld (a := dueL m) (b := dueL m) hu
  rw [decide_eq_true rfl] at this
  exact this
 exact ev_cmp (ev_callN hc.e h1 T 428 50 (by decide) rfl kd (by decide +kernel) (eva_cons (ev_local hc.e l6m) (eva_cons (ev_local hc.e l6f) eva_nil)) (fc_in T H.gm H.gk) (by lia)) (ev_local hc.e l6d) hop
end
noncomputable abbrev sSc : Str := ofString "script"
noncomputable abbrev sSt : Str := ofString "start"
noncomputable def blockAt (k : Nat) (ds : List Int) : List Fld := ds.foldl moreL (blks.getD k [])
noncomputable def AllFacts : Prop := ∀ (k : Nat), k < 6 -> ∀ (sp : Bool) (ds : List Int), ds.length <= 4 -> Facts (k : Int) sp (blockAt k ds)
section
variable {C : Cx}
theorem mid_lo {α : Type} (xs : List α) (a b : Nat) : (xs.drop ((some (a : Int)).elim 0 (clipAt xs.length))).take ((some (b : Int)).elim xs.length (clipAt xs.length) - (some (a : Int)).elim 0 (clipAt xs.length)) = (xs.drop a).take (b - a) := by
 show (xs.drop (clipAt xs.length (a : Int))).take (clipAt xs.length (b : Int) - clipAt xs.length (a : Int)) = _
 rw [clipAt_nat, clipAt_nat]
 by_cases h : a <= xs.length
 ·rw [Nat.min_eq_left h]
  by_cases hb : b <= xs.length
  ·rw [Nat.min_eq_left hb]
  ·rw [Nat.min_eq_right (by lia), List.take_of_length_le (by simp), List.take_of_length_le (by simp; omega)]
 ·rw [Nat.min_eq_right (by omega : xs.length <= a), List.drop_of_length_le (by lia), List.drop_of_length_le (by omega)]; simp
theorem ev_midL {c : Ac} {Z U : Env1} {e e' v : Expr} {p p' : Pos} {xs : List AV} {a b : Nat} (hv : EV c Z U v (.lst xs)) (he : EV c Z U e (.int (a : Int))) (he' : EV c Z U e' (.int (b : Int))) (hz : xs.length <= 1000000) : EV c Z U (.Subscript v (.Slice (some e) (some e') none p') p) (.lst ((xs.drop a).take (b - a))) := by
 rw [<- mid_lo]; exact ev_slice hv (eo_int he) (eo_int he') (gs_lst hz)
theorem fc_law (T : Tp C) (HL : AllFacts) {script : List Int} (hl : script.length <= 63) : FC C 26 (.ref 440) [.lst (script.map .int)] (· = .bool true) False := by
 refine E12 (T.fn (440, 52) (by decide)) fun fd F _ => ?_
 refine fc_std T.ok F (by decide +kernel) (by decide +kernel) (names := [sSc]) (bindW (bind1 F.pa F.df)) rfl (by decide +kernel) (ow1 rfl) rfl fun c hc h1 h2 h3 => ?_
 have kd : ∀ {x : Str} {k : NameKind} (_ : (dScope (stA 52)).names.lookup x = some k := by decide +kernel), c.env.kindOf x = some k := fun h => kindC F h3 h
 let U0 : Env1 := [(sSc, .lst (script.map .int))]
 let st : Int := script.headD 0
 let k := modN st 6
 let sp : Bool := ((modN (st.fdiv 6) 2 : Nat) : Int) == 1
 let fa : Bool := ((modN (st.fdiv 12) 2 : Nat) : Int) == 1
 let fl : AV := .flags fa ((k : Int) == 2) ((k : Int) == 1) ((k : Int) == 3)
 have hk6 : k < 6 := modN_lt (by decide)
 refine s_then (U₁ := up sSt (.int st) U0) (s_assign hc (ev_if (b := !(script.map AV.int).isEmpty) (et_val (ev_local hc.e (av := .lst (script.map .int)) rfl) (opt_lst (by simp; lia))) (fun h => ?_) fun h => ?_) kd rfl) ?_
 ·obtain ⟨x, r, hsc⟩ : ∃ x r, script = x :: r := List.exists_cons_of_ne_nil (fun z => by rw [z] at h; cases h)
  have : st = x := by show script.headD 0 = x; rw [hsc]; rfl
  rw [this]
  exact ev_idxL (k := 0) (xs := script.map .int) (ev_local hc.e (av := .lst (script.map .int)) rfl) ev_int (by rw [hsc]; rfl) (by simp; lia)
 ·have hsc : script = [] := by simpa using h
  have : st = 0 := by show script.headD 0 = 0; rw [hsc]; rfl
  rw [this]
  exact ev_int
 let U1 : Env1 := up sSt (.int st) U0
 refine s_then (U₁ := up sKi (.int (k : Int)) U1) (s_assign hc (ev_mod (n := 6) (ev_local hc.e (av := .int st) rfl) ev_int (by decide)) kd) ?_
 let U2 : Env1 := up sKi (.int (k : Int)) U1
 refine s_then (U₁ := up sSp (.bool sp) U2) (s_assign hc (ev_cmp (ev_mod (n := 2) (ev_bin (ev_local hc.e (av := .int st) rfl) ev_int (i_div (by decide) (pyl (by decide +kernel)))) ev_int (by decide)) ev_int i_eq) kd) ?_
 let U3 : Env1 := up sSp (.bool sp) U2
 refine s_then (U₁ := up sFs fl U3) (s_assign hc (ev_hvf hc.e h1 T (by lia) kd (eva_cons (ev_cmp (ev_mod (n := 2) (ev_bin (ev_local hc.e (av := .int st) rfl) ev_int (i_div (by decide) (pyl (by decide +kernel)))) ev_int (by decide)) ev_int i_eq) (eva_cons (ev_cmp (ev_local hc.e (av := .int (k : Int)) rfl) ev_int i_eq) (eva_cons (ev_cmp (ev_local hc.e (av := .int (k : Int)) rfl) ev_int i_eq) (eva_cons (ev_cmp (ev_local hc.e (av := .int (k : Int)) rfl) ev_int i_eq) eva_nil))))) kd) ?_
 let U4 : Env1 := up sFs fl U3
 have hbk : (blks.map flds)[k]? = some (flds (blockAt k [])) := by
  have hk : k < blks.length := hk6
  rw [List.getElem?_map, List.getElem?_eq_getElem hk]
  show some (flds _) = some (flds (blks.getD k []))
  rw [getD_at hk]
 refine s_then (U₁ := up sBl (flds (blockAt k [])) U4) (s_assign hc (ev_idxL (ev_blk hc.e h1 T kd) (ev_local hc.e (av := .int (k : Int)) rfl) hbk (by decide)) kd rfl) ?_
 let U5 : Env1 := up sBl (flds (blockAt k [])) U4
 refine sx_ret_if (b := !true) (av := .bool false) hc (et_not (et_val (ev_callN hc.e h1 T 433 51 (by decide) rfl kd (by decide +kernel) (eva_cons (ev_local hc.e (av := flds (blockAt k [])) rfl) (eva_cons (ev_local hc.e (av := .int (k : Int)) rfl) (eva_cons (ev_local hc.e (av := fl) rfl) (eva_cons (ev_local hc.e (av := .bool sp) rfl) eva_nil)))) (fc_agrees T (HL k hk6 sp [] (by decide))) (by lia)) opt_bool)) (fun _ => ev_bool) (fun h => by cases h) fun _ => ?_
 refine s_cons (N1 := fun _ => True) (s_for hc (xs := ((script.drop 1).take 4).map .int) (Inv := fun xs U => ∃ dn rest, (script.drop 1).take 4 = dn ++ rest /\ xs = rest.map AV.int /\ U.lookup sBl = some (flds (blockAt k dn)) /\ U.lookup sKi = some (.int (k : Int)) /\ U.lookup sFs = some fl /\ U.lookup sSp = some (.bool sp)) ?_ (fun y hy => by refine E12 (List.mem_map.mp hy) ?_; rintro b _ rfl; rfl) kd ⟨[], _, rfl, rfl, rfl, rfl, rfl, rfl⟩ (fun _ _ => trivial) ?_) fun U _ => s_cons (N1 := fun _ => False) (s_return hc (ev_bool (x := true)) rfl) fun _ h => h.elim
 ·have e : AV.lst (((script.map AV.int).drop 1).take (5 - 1)) = .lst (((script.drop 1).take 4).map .int) := by rw [<- List.map_drop, <- List.map_take]
  rw [<- e]
  exact ev_midL (ev_local hc.e (av := .lst (script.map .int)) rfl) (ev_int (i := 1)) (ev_int (i := 5)) (by simp; lia)
 ·rintro x xs U ⟨dn, rest, e, hx, l1, l2, l3, l4⟩
  cases rest with
  | nil => cases hx
  | cons d rest =>
   cases hx
   have hdn : (dn ++ [d]).length <= 4 := by
    have := congrArg List.length e
    simp only [List.length_take, List.length_append, List.length_cons] at this
    simp only [List.length_append, List.length_singleton]; lia
   refine ⟨rfl, ?_⟩
   have m1 : (up sDr (.int d) U).lookup sBl = some (flds (blockAt k dn)) := (look_ne).trans l1
   have hd := HL k hk6 sp dn (by simp at hdn; lia)
   have eb : moreL (blockAt k dn) d = blockAt k (dn ++ [d]) := by unfold blockAt; rw [List.foldl_append]; rfl
   refine s_then (U₁ := up sBl (flds (blockAt k (dn ++ [d]))) (up sDr (.int d) U)) (s_assign hc (by
    rw [<- eb]
    exact ev_callN hc.e h1 T 378 42 (by decide) rfl kd (by decide +kernel) (eva_cons (ev_local hc.e m1) (eva_cons (ev_local hc.e look_up) eva_nil)) (fc_more T (Nat.le_trans hd.g.2 (by decide))) (by lia)) kd rfl) ?_
   have n1 : (up sBl (flds (blockAt k (dn ++ [d]))) (up sDr (.int d) U)).lookup sKi = some (.int (k : Int)) := ((look_ne).trans (look_ne)).trans l2
   have n2 : (up sBl (flds (blockAt k (dn ++ [d]))) (up sDr (.int d) U)).lookup sFs = some fl := ((look_ne).trans (look_ne)).trans l3
   have n3 : (up sBl (flds (blockAt k (dn ++ [d]))) (up sDr (.int d) U)).lookup sSp = some (.bool sp) := ((look_ne).trans (look_ne)).trans l4
   exact sx_ret_if (b := !true) (av := .bool false) hc (et_not (et_val (ev_callN hc.e h1 T 433 51 (by decide) rfl kd (by decide +kernel) (eva_cons (ev_local hc.e look_up) (eva_cons (ev_local hc.e n1) (eva_cons (ev_local hc.e n2) (eva_cons (ev_local hc.e n3) eva_nil)))) (fc_agrees T (HL k hk6 sp (dn ++ [d]) hdn)) (by lia)) opt_bool)) (fun _ => ev_bool) (fun h => by cases h) fun _ => s_nil ⟨dn ++ [d], rest, by rw [e]; simp, rfl, look_up, n1, n2, n3⟩
end
section
open Builtin
theorem all8 {p : UInt8 -> Bool} (h : (List.range 256).all (fun n => p (UInt8.ofNat n)) = true) (c : UInt8) : p c = true := by
 have := List.all_eq_true.mp h c.toNat (List.mem_range.mpr c.toNat_lt)
 rwa [UInt8.ofNat_toNat] at this
theorem low_eq : Bytes.toLower = lowC := funext fun c => by
 have := all8 (p := fun c => Bytes.toLower c == lowC c) (by decide +kernel) c
 exact eq_of_beq this
theorem wsp_eq : Bytes.isSpace = wsp := funext fun c => by
 have := all8 (p := fun c => Bytes.isSpace c == wsp c) (by decide +kernel) c
 exact eq_of_beq this
theorem strip_eq (t : List UInt8) : stripB t = bareL t := by unfold stripB bareL; rw [wsp_eq]
noncomputable def occL : Nat -> List UInt8 -> List Nat
 | _, [] => []
 | _, [_] => []
 | i, x :: y :: r => if x = 59 /\ y = 32 then i :: occL (i + 2) r else occL (i + 1) (y :: r)
theorem occL_nil {i : Nat} : occL i [] = [] := rfl
theorem occL_cons {i : Nat} {x : UInt8} {r : List UInt8} : occL i (x :: r) = if x = 59 /\ r.head? = some 32 then i :: occL (i + 2) r.tail else occL (i + 1) r := by
 cases r with
 | nil => rw [if_neg fun h => nomatch h.2]; rfl
 | cons y r =>
  by_cases h : x = 59 /\ y = 32
  ·exact (if_pos h).trans (if_pos (h.imp id (congrArg some))).symm
  ·exact (if_neg h).trans (if_neg fun z => h (z.imp id Option.some.inj)).symm
theorem occL_len : ∀ (n : Nat) (r : List UInt8) (i : Nat), r.length <= n -> (occL i r).length <= r.length
 | _, [], i, _ => by rw [occL_nil]; simp
 | 0, _ :: _, _, h => by simp at h
 | n + 1, x :: r, i, h => by
  simp only [List.length_cons] at h
  rw [occL_cons]
  split
  ·have := occL_len n r.tail (i + 2) (by simp; lia)
   simp at this ⊢; omega
  ·have := occL_len n r (i + 1) (by lia)
   simp; lia
section
variable (v : List UInt8)
noncomputable def stepO (acc : List Nat × Nat) (i : Nat) : List Nat × Nat := if i ≥ acc.2 && (⟨v⟩ : Array UInt8).extract i (i + 2) == ⟨bSep⟩ then (i :: acc.1, i + 2) else acc
theorem ext_two {pre r : List UInt8} {x y : UInt8} (h : v = pre ++ x :: y :: r) : ((⟨v⟩ : Array UInt8).extract pre.length (pre.length + 2) == ⟨bSep⟩) = decide (x = 59 /\ y = 32) := by
 have e : (⟨v⟩ : Array UInt8).extract pre.length (pre.length + 2) = ⟨[x, y]⟩ := by
  apply Array.ext'
  rw [Array.toList_extract, h]
  simp [List.extract]
 rw [e]
 by_cases h1 : x = 59 <;> by_cases h2 : y = 32 <;> simp [bSep, h1, h2]
theorem fold_occ : ∀ (n : Nat) (rest pre : List UInt8), rest.length <= n -> v = pre ++ rest -> ∀ (acc : List Nat) (nx : Nat), nx <= pre.length -> ((List.range' pre.length (rest.length - 1)).foldl (stepO v) (acc, nx)).1 = (occL pre.length rest).reverse ++ acc
 | _, [], pre, _, _, acc, nx, _ => by rw [occL_nil]; rfl
 | 0, _ :: _, _, h, _, _, _, _ => by simp at h
 | _, [x], pre, _, _, acc, nx, _ => by rw [occL_cons, if_neg (by simp), occL_nil]; rfl
 | n + 1, x :: y :: r, pre, hn, hv, acc, nx, hx => by
  have hr : List.range' pre.length ((x :: y :: r).length - 1) = pre.length :: List.range' (pre.length + 1) r.length := by
   simp [List.range'_succ]
  rw [hr, List.foldl_cons]
  have hs : stepO v (acc, nx) pre.length = if x = 59 /\ y = 32 then (pre.length :: acc, pre.length + 2) else (acc, nx) := by
   unfold stepO
   rw [ext_two v hv]
   have : decide (pre.length ≥ nx) = true := by simpa using hx
   rw [this]
   by_cases hc : x = 59 /\ y = 32
   ·simp [hc]
   ·simp [hc]
  rw [hs]
  simp only [List.length_cons] at hn
  by_cases hc : x = 59 /\ y = 32
  ·rw [if_pos hc, occL_cons, if_pos (by simpa using hc)]
   cases r with
   | nil => simp [occL_nil]
   | cons z r =>
    have hr2 : List.range' (pre.length + 1) (z :: r).length = (pre.length + 1) :: List.range' (pre.length + 2) ((z :: r).length - 1) := by simp [List.range'_succ]
    rw [hr2, List.foldl_cons]
    have hs2 : stepO v (pre.length :: acc, pre.length + 2) (pre.length + 1) = (pre.length :: acc, pre.length + 2) := by
     unfold stepO
     have : decide (pre.length + 1 ≥ pre.length + 2) = false := by simp
     rw [this]; simp
    rw [hs2]
    have ih := fold_occ n (z :: r) (pre ++ [x, y]) (by simp only [List.length_cons] at hn ⊢; lia) (by rw [hv]; simp) (pre.length :: acc) (pre.length + 2) (by simp)
    have e : (pre ++ [x, y]).length = pre.length + 2 := by simp
    rw [e] at ih
    rw [ih]; simp
  ·rw [if_neg hc, occL_cons, if_neg (by simpa using hc)]
   have ih := fold_occ n (y :: r) (pre ++ [x]) (by simp only [List.length_cons]; lia) (by rw [hv]; simp) acc nx (by simp; omega)
   have e : (pre ++ [x]).length = pre.length + 1 := by simp
   rw [e] at ih
   simpa using ih
noncomputable def stepB (a : Array (Array UInt8) × Nat) (p : Nat) : Array (Array UInt8) × Nat := (a.1.push ((⟨v⟩ : Array UInt8).extract a.2 p), p + 2)
theorem ext_list {i j : Nat} : ((⟨v⟩ : Array UInt8).extract i j).toList = (v.drop i).take (j - i) := by
 rw [Array.toList_extract]
theorem fold_bet : ∀ (n : Nat) (rest pre : List UInt8), rest.length <= n -> v = pre ++ rest -> ∀ (parts : Array (Array UInt8)) (last : Nat), last <= pre.length -> (((occL pre.length rest).foldl (stepB v) (parts, last)).1.push ((⟨v⟩ : Array UInt8).extract ((occL pre.length rest).foldl (stepB v) (parts, last)).2 v.length)).toList.map (·.toList) = parts.toList.map (·.toList) ++ splitL ((v.drop last).take (pre.length - last)) rest
 | _, [], pre, _, hv, parts, last, hl => by
  rw [occL_nil, splitL_nil]
  show (parts.push _).toList.map _ = _
  rw [Array.toList_push, List.map_append]
  have e : pre.length = v.length := by rw [hv]; simp
  simp only [List.map_cons, List.map_nil]
  rw [ext_list, e]
  rfl
 | 0, _ :: _, _, h, _, _, _, _ => by simp at h
 | n + 1, x :: r, pre, hn, hv, parts, last, hl => by
  rw [occL_cons, splitL_cons]
  simp only [List.length_cons] at hn
  by_cases hc : x = 59 /\ r.head? = some 32
  ·rw [if_pos hc, if_pos hc, List.foldl_cons]
   cases r with
   | nil => simp at hc
   | cons y r =>
    have ih := fold_bet n r (pre ++ [x, y]) (by simp only [List.length_cons] at hn; lia) (by rw [hv]; simp) (parts.push ((⟨v⟩ : Array UInt8).extract last pre.length)) (pre.length + 2) (by simp)
    have e : (pre ++ [x, y]).length = pre.length + 2 := by simp
    rw [e] at ih
    have hstep : stepB v (parts, last) pre.length = (parts.push ((⟨v⟩ : Array UInt8).extract last pre.length), pre.length + 2) := rfl
    rw [hstep, List.tail_cons, ih]
    simp [ext_list]
  ·rw [if_neg hc, if_neg hc]
   have ih := fold_bet n r (pre ++ [x]) (by lia) (by rw [hv]; simp) parts last (by simp; omega)
   have e : (pre ++ [x]).length = pre.length + 1 := by simp
   rw [e] at ih
   rw [ih]
   congr 2
   rw [hv]
   have e1 : pre.length + 1 - last = (pre.length - last) + 1 := by lia
   rw [e1, List.drop_append_of_le_length hl]
   have e2 : (pre.drop last).length = pre.length - last := by simp
   rw [<- e2, List.take_append_of_le_length (Nat.le_refl _), List.take_length]
   rw [show (pre.drop last ++ x :: r) = (pre.drop last ++ [x]) ++ r from by simp]
   rw [show (pre.drop last).length + 1 = (pre.drop last ++ [x]).length from by simp, List.take_append_of_le_length (Nat.le_refl _), List.take_length]
theorem crumbs_eq : crumbs v = crumbsL v := by
 have hocc : Bytes.occurrences ⟨v⟩ ⟨bSep⟩ 0 (⟨v⟩ : Array UInt8).size = occL 0 v := by
  unfold Bytes.occurrences
  have e1 : ((List.range ((⟨v⟩ : Array UInt8).size + 1 - (0 + (⟨bSep⟩ : Array UInt8).size))).map (· + 0)) = List.range' 0 (v.length - 1) := by
   rw [List.range_eq_range']
   have : (⟨v⟩ : Array UInt8).size + 1 - (0 + (⟨bSep⟩ : Array UInt8).size) = v.length - 1 := by
    show v.length + 1 - (0 + 2) = v.length - 1; lia
   rw [this]; simp
  dsimp only
  rw [e1]
  have := fold_occ v v.length v [] (Nat.le_refl _) rfl [] 0 (Nat.le_refl _)
  show (List.foldl (stepO v) ([], 0) (List.range' 0 (v.length - 1))).1.reverse = _
  have this' : (List.foldl (stepO v) ([], 0) (List.range' 0 (v.length - 1))).1 = (occL 0 v).reverse ++ [] := this
  rw [this']; simp
 have hl := occL_len v.length v 0 (Nat.le_refl _)
 unfold crumbs pieces
 rw [hocc, List.take_of_length_le (by show _ <= v.length + 1; lia)]
 have := fold_bet v v.length v [] (Nat.le_refl _) rfl #[] 0 (Nat.le_refl _)
 unfold crumbsL
 have e : splitL ((v.drop 0).take (([] : List UInt8).length - 0)) v = splitL [] v := by simp
 rw [e] at this
 exact this
end
end
noncomputable def allN : List (List UInt8) := namesL ++ [nMethod, nScheme, nPath, nAuth, nStatus, [115, 117, 109], nHost, nProto]
noncomputable def nOk (n : List UInt8) : Bool := decide (n.length <= 100) && !n.isEmpty && !(bareL (lowL n)).isEmpty && (decide (bareL (lowL n) ≠ nCookie) || decide (lowL n = nCookie)) && !colon (bareL (lowL n))
theorem allN_ok : allN.all nOk = true := by decide +kernel
structure BOk (n : Nat) (b : List Fld) : Prop where
 nm : ∀ f ∈ b, f.n ∈ allN
 vl : ∀ f ∈ b, f.v.length <= 21
 ln : b.length <= 5 + n
theorem blk_ok : ∀ b ∈ blks, (∀ f ∈ b, f.n ∈ allN) /\ (∀ f ∈ b, f.v.length <= 21) /\ b.length <= 5 := by decide +kernel
theorem names_sub : ∀ n ∈ namesL, n ∈ allN := fun n h => List.mem_append_left _ h
theorem vals_len : ∀ v ∈ valuesL, v.length <= 20 := by decide
theorem more_ok {n : Nat} {b : List Fld} (h : BOk n b) (d : Int) : BOk (n + 1) (moreL b d) := by
 have hw20 := modN_lt (a := d) (n := 20) (by decide)
 have hw14 := modN_lt (a := d.fdiv 20) (n := 14) (by decide)
 have hname : namesL.getD (modN d 20) [] ∈ allN := names_sub _ (by rw [getD_at hw20]; exact List.getElem_mem _)
 have hval : (valuesL.getD (modN (d.fdiv 20) 14) []).length <= 20 := vals_len _ (by rw [getD_at hw14]; exact List.getElem_mem _)
 unfold moreL
 dsimp only
 split
 ·-- dropped
  unfold moreDrop
  dsimp only
  generalize modN (d.fdiv 1680) b.length = k
  generalize modN (d.fdiv 280) 6 = way
  have hmid : ∀ f ∈ (if way = 5 then (b[k]?.map fun f => { f with v := [] }).toList else [] : List Fld), f.n ∈ allN /\ f.v.length <= 21 := fun f hf => by
   split at hf
   ·cases hb : b[k]? with
    | none => rw [hb] at hf; cases hf
    | some g =>
     rw [hb] at hf
     simp at hf
     subst hf
     exact ⟨h.nm g (List.mem_of_getElem? hb), by simp⟩
   ·cases hf
  have hml : (if way = 5 then (b[k]?.map fun f => { f with v := [] }).toList else [] : List Fld).length <= 1 := by
   split
   ·cases b[k]? <;> simp
   ·simp
  refine ⟨fun f hf => ?_, fun f hf => ?_, ?_⟩
  ·rcases List.mem_append.mp hf with hf | hf
   ·rcases List.mem_append.mp hf with hf | hf
    ·exact h.nm f (List.mem_of_mem_take hf)
    ·exact (hmid f hf).1
   ·exact h.nm f (List.mem_of_mem_drop hf)
  ·rcases List.mem_append.mp hf with hf | hf
   ·rcases List.mem_append.mp hf with hf | hf
    ·exact h.vl f (List.mem_of_mem_take hf)
    ·exact (hmid f hf).2
   ·exact h.vl f (List.mem_of_mem_drop hf)
  ·exact Nat.le_trans (len_put (Nat.le_succ _)) (show _ <= 5 + n + 1 from Nat.add_le_add h.ln hml)
 ·unfold morePut
  dsimp only
  generalize hp : (if modN (d.fdiv 280) 6 = 3 then modN (d.fdiv 1680) (b.length + 1) else b.length) = pl
  have hv : (moreVal (valuesL.getD (modN (d.fdiv 20) 14) []) (modN (d.fdiv 280) 6) (d.fdiv 1680)).length <= 21 := by
   unfold moreVal
   split
   ·exact Nat.le_trans (len_put (Nat.le_refl _)) (Nat.succ_le_succ hval)
   ·exact Nat.le_succ_of_le hval
  refine ⟨fun f hf => ?_, fun f hf => ?_, ?_⟩
  ·rcases List.mem_append.mp hf with hf | hf
   ·rcases List.mem_append.mp hf with hf | hf
    ·exact h.nm f (List.mem_of_mem_take hf)
    ·rw [List.mem_singleton.mp hf]; exact hname
   ·exact h.nm f (List.mem_of_mem_drop hf)
  ·rcases List.mem_append.mp hf with hf | hf
   ·rcases List.mem_append.mp hf with hf | hf
    ·exact h.vl f (List.mem_of_mem_take hf)
    ·rw [List.mem_singleton.mp hf]; exact hv
   ·exact h.vl f (List.mem_of_mem_drop hf)
  ·exact Nat.le_trans (len_put (Nat.le_refl _)) (Nat.succ_le_succ h.ln)
theorem fold_ok : ∀ (ds : List Int) (b : List Fld) (n : Nat), BOk n b -> BOk (n + ds.length) (ds.foldl moreL b)
 | [], b, n, h => h
 | d :: ds, b, n, h => by
  have := fold_ok ds (moreL b d) (n + 1) (more_ok h d)
  rw [show n + (d :: ds).length = n + 1 + ds.length from by simp; lia]
  exact this
theorem block_ok {k : Nat} (hk : k < 6) {ds : List Int} (hd : ds.length <= 4) : BOk 4 (blockAt k ds) := by
 have hkb : k < blks.length := hk
 have h0 : BOk 0 (blks.getD k []) := by
  rw [getD_at hkb]
  refine E03 (blk_ok _ (List.getElem_mem hkb)) fun h1 h2 h3 => ?_
  exact ⟨h1, h2, h3⟩
 have := fold_ok ds _ 0 h0
 exact ⟨this.nm, this.vl, by have := this.ln; unfold blockAt; lia⟩
theorem nOk_of {n : List UInt8} (h : n ∈ allN) : n.length <= 100 /\ n ≠ [] /\ bareL (lowL n) ≠ [] /\ (bareL (lowL n) = nCookie -> lowL n = nCookie) /\ colon (bareL (lowL n)) = false := by
 have := List.all_eq_true.mp allN_ok n h
 simp only [nOk, Bool.and_eq_true, Bool.or_eq_true, decide_eq_true_eq, Bool.not_eq_true', List.isEmpty_eq_false_iff] at this
 refine E02 this ?_; clear this; rintro ⟨⟨⟨h1, h2⟩, h3⟩, h4⟩ h5
 exact ⟨h1, h2, h3, fun z => h4.resolve_left fun y => y z, h5⟩
theorem hops_eq (n : List UInt8) : hopsA.contains n = hopsB.contains n := by
 have a : ∀ x ∈ hopsA, x ∈ hopsB := by decide +kernel
 have b : ∀ x ∈ hopsB, x ∈ hopsA := by decide +kernel
 exact Bool.eq_iff_iff.mpr (List.contains_iff_mem.trans (Iff.trans ⟨a n, b n⟩ List.contains_iff_mem.symm))
theorem sec_hop {n v : List UInt8} (h : secC n v = true) : hopsA.contains n = false := by
 have hn : n ∈ secs \/ n = nCookie := by
  simp only [secC, Bool.or_eq_true, Bool.and_eq_true, List.contains_iff_mem, beq_iff_eq, Bool.or_false] at h
  exact h.imp id fun h => h.1
 rcases hn with hn | rfl
 ·have : ∀ n ∈ secs, hopsA.contains n = false := by decide
  exact this n hn
 ·decide
noncomputable def outF (sp : Bool) (f : Fld) : List Fld := (((split1 sp [lowF f]).map stripF).filter keepF).map secF
theorem nOut_cons {sp : Bool} {f : Fld} {l : List Fld} : nOut sp (f :: l) = outF sp f ++ nOut sp l := by
 unfold nOut outF
 have : split1 sp ((f :: l).map lowF) = split1 sp [lowF f] ++ split1 sp (l.map lowF) := by
  unfold split1; cases sp <;> simp
 rw [this]; simp
theorem made_one {n p : List UInt8} {x : Option Bool} : ([(⟨n, bareL p, x⟩ : Fld)].filter keepF).map secF = madeP n x p := by
 unfold madeP
 have hsb : secB ⟨n, bareL p, x⟩ = secC n (bareL p) := rfl
 cases hs : secC n (bareL p) with
 | true =>
  have hk : keepF ⟨n, bareL p, x⟩ = true := by show (!hopsA.contains n) = true; rw [sec_hop hs]; rfl
  rw [if_pos rfl, List.filter_cons_of_pos hk]
  simp [secF, hsb, hs]
 | false =>
  rw [if_neg fT]
  cases hh : hopsB.contains n with
  | true =>
   have hk : ¬ keepF ⟨n, bareL p, x⟩ = true := by show ¬ (!hopsA.contains n) = true; rw [hops_eq, hh]; simp
   rw [if_pos rfl, List.filter_cons_of_neg hk]; rfl
  | false =>
   have hk : keepF ⟨n, bareL p, x⟩ = true := by show (!hopsA.contains n) = true; rw [hops_eq, hh]; rfl
   rw [if_neg fT, List.filter_cons_of_pos hk]
   simp [secF, hsb, hs]
theorem made_parts {n : List UInt8} {x : Option Bool} : ∀ ps : List (List UInt8), ((ps.map fun p => (⟨n, bareL p, x⟩ : Fld)).filter keepF).map secF = ps.flatMap (madeP n x)
 | [] => rfl
 | p :: ps => by
  rw [List.map_cons, show (⟨n, bareL p, x⟩ : Fld) :: ps.map _ = [(⟨n, bareL p, x⟩ : Fld)] ++ ps.map fun p => ⟨n, bareL p, x⟩ from rfl, List.filter_append, List.map_append, made_one, made_parts ps, List.flatMap_cons]
theorem low_eqL (n : List UInt8) : n.map Builtin.Bytes.toLower = lowL n := by rw [low_eq]; rfl
theorem outF_eq {sp : Bool} {f : Fld} (h : f.n ∈ allN) : outF sp f = madeF sp f := by
 refine E05 (nOk_of h) fun _ _ _ h4 _ => ?_
 unfold outF madeF
 have hcond : (nameL f == nCookie) = (lowL f.n == nCookie) := by
  rw [Bool.eq_iff_iff, beq_iff_eq, beq_iff_eq]
  refine ⟨h4, fun z => ?_⟩
  show bareL (lowL f.n) = nCookie
  rw [z]; decide +kernel
 have hparts : (split1 sp [lowF f]).map stripF = (partsL sp (nameL f) f.v).map fun p => ⟨nameL f, bareL p, f.x⟩ := by
  have hlow : lowF f = ⟨lowL f.n, f.v, f.x⟩ := by unfold lowF; rw [low_eqL]
  unfold split1 partsL
  rw [hcond, hlow]
  cases sp with
  | false => simp [stripF, strip_eq, nameL]
  | true =>
   simp only [if_true, Bool.true_and, Bool.and_true, List.flatMap_cons, List.flatMap_nil, List.append_nil]
   unfold splF
   cases hc : lowL f.n == nCookie with
   | true =>
    simp only [if_true]
    rw [crumbs_eq, List.map_map]
    refine List.map_congr_left fun p _ => ?_
    simp [stripF, strip_eq, nameL]
   | false => simp [stripF, strip_eq, nameL]
 rw [hparts, made_parts]
theorem nOut_made {sp : Bool} : ∀ {l : List Fld}, (∀ f ∈ l, f.n ∈ allN) -> nOut sp l = madeL sp l
 | [], _ => by unfold nOut split1 madeL; cases sp <;> rfl
 | f :: l, h => by
  rw [nOut_cons, outF_eq (h f (List.mem_cons_self ..)), nOut_made fun g hg => h g (mC _ hg)]
  simp [madeL]
section
set_option tactic.hygienic true
theorem splitL_sum : ∀ (n : Nat) (r : List UInt8), r.length <= n -> ∀ cur, ((splitL cur r).map fun p => p.length + 2).sum = cur.length + r.length + 2
 | _, [], _, cur => by rw [splitL_nil]; simp
 | 0, _ :: _, h, _ => by simp at h
 | n + 1, x :: r, h, cur => by
  rw [splitL_cons]
  simp only [List.length_cons] at h
  split
  ·rename_i hc
   cases r with
   | nil => simp at hc
   | cons y r =>
    have ih := splitL_sum n r (by simp only [List.length_cons] at h; lia) []
    rw [List.map_cons, List.sum_cons, List.tail_cons, ih]
    simp; lia
  ·have ih := splitL_sum n r (by lia) (cur ++ [x])
   rw [ih]; simp; lia
noncomputable def wt (l : List Fld) : Nat := (l.map fun f => f.v.length + 2).sum
theorem wt_append {a b : List Fld} : wt (a ++ b) = wt a + wt b := by simp [wt]
theorem wt_madeP {n p : List UInt8} {x : Option Bool} : wt (madeP n x p) <= p.length + 2 := by
 have := bareL_len p
 unfold madeP
 split
 ·simp [wt]; lia
 ·split <;> simp [wt]; lia
theorem wt_parts {n : List UInt8} {x : Option Bool} : ∀ ps : List (List UInt8), wt (ps.flatMap (madeP n x)) <= (ps.map fun p => p.length + 2).sum
 | [] => Nat.le_refl _
 | p :: ps => by
  rw [List.flatMap_cons, wt_append, List.map_cons, List.sum_cons]
  have h1 := wt_madeP (n := n) (x := x) (p := p)
  have h2 := wt_parts (n := n) (x := x) ps
  lia
theorem wt_madeF {sp : Bool} {f : Fld} : wt (madeF sp f) <= f.v.length + 2 := by
 unfold madeF
 refine Nat.le_trans (wt_parts _) ?_
 unfold partsL
 split
 ·have := splitL_sum f.v.length f.v (Nat.le_refl _) []
  unfold crumbsL
  rw [this]; simp
 ·simp
theorem wt_made {sp : Bool} : ∀ l : List Fld, wt (madeL sp l) <= wt l
 | [] => Nat.le_refl _
 | f :: l => by
  have h1 := wt_madeF (sp := sp) (f := f)
  have h2 := wt_made (sp := sp) l
  have e1 : madeL sp (f :: l) = madeF sp f ++ madeL sp l := by simp [madeL]
  have e2 : wt (f :: l) = f.v.length + 2 + wt l := by simp [wt]
  rw [e1, e2, wt_append]; lia
theorem wt_len (l : List Fld) : l.length * 2 <= wt l := by
  induction l with
  | nil => simp [wt]
  | cons f l ih => have : wt (f :: l) = f.v.length + 2 + wt l := by simp [wt]
                   simp only [List.length_cons]; lia
theorem wt_ok {n : Nat} {b : List Fld} (h : BOk n b) : wt b <= 23 * (5 + n) := by
 have gen : ∀ l : List Fld, (∀ f ∈ l, f.v.length <= 21) -> wt l <= 23 * l.length := by
  intro l
  induction l with
  | nil => intro _; simp [wt]
  | cons f l ih =>
   intro hv
   have h1 := hv f (List.mem_cons_self ..)
   have h2 := ih fun g hg => hv g (mC _ hg)
   have : wt (f :: l) = f.v.length + 2 + wt l := by simp [wt]
   simp only [List.length_cons]; lia
 have := gen b h.vl
 have := h.ln
 lia
theorem wt_mem {l : List Fld} {f : Fld} (h : f ∈ l) : f.v.length + 2 <= wt l := by
 induction l with
 | nil => cases h
 | cons g l ih =>
  have e : wt (g :: l) = g.v.length + 2 + wt l := by simp [wt]
  rcases List.mem_cons.mp h with rfl | h
  ·lia
  ·have := ih h; lia
theorem made_name {sp : Bool} {b : List Fld} {g : Fld} (h : g ∈ madeL sp b) : ∃ f ∈ b, g.n = nameL f /\ ∃ p, g.v = bareL p := by
 unfold madeL at h
 refine E12 (List.mem_flatMap.mp h) fun f hf hg => ?_
 unfold madeF at hg
 refine E12 (List.mem_flatMap.mp hg) fun p hp hg => ?_
 refine ⟨f, hf, ?_⟩
 unfold madeP at hg
 split at hg
 ·rw [List.mem_singleton.mp hg]; exact ⟨rfl, p, rfl⟩
 ·split at hg
  ·cases hg
  ·rw [List.mem_singleton.mp hg]; exact ⟨rfl, p, rfl⟩
theorem nameL_len {f : Fld} : (nameL f).length <= f.n.length := by
 unfold nameL
 exact Nat.le_trans (bareL_len _) (by rw [lowL_len]; exact Nat.le_refl _)
theorem isP_cookie : isP nCookie = false := by decide
theorem front_madeF {sp : Bool} {f : Fld} : (((madeF sp f).map (·.n)).filter isP).length <= 1 := by
 have hn : ∀ g ∈ madeF sp f, g.n = nameL f := fun g hg => by
  unfold madeF at hg
  refine E12 (List.mem_flatMap.mp hg) fun p _ hg => ?_
  unfold madeP at hg
  split at hg
  ·rw [List.mem_singleton.mp hg]
  ·split at hg
   ·cases hg
   ·rw [List.mem_singleton.mp hg]
 cases hp : isP (nameL f) with
 | false =>
  have : ((madeF sp f).map (·.n)).filter isP = [] := by
   rw [List.filter_eq_nil_iff]
   intro n hnn
   refine E12 (List.mem_map.mp hnn) ?_; rintro g hg rfl
   rw [hn g hg, hp]; simp
  rw [this]; simp
 | true =>
  have hc : (nameL f == nCookie) = false := by
   rw [beq_eq_false_iff_ne]
   intro z; rw [z, isP_cookie] at hp; cases hp
  have hl : (madeF sp f).length <= 1 := by
   unfold madeF partsL
   rw [hc]
   simp only [Bool.false_and, Bool.and_false, Bool.false_eq_true, if_false, List.flatMap_cons, List.flatMap_nil, List.append_nil]
   exact madeP_len
  refine Nat.le_trans (List.length_filter_le ..) ?_
  rw [List.length_map]; exact hl
theorem front_made {sp : Bool} : ∀ b : List Fld, (frontOf (madeL sp b)).length <= b.length
 | [] => Nat.le_refl _
 | f :: b => by
  have h1 := front_madeF (sp := sp) (f := f)
  have h2 := front_made (sp := sp) b
  have e : frontOf (madeL sp (f :: b)) = ((madeF sp f).map (·.n)).filter isP ++ frontOf (madeL sp b) := by
   unfold frontOf namesOf
   rw [show madeL sp (f :: b) = madeF sp f ++ madeL sp b from by simp [madeL], List.map_append, List.filter_append]
  rw [e, List.length_append, List.length_cons]; lia
theorem cooks_cons {f : Fld} {l : List Fld} : cooksOf (f :: l) = if f.n == nCookie then f.v :: cooksOf l else cooksOf l := by
 unfold cooksOf
 cases h : f.n == nCookie with
 | true => simp [h]
 | false => simp [h]
theorem cmb_eq : ∀ (l : List Fld) (cs : List (List UInt8)), cmb false cs l = (l.filter fun f => f.n != nCookie) ++ if (cs ++ cooksOf l) = [] then [] else [⟨nCookie, joinC (cs ++ cooksOf l), some true⟩]
 | [], cs => by
  unfold cmb
  simp only [Bool.false_eq_true, if_false]
  have : cooksOf [] = [] := rfl
  rw [this, List.append_nil]
  cases cs <;> simp
 | f :: l, cs => by
  unfold cmb
  rw [cooks_cons]
  cases h : f.n == nCookie with
  | true =>
   have hne : (f.n != nCookie) = false := by simp [bne, h]
   simp only [if_true]
   rw [cmb_eq l, List.filter_cons_of_neg (by rw [hne]; simp), List.append_assoc]
   rfl
  | false =>
   have hne : (f.n != nCookie) = true := by simp [bne, h]
   simp only [Bool.false_eq_true, if_false]
   rw [cmb_eq l, List.filter_cons_of_pos (p := fun f : Fld => f.n != nCookie) hne, List.cons_append]
theorem cmb_due (m : List Fld) : cmb false [] m = dueL m := by
 rw [cmb_eq, List.nil_append]
 unfold dueL
 split <;> simp
theorem join_len (cs : List (List UInt8)) : (joinC cs).length <= (cs.map fun p => p.length + 2).sum := by
 unfold joinC
 have := joined_size ⟨bSep⟩ (cs.map fun b => (⟨b⟩ : Array UInt8))
 have e : (PySem.Builtin.Bytes.joined ⟨bSep⟩ (cs.map fun b => (⟨b⟩ : Array UInt8))).toList.length = (PySem.Builtin.Bytes.joined ⟨bSep⟩ (cs.map fun b => (⟨b⟩ : Array UInt8))).size := by simp
 rw [e, this, List.map_map, List.length_map]
 have e2 : ((cs.map (Array.size ∘ fun b => (⟨b⟩ : Array UInt8)))).sum = (cs.map List.length).sum := rfl
 rw [e2]
 have e3 : (⟨bSep⟩ : Array UInt8).size = 2 := rfl
 rw [e3]
 clear this e e2 e3
 induction cs with
 | nil => simp
 | cons c cs ih => simp only [List.map_cons, List.sum_cons, List.length_cons] at ih ⊢; lia
theorem cooks_wt : ∀ m : List Fld, ((cooksOf m).map fun p => p.length + 2).sum <= wt m
 | [] => Nat.le_refl _
 | f :: m => by
  have ih := cooks_wt m
  have e : wt (f :: m) = f.v.length + 2 + wt m := by simp [wt]
  rw [cooks_cons]
  split
  ·simp only [List.map_cons, List.sum_cons]; omega
  ·omega
theorem good_of {b : List Fld} (h : BOk 4 b) : Good (b, false) := ⟨fun f hf => by
 refine E03 (nOk_of (h.nm f hf)) fun h1 h2 _ => ?_
 have := h.vl f hf
 exact ⟨⟨by lia, by lia⟩, h2⟩, Nat.le_trans h.ln (by decide)⟩
theorem good_made {b : List Fld} {sp : Bool} (h : BOk 4 b) : Good (madeL sp b, false) := by
 have hw := Nat.le_trans (wt_made (sp := sp) b) (wt_ok h)
 refine ⟨fun g hg => ?_, ?_⟩
 ·refine E13 (made_name hg) fun f hf hn _ => ?_
  refine E04 (nOk_of (h.nm f hf)) fun h1 h2 h3 _ => ?_
  have hl := nameL_len (f := f)
  have hv : g.v.length + 2 <= wt (madeL sp b) := wt_mem hg
  exact ⟨⟨by rw [hn]; lia, by lia⟩, by rw [hn]; exact h3⟩
 ·have := wt_len (madeL sp b)
  show (madeL sp b).length <= 200
  lia
theorem good_due {b : List Fld} {sp : Bool} (h : BOk 4 b) : Good (dueL (madeL sp b), false) := by
 have hw := Nat.le_trans (wt_made (sp := sp) b) (wt_ok h)
 have G := good_made (sp := sp) h
 have hl := wt_len (madeL sp b)
 have hfl : ((madeL sp b).filter fun f => f.n != nCookie).length <= (madeL sp b).length := List.length_filter_le ..
 have hj := Nat.le_trans (join_len (cooksOf (madeL sp b))) (cooks_wt (madeL sp b))
 unfold dueL
 split
 ·exact ⟨fun g hg => G.1 g (List.mem_filter.mp hg).1, by show (List.filter _ _).length <= 200; omega⟩
 ·refine ⟨fun g hg => ?_, by show (_ ++ _ : List Fld).length <= 200; rw [List.length_append, List.length_singleton]; omega⟩
  rcases List.mem_append.mp hg with hg | hg
  ·exact G.1 g (List.mem_filter.mp hg).1
  ·rw [List.mem_singleton.mp hg]
   exact ⟨⟨by show nCookie.length <= 1000; decide, by show (joinC _).length <= 1000; lia⟩, by show nCookie ≠ []; decide⟩
theorem smallC_of {b : List Fld} (h : BOk 4 b) : ∀ f ∈ b, smallC (lowF f) := fun f hf => by
 refine E02 (nOk_of (h.nm f hf)) fun h1 _ => ?_
 have hv := h.vl f hf
 have hc := crumbs_le f.v
 refine ⟨⟨by show (f.n.map _).length <= 1000; rw [List.length_map]; lia, by show f.v.length <= 1000; lia⟩, ?_, ?_⟩
 ·show (crumbs f.v).length <= 1000; rw [crumbs_eq]; lia
 ·show ∀ c ∈ crumbs f.v, c.length <= 1000; rw [crumbs_eq]; intro c hcm; have := hc.1 c hcm; lia
end
section
set_option tactic.hygienic true
structure Chk (g : LE -> LE) (c : List Fld -> Bool) : Prop where
 e : ∀ s : LE, s.2 = true -> (g s).2 = true
 k : ∀ l, c l = true -> g (l, false) = (l, false)
 b : ∀ l, c l = false -> (g (l, false)).2 = true
theorem Chk.then {g g' : LE -> LE} {c c' : List Fld -> Bool} (h : Chk g c) (h' : Chk g' c') : Chk (fun s => g' (g s)) (fun l => c l && c' l) where
 e := fun s hs => h'.e _ (h.e s hs)
 k := fun l hc => by
  simp only [Bool.and_eq_true] at hc
  rw [h.k l hc.1, h'.k l hc.2]
 b := fun l hc => by
  cases h1 : c l with
  | false => exact h'.e _ (h.b l h1)
  | true =>
   rw [h1, Bool.true_and] at hc
   rw [h.k l h1]
   exact h'.b l hc
theorem Chk.err {g : LE -> LE} {c : List Fld -> Bool} (h : Chk g c) (l : List Fld) : errO (g (l, false)) = if c l then some l else none := by
 cases hc : c l with
 | true => rw [h.k l hc]; rfl
 | false => unfold errO; rw [h.b l hc]; rfl
theorem erC_true {bad : Fld -> Bool} : ∀ l, erC bad true l = true
 | [] => rfl
 | f :: l => by unfold erC; split <;> first | rfl | exact erC_true l
theorem erC_false {bad : Fld -> Bool} : ∀ l, erC bad false l = !(l.all fun f => !bad f)
 | [] => rfl
 | f :: l => by
  unfold erC
  cases h : bad f with
  | true => simp [h]
  | false => simp [h, erC_false l]
theorem tw_all {p : Fld -> Bool} : ∀ l : List Fld, l.all p = true -> l.takeWhile p = l
 | [], _ => rfl
 | f :: l, h => by
  simp only [List.all_cons, Bool.and_eq_true] at h
  rw [List.takeWhile_cons_of_pos h.1, tw_all l h.2]
theorem chk_C (bad : Fld -> Bool) : Chk (sC bad) (fun l => l.all fun f => !bad f) where
 e := fun s hs => by unfold sC; dsimp only; rw [hs]; exact erC_true _
 k := fun l hc => by unfold sC; dsimp only; rw [erC_false, hc, tw_all l hc]; rfl
 b := fun l hc => by unfold sC; dsimp only; rw [erC_false, hc]; rfl
theorem erP_true {tr rs : Bool} : ∀ l st, erP tr rs true st l = true
 | [], st => rfl
 | f :: l, st => by unfold erP; split <;> first | rfl | exact erP_true l _
theorem tkP_all {tr rs : Bool} : ∀ l st, erP tr rs false st l = false -> tkP st l = l
 | [], st, _ => rfl
 | f :: l, st, h => by
  unfold erP at h
  unfold tkP
  split at h
  ·cases h
  ·rename_i hb
   rw [if_neg hb, tkP_all l _ h]
noncomputable def st0 : PSt := ⟨[], false, none⟩
noncomputable def cP (tr rs : Bool) (l : List Fld) : Bool := !erP tr rs false st0 l
theorem chk_P (tr rs : Bool) : Chk (sP tr rs) (cP tr rs) where
 e := fun s hs => by unfold sP; dsimp only; rw [hs]; exact erP_true _ _
 k := fun l hc => by
  have h : erP tr rs false st0 l = false := by simpa [cP] using hc
  show ((tkP st0 l, erP tr rs false st0 l) : LE) = _
  rw [h, tkP_all l _ h]
 b := fun l hc => by
  have h : erP tr rs false st0 l = true := by simpa [cP] using hc
  exact h
theorem erH_true : ∀ l st, erH true st l = true
 | [], st => rfl
 | f :: l, st => by unfold erH; split <;> first | rfl | exact erH_true l _
theorem tkH_all : ∀ l st, erH false st l = false -> tkH st l = l
 | [], st, _ => rfl
 | f :: l, st, h => by
  unfold erH at h
  unfold tkH
  split at h
  ·cases h
  ·rename_i hb
   rw [if_neg hb, tkH_all l _ h]
noncomputable def sth : HSt := ⟨none, none⟩
noncomputable def cH (b : Bool) (l : List Fld) : Bool := b || !erH false sth l
theorem chk_H (b : Bool) : Chk (sH' b) (cH b) where
 e := fun s hs => by
  show erHs b s.2 s.1 = true
  rw [hs]
  unfold erHs
  cases b with
  | true => rfl
  | false => exact erH_true _ _
 k := fun l hc => by
  show ((tkHs b l, erHs b false l) : LE) = _
  unfold tkHs erHs
  cases b with
  | true => rfl
  | false =>
   have h : erH false sth l = false := by simpa [cH] using hc
   have h' : tkH ⟨none, none⟩ l = l := tkH_all l _ h
   have h2 : erH false ⟨none, none⟩ l = false := h
   simp [h', h2]
 b := fun l hc => by
  show erHs b false l = true
  unfold erHs
  cases b with
  | true => cases hc
  | false =>
   have h : erH false sth l = true := by simpa [cH] using hc
   exact h
noncomputable def cPa (b : Bool) (l : List Fld) : Bool := b || l.all fun f => !badPath f
theorem chk_Pa (b : Bool) : Chk (sPa b) (cPa b) where
 e := fun s hs => by
  show erPa b s.2 s.1 = true
  rw [hs]
  unfold erPa
  cases b with
  | true => rfl
  | false => exact erC_true _
 k := fun l hc => by
  show ((tkPa b l, erPa b false l) : LE) = _
  unfold tkPa erPa
  cases b with
  | true => rfl
  | false =>
   have h : (l.all fun f => !badPath f) = true := by simpa [cPa] using hc
   simp only [Bool.false_eq_true, if_false]
   rw [erC_false, h, tw_all l h]; rfl
 b := fun l hc => by
  show erPa b false l = true
  unfold erPa
  cases b with
  | true => cases hc
  | false =>
   have h : (l.all fun f => !badPath f) = false := by simpa [cPa] using hc
   simp only [Bool.false_eq_true, if_false]
   rw [erC_false, h]; rfl
noncomputable def cOut (tr rs : Bool) (l : List Fld) : Bool := ((((l.all fun f => !badTe f) && (l.all fun f => !badHop f)) && cP tr rs l) && cH (rs || tr) l) && cPa (rs || tr) l
noncomputable def cIn (tr rs : Bool) (l : List Fld) : Bool := ((((((l.all fun f => !badIll f) && (l.all fun f => !badEmp f)) && (l.all fun f => !badTe f)) && (l.all fun f => !badHop f)) && cP tr rs l) && cH (rs || tr) l) && cPa (rs || tr) l
theorem err_out (tr rs : Bool) (l : List Fld) : errO (vOut tr rs l) = if cOut tr rs l then some l else none :=
 ((((Chk.then (chk_C badTe) (chk_C badHop)).then (chk_P tr rs)).then (chk_H (rs || tr))).then (chk_Pa (rs || tr))).err l
theorem err_in (tr rs : Bool) (l : List Fld) : errO (vIn tr rs l) = if cIn tr rs l then some l else none :=
 ((((((Chk.then (chk_C badIll) (chk_C badEmp)).then (chk_C badTe)).then (chk_C badHop)).then (chk_P tr rs)).then (chk_H (rs || tr))).then (chk_Pa (rs || tr))).err l
end
theorem isP_method : isP nMethod = true := by decide
noncomputable def PFr : Bool -> List Fld -> Bool
 | _, [] => true
 | reg, f :: l => if isP f.n then !reg && PFr reg l else PFr true l
noncomputable def lastFrom (k : List UInt8) (a : Option (List UInt8)) (l : List Fld) : Option (List UInt8) := l.foldl (fun a f => if f.n = k then some f.v else a) a
theorem front_cons {f : Fld} {l : List Fld} : frontOf (f :: l) = if isP f.n then f.n :: frontOf l else frontOf l := by
 unfold frontOf namesOf
 rw [List.map_cons, List.filter_cons]
theorem lastFrom_cons {k : List UInt8} {a : Option (List UInt8)} {f : Fld} {l : List Fld} : lastFrom k a (f :: l) = lastFrom k (if f.n = k then some f.v else a) l := rfl
theorem erP_iff {tr rs : Bool} : ∀ (l : List Fld) (S : List (List UInt8)) (reg : Bool) (m : Option (List UInt8)), erP tr rs false ⟨S, reg, m⟩ l = false ↔ (PFr reg l = true /\ (∀ n ∈ frontOf l, pseuA.contains n = true) /\ (frontOf l).Nodup /\ (∀ n ∈ frontOf l, S.contains n = false) /\ okP (S ++ frontOf l) (lastFrom nMethod m l) tr rs = true)
 | [], S, reg, m => by
  unfold erP
  have : frontOf [] = [] := rfl
  rw [this]
  simp [PFr, lastFrom]
 | f :: l, S, reg, m => by
  unfold erP
  rw [front_cons, lastFrom_cons]
  cases hp : isP f.n with
  | false =>
   have hb : PSt.bad ⟨S, reg, m⟩ f = false := by simp only [PSt.bad, hp, Bool.false_and]
   have hx : PSt.next ⟨S, reg, m⟩ f = ⟨S, true, m⟩ := by simp only [PSt.next, hp]; rfl
   have hne : f.n ≠ nMethod := fun z => by rw [z, isP_method] at hp; cases hp
   have hpf : PFr reg (f :: l) = PFr true l := by simp only [PFr, hp]; rfl
   rw [hb, hx, hpf, if_neg hne]
   simp only [Bool.false_eq_true, if_false]
   exact erP_iff l S true m
  | true =>
   have hpf : PFr reg (f :: l) = (!reg && PFr reg l) := by simp only [PFr, hp]; rfl
   rw [hpf]
   simp only [if_true]
   cases hb : PSt.bad ⟨S, reg, m⟩ f with
   | true =>
    simp only [if_true]
    refine ⟨fun h => (by cases h), fun ⟨h1, h2, h3, h4, _⟩ => ?_⟩
    simp only [Bool.and_eq_true, Bool.not_eq_true'] at h1
    have e1 := h2 f.n (List.mem_cons_self ..)
    have e2 := h4 f.n (List.mem_cons_self ..)
    simp only [PSt.bad, hp, e1, e2, h1.1] at hb
    cases hb
   | false =>
    simp only [Bool.false_eq_true, if_false]
    have hx : PSt.next ⟨S, reg, m⟩ f = ⟨S ++ [f.n], reg, if f.n = nMethod then some f.v else m⟩ := by
     have : (if f.n == nMethod then some f.v else m) = if f.n = nMethod then some f.v else m := by
      by_cases h : f.n = nMethod <;> simp [h]
     simp only [PSt.next, hp, this]; rfl
    rw [hx, erP_iff l]
    simp only [PSt.bad, hp, Bool.true_and, Bool.or_eq_false_iff, Bool.not_eq_false'] at hb
    refine E02 hb ?_; clear hb; rintro ⟨hS, hr⟩ hA
    rw [hr]
    have hsplit : ∀ n, (S ++ [f.n]).contains n = false ↔ S.contains n = false /\ n ≠ f.n := fun n => by
     rw [Bool.eq_false_iff, Bool.eq_false_iff, ne_eq, ne_eq, List.contains_iff_mem, List.contains_iff_mem, List.mem_append, List.mem_singleton]
     constructor
     ·intro h; exact ⟨fun z => h (.inl z), fun z => h (.inr z)⟩
     ·rintro ⟨h1, h2⟩ (z | z)
      ·exact h1 z
      ·exact h2 z
    constructor
    ·rintro ⟨h1, h2, h3, h4, h5⟩
     refine ⟨by simpa using h1, fun n hn => ?_, ?_, fun n hn => ?_, by simpa using h5⟩
     ·rcases List.mem_cons.mp hn with rfl | hn
      ·exact hA
      ·exact h2 n hn
     ·exact List.nodup_cons.mpr ⟨fun z => ((hsplit _).mp (h4 _ z)).2 rfl, h3⟩
     ·rcases List.mem_cons.mp hn with rfl | hn
      ·exact hS
      ·exact ((hsplit n).mp (h4 n hn)).1
    ·rintro ⟨h1, h2, h3, h4, h5⟩
     refine E02 (List.nodup_cons.mp h3) fun h6 h7 => ?_
     refine ⟨by simpa using h1, fun n hn => h2 n (mC _ hn), h7, fun n hn => (hsplit n).mpr ⟨h4 n (mC _ hn), fun z => h6 (z ▸ hn)⟩, by simpa using h5⟩
theorem PFr_true : ∀ l : List Fld, PFr true l = true ↔ frontOf l = []
 | [] => by simp [PFr, frontOf, namesOf]
 | f :: l => by
  rw [front_cons]
  unfold PFr
  cases hp : isP f.n with
  | true => simp
  | false => simpa using PFr_true l
theorem names_cons {f : Fld} {l : List Fld} : namesOf (f :: l) = f.n :: namesOf l := rfl
theorem front_take : ∀ l : List Fld, (namesOf l).take (frontOf l).length = frontOf l ↔ PFr false l = true
 | [] => by simp [PFr, frontOf, namesOf]
 | f :: l => by
  rw [front_cons, names_cons]
  unfold PFr
  cases hp : isP f.n with
  | true =>
   simp only [if_true, List.length_cons, List.take_succ_cons, List.cons.injEq, true_and, Bool.not_false, Bool.true_and]
   exact front_take l
  | false =>
   simp only [Bool.false_eq_true, if_false]
   rw [PFr_true]
   cases hf : frontOf l with
   | nil => simp
   | cons n r =>
    have hn : isP n = true := (List.mem_filter.mp (show n ∈ frontOf l by rw [hf]; exact List.mem_cons_self ..)).2
    simp only [List.length_cons, List.take_succ_cons, List.cons.injEq, reduceCtorEq, iff_false]
    rintro ⟨rfl, _⟩
    rw [hp] at hn; cases hn
noncomputable def addK (ks : List (List UInt8)) (n : List UInt8) : List (List UInt8) := if n ∈ ks then ks else ks ++ [n]
theorem any_mem {kvs : KV} {k : List UInt8} : (kvs.any fun kv => kv.1 = k) = decide (k ∈ kvs.map (·.1)) := by
 rw [Bool.eq_iff_iff, List.any_eq_true, decide_eq_true_eq, List.mem_map]
 constructor
 ·rintro ⟨p, hp, h⟩; exact ⟨p, hp, by simpa using h⟩
 ·rintro ⟨p, hp, h⟩; exact ⟨p, hp, by simpa using h⟩
theorem stored_keys {kvs : KV} {k v : List UInt8} : (storedB kvs k v).map (·.1) = addK (kvs.map (·.1)) k := by
 unfold storedB addK
 rw [any_mem]
 by_cases h : k ∈ kvs.map (·.1)
 ·rw [if_pos (by simpa using h), if_pos h, List.map_map]
  refine List.map_congr_left fun p _ => ?_
  show (if p.1 = k then (p.1, v) else p).1 = p.1
  split <;> rfl
 ·rw [if_neg (by simpa using h), if_neg h]; simp
theorem stored_val {kvs : KV} {k k' v : List UInt8} : valueB (storedB kvs k' v) k = if k = k' then some v else valueB kvs k := by
 unfold storedB
 rw [any_mem]
 by_cases h : k' ∈ kvs.map (·.1)
 ·rw [if_pos (by simpa using h)]
  induction kvs with
  | nil => simp at h
  | cons p kvs ih =>
   unfold valueB at ih ⊢
   rw [List.map_cons]
   by_cases hp : p.1 = k'
   ·rw [if_pos hp]
    by_cases hk : k = k'
    ·rw [if_pos hk, List.find?_cons_of_pos (by simpa [hk] using hp)]; rfl
    ·have hpk : ¬ p.1 = k := fun z => hk (z.symm.trans hp)
     rw [if_neg hk, List.find?_cons_of_neg (by simpa using hpk), List.find?_cons_of_neg (by simpa using hpk)]
     have : ∀ l : KV, (List.find? (fun kv => decide (kv.1 = k)) (l.map fun kv => if kv.1 = k' then (kv.1, v) else kv)).map (·.2) = (List.find? (fun kv => decide (kv.1 = k)) l).map (·.2) := by
      intro l
      induction l with
      | nil => rfl
      | cons q l ihl =>
       rw [List.map_cons]
       by_cases hq : q.1 = k
       ·have hq' : ¬ q.1 = k' := fun z => hk (hq.symm.trans z)
        rw [if_neg hq', List.find?_cons_of_pos (by simpa using hq), List.find?_cons_of_pos (by simpa using hq)]
       ·rw [List.find?_cons_of_neg (a := q) (by simpa using hq)]
        by_cases hq' : q.1 = k'
        ·rw [if_pos hq', List.find?_cons_of_neg (by simpa using hq)]; exact ihl
        ·rw [if_neg hq', List.find?_cons_of_neg (by simpa using hq)]; exact ihl
     exact this kvs
   ·rw [if_neg hp]
    have hm : k' ∈ kvs.map (·.1) := by
     rcases List.mem_cons.mp (by simpa using h : k' ∈ p.1 :: kvs.map (·.1)) with z | z
     ·exact absurd z.symm hp
     ·exact z
    by_cases hpk : p.1 = k
    ·have hk : ¬ k = k' := fun z => hp (hpk.trans z)
     rw [if_neg hk, List.find?_cons_of_pos (by simpa using hpk), List.find?_cons_of_pos (by simpa using hpk)]
    ·rw [List.find?_cons_of_neg (by simpa using hpk), List.find?_cons_of_neg (by simpa using hpk)]
     exact ih hm
 ·rw [if_neg (by simpa using h)]
  unfold valueB
  rw [List.find?_append]
  by_cases hk : k = k'
  ·rw [if_pos hk]
   have : List.find? (fun kv => decide (kv.1 = k)) kvs = none := by
    rw [List.find?_eq_none]
    intro p hp z
    exact h (hk ▸ List.mem_map.mpr ⟨p, hp, by simpa using z⟩)
   rw [this]; simp [hk]
  ·rw [if_neg hk]
   cases hf : List.find? (fun kv => decide (kv.1 = k)) kvs with
   | some p => simp
   | none =>
    have : ¬ k' = k := fun z => hk z.symm
    simp [this]
theorem vals_last (b : List Fld) (k : List UInt8) : valueB (valsOf b) k = lastFrom k none b := by
 have gen : ∀ (b : List Fld) (a : KV), valueB ((b.map fun f => (f.n, f.v)).foldl (fun a p => storedB a p.1 p.2) a) k = lastFrom k (valueB a k) b := by
  intro b
  induction b with
  | nil => intro a; rfl
  | cons f b ih =>
   intro a
   rw [List.map_cons, List.foldl_cons, ih, lastFrom_cons, stored_val]
   by_cases h : k = f.n
   ·rw [if_pos h, if_pos h.symm]
   ·rw [if_neg h, if_neg fun z => h z.symm]
 exact gen b []
theorem keys_fold (b : List Fld) : (valsOf b).map (·.1) = (namesOf b).foldl addK [] := by
 have gen : ∀ (b : List Fld) (a : KV), ((b.map fun f => (f.n, f.v)).foldl (fun a p => storedB a p.1 p.2) a).map (·.1) = (namesOf b).foldl addK (a.map (·.1)) := by
  intro b
  induction b with
  | nil => intro a; rfl
  | cons f b ih => intro a; rw [List.map_cons, List.foldl_cons, ih, stored_keys, names_cons, List.foldl_cons]
 exact gen b []
theorem count_keys : ∀ (ns ks : List (List UInt8)), ((ns.foldl addK ks).filter isP).length <= (ks.filter isP).length + (ns.filter isP).length /\ (((ns.foldl addK ks).filter isP).length = (ks.filter isP).length + (ns.filter isP).length ↔ ((ns.filter isP).Nodup /\ ∀ n ∈ ns.filter isP, n ∉ ks))
 | [], ks => by simp
 | n :: ns, ks => by
  refine E02 (count_keys ns (addK ks n)) fun i1 i2 => ?_
  rw [List.foldl_cons]
  cases hp : isP n with
  | false =>
   have hf : (addK ks n).filter isP = ks.filter isP := by
    unfold addK; split
    ·rfl
    ·rw [List.filter_append]; simp [hp]
   have hm : ∀ m, isP m = true -> (m ∈ addK ks n ↔ m ∈ ks) := fun m hm => by
    unfold addK; split
    ·rfl
    ·rw [List.mem_append, List.mem_singleton]
     exact ⟨fun h => h.resolve_right fun z => (by rw [z, hp] at hm; cases hm), .inl⟩
   rw [List.filter_cons_of_neg (by rw [hp]; simp)]
   rw [hf] at i1 i2
   refine ⟨i1, i2.trans ?_⟩
   constructor
   ·rintro ⟨a, c⟩; exact ⟨a, fun m hmm z => c m hmm ((hm m (List.mem_filter.mp hmm).2).mpr z)⟩
   ·rintro ⟨a, c⟩; exact ⟨a, fun m hmm z => c m hmm ((hm m (List.mem_filter.mp hmm).2).mp z)⟩
  | true =>
   rw [List.filter_cons_of_pos hp]
   by_cases hk : n ∈ ks
   ·have ha : addK ks n = ks := if_pos hk
    rw [ha] at i1 i2 ⊢
    refine ⟨by simp only [List.length_cons]; lia, ?_⟩
    constructor
    ·intro h; simp only [List.length_cons] at h; lia
    ·rintro ⟨_, c⟩; exact absurd hk (c n (List.mem_cons_self ..))
   ·have ha : addK ks n = ks ++ [n] := if_neg hk
    have hl : ((ks ++ [n]).filter isP).length = (ks.filter isP).length + 1 := by rw [List.filter_append]; simp [hp]
    rw [ha] at i1 i2 ⊢
    rw [hl] at i1 i2
    refine ⟨by simp only [List.length_cons]; lia, ?_⟩
    rw [List.length_cons, show (ks.filter isP).length + ((ns.filter isP).length + 1) = (ks.filter isP).length + 1 + (ns.filter isP).length from by lia, i2]
    constructor
    ·rintro ⟨a, c⟩
     refine ⟨List.nodup_cons.mpr ⟨fun z => c n z (by simp), a⟩, fun m hmm z => ?_⟩
     rcases List.mem_cons.mp hmm with rfl | hmm
     ·exact hk z
     ·exact c m hmm (List.mem_append_left _ z)
    ·rintro ⟨a, c⟩
     refine E02 (List.nodup_cons.mp a) fun a1 a2 => ?_
     refine ⟨a2, fun m hmm z => ?_⟩
     rcases List.mem_append.mp z with z | z
     ·exact c m (mC _ hmm) z
     ·rw [List.mem_singleton.mp z] at hmm; exact a1 hmm
theorem gb3_iff (b : List Fld) : gb3 b = false ↔ PFr false b = true /\ (frontOf b).Nodup := by
 unfold gb3
 rw [keys_fold]
 have h := (count_keys (namesOf b) []).2
 have hf : (namesOf b).filter isP = frontOf b := rfl
 rw [hf] at h
 simp only [List.filter_nil, List.length_nil, Nat.zero_add, List.not_mem_nil, not_false_eq_true, implies_true, and_true] at h
 rw [<- front_take, <- h]
 simp only [Bool.or_false, Bool.or_eq_false_iff, Bool.not_eq_false', decide_eq_true_eq]
 constructor
 ·rintro ⟨h1, h2⟩
  refine ⟨h1, ?_⟩
  have : ¬ (((((namesOf b).foldl addK []).filter isP).length : Int) ≠ ((frontOf b).length : Int)) := fun z => by
   rw [bne_iff_ne.mpr z] at h2; cases h2
  lia
 ·rintro ⟨h1, h2⟩
  refine ⟨h1, ?_⟩
  rw [h2]; simp
section
set_option tactic.hygienic true
theorem lastFrom_none {k : List UInt8} : ∀ (l : List Fld) (a : Option (List UInt8)), k ∉ namesOf l -> lastFrom k a l = a
 | [], a, _ => rfl
 | f :: l, a, h => by
  rw [names_cons] at h
  have h1 : ¬ f.n = k := fun z => h (z ▸ List.mem_cons_self ..)
  rw [lastFrom_cons, if_neg h1]
  exact lastFrom_none l a fun z => h (mC _ z)
theorem front_mem {k : List UInt8} {l : List Fld} (hk : isP k = true) : k ∈ frontOf l ↔ k ∈ namesOf l := by
 unfold frontOf; rw [List.mem_filter]; simp [hk]
theorem lastFrom_mem {k : List UInt8} (hk : isP k = true) : ∀ (l : List Fld) (a : Option (List UInt8)) (f : Fld), (frontOf l).Nodup -> f ∈ l -> f.n = k -> lastFrom k a l = some f.v
 | [], _, _, _, h, _ => by cases h
 | g :: l, a, f, hn, h, hf => by
  rw [front_cons] at hn
  rw [lastFrom_cons]
  rcases List.mem_cons.mp h with rfl | h
  ·rw [if_pos hf]
   have hp : isP f.n = true := by rw [hf]; exact hk
   rw [if_pos hp] at hn
   refine lastFrom_none l _ fun z => ?_
   exact (List.nodup_cons.mp hn).1 (by rw [hf]; exact (front_mem hk).mpr z)
  ·refine lastFrom_mem hk l _ f ?_ h hf
   split at hn
   ·exact (List.nodup_cons.mp hn).2
   ·exact hn
theorem lastFrom_ex {k v : List UInt8} : ∀ (l : List Fld) (a : Option (List UInt8)), lastFrom k a l = some v -> a = some v \/ ∃ f ∈ l, f.n = k /\ f.v = v
 | [], a, h => .inl h
 | f :: l, a, h => by
  rw [lastFrom_cons] at h
  rcases lastFrom_ex l _ h with h | ⟨g, hg, h⟩
  ·split at h
   ·rename_i hf
    cases h
    exact .inr ⟨f, List.mem_cons_self .., hf, rfl⟩
   ·exact .inl h
  ·exact .inr ⟨g, mC _ hg, h⟩
theorem lastFrom_some {k : List UInt8} {l : List Fld} : (lastFrom k none l).isSome = decide (k ∈ namesOf l) := by
 rw [Bool.eq_iff_iff, decide_eq_true_eq]
 constructor
 ·intro h
  refine E11 (Option.isSome_iff_exists.mp h) fun v hv => ?_
  rcases lastFrom_ex l none hv with h | ⟨f, hf, h, _⟩
  ·cases h
  ·rw [<- h]; exact List.mem_map.mpr ⟨f, hf, rfl⟩
 ·intro h
  have gen : ∀ (l : List Fld) (a : Option (List UInt8)), (a.isSome = true \/ k ∈ namesOf l) -> (lastFrom k a l).isSome = true := by
   intro l
   induction l with
   | nil => intro a h; exact h.resolve_right (by simp [namesOf])
   | cons f l ih =>
    intro a h
    rw [lastFrom_cons]
    refine ih _ ?_
    by_cases hf : f.n = k
    ·rw [if_pos hf]; exact .inl rfl
    ·rw [if_neg hf]
     rcases h with h | h
     ·exact .inl h
     ·rw [names_cons] at h
      rcases List.mem_cons.mp h with z | z
      ·exact absurd z.symm hf
      ·exact .inr z
  exact gen l none (.inr h)
theorem hosts_cons {f : Fld} {l : List Fld} : hostsOf (f :: l) = if f.n == nHost then f.v :: hostsOf l else hostsOf l := by
 unfold hostsOf
 cases h : f.n == nHost with
 | true => simp [h]
 | false => simp [h]
theorem erH_iff : ∀ (l : List Fld) (a h : Option (List UInt8)), erH false ⟨a, h⟩ l = false ↔ ((h.toList ++ hostsOf l).length <= 1 /\ HSt.end_ ⟨lastFrom nAuth a l, (h.toList ++ hostsOf l).head?⟩ = false)
 | [], a, h => by
  have e : hostsOf [] = [] := rfl
  unfold erH
  rw [e]
  cases h <;> simp [lastFrom]
 | f :: l, a, h => by
  unfold erH
  rw [hosts_cons, lastFrom_cons]
  by_cases ha : f.n = nAuth
  ·have hb : HSt.bad ⟨a, h⟩ f = false := by simp [HSt.bad, ha]
   have hx : HSt.next ⟨a, h⟩ f = ⟨some f.v, h⟩ := by simp [HSt.next, ha]
   have hne : (f.n == nHost) = false := by rw [ha]; decide
   rw [hb, hx, hne, if_pos ha]
   simp only [Bool.false_eq_true, if_false]
   exact erH_iff l _ _
  ·have ha' : (f.n == nAuth) = false := beq_eq_false_iff_ne.mpr ha
   rw [if_neg ha]
   cases hh : f.n == nHost with
   | true =>
    cases h with
    | some v =>
     have hb : HSt.bad ⟨a, some v⟩ f = true := by simp [HSt.bad, ha', hh]
     rw [hb]
     simp
    | none =>
     have hb : HSt.bad ⟨a, none⟩ f = false := by simp [HSt.bad]
     have hx : HSt.next ⟨a, none⟩ f = ⟨a, some f.v⟩ := by simp [HSt.next, ha', hh]
     rw [hb, hx]
     simp only [Bool.false_eq_true, if_false]
     rw [erH_iff l]
     simp
   | false =>
    have hb : HSt.bad ⟨a, h⟩ f = false := by simp [HSt.bad, hh]
    have hx : HSt.next ⟨a, h⟩ f = ⟨a, h⟩ := by simp [HSt.next, ha', hh]
    rw [hb, hx]
    simp only [Bool.false_eq_true, if_false]
    exact erH_iff l _ _
theorem teBad_eq : teBad = badTe := funext fun f => by unfold teBad badTe; rw [low_eqL]
theorem any_all {l : List Fld} {p : Fld -> Bool} : decide ((l.filter p) = []) = l.all fun f => !p f := by
 rw [Bool.eq_iff_iff, decide_eq_true_eq, List.filter_eq_nil_iff, List.all_eq_true]
 simp
theorem gb1_eq (b : List Fld) : gb1 b = !(b.all fun f => !badTe f) := by
 unfold gb1
 rw [teBad_eq, <- any_all]
 congr 1
 rw [Bool.eq_iff_iff, decide_eq_true_eq, decide_eq_true_eq, List.map_eq_nil_iff]
theorem gb2_eq (b : List Fld) : gb2 b = !(b.all fun f => !badHop f) := by
 unfold gb2
 congr 1
 rw [Bool.eq_iff_iff, decide_eq_true_eq, List.filter_eq_nil_iff, List.all_eq_true]
 constructor
 ·intro h f hf
  have := h f.n (List.mem_map.mpr ⟨f, hf, rfl⟩)
  unfold badHop; rw [hops_eq]; simpa using this
 ·intro h n hn
  refine E12 (List.mem_map.mp hn) ?_; rintro f hf rfl
  have := h f hf
  unfold badHop at this; rw [hops_eq] at this; simpa using this
noncomputable def ord5 : List (List UInt8) := [nMethod, nPath, nProto, nScheme, nStatus]
theorem pseu_mem {n : List UInt8} : pseuA.contains n = true ↔ n = nMethod \/ n = nScheme \/ n = nAuth \/ n = nPath \/ n = nStatus \/ n = nProto := by
 rw [List.contains_iff_mem]; simp [pseuA]
theorem ord5_ne : nAuth ∉ ord5 := by decide
theorem ord5_nodup : ord5.Nodup := by decide
theorem ord5_le : ord5.Pairwise (· <= ·) := by decide
theorem sort_front {S : List (List UInt8)} (hn : S.Nodup) (hA : ∀ n ∈ S, pseuA.contains n = true) : sortB (S.filter fun n => n != nAuth) = ord5.filter S.contains := by
 refine (sortB_of ?_ ?_).symm
 ·refine (List.perm_ext_iff_of_nodup (ord5_nodup.filter _) (hn.filter _)).mpr fun n => ?_
  rw [List.mem_filter, List.mem_filter, List.contains_iff_mem]
  constructor
  ·rintro ⟨h1, h2⟩
   exact ⟨h2, by rw [bne_iff_ne]; exact fun z => ord5_ne (z ▸ h1)⟩
  ·rintro ⟨h1, h2⟩
   rw [bne_iff_ne] at h2
   refine ⟨?_, h1⟩
   rcases pseu_mem.mp (hA n h1) with h | h | h | h | h | h
   ·rw [h]; decide
   ·rw [h]; decide
   ·exact absurd h h2
   ·rw [h]; decide
   ·rw [h]; decide
   ·rw [h]; decide
 ·exact ord5_le.sublist List.filter_sublist
noncomputable def mustM (c p : Bool) : List (List UInt8) := if c then (if p then mustB else [nMethod]) else mustA
noncomputable def filtB {α : Type} (l : List (α × Bool)) : List α := l.foldr (fun p r => bif p.2 then p.1 :: r else r) []
theorem filtE {α : Type} {p : α -> Bool} {l : List α} : l.filter p = filtB (l.map fun a => (a, p a)) := by
 induction l with
 | nil => rfl
 | cons a l ih =>
  rw [List.filter_cons, ih]
  show _ = bif p a then _ else _
  cases p a <;> rfl
theorem okP_must {S : List (List UInt8)} {m : Option (List UInt8)} : okP S m false false = decide (ord5.filter S.contains = mustM (con m) (S.contains nProto)) := by
 have e : okP S m false false = (S.contains nMethod && (if con m && !S.contains nProto then !(S.contains nScheme || S.contains nPath) else S.contains nScheme && S.contains nPath) && ([nStatus].filter S.contains).isEmpty && (con m || ([nProto].filter S.contains).isEmpty)) := rfl
 rw [e]
 unfold mustM ord5
 rw [filtE, filtE, filtE]
 simp only [List.map_cons, List.map_nil]
 generalize S.contains nMethod = a, S.contains nPath = b, S.contains nProto = c, S.contains nScheme = d, S.contains nStatus = x, con m = y
 revert a b c d x y
 decide +kernel
end
theorem cP_iff {tr rs : Bool} {l : List Fld} : cP tr rs l = true ↔ (PFr false l = true /\ (∀ n ∈ frontOf l, pseuA.contains n = true) /\ (frontOf l).Nodup /\ okP (frontOf l) (lastFrom nMethod none l) tr rs = true) := by
 unfold cP
 rw [Bool.not_eq_true']
 have := erP_iff (tr := tr) (rs := rs) l [] false none
 unfold st0
 rw [this]
 constructor
 ·rintro ⟨h1, h2, h3, _, h5⟩; exact ⟨h1, h2, h3, by simpa using h5⟩
 ·rintro ⟨h1, h2, h3, h5⟩; exact ⟨h1, h2, h3, fun n _ => rfl, by simpa using h5⟩
theorem con_eq (b : List Fld) : gb9 b = con (lastFrom nMethod none b) := by
 unfold gb9
 rw [vals_last]
 cases lastFrom nMethod none b with
 | none => rfl
 | some v => show (true && (v == bConn && true)) = _; simp [con, bConn, bCONNECT]
theorem proto_eq (b : List Fld) : (valueB (valsOf b) nProto).isSome = (frontOf b).contains nProto := by
 rw [vals_last, lastFrom_some, Bool.eq_iff_iff, decide_eq_true_eq, List.contains_iff_mem, front_mem (by decide)]
theorem must_eq (b : List Fld) : mustOf b = mustM (con (lastFrom nMethod none b)) ((frontOf b).contains nProto) := by
 unfold mustOf mustM
 rw [con_eq, proto_eq]
theorem mustM_sub {c p : Bool} : ∀ n ∈ mustM c p, pseuA.contains n = true := by
 cases c <;> cases p <;> decide
theorem gb10_iff {b : List Fld} (hn : (frontOf b).Nodup) : gb10 b = false ↔ (∀ n ∈ frontOf b, pseuA.contains n = true) /\ okP (frontOf b) (lastFrom nMethod none b) false false = true := by
 unfold gb10
 rw [Bool.not_eq_false', decide_eq_true_eq, must_eq]
 constructor
 ·intro h
  have hA : ∀ n ∈ frontOf b, pseuA.contains n = true := fun n hm => by
   by_cases ha : n = nAuth
   ·rw [ha]; decide
   ·refine mustM_sub (c := con (lastFrom nMethod none b)) (p := (frontOf b).contains nProto) n ?_
    rw [<- h]
    unfold sortB
    rw [List.mem_mergeSort, List.mem_filter]
    exact ⟨hm, bne_iff_ne.mpr ha⟩
  refine ⟨hA, ?_⟩
  rw [okP_must, decide_eq_true_eq, <- sort_front hn hA]
  exact h
 ·rintro ⟨hA, ho⟩
  rw [okP_must, decide_eq_true_eq] at ho
  rw [sort_front hn hA]
  exact ho
theorem okP_resp {S : List (List UInt8)} {m : Option (List UInt8)} (hn : S.Nodup) : ((∀ n ∈ S, pseuA.contains n = true) /\ okP S m false true = true) ↔ S = [nStatus] := by
 have e : okP S m false true = (S.contains nStatus && (reqO.filter S.contains).isEmpty) := rfl
 rw [e]
 constructor
 ·rintro ⟨hA, ho⟩
  rw [Bool.and_eq_true, List.contains_iff_mem, List.isEmpty_iff, List.filter_eq_nil_iff] at ho
  refine E02 ho ?_; clear ho; intro h1 h2
  have hall : ∀ n ∈ S, n = nStatus := fun n hm => by
   have hc : S.contains n = true := List.contains_iff_mem.mpr hm
   rcases pseu_mem.mp (hA n hm) with h | h | h | h | h | h
   ·subst h; exact absurd hc (h2 _ (by decide))
   ·subst h; exact absurd hc (h2 _ (by decide))
   ·subst h; exact absurd hc (h2 _ (by decide))
   ·subst h; exact absurd hc (h2 _ (by decide))
   ·exact h
   ·subst h; exact absurd hc (h2 _ (by decide))
  cases S with
  | nil => cases h1
  | cons x r =>
   have hx := hall x (List.mem_cons_self ..)
   have hr : r = [] := by
    cases r with
    | nil => rfl
    | cons y r =>
     have hy := hall y (by simp)
     exact absurd (by rw [hx, hy]; exact List.mem_cons_self ..) (List.nodup_cons.mp hn).1
   rw [hx, hr]
 ·rintro rfl
  exact ⟨by decide, by decide⟩
theorem okP_trail {S : List (List UInt8)} {m : Option (List UInt8)} : ((∀ n ∈ S, pseuA.contains n = true) /\ okP S m true false = true) ↔ S = [] := by
 have e : okP S m true false = (!(true && !S.isEmpty) && true) := rfl
 rw [e]
 constructor
 ·rintro ⟨_, h⟩; simpa using h
 ·rintro rfl; exact ⟨by simp, rfl⟩
theorem path_eq {b : List Fld} (hn : (frontOf b).Nodup) : (b.all fun f => !badPath f) = !gb11 b := by
 unfold gb11
 rw [vals_last, Bool.eq_iff_iff, List.all_eq_true, Bool.not_eq_true']
 constructor
 ·intro h
  cases hl : lastFrom nPath none b with
  | none => rfl
  | some v =>
   rcases lastFrom_ex b none hl with z | ⟨f, hf, h1, h2⟩
   ·cases z
   ·have := h f hf
    unfold badPath at this
    rw [h1, h2] at this
    cases v with
    | nil => cases this
    | cons _ _ => rfl
 ·intro h f hf
  unfold badPath
  by_cases hp : f.n = nPath
  ·have := lastFrom_mem (k := nPath) (by decide) b none f hn hf hp
   rw [this] at h
   cases hv : f.v with
   | nil => rw [hv] at h; cases h
   | cons _ _ => simp
  ·rw [beq_eq_false_iff_ne.mpr hp]; rfl
theorem cH_eq (l : List Fld) : cH false l = true ↔ ((hostsOf l).length <= 1 /\ HSt.end_ ⟨lastFrom nAuth none l, (hostsOf l).head?⟩ = false) := by
 unfold cH
 rw [Bool.false_or, Bool.not_eq_true']
 exact erH_iff l none none
theorem end_A {a : List UInt8} : ∀ hs : List (List UInt8), (decide (hs = []) || decide (hs = [a])) = true ↔ (hs.length <= 1 /\ HSt.end_ ⟨some a, hs.head?⟩ = false)
 | [] => ⟨fun _ => ⟨Nat.zero_le _, rfl⟩, fun _ => rfl⟩
 | [x] => by
  have e : HSt.end_ ⟨some a, ([x] : List (List UInt8)).head?⟩ = (some a != some x) := rfl
  rw [e]
  by_cases hax : a = x
  ·subst hax
   exact ⟨fun _ => ⟨Nat.le_refl _, bne_self_eq_false _⟩, fun _ => by rw [Bool.or_eq_true]; right; exact decide_eq_true rfl⟩
  ·have h1 : (some a != some x) = true := bne_iff_ne.mpr fun z => hax (by injection z)
   have h2 : decide ([x] = [a]) = false := decide_eq_false fun z => hax (by injection z with z; exact z.symm)
   have h3 : decide ([x] = ([] : List (List UInt8))) = false := decide_eq_false fun z => by cases z
   rw [h1, h2, h3]
   exact ⟨fun z => (by cases z), fun z => (by cases z.2)⟩
 | x :: y :: r => by
  have h2 : decide ((x :: y :: r) = [a]) = false := decide_eq_false fun z => by cases z
  have h3 : decide ((x :: y :: r) = ([] : List (List UInt8))) = false := decide_eq_false fun z => by cases z
  rw [h2, h3]
  exact ⟨fun z => (by cases z), fun z => (by have := z.1; simp only [List.length_cons] at this; lia)⟩
theorem end_N : ∀ hs : List (List UInt8), ((hs.length : Int) == 1) = true ↔ (hs.length <= 1 /\ HSt.end_ ⟨none, hs.head?⟩ = false)
 | [] => ⟨fun z => (by cases z), fun z => (by cases z.2)⟩
 | [x] => ⟨fun _ => ⟨Nat.le_refl _, rfl⟩, fun _ => rfl⟩
 | x :: y :: r => by
  refine ⟨fun z => ?_, fun z => ?_⟩
  ·have := eq_of_beq z; simp only [List.length_cons] at this; lia
  ·have := z.1; simp only [List.length_cons] at this; lia
theorem gB : ∀ b1 b2 b3 b4 r4 b10 b11 b13 r13 b14 r15 g : Bool, goodB b1 b2 b3 b4 r4 b10 b11 b13 r13 b14 r15 = some g -> g = (!b1 && (!b2 && (!b3 && bif b4 then r4 else !b10 && (!b11 && bif b13 then r13 else r15)))) := by decide +kernel
theorem tf {b x y : Bool} (h1 : b = true -> x = y) (h2 : b = false -> x = y) : x = y := by
 cases b
 ·exact h2 rfl
 ·exact h1 rfl
theorem good_out {l : List Fld} {kind : Int} {g : Bool} (h : goodL l kind = some g) : cOut (kind == 2) (kind == 1) l = g := by
 refine Eq.trans ?_ (gB _ _ _ _ _ _ _ _ _ _ _ _ h).symm
 unfold cOut
 rw [show (l.all fun f => !badTe f) = !gb1 l by rw [gb1_eq, Bool.not_not], show (l.all fun f => !badHop f) = !gb2 l by rw [gb2_eq, Bool.not_not]]
 refine tf (b := gb1 l) (fun h1 => by rw [h1]; rfl) fun h1 => ?_
 refine tf (b := gb2 l) (fun h2 => by rw [h1, h2]; rfl) fun h2 => ?_
 rw [h1, h2]
 show (cP _ _ l && cH _ l && cPa _ l) = (!gb3 l && bif gb4 kind then _ else _)
 clear h1 h2
 refine tf (b := gb3 l) (fun h3 => ?_) fun h3 => ?_
 ·have : cP (kind == 2) (kind == 1) l = false := Bool.eq_false_iff.mpr fun hc => by
   have hc := cP_iff.mp hc
   rw [(gb3_iff l).mpr ⟨hc.1, hc.2.2.1⟩] at h3; cases h3
  rw [this, h3]; rfl
 rw [h3]
 refine E02 ((gb3_iff l).mp h3) fun p1 p3 => ?_
 clear h3
 show _ = (bif gb4 kind then _ else _)
 refine tf (b := gb4 kind) (fun h4 => ?_) fun h4 => ?_
 ·have hb : ((kind == 1) || (kind == 2)) = true := (Bool.or_eq_true _ _).mpr (by unfold gb4 at h4; simpa using h4)
  rw [hb, h4]
  show (cP _ _ l && true && true) = gr4 l kind
  rw [Bool.and_true, Bool.and_true]
  unfold gr4
  rw [Bool.eq_iff_iff, cP_iff, decide_eq_true_eq]
  by_cases hk : kind = 1
  ·subst hk
   refine Iff.trans ?_ (okP_resp (m := lastFrom nMethod none l) p3)
   exact ⟨fun z => ⟨z.2.1, z.2.2.2⟩, fun z => ⟨p1, z.1, p3, z.2⟩⟩
  ·have hk2 : kind = 2 := by
    rw [beq_eq_false_iff_ne.mpr hk, Bool.false_or] at hb
    exact eq_of_beq hb
   subst hk2
   refine Iff.trans ?_ (okP_trail (m := lastFrom nMethod none l))
   exact ⟨fun z => ⟨z.2.1, z.2.2.2⟩, fun z => ⟨p1, z.1, p3, z.2⟩⟩
 rw [h4]
 unfold gb4 at h4
 rw [Bool.or_eq_false_iff, Bool.or_eq_false_iff] at h4
 rw [h4.1, h4.2.1]
 clear h4
 show (cP false false l && cH false l && cPa false l) = (!gb10 l && (!gb11 l && bif gb13 l then _ else _))
 refine tf (b := gb10 l) (fun h10 => ?_) fun h10 => ?_
 ·have : cP false false l = false := Bool.eq_false_iff.mpr fun hc => by
   have hc := cP_iff.mp hc
   rw [(gb10_iff p3).mpr ⟨hc.2.1, hc.2.2.2⟩] at h10; cases h10
  rw [this, h10]; rfl
 have a := (gb10_iff p3).mp h10
 rw [show cP false false l = true from cP_iff.mpr ⟨p1, a.1, p3, a.2⟩, show cPa false l = !gb11 l from path_eq p3, h10, Bool.true_and, Bool.and_comm]
 clear h10 a
 show _ = (!gb11 l && bif gb13 l then _ else _)
 congr 1
 have ea : (valueB (valsOf l) nAuth) = lastFrom nAuth none l := vals_last l nAuth
 refine tf (b := gb13 l) (fun h13 => ?_) fun h13 => ?_
 ·refine E11 (Option.isSome_iff_exists.mp (show (lastFrom nAuth none l).isSome = true from ea ▸ h13)) fun a hla => ?_
  rw [h13]
  show _ = gr13 l
  unfold gr13
  rw [Bool.eq_iff_iff, cH_eq, ea, hla]
  exact (end_A (hostsOf l)).symm
 ·have hs : lastFrom nAuth none l = none := by simpa using (show (lastFrom nAuth none l).isSome = false from ea ▸ h13)
  rw [h13]
  show _ = gr15 l
  unfold gr15
  rw [Bool.eq_iff_iff, cH_eq, hs]
  exact (end_N (hostsOf l)).symm
theorem drop_head {p : UInt8 -> Bool} {x : UInt8} {r : List UInt8} : ∀ l : List UInt8, l.dropWhile p = x :: r -> p x = false
 | [], h => by cases h
 | y :: l, h => by
  cases hy : p y with
  | true => rw [List.dropWhile_cons_of_pos hy] at h; exact drop_head l h
  | false =>
   rw [List.dropWhile_cons_of_neg (by rw [hy]; simp)] at h
   cases h; exact hy
theorem bare_last {t r : List UInt8} {x : UInt8} (h : bareL t = r ++ [x]) : wsp x = false := by
 unfold bareL at h
 have h' := congrArg List.reverse h
 rw [List.reverse_reverse, List.reverse_append] at h'
 exact drop_head _ h'
theorem bare_head {t r : List UInt8} {x : UInt8} (h : bareL t = x :: r) : wsp x = false := by
 unfold bareL at h
 have hs : (t.dropWhile wsp).reverse.dropWhile wsp <:+ (t.dropWhile wsp).reverse := List.dropWhile_suffix _
 refine E11 hs ?_; clear hs; intro u hu
 have h' := congrArg List.reverse hu
 rw [List.reverse_append, List.reverse_reverse, h] at h'
 exact drop_head t (x := x) (r := r ++ u.reverse) (by rw [<- h']; rfl)
theorem joinC_cons (c : List UInt8) (r : List (List UInt8)) : joinC (c :: r) = c ++ r.flatMap fun p => [59, 32] ++ p := by
 have gen : ∀ (l : List (List UInt8)) (k : Nat) (out : Array UInt8), (((l.map fun b => (⟨b⟩ : Array UInt8)).zipIdx (k + 1)).foldl (fun out (p : Array UInt8 × Nat) => (if p.2 > 0 then out ++ (⟨bSep⟩ : Array UInt8) else out) ++ p.1) out).toList = out.toList ++ l.flatMap fun p => [59, 32] ++ p := by
  intro l
  induction l with
  | nil => intro k out; simp
  | cons p l ih =>
   intro k out
   rw [List.map_cons, List.zipIdx_cons, List.foldl_cons, ih]
   simp [bSep]
 unfold joinC PySem.Builtin.Bytes.joined
 rw [List.map_cons, List.zipIdx_cons, List.foldl_cons]
 have := gen r 0 (#[] ++ ⟨c⟩)
 simpa using this
theorem okN_eq (c : UInt8) : okN8 c = !nBad c := by
 have := all8 (p := fun c => okN8 c == !nBad c) (by decide +kernel) c
 exact eq_of_beq this
theorem okV_eq (c : UInt8) : okV8 c = !vBad c := by
 have := all8 (p := fun c => okV8 c == !vBad c) (by decide +kernel) c
 exact eq_of_beq this
theorem legal_f {f : Fld} (h : badL f = false) : f.n.all okN8 = true /\ f.v.all okV8 = true := by
 unfold badL at h
 simp only [Bool.or_false, Bool.or_eq_false_iff, Bool.not_eq_false', decide_eq_true_eq, List.map_eq_nil_iff, List.filter_eq_nil_iff] at h
 refine ⟨List.all_eq_true.mpr fun c hc => ?_, List.all_eq_true.mpr fun c hc => ?_⟩
 ·rw [okN_eq]; have := h.1 c hc; simpa using this
 ·rw [okV_eq]; have := h.2 c hc; simpa using this
noncomputable def edgeOk (v : List UInt8) : Prop := (∀ x r, v = x :: r -> wsp x = false) /\ ∀ r x, v = r ++ [x] -> wsp x = false
theorem wsp_ne {x : UInt8} (h : wsp x = false) : ((x.toNat : Int) == 32) = false /\ ((x.toNat : Int) == 9) = false := by
 unfold wsp at h
 constructor
 ·rw [beq_eq_false_iff_ne]
  intro z; rw [z] at h; cases h
 ·rw [beq_eq_false_iff_ne]
  intro z; rw [z] at h; cases h
theorem sur_ok {v : List UInt8} (hne : v ≠ []) (h : edgeOk v) : sur8 v = false := by
 refine E02 h ?_; clear h; intro h1 h2
 have a1 : ∃ x r, v = x :: r := List.exists_cons_of_ne_nil hne
 refine E21 a1 ?_; clear a1; intro x r hx
 obtain ⟨r', y, hy⟩ : ∃ r y, v = r ++ [y] := (nil_or_snoc v).resolve_left hne
 have e0 : at8 v 0 = (x.toNat : Int) := by rw [hx]; rfl
 have e1 : at8 v (v.length - 1) = (y.toNat : Int) := by
  rw [hy]
  unfold at8
  have : (r' ++ [y]).length - 1 = r'.length := by simp
  rw [this]; simp
 unfold sur8
 rw [e0, e1]
 refine E02 (wsp_ne (h1 x r hx)) fun p1 p2 => ?_
 refine E02 (wsp_ne (h2 r' y hy)) fun p3 p4 => ?_
 rw [p1, p2, p3, p4]; rfl
theorem ill_ok {f : Fld} (h1 : f.n.all okN8 = true) (h2 : colon f.n = false) (h3 : f.v.all okV8 = true) (h4 : edgeOk f.v) : badIll f = false := by
 unfold badIll
 rw [h1, h2, h3]
 cases hv : f.v with
 | nil => rfl
 | cons x r =>
  have := sur_ok (v := f.v) (by rw [hv]; simp) h4
  rw [hv] at this
  rw [this]; rfl
theorem bare_edge (t : List UInt8) : edgeOk (bareL t) := ⟨fun _ _ h => bare_head h, fun _ _ h => bare_last h⟩
theorem snoc_inj {α : Type} {a b : List α} {x y : α} (h : a ++ [x] = b ++ [y]) : x = y := by
 have := congrArg List.getLast? h
 simpa using this
theorem join_edge {cs : List (List UInt8)} (hne : cs ≠ []) (hc : ∀ c ∈ cs, edgeOk c) (hl : ¬ (cs.length > 1 /\ lastE cs = true)) : edgeOk (joinC cs) := by
 cases cs with
 | nil => exact absurd rfl hne
 | cons c r =>
  rw [joinC_cons]
  refine ⟨fun x t h => ?_, fun t x h => ?_⟩
  ·cases c with
   | cons y c =>
    simp only [List.cons_append, List.cons.injEq] at h
    rw [<- h.1]; exact (hc (y :: c) (List.mem_cons_self ..)).1 y c rfl
   | nil =>
    cases r with
    | nil => cases h
    | cons p r =>
     simp only [List.flatMap_cons, List.nil_append, List.cons_append, List.cons.injEq] at h
     rw [<- h.1]; decide
  ·cases r with
   | nil =>
    simp only [List.flatMap_nil, List.append_nil] at h
    exact (hc c (List.mem_cons_self ..)).2 t x h
   | cons p r =>
    obtain ⟨r', q, hq⟩ : ∃ r' q, p :: r = r' ++ [q] := ⟨(p :: r).dropLast, (p :: r).getLast (by simp), (List.dropLast_concat_getLast _).symm⟩
    have hqm : q ∈ p :: r := by rw [hq]; simp
    have hqne : q ≠ [] := fun z => by
     refine hl ⟨by simp, ?_⟩
     unfold lastE
     have : c :: p :: r = (c :: r') ++ [q] := by rw [hq]; rfl
     rw [this, List.getLastD_concat, z]; rfl
    obtain ⟨q', y, hy⟩ : ∃ q' y, q = q' ++ [y] := (nil_or_snoc q).resolve_left hqne
    rw [hq, List.flatMap_append] at h
    simp only [List.flatMap_cons, List.flatMap_nil, List.append_nil] at h
    rw [hy] at h
    have h2 : (c ++ (List.flatMap (fun p => [59, 32] ++ p) r' ++ ([59, 32] ++ q'))) ++ [y] = t ++ [x] := by rw [<- h]; simp
    rw [<- snoc_inj h2]
    exact (hc q (mC _ hqm)).2 q' y hy
theorem join_all {p : UInt8 -> Bool} {cs : List (List UInt8)} (h1 : p 59 = true) (h2 : p 32 = true) (hc : ∀ c ∈ cs, c.all p = true) : (joinC cs).all p = true := by
 cases cs with
 | nil => rfl
 | cons c r =>
  rw [joinC_cons, List.all_append, hc c (List.mem_cons_self ..), Bool.true_and, List.all_flatMap]
  refine List.all_eq_true.mpr fun d hd => ?_
  rw [List.all_append]
  simp [h1, h2, hc d (mC _ hd)]
section
set_option tactic.hygienic true
noncomputable def nC (l : List Fld) : List Fld := l.filter fun f => f.n != nCookie
theorem nC_cons {f : Fld} {l : List Fld} : nC (f :: l) = if f.n = nCookie then nC l else f :: nC l := by
 unfold nC
 by_cases h : f.n = nCookie
 ·rw [if_pos h, List.filter_cons_of_neg (by simp [h])]
 ·rw [if_neg h, List.filter_cons_of_pos (by simp [h])]
theorem nC_front : ∀ l : List Fld, frontOf (nC l) = frontOf l
 | [] => rfl
 | f :: l => by
  rw [nC_cons, front_cons]
  by_cases h : f.n = nCookie
  ·rw [if_pos h, h, isP_cookie, nC_front l]; rfl
  ·rw [if_neg h, front_cons, nC_front l]
theorem nC_last {k : List UInt8} (hk : k ≠ nCookie) : ∀ (l : List Fld) (a : Option (List UInt8)), lastFrom k a (nC l) = lastFrom k a l
 | [], a => rfl
 | f :: l, a => by
  rw [nC_cons, lastFrom_cons]
  by_cases h : f.n = nCookie
  ·rw [if_pos h, if_neg fun z => hk (z.symm.trans h), nC_last hk l]
  ·rw [if_neg h, lastFrom_cons, nC_last hk l]
theorem nC_hosts : ∀ l : List Fld, hostsOf (nC l) = hostsOf l
 | [] => rfl
 | f :: l => by
  rw [nC_cons, hosts_cons]
  by_cases h : f.n = nCookie
  ·rw [if_pos h, h, nC_hosts l]; rfl
  ·rw [if_neg h, hosts_cons, nC_hosts l]
theorem nC_PFr : ∀ (l : List Fld) (reg reg' : Bool), PFr reg l = true -> (reg' = true -> reg = true) -> PFr reg' (nC l) = true
 | [], _, _, _, _ => rfl
 | f :: l, reg, reg', h, hr => by
  rw [nC_cons]
  unfold PFr at h
  by_cases hc : f.n = nCookie
  ·rw [if_pos hc]
   rw [hc, isP_cookie] at h
   exact nC_PFr l true reg' h fun _ => rfl
  ·rw [if_neg hc]
   unfold PFr
   cases hp : isP f.n with
   | true =>
    rw [hp] at h
    simp only [if_true, Bool.and_eq_true, Bool.not_eq_true'] at h ⊢
    have : reg' = false := by
     cases hreg : reg' with
     | false => rfl
     | true => rw [hr hreg] at h; cases h.1
    exact ⟨this, nC_PFr l reg reg' h.2 hr⟩
   | false =>
    rw [hp] at h
    simp only [Bool.false_eq_true, if_false] at h ⊢
    exact nC_PFr l true true h id
section
variable {c : Fld} (hc : c.n = nCookie)
include hc
theorem ap_front (l : List Fld) : frontOf (l ++ [c]) = frontOf l := by
 unfold frontOf namesOf
 rw [List.map_append, List.filter_append]
 simp [hc, isP_cookie]
theorem ap_last {k : List UInt8} (hk : k ≠ nCookie) (l : List Fld) (a : Option (List UInt8)) : lastFrom k a (l ++ [c]) = lastFrom k a l := by
 unfold lastFrom
 rw [List.foldl_append]
 simp only [List.foldl_cons, List.foldl_nil]
 rw [if_neg fun z => hk (z.symm.trans hc)]
theorem ap_hosts (l : List Fld) : hostsOf (l ++ [c]) = hostsOf l := by
 unfold hostsOf
 rw [List.filter_append]
 have : ([c].filter fun f => f.n == nHost) = [] := by
  rw [List.filter_cons_of_neg]
  ·rfl
  ·rw [hc]; decide
 rw [this, List.append_nil]
theorem ap_PFr : ∀ (l : List Fld) (reg : Bool), PFr reg (l ++ [c]) = PFr reg l
 | [], reg => by
  show PFr reg [c] = true
  unfold PFr
  rw [hc, isP_cookie]; rfl
 | f :: l, reg => by
  rw [List.cons_append]
  unfold PFr
  rw [ap_PFr l reg, ap_PFr l true]
end
structure Same (d m : List Fld) : Prop where
 fr : frontOf d = frontOf m
 la : ∀ k, k ≠ nCookie -> ∀ a, lastFrom k a d = lastFrom k a m
 ho : hostsOf d = hostsOf m
 pf : PFr false m = true -> PFr false d = true
 me : ∀ f ∈ d, f ∈ m \/ (f.n = nCookie /\ f.v = joinC (cooksOf m) /\ cooksOf m ≠ [])
theorem due_same (m : List Fld) : Same (dueL m) m := by
 unfold dueL
 split
 ·exact ⟨nC_front m, fun k hk a => nC_last hk m a, nC_hosts m, fun h => nC_PFr m false false h id, fun f hf => .inl (List.mem_filter.mp hf).1⟩
 ·rename_i hne
  have hc : (⟨nCookie, joinC (cooksOf m), some true⟩ : Fld).n = nCookie := rfl
  refine ⟨(ap_front hc _).trans (nC_front m), fun k hk a => (ap_last hc hk _ a).trans (nC_last hk m a), (ap_hosts hc _).trans (nC_hosts m), fun h => (ap_PFr hc _ false).trans (nC_PFr m false false h id), fun f hf => ?_⟩
  rcases List.mem_append.mp hf with hf | hf
  ·exact .inl (List.mem_filter.mp hf).1
  ·rw [List.mem_singleton.mp hf]; exact .inr ⟨rfl, rfl, hne⟩
theorem same_P {d m : List Fld} (s : Same d m) {tr rs : Bool} (h : cP tr rs m = true) : cP tr rs d = true := by
 refine E04 (cP_iff.mp h) fun h1 h2 h3 h4 => ?_
 refine cP_iff.mpr ⟨s.pf h1, ?_, ?_, ?_⟩
 ·rw [s.fr]; exact h2
 ·rw [s.fr]; exact h3
 ·rw [s.fr, s.la _ (by decide)]; exact h4
theorem same_H {d m : List Fld} (s : Same d m) {b : Bool} (h : cH b m = true) : cH b d = true := by
 cases b with
 | true => rfl
 | false =>
  rw [cH_eq] at h ⊢
  rw [s.ho, s.la _ (by decide)]
  exact h
theorem mem_check {bad : Fld -> Bool} {d m : List Fld} (s : Same d m) (hc : ∀ f : Fld, f.n = nCookie -> bad f = false) (h : (m.all fun f => !bad f) = true) : (d.all fun f => !bad f) = true := by
 rw [List.all_eq_true] at h ⊢
 intro f hf
 rcases s.me f hf with hm | ⟨hn, _⟩
 ·exact h f hm
 ·rw [hc f hn]; rfl
theorem in_ok {sp : Bool} {b : List Fld} {tr rs : Bool} (hb : BOk 4 b) (ho : cOut tr rs (madeL sp b) = true) (hl : legalL (madeL sp b) = true) (hk : ¬ ((cooksOf (madeL sp b)).length > 1 /\ lastE (cooksOf (madeL sp b)) = true)) : cIn tr rs (dueL (madeL sp b)) = true := by
 have s := due_same (madeL sp b)
 have G := good_due (sp := sp) hb
 generalize hm : madeL sp b = m at ho hl hk s G ⊢
 have hmem : ∀ f ∈ m, f.n.all okN8 = true /\ colon f.n = false /\ f.v.all okV8 = true /\ edgeOk f.v := fun f hf => by
  have hleg := List.all_eq_true.mp hl f hf
  have hbad : badL f = false := by simpa using hleg
  refine E02 (legal_f hbad) fun h1 h3 => ?_
  obtain ⟨g, hg, hn, p, hv⟩ := made_name (show f ∈ madeL sp b by rw [hm]; exact hf)
  refine E05 (nOk_of (hb.nm g hg)) fun _ _ _ _ h5 => ?_
  refine ⟨h1, by rw [hn]; exact h5, h3, ?_⟩
  rw [hv]; exact bare_edge p
 have hck : ∀ c ∈ cooksOf m, c.all okV8 = true /\ edgeOk c := fun c hc => by
  refine E12 (List.mem_map.mp hc) ?_; rintro f hf rfl
  refine E04 (hmem f (List.mem_filter.mp hf).1) fun _ _ h3 h4 => ?_
  exact ⟨h3, h4⟩
 unfold cOut at ho
 simp only [Bool.and_eq_true] at ho
 refine E02 ho ?_; clear ho; rintro ⟨⟨⟨o1, o2⟩, o3⟩, o4⟩ o5
 unfold cIn
 simp only [Bool.and_eq_true]
 refine ⟨⟨⟨⟨⟨⟨?_, ?_⟩, ?_⟩, ?_⟩, same_P s o3⟩, same_H s o4⟩, ?_⟩
 ·refine List.all_eq_true.mpr fun f hf => ?_
  have : badIll f = false := by
   rcases s.me f hf with hf | ⟨hn, hv, hne⟩
   ·refine E04 (hmem f hf) fun h1 h2 h3 h4 => ?_
    exact ill_ok h1 h2 h3 h4
   ·refine ill_ok (by rw [hn]; decide +kernel) (by rw [hn]; decide +kernel) ?_ ?_
    ·rw [hv]; exact join_all (by decide) (by decide) fun c hc => (hck c hc).1
    ·rw [hv]; exact join_edge hne (fun c hc => (hck c hc).2) hk
  rw [this]; rfl
 ·refine List.all_eq_true.mpr fun f hf => ?_
  have hne := (G.1 f hf).2
  have : badEmp f = false := by
   unfold badEmp
   rw [beq_eq_false_iff_ne]
   have := List.length_pos_iff.mpr hne
   lia
  rw [this]; rfl
 ·exact mem_check s (fun f hn => by unfold badTe; rw [hn]; rfl) o1
 ·exact mem_check s (fun f hn => by unfold badHop; rw [hn]; decide) o2
 ·unfold cPa at o5 ⊢
  cases hb' : (rs || tr) with
  | true => rfl
  | false =>
   rw [hb', Bool.false_or] at o5
   rw [Bool.false_or]
   exact mem_check s (fun f hn => by unfold badPath; rw [hn]; rfl) o5
theorem all_facts : AllFacts := fun k hk sp ds hd => by
 have hb := block_ok hk hd
 have hG := good_of hb
 have hO : ∀ (l : List Fld) (g : Bool), goodL l (k : Int) = some g -> errO (vOut ((k : Int) == 2) ((k : Int) == 1) l) = if g then some l else none := fun l g h => by
  rw [err_out, good_out h]
 refine {
  g := hG
  s := fun f hf => ?_
  c := fun _ => smallC_of hb
  f64 := ?_
  made := nOut_made hb.nm
  gm := good_made hb
  fm64 := ?_
  out := hO _
  outm := hO _
  gk := ?_
  inn := fun h1 h2 h3 => ?_ }
 ·refine E02 (nOk_of (hb.nm f hf)) fun h1 _ => ?_
  have := hb.vl f hf
  exact ⟨by lia, by lia⟩
 ·have h1 : (frontOf (blockAt k ds)).length <= (namesOf (blockAt k ds)).length := List.length_filter_le ..
  have h2 : (namesOf (blockAt k ds)).length = (blockAt k ds).length := List.length_map ..
  have := hb.ln
  lia
 ·have h1 := front_made (sp := sp) (blockAt k ds)
  have := hb.ln
  lia
 ·rw [cmb_due]; exact good_due hb
 ·rw [cmb_due, err_in, in_ok hb (good_out h1) h2 h3]; rfl
end
section
set_option tactic.hygienic true
noncomputable def theC (prog : Program) (w : World) (h : Heap) (mg mb : Str -> Option Value) : Cx :=
 ⟨prog, w, h, [(267, 263), (260, 256), (295, 291)], mg, mb, dPos innerSt, ofString "_check_path_header" ++ ".<locals>." ++ "inner"⟩
noncomputable def mgIn (K : Frag) (x : Str) (a : Addr) : Bool := match nsIn K mainGlobals x with
 | some (some (.ref b)) => b == a
 | _ => false
theorem mgIn_of {K : Frag} {h : Heap} {mg : Str -> Option Value} {x : Str} {a : Addr} (X : K.In h) (G : h.Ns mainGlobals mg) (e : mgIn K x a = true) : mg x = some (.ref a) := by
 unfold mgIn at e
 split at e
 ·rename_i b hb
  have := mg_of X G hb
  rw [this, eq_of_beq e]
 ·cases e
noncomputable def tabAt (K : Frag) (x : Str) (c : Addr) : Bool := match tabIn K x with
 | some (c', _) => c' == c
 | none => false
noncomputable def fnChk (K : Frag) : Bool := fnTab.all fun p => mgIn K (dName (stA p.2)) p.1 && tabAt K (dName (stA p.2)) (p.1 - 1)
noncomputable def recAt (i : Nat) : DefRec := ⟨dName (stA i), dArgs (stA i), dBody (stA i), dScope (stA i), dPos (stA i)⟩
theorem notT {prog : Program} {w : World} {h : Heap} {mg mb : Str -> Option Value} {a : Addr} (e : ([263, 256, 291] : List Addr).contains a = false) : a ∉ (theC prog w h mg mb).T := fun z => by
 have : a ∈ ([263, 256, 291] : List Addr) := z
 rw [List.contains_iff_mem.mpr this] at e; cases e
theorem fnT : fnTab.all (fun p => !([263, 256, 291] : List Addr).contains p.1 && !([263, 256, 291] : List Addr).contains (p.1 - 1)) = true := by decide
theorem fnS : fnTab.all (fun p => !(dScope (stA p.2)).isCoroutine && decide ((dScope (stA p.2)).kind = .function)) = true := by decide +kernel
theorem fn_of {K : Frag} {p : Program} {loose : List Str} {mean : ExcName -> Option Value} {prog : Program} {w : World} {mg mb : Str -> Option Value} {h : Heap} (X : K.In h) (T : Top p loose mean mg mb h) (ck : fnChk K = true) (hr : ∀ q ∈ fnTab, recAt q.2 ∈ recsOf p) :
  ∀ q ∈ fnTab, ∃ fd, FnD (theC prog w h mg mb) q.1 (stA q.2) fd /\ (theC prog w h mg mb).mg (dName (stA q.2)) = some (.ref q.1) /\ fd.qualname = dName (stA q.2) /\ fd.code = .ref (q.1 - 1) := fun q hq => by
 have c1 := List.all_eq_true.mp ck q hq
 have c2 := List.all_eq_true.mp fnT q hq
 have c3 := List.all_eq_true.mp fnS q hq
 simp only [Bool.and_eq_true, Bool.not_eq_true', decide_eq_true_eq] at c1 c2 c3
 have hm := mgIn_of X T.g c1.1
 obtain ⟨a, o, pm, code, doc, hm', ho, hd, hcr⟩ := T.fn _ (hr q hq)
 have ea : a = q.1 := by
  have : mg (dName (stA q.2)) = some (.ref a) := hm'
  rw [hm] at this
  injection this with this; injection this with this; exact this.symm
 subst ea
 obtain ⟨P, htab⟩ : ∃ P, tabIn K (dName (stA q.2)) = some (q.1 - 1, P) := by
  have := c1.2
  unfold tabAt at this
  split at this
  ·rename_i c' P hb
   exact ⟨P, by rw [hb, eq_of_beq this]⟩
  ·cases this
 have hcode : code = .ref (q.1 - 1) := law_code X T.g htab hm ho hd
 refine E44 hcr ?_; clear hcr; intro c oc vs t e1 e2 e3 e4
 have ec : c = q.1 - 1 := by rw [hcode] at e1; injection e1 with e1; exact e1.symm
 refine ⟨docDef (dName (stA q.2)) (dArgs (stA q.2)) (dBody (stA q.2)) (dScope (stA q.2)) pm code doc, ?_, hm, rfl, hcode⟩
 refine ⟨⟨⟨o, ho, hd⟩, notT c2.1, ⟨c, oc, vs, t, e1, notT (by rw [ec]; exact c2.2), e2, e3, e4⟩, rfl, c3.1, c3.2, rfl, rfl⟩, rfl, rfl, rfl, rfl⟩
end
section
set_option tactic.hygienic true
noncomputable def seqK (K : Frag) (c : String) : Value -> Option (List Value)
 | .ref a => (K.lookup a).bind fun o => if o.cls == .type c then (match o.data with | .seq vs _ => some vs.toList | _ => none) else none
 | _ => none
noncomputable def byK' (b : List UInt8) : Value -> Bool
 | .bytes c _ => b == c.toList
 | _ => false
noncomputable def boK (b : Bool) : Value -> Bool
 | .bool c => b == c
 | _ => false
theorem seqK_of {K : Frag} {h : Heap} (X : K.In h) {c : String} {v : Value} {l : List Value} (e : seqK K c v = some l) : ∃ a, v = .ref a /\ ∃ o, h.get? a = some o /\ o.cls = .type c /\ ∃ n, o.data = .seq ⟨l⟩ n := by
 cases v <;> try cases e
 rename_i a
 unfold seqK at e
 refine E12 (Option.bind_eq_some_iff.mp e) fun o ho e => ?_
 by_cases hc : (o.cls == .type c) = true
 ·rw [if_pos hc] at e
  cases hd : o.data <;> rw [hd] at e <;> cases e
  exact ⟨a, rfl, o, X a _ ho, eq_of_beq hc, _, hd⟩
 ·rw [if_neg hc] at e; cases e
mutual
noncomputable def repK (K : Frag) : AV -> Value -> Bool
 | .bytes b, v => byK' b v
 | .bool b, v => boK b v
 | .tup xs, v => ((seqK K "tuple" v).map (repKL K xs)).getD false
 | .lst xs, v => ((seqK K "list" v).map (repKL K xs)).getD false
 | _, _ => false
noncomputable def repKL (K : Frag) : List AV -> List Value -> Bool
 | [], vs => vs.isEmpty
 | x :: xs, vs => (vs.head?.map (repK K x)).getD false && repKL K xs vs.tail
end
theorem byK_of {q : Addr -> Nat} {h : Heap} {b : List UInt8} : ∀ v, byK' b v = true -> Rep q h (.bytes b) v := fun v e => by
 cases v <;> try cases e
 rw [Rep, eq_of_beq e]
 exact ⟨_, rfl⟩
theorem boK_of {q : Addr -> Nat} {h : Heap} {b : Bool} : ∀ v, boK b v = true -> Rep q h (.bool b) v := fun v e => by
 cases v <;> try cases e
 rw [Rep, eq_of_beq e]
theorem getD_of {α : Type} {o : Option α} {f : α -> Bool} (e : (o.map f).getD false = true) : ∃ a, o = some a /\ f a = true := by
 cases o with
 | none => cases e
 | some a => exact ⟨a, rfl, e⟩
mutual
theorem repK_of {K : Frag} {h : Heap} (X : K.In h) : ∀ (x : AV) (v : Value), repK K x v = true -> Rep (fun _ => 0) h x v
 | .bytes b, v, e => byK_of v e
 | .bool b, v, e => boK_of v e
 | .tup xs, v, e => by
  refine E12 (getD_of (o := seqK K "tuple" v) (f := repKL K xs) e) fun l hl e1 => ?_
  refine E12 (seqK_of X hl) ?_; rintro a rfl z
  rw [Rep]
  exact ⟨a, l, rfl, z, repKL_of X xs _ e1⟩
 | .lst xs, v, e => by
  refine E12 (getD_of (o := seqK K "list" v) (f := repKL K xs) e) fun l hl e1 => ?_
  refine E12 (seqK_of X hl) ?_; rintro a rfl z
  rw [Rep]
  exact ⟨a, l, rfl, rfl, z, repKL_of X xs _ e1⟩
 | .none, _, e => nomatch e
 | .int _, _, e => nomatch e
 | .str, _, e => nomatch e
 | .flags _ _ _ _, _, e => nomatch e
 | .raw _, _, e => nomatch e
 | .own _, _, e => nomatch e
 | .set _, _, e => nomatch e
 | .vset _, _, e => nomatch e
 | .dict _, _, e => nomatch e
theorem repKL_of {K : Frag} {h : Heap} (X : K.In h) : ∀ (xs : List AV) (vs : List Value), repKL K xs vs = true -> RepL (fun _ => 0) h xs vs
 | [], vs, e => by
  cases vs with
  | nil => rw [RepL]; trivial
  | cons => cases e
 | x :: xs, vs, e => by
  cases vs with
  | nil => cases e
  | cons v vs =>
   have e := Bool.and_eq_true_iff.mp e
   rw [RepL]
   exact ⟨repK_of X x v e.1, repKL_of X xs vs e.2⟩
end
noncomputable def cstIn (K : Frag) (x : Str) (a : Addr) (l : List (List UInt8)) : Bool := mgIn K x a && repK K (.tup (l.map .bytes)) (.ref a)
theorem cst_of {K : Frag} {prog : Program} {w : World} {h : Heap} {mg mb : Str -> Option Value} {x : Str} {a : Addr} {l : List (List UInt8)} (X : K.In h) (G : h.Ns mainGlobals mg) (hT : ([263, 256, 291] : List Addr).contains a = false) (e : cstIn K x a l = true) : Cst (theC prog w h mg mb) x a l := by
 unfold cstIn at e
 rw [Bool.and_eq_true] at e
 refine ⟨mgIn_of X G e.1, notT hT, ?_⟩
 have r := repK_of X _ _ e.2
 rw [Rep] at r
 refine E23 r ?_; clear r; intro a' vs ha ht rl
 cases ha
 exact ⟨vs, ht, rl⟩
noncomputable def blkIn (K : Frag) (x : Str) (av : AV) : Bool := match nsIn K mainGlobals x with
 | some (some v) => repK K av v
 | _ => false
theorem blk_of {K : Frag} {h : Heap} {mg : Str -> Option Value} {x : Str} {av : AV} (X : K.In h) (G : h.Ns mainGlobals mg) (e : blkIn K x av = true) : ∃ v, mg x = some v /\ Rep (fun _ => 0) h av v := by
 unfold blkIn at e
 split at e
 ·rename_i v hv
  exact ⟨v, mg_of X G hv, repK_of X _ _ e⟩
 ·cases e
noncomputable def sigIn (K : Frag) : Bool := match nsIn K mainGlobals (ofString "SIGIL") with
 | some (some (.int i _)) => i == 58
 | _ => false
theorem sig_of {K : Frag} {h : Heap} {mg : Str -> Option Value} (X : K.In h) (G : h.Ns mainGlobals mg) (e : sigIn K = true) : ∃ t, mg (ofString "SIGIL") = some (.int 58 t) := by
 unfold sigIn at e
 split at e
 ·rename_i i t hv
  exact ⟨t, by rw [mg_of X G hv, eq_of_beq e]⟩
 ·cases e
noncomputable def oneIn (K : Frag) (a : Addr) (v : Value) : Bool := match K.lookup a with
 | some ⟨_, _, .seq vs _, _⟩ => (match vs.toList with | [u] => u == v | _ => false)
 | _ => false
theorem one_of {K : Frag} {h : Heap} {a : Addr} {v : Value} (X : K.In h) (e : oneIn K a v = true) : ∃ o n, h.get? a = some o /\ o.data = .seq #[v] n := by
 unfold oneIn at e
 split at e
 ·rename_i cl d vs n sl hk
  split at e
  ·rename_i u hu
   refine ⟨_, n, X a _ hk, ?_⟩
   have : vs = #[u] := by apply Array.ext'; rw [hu]
   rw [this, eq_of_beq e]
  ·cases e
 ·cases e
end
section
set_option tactic.hygienic true
noncomputable def tabEq (K : Frag) (x : Str) (c P : Addr) : Bool := tabIn K x == some (c, P)
theorem tab_of {K : Frag} {p : Program} {loose : List Str} {mean : ExcName -> Option Value} {mg mb : Str -> Option Value} {h : Heap} (X : K.In h) (T : Top p loose mean mg mb h) {i : Nat} {c P : Addr} (e : tabEq K (dName (stA i)) c P = true) (hr : (recsOf p).find? (fun d => d.name == dName (stA i)) = some (recAt i)) : h.IsCode c P #[] /\ h.TableAt c P #[] := by
 obtain ⟨⟨o, vs, file, tf, flags, tg, inF, text, tt, h1, h2, h3, h4, h5, h6, h7, h8, h9, h10⟩, hP⟩ := PySem.W.tab_of T X hr (eq_of_beq e)
 exact ⟨⟨o, vs, file, tf, flags, tg, inF, text, tt, _, h1, h3, h5, h6, h7, h8, h9, hP, rfl, trivial, h10⟩, ⟨o, vs, h1, h2, h3, h4⟩, hP⟩
noncomputable def clsNs (K : Frag) (a n : Addr) : Bool := match K.lookup a with
 | some ⟨_, _, .cls cd, _⟩ => cd.ns == n
 | _ => false
noncomputable def noInit (K : Frag) (a : Addr) : Bool := nsOkIn K a && (nsIn K a "__init__" == some none)
theorem noInit_of {K : Frag} {h : Heap} {a : Addr} (X : K.In h) (e : noInit K a = true) : ∃ m, h.Ns a m /\ m "__init__" = none := by
 unfold noInit at e
 rw [Bool.and_eq_true] at e
 have N : h.Ns a (h.nsMap a) := .of_isNs (isNs_of_in X e.1)
 exact ⟨_, N, ns_none_of X N (by simpa using e.2)⟩
structure Chk0 (K : Frag) : Prop where
 t1 : tabEq K (dName (stA 27)) 267 263 = true
 t2 : tabEq K (dName (stA 26)) 260 256 = true
 t3 : tabEq K (dName (stA 31)) 295 291 = true
 n57 : noInit K 57 = true
 n44 : noInit K 44 = true
 c45 : clsNs K 45 44 = true
 c58 : ∃ o, K.lookup 58 = some o /\ C58 o
theorem cx_ok {K : Frag} {p : Program} {loose : List Str} {mean : ExcName -> Option Value} {prog : Program} {w : World} {mg mb : Str -> Option Value} {h : Heap} (X : K.In h) (T : Top p loose mean mg mb h) (ck : Chk0 K) (hr : ∀ q ∈ fnTab, (recsOf p).find? (fun d => d.name == dName (stA q.2)) = some (recAt q.2)) : (theC prog w h mg mb).Ok := by
 have A1 := tab_of X T ck.t1 (hr (268, 27) (by decide))
 have A2 := tab_of X T ck.t2 (hr (261, 26) (by decide))
 have A3 := tab_of X T ck.t3 (hr (296, 31) (by decide))
 have hc : ∀ cv, codeAmong (theC prog w h mg mb).ip (#[] : Array Value).toList = some cv -> CodeC h cv (theC prog w h mg mb).iq := fun cv z => by
  simp [codeAmong] at z
 have one : ∀ {c P : Addr}, h.IsCode c P #[] /\ h.TableAt c P #[] -> ∃ ps, h.IsCode c P ps /\ h.get? P = some { cls := .none, data := .fields ps } /\ (∃ ps0 more, h.get? P = some { cls := .none, data := .fields ps0 } /\ ps = ps0 ++ more) /\ ∀ cv, codeAmong (theC prog w h mg mb).ip ps.toList = some cv -> CodeC h cv (theC prog w h mg mb).iq := fun A => ⟨#[], A.1, A.2.2, ⟨#[], #[], A.2.2, rfl⟩, hc⟩
 have isT : ∀ a, a ∈ (theC prog w h mg mb).T -> ∃ o, h.get? a = some o /\ o.cls = .none := fun a ha => by
  have : a ∈ ([263, 256, 291] : List Addr) := ha
  simp only [List.mem_cons, List.not_mem_nil, or_false] at this
  rcases this with rfl | rfl | rfl
  ·exact ⟨_, A1.2.2, rfl⟩
  ·exact ⟨_, A2.2.2, rfl⟩
  ·exact ⟨_, A3.2.2, rfl⟩
 exact {
  base := ⟨fun a o e _ => e, fun q hq => by
   have : q ∈ ([(267, 263), (260, 256), (295, 291)] : List (Addr × Addr)) := hq
   simp only [List.mem_cons, List.not_mem_nil, or_false] at this
   rcases this with rfl | rfl | rfl
   ·exact one A1
   ·exact one A2
   ·exact one A3⟩
  gns := T.g
  bns := T.b
  lim := T.nolimit
  t3 := notT (by decide)
  t0 := notT (by decide)
  t2 := notT (by decide)
  code := fun q hq => by
   have : q ∈ ([(267, 263), (260, 256), (295, 291)] : List (Addr × Addr)) := hq
   simp only [List.mem_cons, List.not_mem_nil, or_false] at this
   rcases this with rfl | rfl | rfl <;> exact notT (by decide)
  pe := {
   c58 := ck.c58.imp fun _ z => ⟨X _ _ z.1, z.2⟩
   n57 := noInit_of X ck.n57
   c45 := by
    have e := ck.c45
    unfold clsNs at e
    split at e
    ·rename_i c d cd sl hk
     exact ⟨c, d, cd, sl, X _ _ hk, eq_of_beq e⟩
    ·cases e
   n44 := noInit_of X ck.n44 }
  tpe := fun a ha => by
   simp only [List.mem_cons, List.not_mem_nil, or_false] at ha
   rcases ha with rfl | rfl | rfl | rfl <;> exact notT (by decide)
  bim := by
   refine E26 T.bmain fun bm ob h1 h2 h3 h4 h5 h6 => ?_
   refine ⟨bm, ob, h1, h2, fun z => ?_, h3, h4, h5, h6⟩
   refine E12 (isT bm z) fun o ho hcl => ?_
   rw [h3] at ho
   injection ho with ho
   rw [<- ho, h4] at hcl; cases hcl
  tcl := fun q hq => by
   have : q ∈ ([(267, 263), (260, 256), (295, 291)] : List (Addr × Addr)) := hq
   simp only [List.mem_cons, List.not_mem_nil, or_false] at this
   rcases this with rfl | rfl | rfl
   ·exact A1.2.1
   ·exact A2.2.1
   ·exact A3.2.1
  tne := by
   show ∀ p ∈ ([(267, 263), (260, 256), (295, 291)] : List (Addr × Addr)), ∀ p' ∈ ([(267, 263), (260, 256), (295, 291)] : List (Addr × Addr)), p'.2 = p.2 -> p' = p
   decide }
end
structure FnK (K : Frag) (a : Addr) (st : Stmt) (dv : Value) : Prop where
 ex : ∃ cl dt sl fd c oc vs t, K.lookup a = some ⟨cl, dt, .func fd, sl⟩ /\ fd.body = .stmts (dBody st) /\ fd.scope = dScope st /\ fd.closure = [] /\ fd.params = dArgs st /\ fd.defaults = dv /\ fd.globals = 3 /\ fd.builtins = 0 /\ fd.code = .ref c /\ ([263, 256, 291] : List Addr).contains c = false /\ K.lookup c = some oc /\ oc.data = .fields vs /\ vs[1]? = some (.str fd.qualname t)
 sc : (!(dScope st).isCoroutine && decide ((dScope st).kind = .function)) = true
 nt : ([263, 256, 291] : List Addr).contains a = false
theorem fnK_of {K : Frag} {prog : Program} {w : World} {mg mb : Str -> Option Value} {h : Heap} {a : Addr} {st : Stmt} {dv : Value} (X : K.In h) (F : FnK K a st dv) : ∃ fd, FnE (theC prog w h mg mb) a st fd dv := by
 obtain ⟨cl, dt, sl, fd, c, oc, vs, t, h1, h2, h3, h4, h5, h6, h7, h8, h9, h10, h11, h12, h13⟩ := F.ex
 have hs := F.sc
 simp only [Bool.and_eq_true, Bool.not_eq_true', decide_eq_true_eq] at hs
 exact ⟨fd, ⟨⟨_, X _ _ h1, rfl⟩, notT F.nt, ⟨c, oc, vs, t, h9, notT h10, X _ _ h11, h12, h13⟩, h2, by rw [h3]; exact hs.1, by rw [h3]; exact hs.2, h7, h8⟩, h3, h4, h5, h6⟩
theorem bi_boot : (biTab.all fun q => bootBuiltins q.1 == some q.2 && !(q.1 == ("__name__" : Str))) = true := by decide +kernel
structure ChkK (K : Frag) (p : Program) (P : Params) : Prop extends Chk0 K where
 fn : fnChk K = true
 rcs : ∀ q ∈ fnTab, (recsOf p).find? (fun d => d.name == dName (stA q.2)) = some (recAt q.2)
 norm1 : mgIn K (dName (stA 34)) 318 = true
 f318 : FnK K 318 (stA 34) (.ref 311)
 f82 : FnK K 82 (stIn (stA 7) 1) (.ref 75)
 f134 : FnK K 134 (stIn (stA 16) 4) .none
 d311 : oneIn K 311 (.bool false) = true
 d75 : oneIn K 75 .none = true
 kf : ∀ q ∈ HF P, K.lookup q.1 = some q.2
 bi : (biTab.all fun q => nsIn K mainGlobals q.1 == some none) = true
 pe : mgIn K (ofString "ProtocolError") peC = true
 hv : mgIn K (ofString "HeaderValidationFlags") hvf = true
 c104 : cstIn K (ofString "CONNECTION_HEADERS") 104 hopsA = true
 c105 : cstIn K (ofString "_ALLOWED_PSEUDO_HEADER_FIELDS") 105 pseuA = true
 c106 : cstIn K (ofString "_SECURE_HEADERS") 106 secs = true
 c107 : cstIn K (ofString "_REQUEST_ONLY_HEADERS") 107 reqO = true
 c108 : cstIn K (ofString "_RESPONSE_ONLY_HEADERS") 108 [nStatus] = true
 c109 : cstIn K (ofString "_CONNECT_REQUEST_ONLY_HEADERS") 109 [nProto] = true
 c371 : cstIn K (ofString "_law_hops") 371 hopsB = true
 sig : sigIn K = true
 blk : blkIn K (ofString "_law_blocks") (.lst (blks.map flds)) = true
theorem hf_map (P : Params) : (HF P).map (·.1) = [2, 99, 98, 190, 189, 179, 178, 182, 181, 191] := rfl
theorem hf_nt (P : Params) : ∀ q ∈ HF P, ([263, 256, 291] : List Addr).contains q.1 = false := fun q hq => by
 have hm : q.1 ∈ ([2, 99, 98, 190, 189, 179, 178, 182, 181, 191] : List Addr) := by rw [<- hf_map P]; exact List.mem_map.mpr ⟨q, hq, rfl⟩
 have : ∀ a ∈ ([2, 99, 98, 190, 189, 179, 178, 182, 181, 191] : List Addr), ([263, 256, 291] : List Addr).contains a = false := by decide
 exact this _ hm
theorem tp_of {K : Frag} {p : Program} {loose : List Str} {mean : ExcName -> Option Value} {prog : Program} {w : World} {mg mb : Str -> Option Value} {h : Heap} (X : K.In h) (T : Top p loose mean mg mb h) (D : TopD p mg h) (ck : ChkK K p w.params) : Tp (theC prog w h mg mb) where
 ok := cx_ok X T ck.toChk0 ck.rcs
 fn := fn_of X T ck.fn fun q hq => List.mem_of_find?_eq_some (ck.rcs q hq)
 norm := let ⟨fd, F⟩ := fnK_of X ck.f318; ⟨fd, F, mgIn_of X T.g ck.norm1⟩
 get := fnK_of X ck.f82
 new := fnK_of X ck.f134
 d311 := ⟨notT (by decide), one_of X ck.d311⟩
 d75 := ⟨notT (by decide), one_of X ck.d75⟩
 tabs := ⟨List.mem_cons_self .., mC _ (List.mem_cons_self ..), mC _ (mC _ (List.mem_cons_self ..))⟩
 ip := rfl
 iq := rfl
 kf := fun q hq => ⟨X _ _ (ck.kf q hq), notT (hf_nt _ q hq)⟩
 bi := fun q hq => by
  have e1 := List.all_eq_true.mp ck.bi q hq
  have e2 := List.all_eq_true.mp bi_boot q hq
  rw [Bool.and_eq_true, Bool.not_eq_true'] at e2
  exact ⟨mg_none_of X T.g (eq_of_beq e1), by
   show mb q.1 = _
   rw [T.builtins q.1 (by simpa using e2.2)]
   exact eq_of_beq e2.1⟩
 pe := mgIn_of X T.g ck.pe
 hv := mgIn_of X T.g ck.hv
 c104 := cst_of X T.g (by decide) ck.c104
 c105 := cst_of X T.g (by decide) ck.c105
 c106 := cst_of X T.g (by decide) ck.c106
 c107 := cst_of X T.g (by decide) ck.c107
 c108 := cst_of X T.g (by decide) ck.c108
 c109 := cst_of X T.g (by decide) ck.c109
 c371 := cst_of X T.g (by decide) ck.c371
 sig := sig_of X T.g ck.sig
 blk := blk_of X T.g ck.blk
theorem ints_rep {h : Heap} : ∀ {vs : List Value} {ns : List Int}, IntsAre vs ns -> RepL (fun _ => 0) h (ns.map .int) vs
 | _, _, .nil => by rw [List.map_nil, RepL]; trivial
 | _, _, .cons n t r => by rw [List.map_cons, RepL]; exact ⟨by rw [Rep]; exact ⟨t, rfl⟩, ints_rep r⟩
theorem old_of {C : Cx} (hC : C.Ok) {s s' : Shared} (hs : s.heap = C.h₁) (e : Ev C No No s s') : OldK s.heap s'.heap := by
 have B : Base C s'.heap := e.bs (by rw [hs]; exact hC.base)
 refine ⟨fun b o ho => ?_, fun b o ho => let ⟨o', h, _⟩ := e.al b o ho; ⟨o', h⟩⟩
 rw [hs] at ho
 by_cases ht : b ∈ C.T
 ·refine E12 (List.mem_map.mp ht) ?_; rintro p hp rfl
  refine E14 (B.tab p hp) ?_; rintro ps _ h1 ⟨ps0, more, h2, rfl⟩ _
  refine E24 (hC.tcl p hp) fun oc vs g1 g2 g3 g4 => ?_
  rw [h2] at ho
  injection ho with ho
  subst ho
  exact .inr (.inl ⟨⟨p.1, oc, vs, by rw [hs]; exact g1, g2, g3, g4⟩, rfl, ps0, more, rfl, h1⟩)
 ·exact .inl (B.old b o ho ht)
theorem call_law {K : Frag} {p : Program} {loose : List Str} {mean : ExcName -> Option Value} {prog : Program} {w : World} {mg mb : Str -> Option Value} {s : Shared} (X : K.In s.heap) (T : Top p loose mean mg mb s.heap) (D : TopD p mg s.heap) (ck : ChkK K p w.params) {fa l : Addr} {vs : List Value} {ns : List Int} (hfa : mg (dName (stA 52)) = some (.ref fa)) (hl : s.heap.IsList l vs.toArray) (hI : IntsAre vs ns) (hn : ns.length <= 63) (hg : s.gens = #[])
  {Q : VP} {E : VP} (k : ∀ s', OldK s.heap s'.heap -> s'.os = s.os -> AllBare s'.gens -> Q (.bool true) s') : wpAny (model prog w) callerA (call (.ref fa) [.ref l]) Q E s := by
 have TP := tp_of (prog := prog) X T D ck
 have hC := TP.ok
 have ea : fa = 440 := by
  refine E13 (TP.fn (440, 52) (by decide)) fun _ _ hm _ => ?_
  have hm' : mg (dName (stA 52)) = some (.ref 440) := hm
  rw [hfa] at hm'
  injection hm' with hm'
  injection hm'
 subst ea
 have F := fc_law TP all_facts hn
 refine F callerA [] (fun _ => 0) s [.ref l] ⟨⟨rfl, rfl⟩, by decide, by decide⟩ ⟨hC, hC.base, rfl, ?_, fun en hen => by cases hen⟩ ⟨hC.base, fun a h => absurd rfl h⟩ ⟨?_, trivial⟩ Q E (fun av v s' hav ev r => ?_) fun h => h.elim
 ·trivial
 ·show Rp _ _ _ (.lst _) _
  refine .of_rep ?_
  rw [Rep]
  exact ⟨l, vs, rfl, rfl, hl, ints_rep hI⟩
 ·subst hav
  obtain rfl : v = .bool true := r
  exact k s' (old_of hC rfl ev) ev.os (ev.br (by rw [hg]; exact .empty))
section
set_option tactic.hygienic true
theorem rcs_of {p : Program} (e : (fnTab.map fun q => (recsOf p).find? fun d => d.name == dName (stA q.2)) = fnTab.map fun q => some (recAt q.2)) : ∀ q ∈ fnTab, (recsOf p).find? (fun d => d.name == dName (stA q.2)) = some (recAt q.2) := fun q hq => List.map_inj_left.mp e q hq
theorem kf_of {K : Frag} {P : Params} (e : ((HF P).map fun q => K.lookup q.1) = (HF P).map fun q => some q.2) : ∀ q ∈ HF P, K.lookup q.1 = some q.2 := fun q hq => List.map_inj_left.mp e q hq
noncomputable def funK (K : Frag) (a : Addr) : Option FuncData := match K.lookup a with
 | some ⟨_, _, .func fd, _⟩ => some fd
 | _ => none
noncomputable def codeK (K : Frag) (a : Addr) : Bool := match funK K a with
 | some fd => (match fd.code with
  | .ref c => !([263, 256, 291] : List Addr).contains c && (match K.lookup c with
   | some ⟨_, _, .fields vs, _⟩ => (match (vs[1]? : Option Value) with
    | some (.str q _) => q == fd.qualname
    | _ => false)
   | _ => false)
  | _ => false)
 | none => false
theorem fnK_mk {K : Frag} {a : Addr} {st : Stmt} {dv : Value} (h1 : (funK K a).map (fun fd => (fd.body, fd.scope, fd.closure)) = some (.stmts (dBody st), dScope st, [])) (h2 : (funK K a).map (fun fd => (fd.params, fd.defaults, fd.globals, fd.builtins)) = some (dArgs st, dv, 3, 0)) (h3 : codeK K a = true)
  (sc : (!(dScope st).isCoroutine && decide ((dScope st).kind = .function)) = true) (nt : ([263, 256, 291] : List Addr).contains a = false) : FnK K a st dv := by
 refine ⟨?_, sc, nt⟩
 unfold codeK at h3
 cases hf : funK K a with
 | none => rw [hf] at h1; cases h1
 | some fd =>
  rw [hf] at h1 h2 h3
  simp only [Option.map_some, Option.some.injEq, Prod.mk.injEq] at h1 h2
  unfold funK at hf
  split at hf
  ·rename_i cl dt fd' sl hk
   injection hf with hf
   subst hf
   dsimp only at h3
   split at h3
   ·rename_i c hc
    rw [Bool.and_eq_true, Bool.not_eq_true'] at h3
    refine E02 h3 ?_; clear h3; intro h4 h5
    split at h5
    ·rename_i cl2 dt2 vs sl2 hk2
     split at h5
     ·rename_i q t hv
      exact ⟨cl, dt, sl, _, c, _, vs, t, hk, h1.1, h1.2.1, h1.2.2, h2.1, h2.2.1, h2.2.2.1, h2.2.2.2, hc, h4, hk2, rfl, by rw [hv, eq_of_beq h5]⟩
     ·cases h5
    ·cases h5
   ·cases h3
  ·cases hf
end
set_option tactic.hygienic true
namespace hd
theorem tw18085526154659333246:1=1:=rfl
theorem tw10727248033764811480:1=1:=rfl
theorem tw4560424822364553533:1=1:=rfl
theorem tw14032303710251760311:1=1:=rfl
theorem tw11260414600555708372:1=1:=rfl
theorem tw26425463804135960:1=1:=rfl
theorem tw1007915042366553198:1=1:=rfl
theorem tw10052582895069201126:1=1:=rfl
theorem tw1656537784543397195:1=1:=rfl
theorem tw8238929830477363962:1=1:=rfl
theorem tw12088105487498058993:1=1:=rfl
theorem tw12043420723688870331:1=1:=rfl
theorem tw2312034457802059207:1=1:=rfl
theorem tw17740048764370220076:1=1:=rfl
theorem tw9244321171653502345:1=1:=rfl
theorem tw17709224040873823659:1=1:=rfl
theorem tw8530313416858939550:1=1:=rfl
theorem tw16171809288044610508:1=1:=rfl
theorem tw1847840615245081061:1=1:=rfl
theorem tw4138081844389336918:1=1:=rfl
theorem tw17047115858639842297:1=1:=rfl
theorem tw14052039701678915610:1=1:=rfl
theorem tw3008623586974134963:1=1:=rfl
theorem tw920214292312260371:1=1:=rfl
theorem tw17447410573909459338:1=1:=rfl
theorem tw8960069828448710407:1=1:=rfl
theorem tw9398405308114057262:1=1:=rfl
theorem tw7534799579077118603:1=1:=rfl
theorem tw12092154237167983948:1=1:=rfl
theorem tw5193626691418679909:1=1:=rfl
theorem tw6830512106363814048:1=1:=rfl
theorem tw8244750085871347745:1=1:=rfl
theorem tw13903934854276604550:1=1:=rfl
theorem tw2323474266016966308:1=1:=rfl
theorem tw2502866573005156581:1=1:=rfl
theorem tw14892549342360969540:1=1:=rfl
theorem tw697623264460660564:1=1:=rfl
theorem tw10879034167726328663:1=1:=rfl
theorem tw7628703163842673926:1=1:=rfl
theorem tw7540655947842036084:1=1:=rfl
theorem tw9960721518486171458:1=1:=rfl
theorem tw18185175575083235020:1=1:=rfl
theorem tw6906073325868019850:1=1:=rfl
theorem tw12588582704262371052:1=1:=rfl
theorem tw7752767780024739350:1=1:=rfl
theorem tw15043168886218598503:1=1:=rfl
theorem tw16240987189780228909:1=1:=rfl
theorem tw5366084841770067474:1=1:=rfl
theorem tw6442067068224118133:1=1:=rfl
theorem tw7526368328331116154:1=1:=rfl
theorem tw11232374478483605306:1=1:=rfl
theorem tw18291419657060728153:1=1:=rfl
theorem tw1851346269716277005:1=1:=rfl
theorem tw11054480109507316185:1=1:=rfl
theorem tw11079593142295127227:1=1:=rfl
theorem tw1452849714261714991:1=1:=rfl
theorem tw15103106377680225435:1=1:=rfl
theorem tw1869635642477389258:1=1:=rfl
theorem tw4706079058837389440:1=1:=rfl
theorem tw6998783941825042932:1=1:=rfl
theorem tw13866372431405929976:1=1:=rfl
theorem tw14400467628812073631:1=1:=rfl
theorem tw1865391376527767206:1=1:=rfl
theorem tw16432713993328977331:1=1:=rfl
theorem tw15422856539912107476:1=1:=rfl
theorem tw8545014587354053640:1=1:=rfl
theorem tw2329189449893159454:1=1:=rfl
theorem tw11210553801493137410:1=1:=rfl
theorem tw10525666975642140466:1=1:=rfl
theorem tw6196171512934965099:1=1:=rfl
theorem tw15368132723985388332:1=1:=rfl
theorem tw16634568088961857937:1=1:=rfl
theorem tw6868836192036940282:1=1:=rfl
theorem tw17599816209265215132:1=1:=rfl
theorem tw5902613922787404954:1=1:=rfl
theorem tw8068729725432388964:1=1:=rfl
theorem tw7523672394736509286:1=1:=rfl
theorem tw7028611270464810887:1=1:=rfl
theorem tw7085514621470718492:1=1:=rfl
theorem tw6264232113106981867:1=1:=rfl
theorem tw10030107230732127627:1=1:=rfl
theorem tw3795277891434052102:1=1:=rfl
theorem tw6123773746684550334:1=1:=rfl
theorem tw11660266114150955751:1=1:=rfl
theorem tw6438293893037913957:1=1:=rfl
theorem tw16473244170626142550:1=1:=rfl
theorem tw8716120427605611371:1=1:=rfl
theorem tw9430268157657104642:1=1:=rfl
theorem tw6038821095411175016:1=1:=rfl
theorem tw18245042118932799458:1=1:=rfl
theorem tw1781861727890032366:1=1:=rfl
theorem tw4315991029959535628:1=1:=rfl
theorem tw18241275227582772068:1=1:=rfl
theorem tw4065347644161347641:1=1:=rfl
theorem tw9496365245306024149:1=1:=rfl
theorem tw11551083187376567056:1=1:=rfl
theorem tw9641152695372364146:1=1:=rfl
theorem tw6578402527460240241:1=1:=rfl
theorem tw4383666589626881386:1=1:=rfl
theorem tw7880807054014371918:1=1:=rfl
theorem tw12575139184659369484:1=1:=rfl
theorem tw4478166936697009375:1=1:=rfl
theorem tw2114630138375439770:1=1:=rfl
theorem tw10170382586518783626:1=1:=rfl
theorem tw3259873300814134281:1=1:=rfl
theorem tw18300207936620678264:1=1:=rfl
theorem tw15837987909243819085:1=1:=rfl
theorem tw8493152586797012548:1=1:=rfl
theorem tw6184460063843016694:1=1:=rfl
theorem tw8356816923877370021:1=1:=rfl
theorem tw17420951861521290806:1=1:=rfl
theorem tw1882180444382439491:1=1:=rfl
theorem tw16345102440705955213:1=1:=rfl
theorem tw12602439190401603521:1=1:=rfl
theorem tw16037735763661986305:1=1:=rfl
theorem tw10216474801634566288:1=1:=rfl
theorem tw9657781627882305391:1=1:=rfl
theorem tw4377701919642642989:1=1:=rfl
theorem tw13431754692932380062:1=1:=rfl
theorem tw1194904439430580092:1=1:=rfl
theorem tw17893044597097874663:1=1:=rfl
theorem tw9908193460736022307:1=1:=rfl
theorem tw15759970867653108152:1=1:=rfl
theorem tw8959176491354863721:1=1:=rfl
theorem tw17986969038992634876:1=1:=rfl
theorem tw6225832041138565760:1=1:=rfl
theorem tw2788664435532181463:1=1:=rfl
theorem tw12631932088317031055:1=1:=rfl
theorem tw1699103778626983548:1=1:=rfl
theorem tw11801993109049149486:1=1:=rfl
theorem tw7754304195085646258:1=1:=rfl
theorem tw18322514126500204803:1=1:=rfl
theorem tw4172343393113369950:1=1:=rfl
theorem tw6545403380812914513:1=1:=rfl
theorem tw307737655149646647:1=1:=rfl
theorem tw5978321128707920903:1=1:=rfl
theorem tw7519716089354478335:1=1:=rfl
theorem tw10458740792067480800:1=1:=rfl
theorem tw17311223219408574766:1=1:=rfl
theorem tw15643275761693703936:1=1:=rfl
theorem tw2608437505485318709:1=1:=rfl
theorem tw5480042469492414594:1=1:=rfl
theorem tw17087091549796120035:1=1:=rfl
theorem tw13047593935725612058:1=1:=rfl
theorem tw15790720579355451973:1=1:=rfl
theorem tw978945382295711627:1=1:=rfl
theorem tw12112201142124510154:1=1:=rfl
theorem tw3451239065008710300:1=1:=rfl
theorem tw5148922909946612681:1=1:=rfl
theorem tw15910714762333108613:1=1:=rfl
theorem tw8381844023166312768:1=1:=rfl
theorem tw8228950375871286339:1=1:=rfl
theorem tw15508949281206285077:1=1:=rfl
theorem tw16649331688326792143:1=1:=rfl
theorem tw11652457597714270106:1=1:=rfl
theorem tw2216850387143573719:1=1:=rfl
theorem tw10012880186880212623:1=1:=rfl
theorem tw2930668341846507884:1=1:=rfl
theorem tw14896477498954680388:1=1:=rfl
theorem tw15615537253650120727:1=1:=rfl
theorem tw1589133516308662214:1=1:=rfl
theorem tw7914949630228597729:1=1:=rfl
theorem tw15852365999677673905:1=1:=rfl
theorem tw13330244855972007585:1=1:=rfl
theorem tw6082411064634330575:1=1:=rfl
theorem tw3789350110615891812:1=1:=rfl
theorem tw14353793391729792155:1=1:=rfl
theorem tw4014540891139286612:1=1:=rfl
theorem tw11709330566771433103:1=1:=rfl
theorem tw5282504435634884242:1=1:=rfl
theorem tw11953376511379268794:1=1:=rfl
theorem tw13409441903868389331:1=1:=rfl
theorem tw13483081372092288885:1=1:=rfl
theorem tw5363564295841288755:1=1:=rfl
theorem tw16011055738799735888:1=1:=rfl
theorem tw5608270528595127837:1=1:=rfl
theorem tw13919464512627920130:1=1:=rfl
theorem tw2167537188350426706:1=1:=rfl
theorem tw10919297434634762262:1=1:=rfl
theorem tw18293851220164018083:1=1:=rfl
theorem tw6423634429210846174:1=1:=rfl
theorem tw6804821044290156842:1=1:=rfl
theorem tw16006246977917349235:1=1:=rfl
theorem tw3480954088277226078:1=1:=rfl
theorem tw10860895700388868024:1=1:=rfl
theorem tw12647368939536790636:1=1:=rfl
theorem tw12173100003817136821:1=1:=rfl
theorem tw4478964076566166474:1=1:=rfl
theorem tw17177331786930743035:1=1:=rfl
theorem tw6982297934935202809:1=1:=rfl
theorem tw22551697357593593:1=1:=rfl
theorem tw16412773359747925120:1=1:=rfl
theorem tw3381375190539634487:1=1:=rfl
theorem tw2195365466389143174:1=1:=rfl
theorem tw13225837485096350037:1=1:=rfl
theorem tw9557236495431379559:1=1:=rfl
theorem tw4870687313549177768:1=1:=rfl
theorem tw1011335219593555734:1=1:=rfl
theorem tw15367242080415987702:1=1:=rfl
theorem tw701787995468756871:1=1:=rfl
theorem tw14103535550066685397:1=1:=rfl
theorem tw9566141503761928105:1=1:=rfl
theorem tw17843490464661113860:1=1:=rfl
theorem tw17714235663813219645:1=1:=rfl
theorem tw9783614193127449063:1=1:=rfl
theorem tw2457190517430149469:1=1:=rfl
theorem tw14060154772996877548:1=1:=rfl
theorem tw17903497710992402801:1=1:=rfl
theorem tw1129884963351977449:1=1:=rfl
theorem tw5245234834050458271:1=1:=rfl
theorem tw16794629799341752650:1=1:=rfl
theorem tw11151547217846952531:1=1:=rfl
theorem tw7366208706002141716:1=1:=rfl
theorem tw14553816603554493358:1=1:=rfl
theorem tw16064382804478563927:1=1:=rfl
theorem tw4272726840584523970:1=1:=rfl
theorem tw16853341256802265648:1=1:=rfl
theorem tw13217225542625558698:1=1:=rfl
theorem tw11213053971927718326:1=1:=rfl
theorem tw13315533130655954831:1=1:=rfl
theorem tw13828106393651249627:1=1:=rfl
theorem tw11402939732021071671:1=1:=rfl
theorem tw16194383521188589630:1=1:=rfl
theorem tw10784824025267889561:1=1:=rfl
theorem tw12487502673411948298:1=1:=rfl
theorem tw16828841361933241965:1=1:=rfl
theorem tw15083628210047938546:1=1:=rfl
theorem tw15833661619300960221:1=1:=rfl
theorem tw10024716035694756283:1=1:=rfl
theorem tw14560493823538711346:1=1:=rfl
theorem tw5238241317806426387:1=1:=rfl
theorem tw2068664650715991707:1=1:=rfl
theorem tw14478148883734587675:1=1:=rfl
theorem tw9719896912496429819:1=1:=rfl
theorem tw12614811148066621264:1=1:=rfl
theorem tw7120233287515763914:1=1:=rfl
theorem tw15948780112781908787:1=1:=rfl
theorem tw15279998641719260112:1=1:=rfl
theorem tw5505005885091257285:1=1:=rfl
theorem tw15089522573102190283:1=1:=rfl
theorem tw17387473266821786944:1=1:=rfl
theorem tw7068711184596962023:1=1:=rfl
theorem tw3452082135128663414:1=1:=rfl
theorem tw13285133528070534704:1=1:=rfl
theorem tw1413172679324656950:1=1:=rfl
theorem tw11713075325732132258:1=1:=rfl
theorem tw4343815846532229135:1=1:=rfl
theorem tw464777395874653626:1=1:=rfl
theorem tw14955159897011116063:1=1:=rfl
theorem tw16259696140248634718:1=1:=rfl
theorem tw728884934406724761:1=1:=rfl
theorem tw9748044761591592747:1=1:=rfl
theorem tw7296583596125217682:1=1:=rfl
theorem tw2327210489368252092:1=1:=rfl
theorem tw13181700845877081190:1=1:=rfl
theorem tw17330945745186091897:1=1:=rfl
theorem tw8609351116199087170:1=1:=rfl
theorem tw1222794163293265305:1=1:=rfl
theorem tw922143313871775805:1=1:=rfl
theorem tw16640546478005224243:1=1:=rfl
theorem tw3646829019195819677:1=1:=rfl
theorem tw8134915037123179040:1=1:=rfl
theorem tw15615420239508185596:1=1:=rfl
theorem tw5009564483982726761:1=1:=rfl
theorem tw16211521421427940678:1=1:=rfl
theorem tw17258206423299326598:1=1:=rfl
theorem tw17975533764899295144:1=1:=rfl
theorem tw14457593812595234344:1=1:=rfl
theorem tw13321331477185743149:1=1:=rfl
theorem tw3350844169311001129:1=1:=rfl
theorem tw12113243949977362033:1=1:=rfl
theorem tw9533747618267967006:1=1:=rfl
theorem tw15529170255622000948:1=1:=rfl
theorem tw9313231091839196971:1=1:=rfl
theorem tw15683763237869141255:1=1:=rfl
theorem tw17542962492245011380:1=1:=rfl
theorem tw11162318198679636149:1=1:=rfl
theorem tw4702841417184801058:1=1:=rfl
theorem tw2252305205657439004:1=1:=rfl
theorem tw15616948245753086127:1=1:=rfl
theorem tw2887051446865420828:1=1:=rfl
theorem tw8977307856219701671:1=1:=rfl
theorem tw5961118342813265553:1=1:=rfl
theorem tw4494801613693538912:1=1:=rfl
theorem tw13790719812936386609:1=1:=rfl
theorem tw16970440968685349367:1=1:=rfl
theorem tw5781342201191254626:1=1:=rfl
theorem tw5732804406350252772:1=1:=rfl
theorem tw16302227732802510677:1=1:=rfl
theorem tw14620637471214046174:1=1:=rfl
theorem tw2386827423013361158:1=1:=rfl
theorem tw10752148897807903841:1=1:=rfl
theorem tw8184699220007379433:1=1:=rfl
theorem tw13372043803930879067:1=1:=rfl
theorem tw5987830557187376847:1=1:=rfl
theorem tw3953601041324332601:1=1:=rfl
theorem tw8684328023851190084:1=1:=rfl
theorem tw15463257786427224491:1=1:=rfl
theorem tw9427301549700849589:1=1:=rfl
theorem tw8047900516022102942:1=1:=rfl
theorem tw14960593345356199642:1=1:=rfl
theorem tw12936449754285732098:1=1:=rfl
theorem tw6785817131721698500:1=1:=rfl
theorem tw15220180469806662145:1=1:=rfl
theorem tw10246146449241189800:1=1:=rfl
theorem tw6528754448969337418:1=1:=rfl
theorem tw15967140613478806237:1=1:=rfl
theorem tw5373601922739893978:1=1:=rfl
theorem tw18343703819029505601:1=1:=rfl
theorem tw1997569388931296116:1=1:=rfl
theorem tw8770205317985620760:1=1:=rfl
theorem tw6291416237084387574:1=1:=rfl
theorem tw8789358453043137523:1=1:=rfl
theorem tw11251137523995926341:1=1:=rfl
theorem tw7746578258024575070:1=1:=rfl
theorem tw1382963296337349011:1=1:=rfl
theorem tw13518370688599389936:1=1:=rfl
theorem tw7510230149288206974:1=1:=rfl
theorem tw7891253978561527248:1=1:=rfl
theorem tw10614716105012338702:1=1:=rfl
theorem tw3443669649825651883:1=1:=rfl
theorem tw3915529967508079626:1=1:=rfl
theorem tw8081886968326746073:1=1:=rfl
theorem tw13609717118414637909:1=1:=rfl
theorem tw15813434630575017362:1=1:=rfl
theorem tw3309697970292668127:1=1:=rfl
theorem tw11631869004601391166:1=1:=rfl
theorem tw10949625832625181284:1=1:=rfl
theorem tw7721951785955056133:1=1:=rfl
theorem tw11465210709893060100:1=1:=rfl
theorem tw7270182246851987180:1=1:=rfl
theorem tw14294001040229213422:1=1:=rfl
theorem tw15642763164714097627:1=1:=rfl
theorem tw3085183777334472315:1=1:=rfl
theorem tw12901994302517312135:1=1:=rfl
theorem tw6819123309680001836:1=1:=rfl
theorem tw11319097763535126812:1=1:=rfl
theorem tw15673258824015622330:1=1:=rfl
theorem tw6598312636042714100:1=1:=rfl
theorem tw6882427118574961969:1=1:=rfl
theorem tw8117029840178788049:1=1:=rfl
theorem tw7610815399733428385:1=1:=rfl
theorem tw10601615944963115059:1=1:=rfl
theorem tw13893168526513508166:1=1:=rfl
theorem tw5629675986466331604:1=1:=rfl
theorem tw7289634563603522867:1=1:=rfl
theorem tw190519026028168232:1=1:=rfl
theorem tw16056359734778111409:1=1:=rfl
theorem tw8428860471423672150:1=1:=rfl
theorem tw5635641802508607975:1=1:=rfl
theorem tw10743916045514856203:1=1:=rfl
theorem tw14980023328507725902:1=1:=rfl
theorem tw2101469004524951375:1=1:=rfl
theorem tw8727321023445011275:1=1:=rfl
theorem tw7654286748164834634:1=1:=rfl
theorem tw2274498078352570744:1=1:=rfl
theorem tw5716766192118558609:1=1:=rfl
theorem tw13855946660403688772:1=1:=rfl
theorem tw15166520500009309586:1=1:=rfl
theorem tw17673860158736603733:1=1:=rfl
theorem tw3229955645248102723:1=1:=rfl
theorem tw4225703048834024713:1=1:=rfl
theorem tw10792051664901133789:1=1:=rfl
theorem tw16713699803418581334:1=1:=rfl
theorem tw4015398097383911347:1=1:=rfl
theorem tw16945582573551092051:1=1:=rfl
theorem tw8004679753235328684:1=1:=rfl
theorem tw4297731678662094536:1=1:=rfl
theorem tw15344866539931968096:1=1:=rfl
theorem tw15042006015671813226:1=1:=rfl
theorem tw9386895884608548742:1=1:=rfl
theorem tw14768889098011018680:1=1:=rfl
theorem tw16157073509204512506:1=1:=rfl
theorem tw519851828213033955:1=1:=rfl
theorem tw2442259710966052079:1=1:=rfl
theorem tw226724450230711188:1=1:=rfl
theorem tw17739348878880393726:1=1:=rfl
theorem tw14705683404202351889:1=1:=rfl
theorem tw2304311442786299043:1=1:=rfl
theorem tw3109861748172591687:1=1:=rfl
theorem tw189712035060473897:1=1:=rfl
theorem tw402640490398009360:1=1:=rfl
theorem tw17950676927832955104:1=1:=rfl
theorem tw13267510147771200024:1=1:=rfl
theorem tw3219085151875037572:1=1:=rfl
theorem tw1506431575118746342:1=1:=rfl
theorem tw17183224562656869120:1=1:=rfl
theorem tw17213754286329925777:1=1:=rfl
theorem tw5292301768408028288:1=1:=rfl
theorem tw6164396464334811476:1=1:=rfl
theorem tw16091413853298234908:1=1:=rfl
theorem tw16904818350239718627:1=1:=rfl
theorem tw541196102884509978:1=1:=rfl
theorem tw6820862383352777685:1=1:=rfl
theorem tw2845679848157327705:1=1:=rfl
theorem tw991583007596301734:1=1:=rfl
theorem tw7355570028127101125:1=1:=rfl
theorem tw13466754112058979494:1=1:=rfl
theorem tw8025032847418708242:1=1:=rfl
theorem tw4086058157674990017:1=1:=rfl
theorem tw5174551420813472067:1=1:=rfl
theorem tw9170477692918782315:1=1:=rfl
theorem tw12271959270614036898:1=1:=rfl
theorem tw18103342009636024947:1=1:=rfl
theorem tw6411954120941647267:1=1:=rfl
theorem tw16722109127936396110:1=1:=rfl
theorem tw13220430256171166289:1=1:=rfl
theorem tw11032806212648032379:1=1:=rfl
theorem tw12070051907170230399:1=1:=rfl
theorem tw1580110805410547442:1=1:=rfl
theorem tw12949589719889679912:1=1:=rfl
theorem tw8268277133935991078:1=1:=rfl
theorem tw5036846961687405229:1=1:=rfl
theorem tw17919194246423945575:1=1:=rfl
theorem tw18093812233618175256:1=1:=rfl
theorem tw7512474625130614241:1=1:=rfl
theorem tw17377529257436501650:1=1:=rfl
theorem tw11917015161858427179:1=1:=rfl
theorem tw4971549296188076032:1=1:=rfl
theorem tw17234923516513369237:1=1:=rfl
theorem tw1359830224848277088:1=1:=rfl
theorem tw17001982702790524580:1=1:=rfl
theorem tw2603259988358896889:1=1:=rfl
theorem tw8990313861142287110:1=1:=rfl
theorem tw16007149819294483003:1=1:=rfl
theorem tw1013155817946168525:1=1:=rfl
theorem tw3429492842335990350:1=1:=rfl
theorem tw1409312971732116557:1=1:=rfl
theorem tw3919010098100093602:1=1:=rfl
theorem tw15416985209724490359:1=1:=rfl
theorem tw13289513938125300765:1=1:=rfl
theorem tw6759412095888398321:1=1:=rfl
theorem tw5054737718236178183:1=1:=rfl
theorem tw17672654358674132775:1=1:=rfl
theorem tw4360684699965382250:1=1:=rfl
theorem tw8735263284916673568:1=1:=rfl
theorem tw14906377314874228009:1=1:=rfl
theorem tw6931407450589930559:1=1:=rfl
theorem tw6767318904944593275:1=1:=rfl
theorem tw1600037746751723098:1=1:=rfl
theorem tw13783031573616600631:1=1:=rfl
theorem tw280609765759037681:1=1:=rfl
theorem tw9345676750909349944:1=1:=rfl
theorem tw5511420028821071320:1=1:=rfl
theorem tw12127338746724423809:1=1:=rfl
theorem tw6394381022753523788:1=1:=rfl
theorem tw5657824000916062451:1=1:=rfl
theorem tw1439246655266547700:1=1:=rfl
theorem tw17062030032774818151:1=1:=rfl
theorem tw2391449824757734642:1=1:=rfl
theorem tw12023040214023829324:1=1:=rfl
theorem tw9298403506768410418:1=1:=rfl
theorem tw1800889605409440832:1=1:=rfl
theorem tw11754176132448286083:1=1:=rfl
theorem tw1097998534492414930:1=1:=rfl
theorem tw758273949599710562:1=1:=rfl
theorem tw11389486352061984695:1=1:=rfl
theorem tw1760603350576429475:1=1:=rfl
theorem tw16920754564084929960:1=1:=rfl
theorem tw17252143746492648416:1=1:=rfl
theorem tw1848646778235469078:1=1:=rfl
theorem tw8458067239894703972:1=1:=rfl
theorem tw9673543361469618366:1=1:=rfl
theorem tw16029623286316568529:1=1:=rfl
theorem tw15411387601460861337:1=1:=rfl
theorem tw7494724483528729301:1=1:=rfl
theorem tw8457440626546761165:1=1:=rfl
theorem tw6547078798241139092:1=1:=rfl
theorem tw1197925565968671727:1=1:=rfl
theorem tw3493717111155160527:1=1:=rfl
theorem tw3694398316872202419:1=1:=rfl
theorem tw18264374347568628810:1=1:=rfl
end hd
set_option Elab.async true
set_option maxRecDepth 100000 in
set_option maxHeartbeats 8000000 in
set_option pp.maxSteps 1500 in
set_option pp.deepTerms false in
theorem hd : PySem.Challenge.rw_ix0033_01.Holds := by
 w_on; o_law; k_head; (case hw => w_witness2)
 all_goals (
  k_fill
  intro w s0 s1 mg mb G Y fa o pm cd doc dV kV ho hd hcd hD hmg hg args vals as hpre hlay hrd hwl hlo
  have KX := km_in_of Y
  clear Y
  refine Ground.open G ?_
  intro T B D TE TW
  have ck : ChkK (Mine.hd.heap_1_39 w.params) Mine.hd.view_1_40 w.params := {
   t1 := by kernel_rfl
   t2 := by kernel_rfl
   t3 := by kernel_rfl
   n57 := by kernel_rfl
   n44 := by kernel_rfl
   c45 := by kernel_rfl
   c58 := ⟨_, rfl, _, _, _, _, _, _, _, _, _, _, _, _, _, _, rfl⟩
   fn := by kernel_rfl
   rcs := rcs_of (by kernel_rfl)
   norm1 := by kernel_rfl
   f318 := fnK_mk (by kernel_rfl) (by kernel_rfl) (by kernel_rfl) (by kernel_rfl) (by kernel_rfl)
   f82 := fnK_mk (by kernel_rfl) (by kernel_rfl) (by kernel_rfl) (by kernel_rfl) (by kernel_rfl)
   f134 := fnK_mk (by kernel_rfl) (by kernel_rfl) (by kernel_rfl) (by kernel_rfl) (by kernel_rfl)
   d311 := by kernel_rfl
   d75 := by kernel_rfl
   kf := kf_of (by kernel_rfl)
   bi := by kernel_rfl
   pe := by kernel_rfl
   hv := by kernel_rfl
   c104 := by kernel_rfl
   c105 := by kernel_rfl
   c106 := by kernel_rfl
   c107 := by kernel_rfl
   c108 := by kernel_rfl
   c109 := by kernel_rfl
   c371 := by kernel_rfl
   sig := by kernel_rfl
   blk := by kernel_rfl }
  clear B TE TW
  wrow_args hpre hlay hrd hwl hlo
  rename_i ns hs hlay0 hL1 hr1 hl2 as4 as3 l vs as0 hl ra w1 r0 hI hr hcond hcond2
  refine call_law KX T D ck hmg hl hI (by omega) hg fun s' h1 h2 h3 => ?_
  refine ⟨.inl ⟨.bool true, .bool true, [], rfl, fun _ => rfl, .bool true, ?_, fun _ => ⟨List.nodup_nil, fun _ hx => by cases hx⟩⟩, h1, h2, h3⟩
  first | rfl | (with_unfolding_all rfl) | kernel_rfl | row_post_m | (trace_state; skip))
set_option Elab.async false
end Mine
theorem PySem.Challenge.cw_ix0033_01_holds : PySem.Challenge.rw_ix0033_01.Holds := by
 exact Mine.hd
