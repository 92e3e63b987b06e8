import PyProof.Rows.All
import Wide.All
import OpenK.AllK
import Wide.FinOn
import KE.KDictOf
import KE.KEqDict
import Lean
import PySem.Challenge.RW_jc0027_01
open PySem PySem.W PySem.Calls PyProof.Rows
set_option Elab.async false
set_option maxRecDepth 100000
set_option maxHeartbeats 8000000
set_option linter.unusedVariables false
namespace Mine

section
/-- the part of the heap that never changes any more, and the outer world -/
structure Part where
  get : Addr → Option Obj
  os : OsState
  tk : Tok

noncomputable def Part.le (P P' : Part) : Prop := (P'.os = P.os ∧ P.tk ≤ P'.tk) ∧ ∀ a o, P.get a = some o → P'.get a = some o
theorem Part.le.refl (P : Part) : P.le P := ⟨⟨rfl, Nat.le_refl _⟩, fun _ _ e => e⟩
theorem Part.le.trans {P Q R : Part} (x : P.le Q) (y : Q.le R) : P.le R := ⟨⟨y.1.1.trans x.1.1, Nat.le_trans x.1.2 y.1.2⟩, fun a o e => y.2 a o (x.2 a o e)⟩
noncomputable def Part.add (P : Part) (a : Addr) (o : Obj) : Part := ⟨fun b => if b = a then some o else P.get b, P.os, P.tk⟩
noncomputable def Part.stamp (P : Part) (tk : Tok) : Part := ⟨P.get, P.os, tk⟩

/-- an own thing: where it lies, what is known of it -/
structure U where
  fp : List Addr
  ok : Heap → Prop
  stable : ∀ h h', (∀ a ∈ fp, ∀ o, h.get? a = some o → h'.get? a = some o) → ok h → ok h'
  alive : ∀ h, ok h → ∀ a ∈ fp, ∃ o, h.get? a = some o

noncomputable def fps (O : List U) : List Addr := O.flatMap U.fp

structure Sat (P : Part) (O : List U) (s : Shared) : Prop where
  per : ∀ a o, P.get a = some o → s.heap.get? a = some o
  own : ∀ u ∈ O, u.ok s.heap
  nd : (fps O).Nodup
  off : ∀ a ∈ fps O, P.get a = none
  gens : AllBare s.gens
  os : s.os = P.os
  tk : P.tk ≤ s.toks
  two : ∃ o, P.get 2 = some o

theorem Sat.toks {P : Part} {O : List U} {s : Shared} {tk : Nat} (x : Sat P O s) (ht : s.toks ≤ tk) : Sat P O { s with toks := tk } := ⟨x.per, x.own, x.nd, x.off, x.gens, x.os, Nat.le_trans x.tk ht, x.two⟩
theorem Sat.stamp {P : Part} {O : List U} {s : Shared} (x : Sat P O s) : P.le (P.stamp s.toks) ∧ Sat (P.stamp s.toks) O s := ⟨⟨⟨rfl, x.tk⟩, fun _ _ e => e⟩, ⟨x.per, x.own, x.nd, x.off, x.gens, x.os, Nat.le_refl _, x.two⟩⟩

theorem Sat.keep {P : Part} {O : List U} {s : Shared} {h' : Heap} {tk : Nat} (x : Sat P O s) (ht : s.toks ≤ tk) (hk : ∀ b o, s.heap.get? b = some o → h'.get? b = some o) :
    Sat P O { s with heap := h', toks := tk } :=
  ⟨fun a o e => hk _ _ (x.per a o e), fun u hu => u.stable _ _ (fun a _ o e => hk a o e) (x.own u hu), x.nd, x.off, x.gens, x.os, Nat.le_trans x.tk ht, x.two⟩

theorem Sat.mem_alive {P : Part} {O : List U} {s : Shared} (x : Sat P O s) {a : Addr} (ha : a ∈ fps O) : ∃ o, s.heap.get? a = some o := by
  obtain ⟨u, hu, ha⟩ := List.mem_flatMap.mp ha
  exact u.alive _ (x.own u hu) a ha

theorem Sat.freshP {P : Part} {O : List U} {s : Shared} (x : Sat P O s) {a : Addr} (ha : s.heap.get? a = none) : P.get a = none := by
  cases e : P.get a with
  | none => rfl
  | some o => rw [x.per a o e] at ha; cases ha

/-- a new thing that never changes -/
theorem Sat.alloc {P : Part} {O : List U} {s : Shared} {h' : Heap} {tk : Nat} (x : Sat P O s) (ht : s.toks ≤ tk) (hk : ∀ b o, s.heap.get? b = some o → h'.get? b = some o)
    {a : Addr} {o : Obj} (ha : s.heap.get? a = none) (ho : h'.get? a = some o) : P.le (P.add a o) ∧ Sat (P.add a o) O { s with heap := h', toks := tk } := by
  have hn := x.freshP ha
  have hO : a ∉ fps O := fun hm => by obtain ⟨o, e⟩ := x.mem_alive hm; rw [ha] at e; cases e
  have y := x.keep (tk := tk) ht hk
  refine ⟨⟨⟨rfl, Nat.le_refl _⟩, fun b ob e => ?_⟩, ⟨fun b ob e => ?_, y.own, y.nd, fun b hb => ?_, y.gens, y.os, y.tk, ?two⟩⟩
  case two =>
    obtain ⟨o2, e2⟩ := y.two
    by_cases q : 2 = a
    · exact ⟨o, by show (if 2 = a then some o else P.get 2) = some o; rw [if_pos q]⟩
    · exact ⟨o2, by show (if 2 = a then some o else P.get 2) = some o2; rw [if_neg q]; exact e2⟩
  · show (if b = a then some o else P.get b) = some ob
    rw [if_neg (fun q => by rw [q, hn] at e; cases e)]; exact e
  · have e' : (if b = a then some o else P.get b) = some ob := e
    by_cases q : b = a
    · rw [if_pos q] at e'; cases e'; rw [q]; exact ho
    · rw [if_neg q] at e'; exact y.per b ob e'
  · show (if b = a then some o else P.get b) = none
    rw [if_neg (fun (q : b = a) => hO (q ▸ hb))]; exact x.off b hb

theorem fps_cons (u : U) (O : List U) : fps (u :: O) = u.fp ++ fps O := rfl
theorem fps_append (O O' : List U) : fps (O ++ O') = fps O ++ fps O' := List.flatMap_append

/-- a new own thing -/
theorem Sat.push {P : Part} {O : List U} {s : Shared} {h' : Heap} {tk : Nat} (x : Sat P O s) (ht : s.toks ≤ tk) (hk : ∀ b o, s.heap.get? b = some o → h'.get? b = some o)
    {u : U} (hf : ∀ a ∈ u.fp, s.heap.get? a = none) (hn : u.fp.Nodup) (ho : u.ok h') : Sat P (u :: O) { s with heap := h', toks := tk } := by
  have y := x.keep (tk := tk) ht hk
  refine ⟨y.per, fun v hv => ?_, ?_, fun a ha => ?_, y.gens, y.os, y.tk, y.two⟩
  · cases hv with
    | head => exact ho
    | tail _ hv => exact y.own v hv
  · rw [fps_cons]
    refine List.nodup_append.mpr ⟨hn, x.nd, fun a ha b hb q => ?_⟩
    subst q
    obtain ⟨o, e⟩ := x.mem_alive hb
    rw [hf a ha] at e; cases e
  · rw [fps_cons] at ha
    rcases List.mem_append.mp ha with ha | ha
    · exact x.freshP (hf a ha)
    · exact x.off a ha

theorem Sat.drop {P : Part} {u : U} {O : List U} {s : Shared} (x : Sat P (u :: O) s) : Sat P O s :=
  ⟨x.per, fun v hv => x.own v (.tail _ hv), (List.nodup_append.mp (fps_cons u O ▸ x.nd)).2.1, fun a ha => x.off a (by rw [fps_cons]; exact List.mem_append_right _ ha), x.gens, x.os, x.tk, x.two⟩

theorem fps_perm {O O' : List U} (h : O.Perm O') : (fps O).Perm (fps O') := h.flatMap_right _
theorem Sat.perm {P : Part} {O O' : List U} {s : Shared} (x : Sat P O s) (h : O.Perm O') : Sat P O' s :=
  ⟨x.per, fun v hv => x.own v (h.mem_iff.mpr hv), (fps_perm h).nodup_iff.mp x.nd, fun a ha => x.off a ((fps_perm h).mem_iff.mpr ha), x.gens, x.os, x.tk, x.two⟩

/-- the head thing changes -/
theorem Sat.turn {P : Part} {u u' : U} {O : List U} {s : Shared} {h' : Heap} {tk : Nat} (x : Sat P (u :: O) s) (ht : s.toks ≤ tk) (hk : ∀ b o, b ∉ u.fp → s.heap.get? b = some o → h'.get? b = some o)
    (hf : ∀ a ∈ u'.fp, a ∈ u.fp ∨ s.heap.get? a = none) (hn : u'.fp.Nodup) (ho : u'.ok h') : Sat P (u' :: O) { s with heap := h', toks := tk } := by
  have hO : ∀ a ∈ fps O, a ∉ u.fp := fun a ha q => (List.nodup_append.mp (fps_cons u O ▸ x.nd)).2.2 a q a ha rfl
  refine ⟨fun a o e => hk a o (fun q => ?_) (x.per a o e), fun v hv => ?_, ?_, fun a ha => ?_, x.gens, x.os, Nat.le_trans x.tk ht, x.two⟩
  · have := x.off a (by rw [fps_cons]; exact List.mem_append_left _ q); rw [this] at e; cases e
  · cases hv with
    | head => exact ho
    | tail _ hv => exact v.stable _ _ (fun a ha o e => hk a o (hO a (List.mem_flatMap.mpr ⟨v, hv, ha⟩)) e) (x.own v (.tail _ hv))
  · rw [fps_cons]
    refine List.nodup_append.mpr ⟨hn, x.drop.nd, fun a ha b hb q => ?_⟩
    subst q
    rcases hf a ha with h | h
    · exact hO a hb h
    · obtain ⟨o, e⟩ := x.drop.mem_alive hb; rw [h] at e; cases e
  · rw [fps_cons] at ha
    rcases List.mem_append.mp ha with ha | ha
    · rcases hf a ha with h | h
      · exact x.off a (by rw [fps_cons]; exact List.mem_append_left _ h)
      · exact x.freshP h
    · exact x.drop.off a ha

/-- the head thing, one object, stops changing -/
theorem Sat.freeze {P : Part} {u : U} {O : List U} {s : Shared} (x : Sat P (u :: O) s) {a : Addr} {o : Obj} (ha : a ∈ u.fp) (ho : s.heap.get? a = some o) :
    P.le (P.add a o) ∧ Sat (P.add a o) O s := by
  have hn : P.get a = none := x.off a (by rw [fps_cons]; exact List.mem_append_left _ ha)
  have hO : a ∉ fps O := fun q => (List.nodup_append.mp (fps_cons u O ▸ x.nd)).2.2 a ha a q rfl
  have y := x.drop
  refine ⟨⟨⟨rfl, Nat.le_refl _⟩, fun b ob e => ?_⟩, ⟨fun b ob e => ?_, y.own, y.nd, fun b hb => ?_, y.gens, y.os, y.tk, ?two⟩⟩
  case two =>
    obtain ⟨o2, e2⟩ := y.two
    by_cases q : 2 = a
    · exact ⟨o, by show (if 2 = a then some o else P.get 2) = some o; rw [if_pos q]⟩
    · exact ⟨o2, by show (if 2 = a then some o else P.get 2) = some o2; rw [if_neg q]; exact e2⟩
  · show (if b = a then some o else P.get b) = some ob
    rw [if_neg (fun q => by rw [q, hn] at e; cases e)]; exact e
  · have e' : (if b = a then some o else P.get b) = some ob := e
    by_cases q : b = a
    · rw [if_pos q] at e'; cases e'; rw [q]; exact ho
    · rw [if_neg q] at e'; exact y.per b ob e'
  · show (if b = a then some o else P.get b) = none
    rw [if_neg (fun (q : b = a) => hO (q ▸ hb))]; exact y.off b hb
theorem Part.add_self (P : Part) (a : Addr) (o : Obj) : (P.add a o).get a = some o := if_pos rfl

/-- a triple without exceptions -/
structure Do (prog : Program) (w : World) (A : Around) {α : Type} (t : Sem α) (P : Part) (O : List U) (Φ : α → Part → List U → Prop) : Prop where
  run : ∀ s, Sat P O s → wpAny (model prog w) A t (fun a s' => ∃ P' O', P.le P' ∧ Sat P' O' s' ∧ Φ a P' O') (fun _ _ => False) s

section
variable {prog : Program} {w : World} {A : Around} {α β : Type} {P : Part} {O : List U}

theorem Do.pure {a : α} {Φ : α → Part → List U → Prop} (h : Φ a P O) : Do prog w A (pure a : Sem α) P O Φ := Do.mk fun _ x => wpAny_pure ⟨P, O, .refl P, x, h⟩
theorem Do.base {t : Sem α} {Φ : α → Part → List U → Prop} (h : ∀ s, Sat P O s → wpAny (model prog w) A t (fun a s' => s.toks ≤ s'.toks → ∃ P' O', P.le P' ∧ Sat P' O' s' ∧ Φ a P' O') (fun _ _ => False) s) : Do prog w A t P O Φ :=
  Do.mk fun s x => wpAny_with_toks (Nat.le_refl s.toks) (wpAny_mono (h s x) (fun _ _ y => y) fun _ _ e => e.elim)
theorem Do.mono {t : Sem α} {Φ Ψ : α → Part → List U → Prop} (h : Do prog w A t P O Φ) (hh : ∀ a P' O', P.le P' → Φ a P' O' → Ψ a P' O') : Do prog w A t P O Ψ :=
  Do.mk fun s x => wpAny_mono ((h).run s x) (fun a _ ⟨P', O', l, y, f⟩ => ⟨P', O', l, y, hh a P' O' l f⟩) fun _ _ e => e
theorem Do.bind {t : Sem α} {f : α → Sem β} {Ψ : α → Part → List U → Prop} {Φ : β → Part → List U → Prop} (h : Do prog w A t P O Ψ)
    (hf : ∀ a P' O', P.le P' → Ψ a P' O' → Do prog w A (f a) P' O' Φ) : Do prog w A (t >>= f) P O Φ :=
  Do.mk fun s x => wpAny_bind (wpAny_mono ((h).run s x) (fun a s' ⟨P', O', l, y, g⟩ => wpAny_mono ((hf a P' O' l g).run s' y) (fun _ _ ⟨P'', O'', l', y', g'⟩ => ⟨P'', O'', l.trans l', y', g'⟩) fun _ _ e => e) fun _ _ e => e)
theorem Do.holding {vs : List Value} {t : Sem α} {Φ : α → Part → List U → Prop} (h : Do prog w A t P O Φ) : Do prog w A (PySem.holding vs t) P O Φ := Do.mk fun s x => wpAny_holding (h.run s x)
theorem Do.onRaise {t : Sem α} {k : Value → Sem Unit} {Φ : α → Part → List U → Prop} (h : Do prog w A t P O Φ) : Do prog w A (t.onRaise k) P O Φ :=
  Do.mk fun s x => wpAny_onRaise (wpAny_mono ((h).run s x) (fun _ _ y => y) fun _ _ e => e.elim)
theorem Do.standAt {pos : Pos} {Φ : Unit → Part → List U → Prop} (h : Φ () P O) : Do prog w A (PySem.standAt pos) P O Φ := Do.mk fun _ x => wpAny_standAt ⟨P, O, .refl P, x, h⟩
theorem Do.point {Φ : Unit → Part → List U → Prop} (h : Φ () P O) : Do prog w A PySem.point P O Φ := Do.mk fun _ x => wpAny_point ⟨P, O, .refl P, x, h⟩
theorem Do.rule {tag : String} {Φ : Unit → Part → List U → Prop} (h : Φ () P O) : Do prog w A (PySem.rule tag) P O Φ := Do.mk fun _ x => wpAny_rule ⟨P, O, .refl P, x, h⟩
theorem Do.mkInt {i : Int} {Φ : Value → Part → List U → Prop} (h : ∀ t, Φ (.int i t) P O) : Do prog w A (PySem.mkInt i) P O Φ := Do.mk fun s x => wpAny_mkInt ⟨P, O, .refl P, x.toks (Nat.le_succ _), h _⟩
theorem Do.mkText {y : Str} {Φ : Value → Part → List U → Prop} (h : ∀ t, Φ (.str y t) P O) : Do prog w A (PySem.mkText y) P O Φ := Do.mk fun s x => wpAny_mkText ⟨P, O, .refl P, x.toks (Nat.le_succ _), h _⟩
theorem Do.of_eq {t t' : Sem α} {Φ : α → Part → List U → Prop} (e : t = t') (h : Do prog w A t' P O Φ) : Do prog w A t P O Φ := e ▸ h
theorem Do.weaken {t : Sem α} {O' : List U} {Φ : α → Part → List U → Prop} (h : Do prog w A t P O' Φ) (hp : ∀ s, Sat P O s → Sat P O' s) : Do prog w A t P O Φ := Do.mk fun s x => h.run s (hp s x)
/-- then: a bind with the standing still of the place -/
theorem Do.stand {pos : Pos} {t : Sem α} {Φ : α → Part → List U → Prop} (h : Do prog w A t P O Φ) : Do prog w A (PySem.standAt pos >>= fun _ => t) P O Φ := Do.mk fun s x => wpAny_bind (wpAny_standAt (h.run s x))
end

/-- a value, told by the part that stays -/
structure Rep where
  h : Part → Value → Prop
  mono : ∀ P P' v, P.le P' → h P v → h P' v

noncomputable def RVal (v₀ : Value) : Rep := ⟨fun _ v => v = v₀, fun _ _ _ _ e => e⟩
noncomputable def RStr (x : Str) : Rep := ⟨fun _ v => ∃ t, v = .str x t, fun _ _ _ _ e => e⟩
noncomputable def RInt (i : Int) : Rep := ⟨fun _ v => ∃ t, v = .int i t, fun _ _ _ _ e => e⟩
noncomputable def RBool (b : Bool) : Rep := RVal (.bool b)
noncomputable def RNone : Rep := RVal .none
noncomputable def RAny : Rep := ⟨fun _ _ => True, fun _ _ _ _ e => e⟩

/-- values one by one -/
noncomputable def Reps (P : Part) : List Rep → List Value → Prop
  | [], [] => True
  | r :: rs, v :: vs => r.h P v ∧ Reps P rs vs
  | _, _ => False
theorem Reps.mono {P P' : Part} (l : P.le P') : ∀ {rs : List Rep} {vs : List Value}, Reps P rs vs → Reps P' rs vs
  | [], [], _ => trivial
  | r :: _, _ :: _, x => ⟨r.mono _ _ _ l x.1, Reps.mono l x.2⟩
theorem Reps.length {P : Part} : ∀ {rs : List Rep} {vs : List Value}, Reps P rs vs → vs.length = rs.length
  | [], [], _ => rfl
  | _ :: _, _ :: _, x => congrArg (· + 1) (Reps.length x.2)
theorem Reps.snoc {P : Part} : ∀ {rs : List Rep} {vs : List Value} {r : Rep} {v : Value}, Reps P rs vs → r.h P v → Reps P (rs ++ [r]) (vs ++ [v])
  | [], [], _, _, _, y => ⟨y, trivial⟩
  | _ :: _, _ :: _, _, _, x, y => ⟨x.1, Reps.snoc x.2 y⟩
theorem Reps.get {P : Part} : ∀ {rs : List Rep} {vs : List Value} {i : Nat} {r : Rep}, Reps P rs vs → rs[i]? = some r → ∃ v, vs[i]? = some v ∧ r.h P v
  | _ :: _, v :: _, 0, _, x, e => ⟨v, rfl, by cases e; exact x.1⟩
  | _ :: rs, _ :: vs, i + 1, _, x, e => Reps.get (rs := rs) (vs := vs) (i := i) x.2 e
theorem Reps.append {P : Part} : ∀ {rs rs' : List Rep} {vs vs' : List Value}, Reps P rs vs → Reps P rs' vs' → Reps P (rs ++ rs') (vs ++ vs')
  | [], _, [], _, _, y => y
  | _ :: _, _, _ :: _, _, x, y => ⟨x.1, Reps.append x.2 y⟩

noncomputable def RSeq (cls : String) (rs : List Rep) : Rep :=
  ⟨fun P v => ∃ a vs n, v = .ref a ∧ P.get a = some ⟨.type cls, none, .seq vs n, #[]⟩ ∧ Reps P rs vs.toList, fun _ _ _ l ⟨a, vs, n, e, g, r⟩ => ⟨a, vs, n, e, l.2 _ _ g, r.mono l⟩⟩
noncomputable def RList (rs : List Rep) : Rep := RSeq "list" rs
noncomputable def RTup (rs : List Rep) : Rep := RSeq "tuple" rs

theorem Reps.of_get {P : Part} : ∀ {rs : List Rep} {vs : List Value} {i : Nat} {v : Value}, Reps P rs vs → vs[i]? = some v → ∃ r, rs[i]? = some r ∧ r.h P v
  | [], [], _, _, _, e => by simp at e
  | r :: _, _ :: _, 0, _, x, e => ⟨r, rfl, by cases e; exact x.1⟩
  | _ :: rs, _ :: vs, i + 1, _, x, e => Reps.of_get (rs := rs) (vs := vs) (i := i) x.2 e
theorem Reps.set {P : Part} : ∀ {rs : List Rep} {vs : List Value} {i : Nat} {r : Rep} {v : Value}, Reps P rs vs → r.h P v → Reps P (rs.set i r) (vs.set i v)
  | [], [], _, _, _, _, _ => trivial
  | _ :: _, _ :: _, 0, _, _, x, y => ⟨y, x.2⟩
  | _ :: _, _ :: _, _ + 1, _, _, x, y => ⟨x.1, Reps.set x.2 y⟩

/-- a dict with texts as keys: an object of the part that stays -/
noncomputable def DictObj (prog : Program) (w : World) (o : Obj) (kvs : List (Str × Value)) : Prop :=
  ∃ es ep, o.ExactDict ∧ o.data = .dict es ep ∧ KeysOf (strKind prog w) es ∧ Pairs (strKind prog w) es.toList kvs ∧ (kvs.map (·.1)).Nodup
/-- names and what stands under them -/
noncomputable def Ents (P : Part) (rs : List (Str × Rep)) (kvs : List (Str × Value)) : Prop := kvs.map (·.1) = rs.map (·.1) ∧ Reps P (rs.map (·.2)) (kvs.map (·.2))
theorem Ents.mono {P P' : Part} (l : P.le P') {rs : List (Str × Rep)} {kvs : List (Str × Value)} (x : Ents P rs kvs) : Ents P' rs kvs := ⟨x.1, x.2.mono l⟩

noncomputable def RDict (prog : Program) (w : World) (rs : List (Str × Rep)) : Rep :=
  ⟨fun P v => ∃ a o kvs, v = .ref a ∧ a ≠ sysModules ∧ P.get a = some o ∧ DictObj prog w o kvs ∧ Ents P rs kvs, fun _ _ _ l ⟨a, o, kvs, e, n, g, d, r⟩ => ⟨a, o, kvs, e, n, l.2 _ _ g, d, r.mono l⟩⟩

/-- lists of names as tables -/
noncomputable def look {α : Type} (l : List (Str × α)) (k : Str) : Option α := (l.find? fun kv => kv.1 = k).map (·.2)
noncomputable def put {α : Type} (l : List (Str × α)) (k : Str) (a : α) : List (Str × α) := if l.any (fun kv => kv.1 = k) then l.map (fun kv => if kv.1 = k then (kv.1, a) else kv) else l ++ [(k, a)]

theorem Ents.nil {P : Part} : Ents P [] [] := ⟨rfl, trivial⟩
theorem Ents.look {P : Part} : ∀ {rs : List (Str × Rep)} {kvs : List (Str × Value)} {k : Str} {r : Rep}, Ents P rs kvs → look rs k = some r → ∃ v, valueAt kvs k = some v ∧ r.h P v
  | [], [], _, _, _, e => by cases e
  | (k₁, r₁) :: rs, (k₂, v₂) :: kvs, k, r, x, e => by
    have hk : k₂ = k₁ := (List.cons.inj x.1).1
    subst hk
    unfold Mine.look at e; unfold valueAt
    rw [List.find?_cons] at e ⊢
    by_cases q : k₂ = k
    · simp only [q, decide_true, Option.map_some, Option.some.injEq] at e ⊢
      subst e; exact ⟨_, rfl, x.2.1⟩
    · simp only [q, decide_false] at e ⊢
      exact Ents.look (rs := rs) (kvs := kvs) ⟨(List.cons.inj x.1).2, x.2.2⟩ e
theorem Ents.look_none {P : Part} : ∀ {rs : List (Str × Rep)} {kvs : List (Str × Value)} {k : Str}, Ents P rs kvs → Mine.look rs k = none → valueAt kvs k = none
  | [], [], _, _, _ => rfl
  | (k₁, r₁) :: rs, (k₂, v₂) :: kvs, k, x, e => by
    have hk : k₂ = k₁ := (List.cons.inj x.1).1
    subst hk
    unfold Mine.look at e; unfold valueAt
    rw [List.find?_cons] at e ⊢
    by_cases q : k₂ = k
    · simp only [q, decide_true, Option.map_some] at e; cases e
    · simp only [q, decide_false] at e ⊢
      exact Ents.look_none (rs := rs) (kvs := kvs) ⟨(List.cons.inj x.1).2, x.2.2⟩ e

theorem Ents.any {P : Part} : ∀ {rs : List (Str × Rep)} {kvs : List (Str × Value)} {k : Str}, Ents P rs kvs → (kvs.any fun kv => kv.1 = k) = (rs.any fun kv => kv.1 = k)
  | [], [], _, _ => rfl
  | (k₁, r₁) :: rs, (k₂, v₂) :: kvs, k, x => by
    have hk : k₂ = k₁ := (List.cons.inj x.1).1
    subst hk
    rw [List.any_cons, List.any_cons, Ents.any (rs := rs) (kvs := kvs) ⟨(List.cons.inj x.1).2, x.2.2⟩]
theorem Ents.maps {P : Part} {k : Str} {r : Rep} {v : Value} (y : r.h P v) : ∀ {rs : List (Str × Rep)} {kvs : List (Str × Value)}, Ents P rs kvs →
    Ents P (rs.map fun kv => if kv.1 = k then (kv.1, r) else kv) (kvs.map fun kv => if kv.1 = k then (kv.1, v) else kv)
  | [], [], _ => ⟨rfl, trivial⟩
  | (k₁, r₁) :: rs, (k₂, v₂) :: kvs, x => by
    have hk : k₂ = k₁ := (List.cons.inj x.1).1
    subst hk
    have ih := Ents.maps (rs := rs) (kvs := kvs) (k := k) y ⟨(List.cons.inj x.1).2, x.2.2⟩
    by_cases q : k₂ = k
    · exact ⟨by simp only [List.map_cons, q, if_true]; exact congrArg _ ih.1, by simp only [List.map_cons, q, if_true]; exact ⟨y, ih.2⟩⟩
    · exact ⟨by simp only [List.map_cons, q, if_false]; exact congrArg _ ih.1, by simp only [List.map_cons, q, if_false]; exact ⟨x.2.1, ih.2⟩⟩
theorem Ents.put {P : Part} {rs : List (Str × Rep)} {kvs : List (Str × Value)} {k : Str} {r : Rep} {v : Value} (x : Ents P rs kvs) (y : r.h P v) : Ents P (put rs k r) (stored kvs k v) := by
  unfold Mine.put stored
  rw [x.any]
  by_cases q : (rs.any fun kv => kv.1 = k) = true
  · rw [if_pos q, if_pos q]; exact x.maps y
  · rw [if_neg q, if_neg q]
    refine ⟨by simp only [List.map_append, x.1]; rfl, ?_⟩
    simp only [List.map_append]
    exact x.2.append ⟨y, trivial⟩
theorem Ents.length {P : Part} {rs : List (Str × Rep)} {kvs : List (Str × Value)} (x : Ents P rs kvs) : kvs.length = rs.length := by
  have := congrArg List.length x.1
  simpa using this

/-- one thing among the own ones -/
inductive Upd : List U → U → U → List U → Prop
  | head {u u' : U} {O : List U} : Upd (u :: O) u u' (u' :: O)
  | tail {x u u' : U} {O O' : List U} : Upd O u u' O' → Upd (x :: O) u u' (x :: O')
theorem Upd.perm {O O' : List U} {u u' : U} (h : Upd O u u' O') : ∃ R, O.Perm (u :: R) ∧ O'.Perm (u' :: R) := by
  induction h with
  | head => exact ⟨_, .refl _, .refl _⟩
  | tail _ ih => obtain ⟨R, a, b⟩ := ih; exact ⟨_, (a.cons _).trans (.swap _ _ _), (b.cons _).trans (.swap _ _ _)⟩
theorem Upd.mem {O O' : List U} {u u' : U} (h : Upd O u u' O') : u ∈ O := by obtain ⟨R, a, _⟩ := h.perm; exact a.mem_iff.mpr (.head _)
theorem Sat.upd {P : Part} {O O' : List U} {u u' : U} {s : Shared} {h' : Heap} {tk : Nat} (x : Sat P O s) (U₁ : Upd O u u' O') (ht : s.toks ≤ tk) (hk : ∀ b o, b ∉ u.fp → s.heap.get? b = some o → h'.get? b = some o)
    (hf : ∀ a ∈ u'.fp, a ∈ u.fp ∨ s.heap.get? a = none) (hn : u'.fp.Nodup) (ho : u'.ok h') : Sat P O' { s with heap := h', toks := tk } := by
  obtain ⟨R, a, b⟩ := U₁.perm
  exact ((x.perm a).turn ht hk hf hn ho).perm b.symm

/-- kinds of own things -/
noncomputable def frameU (L : Addr) (ns : List Str) (vs : List (Option Value)) : U where
  fp := [L]
  ok h := ns.Nodup ∧ ∃ m, h.Ns L m ∧ ∀ (i : Nat) (x : Str) (v : Value), ns[i]? = some x → vs[i]? = some (some v) → m x = some v
  stable h h' k := fun ⟨n, m, hn, hv⟩ => ⟨n, m, let ⟨o, es, ep, e, r⟩ := hn; ⟨o, es, ep, k L (.head _) o e, r⟩, hv⟩
  alive h := fun ⟨n, m, ⟨o, es, ep, e, r⟩, hv⟩ a ha => by cases ha with | head => exact ⟨o, e⟩ | tail _ q => cases q
noncomputable def cellU (c : Addr) (v : Option Value) : U where
  fp := [c]
  ok h := h.IsCell c v
  stable h h' k := fun ⟨o, e, d⟩ => ⟨o, k c (.head _) o e, d⟩
  alive h := fun ⟨o, e, d⟩ a ha => by cases ha with | head => exact ⟨o, e⟩ | tail _ q => cases q
noncomputable def listU (l : Addr) (items : List Value) : U where
  fp := [l]
  ok h := h.PlainList l items.toArray
  stable h h' k := fun ⟨n, e⟩ => ⟨n, k l (.head _) _ e⟩
  alive h := fun ⟨n, e⟩ a ha => by cases ha with | head => exact ⟨_, e⟩ | tail _ q => cases q
noncomputable def dictU (prog : Program) (w : World) (d : Addr) (kvs : List (Str × Value)) : U where
  fp := [d]
  ok h := ∃ o, h.get? d = some o ∧ DictObj prog w o kvs
  stable h h' k := fun ⟨o, e, r⟩ => ⟨o, k d (.head _) _ e, r⟩
  alive h := fun ⟨o, e, r⟩ a ha => by cases ha with | head => exact ⟨_, e⟩ | tail _ q => cases q

/-- what is seen in every heap of this state -/
noncomputable def Sees (P : Part) (O : List U) (q : Heap → Prop) : Prop := ∀ s, Sat P O s → q s.heap
theorem Sees.mem {P : Part} {O : List U} {u : U} (h : u ∈ O) : Sees P O u.ok := fun s x => x.own u h
theorem Sees.mono {P : Part} {O : List U} {q q' : Heap → Prop} (x : Sees P O q) (h : ∀ g, q g → q' g) : Sees P O q' := fun s y => h _ (x s y)

/-- which value stands under a name -/
inductive Has : List Str → List (Option Value) → Str → Value → Prop
  | head {x : Str} {ns : List Str} {v : Value} {vs : List (Option Value)} : Has (x :: ns) (some v :: vs) x v
  | tail {x y : Str} {ns : List Str} {v : Value} {o : Option Value} {vs : List (Option Value)} : Has ns vs x v → Has (y :: ns) (o :: vs) x v
theorem Has.at {ns : List Str} {vs : List (Option Value)} {x : Str} {v : Value} (h : Has ns vs x v) : ∃ i : Nat, ns[i]? = some x ∧ vs[i]? = some (some v) := by
  induction h with
  | head => exact ⟨0, rfl, rfl⟩
  | tail _ ih => obtain ⟨i, a, b⟩ := ih; exact ⟨i + 1, a, b⟩
inductive Put : List Str → List (Option Value) → Str → Value → List (Option Value) → Prop
  | head {x : Str} {ns : List Str} {v : Value} {o : Option Value} {vs : List (Option Value)} : Put (x :: ns) (o :: vs) x v (some v :: vs)
  | tail {x y : Str} {ns : List Str} {v : Value} {o : Option Value} {vs vs' : List (Option Value)} : Put ns vs x v vs' → Put (y :: ns) (o :: vs) x v (o :: vs')
theorem Put.at {ns : List Str} {vs vs' : List (Option Value)} {x : Str} {v : Value} (h : Put ns vs x v vs') : ∃ i : Nat, ns[i]? = some x ∧ ∀ (j : Nat) (u : Value), vs'[j]? = some (some u) → (j = i ∧ u = v) ∨ (j ≠ i ∧ vs[j]? = some (some u)) := by
  induction h with
  | head => exact ⟨0, rfl, fun j u e => by cases j with | zero => exact .inl ⟨rfl, by cases e; rfl⟩ | succ j => exact .inr ⟨Nat.succ_ne_zero _, e⟩⟩
  | tail _ ih => 
    obtain ⟨i, a, b⟩ := ih
    exact ⟨i + 1, a, fun j u e => by
      cases j with
      | zero => exact .inr ⟨(Nat.succ_ne_zero _).symm, e⟩
      | succ j => exact (b j u e).imp (fun ⟨p, q⟩ => ⟨by rw [p], q⟩) fun ⟨p, q⟩ => ⟨fun z => p (Nat.succ.inj z), q⟩⟩
theorem frame_put {h h' : Heap} {L : Addr} {ns : List Str} {vs vs' : List (Option Value)} {x : Str} {v : Value} (hu : (frameU L ns vs).ok h) (hp : Put ns vs x v vs')
    (hh : ∀ m, h.Ns L m → h'.Ns L (fun y => if y = x then some v else m y)) : (frameU L ns vs').ok h' := by
  obtain ⟨hn, m, hm, hv⟩ := hu
  obtain ⟨i, hi, hj⟩ := hp.at
  refine ⟨hn, _, hh m hm, fun j y u ej eu => ?_⟩
  rcases hj j u eu with ⟨rfl, rfl⟩ | ⟨hne, eu'⟩
  · rw [hi] at ej; cases ej; simp
  · have : y ≠ x := fun q => hne (by
      subst q
      obtain ⟨l1, e1⟩ := List.getElem?_eq_some_iff.mp ej
      obtain ⟨l2, e2⟩ := List.getElem?_eq_some_iff.mp hi
      exact (List.getElem_inj hn).mp (e1.trans e2.symm))
    show (if y = x then some v else m y) = some u
    rw [if_neg this]; exact hv j y u ej eu'
theorem frame_has {h : Heap} {L : Addr} {ns : List Str} {vs : List (Option Value)} {x : Str} {v : Value} (hu : (frameU L ns vs).ok h) (hp : Has ns vs x v) : ∃ m, h.Ns L m ∧ m x = some v := by
  obtain ⟨hn, m, hm, hv⟩ := hu
  obtain ⟨i, a, b⟩ := hp.at
  exact ⟨m, hm, hv i x v a b⟩
end

section
section
variable {prog : Program} {w : World} {A : Around} {P : Part} {O : List U}

/-- a tree gives a value, the own things stand -/
noncomputable def Gv (prog : Program) (w : World) (A : Around) (t : Sem Value) (P : Part) (O : List U) (R : Rep) : Prop := Do prog w A t P O (fun v P' O' => O' = O ∧ R.h P' v)

theorem Gv.base {t : Sem Value} {R : Rep} (h : ∀ s, Sat P O s → wpAny (model prog w) A t (fun v s' => s.toks ≤ s'.toks → ∃ P', P.le P' ∧ Sat P' O s' ∧ R.h P' v) (fun _ _ => False) s) : Gv prog w A t P O R :=
  Do.base fun s x => wpAny_mono (h s x) (fun v s' y ht => let ⟨P', l, z, r⟩ := y ht; ⟨P', O, l, z, rfl, r⟩) fun _ _ e => e

/-- the value is at hand, the heap as it was -/
theorem here {R : Rep} {s : Shared} {v : Value} {tk : Nat} (x : Sat P O s) (r : R.h P v) : s.toks ≤ tk → ∃ P', P.le P' ∧ Sat P' O { s with toks := tk } ∧ R.h P' v :=
  fun ht => ⟨P, .refl P, x.toks ht, r⟩
theorem here0 {R : Rep} {s : Shared} {v : Value} (x : Sat P O s) (r : R.h P v) : s.toks ≤ s.toks → ∃ P', P.le P' ∧ Sat P' O s ∧ R.h P' v :=
  fun ht => ⟨P, .refl P, x, r⟩

variable {v u : Value}
theorem g_add_str {x y : Str} (hv : (RStr x).h P v) (hu : (RStr y).h P u) (hz : x.length + y.length ≤ sizeLine) : Gv prog w A (binaryOp .Add v u) P O (RStr (x ++ y)) := by
  obtain ⟨t, rfl⟩ := hv; obtain ⟨t', rfl⟩ := hu
  exact Gv.base fun s X => add_str (fun t tk => here X ⟨_, rfl⟩) hz
theorem g_add_int {a b : Int} (hv : (RInt a).h P v) (hu : (RInt b).h P u) : Gv prog w A (binaryOp .Add v u) P O (RInt (a + b)) := by
  obtain ⟨t, rfl⟩ := hv; obtain ⟨t', rfl⟩ := hu
  exact Gv.base fun s X => add_int (here X ⟨_, rfl⟩)
theorem g_sub_int {a b : Int} (hv : (RInt a).h P v) (hu : (RInt b).h P u) : Gv prog w A (binaryOp .Sub v u) P O (RInt (a - b)) := by
  obtain ⟨t, rfl⟩ := hv; obtain ⟨t', rfl⟩ := hu
  exact Gv.base fun s X => sub_int (here X ⟨_, rfl⟩)
theorem g_mod_int {a b : Int} (hv : (RInt a).h P v) (hu : (RInt b).h P u) (hb : b ≠ 0) : Gv prog w A (binaryOp .Mod v u) P O (RInt (a.fmod b)) := by
  obtain ⟨t, rfl⟩ := hv; obtain ⟨t', rfl⟩ := hu
  exact Gv.base fun s X => mod_int hb (here X ⟨_, rfl⟩)
theorem g_fdiv_int {a b : Int} (hv : (RInt a).h P v) (hu : (RInt b).h P u) (hb : b ≠ 0) (hp : Builtin.divisionGoesByPylong a b = false) : Gv prog w A (binaryOp .FloorDiv v u) P O (RInt (a.fdiv b)) := by
  obtain ⟨t, rfl⟩ := hv; obtain ⟨t', rfl⟩ := hu
  exact Gv.base fun s X => floordiv_int hb (here X ⟨_, rfl⟩) (.inl hp)
theorem g_pow_int {a n : Int} (hv : (RInt a).h P v) (hu : (RInt n).h P u) (hn : 0 ≤ n) (hn2 : n ≤ 1000000) (ha : a.natAbs < 2 ^ 64) : Gv prog w A (binaryOp .Pow v u) P O (RInt (a ^ n.toNat)) := by
  obtain ⟨t, rfl⟩ := hv; obtain ⟨t', rfl⟩ := hu
  exact Gv.base fun s X => pow_int_small hn hn2 ha (here X ⟨_, rfl⟩)
theorem g_mul_str {x : Str} {n : Int} (hv : (RStr x).h P v) (hu : (RInt n).h P u) (hok : MulOk x n) : Gv prog w A (binaryOp .Mult v u) P O (RStr (Txt.mul x n)) := by
  obtain ⟨t, rfl⟩ := hv; obtain ⟨t', rfl⟩ := hu
  exact Gv.base fun s X => SB.mul hok (fun t tk => here X ⟨_, rfl⟩)
theorem g_iadd_int {a b : Int} (hv : (RInt a).h P v) (hu : (RInt b).h P u) : Gv prog w A (inplaceOp .Add v u) P O (RInt (a + b)) := by
  obtain ⟨t, rfl⟩ := hv; obtain ⟨t', rfl⟩ := hu
  exact Gv.base fun s X => iadd_int (here X ⟨_, rfl⟩)

theorem g_lt_int {a b : Int} (hv : (RInt a).h P v) (hu : (RInt b).h P u) : Gv prog w A (compareOp .Lt v u) P O (RBool (decide (a < b))) := by
  obtain ⟨t, rfl⟩ := hv; obtain ⟨t', rfl⟩ := hu
  exact Gv.base fun s X => lt_int (here0 X rfl)
theorem g_le_int {a b : Int} (hv : (RInt a).h P v) (hu : (RInt b).h P u) : Gv prog w A (compareOp .LtE v u) P O (RBool (decide (a ≤ b))) := by
  obtain ⟨t, rfl⟩ := hv; obtain ⟨t', rfl⟩ := hu
  exact Gv.base fun s X => le_int (here0 X rfl)
theorem g_ge_int {a b : Int} (hv : (RInt a).h P v) (hu : (RInt b).h P u) : Gv prog w A (compareOp .GtE v u) P O (RBool (decide (b ≤ a))) := by
  obtain ⟨t, rfl⟩ := hv; obtain ⟨t', rfl⟩ := hu
  exact Gv.base fun s X => ge_int (here0 X rfl)
theorem g_eq_int {a b : Int} (hv : (RInt a).h P v) (hu : (RInt b).h P u) : Gv prog w A (compareOp .Eq v u) P O (RBool (a == b)) := by
  obtain ⟨t, rfl⟩ := hv; obtain ⟨t', rfl⟩ := hu
  exact Gv.base fun s X => eq_int (here0 X rfl)
theorem g_ne_int {a b : Int} (hv : (RInt a).h P v) (hu : (RInt b).h P u) : Gv prog w A (compareOp .NotEq v u) P O (RBool (a != b)) := by
  obtain ⟨t, rfl⟩ := hv; obtain ⟨t', rfl⟩ := hu
  exact Gv.base fun s X => ne_int (here0 X rfl)
theorem g_eq_str {x y : Str} (hv : (RStr x).h P v) (hu : (RStr y).h P u) : Gv prog w A (compareOp .Eq v u) P O (RBool (x == y)) := by
  obtain ⟨t, rfl⟩ := hv; obtain ⟨t', rfl⟩ := hu
  exact Gv.base fun s X => eq_str (here0 X rfl)
theorem g_ne_str {x y : Str} (hv : (RStr x).h P v) (hu : (RStr y).h P u) : Gv prog w A (compareOp .NotEq v u) P O (RBool (x != y)) := by
  obtain ⟨t, rfl⟩ := hv; obtain ⟨t', rfl⟩ := hu
  exact Gv.base fun s X => ne_str (here0 X rfl)
noncomputable def occ (x y : Str) : Bool := !(Builtin.Str.occurrences x y 0 x.length 1).isEmpty
theorem g_in_str {x y : Str} (hv : (RStr y).h P v) (hu : (RStr x).h P u) : Gv prog w A (compareOp .In v u) P O (RBool (occ x y)) := by
  obtain ⟨t, rfl⟩ := hv; obtain ⟨t', rfl⟩ := hu
  exact Gv.base fun s X => in_str (here0 X rfl)
theorem g_notIn_str {x y : Str} (hv : (RStr y).h P v) (hu : (RStr x).h P u) : Gv prog w A (compareOp .NotIn v u) P O (RBool (!(occ x y))) := by
  obtain ⟨t, rfl⟩ := hv; obtain ⟨t', rfl⟩ := hu
  exact Gv.base fun s X => notIn_str (here0 X rfl)
theorem g_len_str {x : Str} (hv : (RStr x).h P v) (hz : x.length ≤ sizeLine) : Gv prog w A (call (.builtin "len") [v]) P O (RInt x.length) := by
  obtain ⟨t, rfl⟩ := hv
  exact Gv.base fun s X => len_str (by rw [sizeLine_eq] at hz; omega) (here X ⟨_, rfl⟩)
theorem g_item_str {x : Str} {i : Int} {c : Nat} (hv : (RStr x).h P v) (hu : (RInt i).h P u) (hr : (decide (i < -(2 ^ 63 : Int)) || decide (i ≥ 2 ^ 63)) = false) (hc : (seqIndex? i x.length).bind (x.cps[·]?) = some c) :
    Gv prog w A (getItem v u) P O (RStr ⟨#[c]⟩) := by
  obtain ⟨t, rfl⟩ := hv; obtain ⟨t', rfl⟩ := hu
  exact Gv.base fun s X => getItem_str hr hc (here X ⟨_, rfl⟩)
theorem g_truthy_bool {b : Bool} {Φ : Bool → Part → List U → Prop} (hv : (RBool b).h P v) (h : Φ b P O) : Do prog w A (truthy v) P O Φ := by
  obtain rfl := hv
  exact Do.mk fun s X => wpAny_truthy_bool ⟨P, O, .refl P, X, h⟩
end
end

section
section
variable {prog : Program} {w : World} {A : Around} {P : Part} {O O' : List U} {v u z : Value}

theorem fresh_size (h : Heap) : h.get? h.objs.size = none := by
  cases e : h.get? h.objs.size with
  | none => rfl
  | some o => exact absurd (Heap.lt_size e) (Nat.lt_irrefl _)
theorem push_keep (h : Heap) (o : Obj) : ∀ b ob, h.get? b = some ob → (h.push o).get? b = some ob := fun _ _ e => Heap.get?_push_of_some _ e

/-- a new list or tuple that never changes -/
theorem Sat.newSeq {cls : String} {vs : List Value} {rs : List Rep} {s : Shared} {tk : Nat} {ar : Array Value} (x : Sat P O s) (r : Reps P rs vs) (e : ar = vs.toArray) (ht : s.toks ≤ tk) :
    ∃ P', P.le P' ∧ Sat P' O { s with heap := s.heap.push { cls := .type cls, data := .seq ar }, toks := tk } ∧ (RSeq cls rs).h P' (.ref s.heap.objs.size) := by
  subst e
  obtain ⟨l, y⟩ := x.alloc (h' := s.heap.push { cls := .type cls, data := .seq vs.toArray }) ht (push_keep _ _) (fresh_size _) (Heap.get?_push_size _ rfl)
  exact ⟨_, l, y, _, _, 0, rfl, Part.add_self _ _ _, by simpa using r.mono l⟩

/-- a list or a tuple of the part that stays -/
theorem RSeq.sees {cls : String} {rs : List Rep} {P : Part} {v : Value} (x : (RSeq cls rs).h P v) : ∃ a vs n, v = .ref a ∧ Reps P rs vs ∧ ∀ s O, Sat P O s → s.heap.get? a = some ⟨.type cls, none, .seq vs.toArray n, #[]⟩ := by
  obtain ⟨a, vs, n, e, g, r⟩ := x
  exact ⟨a, vs.toList, n, e, r, fun s O y => by simpa using y.per _ _ g⟩

theorem g_newTuple {vs : List Value} {rs : List Rep} (r : Reps P rs vs) (hz : rs.length ≤ sizeLine) : Gv prog w A (newTuple vs) P O (RTup rs) :=
  Gv.base fun s X => wpAny_newObj_type (fun ht => X.newSeq r rfl ht) (by rw [← r.length] at hz; show vs.toArray.size ≤ sizeLine; simpa using hz)
theorem g_newList {vs : List Value} {rs : List Rep} (r : Reps P rs vs) (hz : rs.length ≤ sizeLine) : Gv prog w A (newList vs) P O (RList rs) :=
  Gv.base fun s X => wpAny_newObj_type (fun ht => X.newSeq r rfl ht) (by rw [← r.length] at hz; show vs.toArray.size ≤ sizeLine; simpa using hz)

/-- a new own list -/
theorem o_newList {vs : List Value} {Φ : Value → Part → List U → Prop} (hz : vs.length ≤ sizeLine) (h : ∀ l, Φ (.ref l) P (listU l vs :: O)) : Do prog w A (newList vs) P O Φ :=
  Do.base fun s X => wpAny_newObj_type (fun ht => ⟨P, _, .refl P, X.push (u := listU s.heap.objs.size vs) ht (push_keep _ _) (fun a ha => by cases ha with | head => exact fresh_size _ | tail _ q => cases q) (List.nodup_cons.mpr ⟨by simp, .nil⟩) ⟨0, Heap.get?_push_size _ rfl⟩, h _⟩)
    (by show vs.toArray.size ≤ sizeLine; simpa using hz)
/-- an own list that stands from here on -/
theorem o_freezeList {α : Type} {t : Sem α} {l : Addr} {vs : List Value} {rs : List Rep} {Φ : α → Part → List U → Prop} (hU : ∃ R, O.Perm (listU l vs :: R) ∧ R = O') (r : Reps P rs vs)
    (h : ∀ P', P.le P' → (RList rs).h P' (.ref l) → Do prog w A t P' O' Φ) : Do prog w A t P O Φ := Do.mk fun s X => by
  obtain ⟨R, p, rfl⟩ := hU
  have X' := X.perm p
  obtain ⟨n, e⟩ := X'.own _ (.head _)
  obtain ⟨l1, y⟩ := X'.freeze (a := l) (.head _) e
  exact wpAny_mono ((h _ l1 ⟨_, _, n, rfl, Part.add_self _ _ _, by simpa using r.mono l1⟩).run s y) (fun a s' ⟨P', O', l2, y', f⟩ => ⟨P', O', l1.trans l2, y', f⟩) fun _ _ e => e

theorem g_add_list {rs rs' : List Rep} (hv : (RList rs).h P v) (hu : (RList rs').h P u) (hz : rs.length + rs'.length ≤ sizeLine) : Gv prog w A (binaryOp .Add v u) P O (RList (rs ++ rs')) := by
  obtain ⟨a, vs, n, rfl, r, g⟩ := RSeq.sees hv; obtain ⟨b, us, m, rfl, r', g'⟩ := RSeq.sees hu
  exact Gv.base fun s X => PySem.P.add_list (g s O X) (g' s O X) (fun ht => X.newSeq (r.append r') (by simp) ht) (by rw [← r.length, ← r'.length] at hz; simpa using hz)
/-- an own list at the left -/
theorem g_add_listO {l : Addr} {vs : List Value} {rs rs' : List Rep} (hl : listU l vs ∈ O) (r : Reps P rs vs) (hu : (RList rs').h P u) (hz : rs.length + rs'.length ≤ sizeLine) : Gv prog w A (binaryOp .Add (.ref l) u) P O (RList (rs ++ rs')) := by
  obtain ⟨b, us, m, rfl, r', g'⟩ := RSeq.sees hu
  exact Gv.base fun s X => by
    obtain ⟨n, e⟩ := X.own _ hl
    exact PySem.P.add_list e (g' s O X) (fun ht => X.newSeq (r.append r') (by simp) ht) (by rw [← r.length, ← r'.length] at hz; simpa using hz)
theorem g_add_tup {rs rs' : List Rep} (hv : (RTup rs).h P v) (hu : (RTup rs').h P u) (h1 : 0 < rs.length) (h2 : 0 < rs'.length) (hz : rs.length + rs'.length ≤ sizeLine) : Gv prog w A (binaryOp .Add v u) P O (RTup (rs ++ rs')) := by
  obtain ⟨a, vs, n, rfl, r, g⟩ := RSeq.sees hv; obtain ⟨b, us, m, rfl, r', g'⟩ := RSeq.sees hu
  exact Gv.base fun s X => PySem.P.add_tuple (g s O X) (g' s O X) (by have := r.length; simp; intro q; rw [q] at this; simp at this; omega) (by have := r'.length; simp; intro q; rw [q] at this; simp at this; omega)
    (fun ht => X.newSeq (r.append r') (by simp) ht) (by rw [← r.length, ← r'.length] at hz; simpa using hz)

theorem foldl_rep (vs : List Value) : ∀ (n : Nat) (acc : Array Value), List.foldl (fun x1 x2 => x1 ++ x2) acc (List.replicate n vs.toArray) = (acc.toList ++ (List.replicate n vs).flatten).toArray
  | 0, acc => by simp
  | n + 1, acc => by rw [List.replicate_succ, List.foldl_cons, foldl_rep vs n]; simp [List.replicate_succ]
theorem Reps.rep {P : Part} {rs : List Rep} {vs : List Value} (r : Reps P rs vs) : ∀ n, Reps P (List.replicate n rs).flatten (List.replicate n vs).flatten
  | 0 => trivial
  | n + 1 => by simp only [List.replicate_succ, List.flatten_cons]; exact r.append (r.rep n)
theorem g_mul_list {rs : List Rep} {x : Int} (hv : (RList rs).h P v) (hu : (RInt x).h P u) (hlo : -(2 ^ 63 : Int) ≤ x) (hhi : x < 2 ^ 63) (h0 : 0 < rs.length) (hsz : rs.length * x.toNat ≤ 2 ^ 24) :
    Gv prog w A (binaryOp .Mult v u) P O (RList (List.replicate x.toNat rs).flatten) := by
  obtain ⟨l, vs, k, rfl, r, g⟩ := RSeq.sees hv; obtain ⟨t, rfl⟩ := hu
  refine Gv.base fun s X => ?_
  have hl := g s O X
  have hne : vs.toArray.isEmpty = false := by have := r.length; cases vs with | nil => simp at this; omega | cons _ _ => rfl
  exact wpAny_binaryOp_repeat_ref (T := "list") (U := "int") (by decide) ⟨_, hl, rfl⟩ (fun s' => typeIs_int s' x t) noFill_list_mul F.fills_int_mul F.slot_int_rmul repeat_list F.slot_int_index.lookup
    (call_meets F.slot_int_rmul (typeIs_int s x t) F.entry_int_rmul (F.args_int_rmul_2 _ _) (int___rmul___int_list x t l vs.toArray k)
      ⟨hl, rfl, ⟨_, hl, rfl⟩, call_meets F.slot_list_mul ⟨_, hl, rfl⟩ F.entry_list_mul (F.args_list_mul_2 _ _)
        (AutoListH.list___mul___list_int_3 l vs.toArray k x t (by simp [Builtin.List.listFitsIndex]; omega) (by rw [← r.length] at hsz; simp; omega) (by rw [← r.length] at hsz; simp [Builtin.List.listTooLong, sizeLine]; omega))
        ⟨hl, fun ht => X.newSeq (r.rep x.toNat) (by rw [hne, if_neg Bool.false_ne_true, foldl_rep]; simp) ht⟩⟩)

theorem g_item_list {rs : List Rep} {k : Int} {r : Rep} (hv : (RList rs).h P v) (hu : (RInt k).h P u) (h0 : 0 ≤ k) (hk : k < 2 ^ 63) (hx : rs[k.toNat]? = some r) : Gv prog w A (getItem v u) P O r := by
  obtain ⟨l, vs, n, rfl, rr, g⟩ := RSeq.sees hv; obtain ⟨t, rfl⟩ := hu
  obtain ⟨y, hy, hr⟩ := rr.get hx
  exact Gv.base fun s X => wpAny_getItem_list ⟨_, g s O X, rfl, n, rfl⟩ h0 hk (by simpa using hy) (here0 X hr)
theorem g_item_listO {l : Addr} {vs : List Value} {rs : List Rep} {k : Int} {r : Rep} (hl : listU l vs ∈ O) (rr : Reps P rs vs) (hu : (RInt k).h P u) (h0 : 0 ≤ k) (hk : k < 2 ^ 63) (hx : rs[k.toNat]? = some r) : Gv prog w A (getItem (.ref l) u) P O r := by
  obtain ⟨t, rfl⟩ := hu
  obtain ⟨y, hy, hr⟩ := rr.get hx
  exact Gv.base fun s X => wpAny_getItem_list (Heap.PlainList.isList (X.own _ hl)) h0 hk (by simpa using hy) (here0 X hr)
theorem g_item_tup {rs : List Rep} {k : Int} {r : Rep} (hv : (RTup rs).h P v) (hu : (RInt k).h P u) (h0 : 0 ≤ k) (hk : k < 2 ^ 63) (hx : rs[k.toNat]? = some r) : Gv prog w A (getItem v u) P O r := by
  obtain ⟨l, vs, n, rfl, rr, g⟩ := RSeq.sees hv; obtain ⟨t, rfl⟩ := hu
  obtain ⟨y, hy, hr⟩ := rr.get hx
  have hlt : k.toNat < vs.length := (List.getElem?_eq_some_iff.mp hy).1
  exact Gv.base fun s X => PySem.P.getItem_tuple (g s O X) (by omega) hk (seqIndex_of h0 (by simp; omega)) (by simpa using hy) (here0 X hr)

/-- a store into an own list -/
theorem o_setItem_list {l : Addr} {vs : List Value} {k : Int} {Φ : Unit → Part → List U → Prop} (hU : Upd O (listU l vs) (listU l (vs.set k.toNat z)) O') (hu : (RInt k).h P u) (h0 : 0 ≤ k) (hfit : k < 2 ^ 63) (hn : k < vs.length)
    (h : Φ () P O') : Do prog w A (setItem (.ref l) u z) P O Φ := by
  obtain ⟨t, rfl⟩ := hu
  refine Do.base fun s X => ?_
  obtain ⟨ep, ho⟩ := X.own _ hU.mem
  have hl : s.heap.IsList l vs.toArray := ⟨_, ho, rfl, ep, rfl⟩
  unfold setItem
  try with_reducible refine wpAny_holding ?_
  refine wpAny_bind (wpAny_sequenceKey hl.typeIs (by decide) ?_)
  refine wpAny_bind (wpAny_callSpecial?_slot (name := Str.ofString "__setitem__") hl.typeIs slot_list_setitem
    (wpAny_call_entry slot_list_setitem hl.typeIs entry_list_setitem ?_ (args_list_setitem _ _ _)))
  show wpAny _ _ (Builtin.List.listSubscript? (.int k t) >>= _) _ _ s
  refine wpAny_bind (wpAny_listSubscript_int (fitsIndex_of h0 hfit) ?_)
  clear hfit
  obtain ⟨j, rfl⟩ := Int.eq_ofNat_of_zero_le h0
  have hj : j < vs.toArray.size := by simp; omega
  have hx' : vs.toArray[j]? = some vs.toArray[j] := Array.getElem?_eq_getElem hj
  show wpAny _ _ ((seqItemAt l j >>= fun r => pure (r.map (j, ·))) >>= _) _ _ s
  refine wpAny_bind (wpAny_bind (wpAny_seqItemAt ho rfl (wpAny_pure ?_)))
  rw [hx']
  show wpAny _ _ (setSeqItemAt l j z >>= _) _ _ s
  refine wpAny_bind (wpAny_setSeqItemAt ho rfl (wpAny_pure ⟨.none, rfl, wpAny_pure fun ht => ⟨P, _, .refl P, X.upd hU (Nat.le_refl _) (fun b o hb e => ?_) (fun a ha => .inl ha) (List.nodup_cons.mpr ⟨by simp, .nil⟩) ⟨ep, ?_⟩, h⟩⟩))
  · exact (Heap.get?_update_other _ _ (fun (q : l = b) => hb (by rw [q]; exact .head _))).trans e
  · have e := Heap.get?_update_self (Obj.mapSeq (·.setIfInBounds j z)) ho rfl
    rw [e]
    simp [Obj.mapSeq]

theorem o_append {l : Addr} {vs : List Value} {Φ : Value → Part → List U → Prop} (hU : Upd O (listU l vs) (listU l (vs ++ [z])) O') (hz : vs.length ≤ sizeLine) (h : Φ .none P O') :
    Do prog w A (call (.builtin "list.append") [.ref l, z]) P O Φ :=
  Do.base fun s X => wpAny_list_append_plain (X.own _ hU.mem) (fun h' hl hs ht => ⟨P, _, .refl P, X.upd hU ht (fun b o hb e => (hs.2 b (fun q => hb (by rw [q]; exact .head _))).trans e) (fun a ha => .inl ha) (List.nodup_cons.mpr ⟨by simp, .nil⟩) (by
    show h'.PlainList l (vs ++ [z]).toArray
    simpa using hl), h⟩) (by simpa using hz)

theorem g_len_list {rs : List Rep} (hv : (RList rs).h P v) (hz : rs.length ≤ sizeLine) : Gv prog w A (call (.builtin "len") [v]) P O (RInt rs.length) := by
  obtain ⟨l, vs, n, rfl, rr, g⟩ := RSeq.sees hv
  rw [← rr.length] at hz ⊢
  exact Gv.base fun s X => len_list (items := vs.toArray) ⟨_, g s O X, rfl, n, rfl⟩ (by rw [sizeLine_eq] at hz; simp; omega) (here X ⟨_, by simp; rfl⟩)
theorem g_len_listO {l : Addr} {vs : List Value} (hl : listU l vs ∈ O) (hz : vs.length ≤ sizeLine) : Gv prog w A (call (.builtin "len") [.ref l]) P O (RInt vs.length) :=
  Gv.base fun s X => len_list (Heap.PlainList.isList (X.own _ hl)) (by rw [sizeLine_eq] at hz; simp; omega) (here X ⟨_, by simp; rfl⟩)
theorem g_len_tup {rs : List Rep} (hv : (RTup rs).h P v) (hz : rs.length ≤ sizeLine) : Gv prog w A (call (.builtin "len") [v]) P O (RInt rs.length) := by
  obtain ⟨l, vs, n, rfl, rr, g⟩ := RSeq.sees hv
  rw [← rr.length] at hz ⊢
  exact Gv.base fun s X => PySem.P.len_tuple (g s O X) (by rw [sizeLine_eq] at hz; simp; omega) (here X ⟨_, by simp; rfl⟩)

/-- a list against the empty one -/
theorem g_eq_nil {rs : List Rep} (hv : (RList rs).h P v) (hu : (RList []).h P u) (hA : A.units < cLine) : Gv prog w A (compareOp .Eq v u) P O (RBool rs.isEmpty) := by
  obtain ⟨a, vs, n, rfl, r, g⟩ := RSeq.sees hv; obtain ⟨b, us, m, rfl, r', g'⟩ := RSeq.sees hu
  have h0 : us = [] := List.eq_nil_of_length_eq_zero r'.length
  subst h0
  cases rs with
  | nil =>
    have h0 : vs = [] := List.eq_nil_of_length_eq_zero r.length
    subst h0
    exact Gv.base fun s X => PySem.P.eq_list (e := fun _ => true) (g s O X) (g' s O X) rfl (fun j h1 => by simp at h1) hA (here0 X rfl)
  | cons r₁ rs =>
    have hl := r.length
    exact Gv.base fun s X => PySem.P.eq_list_lengths (g s O X) (g' s O X) (by simp at hl; simp [hl]) hA (here0 X rfl)

theorem g_tuple_list {rs : List Rep} (hv : (RList rs).h P v) (hz : rs.length ≤ sizeLine) : Gv prog w A (call (.type "tuple") [v]) P O (RTup rs) := by
  obtain ⟨l, vs, n, rfl, r, g⟩ := RSeq.sees hv
  refine Gv.base fun s X => call_tuple_list (items := vs.toArray) ⟨_, g s O X, rfl, n, rfl⟩ (fun h' hk ht => ?_) (by rw [← r.length] at hz; simpa using hz)
  obtain ⟨P', l1, y, z⟩ := (X.keep (h' := h') (tk := s.toks) (Nat.le_refl _) hk).newSeq (cls := "tuple") r rfl (Nat.le_refl _)
  exact ⟨P', l1, y, z⟩
theorem g_tuple_listO {l : Addr} {vs : List Value} {rs : List Rep} (hl : listU l vs ∈ O) (r : Reps P rs vs) (hz : rs.length ≤ sizeLine) : Gv prog w A (call (.type "tuple") [.ref l]) P O (RTup rs) := by
  refine Gv.base fun s X => call_tuple_list (items := vs.toArray) (Heap.PlainList.isList (X.own _ hl)) (fun h' hk ht => ?_) (by rw [← r.length] at hz; simpa using hz)
  obtain ⟨P', l1, y, z⟩ := (X.keep (h' := h') (tk := s.toks) (Nat.le_refl _) hk).newSeq (cls := "tuple") r rfl (Nat.le_refl _)
  exact ⟨P', l1, y, z⟩
theorem g_max_int {a b : Int} (hA : A.handled = none) (hv : (RInt a).h P v) (hu : (RInt b).h P u) : Gv prog w A (call (.builtin "max") [v, u]) P O (RInt (max a b)) := by
  obtain ⟨t, rfl⟩ := hv; obtain ⟨t', rfl⟩ := hu
  refine Gv.base fun s X => max_two_ints hA fun h' tk hk ht => ⟨P, .refl P, X.keep ht hk, ?_⟩
  by_cases c : b > a
  · rw [if_pos c]; exact ⟨_, by rw [show max a b = b by omega]⟩
  · rw [if_neg c]; exact ⟨_, by rw [show max a b = a by omega]⟩
end
end

section
section
variable {prog : Program} {w : World} {A : Around} {env : Env} {P : Part} {O O' : List U} {R R1 R2 R3 : Rep} {pos : Pos}

/-- an expression's value, wherever the part that stays has grown to -/
noncomputable def Ev (prog : Program) (w : World) (A : Around) (env : Env) (e : Expr) (P : Part) (O : List U) (R : Rep) : Prop := ∀ P', P.le P' → Gv prog w A (eval e env) P' O R
/-- a test's answer -/
noncomputable def Tst (prog : Program) (w : World) (A : Around) (env : Env) (e : Expr) (P : Part) (O : List U) (b : Bool) : Prop :=
  ∀ P', P.le P' → Do prog w A (isTrue e env (eval e env)) P' O (fun r P'' O' => O' = O ∧ r = b)
noncomputable def EvL (prog : Program) (w : World) (A : Around) (env : Env) (pos : Pos) (es : List Expr) (P : Part) (O : List U) (Rs : List Rep) : Prop :=
  ∀ P', P.le P' → Do prog w A (spliced (backTo pos (starEach es env))) P' O (fun vs P'' O' => O' = O ∧ Reps P'' Rs vs)

theorem Ev.up {e : Expr} {P' : Part} (h : Ev prog w A env e P O R) (l : P.le P') : Ev prog w A env e P' O R := fun P'' l' => h P'' (l.trans l')
theorem Tst.up {e : Expr} {b : Bool} {P' : Part} (h : Tst prog w A env e P O b) (l : P.le P') : Tst prog w A env e P' O b := fun P'' l' => h P'' (l.trans l')
theorem Ev.weak {e : Expr} (h : Ev prog w A env e P O R1) (hh : ∀ P' v, R1.h P' v → R.h P' v) : Ev prog w A env e P O R := fun P' l => (h P' l).mono fun v P'' O' _ ⟨a, b⟩ => ⟨a, hh _ _ b⟩
theorem Tst.of_eq {e : Expr} {b c : Bool} (h : Tst prog w A env e P O b) (hh : b = c) : Tst prog w A env e P O c := hh ▸ h

/-- names -/
theorem ev_local {x : Str} {L : Addr} {ns : List Str} {vs : List (Option Value)} {v : Value} (hu : frameU L ns vs ∈ O) (hv : Has ns vs x v) (hr : R.h P v)
    (hL : env.locals = L := by rfl) (hk : env.scope.kind = .function := by rfl) (hl : env.kindOf x = some .local := by rfl) (hd : (x == ("__debug__" : Str)) = false := by decide) : Ev prog w A env (.Name x pos) P O R := fun P' l => by
  subst hL
  refine Gv.base fun s X => ?_
  obtain ⟨m, hm, hx⟩ := frame_has (X.own _ hu) hv
  exact wpAny_Name (wpAny_loadName_local hk hl hm hx (here0 X (R.mono _ _ _ l hr))) hd
theorem ev_cell {x : Str} {c : Addr} {v : Value} (hu : cellU c (some v) ∈ O) (hr : R.h P v) (hc : env.cells.lookup x = some c := by rfl)
    (hk : env.scope.kind = .function := by rfl) (hl : env.kindOf x = some .cell := by rfl) (hd : (x == ("__debug__" : Str)) = false := by decide) : Ev prog w A env (.Name x pos) P O R := fun P' l =>
  Gv.base fun s X => wpAny_Name (wpAny_loadName_cell hk hl hc (X.own _ hu) (here0 X (R.mono _ _ _ l hr))) hd
theorem ev_free {x : Str} {c : Addr} {v : Value} (hu : cellU c (some v) ∈ O) (hr : R.h P v) (hc : env.cells.lookup x = some c := by rfl)
    (hk : env.scope.kind = .function := by rfl) (hl : env.kindOf x = some .free := by rfl) (hd : (x == ("__debug__" : Str)) = false := by decide) (hn : (x == ("__classdict__" : Str)) = false := by decide) : Ev prog w A env (.Name x pos) P O R := fun P' l =>
  Gv.base fun s X => wpAny_Name (wpAny_loadName_free hk hl hc (X.own _ hu) (here0 X (R.mono _ _ _ l hr)) hn) hd

/-- literals -/
theorem ev_str {x : Str} {k : Nat} : Ev prog w A env (.Constant (.str x) k pos) P O (RStr x) := fun P' l => Gv.base fun s X => wpAny_Constant_str (here X ⟨_, rfl⟩)
theorem ev_int {i : Int} {k : Nat} : Ev prog w A env (.Constant (.int i) k pos) P O (RInt i) := fun P' l => Gv.base fun s X => wpAny_Constant_int (here X ⟨_, rfl⟩)
theorem ev_bool {b : Bool} {k : Nat} : Ev prog w A env (.Constant (.bool b) k pos) P O (RBool b) := fun P' l => Gv.base fun s X => wpAny_Constant_bool (here0 X rfl)
theorem ev_none {k : Nat} : Ev prog w A env (.Constant .none k pos) P O RNone := fun P' l => Gv.base fun s X => wpAny_Constant_none (here0 X rfl)

/-- two values, then an operation -/
theorem ev_bin {op : Operator} {a b : Expr} (h1 : Ev prog w A env a P O R1) (h2 : Ev prog w A env b P O R2)
    (h3 : ∀ P' v u, P.le P' → R1.h P' v → R2.h P' u → Gv prog w A (binaryOp op v u) P' O R) : Ev prog w A env (.BinOp a op b pos) P O R := fun P' l => Do.mk fun s X =>
  wpAny_BinOp (wpAny_mono ((h1 P' l).run s X) (fun v s1 ⟨P1, O1, l1, X1, e1, r1⟩ => wpAny_mono ((h2 P1 (l.trans l1)).run s1 (e1 ▸ X1)) (fun u s2 ⟨P2, O2, l2, X2, e2, r2⟩ =>
    wpAny_mono ((h3 P2 v u ((l.trans l1).trans l2) (R1.mono _ _ _ l2 r1) r2).run s2 (e2 ▸ X2)) (fun z s3 ⟨P3, O3, l3, X3, f⟩ => ⟨P3, O3, (l1.trans l2).trans l3, X3, f⟩) fun _ _ e => e) fun _ _ e => e) fun _ _ e => e)
theorem ev_cmp {op : CmpOp} {a b : Expr} (h1 : Ev prog w A env a P O R1) (h2 : Ev prog w A env b P O R2)
    (h3 : ∀ P' v u, P.le P' → R1.h P' v → R2.h P' u → Gv prog w A (compareOp op v u) P' O R) (hm : behindInMarks op b = false := by rfl) : Ev prog w A env (.Compare a [op] [b] pos) P O R := fun P' l => Do.mk fun s X =>
  wpAny_Compare1 (wpAny_mono ((h1 P' l).run s X) (fun v s1 ⟨P1, O1, l1, X1, e1, r1⟩ => wpAny_mono ((h2 P1 (l.trans l1)).run s1 (e1 ▸ X1)) (fun u s2 ⟨P2, O2, l2, X2, e2, r2⟩ =>
    wpAny_mono ((h3 P2 v u ((l.trans l1).trans l2) (R1.mono _ _ _ l2 r1) r2).run s2 (e2 ▸ X2)) (fun z s3 ⟨P3, O3, l3, X3, f⟩ => ⟨P3, O3, (l1.trans l2).trans l3, X3, f⟩) fun _ _ e => e) fun _ _ e => e) fun _ _ e => e) hm
theorem tst_cmp {op : CmpOp} {a b : Expr} {c : Bool} (h1 : Ev prog w A env a P O R1) (h2 : Ev prog w A env b P O R2)
    (h3 : ∀ P' v u, P.le P' → R1.h P' v → R2.h P' u → Gv prog w A (compareOp op v u) P' O (RBool c)) (hm : behindInMarks op b = false := by rfl) : Tst prog w A env (.Compare a [op] [b] pos) P O c := fun P' l => Do.mk fun s X =>
  wpAny_isTrue_Compare1 (wpAny_mono ((h1 P' l).run s X) (fun v s1 ⟨P1, O1, l1, X1, e1, r1⟩ => wpAny_mono ((h2 P1 (l.trans l1)).run s1 (e1 ▸ X1)) (fun u s2 ⟨P2, O2, l2, X2, e2, r2⟩ =>
    wpAny_mono ((h3 P2 v u ((l.trans l1).trans l2) (R1.mono _ _ _ l2 r1) r2).run s2 (e2 ▸ X2)) (fun z s3 ⟨P3, O3, l3, X3, e3, r3⟩ => by
      have r3' : z = .bool c := r3
      subst r3'
      exact wpAny_truthy_bool ⟨P3, O3, (l1.trans l2).trans l3, X3, e3, rfl⟩) fun _ _ e => e) fun _ _ e => e) fun _ _ e => e) hm
theorem tst_not {a : Expr} {c : Bool} (h : Tst prog w A env a P O c) : Tst prog w A env (.UnaryOp .Not a pos) P O (!c) := fun P' l => Do.mk fun s X =>
  isTrue_not (wpAny_mono ((h P' l).run s X) (fun r s1 ⟨P1, O1, l1, X1, e1, r1⟩ => ⟨P1, O1, l1, X1, e1, by rw [r1]⟩) fun _ _ e => e)
theorem tst_and {a b : Expr} {c d : Bool} (h1 : Tst prog w A env a P O c) (h2 : c = true → Tst prog w A env b P O d) : Tst prog w A env (.BoolOp .And [a, b] pos) P O (c && d) := fun P' l => Do.mk fun s X =>
  isTrue_and (wpAny_mono ((h1 P' l).run s X) (fun r s1 ⟨P1, O1, l1, X1, e1, r1⟩ => by
    subst r1
    cases hc : r with
    | false => exact ⟨P1, O1, l1, X1, e1, rfl⟩
    | true => exact isTrue_and (wpAny_mono ((h2 hc P1 (l.trans l1)).run s1 (e1 ▸ X1)) (fun r2 s2 ⟨P2, O2, l2, X2, e2, r2'⟩ => by
        subst r2'
        cases r2 with
        | false => exact ⟨P2, O2, l1.trans l2, X2, e2, rfl⟩
        | true => exact isTrue_and_nil ⟨P2, O2, l1.trans l2, X2, e2, rfl⟩) fun _ _ e => e)) fun _ _ e => e)
theorem tst_or {a b : Expr} {c d : Bool} (h1 : Tst prog w A env a P O c) (h2 : c = false → Tst prog w A env b P O d) : Tst prog w A env (.BoolOp .Or [a, b] pos) P O (c || d) := fun P' l => Do.mk fun s X =>
  isTrue_or (wpAny_mono ((h1 P' l).run s X) (fun r s1 ⟨P1, O1, l1, X1, e1, r1⟩ => by
    subst r1
    cases hc : r with
    | true => exact ⟨P1, O1, l1, X1, e1, rfl⟩
    | false => exact isTrue_or (wpAny_mono ((h2 hc P1 (l.trans l1)).run s1 (e1 ▸ X1)) (fun r2 s2 ⟨P2, O2, l2, X2, e2, r2'⟩ => by
        subst r2'
        cases r2 with
        | true => exact ⟨P2, O2, l1.trans l2, X2, e2, rfl⟩
        | false => exact isTrue_or_nil ⟨P2, O2, l1.trans l2, X2, e2, rfl⟩) fun _ _ e => e)) fun _ _ e => e)
/-- a value that is a bool, as a test -/
theorem tst_val {e : Expr} {c : Bool} (h : Ev prog w A env e P O (RBool c)) (he : isTrue e env (eval e env) = (do let v ← eval e env; standAt e.pos; holding [v] (truthy v)) := by rfl) : Tst prog w A env e P O c := fun P' l => Do.mk fun s X =>
  isTrue_plain (wpAny_mono ((h P' l).run s X) (fun v s1 ⟨P1, O1, l1, X1, e1, r1⟩ => by
    have r1' : v = .bool c := r1
    subst r1'
    exact wpAny_truthy_bool ⟨P1, O1, l1, X1, e1, rfl⟩) fun _ _ e => e) he
theorem ev_if {t a b : Expr} {c : Bool} (h : Tst prog w A env t P O c) (h1 : c = true → Ev prog w A env a P O R) (h2 : c = false → Ev prog w A env b P O R) : Ev prog w A env (.IfExp t a b pos) P O R := fun P' l => Do.mk fun s X =>
  IfExp_ (wpAny_mono ((h P' l).run s X) (fun r s1 ⟨P1, O1, l1, X1, e1, r1⟩ => by
    subst r1
    cases hc : r with
    | true => exact wpAny_mono ((h1 hc P1 (l.trans l1)).run s1 (e1 ▸ X1)) (fun v s2 ⟨P2, O2, l2, X2, f⟩ => ⟨P2, O2, l1.trans l2, X2, f⟩) fun _ _ e => e
    | false => exact wpAny_mono ((h2 hc P1 (l.trans l1)).run s1 (e1 ▸ X1)) (fun v s2 ⟨P2, O2, l2, X2, f⟩ => ⟨P2, O2, l1.trans l2, X2, f⟩) fun _ _ e => e) fun _ _ e => e)

/-- several values -/
theorem evl_nil : EvL prog w A env pos [] P O [] := fun P' l => Do.mk fun s X => wpAny_items_nil ⟨P', O, .refl _, X, rfl, trivial⟩
theorem evl_cons {e : Expr} {es : List Expr} {Rs : List Rep} (h : Ev prog w A env e P O R) (hs : EvL prog w A env pos es P O Rs) (he : starEach (e :: es) env = (false, eval e env) :: starEach es env := by rfl) : EvL prog w A env pos (e :: es) P O (R :: Rs) := fun P' l => Do.mk fun s X =>
  wpAny_items_cons (wpAny_mono ((h P' l).run s X) (fun v s1 ⟨P1, O1, l1, X1, e1, r1⟩ => wpAny_mono ((hs P1 (l.trans l1)).run s1 (e1 ▸ X1)) (fun vs s2 ⟨P2, O2, l2, X2, e2, r2⟩ => ⟨P2, O2, l1.trans l2, X2, e2, R.mono _ _ _ l2 r1, r2⟩) fun _ _ e => e) fun _ _ e => e) he
theorem ev_tup {es : List Expr} {k : Nat} {Rs : List Rep} (h : EvL prog w A env pos es P O Rs) (hz : Rs.length ≤ sizeLine) : Ev prog w A env (.Tuple es k pos) P O (RTup Rs) := fun P' l => Do.mk fun s X =>
  Tuple_ (wpAny_mono ((h P' l).run s X) (fun vs s1 ⟨P1, O1, l1, X1, e1, r1⟩ => wpAny_mono ((g_newTuple (prog := prog) (w := w) (A := A) (O := O) r1 hz).run s1 (e1 ▸ X1)) (fun v s2 ⟨P2, O2, l2, X2, f⟩ => ⟨P2, O2, l1.trans l2, X2, f⟩) fun _ _ e => e) fun _ _ e => e)
theorem ev_list {es : List Expr} {Rs : List Rep} (h : EvL prog w A env pos es P O Rs) (hz : Rs.length ≤ sizeLine) : Ev prog w A env (.List es pos) P O (RList Rs) := fun P' l => Do.mk fun s X =>
  List_ (wpAny_mono ((h P' l).run s X) (fun vs s1 ⟨P1, O1, l1, X1, e1, r1⟩ => wpAny_mono ((g_newList (prog := prog) (w := w) (A := A) (O := O) r1 hz).run s1 (e1 ▸ X1)) (fun v s2 ⟨P2, O2, l2, X2, f⟩ => ⟨P2, O2, l1.trans l2, X2, f⟩) fun _ _ e => e) fun _ _ e => e)

/-- an item -/
theorem ev_sub {T id : String} {a b : Expr} (h1 : Ev prog w A env a P O R1) (h2 : Ev prog w A env b P O R2) (hl : typeLookup (.type T) "__getitem__" = PySem.Sem.pure (some (.builtin id)))
    (hT : ∀ P' v s, R1.h P' v → Sat P' O s → s.TypeIs v T) (h3 : ∀ P' v u, P.le P' → R1.h P' v → R2.h P' u → Gv prog w A (getItem v u) P' O R)
    (hs : ∀ o i, subscripted b false o i = operate [o, i] (getItem o i) := by intros; rfl) : Ev prog w A env (.Subscript a b pos) P O R := fun P' l => Do.mk fun s X => by
  rw [eval_Subscript]
  refine wpAny_bind (wpAny_mono ((h1 P' l).run s X) (fun v s1 ⟨P1, O1, l1, X1, e1, r1⟩ => wpAny_bind (wpAny_holding (wpAny_mono ((h2 P1 (l.trans l1)).run s1 (e1 ▸ X1)) (fun u s2 ⟨P2, O2, l2, X2, e2, r2⟩ => wpAny_bind (wpAny_standAt ?_)) fun _ _ e => e))) fun _ _ e => e)
  subst e1; subst e2
  have hT2 := hT P2 v s2 (R1.mono _ _ _ l2 r1) X2
  refine wpAny_bind ?_
  rw [getitemInPython_of_ne hT2.not_modules]
  refine wpAny_bind (wpAny_specialOf hT2 hl ?_)
  have fin : wpAny (model prog w) A (subscripted b false v u >>= fun r => letTemporaryGo a v r >>= fun _ => pure r) (fun v s' => ∃ P'' O'', P'.le P'' ∧ Sat P'' O'' s' ∧ O'' = O2 ∧ R.h P'' v) (fun _ _ => False) s2 := by
    rw [hs]
    exact wpAny_bind (wpAny_operating (wpAny_mono ((h3 P2 v u ((l.trans l1).trans l2) (R1.mono _ _ _ l2 r1) r2).run s2 X2) (fun z s3 ⟨P3, O3, l3, X3, f⟩ => wpAny_bind (wpAny_letTemporaryGo (wpAny_pure ⟨P3, O3, (l1.trans l2).trans l3, X3, f⟩))) fun _ _ e => e))
  first
    | exact wpAny_pure fin
    | exact wpAny_bind (wpAny_pure fin)

theorem RSeq.typeIs {cls : String} {rs : List Rep} {P : Part} {v : Value} {s : Shared} (x : (RSeq cls rs).h P v) (y : Sat P O s) : s.TypeIs v cls := by
  obtain ⟨a, vs, n, rfl, r, g⟩ := RSeq.sees x
  exact ⟨_, g s O y, rfl⟩
theorem RStr.typeIs {x : Str} {P : Part} {v : Value} {s : Shared} (h : (RStr x).h P v) : s.TypeIs v "str" := by obtain ⟨t, rfl⟩ := h; exact typeIs_str _ _ _
theorem listU.typeIs {l : Addr} {vs : List Value} {v : Value} {s : Shared} (hU : listU l vs ∈ O) (x : (RVal (.ref l)).h P v) (y : Sat P O s) : s.TypeIs v "list" := by
  obtain rfl : v = .ref l := x
  obtain ⟨n, e⟩ := y.own _ hU
  exact ⟨_, e, rfl⟩
end
end

section
section
variable {prog : Program} {w : World} {A : Around} {env : Env} {P : Part} {O O' : List U} {R R1 R2 R3 : Rep} {pos : Pos}

/-- who keeps the callee -/
noncomputable def Kept (f : Value) (P : Part) : Prop := ∃ q : Heap → Prop, (∀ P' O s, P.le P' → Sat P' O s → q s.heap) ∧ ∀ M h, q h → ∃ k, (k = Keeper.frame ∨ k = Keeper.machine ∨ k = Keeper.boundFrame) ∧ Looks M h (keeperOf f) k
theorem kept_builtin {id : String} : Kept (.builtin id) P := ⟨fun _ => True, fun _ _ _ _ _ => trivial, fun M h _ => ⟨.machine, .inr (.inl rfl), .of_pure rfl⟩⟩
theorem kept_type {T : String} : Kept (.type T) P := ⟨fun _ => True, fun _ _ _ _ _ => trivial, fun M h _ => ⟨.machine, .inr (.inl rfl), .of_pure rfl⟩⟩
theorem kept_fn {f : Addr} {oc : Value} {od : Option Addr} {fd : FuncData} {sl : Array (Option Value)} (h : P.get f = some ⟨oc, od, .func fd, sl⟩) : Kept (.ref f) P :=
  ⟨fun g => g.get? f = some ⟨oc, od, .func fd, sl⟩, fun P' O s l X => X.per _ _ (l.2 _ _ h), fun M g e => ⟨.frame, .inl rfl, (Looks.ld (part := none) e).andThen .now⟩⟩
theorem Kept.up {f : Value} {P' : Part} (h : Kept f P) (l : P.le P') : Kept f P' := let ⟨q, a, b⟩ := h; ⟨q, fun P'' O s l' X => a P'' O s (l.trans l') X, b⟩

theorem do_callWith {f : Value} {first : List Value} {e : Expr} {es : List Expr} {Rs : List Rep} {Φ : Value → Part → List U → Prop} (hk : Kept f P) (ha : EvL prog w A env pos (e :: es) P O Rs)
    (hc : ∀ P' vs, P.le P' → Reps P' Rs vs → Do prog w A (call f (first ++ vs)) P' O Φ)
    (he : starEach (e :: es) env = (false, eval e env) :: starEach es env := by rfl) (hplain : (backTo pos (starEach es env)).any (·.1) = false := by rfl) :
    Do prog w A (callWith pos f first (backTo pos (starEach (e :: es) env)) []) P O Φ := Do.mk fun s X => by
  obtain ⟨q, hq, hk⟩ := hk
  have ha' := (ha P (.refl P)).run s X
  rw [he] at ha' ⊢
  exact callWith_of (P := q) (by show ((false || (backTo pos (starEach es env)).any (·.1)) || false) = false; rw [hplain]; rfl) (hk _) (evalArgs_plain (wpAny_mono ha' (fun vs s1 ⟨P1, O1, l1, X1, e1, r1⟩ =>
    ⟨hq P1 O1 s1 l1 X1, wpAny_mono ((hc P1 vs l1 r1).run s1 (e1 ▸ X1)) (fun v s2 ⟨P2, O2, l2, X2, f2⟩ => ⟨P2, O2, l1.trans l2, X2, f2⟩) fun _ _ e => e⟩) fun _ _ e => e))
theorem do_callWith0 {f : Value} {first : List Value} {Φ : Value → Part → List U → Prop} (hk : Kept f P) (hc : Do prog w A (call f (first ++ [])) P O Φ) :
    Do prog w A (callWith pos f first (backTo pos (starEach [] env)) []) P O Φ := Do.mk fun s X => by
  obtain ⟨q, hq, hk⟩ := hk
  exact callWith_of (P := q) rfl (hk _) (evalArgs_nil3 ⟨hq P O s (.refl P) X, hc.run s X⟩)

/-- a call of a name -/
theorem do_call {f : Value} {id : Str} {p : Pos} {e : Expr} {es : List Expr} {Rs : List Rep} {Φ : Value → Part → List U → Prop} (hf : Ev prog w A env (.Name id p) P O (RVal f)) (hk : Kept f P) (ha : EvL prog w A env pos (e :: es) P O Rs)
    (hc : ∀ P' vs, P.le P' → Reps P' Rs vs → Do prog w A (call f vs) P' O Φ)
    (he : starEach (e :: es) env = (false, eval e env) :: starEach es env := by rfl) (hplain : (backTo pos (starEach es env)).any (·.1) = false := by rfl) : Do prog w A (eval (.Call (.Name id p) (e :: es) [] pos) env) P O Φ := Do.mk fun s X => by
  rw [arm_eval_Call_Name']
  exact wpAny_bind (wpAny_mono ((hf P (.refl P)).run s X) (fun v s1 ⟨P1, O1, l1, X1, e1, r1⟩ => by
    obtain rfl : v = f := r1
    subst e1
    exact wpAny_mono ((do_callWith (first := []) (hk.up l1) (fun P' l => ha P' (l1.trans l)) (fun P' vs l r => hc P' vs (l1.trans l) r) he hplain).run s1 X1) (fun v s2 ⟨P2, O2, l2, X2, f2⟩ => ⟨P2, O2, l1.trans l2, X2, f2⟩) fun _ _ e => e) fun _ _ e => e)
theorem ev_call {f : Value} {id : Str} {p : Pos} {e : Expr} {es : List Expr} {Rs : List Rep} (hf : Ev prog w A env (.Name id p) P O (RVal f)) (hk : Kept f P) (ha : EvL prog w A env pos (e :: es) P O Rs)
    (hc : ∀ P' vs, P.le P' → Reps P' Rs vs → Gv prog w A (call f vs) P' O R)
    (he : starEach (e :: es) env = (false, eval e env) :: starEach es env := by rfl) (hplain : (backTo pos (starEach es env)).any (·.1) = false := by rfl) : Ev prog w A env (.Call (.Name id p) (e :: es) [] pos) P O R := fun P' l =>
  do_call (fun P'' l' => hf P'' (l.trans l')) (hk.up l) (fun P'' l' => ha P'' (l.trans l')) (fun P'' vs l' r => hc P'' vs (l.trans l') r) he hplain

/-- a method of a built-in type -/
theorem do_meth {T id : String} {o : Expr} {name : Str} {apos : Pos} {args : List Expr} {Φ : Value → Part → List U → Prop} (pa : PlainAttrs T) (slot : Slot T name id) (hty : typeOf (.builtin id) = PySem.Sem.pure (.type "method_descriptor"))
    (ho : Ev prog w A env o P O R1) (hT : ∀ P' v s, P.le P' → R1.h P' v → Sat P' O s → s.TypeIs v T ∧ ∀ a, v = .ref a → ∃ ob, s.heap.get? a = some ob ∧ ob.dict = none)
    (hc : ∀ P' v, P.le P' → R1.h P' v → Do prog w A (callWith pos (.builtin id) [v] (backTo pos (starEach args env)) []) P' O Φ)
    (hbase : attributeBase o name env (eval o env) = eval o env := by rfl) (hline : (apos.endLine == pos.line) = true := by rfl)
    (hfew : ((backTo pos (starEach args env)).all (fun x => !x.1) && (backToKw pos (keywordEach [] env)).all (fun x => x.1.isSome)
      && decide (args.length + ([] : List Keyword).length + (if ([] : List Keyword).isEmpty then 0 else 1) < 30)) = true := by rfl) :
    Do prog w A (eval (.Call (.Attribute o name apos) args [] pos) env) P O Φ := Do.mk fun s X =>
  wpAny_Call_method hbase hfew hline pa slot hty (wpAny_mono ((ho P (.refl P)).run s X) (fun v s1 ⟨P1, O1, l1, X1, e1, r1⟩ => by
    subst e1
    have q := hT P1 v s1 l1 r1 X1
    exact ⟨q.1, q.2, wpAny_mono ((hc P1 v l1 r1).run s1 X1) (fun v s2 ⟨P2, O2, l2, X2, f2⟩ => ⟨P2, O2, l1.trans l2, X2, f2⟩) fun _ _ e => e⟩) fun _ _ e => e)
theorem ev_meth {T id : String} {o : Expr} {name : Str} {apos : Pos} {e : Expr} {es : List Expr} {Rs : List Rep} (pa : PlainAttrs T) (slot : Slot T name id) (hty : typeOf (.builtin id) = PySem.Sem.pure (.type "method_descriptor"))
    (ho : Ev prog w A env o P O R1) (hT : ∀ P' v s, P.le P' → R1.h P' v → Sat P' O s → s.TypeIs v T ∧ ∀ a, v = .ref a → ∃ ob, s.heap.get? a = some ob ∧ ob.dict = none) (ha : EvL prog w A env pos (e :: es) P O Rs)
    (hc : ∀ P' v vs, P.le P' → R1.h P' v → Reps P' Rs vs → Gv prog w A (call (.builtin id) (v :: vs)) P' O R)
    (hbase : attributeBase o name env (eval o env) = eval o env := by rfl) (hline : (apos.endLine == pos.line) = true := by rfl)
    (hfew : ((backTo pos (starEach (e :: es) env)).all (fun x => !x.1) && (backToKw pos (keywordEach [] env)).all (fun x => x.1.isSome)
      && decide ((e :: es).length + ([] : List Keyword).length + (if ([] : List Keyword).isEmpty then 0 else 1) < 30)) = true := by rfl)
    (he : starEach (e :: es) env = (false, eval e env) :: starEach es env := by rfl) (hplain : (backTo pos (starEach es env)).any (·.1) = false := by rfl) :
    Ev prog w A env (.Call (.Attribute o name apos) (e :: es) [] pos) P O R := fun P' l =>
  do_meth pa slot hty (fun P'' l' => ho P'' (l.trans l')) (fun P'' v s l' r X => hT P'' v s (l.trans l') r X) (fun P'' v l' r => do_callWith kept_builtin (fun P3 l3 => ha P3 ((l.trans l').trans l3)) (fun P3 vs l3 rs => hc P3 v vs ((l.trans l').trans l3) (R1.mono _ _ _ l3 r) rs) he hplain) hbase hline hfew
theorem ev_meth0 {T id : String} {o : Expr} {name : Str} {apos : Pos} (pa : PlainAttrs T) (slot : Slot T name id) (hty : typeOf (.builtin id) = PySem.Sem.pure (.type "method_descriptor"))
    (ho : Ev prog w A env o P O R1) (hT : ∀ P' v s, P.le P' → R1.h P' v → Sat P' O s → s.TypeIs v T ∧ ∀ a, v = .ref a → ∃ ob, s.heap.get? a = some ob ∧ ob.dict = none)
    (hc : ∀ P' v, P.le P' → R1.h P' v → Gv prog w A (call (.builtin id) [v]) P' O R)
    (hbase : attributeBase o name env (eval o env) = eval o env := by rfl) (hline : (apos.endLine == pos.line) = true := by rfl) :
    Ev prog w A env (.Call (.Attribute o name apos) [] [] pos) P O R := fun P' l =>
  do_meth pa slot hty (fun P'' l' => ho P'' (l.trans l')) (fun P'' v s l' r X => hT P'' v s (l.trans l') r X) (fun P'' v l' r => do_callWith0 kept_builtin (hc P'' v (l.trans l') r)) hbase hline rfl

theorem RStr.meth {x : Str} (P' : Part) (v : Value) (s : Shared) (r : (RStr x).h P' v) : s.TypeIs v "str" ∧ ∀ a, v = .ref a → ∃ ob, s.heap.get? a = some ob ∧ ob.dict = none := by
  obtain ⟨t, rfl⟩ := r
  exact ⟨typeIs_str _ _ _, fun a e => nomatch e⟩

/-- texts' methods -/
theorem ev_index {x y : Str} {i : Nat} {o e : Expr} {apos : Pos} (ho : Ev prog w A env o P O (RStr x)) (he : Ev prog w A env e P O (RStr y)) (hi : ∃ rest, Builtin.Str.occurrences x y 0 x.length 1 = i :: rest)
    (hbase : attributeBase o "index" env (eval o env) = eval o env := by rfl) (hline : (apos.endLine == pos.line) = true := by rfl) (hs : starEach [e] env = [(false, eval e env)] := by rfl) :
    Ev prog w A env (.Call (.Attribute o "index" apos) [e] [] pos) P O (RInt i) := by
  refine ev_meth F.plainAttrs_str F.slot_str_index F.type_str_index ho (fun P' v s _ r _ => RStr.meth P' v s r) (evl_cons he evl_nil hs) (fun P' v vs l r rs => ?_) hbase hline (by rw [hs]; rfl) hs rfl
  obtain ⟨t, rfl⟩ := r
  match vs, rs with
  | [u], ⟨⟨t', hu⟩, _⟩ =>
    subst hu
    obtain ⟨rest, ho⟩ := hi
    exact Gv.base fun s X => SC.index ho (here X ⟨_, rfl⟩)

/-- a text, and its token: no other thing bears it -/
noncomputable def RTok (x : Str) : Rep := ⟨fun P v => ∃ t, v = .str x t ∧ t ≠ 0 ∧ t < P.tk, fun _ _ _ l ⟨t, e, n, h⟩ => ⟨t, e, n, Nat.lt_of_lt_of_le h l.1.2⟩⟩
theorem RTok.str {x : Str} {P : Part} {v : Value} (h : (RTok x).h P v) : (RStr x).h P v := let ⟨t, e, _⟩ := h; ⟨t, e⟩
/-- a literal text, with its token -/
theorem do_strTok {x : Str} {k : Nat} {Φ : Value → Part → List U → Prop} (h : ∀ P' t, P.le P' → P.tk ≤ t → t < P'.tk → Φ (.str x t) P' O) : Do prog w A (eval (.Constant (.str x) k pos) env) P O Φ := Do.mk fun s X =>
  wpAny_Constant_str (by
    have X' : Sat P O { s with toks := s.toks + 1 } := X.toks (Nat.le_succ _)
    obtain ⟨l, Y⟩ := X'.stamp
    exact ⟨_, _, l, Y, h _ _ l X.tk (Nat.lt_succ_self _)⟩)

theorem ev_replace {x y z : Str} {o e1 : Expr} {k : Nat} {apos p2 : Pos} (ho : Ev prog w A env o P O (RStr x)) (he : Ev prog w A env e1 P O (RTok y)) (hz : (y == z) = false) (h0 : 0 < P.tk) (hb : x.length + (x.length + 1) * z.length ≤ 16777216)
    (hbase : attributeBase o "replace" env (eval o env) = eval o env := by rfl) (hline : (apos.endLine == pos.line) = true := by rfl)
    (hs : starEach [e1, .Constant (.str z) k p2] env = [(false, eval e1 env), (false, eval (.Constant (.str z) k p2) env)] := by rfl) :
    Ev prog w A env (.Call (.Attribute o "replace" apos) [e1, .Constant (.str z) k p2] [] pos) P O (RStr (Txt.replace x y z)) := fun P' l => by
  refine do_meth F.plainAttrs_str F.slot_str_replace F.type_str_replace (fun P'' l' => ho P'' (l.trans l')) (fun P'' v s _ r _ => RStr.meth P'' v s r) (fun P1 v l1 r => ?_) hbase hline (by rw [hs]; rfl)
  obtain ⟨t, rfl⟩ := r
  refine Do.mk fun s X => ?_
  rw [hs]
  refine callWith_of (P := fun _ => True) rfl (fun h _ => ⟨.machine, .inr (.inl rfl), .of_pure rfl⟩) (evalArgs_plain ?_)
  have := wpAny_items_cons (env := env) (pos := pos) (e := e1) (rest := [.Constant (.str z) k p2]) (s := s) (M := model prog w) (A := A) (E := fun _ _ => False)
    (Q := fun vs s₁ => True ∧ wpAny (model prog w) A (call (.builtin "str.replace") ([Value.str x t] ++ vs)) (fun a s' => ∃ P' O', P1.le P' ∧ Sat P' O' s' ∧ O' = O ∧ (RStr (Txt.replace x y z)).h P' a) (fun _ _ => False) s₁)
    (wpAny_mono ((he P1 (l.trans l1)).run s X) (fun u s2 ⟨P2, O2, l2, X2, e2, t2, hu, n2, b2⟩ => by
      subst e2
      refine wpAny_items_cons (e := .Constant (.str z) k p2) (rest := []) (wpAny_mono ((do_strTok (Φ := fun v P' O' => O' = O2 ∧ ∃ t3, v = .str z t3 ∧ P2.tk ≤ t3) (fun P3 t3 l3 a3 b3 => ⟨rfl, t3, rfl, a3⟩)).run s2 X2) (fun u3 s3 ⟨P3, O3, l3, X3, e3, t3, hu3, a3⟩ => wpAny_items_nil ?_) fun _ _ e => e) rfl
      subst hu; subst hu3; subst e3
      refine ⟨trivial, wpAny_with_toks (Nat.le_refl s3.toks) (SC.replace n2 (Nat.pos_iff_ne_zero.mp (Nat.lt_of_lt_of_le h0 (Nat.le_trans l.1.2 (Nat.le_trans l1.1.2 (Nat.le_trans l2.1.2 a3))))) (Nat.ne_of_lt (Nat.lt_of_lt_of_le b2 a3)) hz hb fun t' tk ht => ⟨P3, _, l2.trans l3, X3.toks ht, rfl, _, rfl⟩)⟩) fun _ _ e => e)
    (congrArg (fun x => x) hs)
  show wpAny _ _ (spliced (backTo pos [(false, eval e1 env), (false, eval (.Constant (.str z) k p2) env)])) _ _ s
  rw [← hs]
  exact this
end
end

section
section
variable {prog : Program} {w : World} {A : Around} {env : Env} {P : Part} {O O' : List U} {R R1 R2 R3 : Rep} {pos : Pos} {v u z : Value}

theorem DictObj.dictOf {h : Heap} {d : Addr} {o : Obj} {kvs : List (Str × Value)} (x : DictObj prog w o kvs) (e : h.get? d = some o) : h.DictOf (PySem.strKind prog w) d kvs := let ⟨es, ep, a, b, c⟩ := x; ⟨o, es, ep, e, a, b, c⟩
theorem DictObj.of {h : Heap} {d : Addr} {kvs : List (Str × Value)} (x : h.DictOf (PySem.strKind prog w) d kvs) : ∃ o, h.get? d = some o ∧ DictObj prog w o kvs := let ⟨o, es, ep, e, a, b, c⟩ := x; ⟨o, e, es, ep, a, b, c⟩
theorem dictU.sees {d : Addr} {kvs : List (Str × Value)} {s : Shared} (hU : dictU prog w d kvs ∈ O) (X : Sat P O s) : s.heap.DictOf (PySem.strKind prog w) d kvs := let ⟨o, e, r⟩ := X.own _ hU; r.dictOf e
theorem RDict.sees {rs : List (Str × Rep)} {v : Value} (x : (RDict prog w rs).h P v) : ∃ d kvs, v = .ref d ∧ d ≠ sysModules ∧ Ents P rs kvs ∧ ∀ s O, Sat P O s → s.heap.DictOf (PySem.strKind prog w) d kvs := by
  obtain ⟨d, o, kvs, e, n, g, r, en⟩ := x
  exact ⟨d, kvs, e, n, en, fun s O X => r.dictOf (X.per _ _ g)⟩
theorem isKey {x : Str} {t : Tok} : (PySem.strKind prog w).is x (.str x t) = true := by simp [PySem.strKind, Value.isStrOf]
theorem notSys {d : Addr} (h : d ≠ sysModules) : (d == sysModules) = false := by simpa using h

theorem Sat.newDict {s : Shared} (X : Sat P O s) : s.heap.objs.size ≠ sysModules := by
  obtain ⟨o, e⟩ := X.two
  have := Heap.lt_size (X.per _ _ e)
  show s.heap.objs.size ≠ 1
  exact fun q => by rw [q] at this; exact absurd this (by decide)

/-- a new own dict -/
theorem o_newDict {Φ : Value → Part → List U → Prop} (h : ∀ d, d ≠ sysModules → Φ (.ref d) P (dictU prog w d [] :: O)) : Do prog w A (eval (.Dict [] [] pos) env) P O Φ :=
  Do.base fun s X => wpAny_Dict_empty (fun ht => ⟨P, _, .refl P, X.push (u := dictU prog w s.heap.objs.size []) ht (push_keep _ _) (fun a ha => by cases ha with | head => exact fresh_size _ | tail _ q => cases q) (List.nodup_cons.mpr ⟨by simp, .nil⟩)
    (DictObj.of (Heap.DictOf.new s.heap)), h _ X.newDict⟩)
/-- an own dict that stands from here on -/
theorem o_freezeDict {α : Type} {t : Sem α} {d : Addr} {kvs : List (Str × Value)} {rs : List (Str × Rep)} {Φ : α → Part → List U → Prop} (hU : ∃ R, O.Perm (dictU prog w d kvs :: R) ∧ R = O') (hd : d ≠ sysModules) (r : Ents P rs kvs)
    (h : ∀ P', P.le P' → (RDict prog w rs).h P' (.ref d) → Do prog w A t P' O' Φ) : Do prog w A t P O Φ := Do.mk fun s X => by
  obtain ⟨R, p, rfl⟩ := hU
  have X' := X.perm p
  obtain ⟨o, e, q⟩ := X'.own _ (.head _)
  obtain ⟨l1, y⟩ := X'.freeze (a := d) (.head _) e
  exact wpAny_mono ((h _ l1 ⟨_, o, kvs, rfl, hd, Part.add_self _ _ _, q, r.mono l1⟩).run s y) (fun a s' ⟨P', O', l2, y', f⟩ => ⟨P', O', l1.trans l2, y', f⟩) fun _ _ e => e
theorem o_setItem_dict {d : Addr} {kvs : List (Str × Value)} {k : Str} {Φ : Unit → Part → List U → Prop} (hU : Upd O (dictU prog w d kvs) (dictU prog w d (stored kvs k z)) O') (hu : (RStr k).h P u) (hz : kvs.length ≤ sizeLine)
    (h : Φ () P O') : Do prog w A (setItem (.ref d) u z) P O Φ := by
  obtain ⟨t, rfl⟩ := hu
  exact Do.base fun s X => wpAny_setItem_pairs (knd   := PySem.strKind prog w) (k := k) isKey (dictU.sees hU.mem X) (fun h' hm hs ht => ⟨P, _, .refl P, X.upd hU ht (fun b o hb e => (hs.2 b (fun q => hb (by rw [q]; exact .head _))).trans e) (fun a ha => .inl ha) (List.nodup_cons.mpr ⟨by simp, .nil⟩)
    (DictObj.of hm), h⟩) hz
theorem g_item_dict {rs : List (Str × Rep)} {k : Str} (hv : (RDict prog w rs).h P v) (hu : (RStr k).h P u) (hl : look rs k = some R) : Gv prog w A (getItem v u) P O R := by
  obtain ⟨t, rfl⟩ := hu; obtain ⟨d, kvs, rfl, hd, en, g⟩ := RDict.sees hv
  obtain ⟨y, hy, hr⟩ := en.look hl
  exact Gv.base fun s X => wpAny_getItem_of (knd   := PySem.strKind prog w) (k := k) isKey (g s O X).mapOf hy (here X hr)
theorem g_item_dictO {d : Addr} {kvs : List (Str × Value)} {rs : List (Str × Rep)} {k : Str} (hU : dictU prog w d kvs ∈ O) (en : Ents P rs kvs) (hu : (RStr k).h P u) (hl : look rs k = some R) : Gv prog w A (getItem (.ref d) u) P O R := by
  obtain ⟨t, rfl⟩ := hu
  obtain ⟨y, hy, hr⟩ := en.look hl
  exact Gv.base fun s X => wpAny_getItem_of (knd   := PySem.strKind prog w) (k := k) isKey (dictU.sees hU X).mapOf hy (here X hr)
theorem g_in_dictO {d : Addr} {kvs : List (Str × Value)} {rs : List (Str × Rep)} {k : Str} (hU : dictU prog w d kvs ∈ O) (hd : d ≠ sysModules) (en : Ents P rs kvs) (hv : (RStr k).h P v) : Gv prog w A (compareOp .In v (.ref d)) P O (RBool (look rs k).isSome) := by
  obtain ⟨t, rfl⟩ := hv
  have e : (look rs k).isSome = (valueAt kvs k).isSome := by
    cases q : look rs k with
    | none => rw [en.look_none q]; rfl
    | some r => obtain ⟨y, hy, _⟩ := en.look q; rw [hy]; rfl
  rw [e]
  exact Gv.base fun s X => wpAny_in_of (knd   := PySem.strKind prog w) (k := k) isKey (notSys hd) (dictU.sees hU X).mapOf (here X rfl)
theorem dictU.meth {d : Addr} {kvs : List (Str × Value)} {v : Value} {s : Shared} (hU : dictU prog w d kvs ∈ O) (x : (RVal (.ref d)).h P v) (X : Sat P O s) : s.TypeIs v "dict" ∧ ∀ a, v = .ref a → ∃ ob, s.heap.get? a = some ob ∧ ob.dict = none := by
  obtain rfl : v = .ref d := x
  exact ⟨(dictU.sees hU X).typeIs, (dictU.sees hU X).mapOf.noDict⟩
theorem RDict.meth {rs : List (Str × Rep)} {v : Value} {s : Shared} (x : (RDict prog w rs).h P v) (X : Sat P O s) : s.TypeIs v "dict" ∧ ∀ a, v = .ref a → ∃ ob, s.heap.get? a = some ob ∧ ob.dict = none := by
  obtain ⟨d, kvs, rfl, hd, en, g⟩ := RDict.sees x
  exact ⟨(g s O X).typeIs, (g s O X).mapOf.noDict⟩
/-- get with a default, from an own dict -/
theorem g_get_dictO {d : Addr} {kvs : List (Str × Value)} {rs : List (Str × Rep)} {k : Str} (hU : dictU prog w d kvs ∈ O) (hd : d ≠ sysModules) (en : Ents P rs kvs) (hu : (RStr k).h P u) (hz : R1.h P z)
    (hr : (look rs k).getD R1 = R) : Gv prog w A (call (.builtin "dict.get") [.ref d, u, z]) P O R := by
  obtain ⟨t, rfl⟩ := hu
  refine Gv.base fun s X => call_meetsIn F.slot_dict_get (dictU.sees hU X).typeIs F.entry_dict_get (F.args_dict_get_3 _ _ _) (meets_dict_get_default (PySem.strKind prog w) d (k := k) isKey (notSys hd) z) ⟨_, (dictU.sees hU X).mapOf, here X ?_⟩
  cases q : look rs k with
  | none => rw [q] at hr; rw [en.look_none q]; subst hr; exact hz
  | some r => obtain ⟨y, hy, hh⟩ := en.look q; rw [q] at hr; rw [hy]; subst hr; exact hh

/-- joined texts -/
theorem g_join {x : Str} {ts : List Str} (hv : (RStr x).h P v) (hu : (RList (ts.map RStr)).h P u) (hok : JoinOk x ts = true) : Gv prog w A (call (.builtin "str.join") [v, u]) P O (RStr (Txt.join x ts)) := by
  obtain ⟨t, rfl⟩ := hv
  obtain ⟨a, vs, n, rfl, r, g⟩ := RSeq.sees hu
  have : ∃ l : List (Str × Tok), vs = strValues l ∧ l.map (·.1) = ts := by
    clear g hok hu
    induction ts generalizing vs with
    | nil => have := r.length; exact ⟨[], List.eq_nil_of_length_eq_zero this, rfl⟩
    | cons y ts ih =>
      match vs, r with
      | v :: vs, ⟨⟨t, hv⟩, r⟩ =>
        obtain ⟨l, a, b⟩ := ih vs r
        exact ⟨(y, t) :: l, by rw [hv, a]; rfl, by rw [List.map_cons, b]⟩
  obtain ⟨l, rfl, hts⟩ := this
  refine Gv.base fun s X => ?_
  have hok' := hok
  rw [← hts] at hok' ⊢
  unfold JoinOk at hok'
  rw [Bool.not_eq_true'] at hok'
  exact call_meets F.slot_str_join (typeIs_str _ _ _) F.entry_str_join (F.args_str_join_2 _ _) (meets_str_join_list x t a l hok') ⟨⟨_, g s O X, rfl, n, rfl⟩, post_join l ⟨joinFit_length hok', fun t' k => here X ⟨_, rfl⟩⟩⟩

/-- is it of this kind -/
theorem g_isi {T Tx : String} (hT : ∀ s, Sat P O s → s.TypeIs v Tx) (hty : typeOf (.type T) = PySem.Sem.pure (.type "type") := by rfl) (hsub : isSubtype (.type Tx) (.type T) = PySem.Sem.pure true) : Gv prog w A (call (.builtin "isinstance") [v, .type T]) P O (RBool true) :=
  Gv.base fun s X => call_isinstance_yes (hT s X) hty hsub (here0 X rfl)
end
end

section
section
variable {prog : Program} {w : World} {A : Around} {env : Env} {P : Part} {O O' : List U} {R R1 R2 R3 : Rep} {pos : Pos} {v u z : Value} {Φ : Flow → Part → List U → Prop} {rest : List Stmt}

/-- stores -/
theorem s_local {x : Str} {L : Addr} {ns : List Str} {vs vs' : List (Option Value)} {Φ : Unit → Part → List U → Prop} (hU : Upd O (frameU L ns vs) (frameU L ns vs') O') (hp : Put ns vs x v vs') (h : Φ () P O')
    (hL : env.locals = L := by rfl) (hl : env.kindOf x = some .local := by rfl) (hk : env.scope.kind = .function := by rfl) : Do prog w A (storeName env x v) P O Φ := by
  subst hL
  refine Do.base fun s X => ?_
  obtain ⟨_, m, hm, _⟩ := X.own _ hU.mem
  refine wpAny_storeName_local hl hm (fun h' hn hs ht => ⟨P, _, .refl P, X.upd hU ht (fun b o hb e => (hs.2 b (fun q => hb (by rw [q]; exact .head _))).trans e) (fun a ha => .inl ha) (List.nodup_cons.mpr ⟨by simp, .nil⟩) ?_, h⟩) (by rw [hk]; rfl)
  obtain ⟨nd, m', hm', hv⟩ := X.own _ hU.mem
  have e : m' = m := funext fun y => by
    obtain ⟨o1, es1, ep1, a1, b1, c1, d1⟩ := hm
    obtain ⟨o2, es2, ep2, a2, b2, c2, d2⟩ := hm'
    rw [a1] at a2; cases a2; rw [b1] at b2; cases b2
    rw [← d1, ← d2]
  subst e
  exact frame_put (h := s.heap) ⟨nd, m', hm', hv⟩ hp fun m2 hm2 => by
    have e : m2 = m' := funext fun y => by
      obtain ⟨o1, es1, ep1, a1, b1, c1, d1⟩ := hm2
      obtain ⟨o2, es2, ep2, a2, b2, c2, d2⟩ := hm'
      rw [a1] at a2; cases a2; rw [b1] at b2; cases b2
      rw [← d1, ← d2]
    rw [e]; exact hn
theorem s_cell {x : Str} {c : Addr} {v₀ : Option Value} {Φ : Unit → Part → List U → Prop} (hU : Upd O (cellU c v₀) (cellU c (some v)) O') (h : Φ () P O') (hc : env.cells.lookup x = some c := by rfl)
    (hl : env.kindOf x = some .cell := by rfl) (hk : env.scope.kind = .function := by rfl) : Do prog w A (storeName env x v) P O Φ :=
  Do.base fun s X => wpAny_storeName_cell hk hl hc (X.own _ hU.mem) fun h' hv hs ht => ⟨P, _, .refl P, X.upd hU ht (fun b o hb e => (hs.2 b (fun q => hb (by rw [q]; exact .head _))).trans e) (fun a ha => .inl ha) (List.nodup_cons.mpr ⟨by simp, .nil⟩) hv, h⟩

theorem Do.assign_name {x : Str} {Φ : Unit → Part → List U → Prop} (h : Do prog w A (storeName env x v) P O Φ) : Do prog w A (assign (.Name x pos) env v) P O Φ := Do.mk fun s X => wpAny_assign_Name (h.run s X)

/-- what is owed when a statement has ended -/
noncomputable def After (prog : Program) (w : World) (A : Around) (env : Env) (rest : List Stmt) (Φ : Flow → Part → List U → Prop) : Flow → Part → List U → Prop
  | .next, P, O => Do prog w A (execs rest env) P O Φ
  | f, P, O => Φ f P O
/-- rows of statements -/
theorem x_nil (h : Φ .next P O) : Do prog w A (execs [] env) P O Φ := Do.mk fun s X => wpAny_execs_nil ⟨P, O, .refl P, X, h⟩
theorem x_seq {st : Stmt} {Ψ : Flow → Part → List U → Prop} (h : Do prog w A (exec st env) P O Ψ)
    (hn : ∀ P' O', P.le P' → Ψ .next P' O' → Do prog w A (execs rest env) P' O' Φ) (hf : ∀ f P' O', P.le P' → f ≠ .next → Ψ f P' O' → Φ f P' O') : Do prog w A (execs (st :: rest) env) P O Φ := Do.mk fun s X =>
  wpAny_execs_cons (wpAny_mono ((h).run s X) (fun f s1 ⟨P1, O1, l1, X1, q⟩ => by
    cases f with
    | next => exact wpAny_mono ((hn P1 O1 l1 q).run s1 X1) (fun f s2 ⟨P2, O2, l2, X2, q2⟩ => ⟨P2, O2, l1.trans l2, X2, q2⟩) fun _ _ e => e
    | _ => exact ⟨P1, O1, l1, X1, hf _ P1 O1 l1 (fun q => nomatch q) q⟩) fun _ _ e => e)
/-- a statement that goes on -/
theorem x_next {st : Stmt} {Ψ : Part → List U → Prop} (h : Do prog w A (exec st env) P O (fun f P' O' => f = .next ∧ Ψ P' O')) (hn : ∀ P' O', P.le P' → Ψ P' O' → Do prog w A (execs rest env) P' O' Φ) :
    Do prog w A (execs (st :: rest) env) P O Φ := x_seq h (fun P' O' l q => hn P' O' l q.2) fun f P' O' l hne q => absurd q.1 hne
theorem x_ret {e : Expr} (h : Do prog w A (eval e env) P O (fun v P' O' => Φ (.ret v) P' O')) : Do prog w A (execs (.Return (some e) pos :: rest) env) P O Φ :=
  x_seq (Ψ := fun f P' O' => f ≠ .next ∧ Φ f P' O') (Do.mk fun s X => wpAny_Return_some (wpAny_mono ((h).run s X) (fun v s1 ⟨P1, O1, l1, X1, q⟩ => ⟨P1, O1, l1, X1, (fun e => nomatch e), q⟩) fun _ _ e => e)) (fun _ _ _ q => absurd rfl q.1) fun f P' O' l hne q => q.2
theorem x_retEv {e : Expr} (h : Ev prog w A env e P O R) (k : ∀ P' v, P.le P' → R.h P' v → Φ (.ret v) P' O) : Do prog w A (execs (.Return (some e) pos :: rest) env) P O Φ :=
  x_ret ((h P (.refl P)).mono fun v P' O' l ⟨e, r⟩ => e ▸ k P' v l r)
theorem x_break (h : Φ .brk P O) : Do prog w A (execs (.Break pos :: rest) env) P O Φ :=
  x_seq (Ψ := fun f P' O' => f ≠ .next ∧ Φ f P' O') (Do.mk fun s X => wpAny_Break ⟨P, O, .refl P, X, (fun e => nomatch e), h⟩) (fun _ _ _ q => absurd rfl q.1) fun f P' O' l hne q => q.2
theorem x_if {t : Expr} {b e : List Stmt} {c : Bool} (ht : Tst prog w A env t P O c)
    (h1 : c = true → ∀ P', P.le P' → Do prog w A (execs b env) P' O (After prog w A env rest Φ))
    (h2 : c = false → ∀ P', P.le P' → Do prog w A (execs e env) P' O (After prog w A env rest Φ)) : Do prog w A (execs (.If t b e pos :: rest) env) P O Φ :=
  x_seq (Ψ := After prog w A env rest Φ) (Do.mk fun s X => wpAny_If (wpAny_mono ((ht P (.refl P)).run s X) (fun r s1 ⟨P1, O1, l1, X1, e1, r1⟩ => by
    subst r1; subst e1
    cases hc : r with
    | true => exact wpAny_mono ((h1 hc P1 l1).run s1 X1) (fun f s2 ⟨P2, O2, l2, X2, q⟩ => ⟨P2, O2, l1.trans l2, X2, q⟩) fun _ _ e => e
    | false => exact wpAny_mono ((h2 hc P1 l1).run s1 X1) (fun f s2 ⟨P2, O2, l2, X2, q⟩ => ⟨P2, O2, l1.trans l2, X2, q⟩) fun _ _ e => e) fun _ _ e => e)) (fun _ _ _ q => q) fun f P' O' l hne q => by cases f <;> first | exact absurd rfl hne | exact q

/-- name = value -/
theorem x_assign {x : Str} {px : Pos} {e : Expr} {Ψ : Value → Part → List U → Prop} (he : Do prog w A (eval e env) P O Ψ)
    (k : ∀ v P' O', P.le P' → Ψ v P' O' → Do prog w A (storeName env x v) P' O' (fun _ P2 O2 => P2 = P' ∧ Do prog w A (execs rest env) P2 O2 Φ))
    (hs : swapsWith e (some (.Name x px)) pos.line env = PySem.Sem.pure false := by rfl) : Do prog w A (execs (.Assign [.Name x px] e pos :: rest) env) P O Φ :=
  x_next (Ψ := fun P2 O2 => Do prog w A (execs rest env) P2 O2 Φ) (Do.mk fun s X => wpAny_Assign_Name (wpAny_mono ((he).run s X) (fun v s1 ⟨P1, O1, l1, X1, q⟩ => wpAny_mono ((k v P1 O1 l1 q).run s1 X1) (fun _ s2 ⟨P2, O2, l2, X2, q2⟩ => ⟨P2, O2, l1.trans l2, X2, rfl, q2.2⟩) fun _ _ e => e) fun _ _ e => e) hs) fun P' O' l q => q
/-- a local name = a value -/
theorem x_local {x : Str} {px : Pos} {e : Expr} {L : Addr} {ns : List Str} {vs : List (Option Value)} {vs' : Value → List (Option Value)} {O2 : Value → List U} (he : Ev prog w A env e P O R)
    (hU : ∀ v, Upd O (frameU L ns vs) (frameU L ns (vs' v)) (O2 v)) (hp : ∀ v, Put ns vs x v (vs' v))
    (k : ∀ v P', P.le P' → R.h P' v → Do prog w A (execs rest env) P' (O2 v) Φ)
    (hs : swapsWith e (some (.Name x px)) pos.line env = PySem.Sem.pure false := by rfl)
    (hL : env.locals = L := by rfl) (hl : env.kindOf x = some .local := by rfl) (hk : env.scope.kind = .function := by rfl) : Do prog w A (execs (.Assign [.Name x px] e pos :: rest) env) P O Φ :=
  x_assign (he P (.refl P)) (fun v P' O' l q => by obtain ⟨rfl, r⟩ := q; exact s_local (hU v) (hp v) ⟨rfl, k v P' l r⟩ hL hl hk) hs
/-- a cell's name = a value -/
theorem x_cell {x : Str} {px : Pos} {e : Expr} {c : Addr} {v₀ : Option Value} {O2 : Value → List U} (he : Ev prog w A env e P O R)
    (hU : ∀ v, Upd O (cellU c v₀) (cellU c (some v)) (O2 v))
    (k : ∀ v P', P.le P' → R.h P' v → Do prog w A (execs rest env) P' (O2 v) Φ)
    (hs : swapsWith e (some (.Name x px)) pos.line env = PySem.Sem.pure false := by rfl) (hc : env.cells.lookup x = some c := by rfl)
    (hl : env.kindOf x = some .cell := by rfl) (hk : env.scope.kind = .function := by rfl) : Do prog w A (execs (.Assign [.Name x px] e pos :: rest) env) P O Φ :=
  x_assign (he P (.refl P)) (fun v P' O' l q => by obtain ⟨rfl, r⟩ := q; exact s_cell (hU v) ⟨rfl, k v P' l r⟩ hc hl hk) hs

/-- o[i] = value -/
theorem x_setItem {o i e : Expr} {px : Pos} {Ψ : Part → List U → Prop} (he : Ev prog w A env e P O R1) (ho : Ev prog w A env o P O R2) (hi : Ev prog w A env i P O R3)
    (hop : ∀ P' z v u, P.le P' → R1.h P' z → R2.h P' v → R3.h P' u → Do prog w A (setItem v u z) P' O (fun _ P2 O2 => Ψ P2 O2))
    (k : ∀ P' O', P.le P' → Ψ P' O' → Do prog w A (execs rest env) P' O' Φ)
    (hs : swapsWith e (some (.Subscript o i px)) pos.line env = PySem.Sem.pure false := by rfl) : Do prog w A (execs (.Assign [.Subscript o i px] e pos :: rest) env) P O Φ :=
  x_next (Ψ := Ψ) (Do.mk fun s X => wpAny_Assign_Subscript (wpAny_mono ((he P (.refl P)).run s X) (fun z s1 ⟨P1, O1, l1, X1, e1, r1⟩ => wpAny_mono ((ho P1 l1).run s1 (e1 ▸ X1)) (fun v s2 ⟨P2, O2, l2, X2, e2, r2⟩ =>
    wpAny_mono ((hi P2 (l1.trans l2)).run s2 (e2 ▸ X2)) (fun u s3 ⟨P3, O3, l3, X3, e3, r3⟩ => wpAny_mono ((hop P3 z v u ((l1.trans l2).trans l3) (R1.mono _ _ _ (l2.trans l3) r1) (R2.mono _ _ _ l3 r2) r3).run s3 (e3 ▸ X3)) (fun _ s4 ⟨P4, O4, l4, X4, q⟩ =>
      ⟨P4, O4, ((l1.trans l2).trans l3).trans l4, X4, rfl, q⟩) fun _ _ e => e) fun _ _ e => e) fun _ _ e => e) fun _ _ e => e) hs) k
/-- o[i] += value -/
theorem x_augItem {o i e : Expr} {px : Pos} {op : Operator} {R4 R5 : Rep} {Ψ : Part → List U → Prop} (ho : Ev prog w A env o P O R2) (hi : Ev prog w A env i P O R3) (hg : ∀ P' v u, P.le P' → R2.h P' v → R3.h P' u → Gv prog w A (getItem v u) P' O R4) (he : Ev prog w A env e P O R1)
    (hop : ∀ P' a b, P.le P' → R4.h P' a → R1.h P' b → Gv prog w A (inplaceOp op a b) P' O R5)
    (hst : ∀ P' z v u, P.le P' → R5.h P' z → R2.h P' v → R3.h P' u → Do prog w A (setItem v u z) P' O (fun _ P2 O2 => Ψ P2 O2))
    (k : ∀ P' O', P.le P' → Ψ P' O' → Do prog w A (execs rest env) P' O' Φ)
    (hs : ∀ ov iv new, augStore i ov iv new = (do PySem.holding [new, ov, iv] (setItem ov iv new); release [new, ov, iv] []; pure .next) := by intros; rfl) : Do prog w A (execs (.AugAssign (.Subscript o i px) op e pos :: rest) env) P O Φ :=
  x_next (Ψ := Ψ) (Do.mk fun s X => wpAny_AugAssign_SubscriptAny (wpAny_mono ((ho P (.refl P)).run s X) (fun v s1 ⟨P1, O1, l1, X1, e1, r1⟩ => wpAny_mono ((hi P1 l1).run s1 (e1 ▸ X1)) (fun u s2 ⟨P2, O2, l2, X2, e2, r2⟩ =>
    wpAny_mono ((hg P2 v u (l1.trans l2) (R2.mono _ _ _ l2 r1) r2).run s2 (e2 ▸ X2)) (fun a s3 ⟨P3, O3, l3, X3, e3, r3⟩ => wpAny_mono ((he P3 ((l1.trans l2).trans l3)).run s3 (e3 ▸ X3)) (fun b s4 ⟨P4, O4, l4, X4, e4, r4⟩ =>
      wpAny_mono ((hop P4 a b (((l1.trans l2).trans l3).trans l4) (R4.mono _ _ _ l4 r3) r4).run s4 (e4 ▸ X4)) (fun z s5 ⟨P5, O5, l5, X5, e5, r5⟩ =>
        wpAny_mono ((hst P5 z v u ((((l1.trans l2).trans l3).trans l4).trans l5) r5 (R2.mono _ _ _ (((l2.trans l3).trans l4).trans l5) r1) (R3.mono _ _ _ ((l3.trans l4).trans l5) r2)).run s5 (e5 ▸ X5)) (fun _ s6 ⟨P6, O6, l6, X6, q⟩ =>
          ⟨P6, O6, ((((l1.trans l2).trans l3).trans l4).trans l5).trans l6, X6, rfl, q⟩) fun _ _ e => e) fun _ _ e => e) fun _ _ e => e) fun _ _ e => e) fun _ _ e => e) fun _ _ e => e) hs) k
/-- name += value -/
theorem x_augLocal {x : Str} {px : Pos} {e : Expr} {op : Operator} {v : Value} {L : Addr} {ns : List Str} {vs : List (Option Value)} {vs' : Value → List (Option Value)} {O2 : Value → List U} (hx : Has ns vs x v) (hr : R1.h P v) (he : Ev prog w A env e P O R2)
    (hop : ∀ P' b, P.le P' → R2.h P' b → Gv prog w A (inplaceOp op v b) P' O R)
    (hU : ∀ v, Upd O (frameU L ns vs) (frameU L ns (vs' v)) (O2 v)) (hp : ∀ v, Put ns vs x v (vs' v))
    (k : ∀ v P', P.le P' → R.h P' v → Do prog w A (execs rest env) P' (O2 v) Φ)
    (hL : env.locals = L := by rfl) (hl : env.kindOf x = some .local := by rfl) (hk : env.scope.kind = .function := by rfl) : Do prog w A (execs (.AugAssign (.Name x px) op e pos :: rest) env) P O Φ :=
  x_next (Ψ := fun P2 O2 => Do prog w A (execs rest env) P2 O2 Φ) (Do.mk fun s X => wpAny_AugAssign_Name (by
    subst hL
    obtain ⟨m, hm, hx⟩ := frame_has (X.own _ (hU v).mem) hx
    exact wpAny_loadName_local hk hl hm hx (wpAny_mono ((he P (.refl P)).run s X) (fun b s1 ⟨P1, O1, l1, X1, e1, r1⟩ => wpAny_mono ((hop P1 b l1 r1).run s1 (e1 ▸ X1)) (fun z s2 ⟨P2, O2', l2, X2, e2, r2⟩ =>
      wpAny_mono ((s_local (env := env) (Φ := fun _ P3 O3 => P3 = P2 ∧ O3 = O2 z) (hU z) (hp z) ⟨rfl, rfl⟩ rfl hl hk).run s2 (e2 ▸ X2)) (fun _ s3 ⟨P3, O3, l3, X3, a3, b3⟩ => ⟨P3, O3, (l1.trans l2).trans l3, X3, rfl, by subst a3; subst b3; exact k z P3 (l1.trans l2) r2⟩) fun _ _ e => e) fun _ _ e => e) fun _ _ e => e))) fun P' O' l q => q
/-- an expression for its own sake -/
theorem x_expr {e : Expr} {Ψ : Part → List U → Prop} (h : Do prog w A (eval e env) P O (fun _ P' O' => Ψ P' O')) (k : ∀ P' O', P.le P' → Ψ P' O' → Do prog w A (execs rest env) P' O' Φ)
    (hi : interactive env = false := by rfl) (hs : swapsWith e none pos.line env = PySem.Sem.pure false := by rfl) : Do prog w A (execs (.Expr e pos :: rest) env) P O Φ :=
  x_next (Ψ := Ψ) (Do.mk fun s X => wpAny_Expr_any (wpAny_mono ((h).run s X) (fun v s1 ⟨P1, O1, l1, X1, q⟩ => ⟨P1, O1, l1, X1, rfl, q⟩) fun _ _ e => e) hi hs) k

/-- an iterator at work -/
structure Itr (prog : Program) (w : World) (A : Around) (P : Part) (target : Expr) (I : Addr) (n : Nat) (it : Nat → U) (item : Nat → Rep) : Prop where
  next : ∀ (i : Nat) (P' : Part) (O : List U) (Ψ : Value → Part → List U → Prop), P.le P' → i < n → (∀ v P'', P'.le P'' → (item i).h P'' v → Ψ v P'' (it (i + 1) :: O)) →
    Do prog w A (pyNext (.ref I)) P' (it i :: O) (fun r P1 O1 => ∃ v, r = some v ∧ Do prog w A (letOwnedTupleGo target (.ref I) v) P1 O1 (fun _ P2 O2 => Ψ v P2 O2))
  stop : ∀ (P' : Part) (O : List U), P.le P' → Do prog w A (pyNext (.ref I)) P' (it n :: O) (fun r P'' O' => r = none ∧ O' = O)
  self : ∀ (i : Nat) (P' : Part) (O : List U), P.le P' → Do prog w A (pyIter (.ref I)) P' (it i :: O) (fun v P'' O' => v = .ref I ∧ O' = it i :: O)

noncomputable def DoC (prog : Program) (w : World) (A : Around) (c : Code) (P : Part) (O : List U) (Φ : Flow → Part → List U → Prop) : Prop :=
  ∀ s, Sat P O s → codeAny (model prog w) A c (fun r s' => ∃ f P' O', r = .ok f ∧ P.le P' ∧ Sat P' O' s' ∧ Φ f P' O') s

/-- what a turn's end says -/
noncomputable def TurnEnd (u : U) (Inv : Part → List U → Prop) (Φ : Flow → Part → List U → Prop) (f : Flow) (P : Part) (O : List U) : Prop :=
  ∃ O1, O = u :: O1 ∧ match f with | .next | .cont => Inv P O1 | .brk => Φ .next P O1 | .ret v => Φ (.ret v) P O1

theorem do_forLoop {target : Expr} {body orelse : List Stmt} {I : Addr} {n : Nat} {it : Nat → U} {item : Nat → Rep} (W : Itr prog w A P target I n it item) (Inv : Nat → Part → List U → Prop) (h0 : Inv 0 P O)
    (turn : ∀ i P1 P2 O' v, i < n → P.le P1 → P1.le P2 → Inv i P1 O' → (item i).h P2 v → Do prog w A (assign target env v) P2 (it (i + 1) :: O') (fun _ P3 O3 => Do prog w A (execs body env) P3 O3 (TurnEnd (it (i + 1)) (Inv (i + 1)) Φ)))
    (stop : ∀ P1 P2 O', P.le P1 → P1.le P2 → Inv n P1 O' → Do prog w A (execs orelse env) P2 O' Φ) : DoC prog w A (.forLoop target (.ref I) body orelse env) P (it 0 :: O) Φ := fun s X => by
  refine codeAny_forLoop_any (fun k s => ∃ i P1 O1, i ≤ n ∧ k = n - i ∧ P.le P1 ∧ Sat P1 (it i :: O1) s ∧ Inv i P1 O1) ?_ n ⟨0, P, O, Nat.zero_le _, rfl, .refl P, X, h0⟩
  rintro k s1 ⟨i, P1, O1, hi, rfl, l1, X1, inv⟩
  by_cases hlt : i < n
  · refine wpAny_mono ((W.next i P1 O1 (fun v P2 O2 => O2 = it (i + 1) :: O1 ∧ P1.le P2 ∧ (item i).h P2 v) l1 hlt (fun v P2 l2 r => ⟨rfl, l2, r⟩)).run s1 X1) (fun r s2 ⟨P2, O2, l2, X2, v, hv, hd⟩ => ?_) fun _ _ e => e.elim
    subst hv
    refine wpAny_mono ((hd).run s2 X2) (fun _ s3 ⟨P3, O3, l3, X3, e3, l3', r3⟩ => ?_) fun _ _ e => e.elim
    subst e3
    refine wpAny_mono ((turn i P1 P3 O1 v hlt l1 l3' inv r3).run s3 X3) (fun _ s4 ⟨P4, O4, l4, X4, hb⟩ => ?_) fun _ _ e => e.elim
    refine wpAny_mono ((hb).run s4 X4) (fun f s5 ⟨P5, O5, l5, X5, O6, e6, q⟩ => ?_) fun _ _ e => e.elim
    subst e6
    have lf : P.le P5 := ((l1.trans l3').trans l4).trans l5
    cases f with
    | next => exact ⟨n - (i + 1), by omega, i + 1, P5, O6, hlt, rfl, lf, X5, q⟩
    | cont => exact ⟨n - (i + 1), by omega, i + 1, P5, O6, hlt, rfl, lf, X5, q⟩
    | brk => exact ⟨_, P5, O6, rfl, lf, X5.drop, q⟩
    | ret v => exact ⟨_, P5, O6, rfl, lf, X5.drop, q⟩
  · have hin : i = n := by omega
    subst hin
    refine wpAny_mono ((W.stop P1 O1 l1).run s1 X1) (fun r s2 ⟨P2, O2, l2, X2, e2, e3⟩ => ?_) fun _ _ e => e.elim
    subst e2; subst e3
    exact wpAny_mono ((stop P1 P2 O2 l1 l2 inv).run s2 X2) (fun f s3 ⟨P3, O3, l3, X3, q⟩ => ⟨f, P3, O3, rfl, (l1.trans l2).trans l3, X3, q⟩) fun _ _ e => e.elim

/-- what iter() of a value gives -/
noncomputable def IterOf (prog : Program) (w : World) (A : Around) (target : Expr) (v : Value) (P : Part) (O : List U) (n : Nat) (item : Nat → Rep) : Prop :=
  Do prog w A (pyIter v) P O (fun z P' O' => ∃ I it, z = .ref I ∧ O' = it 0 :: O ∧ Itr prog w A P' target I n it item)

theorem x_for {target iter : Expr} {body orelse : List Stmt} {n : Nat} {item : Nat → Rep} (Inv : Nat → Part → List U → Prop) (hv : Ev prog w A env iter P O R1) (hi : ∀ P' v, P.le P' → R1.h P' v → IterOf prog w A target v P' O n item)
    (h0 : ∀ P', P.le P' → Inv 0 P' O)
    (turn : ∀ i it P1 P2 O' v, i < n → P.le P1 → P1.le P2 → Inv i P1 O' → (item i).h P2 v → Do prog w A (assign target env v) P2 (it :: O') (fun _ P3 O3 => Do prog w A (execs body env) P3 O3 (TurnEnd it (Inv (i + 1)) (After prog w A env rest Φ))))
    (stop : ∀ P1 P2 O', P.le P1 → P1.le P2 → Inv n P1 O' → Do prog w A (execs orelse env) P2 O' (After prog w A env rest Φ))
    (hs : ∀ x, foldedSetIterable iter env x = PySem.Sem.pure x := by intro _; rfl) : Do prog w A (execs (.For target iter body orelse pos :: rest) env) P O Φ := by
  refine x_seq (Ψ := After prog w A env rest Φ) (Do.mk fun s X => wpAny_For (wpAny_mono ((hv P (.refl P)).run s X) (fun v s1 ⟨P1, O1, l1, X1, e1, r1⟩ => wpAny_mono ((hi P1 v l1 r1).run s1 (e1 ▸ X1)) (fun z s2 ⟨P2, O2, l2, X2, I, it, ez, eO, W⟩ => ?_) fun _ _ e => e) fun _ _ e => e) hs)
    (fun _ _ _ q => q) fun f P' O' l hne q => by cases f <;> first | exact absurd rfl hne | exact q
  subst ez; subst eO
  refine codeAny_mono (do_forLoop (Φ := After prog w A env rest Φ) W Inv (h0 P2 (l1.trans l2))
    (fun i P3 P4 O' v hi l3 l4 inv r => turn i (it (i + 1)) P3 P4 O' v hi ((l1.trans l2).trans l3) l4 inv r)
    (fun P3 P4 O' l3 l4 inv => stop P3 P4 O' ((l1.trans l2).trans l3) l4 inv) s2 X2) fun r s3 ⟨f, P3, O3, er, l3, X3, q⟩ => ?_
  subst er
  exact ⟨P3, O3, (l1.trans l2).trans l3, X3, q⟩
end
end

section
section
variable {prog : Program} {w : World} {A : Around} {env : Env} {P : Part} {O O' : List U} {R R1 R2 R3 : Rep} {pos : Pos} {v u z : Value}

noncomputable def emptyU : U where
  fp := []
  ok _ := True
  stable _ _ _ _ := trivial
  alive _ _ a ha := by cases ha
theorem Sat.lose {u : U} {s : Shared} {h' : Heap} {tk : Nat} (x : Sat P (u :: O) s) (ht : s.toks ≤ tk) (hk : ∀ b o, b ∉ u.fp → s.heap.get? b = some o → h'.get? b = some o) : Sat P O { s with heap := h', toks := tk } :=
  (x.turn (u' := emptyU) ht hk (fun a ha => by cases ha) .nil trivial).drop

/-- an iterator of the library, as an own thing: it writes wr, and reads what stays -/
noncomputable def walkU (wr fp : List Addr) (St : Nat → Heap → Prop) (P : Part) (i : Nat) : U where
  fp := wr
  ok h := ∃ h₁, St i h₁ ∧ (∀ b ∈ wr, ∃ o, h₁.get? b = some o ∧ h.get? b = some o) ∧ ∀ b ∈ fp, b ∉ wr → ∃ o, h₁.get? b = some o ∧ P.get b = some o
  stable h h' k := fun ⟨h₁, a, b, c⟩ => ⟨h₁, a, fun x hx => let ⟨o, e1, e2⟩ := b x hx; ⟨o, e1, k x hx o e2⟩, c⟩
  alive h := fun ⟨h₁, a, b, c⟩ x hx => let ⟨o, e1, e2⟩ := b x hx; ⟨o, e2⟩

theorem walkU.st {wr fp : List Addr} {St : Nat → Heap → Prop} {i : Nat} {P' : Part} {s : Shared} (hf : ∀ i h h', St i h → (∀ b ∈ fp, ∀ o, h.get? b = some o → h'.get? b = some o) → St i h') (l : P.le P') (X : Sat P' (walkU wr fp St P i :: O) s) : St i s.heap := by
  obtain ⟨h₁, a, b, c⟩ := X.own _ (.head _)
  refine hf i h₁ _ a fun x hx o e => ?_
  by_cases q : x ∈ wr
  · obtain ⟨o', e1, e2⟩ := b x q; rw [e1] at e; cases e; exact e2
  · obtain ⟨o', e1, e2⟩ := c x hx q; rw [e1] at e; cases e; exact X.per _ _ (l.2 _ _ e2)
theorem walkU.ok' {wr fp : List Addr} {St : Nat → Heap → Prop} {i : Nat} {h' : Heap} (st : St i h') (hal : ∀ b ∈ wr, ∃ o, h'.get? b = some o) (hP : ∀ b ∈ fp, b ∉ wr → ∃ o, h'.get? b = some o ∧ P.get b = some o) : (walkU wr fp St P i).ok h' :=
  ⟨h', st, fun b hb => let ⟨o, e⟩ := hal b hb; ⟨o, e, e⟩, hP⟩
theorem walkU.old {wr fp : List Addr} {St : Nat → Heap → Prop} {i : Nat} {P' : Part} {s : Shared} {h' : Heap} (l : P.le P') (X : Sat P' (walkU wr fp St P i :: O) s) (hk : ∀ b o, b ∉ wr → s.heap.get? b = some o → h'.get? b = some o) :
    ∀ b ∈ fp, b ∉ wr → ∃ o, h'.get? b = some o ∧ P.get b = some o := fun b hb q => by
  obtain ⟨h₁, _, _, c⟩ := X.own _ (.head _)
  obtain ⟨o, _, e⟩ := c b hb q
  exact ⟨o, hk b o q (X.per _ _ (l.2 _ _ e)), e⟩

theorem Itr.ofWalks {target : Expr} {I : Addr} {fp wr : List Addr} {n : Nat} {Pd : Nat → Value → Prop} {St : Nat → Heap → Prop} {item : Nat → Rep} (W : Walks prog w A I fp wr n Pd St) (hnd : wr.Nodup)
    (hal : ∀ i h, St i h → ∀ b ∈ wr, ∃ o, h.get? b = some o) (hitem : ∀ i v, Pd i v → (item i).h P v) (ht : ∀ v, letOwnedTupleGo target (.ref I) v = PySem.Sem.pure () := by intro _; rfl) : Itr prog w A P target I n (walkU wr fp St P) item where
  next i P' O Ψ l hi k := Do.base fun s X => W.item i s _ _ hi (walkU.st W.frame l X) fun v h' tk hv st hk ht' =>
    ⟨P', walkU wr fp St P (i + 1) :: O, .refl _, X.turn ht' hk (fun a ha => .inl ha) hnd (walkU.ok' st (hal _ _ st) (walkU.old l X hk)), v, rfl, by rw [ht]; exact Do.pure (k v P' (.refl _) ((item i).mono _ _ _ l (hitem i v hv)))⟩
  stop P' O l := Do.base fun s X => W.done s _ _ (walkU.st W.frame l X) fun h' tk hk ht' => ⟨P', O, .refl _, X.lose ht' hk, rfl, rfl⟩
  self i P' O l := Do.mk fun s X => W.self i s _ _ (walkU.st W.frame l X) ⟨P', _, .refl _, X, rfl, rfl⟩

/-- texts -/
theorem i_str {x : Str} {target : Expr} (hA : A.handled = none) (hv : (RStr x).h P v) (ha : x.cps.all (· < 128) = true) (h0 : 0 < P.tk) (ht : ∀ z v, letOwnedTupleGo target z v = PySem.Sem.pure () := by intro _ _; rfl) :
    IterOf prog w A target v P O x.cps.size (fun i => RTok ⟨#[x.cps.getD i 0]⟩) := by
  obtain ⟨t, rfl⟩ := hv
  refine Do.base fun s X => wpAny_pyIter_ascii ha fun ht' => ?_
  have hst : (s.heap.push { cls := .type "str_ascii_iterator", data := .fields #[.str x t, .int 0 0] }).IsStrIter s.heap.objs.size "str_ascii_iterator" x t 0 := ⟨_, Heap.get?_push_size _ rfl, rfl, rfl⟩
  have hal : ∀ (i : Nat) (h : Heap), h.IsStrIter s.heap.objs.size "str_ascii_iterator" x t i → ∀ b ∈ [s.heap.objs.size], ∃ o, h.get? b = some o := fun i h st b hb => by
    cases hb with
    | head => obtain ⟨o, e, _⟩ := st; exact ⟨o, e⟩
    | tail _ q => cases q
  have W := fun (A' : Around) (hA' : A'.handled = none) => Walks.strAscii (prog := prog) (w := w) hA' s.heap.objs.size x t
  refine ⟨P, walkU [s.heap.objs.size] [s.heap.objs.size] (fun i h => h.IsStrIter s.heap.objs.size "str_ascii_iterator" x t i) P 0 :: O, .refl _, X.push ht' (push_keep _ _) (fun a ha => by cases ha with | head => exact fresh_size _ | tail _ q => cases q) (List.nodup_cons.mpr ⟨by simp, .nil⟩)
    (walkU.ok' hst (hal 0 _ hst) fun b hb q => absurd hb q), s.heap.objs.size, _, rfl, rfl, ?_⟩
  exact {
    next := fun i P' O Ψ l hi k => Do.mk fun s' X' => by
      have st := walkU.st (W A hA).frame l X'
      refine wpAny_pyNext_ascii_item st (c := x.cps[i]) (by simp [hi]) fun h' st' hs' => ?_
      have hk : ∀ b o, b ∉ [s.heap.objs.size] → s'.heap.get? b = some o → h'.get? b = some o := fun b o hb e => (hs'.2 b fun q => hb (by rw [q]; exact .head _)).trans e
      have Y : Sat P' (walkU [s.heap.objs.size] [s.heap.objs.size] (fun i h => h.IsStrIter s.heap.objs.size "str_ascii_iterator" x t i) P (i + 1) :: O) { s' with heap := h', toks := s'.toks + 1 } :=
        X'.turn (Nat.le_succ _) hk (fun a ha => .inl ha) (List.nodup_cons.mpr ⟨by simp, .nil⟩) (walkU.ok' st' (hal _ _ st') (walkU.old l X' hk))
      obtain ⟨l2, Z⟩ := Y.stamp
      refine ⟨_, _, l2, Z, _, rfl, ?_⟩
      rw [ht]
      refine Do.pure (k _ _ l2 ⟨s'.toks, ?_, ?_, Nat.lt_succ_self _⟩)
      · have e : x.cps[i]?.getD 0 = x.cps[i] := by simp [hi]
        simp only [Array.getD_eq_getD_getElem?]
        rw [e]
      · exact Nat.pos_iff_ne_zero.mp (Nat.lt_of_lt_of_le h0 (Nat.le_trans l.1.2 X'.tk))
    stop := fun P' O l => Do.base fun s' X' => (W A hA).done s' _ _ (walkU.st (W A hA).frame l X') fun h' tk hk ht2 => ⟨P', O, .refl _, X'.lose ht2 hk, rfl, rfl⟩
    self := fun i P' O l => Do.mk fun s' X' => (W A hA).self i s' _ _ (walkU.st (W A hA).frame l X') ⟨P', _, .refl _, X', rfl, rfl⟩ }

/-- lists that stay -/
theorem i_list {rs : List Rep} {target : Expr} (hA : A.handled = none) (hv : (RList rs).h P v) (ht : ∀ z v, letOwnedTupleGo target z v = PySem.Sem.pure () := by intro _ _; rfl) : IterOf prog w A target v P O rs.length (fun i => rs.getD i RAny) := by
  obtain ⟨l, vs, n, rfl, r, g⟩ := RSeq.sees hv
  refine Do.base fun s X => ?_
  have hl : s.heap.IsList l vs.toArray := ⟨_, g s O X, rfl, n, rfl⟩
  refine wpAny_pyIter_list hl fun ht' => ?_
  have hne : l ≠ s.heap.objs.size := Nat.ne_of_lt (Heap.lt_size (g s O X))
  have hst : (s.heap.push { cls := .type "list_iterator", data := .fields #[.ref l, .int 0 0] }).IsListIter s.heap.objs.size l 0 ∧ (s.heap.push { cls := .type "list_iterator", data := .fields #[.ref l, .int 0 0] }).IsList l vs.toArray :=
    ⟨⟨_, Heap.get?_push_size _ rfl, rfl, rfl⟩, ⟨_, Heap.get?_push_of_some _ (g s O X), rfl, n, rfl⟩⟩
  have hal : ∀ (i : Nat) (h : Heap), (h.IsListIter s.heap.objs.size l i ∧ h.IsList l vs.toArray) → ∀ b ∈ [s.heap.objs.size], ∃ o, h.get? b = some o := fun i h st b hb => by
    cases hb with
    | head => obtain ⟨o, e, _⟩ := st.1; exact ⟨o, e⟩
    | tail _ q => cases q
  have W := Walks.list (prog := prog) (w := w) hA s.heap.objs.size l hne vs.toArray
  have hPl : P.get l = some ⟨.type "list", none, .seq vs.toArray n, #[]⟩ := by
    obtain ⟨a, vs', n', e, g', r'⟩ := hv
    cases e
    have h1 := X.per _ _ g'
    rw [g s O X] at h1
    rw [g', h1]
  refine ⟨P, walkU [s.heap.objs.size] [s.heap.objs.size, l] (fun i h => h.IsListIter s.heap.objs.size l i ∧ h.IsList l vs.toArray) P 0 :: O, .refl _, X.push ht' (push_keep _ _) (fun a ha => by cases ha with | head => exact fresh_size _ | tail _ q => cases q) (List.nodup_cons.mpr ⟨by simp, .nil⟩)
    (walkU.ok' hst (hal 0 _ hst) fun b hb q => by
      rcases List.mem_cons.mp hb with rfl | hb
      · exact absurd (.head _) q
      · rcases List.mem_cons.mp hb with rfl | hb
        · exact ⟨_, Heap.get?_push_of_some _ (g s O X), hPl⟩
        · cases hb), s.heap.objs.size, _, rfl, rfl, ?_⟩
  have := Itr.ofWalks (P := P) (target := target) (item := fun i => rs.getD i RAny) W (List.nodup_cons.mpr ⟨by simp, .nil⟩) hal (fun i v hi => by
    have hi' : vs[i]? = some v := by simpa using hi
    obtain ⟨r', e, hh⟩ := r.of_get hi'
    simp only [List.getD_eq_getElem?_getD, e]
    exact hh) (ht _)
  have hlen : vs.toArray.size = rs.length := by have := r.length; simpa using this
  rw [hlen] at this
  exact this

/-- a range -/
noncomputable def RRange (a b : Int) : Rep := ⟨fun P v => ∃ r t u z, v = .ref r ∧ P.get r = some { cls := .type "range", data := .fields #[.int a t, .int b u, .int 1 z] }, fun _ _ _ l ⟨r, t, u, z, e, g⟩ => ⟨r, t, u, z, e, l.2 _ _ g⟩⟩
theorem g_range1 {n : Int} (hv : (RInt n).h P v) : Gv prog w A (call (.type "range") [v]) P O (RRange 0 n) := by
  obtain ⟨t, rfl⟩ := hv
  refine Gv.base fun s X => call_range_1 fun ht => ?_
  obtain ⟨l, Y⟩ := X.alloc (h' := s.heap.push { cls := .type "range", data := .fields #[.int 0 s.toks, .int n t, .int 1 (s.toks + 1)] }) ht (push_keep _ _) (fresh_size _) (Heap.get?_push_size _ rfl)
  exact ⟨_, l, Y, _, _, _, _, rfl, Part.add_self _ _ _⟩
theorem g_range2 {a b : Int} (hv : (RInt a).h P v) (hu : (RInt b).h P u) : Gv prog w A (call (.type "range") [v, u]) P O (RRange a b) := by
  obtain ⟨t, rfl⟩ := hv; obtain ⟨t', rfl⟩ := hu
  refine Gv.base fun s X => call_range_2 fun ht => ?_
  obtain ⟨l, Y⟩ := X.alloc (h' := s.heap.push { cls := .type "range", data := .fields #[.int a t, .int b t', .int 1 s.toks] }) ht (push_keep _ _) (fresh_size _) (Heap.get?_push_size _ rfl)
  exact ⟨_, l, Y, _, _, _, _, rfl, Part.add_self _ _ _⟩
theorem i_range {a b : Int} {n : Nat} {target : Expr} (hA : A.handled = none) (hv : (RRange a b).h P v) (hs : Builtin.Range.small a b 1 = true) (hn : Builtin.Range.rangeSize a b 1 = n) (ht : ∀ z v, letOwnedTupleGo target z v = PySem.Sem.pure () := by intro _ _; rfl) :
    IterOf prog w A target v P O n (fun i => RInt (a + i)) := by
  obtain ⟨r, t, u, z, rfl, g⟩ := hv
  refine Do.base fun s X => wpAny_pyIter_range (X.per _ _ g) hs fun ht' => ?_
  rw [hn] at ht' ⊢
  have hst : IsRangeIter (s.heap.push { cls := .type "range_iterator", data := .fields #[rawInt a, rawInt (n : Int), rawInt 1] }) s.heap.objs.size (a + (0 : Nat) * 1) ((n : Int) - (0 : Nat)) 1 := by
    have e1 : a + ((0 : Nat) : Int) * 1 = a := by simp
    have e2 : (n : Int) - ((0 : Nat) : Int) = n := by simp
    rw [e1, e2]; exact Heap.get?_push_size _ rfl
  have hal : ∀ (i : Nat) (h : Heap), IsRangeIter h s.heap.objs.size (a + (i : Nat) * 1) ((n : Int) - (i : Nat)) 1 → ∀ b ∈ [s.heap.objs.size], ∃ o, h.get? b = some o := fun i h st b hb => by
    cases hb with
    | head => exact ⟨_, st⟩
    | tail _ q => cases q
  have W := Walks.range (prog := prog) (w := w) hA s.heap.objs.size a 1 n
  exact ⟨P, walkU [s.heap.objs.size] [s.heap.objs.size] _ P 0 :: O, .refl _, X.push ht' (push_keep _ _) (fun a ha => by cases ha with | head => exact fresh_size _ | tail _ q => cases q) (List.nodup_cons.mpr ⟨by simp, .nil⟩)
    (walkU.ok' hst (hal 0 _ hst) fun b hb q => absurd hb q), s.heap.objs.size, _, rfl, rfl, Itr.ofWalks W (List.nodup_cons.mpr ⟨by simp, .nil⟩) hal (fun i v ⟨t, e⟩ => ⟨t, by simpa using e⟩) (ht _)⟩
end
end

section
section
variable {prog : Program} {w : World} {A : Around} {env cenv : Env} {P : Part} {O O' : List U} {R R1 R2 R3 : Rep} {pos : Pos} {v u z : Value} {Φ : Flow → Part → List U → Prop}

/-- a clause's tests, as the turn of a block runs them -/
noncomputable def ifsTree (ifs : List Expr) (env : Env) : Sem Bool := forIn ifs true fun c r => if r = true then do let ok ← isTrue c env (eval c env); pure (ForInStep.yield ok) else pure (ForInStep.yield r)
noncomputable def TstL (prog : Program) (w : World) (A : Around) (env : Env) (ifs : List Expr) (P : Part) (O : List U) (b : Bool) : Prop := ∀ P', P.le P' → Do prog w A (ifsTree ifs env) P' O (fun ok P'' O' => O' = O ∧ ok = b)
theorem tl_nil : TstL prog w A env [] P O true := fun P' l => Do.of_eq (t' := (PySem.Sem.pure true : Sem Bool)) (by unfold ifsTree; rw [List.forIn_nil]; rfl) (Do.pure ⟨rfl, rfl⟩)
theorem tl_one {c : Expr} {b : Bool} (h : Tst prog w A env c P O b) : TstL prog w A env [c] P O b := fun P' l => by
  unfold ifsTree
  rw [List.forIn_cons]
  refine Do.bind (Ψ := fun r P'' O' => O' = O ∧ r = ForInStep.yield b) ?_ fun r P'' O' _ ⟨a, e⟩ => ?_
  · rw [if_pos rfl]
    exact Do.bind (h P' l) fun r P'' O' _ ⟨a, e⟩ => by subst e; subst a; exact Do.pure ⟨rfl, rfl⟩
  · subst e; subst a
    show Do prog w A (forIn [] b _) P'' O' _
    rw [List.forIn_nil]
    exact Do.pure ⟨rfl, rfl⟩

/-- the loop of a block -/
theorem c_loop {e : Expr} {depth : Nat} {acc : Value} {target : Expr} {I : Addr} {n : Nat} {it : Nat → U} {item : Nat → Rep} {ifs : List Expr} {emit : Sem Unit} {p : Pos} (W : Itr prog w A P target I n it item)
    (he : compTurn e depth (.ref I) acc env = (PySem.standAt p >>= fun _ => pyNext (.ref I) >>= fun r => match r with
      | none => pure (.done .next)
      | some v => letOwnedTupleGo target (.ref I) v >>= fun _ => assign target env v >>= fun _ => ifsTree ifs env >>= fun ok =>
        if ok = true then emit >>= fun _ => again (.compLoop e depth (.ref I) acc env) else again (.compLoop e depth (.ref I) acc env)))
    (hq : (Code.compLoop e depth (.ref I) acc env).quiet = true) (hf : (Code.compLoop e depth (.ref I) acc env).isFrame = false) (hun : A.under (.compLoop e depth (.ref I) acc env) = A)
    (Inv : Nat → Part → List U → Prop) (h0 : Inv 0 P O)
    (turn : ∀ i P1 P2 O' v, i < n → P.le P1 → P1.le P2 → Inv i P1 O' → (item i).h P2 v → Do prog w A (assign target env v) P2 (it (i + 1) :: O') (fun _ P3 O3 => Do prog w A (ifsTree ifs env) P3 O3 (fun ok P4 O4 =>
      if ok = true then Do prog w A emit P4 O4 (fun _ P5 O5 => ∃ O6, O5 = it (i + 1) :: O6 ∧ Inv (i + 1) P5 O6) else ∃ O6, O4 = it (i + 1) :: O6 ∧ Inv (i + 1) P4 O6)))
    (stop : ∀ P1 P2 O', P.le P1 → P1.le P2 → Inv n P1 O' → Φ .next P2 O') : DoC prog w A (.compLoop e depth (.ref I) acc env) P (it 0 :: O) Φ := fun s X => by
  refine codeAny_loop hq (fun k s => ∃ i P1 O1, i ≤ n ∧ k = n - i ∧ P.le P1 ∧ Sat P1 (it i :: O1) s ∧ Inv i P1 O1) ?_ n ⟨0, P, O, Nat.zero_le _, rfl, .refl P, X, h0⟩
  rintro k s1 ⟨i, P1, O1, hi, rfl, l1, X1, inv⟩
  rw [hun]
  show wpAny _ A (if (Code.compLoop e depth (.ref I) acc env).isFrame = true then (compTurn e depth (.ref I) acc env).onRaise (leaving env) else (compTurn e depth (.ref I) acc env).onRaise (fun x => do noteFrame x env; theTreesLotGoes x)) _ _ s1
  rw [hf, if_neg Bool.false_ne_true]
  refine wpAny_onRaise (wpAny_mono (E := fun _ _ => False) ?_ (fun _ _ q => q) fun _ _ e => e.elim)
  rw [he]
  refine wpAny_bind (wpAny_standAt (wpAny_bind ?_))
  by_cases hlt : i < n
  · refine wpAny_mono ((W.next i P1 O1 (fun v P2 O2 => O2 = it (i + 1) :: O1 ∧ P1.le P2 ∧ (item i).h P2 v) l1 hlt (fun v P2 l2 r => ⟨rfl, l2, r⟩)).run s1 X1) (fun r s2 ⟨P2, O2, l2, X2, v, hv, hd⟩ => ?_) fun _ _ e => e.elim
    subst hv
    refine wpAny_bind (wpAny_mono ((hd).run s2 X2) (fun _ s3 ⟨P3, O3, l3, X3, e3, l3', r3⟩ => ?_) fun _ _ e => e.elim)
    subst e3
    refine wpAny_bind (wpAny_mono ((turn i P1 P3 O1 v hlt l1 l3' inv r3).run s3 X3) (fun _ s4 ⟨P4, O4, l4, X4, hb⟩ => ?_) fun _ _ e => e.elim)
    refine wpAny_bind (wpAny_mono ((hb).run s4 X4) (fun ok s5 ⟨P5, O5, l5, X5, hc⟩ => ?_) fun _ _ e => e.elim)
    have lf : P.le P5 := ((l1.trans l3').trans l4).trans l5
    cases ok with
    | true =>
      rw [if_pos rfl] at hc ⊢
      refine wpAny_bind (wpAny_mono ((hc).run s5 X5) (fun _ s6 ⟨P6, O6, l6, X6, O7, e7, q⟩ => wpAny_pure ?_) fun _ _ e => e.elim)
      subst e7
      exact ⟨rfl, n - (i + 1), by omega, i + 1, P6, O7, hlt, rfl, lf.trans l6, X6, q⟩
    | false =>
      rw [if_neg Bool.false_ne_true] at hc ⊢
      obtain ⟨O7, e7, q⟩ := hc
      subst e7
      exact wpAny_pure ⟨rfl, n - (i + 1), by omega, i + 1, P5, O7, hlt, rfl, lf, X5, q⟩
  · have hin : i = n := by omega
    subst hin
    refine wpAny_mono ((W.stop P1 O1 l1).run s1 X1) (fun r s2 ⟨P2, O2, l2, X2, e2, e3⟩ => ?_) fun _ _ e => e.elim
    subst e2; subst e3
    exact wpAny_pure ⟨.next, P2, O2, rfl, l1.trans l2, X2, stop P1 P2 O2 l1 l2 inv⟩

theorem Sat.down {P P1 : Part} {O : List U} {s : Shared} (X : Sat P1 O s) (l : P.le P1) (h2 : ∃ o, P.get 2 = some o) : Sat P O s :=
  ⟨fun a o e => X.per _ _ (l.2 _ _ e), X.own, X.nd, fun a ha => (by
    cases q : P.get a with
    | none => rfl
    | some o => have := X.off a ha; rw [l.2 _ _ q] at this; cases this), X.gens, X.os.trans l.1.1, Nat.le_trans l.1.2 X.tk, h2⟩
theorem c_start {e : Expr} {depth : Nat} {acc : Value} {target iter : Expr} {ifs : List Expr} {I : Addr} {n : Nat} {it : Nat → U} {item : Nat → Rep} (W : Itr prog w A P target I n it item)
    (hg : (clausesOf e)[depth]? = some ⟨target, iter, ifs, 0⟩) (hf : (Code.compStart e depth (.ref I) acc env).isFrame = false) (hun : A.under (.compStart e depth (.ref I) acc env) = A) (hq : ∀ v, (Code.compLoop e depth v acc env).quiet = true)
    (h : DoC prog w A (.compLoop e depth (.ref I) acc env) P (it 0 :: O) Φ) : DoC prog w A (.compStart e depth (.ref I) acc env) P (it 0 :: O) Φ := fun s X => by
  refine codeAny_of_tree ?_
  rw [hun]
  show wpAny _ A (if (Code.compStart e depth (.ref I) acc env).isFrame = true then (compStart e depth (.ref I) acc env).onRaise (leaving env) else (compStart e depth (.ref I) acc env).onRaise (fun x => do noteFrame x env; PySem.standAt theWindowsPlace)) _ _ s
  rw [hf, if_neg Bool.false_ne_true]
  refine wpAny_onRaise (wpAny_mono (E := fun _ _ => False) ?_ (fun _ _ q => q) fun _ _ e => e.elim)
  unfold compStart
  rw [hg]
  have hz : ((some (⟨target, iter, ifs, 0⟩ : Comprehension)).elim false (·.is_async != 0)) = false := rfl
  rw [hz, if_neg Bool.false_ne_true]
  refine wpAny_bind (wpAny_askSetting ?_)
  split
  · first
      | exact wpAny_pure ⟨hq _, h s X⟩
      | exact wpAny_bind (wpAny_pure (wpAny_pure ⟨hq _, h s X⟩))
  · refine wpAny_bind (wpAny_rule ?_)
    refine wpAny_bind (wpAny_standAt ?_)
    exact wpAny_bind (wpAny_mono ((W.self 0 P O (.refl P)).run s X) (fun z s1 ⟨P1, O1, l1, X1, ez, eO⟩ => by
      subst ez; subst eO
      refine wpAny_pure ⟨hq _, ?_⟩
      exact h s1 (X1.down l1 X.two)) fun _ _ e => e.elim)
end
end

section
section
variable {prog : Program} {w : World} {A : Around} {env cenv : Env} {P : Part} {O O' : List U} {R R1 R2 R3 : Rep} {pos : Pos} {v u z : Value} {Φ : Flow → Part → List U → Prop} {rest : List Stmt}

/-- what a block with one clause gives -/
noncomputable def picked (n : Nat) (keep : Nat → Bool) (out : Nat → Rep) : List Rep := ((List.range n).filter keep).map out
theorem picked_succ (n : Nat) (keep : Nat → Bool) (out : Nat → Rep) : picked (n + 1) keep out = picked n keep out ++ (if keep n = true then [out n] else []) := by
  unfold picked
  rw [List.range_succ, List.filter_append, List.map_append]
  cases h : keep n <;> simp [h]
theorem picked_length (n : Nat) (keep : Nat → Bool) (out : Nat → Rep) : (picked n keep out).length ≤ n := by
  unfold picked
  rw [List.length_map]
  exact Nat.le_trans (List.length_filter_le _ _) (by simp)

theorem do_emit {D : Addr} {acc : List Value} {elt : Expr} {O2 : Value → List U} {Ψ : Part → List U → Prop} (he : Ev prog w A env elt P O R) (hU : ∀ z, Upd O (listU D acc) (listU D (acc ++ [z])) (O2 z)) (hz : acc.length ≤ sizeLine)
    (k : ∀ P' z, P.le P' → R.h P' z → Ψ P' (O2 z)) :
    Do prog w A (eval elt env >>= fun x => call (.builtin "list.append") [.ref D, x] >>= fun _ => (pure () : Sem Unit)) P O (fun _ P' O' => Ψ P' O') :=
  Do.bind (he P (.refl P)) fun z P1 O1 l1 ⟨e, r⟩ => by
    subst e
    exact Do.bind (Ψ := fun _ P' O' => Ψ P' O') (o_append (hU z) hz (k P1 z l1 r)) fun _ P' O' _ q => Do.pure q

theorem compTurn_one (elt target iter : Expr) (ifs : List Expr) (scope : Scope) (it acc : Value) (env : Env) : compTurn (.ListComp elt [⟨target, iter, ifs, 0⟩] scope pos) 0 it acc env = (PySem.standAt iter.pos >>= fun _ => pyNext it >>= fun r => match r with
      | none => pure (.done .next)
      | some v => letOwnedTupleGo target it v >>= fun _ => assign target env v >>= fun _ => ifsTree ifs env >>= fun ok =>
        if ok = true then (eval elt env >>= fun x => call (.builtin "list.append") [acc, x] >>= fun _ => (pure () : Sem Unit)) >>= fun _ => again (.compLoop (.ListComp elt [⟨target, iter, ifs, 0⟩] scope pos) 0 it acc env)
        else again (.compLoop (.ListComp elt [⟨target, iter, ifs, 0⟩] scope pos) 0 it acc env)) := by rfl

/-- from the iterator on: a block of one clause whose name is its own -/
theorem comp1_run {elt iter : Expr} {x : Str} {px : Pos} {ifs : List Expr} {scope : Scope} {cl : List (Str × Addr)} {I : Addr} {n : Nat} {it : Nat → U} {item : Nat → Rep} (keep : Nat → Bool) (out : Nat → Rep)
    (W : Itr prog w A P (.Name x px) I n it item) (hz : n ≤ sizeLine)
    (hcell : ∀ y ∈ scope.names, y.2 ≠ .cell) (hkind : scope.kind = .function) (hx : scope.names.lookup x = some .local)
    (htest : ∀ i v P' u C D acc, i < n → P.le P' → (item i).h P' v → TstL prog w A (compEnvC scope cl C env) ifs P' (u :: frameU C [x] [some v] :: listU D acc :: O) (keep i))
    (helt : ∀ i v P' u C D acc, i < n → keep i = true → P.le P' → (item i).h P' v → Ev prog w A (compEnvC scope cl C env) elt P' (u :: frameU C [x] [some v] :: listU D acc :: O) (out i))
    {s : Shared} (X : Sat P (it 0 :: O) s) :
    wpAny (model prog w) A (newList []) (fun acc s₃ => wpAny (model prog w) A (newFunctionEnv scope env.globals cl [] env.qual none .none (some env)) (fun cenv s₄ =>
      codeAny (model prog w) A (.compStart (.ListComp elt [⟨.Name x px, iter, ifs, 0⟩] scope pos) 0 (.ref I) acc { cenv with scope := relabel scope env })
        (fun r s' => ∃ f P' C o, r = .ok f ∧ cenv.locals = C ∧ P.le P' ∧ Sat P' (frameU C [x] [o] :: O) s' ∧ (RList (picked n keep out)).h P' acc) s₄) (fun _ _ => False) s₃) (fun _ _ => False) s := by
  refine wpAny_mono ((o_newList (prog := prog) (w := w) (A := A) (vs := []) (Φ := fun v P' O' => P' = P ∧ ∃ D, v = .ref D ∧ O' = listU D [] :: it 0 :: O) (by simp) (fun l => ⟨rfl, l, rfl, rfl⟩)).run s X) (fun acc s₃ ⟨P3, O3, l3, X3, eP, D, eD, eO⟩ => ?_) fun _ _ e => e
  subst eP; subst eD; subst eO
  refine wpAny_newFunctionEnv hcell (by intro y hy; cases hy) (fun h' hn hs => ?_) hkind
  have X4 : Sat P3 (frameU s₃.heap.objs.size [x] [none] :: listU D [] :: it 0 :: O) { s₃ with heap := h', toks := s₃.toks + ([] : List (Str × Value)).length } :=
    X3.push (Nat.le_refl _) (fun b o e => (hs.2 b (Nat.ne_of_lt (Heap.lt_size e))).trans (Heap.get?_push_of_some _ e)) (fun a ha => by cases ha with | head => exact fresh_size _ | tail _ q => cases q) (List.nodup_cons.mpr ⟨by simp, .nil⟩)
      ⟨List.nodup_cons.mpr ⟨by simp, .nil⟩, _, hn, fun i y v e1 e2 => by
        cases i with
        | zero => cases e2
        | succ i => simp at e2⟩
  generalize hC : s₃.heap.objs.size = C at X4 hn ⊢
  have X5 : Sat P3 (it 0 :: frameU C [x] [none] :: listU D [] :: O) { s₃ with heap := h', toks := s₃.toks + ([] : List (Str × Value)).length } := X4.perm (by
    refine ((List.Perm.swap _ _ _).trans ?_).trans (List.Perm.refl _)
    refine (List.Perm.swap (frameU C [x] [none]) (listU D []) _).trans ?_
    exact ((List.Perm.swap (it 0) (listU D []) O).cons _).trans (List.Perm.swap (it 0) (frameU C [x] [none]) _))
  refine codeAny_mono (c_start W rfl rfl (Around.under_of_weight rfl) (fun _ => rfl) (c_loop (Φ := fun f P' O' => ∃ o acc, O' = frameU C [x] [o] :: listU D acc :: O ∧ Reps P' (picked n keep out) acc) (acc := .ref D) (env := compEnvC scope cl C env) W (compTurn_one elt (.Name x px) iter ifs scope (.ref I) (.ref D) (compEnvC scope cl C env)) rfl rfl (Around.under_of_weight rfl)
    (fun i P' O' => ∃ o acc, O' = frameU C [x] [o] :: listU D acc :: O ∧ Reps P' (picked i keep out) acc) ⟨none, [], rfl, trivial⟩ (fun i P1 P2 O' v hi l1 l2 inv r => ?_) (fun P1 P2 O' l1 l2 inv => by
      obtain ⟨o, acc, e, q⟩ := inv
      exact ⟨o, acc, e, q.mono l2⟩)) _ X5) (fun r s5 ⟨f, P5, O5, er, l5, X5, o, acc, e5, q⟩ => ?_)
  · obtain ⟨o, acc, rfl, q⟩ := inv
    refine Do.assign_name (s_local (L := C) (ns := [x]) (vs := [o]) (vs' := [some v]) (Upd.tail Upd.head) Put.head ?_ rfl (by show (relabel scope env).names.lookup x = _; exact lookup_relabel_local hx) (by show (relabel scope env).kind = _; exact hkind))
    refine (htest i v P2 _ C D acc hi (l1.trans l2) r P2 (.refl _)).mono fun ok P3' O3 l3 ⟨e3, ek⟩ => ?_
    subst e3; subst ek
    cases hk : keep i with
    | false =>
      rw [if_neg Bool.false_ne_true]
      exact ⟨_, rfl, some v, acc, rfl, by rw [picked_succ, hk]; simpa using q.mono (l2.trans l3)⟩
    | true =>
      rw [if_pos rfl]
      refine do_emit (D := D) (acc := acc) ((helt i v P3' _ C D acc hi hk ((l1.trans l2).trans l3) ((item i).mono _ _ _ l3 r))) (fun z => .tail (.tail .head)) ?_ (fun P4 z l4 rz => ?_)
      · have h1 := q.length
        have h2 := picked_length i keep out
        omega
      · exact ⟨_, rfl, some v, acc ++ [z], rfl, by rw [picked_succ, hk, if_pos rfl]; exact (q.mono ((l2.trans l3).trans l4)).snoc rz⟩
  · subst er; subst e5
    obtain ⟨n', e⟩ := X5.own _ (.tail _ (.head _))
    obtain ⟨l6, X6⟩ := (X5.perm (List.Perm.swap _ _ _)).freeze (a := D) (.head _) e
    exact ⟨f, _, C, o, rfl, hC.symm ▸ rfl, l5.trans l6, X6, _, _, n', rfl, Part.add_self _ _ _, by simpa using q.mono l6⟩

theorem Sat.unframe {C : Addr} {ns : List Str} {vs : List (Option Value)} {s : Shared} (X : Sat P (frameU C ns vs :: O) s) : ∃ m, s.heap.Ns C m ∧ ∀ h', Heap.SameBut C s.heap h' → Sat P O { s with heap := h' } := by
  obtain ⟨_, m, hm, _⟩ := X.own _ (.head _)
  exact ⟨m, hm, fun h' hs => X.lose (Nat.le_refl _) fun b o hb e => (hs.2 b fun q => hb (by rw [q]; exact .head _)).trans e⟩

/-- a block of one clause as a value -/
theorem ev_comp1 {elt iter : Expr} {x : Str} {px : Pos} {ifs : List Expr} {scope : Scope} {cl : List (Str × Addr)} {n : Nat} {item : Nat → Rep} (keep : Nat → Bool) (out : Nat → Rep)
    (hv : Ev prog w A env iter P O R1) (hi : ∀ P' v, P.le P' → R1.h P' v → IterOf prog w A (.Name x px) v P' O n item) (hz : n ≤ sizeLine)
    (htest : ∀ i v P' u C D acc, i < n → P.le P' → (item i).h P' v → TstL prog w A (compEnvC scope cl C env) ifs P' (u :: frameU C [x] [some v] :: listU D acc :: O) (keep i))
    (helt : ∀ i v P' u C D acc, i < n → keep i = true → P.le P' → (item i).h P' v → Ev prog w A (compEnvC scope cl C env) elt P' (u :: frameU C [x] [some v] :: listU D acc :: O) (out i))
    (hclos : closureFor scope env = PySem.Sem.pure cl := by rfl) (hcell : ∀ y ∈ scope.names, y.2 ≠ .cell := by decide) (hkind : scope.kind = .function := by rfl) (hnames : ∀ y ∈ scope.names, y.2 = .local → scope.names.lookup y.1 = some .local := by decide)
    (hx : scope.names.lookup x = some .local := by rfl) (hs : ∀ x, foldedSetIterable iter env x = PySem.Sem.pure x := by intro _; rfl) :
    Ev prog w A env (.ListComp elt [⟨.Name x px, iter, ifs, 0⟩] scope pos) P O (RList (picked n keep out)) := fun P' l => Do.mk fun s X => by
  rw [eval_ListComp]
  refine wpAny_comprehension_free (use := none) rfl hs hclos hkind hnames (wpAny_mono ((hv P' l).run s X) (fun v s1 ⟨P1, O1, l1, X1, e1, r1⟩ => wpAny_mono ((hi P1 v (l.trans l1) r1).run s1 (e1 ▸ X1)) (fun z s2 ⟨P2, O2, l2, X2, I, it, ez, eO, W⟩ => ?_) fun _ _ e => e) fun _ _ e => e)
  subst ez; subst eO
  have lP := (l.trans l1).trans l2
  refine wpAny_mono (comp1_run (elt := elt) (iter := iter) (px := px) keep out W hz hcell hkind hx (fun i v P' u C D acc hi l3 r => htest i v P' u C D acc hi (lP.trans l3) r) (fun i v P' u C D acc hi hk l3 r => helt i v P' u C D acc hi hk (lP.trans l3) r) X2) (fun acc s3 h3 => wpAny_mono h3 (fun cenv s4 h4 => codeAny_mono h4 fun r s5 ⟨f, P5, C, o, er, eC, l5, X5, hr⟩ => ?_) fun _ _ e => e) fun _ _ e => e
  subst er; subst eC
  obtain ⟨m, hm, hh⟩ := X5.unframe
  exact ⟨m, hm, fun h' hs' => ⟨P5, O, (l1.trans l2).trans l5, hh h' hs', rfl, hr⟩⟩

/-- name = a block of one clause -/
theorem x_comp1 {elt iter : Expr} {x y : Str} {px py : Pos} {ifs : List Expr} {scope : Scope} {cl : List (Str × Addr)} {n : Nat} {item : Nat → Rep} {spos : Pos} (keep : Nat → Bool) (out : Nat → Rep)
    {L : Addr} {ns : List Str} {vs : List (Option Value)} {vs' : Value → List (Option Value)} {O2 : Value → List U}
    (hv : Ev prog w A env iter P O R1) (hi : ∀ P' v, P.le P' → R1.h P' v → IterOf prog w A (.Name x px) v P' O n item) (hz : n ≤ sizeLine)
    (htest : ∀ i v P' u C D acc, i < n → P.le P' → (item i).h P' v → TstL prog w A (compEnvC scope cl C env) ifs P' (u :: frameU C [x] [some v] :: listU D acc :: O) (keep i))
    (helt : ∀ i v P' u C D acc, i < n → keep i = true → P.le P' → (item i).h P' v → Ev prog w A (compEnvC scope cl C env) elt P' (u :: frameU C [x] [some v] :: listU D acc :: O) (out i))
    (hU : ∀ v, Upd O (frameU L ns vs) (frameU L ns (vs' v)) (O2 v)) (hp : ∀ v, Put ns vs y v (vs' v))
    (k : ∀ v P', P.le P' → (RList (picked n keep out)).h P' v → Do prog w A (execs rest env) P' (O2 v) Φ)
    (hsw : swapsWith (.ListComp elt [⟨.Name x px, iter, ifs, 0⟩] scope pos) (some (.Name y py)) spos.line env = PySem.Sem.pure true := by rfl)
    (hclos : closureFor scope env = PySem.Sem.pure cl := by rfl) (hcell : ∀ y ∈ scope.names, y.2 ≠ .cell := by decide) (hkind : scope.kind = .function := by rfl) (hnames : ∀ y ∈ scope.names, y.2 = .local → scope.names.lookup y.1 = some .local := by decide)
    (hx : scope.names.lookup x = some .local := by rfl) (hs : ∀ x, foldedSetIterable iter env x = PySem.Sem.pure x := by intro _; rfl)
    (hL : env.locals = L := by rfl) (hl : env.kindOf y = some .local := by rfl) (hk : env.scope.kind = .function := by rfl) :
    Do prog w A (execs (.Assign [.Name y py] (.ListComp elt [⟨.Name x px, iter, ifs, 0⟩] scope pos) spos :: rest) env) P O Φ := by
  refine x_next (Ψ := fun P2 O2 => Do prog w A (execs rest env) P2 O2 Φ) (Do.mk fun s X => ?_) fun P' O' l q => q
  rw [exec_Assign_Name_used _ _ _ _ hsw]
  refine wpAny_bind (wpAny_standAt (wpAny_bind ?_))
  show wpAny _ A (do let _ ← comprehension (.ListComp elt [⟨.Name x px, iter, ifs, 0⟩] scope pos) scope env _ (newList []) false (eval iter env) (some (assign (.Name y py) env))) _ _ s
  refine wpAny_bind (wpAny_mono (wpAny_comprehension_free (use := some (assign (.Name y py) env)) (Q := fun _ s' => ∃ P' O', P.le P' ∧ Sat P' O' s' ∧ Flow.next = .next ∧ Do prog w A (execs rest env) P' O' Φ) rfl hs hclos hkind hnames
    (wpAny_mono ((hv P (.refl P)).run s X) (fun v s1 ⟨P1, O1, l1, X1, e1, r1⟩ => wpAny_mono ((hi P1 v l1 r1).run s1 (e1 ▸ X1)) (fun z s2 ⟨P2, O2', l2, X2, I, it, ez, eO, W⟩ => ?_) fun _ _ e => e) fun _ _ e => e)) (fun _ s' hq => wpAny_pure (wpAny_pure hq)) fun _ _ e => e)
  subst ez; subst eO
  have lP := l1.trans l2
  refine wpAny_mono (comp1_run (elt := elt) (iter := iter) (px := px) keep out W hz hcell hkind hx (fun i v P' u C D acc hi l3 r => htest i v P' u C D acc hi (lP.trans l3) r) (fun i v P' u C D acc hi hk l3 r => helt i v P' u C D acc hi hk (lP.trans l3) r) X2) (fun acc s3 h3 => wpAny_mono h3 (fun cenv s4 h4 => codeAny_mono h4 fun r s5 ⟨f, P5, C, o, er, eC, l5, X5, hr⟩ => ?_) fun _ _ e => e) fun _ _ e => e
  subst er; subst eC
  show wpAny _ A (assign (.Name y py) env acc) _ _ _
  refine wpAny_mono ((Do.assign_name (s_local (env := env) (Φ := fun _ P6 O6 => P6 = P5 ∧ O6 = frameU cenv.locals [x] [o] :: O2 acc) (Upd.tail (hU acc)) (hp acc) ⟨rfl, rfl⟩ hL hl hk)).run s5 X5) (fun _ s6 ⟨P6, O6, l6, X6, e6, e7⟩ => ?_) fun _ _ e => e
  subst e6; subst e7
  obtain ⟨m, hm, hh⟩ := X6.unframe
  exact ⟨m, hm, fun h' hs' => ⟨P6, O2 acc, lP.trans l5, hh h' hs', rfl, k acc P6 (lP.trans l5) hr⟩⟩
end
end

section
section
variable {prog : Program} {w : World} {A : Around} {env cenv : Env} {P : Part} {O O' : List U} {R R1 R2 R3 : Rep} {pos : Pos} {v u z : Value} {Φ : Flow → Part → List U → Prop} {rest : List Stmt} {K : Frag}

/-- a table of names, in the part that stays -/
noncomputable def PNs (P : Part) (a : Addr) (m : Str → Option Value) : Prop := ∃ o es ep, P.get a = some o ∧ o.data = .dict es ep ∧ StrKeys es ∧ ∀ name, nsFind es name = m name
theorem PNs.ns {a : Addr} {m : Str → Option Value} {s : Shared} (h : PNs P a m) (X : Sat P O s) : s.heap.Ns a m := let ⟨o, es, ep, e, r⟩ := h; ⟨o, es, ep, X.per _ _ e, r⟩
theorem PNs.up {a : Addr} {m : Str → Option Value} {P' : Part} (h : PNs P a m) (l : P.le P') : PNs P' a m := let ⟨o, es, ep, e, r⟩ := h; ⟨o, es, ep, l.2 _ _ e, r⟩
/-- what stood before the call -/
noncomputable def Bg (K : Frag) (P : Part) : Prop :=
  (∃ (mg mb mc : Str → Option Value) (bm : Addr) (ob : Obj), (∀ a o, K.lookup a = some o → P.get a = some o) ∧ PNs P mainGlobals mg ∧ PNs P builtinsNs mb ∧ (∀ x : Str, x ≠ "__name__" → mb x = bootBuiltins x) ∧ (PNs P cStatics mc ∧ mc "sys.recursionlimit" = none) ∧
    mg "__builtins__" = some (.ref bm) ∧ bm ≠ builtinsNs ∧ P.get bm = some ob ∧ ob.cls = .type "module" ∧ ob.dict = some builtinsNs ∧ ob.data = .plain) ∧ 0 < P.tk
theorem Bg.up {P' : Part} (B : Bg K P) (l : P.le P') : Bg K P' := let ⟨⟨mg, mb, mc, bm, ob, a, b, c, d, e, f, g, h, i⟩, t⟩ := B; ⟨⟨mg, mb, mc, bm, ob, fun x o q => l.2 _ _ (a x o q), b.up l, c.up l, d, ⟨e.1.up l, e.2⟩, f, g, l.2 _ _ h, i⟩, Nat.lt_of_lt_of_le t l.1.2⟩
theorem Bg.kin {s : Shared} (B : Bg K P) (X : Sat P O s) : K.In s.heap := let ⟨⟨mg, mb, mc, bm, ob, a, _⟩, t⟩ := B; fun x o q => X.per _ _ (a x o q)
theorem Bg.nolimit {s : Shared} (B : Bg K P) (X : Sat P O s) : s.heap.NoLimit := let ⟨⟨mg, mb, mc, bm, ob, a, b, c, d, e, _⟩, t⟩ := B; ⟨mc, e.1.ns X, e.2⟩
theorem Bg.get {a : Addr} {o : Obj} (B : Bg K P) (e : K.lookup a = some o) : P.get a = some o := let ⟨⟨mg, mb, mc, bm, ob, a, _⟩, t⟩ := B; a _ _ e

/-- how deep a call may still go -/
noncomputable def Fit (k : Nat) (A : Around) : Prop := A.handled = none ∧ A.depth + k < recursionLimit ∧ A.units + 4 * k + 8 < cLine
theorem Fit.deeper {k : Nat} (h : Fit (k + 1) A) : Fit k (A.deeper env) := ⟨h.1, by have := h.2.1; show A.depth + 1 + k < _; omega, by have := h.2.2; show A.units + 3 + 4 * k + 8 < _; omega⟩
theorem Fit.less {k j : Nat} (h : Fit k A) (q : j ≤ k) : Fit j A := ⟨h.1, by have := h.2.1; omega, by have := h.2.2; omega⟩
theorem Fit.none {k : Nat} (h : Fit k A) : A.handled = none := h.1
theorem Fit.units {k : Nat} (h : Fit k A) : A.units < cLine := by have := h.2.2; omega
theorem Fit.depth {k : Nat} (h : Fit k A) : A.depth < recursionLimit := by have := h.2.1; omega

/-- names of the top -/
theorem ev_global {x : Str} (B : Bg K P) (e : nsIn K mainGlobals x = some (some v)) (hg : env.globals = mainGlobals := by rfl) (hk : env.scope.kind = .function := by rfl) (hx : env.kindOf x = some .globalImplicit := by rfl) (hd : (x == ("__debug__" : Str)) = false := by decide) :
    Ev prog w A env (.Name x pos) P O (RVal v) := fun P' l => Gv.base fun s X => by
  have KX := (B.up l).kin X
  obtain ⟨⟨mg, mb, mc, bm, ob, a, b, c, d, _⟩, t⟩ := B.up l
  have hG := b.ns X
  exact Name_function_global hk hx (loadGlobal_global (env := env) (by rw [hg]; exact hG) (mg_of KX hG e) (here0 X rfl)) hd
theorem ev_builtin {x : Str} (B : Bg K P) (e : nsIn K mainGlobals x = some none) (hv : bootBuiltins x = some v) (hn : x ≠ "__name__") (hg : env.globals = mainGlobals := by rfl) (hb : env.builtins = builtinsNs := by rfl) (hk : env.scope.kind = .function := by rfl) (hx : env.kindOf x = some .globalImplicit := by rfl) (hd : (x == ("__debug__" : Str)) = false := by decide) :
    Ev prog w A env (.Name x pos) P O (RVal v) := fun P' l => Gv.base fun s X => by
  have KX := (B.up l).kin X
  obtain ⟨⟨mg, mb, mc, bm, ob, a, b, c, d, _⟩, t⟩ := B.up l
  have hG := b.ns X
  have hB := c.ns X
  exact Name_function_global hk hx (loadGlobal_builtin (env := env) (by rw [hg]; exact hG) (mg_none_of KX hG e) (by rw [hb]; exact hB) ((d x hn).trans hv) (here0 X rfl)) hd

/-- a function of the top -/
noncomputable def FnAt (K : Frag) (a : Addr) (qual : Str) (params : Arguments) (body : List Stmt) (scope : Scope) : Prop :=
  ∃ oc od name doc pm an cdv ct osl, K.lookup a = some ⟨oc, od, .func (fnOf name qual params body scope .none .none doc pm an cdv ct), osl⟩ ∧ codeIn K cdv qual = true

theorem Sat.pushes {s : Shared} {h' : Heap} {tk : Nat} (x : Sat P O s) (ht : s.toks ≤ tk) (hk : ∀ b o, s.heap.get? b = some o → h'.get? b = some o) : ∀ {us : List U}, (∀ u ∈ us, u.ok h') → (fps us).Nodup → (∀ a ∈ fps us, s.heap.get? a = none) → Sat P (us ++ O) { s with heap := h', toks := tk }
  | [], _, _, _ => x.keep ht hk
  | u :: us, ho, hn, hf => by
    have hn' := List.nodup_append.mp (fps_cons u us ▸ hn)
    have y := x.pushes ht hk (us := us) (fun v hv => ho v (.tail _ hv)) hn'.2.1 (fun a ha => hf a (by rw [fps_cons]; exact List.mem_append_right _ ha))
    refine ⟨y.per, fun v hv => ?_, ?_, fun a ha => ?_, y.gens, y.os, y.tk, y.two⟩
    · cases hv with
      | head => exact ho _ (.head _)
      | tail _ hv => exact y.own v hv
    · show (u.fp ++ fps (us ++ O)).Nodup
      refine List.nodup_append.mpr ⟨hn'.1, y.nd, fun a ha b hb q => ?_⟩
      subst q
      rw [fps_append] at hb
      rcases List.mem_append.mp hb with hb | hb
      · exact hn'.2.2 a ha a hb rfl
      · obtain ⟨o, e⟩ := x.mem_alive hb
        rw [hf a (by rw [fps_cons]; exact List.mem_append_left _ ha)] at e; cases e
    · have ha' : a ∈ u.fp ++ fps (us ++ O) := ha
      rcases List.mem_append.mp ha' with ha | ha
      · exact x.freshP (hf a (by rw [fps_cons]; exact List.mem_append_left _ ha))
      · exact y.off a ha
theorem Sat.drops {s : Shared} : ∀ {us : List U}, Sat P (us ++ O) s → Sat P O s
  | [], x => x
  | _ :: _, x => Sat.drops (us := _) x.drop

/-- a def's end: its frame goes, and what it hands back -/
noncomputable def FnEnd (Ψ : Value → Part → List U → Prop) (f : Flow) (P : Part) (O : List U) : Prop := ∃ us O2, O = us ++ O2 ∧ Ψ (match f with | .ret v => v | _ => .none) P O2

/-- a call of a def without cells -/
theorem f_call {a : Addr} {qual : Str} {params : Arguments} {body : List Stmt} {scope : Scope} {vals : List Value} {binds : List (Str × Value)} {ns : List Str} {vs : List (Option Value)} {Ψ : Value → Part → List U → Prop} {k : Nat}
    (B : Bg K P) (F : FnAt K a qual params body scope) (hA : Fit k A)
    (hbind : ∀ name doc pm an cdv ct, bindArgs (fnOf name qual params body scope .none .none doc pm an cdv ct) ⟨vals, []⟩ = PySem.Sem.pure binds)
    (hvs : ns.map (fun x => binds.reverse.lookup x) = vs) (hnd : ns.Nodup) (hloc : (binds.all fun y => scope.names.lookup y.1 == some .local) = true)
    (h : ∀ L cd, Do prog w (A.deeper (envX qual scope L a cd [])) (execs body (envX qual scope L a cd [])) P (frameU L ns vs :: O) (FnEnd Ψ))
    (hcell : ∀ x ∈ scope.names, x.2 ≠ .cell := by decide) (hco : scope.isCoroutine = false := by rfl) (hgen : scope.isGenerator = false := by rfl) (hk : scope.kind = .function := by rfl) : Do prog w A (call (.ref a) vals) P O Ψ := Do.mk fun s X => by
  obtain ⟨oc, od, name, doc, pm, an, cdv, ct, osl, hK, hcd⟩ := F
  refine wpAny_call (codeAny_call_def (fd := fnOf name qual params body scope .none .none doc pm an cdv ct) (body := body) (binds := binds) hA.depth (B.kin X _ _ hK) rfl (B.nolimit X) (codeRec_of (B.kin X) hcd) rfl (BindsTo.of_eq (hbind _ _ _ _ _ _)) hcell (fun x hx => by simpa using List.all_eq_true.mp hloc x hx) (fun h' hn hk' => ?_) hco hgen hk)
  have X1 : Sat P (frameU s.heap.objs.size ns vs :: O) { s with heap := h', toks := s.toks + binds.length } :=
    X.push (Nat.le_add_right _ _) hk' (fun a ha => by cases ha with | head => exact fresh_size _ | tail _ q => cases q) (List.nodup_cons.mpr ⟨by simp, .nil⟩)
      ⟨hnd, _, hn, fun i y v e1 e2 => by subst hvs; rw [List.getElem?_map, e1] at e2; simpa using e2⟩
  exact wpAny_mono ((h s.heap.objs.size cdv).run _ X1) (fun f s2 ⟨P2, O2, l2, X2, us, O3, e3, q⟩ => by subst e3; exact ⟨P2, O3, l2, X2.drops, q⟩) fun _ _ e => e.elim

theorem zip_cells (g : Str → Option Value) : ∀ l : List (Str × Addr), (l.zip (l.map fun x => (x.1, g x.1))).map (fun x => cellU x.1.2 x.2.2) = l.map fun x => cellU x.2 (g x.1)
  | [] => rfl
  | x :: l => congrArg (cellU x.2 (g x.1) :: ·) (zip_cells g l)
/-- a call of a def with cells -/
theorem f_callC {a : Addr} {qual : Str} {params : Arguments} {body : List Stmt} {scope : Scope} {vals : List Value} {binds : List (Str × Value)} {ns : List Str} {vs : List (Option Value)} {cm : List (Str × Option Value)} {Ψ : Value → Part → List U → Prop} {k : Nat}
    (B : Bg K P) (F : FnAt K a qual params body scope) (hA : Fit k A)
    (hbind : ∀ name doc pm an cdv ct, bindArgs (fnOf name qual params body scope .none .none doc pm an cdv ct) ⟨vals, []⟩ = PySem.Sem.pure binds)
    (hvs : ∀ L cd, ns.map (bindL (envX qual scope L a cd (cellsFrom (L + 1) scope.names [])).kindOf binds fun _ => none) = vs) (hnd : ns.Nodup)
    (hcm : ∀ L cd, (cellsFrom (L + 1) scope.names []).map (fun x => (x.1, bindC (envX qual scope L a cd (cellsFrom (L + 1) scope.names [])).kindOf binds (fun _ => none) x.1)) = cm)
    (hkind : (binds.all fun y => scope.names.lookup y.1 == some .local || scope.names.lookup y.1 == some .cell) = true) (hcn : ((cellsFrom 0 scope.names []).map (·.1)).Nodup)
    (h : ∀ L cd, Do prog w (A.deeper (envX qual scope L a cd (cellsFrom (L + 1) scope.names []))) (execs body (envX qual scope L a cd (cellsFrom (L + 1) scope.names []))) P
      (frameU L ns vs :: (((cellsFrom (L + 1) scope.names []).zip cm).map (fun x => cellU x.1.2 x.2.2) ++ O)) (FnEnd Ψ))
    (hco : scope.isCoroutine = false := by rfl) (hgen : scope.isGenerator = false := by rfl) (hk : scope.kind = .function := by rfl) : Do prog w A (call (.ref a) vals) P O Ψ := Do.mk fun s X => by
  obtain ⟨oc, od, name, doc, pm, an, cdv, ct, osl, hK, hcd⟩ := F
  refine wpAny_call (codeAny_call_function (fd := fnOf name qual params body scope .none .none doc pm an cdv ct) (body := body) hA.depth (B.kin X _ _ hK) rfl hco hgen rfl (codeRec_of (B.kin X) hcd) ?_)
  rw [hbind]
  refine wpAny_pure (wpAny_with_toks (Nat.le_refl s.toks) (wpAny_newFunctionEnv_cells hk (kindsX hkind _) fun env' he s1 I ht => ?_))
  subst he
  have I : InCallC s s.heap.objs.size (bindL (envX qual scope s.heap.objs.size a cdv (cellsFrom (s.heap.objs.size + 1) scope.names [])).kindOf binds fun _ => none) (cellsFrom (s.heap.objs.size + 1) scope.names []) (bindC (envX qual scope s.heap.objs.size a cdv (cellsFrom (s.heap.objs.size + 1) scope.names [])).kindOf binds fun _ => none) s1 := I
  refine ⟨(B.nolimit X).keeps I.toInCall.keep, codeAny_func ?_⟩
  obtain ⟨h', tk, rfl, hk'⟩ := I.done
  have hcells : ∀ n c, (n, c) ∈ cellsFrom (s.heap.objs.size + 1) scope.names [] → h'.IsCell c (bindC (envX qual scope s.heap.objs.size a cdv (cellsFrom (s.heap.objs.size + 1) scope.names [])).kindOf binds (fun _ => none) n) ∧ s.heap.objs.size < c := fun n c hm =>
    ⟨I.cell n c (lookup_of_mem_nodup (cellsFrom_names scope.names 0 (s.heap.objs.size + 1) [] [] rfl ▸ hcn) hm), I.above n c hm⟩
  have hap : (cellsFrom (s.heap.objs.size + 1) scope.names []).Pairwise fun x y => x.2 ≠ y.2 := I.apart
  have hus : ((cellsFrom (s.heap.objs.size + 1) scope.names []).zip cm).map (fun x => cellU x.1.2 x.2.2) =
      (cellsFrom (s.heap.objs.size + 1) scope.names []).map fun x => cellU x.2 (bindC (envX qual scope s.heap.objs.size a cdv (cellsFrom (s.heap.objs.size + 1) scope.names [])).kindOf binds (fun _ => none) x.1) := by
    rw [← hcm s.heap.objs.size cdv]
    exact zip_cells _ _
  have X1 : Sat P (frameU s.heap.objs.size ns vs :: (((cellsFrom (s.heap.objs.size + 1) scope.names []).zip cm).map (fun x => cellU x.1.2 x.2.2) ++ O)) { s with heap := h', toks := tk } := by
    rw [hus]
    refine X.pushes (us := frameU s.heap.objs.size ns vs :: (cellsFrom (s.heap.objs.size + 1) scope.names []).map fun x => cellU x.2 _) ht hk' (fun u hu => ?_) ?_ fun b hb => ?_
    · cases hu with
      | head => exact ⟨hnd, _, I.toInCall.ns, fun i y v e1 e2 => by
          rw [← hvs s.heap.objs.size cdv, List.getElem?_map, e1] at e2; simpa using e2⟩
      | tail _ hu =>
        obtain ⟨x, hx, rfl⟩ := List.mem_map.mp hu
        exact (hcells x.1 x.2 hx).1
    · show ([s.heap.objs.size] ++ fps _).Nodup
      have e : ∀ (l : List (Str × Addr)) (g : Str → Option Value), fps (l.map fun x => cellU x.2 (g x.1)) = l.map (·.2) := fun l g => by
        induction l with
        | nil => rfl
        | cons x l ih => rw [List.map_cons, fps_cons, ih]; rfl
      rw [e]
      refine List.nodup_append.mpr ⟨List.nodup_cons.mpr ⟨by simp, .nil⟩, (List.pairwise_map.mpr (hap.imp fun h => h)), fun a ha b hb q => ?_⟩
      obtain ⟨x, hx, rfl⟩ := List.mem_map.mp hb
      have := (hcells x.1 x.2 hx).2
      rw [List.mem_singleton.mp ha] at q
      exact absurd this (by rw [← q]; exact Nat.lt_irrefl _)
    · have : s.heap.objs.size ≤ b := by
        rw [fps_cons] at hb
        rcases List.mem_append.mp hb with hb | hb
        · exact Nat.le_of_eq (List.mem_singleton.mp hb).symm
        · obtain ⟨u, hu, hb⟩ := List.mem_flatMap.mp hb
          obtain ⟨x, hx, rfl⟩ := List.mem_map.mp hu
          rw [List.mem_singleton.mp hb]
          exact Nat.le_of_lt (hcells x.1 x.2 hx).2
      cases e : s.heap.get? b with
      | none => rfl
      | some o => exact absurd (Heap.lt_size e) (Nat.not_lt.mpr this)
  exact wpAny_mono ((h s.heap.objs.size cdv).run _ X1) (fun f s2 ⟨P2, O2, l2, X2, us, O3, e3, q⟩ => by subst e3; exact ⟨P2, O3, l2, X2.drops, q⟩) fun _ _ e => e.elim
end
end

section
section
variable {prog : Program} {w : World} {A : Around} {env cenv : Env} {P : Part} {O O' : List U} {R R1 R2 R3 : Rep} {pos : Pos} {v u z : Value} {Φ : Flow → Part → List U → Prop} {rest : List Stmt} {K : Frag}

/-- name = {} -/
theorem x_newDict {x : Str} {px p2 : Pos} {L : Addr} {ns : List Str} {vs : List (Option Value)} {vs' : Addr → List (Option Value)} {O2 : Addr → List U}
    (hU : ∀ d, Upd O (frameU L ns vs) (frameU L ns (vs' d)) (O2 d)) (hp : ∀ d, Put ns vs x (.ref d) (vs' d))
    (k : ∀ d P', P.le P' → d ≠ sysModules → Do prog w A (execs rest env) P' (dictU prog w d [] :: O2 d) Φ)
    (hL : env.locals = L := by rfl) (hl : env.kindOf x = some .local := by rfl) (hk : env.scope.kind = .function := by rfl) : Do prog w A (execs (.Assign [.Name x px] (.Dict [] [] p2) pos :: rest) env) P O Φ :=
  x_assign (Ψ := fun v P' O' => P' = P ∧ ∃ d, v = .ref d ∧ d ≠ sysModules ∧ O' = dictU prog w d [] :: O) (o_newDict fun d hd => ⟨rfl, d, rfl, hd, rfl⟩) (fun v P' O' l ⟨e1, d, e2, hd, e3⟩ => by
    subst e1; subst e2; subst e3
    exact s_local (Upd.tail (hU d)) (hp d) ⟨rfl, k d P' l hd⟩ hL hl hk) rfl
theorem x_newDictC {x : Str} {px p2 : Pos} {c : Addr} {v₀ : Option Value} {O2 : Addr → List U}
    (hU : ∀ d, Upd O (cellU c v₀) (cellU c (some (.ref d))) (O2 d))
    (k : ∀ d P', P.le P' → d ≠ sysModules → Do prog w A (execs rest env) P' (dictU prog w d [] :: O2 d) Φ)
    (hc : env.cells.lookup x = some c := by rfl) (hl : env.kindOf x = some .cell := by rfl) (hk : env.scope.kind = .function := by rfl) : Do prog w A (execs (.Assign [.Name x px] (.Dict [] [] p2) pos :: rest) env) P O Φ :=
  x_assign (Ψ := fun v P' O' => P' = P ∧ ∃ d, v = .ref d ∧ d ≠ sysModules ∧ O' = dictU prog w d [] :: O) (o_newDict fun d hd => ⟨rfl, d, rfl, hd, rfl⟩) (fun v P' O' l ⟨e1, d, e2, hd, e3⟩ => by
    subst e1; subst e2; subst e3
    exact s_cell (Upd.tail (hU d)) ⟨rfl, k d P' l hd⟩ hc hl hk) rfl

/-- texts of few signs, as lists of numbers -/
noncomputable def S (l : List Nat) : Str := ⟨l.toArray⟩
theorem S_len (l : List Nat) : (S l).length = l.length := by simp [S, Str.length]
theorem S_append (a b : List Nat) : S a ++ S b = S (a ++ b) := by
  show Str.append (S a) (S b) = S (a ++ b)
  simp [S, Str.append]
theorem S_inj {a b : List Nat} : S a = S b ↔ a = b := by
  constructor
  · intro h; have := congrArg (fun x => x.cps.toList) h; simpa [S] using this
  · rintro rfl; rfl
noncomputable def letters : List Nat := [97, 98, 99, 100, 101]
/-- a table of letters to texts of letters -/
noncomputable def RRel (prog : Program) (w : World) (rel : Nat → List Nat) : Rep := RDict prog w (letters.map fun c => (S [c], RStr (S (rel c))))
theorem look_map {α : Type} {f : Nat → α} : ∀ {l : List Nat} {c : Nat}, c ∈ l → look (l.map fun c => (S [c], f c)) (S [c]) = some (f c)
  | a :: l, c, h => by
    unfold look
    rw [List.map_cons, List.find?_cons]
    by_cases q : a = c
    · subst q; simp
    · have hne : ¬ S [a] = S [c] := fun e => q (by simpa using S_inj.mp e)
      simp only [hne, decide_false]
      rcases List.mem_cons.mp h with e | h
      · exact absurd e.symm q
      · exact look_map h

theorem names_nodup {α : Type} (f : Nat → α) : ((letters.map fun c => (S [c], f c)).map (·.1)).Nodup := by
  rw [List.map_map]
  exact (show (letters.map fun c => S [c]).Nodup by decide)
theorem hS_abcde : Str.ofString "abcde" = S letters := by decide +kernel
theorem hS_nil : Str.ofString "" = S [] := by decide +kernel
theorem ev_abcde {k : Nat} : Ev prog w A env (.Constant (.str (Str.ofString "abcde")) k pos) P O (RStr (S letters)) := by rw [← hS_abcde]; exact ev_str
theorem ev_empty {k : Nat} : Ev prog w A env (.Constant (.str (Str.ofString "")) k pos) P O (RStr (S [])) := by rw [← hS_nil]; exact ev_str
theorem i_S {l : List Nat} {target : Expr} (hA : A.handled = none) (hv : (RStr (S l)).h P v) (ha : ∀ c ∈ l, c < 128) (h0 : 0 < P.tk) (ht : ∀ z v, letOwnedTupleGo target z v = PySem.Sem.pure () := by intro _ _; rfl) :
    IterOf prog w A target v P O l.length (fun i => RTok (S [l.getD i 0])) := by
  have := i_str (prog := prog) (w := w) (A := A) (O := O) (target := target) (x := S l) hA hv (by simpa [S] using ha) h0 ht
  simpa [S] using this
theorem occ_S (l : List Nat) (c : Nat) : occ (S l) (S [c]) = decide (c ∈ l) := by
  show (!(Builtin.Str.occurrences (S l) ⟨#[c]⟩ 0 (S l).length 1).isEmpty) = _
  rw [StrLaws.found_one, Bool.eq_iff_iff]
  constructor
  · intro h; have h' := of_decide_eq_true h; exact decide_eq_true (by simpa [S] using h')
  · intro h; have h' := of_decide_eq_true h; exact decide_eq_true (by simpa [S] using h')
theorem letters_lt : ∀ c ∈ letters, c < 128 := by decide
theorem join_S : ∀ (l : List Nat), Txt.join (S []) (l.map fun c => S [c]) = S l
  | [] => rfl
  | [c] => rfl
  | c :: d :: l => by
    show Builtin.Str.glued _ _ = _
    rw [StrLaws.glued_eq_join]
    show S [c] ++ S [] ++ Str.join (S []) ((d :: l).map fun c => S [c]) = _
    have ih := join_S (d :: l)
    have ih' : Builtin.Str.glued (S []) ((d :: l).map fun c => S [c]) = S (d :: l) := ih
    rw [StrLaws.glued_eq_join] at ih'
    rw [ih', S_append, S_append]
    rfl
theorem joinOk_S (l : List Nat) (h : l.length ≤ 1000) : JoinOk (S []) (l.map fun c => S [c]) = true := by
  unfold JoinOk
  rw [Bool.not_eq_true']
  refine StrLaws.joinFits (B := 1) (fun y hy => ?_) ?_
  · obtain ⟨c, _, rfl⟩ := List.mem_map.mp hy
    rw [S_len]; exact Nat.le_refl _
  · rw [List.length_map, S_len]
    simp; omega

theorem ev_sub_dict {a b : Expr} {rs : List (Str × Rep)} {k : Str} (h1 : Ev prog w A env a P O (RDict prog w rs)) (h2 : Ev prog w A env b P O (RStr k)) (hl : look rs k = some R)
    (hs : ∀ o i, subscripted b false o i = operate [o, i] (getItem o i) := by intros; rfl) : Ev prog w A env (.Subscript a b pos) P O R :=
  ev_sub h1 h2 F.slot_dict_getitem.lookup (fun P' v s r X => (RDict.meth r X).1) (fun P' v u l h1 h2 => g_item_dict h1 h2 hl) hs
theorem ev_sub_rel {a b : Expr} {rel : Nat → List Nat} {c : Nat} (h1 : Ev prog w A env a P O (RRel prog w rel)) (h2 : Ev prog w A env b P O (RStr (S [c]))) (hc : c ∈ letters)
    (hs : ∀ o i, subscripted b false o i = operate [o, i] (getItem o i) := by intros; rfl) : Ev prog w A env (.Subscript a b pos) P O (RStr (S (rel c))) :=
  ev_sub_dict h1 h2 (look_map hc) hs
theorem ev_sub_dictO {a b : Expr} {d : Addr} {kvs : List (Str × Value)} {rs : List (Str × Rep)} {k : Str} (h1 : Ev prog w A env a P O (RVal (.ref d))) (h2 : Ev prog w A env b P O (RStr k)) (hU : dictU prog w d kvs ∈ O) (en : Ents P rs kvs) (hl : look rs k = some R)
    (hs : ∀ o i, subscripted b false o i = operate [o, i] (getItem o i) := by intros; rfl) : Ev prog w A env (.Subscript a b pos) P O R :=
  ev_sub h1 h2 F.slot_dict_getitem.lookup (fun P' v s r X => (dictU.meth hU r X).1) (fun P' v u l h1 h2 => by obtain rfl : v = .ref d := h1; exact g_item_dictO hU (en.mono l) h2 hl) hs
theorem ev_sub_list {a b : Expr} {rs : List Rep} {i : Int} (h1 : Ev prog w A env a P O (RList rs)) (h2 : Ev prog w A env b P O (RInt i)) (h0 : 0 ≤ i) (hk : i < 2 ^ 63) (hl : rs[i.toNat]? = some R)
    (hs : ∀ o i, subscripted b false o i = operate [o, i] (getItem o i) := by intros; rfl) : Ev prog w A env (.Subscript a b pos) P O R :=
  ev_sub h1 h2 slot_list_getitem.lookup (fun P' v s r X => RSeq.typeIs r X) (fun P' v u l h1 h2 => g_item_list h1 h2 h0 hk hl) hs
theorem ev_sub_listO {a b : Expr} {l : Addr} {vs : List Value} {rs : List Rep} {i : Int} (h1 : Ev prog w A env a P O (RVal (.ref l))) (h2 : Ev prog w A env b P O (RInt i)) (hU : listU l vs ∈ O) (rr : Reps P rs vs) (h0 : 0 ≤ i) (hk : i < 2 ^ 63) (hl : rs[i.toNat]? = some R)
    (hs : ∀ o i, subscripted b false o i = operate [o, i] (getItem o i) := by intros; rfl) : Ev prog w A env (.Subscript a b pos) P O R :=
  ev_sub h1 h2 slot_list_getitem.lookup (fun P' v s r X => listU.typeIs hU r X) (fun P' v u l' h1 h2 => by obtain rfl : v = .ref l := h1; exact g_item_listO hU (rr.mono l') h2 h0 hk hl) hs
theorem ev_sub_tup {a b : Expr} {rs : List Rep} {i : Int} (h1 : Ev prog w A env a P O (RTup rs)) (h2 : Ev prog w A env b P O (RInt i)) (h0 : 0 ≤ i) (hk : i < 2 ^ 63) (hl : rs[i.toNat]? = some R)
    (hs : ∀ o i, subscripted b false o i = operate [o, i] (getItem o i) := by intros; rfl) : Ev prog w A env (.Subscript a b pos) P O R :=
  ev_sub h1 h2 F.slot_tuple_getitem.lookup (fun P' v s r X => RSeq.typeIs r X) (fun P' v u l h1 h2 => g_item_tup h1 h2 h0 hk hl) hs
theorem ev_sub_str {a b : Expr} {x : Str} {i : Int} {c : Nat} (h1 : Ev prog w A env a P O (RStr x)) (h2 : Ev prog w A env b P O (RInt i)) (hr : (decide (i < -(2 ^ 63 : Int)) || decide (i ≥ 2 ^ 63)) = false) (hc : (seqIndex? i x.length).bind (x.cps[·]?) = some c)
    (hs : ∀ o i, subscripted b false o i = operate [o, i] (getItem o i) := by intros; rfl) : Ev prog w A env (.Subscript a b pos) P O (RStr ⟨#[c]⟩) :=
  ev_sub h1 h2 F.slot_str_getitem.lookup (fun P' v s r X => RStr.typeIs r) (fun P' v u l h1 h2 => g_item_str h1 h2 hr hc) hs
theorem tst_in {a b : Expr} {l : List Nat} {c : Nat} (h1 : Ev prog w A env a P O (RStr (S [c]))) (h2 : Ev prog w A env b P O (RStr (S l))) (hm : behindInMarks .In b = false := by rfl) : Tst prog w A env (.Compare a [.In] [b] pos) P O (decide (c ∈ l)) :=
  tst_cmp h1 h2 (fun P' v u l h1 h2 => by rw [← occ_S]; exact g_in_str h1 h2) hm
theorem tst_notIn {a b : Expr} {l : List Nat} {c : Nat} (h1 : Ev prog w A env a P O (RStr (S [c]))) (h2 : Ev prog w A env b P O (RStr (S l))) (hm : behindInMarks .NotIn b = false := by rfl) : Tst prog w A env (.Compare a [.NotIn] [b] pos) P O (!(decide (c ∈ l))) :=
  tst_cmp h1 h2 (fun P' v u l h1 h2 => by rw [← occ_S]; exact g_notIn_str h1 h2) hm
theorem tst_eqNil {a : Expr} {p2 : Pos} {rs : List Rep} (hA : A.units < cLine) (h1 : Ev prog w A env a P O (RList rs)) : Tst prog w A env (.Compare a [.Eq] [.List [] p2] pos) P O rs.isEmpty :=
  tst_cmp h1 (ev_list (Rs := []) evl_nil (by simp)) (fun P' v u l h1 h2 => g_eq_nil h1 h2 hA)

theorem getD_mem {l : List Nat} {i : Nat} (h : i < l.length) : l.getD i 0 ∈ l := by
  have : l.getD i 0 = l[i] := by simp [h]
  rw [this]; exact List.getElem_mem h
theorem not_mem_take {l : List Nat} {i : Nat} (hn : l.Nodup) (h : i < l.length) : l.getD i 0 ∉ l.take i := by
  have e : l.getD i 0 = l[i] := by simp [h]
  rw [e]
  intro hm
  obtain ⟨j, hj, hj2⟩ := List.getElem_of_mem hm
  rw [List.length_take] at hj
  rw [List.getElem_take] at hj2
  have := (List.getElem_inj hn).mp hj2
  omega
theorem take_getD {l : List Nat} {i : Nat} (h : i < l.length) : l.take (i + 1) = l.take i ++ [l.getD i 0] := by
  rw [List.take_add_one]; simp [h]
theorem RTok.up {x : Str} {P P' : Part} {v : Value} (h : (RTok x).h P v) (l : P.le P') : (RTok x).h P' v := (RTok x).mono _ _ _ l h
theorem picked_list (l : List Nat) (f : Nat → Bool) (g : Nat → Rep) : picked l.length (fun i => f (l.getD i 0)) (fun i => g (l.getD i 0)) = (l.filter f).map g := by
  have e : (List.range l.length).map (fun i => l.getD i 0) = l := by
    apply List.ext_getElem
    · simp
    · intro i h1 h2
      simp at h1
      simp [h1]
  unfold picked
  conv => rhs; rw [← e]
  rw [List.filter_map, List.map_map]
  rfl
theorem put_new {α : Type} {f : Nat → α} {l : List Nat} {c : Nat} {a : α} (h : c ∉ l) : put (l.map fun c => (S [c], f c)) (S [c]) a = (l.map fun c => (S [c], f c)) ++ [(S [c], a)] := by
  unfold put
  rw [if_neg]
  simp only [List.any_map, List.any_eq_true, Function.comp, decide_eq_true_eq, not_exists, not_and]
  intro x hx e
  exact h (by have := S_inj.mp e; simp at this; rw [← this]; exact hx)

/-- a block over the signs of a text -/
theorem ev_compS {elt iter : Expr} {x : Str} {px : Pos} {ifs : List Expr} {scope : Scope} {cl : List (Str × Addr)} {l : List Nat} (keep : Nat → Bool) (out : Nat → Rep) (hA : A.handled = none)
    (hv : Ev prog w A env iter P O (RStr (S l))) (hl : ∀ c ∈ l, c < 128) (h0 : 0 < P.tk) (hz : l.length ≤ sizeLine)
    (htest : ∀ c v P' u C D acc, c ∈ l → P.le P' → (RTok (S [c])).h P' v → TstL prog w A (compEnvC scope cl C env) ifs P' (u :: frameU C [x] [some v] :: listU D acc :: O) (keep c))
    (helt : ∀ c v P' u C D acc, c ∈ l → keep c = true → P.le P' → (RTok (S [c])).h P' v → Ev prog w A (compEnvC scope cl C env) elt P' (u :: frameU C [x] [some v] :: listU D acc :: O) (out c))
    (hclos : closureFor scope env = PySem.Sem.pure cl := by rfl) (hcell : ∀ y ∈ scope.names, y.2 ≠ .cell := by decide) (hkind : scope.kind = .function := by rfl) (hnames : ∀ y ∈ scope.names, y.2 = .local → scope.names.lookup y.1 = some .local := by decide)
    (hx : scope.names.lookup x = some .local := by rfl) (hs : ∀ x, foldedSetIterable iter env x = PySem.Sem.pure x := by intro _; rfl) :
    Ev prog w A env (.ListComp elt [⟨.Name x px, iter, ifs, 0⟩] scope pos) P O (RList ((l.filter keep).map out)) := by
  rw [← picked_list]
  exact ev_comp1 (item := fun j => RTok (S [l.getD j 0])) _ _ hv (fun P' v l' r => i_S hA r hl (Nat.lt_of_lt_of_le h0 l'.1.2)) hz (fun i v P' u C D acc hi l' r => htest _ v P' u C D acc (getD_mem hi) l' r) (fun i v P' u C D acc hi hk l' r => helt _ v P' u C D acc (getD_mem hi) hk l' r) hclos hcell hkind hnames hx hs
end
end

section
section
variable {prog : Program} {w : World} {A : Around} {env : Env} {P : Part} {O O' : List U} {R R1 R2 R3 : Rep} {pos : Pos} {v u z : Value} {Φ : Flow → Part → List U → Prop} {rest : List Stmt}

theorem RDict.at {rs : List (Str × Rep)} {v : Value} (x : (RDict prog w rs).h P v) : ∃ d kvs ep o, v = .ref d ∧ d ≠ sysModules ∧ Ents P rs kvs ∧ P.get d = some o ∧ ∀ s O, Sat P O s → s.heap.DictAt (PySem.strKind prog w) d kvs ep := by
  obtain ⟨d, o, kvs, e, n, g, ⟨es, ep, a, b, c⟩, en⟩ := x
  exact ⟨d, kvs, ep, o, e, n, en, g, fun s O X => ⟨o, es, X.per _ _ g, a, b, c⟩⟩

/-- the names of a table -/
theorem i_keys {rs : List (Str × Rep)} {target : Expr} (hA : A.handled = none) (hv : (RDict prog w rs).h P v) (ht : ∀ z v, letOwnedTupleGo target z v = PySem.Sem.pure () := by intro _ _; rfl) :
    IterOf prog w A target v P O rs.length (fun i => RStr ((rs.map (·.1)).getD i ⟨#[]⟩)) := by
  obtain ⟨d, kvs, ep, o, rfl, hd, en, g, hD⟩ := RDict.at hv
  rw [← en.length]
  refine Do.base fun s X => wpAny_pyIter_dict (notSys hd) (hD s O X) fun ht' => ?_
  have hne : d ≠ s.heap.objs.size := Nat.ne_of_lt (Heap.lt_size (X.per _ _ g))
  have hst : (s.heap.push { cls := .type "dict_keyiterator", data := .fields #[.ref d, .int 0 0, .int kvs.length 0, .int ep 0] }).IsKeyIter s.heap.objs.size d 0 kvs.length ep ∧ (s.heap.push { cls := .type "dict_keyiterator", data := .fields #[.ref d, .int 0 0, .int kvs.length 0, .int ep 0] }).DictAt (PySem.strKind prog w) d kvs ep :=
    ⟨⟨_, Heap.get?_push_size _ rfl, rfl, rfl⟩, (hD s O X).push _⟩
  have hal : ∀ (i : Nat) (h : Heap), (h.IsKeyIter s.heap.objs.size d i kvs.length ep ∧ h.DictAt (PySem.strKind prog w) d kvs ep) → ∀ b ∈ [s.heap.objs.size], ∃ o, h.get? b = some o := fun i h st b hb => by
    cases hb with
    | head => obtain ⟨o, e, _⟩ := st.1; exact ⟨o, e⟩
    | tail _ q => cases q
  have W := Walks.dictKeys (prog := prog) (w := w) (knd := PySem.strKind prog w) hA s.heap.objs.size d hne kvs ep
  refine ⟨P, walkU [s.heap.objs.size] [s.heap.objs.size, d] (fun i h => h.IsKeyIter s.heap.objs.size d i kvs.length ep ∧ h.DictAt (PySem.strKind prog w) d kvs ep) P 0 :: O, .refl _, X.push ht' (push_keep _ _) (fun a ha => by cases ha with | head => exact fresh_size _ | tail _ q => cases q) (List.nodup_cons.mpr ⟨by simp, .nil⟩)
    (walkU.ok' hst (hal 0 _ hst) fun b hb q => by
      rcases List.mem_cons.mp hb with rfl | hb
      · exact absurd (.head _) q
      · rcases List.mem_cons.mp hb with rfl | hb
        · exact ⟨_, Heap.get?_push_of_some _ (X.per _ _ g), g⟩
        · cases hb), s.heap.objs.size, _, rfl, rfl, ?_⟩
  have := Itr.ofWalks (P := P) (target := target) (item := fun i => RStr ((rs.map (·.1)).getD i ⟨#[]⟩)) W (List.nodup_cons.mpr ⟨by simp, .nil⟩) hal (fun i v ⟨k, x, hi, hk⟩ => by
    have e : (rs.map (·.1))[i]? = some k := by rw [← en.1, List.getElem?_map, hi]; rfl
    simp only [List.getD_eq_getElem?_getD, e, Option.getD_some]
    cases v <;> simp [PySem.strKind, Value.isStrOf] at hk
    subst hk; exact ⟨_, rfl⟩) (ht _)
  exact this

/-- the values of a table -/
noncomputable def RView (prog : Program) (w : World) (cls : String) (rs : List (Str × Rep)) : Rep :=
  ⟨fun P v => ∃ a d, v = .ref a ∧ (∃ o, P.get a = some o ∧ o.cls = .type cls ∧ o.data = .fields #[.ref d]) ∧ (RDict prog w rs).h P (.ref d), fun _ _ _ l ⟨a, d, e, ⟨o, g, c⟩, r⟩ => ⟨a, d, e, ⟨o, l.2 _ _ g, c⟩, (RDict prog w rs).mono _ _ _ l r⟩⟩
theorem g_values {rs : List (Str × Rep)} (hv : (RDict prog w rs).h P v) : Gv prog w A (call (.builtin "dict.values") [v]) P O (RView prog w "dict_values" rs) := by
  obtain ⟨d, kvs, rfl, hd, en, g⟩ := RDict.sees hv
  refine Gv.base fun s X => call_meetsIn F.slot_dict_values (g s O X).typeIs F.entry_dict_values (F.args_dict_values_1 _) (meets_dict_values (PySem.strKind prog w) d (notSys hd)) ⟨⟨kvs, g s O X⟩, fun ht => ?_⟩
  obtain ⟨l, Y⟩ := X.alloc (h' := s.heap.push { cls := .type "dict_values", data := .fields #[.ref d] }) ht (push_keep _ _) (fresh_size _) (Heap.get?_push_size _ rfl)
  exact ⟨_, l, Y, _, d, rfl, ⟨_, Part.add_self _ _ _, rfl, rfl⟩, (RDict prog w rs).mono _ _ _ l hv⟩
theorem g_items {rs : List (Str × Rep)} (hv : (RDict prog w rs).h P v) : Gv prog w A (call (.builtin "dict.items") [v]) P O (RView prog w "dict_items" rs) := by
  obtain ⟨d, kvs, rfl, hd, en, g⟩ := RDict.sees hv
  refine Gv.base fun s X => call_meetsIn F.slot_dict_items (g s O X).typeIs F.entry_dict_items (F.args_dict_items_1 _) (meets_dict_items (PySem.strKind prog w) d (notSys hd)) ⟨⟨kvs, g s O X⟩, fun ht => ?_⟩
  obtain ⟨l, Y⟩ := X.alloc (h' := s.heap.push { cls := .type "dict_items", data := .fields #[.ref d] }) ht (push_keep _ _) (fresh_size _) (Heap.get?_push_size _ rfl)
  exact ⟨_, l, Y, _, d, rfl, ⟨_, Part.add_self _ _ _, rfl, rfl⟩, (RDict prog w rs).mono _ _ _ l hv⟩

theorem i_values {rs : List (Str × Rep)} {target : Expr} (hA : A.handled = none) (hv : (RView prog w "dict_values" rs).h P v) (ht : ∀ z v, letOwnedTupleGo target z v = PySem.Sem.pure () := by intro _ _; rfl) :
    IterOf prog w A target v P O rs.length (fun i => (rs.map (·.2)).getD i RAny) := by
  obtain ⟨a, d, rfl, ⟨oa, ga, ca, da⟩, hv⟩ := hv
  obtain ⟨d', kvs, ep, o, e, hd, en, g, hD⟩ := RDict.at hv
  cases e
  rw [← en.length]
  refine Do.base fun s X => wpAny_pyIter_values ⟨oa, X.per _ _ ga, ca, da⟩ (hD s O X) fun ht' => ?_
  have hne : d ≠ s.heap.objs.size := Nat.ne_of_lt (Heap.lt_size (X.per _ _ g))
  have hst : (s.heap.push { cls := .type "dict_valueiterator", data := .fields #[.ref d, .int 0 0, .int kvs.length 0, .int ep 0] }).IsValIter s.heap.objs.size d 0 kvs.length ep ∧ (s.heap.push { cls := .type "dict_valueiterator", data := .fields #[.ref d, .int 0 0, .int kvs.length 0, .int ep 0] }).DictAt (PySem.strKind prog w) d kvs ep :=
    ⟨⟨_, Heap.get?_push_size _ rfl, rfl, rfl⟩, (hD s O X).push _⟩
  have hal : ∀ (i : Nat) (h : Heap), (h.IsValIter s.heap.objs.size d i kvs.length ep ∧ h.DictAt (PySem.strKind prog w) d kvs ep) → ∀ b ∈ [s.heap.objs.size], ∃ o, h.get? b = some o := fun i h st b hb => by
    cases hb with
    | head => obtain ⟨o, e, _⟩ := st.1; exact ⟨o, e⟩
    | tail _ q => cases q
  have W := Walks.dictValues (prog := prog) (w := w) (knd := PySem.strKind prog w) hA s.heap.objs.size d hne kvs ep
  refine ⟨P, walkU [s.heap.objs.size] [s.heap.objs.size, d] (fun i h => h.IsValIter s.heap.objs.size d i kvs.length ep ∧ h.DictAt (PySem.strKind prog w) d kvs ep) P 0 :: O, .refl _, X.push ht' (push_keep _ _) (fun a ha => by cases ha with | head => exact fresh_size _ | tail _ q => cases q) (List.nodup_cons.mpr ⟨by simp, .nil⟩)
    (walkU.ok' hst (hal 0 _ hst) fun b hb q => by
      rcases List.mem_cons.mp hb with rfl | hb
      · exact absurd (.head _) q
      · rcases List.mem_cons.mp hb with rfl | hb
        · exact ⟨_, Heap.get?_push_of_some _ (X.per _ _ g), g⟩
        · cases hb), s.heap.objs.size, _, rfl, rfl, ?_⟩
  have := Itr.ofWalks (P := P) (target := target) (item := fun i => (rs.map (·.2)).getD i RAny) W (List.nodup_cons.mpr ⟨by simp, .nil⟩) hal (fun i v ⟨k, hi⟩ => by
    have e : (kvs.map (·.2))[i]? = some v := by rw [List.getElem?_map, hi]; rfl
    obtain ⟨r', e', hh⟩ := en.2.of_get e
    simp only [List.getD_eq_getElem?_getD, e', Option.getD_some]
    exact hh) (ht _)
  exact this

/-- a tuple of which the class alone is known -/
noncomputable def RTupW (rs : List Rep) : Rep :=
  ⟨fun P v => ∃ a o vs n, v = .ref a ∧ P.get a = some o ∧ o.cls = .type "tuple" ∧ o.data = .seq vs n ∧ Reps P rs vs.toList, fun _ _ _ l ⟨a, o, vs, n, e, g, c, d, r⟩ => ⟨a, o, vs, n, e, l.2 _ _ g, c, d, r.mono l⟩⟩
theorem RTup.wide {rs : List Rep} (h : (RTup rs).h P v) : (RTupW rs).h P v := let ⟨a, vs, n, e, g, r⟩ := h; ⟨a, _, vs, n, e, g, rfl, rfl, r⟩

/-- a thing that stands from here on -/
theorem Sat.adopt {s : Shared} (x : Sat P O s) {a : Addr} {o : Obj} (ho : s.heap.get? a = some o) (hP : P.get a = none) (hO : a ∉ fps O) : P.le (P.add a o) ∧ Sat (P.add a o) O s := by
  refine ⟨⟨⟨rfl, Nat.le_refl _⟩, fun b ob e => ?_⟩, ⟨fun b ob e => ?_, x.own, x.nd, fun b hb => ?_, x.gens, x.os, x.tk, ?two⟩⟩
  case two =>
    obtain ⟨o2, e2⟩ := x.two
    by_cases q : 2 = a
    · exact ⟨o, by show (if 2 = a then some o else P.get 2) = some o; rw [if_pos q]⟩
    · exact ⟨o2, by show (if 2 = a then some o else P.get 2) = some o2; rw [if_neg q]; exact e2⟩
  · show (if b = a then some o else P.get b) = some ob
    rw [if_neg (fun q => by rw [q, hP] at e; cases e)]; exact e
  · have e' : (if b = a then some o else P.get b) = some ob := e
    by_cases q : b = a
    · rw [if_pos q] at e'; cases e'; rw [q]; exact ho
    · rw [if_neg q] at e'; exact x.per b ob e'
  · show (if b = a then some o else P.get b) = none
    rw [if_neg (fun (q : b = a) => hO (q ▸ hb))]; exact x.off b hb

/-- an iterator that hands out pairs, to a target of names -/
theorem Itr.ofWalksT {elts : List Expr} {k : Nat} {p : Pos} {I : Addr} {fp wr : List Addr} {n : Nat} {Pt : Nat → Array Value → Prop} {St : Nat → Heap → Prop} {Mid : Nat → Addr → Heap → Prop} {item : Nat → List Rep} (W : WalksT prog w A I fp wr n Pt St Mid) (hnd : wr.Nodup)
    (hal : ∀ i h, St i h → ∀ b ∈ wr, ∃ o, h.get? b = some o) (halM : ∀ i T h, Mid i T h → ∀ b ∈ wr, ∃ o, h.get? b = some o)
    (hfM : ∀ i T h h', Mid i T h → (∀ b ∈ fp, ∀ o, h.get? b = some o → h'.get? b = some o) → Mid i T h')
    (hitem : ∀ i vs, Pt i vs → Reps P (item i) vs.toList) : Itr prog w A P (.Tuple elts k p) I n (walkU wr fp St P) (fun i => RTupW (item i)) where
  next i P' O Ψ l hi kk := Do.base fun s X => W.item i s _ _ hi (walkU.st W.frame l X) fun T vals h' tk hv hT hTt mid hk ht' => by
    obtain ⟨oT, eT, cT, nT, dT⟩ := hTt
    have X1 : Sat P' (walkU wr fp (fun _ => Mid i T) P 0 :: O) { s with heap := h', toks := tk } :=
      X.turn ht' hk (fun a ha => .inl ha) hnd (walkU.ok' mid (halM _ _ _ mid) (walkU.old l X hk))
    have hn : s.heap.get? T = none := by
      cases e : s.heap.get? T with
      | none => rfl
      | some o => exact absurd (Heap.lt_size e) (Nat.not_lt.mpr hT)
    obtain ⟨l1, X2⟩ := X1.adopt eT (X.freshP hn) (fun q => by
      rw [fps_cons] at q
      rcases List.mem_append.mp q with q | q
      · exact W.apart _ _ _ mid q
      · obtain ⟨o, e⟩ := X.drop.mem_alive q; rw [hn] at e; cases e)
    refine ⟨_, _, l1, X2, _, rfl, Do.base fun s2 Y => W.go elts k p i T s2 _ _ (walkU.st (St := fun _ => Mid i T) (i := 0) (fun _ => hfM i T) (l.trans l1) Y) fun h2 st2 hk2 ht2 => ?_⟩
    refine ⟨_, walkU wr fp St P (i + 1) :: O, .refl _, Y.turn (Nat.le_refl _) hk2 (fun a ha => .inl ha) hnd (walkU.ok' st2 (hal _ _ st2) (walkU.old (l.trans l1) Y hk2)), kk _ _ l1 ?_⟩
    exact ⟨T, oT, vals, nT, rfl, Part.add_self _ _ _, cT, dT, (hitem i vals hv).mono (l.trans l1)⟩
  stop P' O l := Do.base fun s X => W.done s _ _ (walkU.st W.frame l X) fun h' tk hk ht' => ⟨P', O, .refl _, X.lose ht' hk, rfl, rfl⟩
  self i P' O l := Do.mk fun s X => W.self i s _ _ (walkU.st W.frame l X) ⟨P', _, .refl _, X, rfl, rfl⟩

/-- two names at once -/
theorem s_pair {a b : Expr} {k : Nat} {p : Pos} {Φ : Unit → Part → List U → Prop} (hA : A.handled = none) (hv : (RTupW [R1, R2]).h P v)
    (h : ∀ x y, R1.h P x → R2.h P y → Do prog w A (assign a env x) P O (fun _ P1 O1 => Do prog w A (assign b env y) P1 O1 Φ))
    (he : assignEach [a, b] env = [(false, assign a env), (false, assign b env)] := by rfl) : Do prog w A (assign (.Tuple [a, b] k p) env v) P O Φ := by
  obtain ⟨t, o, vs, n, rfl, g, c, d, r⟩ := hv
  obtain ⟨vs⟩ := vs
  match vs, r with
  | [x, y], ⟨rx, ry, _⟩ =>
    refine Do.base fun s X => wpAny_assign_Tuple (items := #[x, y]) hA ⟨o, X.per _ _ g, c, n, d⟩ (by rw [he]; rfl) (by rw [he]; rfl) fun h' hx => ?_
    have X1 : Sat P O { s with heap := h' } := X.keep (Nat.le_refl _) (fun b o e => hx b o (fun q => by rw [q, fresh_size] at e; cases e) e)
    rw [he]
    refine wpAny_assignInOrder_more (wpAny_mono ((h x y rx ry).run _ X1) (fun _ s2 ⟨P2, O2, l2, X2, hb⟩ => wpAny_assignInOrder_more (wpAny_mono (hb.run s2 X2) (fun _ s3 ⟨P3, O3, l3, X3, q⟩ => wpAny_assignInOrder_none fun _ => ⟨P3, O3, l2.trans l3, X3, q⟩) fun _ _ e => e)) fun _ _ e => e)

theorem entry_itemiter_iter : entryFor table "dict_itemiterator.__iter__" = some Builtin.«dict_keyiterator.__iter__» :=
  entryFor_alias (id' := "dict_keyiterator.__iter__") (by kernel_rfl) rfl (by decide +kernel) (by kernel_rfl)
/-- the pairs of a table -/
theorem i_items {rs : List (Str × Rep)} {elts : List Expr} {k : Nat} {p : Pos} (hA : A.handled = none) (hv : (RView prog w "dict_items" rs).h P v) :
    IterOf prog w A (.Tuple elts k p) v P O rs.length (fun i => RTupW [RStr ((rs.map (·.1)).getD i ⟨#[]⟩), (rs.map (·.2)).getD i RAny]) := by
  obtain ⟨a, d, rfl, ⟨oa, ga, ca, da⟩, hv⟩ := hv
  obtain ⟨d', kvs, ep, o, e, hd, en, g, hD⟩ := RDict.at hv
  cases e
  rw [← en.length]
  refine Do.base fun s X => wpAny_pyIter_items ⟨oa, X.per _ _ ga, ca, da⟩ (hD s O X) fun ht' => ?_
  have hne : d ≠ s.heap.objs.size := Nat.ne_of_lt (Heap.lt_size (X.per _ _ g))
  generalize hI : s.heap.objs.size = I at ht' hne
  have W : WalksT prog w A I [I, d] [I] kvs.length (fun i vals => ∃ k x t, kvs[i]? = some (k, x) ∧ vals = #[.str k t, x])
      (fun i h => (∃ ok ov, IsItemIter h I d i kvs.length ep ok ov) ∧ h.DictAt (PySem.strKind prog w) d kvs ep)
      (fun i T h => (∃ ok ov, IsItemIterOut h I d (i + 1) kvs.length ep ok ov T) ∧ h.DictAt (PySem.strKind prog w) d kvs ep ∧ T ≠ I) := {
    sub := fun b hb => by cases hb with | head => exact .head _ | tail _ q => cases q
    frame := fun i h h' ⟨⟨ok, ov, a⟩, b⟩ hk => ⟨⟨ok, ov, hk I (.head _) _ a⟩, b.at' fun o e => hk d (.tail _ (.head _)) o e⟩
    item := fun i s Q E hi ⟨⟨ok, ov, a⟩, b⟩ hQ => by
      obtain ⟨⟨k, x⟩, hx⟩ : ∃ p, kvs[i]? = some p := ⟨kvs[i], by simp [hi]⟩
      refine wpAny_pyNext_items_item a b hx fun key h' hkey hout hT hsz hk => ?_
      cases key <;> simp [PySem.strKind, Value.isStrOf] at hkey
      subst hkey
      exact hQ s.heap.objs.size _ h' s.toks ⟨_, x, _, hx, rfl⟩ (Nat.le_refl _) ⟨_, hT, rfl, _, rfl⟩ ⟨⟨_, _, hout⟩, b.at' fun o e => hk d o hne e, (Nat.ne_of_lt (Heap.lt_size a)).symm⟩ fun b o hb e => hk b o (fun q => hb (by rw [q]; exact .head _)) e
    go := fun elts k pos i T s Q E ⟨⟨ok, ov, a⟩, b, hT⟩ hQ => wpAny_letOwnedTupleGo_items a fun h' st hs => hQ h' ⟨⟨ok, ov, st⟩, b.at' fun o e => (hs.2 d hne).trans e⟩ fun b o hb e => (hs.2 b fun q => hb (by rw [q]; exact .head _)).trans e
    apart := fun i T h ⟨_, _, hT⟩ q => by cases q with | head => exact hT rfl | tail _ q => cases q
    done := fun s Q E ⟨⟨ok, ov, a⟩, b⟩ hQ => wpAny_pyNext_items_end hA a b (by simp) fun h' hx => hQ h' s.toks fun b o hb e => hx b o (fun q => hb (by rw [q]; exact .head _)) e
    self := fun i s Q E ⟨⟨ok, ov, a⟩, b⟩ hQ => by
      have hT : s.TypeIs (.ref I) "dict_itemiterator" := ⟨_, a, rfl⟩
      refine wpAny_pyIter_slot hT F.slot_dict_itemiterator_iter (wpAny_call_entry F.slot_dict_itemiterator_iter hT entry_itemiter_iter ?_ (F.args_dict_itemiterator_iter_1 _))
      show wpAny _ _ (ret (.ref I)) _ _ s
      exact wpAny_pure ⟨_, rfl, "dict_itemiterator", _, hT, F.slot_dict_itemiterator_next.lookup, hQ⟩ }
  have hal : ∀ (i : Nat) (h : Heap), ((∃ ok ov, IsItemIter h I d i kvs.length ep ok ov) ∧ h.DictAt (PySem.strKind prog w) d kvs ep) → ∀ b ∈ [I], ∃ o, h.get? b = some o := fun i h st b hb => by
    cases hb with
    | head => obtain ⟨ok, ov, e⟩ := st.1; exact ⟨_, e⟩
    | tail _ q => cases q
  have hst : (∃ ok ov, IsItemIter (s.heap.push { cls := .type "dict_itemiterator", data := .fields #[.none, .bool false, .ref d, .int 0 0, .int kvs.length 0, .int ep 0, .none, .none] }) I d 0 kvs.length ep ok ov) ∧
      (s.heap.push { cls := .type "dict_itemiterator", data := .fields #[.none, .bool false, .ref d, .int 0 0, .int kvs.length 0, .int ep 0, .none, .none] }).DictAt (PySem.strKind prog w) d kvs ep :=
    ⟨⟨.none, .none, by rw [← hI]; exact Heap.get?_push_size _ rfl⟩, (hD s O X).push _⟩
  refine ⟨P, walkU [I] [I, d] (fun i h => (∃ ok ov, IsItemIter h I d i kvs.length ep ok ov) ∧ h.DictAt (PySem.strKind prog w) d kvs ep) P 0 :: O, .refl _, X.push ht' (push_keep _ _) (fun a ha => by cases ha with | head => rw [← hI]; exact fresh_size _ | tail _ q => cases q) (List.nodup_cons.mpr ⟨by simp, .nil⟩)
    (walkU.ok' hst (hal 0 _ hst) fun b hb q => by
      rcases List.mem_cons.mp hb with rfl | hb
      · exact absurd (.head _) q
      · rcases List.mem_cons.mp hb with rfl | hb
        · exact ⟨_, Heap.get?_push_of_some _ (X.per _ _ g), g⟩
        · cases hb), I, _, rfl, rfl, ?_⟩
  have := Itr.ofWalksT (P := P) (elts := elts) (k := k) (p := p) (item := fun i => [RStr ((rs.map (·.1)).getD i ⟨#[]⟩), (rs.map (·.2)).getD i RAny]) W (List.nodup_cons.mpr ⟨by simp, .nil⟩) hal
    (fun i T h ⟨⟨ok, ov, e⟩, _⟩ b hb => by cases hb with | head => exact ⟨_, e⟩ | tail _ q => cases q)
    (fun i T h h' ⟨⟨ok, ov, a⟩, b, c⟩ hk => ⟨⟨ok, ov, hk I (.head _) _ a⟩, b.at' fun o e => hk d (.tail _ (.head _)) o e, c⟩)
    (fun i vs ⟨k, x, t, hi, e⟩ => by
      subst e
      have e1 : (rs.map (·.1))[i]? = some k := by rw [← en.1, List.getElem?_map, hi]; rfl
      have e2 : (kvs.map (·.2))[i]? = some x := by rw [List.getElem?_map, hi]; rfl
      obtain ⟨r', e', hh⟩ := en.2.of_get e2
      simp only [List.getD_eq_getElem?_getD, e1, e', Option.getD_some]
      exact ⟨⟨_, rfl⟩, hh, trivial⟩)
  exact this
end
end

section
section
variable {prog : Program} {w : World} {A : Around} {env : Env} {P : Part} {O O' : List U} {R R1 R2 R3 : Rep} {pos : Pos} {v u z : Value} {Φ : Flow → Part → List U → Prop} {rest : List Stmt} {E : Value → Shared → Prop}

/-- the next pair of enumerate(text): its sign bears a new token -/
theorem next_enumText {s : Shared} {e it : Addr} {x : Str} {t : Tok} {i c : Nat} {old : Value} {Q : Option Value → Shared → Prop} (he : IsEnum s.heap e it i old) (hit : s.heap.IsStrIter it "str_ascii_iterator" x t i) (hx : x.cps[i]? = some c) (hne : e ≠ it)
    (hQ : ∀ h', IsEnumOut h' e it ((i : Int) + 1) (.str ⟨#[c]⟩ s.toks) s.heap.objs.size → h'.IsStrIter it "str_ascii_iterator" x t (i + 1) →
      h'.get? s.heap.objs.size = some { cls := .type "tuple", data := .seq #[.int i (s.toks + 1), .str ⟨#[c]⟩ s.toks] } →
      (∀ b o, b ≠ e → b ≠ it → s.heap.get? b = some o → h'.get? b = some o) → Q (some (.ref s.heap.objs.size)) { s with heap := h', toks := s.toks + 1 + 1 }) :
    wpAny (model prog w) A (pyNext (.ref e)) Q E s := by
  obtain ⟨hp, g, d, tk, os⟩ := s
  have hT : Shared.TypeIs ⟨hp, g, d, tk, os⟩ (.ref e) "enumerate" := ⟨_, he, rfl⟩
  unfold pyNext
  refine wpAny_bind (wpAny_attempt (wpAny_callSpecial?_slot (name := Str.ofString "__next__") hT F.slot_enumerate_next (wpAny_call_entry F.slot_enumerate_next hT F.entry_enumerate_next ?_ (F.args_enumerate_next_1 _))))
  have hel : e < hp.objs.size := Heap.lt_size he
  have hil : it < hp.objs.size := by obtain ⟨o, ho, _⟩ := hit; exact Heap.lt_size ho
  show wpAny _ _ (field (.ref e) 2 >>= _) _ _ _
  refine wpAny_bind (wpAny_field he rfl (x := .ref it) rfl ?_)
  refine wpAny_bind (wpAny_nextOf_ascii_item hit hx fun h1 it1 s1 => ?_)
  replace s1 : Heap.SameBut it hp h1 := s1
  have e1 : IsEnum h1 e it i old := (s1.2 e hne).trans he
  show wpAny _ _ (field (.ref e) 3 >>= _) _ _ ⟨h1, g, d, tk + 1, os⟩
  refine wpAny_bind (wpAny_field e1 rfl (x := rawInt i) rfl ?_)
  show wpAny _ _ (field (.ref e) 4 >>= _) _ _ ⟨h1, g, d, tk + 1, os⟩
  refine wpAny_bind (wpAny_field e1 rfl (x := .none) rfl ?_)
  show wpAny _ _ (mkInt i >>= _) _ _ ⟨h1, g, d, tk + 1, os⟩
  refine wpAny_bind (wpAny_mkInt ?_)
  show wpAny _ _ (setField (.ref e) 3 (rawInt ((i : Int) + 1)) >>= _) _ _ ⟨h1, g, d, tk + 1 + 1, os⟩
  refine wpAny_bind (wpAny_setField_rec e1 (by simp) fun h2 e2 s2 => ?_)
  replace s2 : Heap.SameBut e h1 h2 := s2
  replace e2 : IsEnum h2 e it ((i : Int) + 1) old := e2
  show wpAny _ _ (setField (.ref e) 4 .none >>= _) _ _ ⟨h2, g, d, tk + 1 + 1, os⟩
  refine wpAny_bind (wpAny_setField_rec e2 (by simp) fun h3 e3 s3 => ?_)
  replace s3 : Heap.SameBut e h2 h3 := s3
  replace e3 : IsEnum h3 e it ((i : Int) + 1) old := e3
  show wpAny _ _ (newTuple [.int i (tk + 1), .str ⟨#[c]⟩ tk] >>= _) _ _ ⟨h3, g, d, tk + 1 + 1, os⟩
  refine wpAny_bind (wpAny_newTuple ?_)
  have z3 : h3.objs.size = hp.objs.size := by rw [s3.1, s2.1, s1.1]
  obtain ⟨h4, hh4⟩ : ∃ h4, h4 = h3.push { cls := .type "tuple", data := .seq #[.int i (tk + 1), .str ⟨#[c]⟩ tk] } := ⟨_, rfl⟩
  have e4 : IsEnum h4 e it ((i : Int) + 1) old := by rw [hh4]; exact Heap.get?_push_of_some _ e3
  have t4 : h4.get? hp.objs.size = some { cls := .type "tuple", data := .seq #[.int i (tk + 1), .str ⟨#[c]⟩ tk] } := by rw [hh4, ← z3]; exact Heap.get?_push_size _ rfl
  have k4 : ∀ b o, b ≠ e → b ≠ it → hp.get? b = some o → h4.get? b = some o := fun b o be bi q => by
    rw [hh4]; exact Heap.get?_push_of_some _ (s3.extBut b o be (s2.extBut b o be (s1.extBut b o bi q)))
  have i4 : h4.IsStrIter it "str_ascii_iterator" x t (i + 1) := by
    obtain ⟨o, ho, r⟩ := it1
    exact ⟨o, by rw [hh4]; exact Heap.get?_push_of_some _ (s3.extBut it o hne.symm (s2.extBut it o hne.symm ho)), r⟩
  show wpAny _ _ (Builtin.SmallTypes.ownedTupleIsFree (.ref e) >>= _) _ _ ⟨h3.push _, g, d, tk + 1 + 1, os⟩
  rw [← hh4, z3]
  clear hh4
  refine wpAny_bind ?_
  unfold Builtin.SmallTypes.ownedTupleIsFree
  refine wpAny_bind (wpAny_field e4 rfl (x := .none) rfl (wpAny_pure ?_))
  simp only [if_true]
  refine wpAny_bind (wpAny_rule ?_)
  refine wpAny_bind (wpAny_field e4 rfl (x := old) rfl ?_)
  refine wpAny_bind (wpAny_setField_rec e4 (by simp) fun h5 e5 s5 => ?_)
  replace s5 : Heap.SameBut e h4 h5 := s5
  replace e5 : IsEnum h5 e it ((i : Int) + 1) (.str ⟨#[c]⟩ tk) := e5
  show wpAny _ _ (Builtin.SmallTypes.ownedTupleHandOut (.ref e) (.ref hp.objs.size) >>= _) _ _ ⟨h5, g, d, tk + 1 + 1, os⟩
  refine wpAny_bind ?_
  unfold Builtin.SmallTypes.ownedTupleHandOut
  refine wpAny_bind (wpAny_setField_rec e5 (by simp) fun h6 e6 s6 => ?_)
  replace s6 : Heap.SameBut e h5 h6 := s6
  replace e6 : IsEnumOut h6 e it ((i : Int) + 1) (.str ⟨#[c]⟩ tk) hp.objs.size := e6
  refine wpAny_setField_rec e6 (by simp) fun h7 e7 s7 => ?_
  replace s7 : Heap.SameBut e h6 h7 := s7
  have k7 : ∀ b o, b ≠ e → h4.get? b = some o → h7.get? b = some o := fun b o be q => s7.extBut b o be (s6.extBut b o be (s5.extBut b o be q))
  refine wpAny_bind (wpAny_letGo (wpAny_pure ⟨_, rfl, wpAny_pure (hQ h7 e7 ?_ (k7 _ _ (Nat.ne_of_gt hel) t4) fun b o be bi q => k7 b o be (k4 b o be bi q))⟩))
  obtain ⟨o, ho, r⟩ := i4
  exact ⟨o, k7 it o hne.symm ho, r⟩

/-- a text with a token that is not older than this -/
noncomputable def RNew (t₀ : Tok) (x : Str) : Rep := ⟨fun P v => ∃ t, v = .str x t ∧ t ≠ 0 ∧ t₀ ≤ t, fun _ _ _ l h => h⟩
theorem RNew.str {t₀ : Tok} {x : Str} {P : Part} {v : Value} (h : (RNew t₀ x).h P v) : (RStr x).h P v := let ⟨t, e, _⟩ := h; ⟨t, e⟩
theorem o_enumText {x : Str} {Φ : Value → Part → List U → Prop} (hA : A.handled = none) (hv : (RStr x).h P v) (ha : x.cps.all (· < 128) = true) (h0 : 0 < P.tk)
    (h : ∀ e it, (∀ elts k p, Itr prog w A P (.Tuple elts k p) e x.cps.size it (fun i => RTupW [RInt i, RNew P.tk ⟨#[x.cps.getD i 0]⟩])) → Φ (.ref e) P (it 0 :: O)) : Do prog w A (call (.type "enumerate") [v]) P O Φ := by
  obtain ⟨t, rfl⟩ := hv
  have hst : strIterType x = "str_ascii_iterator" := by unfold strIterType; rw [ha]; rfl
  refine Do.base fun s X => call_enumerate_str fun h' h1 h2 h3 h4 ht => ?_
  rw [hst] at h2
  generalize hI : s.heap.objs.size = I at h1 h2 h3 ⊢
  have hEI : I + 1 ≠ I := Nat.succ_ne_self I
  have hsE : s.heap.get? (I + 1) = none := by
    cases e : s.heap.get? (I + 1) with
    | none => rfl
    | some o => have := Heap.lt_size e; rw [hI] at this; exact absurd this (Nat.not_lt.mpr (Nat.le_succ I))
  generalize hEe : I + 1 = e at h1 hEI hsE ⊢
  have hal : ∀ (i : Nat) (h : Heap), ((∃ old, IsEnum h e I i old) ∧ h.IsStrIter I "str_ascii_iterator" x t i) → ∀ b ∈ [e, I], ∃ o, h.get? b = some o := fun i h st b hb => by
    obtain ⟨⟨old, e⟩, o, ho, _⟩ := st
    cases hb with
    | head => exact ⟨_, e⟩
    | tail _ q => cases q with
      | head => exact ⟨o, ho⟩
      | tail _ q => cases q
  have hnd : [e, I].Nodup := List.nodup_cons.mpr ⟨by simpa using hEI, List.nodup_cons.mpr ⟨by simp, .nil⟩⟩
  have hfr : ∀ (i : Nat) h h', ((∃ old, IsEnum h e I i old) ∧ h.IsStrIter I "str_ascii_iterator" x t i) → (∀ b ∈ [e, I], ∀ o, h.get? b = some o → h'.get? b = some o) → ((∃ old, IsEnum h' e I i old) ∧ h'.IsStrIter I "str_ascii_iterator" x t i) :=
    fun i h h' ⟨⟨old, e1⟩, o, ho, r⟩ hk => ⟨⟨old, hk _ (.head _) _ e1⟩, o, hk _ (.tail _ (.head _)) _ ho, r⟩
  refine ⟨P, walkU [e, I] [e, I] (fun i h => (∃ old, IsEnum h e I i old) ∧ h.IsStrIter I "str_ascii_iterator" x t i) P 0 :: O, .refl _, X.push (h' := h') ht h4 (fun a ha => ?_) hnd (walkU.ok' ⟨⟨_, h1⟩, h2⟩ (hal 0 _ ⟨⟨_, h1⟩, h2⟩) fun b hb q => absurd hb q), h _ _ fun elts k p => ?_⟩
  · cases ha with
    | head => exact hsE
    | tail _ q => cases q with
      | head => rw [← hI]; exact fresh_size _
      | tail _ q => cases q
  have W := fun (A' : Around) (hA' : A'.handled = none) => WalksT.enumerateD (prog := prog) (w := w) (A := A') (it := I) (fp := [I]) (Draws.strAscii (prog := prog) (w := w) (A := A'.in1) hA' I x t) e hEI (by simpa using hEI) (.head _)
  exact {
    next := fun i P' O Ψ l hi kk => Do.mk fun s X => by
      obtain ⟨⟨old, e1⟩, i1⟩ := walkU.st hfr l X
      have hx : x.cps[i]? = some x.cps[i] := by simp [hi]
      refine next_enumText e1 i1 hx hEI fun h' eo io to hk => ?_
      have hTI : s.heap.objs.size ≠ e ∧ s.heap.objs.size ≠ I := by
        have q1 := Heap.lt_size e1
        obtain ⟨o, ho, _⟩ := i1
        exact ⟨(Nat.ne_of_lt q1).symm, (Nat.ne_of_lt (Heap.lt_size ho)).symm⟩
      have hkw : ∀ b o, b ∉ [e, I] → s.heap.get? b = some o → h'.get? b = some o := fun b o hb q => hk b o (fun e1 => hb (by rw [e1]; exact .head _)) (fun e1 => hb (by rw [e1]; exact .tail _ (.head _))) q
      let Mid : Nat → Heap → Prop := fun _ h => (∃ y, IsEnumOut h e I ((i : Int) + 1) y s.heap.objs.size) ∧ h.IsStrIter I "str_ascii_iterator" x t (i + 1)
      have hMf : ∀ (j : Nat) h h', Mid j h → (∀ b ∈ [e, I], ∀ o, h.get? b = some o → h'.get? b = some o) → Mid j h' := fun j h h' ⟨⟨y, e1⟩, o, ho, r⟩ hk => ⟨⟨y, hk _ (.head _) _ e1⟩, o, hk _ (.tail _ (.head _)) _ ho, r⟩
      have mid : Mid 0 h' := ⟨⟨_, eo⟩, io⟩
      have X1 : Sat P' (walkU [e, I] [e, I] Mid P 0 :: O) { s with heap := h', toks := s.toks + 1 + 1 } :=
        X.turn (Nat.le_add_right _ 2) hkw (fun a ha => .inl ha) hnd (walkU.ok' mid (fun b hb => by
          obtain ⟨⟨y, e⟩, o, ho, _⟩ := mid
          cases hb with
          | head => exact ⟨_, e⟩
          | tail _ q => cases q with
            | head => exact ⟨o, ho⟩
            | tail _ q => cases q) fun b hb q => absurd hb q)
      obtain ⟨l1, X2⟩ := X1.adopt to (X.freshP (fresh_size _)) (fun q => by
        rw [fps_cons] at q
        rcases List.mem_append.mp q with q | q
        · rcases List.mem_cons.mp q with q | q
          · exact hTI.1 q
          · exact hTI.2 (List.mem_singleton.mp q)
        · obtain ⟨o, e⟩ := X.drop.mem_alive q; rw [fresh_size] at e; cases e)
      obtain ⟨l2, X3⟩ := X2.stamp
      refine ⟨_, _, l1.trans l2, X3, _, rfl, Do.base fun s2 Y => ?_⟩
      obtain ⟨⟨y, e2⟩, i2⟩ := walkU.st (St := Mid) (i := 0) hMf (l.trans (l1.trans l2)) Y
      refine wpAny_letOwnedTupleGo_enum e2 fun h3 he3 hs3 ht3 => ?_
      have st3 : (∃ old, IsEnum h3 e I ((i + 1 : Nat) : Int) old) ∧ h3.IsStrIter I "str_ascii_iterator" x t (i + 1) := by
        obtain ⟨o, ho, r⟩ := i2
        exact ⟨⟨y, by simpa using he3⟩, o, (hs3.2 I hEI.symm).trans ho, r⟩
      refine ⟨_, walkU [e, I] [e, I] _ P (i + 1) :: O, .refl _, Y.turn (Nat.le_refl _) (fun b o hb q => (hs3.2 b fun e1 => hb (by rw [e1]; exact .head _)).trans q) (fun a ha => .inl ha) hnd (walkU.ok' st3 (hal _ _ st3) fun b hb q => absurd hb q), kk _ _ (l1.trans l2) ?_⟩
      refine ⟨s.heap.objs.size, _, _, _, rfl, Part.add_self _ _ _, rfl, rfl, ⟨_, rfl⟩, ⟨s.toks, ?_, ?_, ?_⟩, trivial⟩
      · have e : x.cps[i]?.getD 0 = x.cps[i] := by simp [hi]
        simp only [Array.getD_eq_getD_getElem?]
        rw [e]
      · exact Nat.pos_iff_ne_zero.mp (Nat.lt_of_lt_of_le h0 (Nat.le_trans l.1.2 X.tk))
      · exact Nat.le_trans l.1.2 X.tk
    stop := fun P' O l => Do.base fun s' X' => (W A hA).done s' _ _ (walkU.st hfr l X') fun h' tk hk ht2 => ⟨P', O, .refl _, X'.lose ht2 hk, rfl, rfl⟩
    self := fun i P' O l => Do.mk fun s' X' => (W A hA).self i s' _ _ (walkU.st hfr l X') ⟨P', _, .refl _, X', rfl, rfl⟩ }

/-- a loop over an iterator of one's own -/
theorem x_forO {target iter : Expr} {body orelse : List Stmt} {n : Nat} {item : Part → Nat → Rep} (Inv : Nat → Part → List U → Prop)
    (hv : Do prog w A (eval iter env) P O (fun v P' O' => ∃ P₀ I it, P.le P₀ ∧ P₀.le P' ∧ v = .ref I ∧ O' = it 0 :: O ∧ Itr prog w A P' target I n it (item P₀)))
    (h0 : ∀ P', P.le P' → Inv 0 P' O)
    (turn : ∀ i it P₀ P1 P2 O' v, i < n → P.le P₀ → P₀.le P1 → P1.le P2 → Inv i P1 O' → (item P₀ i).h P2 v → Do prog w A (assign target env v) P2 (it :: O') (fun _ P3 O3 => Do prog w A (execs body env) P3 O3 (TurnEnd it (Inv (i + 1)) (After prog w A env rest Φ))))
    (stop : ∀ P1 P2 O', P.le P1 → P1.le P2 → Inv n P1 O' → Do prog w A (execs orelse env) P2 O' (After prog w A env rest Φ))
    (hs : ∀ x, foldedSetIterable iter env x = PySem.Sem.pure x := by intro _; rfl) : Do prog w A (execs (.For target iter body orelse pos :: rest) env) P O Φ := by
  refine x_seq (Ψ := After prog w A env rest Φ) (Do.mk fun s X => wpAny_For (wpAny_mono (hv.run s X) (fun v s1 ⟨P1, O1, l1, X1, P₀, I, it, la, lb, ev, eO, W⟩ => ?_) fun _ _ e => e) hs)
    (fun _ _ _ q => q) fun f P' O' l hne q => by cases f <;> first | exact absurd rfl hne | exact q
  subst ev; subst eO
  refine wpAny_mono ((W.self 0 P1 O (.refl _)).run s1 X1) (fun z s2 ⟨P2, O2, l2, X2, ez, eO⟩ => ?_) fun _ _ e => e
  subst ez; subst eO
  have W' : Itr prog w A P2 target I n it (item P₀) := ⟨fun i P' O Ψ l => W.next i P' O Ψ (l2.trans l), fun P' O l => W.stop P' O (l2.trans l), fun i P' O l => W.self i P' O (l2.trans l)⟩
  refine codeAny_mono (do_forLoop (Φ := After prog w A env rest Φ) W' Inv (h0 P2 (l1.trans l2))
    (fun i P3 P4 O' v hi l3 l4 inv r => turn i (it (i + 1)) P₀ P3 P4 O' v hi la ((lb.trans l2).trans l3) l4 inv r)
    (fun P3 P4 O' l3 l4 inv => stop P3 P4 O' ((l1.trans l2).trans l3) l4 inv) s2 X2) fun r s3 ⟨f, P3, O3, er, l3, X3, q⟩ => ?_
  subst er
  exact ⟨P3, O3, (l1.trans l2).trans l3, X3, q⟩

/-- one or the other, the first not known for sure -/
theorem tst_or_any {a b : Expr} {d : Bool} (h1 : ∀ P', P.le P' → Do prog w A (isTrue a env (eval a env)) P' O (fun r P'' O' => O' = O ∧ (r = true → d = true))) (h2 : Tst prog w A env b P O d) : Tst prog w A env (.BoolOp .Or [a, b] pos) P O d := fun P' l => Do.mk fun s X =>
  isTrue_or (wpAny_mono ((h1 P' l).run s X) (fun r s1 ⟨P1, O1, l1, X1, e1, r1⟩ => by
    cases r with
    | true => exact ⟨P1, O1, l1, X1, e1, (r1 rfl).symm⟩
    | false => exact isTrue_or (wpAny_mono ((h2 P1 (l.trans l1)).run s1 (e1 ▸ X1)) (fun r2 s2 ⟨P2, O2, l2, X2, e2, r2'⟩ => by
        subst r2'
        cases r2 with
        | true => exact ⟨P2, O2, l1.trans l2, X2, e2, rfl⟩
        | false => exact isTrue_or_nil ⟨P2, O2, l1.trans l2, X2, e2, rfl⟩) fun _ _ e => e)) fun _ _ e => e)
noncomputable def ROld (t₀ : Tok) (x : Str) : Rep := ⟨fun P v => ∃ t, v = .str x t ∧ t ≠ 0 ∧ t < t₀, fun _ _ _ l h => h⟩
theorem ROld.of {t₀ : Tok} {x : Str} {P P' : Part} {v : Value} (h : (RTok x).h P v) (ht : P.tk ≤ t₀) : (ROld t₀ x).h P' v := let ⟨t, e, n, k⟩ := h; ⟨t, e, n, Nat.lt_of_lt_of_le k ht⟩
/-- a text, and another: one thing -/
theorem do_is_str {t₀ : Tok} {x y : Str} {a b : Expr} {d : Bool} (hnb : ∀ P' s, P.le P' → Sat P' O s → NoneBooked s.heap) (h1 : Ev prog w A env a P O (RNew t₀ x)) (h2 : Ev prog w A env b P O (ROld t₀ y))
    (hd : x = y → d = true) (hm : behindInMarks .Is b = false := by rfl) :
    ∀ P', P.le P' → Do prog w A (isTrue (.Compare a [.Is] [b] pos) env (eval (.Compare a [.Is] [b] pos) env)) P' O (fun r P'' O' => O' = O ∧ (r = true → d = true)) := fun P' l => Do.mk fun s X =>
  wpAny_isTrue_Compare1 (wpAny_mono ((h1 P' l).run s X) (fun v s1 ⟨P1, O1, l1, X1, e1, r1⟩ => wpAny_mono ((h2 P1 (l.trans l1)).run s1 (e1 ▸ X1)) (fun u s2 ⟨P2, O2, l2, X2, e2, r2⟩ => by
    obtain ⟨t, rfl, n1, k1⟩ := r1
    obtain ⟨t', rfl, n2, k2⟩ := r2
    subst e2
    have h0 : (t == 0 || t' == 0) = false := by simp [n1, n2]
    show wpAny _ _ (do return Value.bool (← isSame (.str x t) (.str y t'))) _ _ s2
    refine wpAny_bind ?_
    by_cases q : x = y
    · exact wpAny_isSame_str h0 (hnb P2 s2 ((l.trans l1).trans l2) X2) fun b => wpAny_pure (wpAny_truthy_bool ⟨P2, _, l1.trans l2, X2, rfl, fun _ => hd q⟩)
    · exact wpAny_of_eq (isSame_str_other x y t t' h0 (by simpa using (Nat.ne_of_lt (Nat.lt_of_lt_of_le k2 k1)).symm) (by simpa using q)) (wpAny_pure (wpAny_truthy_bool ⟨P2, _, l1.trans l2, X2, rfl, fun e => nomatch e⟩))) fun _ _ e => e) fun _ _ e => e) hm
end
end

section
section
variable {prog : Program} {w : World} {A : Around} {env : Env} {P : Part} {O O' : List U} {R R1 R2 R3 : Rep} {pos : Pos} {v u z : Value} {Φ : Flow → Part → List U → Prop} {rest : List Stmt}

/-- a list display as an own list -/
theorem o_list {es : List Expr} {Rs : List Rep} {Φ : Value → Part → List U → Prop} (h : EvL prog w A env pos es P O Rs) (hz : Rs.length ≤ sizeLine) (k : ∀ l vs P', P.le P' → Reps P' Rs vs → Φ (.ref l) P' (listU l vs :: O)) : Do prog w A (eval (.List es pos) env) P O Φ := Do.mk fun s X =>
  List_ (wpAny_mono ((h P (.refl P)).run s X) (fun vs s1 ⟨P1, O1, l1, X1, e1, r1⟩ => wpAny_mono ((o_newList (prog := prog) (w := w) (A := A) (O := O) (vs := vs) (Φ := fun v P' O' => ∃ P'', P.le P'' ∧ P''.le P' ∧ Φ v P' O') (by rw [r1.length]; exact hz) (fun l => ⟨P1, l1, .refl _, k l vs P1 l1 r1⟩)).run s1 (e1 ▸ X1)) (fun v s2 ⟨P2, O2, l2, X2, P3, _, _, f⟩ => ⟨P2, O2, l1.trans l2, X2, f⟩) fun _ _ e => e) fun _ _ e => e)
/-- name = [...], an own list -/
theorem x_newList {x : Str} {px p2 : Pos} {es : List Expr} {Rs : List Rep} {L : Addr} {ns : List Str} {vs : List (Option Value)} {vs' : Addr → List (Option Value)} {O2 : Addr → List U}
    (h : EvL prog w A env p2 es P O Rs) (hz : Rs.length ≤ sizeLine)
    (hU : ∀ d, Upd O (frameU L ns vs) (frameU L ns (vs' d)) (O2 d)) (hp : ∀ d, Put ns vs x (.ref d) (vs' d))
    (k : ∀ l items P', P.le P' → Reps P' Rs items → Do prog w A (execs rest env) P' (listU l items :: O2 l) Φ)
    (hs : swapsWith (.List es p2) (some (.Name x px)) pos.line env = PySem.Sem.pure false := by rfl)
    (hL : env.locals = L := by rfl) (hl : env.kindOf x = some .local := by rfl) (hk : env.scope.kind = .function := by rfl) : Do prog w A (execs (.Assign [.Name x px] (.List es p2) pos :: rest) env) P O Φ :=
  x_assign (Ψ := fun v P' O' => ∃ l items, v = .ref l ∧ P.le P' ∧ Reps P' Rs items ∧ O' = listU l items :: O) (o_list h hz fun l vs P' lp r => ⟨l, vs, rfl, lp, r, rfl⟩) (fun v P' O' l ⟨d, items, e2, lp, r, e3⟩ => by
    subst e2; subst e3
    exact s_local (Upd.tail (hU d)) (hp d) ⟨rfl, k d items P' l r⟩ hL hl hk) hs

/-- name.append(value) -/
theorem x_append {x : Str} {px apos cpos : Pos} {e : Expr} {l : Addr} {vs : List Value} {O2 : Value → List U} (hx : Ev prog w A env (.Name x px) P O (RVal (.ref l))) (he : Ev prog w A env e P O R)
    (hU : ∀ z, Upd O (listU l vs) (listU l (vs ++ [z])) (O2 z)) (hz : vs.length ≤ sizeLine)
    (k : ∀ z P', P.le P' → R.h P' z → Do prog w A (execs rest env) P' (O2 z) Φ)
    (hi : interactive env = false := by rfl) (hsw : swapsWith (.Call (.Attribute (.Name x px) "append" apos) [e] [] cpos) none pos.line env = PySem.Sem.pure false := by rfl)
    (hbase : attributeBase (.Name x px) "append" env (eval (.Name x px) env) = eval (.Name x px) env := by rfl) (hline : (apos.endLine == cpos.line) = true := by rfl)
    (hs : starEach [e] env = [(false, eval e env)] := by rfl) : Do prog w A (execs (.Expr (.Call (.Attribute (.Name x px) "append" apos) [e] [] cpos) pos :: rest) env) P O Φ :=
  x_expr (Ψ := fun P' O' => ∃ z, R.h P' z ∧ P.le P' ∧ O' = O2 z) (do_meth F.plainAttrs_list F.slot_list_append F.type_list_append hx (fun P' v s _ r X => by
      obtain rfl : v = .ref l := r
      obtain ⟨n, e⟩ := X.own _ (hU .none).mem
      exact ⟨⟨_, e, rfl⟩, fun a ea => by cases ea; exact ⟨_, e, rfl⟩⟩)
    (fun P1 v l1 r => by
      obtain rfl : v = .ref l := r
      exact do_callWith (Rs := [R]) kept_builtin (evl_cons (he.up l1) evl_nil hs) (fun P' us l2 rs => by
        match us, rs with
        | [z], ⟨rz, _⟩ => exact o_append (hU z) hz ⟨z, rz, l1.trans l2, rfl⟩) hs (by rfl)) hbase hline (by rw [hs]; rfl)) (fun P' O' l1 ⟨z, rz, lp, e⟩ => by subst e; exact k z P' l1 rz) hi hsw

/-- pairs of a dict display -/
noncomputable def EvP (prog : Program) (w : World) (A : Around) (prs : List (Sem Value × Sem Value)) (P : Part) (O : List U) (rs : List (Str × Rep)) : Prop :=
  ∀ P', P.le P' → Do prog w A (evalPairs prs) P' O (fun vs P'' O' => O' = O ∧ ∃ kvs, Carries (PySem.strKind prog w) vs kvs ∧ Ents P'' rs kvs)
theorem evp_nil : EvP prog w A [] P O [] := fun P' l => Do.mk fun s X => evalPairs_nil ⟨P', O, .refl _, X, rfl, [], trivial, Ents.nil⟩
theorem evp_cons {k v : Expr} {x : Str} {prs : List (Sem Value × Sem Value)} {rs : List (Str × Rep)} (hk : Ev prog w A env k P O (RStr x)) (hv : Ev prog w A env v P O R) (h : EvP prog w A prs P O rs) :
    EvP prog w A ((eval k env, (do let x ← eval v env; standAt pos; pure x)) :: prs) P O ((x, R) :: rs) := fun P' l => Do.mk fun s X =>
  evalPairs_cons (wpAny_mono ((hk P' l).run s X) (fun kv s1 ⟨P1, O1, l1, X1, e1, t, r1⟩ => wpAny_bind (wpAny_mono ((hv P1 (l.trans l1)).run s1 (e1 ▸ X1)) (fun z s2 ⟨P2, O2, l2, X2, e2, r2⟩ => wpAny_bind (wpAny_standAt (wpAny_pure (wpAny_mono ((h P2 ((l.trans l1).trans l2)).run s2 (e2 ▸ X2))
    (fun vs s3 ⟨P3, O3, l3, X3, e3, kvs, hc, en⟩ => ⟨P3, O3, (l1.trans l2).trans l3, X3, e3, (x, z) :: kvs, ⟨by subst r1; exact isKey, rfl, hc⟩, by simp only [List.map_cons]; exact congrArg _ en.1, R.mono _ _ _ l3 r2, en.2⟩) fun _ _ e => e)))) fun _ _ e => e)) fun _ _ e => e)
noncomputable def puts {α : Type} (acc l : List (Str × α)) : List (Str × α) := l.foldl (fun acc kv => put acc kv.1 kv.2) acc
theorem Ents.puts {P : Part} : ∀ {l : List (Str × Rep)} {kvs : List (Str × Value)} {acc : List (Str × Rep)} {kvs₀ : List (Str × Value)}, Ents P acc kvs₀ → Ents P l kvs → Ents P (Mine.puts acc l) (merged kvs₀ kvs)
  | [], [], _, _, h, _ => h
  | (k, r) :: l, (k', z) :: kvs, acc, kvs₀, h, g => by
    have hk : k' = k := (List.cons.inj g.1).1
    subst hk
    exact Ents.puts (l := l) (kvs := kvs) (h.put g.2.1) ⟨(List.cons.inj g.1).2, g.2.2⟩
theorem puts_new {α : Type} : ∀ {l : List (Str × α)} {acc : List (Str × α)}, ((acc ++ l).map (·.1)).Nodup → puts acc l = acc ++ l
  | [], acc, _ => by simp [puts]
  | (k, a) :: l, acc, h => by
    have hk : acc.any (fun kv => kv.1 = k) = false := by
      rw [List.any_eq_false]
      intro x hx q
      rw [List.map_append, List.map_cons] at h
      exact (List.nodup_append.mp h).2.2 x.1 (List.mem_map_of_mem hx) k (.head _) (by simpa using q)
    have e : puts acc ((k, a) :: l) = puts (acc ++ [(k, a)]) l := by
      show puts (put acc k a) l = _
      unfold put; rw [hk]; rfl
    rw [e, puts_new (by simpa using h)]
    simp
/-- a dict display -/
theorem ev_dict {keys : List (Option Expr)} {values : List Expr} {rs : List (Str × Rep)}
    (h : ∀ d, EvP prog w A (pairTrees keys values env pos) P (dictU prog w d [] :: O) rs) (hn : (rs.map (·.1)).Nodup)
    (hall : keys.all (·.isSome) = true := by rfl) (hl : keys.length = values.length := by rfl) (h0 : keys ≠ [] := by exact List.cons_ne_nil _ _) (hlen : keys.length ≤ 15 := by decide) :
    Ev prog w A env (.Dict keys values pos) P O (RDict prog w rs) := fun P' l => Do.mk fun s X => by
  have hn' := pairTrees_length keys values env pos hall hl
  refine wpAny_Dict_pairs (knd := PySem.strKind prog w) (pairs := pairTrees keys values env pos) (zip_pairTrees keys values env pos hall hl) (fun q => by rw [q] at hn'; exact h0 (List.eq_nil_of_length_eq_zero hn'.symm)) (by rw [hn']; exact hlen) ?_
  generalize hd : s.heap.objs.size = d
  have hsys : d ≠ sysModules := by rw [← hd]; exact X.newDict
  have X1 : Sat P' (dictU prog w d [] :: O) { s with heap := s.heap.push { cls := .type "dict", data := .dict #[] } } :=
    X.push (tk := s.toks) (Nat.le_refl _) (push_keep _ _) (fun a ha => by cases ha with | head => rw [← hd]; exact fresh_size _ | tail _ q => cases q) (List.nodup_cons.mpr ⟨by simp, .nil⟩) (by rw [← hd]; exact DictObj.of (Heap.DictOf.new s.heap))
  refine wpAny_mono ((h d P' l).run _ X1) (fun vs s2 ⟨P2, O2, l2, X2, e2, kvs, hc, en⟩ => ⟨kvs, hc, ?_, fun h' hm hs => ?_⟩) fun _ _ e => e
  · subst e2; exact dictU.sees (.head _) X2
  · subst e2
    have X3 : Sat P2 (dictU prog w d (merged [] kvs) :: O) { s2 with heap := h', toks := s2.toks + vs.length } :=
      X2.upd .head (Nat.le_add_right _ _) (fun b o hb e => (hs.2 b (fun q => hb (by rw [q]; exact .head _))).trans e) (fun a ha => .inl ha) (List.nodup_cons.mpr ⟨by simp, .nil⟩) (DictObj.of hm)
    have en' := Ents.puts (P := P2) Ents.nil en
    rw [puts_new (by simpa using hn), List.nil_append] at en'
    obtain ⟨o, e, q⟩ := X3.own _ (.head _)
    obtain ⟨l1, y⟩ := X3.freeze (a := d) (.head _) e
    exact ⟨_, O, l2.trans l1, y, rfl, d, o, merged [] kvs, rfl, hsys, Part.add_self _ _ _, q, en'.mono l1⟩
end
end

section
section
variable {prog : Program} {w : World} {A : Around} {env : Env} {P : Part} {O O' : List U} {R R1 R2 R3 : Rep} {pos : Pos} {v u z : Value} {Φ : Flow → Part → List U → Prop} {rest : List Stmt} {K : Frag} {x dx C : Addr} {m : Str → Option Value}

noncomputable def NsObj (o : Obj) (m : Str → Option Value) : Prop := ∃ es ep, o.data = .dict es ep ∧ StrKeys es ∧ ∀ name, nsFind es name = m name
theorem NsObj.look {o : Obj} (h : NsObj o m) (name : Str) : lookIn name o = some (m name) := by
  obtain ⟨es, ep, hd, hk, hf⟩ := h
  have e := hf name
  unfold nsFind findBy at e
  rw [← Array.find?_toList] at e
  unfold lookIn
  rw [hd]
  dsimp only
  cases q : es.toList.find? (·.key.isStr name) with
  | some en => rw [q] at e; dsimp only; rw [← e]; rfl
  | none =>
    rw [q] at e
    have hr : es.toList.any (·.refKey) = false := by
      rw [List.any_eq_false]
      intro en hen
      obtain ⟨n, t, ek⟩ := hk en (by simpa using hen)
      simp [DictEntry.refKey, ek]
    dsimp only
    rw [hr, ← e]; rfl

/-- an own object of one's own -/
noncomputable def instU (x dx C : Addr) (m : Str → Option Value) : U where
  fp := [x, dx]
  ok h := h.get? x = some (instObj C dx) ∧ h.Ns1 dx m ∧ x ≠ dx
  stable h h' k := fun ⟨a, ⟨o, es, ep, e, r⟩, c⟩ => ⟨k x (.head _) _ a, ⟨o, es, ep, k dx (.tail _ (.head _)) _ e, r⟩, c⟩
  alive h := fun ⟨a, ⟨o, es, ep, e, r⟩, c⟩ b hb => by
    cases hb with
    | head => exact ⟨_, a⟩
    | tail _ hb => cases hb with
      | head => exact ⟨_, e⟩
      | tail _ hb => cases hb
theorem instU.at {h : Heap} (i : (instU x dx C m).ok h) : ∃ o, NsObj o m ∧ InstAt h x (instObj C dx) C (some o) := by
  obtain ⟨a, ⟨o, es, ep, e, d, k, u, f⟩, c⟩ := i
  exact ⟨o, ⟨es, ep, d, k, f⟩, a, rfl, rfl, e⟩

/-- an own object that stays -/
noncomputable def RInst (C : Addr) (fs : List (Str × Rep)) (no : List Str) : Rep :=
  ⟨fun P v => ∃ x dx o m, v = .ref x ∧ P.get x = some (instObj C dx) ∧ P.get dx = some o ∧ NsObj o m ∧ (∀ f ∈ fs, ∃ z, m f.1 = some z ∧ f.2.h P z) ∧ ∀ n ∈ no, m n = none,
   fun P P' v l ⟨x, dx, o, m, e, g1, g2, n, f, no⟩ => ⟨x, dx, o, m, e, l.2 _ _ g1, l.2 _ _ g2, n, fun q hq => let ⟨z, a, b⟩ := f q hq; ⟨z, a, q.2.mono _ _ _ l b⟩, no⟩⟩

theorem Fit.under {k : Nat} {c : Code} (h : Fit (k + 1) A) (hw : c.weight ≤ 1 := by decide) (hu : c.cUnits ≤ 4 := by decide) : Fit k (A.under c) :=
  ⟨h.1, by have := h.2.1; show A.depth + c.weight + k < _; omega, by have := h.2.2; show A.units + c.cUnits + 4 * k + 8 < _; omega⟩

/-- a call of a def without cells, as code -/
theorem f_code {a : Addr} {qual : Str} {params : Arguments} {body : List Stmt} {scope : Scope} {vals : List Value} {binds : List (Str × Value)} {ns : List Str} {vs : List (Option Value)} {Ψ : Value → Part → List U → Prop} {k : Nat}
    (B : Bg K P) (F : FnAt K a qual params body scope) (hA : Fit k A)
    (hbind : ∀ name doc pm an cdv ct, bindArgs (fnOf name qual params body scope .none .none doc pm an cdv ct) ⟨vals, []⟩ = PySem.Sem.pure binds)
    (hvs : ns.map (fun x => binds.reverse.lookup x) = vs) (hnd : ns.Nodup) (hloc : (binds.all fun y => scope.names.lookup y.1 == some .local) = true)
    (h : ∀ L cd, Do prog w (A.deeper (envX qual scope L a cd [])) (execs body (envX qual scope L a cd [])) P (frameU L ns vs :: O) (FnEnd Ψ))
    (hcell : ∀ x ∈ scope.names, x.2 ≠ .cell := by decide) (hco : scope.isCoroutine = false := by rfl) (hgen : scope.isGenerator = false := by rfl) (hk : scope.kind = .function := by rfl) {s : Shared} (X : Sat P O s) :
    codeAny (model prog w) A (.call (.ref a) ⟨vals, []⟩) (fun r s' => ∃ v P' O', r = .ok (.ret v) ∧ P.le P' ∧ Sat P' O' s' ∧ Ψ v P' O') s := by
  obtain ⟨oc, od, name, doc, pm, an, cdv, ct, osl, hK, hcd⟩ := F
  refine codeAny_call_def (fd := fnOf name qual params body scope .none .none doc pm an cdv ct) (body := body) (binds := binds) hA.depth (B.kin X _ _ hK) rfl (B.nolimit X) (codeRec_of (B.kin X) hcd) rfl (BindsTo.of_eq (hbind _ _ _ _ _ _)) hcell (fun x hx => by simpa using List.all_eq_true.mp hloc x hx) (fun h' hn hk' => ?_) hco hgen hk
  have X1 : Sat P (frameU s.heap.objs.size ns vs :: O) { s with heap := h', toks := s.toks + binds.length } :=
    X.push (Nat.le_add_right _ _) hk' (fun a ha => by cases ha with | head => exact fresh_size _ | tail _ q => cases q) (List.nodup_cons.mpr ⟨by simp, .nil⟩)
      ⟨hnd, _, hn, fun i y v e1 e2 => by subst hvs; rw [List.getElem?_map, e1] at e2; simpa using e2⟩
  exact wpAny_mono ((h s.heap.objs.size cdv).run _ X1) (fun f s2 ⟨P2, O2, l2, X2, us, O3, e3, q⟩ => by subst e3; exact ⟨_, P2, O3, rfl, l2, X2.drops, q⟩) fun _ _ e => e.elim

/-- a new own object, set up by its __init__ -/
theorem o_make {fI : Addr} {vals : List Value} {Φ : Value → Part → List U → Prop} (B : Bg K P) (hm : makesIn K C = true) (hi : findIn K (.ref C) "__init__" = some (some (.ref fI))) (hf : typeIn K (.ref fI) = some (.type "function"))
    (h : ∀ x dx s, Sat P (instU x dx C (fun _ => none) :: O) s → codeAny (model prog w) (A.under (.builtin "type.__call__" ⟨.ref C :: vals, []⟩)) (.call (.ref fI) ⟨.ref x :: vals, []⟩) (fun r s' => ∃ P' O', r = .ok (.ret .none) ∧ P.le P' ∧ Sat P' O' s' ∧ Φ (.ref x) P' O') s) :
    Do prog w A (call (.ref C) vals) P O Φ := Do.mk fun s X => by
  refine wpAny_call ?_
  obtain ⟨hh, g, d, t, os⟩ := s
  have KX := B.kin X
  refine make_core (makes_of KX hm) (looks_findIn KX hi) (fun self => bind_fn KX self hf) (.inl rfl) ?_
  have hne : hh.objs.size + 1 ≠ hh.objs.size := Nat.succ_ne_self _
  have h1 : ((hh.push emptyDict).push (instObj C hh.objs.size)).get? (hh.objs.size + 1) = some (instObj C hh.objs.size) := by
    have := Heap.get?_push_size (hh.push emptyDict) (o := instObj C hh.objs.size) rfl
    rwa [Heap.size_push] at this
  have h2 : ((hh.push emptyDict).push (instObj C hh.objs.size)).get? hh.objs.size = some emptyDict := Heap.get?_push_of_some _ (Heap.get?_push_size _ rfl)
  have X1 : Sat P (instU (hh.objs.size + 1) hh.objs.size C (fun _ => none) :: O) ⟨(hh.push emptyDict).push (instObj C hh.objs.size), g, d, t, os⟩ :=
    X.push (tk := t) (Nat.le_refl _) (fun b o e => Heap.get?_push_of_some _ (Heap.get?_push_of_some _ e)) (fun a ha => by
      have : hh.objs.size ≤ a := by
        cases ha with
        | head => exact Nat.le_succ _
        | tail _ ha => cases ha with
          | head => exact Nat.le_refl _
          | tail _ ha => cases ha
      cases e : Heap.get? hh a with
      | none => rfl
      | some o => exact absurd (Heap.lt_size e) (Nat.not_lt.mpr this)) (List.nodup_cons.mpr ⟨by simp, List.nodup_cons.mpr ⟨by simp, .nil⟩⟩)
      ⟨h1, ⟨_, #[], 0, h2, rfl, (by simp [StrKeys]), (by simp [UniqKeys]), fun _ => rfl⟩, hne⟩
  refine codeAny_mono (h _ _ _ X1) fun r s' ⟨P', O', er, l, Y, f⟩ => ?_
  subst er
  exact ⟨rfl, P', O', l, Y, f⟩

/-- self.name = value -/
theorem o_setAttr {name : Str} {ns : List Str} {Φ : Unit → Part → List U → Prop} (B : Bg K P) (hs : findIn K (.ref C) "__setattr__" = some (some (.builtin "object.__setattr__"))) (hp : plainOver K C = true) (ht : takerIn K C name = some none) (hh : hasDictIn K C = true)
    (hU : Upd O (instU x dx C m) (instU x dx C (fun y => if y = name then some v else m y)) O') (hw : Within m ns) (hl : ns.length ≤ 100) (h : Φ () P O') : Do prog w A (setAttr (.ref x) name v) P O Φ := Do.base fun s X => by
  have KX := B.kin X
  obtain ⟨o, hn, I⟩ := instU.at (X.own _ hU.mem)
  refine set_plain KX I hs (osa_open (s := { s with toks := s.toks + 1 }) KX I hp ht fun b => ?_)
  obtain ⟨cd, hc, hd'⟩ := any_some hh
  obtain ⟨a, hns, hne⟩ := X.own _ hU.mem
  refine wpAny_bind (wpAny_pure (wpAny_bind (wpAny_bind (wpAny_loadPart a (wpAny_bind ((show Looks (model prog w) ({ s with toks := s.toks + 1 } : Shared).heap (classData C) cd from looks_clsIn KX hc).here ?_))))))
  rw [hd']
  refine wpAny_pure (a := some dx) (wpAny_bind (wpAny_pure (wpAny_bind (wpAny_nsSet1 hns fun h' hn' hs' => ?_))))
  obtain ⟨o', es', ep', e', d', z'⟩ := hn'.count (hw.cons name v)
  refine wpAny_bind (wpAny_lookBehind e' (by rw [d']; exact pastItsLine_dict (by rw [sizeLine_eq]; rw [List.length_cons] at z'; omega)) ?_)
  refine wpAny_pure ?_
  intro ht'
  exact ⟨P, O', .refl P, X.upd hU ht' (fun b o hb e => (hs'.2 b (fun q => hb (by rw [q]; exact .tail _ (.head _)))).trans e) (fun a ha => .inl ha) (List.nodup_cons.mpr ⟨by simpa using hne, List.nodup_cons.mpr ⟨by simp, .nil⟩⟩)
    ⟨(hs'.2 x hne).trans a, hn', hne⟩, h⟩
theorem x_setAttr {o e : Expr} {name : Str} {px : Pos} {ns : List Str} {O2 : Value → List U} (B : Bg K P) (hs : findIn K (.ref C) "__setattr__" = some (some (.builtin "object.__setattr__"))) (hp : plainOver K C = true) (ht : takerIn K C name = some none) (hh : hasDictIn K C = true)
    (he : Ev prog w A env e P O R) (ho : Ev prog w A env o P O (RVal (.ref x)))
    (hU : ∀ z, Upd O (instU x dx C m) (instU x dx C (fun y => if y = name then some z else m y)) (O2 z))
    (hw : Within m ns) (hl : ns.length ≤ 100) (k : ∀ z P', P.le P' → R.h P' z → Do prog w A (execs rest env) P' (O2 z) Φ)
    (hsw : swapsWith e (some (.Attribute o name px)) pos.line env = PySem.Sem.pure false := by rfl) : Do prog w A (execs (.Assign [.Attribute o name px] e pos :: rest) env) P O Φ :=
  x_next (Ψ := fun P' O' => ∃ z, R.h P' z ∧ O' = O2 z) (Do.mk fun s X => plainObj_wpAny_Assign_Attribute (wpAny_mono ((he P (.refl P)).run s X) (fun z s1 ⟨P1, O1, l1, X1, e1, r1⟩ => wpAny_mono ((ho P1 l1).run s1 (e1 ▸ X1)) (fun v s2 ⟨P2, O3, l2, X2, e2, r2⟩ => by
    obtain rfl : v = .ref x := r2
    subst e2
    exact wpAny_mono ((o_setAttr (Φ := fun _ P' O' => P2.le P' ∧ O' = O2 z) (B.up (l1.trans l2)) hs hp ht hh (hU z) hw hl ⟨.refl _, rfl⟩).run s2 X2) (fun _ s3 ⟨P3, O4, l3, X3, _, e3⟩ => ⟨P3, O4, (l1.trans l2).trans l3, X3, rfl, z, R.mono _ _ _ (l2.trans l3) r1, e3⟩) fun _ _ e => e) fun _ _ e => e) fun _ _ e => e) hsw)
    fun P' O' l ⟨z, r, e⟩ => by subst e; exact k z P' l r

/-- what an own object has of its own -/
theorem g_attr {attr : Option Value} {name : Str} {expr : Bool} {o : Obj} (B : Bg K P) (hI : ∀ s, Sat P O s → ∃ o, NsObj o m ∧ InstAt s.heap x (instObj C dx) C (some o)) (hg : plainGet K C name = true) (hh : hasDictIn K C = true)
    (ha : findIn K (.ref C) name = some attr) (hn : noGet K attr = true) (hm : m name = some z) (hz : handedIn z = true) (hr : R.h P z) : Gv prog w A (getAttr (.ref x) name expr) P O R :=
  Gv.base fun s X => by
    obtain ⟨o, hno, I⟩ := hI s X
    have hl : lookIn name o = some (some z) := by rw [hno.look, hm]
    exact get_value (B.kin X) I (plainGet_of hg).1 (findObj_own hh ha hn hl) hz (here X hr)
theorem ev_attr {o : Expr} {name : Str} (h1 : Ev prog w A env o P O R1) (h2 : ∀ P' v, P.le P' → R1.h P' v → Gv prog w A (getAttr v name true) P' O R)
    (he : eval (.Attribute o name pos) env = (do
      let o' ← eval o env
      standAt pos.atName
      let r ← holding [o'] (getAttr o' name true)
      letTemporaryGo o o' r
      pure r) := by with_unfolding_all rfl) : Ev prog w A env (.Attribute o name pos) P O R := fun P' l => Do.mk fun s X =>
  Attribute_any_ (wpAny_mono ((h1 P' l).run s X) (fun v s1 ⟨P1, O1, l1, X1, e1, r1⟩ => wpAny_mono ((h2 P1 v (l.trans l1) r1).run s1 (e1 ▸ X1)) (fun z s2 ⟨P2, O2, l2, X2, f⟩ => ⟨P2, O2, l1.trans l2, X2, f⟩) fun _ _ e => e) fun _ _ e => e) he
/-- of an own object that stays -/
theorem ev_attrI {o : Expr} {name : Str} {attr : Option Value} {fs : List (Str × Rep)} {no : List Str} (B : Bg K P) (ho : Ev prog w A env o P O (RInst C fs no)) (hf : (name, R) ∈ fs) (hg : plainGet K C name = true) (hh : hasDictIn K C = true)
    (ha : findIn K (.ref C) name = some attr) (hn : noGet K attr = true) (hz : ∀ P z, R.h P z → handedIn z = true)
    (he : eval (.Attribute o name pos) env = (do
      let o' ← eval o env
      standAt pos.atName
      let r ← holding [o'] (getAttr o' name true)
      letTemporaryGo o o' r
      pure r) := by with_unfolding_all rfl) : Ev prog w A env (.Attribute o name pos) P O R :=
  ev_attr ho (fun P' v l ⟨x, dx, o, m, e, g1, g2, n, f, _⟩ => by
    subst e
    obtain ⟨z, hm, hr⟩ := f _ hf
    exact g_attr (o := o) (B.up l) (fun s X => ⟨o, n, X.per _ _ g1, rfl, rfl, X.per _ _ g2⟩) hg hh ha hn hm (hz _ _ hr) hr) he
/-- of an own object of one's own -/
theorem ev_attrO {o : Expr} {name : Str} {attr : Option Value} (B : Bg K P) (ho : Ev prog w A env o P O (RVal (.ref x))) (hU : instU x dx C m ∈ O) (hm : m name = some z) (hr : R.h P z) (hg : plainGet K C name = true) (hh : hasDictIn K C = true)
    (ha : findIn K (.ref C) name = some attr) (hn : noGet K attr = true) (hz : handedIn z = true)
    (he : eval (.Attribute o name pos) env = (do
      let o' ← eval o env
      standAt pos.atName
      let r ← holding [o'] (getAttr o' name true)
      letTemporaryGo o o' r
      pure r) := by with_unfolding_all rfl) : Ev prog w A env (.Attribute o name pos) P O R :=
  ev_attr ho (fun P' v l e => by
    obtain rfl : v = .ref x := e
    exact g_attr (o := default) (B.up l) (fun s X => instU.at (X.own _ hU)) hg hh ha hn hm hz (R.mono _ _ _ l hr)) he
/-- of a class -/
theorem ev_attrC {o : Expr} {name : Str} {mc : Value} (B : Bg K P) (ho : Ev prog w A env o P O (RVal (.ref C))) (hr : readsIn K C mc = true) (e : findCls K (.ref C) mc name = some (.val z)) (hz : handedIn z = true) (hR : R.h P z)
    (he : eval (.Attribute o name pos) env = (do
      let o' ← eval o env
      standAt pos.atName
      let r ← holding [o'] (getAttr o' name true)
      letTemporaryGo o o' r
      pure r) := by with_unfolding_all rfl) : Ev prog w A env (.Attribute o name pos) P O R :=
  ev_attr ho (fun P' v l e' => by
    obtain rfl : v = .ref C := e'
    exact Gv.base fun s X => cls_value ((B.up l).kin X) hr e hz (here X (R.mono _ _ _ l hR))) he

theorem RInst.inst {fs : List (Str × Rep)} {no : List Str} {name : Str} {s : Shared} (hn : name ∈ no) (h : (RInst C fs no).h P v) (X : Sat P O s) : ∃ x dx o m, v = .ref x ∧ NsObj o m ∧ InstAt s.heap x (instObj C dx) C (some o) ∧ m name = none := by
  obtain ⟨x, dx, o, m, e, g1, g2, n, f, nn⟩ := h
  exact ⟨x, dx, o, m, e, n, ⟨X.per _ _ g1, rfl, rfl, X.per _ _ g2⟩, nn _ hn⟩
theorem Do.post {α : Type} {t : Sem α} {Φ Ψ : α → Part → List U → Prop} (h : Do prog w A t P O Φ) (hh : ∀ a P' O' s, Φ a P' O' → Sat P' O' s → ∃ P'' O'', P'.le P'' ∧ Sat P'' O'' s ∧ Ψ a P'' O'') : Do prog w A t P O Ψ :=
  Do.mk fun s X => wpAny_mono (h.run s X) (fun a s' ⟨P', O', l, y, f⟩ => let ⟨P'', O'', l', y', f'⟩ := hh a P' O' s' f y; ⟨P'', O'', l.trans l', y', f'⟩) fun _ _ e => e
/-- an own object that stands from here on -/
theorem Sat.freezeInst {fs : List (Str × Rep)} {no : List Str} {s : Shared} (X' : Sat P (instU x dx C m :: O) s) (hf : ∀ f ∈ fs, ∃ z, m f.1 = some z ∧ f.2.h P z) (hno : ∀ n ∈ no, m n = none) : ∃ P', P.le P' ∧ Sat P' O s ∧ (RInst C fs no).h P' (.ref x) := by
  obtain ⟨a, ⟨o, es, ep, e, d, k, u, r⟩, c⟩ := X'.own _ (.head _)
  have hx : P.get x = none := X'.off x (by rw [fps_cons]; exact .head _)
  have hdx : P.get dx = none := X'.off dx (by rw [fps_cons]; exact .tail _ (.head _))
  have nd := List.nodup_append.mp (fps_cons _ O ▸ X'.nd)
  obtain ⟨l1, y1⟩ := X'.drop.adopt a hx (fun q => nd.2.2 x (.head _) x q rfl)
  obtain ⟨l2, y2⟩ := y1.adopt e (by show (if dx = x then _ else P.get dx) = none; rw [if_neg (fun q => c q.symm)]; exact hdx) (fun q => nd.2.2 dx (.tail _ (.head _)) dx q rfl)
  exact ⟨_, l1.trans l2, y2, x, dx, o, m, rfl, l2.2 _ _ (Part.add_self _ _ _), Part.add_self _ _ _, ⟨es, ep, d, k, r⟩, fun f hf' => let ⟨z, q1, q2⟩ := hf f hf'; ⟨z, q1, f.2.mono _ _ _ (l1.trans l2) q2⟩, hno⟩
end
end

section
section
variable {prog : Program} {w : World} {A : Around} {env : Env} {P : Part} {O O' : List U} {R R1 R2 R3 : Rep} {pos : Pos} {v u z : Value} {Φ : Flow → Part → List U → Prop} {rest : List Stmt} {K : Frag} {x dx C : Addr} {m : Str → Option Value}

/-- several targets, or a row of targets -/
theorem x_assignN {targets : List Expr} {e : Expr} (he : Do prog w A (eval e env) P O (fun v P' O' => Do prog w A (assignAll v ((assignEach targets env).map (·.2))) P' O' (fun _ P2 O2 => Do prog w A (execs rest env) P2 O2 Φ)))
    (hsw : swapsWithSole targets e pos.line env = PySem.Sem.pure false := by rfl) (hst : swappedStores targets e env = PySem.Sem.pure none := by rfl) : Do prog w A (execs (.Assign targets e pos :: rest) env) P O Φ :=
  x_next (Ψ := fun P2 O2 => Do prog w A (execs rest env) P2 O2 Φ) (by
    rw [arm_exec_Assign, hsw, hst]
    refine Do.stand (Do.of_eq (t' := eval e env >>= fun v => assignStores env v none ((assignEach targets env).map (·.2))) rfl ?_)
    refine Do.bind he fun v P' O' l h => ?_
    show Do prog w A (assignAll v ((assignEach targets env).map (·.2)) >>= fun _ => PySem.Sem.pure Flow.next) P' O' _
    exact Do.bind h fun _ P2 O2 l2 h2 => Do.pure ⟨rfl, h2⟩) fun P' O' l q => q
theorem all_one {t : Value → Sem Unit} {Φ : Unit → Part → List U → Prop} (h : Do prog w A (t v) P O Φ) : Do prog w A (assignAll v [t]) P O Φ := h
theorem all_more {t t' : Value → Sem Unit} {ts : List (Value → Sem Unit)} {Φ : Unit → Part → List U → Prop} (h : Do prog w A (t v) P O (fun _ P' O' => Do prog w A (assignAll v (t' :: ts)) P' O' Φ)) : Do prog w A (assignAll v (t :: t' :: ts)) P O Φ :=
  Do.bind (Do.holding h) fun _ P' O' l q => q

/-- a, b = value, a tuple -/
theorem x_unpack {a b : Expr} {k : Nat} {pt : Pos} {e : Expr} (hA : A.handled = none) (he : Ev prog w A env e P O (RTup [R1, R2]))
    (h : ∀ x y P', P.le P' → R1.h P' x → R2.h P' y → Do prog w A (assign a env x) P' O (fun _ P1 O1 => Do prog w A (assign b env y) P1 O1 (fun _ P2 O2 => Do prog w A (execs rest env) P2 O2 Φ)))
    (hae : assignEach [a, b] env = [(false, assign a env), (false, assign b env)] := by rfl)
    (hsw : swapsWithSole [.Tuple [a, b] k pt] e pos.line env = PySem.Sem.pure false := by rfl) (hst : swappedStores [.Tuple [a, b] k pt] e env = PySem.Sem.pure none := by rfl) : Do prog w A (execs (.Assign [.Tuple [a, b] k pt] e pos :: rest) env) P O Φ :=
  x_assignN ((he P (.refl P)).mono fun v P' O' l ⟨e1, r⟩ => by
    subst e1
    show Do prog w A (assignAll v [assign (.Tuple [a, b] k pt) env]) P' O' _
    exact all_one (s_pair hA (RTup.wide r) (fun x y rx ry => h x y P' l rx ry) hae)) hsw hst

theorem Do.bindName {x : Str} {Φ : Unit → Part → List U → Prop} (h : Do prog w A (storeName env x v) P O Φ) : Do prog w A (bindName env x v) P O Φ := Do.mk fun s X => wpAny_bindName (h.run s X)
/-- a, b = e1, e2, two local names: the second first -/
theorem x_swap {a b : Str} {pa pb : Pos} {k : Nat} {pt : Pos} {e : Expr} (hA : A.handled = none) (he : Ev prog w A env e P O (RTup [R1, R2]))
    (h : ∀ x y P', P.le P' → R1.h P' x → R2.h P' y → Do prog w A (storeName env b y) P' O (fun _ P1 O1 => Do prog w A (storeName env a x) P1 O1 (fun _ P2 O2 => Do prog w A (execs rest env) P2 O2 Φ)))
    (hsw : swapsWithSole [.Tuple [.Name a pa, .Name b pb] k pt] e pos.line env = PySem.Sem.pure false := by rfl) (hst : swappedStores [.Tuple [.Name a pa, .Name b pb] k pt] e env = PySem.Sem.pure (some [a, b]) := by rfl) :
    Do prog w A (execs (.Assign [.Tuple [.Name a pa, .Name b pb] k pt] e pos :: rest) env) P O Φ :=
  x_next (Ψ := fun P2 O2 => Do prog w A (execs rest env) P2 O2 Φ) (by
    rw [arm_exec_Assign, hsw, hst]
    refine Do.stand (Do.of_eq (t' := eval e env >>= fun v => assignStores env v (some [a, b]) ((assignEach [.Tuple [.Name a pa, .Name b pb] k pt] env).map (·.2))) rfl ?_)
    refine Do.bind (he P (.refl P)) fun v P' O' l ⟨e1, t, vs, n, ev, g, r⟩ => ?_
    subst e1; subst ev
    obtain ⟨vs⟩ := vs
    match vs, r with
    | [x, y], ⟨rx, ry, _⟩ =>
      show Do prog w A (rule "assign.swapped-stores" >>= fun _ => unpackItems (.ref t) 2 none >>= fun items => assignInOrder [bindName env b, bindName env a] items.reverse >>= fun _ => PySem.Sem.pure Flow.next) P' O' _
      refine Do.bind (Do.rule (Φ := fun _ P1 O1 => P1 = P' ∧ O1 = O') ⟨rfl, rfl⟩) fun _ P1 O1 _ ⟨e1, e2⟩ => ?_
      subst e1; subst e2
      refine Do.bind (Ψ := fun items P1' O1' => P1' = P1 ∧ O1' = O1 ∧ items = [x, y]) (Do.base fun s X => wpAny_unpackItems_tuple (items := #[x, y]) hA ⟨_, X.per _ _ g, rfl, n, rfl⟩ fun h' hx ht => ⟨P1, O1, .refl _, X.keep ht (fun b o e => hx b o (fun q => by rw [q, fresh_size] at e; cases e) e), rfl, rfl, rfl⟩) fun items P2 O2 _ ⟨e1, e2, e3⟩ => ?_
      subst e1; subst e2; subst e3
      have hh := h x y P2 l rx ry
      refine Do.bind (Ψ := fun _ P3 O3 => Do prog w A (execs rest env) P3 O3 Φ) (Do.bind (Do.holding (Do.bindName hh)) fun _ P3 O3 _ h3 => Do.bind (Do.holding (Do.bindName h3)) fun _ P4 O4 _ h4 => Do.pure h4) fun _ P5 O5 _ h5 => Do.pure ⟨rfl, h5⟩) fun P' O' l q => q

theorem Sat.rot3 {a b c : U} {s : Shared} (x : Sat P (a :: b :: c :: O) s) : Sat P (b :: a :: O) s :=
  (x.perm (O' := c :: b :: a :: O) ((List.reverse_perm [a, b, c]).symm.append_right O)).drop
/-- an own list and a list: a new own list -/
theorem o_add_listO {l : Addr} {vs : List Value} {rs rs' : List Rep} {Φ : Value → Part → List U → Prop} (hl : listU l vs ∈ O) (r : Reps P rs vs) (hu : (RList rs').h P u) (hz : rs.length + rs'.length ≤ sizeLine)
    (k : ∀ l' vs', Reps P (rs ++ rs') vs' → Φ (.ref l') P (listU l' vs' :: O)) : Do prog w A (binaryOp .Add (.ref l) u) P O Φ := by
  obtain ⟨b, us, m, rfl, r', g'⟩ := RSeq.sees hu
  exact Do.base fun s X => by
    obtain ⟨n, e⟩ := X.own _ hl
    exact PySem.P.add_list e (g' s O X) (fun ht => ⟨P, _, .refl P, X.push (u := listU s.heap.objs.size (vs ++ us)) ht (push_keep _ _) (fun a ha => by cases ha with | head => exact fresh_size _ | tail _ q => cases q) (List.nodup_cons.mpr ⟨by simp, .nil⟩) ⟨0, by
      have := Heap.get?_push_size s.heap (o := { cls := .type "list", data := .seq (vs ++ us).toArray }) rfl
      simpa using this⟩, k _ _ (r.append r')⟩) (by rw [← r.length, ← r'.length] at hz; simpa using hz)
theorem do_bin {op : Operator} {a b : Expr} {Φ : Value → Part → List U → Prop} (h1 : Ev prog w A env a P O R1) (h2 : Ev prog w A env b P O R2)
    (h3 : ∀ P' v u, P.le P' → R1.h P' v → R2.h P' u → Do prog w A (binaryOp op v u) P' O Φ) : Do prog w A (eval (.BinOp a op b pos) env) P O Φ := Do.mk fun s X =>
  wpAny_BinOp (wpAny_mono ((h1 P (.refl P)).run s X) (fun v s1 ⟨P1, O1, l1, X1, e1, r1⟩ => wpAny_mono ((h2 P1 l1).run s1 (e1 ▸ X1)) (fun u s2 ⟨P2, O2, l2, X2, e2, r2⟩ =>
    wpAny_mono ((h3 P2 v u (l1.trans l2) (R1.mono _ _ _ l2 r1) r2).run s2 (e2 ▸ X2)) (fun z s3 ⟨P3, O3, l3, X3, f⟩ => ⟨P3, O3, (l1.trans l2).trans l3, X3, f⟩) fun _ _ e => e) fun _ _ e => e) fun _ _ e => e)

/-- a call of a name, the call by itself -/
theorem do_callV {f : Value} {id : Str} {p : Pos} {e : Expr} {es : List Expr} {Rs : List Rep} {Φ : Value → Part → List U → Prop} (hf : Ev prog w A env (.Name id p) P O (RVal f)) (hk : Kept f P) (ha : EvL prog w A env pos (e :: es) P O Rs)
    (hc : ∀ P' vs, P.le P' → Reps P' Rs vs → Do prog w A (call f vs) P' O Φ)
    (he : starEach (e :: es) env = (false, eval e env) :: starEach es env := by rfl) (hplain : (backTo pos (starEach es env)).any (·.1) = false := by rfl) : Do prog w A (eval (.Call (.Name id p) (e :: es) [] pos) env) P O Φ := do_call hf hk ha hc he hplain

/-- a method of an own object -/
theorem do_methI {f : Addr} {o : Expr} {name : Str} {apos : Pos} {args : List Expr} {pl : Sem Bool} {Φ : Value → Part → List U → Prop} (B : Bg K P) (ho : Ev prog w A env o P O R1) (hI : ∀ P' v s, P.le P' → R1.h P' v → Sat P' O s → ∃ x dx o m, v = .ref x ∧ NsObj o m ∧ InstAt s.heap x (instObj C dx) C (some o) ∧ m name = none)
    (hg : plainGet K C name = true) (hf : findIn K (.ref C) name = some (some (.ref f))) (ht : typeIn K (.ref f) = some (.type "function"))
    (hc : ∀ P' v, P.le P' → R1.h P' v → Do prog w A (callWith pos (.ref f) [v] (backTo pos (starEach args env)) []) P' O Φ)
    (hh : eval (.Call (.Attribute o name apos) args [] pos) env = (do
      let ov ← eval o env
      standAt apos.atName
      let (f, first) ← holding [ov] (getMethod ov name pl)
      callWith pos f first (backTo pos (starEach args env)) []) := by rfl) :
    Do prog w A (eval (.Call (.Attribute o name apos) args [] pos) env) P O Φ := Do.mk fun s X =>
  MethodCall_ (wpAny_mono ((ho P (.refl P)).run s X) (fun v s1 ⟨P1, O1, l1, X1, e1, r1⟩ => by
    subst e1
    obtain ⟨x, dx, ob, m, rfl, hn, I, hm⟩ := hI P1 v s1 l1 r1 X1
    refine method_fn ((B.up l1).kin X1) I (plainGet_of hg).1 (plainGet_of hg).2 hf ht (by show (lookIn name ob).map _ = _; rw [hn.look, hm]; rfl) ?_
    exact wpAny_mono ((hc P1 _ l1 r1).run s1 X1) (fun v s2 ⟨P2, O2, l2, X2, f2⟩ => ⟨P2, O2, l1.trans l2, X2, f2⟩) fun _ _ e => e) fun _ _ e => e) hh
theorem kept_at {a : Addr} {qual : Str} {params : Arguments} {body : List Stmt} {scope : Scope} (F : FnAt K a qual params body scope) (B : Bg K P) : Kept (.ref a) P := by
  obtain ⟨oc, od, name, doc, pm, an, cdv, ct, osl, hK, hcd⟩ := F
  exact kept_fn (B.get hK)
theorem ev_methI0 {f : Addr} {fs : List (Str × Rep)} {no : List Str} {o : Expr} {name : Str} {apos : Pos} {pl : Sem Bool} (B : Bg K P) (ho : Ev prog w A env o P O (RInst C fs no)) (hn : name ∈ no)
    (hg : plainGet K C name = true) (hf : findIn K (.ref C) name = some (some (.ref f))) (ht : typeIn K (.ref f) = some (.type "function")) (hk : Kept (.ref f) P)
    (hc : ∀ P' v, P.le P' → (RInst C fs no).h P' v → Gv prog w A (call (.ref f) [v]) P' O R)
    (hh : eval (.Call (.Attribute o name apos) [] [] pos) env = (do
      let ov ← eval o env
      standAt apos.atName
      let (f, first) ← holding [ov] (getMethod ov name pl)
      callWith pos f first (backTo pos (starEach [] env)) []) := by rfl) :
    Ev prog w A env (.Call (.Attribute o name apos) [] [] pos) P O R := fun P' l =>
  do_methI (B.up l) (ho.up l) (fun P'' v s _ r X => RInst.inst hn r X) hg hf ht (fun P'' v l' r => do_callWith0 (hk.up (l.trans l')) (hc P'' v (l.trans l') r)) hh
theorem ev_methI {f : Addr} {fs : List (Str × Rep)} {no : List Str} {o e : Expr} {es : List Expr} {Rs : List Rep} {name : Str} {apos : Pos} {pl : Sem Bool} (B : Bg K P) (ho : Ev prog w A env o P O (RInst C fs no)) (hn : name ∈ no)
    (hg : plainGet K C name = true) (hf : findIn K (.ref C) name = some (some (.ref f))) (ht : typeIn K (.ref f) = some (.type "function")) (hk : Kept (.ref f) P) (ha : EvL prog w A env pos (e :: es) P O Rs)
    (hc : ∀ P' v vs, P.le P' → (RInst C fs no).h P' v → Reps P' Rs vs → Gv prog w A (call (.ref f) (v :: vs)) P' O R)
    (hh : eval (.Call (.Attribute o name apos) (e :: es) [] pos) env = (do
      let ov ← eval o env
      standAt apos.atName
      let (f, first) ← holding [ov] (getMethod ov name pl)
      callWith pos f first (backTo pos (starEach (e :: es) env)) []) := by rfl)
    (he : starEach (e :: es) env = (false, eval e env) :: starEach es env := by rfl) (hplain : (backTo pos (starEach es env)).any (·.1) = false := by rfl) :
    Ev prog w A env (.Call (.Attribute o name apos) (e :: es) [] pos) P O R := fun P' l =>
  do_methI (B.up l) (ho.up l) (fun P'' v s _ r X => RInst.inst hn r X) hg hf ht (fun P'' v l' r => do_callWith (first := [v]) (hk.up (l.trans l')) (fun P3 l3 => ha P3 ((l.trans l').trans l3)) (fun P3 vs l3 rs => hc P3 v vs ((l.trans l').trans l3) ((RInst C fs no).mono _ _ _ l3 r) rs) he hplain) hh
end
end

section
section
variable {prog : Program} {w : World} {A : Around} {env : Env} {P : Part} {O O' : List U} {R R1 R2 R3 : Rep} {pos : Pos} {v u z : Value} {Φ : Flow → Part → List U → Prop} {rest : List Stmt} {K : Frag}

noncomputable def innerRun (e : Expr) (iter2 : Expr) (acc : Value) (env : Env) : Sem Unit := eval iter2 env >>= fun x => PySem.standAt iter2.pos >>= fun _ => foldedSetIterable iter2 env x >>= fun x => PySem.holding [x] (pyIter x) >>= fun z => runOwn (.compStart e 1 z acc env) env >>= fun _ => (pure () : Sem Unit)
theorem compTurn_two' (elt t1 iter1 t2 iter2 : Expr) (ifs : List Expr) (scope : Scope) (pos : Pos) (it acc : Value) (env : Env) : compTurn (.ListComp elt [⟨t1, iter1, [], 0⟩, ⟨t2, iter2, ifs, 0⟩] scope pos) 0 it acc env = (PySem.standAt iter1.pos >>= fun _ => pyNext it >>= fun r => match r with
      | none => pure (.done .next)
      | some v => letOwnedTupleGo t1 it v >>= fun _ => assign t1 env v >>= fun _ => ifsTree [] env >>= fun ok =>
        if ok = true then (eval iter2 env >>= fun x => PySem.standAt iter2.pos >>= fun _ => foldedSetIterable iter2 env x >>= fun x => PySem.holding [x] (pyIter x) >>= fun z => runOwn (.compStart (.ListComp elt [⟨t1, iter1, [], 0⟩, ⟨t2, iter2, ifs, 0⟩] scope pos) 1 z acc env) env >>= fun _ => again (.compLoop (.ListComp elt [⟨t1, iter1, [], 0⟩, ⟨t2, iter2, ifs, 0⟩] scope pos) 0 it acc env))
        else again (.compLoop (.ListComp elt [⟨t1, iter1, [], 0⟩, ⟨t2, iter2, ifs, 0⟩] scope pos) 0 it acc env)) := by rfl
theorem compTurn_two (elt t1 iter1 t2 iter2 : Expr) (ifs : List Expr) (scope : Scope) (pos : Pos) (it acc : Value) (env : Env) : compTurn (.ListComp elt [⟨t1, iter1, [], 0⟩, ⟨t2, iter2, ifs, 0⟩] scope pos) 0 it acc env = (PySem.standAt iter1.pos >>= fun _ => pyNext it >>= fun r => match r with
      | none => pure (.done .next)
      | some v => letOwnedTupleGo t1 it v >>= fun _ => assign t1 env v >>= fun _ => ifsTree [] env >>= fun ok =>
        if ok = true then innerRun (.ListComp elt [⟨t1, iter1, [], 0⟩, ⟨t2, iter2, ifs, 0⟩] scope pos) iter2 acc env >>= fun _ => again (.compLoop (.ListComp elt [⟨t1, iter1, [], 0⟩, ⟨t2, iter2, ifs, 0⟩] scope pos) 0 it acc env)
        else again (.compLoop (.ListComp elt [⟨t1, iter1, [], 0⟩, ⟨t2, iter2, ifs, 0⟩] scope pos) 0 it acc env)) := by
  rw [compTurn_two']
  unfold innerRun
  simp only [bind_assoc, pure_bind]
theorem compTurn_twoB (elt t1 iter1 t2 iter2 : Expr) (ifs : List Expr) (scope : Scope) (pos : Pos) (it acc : Value) (env : Env) : compTurn (.ListComp elt [⟨t1, iter1, [], 0⟩, ⟨t2, iter2, ifs, 0⟩] scope pos) 1 it acc env = (PySem.standAt iter2.pos >>= fun _ => pyNext it >>= fun r => match r with
      | none => pure (.done .next)
      | some v => letOwnedTupleGo t2 it v >>= fun _ => assign t2 env v >>= fun _ => ifsTree ifs env >>= fun ok =>
        if ok = true then (eval elt env >>= fun x => call (.builtin "list.append") [acc, x] >>= fun _ => (pure () : Sem Unit)) >>= fun _ => again (.compLoop (.ListComp elt [⟨t1, iter1, [], 0⟩, ⟨t2, iter2, ifs, 0⟩] scope pos) 1 it acc env)
        else again (.compLoop (.ListComp elt [⟨t1, iter1, [], 0⟩, ⟨t2, iter2, ifs, 0⟩] scope pos) 1 it acc env)) := by rfl

theorem do_runOwn {c : Code} {Φ : Flow → Part → List U → Prop} (h : DoC prog w A c P O Φ) : Do prog w A (runOwn c env) P O Φ := Do.mk fun s X =>
  wpAny_runOwn (codeAny_mono (h s X) fun r s' ⟨f, P', O', e, l, Y, q⟩ => by subst e; exact ⟨P', O', l, Y, q⟩) (by intro x; cases x)

/-- an environment of a block with one cell of its own -/
theorem newEnv_cell1 {M : Model} {E : Value → Shared → Prop} {s : Shared} {scope : Scope} {x : Str} {pre post : List (Str × NameKind)} {globals : Addr} {closure : List (Str × Addr)} {qual : Str} {func : Option Addr} {code : Value} {outer : Env} {builtins : Addr} {Q : Env → Shared → Prop}
    (hn : scope.names = pre ++ (x, .cell) :: post) (h1 : ∀ y ∈ pre, y.2 ≠ .cell) (h2 : ∀ y ∈ post, y.2 ≠ .cell)
    (hQ : ∀ h', h'.Ns s.heap.objs.size (fun _ => none) → h'.IsCell (s.heap.objs.size + 1) none → (∀ b o, s.heap.get? b = some o → h'.get? b = some o) → Q (newEnv scope s.heap.objs.size globals ((x, s.heap.objs.size + 1) :: closure) qual func code (some outer) builtins) { s with heap := h' }) :
    wpAny M A (newFunctionEnv scope globals closure [] qual func code (some outer) builtins) Q E s := by
  simp only [newFunctionEnv, Option.isSome_some, if_true]
  refine wpAny_bind (wpAny_alloc ?_)
  have hz : (s.heap.push { cls := .type "dict", data := .dict #[] }).objs.size = s.heap.objs.size + 1 := Heap.size_push ..
  refine wpAny_bind (wpAny_forIn_list _
    (fun rest c s' => (∃ p2, rest = p2 ++ (x, .cell) :: post ∧ (∀ y ∈ p2, y.2 ≠ .cell) ∧ c = closure ∧ s' = { s with heap := s.heap.push { cls := .type "dict", data := .dict #[] } }) ∨
      ((∀ y ∈ rest, y.2 ≠ .cell) ∧ c = (x, s.heap.objs.size + 1) :: closure ∧ s' = { s with heap := (s.heap.push { cls := .type "dict", data := .dict #[] }).push { cls := .type "cell", data := .cell none } })) _ ?_ ?_ scope.names _ (.inl ⟨pre, hn, h1, rfl, rfl⟩))
  · rintro ⟨y, k⟩ rest c s' (⟨p2, e, hp, rfl, rfl⟩ | ⟨hp, rfl, rfl⟩)
    · cases p2 with
      | nil =>
        cases e
        simp only [beq_self_eq_true, if_true]
        refine wpAny_bind (wpAny_alloc (wpAny_pure (.inr ⟨h2, ?_, rfl⟩)))
        show (x, (s.heap.push _).objs.size) :: c = _
        rw [hz]
      | cons q p2 =>
        cases e
        have hk : (k == NameKind.cell) = false := by simpa using hp (y, k) (.head _)
        simp only [hk, Bool.false_eq_true, if_false]
        exact wpAny_pure (.inl ⟨p2, rfl, fun z hz => hp z (.tail _ hz), rfl, rfl⟩)
    · have hk : (k == NameKind.cell) = false := by simpa using hp (y, k) (.head _)
      simp only [hk, Bool.false_eq_true, if_false]
      exact wpAny_pure (.inr ⟨fun z hz => hp z (.tail _ hz), rfl, rfl⟩)
  · rintro c s' (⟨p2, e, _⟩ | ⟨_, rfl, rfl⟩)
    · cases p2 <;> cases e
    · refine wpAny_bind (wpAny_forIn_list _ (fun rest _ s' => rest = [] ∧ s' = { s with heap := (s.heap.push { cls := .type "dict", data := .dict #[] }).push { cls := .type "cell", data := .cell none } }) _ ?_ ?_ [] _ ⟨rfl, rfl⟩)
      · rintro _ _ _ _ ⟨e, _⟩; cases e
      · rintro _ _ ⟨_, rfl⟩
        refine wpAny_pure (hQ _ ⟨_, #[], 0, Heap.get?_push_of_some _ (Heap.get?_push_size _ rfl), rfl, by simp [StrKeys], fun _ => rfl⟩ ?_ fun b o e => Heap.get?_push_of_some _ (Heap.get?_push_of_some _ e))
        have := Heap.get?_push_size (s.heap.push { cls := .type "dict", data := .dict #[] }) (o := { cls := .type "cell", data := .cell none }) rfl
        rw [hz] at this
        exact ⟨_, this, rfl⟩

noncomputable def picked2 (n m : Nat) (keep : Nat → Nat → Bool) (out : Nat → Nat → Rep) : List Rep := (List.range n).flatMap fun i => picked m (keep i) (out i)
theorem picked2_succ (n m : Nat) (keep : Nat → Nat → Bool) (out : Nat → Nat → Rep) : picked2 (n + 1) m keep out = picked2 n m keep out ++ picked m (keep n) (out n) := by
  unfold picked2; rw [List.range_succ, List.flatMap_append]; simp
theorem picked2_length (m : Nat) (keep : Nat → Nat → Bool) (out : Nat → Nat → Rep) : ∀ n, (picked2 n m keep out).length ≤ n * m
  | 0 => by simp [picked2]
  | n + 1 => by
    rw [picked2_succ, List.length_append, Nat.succ_mul]
    exact Nat.add_le_add (picked2_length m keep out n) (picked_length m _ _)

/-- the environment of a block with a cell of its own -/
noncomputable abbrev compEnv2 (scope : Scope) (x1 : Str) (c : Addr) (cl : List (Str × Addr)) (C : Addr) (env : Env) : Env := compEnvC scope ((x1, c) :: cl) C env

/-- from the iterator on: a block of two clauses, the first name in a cell -/
theorem comp2_run {elt iter1 iter2 : Expr} {x1 x2 : Str} {px1 px2 : Pos} {ifs : List Expr} {scope : Scope} {cl : List (Str × Addr)} {pre post : List (Str × NameKind)} {I : Addr} {n m : Nat} {it : Nat → U} {item item2 : Nat → Rep} (keep : Nat → Nat → Bool) (out : Nat → Nat → Rep)
    (W : Itr prog w A P (.Name x1 px1) I n it item) (hz : n * m ≤ sizeLine)
    (hn : scope.names = pre ++ (x1, .cell) :: post) (h1 : ∀ y ∈ pre, y.2 ≠ .cell) (h2 : ∀ y ∈ post, y.2 ≠ .cell) (hkind : scope.kind = .function) (hx1 : (relabel scope env).names.lookup x1 = some .cell) (hx2 : scope.names.lookup x2 = some .local)
    (hs2 : ∀ C c x, foldedSetIterable iter2 (compEnv2 scope x1 c cl C env) x = PySem.Sem.pure x)
    (hv2 : ∀ i v1 P' u C c D acc o, i < n → P.le P' → (item i).h P' v1 → Ev prog w A (compEnv2 scope x1 c cl C env) iter2 P' (u :: cellU c (some v1) :: frameU C [x2] [o] :: listU D acc :: O) R2)
    (hi2 : ∀ P' v O, P.le P' → R2.h P' v → IterOf prog w A (.Name x2 px2) v P' O m item2)
    (htest : ∀ i j v1 v2 P' u u2 C c D acc, i < n → j < m → P.le P' → (item i).h P' v1 → (item2 j).h P' v2 → TstL prog w A (compEnv2 scope x1 c cl C env) ifs P' (u2 :: u :: cellU c (some v1) :: frameU C [x2] [some v2] :: listU D acc :: O) (keep i j))
    (helt : ∀ i j v1 v2 P' u u2 C c D acc, i < n → j < m → keep i j = true → P.le P' → (item i).h P' v1 → (item2 j).h P' v2 → Ev prog w A (compEnv2 scope x1 c cl C env) elt P' (u2 :: u :: cellU c (some v1) :: frameU C [x2] [some v2] :: listU D acc :: O) (out i j))
    {s : Shared} (X : Sat P (it 0 :: O) s) :
    wpAny (model prog w) A (newList []) (fun acc s₃ => wpAny (model prog w) A (newFunctionEnv scope env.globals cl [] env.qual none .none (some env)) (fun cenv s₄ =>
      codeAny (model prog w) A (.compStart (.ListComp elt [⟨.Name x1 px1, iter1, [], 0⟩, ⟨.Name x2 px2, iter2, ifs, 0⟩] scope pos) 0 (.ref I) acc { cenv with scope := relabel scope env })
        (fun r s' => ∃ f P' C o, r = .ok f ∧ cenv.locals = C ∧ P.le P' ∧ Sat P' (frameU C [x2] [o] :: O) s' ∧ (RList (picked2 n m keep out)).h P' acc) s₄) (fun _ _ => False) s₃) (fun _ _ => False) s := by
  refine wpAny_mono ((o_newList (prog := prog) (w := w) (A := A) (vs := []) (Φ := fun v P' O' => P' = P ∧ ∃ D, v = .ref D ∧ O' = listU D [] :: it 0 :: O) (by simp) (fun l => ⟨rfl, l, rfl, rfl⟩)).run s X) (fun acc s₃ ⟨P3, O3, l3, X3, eP, D, eD, eO⟩ => ?_) fun _ _ e => e
  subst eP; subst eD; subst eO
  refine newEnv_cell1 hn h1 h2 (fun h' hns hc hk => ?_)
  generalize hC : s₃.heap.objs.size = C at hns hc ⊢
  have hCc : C ≠ C + 1 := (Nat.succ_ne_self C).symm
  have hfC : ∀ a ∈ [C, C + 1], s₃.heap.get? a = none := fun a ha => by
    have : s₃.heap.objs.size ≤ a := by
      rw [hC]
      cases ha with
      | head => exact Nat.le_refl _
      | tail _ ha => cases ha with
        | head => exact Nat.le_succ _
        | tail _ ha => cases ha
    cases e : s₃.heap.get? a with
    | none => rfl
    | some o => exact absurd (Heap.lt_size e) (Nat.not_lt.mpr this)
  have X4 : Sat P3 ([frameU C [x2] [none], cellU (C + 1) none] ++ (listU D [] :: it 0 :: O)) { s₃ with heap := h', toks := s₃.toks } :=
    X3.pushes (Nat.le_refl _) hk (fun u hu => by
      cases hu with
      | head => exact ⟨List.nodup_cons.mpr ⟨by simp, .nil⟩, _, hns, fun i y v e1 e2 => by
          cases i with
          | zero => cases e2
          | succ i => simp at e2⟩
      | tail _ hu => cases hu with
        | head => exact hc
        | tail _ hu => cases hu) (List.nodup_cons.mpr ⟨fun q => hCc (List.mem_singleton.mp q), List.nodup_cons.mpr ⟨by simp, .nil⟩⟩) hfC
  generalize C + 1 = c at X4 hCc ⊢
  have X5 : Sat P3 (it 0 :: cellU c none :: frameU C [x2] [none] :: listU D [] :: O) { s₃ with heap := h', toks := s₃.toks } := X4.perm (by
    show (frameU C [x2] [none] :: cellU c none :: listU D [] :: it 0 :: O).Perm _
    refine (List.Perm.swap _ _ _).trans ?_
    refine (((List.Perm.swap (it 0) (listU D []) O).cons _).cons _).trans ?_
    exact ((List.Perm.swap (it 0) (frameU C [x2] [none]) _).cons _).trans (List.Perm.swap _ _ _))
  have inner : ∀ i v1 P1 u acc o, i < n → P3.le P1 → (item i).h P1 v1 → Reps P1 (picked2 i m keep out) acc →
      Do prog w A (innerRun (.ListComp elt [⟨.Name x1 px1, iter1, [], 0⟩, ⟨.Name x2 px2, iter2, ifs, 0⟩] scope pos) iter2 (.ref D) (compEnv2 scope x1 c cl C env)) P1 (u :: cellU c (some v1) :: frameU C [x2] [o] :: listU D acc :: O)
        (fun _ P' O' => ∃ o acc, O' = u :: cellU c (some v1) :: frameU C [x2] [o] :: listU D acc :: O ∧ Reps P' (picked2 (i + 1) m keep out) acc) := by
    intro i v1 P1 u acc o hi l1 r1 rr
    refine Do.bind (hv2 i v1 P1 u C c D acc o hi l1 r1 P1 (.refl _)) fun x Px Ox lx ⟨ex, rx⟩ => ?_
    subst ex
    refine Do.stand ?_
    rw [hs2]
    show Do prog w A (PySem.holding [x] (pyIter x) >>= _) _ _ _
    refine Do.bind (Do.holding (hi2 Px x _ (l1.trans lx) rx)) fun z P2 O2 l2 ⟨I2, it2, ez, eO, W2⟩ => ?_
    subst ez; subst eO
    have l12 := lx.trans l2
    refine Do.bind (Ψ := fun f P' O' => ∃ o acc, O' = u :: cellU c (some v1) :: frameU C [x2] [o] :: listU D acc :: O ∧ Reps P' (picked2 (i + 1) m keep out) acc) (do_runOwn (c_start W2 rfl rfl (Around.under_of_weight rfl) (fun _ => rfl) (c_loop (Φ := fun f P' O' => ∃ o acc, O' = u :: cellU c (some v1) :: frameU C [x2] [o] :: listU D acc :: O ∧ Reps P' (picked2 (i + 1) m keep out) acc) (acc := .ref D) (env := compEnv2 scope x1 c cl C env) W2 (compTurn_twoB elt (.Name x1 px1) iter1 (.Name x2 px2) iter2 ifs scope pos (.ref I2) (.ref D) (compEnv2 scope x1 c cl C env)) rfl rfl (Around.under_of_weight rfl)
      (fun j P' O' => ∃ o acc, O' = u :: cellU c (some v1) :: frameU C [x2] [o] :: listU D acc :: O ∧ Reps P' (picked2 i m keep out ++ picked j (keep i) (out i)) acc) ⟨o, acc, rfl, by simpa [picked] using rr.mono l12⟩ (fun j P4 P5 O' v2 hj l4 l5 inv r2 => ?_) (fun P4 P5 O' l4 l5 inv => ?_)))) fun f P' O' l' hh => Do.pure hh
    · obtain ⟨o, acc, rfl, q⟩ := inv
      refine Do.assign_name (s_local (L := C) (ns := [x2]) (vs := [o]) (vs' := [some v2]) (Upd.tail (Upd.tail (Upd.tail Upd.head))) Put.head ?_ rfl (by show (relabel scope env).names.lookup x2 = _; exact lookup_relabel_local hx2) (by show (relabel scope env).kind = _; exact hkind))
      have lP : P3.le P5 := ((l1.trans l12).trans l4).trans l5
      have r1' := (item i).mono _ _ _ ((l12.trans l4).trans l5) r1
      refine (htest i j v1 v2 P5 _ _ C c D acc hi hj lP r1' r2 P5 (.refl _)).mono fun ok P6 O6 l6 ⟨e6, ek⟩ => ?_
      subst e6; subst ek
      cases hk : keep i j with
      | false =>
        rw [if_neg Bool.false_ne_true]
        exact ⟨_, rfl, some v2, acc, rfl, by rw [picked_succ, hk]; simpa using q.mono (l5.trans l6)⟩
      | true =>
        rw [if_pos rfl]
        refine do_emit (D := D) (acc := acc) (helt i j v1 v2 P6 _ _ C c D acc hi hj hk (lP.trans l6) ((item i).mono _ _ _ l6 r1') ((item2 j).mono _ _ _ l6 r2)) (fun z => .tail (.tail (.tail (.tail .head)))) ?_ (fun P7 z l7 rz => ?_)
        · have h3 := q.length
          have h4 := picked2_length m keep out i
          have h5 := picked_length j (keep i) (out i)
          have h6 : i * m + m ≤ n * m := by rw [← Nat.succ_mul]; exact Nat.mul_le_mul_right _ hi
          rw [List.length_append] at h3
          omega
        · exact ⟨_, rfl, some v2, acc ++ [z], rfl, by rw [picked_succ, hk, if_pos rfl, ← List.append_assoc]; exact (q.mono ((l5.trans l6).trans l7)).snoc rz⟩
    · obtain ⟨o, acc, rfl, q⟩ := inv
      exact ⟨o, acc, rfl, by rw [picked2_succ]; exact q.mono l5⟩
  refine codeAny_mono (c_start W rfl rfl (Around.under_of_weight rfl) (fun _ => rfl) (c_loop (Φ := fun f P' O' => ∃ oc o acc, O' = cellU c oc :: frameU C [x2] [o] :: listU D acc :: O ∧ Reps P' (picked2 n m keep out) acc) (acc := .ref D) (env := compEnv2 scope x1 c cl C env) W (compTurn_two elt (.Name x1 px1) iter1 (.Name x2 px2) iter2 ifs scope pos (.ref I) (.ref D) (compEnv2 scope x1 c cl C env)) rfl rfl (Around.under_of_weight rfl)
    (fun i P' O' => ∃ oc o acc, O' = cellU c oc :: frameU C [x2] [o] :: listU D acc :: O ∧ Reps P' (picked2 i m keep out) acc) ⟨none, none, [], rfl, trivial⟩ (fun i P1 P2 O' v hi l1 l2 inv r => ?_) (fun P1 P2 O' l1 l2 inv => by
      obtain ⟨oc, o, acc, e, q⟩ := inv
      exact ⟨oc, o, acc, e, q.mono l2⟩)) _ X5) (fun r s5 ⟨f, P5, O5, er, l5, X5, oc, o, acc, e5, q⟩ => ?_)
  · obtain ⟨oc, o, acc, rfl, q⟩ := inv
    refine Do.assign_name (s_cell (c := c) (v₀ := oc) (Upd.tail Upd.head) ?_ (by show List.lookup x1 ((x1, c) :: cl) = _; simp) (by show (relabel scope env).names.lookup x1 = _; exact hx1) (by show (relabel scope env).kind = _; exact hkind))
    refine (tl_nil P2 (.refl _)).mono fun ok P3' O3 l3 ⟨e3, ek⟩ => ?_
    subst e3; subst ek
    rw [if_pos rfl]
    exact (inner i v P3' _ acc o hi ((l1.trans l2).trans l3) ((item i).mono _ _ _ l3 r) (q.mono (l2.trans l3))).mono fun _ P4 O4 l4 ⟨o, acc, e, q⟩ => ⟨_, e, some v, o, acc, rfl, q⟩
  · subst er; subst e5
    have X6 := X5.drop
    obtain ⟨n', e⟩ := X6.own _ (.tail _ (.head _))
    obtain ⟨l6, X7⟩ := (X6.perm (List.Perm.swap _ _ _)).freeze (a := D) (.head _) e
    exact ⟨f, _, C, o, rfl, rfl, l5.trans l6, X7, _, _, n', rfl, Part.add_self _ _ _, by simpa using q.mono l6⟩

/-- name = a block of two clauses -/
theorem x_comp2 {elt iter1 iter2 : Expr} {x1 x2 y : Str} {px1 px2 py : Pos} {ifs : List Expr} {scope : Scope} {cl : List (Str × Addr)} {pre post : List (Str × NameKind)} {n m : Nat} {item item2 : Nat → Rep} {spos : Pos} (keep : Nat → Nat → Bool) (out : Nat → Nat → Rep)
    {L : Addr} {ns : List Str} {vs : List (Option Value)} {vs' : Value → List (Option Value)} {O2 : Value → List U}
    (hv : Ev prog w A env iter1 P O R1) (hi : ∀ P' v, P.le P' → R1.h P' v → IterOf prog w A (.Name x1 px1) v P' O n item) (hz : n * m ≤ sizeLine)
    (hn : scope.names = pre ++ (x1, .cell) :: post) (h1 : ∀ y ∈ pre, y.2 ≠ .cell) (h2 : ∀ y ∈ post, y.2 ≠ .cell)
    (hv2 : ∀ i v1 P' u C c D acc o, i < n → P.le P' → (item i).h P' v1 → Ev prog w A (compEnv2 scope x1 c cl C env) iter2 P' (u :: cellU c (some v1) :: frameU C [x2] [o] :: listU D acc :: O) R2)
    (hi2 : ∀ P' v O, P.le P' → R2.h P' v → IterOf prog w A (.Name x2 px2) v P' O m item2)
    (htest : ∀ i j v1 v2 P' u u2 C c D acc, i < n → j < m → P.le P' → (item i).h P' v1 → (item2 j).h P' v2 → TstL prog w A (compEnv2 scope x1 c cl C env) ifs P' (u2 :: u :: cellU c (some v1) :: frameU C [x2] [some v2] :: listU D acc :: O) (keep i j))
    (helt : ∀ i j v1 v2 P' u u2 C c D acc, i < n → j < m → keep i j = true → P.le P' → (item i).h P' v1 → (item2 j).h P' v2 → Ev prog w A (compEnv2 scope x1 c cl C env) elt P' (u2 :: u :: cellU c (some v1) :: frameU C [x2] [some v2] :: listU D acc :: O) (out i j))
    (hU : ∀ v, Upd O (frameU L ns vs) (frameU L ns (vs' v)) (O2 v)) (hp : ∀ v, Put ns vs y v (vs' v))
    (k : ∀ v P', P.le P' → (RList (picked2 n m keep out)).h P' v → Do prog w A (execs rest env) P' (O2 v) Φ)
    (hsw : swapsWith (.ListComp elt [⟨.Name x1 px1, iter1, [], 0⟩, ⟨.Name x2 px2, iter2, ifs, 0⟩] scope pos) (some (.Name y py)) spos.line env = PySem.Sem.pure true := by rfl)
    (hclos : closureFor scope env = PySem.Sem.pure cl := by rfl) (hkind : scope.kind = .function := by rfl) (hnames : ∀ y ∈ scope.names, y.2 = .local → scope.names.lookup y.1 = some .local := by decide)
    (hx1 : (relabel scope env).names.lookup x1 = some .cell := by rfl) (hx2 : scope.names.lookup x2 = some .local := by rfl) (hs : ∀ x, foldedSetIterable iter1 env x = PySem.Sem.pure x := by intro _; rfl)
    (hs2 : ∀ C c x, foldedSetIterable iter2 (compEnv2 scope x1 c cl C env) x = PySem.Sem.pure x := by intro _ _ _; rfl)
    (hL : env.locals = L := by rfl) (hl : env.kindOf y = some .local := by rfl) (hk : env.scope.kind = .function := by rfl) :
    Do prog w A (execs (.Assign [.Name y py] (.ListComp elt [⟨.Name x1 px1, iter1, [], 0⟩, ⟨.Name x2 px2, iter2, ifs, 0⟩] scope pos) spos :: rest) env) P O Φ := by
  refine x_next (Ψ := fun P2 O2 => Do prog w A (execs rest env) P2 O2 Φ) (Do.mk fun s X => ?_) fun P' O' l q => q
  rw [exec_Assign_Name_used _ _ _ _ hsw]
  refine wpAny_bind (wpAny_standAt (wpAny_bind ?_))
  show wpAny _ A (do let _ ← comprehension (.ListComp elt [⟨.Name x1 px1, iter1, [], 0⟩, ⟨.Name x2 px2, iter2, ifs, 0⟩] scope pos) scope env _ (newList []) false (eval iter1 env) (some (assign (.Name y py) env))) _ _ s
  refine wpAny_bind (wpAny_mono (wpAny_comprehension_free (use := some (assign (.Name y py) env)) (Q := fun _ s' => ∃ P' O', P.le P' ∧ Sat P' O' s' ∧ Flow.next = .next ∧ Do prog w A (execs rest env) P' O' Φ) rfl hs hclos hkind hnames
    (wpAny_mono ((hv P (.refl P)).run s X) (fun v s1 ⟨P1, O1, l1, X1, e1, r1⟩ => wpAny_mono ((hi P1 v l1 r1).run s1 (e1 ▸ X1)) (fun z s2 ⟨P2, O2', l2, X2, I, it, ez, eO, W⟩ => ?_) fun _ _ e => e) fun _ _ e => e)) (fun _ s' hq => wpAny_pure (wpAny_pure hq)) fun _ _ e => e)
  subst ez; subst eO
  have lP := l1.trans l2
  refine wpAny_mono (comp2_run (elt := elt) (iter1 := iter1) (px1 := px1) (px2 := px2) keep out W hz hn h1 h2 hkind hx1 hx2 hs2 (fun i v1 P' u C c D acc o hi l3 r => hv2 i v1 P' u C c D acc o hi (lP.trans l3) r) (fun P' v O l3 r => hi2 P' v O (lP.trans l3) r)
    (fun i j v1 v2 P' u u2 C c D acc hi hj l3 r1 r2 => htest i j v1 v2 P' u u2 C c D acc hi hj (lP.trans l3) r1 r2) (fun i j v1 v2 P' u u2 C c D acc hi hj hk l3 r1 r2 => helt i j v1 v2 P' u u2 C c D acc hi hj hk (lP.trans l3) r1 r2) X2) (fun acc s3 h3 => wpAny_mono h3 (fun cenv s4 h4 => codeAny_mono h4 fun r s5 ⟨f, P5, C, o, er, eC, l5, X5, hr⟩ => ?_) fun _ _ e => e) fun _ _ e => e
  subst er; subst eC
  show wpAny _ A (assign (.Name y py) env acc) _ _ _
  refine wpAny_mono ((Do.assign_name (s_local (env := env) (Φ := fun _ P6 O6 => P6 = P5 ∧ O6 = frameU cenv.locals [x2] [o] :: O2 acc) (Upd.tail (hU acc)) (hp acc) ⟨rfl, rfl⟩ hL hl hk)).run s5 X5) (fun _ s6 ⟨P6, O6, l6, X6, e6, e7⟩ => ?_) fun _ _ e => e
  subst e6; subst e7
  obtain ⟨m, hm, hh⟩ := X6.unframe
  exact ⟨m, hm, fun h' hs' => ⟨P6, O2 acc, lP.trans l5, hh h' hs', rfl, k acc P6 (lP.trans l5) hr⟩⟩

theorem Itr.items {target : Expr} {I : Addr} {n : Nat} {it : Nat → U} {item item' : Nat → Rep} (W : Itr prog w A P target I n it item) (h : ∀ i, i < n → item i = item' i) : Itr prog w A P target I n it item' :=
  ⟨fun i P' O Ψ l hi k => W.next i P' O Ψ l hi (fun v P'' l' r => k v P'' l' (h i hi ▸ r)), W.stop, W.self⟩
theorem IterOf.items {target : Expr} {n : Nat} {item item' : Nat → Rep} (H : IterOf prog w A target v P O n item) (h : ∀ i, i < n → item i = item' i) : IterOf prog w A target v P O n item' :=
  Do.mono H fun z P' O' _ ⟨I, it, a, b, W⟩ => ⟨I, it, a, b, W.items h⟩
/-- a list of texts -/
noncomputable def RTexts (os : List (List Nat)) : Rep := RList (os.map fun o => RStr (S o))
theorem i_texts {os : List (List Nat)} {target : Expr} (hA : A.handled = none) (hv : (RTexts os).h P v) (ht : ∀ z v, letOwnedTupleGo target z v = PySem.Sem.pure () := by intro _ _; rfl) : IterOf prog w A target v P O os.length (fun i => RStr (S (os.getD i []))) := by
  have h := i_list (prog := prog) (w := w) (A := A) (O := O) (target := target) hA hv ht
  rw [List.length_map] at h
  exact h.items fun i hi => by simp [List.getD_eq_getElem?_getD, hi]
end
end

section
section
variable {prog : Program} {w : World} {A : Around} {E : Value → Shared → Prop} {s : Shared}

/-- what a tuple's iterator hands to a drawer -/
theorem drawsTuple (hh : A.handled = none) (it t : Addr) (hne : t ≠ it) (items : Array Value) :
    Draws prog w A it [it, t] items.size (fun i v => items[i]? = some v) (fun i h => h.IsTupleIter it t i ∧ h.IsTuple t items) where
  live := fun _ _ st => let ⟨o, ho, _⟩ := st.1; ⟨o, ho⟩
  frame := fun _ _ _ st hk => ⟨st.1.at fun o e => hk it (.head _) o e, let ⟨o, e, r⟩ := st.2; ⟨o, hk t (.tail _ (.head _)) o e, r⟩⟩
  item := fun i s Q E hi st hQ => by
    obtain ⟨o, ho, hc, hd⟩ := id st.1
    obtain ⟨ot, hot, _, nt, hdt⟩ := id st.2
    have hx : items[i]? = some items[i] := by simp [hi]
    unfold Builtin.SmallTypes.nextOf
    refine wpAny_bind (wpAny_callSpecial?_slot (name := Str.ofString "__next__") st.1.typeIs F.slot_tuple_iterator_next (wpAny_call_entry F.slot_tuple_iterator_next st.1.typeIs F.entry_tuple_iterator_next ?_ (F.args_tuple_iterator_next_1 _)))
    show wpAny _ _ (field (.ref it) 0 >>= _) _ _ s
    refine wpAny_bind (wpAny_field ho hd (x := .ref t) rfl ?_)
    show wpAny _ _ (if (Value.ref t == Value.none) = true then _ else _) _ _ s
    rw [if_neg (show ¬ ((Value.ref t == Value.none) = true) from Bool.false_ne_true)]
    show wpAny _ _ (field (.ref it) 1 >>= _) _ _ s
    refine wpAny_bind (wpAny_field ho hd (x := .int i 0) rfl ?_)
    show wpAny _ _ (seqItems? (.ref t) >>= _) _ _ s
    refine wpAny_bind (wpAny_seqItems hot hdt ?_)
    simp only [Int.toNat_natCast, hx]
    refine wpAny_bind (wpAny_setField ho hd (by simp) (wpAny_pure ⟨_, rfl, wpAny_pure (hQ _ _ s.toks hx ⟨?_, ?_⟩ (Heap.SameBut.update ..))⟩))
    · exact ⟨_, Heap.get?_update_self _ ho (Obj.isFreed_of_fields (Obj.data_mapFields hd _)), (Obj.cls_mapFields ..).trans hc, by rw [Obj.data_mapFields hd]; simp [rawInt]⟩
    · obtain ⟨o', e, r⟩ := st.2
      exact ⟨o', (Heap.SameBut.update ..).extBut t o' hne e, r⟩
  done := fun s Q E st hE => by
    obtain ⟨o, ho, hc, hd⟩ := id st.1
    obtain ⟨ot, hot, _, nt, hdt⟩ := id st.2
    have hx : items[items.size]? = none := by simp
    unfold Builtin.SmallTypes.nextOf
    refine wpAny_bind (wpAny_callSpecial?_slot (name := Str.ofString "__next__") st.1.typeIs F.slot_tuple_iterator_next (wpAny_call_entry F.slot_tuple_iterator_next st.1.typeIs F.entry_tuple_iterator_next ?_ (F.args_tuple_iterator_next_1 _)))
    show wpAny _ _ (field (.ref it) 0 >>= _) _ _ s
    refine wpAny_bind (wpAny_field ho hd (x := .ref t) rfl ?_)
    show wpAny _ _ (if (Value.ref t == Value.none) = true then _ else _) _ _ s
    rw [if_neg (show ¬ ((Value.ref t == Value.none) = true) from Bool.false_ne_true)]
    show wpAny _ _ (field (.ref it) 1 >>= _) _ _ s
    refine wpAny_bind (wpAny_field ho hd (x := .int items.size 0) rfl ?_)
    show wpAny _ _ (seqItems? (.ref t) >>= _) _ _ s
    refine wpAny_bind (wpAny_seqItems hot hdt ?_)
    simp only [Int.toNat_natCast, hx]
    refine wpAny_bind (wpAny_rule (wpAny_bind (wpAny_setField ho hd (by simp) ?_)))
    show wpAny _ _ (newExc (.type "StopIteration") [] >>= _) _ _ _
    refine wpAny_bind ?_
    simp only [newExc, newTuple]
    refine wpAny_bind (wpAny_newObj_type ?_ (by size_fits))
    refine wpAny_bind (m := firstArgMember _ _) (wpAny_of_eq (a := Value.none) (by first | rfl | (simp only [firstArgMember]; rfl)) ?_)
    refine wpAny_newObj_type ?_ (by size_fits)
    simp only [raiseNew]
    refine wpAny_bind (wpAny_handled ?_)
    first | rw [show A.in1.handled = none from hh] | rw [hh]
    exact wpAny_bind (wpAny_pure (wpAny_throw (hE _ _ (((Heap.SameBut.update ..).extBut.push _).push _) ⟨_, Heap.get?_push_size _ rfl, rfl⟩)))

/-- what stands apart at a zip of two -/
structure ZApart (z TI TO i1 i2 : Addr) (fp1 fp2 : List Addr) : Prop where
  z1 : z ∉ fp1
  z2 : z ∉ fp2
  o1 : TO ∉ fp1
  o2 : TO ∉ fp2
  a : i2 ∉ fp1
  b : i1 ∉ fp2
  Tz : TI ≠ z
  TTO : TI ≠ TO
  T1 : TI ≠ i1
  T2 : TI ≠ i2
  Oz : TO ≠ z
  O1 : TO ≠ i1
  O2 : TO ≠ i2
  iz1 : i1 ≠ z
  iz2 : i2 ≠ z

/-- the next pair -/
theorem next_zip {z TI TO i1 i2 : Addr} {fp1 fp2 : List Addr} {n1 n2 k : Nat} {P1 P2 : Nat → Value → Prop} {St1 St2 : Nat → Heap → Prop} {a b : Value} {Q : Option Value → Shared → Prop}
    (D : ZApart z TI TO i1 i2 fp1 fp2) (D1 : Draws prog w A.in1 i1 fp1 n1 P1 St1) (D2 : Draws prog w A.in1 i2 fp2 n2 P2 St2)
    (hz : IsZip s.heap z TI TO .none) (hTI : IsPair s.heap TI (.ref i1) (.ref i2)) (hTO : IsPair s.heap TO a b) (h1 : St1 k s.heap) (h2 : St2 k s.heap) (k1 : k < n1) (k2 : k < n2)
    (hQ : ∀ x y h' tk, P1 k x → P2 k y → IsZip h' z TI TO (rawInt s.heap.objs.size) → IsPair h' TO x y → St1 (k + 1) h' → St2 (k + 1) h' → IsPair h' s.heap.objs.size x y →
      (∀ c o, c ≠ z → c ≠ TO → c ≠ i1 → c ≠ i2 → s.heap.get? c = some o → h'.get? c = some o) → Q (some (.ref s.heap.objs.size)) { s with heap := h', toks := tk }) :
    wpAny (model prog w) A (pyNext (.ref z)) Q E s := by
  obtain ⟨hp, g, d, tk, os⟩ := s
  have hT : Shared.TypeIs ⟨hp, g, d, tk, os⟩ (.ref z) "zip" := ⟨_, hz, rfl⟩
  unfold pyNext
  refine wpAny_bind (wpAny_attempt (wpAny_callSpecial?_slot (name := Str.ofString "__next__") hT F.slot_zip_next (wpAny_call_entry F.slot_zip_next hT F.entry_zip_next ?_ (F.args_zip_next_1 _))))
  show wpAny _ _ (field (.ref z) 2 >>= _) _ _ _
  refine wpAny_bind (wpAny_field hz rfl (x := .bool false) rfl ?_)
  show wpAny _ _ (field (.ref z) 3 >>= _) _ _ _
  refine wpAny_bind (wpAny_field hz rfl (x := .ref TI) rfl ?_)
  refine wpAny_bind (wpAny_seqItems hTI rfl ?_)
  show wpAny _ _ (Builtin.SmallTypes.ownedTupleIsFree (.ref z) >>= _) _ _ _
  refine wpAny_bind ?_
  unfold Builtin.SmallTypes.ownedTupleIsFree
  refine wpAny_bind (wpAny_field hz rfl (x := .none) rfl (wpAny_pure ?_))
  simp only [if_true]
  refine wpAny_bind (wpAny_rule ?_)
  refine wpAny_bind (wpAny_field hz rfl (x := .ref TO) rfl ?_)
  refine wpAny_bind (wpAny_setField_rec hz (by simp) fun g1 hz1 s1 => ?_)
  replace s1 : Heap.SameBut z hp g1 := s1
  replace hz1 : IsZip g1 z TI TO .ellipsis := hz1
  refine wpAny_bind ?_
  simp only [List.zipIdx_cons, List.zipIdx_nil, List.forIn_cons, List.forIn_nil]
  refine wpAny_bind (wpAny_bind (wpAny_onRaise ?_))
  show wpAny _ _ (Builtin.SmallTypes.nextOf (.ref i1) >>= _) _ _ _
  refine wpAny_bind (D1.item k _ _ _ k1 (D1.frame _ _ _ h1 fun c hc o e => s1.extBut c o (fun q => D.z1 (q ▸ hc)) e) fun x g2 tk2 px st1 s2 => wpAny_pure ?_)
  replace s2 : Heap.SameBut i1 g1 g2 := s2
  have hO2 : IsPair g2 TO a b := s2.extBut _ _ D.O1 (s1.extBut _ _ D.Oz hTO)
  refine wpAny_bind (wpAny_seqItems (s := ⟨g2, g, d, tk2, os⟩) hO2 rfl ?_)
  refine wpAny_bind (wpAny_updateSeq_pair (s := ⟨g2, g, d, tk2, os⟩) hO2 fun g3 hO3 s3 => ?_)
  replace s3 : Heap.SameBut TO g2 g3 := s3
  replace hO3 : IsPair g3 TO x b := hO3
  refine wpAny_bind (wpAny_letGo (wpAny_pure ?_))
  refine wpAny_bind (wpAny_bind (wpAny_onRaise ?_))
  show wpAny _ _ (Builtin.SmallTypes.nextOf (.ref i2) >>= _) _ _ _
  have st2 : St2 k g3 := D2.frame _ _ _ h2 fun c hc o e => s3.extBut c o (fun q => D.o2 (q ▸ hc)) (s2.extBut c o (fun q => D.b (q ▸ hc)) (s1.extBut c o (fun q => D.z2 (q ▸ hc)) e))
  refine wpAny_bind (D2.item k _ _ _ k2 st2 fun y g4 tk4 py st2' s4 => wpAny_pure ?_)
  replace s4 : Heap.SameBut i2 g3 g4 := s4
  have hO4 : IsPair g4 TO x b := s4.extBut _ _ D.O2 hO3
  refine wpAny_bind (wpAny_seqItems (s := ⟨g4, g, d, tk4, os⟩) hO4 rfl ?_)
  refine wpAny_bind (wpAny_updateSeq_pair (s := ⟨g4, g, d, tk4, os⟩) hO4 fun g5 hO5 s5 => ?_)
  replace s5 : Heap.SameBut TO g4 g5 := s5
  replace hO5 : IsPair g5 TO x y := hO5
  refine wpAny_bind (wpAny_letGo (wpAny_pure (wpAny_pure ?_)))
  refine wpAny_bind (wpAny_seqItems (s := ⟨g5, g, d, tk4, os⟩) hO5 rfl ?_)
  refine wpAny_bind (wpAny_newTuple ?_)
  have hsz : g5.objs.size = hp.objs.size := by rw [s5.1, s4.1, s3.1, s2.1, s1.1]
  have up : ∀ c o, c ≠ z → c ≠ TO → c ≠ i1 → c ≠ i2 → hp.get? c = some o → g5.get? c = some o := fun c o c1 c2 c3 c4 e =>
    s5.extBut _ _ c2 (s4.extBut _ _ c4 (s3.extBut _ _ c2 (s2.extBut _ _ c3 (s1.extBut _ _ c1 e))))
  have hz5 : IsZip g5 z TI TO .ellipsis := s5.extBut _ _ D.Oz.symm (s4.extBut _ _ D.iz2.symm (s3.extBut _ _ D.Oz.symm (s2.extBut _ _ D.iz1.symm hz1)))
  have st15 : St1 (k + 1) g5 := D1.frame _ _ _ st1 fun c hc o e => s5.extBut c o (fun q => D.o1 (q ▸ hc)) (s4.extBut c o (fun q => D.a (q ▸ hc)) (s3.extBut c o (fun q => D.o1 (q ▸ hc)) e))
  have st25 : St2 (k + 1) g5 := D2.frame _ _ _ st2' fun c hc o e => s5.extBut c o (fun q => D.o2 (q ▸ hc)) e
  have hzl : z < g5.objs.size := Heap.lt_size hz5
  show wpAny _ _ (Builtin.SmallTypes.ownedTupleHandOut (.ref z) (.ref g5.objs.size) >>= _) _ _ _
  refine wpAny_bind ?_
  unfold Builtin.SmallTypes.ownedTupleHandOut
  have hz6 : IsZip (g5.push { cls := .type "tuple", data := .seq #[x, y] }) z TI TO .ellipsis := Heap.get?_push_of_some _ hz5
  refine wpAny_bind (wpAny_setField_rec (s := ⟨g5.push { cls := .type "tuple", data := .seq #[x, y] }, g, d, tk4, os⟩) hz6 (by simp) fun g7 hz7 s7 => ?_)
  replace s7 : Heap.SameBut z (g5.push { cls := .type "tuple", data := .seq #[x, y] }) g7 := s7
  replace hz7 : IsZip g7 z TI TO (rawInt g5.objs.size) := hz7
  refine wpAny_setField_rec (s := ⟨g7, g, d, tk4, os⟩) hz7 (by simp) fun g8 hz8 s8 => ?_
  replace s8 : Heap.SameBut z g7 g8 := s8
  replace hz8 : IsZip g8 z TI TO (rawInt g5.objs.size) := hz8
  have up8 : ∀ c o, c ≠ z → g5.get? c = some o → g8.get? c = some o := fun c o c1 e => s8.extBut _ _ c1 (s7.extBut _ _ c1 (Heap.get?_push_of_some _ e))
  have hT8 : IsPair g8 g5.objs.size x y := s8.extBut _ _ (Nat.ne_of_gt hzl) (s7.extBut _ _ (Nat.ne_of_gt hzl) (Heap.get?_push_size _ rfl))
  rw [hsz] at hz8 hT8
  refine wpAny_pure ⟨_, rfl, wpAny_pure ?_⟩
  show Q (some (.ref g5.objs.size)) _
  rw [hsz]
  exact hQ x y g8 tk4 px py hz8 (up8 _ _ D.Oz hO5) (D1.frame _ _ _ st15 fun c hc o e => up8 c o (fun q => D.z1 (q ▸ hc)) e) (D2.frame _ _ _ st25 fun c hc o e => up8 c o (fun q => D.z2 (q ▸ hc)) e) hT8
    fun c o c1 c2 c3 c4 e => up8 c o c1 (up c o c1 c2 c3 c4 e)

/-- the first iterator has ended -/
theorem end_zip {z TI TO i1 i2 : Addr} {fp1 fp2 : List Addr} {n1 : Nat} {P1 : Nat → Value → Prop} {St1 : Nat → Heap → Prop} {a b : Value} {Q : Option Value → Shared → Prop} (hh : A.handled = none)
    (D : ZApart z TI TO i1 i2 fp1 fp2) (D1 : Draws prog w A.in1 i1 fp1 n1 P1 St1)
    (hz : IsZip s.heap z TI TO .none) (hTI : IsPair s.heap TI (.ref i1) (.ref i2)) (hTO : IsPair s.heap TO a b) (h1 : St1 n1 s.heap)
    (hQ : ∀ h', (∀ c o, c ≠ z → c ≠ TO → c ≠ i1 → c ≠ i2 → s.heap.get? c = some o → h'.get? c = some o) → Q none { s with heap := h' }) :
    wpAny (model prog w) A (pyNext (.ref z)) Q E s := by
  have hT : s.TypeIs (.ref z) "zip" := ⟨_, hz, rfl⟩
  unfold pyNext
  refine wpAny_bind (wpAny_attempt (wpAny_callSpecial?_slot (name := Str.ofString "__next__") hT F.slot_zip_next (wpAny_call_entry F.slot_zip_next hT F.entry_zip_next ?_ (F.args_zip_next_1 _))))
  show wpAny _ _ (field (.ref z) 2 >>= _) _ _ _
  refine wpAny_bind (wpAny_field hz rfl (x := .bool false) rfl ?_)
  show wpAny _ _ (field (.ref z) 3 >>= _) _ _ _
  refine wpAny_bind (wpAny_field hz rfl (x := .ref TI) rfl ?_)
  refine wpAny_bind (wpAny_seqItems hTI rfl ?_)
  show wpAny _ _ (Builtin.SmallTypes.ownedTupleIsFree (.ref z) >>= _) _ _ _
  refine wpAny_bind ?_
  unfold Builtin.SmallTypes.ownedTupleIsFree
  refine wpAny_bind (wpAny_field hz rfl (x := .none) rfl (wpAny_pure ?_))
  simp only [if_true]
  refine wpAny_bind (wpAny_rule ?_)
  refine wpAny_bind (wpAny_field hz rfl (x := .ref TO) rfl ?_)
  refine wpAny_bind (wpAny_setField_rec hz (by simp) fun g1 hz1 s1 => ?_)
  replace hz1 : IsZip g1 z TI TO .ellipsis := hz1
  refine wpAny_bind ?_
  simp only [List.zipIdx_cons, List.zipIdx_nil, List.forIn_cons, List.forIn_nil]
  refine wpAny_bind (wpAny_bind (wpAny_onRaise ?_))
  show wpAny _ _ (Builtin.SmallTypes.nextOf (.ref i1) >>= _) _ _ _
  refine wpAny_bind (D1.done _ _ _ (D1.frame _ _ _ h1 fun c hc o e => s1.extBut c o (fun q => D.z1 (q ▸ hc)) e) fun g2 e s2 he => ?_)
  obtain ⟨oe, hoe, hce⟩ := he
  have hz2 : IsZip g2 z TI TO .ellipsis := s2 _ _ D.iz1.symm hz1
  have hez : e ≠ z := fun x => by subst x; rw [hz2] at hoe; cases hoe; simp at hce
  refine wpAny_setField_rec hz2 (by simp) fun g3 _ s3 => ?_
  refine wpAny_bind (wpAny_isInstance (T := "StopIteration") (b := true) ⟨oe, s3.extBut _ _ hez hoe, hce⟩ isSubtype_stop ?_)
  exact wpAny_pure (hQ _ fun c o c1 _ c3 _ x => s3.extBut _ _ c1 (s2 _ _ c3 (s1.extBut _ _ c1 x)))
end
end

section
section
variable {prog : Program} {w : World} {A : Around} {E : Value → Shared → Prop} {s : Shared}

noncomputable abbrev zG1 (h : Heap) (l1 : Addr) : Heap := h.push { cls := .type "tuple_iterator", data := .fields #[.ref l1, .int 0 0] }
noncomputable abbrev zG2 (h : Heap) (l1 l2 : Addr) : Heap := (zG1 h l1).push { cls := .type "tuple_iterator", data := .fields #[.ref l2, .int 0 0] }
noncomputable abbrev zG3 (h : Heap) (l1 l2 : Addr) : Heap := (zG2 h l1 l2).push { cls := .type "tuple", data := .seq #[.ref h.objs.size, .ref (zG1 h l1).objs.size] }
noncomputable abbrev zG4 (h : Heap) (l1 l2 : Addr) : Heap := (zG3 h l1 l2).push { cls := .type "tuple", data := .seq #[.none, .none] }
noncomputable abbrev zG5 (h : Heap) (l1 l2 : Addr) : Heap := (zG4 h l1 l2).push { cls := .type "zip", data := .fields #[.none, .bool false, .bool false, .ref (zG2 h l1 l2).objs.size, .ref (zG3 h l1 l2).objs.size] }
theorem meets_zip_tup (l1 l2 : Addr) (xs ys : Array Value) :
    Meets (Builtin.«zip.__new__» ⟨[.type "zip", .ref l1, .ref l2], []⟩) (fun _ R s => s.heap.IsTuple l1 xs ∧ s.heap.IsTuple l2 ys ∧
      R (.ok (.ret (.ref (zG4 s.heap l1 l2).objs.size))) { s with heap := zG5 s.heap l1 l2 }) :=
  .of_wp fun prog w A R s h => by
    obtain ⟨hp, g, d, tk, os⟩ := s; obtain ⟨hl1, hl2, h⟩ := h
    have hsub := sub_zip
    have hL1 : Heap.IsTuple (Shared.heap ⟨hp, g, d, tk, os⟩) l1 xs := hl1
    have hL2 : Heap.IsTuple (Shared.heap ⟨hp.push { cls := .type "tuple_iterator", data := .fields #[.ref l1, .int 0 0] }, g, d, tk, os⟩) l2 ys := Heap.IsTuple.push hl2 _
    wp_walk using wpAny_pyIter_tuple hL1, wpAny_pyIter_tuple hL2
    exact ⟨_, rfl, h⟩
theorem call_zip_tup {l1 l2 : Addr} {xs ys : Array Value} {Q : Value → Shared → Prop} (hl1 : s.heap.IsTuple l1 xs) (hl2 : s.heap.IsTuple l2 ys)
    (h : ∀ h', IsZip h' (s.heap.objs.size + 4) (s.heap.objs.size + 2) (s.heap.objs.size + 3) .none → IsPair h' (s.heap.objs.size + 2) (.ref s.heap.objs.size) (.ref (s.heap.objs.size + 1)) →
      IsPair h' (s.heap.objs.size + 3) .none .none → h'.IsTupleIter s.heap.objs.size l1 0 → h'.IsTupleIter (s.heap.objs.size + 1) l2 0 → h'.objs.size = s.heap.objs.size + 5 →
      (∀ c o, s.heap.get? c = some o → h'.get? c = some o) → Q (.ref (s.heap.objs.size + 4)) { s with heap := h' }) :
    wpAny (model prog w) A (call (.type "zip") [.ref l1, .ref l2]) Q E s := by
  refine callType_new F.called_zip (by decide) (F.typeCall_zip_2 _ _) (F.newCall_zip_2 _ _) (fun obj => F.args_object_init_3 obj _ _) F.entry_zip_new (meets_zip_tup l1 l2 xs ys) ⟨hl1, hl2, ?_⟩
  have z1 : (zG1 s.heap l1).objs.size = s.heap.objs.size + 1 := Heap.size_push ..
  have z2 : (zG2 s.heap l1 l2).objs.size = s.heap.objs.size + 2 := by rw [Heap.size_push, z1]
  have z3 : (zG3 s.heap l1 l2).objs.size = s.heap.objs.size + 3 := by rw [Heap.size_push, z2]
  have z4 : (zG4 s.heap l1 l2).objs.size = s.heap.objs.size + 4 := by rw [Heap.size_push, z3]
  have z5 : (zG5 s.heap l1 l2).objs.size = s.heap.objs.size + 5 := by rw [Heap.size_push, z4]
  have g5 : (zG5 s.heap l1 l2).get? (zG4 s.heap l1 l2).objs.size = some _ := Heap.get?_push_size _ rfl
  have g4 : (zG5 s.heap l1 l2).get? (zG3 s.heap l1 l2).objs.size = some _ := Heap.get?_push_of_some _ (Heap.get?_push_size _ rfl)
  have g3 : (zG5 s.heap l1 l2).get? (zG2 s.heap l1 l2).objs.size = some _ := Heap.get?_push_of_some _ (Heap.get?_push_of_some _ (Heap.get?_push_size _ rfl))
  have g2 : (zG5 s.heap l1 l2).get? (zG1 s.heap l1).objs.size = some _ := Heap.get?_push_of_some _ (Heap.get?_push_of_some _ (Heap.get?_push_of_some _ (Heap.get?_push_size _ rfl)))
  have g1 : (zG5 s.heap l1 l2).get? s.heap.objs.size = some _ := Heap.get?_push_of_some _ (Heap.get?_push_of_some _ (Heap.get?_push_of_some _ (Heap.get?_push_of_some _ (Heap.get?_push_size _ rfl))))
  show _ ∧ _
  rw [z2, z3, z4] at g5
  rw [z1, z2] at g3
  rw [z3] at g4
  rw [z1] at g2
  rw [z4]
  exact ⟨⟨_, g5, rfl⟩, h _ g5 g3 g4 ⟨_, g1, rfl, rfl⟩ ⟨_, g2, rfl, rfl⟩ z5 fun c o x =>
    Heap.get?_push_of_some _ (Heap.get?_push_of_some _ (Heap.get?_push_of_some _ (Heap.get?_push_of_some _ (Heap.get?_push_of_some _ x))))⟩

noncomputable def zSt (z TI TO i1 i2 t1 t2 : Addr) (xs ys : Array Value) (i : Nat) (h : Heap) : Prop :=
  IsZip h z TI TO .none ∧ IsPair h TI (.ref i1) (.ref i2) ∧ (∃ a b, IsPair h TO a b) ∧ (h.IsTupleIter i1 t1 i ∧ h.IsTuple t1 xs) ∧ (h.IsTupleIter i2 t2 i ∧ h.IsTuple t2 ys)
noncomputable def zMid (z TI TO i1 i2 t1 t2 : Addr) (xs ys : Array Value) (i : Nat) (T : Addr) (h : Heap) : Prop :=
  IsZip h z TI TO (rawInt T) ∧ IsPair h TI (.ref i1) (.ref i2) ∧ (∃ a b, IsPair h TO a b) ∧ (h.IsTupleIter i1 t1 (i + 1) ∧ h.IsTuple t1 xs) ∧ (h.IsTupleIter i2 t2 (i + 1) ∧ h.IsTuple t2 ys) ∧ T ≠ z ∧ T ≠ TO ∧ T ≠ i1 ∧ T ≠ i2
/-- a zip of two tuples of one size, as a walk -/
theorem walksZip (hh : A.handled = none) {z TI TO i1 i2 t1 t2 : Addr} (D : ZApart z TI TO i1 i2 [i1, t1] [i2, t2]) (h1 : t1 ≠ i1) (h2 : t2 ≠ i2) (xs ys : Array Value) (hsz : ys.size = xs.size) :
    WalksU prog w A z [z, TI, TO, i1, i2, t1, t2] [z, TO, i1, i2] xs.size (fun i vals => ∃ x y, xs[i]? = some x ∧ ys[i]? = some y ∧ vals = #[x, y]) (zSt z TI TO i1 i2 t1 t2 xs ys) (zMid z TI TO i1 i2 t1 t2 xs ys) where
  sub := fun c hc => by simp at hc ⊢; rcases hc with rfl | rfl | rfl | rfl <;> simp
  frame := fun i h h' ⟨a, b, ⟨p, q, c⟩, d, e⟩ hk => ⟨hk z (by simp) _ a, hk TI (by simp) _ b, ⟨p, q, hk TO (by simp) _ c⟩,
    (drawsTuple (prog := prog) (w := w) hh i1 t1 h1 xs).frame i h h' d fun b hb o x => hk b (by simp at hb ⊢; rcases hb with rfl | rfl <;> simp) o x,
    (drawsTuple (prog := prog) (w := w) hh i2 t2 h2 ys).frame i h h' e fun b hb o x => hk b (by simp at hb ⊢; rcases hb with rfl | rfl <;> simp) o x⟩
  item := fun i s Q E hi ⟨a, b, ⟨p, q, c⟩, d, e⟩ hQ => by
    have lt : ∀ {c o}, s.heap.get? c = some o → s.heap.objs.size ≠ c := fun e => Nat.ne_of_gt (Heap.lt_size e)
    have hi1 : s.heap.objs.size ≠ i1 := by obtain ⟨_, e, _⟩ := d.1; exact lt e
    have hi2 : s.heap.objs.size ≠ i2 := by obtain ⟨_, e, _⟩ := e.1; exact lt e
    refine next_zip (k := i) D (drawsTuple (prog := prog) (w := w) (A := A.in1) hh i1 t1 h1 xs) (drawsTuple (prog := prog) (w := w) (A := A.in1) hh i2 t2 h2 ys) a b c d e hi (hsz.symm ▸ hi) fun x y h' tk px py a' c' d' e' T hk => ?_
    exact hQ s.heap.objs.size #[x, y] h' tk ⟨x, y, px, py, rfl⟩ ⟨_, T, rfl, _, rfl⟩ ⟨a', hk _ _ D.Tz D.TTO D.T1 D.T2 b, ⟨_, _, c'⟩, d', e', lt a, lt c, hi1, hi2⟩
      fun c o hc e => hk c o (fun x => hc (by simp [x])) (fun x => hc (by simp [x])) (fun x => hc (by simp [x])) (fun x => hc (by simp [x])) e
  go := fun elts k pos i T s Q E ⟨a, b, ⟨p, q, c⟩, d, e, _⟩ hQ => wpAny_letOwnedTupleGo_zip a fun h' a' s' => hQ h' ⟨a', s'.extBut _ _ D.Tz b, ⟨p, q, s'.extBut _ _ D.Oz c⟩,
      (drawsTuple (prog := prog) (w := w) hh i1 t1 h1 xs).frame _ _ h' d fun b hb o x => s'.extBut b o (fun q => D.z1 (q ▸ hb)) x,
      (drawsTuple (prog := prog) (w := w) hh i2 t2 h2 ys).frame _ _ h' e fun b hb o x => s'.extBut b o (fun q => D.z2 (q ▸ hb)) x⟩ fun c o hc e => s'.extBut _ _ (fun x => hc (by simp [x])) e
  apart := fun i T h ⟨_, _, _, _, _, q1, q2, q3, q4⟩ hT => by
    simp at hT
    rcases hT with rfl | rfl | rfl | rfl
    · exact q1 rfl
    · exact q2 rfl
    · exact q3 rfl
    · exact q4 rfl
  done := fun s Q E ⟨a, b, ⟨p, q, c⟩, d, e⟩ hQ => end_zip hh D (drawsTuple (prog := prog) (w := w) (A := A.in1) hh i1 t1 h1 xs) a b c d fun h' hk => hQ h' s.toks fun c o hc e =>
      hk c o (fun x => hc (by simp [x])) (fun x => hc (by simp [x])) (fun x => hc (by simp [x])) (fun x => hc (by simp [x])) e
  self := fun i s Q E st hQ => wpAny_pyIter_zip st.1 hQ
end
end

section
section
variable {prog : Program} {w : World} {A : Around} {env : Env} {P : Part} {O O' : List U} {R R1 R2 R3 : Rep} {pos : Pos} {v u z : Value} {Φ : Flow → Part → List U → Prop} {rest : List Stmt} {K : Frag}

/-- the table of a code's inner codes -/
noncomputable def tabU (T : Addr) : U where
  fp := [T]
  ok h := ∃ ps, h.get? T = some { cls := .none, data := .fields ps } ∧ TriplesOk ps.toList
  stable h h' k := fun ⟨ps, e, t⟩ => ⟨ps, k T (.head _) _ e, t⟩
  alive h := fun ⟨ps, e, t⟩ a ha => by cases ha with | head => exact ⟨_, e⟩ | tail _ q => cases q
/-- a code object -/
noncomputable def CodeAt (P : Part) (c T : Addr) : Prop := ∃ od vs sl file tf flags tg inF text tt, P.get c = some ⟨.type "code", od, .fields vs, sl⟩ ∧ vs.getD 11 Value.none = Value.ref T ∧ vs[11]? = some (Value.ref T) ∧ vs.getD 18 Value.none = Value.str file tf ∧
  vs.getD 7 Value.none = Value.int flags tg ∧ vs.getD 9 Value.none = Value.bool inF ∧ vs.getD 10 Value.none = Value.int text tt ∧ c ≠ T
theorem CodeAt.up {c T : Addr} {P' : Part} (h : CodeAt P c T) (l : P.le P') : CodeAt P' c T := let ⟨a, b, d, e, f, g, i, j, k, m, x, r⟩ := h; ⟨a, b, d, e, f, g, i, j, k, m, l.2 _ _ x, r⟩
theorem CodeAt.code {c T : Addr} {s : Shared} (h : CodeAt P c T) (hT : tabU T ∈ O) (X : Sat P O s) : ∃ ps, s.heap.IsCode c T ps ∧ s.heap.TableAt c T ps := by
  obtain ⟨od, vs, sl, file, tf, flags, tg, inF, text, tt, g, h11, h11', h18, h7, h9, h10, hne⟩ := h
  obtain ⟨ps, e, t⟩ := X.own _ hT
  exact ⟨ps, ⟨_, vs, file, tf, flags, tg, inF, text, tt, _, X.per _ _ g, rfl, h11, h18, h7, h9, h10, e, rfl, t, hne⟩, ⟨⟨_, vs, X.per _ _ g, rfl, rfl, h11'⟩, e⟩⟩

theorem Upd.of_mem {u : U} : ∀ {O : List U}, u ∈ O → Upd O u u O
  | _ :: _, .head _ => .head
  | _ :: _, .tail _ h => .tail (Upd.of_mem h)

/-- the state made anew, but for things of no one -/
theorem Sat.remake {s : Shared} {wr : List Addr} {h' : Heap} {g' : Array GenState} {d' : Drawn} {tk : Nat} (x : Sat P O s) (hk : ∀ b o, b ∉ wr → s.heap.get? b = some o → h'.get? b = some o) (hP : ∀ b ∈ wr, P.get b = none) (hO : ∀ b ∈ wr, b ∉ fps O)
    (hg : AllBare g') (ht : P.tk ≤ tk) : Sat P O ⟨h', g', d', tk, s.os⟩ :=
  ⟨fun a o e => hk a o (fun q => by rw [hP a q] at e; cases e) (x.per a o e), fun u hu => u.stable _ _ (fun a ha o e => hk a o (fun q => hO a q (List.mem_flatMap.mpr ⟨u, hu, ha⟩)) e) (x.own u hu), x.nd, x.off, hg, x.os, ht, x.two⟩

/-- a zip of two tuples -/
noncomputable def zipU (z TI TO i1 i2 t1 t2 : Addr) : U where
  fp := [z, TI, TO, i1, i2]
  ok h := IsZip h z TI TO .none ∧ IsPair h TI (.ref i1) (.ref i2) ∧ IsPair h TO .none .none ∧ h.IsTupleIter i1 t1 0 ∧ h.IsTupleIter i2 t2 0
  stable h h' k := fun ⟨a, b, c, ⟨o1, e1, r1⟩, ⟨o2, e2, r2⟩⟩ => ⟨k z (by simp) _ a, k TI (by simp) _ b, k TO (by simp) _ c, ⟨o1, k i1 (by simp) _ e1, r1⟩, ⟨o2, k i2 (by simp) _ e2, r2⟩⟩
  alive h := fun ⟨a, b, c, ⟨o1, e1, r1⟩, ⟨o2, e2, r2⟩⟩ x hx => by
    simp at hx
    rcases hx with rfl | rfl | rfl | rfl | rfl
    · exact ⟨_, a⟩
    · exact ⟨_, b⟩
    · exact ⟨_, c⟩
    · exact ⟨_, e1⟩
    · exact ⟨_, e2⟩
theorem o_zip {rs rs' : List Rep} {Φ : Value → Part → List U → Prop} (hv : (RTup rs).h P v) (hu : (RTup rs').h P u)
    (h : ∀ z TI TO i1 i2 t1 t2 xs ys n1 n2, v = .ref t1 → u = .ref t2 → Reps P rs xs → Reps P rs' ys → P.get t1 = some ⟨.type "tuple", none, .seq xs.toArray n1, #[]⟩ → P.get t2 = some ⟨.type "tuple", none, .seq ys.toArray n2, #[]⟩ →
      ZApart z TI TO i1 i2 [i1, t1] [i2, t2] → t1 ≠ i1 → t2 ≠ i2 → Φ (.ref z) P (zipU z TI TO i1 i2 t1 t2 :: O)) : Do prog w A (call (.type "zip") [v, u]) P O Φ := by
  obtain ⟨t1, xs, n1, rfl, g1, r1⟩ := hv
  obtain ⟨t2, ys, n2, rfl, g2, r2⟩ := hu
  refine Do.base fun s X => call_zip_tup (xs := xs) (ys := ys) ⟨_, X.per _ _ g1, rfl, n1, rfl⟩ ⟨_, X.per _ _ g2, rfl, n2, rfl⟩ fun h' hz hTI hTO h1 h2 hsz hk ht => ?_
  have l1 : t1 < s.heap.objs.size := Heap.lt_size (X.per _ _ g1)
  have l2 : t2 < s.heap.objs.size := Heap.lt_size (X.per _ _ g2)
  generalize hN : s.heap.objs.size = N at hz hTI hTO h1 h2 hsz l1 l2
  have fresh : ∀ a, N ≤ a → s.heap.get? a = none := fun a ha => by
    cases e : s.heap.get? a with
    | none => rfl
    | some o => have := Heap.lt_size e; rw [hN] at this; exact absurd this (Nat.not_lt.mpr ha)
  have hne : ∀ i j : Nat, i ≠ j → (N : Nat) + i ≠ N + j := fun i j h q => h (Nat.add_left_cancel q)
  have X1 : Sat P (zipU (N + 4) (N + 2) (N + 3) N (N + 1) t1 t2 :: O) { s with heap := h' } :=
    X.push ht hk (fun a ha => by
      have ha : a ∈ ([N + 4, N + 2, N + 3, N, N + 1] : List Nat) := ha
      simp at ha
      exact fresh a (by rcases ha with rfl | rfl | rfl | rfl | rfl <;> first | exact Nat.le_add_right _ _ | exact Nat.le_refl _)) (by
      show ([N + 4, N + 2, N + 3, N, N + 1] : List Nat).Nodup
      simp) ⟨hz, hTI, hTO, h1, h2⟩
  refine ⟨P, _, .refl _, X1, h (N + 4) (N + 2) (N + 3) N (N + 1) t1 t2 xs.toList ys.toList n1 n2 rfl rfl r1 r2 (by simpa using g1) (by simpa using g2) ?_ (Nat.ne_of_lt l1) (Nat.ne_of_lt (Nat.lt_succ_of_lt l2))⟩
  have q1 : ∀ i, t1 ≠ (N : Nat) + i := fun i => Nat.ne_of_lt (Nat.lt_of_lt_of_le l1 (Nat.le_add_right _ _))
  have q2 : ∀ i, t2 ≠ (N : Nat) + i := fun i => Nat.ne_of_lt (Nat.lt_of_lt_of_le l2 (Nat.le_add_right _ _))
  have n0 : ∀ i, i ≠ 0 → (N : Nat) + i ≠ N := fun i hi q => hi (Nat.add_left_cancel (q.trans (Nat.add_zero N).symm))
  constructor
  · intro q; rcases List.mem_cons.mp q with q | q
    · exact n0 4 (by decide) q
    · exact q1 4 (List.mem_singleton.mp q).symm
  · intro q; rcases List.mem_cons.mp q with q | q
    · exact hne 4 1 (by decide) q
    · exact q2 4 (List.mem_singleton.mp q).symm
  · intro q; rcases List.mem_cons.mp q with q | q
    · exact n0 3 (by decide) q
    · exact q1 3 (List.mem_singleton.mp q).symm
  · intro q; rcases List.mem_cons.mp q with q | q
    · exact hne 3 1 (by decide) q
    · exact q2 3 (List.mem_singleton.mp q).symm
  · intro q; rcases List.mem_cons.mp q with q | q
    · exact n0 1 (by decide) q
    · exact q1 1 (List.mem_singleton.mp q).symm
  · intro q; rcases List.mem_cons.mp q with q | q
    · exact n0 1 (by decide) q.symm
    · exact q2 0 (List.mem_singleton.mp q).symm
  · exact hne 2 4 (by decide)
  · exact hne 2 3 (by decide)
  · exact n0 2 (by decide)
  · exact hne 2 1 (by decide)
  · exact hne 3 4 (by decide)
  · exact n0 3 (by decide)
  · exact hne 3 1 (by decide)
  · exact (n0 4 (by decide)).symm
  · exact hne 1 4 (by decide)

theorem Reps.ofAll : ∀ {rs : List Rep} {vs : List Value}, vs.length = rs.length → (∀ (j : Nat) v, vs[j]? = some v → ∃ r, rs[j]? = some r ∧ r.h P v) → Reps P rs vs
  | [], [], _, _ => trivial
  | r :: rs, v :: vs, e, h => by
    obtain ⟨r', er, hr⟩ := h 0 v rfl
    cases er
    exact ⟨hr, Reps.ofAll (rs := rs) (vs := vs) (Nat.succ.inj e) fun j v' e' => h (j + 1) v' e'⟩
theorem reps_int {l : List Int} {vs : List Value} {i : Nat} {v : Value} (r : Reps P (l.map RInt) vs) (e : vs[i]? = some v) : ∃ t, v = .int (l.getD i 0) t := by
  obtain ⟨r', e', h⟩ := r.of_get e
  rw [List.getElem?_map] at e'
  cases q : l[i]? with
  | none => rw [q] at e'; cases e'
  | some x =>
    rw [q] at e'
    cases e'
    obtain ⟨t, ht⟩ := h
    exact ⟨t, by rw [ht, List.getD_eq_getElem?_getD, q]; rfl⟩
theorem passing_all (n : Nat) : passing (fun _ => true) n 0 = List.range n := by unfold passing; rw [List.drop_zero]; simp

/-- tuple(x + y for x, y in zip(a, b)) -/
theorem ev_tupleZip {xa xb : Str} {p1 p2 p3 p4 p5 p6 p7 p8 p9 p10 : Pos} {k9 : Nat} {e1 e2 : Expr} {scope : Scope} {cl : List (Str × Addr)} {l1 l2 : List Int} {c T : Addr}
    (B : Bg K P) (hA : A.handled = none) (hroom : A.depth < recursionLimit) (hT : tabU T ∈ O) (hC : CodeAt P c T) (h2T : T ≠ 2)
    (htup : Ev prog w A env (.Name "tuple" p1) P O (RVal (.type "tuple"))) (hzip : Ev prog w A env (.Name "zip" p2) P O (RVal (.type "zip")))
    (h1 : Ev prog w A env e1 P O (RTup (l1.map RInt))) (h2 : Ev prog w A env e2 P O (RTup (l2.map RInt))) (hl : l2.length = l1.length) (hsz : l1.length ≤ 1000)
    (hc : env.code = .ref c := by rfl) (hg : env.globals = mainGlobals := by rfl)
    (hco : scope.isCoroutine = false := by rfl) (hclos : closureFor scope env = PySem.Sem.pure cl := by rfl) (hcell : ∀ y ∈ scope.names, y.2 ≠ .cell := by decide) (h0 : scope.names.lookup (".0" : Str) = some NameKind.local := by rfl)
    (hxa : scope.names.lookup xa = some .local := by rfl) (hxb : scope.names.lookup xb = some .local := by rfl) (hab : xa ≠ xb := by decide) (hkind : scope.kind = .function := by rfl)
    (hda : (xa == ("__debug__" : Str)) = false := by decide) (hdb : (xb == ("__debug__" : Str)) = false := by decide)
    (hs1 : starEach [e1, e2] env = (false, eval e1 env) :: starEach [e2] env := by rfl) (hs2 : starEach [e2] env = (false, eval e2 env) :: starEach [] env := by rfl) (hpl : (backTo p3 (starEach [e2] env)).any (·.1) = false := by rfl) (hfold : ∀ x, genFold (.Call (.Name "zip" p2) [e1, e2] [] p3) env x = PySem.Sem.pure x := by intro _; rfl) :
    Ev prog w A env (.Call (.Name "tuple" p1) [.GeneratorExp (.BinOp (.Name xa p5) .Add (.Name xb p6) p7) [⟨.Tuple [.Name xa p8, .Name xb p9] k9 p10, .Call (.Name "zip" p2) [e1, e2] [] p3, [], 0⟩] scope p4] [] pos) P O (RTup ((List.zipWith (· + ·) l1 l2).map RInt)) := fun P' l => by
  refine Gv.base fun s X => ?_
  rw [arm_eval_Call_Name']
  refine wpAny_bind (wpAny_mono ((htup P' l).run s X) (fun v s1 ⟨P1, O1, lp1, X1, e1', r1⟩ => ?_) fun _ _ e => e)
  obtain rfl : v = .type "tuple" := r1
  subst e1'
  refine callWith_of (P := fun _ => True) (first := []) rfl (fun h _ => ⟨.machine, .inr (.inl rfl), .of_pure rfl⟩) (evalArgs_plain ?_)
  refine wpAny_items_cons (env := env) (pos := pos) (e := .GeneratorExp (.BinOp (.Name xa p5) .Add (.Name xb p6) p7) [⟨.Tuple [.Name xa p8, .Name xb p9] k9 p10, .Call (.Name "zip" p2) [e1, e2] [] p3, [], 0⟩] scope p4) (rest := []) (Q := fun vs s₁ => True ∧ wpAny (model prog w) A (call (.type "tuple") ([] ++ vs)) _ _ s₁) ?_ (by rfl)
  refine wpAny_GeneratorExp_walksQT hA hco hclos hcell h0 hxa hxb hab hkind hroom ?_ hfold
  have lP1 := l.trans lp1
  refine wpAny_mono ((do_call (Rs := [RTup (l1.map RInt), RTup (l2.map RInt)]) (Φ := fun v P2 O2 => ∃ z TI TO i1 i2 t1 t2 xs ys n1 n2, v = .ref z ∧ P1.le P2 ∧ O2 = zipU z TI TO i1 i2 t1 t2 :: O1 ∧ Reps P2 (l1.map RInt) xs ∧ Reps P2 (l2.map RInt) ys ∧
      P2.get t1 = some ⟨.type "tuple", none, .seq xs.toArray n1, #[]⟩ ∧ P2.get t2 = some ⟨.type "tuple", none, .seq ys.toArray n2, #[]⟩ ∧ ZApart z TI TO i1 i2 [i1, t1] [i2, t2] ∧ t1 ≠ i1 ∧ t2 ≠ i2)
    (hzip.up lP1) kept_type (evl_cons (h1.up lP1) (evl_cons (h2.up lP1) evl_nil hs2) hs1) (fun P2 vs l2' rs => ?_) hs1 hpl).run s1 X1) (fun xv s2 ⟨P2, O2, lp2, X2, z, TI, TO, i1, i2, t1, t2, xs, ys, n1, n2, ev, _, eO, rx, ry, g1, g2, D, d1, d2⟩ => ?_) fun _ _ e => e
  · match vs, rs with
    | [a, b], ⟨ra, rb, _⟩ => exact o_zip ra rb fun z TI TO i1 i2 t1 t2 xs ys n1 n2 _ _ rx ry g1 g2 D d1 d2 => ⟨z, TI, TO, i1, i2, t1, t2, xs, ys, n1, n2, rfl, l2', rfl, rx, ry, g1, g2, D, d1, d2⟩
  subst ev; subst eO
  have lP2 := lP1.trans lp2
  have B2 := B.up lP2
  refine wpAny_pyIter_zip (X2.own _ (.head _)).1 ⟨B2.nolimit X2, ?_⟩
  have hlx : xs.length = l1.length := by rw [rx.length, List.length_map]
  have hly : ys.length = l1.length := by rw [ry.length, List.length_map, hl]
  have key : ∀ (code : Value) (s3 : Shared), Sat P2 (zipU z TI TO i1 i2 t1 t2 :: O1) s3 → wpAny (model prog w) A (builtinsFor env.globals env.builtins) (fun bi s₄ =>
        ∃ I fp wr n₀ Pt St₀ Mid pz F, Value.ref z = .ref I ∧ (∀ A' : Around, A'.handled = none → WalksU prog w A' I fp wr n₀ Pt St₀ Mid) ∧ (∀ i vals, Pt i vals → ∃ va vb, vals = #[va, vb]) ∧ St₀ 0 s₄.heap ∧ (∀ b ∈ fp, b < s₄.heap.objs.size) ∧ s₄.heap.NoLimit ∧ cStatics ∉ wr ∧
          (∀ href : Heap, (∀ b o, s₄.heap.get? b = some o → href.get? b = some o) →
            QuietGenT prog w (genEnv scope cl s₄.heap.objs.size code bi env) xa xb [] (.BinOp (.Name xa p5) .Add (.Name xb p6) p7) (List.range s₄.heap.objs.size) wr Pt pz F href) ∧
          (∀ a h₅ tk gs, gs.bare = true → s₄.heap.objs.size < a → h₅.objs.size = a + 1 → (∀ b o, s₄.heap.get? b = some o → h₅.get? b = some o) →
            WalksS prog w A.in4 a (a :: s₄.heap.objs.size :: List.range s₄.heap.objs.size) (s₄.heap.objs.size :: wr) (GenOnlyQ s₄.gens.size) (passing pz n₀ 0).length
              (fun j y => ∃ i, (passing pz n₀ 0)[j]? = some i ∧ F i y) (GenAt prog w A.in4 a s₄.gens.size s₄.heap.objs.size (List.range s₄.heap.objs.size) wr pz n₀ F) →
            GenAt prog w A.in4 a s₄.gens.size s₄.heap.objs.size (List.range s₄.heap.objs.size) wr pz n₀ F 0 { s₄ with gens := s₄.gens.push gs, toks := tk, heap := h₅ } →
            wpAny (model prog w) A (spliced (backTo pos (starEach [] env))) (fun vs s' => True ∧ wpAny (model prog w) A (call (.type "tuple") ([] ++ (Value.ref a :: vs))) (fun v s' => s.toks ≤ s'.toks → ∃ P'', P'.le P'' ∧ Sat P'' O1 s' ∧ (RTup ((List.zipWith (· + ·) l1 l2).map RInt)).h P'' v) (fun _ _ => False) s') (fun _ _ => False) { s₄ with gens := s₄.gens.push gs, toks := tk, heap := h₅ })) (fun _ _ => False) s3 := by
    intro code s3 X3
    obtain ⟨⟨mg, mb, mc, bm, ob, b1, b2, b3, b4, b5, b6, b7, b8, b9, b10, b11⟩, tt⟩ := B2
    refine wpAny_builtinsFor (m := mg) (by rw [hg]; exact b2.ns X3) b6 b7 (X3.per _ _ b8) b9 b10 b11 ?_
    obtain ⟨zz, zTI, zTO, zi1, zi2⟩ := X3.own _ (.head _)
    have ht1 : s3.heap.IsTuple t1 xs.toArray := ⟨_, X3.per _ _ g1, rfl, n1, rfl⟩
    have ht2 : s3.heap.IsTuple t2 ys.toArray := ⟨_, X3.per _ _ g2, rfl, n2, rfl⟩
    have hoff : ∀ a ∈ [z, TI, TO, i1, i2], P2.get a = none := fun a ha => X3.off a (by rw [fps_cons]; exact List.mem_append_left _ ha)
    have hoffO : ∀ a ∈ [z, TI, TO, i1, i2], a ∉ fps O1 := fun a ha q => (List.nodup_append.mp (show ([z, TI, TO, i1, i2] ++ fps O1).Nodup from X3.nd)).2.2 a ha a q rfl
    refine ⟨z, [z, TI, TO, i1, i2, t1, t2], [z, TO, i1, i2], xs.toArray.size, _, _, _, fun _ => true, fun i y => ∃ t, y = .int (l1.getD i 0 + l2.getD i 0) t, rfl, fun A' hA' => walksZip hA' D d1 d2 xs.toArray ys.toArray (by simp [hlx, hly]), ?_, ⟨zz, zTI, ⟨_, _, zTO⟩, ⟨zi1, ht1⟩, ⟨zi2, ht2⟩⟩, ?_, ⟨mc, b5.1.ns X3, b5.2⟩, ?_, ?_, ?_⟩
    · rintro i vals ⟨x, y, _, _, rfl⟩; exact ⟨x, y, rfl⟩
    · intro b hb
      simp at hb
      rcases hb with rfl | rfl | rfl | rfl | rfl | rfl | rfl
      · exact Heap.lt_size zz
      · exact Heap.lt_size zTI
      · exact Heap.lt_size zTO
      · obtain ⟨o, e, _⟩ := zi1; exact Heap.lt_size e
      · obtain ⟨o, e, _⟩ := zi2; exact Heap.lt_size e
      · exact Heap.lt_size (X3.per _ _ g1)
      · exact Heap.lt_size (X3.per _ _ g2)
    · intro q
      obtain ⟨o2, e2⟩ := X3.two
      have : P2.get 2 = none := hoff 2 (by
        have q' : (2 : Nat) ∈ [z, TO, i1, i2] := q
        simp at q' ⊢
        rcases q' with q' | q' | q' | q' <;> simp [q'])
      rw [this] at e2; cases e2
    · intro href hk
      refine ⟨fun A' E' i va vb s₂ m₂ _ _ _ _ _ _ => wpAny_of_eq (List.forIn_nil ..) ⟨rfl, s₂.heap, s₂.toks, rfl, fun _ _ e => e⟩, fun A' E' i va vb s₂ m₂ hA' hP _ hn ha hb _ => ?_⟩
      obtain ⟨x, y, ex, ey, exy⟩ := hP
      obtain ⟨rfl, rfl⟩ : va = x ∧ vb = y := by
        have := congrArg Array.toList exy
        simpa using this
      obtain ⟨ta, rfl⟩ := reps_int (P := P2) rx (by simpa using ex)
      obtain ⟨tb, rfl⟩ := reps_int (P := P2) ry (by simpa using ey)
      exact wpAny_BinOp (wpAny_Name (wpAny_loadName_local hkind hxa hn ha (wpAny_Name (wpAny_loadName_local hkind hxb hn hb (add_int ⟨⟨_, rfl⟩, s₂.heap, _, rfl, fun _ _ e => e⟩)) hdb)) hda)
    · intro a h₅ tk gs hgs ha h5 hk W hG
      refine wpAny_items_nil ⟨trivial, ?_⟩
      show wpAny (model prog w) A (call (.type "tuple") [.ref a]) _ _ _
      have W' := WalksS.in4_3 (A := A) W
      have hlen : (passing (fun _ => true) xs.toArray.size 0).length = l1.length := by rw [passing_all]; simp [hlx]
      rw [hlen] at W'
      refine call_tuple_gen W' (fun i s h => h.1.typeIs) hG (fun b hb => ?_) (.head _) (fun s' acc hm hacc => ?_) (by rw [sizeLine_eq]; omega)
      · show b < h₅.objs.size
        rw [h5]
        rcases List.mem_cons.mp hb with rfl | hb
        · exact Nat.lt_succ_self _
        · rcases List.mem_cons.mp hb with rfl | hb
          · exact Nat.lt_succ_of_lt ha
          · exact Nat.lt_succ_of_lt (Nat.lt_trans (List.mem_range.mp hb) ha)
      · intro ht
        have hfr : ∀ b ∈ s3.heap.objs.size :: [z, TO, i1, i2], P2.get b = none ∧ b ∉ fps O1 := fun b hb => by
          rcases List.mem_cons.mp hb with rfl | hb
          · exact ⟨X3.freshP (fresh_size _), fun q => by obtain ⟨o, e⟩ := X3.drop.mem_alive q; rw [fresh_size] at e; cases e⟩
          · have : b ∈ [z, TI, TO, i1, i2] := by simp at hb ⊢; rcases hb with rfl | rfl | rfl | rfl <;> simp
            exact ⟨hoff b this, hoffO b this⟩
        have lP' : P'.le P2 := lp1.trans lp2
        have hPn : ∀ b, P2.get b = none → P'.get b = none := fun b e => by
          cases q : P'.get b with
          | none => rfl
          | some o => rw [lP'.2 _ _ q] at e; cases e
        obtain ⟨hp', gg', dd', tk', os'⟩ := s'
        have eos : os' = s3.os := hm.os
        subst eos
        have hbare : AllBare gg' := hm.gens.bare (X3.gens.push hgs)
        have X4 : Sat P' O1 ⟨hp', gg', dd', tk', s3.os⟩ := (X3.down lP' X.two).drop.remake (wr := s3.heap.objs.size :: [z, TO, i1, i2])
          (fun b o hb e => hm.heap b o hb (hk b o e)) (fun b hb => hPn b (hfr b hb).1) (fun b hb => (hfr b hb).2) hbare (Nat.le_trans X.tk ht)
        have hr : Reps P' ((List.zipWith (· + ·) l1 l2).map RInt) acc.toList := by
          refine Reps.ofAll (by rw [List.length_map, List.length_zipWith, hl, Nat.min_self]; simpa using hacc.1) fun j v e => ?_
          obtain ⟨i, ei, t, et⟩ := hacc.2 j v (by simpa using e)
          rw [passing_all] at ei
          have hj : j < l1.length := by
            have := (List.getElem?_eq_some_iff.mp ei).1; simpa [hlx] using this
          have eij : i = j := by
            obtain ⟨q1, q2⟩ := List.getElem?_eq_some_iff.mp ei
            simpa using q2.symm
          subst eij
          refine ⟨RInt (l1.getD i 0 + l2.getD i 0), ?_, t, et⟩
          have hj2 : i < l2.length := by rw [hl]; exact hj
          rw [List.getElem?_map, List.getElem?_zipWith]
          simp [hj, hj2]
        obtain ⟨P5, l5, X5, h5⟩ := X4.newSeq (cls := "tuple") (ar := acc) (tk := tk') hr (by simp) (Nat.le_refl _)
        exact ⟨P5, l5, X5, h5⟩
  obtain ⟨ps, hok, htab⟩ := (hC.up lP2).code (.tail _ hT) X2
  refine wpAny_with_toks (Nat.le_refl s2.toks) ?_
  cases hq : codeAmong p4 ps.toList with
  | some c' => exact wpAny_genexprCode_hit hc hok hq fun ht => key c' s2 X2
  | none =>
    refine wpAny_genexprCodeX hc hok htab hq fun c' h' tk hx a b hok' rec' tab' _ ht => key (.ref c') _ ?_
    have htr : TriplesOk (ps ++ #[rawInt p4.line, rawInt p4.col, .ref c']).toList := by
      obtain ⟨o, vs, file, tf, flags, tg, inF, text, tt, op, q1, q2, q3, q4, q5, q6, q7, q8, q9, q10, q11⟩ := hok'
      exact q10
    exact X2.upd (Upd.of_mem (u := tabU T) (.tail _ hT)) ht (fun b o hb e => hx b o (fun q => hb (by rw [q]; exact .head _)) e) (fun a ha => .inl ha) (List.nodup_cons.mpr ⟨by simp, .nil⟩) ⟨_, tab'.2, htr⟩
end
end

section
section
variable {prog : Program} {w : World} {A : Around} {env : Env} {P : Part} {O O' : List U} {R R1 R2 R3 : Rep} {pos : Pos} {v u z : Value} {Φ : Flow → Part → List U → Prop} {rest : List Stmt} {K : Frag}

theorem lk_list_keys : typeLookup (.type "list") "keys" = (pure none : Sem (Option Value)) := by rw [typeLookup_type, builtinLookup_eq_fast]; kernel_rfl
/-- a list has no keys -/
theorem noKeys {E : Value → Shared → Prop} {s : Shared} {a : Addr} {vs : Array Value} {n : Nat} {Q : Option Value → Shared → Prop} (hA : A.handled = none) (hx : s.heap.get? a = some ⟨.type "list", none, .seq vs n, #[]⟩)
    (h : ∀ h' tk, (∀ b o, s.heap.get? b = some o → h'.get? b = some o) → Q none { s with heap := h', toks := tk }) : wpAny (model prog w) A (getAttr? (.ref a) "keys") Q E s := by
  obtain ⟨hp, g, d, tk, os⟩ := s
  have hT : ∀ tk', (⟨hp, g, d, tk', os⟩ : Shared).TypeIs (.ref a) "list" := fun _ => ⟨_, hx, rfl⟩
  have f1 := sub_AttributeError
  have f3 := F.slot_list_getattribute.lookup
  have f4 := F.slot_list_getattribute.bind (.ref a)
  have f5 := am_list_getattr_none
  unfold getAttr? getAttrBy? getAttrBy
  repeat (any_goals (first | assumption | exact hT _ | ((with_reducible show wpAny _ _ (call (Value.builtin "list.__getattribute__") _ _) _ _ _); refine call_meets F.slot_list_getattribute (hT _) am_entry_list_getattribute (F.args_list_getattribute_2 _ _) (meets_getattribute_miss_list a vs n #[] "keys" _ lk_list_keys (by decide) (by rw [sizeLine_eq]; decide)) ⟨hx, hA, fun h' tk' e hx' => ?_⟩) | wp_step))
  obtain ⟨t', u', he⟩ := hx'.there
  show wpAny _ _ (getattributeRaised _ _ _ _ _ _ _) _ _ _
  unfold getattributeRaised
  have hTe : (⟨h', g, d, tk', os⟩ : Shared).TypeIs (.ref e) "AttributeError" := ⟨_, he, rfl⟩
  repeat (any_goals (first | assumption | wp_step))
  exact h h' tk' hx'.keeps

/-- a list's iterator, as an own thing -/
noncomputable def lisU (I l : Addr) (i : Nat) : U where
  fp := [I]
  ok h := h.IsListIter I l i
  stable h h' k := fun ⟨o, e, r⟩ => ⟨o, k I (.head _) _ e, r⟩
  alive h := fun ⟨o, e, r⟩ a ha => by cases ha with | head => exact ⟨_, e⟩ | tail _ q => cases q
theorem upd_plain : plainId "dict.update.loop" = true := by decide +kernel
theorem upd_entry : entryFor table "dict.update.loop" = some Builtin.«dict.update.loop» := entryFor_of_tree (by kernel_rfl)
noncomputable def pairsR (l : List (Str × Rep)) : List Rep := l.map fun kv => RTup [RStr kv.1, kv.2]
theorem puts_succ {α : Type} {l : List (Str × α)} {i : Nat} (hi : i < l.length) : puts [] (l.take (i + 1)) = put (puts [] (l.take i)) l[i].1 l[i].2 := by
  rw [show l.take (i + 1) = l.take i ++ [l[i]] by rw [List.take_add_one]; simp [hi]]
  simp only [puts, List.foldl_append, List.foldl_cons, List.foldl_nil]
theorem puts_length {α : Type} (l : List (Str × α)) : ∀ acc, (puts acc l).length ≤ acc.length + l.length := by
  induction l with
  | nil => intro acc; simp [puts]
  | cons a l ih =>
    intro acc
    have h : (put acc a.1 a.2).length ≤ acc.length + 1 := by unfold put; split <;> simp
    have := ih (put acc a.1 a.2)
    simp only [puts, List.foldl_cons, List.length_cons] at this ⊢
    omega

theorem updLoop {d I l : Addr} {vs : List Value} {n : Nat} {L : List (Str × Rep)} {R : Result → Shared → Prop} (hA : A.handled = none) (hl : P.get l = some ⟨.type "list", none, .seq vs.toArray n, #[]⟩) (hr : Reps P (pairsR L) vs) (hz : L.length ≤ 1000)
    (hR : ∀ s' P' kvs, P.le P' → Sat P' (dictU prog w d kvs :: O) s' → Ents P' (puts [] L) kvs → R (.ok (.ret .none)) s') :
    ∀ (k i : Nat) (q : Int) (t : Tok) (s : Shared) (P1 : Part) (kvs : List (Str × Value)), L.length - i = k → i ≤ L.length → P.le P1 → Sat P1 (lisU I l i :: dictU prog w d kvs :: O) s → Ents P1 (puts [] (L.take i)) kvs →
      codeAny (model prog w) A (.builtin "dict.update.loop" ⟨[.ref d, .ref I, .int q t, .none], []⟩) R s := by
  have hlen : vs.length = L.length := by rw [hr.length]; simp [pairsR]
  intro k
  induction k with
  | zero =>
    intro i q t s P1 kvs hk hi l1 X en
    have hin : i = L.length := by omega
    subst hin
    refine codeAny_builtin upd_entry ?_
    rw [Around.under_plainId upd_plain _]
    have hL : s.heap.IsList l vs.toArray := ⟨_, X.per _ _ (l1.2 _ _ hl), rfl, n, rfl⟩
    refine wpAny_bind (wpAny_pyNext_list_end hA (X.own _ (.head _)) hL (by simp [hlen]) fun h' hx => ?_)
    have X1 : Sat P1 (dictU prog w d kvs :: O) { s with heap := h' } := X.lose (Nat.le_refl _) fun b o hb e => hx b o (fun q => hb (by rw [q]; exact .head _)) e
    rw [List.take_length] at en
    exact wpAny_bind (wpAny_pure (wpAny_pure (hR _ P1 kvs l1 X1 en)))
  | succ k ih =>
    intro i q t s P1 kvs hk hi l1 X en
    have hlt : i < L.length := by omega
    refine codeAny_builtin upd_entry ?_
    rw [Around.under_plainId upd_plain _]
    have hL : s.heap.IsList l vs.toArray := ⟨_, X.per _ _ (l1.2 _ _ hl), rfl, n, rfl⟩
    have hv : vs[i]? = some vs[i] := by simp [hlen, hlt]
    refine wpAny_bind (wpAny_pyNext_list_item (X.own _ (.head _)) hL (x := vs[i]) (by simp) fun h' hit hs => ?_)
    have X1 : Sat P1 (lisU I l (i + 1) :: dictU prog w d kvs :: O) { s with heap := h' } := X.turn (Nat.le_refl _) (fun b o hb e => (hs.2 b (fun q => hb (by rw [q]; exact .head _))).trans e) (fun a ha => .inl ha) (List.nodup_cons.mpr ⟨by simp, .nil⟩) hit
    obtain ⟨r, er, hrr⟩ := (hr.mono l1).of_get hv
    have er' : r = RTup [RStr L[i].1, L[i].2] := by
      simp [pairsR, hlt] at er; exact er.symm
    subst er'
    obtain ⟨a, ws, m, ea, ga, ra⟩ := hrr
    rw [ea]
    obtain ⟨ws⟩ := ws
    match ws, ra with
    | [key, val], ⟨⟨tk, hkey⟩, hval, _⟩ =>
    subst hkey
    have hTa : ({ s with heap := h' } : Shared).TypeIs (.ref a) "tuple" := ⟨_, X1.per _ _ ga, rfl⟩
    show wpAny _ _ (PySem.holding [.ref a] _ >>= _) _ _ _
    refine wpAny_bind (wpAny_holding (wpAny_bind (wpAny_tryCatch ?_)))
    unfold Builtin.Dict.pairItems
    refine wpAny_bind (wpAny_typeOf hTa ?_)
    rw [if_pos (by decide)]
    refine wpAny_bind (wpAny_seqItems (X1.per _ _ ga) rfl (wpAny_pure ?_))
    show wpAny _ _ (PySem.holding [.str L[i].1 tk, val] (dictSet d (.str L[i].1 tk) val)) _ _ _
    have hkl : kvs.length ≤ 1000 := by
      rw [en.length]; have := puts_length (L.take i) []; simp at this; omega
    refine wpAny_holding (wpAny_dictSet_pairs (knd := PySem.strKind prog w) isKey (dictU.sees (.tail _ (.head _)) X1) (fun h2 hd2 hs2 => ?_) (by rw [sizeLine_eq]; omega))
    have X2 : Sat P1 (lisU I l (i + 1) :: dictU prog w d (stored kvs L[i].1 val) :: O) { s with heap := h2, toks := s.toks + 1 } := X1.upd (.tail .head) (Nat.le_succ _) (fun b o hb e => (hs2.2 b (fun q => hb (by rw [q]; exact .head _))).trans e) (fun a ha => .inl ha) (List.nodup_cons.mpr ⟨by simp, .nil⟩) (DictObj.of hd2)
    have en2 : Ents P1 (puts [] (L.take (i + 1))) (stored kvs L[i].1 val) := by
      rw [puts_succ hlt]; exact en.put hval
    exact wpAny_pure ⟨plainId_quiet upd_plain _, ih (i + 1) _ 0 _ P1 _ (by omega) hlt l1 X2 en2⟩

/-- dict(list of pairs) -/
theorem o_dictOf {L : List (Str × Rep)} {Φ : Value → Part → List U → Prop} (hA : A.handled = none) (hv : (RList (pairsR L)).h P v) (hz : L.length ≤ 1000)
    (h : ∀ d kvs P', P.le P' → d ≠ sysModules → Ents P' (puts [] L) kvs → Φ (.ref d) P' (dictU prog w d kvs :: O)) : Do prog w A (call (.type "dict") [v]) P O Φ := by
  obtain ⟨l, vs, n, rfl, gl, r⟩ := hv
  refine Do.mk fun s X => ?_
  refine callType_codes (Q₁ := fun obj s₁ => obj = .ref s.heap.objs.size ∧ s₁ = { s with heap := s.heap.push { cls := .type "dict", data := .dict #[] } }) F.kt_called_dict (F.kt_typeCall_dict_1 _) F.entry_dict_init (kt_code_dict_new _ ⟨rfl, rfl⟩) ?_
  rintro obj s₁ ⟨rfl, rfl⟩
  have hsys : s.heap.objs.size ≠ sysModules := X.newDict
  have hfr := fresh_size s.heap
  generalize hd : s.heap.objs.size = d at hsys hfr
  have X1 : Sat P (dictU prog w d [] :: O) { s with heap := s.heap.push { cls := .type "dict", data := .dict #[] } } :=
    X.push (tk := s.toks) (Nat.le_refl _) (push_keep _ _) (fun a ha => by cases ha with | head => exact hfr | tail _ q => cases q) (List.nodup_cons.mpr ⟨by simp, .nil⟩) (by rw [← hd]; exact DictObj.of (Heap.DictOf.new s.heap))
  have hnew := dictU.sees (.head _) X1
  refine ⟨hnew.typeIs, F.args_dict_init_2 _ _, ?_⟩
  unfold Builtin.«dict.__init__»
  refine wpAny_bind ?_
  unfold Builtin.Dict.selfAndRest
  refine wpAny_bind (wpAny_notOrdered_dict hnew.typeIs ?_)
  show wpAny _ _ (pure (d, [Value.ref l])) _ _ _
  refine wpAny_pure ?_
  show wpAny _ _ (Builtin.Dict.updateFrom "dict.__init__" d (.ref l) [] .none) _ _ _
  unfold Builtin.Dict.updateFrom
  have hTl : ({ s with heap := s.heap.push { cls := .type "dict", data := .dict #[] } } : Shared).TypeIs (.ref l) "list" := ⟨_, X1.per _ _ gl, rfl⟩
  refine wpAny_bind (wpAny_typeOf hTl ?_)
  rw [if_pos (by decide)]
  refine wpAny_bind (wpAny_with_toks (Nat.le_refl _) (noKeys hA (X1.per _ _ gl) fun h' tk hk ht => ?_))
  have X2 : Sat P (dictU prog w d [] :: O) { s with heap := h', toks := tk } := X1.keep (s := { s with heap := s.heap.push { cls := .type "dict", data := .dict #[] } }) ht hk
  refine wpAny_bind (wpAny_rule ?_)
  have hL : h'.IsList l vs := ⟨_, X2.per _ _ gl, rfl, n, rfl⟩
  refine wpAny_bind (wpAny_pyIter_list (s := { s with heap := h', toks := tk }) hL ?_)
  have X3 : Sat P (lisU h'.objs.size l 0 :: dictU prog w d [] :: O) { s with heap := h'.push { cls := .type "list_iterator", data := .fields #[.ref l, .int 0 0] }, toks := tk } :=
    X2.push (s := { s with heap := h', toks := tk }) (Nat.le_refl _) (push_keep _ _) (fun a ha => by cases ha with | head => exact fresh_size _ | tail _ q => cases q) (List.nodup_cons.mpr ⟨by simp, .nil⟩) ⟨_, Heap.get?_push_size _ rfl, rfl, rfl⟩
  refine wpAny_pure ⟨plainId_quiet upd_plain _, ?_⟩
  refine updLoop (A := A.in1) (L := L) (vs := vs.toList) (n := n) hA (by simpa using gl) r hz (fun s' P' kvs l' X' en => ?_) L.length 0 0 0 _ P [] (Nat.sub_zero _) (Nat.zero_le _) (.refl P) X3 Ents.nil
  exact ⟨rfl, P', _, l', X', h d kvs P' l' hsys en⟩
end
end

section
section
variable {prog : Program} {w : World} {A : Around} {env : Env} {P : Part} {O O' : List U} {R R1 R2 R3 : Rep} {pos : Pos} {v u z : Value} {Φ : Flow → Part → List U → Prop} {rest : List Stmt} {K : Frag}

/-- a whole number and something, as a pair -/
noncomputable abbrev pairT (p : Int × Rep) : Rep := RTup [RInt p.1, p.2]
theorem pairT.obj {p : Int × Rep} {v : Value} (h : (pairT p).h P v) : ∃ a t y n, v = .ref a ∧ P.get a = some ⟨.type "tuple", none, .seq #[.int p.1 t, y] n, #[]⟩ ∧ p.2.h P y := by
  obtain ⟨a, ⟨vs⟩, n, e, g, r⟩ := h
  match vs, r with
  | [x, y], ⟨⟨t, hx⟩, hy, _⟩ => exact ⟨a, t, y, n, e, by rw [← hx]; exact g, hy⟩
theorem bestStep {f : Int × Rep → Int × Rep → Bool} {L : List (Int × Rep)} {j : Nat} (hj : j < L.length) (x : Int × Rep) : (L.take (j + 1)).foldl (fun b y => if f y b = true then y else b) x = (if f L[j] ((L.take j).foldl (fun b y => if f y b = true then y else b) x) = true then L[j] else ((L.take j).foldl (fun b y => if f y b = true then y else b) x)) := by
  rw [show L.take (j + 1) = L.take j ++ [L[j]] by rw [List.take_add_one]; simp [hj]]
  simp only [List.foldl_append, List.foldl_cons, List.foldl_nil]
theorem foldl_mem (f : Int × Rep → Int × Rep → Bool) : ∀ (l : List (Int × Rep)) (x : Int × Rep), l.foldl (fun b y => if f y b = true then y else b) x ∈ x :: l
  | [], x => .head _
  | y :: l, x => by
    rw [List.foldl_cons]
    have := foldl_mem f l (if f y x = true then y else x)
    by_cases q : f y x = true
    · rw [if_pos q] at this ⊢
      exact .tail _ this
    · rw [if_neg q] at this ⊢
      rcases List.mem_cons.mp this with h | h
      · rw [h]; exact .head _
      · exact .tail _ (.tail _ h)

theorem max_cmp {E : Value → Shared → Prop} {s : Shared} {p q : Int × Rep} {v u : Value} {Q : Value → Shared → Prop} (X : Sat P O s) (hv : (pairT p).h P v) (hu : (pairT q).h P u) (hne : p.1 ≠ q.1) (hr : A.units < cLine) (h : Q (.bool (decide (q.1 < p.1))) s) :
    wpAny (model prog w) A (richCompare .Gt v u) Q E s := by
  obtain ⟨a, ta, ya, na, rfl, ga, _⟩ := pairT.obj hv
  obtain ⟨b, tb, yb, nb, rfl, gb, _⟩ := pairT.obj hu
  have Ta : s.TypeIs (.ref a) "tuple" := ⟨_, X.per _ _ ga, rfl⟩
  have Tb : s.TypeIs (.ref b) "tuple" := ⟨_, X.per _ _ gb, rfl⟩
  refine wpAny_richCompare_same_room Ta Tb F.slot_tuple_gt (wpAny_call_entry F.slot_tuple_gt Ta F.entry_tuple_gt ?_ (F.args_tuple_gt_2 _ _)) hr
  have hsub : isSubtype (.type "tuple") (.type "tuple") = (pure true : Sem Bool) := by rw [isSubtype_type]; kernel_rfl
  show wpAny _ _ (isInstance (.ref b) (.type "tuple") >>= _) _ _ s
  refine wpAny_bind (wpAny_isInstance (T := "tuple") (b := true) Tb hsub ?_)
  show wpAny _ _ (Builtin.Tuple.tupleItemsOf (.ref a) >>= _) _ _ s
  refine wpAny_bind (wpAny_tupleItemsOf (X.per _ _ ga) rfl ?_)
  refine wpAny_bind (wpAny_tupleItemsOf (X.per _ _ gb) rfl ?_)
  show wpAny _ _ (forIn [(Value.int p.1 ta, Value.int q.1 tb), (ya, yb)] (none, ()) _ >>= _) _ _ s
  rw [List.forIn_cons]
  refine wpAny_bind (wpAny_bind (wpAny_bind (wpAny_eqBool_int ?_)))
  rw [show (p.1 == q.1) = false by simpa using hne]
  simp only [Bool.not_false, if_true]
  refine wpAny_bind (wpAny_rule (wpAny_bind ?_))
  refine gt_int ?_
  refine wpAny_bind (wpAny_pure (wpAny_pure (wpAny_pure ?_)))
  exact wpAny_pure ⟨_, rfl, (fun e => nomatch e), h⟩

theorem max_plain : plainId "max.loop" = true := by decide +kernel
theorem max_entry : entryFor table "max.loop" = some Builtin.«max.loop» := entryFor_of_fast (by kernel_rfl)
noncomputable def maxB (y x : Int × Rep) : Bool := decide (x.1 < y.1)
noncomputable def maxOf (L : List (Int × Rep)) : Int × Rep := match L with | [] => (0, RAny) | x :: L => L.foldl (fun b y => if maxB y b = true then y else b) x
theorem maxLoop {S I l : Addr} {vs : List Value} {n : Nat} {x0 : Int × Rep} {L : List (Int × Rep)} {R : Result → Shared → Prop} (hA : A.handled = none) (hu : A.units + 1 < cLine) (hl : P.get l = some ⟨.type "list", none, .seq vs.toArray n, #[]⟩) (hr : Reps P ((x0 :: L).map pairT) vs) (hn : ((x0 :: L).map (·.1)).Nodup)
    (hR : ∀ s' P' v, P.le P' → Sat P' O s' → (pairT (maxOf (x0 :: L))).h P' v → R (.ok (.ret v)) s') :
    ∀ (k j : Nat) (s : Shared) (P1 : Part) (vb : Value), L.length - j = k → j ≤ L.length → P.le P1 → Sat P1 (lisU I l (j + 1) :: listU S [vb, vb] :: O) s → (pairT (maxOf (x0 :: L.take j))).h P1 vb →
      codeAny (model prog w) A (.builtin "max.loop" ⟨[.ref I, .none, .ref S], []⟩) R s := by
  have hname : (toString "max" ++ toString ".loop" : String) = "max.loop" := by decide
  have hlen : vs.length = L.length + 1 := by rw [hr.length]; simp
  intro k
  induction k with
  | zero =>
    intro j s P1 vb hk hj l1 X rb
    have hin : j = L.length := by omega
    subst hin
    refine codeAny_builtin max_entry ?_
    rw [Around.under_plainId max_plain _]
    obtain ⟨c, hS⟩ := X.own _ (.tail _ (.head _))
    have hL : s.heap.IsList l vs.toArray := ⟨_, X.per _ _ (l1.2 _ _ hl), rfl, n, rfl⟩
    show wpAny _ A.in1 (seqItems? (.ref S) >>= _) _ _ s
    refine wpAny_bind (wpAny_seqItems hS rfl ?_)
    show wpAny _ A.in1 (tryCatch (pyNext (.ref I)) _ >>= _) _ _ s
    refine wpAny_bind (wpAny_tryCatch (wpAny_pyNext_list_end hA (X.own _ (.head _)) hL (by simp [hlen]) fun h' hx => ?_))
    have X1 : Sat P1 (listU S [vb, vb] :: O) { s with heap := h' } := X.lose (Nat.le_refl _) fun b o hb e => hx b o (fun q => hb (by rw [q]; exact .head _)) e
    obtain ⟨c1, hS1⟩ := X1.own _ (.head _)
    show wpAny _ A.in1 (updateSeq S (fun _ => #[]) >>= _) _ _ _
    refine wpAny_bind (wpAny_updateSeq hS1 rfl (wpAny_bind (wpAny_letGo (wpAny_pure ?_))))
    rw [List.take_length] at rb
    refine hR _ P1 vb l1 ?_ rb
    exact X1.lose (Nat.le_refl _) fun b o hb e => (Heap.get?_update_other _ _ (fun q : S = b => hb (by rw [q]; exact .head _))).trans e
  | succ k ih =>
    intro j s P1 vb hk hj l1 X rb
    have hlt : j < L.length := by omega
    refine codeAny_builtin max_entry ?_
    rw [Around.under_plainId max_plain _]
    obtain ⟨c, hS⟩ := X.own _ (.tail _ (.head _))
    have hL : s.heap.IsList l vs.toArray := ⟨_, X.per _ _ (l1.2 _ _ hl), rfl, n, rfl⟩
    have hv : vs[j + 1]? = some vs[j + 1] := by simp [hlen, hlt]
    show wpAny _ A.in1 (seqItems? (.ref S) >>= _) _ _ s
    refine wpAny_bind (wpAny_seqItems hS rfl ?_)
    show wpAny _ A.in1 (tryCatch (pyNext (.ref I)) _ >>= _) _ _ s
    refine wpAny_bind (wpAny_tryCatch (wpAny_pyNext_list_item (X.own _ (.head _)) hL (x := vs[j + 1]) (by simp) fun h' hit hs => ?_))
    have X1 : Sat P1 (lisU I l (j + 1 + 1) :: listU S [vb, vb] :: O) { s with heap := h' } := X.turn (Nat.le_refl _) (fun b o hb e => (hs.2 b (fun q => hb (by rw [q]; exact .head _))).trans e) (fun a ha => .inl ha) (List.nodup_cons.mpr ⟨by simp, .nil⟩) hit
    obtain ⟨r, er, hrr⟩ := (hr.mono l1).of_get hv
    have er' : r = pairT L[j] := by
      simp [hlt] at er; exact er.symm
    subst er'
    have hmem : maxOf (x0 :: L.take j) ∈ x0 :: L.take j := foldl_mem _ _ _
    have hne : L[j].1 ≠ (maxOf (x0 :: L.take j)).1 := by
      intro q
      obtain ⟨i, hi, ei⟩ := List.getElem_of_mem hmem
      have hi' : i < j + 1 := by simpa [Nat.min_eq_left (Nat.le_of_lt hlt)] using hi
      have e1 : (x0 :: L)[i]'(by simp; omega) = maxOf (x0 :: L.take j) := by
        rw [← ei]
        cases i with
        | zero => rfl
        | succ i => simp
      have h2 : ((x0 :: L).map (·.1))[j + 1]'(by simp; omega) = ((x0 :: L).map (·.1))[i]'(by simp; omega) := by
        simp only [List.getElem_map, e1, List.getElem_cons_succ]; exact q
      have := (List.getElem_inj hn).mp h2
      omega
    have hstep : maxOf (x0 :: L.take (j + 1)) = if maxB L[j] (maxOf (x0 :: L.take j)) = true then L[j] else maxOf (x0 :: L.take j) := bestStep hlt x0
    obtain ⟨c1, hS1⟩ := X1.own _ (.tail _ (.head _))
    show wpAny _ A.in1 (tryCatch (PySem.holding [vs[j + 1], vs[j + 1]] (richCompare .Gt vs[j + 1] vb >>= _)) _ >>= _) _ _ _
    refine wpAny_bind (wpAny_tryCatch (wpAny_holding (wpAny_bind (max_cmp X1 hrr rb hne hu ?_))))
    refine wpAny_bind (wpAny_holding (wpAny_truthy_bool ?_))
    refine wpAny_bind (wpAny_letGo (wpAny_pure ?_))
    cases hb : maxB L[j] (maxOf (x0 :: L.take j)) with
    | true =>
      have hb' : decide ((maxOf (x0 :: L.take j)).1 < L[j].1) = true := hb
      rw [hb']
      simp only [if_true]
      refine wpAny_bind (wpAny_updateSeq hS1 rfl (wpAny_bind (wpAny_letGo ?_)))
      rw [hname]
      refine wpAny_pure ⟨plainId_quiet max_plain _, ih (j + 1) _ P1 vs[j + 1] (by omega) hlt l1 ?_ (by rw [hstep, hb, if_pos rfl]; exact hrr)⟩
      exact X1.upd (.tail .head) (Nat.le_refl _) (fun b o hb e => (Heap.get?_update_other _ _ (fun q : S = b => hb (by rw [q]; exact .head _))).trans e) (fun a ha => .inl ha) (List.nodup_cons.mpr ⟨by simp, .nil⟩) ⟨_, Heap.get?_update_self _ hS1 rfl⟩
    | false =>
      have hb' : decide ((maxOf (x0 :: L.take j)).1 < L[j].1) = false := hb
      rw [hb']
      simp only [Bool.false_eq_true, if_false]
      refine wpAny_bind (wpAny_letGo ?_)
      rw [hname]
      exact wpAny_pure ⟨plainId_quiet max_plain _, ih (j + 1) _ P1 vb (by omega) hlt l1 X1 (by rw [hstep, hb, if_neg Bool.false_ne_true]; exact rb)⟩

/-- max of a list of pairs -/
theorem g_maxPairs {x0 : Int × Rep} {L : List (Int × Rep)} (hA : A.handled = none) (hu : A.units + 1 < cLine) (hv : (RList ((x0 :: L).map pairT)).h P v) (hn : ((x0 :: L).map (·.1)).Nodup) : Gv prog w A (call (.builtin "max") [v]) P O (pairT (maxOf (x0 :: L))) := by
  obtain ⟨l, vs, n, rfl, gl, r⟩ := hv
  have hlen : vs.toList.length = L.length + 1 := by rw [r.length]; simp
  have hname : (toString "max" ++ toString ".loop" : String) = "max.loop" := by decide
  refine Do.mk fun s X => call_function_tree F.kind_max F.plain_max F.entry_max (F.args_max1 _) ?_
  show wpAny _ A.in1 (Builtin.Builtins.bindParams "max" ["key", "default"] 0 ⟨[], []⟩ >>= _) _ _ s
  refine wpAny_bind (wpAny_of_eq (show Builtin.Builtins.bindParams "max" ["key", "default"] 0 ⟨[], []⟩ = pure [none, none] from rfl) ?_)
  refine wpAny_bind (wpAny_pure ?_)
  have hL : s.heap.IsList l vs := ⟨_, X.per _ _ gl, rfl, n, rfl⟩
  refine wpAny_bind (wpAny_pyIter_list hL ?_)
  refine wpAny_bind (wpAny_newObj_type ?_)
  have X1 : Sat P (lisU s.heap.objs.size l 0 :: O) { s with heap := s.heap.push { cls := .type "list_iterator", data := .fields #[.ref l, .int 0 0] } } :=
    X.push (tk := s.toks) (Nat.le_refl _) (push_keep _ _) (fun a ha => by cases ha with | head => exact fresh_size _ | tail _ q => cases q) (List.nodup_cons.mpr ⟨by simp, .nil⟩) ⟨_, Heap.get?_push_size _ rfl, rfl, rfl⟩
  generalize s.heap.objs.size = I at X1
  generalize s.heap.push { cls := .type "list_iterator", data := .fields #[.ref l, .int 0 0] } = h1 at X1
  have X2 : Sat P (listU h1.objs.size [] :: lisU I l 0 :: O) { s with heap := h1.push { cls := .type "list", data := .seq #[] } } :=
    X1.push (s := { s with heap := h1 }) (tk := s.toks) (Nat.le_refl _) (push_keep _ _) (fun a ha => by cases ha with | head => exact fresh_size _ | tail _ q => cases q) (List.nodup_cons.mpr ⟨by simp, .nil⟩) ⟨_, Heap.get?_push_size _ rfl⟩
  have X3 : Sat P (lisU I l 0 :: listU h1.objs.size [] :: O) { s with heap := h1.push { cls := .type "list", data := .seq #[] } } := X2.perm (List.Perm.swap _ _ _)
  generalize h1.objs.size = S at X3
  rw [hname]
  refine wpAny_pure ⟨plainId_quiet max_plain _, codeAny_builtin max_entry ?_⟩
  rw [Around.under_plainId max_plain _]
  obtain ⟨c, hS⟩ := X3.own _ (.tail _ (.head _))
  have hL3 : (h1.push { cls := .type "list", data := .seq #[] }).IsList l vs := ⟨_, X3.per _ _ gl, rfl, n, rfl⟩
  have hv : vs.toList[0]? = some (vs.toList[0]'(by omega)) := by rw [List.getElem?_eq_getElem]
  show wpAny _ A.in1 (seqItems? (.ref S) >>= _) _ _ _
  refine wpAny_bind (wpAny_seqItems hS rfl ?_)
  show wpAny _ A.in1 (tryCatch (pyNext (.ref I)) _ >>= _) _ _ _
  refine wpAny_bind (wpAny_tryCatch (wpAny_pyNext_list_item (X3.own _ (.head _)) hL3 (x := vs.toList[0]'(by omega)) (by simp) fun h' hit hs => ?_))
  have X4 : Sat P (lisU I l 1 :: listU S [] :: O) { s with heap := h' } := X3.turn (Nat.le_refl _) (fun b o hb e => (hs.2 b (fun q => hb (by rw [q]; exact .head _))).trans e) (fun a ha => .inl ha) (List.nodup_cons.mpr ⟨by simp, .nil⟩) hit
  obtain ⟨c4, hS4⟩ := X4.own _ (.tail _ (.head _))
  obtain ⟨r0, er, hrr⟩ := r.of_get hv
  have er' : r0 = pairT x0 := by simpa using er.symm
  subst er'
  refine wpAny_bind (wpAny_pure ?_)
  show wpAny _ A.in1 (updateSeq S (fun _ => #[_, _]) >>= _) _ _ _
  refine wpAny_bind (wpAny_updateSeq hS4 rfl ?_)
  rw [hname]
  refine wpAny_pure ⟨plainId_quiet max_plain _, maxLoop (P := P) (O := O) (L := L) (x0 := x0) (vs := vs.toList) (n := n) (l := l) hA hu (by simpa using gl) r hn (fun s' P' v l' X' rv => ⟨P', O, l', X', rfl, rv⟩) L.length 0 _ P (vs.toList[0]'(by omega)) (Nat.sub_zero _) (Nat.zero_le _) (.refl P) ?_ (by rw [List.take_zero]; exact hrr)⟩
  exact X4.upd (.tail .head) (Nat.le_refl _) (fun b o hb e => (Heap.get?_update_other _ _ (fun q : S = b => hb (by rw [q]; exact .head _))).trans e) (fun a ha => .inl ha) (List.nodup_cons.mpr ⟨by simp, .nil⟩) ⟨_, Heap.get?_update_self _ hS4 rfl⟩

theorem min_cmp {E : Value → Shared → Prop} {s : Shared} {p q : Int × Rep} {v u : Value} {Q : Value → Shared → Prop} (X : Sat P O s) (hv : (pairT p).h P v) (hu : (pairT q).h P u) (hne : p.1 ≠ q.1) (hr : A.units < cLine) (h : Q (.bool (decide (p.1 < q.1))) s) :
    wpAny (model prog w) A (richCompare .Lt v u) Q E s := by
  obtain ⟨a, ta, ya, na, rfl, ga, _⟩ := pairT.obj hv
  obtain ⟨b, tb, yb, nb, rfl, gb, _⟩ := pairT.obj hu
  have Ta : s.TypeIs (.ref a) "tuple" := ⟨_, X.per _ _ ga, rfl⟩
  have Tb : s.TypeIs (.ref b) "tuple" := ⟨_, X.per _ _ gb, rfl⟩
  refine wpAny_richCompare_same_room Ta Tb F.slot_tuple_lt (wpAny_call_entry F.slot_tuple_lt Ta F.entry_tuple_lt ?_ (F.args_tuple_lt_2 _ _)) hr
  have hsub : isSubtype (.type "tuple") (.type "tuple") = (pure true : Sem Bool) := by rw [isSubtype_type]; kernel_rfl
  show wpAny _ _ (isInstance (.ref b) (.type "tuple") >>= _) _ _ s
  refine wpAny_bind (wpAny_isInstance (T := "tuple") (b := true) Tb hsub ?_)
  show wpAny _ _ (Builtin.Tuple.tupleItemsOf (.ref a) >>= _) _ _ s
  refine wpAny_bind (wpAny_tupleItemsOf (X.per _ _ ga) rfl ?_)
  refine wpAny_bind (wpAny_tupleItemsOf (X.per _ _ gb) rfl ?_)
  show wpAny _ _ (forIn [(Value.int p.1 ta, Value.int q.1 tb), (ya, yb)] (none, ()) _ >>= _) _ _ s
  rw [List.forIn_cons]
  refine wpAny_bind (wpAny_bind (wpAny_bind (wpAny_eqBool_int ?_)))
  rw [show (p.1 == q.1) = false by simpa using hne]
  simp only [Bool.not_false, if_true]
  refine wpAny_bind (wpAny_rule (wpAny_bind ?_))
  refine lt_int ?_
  refine wpAny_bind (wpAny_pure (wpAny_pure (wpAny_pure ?_)))
  exact wpAny_pure ⟨_, rfl, (fun e => nomatch e), h⟩

theorem min_plain : plainId "min.loop" = true := by decide +kernel
theorem min_entry : entryFor table "min.loop" = some Builtin.«min.loop» := entryFor_of_fast (by kernel_rfl)
noncomputable def minB (y x : Int × Rep) : Bool := decide (y.1 < x.1)
noncomputable def minOf (L : List (Int × Rep)) : Int × Rep := match L with | [] => (0, RAny) | x :: L => L.foldl (fun b y => if minB y b = true then y else b) x
theorem minLoop {S I l : Addr} {vs : List Value} {n : Nat} {x0 : Int × Rep} {L : List (Int × Rep)} {R : Result → Shared → Prop} (hA : A.handled = none) (hu : A.units + 1 < cLine) (hl : P.get l = some ⟨.type "list", none, .seq vs.toArray n, #[]⟩) (hr : Reps P ((x0 :: L).map pairT) vs) (hn : ((x0 :: L).map (·.1)).Nodup)
    (hR : ∀ s' P' v, P.le P' → Sat P' O s' → (pairT (minOf (x0 :: L))).h P' v → R (.ok (.ret v)) s') :
    ∀ (k j : Nat) (s : Shared) (P1 : Part) (vb : Value), L.length - j = k → j ≤ L.length → P.le P1 → Sat P1 (lisU I l (j + 1) :: listU S [vb, vb] :: O) s → (pairT (minOf (x0 :: L.take j))).h P1 vb →
      codeAny (model prog w) A (.builtin "min.loop" ⟨[.ref I, .none, .ref S], []⟩) R s := by
  have hname : (toString "min" ++ toString ".loop" : String) = "min.loop" := by decide
  have hlen : vs.length = L.length + 1 := by rw [hr.length]; simp
  intro k
  induction k with
  | zero =>
    intro j s P1 vb hk hj l1 X rb
    have hin : j = L.length := by omega
    subst hin
    refine codeAny_builtin min_entry ?_
    rw [Around.under_plainId min_plain _]
    obtain ⟨c, hS⟩ := X.own _ (.tail _ (.head _))
    have hL : s.heap.IsList l vs.toArray := ⟨_, X.per _ _ (l1.2 _ _ hl), rfl, n, rfl⟩
    show wpAny _ A.in1 (seqItems? (.ref S) >>= _) _ _ s
    refine wpAny_bind (wpAny_seqItems hS rfl ?_)
    show wpAny _ A.in1 (tryCatch (pyNext (.ref I)) _ >>= _) _ _ s
    refine wpAny_bind (wpAny_tryCatch (wpAny_pyNext_list_end hA (X.own _ (.head _)) hL (by simp [hlen]) fun h' hx => ?_))
    have X1 : Sat P1 (listU S [vb, vb] :: O) { s with heap := h' } := X.lose (Nat.le_refl _) fun b o hb e => hx b o (fun q => hb (by rw [q]; exact .head _)) e
    obtain ⟨c1, hS1⟩ := X1.own _ (.head _)
    show wpAny _ A.in1 (updateSeq S (fun _ => #[]) >>= _) _ _ _
    refine wpAny_bind (wpAny_updateSeq hS1 rfl (wpAny_bind (wpAny_letGo (wpAny_pure ?_))))
    rw [List.take_length] at rb
    refine hR _ P1 vb l1 ?_ rb
    exact X1.lose (Nat.le_refl _) fun b o hb e => (Heap.get?_update_other _ _ (fun q : S = b => hb (by rw [q]; exact .head _))).trans e
  | succ k ih =>
    intro j s P1 vb hk hj l1 X rb
    have hlt : j < L.length := by omega
    refine codeAny_builtin min_entry ?_
    rw [Around.under_plainId min_plain _]
    obtain ⟨c, hS⟩ := X.own _ (.tail _ (.head _))
    have hL : s.heap.IsList l vs.toArray := ⟨_, X.per _ _ (l1.2 _ _ hl), rfl, n, rfl⟩
    have hv : vs[j + 1]? = some vs[j + 1] := by simp [hlen, hlt]
    show wpAny _ A.in1 (seqItems? (.ref S) >>= _) _ _ s
    refine wpAny_bind (wpAny_seqItems hS rfl ?_)
    show wpAny _ A.in1 (tryCatch (pyNext (.ref I)) _ >>= _) _ _ s
    refine wpAny_bind (wpAny_tryCatch (wpAny_pyNext_list_item (X.own _ (.head _)) hL (x := vs[j + 1]) (by simp) fun h' hit hs => ?_))
    have X1 : Sat P1 (lisU I l (j + 1 + 1) :: listU S [vb, vb] :: O) { s with heap := h' } := X.turn (Nat.le_refl _) (fun b o hb e => (hs.2 b (fun q => hb (by rw [q]; exact .head _))).trans e) (fun a ha => .inl ha) (List.nodup_cons.mpr ⟨by simp, .nil⟩) hit
    obtain ⟨r, er, hrr⟩ := (hr.mono l1).of_get hv
    have er' : r = pairT L[j] := by
      simp [hlt] at er; exact er.symm
    subst er'
    have hmem : minOf (x0 :: L.take j) ∈ x0 :: L.take j := foldl_mem _ _ _
    have hne : L[j].1 ≠ (minOf (x0 :: L.take j)).1 := by
      intro q
      obtain ⟨i, hi, ei⟩ := List.getElem_of_mem hmem
      have hi' : i < j + 1 := by simpa [Nat.min_eq_left (Nat.le_of_lt hlt)] using hi
      have e1 : (x0 :: L)[i]'(by simp; omega) = minOf (x0 :: L.take j) := by
        rw [← ei]
        cases i with
        | zero => rfl
        | succ i => simp
      have h2 : ((x0 :: L).map (·.1))[j + 1]'(by simp; omega) = ((x0 :: L).map (·.1))[i]'(by simp; omega) := by
        simp only [List.getElem_map, e1, List.getElem_cons_succ]; exact q
      have := (List.getElem_inj hn).mp h2
      omega
    have hstep : minOf (x0 :: L.take (j + 1)) = if minB L[j] (minOf (x0 :: L.take j)) = true then L[j] else minOf (x0 :: L.take j) := bestStep hlt x0
    obtain ⟨c1, hS1⟩ := X1.own _ (.tail _ (.head _))
    show wpAny _ A.in1 (tryCatch (PySem.holding [vs[j + 1], vs[j + 1]] (richCompare .Lt vs[j + 1] vb >>= _)) _ >>= _) _ _ _
    refine wpAny_bind (wpAny_tryCatch (wpAny_holding (wpAny_bind (min_cmp X1 hrr rb hne hu ?_))))
    refine wpAny_bind (wpAny_holding (wpAny_truthy_bool ?_))
    refine wpAny_bind (wpAny_letGo (wpAny_pure ?_))
    cases hb : minB L[j] (minOf (x0 :: L.take j)) with
    | true =>
      have hb' : decide (L[j].1 < (minOf (x0 :: L.take j)).1) = true := hb
      rw [hb']
      simp only [if_true]
      refine wpAny_bind (wpAny_updateSeq hS1 rfl (wpAny_bind (wpAny_letGo ?_)))
      rw [hname]
      refine wpAny_pure ⟨plainId_quiet min_plain _, ih (j + 1) _ P1 vs[j + 1] (by omega) hlt l1 ?_ (by rw [hstep, hb, if_pos rfl]; exact hrr)⟩
      exact X1.upd (.tail .head) (Nat.le_refl _) (fun b o hb e => (Heap.get?_update_other _ _ (fun q : S = b => hb (by rw [q]; exact .head _))).trans e) (fun a ha => .inl ha) (List.nodup_cons.mpr ⟨by simp, .nil⟩) ⟨_, Heap.get?_update_self _ hS1 rfl⟩
    | false =>
      have hb' : decide (L[j].1 < (minOf (x0 :: L.take j)).1) = false := hb
      rw [hb']
      simp only [Bool.false_eq_true, if_false]
      refine wpAny_bind (wpAny_letGo ?_)
      rw [hname]
      exact wpAny_pure ⟨plainId_quiet min_plain _, ih (j + 1) _ P1 vb (by omega) hlt l1 X1 (by rw [hstep, hb, if_neg Bool.false_ne_true]; exact rb)⟩

/-- min of a list of pairs -/
theorem g_minPairs {x0 : Int × Rep} {L : List (Int × Rep)} (hA : A.handled = none) (hu : A.units + 1 < cLine) (hv : (RList ((x0 :: L).map pairT)).h P v) (hn : ((x0 :: L).map (·.1)).Nodup) : Gv prog w A (call (.builtin "min") [v]) P O (pairT (minOf (x0 :: L))) := by
  obtain ⟨l, vs, n, rfl, gl, r⟩ := hv
  have hlen : vs.toList.length = L.length + 1 := by rw [r.length]; simp
  have hname : (toString "min" ++ toString ".loop" : String) = "min.loop" := by decide
  refine Do.mk fun s X => call_function_tree F.kind_min F.plain_min F.entry_min (F.args_min1 _) ?_
  show wpAny _ A.in1 (Builtin.Builtins.bindParams "min" ["key", "default"] 0 ⟨[], []⟩ >>= _) _ _ s
  refine wpAny_bind (wpAny_of_eq (show Builtin.Builtins.bindParams "min" ["key", "default"] 0 ⟨[], []⟩ = pure [none, none] from rfl) ?_)
  refine wpAny_bind (wpAny_pure ?_)
  have hL : s.heap.IsList l vs := ⟨_, X.per _ _ gl, rfl, n, rfl⟩
  refine wpAny_bind (wpAny_pyIter_list hL ?_)
  refine wpAny_bind (wpAny_newObj_type ?_)
  have X1 : Sat P (lisU s.heap.objs.size l 0 :: O) { s with heap := s.heap.push { cls := .type "list_iterator", data := .fields #[.ref l, .int 0 0] } } :=
    X.push (tk := s.toks) (Nat.le_refl _) (push_keep _ _) (fun a ha => by cases ha with | head => exact fresh_size _ | tail _ q => cases q) (List.nodup_cons.mpr ⟨by simp, .nil⟩) ⟨_, Heap.get?_push_size _ rfl, rfl, rfl⟩
  generalize s.heap.objs.size = I at X1
  generalize s.heap.push { cls := .type "list_iterator", data := .fields #[.ref l, .int 0 0] } = h1 at X1
  have X2 : Sat P (listU h1.objs.size [] :: lisU I l 0 :: O) { s with heap := h1.push { cls := .type "list", data := .seq #[] } } :=
    X1.push (s := { s with heap := h1 }) (tk := s.toks) (Nat.le_refl _) (push_keep _ _) (fun a ha => by cases ha with | head => exact fresh_size _ | tail _ q => cases q) (List.nodup_cons.mpr ⟨by simp, .nil⟩) ⟨_, Heap.get?_push_size _ rfl⟩
  have X3 : Sat P (lisU I l 0 :: listU h1.objs.size [] :: O) { s with heap := h1.push { cls := .type "list", data := .seq #[] } } := X2.perm (List.Perm.swap _ _ _)
  generalize h1.objs.size = S at X3
  rw [hname]
  refine wpAny_pure ⟨plainId_quiet min_plain _, codeAny_builtin min_entry ?_⟩
  rw [Around.under_plainId min_plain _]
  obtain ⟨c, hS⟩ := X3.own _ (.tail _ (.head _))
  have hL3 : (h1.push { cls := .type "list", data := .seq #[] }).IsList l vs := ⟨_, X3.per _ _ gl, rfl, n, rfl⟩
  have hv : vs.toList[0]? = some (vs.toList[0]'(by omega)) := by rw [List.getElem?_eq_getElem]
  show wpAny _ A.in1 (seqItems? (.ref S) >>= _) _ _ _
  refine wpAny_bind (wpAny_seqItems hS rfl ?_)
  show wpAny _ A.in1 (tryCatch (pyNext (.ref I)) _ >>= _) _ _ _
  refine wpAny_bind (wpAny_tryCatch (wpAny_pyNext_list_item (X3.own _ (.head _)) hL3 (x := vs.toList[0]'(by omega)) (by simp) fun h' hit hs => ?_))
  have X4 : Sat P (lisU I l 1 :: listU S [] :: O) { s with heap := h' } := X3.turn (Nat.le_refl _) (fun b o hb e => (hs.2 b (fun q => hb (by rw [q]; exact .head _))).trans e) (fun a ha => .inl ha) (List.nodup_cons.mpr ⟨by simp, .nil⟩) hit
  obtain ⟨c4, hS4⟩ := X4.own _ (.tail _ (.head _))
  obtain ⟨r0, er, hrr⟩ := r.of_get hv
  have er' : r0 = pairT x0 := by simpa using er.symm
  subst er'
  refine wpAny_bind (wpAny_pure ?_)
  show wpAny _ A.in1 (updateSeq S (fun _ => #[_, _]) >>= _) _ _ _
  refine wpAny_bind (wpAny_updateSeq hS4 rfl ?_)
  rw [hname]
  refine wpAny_pure ⟨plainId_quiet min_plain _, minLoop (P := P) (O := O) (L := L) (x0 := x0) (vs := vs.toList) (n := n) (l := l) hA hu (by simpa using gl) r hn (fun s' P' v l' X' rv => ⟨P', O, l', X', rfl, rv⟩) L.length 0 _ P (vs.toList[0]'(by omega)) (Nat.sub_zero _) (Nat.zero_le _) (.refl P) ?_ (by rw [List.take_zero]; exact hrr)⟩
  exact X4.upd (.tail .head) (Nat.le_refl _) (fun b o hb e => (Heap.get?_update_other _ _ (fun q : S = b => hb (by rw [q]; exact .head _))).trans e) (fun a ha => .inl ha) (List.nodup_cons.mpr ⟨by simp, .nil⟩) ⟨_, Heap.get?_update_self _ hS4 rfl⟩
end
end

section
section
variable {prog : Program} {w : World} {A : Around} {env : Env} {P : Part} {O O' : List U} {R R1 R2 R3 : Rep} {pos : Pos} {v u z : Value} {Φ : Flow → Part → List U → Prop} {rest : List Stmt} {K : Frag}

theorem idxOf_of_get {l : List Nat} {c i : Nat} (hn : l.Nodup) (h : l[i]? = some c) : l.idxOf c = i := by
  obtain ⟨hi, e⟩ := List.getElem?_eq_some_iff.mp h
  rw [← e]; exact hn.idxOf_getElem i hi
theorem occ_idx {l : List Nat} {c : Nat} (hn : l.Nodup) (hc : c ∈ l) : ∃ rest, Builtin.Str.occurrences (S l) (S [c]) 0 (S l).length 1 = l.idxOf c :: rest := by
  have h := occ_S l c
  have hspec := StrLaws.occ_spec (S l) (S [c]) 0 (S l).length 1
  unfold occ at h
  rw [decide_eq_true hc] at h
  generalize Builtin.Str.occurrences (S l) (S [c]) 0 (S l).length 1 = q at h hspec
  cases q with
  | nil => simp at h
  | cons i rest =>
    have h2 := hspec i (.head _)
    have h3 := (StrLaws.subAt_one (S l) c i).mp h2
    have h4 : l[i]? = some c := by simpa [S] using h3
    exact ⟨rest, by rw [idxOf_of_get hn h4]⟩
theorem ev_idx {l : List Nat} {c : Nat} {o e : Expr} {apos : Pos} (hn : l.Nodup) (hc : c ∈ l) (ho : Ev prog w A env o P O (RStr (S l))) (he : Ev prog w A env e P O (RStr (S [c])))
    (hbase : attributeBase o "index" env (eval o env) = eval o env := by rfl) (hline : (apos.endLine == pos.line) = true := by rfl) (hs : starEach [e] env = [(false, eval e env)] := by rfl) :
    Ev prog w A env (.Call (.Attribute o "index" apos) [e] [] pos) P O (RInt (l.idxOf c)) := ev_index ho he (occ_idx hn hc) hbase hline hs

theorem ev_neg {i : Int} {e : Expr} (h : Ev prog w A env e P O (RInt i)) : Ev prog w A env (.UnaryOp .USub e pos) P O (RInt (-i)) := fun P' l => Do.mk fun s X =>
  wpAny_UnaryOp (wpAny_mono ((h P' l).run s X) (fun v s1 ⟨P1, O1, l1, X1, e1, t, r1⟩ => by
    subst r1; subst e1
    exact wpAny_mono (PyProof.Rows.neg_int (Q := fun v s' => ∃ P2 O2, P1.le P2 ∧ Sat P2 O2 s' ∧ O2 = O1 ∧ (RInt (-i)).h P2 v) ⟨P1, O1, .refl _, X1.toks (Nat.le_succ _), rfl, _, rfl⟩) (fun v s2 ⟨P2, O2, l2, X2, q⟩ => ⟨P2, O2, l1.trans l2, X2, q⟩) fun _ _ e => e) fun _ _ e => e)

theorem picked_gen {α : Type} (d : α) (l : List α) (f : α → Bool) (g : α → Rep) : picked l.length (fun i => f (l.getD i d)) (fun i => g (l.getD i d)) = (l.filter f).map g := by
  have e2 : (List.range l.length).map (fun i => l.getD i d) = l := by
    apply List.ext_getElem
    · simp
    · intro i h1 h2
      simp at h1
      simp [h1]
  unfold picked
  conv => rhs; rw [← e2]
  rw [List.filter_map, List.map_map]
  rfl
theorem i_listG {α : Type} {l : List α} {d : α} {RR : α → Rep} {target : Expr} (hA : A.handled = none) (hv : (RList (l.map RR)).h P v) (ht : ∀ z v, letOwnedTupleGo target z v = PySem.Sem.pure () := by intro _ _; rfl) : IterOf prog w A target v P O l.length (fun i => RR (l.getD i d)) := by
  have := i_list (prog := prog) (w := w) (O := O) (target := target) hA hv ht
  rw [List.length_map] at this
  exact IterOf.items this fun i hi => by simp [hi]
theorem getD_memG {α : Type} {l : List α} {d : α} {i : Nat} (h : i < l.length) : l.getD i d ∈ l := by
  have e : l.getD i d = l[i] := by simp [h]
  rw [e]; exact List.getElem_mem h
/-- a block over the things of a row -/
theorem ev_compG {α : Type} {d : α} {elt iter : Expr} {x : Str} {px : Pos} {ifs : List Expr} {scope : Scope} {cl : List (Str × Addr)} {l : List α} {RR : α → Rep} (keep : α → Bool) (out : α → Rep)
    (hv : Ev prog w A env iter P O R1) (hi : ∀ P' v, P.le P' → R1.h P' v → IterOf prog w A (.Name x px) v P' O l.length (fun i => RR (l.getD i d))) (hz : l.length ≤ sizeLine)
    (htest : ∀ c v P' u C D acc, c ∈ l → P.le P' → (RR c).h P' v → TstL prog w A (compEnvC scope cl C env) ifs P' (u :: frameU C [x] [some v] :: listU D acc :: O) (keep c))
    (helt : ∀ c v P' u C D acc, c ∈ l → keep c = true → P.le P' → (RR c).h P' v → Ev prog w A (compEnvC scope cl C env) elt P' (u :: frameU C [x] [some v] :: listU D acc :: O) (out c))
    (hclos : closureFor scope env = PySem.Sem.pure cl := by rfl) (hcell : ∀ y ∈ scope.names, y.2 ≠ .cell := by decide) (hkind : scope.kind = .function := by rfl) (hnames : ∀ y ∈ scope.names, y.2 = .local → scope.names.lookup y.1 = some .local := by decide)
    (hx : scope.names.lookup x = some .local := by rfl) (hs : ∀ x, foldedSetIterable iter env x = PySem.Sem.pure x := by intro _; rfl) :
    Ev prog w A env (.ListComp elt [⟨.Name x px, iter, ifs, 0⟩] scope pos) P O (RList ((l.filter keep).map out)) := by
  rw [← picked_gen d]
  exact ev_comp1 (item := fun j => RR (l.getD j d)) _ _ hv hi hz (fun i v P' u C D acc hi l' r => htest _ v P' u C D acc (getD_memG hi) l' r) (fun i v P' u C D acc hi hk l' r => helt _ v P' u C D acc (getD_memG hi) hk l' r) hclos hcell hkind hnames hx hs

/-- tables under rows of numbers -/
noncomputable def lookK {α : Type} (l : List (List Nat × α)) (k : List Nat) : Option α := (l.find? fun kv => kv.1 = k).map (·.2)
noncomputable def putK {α : Type} (l : List (List Nat × α)) (k : List Nat) (a : α) : List (List Nat × α) := if l.any (fun kv => kv.1 = k) then l.map (fun kv => if kv.1 = k then (kv.1, a) else kv) else l ++ [(k, a)]
noncomputable def toS {α β : Type} (f : α → β) (l : List (List Nat × α)) : List (Str × β) := l.map fun kv => (S kv.1, f kv.2)
theorem look_toS {α β : Type} (f : α → β) : ∀ (l : List (List Nat × α)) (k : List Nat), look (toS f l) (S k) = (lookK l k).map f
  | [], _ => rfl
  | (k', a) :: l, k => by
    have ih := look_toS f l k
    unfold look lookK toS at ih ⊢
    rw [List.map_cons, List.find?_cons, List.find?_cons]
    by_cases q : k' = k
    · simp [q]
    · have q2 : ¬ S k' = S k := fun e => q (S_inj.mp e)
      simp only [q, q2, decide_false]; exact ih
theorem put_toS {α β : Type} (f : α → β) (l : List (List Nat × α)) (k : List Nat) (a : α) : put (toS f l) (S k) (f a) = toS f (putK l k a) := by
  unfold put putK toS
  rw [List.any_map]
  have e : ((fun kv : Str × β => decide (kv.1 = S k)) ∘ fun kv : List Nat × α => (S kv.1, f kv.2)) = fun kv => decide (kv.1 = k) := by
    funext kv
    show decide (S kv.1 = S k) = _
    by_cases q : kv.1 = k
    · simp [q]
    · have q2 : ¬ S kv.1 = S k := fun e => q (S_inj.mp e)
      simp [q, q2]
  rw [e]
  by_cases q : (l.any fun kv => decide (kv.1 = k)) = true
  · rw [if_pos q, if_pos q, List.map_map, List.map_map]
    congr 1; funext kv
    show (if S kv.1 = S k then (S kv.1, f a) else (S kv.1, f kv.2)) = _
    by_cases q2 : kv.1 = k
    · simp [q2]
    · have q3 : ¬ S kv.1 = S k := fun e => q2 (S_inj.mp e)
      simp [q2, q3]
  · rw [if_neg q, if_neg q]; simp
theorem putK_length {α : Type} (l : List (List Nat × α)) (k : List Nat) (a : α) : (putK l k a).length ≤ l.length + 1 := by
  unfold putK; split <;> simp
theorem toS_length {α β : Type} (f : α → β) (l : List (List Nat × α)) : (toS f l).length = l.length := by simp [toS]
theorem lookK_mem {α : Type} {l : List (List Nat × α)} {k : List Nat} {a : α} (h : lookK l k = some a) : (k, a) ∈ l := by
  unfold lookK at h
  cases q : l.find? (fun kv => decide (kv.1 = k)) with
  | none => rw [q] at h; cases h
  | some kv =>
    rw [q] at h; cases h
    have h1 := List.find?_some q
    have h2 := List.mem_of_find?_eq_some q
    have : kv.1 = k := of_decide_eq_true h1
    rw [← this]; exact h2
theorem putK_all {α : Type} {p : α → Prop} {l : List (List Nat × α)} {k : List Nat} {a : α} (h : ∀ kv ∈ l, p kv.2) (ha : p a) : ∀ kv ∈ putK l k a, p kv.2 := by
  intro kv hkv
  unfold putK at hkv
  split at hkv
  · obtain ⟨x, hx, rfl⟩ := List.mem_map.mp hkv
    split
    · exact ha
    · exact h x hx
  · rcases List.mem_append.mp hkv with h' | h'
    · exact h kv h'
    · rw [List.mem_singleton.mp h']; exact ha

/-- the greatest and the least of pairs -/
noncomputable def maxN : List (Int × Nat) → Int × Nat | [] => (0, 0) | x :: L => L.foldl (fun b y => if decide (b.1 < y.1) = true then y else b) x
noncomputable def minN : List (Int × Nat) → Int × Nat | [] => (0, 0) | x :: L => L.foldl (fun b y => if decide (y.1 < b.1) = true then y else b) x
noncomputable def liftN (p : Int × Nat) : Int × Rep := (p.1, RStr (S [p.2]))
theorem foldl_lift (f : Int × Nat → Int × Nat → Bool) (g : Int × Rep → Int × Rep → Bool) (h : ∀ x y, g (liftN x) (liftN y) = f x y) : ∀ (L : List (Int × Nat)) (x : Int × Nat),
    (L.map liftN).foldl (fun b y => if g y b = true then y else b) (liftN x) = liftN (L.foldl (fun b y => if f y b = true then y else b) x)
  | [], _ => rfl
  | y :: L, x => by
    rw [List.map_cons, List.foldl_cons, List.foldl_cons, h y x]
    by_cases q : f y x = true
    · rw [if_pos q, if_pos q]; exact foldl_lift f g h L y
    · rw [if_neg q, if_neg q]; exact foldl_lift f g h L x
theorem maxOf_lift (x : Int × Nat) (L : List (Int × Nat)) : maxOf ((x :: L).map liftN) = liftN (maxN (x :: L)) :=
  foldl_lift (fun y b => decide (b.1 < y.1)) maxB (fun _ _ => rfl) L x
theorem minOf_lift (x : Int × Nat) (L : List (Int × Nat)) : minOf ((x :: L).map liftN) = liftN (minN (x :: L)) :=
  foldl_lift (fun y b => decide (y.1 < b.1)) minB (fun _ _ => rfl) L x
theorem maxN_mem : ∀ {L : List (Int × Nat)}, L ≠ [] → maxN L ∈ L
  | x :: L, _ => by
    show L.foldl _ x ∈ _
    induction L generalizing x with
    | nil => exact .head _
    | cons y L ih =>
      rw [List.foldl_cons]
      split
      · exact .tail _ (ih y (List.cons_ne_nil _ _))
      · rcases List.mem_cons.mp (ih x (List.cons_ne_nil _ _)) with h | h
        · rw [h]; exact .head _
        · exact .tail _ (.tail _ h)
theorem minN_mem : ∀ {L : List (Int × Nat)}, L ≠ [] → minN L ∈ L
  | x :: L, _ => by
    show L.foldl _ x ∈ _
    induction L generalizing x with
    | nil => exact .head _
    | cons y L ih =>
      rw [List.foldl_cons]
      split
      · exact .tail _ (ih y (List.cons_ne_nil _ _))
      · rcases List.mem_cons.mp (ih x (List.cons_ne_nil _ _)) with h | h
        · rw [h]; exact .head _
        · exact .tail _ (.tail _ h)

/-- get with a default, an own table -/
theorem ev_getO {d : Addr} {kvs : List (Str × Value)} {rs : List (Str × Rep)} {k : Str} {o a b : Expr} {apos : Pos} (ho : Ev prog w A env o P O (RVal (.ref d))) (ha : Ev prog w A env a P O (RStr k)) (hb : Ev prog w A env b P O R1)
    (hU : dictU prog w d kvs ∈ O) (hd : d ≠ sysModules) (en : Ents P rs kvs) (hr : (look rs k).getD R1 = R)
    (hbase : attributeBase o "get" env (eval o env) = eval o env := by rfl) (hline : (apos.endLine == pos.line) = true := by rfl)
    (hfew : ((backTo pos (starEach [a, b] env)).all (fun x => !x.1) && (backToKw pos (keywordEach [] env)).all (fun x => x.1.isSome)
      && decide ([a, b].length + ([] : List Keyword).length + (if ([] : List Keyword).isEmpty then 0 else 1) < 30)) = true := by rfl)
    (he : starEach [a, b] env = (false, eval a env) :: starEach [b] env := by rfl) (hs2 : starEach [b] env = (false, eval b env) :: starEach [] env := by rfl) (hplain : (backTo pos (starEach [b] env)).any (·.1) = false := by rfl) :
    Ev prog w A env (.Call (.Attribute o "get" apos) [a, b] [] pos) P O R :=
  ev_meth (Rs := [RStr k, R1]) F.plainAttrs_dict F.slot_dict_get F.type_dict_get ho (fun P' v s l r X => dictU.meth hU r X) (evl_cons ha (evl_cons hb evl_nil hs2) he) (fun P' v vs l r rs => by
    obtain rfl : v = .ref d := r
    match vs, rs with
    | [x, y], ⟨rx, ry, _⟩ => exact g_get_dictO hU hd (en.mono l) rx ry hr) hbase hline hfew he hplain

theorem Sat.freezeDict {d : Addr} {kvs : List (Str × Value)} {rs : List (Str × Rep)} {s : Shared} (X : Sat P (dictU prog w d kvs :: O) s) (hd : d ≠ sysModules) (r : Ents P rs kvs) : ∃ P', P.le P' ∧ Sat P' O s ∧ (RDict prog w rs).h P' (.ref d) := by
  obtain ⟨o, e, q⟩ := X.own _ (.head _)
  obtain ⟨l1, y⟩ := X.freeze (a := d) (.head _) e
  exact ⟨_, l1, y, _, o, kvs, rfl, hd, Part.add_self _ _ _, q, r.mono l1⟩
/-- dict(a list of pairs), to stand -/
theorem g_dictOf {L : List (Str × Rep)} (hA : A.handled = none) (hv : (RList (pairsR L)).h P v) (hz : L.length ≤ 1000) (hn : (L.map (·.1)).Nodup) : Gv prog w A (call (.type "dict") [v]) P O (RDict prog w L) := by
  have e : puts [] L = L := by have := puts_new (α := Rep) (l := L) (acc := []) (by simpa using hn); simpa using this
  refine Do.post (o_dictOf (Φ := fun v P' O' => ∃ d kvs, v = .ref d ∧ d ≠ sysModules ∧ Ents P' L kvs ∧ O' = dictU prog w d kvs :: O) hA hv hz (fun d kvs P' l hd en => ⟨d, kvs, rfl, hd, e ▸ en, rfl⟩)) ?_
  rintro v P' O' s ⟨d, kvs, rfl, hd, en, rfl⟩ X
  obtain ⟨P'', l, Y, r⟩ := X.freezeDict hd en
  exact ⟨P'', O, l, Y, rfl, r⟩
end
end

section
section
variable {prog : Program} {w : World} {A : Around} {env : Env} {P : Part} {O O' : List U} {R R1 R2 R3 : Rep} {pos : Pos} {v u z : Value} {Φ : Flow → Part → List U → Prop} {rest : List Stmt} {K : Frag}

theorem readsAll_ints {h : Heap} : ∀ {l : List Int} {vs : List Value}, Reps P (l.map RInt) vs → ReadsAll h vs (l.map PyData.int) []
  | [], [], _ => .nil
  | i :: l, v :: vs, ⟨⟨t, e⟩, r⟩ => by
    subst e
    exact ReadsAll.cons (as := []) (bs := []) (.int i t) (readsAll_ints r)
theorem eqv_tup (l : List Int) : PyData.eqv (.tuple (l.map PyData.int)) (.tuple (l.map PyData.int)) = true := by
  rw [PyData.eqv]
  induction l with
  | nil => rfl
  | cons a l ih => rw [List.map_cons, PyData.eqvAll, ih]; simp [PyData.eqv]
theorem shaped_tup (l : List Int) : SeqAt.shaped (.tuple (l.map PyData.int)) = true := shaped_ints l
theorem eq_tup {l : List Int} {s : Shared} (X : Sat P O s) (hv : (RTup (l.map RInt)).h P v) (hu : (RTup (l.map RInt)).h P u) (hr : A.in1.units + 64 < cLine) : SeqAt.EqAt A.in1 s v u true := by
  obtain ⟨a, vs, n, rfl, r, g⟩ := RSeq.sees hv
  obtain ⟨b, us, m, rfl, r', g'⟩ := RSeq.sees hu
  have := keq_at (A := A) (reads_tuple_at (g s O X) rfl rfl (by simpa using readsAll_ints r)) (reads_tuple_at (g' s O X) rfl rfl (by simpa using readsAll_ints r')) (shaped_tup l) (shaped_tup l) hr
  rw [eqv_tup] at this
  exact this
theorem keq_hitsAll {kb : List (Str × Value)} {l2 : List (Str × List Int)} {s : Shared} (X : Sat P O s) (en2 : Ents P (l2.map fun kv => (kv.1, RTup (kv.2.map RInt))) kb) (hr : A.in1.units + 64 < cLine) :
    ∀ {l1 : List (Str × List Int)} {ka : List (Str × Value)}, Ents P (l1.map fun kv => (kv.1, RTup (kv.2.map RInt))) ka → (∀ kv ∈ l1, look (l2.map fun kv => (kv.1, RTup (kv.2.map RInt))) kv.1 = some (RTup (kv.2.map RInt))) → KeqHits A.in1 s kb ka true
  | [], [], _, _ => .nil
  | kv :: l1, (k, x) :: ka, ⟨e, rr⟩, h => by
    obtain ⟨e1, e2⟩ : k = kv.1 ∧ ka.map (·.1) = (l1.map fun kv => (kv.1, RTup (kv.2.map RInt))).map (·.1) := by
      rw [List.map_cons, List.map_cons, List.map_cons] at e
      injection e with a b
      exact ⟨a, b⟩
    subst e1
    obtain ⟨y, hy, ry⟩ := en2.look (h kv (.head _))
    have h1 := KeqHits.hit (A := A.in1) (s := s) (r := ka) hy (eq_tup (A := A) X rr.1 ry hr) (keq_hitsAll X en2 hr ⟨e2, rr.2⟩ fun q hq => h q (.tail _ hq))
    exact h1
/-- two tables of the same: != tells False -/
theorem g_neDict {l1 l2 : List (Str × List Int)} (hr : A.in1.units + 64 < cLine) (hr0 : A.units < cLine) (hv : (RDict prog w (l1.map fun kv => (kv.1, RTup (kv.2.map RInt)))).h P v) (hu : (RDict prog w (l2.map fun kv => (kv.1, RTup (kv.2.map RInt)))).h P u) (hl : l1.length = l2.length)
    (h : ∀ kv ∈ l1, look (l2.map fun kv => (kv.1, RTup (kv.2.map RInt))) kv.1 = some (RTup (kv.2.map RInt))) : Gv prog w A (compareOp .NotEq v u) P O (RBool false) := by
  obtain ⟨a, ka, rfl, ha, ena, ga⟩ := RDict.sees hv
  obtain ⟨b, kb, rfl, hb, enb, gb⟩ := RDict.sees hu
  have e : (ka.length == kb.length) = true := by rw [ena.length, enb.length, List.length_map, List.length_map, hl]; simp
  exact Gv.base fun s X => keq_ne (notSys ha) (notSys hb) (ga s O X) (gb s O X) hr0 (fun _ => keq_hitsAll X enb hr ena h) (by rw [e]; exact here0 X rfl)
/-- an own empty table: != {} tells False -/
theorem g_neEmpty {a : Addr} (hU : dictU prog w a [] ∈ O) (ha : a ≠ sysModules) (hr0 : A.units < cLine) (hu : (RDict prog w []).h P u) : Gv prog w A (compareOp .NotEq (.ref a) u) P O (RBool false) := by
  obtain ⟨b, kb, rfl, hb, enb, gb⟩ := RDict.sees hu
  have e : kb = [] := List.eq_nil_of_length_eq_zero (by rw [enb.length]; rfl)
  subst e
  exact Gv.base fun s X => keq_ne (r := true) (notSys ha) (notSys hb) (dictU.sees hU X) (gb s O X) hr0 (fun _ => .nil) (here0 X rfl)
theorem g_isNot_bool {a b : Bool} (hv : (RBool a).h P v) (hu : (RBool b).h P u) : Gv prog w A (compareOp .IsNot v u) P O (RBool (a != b)) := by
  obtain rfl : v = .bool a := hv
  obtain rfl : u = .bool b := hu
  exact Gv.base fun s X => wpAny_isNot_plain rfl (here0 X (by cases a <;> cases b <;> rfl))
theorem g_isNot_none (hv : RNone.h P v) (hu : RNone.h P u) : Gv prog w A (compareOp .IsNot v u) P O (RBool false) := by
  obtain rfl : v = .none := hv
  obtain rfl : u = .none := hu
  exact Gv.base fun s X => wpAny_isNot_plain rfl (here0 X rfl)
theorem RBool.typeIs {b : Bool} {s : Shared} (h : (RBool b).h P v) : s.TypeIs v "bool" := by obtain rfl : v = .bool b := h; exact rfl
end
end

section
section
variable {prog : Program} {w : World} {A : Around} {env : Env} {P : Part} {O O' : List U} {R R1 R2 R3 : Rep} {pos : Pos} {v u z : Value} {Φ : Flow → Part → List U → Prop} {rest : List Stmt} {K : Frag}

noncomputable def sumN (l : List Int) : Int := l.foldl (· + ·) 0
theorem preSum_eq (l : List Int) : ∀ n, n ≤ l.length → preSum (fun j => l.getD j 0) n = sumN (l.take n)
  | 0, _ => rfl
  | n + 1, h => by
    have ih := preSum_eq l n (by omega)
    have hn : n < l.length := by omega
    rw [preSum, ih, List.take_add_one]
    have e : l[n]?.toList = [l[n]] := by simp [hn]
    rw [e]
    show sumN (l.take n) + l.getD n 0 = sumN (l.take n ++ [l[n]])
    simp only [sumN, List.foldl_append, List.foldl_cons, List.foldl_nil]
    simp [hn]
theorem preSum_bound (l : List Int) (hl : ∀ x ∈ l, 0 ≤ x ∧ x ≤ 100000) : ∀ n, n ≤ l.length → 0 ≤ preSum (fun j => l.getD j 0) n ∧ preSum (fun j => l.getD j 0) n ≤ 100000 * n
  | 0, _ => by simp [preSum]
  | n + 1, h => by
    have ih := preSum_bound l hl n (by omega)
    have hn : n < l.length := by omega
    have h1 : l.getD n 0 = l[n] := by simp [hn]
    have h2 := hl l[n] (List.getElem_mem hn)
    rw [preSum, h1]
    omega
/-- sum of a list -/
theorem g_sum {l : List Int} (hA : A.handled = none) (hl : ∀ x ∈ l, 0 ≤ x ∧ x ≤ 100000) (hn : l.length ≤ 1000) (hv : (RList (l.map RInt)).h P v) : Gv prog w A (call (.builtin "sum") [v]) P O (RInt (sumN l)) := by
  obtain ⟨a, vs, n, rfl, r, g⟩ := RSeq.sees hv
  have hlen : vs.toArray.size = l.length := by have := r.length; simpa using this
  refine Gv.base fun s X => call_sum_walk ?_
  have hL : s.heap.IsList a vs.toArray := ⟨_, g s O X, rfl, n, rfl⟩
  refine wpAny_pyIter_list hL ?_
  have hne : a ≠ s.heap.objs.size := Nat.ne_of_lt (Heap.lt_size (g s O X))
  have W := Walks.list (prog := prog) (w := w) (A := A.in1) hA s.heap.objs.size a hne vs.toArray
  have hst : (s.heap.push { cls := .type "list_iterator", data := .fields #[.ref a, .int 0 0] }).IsListIter s.heap.objs.size a 0 ∧ (s.heap.push { cls := .type "list_iterator", data := .fields #[.ref a, .int 0 0] }).IsList a vs.toArray :=
    ⟨⟨_, Heap.get?_push_size _ rfl, rfl, rfl⟩, ⟨_, Heap.get?_push_of_some _ (g s O X), rfl, n, rfl⟩⟩
  refine ⟨_, _, _, _, _, _, fun j => l.getD j 0, rfl, W, hst, ?_, ?_, ?_, ?_⟩
  · intro b hb
    rcases List.mem_cons.mp hb with rfl | hb
    · exact Heap.lt_size (Heap.get?_push_size _ rfl)
    · rcases List.mem_cons.mp hb with rfl | hb
      · exact Heap.lt_size (Heap.get?_push_of_some _ (g s O X))
      · cases hb
  · intro i x hi
    have hi' : vs[i]? = some x := by simpa using hi
    exact reps_int r hi'
  · intro j hj
    rw [hlen] at hj
    have h0 : l.getD j 0 = l[j] := by simp [hj]
    have h1 := hl l[j] (List.getElem_mem hj)
    have h2 := preSum_bound l hl (j + 1) (by omega)
    unfold InLong
    show (_ ≤ l.getD j 0 ∧ l.getD j 0 < _) ∧ _
    rw [h0]
    omega
  · intro h' tk t' hk
    show _ → _
    intro ht''
    refine ⟨P, .refl _, X.keep ht'' (fun b o e => ?_), t', ?_⟩
    · refine hk b o (fun q => ?_) (Heap.get?_push_of_some _ e)
      rw [List.mem_singleton.mp q] at e
      rw [fresh_size] at e; cases e
    · rw [hlen, preSum_eq l l.length (Nat.le_refl _), List.take_length]

/-- an item under a slice, whatever the base -/
theorem sub_cut {value : Expr} {upper : Option Expr} {p : Pos} {Q : Value → Shared → Prop} {E : Value → Shared → Prop} {s : Shared}
    (h : wpAny (model prog w) A (eval value env) (fun o s₁ => wpAny (model prog w) A (eval (.Slice none upper none p) env) (fun i s₂ => s₂.TypeIs o "str" ∧ wpAny (model prog w) A (getItem o i) Q E s₂) E s₁) E s) :
    wpAny (model prog w) A (eval (.Subscript value (.Slice none upper none p) pos) env) Q E s := by
  rw [eval_Subscript]
  refine wpAny_bind (wpAny_mono h (fun o s₁ h₁ => wpAny_bind (wpAny_holding (wpAny_mono h₁ (fun i s₂ h₂ => wpAny_bind (wpAny_standAt ?_)) fun _ _ x => x))) fun _ _ x => x)
  have fin : wpAny (model prog w) A (operate [i, o] (getItem o i)) (fun r s₃ => wpAny (model prog w) A (letTemporaryGo value o r >>= fun _ => pure r) Q E s₃) E s₂ :=
    wpAny_operating (wpAny_mono h₂.2 (fun r s₃ h₃ => wpAny_bind (wpAny_letTemporaryGo (wpAny_pure h₃))) fun _ _ x => x)
  refine wpAny_bind ?_
  rw [getitemInPython_of_ne h₂.1.not_modules]
  refine wpAny_bind (wpAny_specialOf h₂.1 F.slot_str_getitem.lookup ?_)
  first
    | exact wpAny_pure (wpAny_bind fin)
    | exact wpAny_bind (wpAny_pure (wpAny_bind fin))
    | exact wpAny_bind fin
/-- a text cut: [:n] -/
theorem ev_cut {l : List Nat} {n : Nat} {a b : Expr} {p : Pos} (h1 : Ev prog w A env a P O (RStr (S l))) (h2 : Ev prog w A env b P O (RInt n))
    (hc : ∀ t t' : Tok, ∃ y, (sliceMade (S l) t none (some ((n : Int), t')) none = .val (.str y t) ∨ sliceMade (S l) t none (some ((n : Int), t')) none = .str y) ∧ y = S (l.take n))
    (hz : l.length ≤ 1000) : Ev prog w A env (.Subscript a (.Slice none (some b) none p) pos) P O (RStr (S (l.take n))) := fun P' le => Do.mk fun s X =>
  sub_cut (wpAny_mono ((h1 P' le).run s X) (fun o s1 ⟨P1, O1, l1, X1, e1, t, r1⟩ => by
    subst e1; subst r1
    refine wpAny_Slice ?_
    rw [evalPart_none]
    refine wpAny_pure ?_
    rw [evalPart_some]
    refine wpAny_mono ((h2 P1 (le.trans l1)).run s1 X1) (fun vu s2 ⟨P2, O2, l2, X2, e2, t', r2⟩ => ?_) fun _ _ e => e
    subst e2; subst r2
    refine wpAny_pure ?_
    obtain ⟨y, hy, rfl⟩ := hc t t'
    have X3 := X2.keep (h' := s2.heap.push { cls := .type "slice", data := .fields #[.none, .int n t', .none] }) (tk := s2.toks) (Nat.le_refl _) (push_keep _ _)
    have X4 := X2.keep (h' := s2.heap.push { cls := .type "slice", data := .fields #[.none, .int n t', .none] }) (tk := s2.toks + 1) (Nat.le_succ _) (push_keep _ _)
    refine ⟨typeIs_str _ _ _, wpAny_getItem_str_slice (l := none) (u := some ((n : Int), t')) (st := none) ⟨_, Heap.get?_push_size _ rfl, rfl, rfl⟩ rfl ?_⟩
    rcases hy with e | e
    · rw [e]; exact ⟨P2, _, l1.trans l2, X3, rfl, _, rfl⟩
    · rw [e]; exact ⟨by rw [S_len, sizeLine_eq]; have := List.length_take_le' n l; omega, P2, _, l1.trans l2, X4, rfl, _, rfl⟩) fun _ _ e => e)
end
end

section
section
variable {prog : Program} {w : World} {A : Around} {env : Env} {P : Part} {O O' : List U} {R R1 R2 R3 : Rep} {pos : Pos} {v u z : Value} {K : Frag}
theorem kept_K {f : Value} (B : Bg K P) (e : keepIn K f = true) : Kept f P :=
  ⟨fun h => K.In h, fun P' O s l X => (B.up l).kin X, fun M h X => by
    obtain ⟨k, hk, q⟩ := looks_keep (M := M) e X
    exact ⟨k, by rcases hk with h | h <;> simp [h], q⟩⟩
/-- a branch that goes on either way -/
theorem x_ifN {Φ : Flow → Part → List U → Prop} {rest : List Stmt} {t : Expr} {b e : List Stmt} {c : Bool} {Ψ : Part → List U → Prop} (ht : Tst prog w A env t P O c)
    (h1 : c = true → ∀ P', P.le P' → Do prog w A (execs b env) P' O (fun f P'' O'' => f = .next ∧ Ψ P'' O''))
    (h2 : c = false → ∀ P', P.le P' → Do prog w A (execs e env) P' O (fun f P'' O'' => f = .next ∧ Ψ P'' O''))
    (k : ∀ P' O', P.le P' → Ψ P' O' → Do prog w A (execs rest env) P' O' Φ) : Do prog w A (execs (.If t b e pos :: rest) env) P O Φ :=
  x_if ht (fun hc P' l => (h1 hc P' l).mono fun f P'' O'' l'' q => by obtain ⟨e1, q⟩ := q; subst e1; exact k P'' O'' (l.trans l'') q)
    (fun hc P' l => (h2 hc P' l).mono fun f P'' O'' l'' q => by obtain ⟨e1, q⟩ := q; subst e1; exact k P'' O'' (l.trans l'') q)
/-- {} to stand -/
theorem ev_noDict : Ev prog w A env (.Dict [] [] pos) P O (RDict prog w []) := fun P' l => by
  refine Do.post (o_newDict (Φ := fun v P2 O2 => ∃ d, v = .ref d ∧ d ≠ sysModules ∧ O2 = dictU prog w d [] :: O) (fun d hd => ⟨d, rfl, hd, rfl⟩)) ?_
  rintro v P2 O2 s ⟨d, rfl, hd, rfl⟩ X
  obtain ⟨P3, l3, Y, r⟩ := X.freezeDict hd Ents.nil
  exact ⟨P3, O, l3, Y, rfl, r⟩
/-- if CALL is not None: the call ends with None -/
theorem x_ifSomething {Φ : Flow → Part → List U → Prop} {rest : List Stmt} {a : Expr} {b e : List Stmt} {k : Nat} {p p2 : Pos} {Ψ : Part → List U → Prop} (h1 : Do prog w A (eval a env) P O (fun v P' O' => v = .none ∧ Ψ P' O'))
    (h2 : ∀ P1 P' O', P.le P1 → P1.le P' → Ψ P1 O' → Do prog w A (execs e env) P' O' (After prog w A env rest Φ)) : Do prog w A (execs (.If (.Compare a [.IsNot] [.Constant .none k p] p2) b e pos :: rest) env) P O Φ :=
  x_seq (Ψ := After prog w A env rest Φ) (Do.mk fun s X => wpAny_If (wpAny_isTrue_Compare1 (wpAny_mono (h1.run s X) (fun v s1 ⟨P1, O1, l1, X1, e1, q1⟩ => by
    subst e1
    refine wpAny_mono ((ev_none (prog := prog) (w := w) (A := A) (env := env) (pos := p) (k := k) (P := P1) (O := O1) P1 (.refl _)).run s1 X1) (fun u s2 ⟨P2, O2, l2, X2, e2, r2⟩ => ?_) fun _ _ e => e
    subst e2
    refine wpAny_mono ((g_isNot_none (prog := prog) (w := w) (A := A) (P := P2) (O := O2) (v := .none) rfl r2).run s2 X2) (fun z s3 ⟨P3, O3, l3, X3, e3, r3⟩ => ?_) fun _ _ e => e
    obtain rfl : z = .bool false := r3
    subst e3
    refine wpAny_truthy_bool ?_
    have l13 := l2.trans l3
    exact wpAny_mono ((h2 P1 P3 O3 l1 l13 q1).run s3 X3) (fun f s4 ⟨P4, O4, l4, X4, q⟩ => ⟨P4, O4, (l1.trans l13).trans l4, X4, q⟩) fun _ _ e => e) fun _ _ e => e) rfl)) (fun _ _ _ q => q) fun f P' O' l hne q => by cases f <;> first | exact absurd rfl hne | exact q
end
end

section
section
variable {prog : Program} {w : World} {A : Around} {P : Part} {O : List U}
/-- what is owed, by a name alone -/
theorem x_abs {t : Sem Flow} {Φ : Flow → Part → List U → Prop} (h : ∀ Ψ : Flow → Part → List U → Prop, (∀ f P O, Φ f P O → Ψ f P O) → Do prog w A t P O Ψ) : Do prog w A t P O Φ := h Φ fun _ _ _ q => q
end
end

local macro_rules | `(tactic| walk_at "mem") => `(tactic| repeat (first | with_reducible exact List.mem_cons_self | with_reducible apply List.mem_cons_of_mem))
local macro_rules | `(tactic| walk_at "has") => `(tactic| repeat (first | with_reducible exact Has.head | apply Has.tail))
local macro_rules | `(tactic| walk_at "le") => `(tactic| first | assumption | exact Part.le.refl _ | (refine Part.le.trans (by assumption) ?_; walk_at "le"))
local macro_rules | `(tactic| walk_at "rep") => `(tactic| first | assumption | exact Rep.mono _ _ _ _ (by walk_at "le") (by assumption))

section
def topStmt (i : Nat) : Stmt := PySem.Challenge.pw_jc0027_01.main.body.getD i (.Pass default)
def defBody : Stmt → List Stmt | .FunctionDef _ _ body _ _ _ _ _ _ _ => body | .ClassDef _ _ _ body _ _ _ _ _ _ _ => body | _ => []
def defScope : Stmt → Scope | .FunctionDef _ _ _ _ _ _ s _ _ _ => s | _ => default
def defArgs : Stmt → Arguments | .FunctionDef _ a _ _ _ _ _ _ _ _ => a | _ => default
def methStmt (i : Nat) : Stmt := (defBody (topStmt 2)).getD i (.Pass default)
/-- the heap that the top leaves, as far as the walks ask for it -/
noncomputable def fragK (p : Params) : Frag :=
  [(2, { cls := Value.none, data := Data.dict #[] }),
   (3, { cls := Value.type "dict", data := Data.dict #[{ hash := PyData.keyHash p (Str.ofString "__name__"), key := Value.str (Str.ofString "__name__") 165, val := Value.str (Str.ofString "law_jc0027_01") 355 }, { hash := PyData.keyHash p (Str.ofString "__doc__"), key := Value.str (Str.ofString "__doc__") 166, val := Value.none }, { hash := PyData.keyHash p (Str.ofString "__package__"), key := Value.str (Str.ofString "__package__") 167, val := Value.none }, { hash := PyData.keyHash p (Str.ofString "__loader__"), key := Value.str (Str.ofString "__loader__") 168, val := Value.builtin "__main__.__loader__#opaque" }, { hash := PyData.keyHash p (Str.ofString "__spec__"), key := Value.str (Str.ofString "__spec__") 169, val := Value.none }, { hash := PyData.keyHash p (Str.ofString "__annotations__"), key := Value.str (Str.ofString "__annotations__") 170, val := Value.ref 6 }, { hash := PyData.keyHash p (Str.ofString "__builtins__"), key := Value.str (Str.ofString "__builtins__") 171, val := Value.ref 4 }, { hash := PyData.keyHash p (Str.ofString "__file__"), key := Value.str (Str.ofString "__file__") 173, val := Value.str (Str.ofString "/claim/cut.py") 172 }, { hash := PyData.keyHash p (Str.ofString "__cached__"), key := Value.str (Str.ofString "__cached__") 174, val := Value.none }, { hash := PyData.keyHash p (Str.ofString "_wall"), key := Value.str (Str.ofString "_wall") 193, val := Value.ref 21 }, { hash := PyData.keyHash p (Str.ofString "Whitespace"), key := Value.str (Str.ofString "Whitespace") 295, val := Value.ref 83 }, { hash := PyData.keyHash p (Str.ofString "contains"), key := Value.str (Str.ofString "contains") 305, val := Value.ref 94 }, { hash := PyData.keyHash p (Str.ofString "getitem"), key := Value.str (Str.ofString "getitem") 313, val := Value.ref 101 }, { hash := PyData.keyHash p (Str.ofString "indexOf"), key := Value.str (Str.ofString "indexOf") 323, val := Value.ref 108 }, { hash := PyData.keyHash p (Str.ofString "setitem"), key := Value.str (Str.ofString "setitem") 332, val := Value.ref 115 }, { hash := PyData.keyHash p (Str.ofString "add_callers"), key := Value.str (Str.ofString "add_callers") 345, val := Value.ref 122 }, { hash := PyData.keyHash p (Str.ofString "count_calls"), key := Value.str (Str.ofString "count_calls") 354, val := Value.ref 129 }, { hash := PyData.keyHash p (Str.ofString "_law_leads"), key := Value.str (Str.ofString "_law_leads") 362, val := Value.ref 134 }, { hash := PyData.keyHash p (Str.ofString "_law_columns"), key := Value.str (Str.ofString "_law_columns") 373, val := Value.ref 141 }, { hash := PyData.keyHash p (Str.ofString "_law_above"), key := Value.str (Str.ofString "_law_above") 379, val := Value.ref 146 }, { hash := PyData.keyHash p (Str.ofString "_law_orders"), key := Value.str (Str.ofString "_law_orders") 385, val := Value.ref 151 }, { hash := PyData.keyHash p (Str.ofString "_law_due"), key := Value.str (Str.ofString "_law_due") 391, val := Value.ref 156 }, { hash := PyData.keyHash p (Str.ofString "law"), key := Value.str (Str.ofString "law") 397, val := Value.ref 161 }] 23 }),
   (15, { cls := Value.type "tuple", data := Data.seq #[] }),
   (17, { cls := Value.type "tuple", data := Data.seq #[Value.str (Str.ofString "k") 190] }),
   (18, { cls := Value.type "tuple", data := Data.seq #[] }),
   (20, { cls := Value.type "code", data := Data.fields #[Value.str (Str.ofString "_wall") 187, Value.str (Str.ofString "_wall") 188, Value.str (Str.ofString "/claim/cut.py") 189, Value.int 1 0, Value.int 1 0, Value.int 0 0, Value.int 0 0, Value.int 3 0, Value.ref 15, Value.bool true, Value.int 181 0, Value.ref 16, Value.none, Value.ref 17, Value.ref 18, Value.ref 19, Value.int 191 0, Value.int 1 0, Value.str (Str.ofString "/claim/cut.py") 192] }),
   (21, { cls := Value.type "function", data := Data.func { name := Str.ofString "_wall", qualname := Str.ofString "_wall", params := defArgs (topStmt 0), body := FuncBody.stmts (defBody (topStmt 0)), scope := defScope (topStmt 0), globals := 3, closure := [], defaults := Value.none, kwdefaults := Value.none, pyModule := Value.str (Str.ofString "__main__") 164, code := Value.ref 20 } }),
   (32, { cls := Value.type "tuple", data := Data.seq #[] }),
   (34, { cls := Value.type "tuple", data := Data.seq #[Value.str (Str.ofString "self") 216, Value.str (Str.ofString "ws") 217, Value.str (Str.ofString "S") 218, Value.str (Str.ofString "T") 219, Value.str (Str.ofString "count") 220, Value.str (Str.ofString "b") 221, Value.str (Str.ofString "n") 222, Value.str (Str.ofString "nt") 223, Value.str (Str.ofString "ch") 224] }),
   (35, { cls := Value.type "tuple", data := Data.seq #[] }),
   (37, { cls := Value.type "code", data := Data.fields #[Value.str (Str.ofString "__init__") 213, Value.str (Str.ofString "Whitespace.__init__") 214, Value.str (Str.ofString "/claim/cut.py") 215, Value.int 8 0, Value.int 2 0, Value.int 0 0, Value.int 0 0, Value.int 3 0, Value.ref 32, Value.bool true, Value.int 181 0, Value.ref 33, Value.none, Value.ref 34, Value.ref 35, Value.ref 36, Value.int 225 0, Value.int 8 0, Value.str (Str.ofString "/claim/cut.py") 226] }),
   (38, { cls := Value.type "function", data := Data.func { name := Str.ofString "__init__", qualname := Str.ofString "Whitespace.__init__", params := defArgs (methStmt 1), body := FuncBody.stmts (defBody (methStmt 1)), scope := defScope (methStmt 1), globals := 3, closure := [], defaults := Value.none, kwdefaults := Value.none, pyModule := Value.str (Str.ofString "cpy313.tabnanny") 194, code := Value.ref 37 } }),
   (39, { cls := Value.type "tuple", data := Data.seq #[] }),
   (41, { cls := Value.type "tuple", data := Data.seq #[Value.str (Str.ofString "self") 231, Value.str (Str.ofString "count") 232, Value.str (Str.ofString "trailing") 233] }),
   (42, { cls := Value.type "tuple", data := Data.seq #[] }),
   (44, { cls := Value.type "code", data := Data.fields #[Value.str (Str.ofString "longest_run_of_spaces") 228, Value.str (Str.ofString "Whitespace.longest_run_of_spaces") 229, Value.str (Str.ofString "/claim/cut.py") 230, Value.int 31 0, Value.int 1 0, Value.int 0 0, Value.int 0 0, Value.int 3 0, Value.ref 39, Value.bool true, Value.int 181 0, Value.ref 40, Value.none, Value.ref 41, Value.ref 42, Value.ref 43, Value.int 234 0, Value.int 31 0, Value.str (Str.ofString "/claim/cut.py") 235] }),
   (45, { cls := Value.type "function", data := Data.func { name := Str.ofString "longest_run_of_spaces", qualname := Str.ofString "Whitespace.longest_run_of_spaces", params := defArgs (methStmt 2), body := FuncBody.stmts (defBody (methStmt 2)), scope := defScope (methStmt 2), globals := 3, closure := [], defaults := Value.none, kwdefaults := Value.none, pyModule := Value.str (Str.ofString "cpy313.tabnanny") 194, code := Value.ref 44 } }),
   (46, { cls := Value.type "tuple", data := Data.seq #[] }),
   (48, { cls := Value.type "tuple", data := Data.seq #[Value.str (Str.ofString "self") 240, Value.str (Str.ofString "tabsize") 241, Value.str (Str.ofString "count") 242, Value.str (Str.ofString "trailing") 243, Value.str (Str.ofString "il") 244, Value.str (Str.ofString "i") 245] }),
   (49, { cls := Value.type "tuple", data := Data.seq #[] }),
   (51, { cls := Value.type "code", data := Data.fields #[Value.str (Str.ofString "indent_level") 237, Value.str (Str.ofString "Whitespace.indent_level") 238, Value.str (Str.ofString "/claim/cut.py") 239, Value.int 35 0, Value.int 2 0, Value.int 0 0, Value.int 0 0, Value.int 3 0, Value.ref 46, Value.bool true, Value.int 181 0, Value.ref 47, Value.none, Value.ref 48, Value.ref 49, Value.ref 50, Value.int 246 0, Value.int 35 0, Value.str (Str.ofString "/claim/cut.py") 247] }),
   (52, { cls := Value.type "function", data := Data.func { name := Str.ofString "indent_level", qualname := Str.ofString "Whitespace.indent_level", params := defArgs (methStmt 3), body := FuncBody.stmts (defBody (methStmt 3)), scope := defScope (methStmt 3), globals := 3, closure := [], defaults := Value.none, kwdefaults := Value.none, pyModule := Value.str (Str.ofString "cpy313.tabnanny") 194, code := Value.ref 51 } }),
   (53, { cls := Value.type "tuple", data := Data.seq #[] }),
   (55, { cls := Value.type "tuple", data := Data.seq #[Value.str (Str.ofString "self") 252, Value.str (Str.ofString "other") 253] }),
   (56, { cls := Value.type "tuple", data := Data.seq #[] }),
   (58, { cls := Value.type "code", data := Data.fields #[Value.str (Str.ofString "equal") 249, Value.str (Str.ofString "Whitespace.equal") 250, Value.str (Str.ofString "/claim/cut.py") 251, Value.int 42 0, Value.int 2 0, Value.int 0 0, Value.int 0 0, Value.int 3 0, Value.ref 53, Value.bool true, Value.int 181 0, Value.ref 54, Value.none, Value.ref 55, Value.ref 56, Value.ref 57, Value.int 254 0, Value.int 42 0, Value.str (Str.ofString "/claim/cut.py") 255] }),
   (59, { cls := Value.type "function", data := Data.func { name := Str.ofString "equal", qualname := Str.ofString "Whitespace.equal", params := defArgs (methStmt 4), body := FuncBody.stmts (defBody (methStmt 4)), scope := defScope (methStmt 4), globals := 3, closure := [], defaults := Value.none, kwdefaults := Value.none, pyModule := Value.str (Str.ofString "cpy313.tabnanny") 194, code := Value.ref 58 } }),
   (60, { cls := Value.type "tuple", data := Data.seq #[] }),
   (62, { cls := Value.type "tuple", data := Data.seq #[Value.str (Str.ofString "self") 260, Value.str (Str.ofString "other") 261] }),
   (63, { cls := Value.type "tuple", data := Data.seq #[] }),
   (65, { cls := Value.type "code", data := Data.fields #[Value.str (Str.ofString "not_equal_witness") 257, Value.str (Str.ofString "Whitespace.not_equal_witness") 258, Value.str (Str.ofString "/claim/cut.py") 259, Value.int 45 0, Value.int 2 0, Value.int 0 0, Value.int 0 0, Value.int 3 0, Value.ref 60, Value.bool true, Value.int 181 0, Value.ref 61, Value.none, Value.ref 62, Value.ref 63, Value.ref 64, Value.int 262 0, Value.int 45 0, Value.str (Str.ofString "/claim/cut.py") 263] }),
   (66, { cls := Value.type "function", data := Data.func { name := Str.ofString "not_equal_witness", qualname := Str.ofString "Whitespace.not_equal_witness", params := defArgs (methStmt 5), body := FuncBody.stmts (defBody (methStmt 5)), scope := defScope (methStmt 5), globals := 3, closure := [], defaults := Value.none, kwdefaults := Value.none, pyModule := Value.str (Str.ofString "cpy313.tabnanny") 194, code := Value.ref 65 } }),
   (67, { cls := Value.type "tuple", data := Data.seq #[] }),
   (69, { cls := Value.type "tuple", data := Data.seq #[Value.str (Str.ofString "self") 268, Value.str (Str.ofString "other") 269, Value.str (Str.ofString "n") 270, Value.str (Str.ofString "ts") 271] }),
   (70, { cls := Value.type "tuple", data := Data.seq #[] }),
   (72, { cls := Value.type "code", data := Data.fields #[Value.str (Str.ofString "less") 265, Value.str (Str.ofString "Whitespace.less") 266, Value.str (Str.ofString "/claim/cut.py") 267, Value.int 48 0, Value.int 2 0, Value.int 0 0, Value.int 0 0, Value.int 3 0, Value.ref 67, Value.bool true, Value.int 181 0, Value.ref 68, Value.none, Value.ref 69, Value.ref 70, Value.ref 71, Value.int 272 0, Value.int 48 0, Value.str (Str.ofString "/claim/cut.py") 273] }),
   (73, { cls := Value.type "function", data := Data.func { name := Str.ofString "less", qualname := Str.ofString "Whitespace.less", params := defArgs (methStmt 6), body := FuncBody.stmts (defBody (methStmt 6)), scope := defScope (methStmt 6), globals := 3, closure := [], defaults := Value.none, kwdefaults := Value.none, pyModule := Value.str (Str.ofString "cpy313.tabnanny") 194, code := Value.ref 72 } }),
   (74, { cls := Value.type "tuple", data := Data.seq #[] }),
   (76, { cls := Value.type "tuple", data := Data.seq #[Value.str (Str.ofString "self") 278, Value.str (Str.ofString "other") 279] }),
   (77, { cls := Value.type "tuple", data := Data.seq #[] }),
   (79, { cls := Value.type "code", data := Data.fields #[Value.str (Str.ofString "not_less_witness") 275, Value.str (Str.ofString "Whitespace.not_less_witness") 276, Value.str (Str.ofString "/claim/cut.py") 277, Value.int 59 0, Value.int 2 0, Value.int 0 0, Value.int 0 0, Value.int 3 0, Value.ref 74, Value.bool true, Value.int 181 0, Value.ref 75, Value.none, Value.ref 76, Value.ref 77, Value.ref 78, Value.int 280 0, Value.int 59 0, Value.str (Str.ofString "/claim/cut.py") 281] }),
   (80, { cls := Value.type "function", data := Data.func { name := Str.ofString "not_less_witness", qualname := Str.ofString "Whitespace.not_less_witness", params := defArgs (methStmt 7), body := FuncBody.stmts (defBody (methStmt 7)), scope := defScope (methStmt 7), globals := 3, closure := [], defaults := Value.none, kwdefaults := Value.none, pyModule := Value.str (Str.ofString "cpy313.tabnanny") 194, code := Value.ref 79 } }),
   (81, { cls := Value.type "tuple", data := Data.seq #[Value.str (Str.ofString "is_simple") 283, Value.str (Str.ofString "n") 284, Value.str (Str.ofString "norm") 285, Value.str (Str.ofString "nt") 286, Value.str (Str.ofString "raw") 287] }),
   (82, { cls := Value.type "dict", data := Data.dict #[{ hash := PyData.keyHash p (Str.ofString "__module__"), key := Value.str (Str.ofString "__module__") 203, val := Value.str (Str.ofString "cpy313.tabnanny") 194 }, { hash := PyData.keyHash p (Str.ofString "__firstlineno__"), key := Value.str (Str.ofString "__firstlineno__") 207, val := Value.int 5 206 }, { hash := PyData.keyHash p (Str.ofString "S"), key := Value.str (Str.ofString "S") 211, val := Value.str (Str.ofString " ") 209 }, { hash := PyData.keyHash p (Str.ofString "T"), key := Value.str (Str.ofString "T") 212, val := Value.str (Str.ofString "\t") 210 }, { hash := PyData.keyHash p (Str.ofString "__init__"), key := Value.str (Str.ofString "__init__") 227, val := Value.ref 38 }, { hash := PyData.keyHash p (Str.ofString "longest_run_of_spaces"), key := Value.str (Str.ofString "longest_run_of_spaces") 236, val := Value.ref 45 }, { hash := PyData.keyHash p (Str.ofString "indent_level"), key := Value.str (Str.ofString "indent_level") 248, val := Value.ref 52 }, { hash := PyData.keyHash p (Str.ofString "equal"), key := Value.str (Str.ofString "equal") 256, val := Value.ref 59 }, { hash := PyData.keyHash p (Str.ofString "not_equal_witness"), key := Value.str (Str.ofString "not_equal_witness") 264, val := Value.ref 66 }, { hash := PyData.keyHash p (Str.ofString "less"), key := Value.str (Str.ofString "less") 274, val := Value.ref 73 }, { hash := PyData.keyHash p (Str.ofString "not_less_witness"), key := Value.str (Str.ofString "not_less_witness") 282, val := Value.ref 80 }, { hash := PyData.keyHash p (Str.ofString "__static_attributes__"), key := Value.str (Str.ofString "__static_attributes__") 288, val := Value.ref 81 }, { hash := PyData.keyHash p (Str.ofString "__dict__"), key := Value.str (Str.ofString "__dict__") 290, val := Value.ref 84 }, { hash := PyData.keyHash p (Str.ofString "__weakref__"), key := Value.str (Str.ofString "__weakref__") 292, val := Value.ref 85 }, { hash := PyData.keyHash p (Str.ofString "__doc__"), key := Value.str (Str.ofString "__doc__") 293, val := Value.none }] 4 }),
   (83, { cls := Value.type "type", data := Data.cls { name := Str.ofString "Whitespace", bases := [Value.type "object"], mro := [Value.ref 83, Value.type "object"], ns := 82, qualname := Str.ofString "Whitespace" }, slots := #[none, none, some (Value.str (Str.ofString "Whitespace") 196), some (Value.str (Str.ofString "Whitespace") 204), some (Value.builtin "object.__new__"), some (Value.bool true)] }),
   (84, { cls := Value.type "getset_descriptor", data := Data.fields #[Value.str (Str.ofString "__dict__") 289, Value.ref 83, Value.builtin "function.__dict__", Value.builtin "function.__dict__#set"] }),
   (85, { cls := Value.type "getset_descriptor", data := Data.fields #[Value.str (Str.ofString "__weakref__") 291, Value.ref 83, Value.builtin "ExceptionGroup.__weakref__", Value.none] }),
   (88, { cls := Value.type "tuple", data := Data.seq #[] }),
   (90, { cls := Value.type "tuple", data := Data.seq #[Value.str (Str.ofString "a") 301, Value.str (Str.ofString "b") 302] }),
   (91, { cls := Value.type "tuple", data := Data.seq #[] }),
   (93, { cls := Value.type "code", data := Data.fields #[Value.str (Str.ofString "contains") 298, Value.str (Str.ofString "contains") 299, Value.str (Str.ofString "/claim/cut.py") 300, Value.int 62 0, Value.int 2 0, Value.int 0 0, Value.int 0 0, Value.int 3 0, Value.ref 88, Value.bool true, Value.int 181 0, Value.ref 89, Value.none, Value.ref 90, Value.ref 91, Value.ref 92, Value.int 303 0, Value.int 62 0, Value.str (Str.ofString "/claim/cut.py") 304] }),
   (94, { cls := Value.type "function", data := Data.func { name := Str.ofString "contains", qualname := Str.ofString "contains", params := defArgs (topStmt 4), body := FuncBody.stmts (defBody (topStmt 4)), scope := defScope (topStmt 4), globals := 3, closure := [], defaults := Value.none, kwdefaults := Value.none, pyModule := Value.str (Str.ofString "cpy313.operator") 296, code := Value.ref 93 } }),
   (95, { cls := Value.type "tuple", data := Data.seq #[] }),
   (97, { cls := Value.type "tuple", data := Data.seq #[Value.str (Str.ofString "a") 309, Value.str (Str.ofString "b") 310] }),
   (98, { cls := Value.type "tuple", data := Data.seq #[] }),
   (100, { cls := Value.type "code", data := Data.fields #[Value.str (Str.ofString "getitem") 306, Value.str (Str.ofString "getitem") 307, Value.str (Str.ofString "/claim/cut.py") 308, Value.int 64 0, Value.int 2 0, Value.int 0 0, Value.int 0 0, Value.int 3 0, Value.ref 95, Value.bool true, Value.int 181 0, Value.ref 96, Value.none, Value.ref 97, Value.ref 98, Value.ref 99, Value.int 311 0, Value.int 64 0, Value.str (Str.ofString "/claim/cut.py") 312] }),
   (101, { cls := Value.type "function", data := Data.func { name := Str.ofString "getitem", qualname := Str.ofString "getitem", params := defArgs (topStmt 5), body := FuncBody.stmts (defBody (topStmt 5)), scope := defScope (topStmt 5), globals := 3, closure := [], defaults := Value.none, kwdefaults := Value.none, pyModule := Value.str (Str.ofString "cpy313.operator") 296, code := Value.ref 100 } }),
   (102, { cls := Value.type "tuple", data := Data.seq #[] }),
   (104, { cls := Value.type "tuple", data := Data.seq #[Value.str (Str.ofString "a") 317, Value.str (Str.ofString "b") 318, Value.str (Str.ofString "i") 319, Value.str (Str.ofString "j") 320] }),
   (105, { cls := Value.type "tuple", data := Data.seq #[] }),
   (107, { cls := Value.type "code", data := Data.fields #[Value.str (Str.ofString "indexOf") 314, Value.str (Str.ofString "indexOf") 315, Value.str (Str.ofString "/claim/cut.py") 316, Value.int 66 0, Value.int 2 0, Value.int 0 0, Value.int 0 0, Value.int 3 0, Value.ref 102, Value.bool true, Value.int 181 0, Value.ref 103, Value.none, Value.ref 104, Value.ref 105, Value.ref 106, Value.int 321 0, Value.int 66 0, Value.str (Str.ofString "/claim/cut.py") 322] }),
   (108, { cls := Value.type "function", data := Data.func { name := Str.ofString "indexOf", qualname := Str.ofString "indexOf", params := defArgs (topStmt 6), body := FuncBody.stmts (defBody (topStmt 6)), scope := defScope (topStmt 6), globals := 3, closure := [], defaults := Value.none, kwdefaults := Value.none, pyModule := Value.str (Str.ofString "cpy313.operator") 296, code := Value.ref 107 } }),
   (109, { cls := Value.type "tuple", data := Data.seq #[] }),
   (111, { cls := Value.type "tuple", data := Data.seq #[Value.str (Str.ofString "a") 327, Value.str (Str.ofString "b") 328, Value.str (Str.ofString "c") 329] }),
   (112, { cls := Value.type "tuple", data := Data.seq #[] }),
   (114, { cls := Value.type "code", data := Data.fields #[Value.str (Str.ofString "setitem") 324, Value.str (Str.ofString "setitem") 325, Value.str (Str.ofString "/claim/cut.py") 326, Value.int 72 0, Value.int 3 0, Value.int 0 0, Value.int 0 0, Value.int 3 0, Value.ref 109, Value.bool true, Value.int 181 0, Value.ref 110, Value.none, Value.ref 111, Value.ref 112, Value.ref 113, Value.int 330 0, Value.int 72 0, Value.str (Str.ofString "/claim/cut.py") 331] }),
   (115, { cls := Value.type "function", data := Data.func { name := Str.ofString "setitem", qualname := Str.ofString "setitem", params := defArgs (topStmt 7), body := FuncBody.stmts (defBody (topStmt 7)), scope := defScope (topStmt 7), globals := 3, closure := [], defaults := Value.none, kwdefaults := Value.none, pyModule := Value.str (Str.ofString "cpy313.operator") 296, code := Value.ref 114 } }),
   (116, { cls := Value.type "tuple", data := Data.seq #[] }),
   (118, { cls := Value.type "tuple", data := Data.seq #[Value.str (Str.ofString "target") 338, Value.str (Str.ofString "source") 339, Value.str (Str.ofString "new_callers") 340, Value.str (Str.ofString "func") 341, Value.str (Str.ofString "caller") 342] }),
   (119, { cls := Value.type "tuple", data := Data.seq #[] }),
   (121, { cls := Value.type "code", data := Data.fields #[Value.str (Str.ofString "add_callers") 335, Value.str (Str.ofString "add_callers") 336, Value.str (Str.ofString "/claim/cut.py") 337, Value.int 75 0, Value.int 2 0, Value.int 0 0, Value.int 0 0, Value.int 3 0, Value.ref 116, Value.bool true, Value.int 181 0, Value.ref 117, Value.none, Value.ref 118, Value.ref 119, Value.ref 120, Value.int 343 0, Value.int 75 0, Value.str (Str.ofString "/claim/cut.py") 344] }),
   (122, { cls := Value.type "function", data := Data.func { name := Str.ofString "add_callers", qualname := Str.ofString "add_callers", params := defArgs (topStmt 9), body := FuncBody.stmts (defBody (topStmt 9)), scope := defScope (topStmt 9), globals := 3, closure := [], defaults := Value.none, kwdefaults := Value.none, pyModule := Value.str (Str.ofString "cpy313.pstats") 333, code := Value.ref 121 } }),
   (123, { cls := Value.type "tuple", data := Data.seq #[] }),
   (125, { cls := Value.type "tuple", data := Data.seq #[Value.str (Str.ofString "callers") 349, Value.str (Str.ofString "nc") 350, Value.str (Str.ofString "calls") 351] }),
   (126, { cls := Value.type "tuple", data := Data.seq #[] }),
   (128, { cls := Value.type "code", data := Data.fields #[Value.str (Str.ofString "count_calls") 346, Value.str (Str.ofString "count_calls") 347, Value.str (Str.ofString "/claim/cut.py") 348, Value.int 88 0, Value.int 1 0, Value.int 0 0, Value.int 0 0, Value.int 3 0, Value.ref 123, Value.bool true, Value.int 181 0, Value.ref 124, Value.none, Value.ref 125, Value.ref 126, Value.ref 127, Value.int 352 0, Value.int 88 0, Value.str (Str.ofString "/claim/cut.py") 353] }),
   (129, { cls := Value.type "function", data := Data.func { name := Str.ofString "count_calls", qualname := Str.ofString "count_calls", params := defArgs (topStmt 10), body := FuncBody.stmts (defBody (topStmt 10)), scope := defScope (topStmt 10), globals := 3, closure := [], defaults := Value.none, kwdefaults := Value.none, pyModule := Value.str (Str.ofString "cpy313.pstats") 333, code := Value.ref 128 } }),
   (130, { cls := Value.type "tuple", data := Data.seq #[] }),
   (133, { cls := Value.type "code", data := Data.fields #[Value.str (Str.ofString "_law_leads") 357, Value.str (Str.ofString "_law_leads") 358, Value.str (Str.ofString "/claim/cut.py") 359, Value.int 94 0, Value.int 1 0, Value.int 0 0, Value.int 0 0, Value.int 3 0, Value.ref 130, Value.bool true, Value.int 181 0, Value.ref 131, Value.none, Value.none, Value.none, Value.ref 132, Value.int 360 0, Value.int 94 0, Value.str (Str.ofString "/claim/cut.py") 361] }),
   (134, { cls := Value.type "function", data := Data.func { name := Str.ofString "_law_leads", qualname := Str.ofString "_law_leads", params := defArgs (topStmt 12), body := FuncBody.stmts (defBody (topStmt 12)), scope := defScope (topStmt 12), globals := 3, closure := [], defaults := Value.none, kwdefaults := Value.none, pyModule := Value.str (Str.ofString "law_jc0027_01") 355, code := Value.ref 133 } }),
   (135, { cls := Value.type "tuple", data := Data.seq #[] }),
   (137, { cls := Value.type "tuple", data := Data.seq #[Value.str (Str.ofString "lead") 366, Value.str (Str.ofString "columns") 367, Value.str (Str.ofString "size") 368, Value.str (Str.ofString "column") 369, Value.str (Str.ofString "sign") 370] }),
   (138, { cls := Value.type "tuple", data := Data.seq #[] }),
   (140, { cls := Value.type "code", data := Data.fields #[Value.str (Str.ofString "_law_columns") 363, Value.str (Str.ofString "_law_columns") 364, Value.str (Str.ofString "/claim/cut.py") 365, Value.int 101 0, Value.int 1 0, Value.int 0 0, Value.int 0 0, Value.int 3 0, Value.ref 135, Value.bool true, Value.int 181 0, Value.ref 136, Value.none, Value.ref 137, Value.ref 138, Value.ref 139, Value.int 371 0, Value.int 101 0, Value.str (Str.ofString "/claim/cut.py") 372] }),
   (141, { cls := Value.type "function", data := Data.func { name := Str.ofString "_law_columns", qualname := Str.ofString "_law_columns", params := defArgs (topStmt 13), body := FuncBody.stmts (defBody (topStmt 13)), scope := defScope (topStmt 13), globals := 3, closure := [], defaults := Value.none, kwdefaults := Value.none, pyModule := Value.str (Str.ofString "law_jc0027_01") 355, code := Value.ref 140 } }),
   (142, { cls := Value.type "tuple", data := Data.seq #[] }),
   (145, { cls := Value.type "code", data := Data.fields #[Value.str (Str.ofString "_law_above") 374, Value.str (Str.ofString "_law_above") 375, Value.str (Str.ofString "/claim/cut.py") 376, Value.int 109 0, Value.int 1 0, Value.int 0 0, Value.int 0 0, Value.int 3 0, Value.ref 142, Value.bool true, Value.int 181 0, Value.ref 143, Value.none, Value.none, Value.none, Value.ref 144, Value.int 377 0, Value.int 109 0, Value.str (Str.ofString "/claim/cut.py") 378] }),
   (146, { cls := Value.type "function", data := Data.func { name := Str.ofString "_law_above", qualname := Str.ofString "_law_above", params := defArgs (topStmt 14), body := FuncBody.stmts (defBody (topStmt 14)), scope := defScope (topStmt 14), globals := 3, closure := [], defaults := Value.none, kwdefaults := Value.none, pyModule := Value.str (Str.ofString "law_jc0027_01") 355, code := Value.ref 145 } }),
   (147, { cls := Value.type "tuple", data := Data.seq #[] }),
   (150, { cls := Value.type "code", data := Data.fields #[Value.str (Str.ofString "_law_orders") 380, Value.str (Str.ofString "_law_orders") 381, Value.str (Str.ofString "/claim/cut.py") 382, Value.int 114 0, Value.int 2 0, Value.int 0 0, Value.int 0 0, Value.int 3 0, Value.ref 147, Value.bool true, Value.int 181 0, Value.ref 148, Value.none, Value.none, Value.none, Value.ref 149, Value.int 383 0, Value.int 114 0, Value.str (Str.ofString "/claim/cut.py") 384] }),
   (151, { cls := Value.type "function", data := Data.func { name := Str.ofString "_law_orders", qualname := Str.ofString "_law_orders", params := defArgs (topStmt 15), body := FuncBody.stmts (defBody (topStmt 15)), scope := defScope (topStmt 15), globals := 3, closure := [], defaults := Value.none, kwdefaults := Value.none, pyModule := Value.str (Str.ofString "law_jc0027_01") 355, code := Value.ref 150 } }),
   (152, { cls := Value.type "tuple", data := Data.seq #[] }),
   (155, { cls := Value.type "code", data := Data.fields #[Value.str (Str.ofString "_law_due") 386, Value.str (Str.ofString "_law_due") 387, Value.str (Str.ofString "/claim/cut.py") 388, Value.int 119 0, Value.int 1 0, Value.int 0 0, Value.int 0 0, Value.int 3 0, Value.ref 152, Value.bool true, Value.int 181 0, Value.ref 153, Value.none, Value.none, Value.none, Value.ref 154, Value.int 389 0, Value.int 119 0, Value.str (Str.ofString "/claim/cut.py") 390] }),
   (156, { cls := Value.type "function", data := Data.func { name := Str.ofString "_law_due", qualname := Str.ofString "_law_due", params := defArgs (topStmt 16), body := FuncBody.stmts (defBody (topStmt 16)), scope := defScope (topStmt 16), globals := 3, closure := [], defaults := Value.none, kwdefaults := Value.none, pyModule := Value.str (Str.ofString "law_jc0027_01") 355, code := Value.ref 155 } }),
   (157, { cls := Value.type "tuple", data := Data.seq #[] }),
   (160, { cls := Value.type "code", data := Data.fields #[Value.str (Str.ofString "law") 392, Value.str (Str.ofString "law") 393, Value.str (Str.ofString "/claim/cut.py") 394, Value.int 133 0, Value.int 1 0, Value.int 0 0, Value.int 0 0, Value.int 3 0, Value.ref 157, Value.bool true, Value.int 181 0, Value.ref 158, Value.none, Value.none, Value.none, Value.ref 159, Value.int 395 0, Value.int 133 0, Value.str (Str.ofString "/claim/cut.py") 396] }),
   (161, { cls := Value.type "function", data := Data.func { name := Str.ofString "law", qualname := Str.ofString "law", params := defArgs (topStmt 17), body := FuncBody.stmts (defBody (topStmt 17)), scope := defScope (topStmt 17), globals := 3, closure := [], defaults := Value.none, kwdefaults := Value.none, pyModule := Value.str (Str.ofString "law_jc0027_01") 355, code := Value.ref 160 } })]
noncomputable def addrK : List Addr := [2, 3, 15, 17, 18, 20, 21, 32, 34, 35, 37, 38, 39, 41, 42, 44, 45, 46, 48, 49, 51, 52, 53, 55, 56, 58, 59, 60, 62, 63, 65, 66, 67, 69, 70, 72, 73, 74, 76, 77, 79, 80, 81, 82, 83, 84, 85, 88, 90, 91, 93, 94, 95, 97, 98, 100, 101, 102, 104, 105, 107, 108, 109, 111, 112, 114, 115, 116, 118, 119, 121, 122, 123, 125, 126, 128, 129, 130, 133, 134, 135, 137, 138, 140, 141, 142, 145, 146, 147, 150, 151, 152, 155, 156, 157, 160, 161]
theorem addrK_eq : ∀ P, addrK = (fragK P).map (·.1) := fun P => by kernel_rfl
noncomputable abbrev KF (w : World) : Frag := fragK w.params
abbrev PR : Program := PySem.Challenge.rw_jc0027_01.row.prog

theorem at_above (w : World) : FnAt (KF w) 146 "_law_above" (defArgs (topStmt 14)) (defBody (topStmt 14)) (defScope (topStmt 14)) :=
  ⟨_, _, _, _, _, _, _, _, _, by with_unfolding_all rfl, by with_unfolding_all rfl⟩
end

section
theorem k_makes (w : World) : makesIn (KF w) 83 = true := by with_unfolding_all rfl
theorem k_init (w : World) : findIn (KF w) (.ref 83) "__init__" = some (some (.ref 38)) := by with_unfolding_all rfl
theorem k_less (w : World) : findIn (KF w) (.ref 83) "less" = some (some (.ref 73)) := by with_unfolding_all rfl
theorem k_longest (w : World) : findIn (KF w) (.ref 83) "longest_run_of_spaces" = some (some (.ref 45)) := by with_unfolding_all rfl
theorem k_indent (w : World) : findIn (KF w) (.ref 83) "indent_level" = some (some (.ref 52)) := by with_unfolding_all rfl
theorem k_plain (w : World) (n : Str) : plainGet (KF w) 83 n = true := by with_unfolding_all rfl
theorem k_hasDict (w : World) : hasDictIn (KF w) 83 = true := by with_unfolding_all rfl
theorem k_over (w : World) : plainOver (KF w) 83 = true := by with_unfolding_all rfl
theorem k_setattr (w : World) : findIn (KF w) (.ref 83) "__setattr__" = some (some (.builtin "object.__setattr__")) := by with_unfolding_all rfl
theorem k_raw (w : World) : findIn (KF w) (.ref 83) "raw" = some none := by with_unfolding_all rfl
theorem k_n (w : World) : findIn (KF w) (.ref 83) "n" = some none := by with_unfolding_all rfl
theorem k_nt (w : World) : findIn (KF w) (.ref 83) "nt" = some none := by with_unfolding_all rfl
theorem k_norm (w : World) : findIn (KF w) (.ref 83) "norm" = some none := by with_unfolding_all rfl
theorem k_simple (w : World) : findIn (KF w) (.ref 83) "is_simple" = some none := by with_unfolding_all rfl
theorem k_fn38 (w : World) : typeIn (KF w) (.ref 38) = some (.type "function") := by with_unfolding_all rfl
theorem k_reads (w : World) : readsIn (KF w) 83 (.type "type") = true := by with_unfolding_all rfl
theorem k_S (w : World) : ∃ t, findCls (KF w) (.ref 83) (.type "type") "S" = some (.val (.str " " t)) := ⟨_, by with_unfolding_all rfl⟩
theorem k_T (w : World) : ∃ t, findCls (KF w) (.ref 83) (.type "type") "T" = some (.val (.str "\t" t)) := ⟨_, by with_unfolding_all rfl⟩
end

section
section
variable {prog : Program} {w : World} {A : Around} {env cenv : Env} {P : Part} {O O' : List U} {R R1 R2 R3 : Rep} {pos : Pos} {v u z : Value} {Φ : Flow → Part → List U → Prop} {rest : List Stmt} {K : Frag}

/-- what stood before the call, but for the clock -/
noncomputable def Bg0 (K : Frag) (P : Part) : Prop :=
  ∃ (mg mb mc : Str → Option Value) (bm : Addr) (ob : Obj), (∀ a o, K.lookup a = some o → P.get a = some o) ∧ PNs P mainGlobals mg ∧ PNs P builtinsNs mb ∧ (∀ x : Str, x ≠ "__name__" → mb x = bootBuiltins x) ∧ (PNs P cStatics mc ∧ mc "sys.recursionlimit" = none) ∧
    mg "__builtins__" = some (.ref bm) ∧ bm ≠ builtinsNs ∧ P.get bm = some ob ∧ ob.cls = .type "module" ∧ ob.dict = some builtinsNs ∧ ob.data = .plain
theorem Bg.zero (B : Bg K P) : Bg0 K P := B.1
theorem Bg0.up {P' : Part} (B : Bg0 K P) (l : P.le P') : Bg0 K P' := let ⟨mg, mb, mc, bm, ob, a, b, c, d, e, f, g, h, i⟩ := B; ⟨mg, mb, mc, bm, ob, fun x o q => l.2 _ _ (a x o q), b.up l, c.up l, d, ⟨e.1.up l, e.2⟩, f, g, l.2 _ _ h, i⟩
theorem Bg0.kin {s : Shared} (B : Bg0 K P) (X : Sat P O s) : K.In s.heap := let ⟨mg, mb, mc, bm, ob, a, _⟩ := B; fun x o q => X.per _ _ (a x o q)
theorem Bg0.nolimit {s : Shared} (B : Bg0 K P) (X : Sat P O s) : s.heap.NoLimit := let ⟨mg, mb, mc, bm, ob, a, b, c, d, e, _⟩ := B; ⟨mc, e.1.ns X, e.2⟩
theorem Bg0.get {a : Addr} {o : Obj} (B : Bg0 K P) (e : K.lookup a = some o) : P.get a = some o := let ⟨mg, mb, mc, bm, ob, a, _⟩ := B; a _ _ e
/-- names of the top, with no clock yet -/
theorem ev_global0 {x : Str} (B : Bg0 K P) (e : nsIn K mainGlobals x = some (some v)) (hg : env.globals = mainGlobals := by rfl) (hk : env.scope.kind = .function := by rfl) (hx : env.kindOf x = some .globalImplicit := by rfl) (hd : (x == ("__debug__" : Str)) = false := by decide) :
    Ev prog w A env (.Name x pos) P O (RVal v) := fun P' l => Gv.base fun s X => by
  have KX := (B.up l).kin X
  obtain ⟨mg, mb, mc, bm, ob, a, b, c, d, _⟩ := B.up l
  have hG := b.ns X
  exact Name_function_global hk hx (loadGlobal_global (env := env) (by rw [hg]; exact hG) (mg_of KX hG e) (here0 X rfl)) hd
/-- a call of a def without cells: inside it the clock has gone on -/
theorem f_call0 {a : Addr} {qual : Str} {params : Arguments} {body : List Stmt} {scope : Scope} {vals : List Value} {binds : List (Str × Value)} {ns : List Str} {vs : List (Option Value)} {Ψ : Value → Part → List U → Prop} {k : Nat}
    (B : Bg0 K P) (F : FnAt K a qual params body scope) (hA : Fit k A)
    (hbind : ∀ name doc pm an cdv ct, bindArgs (fnOf name qual params body scope .none .none doc pm an cdv ct) ⟨vals, []⟩ = PySem.Sem.pure binds)
    (hvs : ns.map (fun x => binds.reverse.lookup x) = vs) (hnd : ns.Nodup) (hloc : (binds.all fun y => scope.names.lookup y.1 == some .local) = true)
    (hb : 0 < binds.length) (h : ∀ L cd P', P.le P' → Bg K P' → Do prog w (A.deeper (envX qual scope L a cd [])) (execs body (envX qual scope L a cd [])) P' (frameU L ns vs :: O) (FnEnd Ψ))
    (hcell : ∀ x ∈ scope.names, x.2 ≠ .cell := by decide) (hco : scope.isCoroutine = false := by rfl) (hgen : scope.isGenerator = false := by rfl) (hk : scope.kind = .function := by rfl) : Do prog w A (call (.ref a) vals) P O (fun v P' O' => 0 < P'.tk ∧ Ψ v P' O') := Do.mk fun s X => by
  obtain ⟨oc, od, name, doc, pm, an, cdv, ct, osl, hK, hcd⟩ := F
  refine wpAny_call (codeAny_call_def (fd := fnOf name qual params body scope .none .none doc pm an cdv ct) (body := body) (binds := binds) hA.depth (B.kin X _ _ hK) rfl (B.nolimit X) (codeRec_of (B.kin X) hcd) rfl (BindsTo.of_eq (hbind _ _ _ _ _ _)) hcell (fun x hx => by simpa using List.all_eq_true.mp hloc x hx) (fun h' hn hk' => ?_) hco hgen hk)
  have X1 : Sat P (frameU s.heap.objs.size ns vs :: O) { s with heap := h', toks := s.toks + binds.length } :=
    X.push (Nat.le_add_right _ _) hk' (fun a ha => by cases ha with | head => exact fresh_size _ | tail _ q => cases q) (List.nodup_cons.mpr ⟨by simp, .nil⟩)
      ⟨hnd, _, hn, fun i y v e1 e2 => by subst hvs; rw [List.getElem?_map, e1] at e2; simpa using e2⟩
  obtain ⟨l1, X2⟩ := X1.stamp
  have lP : P.le (P.stamp (s.toks + binds.length)) := l1
  have ht : 0 < (P.stamp (s.toks + binds.length)).tk := by show 0 < s.toks + binds.length; omega
  exact wpAny_mono ((h s.heap.objs.size cdv _ lP ⟨B.up lP, ht⟩).run _ X2) (fun f s2 ⟨P2, O2, l2, X2, us, O3, e3, q⟩ => by subst e3; exact ⟨P2, O3, lP.trans l2, X2.drops, Nat.lt_of_lt_of_le ht l2.1.2, q⟩) fun _ _ e => e.elim
/-- a call of a def with cells, with no clock yet -/
theorem f_callC0 {a : Addr} {qual : Str} {params : Arguments} {body : List Stmt} {scope : Scope} {vals : List Value} {binds : List (Str × Value)} {ns : List Str} {vs : List (Option Value)} {cm : List (Str × Option Value)} {Ψ : Value → Part → List U → Prop} {k : Nat}
    (B : Bg0 K P) (F : FnAt K a qual params body scope) (hA : Fit k A)
    (hbind : ∀ name doc pm an cdv ct, bindArgs (fnOf name qual params body scope .none .none doc pm an cdv ct) ⟨vals, []⟩ = PySem.Sem.pure binds)
    (hvs : ∀ L cd, ns.map (bindL (envX qual scope L a cd (cellsFrom (L + 1) scope.names [])).kindOf binds fun _ => none) = vs) (hnd : ns.Nodup)
    (hcm : ∀ L cd, (cellsFrom (L + 1) scope.names []).map (fun x => (x.1, bindC (envX qual scope L a cd (cellsFrom (L + 1) scope.names [])).kindOf binds (fun _ => none) x.1)) = cm)
    (hkind : (binds.all fun y => scope.names.lookup y.1 == some .local || scope.names.lookup y.1 == some .cell) = true) (hcn : ((cellsFrom 0 scope.names []).map (·.1)).Nodup)
    (h : ∀ L cd, Do prog w (A.deeper (envX qual scope L a cd (cellsFrom (L + 1) scope.names []))) (execs body (envX qual scope L a cd (cellsFrom (L + 1) scope.names []))) P
      (frameU L ns vs :: (((cellsFrom (L + 1) scope.names []).zip cm).map (fun x => cellU x.1.2 x.2.2) ++ O)) (FnEnd Ψ))
    (hco : scope.isCoroutine = false := by rfl) (hgen : scope.isGenerator = false := by rfl) (hk : scope.kind = .function := by rfl) : Do prog w A (call (.ref a) vals) P O Ψ := Do.mk fun s X => by
  obtain ⟨oc, od, name, doc, pm, an, cdv, ct, osl, hK, hcd⟩ := F
  refine wpAny_call (codeAny_call_function (fd := fnOf name qual params body scope .none .none doc pm an cdv ct) (body := body) hA.depth (B.kin X _ _ hK) rfl hco hgen rfl (codeRec_of (B.kin X) hcd) ?_)
  rw [hbind]
  refine wpAny_pure (wpAny_with_toks (Nat.le_refl s.toks) (wpAny_newFunctionEnv_cells hk (kindsX hkind _) fun env' he s1 I ht => ?_))
  subst he
  have I : InCallC s s.heap.objs.size (bindL (envX qual scope s.heap.objs.size a cdv (cellsFrom (s.heap.objs.size + 1) scope.names [])).kindOf binds fun _ => none) (cellsFrom (s.heap.objs.size + 1) scope.names []) (bindC (envX qual scope s.heap.objs.size a cdv (cellsFrom (s.heap.objs.size + 1) scope.names [])).kindOf binds fun _ => none) s1 := I
  refine ⟨(B.nolimit X).keeps I.toInCall.keep, codeAny_func ?_⟩
  obtain ⟨h', tk, rfl, hk'⟩ := I.done
  have hcells : ∀ n c, (n, c) ∈ cellsFrom (s.heap.objs.size + 1) scope.names [] → h'.IsCell c (bindC (envX qual scope s.heap.objs.size a cdv (cellsFrom (s.heap.objs.size + 1) scope.names [])).kindOf binds (fun _ => none) n) ∧ s.heap.objs.size < c := fun n c hm =>
    ⟨I.cell n c (lookup_of_mem_nodup (cellsFrom_names scope.names 0 (s.heap.objs.size + 1) [] [] rfl ▸ hcn) hm), I.above n c hm⟩
  have hap : (cellsFrom (s.heap.objs.size + 1) scope.names []).Pairwise fun x y => x.2 ≠ y.2 := I.apart
  have hus : ((cellsFrom (s.heap.objs.size + 1) scope.names []).zip cm).map (fun x => cellU x.1.2 x.2.2) =
      (cellsFrom (s.heap.objs.size + 1) scope.names []).map fun x => cellU x.2 (bindC (envX qual scope s.heap.objs.size a cdv (cellsFrom (s.heap.objs.size + 1) scope.names [])).kindOf binds (fun _ => none) x.1) := by
    rw [← hcm s.heap.objs.size cdv]
    exact zip_cells _ _
  have X1 : Sat P (frameU s.heap.objs.size ns vs :: (((cellsFrom (s.heap.objs.size + 1) scope.names []).zip cm).map (fun x => cellU x.1.2 x.2.2) ++ O)) { s with heap := h', toks := tk } := by
    rw [hus]
    refine X.pushes (us := frameU s.heap.objs.size ns vs :: (cellsFrom (s.heap.objs.size + 1) scope.names []).map fun x => cellU x.2 _) ht hk' (fun u hu => ?_) ?_ fun b hb => ?_
    · cases hu with
      | head => exact ⟨hnd, _, I.toInCall.ns, fun i y v e1 e2 => by
          rw [← hvs s.heap.objs.size cdv, List.getElem?_map, e1] at e2; simpa using e2⟩
      | tail _ hu =>
        obtain ⟨x, hx, rfl⟩ := List.mem_map.mp hu
        exact (hcells x.1 x.2 hx).1
    · show ([s.heap.objs.size] ++ fps _).Nodup
      have e : ∀ (l : List (Str × Addr)) (g : Str → Option Value), fps (l.map fun x => cellU x.2 (g x.1)) = l.map (·.2) := fun l g => by
        induction l with
        | nil => rfl
        | cons x l ih => rw [List.map_cons, fps_cons, ih]; rfl
      rw [e]
      refine List.nodup_append.mpr ⟨List.nodup_cons.mpr ⟨by simp, .nil⟩, (List.pairwise_map.mpr (hap.imp fun h => h)), fun a ha b hb q => ?_⟩
      obtain ⟨x, hx, rfl⟩ := List.mem_map.mp hb
      have := (hcells x.1 x.2 hx).2
      rw [List.mem_singleton.mp ha] at q
      exact absurd this (by rw [← q]; exact Nat.lt_irrefl _)
    · have : s.heap.objs.size ≤ b := by
        rw [fps_cons] at hb
        rcases List.mem_append.mp hb with hb | hb
        · exact Nat.le_of_eq (List.mem_singleton.mp hb).symm
        · obtain ⟨u, hu, hb⟩ := List.mem_flatMap.mp hb
          obtain ⟨x, hx, rfl⟩ := List.mem_map.mp hu
          rw [List.mem_singleton.mp hb]
          exact Nat.le_of_lt (hcells x.1 x.2 hx).2
      cases e : s.heap.get? b with
      | none => rfl
      | some o => exact absurd (Heap.lt_size e) (Nat.not_lt.mpr this)
  exact wpAny_mono ((h s.heap.objs.size cdv).run _ X1) (fun f s2 ⟨P2, O2, l2, X2, us, O3, e3, q⟩ => by subst e3; exact ⟨P2, O3, l2, X2.drops, q⟩) fun _ _ e => e.elim
theorem kept_at0 {a : Addr} {qual : Str} {params : Arguments} {body : List Stmt} {scope : Scope} (F : FnAt K a qual params body scope) (B : Bg0 K P) : Kept (.ref a) P := by
  obtain ⟨oc, od, name, doc, pm, an, cdv, ct, osl, hK, hcd⟩ := F
  exact kept_fn (B.get hK)
end
end

section
section
variable {w : World} {A : Around} {env : Env} {P : Part} {O : List U} {v : Value}

noncomputable def aboveL (rel : Nat → List Nat) (x : Nat) : List Nat := letters.filter fun y => decide (x ∈ rel y) && ((rel y).filter fun z => decide (x ∈ rel z)).isEmpty

theorem above_spec (rel : Nat → List Nat) (hrel : ∀ c ∈ letters, ∀ y ∈ rel c, y ∈ letters) (hlen : ∀ c ∈ letters, (rel c).length ≤ 5) (B : Bg (KF w) P) (hA : Fit 3 A) (hv : (RRel PR w rel).h P v) : Gv PR w A (call (.ref 146) [v]) P O (RRel PR w (aboveL rel)) := by
  refine f_callC B (at_above w) hA (binds := [("below", v)]) (ns := ["above"]) (vs := [none]) (cm := [("x", none), ("below", some v)]) (fun _ _ _ _ _ _ => rfl) (fun _ _ => rfl) (by decide) (fun _ _ => rfl) (by rfl) (by decide) (fun L cd => ?_)
  show Do _ _ _ (execs (defBody (topStmt 14)) _) P (frameU L ["above"] [none] :: cellU (L+1+1) none :: cellU (L+1) (some v) :: O) _
  have hA' := hA.deeper (env := envX "_law_above" (defScope (topStmt 14)) L 146 cd (cellsFrom (L + 1) (defScope (topStmt 14)).names []))
  refine x_newDict (fun d => .head) (fun d => .head) (fun d P1 l1 hd => ?_)
  refine x_for (R1 := RStr (S letters)) (n := 5) (item := fun i => RTok (S [letters.getD i 0])) (fun i P' O' => ∃ kvs cx, O' = dictU PR w d kvs :: frameU L ["above"] [some (.ref d)] :: cellU (L+1+1) cx :: cellU (L+1) (some v) :: O ∧ Ents P' ((letters.take i).map fun c => (S [c], RStr (S (aboveL rel c)))) kvs)
    ev_abcde (fun P' v' l r => i_S hA'.none r letters_lt (B.up (l1.trans l)).2) (fun P' l => ⟨[], none, rfl, Ents.nil⟩) ?_ ?_
  · rintro i it P2 P3 O' v' hi l2 l3 ⟨kvs, cx, rfl, en⟩ rv
    refine Do.assign_name (s_cell (.tail (.tail (.tail .head))) ?_)
    have hc : letters.getD i 0 ∈ letters := by
      exact getD_mem hi
    generalize hcc : letters.getD i 0 = c at rv hc
    have lP : P.le P3 := (l1.trans l2).trans l3
    refine x_setItem (R1 := RStr (S (aboveL rel c))) (R2 := RVal (.ref d)) (R3 := RStr (S [c])) (Ψ := fun P' O' => ∃ z, (RStr (S (aboveL rel c))).h P' z ∧ O' = it :: dictU PR w d (stored kvs (S [c]) z) :: frameU L ["above"] [some (.ref d)] :: cellU (L+1+1) (some v') :: cellU (L+1) (some v) :: O) ?_ ?_ ?_ ?_ ?_
    · refine ev_meth (R1 := RStr (S [])) (Rs := [RList ((aboveL rel c).map fun c => RStr (S [c]))]) F.plainAttrs_str F.slot_str_join F.type_str_join ev_empty (fun P' v s _ r _ => RStr.meth P' v s r)
        (evl_cons (ev_compS (l := letters) (fun y => decide (c ∈ rel y) && ((rel y).filter fun z => decide (c ∈ rel z)).isEmpty) (fun y => RStr (S [y])) hA'.none ev_abcde letters_lt (B.up lP).2 (by rw [sizeLine_eq]; decide) ?_ ?_) evl_nil) (fun P' v0 vs l r rs => ?_)
      · intro y vy P' u C D acc hy lj ry
        refine tl_one (tst_and (tst_in (ev_cell (by walk_at "mem") (RTok.str (RTok.up rv lj))) (ev_sub_rel (ev_cell (by walk_at "mem") ((RRel PR w rel).mono _ _ _ (lP.trans lj) hv)) (ev_local (by walk_at "mem") (by walk_at "has") (RTok.str ry)) hy)) fun _ => ?_)
        have e : ((rel y).filter fun z => decide (c ∈ rel z)).isEmpty = (((rel y).filter fun z => decide (c ∈ rel z)).map fun z => RStr (S [z])).isEmpty := by rw [List.isEmpty_map]
        rw [e]
        refine tst_eqNil hA'.units (ev_compS (l := rel y) (fun z => decide (c ∈ rel z)) (fun z => RStr (S [z])) hA'.none (ev_sub_rel (ev_cell (by walk_at "mem") ((RRel PR w rel).mono _ _ _ (lP.trans lj) hv)) (ev_local (by walk_at "mem") (by walk_at "has") (RTok.str ry)) hy) (fun c h => letters_lt c (hrel y hy c h)) (B.up (lP.trans lj)).2 (by have := hlen y hy; rw [sizeLine_eq]; omega) ?_ ?_)
        · intro z vz P' u2 C2 D2 acc2 hz lk rz
          exact tl_one (tst_in (ev_cell (by walk_at "mem") (RTok.str (RTok.up rv (lj.trans lk)))) (ev_sub_rel (ev_cell (by walk_at "mem") ((RRel PR w rel).mono _ _ _ ((lP.trans lj).trans lk) hv)) (ev_local (by walk_at "mem") (by walk_at "has") (RTok.str rz)) (hrel y hy z hz)))
        · intro z vz P' u2 C2 D2 acc2 hz hk2 lk rz
          exact ev_local (by walk_at "mem") (by walk_at "has") (RTok.str rz)
      · intro y vy P' u C D acc hy hk lj ry
        exact ev_local (by walk_at "mem") (by walk_at "has") (RTok.str ry)
      · match vs, rs with
        | [u], ⟨hu, _⟩ =>
          have := g_join (prog := PR) (w := w) (A := A.deeper (envX "_law_above" (defScope (topStmt 14)) L 146 cd (cellsFrom (L + 1) (defScope (topStmt 14)).names []))) (O := it :: dictU PR w d kvs :: frameU L ["above"] [some (.ref d)] :: cellU (L+1+1) (some v') :: cellU (L+1) (some v) :: O) (ts := (aboveL rel c).map fun c => S [c]) r (by rw [List.map_map]; exact hu) (joinOk_S _ (Nat.le_trans (List.length_filter_le _ _) (by decide)))
          rw [join_S] at this
          exact this
    · exact ev_local (by walk_at "mem") (by walk_at "has") rfl
    · exact ev_cell (by walk_at "mem") (RTok.str rv)
    · intro P' z v1 u lz rz r1 r2
      obtain rfl : v1 = .ref d := r1
      have h1 := en.length
      exact o_setItem_dict (.tail .head) r2 (by rw [h1]; simp [letters]; rw [sizeLine_eq]; omega) ⟨z, rz, rfl⟩
    · rintro P4 O4 l4 ⟨z, rz, rfl⟩
      refine x_nil ⟨_, rfl, stored kvs (S [c]) z, some v', rfl, ?_⟩
      have := (en.mono (l3.trans l4)).put (k := S [c]) rz
      rw [put_new] at this
      · rw [take_getD hi, List.map_append, hcc]; exact this
      · rw [← hcc]; exact not_mem_take (by decide) hi
  · rintro P2 P3 O' l2 l3 ⟨kvs, cx, rfl, en⟩
    refine x_nil ?_
    refine o_freezeDict (O' := frameU L ["above"] [some (.ref d)] :: cellU (L+1+1) cx :: cellU (L+1) (some v) :: O) ⟨_, .refl _, rfl⟩ hd (en.mono l3) (fun P4 l4 r4 => ?_)
    refine x_retEv (R := RDict PR w (letters.map fun c => (S [c], RStr (S (aboveL rel c))))) (ev_local (by walk_at "mem") (by walk_at "has") r4) (fun P5 z l5 r5 => ⟨[_, _, _], O, rfl, rfl, r5⟩)
end
end

section
theorem at_contains (w : World) : FnAt (KF w) 94 "contains" (defArgs (topStmt 4)) (defBody (topStmt 4)) (defScope (topStmt 4)) :=
  ⟨_, _, _, _, _, _, _, _, _, by with_unfolding_all rfl, by with_unfolding_all rfl⟩
theorem at_getitem (w : World) : FnAt (KF w) 101 "getitem" (defArgs (topStmt 5)) (defBody (topStmt 5)) (defScope (topStmt 5)) :=
  ⟨_, _, _, _, _, _, _, _, _, by with_unfolding_all rfl, by with_unfolding_all rfl⟩
theorem at_setitem (w : World) : FnAt (KF w) 115 "setitem" (defArgs (topStmt 7)) (defBody (topStmt 7)) (defScope (topStmt 7)) :=
  ⟨_, _, _, _, _, _, _, _, _, by with_unfolding_all rfl, by with_unfolding_all rfl⟩
theorem at_count (w : World) : FnAt (KF w) 129 "count_calls" (defArgs (topStmt 10)) (defBody (topStmt 10)) (defScope (topStmt 10)) :=
  ⟨_, _, _, _, _, _, _, _, _, by with_unfolding_all rfl, by with_unfolding_all rfl⟩

section
variable {w : World} {A : Around} {env : Env} {P : Part} {O O' : List U} {v u z : Value} {R : Rep}

/-- contains, of a text -/
theorem contains_spec {l : List Nat} {c : Nat} (B : Bg (KF w) P) (hA : Fit 1 A) (hv : (RStr (S l)).h P v) (hu : (RStr (S [c])).h P u) : Gv PR w A (call (.ref 94) [v, u]) P O (RBool (decide (c ∈ l))) := by
  refine f_call B (at_contains w) hA (binds := [("a", v), ("b", u)]) (ns := ["a", "b"]) (vs := [some v, some u]) (fun _ _ _ _ _ _ => rfl) (by rfl) (by decide) (by rfl) (fun L cd => ?_)
  refine x_retEv (R := RBool (decide (c ∈ l))) (ev_cmp (ev_local (by walk_at "mem") (by walk_at "has") hu) (ev_local (by walk_at "mem") (by walk_at "has") hv) (fun P' v u l' h1 h2 => by rw [← occ_S]; exact g_in_str h1 h2)) (fun P5 z l5 r5 => ⟨[_], O, rfl, rfl, r5⟩)
/-- getitem, of a table -/
theorem getitem_spec {rs : List (Str × Rep)} {k : Str} (B : Bg (KF w) P) (hA : Fit 1 A) (hv : (RDict PR w rs).h P v) (hu : (RStr k).h P u) (hl : look rs k = some R) : Gv PR w A (call (.ref 101) [v, u]) P O R := by
  refine f_call B (at_getitem w) hA (binds := [("a", v), ("b", u)]) (ns := ["a", "b"]) (vs := [some v, some u]) (fun _ _ _ _ _ _ => rfl) (by rfl) (by decide) (by rfl) (fun L cd => ?_)
  exact x_retEv (R := R) (ev_sub_dict (ev_local (by walk_at "mem") (by walk_at "has") hv) (ev_local (by walk_at "mem") (by walk_at "has") hu) hl) (fun P5 z l5 r5 => ⟨[_], O, rfl, rfl, r5⟩)
/-- setitem, of an own table -/
theorem setitem_spec {d : Addr} {kvs : List (Str × Value)} {k : Str} (B : Bg (KF w) P) (hA : Fit 1 A) (hU : Upd O (dictU PR w d kvs) (dictU PR w d (stored kvs k z)) O') (hu : (RStr k).h P u) (hz : kvs.length ≤ sizeLine) :
    Do PR w A (call (.ref 115) [.ref d, u, z]) P O (fun r P' O'' => r = .none ∧ O'' = O') := by
  refine f_call B (at_setitem w) hA (binds := [("a", .ref d), ("b", u), ("c", z)]) (ns := ["a", "b", "c"]) (vs := [some (.ref d), some u, some z]) (fun _ _ _ _ _ _ => rfl) (by rfl) (by decide) (by rfl) (fun L cd => ?_)
  refine x_setItem (R1 := RVal z) (R2 := RVal (.ref d)) (R3 := RStr k) (Ψ := fun P' O1 => O1 = frameU L ["a", "b", "c"] [some (.ref d), some u, some z] :: O') (ev_local (by walk_at "mem") (by walk_at "has") rfl) (ev_local (by walk_at "mem") (by walk_at "has") rfl) (ev_local (by walk_at "mem") (by walk_at "has") hu)
    (fun P' z' v' u' l r1 r2 r3 => ?_) fun P' O1 l e => ?_
  · obtain rfl : z' = z := r1
    obtain rfl : v' = .ref d := r2
    exact o_setItem_dict (.tail hU) r3 hz rfl
  · subst e
    exact x_nil ⟨[_], O', rfl, rfl, rfl⟩

noncomputable def sumI (l : List (Str × Int)) : Int := l.foldl (fun a kv => a + kv.2) 0
theorem getD_map_snd (l : List (Str × Int)) (f : Int → Rep) {i : Nat} (h : i < l.length) : ((l.map fun kv => (kv.1, f kv.2)).map (·.2)).getD i RAny = f (l[i]).2 := by
  simp [List.getD_eq_getElem?_getD, h]
/-- count_calls, of whole numbers -/
theorem count_spec {l : List (Str × Int)} (B : Bg (KF w) P) (hA : Fit 1 A) (hv : (RDict PR w (l.map fun kv => (kv.1, RInt kv.2))).h P v) : Gv PR w A (call (.ref 129) [v]) P O (RInt (sumI l)) := by
  refine f_call B (at_count w) hA (binds := [("callers", v)]) (ns := ["callers", "nc", "calls"]) (vs := [some v, none, none]) (fun _ _ _ _ _ _ => rfl) (by rfl) (by decide) (by rfl) (fun L cd => ?_)
  refine x_local (R := RInt 0) ev_int (fun _ => .head) (fun _ => .tail .head) (fun z P1 l1 r1 => ?_)
  refine x_for (R1 := RView PR w "dict_values" (l.map fun kv => (kv.1, RInt kv.2))) (n := (l.map fun kv => (kv.1, RInt kv.2)).length) (item := fun i => (((l.map fun kv => (kv.1, RInt kv.2))).map (·.2)).getD i RAny)
    (fun i P' O' => ∃ z c, O' = frameU L ["callers", "nc", "calls"] [some v, some z, c] :: O ∧ (RInt (sumI (l.take i))).h P' z)
    (ev_meth0 F.plainAttrs_dict F.slot_dict_values F.type_dict_values (R1 := RDict PR w (l.map fun kv => (kv.1, RInt kv.2))) (ev_local (by walk_at "mem") (by walk_at "has") ((RDict PR w _).mono _ _ _ l1 hv)) (fun P' v s l r X => RDict.meth r X) (fun P' v l r => g_values r))
    (fun P' v' l' r => i_values (hA.deeper (k := 0)).none r) (fun P' l' => ⟨z, none, rfl, r1.imp fun _ h => h⟩) ?_ ?_
  · rintro i it P2 P3 O' v' hi l2 l3 ⟨z, c, rfl, rz⟩ rv
    rw [List.length_map] at hi
    rw [getD_map_snd l RInt hi] at rv
    refine Do.assign_name (s_local (.tail .head) (.tail (.tail .head)) ?_)
    refine x_augLocal (R1 := RInt (sumI (l.take i))) (R2 := RInt l[i].2) (R := RInt (sumI (l.take (i + 1)))) (.tail .head) ((RInt _).mono _ _ _ l3 rz) (ev_local (by walk_at "mem") (by walk_at "has") rv) (fun P' b l' rb => ?_) (fun _ => .tail .head) (fun _ => .tail .head) (fun z2 P4 l4 r4 => ?_)
    · have := g_iadd_int (prog := PR) (w := w) (A := A.deeper (envX "count_calls" (defScope (topStmt 10)) L 129 cd [])) (O := it :: frameU L ["callers", "nc", "calls"] [some v, some z, some v'] :: O) ((RInt (sumI (l.take i))).mono _ _ _ (l3.trans l') rz) rb
      have e : sumI (l.take (i + 1)) = sumI (l.take i) + l[i].2 := by
        rw [show l.take (i + 1) = l.take i ++ [l[i]] by rw [List.take_add_one]; simp [hi]]; simp only [sumI, List.foldl_append, List.foldl_cons, List.foldl_nil]
      rw [e]; exact this
    · exact x_nil ⟨_, rfl, z2, some v', rfl, r4⟩
  · rintro P2 P3 O' l2 l3 ⟨z, c, rfl, rz⟩
    refine x_nil ?_
    rw [List.length_map, List.take_length] at rz
    exact x_retEv (R := RInt (sumI l)) (ev_local (by walk_at "mem") (by walk_at "has") ((RInt _).mono _ _ _ l3 rz)) (fun P5 z l5 r5 => ⟨[_], O, rfl, rfl, r5⟩)
end
end

section
theorem at_indexOf (w : World) : FnAt (KF w) 108 "indexOf" (defArgs (topStmt 6)) (defBody (topStmt 6)) (defScope (topStmt 6)) :=
  ⟨_, _, _, _, _, _, _, _, _, by with_unfolding_all rfl, by with_unfolding_all rfl⟩

/-- the private store of the machine: no token is booked -/
theorem Bg.nb {w : World} {P : Part} {O : List U} {s : Shared} (B : Bg (KF w) P) (X : Sat P O s) : NoneBooked s.heap := by
  have KX := B.kin X
  obtain ⟨oc, od, sl, ep, e⟩ : ∃ oc od sl ep, (KF w).lookup 2 = some ⟨oc, od, .dict #[] ep, sl⟩ := ⟨_, _, _, _, by with_unfolding_all rfl⟩
  exact ⟨_, ⟨_, _, _, KX _ _ e, rfl, (by simp [StrKeys]), fun _ => rfl⟩, rfl⟩

section
variable {w : World} {A : Around} {env : Env} {P : Part} {O O' : List U} {v u z : Value} {R : Rep}

theorem idxOf_take {l : List Nat} {c i : Nat} (hn : c ∉ l.take i) (hi : i < l.length) (he : l.getD i 0 = c) : l.idxOf c = i := by
  have e : l = l.take i ++ (c :: l.drop (i + 1)) := by
    have e1 : l[i] = c := by rw [← he]; simp [hi]
    rw [← e1, ← List.drop_eq_getElem_cons hi, List.take_append_drop]
  rw [e, List.idxOf_append, if_neg hn]
  simp; omega

theorem index_spec {l : List Nat} {c : Nat} (B : Bg (KF w) P) (hA : Fit 1 A) (hl : ∀ c ∈ l, c < 128) (hv : (RStr (S l)).h P v) (hu : (RTok (S [c])).h P u) (hc : c ∈ l) : Gv PR w A (call (.ref 108) [v, u]) P O (RInt (l.idxOf c)) := by
  refine f_call B (at_indexOf w) hA (binds := [("a", v), ("b", u)]) (ns := ["a", "b", "i", "j"]) (vs := [some v, some u, none, none]) (fun _ _ _ _ _ _ => rfl) (by rfl) (by decide) (by rfl) (fun L cd => ?_)
  refine x_forO (n := l.length) (item := fun P₀ i => RTupW [RInt i, RNew P₀.tk (S [l.getD i 0])]) (fun i P' O' => ∃ x y, O' = frameU L ["a", "b", "i", "j"] [some v, some u, x, y] :: O ∧ c ∉ l.take i) ?_ (fun P' l' => ⟨none, none, rfl, by simp⟩) ?_ ?_
  · refine do_call (Rs := [RStr (S l)]) (ev_builtin B (v := .type "enumerate") (by with_unfolding_all rfl) (by with_unfolding_all rfl) (by decide)) kept_type (evl_cons (ev_local (by walk_at "mem") (by walk_at "has") hv) evl_nil) (fun P' vs l' rs => ?_)
    match vs, rs with
    | [z], ⟨rz, _⟩ =>
      refine o_enumText (hA.deeper (k := 0)).none rz (by simpa [S] using hl) (B.up l').2 (fun e it W => ⟨P', e, it, l', .refl _, rfl, rfl, ?_⟩)
      have e1 : (S l).cps.size = l.length := by simp [S]
      have e2 : (fun i : Nat => RTupW [RInt i, RNew P'.tk ⟨#[(S l).cps.getD i 0]⟩]) = fun i : Nat => RTupW [RInt i, RNew P'.tk (S [l.getD i 0])] := by
        funext i; simp [S]
      rw [e1, e2] at W
      exact W _ _ _
  · rintro i it P₀ P2 P3 O' v' hi la lb l3 ⟨x, y, rfl, hn⟩ rv
    refine s_pair (hA.deeper (k := 0)).none rv (fun a b ra rb => Do.assign_name (s_local (.tail .head) (.tail (.tail .head)) (Do.assign_name (s_local (.tail .head) (.tail (.tail (.tail .head))) ?_))))
    have lP : P.le P3 := (la.trans lb).trans l3
    refine x_if (c := decide (l.getD i 0 = c)) (tst_or_any (do_is_str (t₀ := P₀.tk) (x := S [l.getD i 0]) (y := S [c]) (fun P' s l' X => (B.up (lP.trans l')).nb X) (ev_local (by walk_at "mem") (by walk_at "has") rb) (ev_local (by walk_at "mem") (by walk_at "has") (ROld.of hu la.1.2)) (fun e => by simpa using (by simpa using S_inj.mp e : l.getD i 0 = c))) ?_) ?_ ?_
    · refine tst_cmp (R1 := RStr (S [l.getD i 0])) (R2 := RStr (S [c])) (ev_local (by walk_at "mem") (by walk_at "has") (RNew.str rb)) (ev_local (by walk_at "mem") (by walk_at "has") (RTok.str (RTok.up hu lP))) (fun P' v u l' h1 h2 => ?_)
      have e : decide (l.getD i 0 = c) = (S [l.getD i 0] == S [c]) := by
        rw [Bool.eq_iff_iff]; simp [S_inj]
      rw [e]; exact g_eq_str h1 h2
    · intro hc' P4 l4
      refine x_retEv (R := RInt i) (ev_local (by walk_at "mem") (by walk_at "has") ((RInt i).mono _ _ _ l4 ra)) (fun P5 z l5 r5 => ⟨_, rfl, [_], O, rfl, rfl, ?_⟩)
      rw [idxOf_take hn hi (of_decide_eq_true hc')]; exact r5
    · intro hc' P4 l4
      refine x_nil (x_nil ⟨_, rfl, some a, some b, rfl, ?_⟩)
      rw [take_getD hi]
      simp only [List.mem_append, List.mem_singleton, not_or]
      exact ⟨hn, fun q => of_decide_eq_false hc' q.symm⟩
  · rintro P2 P3 O' l2 l3 ⟨x, y, rfl, hn⟩
    rw [List.take_length] at hn
    exact absurd hc hn
end
end

section
theorem at_columns (w : World) : FnAt (KF w) 141 "_law_columns" (defArgs (topStmt 13)) (defBody (topStmt 13)) (defScope (topStmt 13)) :=
  ⟨_, _, _, _, _, _, _, _, _, by with_unfolding_all rfl, by with_unfolding_all rfl⟩

section
variable {w : World} {A : Around} {env : Env} {P : Part} {O O' : List U} {v u z : Value} {R : Rep}

noncomputable def col1 (size c : Int) (sign : Nat) : Int := if sign = 32 then c + 1 else c - c.fmod size + size
noncomputable def colN (size : Int) (l : List Nat) : Int := l.foldl (col1 size) 0
noncomputable def columnsL (l : List Nat) : List Int := (List.range 6).map fun i : Nat => colN (1 + (i : Int)) l
theorem colN_succ {size : Int} {l : List Nat} {i : Nat} (h : i < l.length) : colN size (l.take (i + 1)) = col1 size (colN size (l.take i)) (l.getD i 0) := by
  rw [take_getD h]; simp only [colN, List.foldl_append, List.foldl_cons, List.foldl_nil]

theorem hS_blank : Str.ofString " " = S [32] := by decide +kernel
theorem hS_tab : Str.ofString "\t" = S [9] := by decide +kernel

theorem columns_spec {l : List Nat} (B : Bg (KF w) P) (hA : Fit 1 A) (hl : ∀ c ∈ l, c < 128) (hv : (RStr (S l)).h P v) : Gv PR w A (call (.ref 141) [v]) P O (RList ((columnsL l).map RInt)) := by
  refine f_call B (at_columns w) hA (binds := [("lead", v)]) (ns := ["lead", "columns", "size", "column", "sign"]) (vs := [some v, none, none, none, none]) (fun _ _ _ _ _ _ => rfl) (by rfl) (by decide) (by rfl) (fun L cd => ?_)
  have hA' := hA.deeper (env := envX "_law_columns" (defScope (topStmt 13)) L 141 cd [])
  refine x_newList (Rs := []) evl_nil (by simp) (fun _ => .head) (fun _ => .tail .head) (fun cl items P1 l1 r1 => ?_)
  have e0 : items = [] := List.eq_nil_of_length_eq_zero r1.length
  subst e0
  refine x_for (R1 := RRange 1 7) (n := 6) (item := fun i => RInt (1 + i)) (fun i P' O' => ∃ vs a b c, O' = listU cl vs :: frameU L ["lead", "columns", "size", "column", "sign"] [some v, some (.ref cl), a, b, c] :: O ∧ Reps P' ((List.range i).map fun i : Nat => RInt (colN (1 + (i : Int)) l)) vs)
    (ev_call (Rs := [RInt 1, RInt 7]) (ev_builtin (B.up l1) (v := .type "range") (by with_unfolding_all rfl) (by with_unfolding_all rfl) (by decide)) kept_type (evl_cons ev_int (evl_cons ev_int evl_nil)) (fun P' vs l' rs => by
      match vs, rs with
      | [a, b], ⟨ra, rb, _⟩ => exact g_range2 ra rb)) (fun P' v' l' r => i_range hA'.none r (by decide) (by decide)) (fun P' l' => ⟨[], none, none, none, rfl, trivial⟩) ?_ ?_
  · rintro i it P2 P3 O' v' hi l2 l3 ⟨vs, a, b, c, rfl, rr⟩ rv
    refine Do.assign_name (s_local (.tail (.tail .head)) (.tail (.tail .head)) ?_)
    refine x_local (R := RInt 0) ev_int (fun _ => .tail (.tail .head)) (fun _ => .tail (.tail (.tail .head))) (fun z P4 l4 r4 => ?_)
    have lP : P.le P4 := ((l1.trans l2).trans l3).trans l4
    refine x_for (R1 := RStr (S l)) (n := l.length) (item := fun j => RTok (S [l.getD j 0])) (fun j P' O' => ∃ z c, O' = it :: listU cl vs :: frameU L ["lead", "columns", "size", "column", "sign"] [some v, some (.ref cl), some v', some z, c] :: O ∧ (RInt (colN (1 + (i : Int)) (l.take j))).h P' z)
      (ev_local (by walk_at "mem") (by walk_at "has") ((RStr _).mono _ _ _ lP hv)) (fun P' v' l' r => i_S hA'.none r hl (B.up (lP.trans l')).2) (fun P' l' => ⟨z, c, rfl, (RInt 0).mono _ _ _ l' r4⟩) ?_ ?_
    · rintro j it2 P5 P6 O' vj hj l5 l6 ⟨z, c, rfl, rz⟩ rvj
      refine Do.assign_name (s_local (.tail (.tail (.tail .head))) (.tail (.tail (.tail (.tail .head)))) ?_)
      have rz' := (RInt _).mono _ _ _ l6 rz
      have rv' := (RInt _).mono _ _ _ ((l4.trans l5).trans l6) rv
      refine x_local (R := RInt (colN (1 + (i : Int)) (l.take (j + 1)))) (ev_if (c := decide (l.getD j 0 = 32)) (tst_cmp (R1 := RStr (S [l.getD j 0])) (R2 := RStr (S [32])) (ev_local (by walk_at "mem") (by walk_at "has") (RTok.str rvj)) (by rw [← hS_blank]; exact ev_str) (fun P' a b l' h1 h2 => ?_)) (fun hc => ?_) (fun hc => ?_)) (fun _ => .tail (.tail (.tail .head))) (fun _ => .tail (.tail (.tail .head))) (fun z2 P7 l7 r7 => ?_)
      · have e : decide (l.getD j 0 = 32) = (S [l.getD j 0] == S [32]) := by
          rw [Bool.eq_iff_iff]; simp [S_inj]
        rw [e]; exact g_eq_str h1 h2
      · rw [colN_succ hj, col1, if_pos (of_decide_eq_true hc)]
        exact ev_bin (ev_local (by walk_at "mem") (by walk_at "has") rz') ev_int (fun P' a b _ h1 h2 => g_add_int h1 h2)
      · rw [colN_succ hj, col1, if_neg (of_decide_eq_false hc)]
        exact ev_bin (ev_bin (ev_local (by walk_at "mem") (by walk_at "has") rz') (ev_bin (ev_local (by walk_at "mem") (by walk_at "has") rz') (ev_local (by walk_at "mem") (by walk_at "has") rv') (fun P' a b _ h1 h2 => g_mod_int h1 h2 (by omega))) (fun P' a b _ h1 h2 => g_sub_int h1 h2)) (ev_local (by walk_at "mem") (by walk_at "has") rv') (fun P' a b _ h1 h2 => g_add_int h1 h2)
      · exact x_nil ⟨_, rfl, z2, some vj, rfl, r7⟩
    · rintro P5 P6 O' l5 l6 ⟨z, c, rfl, rz⟩
      refine x_nil ?_
      rw [List.take_length] at rz
      refine x_append (l := cl) (R := RInt (colN (1 + (i : Int)) l)) (ev_local (by walk_at "mem") (by walk_at "has") rfl) (ev_local (by walk_at "mem") (by walk_at "has") ((RInt _).mono _ _ _ l6 rz)) (fun _ => .tail .head) (by rw [rr.length, sizeLine_eq]; simp; omega) (fun z2 P7 l7 r7 => ?_)
      refine x_nil ⟨_, rfl, vs ++ [z2], _, _, _, rfl, ?_⟩
      rw [List.range_succ, List.map_append]
      exact (rr.mono (((l3.trans l4).trans (l5.trans l6)).trans l7)).snoc r7
  · rintro P2 P3 O' l2 l3 ⟨vs, a, b, c, rfl, rr⟩
    refine x_nil ?_
    refine o_freezeList (O' := frameU L ["lead", "columns", "size", "column", "sign"] [some v, some (.ref cl), a, b, c] :: O) ⟨_, .refl _, rfl⟩ (rr.mono l3) (fun P4 l4 r4 => ?_)
    refine x_retEv (R := RList ((columnsL l).map RInt)) (ev_local (by walk_at "mem") (by walk_at "has") (by rw [columnsL, List.map_map]; exact r4)) (fun P5 z l5 r5 => ⟨[_], O, rfl, rfl, r5⟩)
end
end

section
theorem at_leads (w : World) : FnAt (KF w) 134 "_law_leads" (defArgs (topStmt 12)) (defBody (topStmt 12)) (defScope (topStmt 12)) :=
  ⟨_, _, _, _, _, _, _, _, _, by with_unfolding_all rfl, by with_unfolding_all rfl⟩

noncomputable def bareL (c : Int) : List Nat := List.replicate (c.fmod 3).toNat 32 ++ List.replicate ((c.fdiv 3).fmod 3).toNat 9 ++ List.replicate ((c.fdiv 9).fmod 2).toNat 32
noncomputable def moreT : List (List Nat) := [[32], [9], [32, 32], [32, 9], [9, 32], [9, 9], [32, 32, 9]]
noncomputable def moreL (c : Int) : List Nat := moreT.getD (c.fmod 7).toNat []
noncomputable def leadsL (c0 c1 c2 c3 c4 : Int) (x : Nat) : List Nat :=
  if x = 97 then bareL c0 else if x = 98 then bareL c0 ++ moreL c1 else if x = 99 then bareL c0 ++ moreL c2 else if x = 100 then bareL c3 else bareL c3 ++ moreL c4

section
variable {w : World} {A : Around} {env : Env} {P : Part} {O O' : List U} {v u z : Value} {R : Rep} {pos : Pos}

theorem fmod_range (a b : Int) (h : 0 < b) : 0 ≤ a.fmod b ∧ a.fmod b < b := by
  rw [Int.fmod_eq_emod_of_nonneg a (Int.le_of_lt h)]; exact ⟨Int.emod_nonneg a (by omega), Int.emod_lt_of_pos a h⟩
theorem mul_S (c : Nat) (n : Int) (h : 0 ≤ n ∧ n < 3) : MulOk (S [c]) n ∧ Txt.mul (S [c]) n = S (List.replicate n.toNat c) := by
  have : n = 0 ∨ n = 1 ∨ n = 2 := by omega
  rcases this with rfl | rfl | rfl
  · exact ⟨by refine ⟨by decide, fun h => absurd (by decide) h, fun h => absurd (by decide) h⟩, rfl⟩
  · exact ⟨by refine ⟨by decide, fun _ h => by simp at h, fun _ h => by simp at h⟩, rfl⟩
  · refine ⟨⟨by decide, fun _ h => ?_, fun _ h => ?_⟩, rfl⟩
    · rw [S_len]; simp only [List.length_singleton]; decide
    · rw [S_len]; simp only [List.length_singleton]; decide

theorem hS5_blank : Str.ofString " " = S [32] := by decide +kernel
theorem hS5_tab : Str.ofString "\t" = S [9] := by decide +kernel
theorem ev_S {k : Nat} {x : Str} {l : List Nat} (h : x = S l := by decide +kernel) : Ev PR w A env (.Constant (.str x) k pos) P O (RStr (S l)) := by subst h; exact ev_str
theorem ev_addS {a b : Expr} {x y : List Nat} (h1 : Ev PR w A env a P O (RStr (S x))) (h2 : Ev PR w A env b P O (RStr (S y))) (hz : x.length + y.length ≤ 1000) : Ev PR w A env (.BinOp a .Add b pos) P O (RStr (S (x ++ y))) :=
  ev_bin h1 h2 (fun P' v u l h1 h2 => by rw [← S_append]; exact g_add_str h1 h2 (by rw [S_len, S_len, sizeLine_eq]; omega))
theorem ev_mulS {a b : Expr} {c : Nat} {n : Int} (h1 : Ev PR w A env a P O (RStr (S [c]))) (h2 : Ev PR w A env b P O (RInt n)) (h : 0 ≤ n ∧ n < 3) : Ev PR w A env (.BinOp a .Mult b pos) P O (RStr (S (List.replicate n.toNat c))) :=
  ev_bin h1 h2 (fun P' v u l h1 h2 => by rw [← (mul_S c n h).2]; exact g_mul_str h1 h2 (mul_S c n h).1)

theorem bareL_len (c : Int) : (bareL c).length ≤ 6 := by
  have h1 := fmod_range c 3 (by decide); have h2 := fmod_range (c.fdiv 3) 3 (by decide); have h3 := fmod_range (c.fdiv 9) 2 (by decide)
  simp only [bareL, List.length_append, List.length_replicate]; omega
theorem moreL_get (c : Int) : ∃ l, moreT[(c.fmod 7).toNat]? = some l ∧ moreL c = l ∧ l.length ≤ 3 := by
  have h := fmod_range c 7 (by decide)
  have h' : (c.fmod 7).toNat < 7 := by omega
  unfold moreL
  generalize (c.fmod 7).toNat = n at h'
  match n, h' with
  | 0, _ => exact ⟨_, rfl, rfl, by decide⟩
  | 1, _ => exact ⟨_, rfl, rfl, by decide⟩
  | 2, _ => exact ⟨_, rfl, rfl, by decide⟩
  | 3, _ => exact ⟨_, rfl, rfl, by decide⟩
  | 4, _ => exact ⟨_, rfl, rfl, by decide⟩
  | 5, _ => exact ⟨_, rfl, rfl, by decide⟩
  | 6, _ => exact ⟨_, rfl, rfl, by decide⟩
theorem moreL_len (c : Int) : (moreL c).length ≤ 3 := let ⟨_, _, e, h⟩ := moreL_get c; e ▸ h

theorem rangeN {n : Nat} (h : n ≤ 63) : Builtin.Range.small 0 (n : Int) 1 = true ∧ Builtin.Range.rangeSize 0 (n : Int) 1 = n := by
  refine ⟨?_, by rw [rangeSize_nat]; simp⟩
  revert n; decide
theorem five {α : Type} {l : List α} (h : l.length = 5) : ∃ a b c d e, l = [a, b, c, d, e] := by
  match l, h with
  | [a, b, c, d, e], _ => exact ⟨a, b, c, d, e, rfl⟩
theorem leads_spec {xs : List Int} (B0 : Bg0 (KF w) P) (hA : Fit 1 A) (hx : xs.length ≤ 63) (hv : (RList (xs.map RInt)).h P v) : Do PR w A (call (.ref 134) [v]) P O (fun r P' O' => 0 < P'.tk ∧ O' = O ∧ ∃ c0 c1 c2 c3 c4, (RRel PR w (leadsL c0 c1 c2 c3 c4)).h P' r) := by
  refine f_call0 B0 (at_leads w) hA (binds := [("script", v)]) (ns := ["script", "cells", "place", "bare", "more"]) (vs := [some v, none, none, none, none]) (fun _ _ _ _ _ _ => rfl) (by rfl) (by decide) (by rfl) Nat.one_pos (fun L cd P1' l0 B => ?_)
  replace hv := (RList (xs.map RInt)).mono _ _ _ l0 hv
  clear l0 B0


  have hA' := hA.deeper (env := envX "_law_leads" (defScope (topStmt 12)) L 134 cd [])
  refine x_newList (Rs := [RInt 4, RInt 0, RInt 1, RInt 2, RInt 1]) (evl_cons ev_int (evl_cons ev_int (evl_cons ev_int (evl_cons ev_int (evl_cons ev_int evl_nil))))) (by rw [sizeLine_eq]; decide) (fun _ => .head) (fun _ => .tail .head) (fun cl items P1 l1 r1 => ?_)
  refine x_for (R1 := RRange 0 (xs.length : Int)) (n := xs.length) (item := fun i => RInt (0 + i)) (fun i P' O' => ∃ vs cs a, O' = listU cl vs :: frameU L ["script", "cells", "place", "bare", "more"] [some v, some (.ref cl), a, none, none] :: O ∧ Reps P' (cs.map RInt) vs ∧ cs.length = 5)
    (ev_call (Rs := [RInt xs.length]) (ev_builtin (B.up l1) (v := .type "range") (by with_unfolding_all rfl) (by with_unfolding_all rfl) (by decide)) kept_type (evl_cons (ev_call (Rs := [RList (xs.map RInt)]) (ev_builtin (B.up l1) (v := .builtin "len") (by with_unfolding_all rfl) (by with_unfolding_all rfl) (by decide)) kept_builtin
      (evl_cons (ev_local (by walk_at "mem") (by walk_at "has") ((RList _).mono _ _ _ l1 hv)) evl_nil) (fun P' vs l' rs => by
        match vs, rs with
        | [a], ⟨ra, _⟩ => 
          have := g_len_list (prog := PR) (w := w) (A := A.deeper (envX "_law_leads" (defScope (topStmt 12)) L 134 cd [])) (O := listU cl items :: frameU L ["script", "cells", "place", "bare", "more"] [some v, some (.ref cl), none, none, none] :: O) ra (by rw [List.length_map, sizeLine_eq]; omega)
          rw [List.length_map] at this; exact this)) evl_nil) (fun P' vs l' rs => by
      match vs, rs with
      | [a], ⟨ra, _⟩ => exact g_range1 ra)) (fun P' v' l' r => i_range hA'.none r (rangeN hx).1 (rangeN hx).2) (fun P' l' => ⟨items, [4, 0, 1, 2, 1], none, rfl, r1.mono l', rfl⟩) ?_ ?_
  · rintro i it P2 P3 O' v' hi l2 l3 ⟨vs, cs, a, rfl, rr, hcs⟩ rv
    refine Do.assign_name (s_local (.tail (.tail .head)) (.tail (.tail .head)) ?_)
    have lP : P1'.le P3 := (l1.trans l2).trans l3
    have hm : ((0 + (i : Int)).fmod 5) = ((i % 5 : Nat) : Int) := by
      rw [Int.fmod_eq_emod_of_nonneg _ (by decide)]; omega
    have hlt : i % 5 < 5 := Nat.mod_lt _ (by decide)
    have hvs : vs.length = 5 := by rw [rr.length, List.length_map, hcs]
    refine x_augItem (R2 := RVal (.ref cl)) (R3 := RInt ((0 + (i : Int)).fmod 5)) (R4 := RInt (cs.getD (i % 5) 0)) (R1 := RInt (xs.getD i 0)) (R5 := RInt (cs.getD (i % 5) 0 + xs.getD i 0))
      (Ψ := fun P' O' => ∃ z, (RInt (cs.getD (i % 5) 0 + xs.getD i 0)).h P' z ∧ P3.le P' ∧ O' = it :: listU cl (vs.set (i % 5) z) :: frameU L ["script", "cells", "place", "bare", "more"] [some v, some (.ref cl), some v', none, none] :: O) (ev_local (by walk_at "mem") (by walk_at "has") rfl) (ev_bin (ev_local (by walk_at "mem") (by walk_at "has") rv) ev_int (fun P' a b _ h1 h2 => g_mod_int h1 h2 (by decide)))
      (fun P' b k l' h1 h2 => ?_) (ev_sub_list (R := RInt (xs.getD i 0)) (rs := xs.map RInt) (i := 0 + (i : Int)) (ev_local (by walk_at "mem") (by walk_at "has") ((RList _).mono _ _ _ lP hv)) (ev_local (by walk_at "mem") (by walk_at "has") rv) (by omega) (by omega) ?_) (fun P' a b l' h1 h2 => g_iadd_int h1 h2) (fun P' z b k l' hz h1 h2 => ?_) (fun P' O' l' ⟨z, rz, lz, e⟩ => ?_)
    · obtain rfl : b = .ref cl := h1
      refine g_item_listO (.tail _ (.head _)) ((rr.mono l3).mono l') h2 (by rw [hm]; omega) (by rw [hm]; omega) ?_
      rw [hm, Int.toNat_natCast, List.getElem?_map]
      have : i % 5 < cs.length := by omega
      simp [this]
    · have e : (0 + (i : Int)).toNat = i := by omega
      rw [e, List.getElem?_map]
      simp [hi]
    · obtain rfl : b = .ref cl := h1
      have hmz : ((0 + (i : Int)).fmod 5).toNat = i % 5 := by rw [hm]; rfl
      refine o_setItem_list (.tail .head) h2 (by rw [hm]; omega) (by rw [hm]; omega) (by rw [hm, hvs]; omega) ⟨z, hz, l', by rw [hmz]⟩
    · subst e
      refine x_nil ⟨_, rfl, vs.set (i % 5) z, cs.set (i % 5) (cs.getD (i % 5) 0 + xs.getD i 0), some v', rfl, ?_, by rw [List.length_set, hcs]⟩
      rw [List.map_set]
      exact (rr.mono (l3.trans l')).set rz
  · rintro P2 P3 O' l2 l3 ⟨vs, cs, a, rfl, rr, hcs⟩
    refine x_nil ?_
    obtain ⟨c0, c1, c2, c3, c4, rfl⟩ := five hcs
    refine o_freezeList (O' := frameU L ["script", "cells", "place", "bare", "more"] [some v, some (.ref cl), a, none, none] :: O) ⟨_, .refl _, rfl⟩ (rr.mono l3) (fun P4 l4 r4 => ?_)
    have hitem : ∀ (i : Nat), i < 5 → ([c0, c1, c2, c3, c4].map RInt).getD i RAny = RInt ([c0, c1, c2, c3, c4].getD i 0) := fun i hi => by
      match i, hi with
      | 0, _ => rfl
      | 1, _ => rfl
      | 2, _ => rfl
      | 3, _ => rfl
      | 4, _ => rfl
    refine x_comp1 (item := fun i => ([c0, c1, c2, c3, c4].map RInt).getD i RAny) (n := 5) (fun _ => true) (fun i => RStr (S (bareL ([c0, c1, c2, c3, c4].getD i 0)))) (ev_local (by walk_at "mem") (by walk_at "has") r4) (fun P' v' l' r => i_list hA'.none r) (by rw [sizeLine_eq]; decide)
      (fun i v P' u C D acc hi l' r => tl_nil) (fun i v P' u C D acc hi _ l' r => ?_) (fun _ => .head) (fun _ => .tail (.tail (.tail .head))) (fun vb P5 l5 r5 => ?_)
    · rw [hitem i hi] at r
      generalize [c0, c1, c2, c3, c4].getD i 0 = c at r ⊢
      have h1 := fmod_range c 3 (by decide); have h2 := fmod_range (c.fdiv 3) 3 (by decide); have h3 := fmod_range (c.fdiv 9) 2 (by decide)
      refine ev_addS (ev_addS (ev_mulS ev_S (ev_bin (ev_local (by walk_at "mem") (by walk_at "has") r) ev_int (fun P' a b _ h1 h2 => g_mod_int h1 h2 (by decide))) h1)
        (ev_mulS ev_S (ev_bin (ev_bin (ev_local (by walk_at "mem") (by walk_at "has") r) ev_int (fun P' a b _ h1 h2 => g_fdiv_int h1 h2 (by decide) (PyProof.noPylong_small (by decide)))) ev_int (fun P' a b _ h1 h2 => g_mod_int h1 h2 (by decide))) h2) (by simp only [List.length_replicate]; omega))
        (ev_mulS ev_S (ev_bin (ev_bin (ev_local (by walk_at "mem") (by walk_at "has") r) ev_int (fun P' a b _ h1 h2 => g_fdiv_int h1 h2 (by decide) (PyProof.noPylong_small (by decide)))) ev_int (fun P' a b _ h1 h2 => g_mod_int h1 h2 (by decide))) ⟨h3.1, by omega⟩) (by simp only [List.length_append, List.length_replicate]; omega)
    · refine x_comp1 (item := fun i => ([c0, c1, c2, c3, c4].map RInt).getD i RAny) (n := 5) (fun _ => true) (fun i => RStr (S (moreL ([c0, c1, c2, c3, c4].getD i 0)))) (ev_local (by walk_at "mem") (by walk_at "has") ((RList _).mono _ _ _ l5 r4)) (fun P' v' l' r => i_list hA'.none r) (by rw [sizeLine_eq]; decide)
        (fun i v P' u C D acc hi l' r => tl_nil) (fun i v P' u C D acc hi _ l' r => ?_) (fun _ => .head) (fun _ => .tail (.tail (.tail (.tail .head)))) (fun vm P6 l6 r6 => ?_)
      · rw [hitem i hi] at r
        generalize [c0, c1, c2, c3, c4].getD i 0 = c at r ⊢
        have h := fmod_range c 7 (by decide)
        obtain ⟨l, e1, e2, _⟩ := moreL_get c
        rw [e2]
        refine ev_sub_list (rs := moreT.map fun l => RStr (S l)) (i := c.fmod 7) (ev_list (Rs := moreT.map fun l => RStr (S l)) (evl_cons ev_S (evl_cons ev_S (evl_cons ev_S (evl_cons ev_S (evl_cons ev_S (evl_cons ev_S (evl_cons ev_S evl_nil))))))) (by rw [sizeLine_eq]; decide)) (ev_bin (ev_local (by walk_at "mem") (by walk_at "has") r) ev_int (fun P' a b _ h1 h2 => g_mod_int h1 h2 (by decide))) h.1 (by omega) ?_
        rw [List.getElem?_map, e1]; rfl
      · have eb : ∀ {p1 p2 p3 : Pos} {k : Nat} {d : Addr} (i : Int) (j : Nat), i = j → j < 5 → Ev PR w (A.deeper (envX "_law_leads" (defScope (topStmt 12)) L 134 cd [])) (envX "_law_leads" (defScope (topStmt 12)) L 134 cd []) (.Subscript (.Name "bare" p1) (.Constant (.int i) k p2) p3) P6 (dictU PR w d [] :: frameU L ["script", "cells", "place", "bare", "more"] [some v, some (.ref cl), a, some vb, some vm] :: O) (RStr (S (bareL ([c0, c1, c2, c3, c4].getD j 0)))) := by
          intro p1 p2 p3 k d i j e hj
          subst e
          refine ev_sub_list (ev_local (by walk_at "mem") (by walk_at "has") ((RList _).mono _ _ _ l6 r5)) ev_int (by omega) (by omega) ?_
          match j, hj with
          | 0, _ => rfl
          | 1, _ => rfl
          | 2, _ => rfl
          | 3, _ => rfl
          | 4, _ => rfl
        have em : ∀ {p1 p2 p3 : Pos} {k : Nat} {d : Addr} (i : Int) (j : Nat), i = j → j < 5 → Ev PR w (A.deeper (envX "_law_leads" (defScope (topStmt 12)) L 134 cd [])) (envX "_law_leads" (defScope (topStmt 12)) L 134 cd []) (.Subscript (.Name "more" p1) (.Constant (.int i) k p2) p3) P6 (dictU PR w d [] :: frameU L ["script", "cells", "place", "bare", "more"] [some v, some (.ref cl), a, some vb, some vm] :: O) (RStr (S (moreL ([c0, c1, c2, c3, c4].getD j 0)))) := by
          intro p1 p2 p3 k d i j e hj
          subst e
          refine ev_sub_list (ev_local (by walk_at "mem") (by walk_at "has") r6) ev_int (by omega) (by omega) ?_
          match j, hj with
          | 0, _ => rfl
          | 1, _ => rfl
          | 2, _ => rfl
          | 3, _ => rfl
          | 4, _ => rfl
        have hb0 := bareL_len c0; have hb3 := bareL_len c3; have hm1 := moreL_len c1; have hm2 := moreL_len c2; have hm4 := moreL_len c4
        refine x_retEv (R := RRel PR w (leadsL c0 c1 c2 c3 c4)) (ev_dict (rs := letters.map fun c => (S [c], RStr (S (leadsL c0 c1 c2 c3 c4 c)))) (fun d => ?_) (names_nodup _)) (fun P5 z l5 r5 => ⟨[_], O, rfl, rfl, c0, c1, c2, c3, c4, r5⟩)
        exact evp_cons (ev_S (l := [97])) (eb 0 0 rfl (by decide)) (evp_cons (ev_S (l := [98])) (ev_addS (eb 0 0 rfl (by decide)) (em 1 1 rfl (by decide)) (by show (bareL c0).length + (moreL c1).length ≤ 1000; omega)) (evp_cons (ev_S (l := [99])) (ev_addS (eb 0 0 rfl (by decide)) (em 2 2 rfl (by decide)) (by show (bareL c0).length + (moreL c2).length ≤ 1000; omega)) (evp_cons (ev_S (l := [100])) (eb 3 3 rfl (by decide)) (evp_cons (ev_S (l := [101])) (ev_addS (eb 3 3 rfl (by decide)) (em 4 4 rfl (by decide)) (by show (bareL c3).length + (moreL c4).length ≤ 1000; omega)) evp_nil))))
end
end

section
theorem at_init (w : World) : FnAt (KF w) 38 "Whitespace.__init__" (defArgs (methStmt 1)) (defBody (methStmt 1)) (defScope (methStmt 1)) :=
  ⟨_, _, _, _, _, _, _, _, _, by with_unfolding_all rfl, by with_unfolding_all rfl⟩

/-- what the walk over the signs has counted -/
structure WS where
  n : Nat
  nt : Nat
  b : Nat
  cnt : List Nat
noncomputable def tabAt (cnt : List Nat) (b : Nat) : List Nat :=
  let c := if cnt.length ≤ b then cnt ++ List.replicate (b - cnt.length + 1) 0 else cnt
  c.set b (c.getD b 0 + 1)
noncomputable def wsRun : List Nat → WS → WS
  | [], s => s
  | c :: l, s => if c = 32 then wsRun l ⟨s.n + 1, s.nt, s.b + 1, s.cnt⟩ else if c = 9 then wsRun l ⟨s.n + 1, s.nt + 1, 0, tabAt s.cnt s.b⟩ else s
noncomputable def RNats (l : List Nat) : List Rep := l.map fun n : Nat => RInt n
noncomputable def noNames : List Str := ["less", "longest_run_of_spaces", "indent_level"]
/-- a Whitespace -/
noncomputable def wsFields (s : WS) : List (Str × Rep) := [("n", RInt s.n), ("nt", RInt s.nt), ("norm", RTup [RTup (RNats s.cnt), RInt s.b]), ("is_simple", RBool (decide (s.cnt.length ≤ 1)))]
noncomputable def RWs (s : WS) : Rep := RInst 83 (wsFields s) noNames

section
variable {w : World} {A : Around} {env : Env} {P : Part} {O O' : List U} {v u z : Value} {R : Rep}

theorem hS6_blank : Str.ofString " " = S [32] := by decide +kernel
theorem hS6_tab : Str.ofString "\t" = S [9] := by decide +kernel
theorem k_S' (w : World) : ∃ v, findCls (KF w) (.ref 83) (.type "type") "S" = some (.val v) ∧ handedIn v = true ∧ ∀ P, (RStr (S [32])).h P v := by
  obtain ⟨t, e⟩ := k_S w
  exact ⟨_, e, rfl, fun P => ⟨t, by rw [hS6_blank]⟩⟩
theorem k_T' (w : World) : ∃ v, findCls (KF w) (.ref 83) (.type "type") "T" = some (.val v) ∧ handedIn v = true ∧ ∀ P, (RStr (S [9])).h P v := by
  obtain ⟨t, e⟩ := k_T w
  exact ⟨_, e, rfl, fun P => ⟨t, by rw [hS6_tab]⟩⟩
theorem taker_raw (w : World) : takerIn (KF w) 83 "raw" = some none := by with_unfolding_all rfl
theorem taker_n (w : World) : takerIn (KF w) 83 "n" = some none := by with_unfolding_all rfl
theorem taker_nt (w : World) : takerIn (KF w) 83 "nt" = some none := by with_unfolding_all rfl
theorem taker_norm (w : World) : takerIn (KF w) 83 "norm" = some none := by with_unfolding_all rfl
theorem taker_simple (w : World) : takerIn (KF w) 83 "is_simple" = some none := by with_unfolding_all rfl

noncomputable abbrev IN : List Str := ["self", "ws", "S", "T", "count", "b", "n", "nt", "ch"]
noncomputable abbrev envI (L : Addr) (cd : Value) : Env := envX "Whitespace.__init__" (defScope (methStmt 1)) L 38 cd []

theorem init_spec {l : List Nat} {x dx : Addr} (B : Bg (KF w) P) (hA : Fit 1 A) (hl : ∀ c ∈ l, c < 128) (hz : l.length ≤ 1000) (hv : (RStr (S l)).h P v) {s : Shared} (X : Sat P (instU x dx 83 (fun _ => none) :: O) s) :
    codeAny (model PR w) A (.call (.ref 38) ⟨[.ref x, v], []⟩) (fun r s' => ∃ P' O', r = .ok (.ret .none) ∧ P.le P' ∧ Sat P' O' s' ∧ O' = O ∧ (RWs (wsRun l ⟨0, 0, 0, []⟩)).h P' (.ref x)) s := by
  refine codeAny_mono (f_code (Ψ := fun v P' O' => v = .none ∧ ∃ m, O' = instU x dx 83 m :: O ∧ (∀ f ∈ wsFields (wsRun l ⟨0, 0, 0, []⟩), ∃ z, m f.1 = some z ∧ f.2.h P' z) ∧ ∀ n ∈ noNames, m n = none)
    B (at_init w) hA (binds := [("self", .ref x), ("ws", v)]) (ns := IN) (vs := [some (.ref x), some v, none, none, none, none, none, none, none]) (fun _ _ _ _ _ _ => rfl) (by rfl) (by decide) (by rfl) (fun L cd => ?_) (X := X)) fun r s' ⟨v', P', O', er, l1, Y, ev, m, eO, hf, hno⟩ => ?_
  rotate_left
  · subst er; subst ev; subst eO
    obtain ⟨P2, l2, Y2, h2⟩ := Y.freezeInst hf hno
    exact ⟨P2, O, rfl, l1.trans l2, Y2, rfl, h2⟩
  have hA' := hA.deeper (env := envI L cd)
  refine x_setAttr (x := x) (ns := []) B (k_setattr w) (k_over w) (taker_raw w) (k_hasDict w) (R := RStr (S l)) (ev_local (by walk_at "mem") (by walk_at "has") hv) (ev_local (by walk_at "mem") (by walk_at "has") rfl) (fun _ => .tail .head) Within.nil (by decide) (fun zr P1 l1 r1 => ?_)
  obtain ⟨vS, eS, hS, rS⟩ := k_S' w
  obtain ⟨vT, eT, hT, rT⟩ := k_T' w
  have B1 := B.up l1
  have evW : ∀ {p : Pos} {O : List U}, Ev PR w (A.deeper (envI L cd)) (envI L cd) (.Name "Whitespace" p) P1 O (RVal (.ref 83)) := ev_global B1 (by with_unfolding_all rfl)
  refine x_swap hA'.none (R1 := RStr (S [32])) (R2 := RStr (S [9])) (ev_tup (Rs := [RStr (S [32]), RStr (S [9])]) (evl_cons (ev_attrC B1 evW (k_reads w) eS hS (rS _)) (evl_cons (ev_attrC B1 evW (k_reads w) eT hT (rT _)) evl_nil)) (by rw [sizeLine_eq]; decide))
    (fun a b P2 l2 ra rbT => s_local .head (.tail (.tail (.tail .head))) (s_local .head (.tail (.tail .head)) ?_))
  refine x_newList (Rs := []) evl_nil (by simp) (fun _ => .head) (fun _ => .tail (.tail (.tail (.tail .head)))) (fun cl items P3 l3 r3 => ?_)
  have e0 : items = [] := List.eq_nil_of_length_eq_zero r3.length
  subst e0
  refine x_assignN ((ev_int (i := 0) P3 (.refl _)).mono fun z0 P4 O4 l4 ⟨e4, r4⟩ => ?_)
  subst e4
  refine all_more (Do.assign_name (s_local (.tail .head) (.tail (.tail (.tail (.tail (.tail .head))))) (all_more (Do.assign_name (s_local (.tail .head) (.tail (.tail (.tail (.tail (.tail (.tail .head)))))) (all_one (Do.assign_name (s_local (.tail .head) (.tail (.tail (.tail (.tail (.tail (.tail (.tail .head))))))) ?_))))))))
  have l04 : P.le P4 := ((l1.trans l2).trans l3).trans l4
  -- what is left when the signs have been read
  have fin : ∀ (st : WS) P5 cl' vs zb zn znt c, P4.le P5 → wsRun l ⟨0, 0, 0, []⟩ = st → st.cnt.length ≤ 1000 → Reps P5 (RNats st.cnt) vs → (RInt st.b).h P5 zb → (RInt st.n).h P5 zn → (RInt st.nt).h P5 znt →
      Do PR w (A.deeper (envI L cd)) (execs ((defBody (methStmt 1)).drop 5) (envI L cd)) P5 (listU cl' vs :: frameU L IN [some (.ref x), some v, some a, some b, some (.ref cl'), some zb, some zn, some znt, c] :: instU x dx 83 (fun y => if y = "raw" then some zr else none) :: O)
        (FnEnd fun v P' O' => v = .none ∧ ∃ m, O' = instU x dx 83 m :: O ∧ (∀ f ∈ wsFields (wsRun l ⟨0, 0, 0, []⟩), ∃ z, m f.1 = some z ∧ f.2.h P' z) ∧ ∀ n ∈ noNames, m n = none) := by
    intro st P5 cl' vs zb zn znt c l5 est hcl rr rb rn rnt
    rw [est]
    have B5 := (B.up l04).up l5
    have hlen : vs.length = st.cnt.length := by rw [rr.length]; simp [RNats]
    refine x_setAttr (x := x) (ns := _) B5 (k_setattr w) (k_over w) (taker_n w) (k_hasDict w) (R := RInt st.n) (ev_local (by walk_at "mem") (by walk_at "has") rn) (ev_local (by walk_at "mem") (by walk_at "has") rfl) (fun _ => .tail (.tail .head)) (Within.nil.cons _ _) (by decide) (fun z1 P6 l6 r6 => ?_)
    refine x_setAttr (x := x) (ns := _) (B5.up l6) (k_setattr w) (k_over w) (taker_nt w) (k_hasDict w) (R := RInt st.nt) (ev_local (by walk_at "mem") (by walk_at "has") ((RInt _).mono _ _ _ l6 rnt)) (ev_local (by walk_at "mem") (by walk_at "has") rfl) (fun _ => .tail (.tail .head)) ((Within.nil.cons _ _).cons _ _) (by decide) (fun z2 P7 l7 r7 => ?_)
    have B7 := (B5.up l6).up l7
    refine x_setAttr (x := x) (ns := _) B7 (k_setattr w) (k_over w) (taker_norm w) (k_hasDict w) (R := RTup [RTup (RNats st.cnt), RInt st.b]) (ev_tup (Rs := [RTup (RNats st.cnt), RInt st.b]) (evl_cons (ev_call (Rs := [RVal (.ref cl')]) (ev_builtin B7 (v := .type "tuple") (by with_unfolding_all rfl) (by with_unfolding_all rfl) (by decide)) kept_type (evl_cons (ev_local (by walk_at "mem") (by walk_at "has") rfl) evl_nil) (fun P' vs' l' rs => ?_)) (evl_cons (ev_local (by walk_at "mem") (by walk_at "has") ((RInt _).mono _ _ _ (l6.trans l7) rb)) evl_nil)) (by show 2 ≤ sizeLine; rw [sizeLine_eq]; decide))
      (ev_local (by walk_at "mem") (by walk_at "has") rfl) (fun _ => .tail (.tail .head)) (((Within.nil.cons _ _).cons _ _).cons _ _) (by decide) (fun z3 P8 l8 r8 => ?_)
    · match vs', rs with
      | [y], ⟨ry, _⟩ =>
        obtain rfl : y = .ref cl' := ry
        exact g_tuple_listO (.head _) (rr.mono ((l6.trans l7).trans l')) (by rw [show (RNats st.cnt).length = st.cnt.length by simp [RNats], sizeLine_eq]; omega)
    · have B8 := B7.up l8
      refine x_setAttr (x := x) (ns := _) B8 (k_setattr w) (k_over w) (taker_simple w) (k_hasDict w) (R := RBool (decide (st.cnt.length ≤ 1))) (ev_cmp (R1 := RInt st.cnt.length) (R2 := RInt 1) (ev_call (Rs := [RVal (.ref cl')]) (ev_builtin B8 (v := .builtin "len") (by with_unfolding_all rfl) (by with_unfolding_all rfl) (by decide)) kept_builtin (evl_cons (ev_local (by walk_at "mem") (by walk_at "has") rfl) evl_nil) (fun P' vs' l' rs => ?_)) ev_int (fun P' a b _ h1 h2 => ?_))
        (ev_local (by walk_at "mem") (by walk_at "has") rfl) (fun _ => .tail (.tail .head)) ((((Within.nil.cons _ _).cons _ _).cons _ _).cons _ _) (by decide) (fun z4 P9 l9 r9 => ?_)
      · match vs', rs with
        | [y], ⟨ry, _⟩ =>
          obtain rfl : y = .ref cl' := ry
          rw [← hlen]
          exact g_len_listO (.head _) (by rw [hlen, sizeLine_eq]; omega)
      · have e : decide (st.cnt.length ≤ 1) = decide ((st.cnt.length : Int) ≤ 1) := by
          rw [Bool.eq_iff_iff]; simp only [decide_eq_true_eq]; omega
        rw [e]; exact g_le_int h1 h2
      · refine x_nil ⟨[_, _], _, rfl, rfl, _, rfl, ?_, ?_⟩
        · intro f hf
          simp only [wsFields, List.mem_cons, List.not_mem_nil, or_false] at hf
          rcases hf with rfl | rfl | rfl | rfl
          · exact ⟨z1, rfl, (RInt _).mono _ _ _ ((l7.trans l8).trans l9) r6⟩
          · exact ⟨z2, rfl, (RInt _).mono _ _ _ (l8.trans l9) r7⟩
          · exact ⟨z3, rfl, (RTup _).mono _ _ _ l9 r8⟩
          · exact ⟨z4, rfl, r9⟩
        · intro n hn
          simp only [noNames, List.mem_cons, List.not_mem_nil, or_false] at hn
          rcases hn with rfl | rfl | rfl <;> rfl
  refine x_for (R1 := RStr (S l)) (n := l.length) (item := fun i => RTok (S [l.getD i 0])) (fun i P' O' => ∃ st : WS, ∃ cl' vs zb zn znt c, O' = listU cl' vs :: frameU L IN [some (.ref x), some v, some a, some b, some (.ref cl'), some zb, some zn, some znt, c] :: instU x dx 83 (fun y => if y = "raw" then some zr else none) :: O ∧
      wsRun l ⟨0, 0, 0, []⟩ = wsRun (l.drop i) st ∧ st.b ≤ i ∧ st.cnt.length ≤ i ∧ Reps P' (RNats st.cnt) vs ∧ (RInt st.b).h P' zb ∧ (RInt st.n).h P' zn ∧ (RInt st.nt).h P' znt)
    (ev_attrO (B.up l04) (ev_local (by walk_at "mem") (by walk_at "has") rfl) (.tail _ (.tail _ (.head _))) (z := zr) rfl ((RStr _).mono _ _ _ ((l2.trans l3).trans l4) r1) (k_plain w _) (k_hasDict w) (k_raw w) rfl (by obtain ⟨t, rfl⟩ := r1; rfl))
    (fun P' v' l' r => i_S hA'.none r hl (B.up (l04.trans l')).2) (fun P' l' => ⟨⟨0, 0, 0, []⟩, cl, [], z0, z0, z0, none, rfl, by rw [List.drop_zero], Nat.le_refl _, Nat.le_refl _, trivial, r4.imp fun _ h => h, r4.imp fun _ h => h, r4.imp fun _ h => h⟩) ?_ ?_
  · rintro i it P5 P6 O' vc hi l5 l6 ⟨st, cl', vs, zb, zn, znt, c, rfl, hrun, hb, hcl, rr, rb, rn, rnt⟩ rvc
    refine Do.assign_name (s_local (.tail (.tail .head)) (.tail (.tail (.tail (.tail (.tail (.tail (.tail (.tail .head)))))))) ?_)
    have hd : l.drop i = l.getD i 0 :: l.drop (i + 1) := by
      rw [List.drop_eq_getElem_cons hi]; simp [hi]
    rw [hd] at hrun
    generalize l.getD i 0 = cc at hrun rvc
    have l16 : P2.le P6 := ((l3.trans l4).trans l5).trans l6
    have rb' := (RInt _).mono _ _ _ l6 rb
    have rn' := (RInt _).mono _ _ _ l6 rn
    have rnt' := (RInt _).mono _ _ _ l6 rnt
    have eqS : ∀ {p pn1 pn2 : Pos} {y : Str} {v1 : Value} {c' : Nat}, Has IN [some (.ref x), some v, some a, some b, some (.ref cl'), some zb, some zn, some znt, some vc] y v1 → (RStr (S [c'])).h P6 v1 → (envI L cd).kindOf y = some .local → (y == ("__debug__" : Str)) = false →
        Tst PR w (A.deeper (envI L cd)) (envI L cd) (.Compare (.Name "ch" pn1) [.Eq] [.Name y pn2] p) P6 (it :: listU cl' vs :: frameU L IN [some (.ref x), some v, some a, some b, some (.ref cl'), some zb, some zn, some znt, some vc] :: instU x dx 83 (fun y => if y = "raw" then some zr else none) :: O) (decide (cc = c')) := by
      intro p pn1 pn2 y v1 c' h1 h2 h3 h4
      refine tst_cmp (R1 := RStr (S [cc])) (R2 := RStr (S [c'])) (ev_local (by walk_at "mem") (by walk_at "has") (RTok.str rvc)) (ev_local (by walk_at "mem") h1 h2 rfl rfl h3 h4) (fun P' a b l' g1 g2 => ?_)
      have e : decide (cc = c') = (S [cc] == S [c']) := by
        rw [Bool.eq_iff_iff]; simp [S_inj]
      rw [e]; exact g_eq_str g1 g2
    refine x_if (c := decide (cc = 32)) (eqS (by walk_at "has") ((RStr _).mono _ _ _ l16 ra) rfl (by decide)) ?_ ?_
    · intro hc P7 l7
      have hc := of_decide_eq_true hc
      subst hc
      refine x_local (R := RInt (st.n + 1 : Nat)) (ev_bin (ev_local (by walk_at "mem") (by walk_at "has") ((RInt _).mono _ _ _ l7 rn')) ev_int (fun P' a b _ h1 h2 => g_add_int h1 h2)) (fun _ => .tail (.tail .head)) (fun _ => .tail (.tail (.tail (.tail (.tail (.tail .head)))))) (fun n2 P8 l8 r8 => ?_)
      refine x_local (R := RInt (st.b + 1 : Nat)) (ev_bin (ev_local (by walk_at "mem") (by walk_at "has") ((RInt _).mono _ _ _ (l7.trans l8) rb')) ev_int (fun P' a b _ h1 h2 => g_add_int h1 h2)) (fun _ => .tail (.tail .head)) (fun _ => .tail (.tail (.tail (.tail (.tail .head))))) (fun b2 P9 l9 r9 => ?_)
      refine x_nil (x_nil ⟨_, rfl, ⟨st.n + 1, st.nt, st.b + 1, st.cnt⟩, cl', vs, b2, n2, znt, some vc, rfl, ?_, Nat.succ_le_succ hb, Nat.le_succ_of_le hcl, rr.mono (((l6.trans l7).trans l8).trans l9), r9, (RInt _).mono _ _ _ l9 r8, (RInt _).mono _ _ _ ((l7.trans l8).trans l9) rnt'⟩)
      rw [hrun]; rw [wsRun, if_pos rfl]
    · intro hc P7 l7
      have hc := of_decide_eq_false hc
      refine x_if (c := decide (cc = 9)) ((eqS (by walk_at "has") ((RStr _).mono _ _ _ l16 rbT) rfl (by decide)).up l7) ?_ ?_
      · intro hc9 P8 l8
        have hc9 := of_decide_eq_true hc9
        subst hc9
        refine x_local (R := RInt (st.n + 1 : Nat)) (ev_bin (ev_local (by walk_at "mem") (by walk_at "has") ((RInt _).mono _ _ _ (l7.trans l8) rn')) ev_int (fun P' a b _ h1 h2 => g_add_int h1 h2)) (fun _ => .tail (.tail .head)) (fun _ => .tail (.tail (.tail (.tail (.tail (.tail .head)))))) (fun n2 P9 l9 r9 => ?_)
        refine x_local (R := RInt (st.nt + 1 : Nat)) (ev_bin (ev_local (by walk_at "mem") (by walk_at "has") ((RInt _).mono _ _ _ ((l7.trans l8).trans l9) rnt')) ev_int (fun P' a b _ h1 h2 => g_add_int h1 h2)) (fun _ => .tail (.tail .head)) (fun _ => .tail (.tail (.tail (.tail (.tail (.tail (.tail .head))))))) (fun t2 P10 l10 r10 => ?_)
        have l6x : P6.le P10 := ((l7.trans l8).trans l9).trans l10
        have B10 := (((B.up l04).up l5).up l6).up l6x
        have hlen : vs.length = st.cnt.length := by rw [rr.length]; simp [RNats]
        have cont : ∀ P11 cl2 vs2 (c2 : List Nat), P10.le P11 → Reps P11 (RNats c2) vs2 → st.b < c2.length → c2.length ≤ 1000 → tabAt st.cnt st.b = c2.set st.b (c2.getD st.b 0 + 1) → (tabAt st.cnt st.b).length ≤ i + 1 →
            Do PR w (A.deeper (envI L cd)) (execs ((match (defBody (methStmt 1)).getD 4 (.Pass default) with | .For _ _ [.If _ _ [.If _ [_, _, _, s4, s5] _ _] _] _ _ => [s4, s5] | _ => [])) (envI L cd)) P11 (it :: listU cl2 vs2 :: frameU L IN [some (.ref x), some v, some a, some b, some (.ref cl2), some zb, some n2, some t2, some vc] :: instU x dx 83 (fun y => if y = "raw" then some zr else none) :: O)
              (fun f P' O' => ∃ O1, O' = it :: O1 ∧ f = .next ∧ ∃ st : WS, ∃ cl' vs zb zn znt c, O1 = listU cl' vs :: frameU L IN [some (.ref x), some v, some a, some b, some (.ref cl'), some zb, some zn, some znt, c] :: instU x dx 83 (fun y => if y = "raw" then some zr else none) :: O ∧
      wsRun l ⟨0, 0, 0, []⟩ = wsRun (l.drop (i + 1)) st ∧ st.b ≤ i + 1 ∧ st.cnt.length ≤ i + 1 ∧ Reps P' (RNats st.cnt) vs ∧ (RInt st.b).h P' zb ∧ (RInt st.n).h P' zn ∧ (RInt st.nt).h P' znt) := by
          intro P11 cl2 vs2 c2 l11 rr2 hb2 hc2 htab htl
          have rbx := (RInt _).mono _ _ _ (l6x.trans l11) rb'
          have hget : (RNats c2)[((st.b : Int)).toNat]? = some (RInt (c2.getD st.b 0 : Nat)) := by
            simp [RNats, hb2]
          have hvs2 : vs2.length = c2.length := by rw [rr2.length]; simp [RNats]
          refine x_setItem (R1 := RInt (c2.getD st.b 0 + 1 : Nat)) (R2 := RVal (.ref cl2)) (R3 := RInt st.b) (Ψ := fun P' O' => ∃ z, (RInt (c2.getD st.b 0 + 1 : Nat)).h P' z ∧ P11.le P' ∧ O' = it :: listU cl2 (vs2.set st.b z) :: frameU L IN [some (.ref x), some v, some a, some b, some (.ref cl2), some zb, some n2, some t2, some vc] :: instU x dx 83 (fun y => if y = "raw" then some zr else none) :: O)
            (ev_bin (ev_sub_listO (ev_local (by walk_at "mem") (by walk_at "has") rfl) (ev_local (by walk_at "mem") (by walk_at "has") rbx) (by walk_at "mem") rr2 (by omega) (by omega) hget) ev_int (fun P' a b _ h1 h2 => g_add_int h1 h2))
            (ev_local (by walk_at "mem") (by walk_at "has") rfl) (ev_local (by walk_at "mem") (by walk_at "has") rbx) (fun P' z y k l' h1 h2 h3 => ?_) (fun P12 O' l12 ⟨z, rz, lz, e⟩ => ?_)
          · obtain rfl : y = .ref cl2 := h2
            exact o_setItem_list (.tail .head) h3 (by omega) (by omega) (by rw [hvs2]; omega) ⟨z, h1, l', by simp⟩
          · subst e
            refine x_local (R := RInt (0 : Nat)) ev_int (fun _ => .tail (.tail .head)) (fun _ => .tail (.tail (.tail (.tail (.tail .head))))) (fun b2 P13 l13 r13 => ?_)
            refine x_nil ⟨_, rfl, rfl, ⟨st.n + 1, st.nt + 1, 0, tabAt st.cnt st.b⟩, cl2, vs2.set st.b z, b2, n2, t2, some vc, rfl, ?_, Nat.zero_le _, htl, ?_, r13, (RInt _).mono _ _ _ (((l10.trans l11).trans l12).trans l13) r9, (RInt _).mono _ _ _ ((l11.trans l12).trans l13) r10⟩
            · rw [hrun]; rw [wsRun, if_neg (by decide), if_pos rfl]
            · show Reps P13 (RNats (tabAt st.cnt st.b)) _
              rw [htab, show RNats (c2.set st.b (c2.getD st.b 0 + 1)) = (RNats c2).set st.b (RInt (c2.getD st.b 0 + 1 : Nat)) by simp [RNats, List.map_set]]
              exact (rr2.mono (l12.trans l13)).set ((RInt _).mono _ _ _ l13 rz)
        have rbx := (RInt _).mono _ _ _ l6x rb'
        have rrx := rr.mono (l6.trans l6x)
        refine x_if (c := decide (st.cnt.length ≤ st.b)) (tst_cmp (R1 := RInt st.b) (R2 := RInt st.cnt.length) (ev_local (by walk_at "mem") (by walk_at "has") rbx) (ev_call (Rs := [RVal (.ref cl')]) (ev_builtin B10 (v := .builtin "len") (by with_unfolding_all rfl) (by with_unfolding_all rfl) (by decide)) kept_builtin (evl_cons (ev_local (by walk_at "mem") (by walk_at "has") rfl) evl_nil) (fun P' vs' l' rs => ?_)) (fun P' a b _ h1 h2 => ?_)) ?_ ?_
        · match vs', rs with
          | [y], ⟨ry, _⟩ =>
            obtain rfl : y = .ref cl' := ry
            rw [← hlen]
            exact g_len_listO (.tail _ (.head _)) (by rw [hlen, sizeLine_eq]; omega)
        · have e : decide (st.cnt.length ≤ st.b) = decide ((st.cnt.length : Int) ≤ (st.b : Int)) := by
            rw [Bool.eq_iff_iff]; simp only [decide_eq_true_eq]; omega
          rw [e]; exact g_ge_int h1 h2
        · intro hcb P11 l11
          have hcb := of_decide_eq_true hcb
          have hn : ((st.b : Int) - (st.cnt.length : Int) + 1).toNat = st.b - st.cnt.length + 1 := by omega
          refine x_assign (Ψ := fun v0 P' O' => ∃ l2 vs2, v0 = .ref l2 ∧ Reps P' (RNats (st.cnt ++ List.replicate (st.b - st.cnt.length + 1) 0)) vs2 ∧ P11.le P' ∧ O' = listU l2 vs2 :: it :: listU cl' vs :: frameU L IN [some (.ref x), some v, some a, some b, some (.ref cl'), some zb, some n2, some t2, some vc] :: instU x dx 83 (fun y => if y = "raw" then some zr else none) :: O)
            (do_bin (R1 := RVal (.ref cl')) (R2 := RList (List.replicate ((st.b : Int) - (st.cnt.length : Int) + 1).toNat [RInt 0]).flatten) (ev_local (by walk_at "mem") (by walk_at "has") rfl)
              (ev_bin (R1 := RList [RInt 0]) (R2 := RInt ((st.b : Int) - (st.cnt.length : Int) + 1)) (ev_list (Rs := [RInt 0]) (evl_cons ev_int evl_nil) (by rw [sizeLine_eq]; decide))
                (ev_bin (R1 := RInt ((st.b : Int) - (st.cnt.length : Int))) (R2 := RInt 1) (ev_bin (R1 := RInt st.b) (R2 := RInt st.cnt.length) (ev_local (by walk_at "mem") (by walk_at "has") ((RInt _).mono _ _ _ l11 rbx)) (ev_call (Rs := [RVal (.ref cl')]) (ev_builtin (B10.up l11) (v := .builtin "len") (by with_unfolding_all rfl) (by with_unfolding_all rfl) (by decide)) kept_builtin (evl_cons (ev_local (by walk_at "mem") (by walk_at "has") rfl) evl_nil) (fun P' vs' l' rs => ?_)) (fun P' a b _ h1 h2 => g_sub_int h1 h2)) ev_int (fun P' a b _ h1 h2 => g_add_int h1 h2))
                (fun P' a b _ h1 h2 => g_mul_list h1 h2 (by omega) (by omega) (by decide) (by show 1 * _ ≤ _; omega)))
              (fun P' y k l' h1 h2 => ?_)) (fun v0 P' O' l' ⟨l2, vs2, e1, r2, lx, e2⟩ => ?_)
          · match vs', rs with
            | [y], ⟨ry, _⟩ =>
              obtain rfl : y = .ref cl' := ry
              rw [← hlen]
              exact g_len_listO (.tail _ (.head _)) (by rw [hlen, sizeLine_eq]; omega)
          · obtain rfl : y = .ref cl' := h1
            refine o_add_listO (.tail _ (.head _)) (rrx.mono (l11.trans l')) h2 ?_ (fun l2 vs2 r2 => ⟨l2, vs2, rfl, ?_, l', rfl⟩)
            · rw [List.flatten_replicate_singleton, List.length_replicate, show (RNats st.cnt).length = st.cnt.length by simp [RNats], sizeLine_eq]; omega
            · rw [show RNats (st.cnt ++ List.replicate (st.b - st.cnt.length + 1) 0) = RNats st.cnt ++ (List.replicate ((st.b : Int) - (st.cnt.length : Int) + 1).toNat [RInt 0]).flatten by
                rw [hn, List.flatten_replicate_singleton]; simp [RNats]]
              exact r2
          · subst e1; subst e2
            refine s_local (.tail (.tail (.tail .head))) (.tail (.tail (.tail (.tail .head)))) ⟨rfl, x_nil (Do.weaken (O' := it :: listU l2 vs2 :: frameU L IN [some (.ref x), some v, some a, some b, some (.ref l2), some zb, some n2, some t2, some vc] :: instU x dx 83 (fun y => if y = "raw" then some zr else none) :: O) ?_ (fun s X => X.rot3))⟩
            refine (cont P' l2 vs2 (st.cnt ++ List.replicate (st.b - st.cnt.length + 1) 0) (l11.trans lx) r2 (by simp; omega) (by simp; omega) (by simp only [tabAt, if_pos hcb]) (by simp only [tabAt, if_pos hcb, List.length_set, List.length_append, List.length_replicate]; omega)).mono fun f P'' O'' _ ⟨O1, e1, e2, hh⟩ => ?_
            subst e1; subst e2
            exact x_nil (x_nil ⟨O1, rfl, hh⟩)
        · intro hcb P11 l11
          have hcb := of_decide_eq_false hcb
          refine x_nil ((cont P11 cl' vs st.cnt l11 (rrx.mono l11) (by omega) (by omega) (by simp only [tabAt, if_neg hcb]) (by simp only [tabAt, if_neg hcb, List.length_set]; omega)).mono fun f P'' O'' _ ⟨O1, e1, e2, hh⟩ => ?_)
          subst e1; subst e2
          exact x_nil (x_nil ⟨O1, rfl, hh⟩)
      · intro hc9 P8 l8
        have hc9 := of_decide_eq_false hc9
        refine x_break ⟨_, rfl, ?_⟩
        rw [wsRun, if_neg hc, if_neg hc9] at hrun
        exact fin st P8 cl' vs zb zn znt (some vc) (((l5.trans l6).trans l7).trans l8) hrun (by omega) (rr.mono ((l6.trans l7).trans l8)) ((RInt _).mono _ _ _ (l7.trans l8) rb') ((RInt _).mono _ _ _ (l7.trans l8) rn') ((RInt _).mono _ _ _ (l7.trans l8) rnt')
  · rintro P5 P6 O' l5 l6 ⟨st, cl', vs, zb, zn, znt, c, rfl, hrun, hb, hcl, rr, rb, rn, rnt⟩
    rw [List.drop_length] at hrun
    exact x_nil (fin st P6 cl' vs zb zn znt c (l5.trans l6) hrun (Nat.le_trans hcl hz) (rr.mono l6) ((RInt _).mono _ _ _ l6 rb) ((RInt _).mono _ _ _ l6 rn) ((RInt _).mono _ _ _ l6 rnt))
end
end

section
theorem at_longest (w : World) : FnAt (KF w) 45 "Whitespace.longest_run_of_spaces" (defArgs (methStmt 2)) (defBody (methStmt 2)) (defScope (methStmt 2)) :=
  ⟨_, _, _, _, _, _, _, _, _, by with_unfolding_all rfl, by with_unfolding_all rfl⟩
theorem at_indent (w : World) : FnAt (KF w) 52 "Whitespace.indent_level" (defArgs (methStmt 3)) (defBody (methStmt 3)) (defScope (methStmt 3)) :=
  ⟨_, _, _, _, _, _, _, _, _, by with_unfolding_all rfl, by with_unfolding_all rfl⟩
theorem at_less (w : World) : FnAt (KF w) 73 "Whitespace.less" (defArgs (methStmt 6)) (defBody (methStmt 6)) (defScope (methStmt 6)) :=
  ⟨_, _, _, _, _, _, _, _, _, by with_unfolding_all rfl, by with_unfolding_all rfl⟩

noncomputable def longN (st : WS) : Nat := max (st.cnt.length - 1) st.b
noncomputable def ilN (ts : Nat) (cnt : List Nat) (k : Nat) : Int := (List.range k).foldl (fun a j => a + ((ts + j : Nat) : Int).fdiv (ts : Int) * ((cnt.getD (ts + j) 0 : Nat) : Int)) 0
noncomputable def indentN (ts : Nat) (st : WS) : Int := st.b + ts * (ilN ts st.cnt (st.cnt.length - ts) + st.nt)
noncomputable def lessN (s o : WS) : Bool :=
  if o.n ≤ s.n then false else if s.cnt.length ≤ 1 ∧ o.cnt.length ≤ 1 then decide (s.nt ≤ o.nt)
  else (List.range (max (longN s) (longN o))).all fun j => decide (indentN (2 + j) s < indentN (2 + j) o)
noncomputable def wsOf (l : List Nat) : WS := wsRun l ⟨0, 0, 0, []⟩
noncomputable def Fair (st : WS) : Prop := st.b ≤ 1000 ∧ st.cnt.length ≤ 1000

section
variable {w : World} {A : Around} {env : Env} {P : Part} {O O' : List U} {v u z : Value} {R : Rep} {pos : Pos}

theorem make_spec {l : List Nat} (B : Bg (KF w) P) (hA : Fit 2 A) (hl : ∀ c ∈ l, c < 128) (hz : l.length ≤ 1000) (hv : (RStr (S l)).h P v) : Gv PR w A (call (.ref 83) [v]) P O (RWs (wsOf l)) :=
  o_make B (k_makes w) (k_init w) (k_fn38 w) (fun x dx s X => codeAny_mono (init_spec B (hA.under (Nat.le_of_ble_eq_true rfl) (Nat.le_of_ble_eq_true rfl)) hl hz hv X) fun r s' h => h)

theorem hInt {i : Int} : ∀ P z, (RInt i).h P z → handedIn z = true := fun P z ⟨t, e⟩ => by rw [e]; rfl
theorem hTup {rs : List Rep} : ∀ P z, (RTup rs).h P z → handedIn z = true := fun P z ⟨a, vs, n, e, _⟩ => by rw [e]; rfl
theorem hBool {b : Bool} : ∀ P z, (RBool b).h P z → handedIn z = true := fun P z e => by rw [show z = .bool b from e]; rfl

theorem k_fn45 (w : World) : typeIn (KF w) (.ref 45) = some (.type "function") := by with_unfolding_all rfl
theorem k_fn52 (w : World) : typeIn (KF w) (.ref 52) = some (.type "function") := by with_unfolding_all rfl
theorem k_fn73 (w : World) : typeIn (KF w) (.ref 73) = some (.type "function") := by with_unfolding_all rfl
theorem longest_spec {st : WS} (B : Bg (KF w) P) (hA : Fit 1 A) (hf : Fair st) (hv : (RWs st).h P v) : Gv PR w A (call (.ref 45) [v]) P O (RInt (longN st)) := by
  refine f_call B (at_longest w) hA (binds := [("self", v)]) (ns := ["self", "count", "trailing"]) (vs := [some v, none, none]) (fun _ _ _ _ _ _ => rfl) (by rfl) (by decide) (by rfl) (fun L cd => ?_)
  have hA' := hA.deeper (env := envX "Whitespace.longest_run_of_spaces" (defScope (methStmt 2)) L 45 cd [])
  refine x_unpack hA'.none (R1 := RTup (RNats st.cnt)) (R2 := RInt st.b) (ev_attrI B (fs := wsFields st) (no := noNames) (ev_local (by walk_at "mem") (by walk_at "has") hv) (.tail _ (.tail _ (.head _))) (k_plain w _) (k_hasDict w) (k_norm w) rfl hTup)
    (fun a b P1 l1 ra rb => Do.assign_name (s_local .head (.tail .head) (Do.assign_name (s_local .head (.tail (.tail .head)) ?_))))
  refine x_retEv (R := RInt (longN st)) (ev_call (Rs := [RInt ((st.cnt.length : Int) - 1), RInt st.b]) (ev_builtin (B.up l1) (v := .builtin "max") (by with_unfolding_all rfl) (by with_unfolding_all rfl) (by decide)) kept_builtin
    (evl_cons (ev_bin (ev_call (Rs := [RTup (RNats st.cnt)]) (ev_builtin (B.up l1) (v := .builtin "len") (by with_unfolding_all rfl) (by with_unfolding_all rfl) (by decide)) kept_builtin (evl_cons (ev_local (by walk_at "mem") (by walk_at "has") ra) evl_nil) (R := RInt st.cnt.length) (fun P' vs' l' rs => ?_)) ev_int (fun P' a b _ h1 h2 => g_sub_int h1 h2)) (evl_cons (ev_local (by walk_at "mem") (by walk_at "has") rb) evl_nil)) (fun P' vs' l' rs => ?_)) (fun P5 z l5 r5 => ⟨[_], O, rfl, rfl, r5⟩)
  · match vs', rs with
    | [y], ⟨ry, _⟩ =>
      have := g_len_tup (prog := PR) (w := w) (A := A.deeper (envX "Whitespace.longest_run_of_spaces" (defScope (methStmt 2)) L 45 cd [])) (O := frameU L ["self", "count", "trailing"] [some v, some a, some b] :: O) ry (by have := hf.2; simp [RNats, sizeLine_eq]; omega)
      rw [show (RNats st.cnt).length = st.cnt.length by simp [RNats]] at this
      exact this
  · match vs', rs with
    | [y, y'], ⟨ry, ry', _⟩ =>
      have e : (longN st : Int) = max ((st.cnt.length : Int) - 1) (st.b : Int) := by unfold longN; omega
      rw [e]
      exact g_max_int hA'.none ry ry'

theorem ilN_succ (ts : Nat) (cnt : List Nat) (k : Nat) : ilN ts cnt (k + 1) = ilN ts cnt k + ((ts + k : Nat) : Int).fdiv (ts : Int) * ((cnt.getD (ts + k) 0 : Nat) : Int) := by
  simp only [ilN, List.range_succ, List.foldl_append, List.foldl_cons, List.foldl_nil]
theorem g_mul_int {a b : Int} {O : List U} (hv : (RInt a).h P v) (hu : (RInt b).h P u) (ha : -(2 ^ 64) < a ∧ a < 2 ^ 64) : Gv PR w A (binaryOp .Mult v u) P O (RInt (a * b)) := by
  obtain ⟨t, rfl⟩ := hv; obtain ⟨t', rfl⟩ := hu
  exact Gv.base fun s X => mul_int (here X ⟨_, rfl⟩) (IntMulOk.of_left (intBits_le_64 ha.1 ha.2))

theorem indent_spec {st : WS} {ts : Nat} (B : Bg (KF w) P) (hA : Fit 1 A) (hf : Fair st) (h1 : 1 ≤ ts) (h2 : ts ≤ 10000) (hv : (RWs st).h P v) (hu : (RInt ts).h P u) : Gv PR w A (call (.ref 52) [v, u]) P O (RInt (indentN ts st)) := by
  refine f_call B (at_indent w) hA (binds := [("self", v), ("tabsize", u)]) (ns := ["self", "tabsize", "count", "trailing", "il", "i"]) (vs := [some v, some u, none, none, none, none]) (fun _ _ _ _ _ _ => rfl) (by rfl) (by decide) (by rfl) (fun L cd => ?_)
  have hA' := hA.deeper (env := envX "Whitespace.indent_level" (defScope (methStmt 3)) L 52 cd [])
  refine x_unpack hA'.none (R1 := RTup (RNats st.cnt)) (R2 := RInt st.b) (ev_attrI B (fs := wsFields st) (no := noNames) (ev_local (by walk_at "mem") (by walk_at "has") hv) (.tail _ (.tail _ (.head _))) (k_plain w _) (k_hasDict w) (k_norm w) rfl hTup)
    (fun a b P1 l1 ra rb => Do.assign_name (s_local .head (.tail (.tail .head)) (Do.assign_name (s_local .head (.tail (.tail (.tail .head))) ?_))))
  refine x_local (R := RInt 0) ev_int (fun _ => .head) (fun _ => .tail (.tail (.tail (.tail .head)))) (fun z P2 l2 r2 => ?_)
  have l02 := l1.trans l2
  refine x_for (R1 := RRange ts st.cnt.length) (n := st.cnt.length - ts) (item := fun i => RInt ((ts : Int) + i)) (fun i P' O' => ∃ z c, O' = frameU L ["self", "tabsize", "count", "trailing", "il", "i"] [some v, some u, some a, some b, some z, c] :: O ∧ (RInt (ilN ts st.cnt i)).h P' z)
    (ev_call (Rs := [RInt ts, RInt st.cnt.length]) (ev_builtin (B.up l02) (v := .type "range") (by with_unfolding_all rfl) (by with_unfolding_all rfl) (by decide)) kept_type (evl_cons (ev_local (by walk_at "mem") (by walk_at "has") ((RInt _).mono _ _ _ l02 hu)) (evl_cons (ev_call (Rs := [RTup (RNats st.cnt)]) (ev_builtin (B.up l02) (v := .builtin "len") (by with_unfolding_all rfl) (by with_unfolding_all rfl) (by decide)) kept_builtin (evl_cons (ev_local (by walk_at "mem") (by walk_at "has") ((RTup _).mono _ _ _ l2 ra)) evl_nil) (R := RInt st.cnt.length) (fun P' vs' l' rs => ?_)) evl_nil)) (fun P' vs l' rs => by
      match vs, rs with
      | [a, b], ⟨ra, rb, _⟩ => exact g_range2 ra rb)) (fun P' v' l' r => i_range hA'.none r (small_one (by omega) (by omega) (by have := hf.2; omega) (by have := hf.2; omega)) (by rw [rangeSize_nat]; omega)) (fun P' l' => ⟨z, none, rfl, (RInt 0).mono _ _ _ l' r2⟩) ?_ ?_
  · match vs', rs with
    | [y], ⟨ry, _⟩ =>
      have := g_len_tup (prog := PR) (w := w) (A := A.deeper (envX "Whitespace.indent_level" (defScope (methStmt 3)) L 52 cd [])) (O := frameU L ["self", "tabsize", "count", "trailing", "il", "i"] [some v, some u, some a, some b, some z, none] :: O) ry (by have := hf.2; simp [RNats, sizeLine_eq]; omega)
      rw [show (RNats st.cnt).length = st.cnt.length by simp [RNats]] at this
      exact this
  · rintro i it P3 P4 O' vi hi l3 l4 ⟨z, c, rfl, rz⟩ rvi
    refine Do.assign_name (s_local (.tail .head) (.tail (.tail (.tail (.tail (.tail .head))))) ?_)
    have l24 := l3.trans l4
    have rz' := (RInt _).mono _ _ _ l4 rz
    have ru' := (RInt _).mono _ _ _ (l02.trans l24) hu
    have ra' := (RTup _).mono _ _ _ (l2.trans l24) ra
    refine x_local (R := RInt (ilN ts st.cnt (i + 1))) ?_ (fun _ => .tail .head) (fun _ => .tail (.tail (.tail (.tail .head)))) (fun z2 P5 l5 r5 => x_nil ⟨_, rfl, z2, some vi, rfl, r5⟩)
    rw [ilN_succ]
    have e : ((ts : Int) + (i : Int)) = ((ts + i : Nat) : Int) := by omega
    rw [e] at rvi
    have hlt : ts + i < st.cnt.length := by omega
    have hget : (RNats st.cnt)[(((ts + i : Nat) : Int)).toNat]? = some (RInt (st.cnt.getD (ts + i) 0 : Nat)) := by
      rw [Int.toNat_natCast]; simp [RNats, hlt]
    have hq : ((ts + i : Nat) : Int).fdiv (ts : Int) = (((ts + i) / ts : Nat) : Int) := by
      rw [Int.fdiv_eq_ediv_of_nonneg _ (by omega)]; rfl
    have hq2 : (ts + i) / ts ≤ ts + i := Nat.div_le_self _ _
    have hq3 := hf.2
    have hts : (ts : Int).natAbs < 1073741824 := by omega
    exact ev_bin (ev_local (by walk_at "mem") (by walk_at "has") rz') (ev_bin (ev_bin (ev_local (by walk_at "mem") (by walk_at "has") rvi) (ev_local (by walk_at "mem") (by walk_at "has") ru') (fun P' a b _ h1 h2 => g_fdiv_int h1 h2 (by omega) (PyProof.noPylong_small hts)))
      (ev_sub_tup (ev_local (by walk_at "mem") (by walk_at "has") ra') (ev_local (by walk_at "mem") (by walk_at "has") rvi) (by omega) (by have := hf.2; omega) hget) (fun P' a b _ h1 h2 => g_mul_int h1 h2 (by rw [hq]; generalize (ts + i) / ts = q at hq2; omega))) (fun P' a b _ h1 h2 => g_add_int h1 h2)
  · rintro P3 P4 O' l3 l4 ⟨z, c, rfl, rz⟩
    refine x_nil ?_
    have l24 := l3.trans l4
    exact x_retEv (R := RInt (indentN ts st)) (ev_bin (ev_local (by walk_at "mem") (by walk_at "has") ((RInt _).mono _ _ _ (l2.trans l24) rb)) (ev_bin (ev_local (by walk_at "mem") (by walk_at "has") ((RInt _).mono _ _ _ (l02.trans l24) hu)) (ev_bin (ev_local (by walk_at "mem") (by walk_at "has") ((RInt _).mono _ _ _ l4 rz))
      (ev_attrI (B.up (l02.trans l24)) (fs := wsFields st) (no := noNames) (R := RInt st.nt) (ev_local (by walk_at "mem") (by walk_at "has") ((RWs st).mono _ _ _ (l02.trans l24) hv)) (.tail _ (.head _)) (k_plain w _) (k_hasDict w) (k_nt w) rfl hInt) (fun P' a b _ h1 h2 => g_add_int h1 h2)) (fun P' a b _ h1 h2 => g_mul_int h1 h2 (by omega))) (fun P' a b _ h1 h2 => g_add_int h1 h2)) (fun P5 z l5 r5 => ⟨[_], O, rfl, rfl, r5⟩)

theorem less_spec {st ot : WS} (B : Bg (KF w) P) (hA : Fit 2 A) (hf : Fair st) (hg : Fair ot) (hv : (RWs st).h P v) (hu : (RWs ot).h P u) : Gv PR w A (call (.ref 73) [v, u]) P O (RBool (lessN st ot)) := by
  refine f_call B (at_less w) hA (binds := [("self", v), ("other", u)]) (ns := ["self", "other", "n", "ts"]) (vs := [some v, some u, none, none]) (fun _ _ _ _ _ _ => rfl) (by rfl) (by decide) (by rfl) (fun L cd => ?_)
  have hA' := hA.deeper (env := envX "Whitespace.less" (defScope (methStmt 6)) L 73 cd [])
  refine x_if (c := decide (ot.n ≤ st.n)) (tst_cmp (R1 := RInt st.n) (R2 := RInt ot.n) (ev_attrI B (fs := wsFields st) (no := noNames) (ev_local (by walk_at "mem") (by walk_at "has") hv) (.head _) (k_plain w _) (k_hasDict w) (k_n w) rfl hInt)
    (ev_attrI B (fs := wsFields ot) (no := noNames) (ev_local (by walk_at "mem") (by walk_at "has") hu) (.head _) (k_plain w _) (k_hasDict w) (k_n w) rfl hInt) (fun P' a b _ h1 h2 => ?_)) ?_ ?_
  · have e : decide (ot.n ≤ st.n) = decide ((ot.n : Int) ≤ (st.n : Int)) := by
      rw [Bool.eq_iff_iff]; simp only [decide_eq_true_eq]; omega
    rw [e]; exact g_ge_int h1 h2
  · intro hc P1 l1
    refine x_retEv (R := RBool false) ev_bool (fun P5 z l5 r5 => ⟨[_], O, rfl, rfl, ?_⟩)
    rw [lessN, if_pos (of_decide_eq_true hc)]; exact r5
  intro hc P1 l1
  have hc := of_decide_eq_false hc
  refine x_nil ?_
  have hv1 := (RWs st).mono _ _ _ l1 hv
  have hu1 := (RWs ot).mono _ _ _ l1 hu
  refine x_if (c := decide (st.cnt.length ≤ 1) && decide (ot.cnt.length ≤ 1)) (tst_and (tst_val (ev_attrI (B.up l1) (fs := wsFields st) (no := noNames) (R := RBool (decide (st.cnt.length ≤ 1))) (ev_local (by walk_at "mem") (by walk_at "has") hv1) (.tail _ (.tail _ (.tail _ (.head _)))) (k_plain w _) (k_hasDict w) (k_simple w) rfl hBool))
    (fun _ => tst_val (ev_attrI (B.up l1) (fs := wsFields ot) (no := noNames) (R := RBool (decide (ot.cnt.length ≤ 1))) (ev_local (by walk_at "mem") (by walk_at "has") hu1) (.tail _ (.tail _ (.tail _ (.head _)))) (k_plain w _) (k_hasDict w) (k_simple w) rfl hBool))) ?_ ?_
  · intro hs P2 l2
    rw [Bool.and_eq_true, decide_eq_true_eq, decide_eq_true_eq] at hs
    refine x_retEv (R := RBool (decide (st.nt ≤ ot.nt))) (ev_cmp (R1 := RInt st.nt) (R2 := RInt ot.nt) (ev_attrI ((B.up l1).up l2) (fs := wsFields st) (no := noNames) (ev_local (by walk_at "mem") (by walk_at "has") ((RWs st).mono _ _ _ l2 hv1)) (.tail _ (.head _)) (k_plain w _) (k_hasDict w) (k_nt w) rfl hInt)
      (ev_attrI ((B.up l1).up l2) (fs := wsFields ot) (no := noNames) (ev_local (by walk_at "mem") (by walk_at "has") ((RWs ot).mono _ _ _ l2 hu1)) (.tail _ (.head _)) (k_plain w _) (k_hasDict w) (k_nt w) rfl hInt) (fun P' a b _ h1 h2 => ?_)) (fun P5 z l5 r5 => ⟨[_], O, rfl, rfl, ?_⟩)
    · have e : decide (st.nt ≤ ot.nt) = decide ((st.nt : Int) ≤ (ot.nt : Int)) := by
        rw [Bool.eq_iff_iff]; simp only [decide_eq_true_eq]; omega
      rw [e]; exact g_le_int h1 h2
    · rw [lessN, if_neg hc, if_pos hs]; exact r5
  intro hs P2 l2
  refine x_nil ?_
  have hs : ¬ (st.cnt.length ≤ 1 ∧ ot.cnt.length ≤ 1) := fun q => by
    rw [Bool.and_eq_false_iff] at hs
    rcases hs with hs | hs
    · exact of_decide_eq_false hs q.1
    · exact of_decide_eq_false hs q.2
  have hv2 := (RWs st).mono _ _ _ l2 hv1
  have hu2 := (RWs ot).mono _ _ _ l2 hu1
  have B2 := (B.up l1).up l2
  refine x_local (R := RInt ((max (longN st) (longN ot) : Nat) + 1)) (ev_bin (ev_call (Rs := [RInt (longN st), RInt (longN ot)]) (ev_builtin B2 (v := .builtin "max") (by with_unfolding_all rfl) (by with_unfolding_all rfl) (by decide)) kept_builtin
    (evl_cons (ev_methI0 B2 (fs := wsFields st) (no := noNames) (R := RInt (longN st)) (ev_local (by walk_at "mem") (by walk_at "has") hv2) (.tail _ (.head _)) (k_plain w _) (k_longest w) (k_fn45 w) (kept_at (at_longest w) B2) (fun P' v l' r => longest_spec (B2.up l') hA' hf r))
      (evl_cons (ev_methI0 B2 (fs := wsFields ot) (no := noNames) (R := RInt (longN ot)) (ev_local (by walk_at "mem") (by walk_at "has") hu2) (.tail _ (.head _)) (k_plain w _) (k_longest w) (k_fn45 w) (kept_at (at_longest w) B2) (fun P' v l' r => longest_spec (B2.up l') hA' hg r)) evl_nil)) (R := RInt (max (longN st) (longN ot) : Nat)) (fun P' vs' l' rs => ?_)) ev_int (fun P' a b _ h1 h2 => g_add_int h1 h2))
    (fun _ => .head) (fun _ => .tail (.tail .head)) (fun zn P3 l3 r3 => ?_)
  · match vs', rs with
    | [y, y'], ⟨ry, ry', _⟩ =>
      have e : ((max (longN st) (longN ot) : Nat) : Int) = max (longN st : Int) (longN ot : Int) := by omega
      rw [e]
      exact g_max_int hA'.none ry ry'
  have hM : max (longN st) (longN ot) ≤ 1000 := by
    have := hf.1; have := hf.2; have := hg.1; have := hg.2
    unfold longN; omega
  have hspec : lessN st ot = (List.range (max (longN st) (longN ot))).all fun j => decide (indentN (2 + j) st < indentN (2 + j) ot) := by
    rw [lessN, if_neg hc, if_neg hs]
  generalize hMM : max (longN st) (longN ot) = M at *
  have B3 := B2.up l3
  refine x_for (R1 := RRange 2 ((M : Int) + 1 + 1)) (n := M) (item := fun i => RInt (2 + i)) (fun i P' O' => ∃ c, O' = frameU L ["self", "other", "n", "ts"] [some v, some u, some zn, c] :: O ∧ ∀ j < i, indentN (2 + j) st < indentN (2 + j) ot)
    (ev_call (Rs := [RInt 2, RInt ((M : Int) + 1 + 1)]) (ev_builtin B3 (v := .type "range") (by with_unfolding_all rfl) (by with_unfolding_all rfl) (by decide)) kept_type (evl_cons ev_int (evl_cons (ev_bin (ev_local (by walk_at "mem") (by walk_at "has") r3) ev_int (fun P' a b _ h1 h2 => g_add_int h1 h2)) evl_nil)) (fun P' vs l' rs => by
      match vs, rs with
      | [a, b], ⟨ra, rb, _⟩ => exact g_range2 ra rb)) (fun P' v' l' r => i_range hA'.none r (small_one (by omega) (by omega) (by omega) (by omega)) (by rw [rangeSize_nat]; omega)) (fun P' l' => ⟨none, rfl, fun j hj => absurd hj (Nat.not_lt_zero _)⟩) ?_ ?_
  · rintro i it P4 P5 O' vi hi l4 l5 ⟨c, rfl, hall⟩ rvi
    refine Do.assign_name (s_local (.tail .head) (.tail (.tail (.tail .head))) ?_)
    have l25 := (l3.trans l4).trans l5
    have B5 := B2.up l25
    have e2 : (2 + (i : Int)) = ((2 + i : Nat) : Int) := by omega
    rw [e2] at rvi
    refine x_if (c := decide (indentN (2 + i) ot ≤ indentN (2 + i) st)) (tst_cmp (R1 := RInt (indentN (2 + i) st)) (R2 := RInt (indentN (2 + i) ot))
      (ev_methI B5 (fs := wsFields st) (no := noNames) (Rs := [RInt (2 + i : Nat)]) (ev_local (by walk_at "mem") (by walk_at "has") ((RWs st).mono _ _ _ l25 hv2)) (.tail _ (.tail _ (.head _))) (k_plain w _) (k_indent w) (k_fn52 w) (kept_at (at_indent w) B5) (evl_cons (ev_local (by walk_at "mem") (by walk_at "has") rvi) evl_nil) (fun P' v vs l' r rs => ?_))
      (ev_methI B5 (fs := wsFields ot) (no := noNames) (Rs := [RInt (2 + i : Nat)]) (ev_local (by walk_at "mem") (by walk_at "has") ((RWs ot).mono _ _ _ l25 hu2)) (.tail _ (.tail _ (.head _))) (k_plain w _) (k_indent w) (k_fn52 w) (kept_at (at_indent w) B5) (evl_cons (ev_local (by walk_at "mem") (by walk_at "has") rvi) evl_nil) (fun P' v vs l' r rs => ?_))
      (fun P' a b _ h1 h2 => g_ge_int h1 h2)) ?_ ?_
    · match vs, rs with
      | [y], ⟨ry, _⟩ => exact indent_spec (B5.up l') hA' hf (by omega) (by omega) r ry
    · match vs, rs with
      | [y], ⟨ry, _⟩ => exact indent_spec (B5.up l') hA' hg (by omega) (by omega) r ry
    · intro hge P6 l6
      refine x_retEv (R := RBool false) ev_bool (fun P7 z l7 r7 => ⟨_, rfl, [_], O, rfl, rfl, ?_⟩)
      have : lessN st ot = false := by
        rw [hspec, List.all_eq_false]
        refine ⟨i, List.mem_range.mpr hi, ?_⟩
        have := of_decide_eq_true hge
        simp only [decide_eq_true_eq]; omega
      rw [this]; exact r7
    · intro hge P6 l6
      have hge := of_decide_eq_false hge
      refine x_nil (x_nil ⟨_, rfl, some vi, rfl, fun j hj => ?_⟩)
      rcases Nat.lt_or_eq_of_le (Nat.le_of_lt_succ hj) with h | h
      · exact hall j h
      · rw [h]; omega
  · rintro P4 P5 O' l4 l5 ⟨c, rfl, hall⟩
    refine x_nil (x_retEv (R := RBool true) ev_bool (fun P7 z l7 r7 => ⟨[_], O, rfl, rfl, ?_⟩))
    have : lessN st ot = true := by
      rw [hspec, List.all_eq_true]
      intro j hj
      exact decide_eq_true (hall j (List.mem_range.mp hj))
    rw [this]; exact r7
end
end

section
theorem at_orders (w : World) : FnAt (KF w) 151 "_law_orders" (defArgs (topStmt 15)) (defBody (topStmt 15)) (defScope (topStmt 15)) :=
  ⟨_, _, _, _, _, _, _, _, _, by with_unfolding_all rfl, by with_unfolding_all rfl⟩

noncomputable def keepO (rel : Nat → List Nat) (mem o : List Nat) (x : Nat) : Bool := !(decide (x ∈ o)) && ((rel x).filter fun y => decide (y ∈ mem) && !(decide (y ∈ o))).isEmpty
noncomputable def stepO (rel : Nat → List Nat) (mem : List Nat) (os : List (List Nat)) : List (List Nat) := os.flatMap fun o => (mem.filter (keepO rel mem o)).map fun x => o ++ [x]
noncomputable def ordersN (rel : Nat → List Nat) (mem : List Nat) : Nat → List (List Nat)
  | 0 => [[]]
  | n + 1 => stepO rel mem (ordersN rel mem n)
noncomputable def ordersL (rel : Nat → List Nat) (mem : List Nat) : List (List Nat) := ordersN rel mem mem.length
theorem ordersN_mem (rel : Nat → List Nat) (mem : List Nat) : ∀ n, ∀ o ∈ ordersN rel mem n, o.length = n ∧ ∀ x ∈ o, x ∈ mem
  | 0, o, h => by
    have : o = [] := by simpa [ordersN] using h
    subst this; exact ⟨rfl, fun _ h => by cases h⟩
  | n + 1, o, h => by
    obtain ⟨o', h1, h2⟩ := List.mem_flatMap.mp h
    obtain ⟨x, h3, rfl⟩ := List.mem_map.mp h2
    have ih := ordersN_mem rel mem n o' h1
    refine ⟨by simp [ih.1], fun y hy => ?_⟩
    rcases List.mem_append.mp hy with hy | hy
    · exact ih.2 y hy
    · rw [List.mem_singleton.mp hy]; exact (List.mem_filter.mp h3).1
theorem stepO_length (rel : Nat → List Nat) (mem : List Nat) : ∀ os, (stepO rel mem os).length ≤ os.length * mem.length
  | [] => by simp [stepO]
  | o :: os => by
    have ih := stepO_length rel mem os
    have h := List.length_filter_le (keepO rel mem o) mem
    simp only [stepO, List.flatMap_cons, List.length_append, List.length_map, List.length_cons] at ih ⊢
    rw [Nat.succ_mul]; omega
theorem ordersN_length (rel : Nat → List Nat) (mem : List Nat) (hm : mem.length ≤ 5) : ∀ n, (ordersN rel mem n).length ≤ 5 ^ n
  | 0 => by simp [ordersN]
  | n + 1 => by
    have ih := ordersN_length rel mem hm n
    have h := stepO_length rel mem (ordersN rel mem n)
    calc _ ≤ _ := h
      _ ≤ 5 ^ n * 5 := Nat.mul_le_mul ih hm
      _ = _ := (Nat.pow_succ ..).symm

theorem picked2_lists (os : List (List Nat)) (mem : List Nat) (keep : List Nat → Nat → Bool) (out : List Nat → Nat → List Nat) :
    picked2 os.length mem.length (fun i j => keep (os.getD i []) (mem.getD j 0)) (fun i j => RStr (S (out (os.getD i []) (mem.getD j 0)))) = (os.flatMap fun o => (mem.filter (keep o)).map fun x => out o x).map fun o => RStr (S o) := by
  have e : ∀ i, picked mem.length (fun j => keep (os.getD i []) (mem.getD j 0)) (fun j => RStr (S (out (os.getD i []) (mem.getD j 0)))) = (mem.filter (keep (os.getD i []))).map fun x => RStr (S (out (os.getD i []) x)) := fun i =>
    picked_list mem (keep (os.getD i [])) (fun x => RStr (S (out (os.getD i []) x)))
  unfold picked2
  rw [show (List.range os.length).flatMap (fun i => picked mem.length (fun j => keep (os.getD i []) (mem.getD j 0)) (fun j => RStr (S (out (os.getD i []) (mem.getD j 0))))) = (List.range os.length).flatMap (fun i => (mem.filter (keep (os.getD i []))).map fun x => RStr (S (out (os.getD i []) x))) from by
    congr 1; funext i; exact e i]
  have e2 : (List.range os.length).map (fun i => os.getD i []) = os := by
    apply List.ext_getElem
    · simp
    · intro i h1 h2
      simp at h1
      simp [h1]
  have e3 : (List.range os.length).flatMap (fun i => (mem.filter (keep (os.getD i []))).map fun x => RStr (S (out (os.getD i []) x))) = ((List.range os.length).map (fun i => os.getD i [])).flatMap (fun o => (mem.filter (keep o)).map fun x => RStr (S (out o x))) := by
    rw [List.flatMap_map]
  rw [e3, e2, List.map_flatMap]
  congr 1; funext o; rw [List.map_map]; rfl

section
variable {w : World} {A : Around} {env : Env} {P : Part} {O O' : List U} {v u z : Value} {R : Rep}

theorem orders_spec {rel : Nat → List Nat} {mem : List Nat} (B : Bg (KF w) P) (hA : Fit 1 A) (hrel : ∀ c ∈ letters, ∀ y ∈ rel c, y ∈ letters) (hlen : ∀ c ∈ letters, (rel c).length ≤ 5) (hmem : ∀ c ∈ mem, c ∈ letters) (hm : mem.length ≤ 5) (hv : (RStr (S mem)).h P v) (hu : (RRel PR w rel).h P u) :
    Gv PR w A (call (.ref 151) [v, u]) P O (RTexts (ordersL rel mem)) := by
  refine f_callC B (at_orders w) hA (binds := [("members", v), ("below", u)]) (ns := ["orders", "step"]) (vs := [none, none]) (cm := [("below", some u), ("members", some v)]) (fun _ _ _ _ _ _ => rfl) (fun _ _ => rfl) (by decide) (fun _ _ => rfl) (by rfl) (by decide) (fun L cd => ?_)
  show Do _ _ _ (execs (defBody (topStmt 15)) _) P (frameU L ["orders", "step"] [none, none] :: cellU (L+1+1) (some u) :: cellU (L+1) (some v) :: O) _
  have hA' := hA.deeper (env := envX "_law_orders" (defScope (topStmt 15)) L 151 cd (cellsFrom (L + 1) (defScope (topStmt 15)).names []))
  refine x_local (R := RTexts [[]]) (ev_list (Rs := [RStr (S [])]) (evl_cons ev_empty evl_nil) (by rw [sizeLine_eq]; decide)) (fun _ => .head) (fun _ => .head) (fun z0 P1 l1 r1 => ?_)
  refine x_for (R1 := RStr (S mem)) (n := mem.length) (item := fun i => RTok (S [mem.getD i 0])) (fun i P' O' => ∃ z c, O' = frameU L ["orders", "step"] [some z, c] :: cellU (L+1+1) (some u) :: cellU (L+1) (some v) :: O ∧ (RTexts (ordersN rel mem i)).h P' z)
    (ev_cell (by walk_at "mem") ((RStr _).mono _ _ _ l1 hv)) (fun P' v' l r => i_S hA'.none r (fun c h => letters_lt c (hmem c h)) (B.up (l1.trans l)).2) (fun P' l => ⟨z0, none, rfl, (RTexts _).mono _ _ _ l r1⟩) ?_ ?_
  · rintro i it P2 P3 O' vc hi l2 l3 ⟨z, c, rfl, rz⟩ rvc
    refine Do.assign_name (s_local (.tail .head) (.tail .head) ?_)
    have lP : P.le P3 := (l1.trans l2).trans l3
    have hol := ordersN_length rel mem hm i
    have h5 : 5 ^ i ≤ 5 ^ 4 := Nat.pow_le_pow_right (by decide) (by omega)
    have hom := ordersN_mem rel mem i
    generalize hos : ordersN rel mem i = os at rz hol hom
    have hB := B.up lP
    have hget : ∀ i, i < os.length → os.getD i [] ∈ os := fun i hi => by
      have e : os.getD i [] = os[i] := by simp [hi]
      rw [e]; exact List.getElem_mem hi
    refine x_comp2 (R2 := RStr (S mem)) (n := os.length) (m := mem.length) (pre := [(".0", .local)]) (post := [("x", .local), ("below", .free), ("members", .free)]) (item := fun i => RStr (S (os.getD i []))) (item2 := fun j => RTok (S [mem.getD j 0])) (fun i j => keepO rel mem (os.getD i []) (mem.getD j 0)) (fun i j => RStr (S (os.getD i [] ++ [mem.getD j 0])))
      (ev_local (by walk_at "mem") (by walk_at "has") ((RTexts _).mono _ _ _ l3 rz)) (fun P' v' l r => i_texts hA'.none r)
      ?_ rfl (by decide) (by decide) ?_ (fun P' v' O l r => i_S hA'.none r (fun c h => letters_lt c (hmem c h)) (hB.up l).2) ?_ ?_ (fun _ => .tail .head) (fun _ => .head) ?_
    · have := Nat.mul_le_mul hol hm
      have := Nat.mul_le_mul h5 (Nat.le_refl 5)
      rw [sizeLine_eq]; omega
    · intro i v1 P' u1 C c0 D acc o hi l r
      exact ev_cell (by walk_at "mem") ((RStr _).mono _ _ _ (lP.trans l) hv)
    · intro i j v1 v2 P' u1 u2 C c0 D acc hi hj l r1 r2
      have hx : mem.getD j 0 ∈ letters := hmem _ (getD_mem hj)
      generalize mem.getD j 0 = x at r2 hx ⊢
      generalize os.getD i [] = o at r1 ⊢
      refine tl_one (tst_and (tst_notIn (ev_local (by walk_at "mem") (by walk_at "has") (RTok.str r2)) (ev_cell (by walk_at "mem") r1)) fun _ => ?_)
      have e : ((rel x).filter fun y => decide (y ∈ mem) && !(decide (y ∈ o))).isEmpty = (((rel x).filter fun y => decide (y ∈ mem) && !(decide (y ∈ o))).map fun z => RStr (S [z])).isEmpty := by rw [List.isEmpty_map]
      rw [e]
      refine tst_eqNil hA'.units (ev_compS (l := rel x) (fun y => decide (y ∈ mem) && !(decide (y ∈ o))) (fun z => RStr (S [z])) hA'.none (ev_sub_rel (ev_cell (by walk_at "mem") ((RRel PR w rel).mono _ _ _ (lP.trans l) hu)) (ev_local (by walk_at "mem") (by walk_at "has") (RTok.str r2)) hx) (fun c h => letters_lt c (hrel x hx c h)) (hB.up l).2 (by have := hlen x hx; rw [sizeLine_eq]; omega) ?_ ?_)
      · intro y vy P'' u3 C2 D2 acc2 hy lk ry
        exact tl_one (tst_and (tst_in (ev_local (by walk_at "mem") (by walk_at "has") (RTok.str ry)) (ev_cell (by walk_at "mem") ((RStr _).mono _ _ _ ((lP.trans l).trans lk) hv))) fun _ => tst_notIn (ev_local (by walk_at "mem") (by walk_at "has") (RTok.str ry)) (ev_cell (by walk_at "mem") ((RStr _).mono _ _ _ lk r1)))
      · intro y vy P'' u3 C2 D2 acc2 hy hk2 lk ry
        exact ev_local (by walk_at "mem") (by walk_at "has") (RTok.str ry)
    · intro i j v1 v2 P' u1 u2 C c0 D acc hi hj hk l r1 r2
      have hoi := (hom _ (hget i hi)).1
      generalize mem.getD j 0 = x at r2 ⊢
      generalize os.getD i [] = o at r1 hoi ⊢
      refine ev_bin (ev_cell (by walk_at "mem") r1) (ev_local (by walk_at "mem") (by walk_at "has") (RTok.str r2)) (fun P' v u l h1 h2 => by rw [← S_append]; exact g_add_str h1 h2 (by rw [S_len, S_len, hoi, sizeLine_eq]; simp; omega))
    · intro v' P4 l4 r4
      refine x_nil ⟨_, rfl, v', some vc, rfl, ?_⟩
      rw [picked2_lists os mem (keepO rel mem) (fun o x => o ++ [x])] at r4
      show (RTexts (stepO rel mem (ordersN rel mem i))).h P4 v'
      rw [hos]; exact r4
  · rintro P2 P3 O' l2 l3 ⟨z, c, rfl, rz⟩
    refine x_nil (x_retEv (R := RTexts (ordersL rel mem)) (ev_local (by walk_at "mem") (by walk_at "has") ((RTexts _).mono _ _ _ l3 rz)) (fun P5 z l5 r5 => ⟨[_, _, _], O, rfl, rfl, r5⟩))
end
end

section
theorem at_add (w : World) : ∃ oc od name doc pm an ct osl, (KF w).lookup 122 = some ⟨oc, od, .func (fnOf name "add_callers" (defArgs (topStmt 9)) (defBody (topStmt 9)) (defScope (topStmt 9)) .none .none doc pm an (.ref 121) ct), osl⟩ ∧ codeIn (KF w) (.ref 121) "add_callers" = true :=
  ⟨_, _, _, _, _, _, _, _, by with_unfolding_all rfl, by with_unfolding_all rfl⟩
theorem code_add {w : World} {P : Part} (B : Bg (KF w) P) : CodeAt P 121 117 := by
  obtain ⟨od, vs, sl, file, tf, flags, tg, inF, text, tt, e, r⟩ : ∃ od vs sl file tf flags tg inF text tt, (KF w).lookup 121 = some ⟨.type "code", od, .fields vs, sl⟩ ∧ vs.getD 11 Value.none = Value.ref 117 ∧ vs[11]? = some (Value.ref 117) ∧ vs.getD 18 Value.none = Value.str file tf ∧
    vs.getD 7 Value.none = Value.int flags tg ∧ vs.getD 9 Value.none = Value.bool inF ∧ vs.getD 10 Value.none = Value.int text tt ∧ (121 : Addr) ≠ 117 :=
    ⟨_, _, _, _, _, _, _, _, _, _, by with_unfolding_all rfl, by with_unfolding_all rfl, by with_unfolding_all rfl, by with_unfolding_all rfl, by with_unfolding_all rfl, by with_unfolding_all rfl, by with_unfolding_all rfl, by decide⟩
  exact ⟨od, vs, sl, file, tf, flags, tg, inF, text, tt, B.get e, r⟩

/-- books: tuples of whole numbers under names -/
noncomputable abbrev Book := List (Str × List Int)
noncomputable def bookR (l : Book) : List (Str × Rep) := l.map fun kv => (kv.1, RTup (kv.2.map RInt))
noncomputable def RBook (w : World) (l : Book) : Rep := RDict PR w (bookR l)
noncomputable def addOne (acc : Book) (kv : Str × List Int) : Book := match look acc kv.1 with
  | some old => put acc kv.1 (List.zipWith (· + ·) kv.2 old)
  | none => put acc kv.1 kv.2
noncomputable def addL (t s : Book) : Book := s.foldl addOne t

theorem look_rep {α β : Type} (f : α → β) : ∀ (l : List (Str × α)) (k : Str), look (l.map fun kv => (kv.1, f kv.2)) k = (look l k).map f
  | [], _ => rfl
  | (k', a) :: l, k => by
    have ih := look_rep f l k
    unfold look at ih ⊢
    rw [List.map_cons, List.find?_cons, List.find?_cons]
    by_cases q : k' = k
    · simp [q]
    · simp only [q, decide_false]; exact ih
theorem put_rep {α β : Type} (f : α → β) (l : List (Str × α)) (k : Str) (a : α) : put (l.map fun kv => (kv.1, f kv.2)) k (f a) = (put l k a).map fun kv => (kv.1, f kv.2) := by
  unfold put
  rw [List.any_map]
  have e : ((fun kv : Str × β => decide (kv.1 = k)) ∘ fun kv : Str × α => (kv.1, f kv.2)) = fun kv => decide (kv.1 = k) := rfl
  rw [e]
  by_cases q : (l.any fun kv => decide (kv.1 = k)) = true
  · rw [if_pos q, if_pos q, List.map_map, List.map_map]
    congr 1; funext kv
    show (if kv.1 = k then (kv.1, f a) else (kv.1, f kv.2)) = _
    by_cases q2 : kv.1 = k
    · simp [q2]
    · simp [q2]
  · rw [if_neg q, if_neg q]; simp
theorem put_fresh {α : Type} {l : List (Str × α)} {k : Str} {a : α} (h : k ∉ l.map (·.1)) : put l k a = l ++ [(k, a)] := by
  unfold put
  rw [if_neg]
  intro q
  obtain ⟨x, hx, e⟩ := List.any_eq_true.mp q
  exact h (List.mem_map.mpr ⟨x, hx, of_decide_eq_true e⟩)
theorem put_length {α : Type} (l : List (Str × α)) (k : Str) (a : α) : (put l k a).length ≤ l.length + 1 := by
  unfold put; split <;> simp
theorem look_mem {α : Type} {l : List (Str × α)} {k : Str} {a : α} (h : look l k = some a) : (k, a) ∈ l := by
  unfold look at h
  cases q : l.find? (fun kv => decide (kv.1 = k)) with
  | none => rw [q] at h; cases h
  | some kv =>
    rw [q] at h; cases h
    have h1 := List.find?_some q
    have h2 := List.mem_of_find?_eq_some q
    have : kv.1 = k := of_decide_eq_true h1
    rw [← this]; exact h2
theorem put_all {α : Type} {p : α → Prop} {l : List (Str × α)} {k : Str} {a : α} (h : ∀ kv ∈ l, p kv.2) (ha : p a) : ∀ kv ∈ put l k a, p kv.2 := by
  intro kv hkv
  unfold put at hkv
  split at hkv
  · obtain ⟨x, hx, rfl⟩ := List.mem_map.mp hkv
    split
    · exact ha
    · exact h x hx
  · rcases List.mem_append.mp hkv with h' | h'
    · exact h kv h'
    · rw [List.mem_singleton.mp h']; exact ha
noncomputable def Four (l : Book) : Prop := ∀ kv ∈ l, kv.2.length = 4
theorem addOne_four {acc : Book} {kv : Str × List Int} (h : Four acc) (hk : kv.2.length = 4) : Four (addOne acc kv) := by
  unfold addOne
  split
  · rename_i old e
    have h1 := h _ (look_mem e)
    exact put_all (p := fun a : List Int => a.length = 4) h (by simp at h1; simp [hk, h1])
  · exact put_all (p := fun a : List Int => a.length = 4) h hk
theorem addOne_length (acc : Book) (kv : Str × List Int) : (addOne acc kv).length ≤ acc.length + 1 := by
  unfold addOne; split <;> exact put_length _ _ _
theorem addL_succ {t s : Book} {i : Nat} (hi : i < s.length) : addL t (s.take (i + 1)) = addOne (addL t (s.take i)) s[i] := by
  rw [show s.take (i + 1) = s.take i ++ [s[i]] by rw [List.take_add_one]; simp [hi]]
  simp only [addL, List.foldl_append, List.foldl_cons, List.foldl_nil]
theorem addL_four {t s : Book} (ht : Four t) (hs : Four s) : ∀ i, i ≤ s.length → Four (addL t (s.take i)) ∧ (addL t (s.take i)).length ≤ t.length + i
  | 0, _ => ⟨by simpa [addL] using ht, by simp [addL]⟩
  | i + 1, h => by
    have ih := addL_four ht hs i (by omega)
    have hi : i < s.length := by omega
    rw [addL_succ hi]
    exact ⟨addOne_four ih.1 (hs _ (List.getElem_mem hi)), by have := addOne_length (addL t (s.take i)) s[i]; omega⟩

section
variable {w : World} {A : Around} {env : Env} {P : Part} {O O' : List U} {v u z : Value} {R : Rep} {K : Frag}

/-- a call of a def without cells, its code known -/
theorem f_callAt {a : Addr} {cdv : Value} {qual : Str} {params : Arguments} {body : List Stmt} {scope : Scope} {vals : List Value} {binds : List (Str × Value)} {ns : List Str} {vs : List (Option Value)} {Ψ : Value → Part → List U → Prop} {k : Nat}
    (B : Bg K P) (F : ∃ oc od name doc pm an ct osl, K.lookup a = some ⟨oc, od, .func (fnOf name qual params body scope .none .none doc pm an cdv ct), osl⟩ ∧ codeIn K cdv qual = true) (hA : Fit k A)
    (hbind : ∀ name doc pm an cdv ct, bindArgs (fnOf name qual params body scope .none .none doc pm an cdv ct) ⟨vals, []⟩ = PySem.Sem.pure binds)
    (hvs : ns.map (fun x => binds.reverse.lookup x) = vs) (hnd : ns.Nodup) (hloc : (binds.all fun y => scope.names.lookup y.1 == some .local) = true)
    (h : ∀ L, Do PR w (A.deeper (envX qual scope L a cdv [])) (execs body (envX qual scope L a cdv [])) P (frameU L ns vs :: O) (FnEnd Ψ))
    (hcell : ∀ x ∈ scope.names, x.2 ≠ .cell := by decide) (hco : scope.isCoroutine = false := by rfl) (hgen : scope.isGenerator = false := by rfl) (hk : scope.kind = .function := by rfl) : Do PR w A (call (.ref a) vals) P O Ψ := Do.mk fun s X => by
  obtain ⟨oc, od, name, doc, pm, an, ct, osl, hK, hcd⟩ := F
  refine wpAny_call (codeAny_call_def (fd := fnOf name qual params body scope .none .none doc pm an cdv ct) (body := body) (binds := binds) hA.depth (B.kin X _ _ hK) rfl (B.nolimit X) (codeRec_of (B.kin X) hcd) rfl (BindsTo.of_eq (hbind _ _ _ _ _ _)) hcell (fun x hx => by simpa using List.all_eq_true.mp hloc x hx) (fun h' hn hk' => ?_) hco hgen hk)
  have X1 : Sat P (frameU s.heap.objs.size ns vs :: O) { s with heap := h', toks := s.toks + binds.length } :=
    X.push (Nat.le_add_right _ _) hk' (fun a ha => by cases ha with | head => exact fresh_size _ | tail _ q => cases q) (List.nodup_cons.mpr ⟨by simp, .nil⟩)
      ⟨hnd, _, hn, fun i y v e1 e2 => by subst hvs; rw [List.getElem?_map, e1] at e2; simpa using e2⟩
  exact wpAny_mono ((h s.heap.objs.size).run _ X1) (fun f s2 ⟨P2, O2, l2, X2, us, O3, e3, q⟩ => by subst e3; exact ⟨P2, O3, l2, X2.drops, q⟩) fun _ _ e => e.elim

noncomputable abbrev AN : List Str := ["target", "source", "new_callers", "func", "caller"]
theorem add_spec {t s : Book} (B : Bg (KF w) P) (hA : Fit 2 A) (hT : tabU 117 ∈ O) (ht : Four t) (hs : Four s) (hn : (t.map (·.1)).Nodup) (hz : t.length + s.length ≤ 1000) (hv : (RBook w t).h P v) (hu : (RBook w s).h P u) :
    Gv PR w A (call (.ref 122) [v, u]) P O (RBook w (addL t s)) := by
  refine f_callAt B (at_add w) hA (binds := [("target", v), ("source", u)]) (ns := AN) (vs := [some v, some u, none, none, none]) (fun _ _ _ _ _ _ => rfl) (by rfl) (by decide) (by rfl) (fun L => ?_)
  have hA' := hA.deeper (env := envX "add_callers" (defScope (topStmt 9)) L 122 (.ref 121) [])
  refine x_newDict (fun d => .head) (fun d => .tail (.tail .head)) (fun d P1 l1 hd => ?_)
  have keyOf : ∀ (l : Book) (i : Nat) (hi : i < l.length), ((bookR l).map (·.1)).getD i ⟨#[]⟩ = l[i].1 ∧ ((bookR l).map (·.2)).getD i RAny = RTup (l[i].2.map RInt) := fun l i hi => by
    simp [bookR, List.getD_eq_getElem?_getD, hi]
  refine x_for (R1 := RView PR w "dict_items" (bookR t)) (n := (bookR t).length) (item := fun i => RTupW [RStr (((bookR t).map (·.1)).getD i ⟨#[]⟩), ((bookR t).map (·.2)).getD i RAny])
    (fun i P' O' => ∃ kvs a b, O' = dictU PR w d kvs :: frameU L AN [some v, some u, some (.ref d), a, b] :: O ∧ Ents P' (bookR (t.take i)) kvs)
    (ev_meth0 F.plainAttrs_dict F.slot_dict_items F.type_dict_items (R1 := RDict PR w (bookR t)) (ev_local (by walk_at "mem") (by walk_at "has") ((RBook w t).mono _ _ _ l1 hv)) (fun P' v s l r X => RDict.meth r X) (fun P' v l r => g_items r))
    (fun P' v' l' r => i_items hA'.none r) (fun P' l' => ⟨[], none, none, rfl, Ents.nil⟩) ?_ ?_
  · rintro i it P2 P3 O' vi hi l2 l3 ⟨kvs, a, b, rfl, en⟩ rv
    have hi' : i < t.length := by simpa [bookR] using hi
    rw [(keyOf t i hi').1, (keyOf t i hi').2] at rv
    refine s_pair hA'.none rv (fun k c rk rc => Do.assign_name (s_local (.tail (.tail .head)) (.tail (.tail (.tail .head))) (Do.assign_name (s_local (.tail (.tail .head)) (.tail (.tail (.tail (.tail .head)))) ?_))))
    refine x_setItem (R1 := RTup (t[i].2.map RInt)) (R2 := RVal (.ref d)) (R3 := RStr t[i].1) (Ψ := fun P' O' => ∃ z, (RTup (t[i].2.map RInt)).h P' z ∧ O' = it :: dictU PR w d (stored kvs t[i].1 z) :: frameU L AN [some v, some u, some (.ref d), some k, some c] :: O)
      (ev_local (by walk_at "mem") (by walk_at "has") rc) (ev_local (by walk_at "mem") (by walk_at "has") rfl) (ev_local (by walk_at "mem") (by walk_at "has") rk) (fun P' z v1 u1 lz rz r1 r2 => ?_) (fun P4 O4 l4 ⟨z, rz, e⟩ => ?_)
    · obtain rfl : v1 = .ref d := r1
      refine o_setItem_dict (.tail .head) r2 ?_ ⟨z, rz, rfl⟩
      rw [en.length]; simp only [bookR, List.length_map, List.length_take]; rw [sizeLine_eq]; omega
    · subst e
      refine x_nil ⟨_, rfl, stored kvs t[i].1 z, some k, some c, rfl, ?_⟩
      have h1 := (en.mono (l3.trans l4)).put (k := t[i].1) rz
      have hfr : t[i].1 ∉ (t.take i).map (·.1) := by
        intro q
        obtain ⟨x, hx, ex⟩ := List.mem_map.mp q
        obtain ⟨j, hj, ej⟩ := List.getElem_of_mem hx
        rw [List.length_take] at hj
        rw [List.getElem_take] at ej
        have : (t.map (·.1))[j]'(by simp; omega) = (t.map (·.1))[i]'(by simpa using hi') := by simp [ej, ex]
        have := (List.getElem_inj hn).mp this
        omega
      have e2 : put (bookR (t.take i)) t[i].1 (RTup (t[i].2.map RInt)) = bookR (t.take (i + 1)) := by
        rw [bookR, put_rep (fun l : List Int => RTup (l.map RInt)), put_fresh hfr, show t.take (i + 1) = t.take i ++ [t[i]] by rw [List.take_add_one]; simp [hi']]
        rfl
      rw [e2] at h1; exact h1
  · rintro P2 P3 O' l2 l3 ⟨kvs, a, b, rfl, en⟩
    refine x_nil ?_
    rw [show (bookR t).length = t.length by simp [bookR], List.take_length] at en
    have l03 : P.le P3 := (l1.trans l2).trans l3
    refine x_for (R1 := RView PR w "dict_items" (bookR s)) (n := (bookR s).length) (item := fun i => RTupW [RStr (((bookR s).map (·.1)).getD i ⟨#[]⟩), ((bookR s).map (·.2)).getD i RAny])
      (fun i P' O' => ∃ kvs a b, O' = dictU PR w d kvs :: frameU L AN [some v, some u, some (.ref d), a, b] :: O ∧ Ents P' (bookR (addL t (s.take i))) kvs)
      (ev_meth0 F.plainAttrs_dict F.slot_dict_items F.type_dict_items (R1 := RDict PR w (bookR s)) (ev_local (by walk_at "mem") (by walk_at "has") ((RBook w s).mono _ _ _ l03 hu)) (fun P' v s l r X => RDict.meth r X) (fun P' v l r => g_items r))
      (fun P' v' l' r => i_items hA'.none r) (fun P' l' => ⟨kvs, a, b, rfl, by rw [List.take_zero]; exact en.mono (l3.trans l')⟩) ?_ ?_
    · rintro i it P4 P5 O' vi hi l4 l5 ⟨kvs, a, b, rfl, en⟩ rv
      have hi' : i < s.length := by simpa [bookR] using hi
      rw [(keyOf s i hi').1, (keyOf s i hi').2] at rv
      have hfour := addL_four ht hs i (by omega)
      have hsf := hs _ (List.getElem_mem hi')
      rw [addL_succ hi']
      have hkz : kvs.length ≤ 1000 := by
        rw [en.length]; simp only [bookR, List.length_map]; have := hfour.2; omega
      have hf1 := hfour.1
      clear hfour
      generalize addL t (s.take i) = acc at en hf1 ⊢
      generalize s[i] = kv at rv hsf ⊢
      refine s_pair hA'.none rv (fun k c rk rc => Do.assign_name (s_local (.tail (.tail .head)) (.tail (.tail (.tail .head))) (Do.assign_name (s_local (.tail (.tail .head)) (.tail (.tail (.tail (.tail .head)))) ?_))))
      have en5 := en.mono l5
      have l05 : P.le P5 := (l03.trans l4).trans l5
      have B5 := B.up l05
      have elook : look (bookR acc) kv.1 = (look acc kv.1).map fun l : List Int => RTup (l.map RInt) := look_rep (fun l : List Int => RTup (l.map RInt)) acc kv.1
      -- the store, and what it makes of the table
      have fin : ∀ P6 z (l : List Int), P5.le P6 → (RTup (l.map RInt)).h P6 z → Ents P6 (bookR (put acc kv.1 l)) (stored kvs kv.1 z) := fun P6 z l l6 rz => by
        have h1 := (en5.mono l6).put (k := kv.1) rz
        rwa [bookR, put_rep (fun l : List Int => RTup (l.map RInt))] at h1
      refine x_if (c := (look (bookR acc) kv.1).isSome) (tst_cmp (R1 := RStr kv.1) (R2 := RVal (.ref d)) (ev_local (by walk_at "mem") (by walk_at "has") rk) (ev_local (by walk_at "mem") (by walk_at "has") rfl) (fun P' a b l' h1 h2 => ?_)) ?_ ?_
      · obtain rfl : b = .ref d := h2
        exact g_in_dictO (.tail _ (.head _)) hd (en5.mono l') h1
      · intro hc P6 l6
        rw [elook] at hc
        obtain ⟨old, ho⟩ : ∃ old, look acc kv.1 = some old := by
          cases q : look acc kv.1 with
          | none => rw [q] at hc; cases hc
          | some old => exact ⟨old, rfl⟩
        have hold : old.length = 4 := hf1 _ (look_mem ho)
        have B6 := B5.up l6
        refine x_if (c := true) (tst_val (ev_call (Rs := [RTup (kv.2.map RInt), RVal (.type "tuple")]) (ev_builtin B6 (v := .builtin "isinstance") (by with_unfolding_all rfl) (by with_unfolding_all rfl) (by decide)) kept_builtin
          (evl_cons (ev_local (by walk_at "mem") (by walk_at "has") ((RTup _).mono _ _ _ l6 rc)) (evl_cons (ev_builtin B6 (v := .type "tuple") (by with_unfolding_all rfl) (by with_unfolding_all rfl) (by decide)) evl_nil)) (fun P' vs' l' rs => ?_))) ?_ (fun q => by cases q)
        · match vs', rs with
          | [y, ty], ⟨ry, rty, _⟩ =>
            obtain rfl : ty = .type "tuple" := rty
            exact g_isi (Tx := "tuple") (fun s X => RSeq.typeIs ry X) rfl (by rw [isSubtype_type]; kernel_rfl)
        · intro _ P7 l7
          have l57 := l6.trans l7
          refine x_setItem (R1 := RTup ((List.zipWith (· + ·) kv.2 old).map RInt)) (R2 := RVal (.ref d)) (R3 := RStr kv.1) (Ψ := fun P' O' => ∃ z, (RTup ((List.zipWith (· + ·) kv.2 old).map RInt)).h P' z ∧ P7.le P' ∧ O' = it :: dictU PR w d (stored kvs kv.1 z) :: frameU L AN [some v, some u, some (.ref d), some k, some c] :: O)
            (ev_tupleZip (B6.up l7) hA'.none hA'.depth (.tail _ (.tail _ (.tail _ hT))) (code_add (B6.up l7)) (by decide) (ev_builtin (B6.up l7) (by with_unfolding_all rfl) (by with_unfolding_all rfl) (by decide)) (ev_builtin (B6.up l7) (by with_unfolding_all rfl) (by with_unfolding_all rfl) (by decide))
              (ev_local (by walk_at "mem") (by walk_at "has") ((RTup _).mono _ _ _ l57 rc)) (ev_sub_dictO (ev_local (by walk_at "mem") (by walk_at "has") rfl) (ev_local (by walk_at "mem") (by walk_at "has") ((RStr _).mono _ _ _ l57 rk)) (.tail _ (.head _)) (en5.mono l57) (by rw [elook, ho]; rfl)) (by omega) (by omega))
            (ev_local (by walk_at "mem") (by walk_at "has") rfl) (ev_local (by walk_at "mem") (by walk_at "has") ((RStr _).mono _ _ _ l57 rk)) (fun P' z v1 u1 lz rz r1 r2 => ?_) (fun P8 O8 l8 ⟨z, rz, lz, e⟩ => ?_)
          · obtain rfl : v1 = .ref d := r1
            exact o_setItem_dict (.tail .head) r2 (by rw [sizeLine_eq]; omega) ⟨z, rz, lz, rfl⟩
          · subst e
            refine x_nil (x_nil (x_nil ⟨_, rfl, stored kvs kv.1 z, some k, some c, rfl, ?_⟩))
            have := fin P8 z _ (l57.trans l8) rz
            rw [addOne, ho]; exact this
      · intro hc P6 l6
        rw [elook] at hc
        have ho : look acc kv.1 = none := by
          cases q : look acc kv.1 with
          | none => rfl
          | some old => rw [q] at hc; cases hc
        refine x_setItem (R1 := RTup (kv.2.map RInt)) (R2 := RVal (.ref d)) (R3 := RStr kv.1) (Ψ := fun P' O' => ∃ z, (RTup (kv.2.map RInt)).h P' z ∧ P6.le P' ∧ O' = it :: dictU PR w d (stored kvs kv.1 z) :: frameU L AN [some v, some u, some (.ref d), some k, some c] :: O)
          (ev_local (by walk_at "mem") (by walk_at "has") ((RTup _).mono _ _ _ l6 rc)) (ev_local (by walk_at "mem") (by walk_at "has") rfl) (ev_local (by walk_at "mem") (by walk_at "has") ((RStr _).mono _ _ _ l6 rk)) (fun P' z v1 u1 lz rz r1 r2 => ?_) (fun P8 O8 l8 ⟨z, rz, lz, e⟩ => ?_)
        · obtain rfl : v1 = .ref d := r1
          exact o_setItem_dict (.tail .head) r2 (by rw [sizeLine_eq]; omega) ⟨z, rz, lz, rfl⟩
        · subst e
          refine x_nil (x_nil ⟨_, rfl, stored kvs kv.1 z, some k, some c, rfl, ?_⟩)
          have := fin P8 z _ (l6.trans l8) rz
          rw [addOne, ho]; exact this
    · rintro P4 P5 O' l4 l5 ⟨kvs, a, b, rfl, en⟩
      rw [show (bookR s).length = s.length by simp [bookR], List.take_length] at en
      refine x_nil ?_
      refine o_freezeDict (O' := frameU L AN [some v, some u, some (.ref d), a, b] :: O) ⟨_, .refl _, rfl⟩ hd (en.mono l5) (fun P6 l6 r6 => ?_)
      exact x_retEv (R := RBook w (addL t s)) (ev_local (by walk_at "mem") (by walk_at "has") r6) (fun P7 z l7 r7 => ⟨[_], O, rfl, rfl, r7⟩)
end
end

section
/-- what _law_due makes -/
noncomputable abbrev CT := List (List Nat × Int)
noncomputable abbrev ST := List (List Nat × List Int)
noncomputable def butL (x : Nat) : List Nat := letters.filter fun y => decide (y ≠ x)
noncomputable def underL (rel : Nat → List Nat) (x : Nat) : List Nat := letters.filter fun y => decide (x ∈ aboveL rel y)
noncomputable def lastP (rel : Nat → List Nat) (x : Nat) (row : List Nat) : Int × Nat := maxN ((-1, 45) :: (underL rel x).map fun y => ((row.idxOf y : Int), y))
noncomputable def minP (rel : Nat → List Nat) (x : Nat) (row : List Nat) : Int × Nat := minN ((aboveL rel x).map fun y => ((row.idxOf y : Int), y))
noncomputable def addP (old : List Int) (spot : Int) : List Int := (List.range 3).map fun k => old.getD k 0 + (spot + 1) ^ (k + 1)
noncomputable def countD (rel : Nat → List Nat) (x : Nat) (ct : CT) (row : List Nat) : CT := putK ct [(lastP rel x row).2, x] ((lookK ct [(lastP rel x row).2, x]).getD 0 + 1)
noncomputable def spotD (rel : Nat → List Nat) (x : Nat) (st : ST) (row : List Nat) : ST := putK st [x, (minP rel x row).2] (addP ((lookK st [x, (minP rel x row).2]).getD [0, 0, 0]) (minP rel x row).1)
noncomputable def turnD (rel : Nat → List Nat) (x : Nat) (cs : CT × ST) (row : List Nat) : CT × ST := (countD rel x cs.1 row, if (aboveL rel x).isEmpty = true then cs.2 else spotD rel x cs.2 row)
noncomputable def rowsD (rel : Nat → List Nat) (cs : CT × ST) (x : Nat) : CT × ST := (ordersL rel (butL x)).foldl (turnD rel x) cs
noncomputable def spots0 : ST := letters.map fun x => ([45, x], [0, 0, 0])
noncomputable def duesL (rel : Nat → List Nat) : CT × ST := letters.foldl (rowsD rel) ([], spots0)
noncomputable def dueOf (cs : CT × ST) : ST := cs.1.map fun kv => (kv.1, kv.2 :: (lookK cs.2 kv.1).getD [])
noncomputable def dueL (rel : Nat → List Nat) : ST := dueOf (duesL rel)
noncomputable def dueFits (cs : CT × ST) : Bool := decide (cs.1.length ≤ 1000) && cs.1.all fun kv => (lookK cs.2 kv.1).isSome

/-- orders hold all members, each once -/
theorem subset_of_len : ∀ {l m : List Nat}, l.Nodup → (∀ x ∈ l, x ∈ m) → m.length ≤ l.length → ∀ x ∈ m, x ∈ l
  | [], m, _, _, hz, x, hx => by
    have : m = [] := List.eq_nil_of_length_eq_zero (Nat.le_zero.mp hz)
    rw [this] at hx; cases hx
  | a :: l, m, hn, hs, hz, x, hx => by
    by_cases q : x = a
    · rw [q]; exact .head _
    · have h1 := List.nodup_cons.mp hn
      have ha := hs a (.head _)
      refine .tail _ (subset_of_len (m := m.erase a) h1.2 (fun y hy => ?_) ?_ x ?_)
      · have : y ≠ a := fun e => h1.1 (e ▸ hy)
        exact (List.mem_erase_of_ne this).mpr (hs y (.tail _ hy))
      · have := List.length_erase_of_mem ha
        simp at hz; omega
      · exact (List.mem_erase_of_ne q).mpr hx
theorem ordersN_nodup (rel : Nat → List Nat) (mem : List Nat) : ∀ n, ∀ o ∈ ordersN rel mem n, o.Nodup
  | 0, o, h => by
    have : o = [] := by simpa [ordersN] using h
    subst this; exact .nil
  | n + 1, o, h => by
    obtain ⟨o', h1, h2⟩ := List.mem_flatMap.mp h
    obtain ⟨x, h3, rfl⟩ := List.mem_map.mp h2
    have ih := ordersN_nodup rel mem n o' h1
    have hk := (List.mem_filter.mp h3).2
    unfold keepO at hk
    have hx : x ∉ o' := by
      have := (Bool.and_eq_true _ _).mp hk
      simpa using this.1
    refine List.nodup_append.mpr ⟨ih, List.nodup_cons.mpr ⟨by simp, .nil⟩, fun a ha b hb q => ?_⟩
    rw [List.mem_singleton.mp hb] at q
    exact hx (q ▸ ha)
theorem ordersL_has {rel : Nat → List Nat} {mem o : List Nat} (h : o ∈ ordersL rel mem) : o.length = mem.length ∧ o.Nodup ∧ (∀ x ∈ o, x ∈ mem) ∧ ∀ x ∈ mem, x ∈ o := by
  have h1 := ordersN_mem rel mem _ o h
  have h2 := ordersN_nodup rel mem _ o h
  exact ⟨h1.1, h2, h1.2, subset_of_len h2 h1.2 (Nat.le_of_eq h1.1.symm)⟩
theorem butL_len : ∀ x ∈ letters, (butL x).length = 4 := by decide
theorem mem_butL {x y : Nat} (hy : y ∈ letters) (h : y ≠ x) : y ∈ butL x := List.mem_filter.mpr ⟨hy, by simpa using h⟩
theorem under_ne {rel : Nat → List Nat} (hirr : ∀ c ∈ letters, c ∉ rel c) {x y : Nat} (h : y ∈ underL rel x) : y ∈ butL x := by
  obtain ⟨h1, h2⟩ := List.mem_filter.mp h
  obtain ⟨h3, h4⟩ := List.mem_filter.mp (of_decide_eq_true h2)
  have h5 : y ∈ rel x := by
    have := (Bool.and_eq_true _ _).mp h4
    exact of_decide_eq_true this.1
  exact mem_butL h1 fun e => hirr x h3 (e ▸ h5)
theorem above_ne {rel : Nat → List Nat} (hirr : ∀ c ∈ letters, c ∉ rel c) {x y : Nat} (hx : x ∈ letters) (h : y ∈ aboveL rel x) : y ∈ butL x := by
  obtain ⟨h3, h4⟩ := List.mem_filter.mp h
  have h5 : x ∈ rel y := by
    have := (Bool.and_eq_true _ _).mp h4
    exact of_decide_eq_true this.1
  exact mem_butL h3 fun e => hirr x hx (by rw [e] at h5; exact h5)
theorem idx_nodup {row l : List Nat} (hl : l.Nodup) (h : ∀ y ∈ l, y ∈ row) : ((l.map fun y => ((row.idxOf y : Int), y)).map (·.1)).Nodup := by
  rw [List.map_map]
  refine List.pairwise_map.mpr (hl.imp_of_mem fun {a b} ha hb hne e => ?_)
  have e' : row.idxOf a = row.idxOf b := Int.ofNat.inj e
  have h1 := List.getElem_idxOf (List.idxOf_lt_length_of_mem (h a ha))
  have h2 := List.getElem_idxOf (List.idxOf_lt_length_of_mem (h b hb))
  apply hne
  rw [← h1, ← h2]; congr 1
theorem letters_nodup : letters.Nodup := by decide

theorem putK_keys {α : Type} {l : List (List Nat × α)} {k : List Nat} {a : α} (h : (l.map (·.1)).Nodup) : ((putK l k a).map (·.1)).Nodup := by
  unfold putK
  by_cases q : (l.any fun kv => decide (kv.1 = k)) = true
  · rw [if_pos q, List.map_map]
    have e : (Prod.fst ∘ fun kv : List Nat × α => if kv.1 = k then (kv.1, a) else kv) = Prod.fst := by
      funext kv; show (if kv.1 = k then (kv.1, a) else kv).1 = kv.1; split <;> rfl
    rw [e]; exact h
  · rw [if_neg q, List.map_append]
    refine List.nodup_append.mpr ⟨h, List.nodup_cons.mpr ⟨by simp, .nil⟩, fun x hx b hb e => ?_⟩
    obtain ⟨kv, hkv, rfl⟩ := List.mem_map.mp hx
    apply q
    refine List.any_eq_true.mpr ⟨kv, hkv, ?_⟩
    rw [List.mem_singleton.mp hb] at e
    simpa using e
noncomputable def Three (st : ST) : Prop := ∀ kv ∈ st, kv.2.length = 3
theorem addP_len (old : List Int) (s : Int) : (addP old s).length = 3 := by simp [addP]
theorem spotD_three {rel : Nat → List Nat} {x : Nat} {st : ST} {row : List Nat} (h : Three st) : Three (spotD rel x st row) := putK_all (p := fun l : List Int => l.length = 3) h (addP_len _ _)
theorem turnD_inv {rel : Nat → List Nat} {x : Nat} {cs : CT × ST} {row : List Nat} {n : Nat} (h : Three cs.2 ∧ (cs.1.map (·.1)).Nodup ∧ cs.1.length ≤ n ∧ cs.2.length ≤ n) : Three (turnD rel x cs row).2 ∧ ((turnD rel x cs row).1.map (·.1)).Nodup ∧ (turnD rel x cs row).1.length ≤ n + 1 ∧ (turnD rel x cs row).2.length ≤ n + 1 := by
  refine ⟨?_, putK_keys h.2.1, Nat.le_trans (putK_length _ _ _) (by omega), ?_⟩
  · show Three (if _ then _ else _)
    split
    · exact h.1
    · exact spotD_three h.1
  · show (if _ then _ else _ : ST).length ≤ _
    split
    · omega
    · exact Nat.le_trans (putK_length _ _ _) (by omega)
theorem foldl_succ {α β : Type} (f : β → α → β) (b : β) {l : List α} {i : Nat} (d : α) (hi : i < l.length) : (l.take (i + 1)).foldl f b = f ((l.take i).foldl f b) (l.getD i d) := by
  rw [show l.take (i + 1) = l.take i ++ [l.getD i d] by rw [List.take_add_one]; simp [hi]]
  simp
noncomputable def Good (n : Nat) (cs : CT × ST) : Prop := Three cs.2 ∧ (cs.1.map (·.1)).Nodup ∧ cs.1.length ≤ n ∧ cs.2.length ≤ n
theorem foldTurn {rel : Nat → List Nat} {x n : Nat} : ∀ (rows : List (List Nat)) (cs : CT × ST), Good n cs → Good (n + rows.length) (rows.foldl (turnD rel x) cs)
  | [], _, h => h
  | r :: rows, cs, h => by
    have := foldTurn (rel := rel) (x := x) rows (turnD rel x cs r) (turnD_inv (n := n) h)
    rw [List.foldl_cons, List.length_cons, show n + (rows.length + 1) = n + 1 + rows.length by omega]; exact this
end

section
theorem at_due (w : World) : FnAt (KF w) 156 "_law_due" (defArgs (topStmt 16)) (defBody (topStmt 16)) (defScope (topStmt 16)) :=
  ⟨_, _, _, _, _, _, _, _, _, by with_unfolding_all rfl, by with_unfolding_all rfl⟩
theorem gl_above (w : World) : nsIn (KF w) mainGlobals ("_law_above" : Str) = some (some (.ref 146)) := by with_unfolding_all rfl
theorem gl_orders (w : World) : nsIn (KF w) mainGlobals ("_law_orders" : Str) = some (some (.ref 151)) := by with_unfolding_all rfl

noncomputable abbrev RSp (l : List Int) : Rep := RTup (l.map RInt)
noncomputable abbrev RST (w : World) (l : ST) : Rep := RDict PR w (toS RSp l)
noncomputable abbrev DN : List Str := ["below", "under", "last", "first"]
theorem replace_but : ∀ c ∈ letters, Txt.replace (S letters) (S [c]) (Str.ofString "") = S (butL c) := by decide +kernel
theorem one_but : ∀ c ∈ letters, (S [c] == Str.ofString "") = false := by decide +kernel
theorem Reps.one {P : Part} {R : Rep} : ∀ {vs : List Value}, Reps P [R] vs → ∃ x, vs = [x] ∧ R.h P x
  | [x], ⟨h, _⟩ => ⟨x, rfl, h⟩
theorem Reps.two {P : Part} {R R2 : Rep} : ∀ {vs : List Value}, Reps P [R, R2] vs → ∃ x y, vs = [x, y] ∧ R.h P x ∧ R2.h P y
  | [x, y], ⟨h, h2, _⟩ => ⟨x, y, rfl, h, h2⟩
theorem filter_all {α : Type} (l : List α) : (l.filter fun _ => true) = l := by
  induction l with
  | nil => rfl
  | cons a l ih => rw [List.filter_cons]; simp

theorem lookK_of_mem {α : Type} {l : List (List Nat × α)} {kv : List Nat × α} (hn : (l.map (·.1)).Nodup) (h : kv ∈ l) : lookK l kv.1 = some kv.2 := by
  induction l with
  | nil => cases h
  | cons x l ih =>
    unfold lookK at ih ⊢
    rw [List.map_cons] at hn
    have hn' := List.nodup_cons.mp hn
    rw [List.find?_cons]
    rcases List.mem_cons.mp h with rfl | h
    · simp
    · have : x.1 ≠ kv.1 := fun q => hn'.1 (q ▸ List.mem_map_of_mem h)
      simp only [this, decide_false]
      exact ih hn'.2 h
section
variable {w : World} {A : Around} {env : Env} {P : Part} {O O' : List U} {v u z : Value} {R : Rep} {K : Frag}

theorem g_minN {l : List (Int × Nat)} (hA : A.handled = none) (hu : A.units + 1 < cLine) (hne : l ≠ []) (hv : (RList ((l.map liftN).map pairT)).h P v) (hn : (l.map (·.1)).Nodup) : Gv PR w A (call (.builtin "min") [v]) P O (RTup [RInt (minN l).1, RStr (S [(minN l).2])]) := by
  cases l with
  | nil => exact absurd rfl hne
  | cons x l =>
    have h2 := g_minPairs (prog := PR) (w := w) (O := O) (x0 := liftN x) (L := l.map liftN) hA hu hv (by
      rw [← List.map_cons, List.map_map]; exact hn)
    rw [← List.map_cons, minOf_lift] at h2
    exact h2
theorem i_keysG {α : Type} {d : List Nat × α} (f : α → Rep) {l : List (List Nat × α)} {target : Expr} (hA : A.handled = none) (hv : (RDict PR w (toS f l)).h P v) (ht : ∀ z v, letOwnedTupleGo target z v = PySem.Sem.pure () := by intro _ _; rfl) :
    IterOf PR w A target v P O l.length (fun i => RStr (S (l.getD i d).1)) := by
  have := i_keys (prog := PR) (w := w) (O := O) (target := target) hA hv ht
  rw [toS_length] at this
  refine IterOf.items this (fun i hi => ?_)
  simp [toS, hi]
theorem due_spec {rel : Nat → List Nat} (B : Bg (KF w) P) (hA : Fit 4 A) (hrel : ∀ c ∈ letters, ∀ y ∈ rel c, y ∈ letters) (hlen : ∀ c ∈ letters, (rel c).length ≤ 5) (hirr : ∀ c ∈ letters, c ∉ rel c) (hfit : dueFits (duesL rel) = true) (hv : (RRel PR w rel).h P v) :
    Gv PR w A (call (.ref 156) [v]) P O (RST w (dueL rel)) := by
  refine f_callC B (at_due w) hA (binds := [("below", v)]) (ns := DN) (vs := [some v, none, none, none]) (cm := [("old", none), ("spot", none), ("row", none), ("spots", none), ("x", none), ("counts", none), ("above", none)]) (fun _ _ _ _ _ _ => rfl) (fun _ _ => rfl) (by decide) (fun _ _ => rfl) (by rfl) (by decide) (fun L cd => ?_)
  show Do _ _ _ (execs (defBody (topStmt 16)) _) P (frameU L DN [some v, none, none, none] :: cellU (L+1+1+1+1+1+1+1) none :: cellU (L+1+1+1+1+1+1) none :: cellU (L+1+1+1+1+1) none :: cellU (L+1+1+1+1) none :: cellU (L+1+1+1) none :: cellU (L+1+1) none :: cellU (L+1) none :: O) _
  have hA' := hA.deeper (env := envX "_law_due" (defScope (topStmt 16)) L 156 cd (cellsFrom (L + 1) (defScope (topStmt 16)).names []))
  refine x_cell (R := RRel PR w (aboveL rel)) (ev_call (f := .ref 146) (Rs := [RRel PR w rel]) (ev_global B (gl_above w)) (kept_at (at_above w) B) (evl_cons (ev_local (by walk_at "mem") (by walk_at "has") hv) evl_nil) (fun P' vs l rs => ?_)) (fun _ => .tail (.tail (.tail (.tail (.tail (.tail (.tail .head))))))) (fun va P1 l1 ra => ?_)
  · obtain ⟨x, rfl, rx⟩ := Reps.one rs
    have h := above_spec rel hrel hlen (B.up l) hA' (O := (frameU L DN [some v, none, none, none] :: cellU (L+1+1+1+1+1+1+1) none :: cellU (L+1+1+1+1+1+1) none :: cellU (L+1+1+1+1+1) none :: cellU (L+1+1+1+1) none :: cellU (L+1+1+1) none :: cellU (L+1+1) none :: cellU (L+1) none :: O)) rx
    exact h
  refine x_newDictC (fun d => .tail (.tail (.tail (.tail (.tail (.tail .head)))))) (fun d1 P2 l2 hd1 => ?_)
  have B2 := (B.up l1).up l2
  refine x_assign (Ψ := fun v' P' O' => ∃ d2 kvs, v' = .ref d2 ∧ d2 ≠ sysModules ∧ Ents P' (toS RSp spots0) kvs ∧ O' = dictU PR w d2 kvs :: dictU PR w d1 [] :: (frameU L DN [some v, none, none, none] :: cellU (L+1+1+1+1+1+1+1) none :: cellU (L+1+1+1+1+1+1) none :: cellU (L+1+1+1+1+1) none :: cellU (L+1+1+1+1) none :: cellU (L+1+1+1) none :: cellU (L+1+1) (some (.ref d1)) :: cellU (L+1) (some va) :: O)) ?_ ?_
  · have e : pairsR (toS RSp spots0) = (letters.filter fun _ => true).map fun x => RTup [RStr (S [45, x]), RTup [RInt 0, RInt 0, RInt 0]] := rfl
    have e2 : puts [] (toS RSp spots0) = toS RSp spots0 := by
      have := puts_new (l := toS RSp spots0) (acc := []) (by decide +kernel)
      simpa using this
    refine do_call (f := .type "dict") (Rs := [RList (pairsR (toS RSp spots0))]) (ev_builtin B2 (by with_unfolding_all rfl) (by with_unfolding_all rfl) (by decide)) kept_type (evl_cons ?_ evl_nil) (fun P' vs l rs => ?_)
    · rw [e]
      refine ev_compS (l := letters) (fun _ => true) (fun x => RTup [RStr (S [45, x]), RTup [RInt 0, RInt 0, RInt 0]]) hA'.none ev_abcde letters_lt B2.2 (by rw [sizeLine_eq]; decide) (fun c vc P' u C D acc hc l r => tl_nil) (fun c vc P' u C D acc hc hk l r => ?_)
      exact ev_tup (evl_cons (ev_addS (x := [45]) (y := [c]) ev_S (ev_local (by walk_at "mem") (by walk_at "has") (RTok.str r)) (by simp)) (evl_cons (ev_tup (evl_cons ev_int (evl_cons ev_int (evl_cons ev_int evl_nil))) (by rw [sizeLine_eq]; decide)) evl_nil)) (by rw [sizeLine_eq]; simp)
    · obtain ⟨x, rfl, rx⟩ := Reps.one rs
      refine o_dictOf (L := toS RSp spots0) hA'.none rx (by decide) (fun d kvs P'' l' hd en => ⟨d, kvs, rfl, hd, e2 ▸ en, rfl⟩)
  · rintro v' P3 O3 l3 ⟨d2, ks0, rfl, hd2, en0, rfl⟩
    refine s_cell (.tail (.tail (.tail (.tail (.tail (.tail .head)))))) ⟨rfl, ?_⟩
    have l03 : P.le P3 := (l1.trans l2).trans l3
    have B3 := B.up l03
    have ra3 := (RRel PR w (aboveL rel)).mono _ _ _ (l2.trans l3) ra
    have hv3 := (RRel PR w rel).mono _ _ _ l03 hv
    have g0 : Good 5 ([], spots0) := ⟨by intro kv h; revert kv; decide, by decide, by decide, by decide⟩
    have hrows : ∀ c ∈ letters, (ordersL rel (butL c)).length ≤ 625 := fun c hc => by
      have hb : (butL c).length ≤ 5 := List.length_filter_le _ _
      have h1 := ordersN_length rel (butL c) hb (butL c).length
      rw [butL_len c hc] at h1; simpa [ordersL, butL_len c hc] using h1
    refine x_for (R1 := RStr (S letters)) (n := 5) (item := fun i => RTok (S [letters.getD i 0])) (fun i P' O' => ∃ kc ks un la fi old spot row x, O' = dictU PR w d2 ks :: dictU PR w d1 kc :: (frameU L DN [some v, un, la, fi] :: cellU (L+1+1+1+1+1+1+1) (old) :: cellU (L+1+1+1+1+1+1) (spot) :: cellU (L+1+1+1+1+1) (row) :: cellU (L+1+1+1+1) (some (.ref d2)) :: cellU (L+1+1+1) (x) :: cellU (L+1+1) (some (.ref d1)) :: cellU (L+1) (some va) :: O) ∧ Ents P' (toS RInt ((letters.take i).foldl (rowsD rel) ([], spots0)).1) kc ∧ Ents P' (toS RSp ((letters.take i).foldl (rowsD rel) ([], spots0)).2) ks ∧ Good (5 + 625 * i) ((letters.take i).foldl (rowsD rel) ([], spots0)))
      ev_abcde (fun P' v' l r => i_S hA'.none r letters_lt (B3.up l).2) (fun P' l => ⟨[], ks0, none, none, none, none, none, none, none, rfl, Ents.nil, en0.mono l, g0⟩) ?_ ?_
    · rintro i it P4 P5 O' vx hi l4 l5 ⟨kc, ks, un, la, fi, old, spot, row, x, rfl, enc, ens, gd⟩ rx
      refine Do.assign_name (s_cell (.tail (.tail (.tail (.tail (.tail (.tail (.tail (.tail .head)))))))) ?_)
      have hc : letters.getD i 0 ∈ letters := getD_mem hi
      rw [foldl_succ (rowsD rel) ([], spots0) 0 hi]
      generalize (letters.take i).foldl (rowsD rel) ([], spots0) = cs at enc ens gd ⊢
      generalize letters.getD i 0 = c at rx hc ⊢
      have B5 := B3.up (l4.trans l5)
      have ra5 := (RRel PR w (aboveL rel)).mono _ _ _ (l4.trans l5) ra3
      have hv5 := (RRel PR w rel).mono _ _ _ (l4.trans l5) hv3
      replace enc := enc.mono l5
      replace ens := ens.mono l5
      refine x_comp1 (R1 := RStr (S letters)) (n := letters.length) (item := fun j => RTok (S [letters.getD j 0])) (fun j => decide (c ∈ aboveL rel (letters.getD j 0))) (fun j => RStr (S [letters.getD j 0]))
        ev_abcde (fun P' v' l r => i_S hA'.none r letters_lt (B5.up l).2) (by rw [sizeLine_eq]; decide) (fun j vy P' u C D acc hj l r => ?_) (fun j vy P' u C D acc hj hk l r => ?_) (fun _ => .tail (.tail (.tail .head))) (fun _ => .tail .head) (fun vun P6 l6 r6 => ?_)
      · exact tl_one (tst_in (ev_cell (by walk_at "mem") (RTok.str (RTok.up rx l))) (ev_sub_rel (ev_cell (by walk_at "mem") ((RRel PR w (aboveL rel)).mono _ _ _ l ra5)) (ev_local (by walk_at "mem") (by walk_at "has") (RTok.str r)) (getD_mem hj)))
      · exact ev_local (by walk_at "mem") (by walk_at "has") (RTok.str r)
      rw [picked_list letters (fun y => decide (c ∈ aboveL rel y)) (fun y => RStr (S [y]))] at r6
      replace r6 : (RList ((underL rel c).map fun y => RStr (S [y]))).h P6 vun := r6
      have B6 := B5.up l6
      have hrc := hrows c hc
      refine x_for (R1 := RTexts (ordersL rel (butL c))) (n := (ordersL rel (butL c)).length) (item := fun j => RStr (S ((ordersL rel (butL c)).getD j []))) (fun j P' O' => ∃ kc ks la fi old spot row, O' = it :: dictU PR w d2 ks :: dictU PR w d1 kc :: (frameU L DN [some v, some vun, la, fi] :: cellU (L+1+1+1+1+1+1+1) (old) :: cellU (L+1+1+1+1+1+1) (spot) :: cellU (L+1+1+1+1+1) (row) :: cellU (L+1+1+1+1) (some (.ref d2)) :: cellU (L+1+1+1) (some vx) :: cellU (L+1+1) (some (.ref d1)) :: cellU (L+1) (some va) :: O) ∧ Ents P' (toS RInt (((ordersL rel (butL c)).take j).foldl (turnD rel c) cs).1) kc ∧ Ents P' (toS RSp (((ordersL rel (butL c)).take j).foldl (turnD rel c) cs).2) ks ∧ Good (5 + 625 * i + j) (((ordersL rel (butL c)).take j).foldl (turnD rel c) cs))
        (ev_call (f := .ref 151) (Rs := [RStr (S (butL c)), RRel PR w rel]) (ev_global B6 (gl_orders w)) (kept_at (at_orders w) B6) (evl_cons (Ev.weak (ev_replace ev_abcde (ev_cell (by walk_at "mem") (RTok.up rx l6)) (one_but c hc) B6.2 (by rw [S_len, show (Str.ofString "").length = 0 from rfl]; decide)) (fun P' a h => by rw [replace_but c hc] at h; exact h)) (evl_cons (ev_local (by walk_at "mem") (by walk_at "has") ((RRel PR w rel).mono _ _ _ l6 hv5)) evl_nil)) (fun P' vs l rs => ?_))
        (fun P' v' l r => i_texts hA'.none r) (fun P' l => ⟨kc, ks, la, fi, old, spot, row, rfl, enc.mono (l6.trans l), ens.mono (l6.trans l), gd⟩) ?_ ?_
      · obtain ⟨a, b, rfl, rx1, rx2⟩ := Reps.two rs
        have h := orders_spec (mem := butL c) (B6.up l) (hA'.less (by decide)) hrel hlen (fun y hy => (List.mem_filter.mp hy).1) (List.length_filter_le _ _) rx1 rx2 (O := it :: dictU PR w d2 ks :: dictU PR w d1 kc :: (frameU L DN [some v, some vun, la, fi] :: cellU (L+1+1+1+1+1+1+1) (old) :: cellU (L+1+1+1+1+1+1) (spot) :: cellU (L+1+1+1+1+1) (row) :: cellU (L+1+1+1+1) (some (.ref d2)) :: cellU (L+1+1+1) (some vx) :: cellU (L+1+1) (some (.ref d1)) :: cellU (L+1) (some va) :: O))
        exact h
      · rintro j it2 P7 P8 O' vrow hj l7 l8 ⟨kc, ks, la, fi, old, spot, row0, rfl, enc, ens, gd⟩ rrow
        refine Do.assign_name (s_cell (.tail (.tail (.tail (.tail (.tail (.tail (.tail .head))))))) ?_)
        have hrow := ordersL_has (getD_memG (d := []) hj)
        rw [foldl_succ (turnD rel c) cs [] hj]
        generalize ((ordersL rel (butL c)).take j).foldl (turnD rel c) cs = cs2 at enc ens gd ⊢
        generalize (ordersL rel (butL c)).getD j [] = row at rrow hrow ⊢
        obtain ⟨hrl, hrn, hrs, hrm⟩ := hrow
        rw [butL_len c hc] at hrl
        have l68 := l7.trans l8
        have B8 := B6.up l68
        replace enc := enc.mono l8
        replace ens := ens.mono l8
        have ru8 := (RList ((underL rel c).map fun y => RStr (S [y]))).mono _ _ _ l68 r6
        have rx8 := RTok.up rx (l6.trans l68)
        have ra8 := (RRel PR w (aboveL rel)).mono _ _ _ (l6.trans l68) ra5
        have gd2 := gd
        obtain ⟨gd3, gdn, gdl1, gdl2⟩ := gd
        have hul : (underL rel c).length ≤ 5 := List.length_filter_le _ _
        have hal : (aboveL rel c).length ≤ 5 := List.length_filter_le _ _
        have hmu : ∀ y ∈ underL rel c, y ∈ row := fun y hy => hrm y (under_ne hirr hy)
        have hma : ∀ y ∈ aboveL rel c, y ∈ row := fun y hy => hrm y (above_ne hirr hc hy)
        -- last
        have hmx : ∀ (P' : Part) (u : Value) (O : List U), (RList ((((-1, 45) :: (underL rel c).map fun y => ((row.idxOf y : Int), y)).map liftN).map pairT)).h P' u → Gv PR w (A.deeper (envX "_law_due" (defScope (topStmt 16)) L 156 cd (cellsFrom (L + 1) (defScope (topStmt 16)).names []))) (call (.builtin "max") [u]) P' O (RTup [RInt (lastP rel c row).1, RStr (S [(lastP rel c row).2])]) := fun P' u O h => by
          have h2 := g_maxPairs (prog := PR) (w := w) (O := O) (x0 := liftN (-1, 45)) (L := ((underL rel c).map fun y => ((row.idxOf y : Int), y)).map liftN) hA'.none (by have := hA'.2.2; omega) h (by
            rw [← List.map_cons, List.map_map]
            show (List.map (fun p : Int × Nat => p.1) _).Nodup
            rw [List.map_cons]
            refine List.nodup_cons.mpr ⟨?_, idx_nodup (letters_nodup.filter _) hmu⟩
            intro q
            rw [List.map_map] at q
            obtain ⟨y, hy, e⟩ := List.mem_map.mp q
            have e : (row.idxOf y : Int) = -1 := e
            omega)
          rw [← List.map_cons, maxOf_lift] at h2
          exact h2
        refine x_local (R := RStr (S [(lastP rel c row).2])) (ev_sub_tup (i := 1) (rs := [RInt (lastP rel c row).1, RStr (S [(lastP rel c row).2])]) (ev_call (f := .builtin "max") (Rs := [RList ((((-1, 45) :: (underL rel c).map fun y => ((row.idxOf y : Int), y)).map liftN).map pairT)]) (ev_builtin B8 (by with_unfolding_all rfl) (by with_unfolding_all rfl) (by decide)) kept_builtin (evl_cons ?_ evl_nil) (fun P' vs l rs => ?_)) ev_int (by decide) (by decide) rfl) (fun _ => .tail (.tail (.tail (.tail .head)))) (fun _ => .tail (.tail .head)) (fun vla P9 l9 r9 => ?_)
        · have e : (((-1, 45) :: (underL rel c).map fun y => ((row.idxOf y : Int), y)).map liftN).map pairT = [pairT (liftN (-1, 45))] ++ ((underL rel c).filter fun _ => true).map fun y => pairT (liftN ((row.idxOf y : Int), y)) := by
            rw [filter_all, List.map_cons, List.map_cons, List.map_map, List.map_map]; rfl
          rw [e]
          refine ev_bin (ev_list (evl_cons (ev_tup (evl_cons (ev_neg ev_int) (evl_cons ev_S evl_nil)) (by rw [sizeLine_eq]; simp)) evl_nil) (by rw [sizeLine_eq]; simp)) (ev_compG (d := 0) (l := underL rel c) (RR := fun y => RStr (S [y])) (fun _ => true) (fun y => pairT (liftN ((row.idxOf y : Int), y))) (ev_local (by walk_at "mem") (by walk_at "has") ru8) (fun P' v l r => i_listG hA'.none r) (by rw [sizeLine_eq]; omega) (fun y vy P' u C D acc hy l r => tl_nil) (fun y vy P' u C D acc hy hk l r => ?_)) (fun P' a b l h1 h2 => g_add_list h1 h2 (by rw [filter_all, List.length_map, sizeLine_eq]; simp; omega))
          exact ev_tup (evl_cons (ev_idx hrn (hmu y hy) (ev_cell (by walk_at "mem") rrow) (ev_local (by walk_at "mem") (by walk_at "has") r)) (evl_cons (ev_local (by walk_at "mem") (by walk_at "has") r) evl_nil)) (by rw [sizeLine_eq]; simp)
        · obtain ⟨x, rfl, rx⟩ := Reps.one rs
          exact hmx P' x _ rx
        -- counts
        have hcnt : Good (5 + 625 * i + j + 1) (turnD rel c cs2 row) := turnD_inv gd2
        have lookC : (look (toS RInt cs2.1) (S ([(lastP rel c row).2] ++ [c]))).getD (RInt 0) = RInt ((lookK cs2.1 [(lastP rel c row).2, c]).getD 0) := by
          rw [show [(lastP rel c row).2] ++ [c] = [(lastP rel c row).2, c] from rfl, look_toS]; cases lookK cs2.1 [(lastP rel c row).2, c] <;> rfl
        refine x_setItem (R1 := RInt ((lookK cs2.1 [(lastP rel c row).2, c]).getD 0 + 1)) (R2 := RVal (.ref d1)) (R3 := RStr (S [(lastP rel c row).2, c])) (Ψ := fun P' O' => P9.le P' ∧ ∃ kc, Ents P' (toS RInt (countD rel c cs2.1 row)) kc ∧ O' = it2 :: it :: dictU PR w d2 ks :: dictU PR w d1 kc :: (frameU L DN [some v, some vun, some vla, fi] :: cellU (L+1+1+1+1+1+1+1) (old) :: cellU (L+1+1+1+1+1+1) (spot) :: cellU (L+1+1+1+1+1) (some vrow) :: cellU (L+1+1+1+1) (some (.ref d2)) :: cellU (L+1+1+1) (some vx) :: cellU (L+1+1) (some (.ref d1)) :: cellU (L+1) (some va) :: O))
          (ev_bin (ev_getO (d := d1) (kvs := kc) (ev_cell (by walk_at "mem") rfl) (ev_addS (ev_local (by walk_at "mem") (by walk_at "has") r9) (ev_cell (by walk_at "mem") (RTok.str (RTok.up rx8 l9))) (by simp)) ev_int (.tail _ (.tail _ (.tail _ (.head _)))) hd1 (enc.mono l9) lookC) ev_int (fun P' a b l h1 h2 => g_add_int h1 h2))
          (ev_cell (by walk_at "mem") rfl) (ev_addS (ev_local (by walk_at "mem") (by walk_at "has") r9) (ev_cell (by walk_at "mem") (RTok.str (RTok.up rx8 l9))) (by simp)) (fun P' z v1 u1 lz rz r1 r2 => ?_) ?_
        · obtain rfl : v1 = .ref d1 := r1
          refine o_setItem_dict (.tail (.tail (.tail .head))) r2 (by rw [enc.length, toS_length, sizeLine_eq]; omega) ⟨lz, _, ?_, rfl⟩
          have h1 := ((enc.mono l9).mono lz).put (k := S [(lastP rel c row).2, c]) rz
          rw [put_toS RInt] at h1
          exact h1
        rintro P10 O' l10 ⟨l10', kc2, enc2, rfl⟩
        have l810 := l9.trans l10
        have B10 := B8.up l810
        have rx10 := RTok.up rx8 l810
        have ra10 := (RRel PR w (aboveL rel)).mono _ _ _ l810 ra8
        have ens10 := ens.mono l810
        refine x_if (c := !(aboveL rel c).isEmpty) (Tst.of_eq (tst_cmp (R1 := RStr (S (aboveL rel c))) (R2 := RStr (S [])) (c := (S (aboveL rel c) != S [])) (ev_sub_rel (ev_cell (by walk_at "mem") ra10) (ev_cell (by walk_at "mem") (RTok.str rx10)) hc) ev_empty (fun P' a b l h1 h2 => g_ne_str h1 h2)) (by
          rw [Bool.eq_iff_iff]; simp [S_inj])) (fun hq P11 l11 => ?_) (fun hq P11 l11 => ?_)
        · have hne : aboveL rel c ≠ [] := by
            intro q; rw [q] at hq; cases hq
          have hne2 : (aboveL rel c).isEmpty = false := by simpa using hq
          have B11 := B10.up l11
          have rx11 := RTok.up rx10 l11
          have ra11 := (RRel PR w (aboveL rel)).mono _ _ _ l11 ra10
          have hmp : minP rel c row ∈ (aboveL rel c).map fun y => ((row.idxOf y : Int), y) := minN_mem (by simpa using hne)
          have hsp : 0 ≤ (minP rel c row).1 ∧ (minP rel c row).1 ≤ 4 := by
            obtain ⟨y, hy, e⟩ := List.mem_map.mp hmp
            rw [← e]
            have h1 : row.idxOf y ≤ row.length := List.idxOf_le_length
            refine ⟨Int.natCast_nonneg _, ?_⟩
            show (row.idxOf y : Int) ≤ 4
            omega
          refine x_unpack (R1 := RInt (minP rel c row).1) (R2 := RStr (S [(minP rel c row).2])) hA'.none (ev_call (f := .builtin "min") (Rs := [RList ((((aboveL rel c).map fun y => ((row.idxOf y : Int), y)).map liftN).map pairT)]) (ev_builtin B11 (by with_unfolding_all rfl) (by with_unfolding_all rfl) (by decide)) kept_builtin (evl_cons ?_ evl_nil) (fun P' vs l rs => ?_)) (fun vsp vfi P12 l12 rsp rfi => Do.assign_name (s_cell (.tail (.tail (.tail (.tail (.tail (.tail .head)))))) (Do.assign_name (s_local (.tail (.tail (.tail (.tail .head)))) (.tail (.tail (.tail .head))) ?_))))
          · have e : (((aboveL rel c).map fun y => ((row.idxOf y : Int), y)).map liftN).map pairT = ((aboveL rel c).filter fun _ => true).map fun y => pairT (liftN ((row.idxOf y : Int), y)) := by
              rw [filter_all, List.map_map, List.map_map]; rfl
            rw [e]
            refine ev_compS (l := aboveL rel c) (fun _ => true) (fun y => pairT (liftN ((row.idxOf y : Int), y))) hA'.none (ev_sub_rel (ev_cell (by walk_at "mem") ra11) (ev_cell (by walk_at "mem") (RTok.str rx11)) hc) (fun y hy => letters_lt y (List.mem_filter.mp hy).1) B11.2 (by rw [sizeLine_eq]; omega) (fun y vy P' u C D acc hy l r => tl_nil) (fun y vy P' u C D acc hy hk l r => ?_)
            exact ev_tup (evl_cons (ev_idx hrn (hma y hy) (ev_cell (by walk_at "mem") rrow) (ev_local (by walk_at "mem") (by walk_at "has") (RTok.str r))) (evl_cons (ev_local (by walk_at "mem") (by walk_at "has") (RTok.str r)) evl_nil)) (by rw [sizeLine_eq]; simp)
          · obtain ⟨x, rfl, rx⟩ := Reps.one rs
            exact g_minN hA'.none (by have := hA'.2.2; omega) (by simpa using hne) rx (idx_nodup (letters_nodup.filter _) hma)
          have lookS : (look (toS RSp cs2.2) (S ([c] ++ [(minP rel c row).2]))).getD (RTup [RInt 0, RInt 0, RInt 0]) = RSp ((lookK cs2.2 [c, (minP rel c row).2]).getD [0, 0, 0]) := by
            rw [show [c] ++ [(minP rel c row).2] = [c, (minP rel c row).2] from rfl, look_toS]; cases lookK cs2.2 [c, (minP rel c row).2] <;> rfl
          have hol : ((lookK cs2.2 [c, (minP rel c row).2]).getD [0, 0, 0]).length = 3 := by
            cases q : lookK cs2.2 [c, (minP rel c row).2] with
            | none => rfl
            | some o => exact gd3 _ (lookK_mem q)
          have rx12 := RTok.up rx11 l12
          refine x_cell (R := RSp ((lookK cs2.2 [c, (minP rel c row).2]).getD [0, 0, 0])) (ev_getO (d := d2) (kvs := ks) (ev_cell (by walk_at "mem") rfl) (ev_addS (ev_cell (by walk_at "mem") (RTok.str rx12)) (ev_local (by walk_at "mem") (by walk_at "has") rfi) (by simp)) (ev_tup (Rs := [RInt 0, RInt 0, RInt 0]) (evl_cons ev_int (evl_cons ev_int (evl_cons ev_int evl_nil))) (by rw [sizeLine_eq]; simp)) (.tail _ (.tail _ (.head _))) hd2 ((ens10.mono l11).mono l12) lookS) (fun _ => .tail (.tail (.tail (.tail (.tail .head))))) (fun vold P13 l13 rold => ?_)
          have B13 := (B11.up l12).up l13
          have hspE : spotD rel c cs2.2 row = putK cs2.2 [c, (minP rel c row).2] (addP ((lookK cs2.2 [c, (minP rel c row).2]).getD [0, 0, 0]) (minP rel c row).1) := rfl
          generalize hmm : minP rel c row = mp at rsp rfi hsp hol rold hspE
          generalize hoo : (lookK cs2.2 [c, mp.2]).getD [0, 0, 0] = oldl at hol rold hspE
          refine x_setItem (R1 := RSp (addP oldl mp.1)) (R2 := RVal (.ref d2)) (R3 := RStr (S [c, mp.2])) (Ψ := fun P' O' => P13.le P' ∧ ∃ ks, Ents P' (toS RSp (spotD rel c cs2.2 row)) ks ∧ O' = it2 :: it :: dictU PR w d2 ks :: dictU PR w d1 kc2 :: (frameU L DN [some v, some vun, some vla, some vfi] :: cellU (L+1+1+1+1+1+1+1) (some vold) :: cellU (L+1+1+1+1+1+1) (some vsp) :: cellU (L+1+1+1+1+1) (some vrow) :: cellU (L+1+1+1+1) (some (.ref d2)) :: cellU (L+1+1+1) (some vx) :: cellU (L+1+1) (some (.ref d1)) :: cellU (L+1) (some va) :: O))
            (ev_call (f := .type "tuple") (Rs := [RList ((addP oldl mp.1).map RInt)]) (ev_builtin B13 (by with_unfolding_all rfl) (by with_unfolding_all rfl) (by decide)) kept_type (evl_cons ?_ evl_nil) (fun P' vs l rs => ?_))
            (ev_cell (by walk_at "mem") rfl) (ev_addS (ev_cell (by walk_at "mem") (RTok.str (RTok.up rx12 l13))) (ev_local (by walk_at "mem") (by walk_at "has") ((RStr _).mono _ _ _ l13 rfi)) (by simp)) (fun P' z v1 u1 lz rz r1 r2 => ?_) ?_
          · have e : (addP oldl mp.1).map RInt = ((List.range 3).filter fun _ => true).map fun k : Nat => RInt (oldl.getD k 0 + (mp.1 + 1) ^ (k + 1)) := by
              rw [filter_all]; rfl
            rw [e]
            refine ev_compG (d := 0) (R1 := RRange 0 3) (l := List.range 3) (RR := fun k : Nat => RInt (k : Int)) (fun _ => true) (fun k : Nat => RInt (oldl.getD k 0 + (mp.1 + 1) ^ (k + 1))) (ev_call (f := .type "range") (Rs := [RInt 3]) (ev_builtin B13 (by with_unfolding_all rfl) (by with_unfolding_all rfl) (by decide)) kept_type (evl_cons ev_int evl_nil) (fun P' vs l rs => ?_)) (fun P' v' l r => ?_) (by rw [sizeLine_eq]; simp) (fun k vk P' u C D acc hk l r => tl_nil) (fun k vk P' u C D acc hk _ l r => ?_)
            · obtain ⟨x, rfl, rx⟩ := Reps.one rs
              exact g_range1 rx
            · refine IterOf.items (i_range (n := 3) hA'.none r (by decide) (by decide)) (fun i hi => ?_)
              have hi' : i < 3 := hi
              show RInt (0 + (i : Int)) = RInt (((List.range 3).getD i 0 : Nat) : Int)
              have : (List.range 3).getD i 0 = i := by simp [hi']
              rw [this, Int.zero_add]
            · have hk3 : k < 3 := by simpa using hk
              have hget : oldl.getD k 0 + (mp.1 + 1) ^ (k + 1) = oldl.getD k 0 + (mp.1 + 1) ^ ((k : Int) + 1).toNat := by
                rw [show ((k : Int) + 1).toNat = k + 1 by omega]
              rw [hget]
              refine ev_bin (ev_sub_tup (i := (k : Int)) (rs := oldl.map RInt) (R := RInt (oldl.getD k 0)) (ev_cell (by walk_at "mem") ((RSp oldl).mono _ _ _ l rold)) (ev_local (by walk_at "mem") (by walk_at "has") r) (by omega) (by omega) (by
                have : k < oldl.length := by omega
                simp [this])) (ev_bin (ev_bin (ev_cell (by walk_at "mem") ((RInt mp.1).mono _ _ _ (l13.trans l) rsp)) ev_int (fun P' a b l h1 h2 => g_add_int h1 h2)) (ev_bin (ev_local (by walk_at "mem") (by walk_at "has") r) ev_int (fun P' a b l h1 h2 => g_add_int h1 h2)) (fun P' a b l h1 h2 => g_pow_int h1 h2 (by omega) (by omega) (by omega))) (fun P' a b l h1 h2 => g_add_int h1 h2)
          · obtain ⟨x, rfl, rx⟩ := Reps.one rs
            exact g_tuple_list rx (by rw [List.length_map, addP_len, sizeLine_eq]; omega)
          · obtain rfl : v1 = .ref d2 := r1
            refine o_setItem_dict (.tail (.tail .head)) r2 (by rw [ens.length, toS_length, sizeLine_eq]; omega) ⟨lz, _, ?_, rfl⟩
            have h1 := ((((ens10.mono l11).mono l12).mono l13).mono lz).put (k := S [c, mp.2]) rz
            rw [put_toS RSp, ← hspE] at h1
            exact h1
          rintro P14 O' l14 ⟨l14', ks3, ens3, rfl⟩
          refine x_nil (x_nil ⟨_, rfl, kc2, ks3, some vla, some vfi, some vold, some vsp, some vrow, rfl, enc2.mono (((l11.trans l12).trans l13).trans l14), ?_, hcnt⟩)
          show Ents P14 (toS RSp (if (aboveL rel c).isEmpty = true then cs2.2 else spotD rel c cs2.2 row)) ks3
          rw [if_neg (by rw [hne2]; decide)]; exact ens3
        · have hem : (aboveL rel c).isEmpty = true := by simpa using hq
          refine x_nil (x_nil ⟨_, rfl, kc2, ks, some vla, fi, old, spot, some vrow, rfl, enc2.mono l11, ?_, hcnt⟩)
          show Ents P11 (toS RSp (if (aboveL rel c).isEmpty = true then cs2.2 else spotD rel c cs2.2 row)) ks
          rw [if_pos hem]; exact ens10.mono l11
      · rintro P7 P8 O' l7 l8 ⟨kc, ks, la, fi, old, spot, row, rfl, enc, ens, gd⟩
        rw [List.take_length] at enc ens gd
        refine x_nil (x_nil ⟨_, rfl, kc, ks, some vun, la, fi, old, spot, row, some vx, rfl, enc.mono l8, ens.mono l8, ?_⟩)
        refine ⟨gd.1, gd.2.1, Nat.le_trans gd.2.2.1 (by omega), Nat.le_trans gd.2.2.2 (by omega)⟩
    · rintro P4 P5 O' l4 l5 ⟨kc, ks, un, la, fi, old, spot, row, x, rfl, enc, ens, gd⟩
      have e5 : (letters.take 5).foldl (rowsD rel) ([], spots0) = duesL rel := rfl
      rw [e5] at enc ens gd
      have hf := (Bool.and_eq_true _ _).mp hfit
      have hf1 := of_decide_eq_true hf.1
      have hf2 := List.all_eq_true.mp hf.2
      have edue : dueL rel = dueOf (duesL rel) := rfl
      rw [edue]
      generalize duesL rel = cs at enc ens gd hf1 hf2 ⊢
      clear e5 edue hf hfit
      refine x_nil ?_
      refine o_freezeDict (O' := dictU PR w d1 kc :: (frameU L DN [some v, un, la, fi] :: cellU (L+1+1+1+1+1+1+1) (old) :: cellU (L+1+1+1+1+1+1) (spot) :: cellU (L+1+1+1+1+1) (row) :: cellU (L+1+1+1+1) (some (.ref d2)) :: cellU (L+1+1+1) (x) :: cellU (L+1+1) (some (.ref d1)) :: cellU (L+1) (some va) :: O)) ⟨_, .refl _, rfl⟩ hd2 (ens.mono l5) (fun P6 l6 rs6 => ?_)
      refine o_freezeDict (O' := (frameU L DN [some v, un, la, fi] :: cellU (L+1+1+1+1+1+1+1) (old) :: cellU (L+1+1+1+1+1+1) (spot) :: cellU (L+1+1+1+1+1) (row) :: cellU (L+1+1+1+1) (some (.ref d2)) :: cellU (L+1+1+1) (x) :: cellU (L+1+1) (some (.ref d1)) :: cellU (L+1) (some va) :: O)) ⟨_, .refl _, rfl⟩ hd1 ((enc.mono l5).mono l6) (fun P7 l7 rc7 => ?_)
      replace rs6 := (RDict PR w _).mono _ _ _ l7 rs6
      have B7 := (B3.up ((l4.trans l5).trans l6)).up l7
      refine x_retEv (R := RST w (dueOf cs)) (ev_call (f := .type "dict") (Rs := [RList (pairsR (toS RSp (dueOf cs)))]) (ev_builtin B7 (by with_unfolding_all rfl) (by with_unfolding_all rfl) (by decide)) kept_type (evl_cons ?_ evl_nil) (fun P' vs l rs => ?_)) (fun P8 z l8 r8 => ⟨[_, _, _, _, _, _, _, _], O, rfl, rfl, r8⟩)
      · have e : pairsR (toS RSp (dueOf cs)) = (cs.1.filter fun _ => true).map fun kv => RTup [RStr (S kv.1), RTup ([RInt kv.2] ++ ((lookK cs.2 kv.1).getD []).map RInt)] := by
          rw [filter_all]; simp only [pairsR, toS, dueOf, List.map_map]; rfl
        rw [e]
        refine ev_compG (d := ([], 0)) (R1 := RDict PR w (toS RInt cs.1)) (l := cs.1) (RR := fun kv => RStr (S kv.1)) (fun _ => true) _ (ev_cell (by walk_at "mem") rc7) (fun P' v' l r => ?_) (by rw [sizeLine_eq]; omega) (fun kv vk P' u C D acc hk l r => tl_nil) (fun kv vk P' u C D acc hk _ l r => ?_)
        · exact i_keysG RInt hA'.none r
        · have h1 : look (toS RInt cs.1) (S kv.1) = some (RInt kv.2) := by rw [look_toS, lookK_of_mem gd.2.1 hk]; rfl
          have h2 := hf2 kv hk
          obtain ⟨o, ho⟩ := Option.isSome_iff_exists.mp h2
          have h3 : look (toS RSp cs.2) (S kv.1) = some (RTup (((lookK cs.2 kv.1).getD []).map RInt)) := by rw [look_toS, ho]; rfl
          have h4 : ((lookK cs.2 kv.1).getD []).length = 3 := by rw [ho]; exact gd.1 _ (lookK_mem ho)
          refine ev_tup (evl_cons (ev_local (by walk_at "mem") (by walk_at "has") r) (evl_cons (ev_bin (ev_tup (evl_cons (ev_sub_dict (ev_cell (by walk_at "mem") ((RDict PR w _).mono _ _ _ l rc7)) (ev_local (by walk_at "mem") (by walk_at "has") r) h1) evl_nil) (by rw [sizeLine_eq]; simp)) (ev_sub_dict (ev_cell (by walk_at "mem") ((RDict PR w _).mono _ _ _ l rs6)) (ev_local (by walk_at "mem") (by walk_at "has") r) h3) (fun P' a b l h1 h2 => g_add_tup h1 h2 (by simp) (by rw [List.length_map, h4]; decide) (by rw [List.length_map, h4, sizeLine_eq]; simp))) evl_nil)) (by rw [sizeLine_eq]; simp)
      · obtain ⟨x, rfl, rx⟩ := Reps.one rs
        refine g_dictOf hA'.none rx (by rw [toS_length]; simpa [dueOf] using hf1) ?_
        have e : (toS RSp (dueOf cs)).map (·.1) = (cs.1.map (·.1)).map S := by simp only [toS, dueOf, List.map_map]; rfl
        rw [e]
        exact List.pairwise_map.mpr (gd.2.1.imp fun hne q => hne (S_inj.mp q))
end
end

section
/-- the walk of an order, and the book of all walks -/
noncomputable def walkStep (ab : Nat → List Nat) (order : List Nat) (st : Nat × ST) (x : Nat) : Nat × ST :=
  if (decide (st.1 = 45) || decide (x ∈ ab st.1)) = true then (x, putK st.2 [st.1, x] [1, (order.idxOf x : Int), (order.idxOf x : Int) ^ 2, (order.idxOf x : Int) ^ 3]) else st
noncomputable def walkK (ab : Nat → List Nat) (order : List Nat) : ST := (order.foldl (walkStep ab order) (45, [])).2
noncomputable def addK1 (acc : ST) (kv : List Nat × List Int) : ST := match lookK acc kv.1 with
  | some old => putK acc kv.1 (List.zipWith (· + ·) kv.2 old)
  | none => putK acc kv.1 kv.2
noncomputable def addK (t s : ST) : ST := s.foldl addK1 t
noncomputable def bookK (rel : Nat → List Nat) (os : List (List Nat)) : ST := os.foldl (fun b o => addK b (walkK (aboveL rel) o)) []
noncomputable def toSB (l : ST) : Book := toS id l
theorem addOne_toSB (acc : ST) (kv : List Nat × List Int) : addOne (toSB acc) (S kv.1, kv.2) = toSB (addK1 acc kv) := by
  unfold addOne addK1 toSB
  show (match look (toS id acc) (S kv.1) with | some old => _ | none => _) = _
  rw [look_toS]
  cases lookK acc kv.1 with
  | none => exact put_toS id acc kv.1 kv.2
  | some old => exact put_toS id acc kv.1 _
theorem addL_toSB : ∀ (s t : ST), addL (toSB t) (toSB s) = toSB (addK t s)
  | [], _ => rfl
  | kv :: s, t => by
    show addL (addOne (toSB t) (S kv.1, kv.2)) (toSB s) = _
    rw [addOne_toSB, addL_toSB s (addK1 t kv)]; rfl
theorem bookR_toSB (l : ST) : bookR (toSB l) = toS (fun l : List Int => RTup (l.map RInt)) l := by
  unfold bookR toSB toS; rw [List.map_map]; rfl
/-- what holds of all books -/
noncomputable def FourK (l : ST) : Prop := ∀ kv ∈ l, kv.2.length = 4
noncomputable def KeyK (kv : List Nat × List Int) : Prop := ∃ h ∈ 45 :: letters, ∃ c ∈ letters, kv.1 = [h, c]
structure BookOk (l : ST) : Prop where
  four : FourK l
  nd : (l.map (·.1)).Nodup
  keys : ∀ kv ∈ l, KeyK kv
theorem BookOk.nil : BookOk [] := ⟨(fun _ h => nomatch h), List.Pairwise.nil, (fun _ h => nomatch h)⟩
theorem putK_mem {α : Type} {l : List (List Nat × α)} {k : List Nat} {a : α} {kv : List Nat × α} (h : kv ∈ putK l k a) : kv = (k, a) ∨ (kv.1 = k ∧ kv.2 = a) ∨ kv ∈ l := by
  unfold putK at h
  split at h
  · obtain ⟨x, hx, e⟩ := List.mem_map.mp h
    split at e
    · rename_i q
      exact .inr (.inl (by rw [← e]; exact ⟨q, rfl⟩))
    · exact .inr (.inr (e ▸ hx))
  · rcases List.mem_append.mp h with h | h
    · exact .inr (.inr h)
    · exact .inl (List.mem_singleton.mp h)
theorem BookOk.put {l : ST} {h c : Nat} {a : List Int} (x : BookOk l) (ha : a.length = 4) (hh : h ∈ 45 :: letters) (hc : c ∈ letters) : BookOk (putK l [h, c] a) :=
  ⟨putK_all (p := fun l : List Int => l.length = 4) x.four ha, putK_keys x.nd, fun kv hkv => by
    rcases putK_mem hkv with e | e | e
    · rw [e]; exact ⟨h, hh, c, hc, rfl⟩
    · exact ⟨h, hh, c, hc, e.1⟩
    · exact x.keys kv e⟩
theorem walk_ok {ab : Nat → List Nat} {order : List Nat} : ∀ (l : List Nat) (st : Nat × ST), (∀ c ∈ l, c ∈ letters) → st.1 ∈ 45 :: letters → BookOk st.2 → BookOk (l.foldl (walkStep ab order) st).2
  | [], _, _, _, h => h
  | c :: l, st, hl, hs, h => by
    rw [List.foldl_cons]
    have hc := hl c (.head _)
    unfold walkStep
    split
    · exact walk_ok l _ (fun c h => hl c (.tail _ h)) (.tail _ hc) (h.put rfl hs hc)
    · exact walk_ok l _ (fun c h => hl c (.tail _ h)) hs h
theorem walkK_ok {ab : Nat → List Nat} {order : List Nat} (ho : ∀ c ∈ order, c ∈ letters) : BookOk (walkK ab order) := walk_ok order _ ho (.head _) .nil
theorem addK1_ok {acc : ST} {kv : List Nat × List Int} (x : BookOk acc) (h4 : kv.2.length = 4) (hk : KeyK kv) : BookOk (addK1 acc kv) := by
  obtain ⟨h, hh, c, hc, e⟩ := hk
  unfold addK1
  rw [e]
  split
  · rename_i old e2
    have := x.four _ (lookK_mem e2)
    exact x.put (by simp at this; simp [h4, this]) hh hc
  · exact x.put h4 hh hc
theorem addK_ok : ∀ {s t : ST}, BookOk t → BookOk s → BookOk (addK t s)
  | [], _, x, _ => x
  | kv :: s, t, x, y => by
    show BookOk (addK (addK1 t kv) s)
    exact addK_ok (addK1_ok x (y.four kv (.head _)) (y.keys kv (.head _))) ⟨fun q h => y.four q (.tail _ h), (List.nodup_cons.mp y.nd).2, fun q h => y.keys q (.tail _ h)⟩
theorem books_ok {rel : Nat → List Nat} : ∀ (os : List (List Nat)) (b : ST), (∀ o ∈ os, ∀ c ∈ o, c ∈ letters) → BookOk b → BookOk (os.foldl (fun b o => addK b (walkK (aboveL rel) o)) b)
  | [], _, _, x => x
  | o :: os, b, ho, x => by
    rw [List.foldl_cons]
    exact books_ok os _ (fun q h => ho q (.tail _ h)) (addK_ok x (walkK_ok (ho o (.head _))))
theorem bookK_ok {rel : Nat → List Nat} {os : List (List Nat)} (ho : ∀ o ∈ os, ∀ c ∈ o, c ∈ letters) : BookOk (bookK rel os) := books_ok os [] ho .nil
theorem nodup_len {α : Type} [DecidableEq α] : ∀ {l m : List α}, l.Nodup → (∀ x ∈ l, x ∈ m) → l.length ≤ m.length
  | [], _, _, _ => Nat.zero_le _
  | a :: l, m, hn, hs => by
    have h1 := List.nodup_cons.mp hn
    have ha := hs a (.head _)
    have ih := nodup_len (m := m.erase a) h1.2 fun y hy => (List.mem_erase_of_ne (a := y) (b := a) (l := m) (fun e => h1.1 (by rw [← e]; exact hy))).mpr (hs y (.tail _ hy))
    have := List.length_erase_of_mem ha
    have : 0 < m.length := List.length_pos_of_mem ha
    simp only [List.length_cons]; omega
theorem BookOk.len {l : ST} (x : BookOk l) : l.length ≤ 30 := by
  have h := nodup_len (m := (45 :: letters).flatMap fun h => letters.map fun c => [h, c]) x.nd (fun k hk => by
    obtain ⟨kv, hkv, rfl⟩ := List.mem_map.mp hk
    obtain ⟨h, hh, c, hc, e⟩ := x.keys kv hkv
    rw [e]
    exact List.mem_flatMap.mpr ⟨h, hh, List.mem_map.mpr ⟨c, hc, rfl⟩⟩)
  rw [List.length_map] at h
  exact h
theorem toSB_four {l : ST} (x : BookOk l) : Four (toSB l) := fun kv hkv => by
  obtain ⟨q, hq, rfl⟩ := List.mem_map.mp hkv
  exact x.four q hq
theorem toSB_keys {l : ST} (x : BookOk l) : ((toSB l).map (·.1)).Nodup := by
  have e : (toSB l).map (·.1) = (l.map (·.1)).map S := by simp only [toSB, toS, List.map_map]; rfl
  rw [e]
  exact List.pairwise_map.mpr (x.nd.imp fun hne q => hne (S_inj.mp q))
theorem toSB_len (l : ST) : (toSB l).length = l.length := toS_length id l

/-- the firsts of a table's steps to one lead, and what they are together -/
noncomputable def firstsK (l : ST) (c : Nat) : List (List Nat × Int) := (l.filter fun kv => decide (kv.1.getD 1 0 = c)).map fun kv => (kv.1, kv.2.getD 0 0)
noncomputable def firstsN (l : ST) (c : Nat) : List Int := (l.filter fun kv => decide (kv.1.getD 1 0 = c)).map fun kv => kv.2.getD 0 0
noncomputable def sumF (l : ST) (c : Nat) : Int := (firstsK l c).foldl (fun a kv => a + kv.2) 0
noncomputable def sumD (l : ST) (c : Nat) : Int := (firstsN l c).foldl (· + ·) 0
/-- what is to be shown of an order of the leads: all by reckoning -/
noncomputable def sameK (a b : ST) : Bool := decide (a.length = b.length) && a.all fun kv => decide (lookK b kv.1 = some kv.2)
noncomputable def tabOk (l : ST) : Bool := l.all fun kv => decide (kv.1.length = 2) && decide (kv.2.length = 4) && decide (0 ≤ kv.2.getD 0 0) && decide (kv.2.getD 0 0 ≤ 100000) && decide (lookK l kv.1 = some kv.2)
noncomputable def okTabs (bk : ST) (du : ST) : Bool := sameK bk du && tabOk du && letters.all fun c => decide (sumF bk c = sumD du c)
noncomputable def okRel (rel : Nat → List Nat) : Bool := dueFits (duesL rel) && okTabs (bookK rel (ordersL rel letters)) (dueL rel)
end

section
theorem at_law (w : World) : FnAt (KF w) 161 "law" (defArgs (topStmt 17)) (defBody (topStmt 17)) (defScope (topStmt 17)) :=
  ⟨_, _, _, _, _, _, _, _, _, by with_unfolding_all rfl, by with_unfolding_all rfl⟩
theorem gl_leads (w : World) : nsIn (KF w) mainGlobals ("_law_leads" : Str) = some (some (.ref 134)) := by with_unfolding_all rfl
theorem gl_columns (w : World) : nsIn (KF w) mainGlobals ("_law_columns" : Str) = some (some (.ref 141)) := by with_unfolding_all rfl
theorem gl_ws (w : World) : nsIn (KF w) mainGlobals ("Whitespace" : Str) = some (some (.ref 83)) := by with_unfolding_all rfl
theorem gl_contains (w : World) : nsIn (KF w) mainGlobals ("contains" : Str) = some (some (.ref 94)) := by with_unfolding_all rfl
theorem gl_indexOf (w : World) : nsIn (KF w) mainGlobals ("indexOf" : Str) = some (some (.ref 108)) := by with_unfolding_all rfl
theorem gl_setitem (w : World) : nsIn (KF w) mainGlobals ("setitem" : Str) = some (some (.ref 115)) := by with_unfolding_all rfl
theorem gl_getitem (w : World) : nsIn (KF w) mainGlobals ("getitem" : Str) = some (some (.ref 101)) := by with_unfolding_all rfl
theorem gl_add (w : World) : nsIn (KF w) mainGlobals ("add_callers" : Str) = some (some (.ref 122)) := by with_unfolding_all rfl
theorem gl_count (w : World) : nsIn (KF w) mainGlobals ("count_calls" : Str) = some (some (.ref 129)) := by with_unfolding_all rfl
theorem gl_due (w : World) : nsIn (KF w) mainGlobals ("_law_due" : Str) = some (some (.ref 156)) := by with_unfolding_all rfl
theorem keep_ws (w : World) : keepIn (KF w) (.ref 83) = true := by with_unfolding_all rfl
theorem keep_add (w : World) : keepIn (KF w) (.ref 122) = true := by with_unfolding_all rfl

noncomputable abbrev LN : List Str := ["script", "leads", "whites", "told", "below", "way", "above", "nothing", "order", "walk", "here", "spot", "firsts"]
theorem Reps.three {P : Part} {R R2 R3 : Rep} : ∀ {vs : List Value}, Reps P [R, R2, R3] vs → ∃ x y z, vs = [x, y, z] ∧ R.h P x ∧ R2.h P y ∧ R3.h P z
  | [x, y, z], ⟨h, h2, h3, _⟩ => ⟨x, y, z, rfl, h, h2, h3⟩
section
variable {w : World} {A : Around} {env : Env} {P : Part} {O O' : List U} {v u z : Value} {R : Rep} {K : Frag}
theorem law_rest {rel : Nat → List Nat} {L : Addr} {cd : Value} {v vl : Value} {dw dt db dc : Addr} (B13 : Bg (KF w) P)
    (hA' : Fit 29 (A.deeper (envX "law" (defScope (topStmt 17)) L 161 cd (cellsFrom (L + 1) (defScope (topStmt 17)).names [])))) (hT : tabU 117 ∈ O)
    (hirr : ∀ c ∈ letters, c ∉ rel c) (hRs : ∀ c ∈ letters, ∀ y ∈ rel c, y ∈ letters) (hRl : ∀ c ∈ letters, (rel c).length ≤ 5) (hokr : okRel rel = true)
    (rt : (RRel PR w rel).h P (.ref dt)) (rb : (RRel PR w rel).h P (.ref db)) {wy y x : Option Value} :
    Do PR w (A.deeper (envX "law" (defScope (topStmt 17)) L 161 cd (cellsFrom (L + 1) (defScope (topStmt 17)).names []))) (execs ((defBody (topStmt 17)).drop 7) (envX "law" (defScope (topStmt 17)) L 161 cd (cellsFrom (L + 1) (defScope (topStmt 17)).names []))) P
      (frameU L LN [some v, some vl, some (.ref dw), some (.ref dt), some (.ref db), wy, none, none, none, none, none, none, none] :: cellU (L+1+1+1+1+1) none :: cellU (L+1+1+1+1) none :: cellU (L+1+1+1) (y) :: cellU (L+1+1) (x) :: cellU (L+1) (some (.ref dc)) :: O) (FnEnd (fun r P' O' => O' = O ∧ (RBool true).h P' r)) := by
  refine x_local (R := RRel PR w (aboveL rel)) (ev_call (f := .ref 146) (Rs := [RRel PR w rel]) (ev_global B13 (gl_above w)) (kept_at (at_above w) B13) (evl_cons (ev_local (by walk_at "mem") (by walk_at "has") rt) evl_nil) (fun P' vs l rs => ?_)) (fun _ => .head) (fun _ => .tail (.tail (.tail (.tail (.tail (.tail .head)))))) (fun va P14 l14 ra => ?_)
  · obtain ⟨q, rfl, rq⟩ := Reps.one rs
    have h := above_spec rel hRs hRl (B13.up l) (hA'.less (by decide)) rq (O := (frameU L LN [some v, some vl, some (.ref dw), some (.ref dt), some (.ref db), wy, none, none, none, none, none, none, none] :: cellU (L+1+1+1+1+1) none :: cellU (L+1+1+1+1) none :: cellU (L+1+1+1) (y) :: cellU (L+1+1) (x) :: cellU (L+1) (some (.ref dc)) :: O))
    exact h
  refine x_newDict (fun d => .head) (fun d => .tail (.tail (.tail (.tail (.tail (.tail (.tail .head))))))) (fun dn P15 l15 hdn => ?_)
  have l1315 := l14.trans l15
  have B15 := B13.up l1315
  refine o_freezeDict (O' := (frameU L LN [some v, some vl, some (.ref dw), some (.ref dt), some (.ref db), wy, some va, some (.ref dn), none, none, none, none, none] :: cellU (L+1+1+1+1+1) none :: cellU (L+1+1+1+1) none :: cellU (L+1+1+1) (y) :: cellU (L+1+1) (x) :: cellU (L+1) (some (.ref dc)) :: O)) ⟨_, .refl _, rfl⟩ hdn Ents.nil (fun P16 l16 rn => ?_)
  have l1316 := l1315.trans l16
  have B16 := B13.up l1316
  have rt16 := (RRel PR w rel).mono _ _ _ l1316 rt
  have rb16 := (RRel PR w rel).mono _ _ _ l1316 rb
  have ra16 := (RRel PR w (aboveL rel)).mono _ _ _ (l15.trans l16) ra
  replace rn : (RBook w []).h P16 (.ref dn) := rn
  refine x_cell (R := RVal (.ref dn)) (ev_local (by walk_at "mem") (by walk_at "has") rfl) (fun _ => .tail (.tail .head)) (fun vb P17 l17 rvb => ?_)
  obtain rfl : vb = .ref dn := rvb
  have B17 := B16.up l17
  have rt17 := (RRel PR w rel).mono _ _ _ l17 rt16
  have rb17 := (RRel PR w rel).mono _ _ _ l17 rb16
  have ra17 := (RRel PR w (aboveL rel)).mono _ _ _ l17 ra16
  have rn17 := (RBook w []).mono _ _ _ l17 rn
  refine x_for (R1 := RTexts (ordersL rel letters)) (n := (ordersL rel letters).length) (item := fun j => RStr (S ((ordersL rel letters).getD j []))) (fun j P' O' => ∃ od wk he sp vb y x, O' = (frameU L LN [some v, some vl, some (.ref dw), some (.ref dt), some (.ref db), wy, some va, some (.ref dn), od, wk, he, sp, none] :: cellU (L+1+1+1+1+1) none :: cellU (L+1+1+1+1) (some vb) :: cellU (L+1+1+1) (y) :: cellU (L+1+1) (x) :: cellU (L+1) (some (.ref dc)) :: O) ∧ (RBook w (toSB (bookK rel ((ordersL rel letters).take j)))).h P' vb)
    (ev_call (f := .ref 151) (Rs := [RStr (S letters), RRel PR w rel]) (ev_global B17 (gl_orders w)) (kept_at (at_orders w) B17) (evl_cons ev_abcde (evl_cons (ev_local (by walk_at "mem") (by walk_at "has") rt17) evl_nil)) (fun P' vs l rs => ?_))
    (fun P' v' l r => i_texts hA'.none r) (fun P' l => ⟨none, none, none, none, .ref dn, y, x, rfl, (RBook w []).mono _ _ _ l rn17⟩) ?_ ?_
  · obtain ⟨a, b, rfl, rx1, rx2⟩ := Reps.two rs
    have h := orders_spec (mem := letters) (B17.up l) (hA'.less (by decide)) hRs hRl (fun y hy => hy) (by decide) rx1 rx2 (O := (frameU L LN [some v, some vl, some (.ref dw), some (.ref dt), some (.ref db), wy, some va, some (.ref dn), none, none, none, none, none] :: cellU (L+1+1+1+1+1) none :: cellU (L+1+1+1+1) (some (.ref dn)) :: cellU (L+1+1+1) (y) :: cellU (L+1+1) (x) :: cellU (L+1) (some (.ref dc)) :: O))
    exact h
  · rintro j it P18 P19 O' vo hj l18 l19 ⟨od, wk, he, sp, vb, y, x, rfl, rbk⟩ ro
    refine Do.assign_name (s_local (.tail .head) (.tail (.tail (.tail (.tail (.tail (.tail (.tail (.tail .head)))))))) ?_)
    have ho := ordersL_has (getD_memG (d := []) hj)
    have hbs : bookK rel ((ordersL rel letters).take (j + 1)) = addK (bookK rel ((ordersL rel letters).take j)) (walkK (aboveL rel) ((ordersL rel letters).getD j [])) := foldl_succ (fun b o => addK b (walkK (aboveL rel) o)) [] [] hj
    rw [hbs]
    have hbok := bookK_ok (rel := rel) (os := (ordersL rel letters).take j) (fun o h => (ordersL_has (List.mem_of_mem_take h)).2.2.1)
    generalize (ordersL rel letters).getD j [] = order at ro ho ⊢
    generalize bookK rel ((ordersL rel letters).take j) = bk at rbk hbok ⊢
    refine x_abs (fun Ψe hΨ => ?_)
    have l1719 := l18.trans l19
    have B19 := B17.up l1719
    have ra19 := (RRel PR w (aboveL rel)).mono _ _ _ l1719 ra17
    replace rbk := (RBook w _).mono _ _ _ l19 rbk
    refine x_newDict (fun d => .tail .head) (fun d => .tail (.tail (.tail (.tail (.tail (.tail (.tail (.tail (.tail .head))))))))) (fun dk P20 l20 hdk => ?_)
    refine x_local (R := RStr (S [45])) ev_S (fun _ => .tail (.tail .head)) (fun _ => .tail (.tail (.tail (.tail (.tail (.tail (.tail (.tail (.tail (.tail .head)))))))))) (fun vh0 P21 l21 rh0 => ?_)
    have l1921 := l20.trans l21
    have B21 := B19.up l1921
    have ro21 := (RStr (S order)).mono _ _ _ l1921 ro
    have ra21 := (RRel PR w (aboveL rel)).mono _ _ _ l1921 ra19
    have rbk21 := (RBook w _).mono _ _ _ l1921 rbk
    refine x_for (R1 := RStr (S order)) (n := order.length) (item := fun i => RTok (S [order.getD i 0])) (fun k P' O' => ∃ kk he sp x, O' = dictU PR w dk kk :: it :: (frameU L LN [some v, some vl, some (.ref dw), some (.ref dt), some (.ref db), wy, some va, some (.ref dn), some vo, some (.ref dk), some he, sp, none] :: cellU (L+1+1+1+1+1) none :: cellU (L+1+1+1+1) (some vb) :: cellU (L+1+1+1) (y) :: cellU (L+1+1) (x) :: cellU (L+1) (some (.ref dc)) :: O) ∧ Ents P' (bookR (toSB ((order.take k).foldl (walkStep (aboveL rel) order) (45, [])).2)) kk ∧ (RStr (S [((order.take k).foldl (walkStep (aboveL rel) order) (45, [])).1])).h P' he ∧ (((order.take k).foldl (walkStep (aboveL rel) order) (45, [])).1 = 45 ∨ ((order.take k).foldl (walkStep (aboveL rel) order) (45, [])).1 ∈ letters) ∧ ((order.take k).foldl (walkStep (aboveL rel) order) (45, [])).2.length ≤ k)
      (ev_local (by walk_at "mem") (by walk_at "has") ro21) (fun P' v' l r => i_S hA'.none r (fun c h => letters_lt c (ho.2.2.1 c h)) (B21.up l).2) (fun P' l => ⟨[], vh0, sp, x, rfl, Ents.nil, (RStr _).mono _ _ _ l rh0, .inl rfl, Nat.le_refl _⟩) ?_ ?_
    · rintro k it2 P22 P23 O' vx hk l22 l23 ⟨kk, he, sp, x, rfl, enk, rhe, hhe, hkl⟩ rx
      refine Do.assign_name (s_cell (.tail (.tail (.tail (.tail (.tail (.tail (.tail .head))))))) ?_)
      have hcm : order.getD k 0 ∈ order := getD_mem hk
      have hcl := ho.2.2.1 _ hcm
      rw [foldl_succ (walkStep (aboveL rel) order) (45, []) 0 hk]
      generalize order.getD k 0 = c at rx hcm hcl ⊢
      generalize (order.take k).foldl (walkStep (aboveL rel) order) (45, []) = st at enk rhe hhe hkl ⊢
      obtain ⟨h, wt⟩ := st
      have l2123 := l22.trans l23
      have B23 := B21.up l2123
      replace enk := enk.mono l23
      replace rhe := (RStr _).mono _ _ _ l23 rhe
      have ra23 := (RRel PR w (aboveL rel)).mono _ _ _ l2123 ra21
      have ro23 := (RStr (S order)).mono _ _ _ l2123 ro21
      refine x_if (c := decide (h = 45) || decide (c ∈ aboveL rel h)) (tst_or (Tst.of_eq (tst_cmp (R1 := RStr (S [h])) (R2 := RStr (S [45])) (c := (S [h] == S [45])) (ev_local (by walk_at "mem") (by walk_at "has") rhe) ev_S (fun P' a b l h1 h2 => g_eq_str h1 h2)) (by rw [Bool.eq_iff_iff]; simp [S_inj])) (fun hq => tst_val (ev_call (f := .ref 94) (Rs := [RStr (S (aboveL rel h)), RStr (S [c])]) (ev_global B23 (gl_contains w)) (kept_at (at_contains w) B23) (evl_cons (ev_sub_rel (ev_local (by walk_at "mem") (by walk_at "has") ra23) (ev_local (by walk_at "mem") (by walk_at "has") rhe) (hhe.resolve_left (of_decide_eq_false hq))) (evl_cons (ev_cell (by walk_at "mem") (RTok.str rx)) evl_nil)) (fun P' vs l rs => ?_)))) (fun hq P24 l24 => ?_) (fun hq P24 l24 => ?_)
      · obtain ⟨a, b, rfl, r1, r2⟩ := Reps.two rs
        have h := contains_spec (B23.up l) (hA'.less (by decide)) r1 r2 (O := it2 :: dictU PR w dk kk :: it :: (frameU L LN [some v, some vl, some (.ref dw), some (.ref dt), some (.ref db), wy, some va, some (.ref dn), some vo, some (.ref dk), some he, sp, none] :: cellU (L+1+1+1+1+1) none :: cellU (L+1+1+1+1) (some vb) :: cellU (L+1+1+1) (y) :: cellU (L+1+1) (some vx) :: cellU (L+1) (some (.ref dc)) :: O))
        exact h
      · have e : walkStep (aboveL rel) order (h, wt) c = (c, putK wt [h, c] [1, (order.idxOf c : Int), (order.idxOf c : Int) ^ 2, (order.idxOf c : Int) ^ 3]) := by unfold walkStep; rw [if_pos hq]
        rw [e]
        refine x_abs (fun Ψe hΨ => ?_)
        have B24 := B23.up l24
        have rx24 := RTok.up rx l24
        have hio : order.idxOf c ≤ 5 := by have := List.idxOf_le_length (a := c) (l := order); have := ho.1; simp [letters] at this; omega
        refine x_local (R := RInt (order.idxOf c)) (ev_call (f := .ref 108) (Rs := [RStr (S order), RTok (S [c])]) (ev_global B24 (gl_indexOf w)) (kept_at (at_indexOf w) B24) (evl_cons (ev_local (by walk_at "mem") (by walk_at "has") ((RStr _).mono _ _ _ l24 ro23)) (evl_cons (ev_cell (by walk_at "mem") rx24) evl_nil)) (fun P' vs l rs => ?_)) (fun _ => .tail (.tail (.tail .head))) (fun _ => .tail (.tail (.tail (.tail (.tail (.tail (.tail (.tail (.tail (.tail (.tail .head))))))))))) (fun vs P25 l25 rsp => ?_)
        · obtain ⟨a, b, rfl, r1, r2⟩ := Reps.two rs
          have h := index_spec (B24.up l) (hA'.less (by decide)) (fun y hy => letters_lt y (ho.2.2.1 y hy)) r1 r2 hcm (O := it2 :: dictU PR w dk kk :: it :: (frameU L LN [some v, some vl, some (.ref dw), some (.ref dt), some (.ref db), wy, some va, some (.ref dn), some vo, some (.ref dk), some he, sp, none] :: cellU (L+1+1+1+1+1) none :: cellU (L+1+1+1+1) (some vb) :: cellU (L+1+1+1) (y) :: cellU (L+1+1) (some vx) :: cellU (L+1) (some (.ref dc)) :: O))
          exact h
        have B25 := B24.up l25
        have rx25 := RTok.up rx24 l25
        have rhe25 := (RStr _).mono _ _ _ (l24.trans l25) rhe
        have hkl' : wt.length ≤ k := hkl
        have ho5 : order.length = 5 := ho.1
        have hkz : kk.length ≤ sizeLine := by rw [enk.length]; simp only [bookR, toSB, toS, List.length_map]; rw [sizeLine_eq]; omega
        refine x_ifSomething (Ψ := fun P' O' => ∃ z, P25.le P' ∧ (RTup ([1, (order.idxOf c : Int), (order.idxOf c : Int) ^ 2, (order.idxOf c : Int) ^ 3].map RInt)).h P' z ∧ O' = it2 :: dictU PR w dk (stored kk (S [h, c]) z) :: it :: (frameU L LN [some v, some vl, some (.ref dw), some (.ref dt), some (.ref db), wy, some va, some (.ref dn), some vo, some (.ref dk), some he, some vs, none] :: cellU (L+1+1+1+1+1) none :: cellU (L+1+1+1+1) (some vb) :: cellU (L+1+1+1) (y) :: cellU (L+1+1) (some vx) :: cellU (L+1) (some (.ref dc)) :: O)) ?_ ?_
        · refine do_call (f := .ref 115) (Rs := [RVal (.ref dk), RStr (S [h, c]), RTup ([1, (order.idxOf c : Int), (order.idxOf c : Int) ^ 2, (order.idxOf c : Int) ^ 3].map RInt)]) (ev_global B25 (gl_setitem w)) (kept_at (at_setitem w) B25)
            (evl_cons (ev_local (by walk_at "mem") (by walk_at "has") rfl) (evl_cons (ev_addS (ev_local (by walk_at "mem") (by walk_at "has") rhe25) (ev_cell (by walk_at "mem") (RTok.str rx25)) (by simp)) (evl_cons (ev_tup (Rs := [RInt 1, RInt (order.idxOf c : Int), RInt ((order.idxOf c : Int) ^ 2), RInt ((order.idxOf c : Int) ^ 3)]) (evl_cons ev_int (evl_cons (ev_local (by walk_at "mem") (by walk_at "has") rsp)
              (evl_cons (ev_bin (R1 := RInt (order.idxOf c : Int)) (R2 := RInt 2) (ev_local (by walk_at "mem") (by walk_at "has") rsp) ev_int (fun P' a b l h1 h2 => g_pow_int h1 h2 (by omega) (by omega) (by omega)))
              (evl_cons (ev_bin (R1 := RInt (order.idxOf c : Int)) (R2 := RInt 3) (ev_local (by walk_at "mem") (by walk_at "has") rsp) ev_int (fun P' a b l h1 h2 => g_pow_int h1 h2 (by omega) (by omega) (by omega))) evl_nil)))) (by rw [sizeLine_eq]; simp)) evl_nil))) (fun P' vs' l rs => ?_)
          obtain ⟨a, b, t, rfl, r1, r2, r3⟩ := Reps.three rs
          obtain rfl : a = .ref dk := r1
          have h1 := setitem_spec (z := t) (kvs := kk) (k := S [h, c]) (B25.up l) (hA'.less (by decide)) (O := it2 :: dictU PR w dk kk :: it :: (frameU L LN [some v, some vl, some (.ref dw), some (.ref dt), some (.ref db), wy, some va, some (.ref dn), some vo, some (.ref dk), some he, some vs, none] :: cellU (L+1+1+1+1+1) none :: cellU (L+1+1+1+1) (some vb) :: cellU (L+1+1+1) (y) :: cellU (L+1+1) (some vx) :: cellU (L+1) (some (.ref dc)) :: O)) (.tail .head) r2 hkz
          refine h1.mono fun r P'' O'' l'' q => ?_
          obtain ⟨q1, q2⟩ := q
          exact ⟨q1, t, l.trans l'', (RTup _).mono _ _ _ l'' r3, q2⟩
        rintro P26 P27 O' l26 l27 ⟨z, l26', rz, rfl⟩
        refine x_nil ?_
        refine x_local (R := RStr (S [c])) (ev_cell (by walk_at "mem") (RTok.str (RTok.up rx25 (l26.trans l27)))) (fun _ => .tail (.tail (.tail .head))) (fun _ => .tail (.tail (.tail (.tail (.tail (.tail (.tail (.tail (.tail (.tail .head)))))))))) (fun vh P28 l28 rh => ?_)
        refine x_nil (hΨ _ _ _ (x_nil ⟨_, rfl, stored kk (S [h, c]) z, vh, some vs, some vx, rfl, ?_, rh, .inr hcl, ?_⟩))
        · have h1 := ((enk.mono (l24.trans l25)).mono (l26.trans (l27.trans l28))).put (k := S [h, c]) ((RTup _).mono _ _ _ (l27.trans l28) rz)
          rw [bookR_toSB, put_toS (fun l : List Int => RTup (l.map RInt)), ← bookR_toSB] at h1
          exact h1
        · exact Nat.le_trans (putK_length _ _ _) (Nat.succ_le_succ hkl')
      · have e : walkStep (aboveL rel) order (h, wt) c = (h, wt) := by unfold walkStep; rw [if_neg (by rw [hq]; decide)]
        rw [e]
        refine x_nil (x_nil ⟨_, rfl, kk, he, sp, some vx, rfl, enk.mono l24, (RStr _).mono _ _ _ l24 rhe, hhe, Nat.le_succ_of_le hkl⟩)
    · rintro P22 P23 O' l22 l23 ⟨kk, he, sp, x, rfl, enk, rhe, hhe, hkl⟩
      rw [List.take_length] at enk
      refine x_nil ?_
      refine o_freezeDict (O' := it :: (frameU L LN [some v, some vl, some (.ref dw), some (.ref dt), some (.ref db), wy, some va, some (.ref dn), some vo, some (.ref dk), some he, sp, none] :: cellU (L+1+1+1+1+1) none :: cellU (L+1+1+1+1) (some vb) :: cellU (L+1+1+1) (y) :: cellU (L+1+1) (x) :: cellU (L+1) (some (.ref dc)) :: O)) ⟨_, .refl _, rfl⟩ hdk (enk.mono l23) (fun P24 l24 rwk => ?_)
      have hwok : BookOk (walkK (aboveL rel) order) := walkK_ok ho.2.2.1
      replace rwk : (RBook w (toSB (walkK (aboveL rel) order))).h P24 (.ref dk) := rwk
      have l2124 := (l22.trans l23).trans l24
      have B24 := B21.up l2124
      have rbk24 := (RBook w _).mono _ _ _ l2124 rbk21
      generalize walkK (aboveL rel) order = wk1 at rwk hwok hΨ ⊢
      refine x_cell (R := RBook w (addL (toSB bk) (toSB wk1))) (ev_call (f := .ref 122) (Rs := [RBook w (toSB bk), RBook w (toSB wk1)]) (ev_global B24 (gl_add w)) (kept_K B24 (keep_add w)) (evl_cons (ev_cell (by walk_at "mem") rbk24) (evl_cons (ev_local (by walk_at "mem") (by walk_at "has") rwk) evl_nil)) (fun P' vs l rs => ?_)) (fun _ => .tail (.tail (.tail .head))) (fun vb2 P25 l25 rb2 => ?_)
      · obtain ⟨a, b, rfl, r1, r2⟩ := Reps.two rs
        have h := add_spec (B24.up l) (hA'.less (by decide)) (O := it :: (frameU L LN [some v, some vl, some (.ref dw), some (.ref dt), some (.ref db), wy, some va, some (.ref dn), some vo, some (.ref dk), some he, sp, none] :: cellU (L+1+1+1+1+1) none :: cellU (L+1+1+1+1) (some vb) :: cellU (L+1+1+1) (y) :: cellU (L+1+1) (x) :: cellU (L+1) (some (.ref dc)) :: O)) (.tail _ (.tail _ (.tail _ (.tail _ (.tail _ (.tail _ (.tail _ hT))))))) (toSB_four hbok) (toSB_four hwok) (toSB_keys hbok) (by rw [toSB_len, toSB_len]; have := hbok.len; have := hwok.len; omega) r1 r2
        exact h
      rw [addL_toSB] at rb2
      exact x_nil (hΨ _ _ _ ⟨_, rfl, some vo, some (.ref dk), some he, sp, vb2, y, x, rfl, rb2⟩)
  · rintro P18 P19 O' l18 l19 ⟨od, wk, he, sp, vb, y, x, rfl, rbk⟩
    refine x_nil ?_
    rw [List.take_length] at rbk
    have hbok := bookK_ok (rel := rel) (os := ordersL rel letters) (fun o h => (ordersL_has h).2.2.1)
    have l1719 := l18.trans l19
    have B19 := B17.up l1719
    have rb19 := (RRel PR w rel).mono _ _ _ l1719 rb17
    have rn19 := (RBook w []).mono _ _ _ l1719 rn17
    replace rbk := (RBook w _).mono _ _ _ l19 rbk
    obtain ⟨hfit, hokt⟩ := (Bool.and_eq_true _ _).mp hokr
    refine x_cell (R := RST w (dueL rel)) (ev_call (f := .ref 156) (Rs := [RRel PR w rel]) (ev_global B19 (gl_due w)) (kept_at (at_due w) B19) (evl_cons (ev_local (by walk_at "mem") (by walk_at "has") rb19) evl_nil) (fun P' vs l rs => ?_)) (fun _ => .tail .head) (fun vd P20 l20 rd => ?_)
    · obtain ⟨a, rfl, r1⟩ := Reps.one rs
      have h := due_spec (B19.up l) (hA'.less (by decide)) hRs hRl hirr hfit r1 (O := (frameU L LN [some v, some vl, some (.ref dw), some (.ref dt), some (.ref db), wy, some va, some (.ref dn), od, wk, he, sp, none] :: cellU (L+1+1+1+1+1) none :: cellU (L+1+1+1+1) (some vb) :: cellU (L+1+1+1) (y) :: cellU (L+1+1) (x) :: cellU (L+1) (some (.ref dc)) :: O))
      exact h
    have hdl : (dueL rel).length ≤ 1000 := by
      have h1 := of_decide_eq_true ((Bool.and_eq_true _ _).mp hfit).1
      simpa [dueL, dueOf] using h1
    generalize dueL rel = du at rd hokt hdl ⊢
    generalize bookK rel (ordersL rel letters) = bk at rbk hbok hokt ⊢
    obtain ⟨hok1, hsum⟩ := (Bool.and_eq_true _ _).mp hokt
    obtain ⟨hsame, htab⟩ := (Bool.and_eq_true _ _).mp hok1
    obtain ⟨hlen, hall⟩ := (Bool.and_eq_true _ _).mp hsame
    have hlen' : bk.length = du.length := of_decide_eq_true hlen
    have hall' : ∀ kv ∈ bk, lookK du kv.1 = some kv.2 := fun kv h => of_decide_eq_true (List.all_eq_true.mp hall kv h)
    have hA0 := hA'.2.2
    have B20 := B19.up l20
    refine x_if (c := false || false) (tst_or (tst_cmp (R1 := RBook w (toSB bk)) (R2 := RST w du) (ev_cell (by walk_at "mem") ((RBook w _).mono _ _ _ l20 rbk)) (ev_cell (by walk_at "mem") rd) (fun P' a b l h1 h2 => ?_)) (fun _ => tst_cmp (R1 := RBook w []) (R2 := RDict PR w []) (ev_local (by walk_at "mem") (by walk_at "has") ((RBook w _).mono _ _ _ l20 rn19)) ev_noDict (fun P' a b l h1 h2 => ?_))) (fun q => by cases q) (fun _ P21 l21 => ?_)
    · refine g_neDict (l1 := toSB bk) (l2 := toSB du) (by show _ + 1 + 64 < _; omega) (by omega) h1 (by rw [show (toSB du).map (fun kv => (kv.1, RTup (kv.2.map RInt))) = toS RSp du from bookR_toSB du]; exact h2) (by rw [toSB_len, toSB_len, hlen']) (fun kv hkv => ?_)
      obtain ⟨q, hq, rfl⟩ := List.mem_map.mp hkv
      rw [show (toSB du).map (fun kv => (kv.1, RTup (kv.2.map RInt))) = toS RSp du from bookR_toSB du]
      show look (toS RSp du) (S q.1) = _
      rw [look_toS, hall' q hq]; rfl
    · exact g_neDict (l1 := []) (l2 := []) (by show _ + 1 + 64 < _; omega) (by omega) h1 h2 rfl (fun kv h => by cases h)
    refine x_nil ?_
    have htab' := fun kv h => List.all_eq_true.mp htab kv h
    have B21 := B20.up l21
    have rbk21 := (RBook w _).mono _ _ _ (l20.trans l21) rbk
    have rd21 := (RST w du).mono _ _ _ l21 rd
    refine x_for (R1 := RStr (S letters)) (n := 5) (item := fun i => RTok (S [letters.getD i 0])) (fun i P' O' => ∃ fi x, O' = (frameU L LN [some v, some vl, some (.ref dw), some (.ref dt), some (.ref db), wy, some va, some (.ref dn), od, wk, he, sp, fi] :: cellU (L+1+1+1+1+1) (some vd) :: cellU (L+1+1+1+1) (some vb) :: cellU (L+1+1+1) (y) :: cellU (L+1+1) (x) :: cellU (L+1) (some (.ref dc)) :: O))
      ev_abcde (fun P' v' l r => i_S hA'.none r letters_lt (B21.up l).2) (fun P' l => ⟨none, x, rfl⟩) ?_ ?_
    · rintro i it P22 P23 O' vx hi l22 l23 ⟨fi, x, rfl⟩ rx
      refine Do.assign_name (s_cell (.tail (.tail (.tail (.tail (.tail .head))))) ?_)
      have hc : letters.getD i 0 ∈ letters := getD_mem hi
      generalize letters.getD i 0 = c at rx hc
      refine x_abs (fun Ψe hΨ => ?_)
      have l2123 := l22.trans l23
      have B23 := B21.up l2123
      have rbk23 := (RBook w _).mono _ _ _ l2123 rbk21
      have rd23 := (RST w du).mono _ _ _ l2123 rd21
      have hbl := hbok.len
      have rbk23' : (RDict PR w (toS RSp bk)).h P23 vb := by rw [← bookR_toSB]; exact rbk23
      refine x_local (R := RDict PR w (toS RInt (firstsK bk c))) (ev_call (f := .type "dict") (Rs := [RList (pairsR (toS RInt (firstsK bk c)))]) (ev_builtin B23 (by with_unfolding_all rfl) (by with_unfolding_all rfl) (by decide)) kept_type (evl_cons ?_ evl_nil) (fun P' vs l rs => ?_)) (fun _ => .tail .head) (fun _ => .tail (.tail (.tail (.tail (.tail (.tail (.tail (.tail (.tail (.tail (.tail (.tail .head)))))))))))) (fun vf P24 l24 rf => ?_)
      · have e : pairsR (toS RInt (firstsK bk c)) = (bk.filter fun kv => decide (kv.1.getD 1 0 = c)).map fun kv => RTup [RStr (S kv.1), RInt (kv.2.getD 0 0)] := by
          simp only [pairsR, toS, firstsK, List.map_map]; rfl
        rw [e]
        refine ev_compG (d := ([], [])) (R1 := RDict PR w (toS RSp bk)) (l := bk) (RR := fun kv => RStr (S kv.1)) (fun kv => decide (kv.1.getD 1 0 = c)) _ (ev_cell (by walk_at "mem") rbk23') (fun P' v' l r => ?_) (by rw [sizeLine_eq]; omega) (fun kv vk P' u C D acc hk l r => ?_) (fun kv vk P' u C D acc hk _ l r => ?_)
        · exact i_keysG RSp hA'.none r
        · obtain ⟨h0, hh0, c0, hc0, ek⟩ := hbok.keys kv hk
          refine tl_one (Tst.of_eq (tst_cmp (R1 := RStr (S [c0])) (R2 := RStr (S [c])) (c := (S [c0] == S [c])) (ev_sub_str (x := S kv.1) (i := 1) (ev_local (by walk_at "mem") (by walk_at "has") r) ev_int (by decide) (by rw [ek]; rfl)) (ev_cell (by walk_at "mem") (RTok.str (RTok.up rx l))) (fun P' a b l h1 h2 => g_eq_str h1 h2)) ?_)
          rw [ek, Bool.eq_iff_iff]; simp [S_inj]
        · have h1 : look (toS RSp bk) (S kv.1) = some (RSp kv.2) := by rw [look_toS, lookK_of_mem hbok.nd hk]; rfl
          have h4 := hbok.four kv hk
          refine ev_tup (evl_cons (ev_local (by walk_at "mem") (by walk_at "has") r) (evl_cons (ev_sub_tup (i := 0) (rs := kv.2.map RInt) (ev_call (f := .ref 101) (Rs := [RDict PR w (toS RSp bk), RStr (S kv.1)]) (ev_global (B23.up l) (gl_getitem w)) (kept_at (at_getitem w) (B23.up l)) (evl_cons (ev_cell (by walk_at "mem") ((RDict PR w _).mono _ _ _ l rbk23')) (evl_cons (ev_local (by walk_at "mem") (by walk_at "has") r) evl_nil)) (fun P2 vs l2 rs => ?_)) ev_int (by omega) (by omega) ?_) evl_nil)) (by rw [sizeLine_eq]; simp)
          · obtain ⟨a, b, rfl, r1, r2⟩ := Reps.two rs
            exact getitem_spec ((B23.up l).up l2) (hA'.less (by decide)) r1 r2 h1
          · match hkv : kv.2, h4 with
            | a :: t, _ => rfl
      · obtain ⟨a, rfl, ra⟩ := Reps.one rs
        refine g_dictOf hA'.none ra (by rw [toS_length]; unfold firstsK; rw [List.length_map]; exact Nat.le_trans (List.length_filter_le _ _) (by omega)) ?_
        have e : (toS RInt (firstsK bk c)).map (·.1) = ((bk.filter fun kv => decide (kv.1.getD 1 0 = c)).map (·.1)).map S := by simp only [toS, firstsK, List.map_map]; rfl
        rw [e]
        have hnd : ((bk.filter fun kv => decide (kv.1.getD 1 0 = c)).map (·.1)).Nodup := (List.Sublist.map _ List.filter_sublist).nodup hbok.nd
        exact List.pairwise_map.mpr (hnd.imp fun hne q => hne (S_inj.mp q))
      have B24 := B23.up l24
      have rd24 := (RST w du).mono _ _ _ l24 rd23
      have rx24 := RTok.up rx l24
      have hsc : sumF bk c = sumD du c := of_decide_eq_true (List.all_eq_true.mp hsum c hc)
      refine x_if (c := false) (Tst.of_eq (tst_cmp (R1 := RInt (sumF bk c)) (R2 := RInt (sumD du c)) (c := (sumF bk c != sumD du c)) (ev_call (f := .ref 129) (Rs := [RDict PR w (toS RInt (firstsK bk c))]) (ev_global B24 (gl_count w)) (kept_at (at_count w) B24) (evl_cons (ev_local (by walk_at "mem") (by walk_at "has") rf) evl_nil) (fun P' vs l rs => ?_))
        (ev_call (f := .builtin "sum") (Rs := [RList ((firstsN du c).map RInt)]) (ev_builtin B24 (by with_unfolding_all rfl) (by with_unfolding_all rfl) (by decide)) kept_builtin (evl_cons ?_ evl_nil) (fun P' vs l rs => ?_)) (fun P' a b l h1 h2 => g_ne_int h1 h2)) (by rw [hsc]; simp)) (fun q => by cases q) (fun _ P25 l25 => ?_)
      · obtain ⟨a, rfl, ra⟩ := Reps.one rs
        have h := count_spec (w := w) (l := (firstsK bk c).map fun kv => (S kv.1, kv.2)) (B24.up l) (hA'.less (by decide)) (P := P') (v := a) (by rw [List.map_map]; exact ra) (O := it :: (frameU L LN [some v, some vl, some (.ref dw), some (.ref dt), some (.ref db), wy, some va, some (.ref dn), od, wk, he, sp, some vf] :: cellU (L+1+1+1+1+1) (some vd) :: cellU (L+1+1+1+1) (some vb) :: cellU (L+1+1+1) (y) :: cellU (L+1+1) (some vx) :: cellU (L+1) (some (.ref dc)) :: O))
        have e : sumI ((firstsK bk c).map fun kv => (S kv.1, kv.2)) = sumF bk c := by unfold sumI sumF; rw [List.foldl_map]
        rw [e] at h
        exact h
      · have e : (firstsN du c).map RInt = (du.filter fun kv => decide (kv.1.getD 1 0 = c)).map fun kv => RInt (kv.2.getD 0 0) := by unfold firstsN; rw [List.map_map]; rfl
        rw [e]
        refine ev_compG (d := ([], [])) (R1 := RST w du) (l := du) (RR := fun kv => RStr (S kv.1)) (fun kv => decide (kv.1.getD 1 0 = c)) _ (ev_cell (by walk_at "mem") rd24) (fun P' v' l r => ?_) (by rw [sizeLine_eq]; omega) (fun kv vk P' u C D acc hk l r => ?_) (fun kv vk P' u C D acc hk _ l r => ?_)
        · exact i_keysG RSp hA'.none r
        · have ht := htab' kv hk
          simp only [Bool.and_eq_true, decide_eq_true_eq] at ht
          obtain ⟨⟨⟨⟨h2, h4⟩, hlo⟩, hhi⟩, hlk⟩ := ht
          obtain ⟨h0, c0, ek⟩ : ∃ h0 c0, kv.1 = [h0, c0] := by
            match hkv : kv.1, h2 with
            | [a, b], _ => exact ⟨a, b, rfl⟩
          refine tl_one (Tst.of_eq (tst_cmp (R1 := RStr (S [c0])) (R2 := RStr (S [c])) (c := (S [c0] == S [c])) (ev_sub_str (x := S kv.1) (i := 1) (ev_local (by walk_at "mem") (by walk_at "has") r) ev_int (by decide) (by rw [ek]; rfl)) (ev_cell (by walk_at "mem") (RTok.str (RTok.up rx24 l))) (fun P' a b l h1 h2 => g_eq_str h1 h2)) ?_)
          rw [ek, Bool.eq_iff_iff]; simp [S_inj]
        · have ht := htab' kv hk
          simp only [Bool.and_eq_true, decide_eq_true_eq] at ht
          obtain ⟨⟨⟨⟨h2, h4⟩, hlo⟩, hhi⟩, hlk⟩ := ht
          refine ev_sub_tup (i := 0) (rs := kv.2.map RInt) (ev_sub_dict (rs := toS RSp du) (k := S kv.1) (ev_cell (by walk_at "mem") ((RST w du).mono _ _ _ l rd24)) (ev_local (by walk_at "mem") (by walk_at "has") r) (by rw [look_toS, hlk]; rfl)) ev_int (by omega) (by omega) ?_
          match hkv : kv.2, h4 with
          | a :: t, _ => rfl
      · obtain ⟨a, rfl, ra⟩ := Reps.one rs
        have h := g_sum (prog := PR) (w := w) (A := A.deeper (envX "law" (defScope (topStmt 17)) L 161 cd (cellsFrom (L + 1) (defScope (topStmt 17)).names []))) (O := it :: (frameU L LN [some v, some vl, some (.ref dw), some (.ref dt), some (.ref db), wy, some va, some (.ref dn), od, wk, he, sp, some vf] :: cellU (L+1+1+1+1+1) (some vd) :: cellU (L+1+1+1+1) (some vb) :: cellU (L+1+1+1) (y) :: cellU (L+1+1) (some vx) :: cellU (L+1) (some (.ref dc)) :: O)) (l := firstsN du c) hA'.none (fun n hn => by
          obtain ⟨kv, hkv, rfl⟩ := List.mem_map.mp hn
          have ht := htab' kv (List.mem_filter.mp hkv).1
          simp only [Bool.and_eq_true, decide_eq_true_eq] at ht
          exact ⟨ht.1.1.2, ht.1.2⟩) (by unfold firstsN; rw [List.length_map]; exact Nat.le_trans (List.length_filter_le _ _) hdl) ra
        exact h
      exact x_nil (x_nil (hΨ _ _ _ ⟨_, rfl, some vf, some vx, rfl⟩))
    · rintro P22 P23 O' l22 l23 ⟨fi, x, rfl⟩
      refine x_nil ?_
      exact x_retEv (R := RBool true) ev_bool (fun P24 z l24 r24 => ⟨[_, _, _, _, _, _], O, rfl, rfl, r24⟩)
end
end

section
/-- what stands behind a lead -/
noncomputable def tailL (c : Nat) : List Nat := ([120, 32, 9] : List Nat).take (letters.idxOf c)
theorem cut_ok : ∀ n : Nat, n < 5 → ∀ t t' : Tok, ∃ y, (sliceMade (S [120, 32, 9]) t none (some ((n : Int), t')) none = .val (.str y t) ∨ sliceMade (S [120, 32, 9]) t none (some ((n : Int), t')) none = .str y) ∧ y = S (([120, 32, 9] : List Nat).take n) := by
  intro n hn t t'
  match n, hn with
  | 0, _ => exact ⟨S [], .inr rfl, rfl⟩
  | 1, _ => exact ⟨S [120], .inr rfl, rfl⟩
  | 2, _ => exact ⟨S [120, 32], .inr rfl, rfl⟩
  | 3, _ => exact ⟨S [120, 32, 9], .inl rfl, rfl⟩
  | 4, _ => exact ⟨S [120, 32, 9], .inl rfl, rfl⟩
noncomputable def whole (lead : Nat → List Nat) (c : Nat) : List Nat := lead c ++ tailL c
noncomputable def toldL (lead : Nat → List Nat) (x : Nat) : List Nat := letters.filter fun y => lessN (wsOf (whole lead y)) (wsOf (whole lead x))
theorem tail_lt : ∀ c ∈ letters, ∀ y ∈ tailL c, y < 128 := by decide
theorem tail_len (c : Nat) : (tailL c).length ≤ 3 := by unfold tailL; rw [List.length_take]; exact Nat.min_le_right _ _
theorem idx_lt : ∀ c ∈ letters, letters.idxOf c < 5 := by decide
noncomputable abbrev whitesR (lead : Nat → List Nat) (n : Nat) : List (Str × Rep) := (letters.take n).map fun c => (S [c], RWs (wsOf (whole lead c)))
noncomputable abbrev columnsR (lead : Nat → List Nat) (n : Nat) : List (Str × Rep) := (letters.take n).map fun c => (S [c], RList ((columnsL (lead c)).map RInt))

noncomputable def colB (lead : Nat → List Nat) (x y : Nat) (k : Nat) : Bool := decide ((columnsL (lead x)).getD k 0 ≤ (columnsL (lead y)).getD k 0)
noncomputable def belowL (lead : Nat → List Nat) (x : Nat) : List Nat := letters.filter fun y => ((List.range 6).filter (colB lead x y)).isEmpty
noncomputable abbrev relR (rel : Nat → List Nat) (l : List Nat) : List (Str × Rep) := l.map fun c => (S [c], RStr (S (rel c)))
/-- what the law needs of its leads -/
structure LeadsOk (lead : Nat → List Nat) : Prop where
  small : ∀ c ∈ letters, (lead c).length ≤ 20
  blank : ∀ c ∈ letters, ∀ y ∈ lead c, y < 128
  fair : ∀ c ∈ letters, Fair (wsOf (whole lead c))
  simple : ∀ c ∈ letters, decide ((wsOf (whole lead c)).cnt.length ≤ 1) = !(occ (S (lead c)) (S [32, 9]))
  rel : ∃ rel : Nat → List Nat, (∀ c ∈ letters, toldL lead c = rel c) ∧ (∀ c ∈ letters, belowL lead c = rel c) ∧ okRel rel = true
theorem belowL_irr (lead : Nat → List Nat) (c : Nat) : c ∉ belowL lead c := fun h => by
  have h2 := (List.mem_filter.mp h).2
  have e : (0 : Nat) ∈ (List.range 6).filter (colB lead c c) := List.mem_filter.mpr ⟨by decide, by unfold colB; simp⟩
  rw [List.isEmpty_iff.mp h2] at e; cases e
theorem RRel_eq {w : World} {r r' : Nat → List Nat} (h : ∀ c ∈ letters, r c = r' c) : RRel PR w r = RRel PR w r' := by
  have e : (letters.map fun c => (S [c], RStr (S (r c)))) = letters.map fun c => (S [c], RStr (S (r' c))) := List.map_congr_left fun c hc => by rw [h c hc]
  unfold RRel; rw [e]
theorem put_last {α : Type} {l : List (Str × α)} {k : Str} {a b : α} (h : k ∉ l.map (·.1)) : put (l ++ [(k, a)]) k b = l ++ [(k, b)] := by
  have e : ((l ++ [(k, a)]).any fun kv => decide (kv.1 = k)) = true := by rw [List.any_append]; simp
  unfold put
  rw [if_pos e, List.map_append]
  have e2 : (l.map fun kv => if kv.1 = k then (kv.1, b) else kv) = l := by
    conv => rhs; rw [← List.map_id l]
    refine List.map_congr_left fun kv hkv => ?_
    have : kv.1 ≠ k := fun q => h (q ▸ List.mem_map_of_mem hkv)
    simp [this]
  rw [e2]; simp
theorem look_last {α : Type} {l : List (Str × α)} {k : Str} {a : α} (h : k ∉ l.map (·.1)) : look (l ++ [(k, a)]) k = some a := by
  unfold look
  rw [List.find?_append]
  have e : l.find? (fun kv => decide (kv.1 = k)) = none := by
    rw [List.find?_eq_none]
    intro kv hkv q
    exact h (of_decide_eq_true q ▸ List.mem_map_of_mem hkv)
  rw [e]; simp
theorem relR_new {rel : Nat → List Nat} {l : List Nat} {c : Nat} (h : c ∉ l) : S [c] ∉ (relR rel l).map (·.1) := by
  intro q
  rw [List.map_map] at q
  obtain ⟨x, hx, e⟩ := List.mem_map.mp q
  have : [x] = [c] := S_inj.mp e
  exact h (by injection this with e1; exact e1 ▸ hx)
section
variable {w : World} {A : Around} {env : Env} {P : Part} {O O' : List U} {v u z : Value} {R : Rep} {K : Frag}
theorem law_spec {xs : List Int} (B : Bg0 (KF w) P) (hA : Fit 30 A) (hT : tabU 117 ∈ O) (hx : xs.length ≤ 63) (hok : ∀ c0 c1 c2 c3 c4, LeadsOk (leadsL c0 c1 c2 c3 c4)) (hv : (RList (xs.map RInt)).h P v) :
    Gv PR w A (call (.ref 161) [v]) P O (RBool true) := by
  refine f_callC0 B (at_law w) hA (binds := [("script", v)]) (ns := LN) (vs := [some v, none, none, none, none, none, none, none, none, none, none, none, none]) (cm := [("due", none), ("book", none), ("y", none), ("x", none), ("columns", none)]) (fun _ _ _ _ _ _ => rfl) (fun _ _ => rfl) (by decide) (fun _ _ => rfl) (by rfl) (by decide) (fun L cd => ?_)
  show Do _ _ _ (execs (defBody (topStmt 17)) _) P (frameU L LN [some v, none, none, none, none, none, none, none, none, none, none, none, none] :: cellU (L+1+1+1+1+1) none :: cellU (L+1+1+1+1) none :: cellU (L+1+1+1) none :: cellU (L+1+1) none :: cellU (L+1) none :: O) _
  have hA' := hA.deeper (env := envX "law" (defScope (topStmt 17)) L 161 cd (cellsFrom (L + 1) (defScope (topStmt 17)).names []))
  refine x_assign (Ψ := fun r P' O' => 0 < P'.tk ∧ O' = (frameU L LN [some v, none, none, none, none, none, none, none, none, none, none, none, none] :: cellU (L+1+1+1+1+1) none :: cellU (L+1+1+1+1) none :: cellU (L+1+1+1) none :: cellU (L+1+1) none :: cellU (L+1) none :: O) ∧ ∃ c0 c1 c2 c3 c4, (RRel PR w (leadsL c0 c1 c2 c3 c4)).h P' r) ?_ ?_
  · refine do_call (f := .ref 134) (Rs := [RList (xs.map RInt)]) (ev_global0 B (gl_leads w)) (kept_at0 (at_leads w) B) (evl_cons (ev_local (by walk_at "mem") (by walk_at "has") hv) evl_nil) (fun P' vs l rs => ?_)
    obtain ⟨y, rfl, ry⟩ := Reps.one rs
    have h := leads_spec (B.up l) (hA'.less (by decide)) hx ry (O := (frameU L LN [some v, none, none, none, none, none, none, none, none, none, none, none, none] :: cellU (L+1+1+1+1+1) none :: cellU (L+1+1+1+1) none :: cellU (L+1+1+1) none :: cellU (L+1+1) none :: cellU (L+1) none :: O))
    exact h
  rintro vl P1 O1 l1 ⟨htk, rfl, c0, c1, c2, c3, c4, rl⟩
  have hlk := hok c0 c1 c2 c3 c4
  generalize leadsL c0 c1 c2 c3 c4 = lead at rl hlk
  have B1 : Bg (KF w) P1 := ⟨B.up l1, htk⟩
  refine s_local .head (.tail .head) ⟨rfl, ?_⟩
  refine x_newDict (fun d => .head) (fun d => .tail (.tail .head)) (fun dw P2 l2 hdw => ?_)
  refine x_newDictC (fun d => .tail (.tail (.tail (.tail (.tail (.tail .head)))))) (fun dc P3 l3 hdc => ?_)
  have B3 := (B1.up l2).up l3
  have rl3 := (RRel PR w lead).mono _ _ _ (l2.trans l3) rl
  refine x_for (R1 := RStr (S letters)) (n := 5) (item := fun i => RTok (S [letters.getD i 0])) (fun i P' O' => ∃ kw kc x, O' = dictU PR w dc kc :: dictU PR w dw kw :: (frameU L LN [some v, some vl, some (.ref dw), none, none, none, none, none, none, none, none, none, none] :: cellU (L+1+1+1+1+1) none :: cellU (L+1+1+1+1) none :: cellU (L+1+1+1) none :: cellU (L+1+1) (x) :: cellU (L+1) (some (.ref dc)) :: O) ∧ Ents P' (whitesR lead i) kw ∧ Ents P' (columnsR lead i) kc)
    ev_abcde (fun P' v' l r => i_S hA'.none r letters_lt (B3.up l).2) (fun P' l => ⟨[], [], none, rfl, Ents.nil, Ents.nil⟩) ?_ ?_
  · rintro i it P4 P5 O' vx hi l4 l5 ⟨kw, kc, x, rfl, enw, enc⟩ rx
    refine Do.assign_name (s_cell (.tail (.tail (.tail (.tail (.tail (.tail (.tail .head))))))) ?_)
    have hc : letters.getD i 0 ∈ letters := getD_mem hi
    generalize hcc : letters.getD i 0 = c at rx hc
    have l35 := l4.trans l5
    have B5 := B3.up l35
    have rl5 := (RRel PR w lead).mono _ _ _ l35 rl3
    have hsm := hlk.small c hc
    have htl := tail_len c
    refine x_setItem (R1 := RWs (wsOf (whole lead c))) (R2 := RVal (.ref dw)) (R3 := RStr (S [c])) (Ψ := fun P' O' => P5.le P' ∧ ∃ kw, Ents P' (whitesR lead (i + 1)) kw ∧ O' = it :: dictU PR w dc kc :: dictU PR w dw kw :: (frameU L LN [some v, some vl, some (.ref dw), none, none, none, none, none, none, none, none, none, none] :: cellU (L+1+1+1+1+1) none :: cellU (L+1+1+1+1) none :: cellU (L+1+1+1) none :: cellU (L+1+1) (some vx) :: cellU (L+1) (some (.ref dc)) :: O))
      (ev_call (f := .ref 83) (Rs := [RStr (S (whole lead c))]) (ev_global B5 (gl_ws w)) (kept_K B5 (keep_ws w)) (evl_cons (ev_addS (ev_sub_rel (ev_local (by walk_at "mem") (by walk_at "has") rl5) (ev_cell (by walk_at "mem") (RTok.str rx)) hc) (ev_cut (l := [120, 32, 9]) (n := letters.idxOf c) ev_S (ev_idx letters_nodup hc ev_abcde (ev_cell (by walk_at "mem") (RTok.str rx))) (cut_ok _ (idx_lt c hc)) (by decide)) (by show _ + (tailL c).length ≤ _; omega)) evl_nil) (fun P' vs l rs => ?_))
      (ev_local (by walk_at "mem") (by walk_at "has") rfl) (ev_cell (by walk_at "mem") (RTok.str rx)) (fun P' z v1 u1 lz rz r1 r2 => ?_) ?_
    · obtain ⟨y, rfl, ry⟩ := Reps.one rs
      have h := make_spec (B5.up l) (hA'.less (by decide)) (l := whole lead c) (fun y hy => by
        rcases List.mem_append.mp hy with h | h
        · exact hlk.blank c hc y h
        · exact tail_lt c hc y h) (by show (lead c ++ tailL c).length ≤ _; rw [List.length_append]; omega) ry (O := it :: dictU PR w dc kc :: dictU PR w dw kw :: (frameU L LN [some v, some vl, some (.ref dw), none, none, none, none, none, none, none, none, none, none] :: cellU (L+1+1+1+1+1) none :: cellU (L+1+1+1+1) none :: cellU (L+1+1+1) none :: cellU (L+1+1) (some vx) :: cellU (L+1) (some (.ref dc)) :: O))
      exact h
    · obtain rfl : v1 = .ref dw := r1
      refine o_setItem_dict (.tail (.tail .head)) r2 (by rw [enw.length]; simp [letters]; rw [sizeLine_eq]; omega) ⟨lz, _, ?_, rfl⟩
      have := ((enw.mono l5).mono lz).put (k := S [c]) rz
      rw [put_new] at this
      · rw [whitesR, take_getD hi, List.map_append, hcc]; exact this
      · rw [← hcc]; exact not_mem_take (by decide) hi
    rintro P6 O' l6 ⟨l6', kw2, enw2, rfl⟩
    have B6 := B5.up l6
    have rl6 := (RRel PR w lead).mono _ _ _ l6 rl5
    have rx6 := RTok.up rx l6
    refine x_setItem (R1 := RList ((columnsL (lead c)).map RInt)) (R2 := RVal (.ref dc)) (R3 := RStr (S [c])) (Ψ := fun P' O' => P6.le P' ∧ ∃ kc, Ents P' (columnsR lead (i + 1)) kc ∧ O' = it :: dictU PR w dc kc :: dictU PR w dw kw2 :: (frameU L LN [some v, some vl, some (.ref dw), none, none, none, none, none, none, none, none, none, none] :: cellU (L+1+1+1+1+1) none :: cellU (L+1+1+1+1) none :: cellU (L+1+1+1) none :: cellU (L+1+1) (some vx) :: cellU (L+1) (some (.ref dc)) :: O))
      (ev_call (f := .ref 141) (Rs := [RStr (S (lead c))]) (ev_global B6 (gl_columns w)) (kept_at (at_columns w) B6) (evl_cons (ev_sub_rel (ev_local (by walk_at "mem") (by walk_at "has") rl6) (ev_cell (by walk_at "mem") (RTok.str rx6)) hc) evl_nil) (fun P' vs l rs => ?_))
      (ev_cell (by walk_at "mem") rfl) (ev_cell (by walk_at "mem") (RTok.str rx6)) (fun P' z v1 u1 lz rz r1 r2 => ?_) ?_
    · obtain ⟨y, rfl, ry⟩ := Reps.one rs
      have h := columns_spec (B6.up l) (hA'.less (by decide)) (l := lead c) (hlk.blank c hc) ry (O := it :: dictU PR w dc kc :: dictU PR w dw kw2 :: (frameU L LN [some v, some vl, some (.ref dw), none, none, none, none, none, none, none, none, none, none] :: cellU (L+1+1+1+1+1) none :: cellU (L+1+1+1+1) none :: cellU (L+1+1+1) none :: cellU (L+1+1) (some vx) :: cellU (L+1) (some (.ref dc)) :: O))
      exact h
    · obtain rfl : v1 = .ref dc := r1
      refine o_setItem_dict (.tail .head) r2 (by rw [enc.length]; simp [letters]; rw [sizeLine_eq]; omega) ⟨lz, _, ?_, rfl⟩
      have := (((enc.mono l5).mono l6).mono lz).put (k := S [c]) rz
      rw [put_new] at this
      · rw [columnsR, take_getD hi, List.map_append, hcc]; exact this
      · rw [← hcc]; exact not_mem_take (by decide) hi
    rintro P7 O' l7 ⟨l7', kc2, enc2, rfl⟩
    have B7 := B6.up l7
    have rl7 := (RRel PR w lead).mono _ _ _ l7 rl6
    have rx7 := RTok.up rx6 l7
    have hlook : look (whitesR lead (i + 1)) (S [c]) = some (RWs (wsOf (whole lead c))) := look_map (f := fun c => RWs (wsOf (whole lead c))) (by rw [take_getD hi, hcc]; simp)
    refine x_if (c := false) (tst_cmp (R1 := RBool (decide ((wsOf (whole lead c)).cnt.length ≤ 1))) (R2 := RBool (!(occ (S (lead c)) (S [32, 9])))) (ev_attrI B7 (fs := wsFields (wsOf (whole lead c))) (no := noNames) (ev_sub_dictO (ev_local (by walk_at "mem") (by walk_at "has") rfl) (ev_cell (by walk_at "mem") (RTok.str rx7)) (.tail _ (.tail _ (.head _))) (enw2.mono l7) hlook) (.tail _ (.tail _ (.tail _ (.head _)))) (k_plain w _) (k_hasDict w) (k_simple w) rfl hBool)
      (ev_cmp (R1 := RStr (S [32, 9])) (R2 := RStr (S (lead c))) ev_S (ev_sub_rel (ev_local (by walk_at "mem") (by walk_at "has") rl7) (ev_cell (by walk_at "mem") (RTok.str rx7)) hc) (fun P' a b l h1 h2 => g_notIn_str h1 h2)) (fun P' a b l h1 h2 => ?_)) (fun q => by cases q) (fun _ P8 l8 => ?_)
    · have h := g_isNot_bool (prog := PR) (w := w) (A := A.deeper (envX "law" (defScope (topStmt 17)) L 161 cd (cellsFrom (L + 1) (defScope (topStmt 17)).names []))) (O := it :: dictU PR w dc kc2 :: dictU PR w dw kw2 :: (frameU L LN [some v, some vl, some (.ref dw), none, none, none, none, none, none, none, none, none, none] :: cellU (L+1+1+1+1+1) none :: cellU (L+1+1+1+1) none :: cellU (L+1+1+1) none :: cellU (L+1+1) (some vx) :: cellU (L+1) (some (.ref dc)) :: O)) h1 h2
      rw [hlk.simple c hc] at h
      simpa using h
    · exact x_nil (x_nil ⟨_, rfl, kw2, kc2, some vx, rfl, (enw2.mono l7).mono l8, enc2.mono l8⟩)
  · rintro P4 P5 O' l4 l5 ⟨kw, kc, x, rfl, enw, enc⟩
    refine x_nil ?_
    have l35 := l4.trans l5
    replace enw := enw.mono l5
    replace enc := enc.mono l5
    refine o_freezeDict (O' := dictU PR w dw kw :: (frameU L LN [some v, some vl, some (.ref dw), none, none, none, none, none, none, none, none, none, none] :: cellU (L+1+1+1+1+1) none :: cellU (L+1+1+1+1) none :: cellU (L+1+1+1) none :: cellU (L+1+1) (x) :: cellU (L+1) (some (.ref dc)) :: O)) ⟨_, .refl _, rfl⟩ hdc enc (fun P6 l6 rc => ?_)
    refine o_freezeDict (O' := (frameU L LN [some v, some vl, some (.ref dw), none, none, none, none, none, none, none, none, none, none] :: cellU (L+1+1+1+1+1) none :: cellU (L+1+1+1+1) none :: cellU (L+1+1+1) none :: cellU (L+1+1) (x) :: cellU (L+1) (some (.ref dc)) :: O)) ⟨_, .refl _, rfl⟩ hdw (enw.mono l6) (fun P7 l7 rw7 => ?_)
    replace rc := (RDict PR w _).mono _ _ _ l7 rc
    refine x_newDict (fun d => .head) (fun d => .tail (.tail (.tail .head))) (fun dt P8 l8 hdt => ?_)
    refine x_newDict (fun d => .tail .head) (fun d => .tail (.tail (.tail (.tail .head)))) (fun db P9 l9 hdb => ?_)
    have l79 := l8.trans l9
    have B9 := (B3.up l35).up ((l6.trans l7).trans l79)
    have rc9 := (RDict PR w (columnsR lead 5)).mono _ _ _ l79 rc
    have rw9 := (RDict PR w (whitesR lead 5)).mono _ _ _ l79 rw7
    have hlw : ∀ c ∈ letters, look (whitesR lead 5) (S [c]) = some (RWs (wsOf (whole lead c))) := fun c hc => look_map (f := fun c => RWs (wsOf (whole lead c))) (by rw [show letters.take 5 = letters from rfl]; exact hc)
    have hlc : ∀ c ∈ letters, look (columnsR lead 5) (S [c]) = some (RList ((columnsL (lead c)).map RInt)) := fun c hc => look_map (f := fun c => RList ((columnsL (lead c)).map RInt)) (by rw [show letters.take 5 = letters from rfl]; exact hc)
    refine x_for (R1 := RStr (S letters)) (n := 5) (item := fun i => RTok (S [letters.getD i 0])) (fun i P' O' => ∃ kt kb wy y x, O' = dictU PR w db kb :: dictU PR w dt kt :: (frameU L LN [some v, some vl, some (.ref dw), some (.ref dt), some (.ref db), wy, none, none, none, none, none, none, none] :: cellU (L+1+1+1+1+1) none :: cellU (L+1+1+1+1) none :: cellU (L+1+1+1) (y) :: cellU (L+1+1) (x) :: cellU (L+1) (some (.ref dc)) :: O) ∧ Ents P' (relR (toldL lead) (letters.take i)) kt ∧ Ents P' (relR (belowL lead) (letters.take i)) kb)
      ev_abcde (fun P' v' l r => i_S hA'.none r letters_lt (B9.up l).2) (fun P' l => ⟨[], [], none, none, x, rfl, Ents.nil, Ents.nil⟩) ?_ ?_
    · rintro i it P10 P11 O' vx hi l10 l11 ⟨kt, kb, wy, y0, x0, rfl, ent, enb⟩ rx
      refine Do.assign_name (s_cell (.tail (.tail (.tail (.tail (.tail (.tail (.tail .head))))))) ?_)
      have hc : letters.getD i 0 ∈ letters := getD_mem hi
      have htk := take_getD (l := letters) hi
      have hltl : (letters.take i).length ≤ 5 := by rw [List.length_take]; exact Nat.le_trans (Nat.min_le_left _ _) (by omega)
      have hnm : letters.getD i 0 ∉ letters.take i := not_mem_take (by decide) hi
      rw [htk]
      generalize letters.getD i 0 = c at rx hc hnm ⊢
      generalize letters.take i = lt at ent enb hnm hltl ⊢
      have hnm' := hnm
      have hlt5 : lt.length ≤ 5 := hltl
      have B11 := B9.up (l10.trans l11)
      have rc11 := (RDict PR w (columnsR lead 5)).mono _ _ _ (l10.trans l11) rc9
      have rw11 := (RDict PR w (whitesR lead 5)).mono _ _ _ (l10.trans l11) rw9
      refine x_setItem (R1 := RStr (S [])) (R2 := RVal (.ref dt)) (R3 := RStr (S [c])) (Ψ := fun P' O' => P11.le P' ∧ ∃ kt, Ents P' (relR (toldL lead) lt ++ [(S [c], RStr (S []))]) kt ∧ O' = it :: dictU PR w db kb :: dictU PR w dt kt :: (frameU L LN [some v, some vl, some (.ref dw), some (.ref dt), some (.ref db), wy, none, none, none, none, none, none, none] :: cellU (L+1+1+1+1+1) none :: cellU (L+1+1+1+1) none :: cellU (L+1+1+1) (y0) :: cellU (L+1+1) (some vx) :: cellU (L+1) (some (.ref dc)) :: O))
        ev_empty (ev_local (by walk_at "mem") (by walk_at "has") rfl) (ev_cell (by walk_at "mem") (RTok.str rx)) (fun P' z v1 u1 lz rz r1 r2 => ?_) ?_
      · obtain rfl : v1 = .ref dt := r1
        refine o_setItem_dict (.tail (.tail .head)) r2 (by rw [ent.length, List.length_map]; rw [sizeLine_eq]; omega) ⟨lz, _, ?_, rfl⟩
        have := ((ent.mono l11).mono lz).put (k := S [c]) rz
        rw [put_new hnm] at this
        exact this
      rintro P12 O' l12 ⟨l12', kt2, ent2, rfl⟩
      refine x_setItem (R1 := RStr (S [])) (R2 := RVal (.ref db)) (R3 := RStr (S [c])) (Ψ := fun P' O' => P12.le P' ∧ ∃ kb, Ents P' (relR (belowL lead) lt ++ [(S [c], RStr (S []))]) kb ∧ O' = it :: dictU PR w db kb :: dictU PR w dt kt2 :: (frameU L LN [some v, some vl, some (.ref dw), some (.ref dt), some (.ref db), wy, none, none, none, none, none, none, none] :: cellU (L+1+1+1+1+1) none :: cellU (L+1+1+1+1) none :: cellU (L+1+1+1) (y0) :: cellU (L+1+1) (some vx) :: cellU (L+1) (some (.ref dc)) :: O))
        ev_empty (ev_local (by walk_at "mem") (by walk_at "has") rfl) (ev_cell (by walk_at "mem") (RTok.str (RTok.up rx l12))) (fun P' z v1 u1 lz rz r1 r2 => ?_) ?_
      · obtain rfl : v1 = .ref db := r1
        refine o_setItem_dict (.tail .head) r2 (by rw [enb.length, List.length_map]; rw [sizeLine_eq]; omega) ⟨lz, _, ?_, rfl⟩
        have := (((enb.mono l11).mono l12).mono lz).put (k := S [c]) rz
        rw [put_new hnm] at this
        exact this
      rintro P13 O' l13 ⟨l13', kb2, enb2, rfl⟩
      replace ent2 := ent2.mono l13
      have l1113 := l12.trans l13
      have B13 := B11.up l1113
      have rx13 := RTok.up rx l1113
      have rc13 := (RDict PR w (columnsR lead 5)).mono _ _ _ l1113 rc11
      have rw13 := (RDict PR w (whitesR lead 5)).mono _ _ _ l1113 rw11
      refine x_for (R1 := RStr (S letters)) (n := 5) (item := fun i => RTok (S [letters.getD i 0])) (fun j P' O' => ∃ kt kb wy y, O' = it :: dictU PR w db kb :: dictU PR w dt kt :: (frameU L LN [some v, some vl, some (.ref dw), some (.ref dt), some (.ref db), wy, none, none, none, none, none, none, none] :: cellU (L+1+1+1+1+1) none :: cellU (L+1+1+1+1) none :: cellU (L+1+1+1) (y) :: cellU (L+1+1) (some vx) :: cellU (L+1) (some (.ref dc)) :: O) ∧ Ents P' (relR (toldL lead) lt ++ [(S [c], RStr (S ((letters.take j).filter fun y => lessN (wsOf (whole lead y)) (wsOf (whole lead c)))))]) kt ∧ Ents P' (relR (belowL lead) lt ++ [(S [c], RStr (S ((letters.take j).filter fun y => ((List.range 6).filter (colB lead c y)).isEmpty)))]) kb)
        ev_abcde (fun P' v' l r => i_S hA'.none r letters_lt (B13.up l).2) (fun P' l => ⟨kt2, kb2, wy, y0, rfl, ent2.mono l, enb2.mono l⟩) ?_ ?_
      · rintro j it2 P14 P15 O' vy hj l14 l15 ⟨kt, kb, wy, y0, rfl, ent, enb⟩ ry
        refine Do.assign_name (s_cell (.tail (.tail (.tail (.tail (.tail (.tail (.tail .head))))))) ?_)
        have hd : letters.getD j 0 ∈ letters := getD_mem hj
        have htj := take_getD (l := letters) hj
        have hjl : (letters.take j).length ≤ 5 := by rw [List.length_take]; exact Nat.le_trans (Nat.min_le_left _ _) (by omega)
        rw [htj, List.filter_append, List.filter_append]
        generalize letters.getD j 0 = d at ry hd ⊢
        generalize letters.take j = lj at ent enb hjl ⊢
        have l1315 := l14.trans l15
        have B15 := B13.up l1315
        have rx15 := RTok.up rx13 l1315
        have rc15 := (RDict PR w (columnsR lead 5)).mono _ _ _ l1315 rc13
        have rw15 := (RDict PR w (whitesR lead 5)).mono _ _ _ l1315 rw13
        replace ent := ent.mono l15
        replace enb := enb.mono l15
        refine x_local (R := RBool (lessN (wsOf (whole lead d)) (wsOf (whole lead c)))) (ev_methI B15 (C := 83) (f := 73) (fs := wsFields (wsOf (whole lead d))) (no := noNames) (Rs := [RWs (wsOf (whole lead c))]) (ev_sub_dict (ev_local (by walk_at "mem") (by walk_at "has") rw15) (ev_cell (by walk_at "mem") (RTok.str ry)) (hlw d hd)) (.head _) (k_plain w _) (k_less w) (k_fn73 w) (kept_at (at_less w) B15) (evl_cons (ev_sub_dict (ev_local (by walk_at "mem") (by walk_at "has") rw15) (ev_cell (by walk_at "mem") (RTok.str rx15)) (hlw c hc)) evl_nil) (fun P' v1 vs l r rs => ?_)) (fun _ => .tail (.tail (.tail (.tail .head)))) (fun _ => .tail (.tail (.tail (.tail (.tail .head))))) (fun vwy P16 l16 rwy => ?_)
        · obtain ⟨y, rfl, ry⟩ := Reps.one rs
          have h := less_spec (B15.up l) (hA'.less (by decide)) (hlk.fair d hd) (hlk.fair c hc) r ry (O := it2 :: it :: dictU PR w db kb :: dictU PR w dt kt :: (frameU L LN [some v, some vl, some (.ref dw), some (.ref dt), some (.ref db), wy, none, none, none, none, none, none, none] :: cellU (L+1+1+1+1+1) none :: cellU (L+1+1+1+1) none :: cellU (L+1+1+1) (some vy) :: cellU (L+1+1) (some vx) :: cellU (L+1) (some (.ref dc)) :: O))
          exact h
        have B16 := B15.up l16
        refine x_if (c := !true) (tst_not (tst_val (ev_call (f := .builtin "isinstance") (Rs := [RBool (lessN (wsOf (whole lead d)) (wsOf (whole lead c))), RVal (.type "bool")]) (ev_builtin B16 (by with_unfolding_all rfl) (by with_unfolding_all rfl) (by decide)) kept_builtin
          (evl_cons (ev_local (by walk_at "mem") (by walk_at "has") rwy) (evl_cons (ev_builtin B16 (v := .type "bool") (by with_unfolding_all rfl) (by with_unfolding_all rfl) (by decide)) evl_nil)) (fun P' vs' l' rs => ?_)))) (fun q => by cases q) (fun _ P17 l17 => ?_)
        · obtain ⟨y, ty, rfl, r1, r2⟩ := Reps.two rs
          obtain rfl : ty = .type "bool" := r2
          have h := g_isi (prog := PR) (w := w) (Tx := "bool") (T := "bool") (A := A.deeper (envX "law" (defScope (topStmt 17)) L 161 cd (cellsFrom (L + 1) (defScope (topStmt 17)).names []))) (O := it2 :: it :: dictU PR w db kb :: dictU PR w dt kt :: (frameU L LN [some v, some vl, some (.ref dw), some (.ref dt), some (.ref db), some vwy, none, none, none, none, none, none, none] :: cellU (L+1+1+1+1+1) none :: cellU (L+1+1+1+1) none :: cellU (L+1+1+1) (some vy) :: cellU (L+1+1) (some vx) :: cellU (L+1) (some (.ref dc)) :: O)) (P := P') (fun s X => RBool.typeIs r1) rfl (by rw [isSubtype_type]; kernel_rfl)
          exact h
        refine x_nil ?_
        have l1517 := l16.trans l17
        have B17 := B15.up l1517
        have ry17 := RTok.up ry l1517
        have rx17 := RTok.up rx15 l1517
        have rc17 := (RDict PR w (columnsR lead 5)).mono _ _ _ l1517 rc15
        refine x_ifN (c := lessN (wsOf (whole lead d)) (wsOf (whole lead c))) (Ψ := fun P' O' => P17.le P' ∧ ∃ kt, Ents P' (relR (toldL lead) lt ++ [(S [c], RStr (S (lj.filter (fun y => lessN (wsOf (whole lead y)) (wsOf (whole lead c))) ++ [d].filter (fun y => lessN (wsOf (whole lead y)) (wsOf (whole lead c))))))]) kt ∧ O' = it2 :: it :: dictU PR w db kb :: dictU PR w dt kt :: (frameU L LN [some v, some vl, some (.ref dw), some (.ref dt), some (.ref db), some vwy, none, none, none, none, none, none, none] :: cellU (L+1+1+1+1+1) none :: cellU (L+1+1+1+1) none :: cellU (L+1+1+1) (some vy) :: cellU (L+1+1) (some vx) :: cellU (L+1) (some (.ref dc)) :: O))
          (tst_val (ev_local (by walk_at "mem") (by walk_at "has") ((RBool _).mono _ _ _ l17 rwy))) (fun hq P18 l18 => ?_) (fun hq P18 l18 => ?_) ?_
        · refine x_setItem (R1 := RStr (S (lj.filter (fun y => lessN (wsOf (whole lead y)) (wsOf (whole lead c))) ++ [d]))) (R2 := RVal (.ref dt)) (R3 := RStr (S [c])) (Ψ := fun P' O' => P18.le P' ∧ ∃ kt, Ents P' (relR (toldL lead) lt ++ [(S [c], RStr (S (lj.filter (fun y => lessN (wsOf (whole lead y)) (wsOf (whole lead c))) ++ [d])))]) kt ∧ O' = it2 :: it :: dictU PR w db kb :: dictU PR w dt kt :: (frameU L LN [some v, some vl, some (.ref dw), some (.ref dt), some (.ref db), some vwy, none, none, none, none, none, none, none] :: cellU (L+1+1+1+1+1) none :: cellU (L+1+1+1+1) none :: cellU (L+1+1+1) (some vy) :: cellU (L+1+1) (some vx) :: cellU (L+1) (some (.ref dc)) :: O))
            (ev_addS (ev_sub_dictO (ev_local (by walk_at "mem") (by walk_at "has") rfl) (ev_cell (by walk_at "mem") (RTok.str (RTok.up rx17 l18))) (.tail _ (.tail _ (.tail _ (.head _)))) ((ent.mono l1517).mono l18) (look_last (relR_new hnm'))) (ev_cell (by walk_at "mem") (RTok.str (RTok.up ry17 l18))) (by have := List.length_filter_le (fun y => lessN (wsOf (whole lead y)) (wsOf (whole lead c))) lj; simp; omega))
            (ev_local (by walk_at "mem") (by walk_at "has") rfl) (ev_cell (by walk_at "mem") (RTok.str (RTok.up rx17 l18))) (fun P' z v1 u1 lz rz r1 r2 => ?_) ?_
          · obtain rfl : v1 = .ref dt := r1
            refine o_setItem_dict (.tail (.tail (.tail .head))) r2 (by rw [ent.length, List.length_append, List.length_map]; rw [sizeLine_eq]; simp; omega) ⟨lz, _, ?_, rfl⟩
            have := ((((ent.mono l1517).mono l18)).mono lz).put (k := S [c]) rz
            rw [put_last (relR_new hnm')] at this
            exact this
          rintro P19 O' l19 ⟨l19', kt3, ent3, rfl⟩
          refine x_nil ⟨rfl, l18.trans l19, kt3, ?_, rfl⟩
          rw [show [d].filter (fun y => lessN (wsOf (whole lead y)) (wsOf (whole lead c))) = [d] by simp [hq]]
          exact ent3
        · refine x_nil ⟨rfl, l18, kt, ?_, rfl⟩
          rw [show [d].filter (fun y => lessN (wsOf (whole lead y)) (wsOf (whole lead c))) = [] by simp [hq], List.append_nil]
          exact (ent.mono l1517).mono l18
        rintro P18 O' l18 ⟨l18', kt3, ent3, rfl⟩
        have B18 := B17.up l18
        have ry18 := RTok.up ry17 l18
        have rx18 := RTok.up rx17 l18
        have rc18 := (RDict PR w (columnsR lead 5)).mono _ _ _ l18 rc17
        have hcol : ∀ (e : Nat) (k : Nat), k < 6 → ((columnsL (lead e)).map RInt)[((k : Int)).toNat]? = some (RInt ((columnsL (lead e)).getD k 0)) := fun e k hk => by
          have : k < (columnsL (lead e)).length := by simpa [columnsL] using hk
          simp [this]
        refine x_ifN (c := ((List.range 6).filter (colB lead c d)).isEmpty) (Ψ := fun P' O' => P18.le P' ∧ ∃ kb, Ents P' (relR (belowL lead) lt ++ [(S [c], RStr (S (lj.filter (fun y => ((List.range 6).filter (colB lead c y)).isEmpty) ++ [d].filter (fun y => ((List.range 6).filter (colB lead c y)).isEmpty))))]) kb ∧ O' = it2 :: it :: dictU PR w db kb :: dictU PR w dt kt3 :: (frameU L LN [some v, some vl, some (.ref dw), some (.ref dt), some (.ref db), some vwy, none, none, none, none, none, none, none] :: cellU (L+1+1+1+1+1) none :: cellU (L+1+1+1+1) none :: cellU (L+1+1+1) (some vy) :: cellU (L+1+1) (some vx) :: cellU (L+1) (some (.ref dc)) :: O))
          (Tst.of_eq (tst_eqNil hA'.units (ev_compG (d := 0) (R1 := RRange 0 6) (l := List.range 6) (RR := fun k : Nat => RInt (k : Int)) (colB lead c d) (fun k : Nat => RInt (k : Int)) (ev_call (f := .type "range") (Rs := [RInt 6]) (ev_builtin B18 (by with_unfolding_all rfl) (by with_unfolding_all rfl) (by decide)) kept_type (evl_cons ev_int evl_nil) (fun P' vs l rs => ?_)) (fun P' v' l r => ?_) (by rw [sizeLine_eq]; simp) (fun k vk P' u C D acc hk l r => ?_) (fun k vk P' u C D acc hk _ l r => ?_))) (by rw [List.isEmpty_map])) (fun hq P19 l19 => ?_) (fun hq P19 l19 => ?_) ?_
        · obtain ⟨x, rfl, rx⟩ := Reps.one rs
          exact g_range1 rx
        · refine IterOf.items (i_range (n := 6) hA'.none r (by decide) (by decide)) (fun i hi => ?_)
          have hi' : i < 6 := hi
          show RInt (0 + (i : Int)) = RInt (((List.range 6).getD i 0 : Nat) : Int)
          have : (List.range 6).getD i 0 = i := by simp [hi']
          rw [this, Int.zero_add]
        · have hk6 : k < 6 := by simpa using hk
          have rcl := (RDict PR w (columnsR lead 5)).mono _ _ _ l rc18
          exact tl_one (tst_cmp (R1 := RInt ((columnsL (lead d)).getD k 0)) (R2 := RInt ((columnsL (lead c)).getD k 0)) (ev_sub_list (ev_sub_dict (ev_cell (by walk_at "mem") rcl) (ev_cell (by walk_at "mem") (RTok.str (RTok.up ry18 l))) (hlc d hd)) (ev_local (by walk_at "mem") (by walk_at "has") r) (by omega) (by omega) (hcol d k hk6))
            (ev_sub_list (ev_sub_dict (ev_cell (by walk_at "mem") rcl) (ev_cell (by walk_at "mem") (RTok.str (RTok.up rx18 l))) (hlc c hc)) (ev_local (by walk_at "mem") (by walk_at "has") r) (by omega) (by omega) (hcol c k hk6)) (fun P' a b l h1 h2 => g_ge_int h1 h2))
        · exact ev_local (by walk_at "mem") (by walk_at "has") r
        · refine x_setItem (R1 := RStr (S (lj.filter (fun y => ((List.range 6).filter (colB lead c y)).isEmpty) ++ [d]))) (R2 := RVal (.ref db)) (R3 := RStr (S [c])) (Ψ := fun P' O' => P19.le P' ∧ ∃ kb, Ents P' (relR (belowL lead) lt ++ [(S [c], RStr (S (lj.filter (fun y => ((List.range 6).filter (colB lead c y)).isEmpty) ++ [d])))]) kb ∧ O' = it2 :: it :: dictU PR w db kb :: dictU PR w dt kt3 :: (frameU L LN [some v, some vl, some (.ref dw), some (.ref dt), some (.ref db), some vwy, none, none, none, none, none, none, none] :: cellU (L+1+1+1+1+1) none :: cellU (L+1+1+1+1) none :: cellU (L+1+1+1) (some vy) :: cellU (L+1+1) (some vx) :: cellU (L+1) (some (.ref dc)) :: O))
            (ev_addS (ev_sub_dictO (ev_local (by walk_at "mem") (by walk_at "has") rfl) (ev_cell (by walk_at "mem") (RTok.str (RTok.up rx18 l19))) (.tail _ (.tail _ (.head _))) (((enb.mono l1517).mono l18).mono l19) (look_last (relR_new hnm'))) (ev_cell (by walk_at "mem") (RTok.str (RTok.up ry18 l19))) (by have := List.length_filter_le (fun y => ((List.range 6).filter (colB lead c y)).isEmpty) lj; simp only [List.length_cons, List.length_nil]; omega))
            (ev_local (by walk_at "mem") (by walk_at "has") rfl) (ev_cell (by walk_at "mem") (RTok.str (RTok.up rx18 l19))) (fun P' z v1 u1 lz rz r1 r2 => ?_) ?_
          · obtain rfl : v1 = .ref db := r1
            refine o_setItem_dict (.tail (.tail .head)) r2 (by rw [enb.length, List.length_append, List.length_map]; rw [sizeLine_eq]; simp; omega) ⟨lz, _, ?_, rfl⟩
            have := (((((enb.mono l1517).mono l18)).mono l19).mono lz).put (k := S [c]) rz
            rw [put_last (relR_new hnm')] at this
            exact this
          rintro P20 O' l20 ⟨l20', kb3, enb3, rfl⟩
          refine x_nil ⟨rfl, l19.trans l20, kb3, ?_, rfl⟩
          rw [show [d].filter (fun y => ((List.range 6).filter (colB lead c y)).isEmpty) = [d] by rw [List.filter_cons, if_pos hq]; rfl]
          exact enb3
        · refine x_nil ⟨rfl, l19, kb, ?_, rfl⟩
          rw [show [d].filter (fun y => ((List.range 6).filter (colB lead c y)).isEmpty) = [] by rw [List.filter_cons, if_neg (by rw [hq]; decide)]; rfl, List.append_nil]
          exact ((enb.mono l1517).mono l18).mono l19
        rintro P19 O' l19 ⟨l19', kb3, enb3, rfl⟩
        exact x_nil ⟨_, rfl, kt3, kb3, some vwy, some vy, rfl, ent3.mono l19, enb3⟩
      · rintro P14 P15 O' l14 l15 ⟨kt, kb, wy, y, rfl, ent, enb⟩
        rw [show letters.take 5 = letters from rfl] at ent enb
        refine x_nil (x_nil ⟨_, rfl, kt, kb, wy, y, some vx, rfl, ?_, ?_⟩)
        · rw [relR, List.map_append]; exact ent.mono l15
        · rw [relR, List.map_append]; exact enb.mono l15
    · rintro P10 P11 O' l10 l11 ⟨kt, kb, wy, y, x, rfl, ent, enb⟩
      refine x_nil ?_
      rw [show letters.take 5 = letters from rfl] at ent enb
      refine o_freezeDict (O' := dictU PR w dt kt :: (frameU L LN [some v, some vl, some (.ref dw), some (.ref dt), some (.ref db), wy, none, none, none, none, none, none, none] :: cellU (L+1+1+1+1+1) none :: cellU (L+1+1+1+1) none :: cellU (L+1+1+1) (y) :: cellU (L+1+1) (x) :: cellU (L+1) (some (.ref dc)) :: O)) ⟨_, .refl _, rfl⟩ hdb (enb.mono l11) (fun P12 l12 rb => ?_)
      refine o_freezeDict (O' := (frameU L LN [some v, some vl, some (.ref dw), some (.ref dt), some (.ref db), wy, none, none, none, none, none, none, none] :: cellU (L+1+1+1+1+1) none :: cellU (L+1+1+1+1) none :: cellU (L+1+1+1) (y) :: cellU (L+1+1) (x) :: cellU (L+1) (some (.ref dc)) :: O)) ⟨_, .refl _, rfl⟩ hdt ((ent.mono l11).mono l12) (fun P13 l13 rt => ?_)
      replace rb : (RRel PR w (belowL lead)).h P13 (.ref db) := (RDict PR w _).mono _ _ _ l13 rb
      obtain ⟨rel, hr1, hr2, hokr⟩ := hlk.rel
      have hirr : ∀ c ∈ letters, c ∉ rel c := fun c hc q => belowL_irr lead c (by rw [hr2 c hc]; exact q)
      have hRs : ∀ c ∈ letters, ∀ y ∈ rel c, y ∈ letters := fun c hc y hy => by rw [← hr1 c hc] at hy; exact (List.mem_filter.mp hy).1
      have hRl : ∀ c ∈ letters, (rel c).length ≤ 5 := fun c hc => by rw [← hr1 c hc]; exact List.length_filter_le _ _
      replace rt : (RRel PR w rel).h P13 (.ref dt) := by rw [← RRel_eq (w := w) hr1]; exact rt
      replace rb : (RRel PR w rel).h P13 (.ref db) := by rw [← RRel_eq (w := w) hr2]; exact rb
      have B13 := (B9.up (l10.trans l11)).up (l12.trans l13)
      exact law_rest B13 hA' hT hirr hRs hRl hokr rt rb
end
end

section
theorem kf_117 (w : World) : (KF w).lookup 117 = none := by with_unfolding_all rfl
theorem kf_2 (w : World) : ∃ o, (KF w).lookup 2 = some o := ⟨_, by with_unfolding_all rfl⟩
theorem kf_121 (w : World) : ∃ od vs sl, (KF w).lookup 121 = some ⟨.type "code", od, .fields vs, sl⟩ ∧ vs[11]? = some (Value.ref 117) := ⟨_, _, _, by with_unfolding_all rfl, by with_unfolding_all rfl⟩
theorem gl_law (w : World) : nsIn (KF w) mainGlobals ("law" : Str) = some (some (.ref 161)) := by with_unfolding_all rfl
/-- the table of inner codes of add_callers, as the top leaves it -/
theorem tab_117 {w : World} {h : Heap} {mg mb : Str → Option Value} {p : Program} {loose : List Str} {mean : ExcName → Option Value} (X : (KF w).In h) (T : Top p loose mean mg mb h) (hp : ∃ d ∈ recsOf p, d.name = "add_callers") : h.get? 117 = some { cls := .none, data := .fields #[] } := by
  obtain ⟨d, hd, hn⟩ := hp
  obtain ⟨a, o, fd, c, P, e1, e2, e3, e4, _, ⟨o', vs', c1, _, c3, c4⟩, e6⟩ := T.tab d hd
  rw [hn] at e1
  have h1 := mg_of X T.g (gl_add w)
  rw [h1] at e1
  obtain rfl : 122 = a := by injection e1 with q; injection q
  obtain ⟨oc, od, name, doc, pm, an, ct, osl, hK, _⟩ := at_add w
  have h2 := X _ _ hK
  rw [h2] at e2
  obtain rfl := Option.some.inj e2
  obtain rfl : _ = fd := by injection e3
  obtain rfl : 121 = c := by
    have : (Value.ref 121) = .ref c := e4
    injection this
  obtain ⟨od, cvs, sl, k1, k2⟩ := kf_121 w
  have h3 := X _ _ k1
  rw [h3] at c1
  obtain rfl := Option.some.inj c1
  obtain rfl : cvs = vs' := by
    have : Data.fields cvs = .fields vs' := c3
    injection this
  rw [k2] at c4
  obtain rfl : 117 = P := by injection c4 with q; injection q
  exact e6
theorem well_ints {p : Params} {h : Heap} {P : Part} : ∀ {xs : List Int} {vs : List Value}, WellAll p h vs (ofPys (xs.map PyData.int)) → Reps P (xs.map RInt) vs
  | [], [], _ => trivial
  | [], _ :: _, w => by cases w
  | x :: xs, [], w => by cases w
  | x :: xs, v :: vs, w => by
    cases w with
    | cons a b =>
      cases a with
      | int i t => exact ⟨⟨t, rfl⟩, well_ints b⟩
theorem well_list {p : Params} {h : Heap} {l : Addr} {xs : List Int} (w : Well p h (.ref l) (ofPy (PyData.list (xs.map PyData.int)))) :
    ∃ vs : List Value, h.get? l = some ⟨.type "list", none, .seq vs.toArray 0, #[]⟩ ∧ ∀ P, Reps P (xs.map RInt) vs := by
  have w' : Well p h (.ref l) (.list (ofPys (xs.map PyData.int))) := w
  cases w' with
  | list e a => exact ⟨_, e, fun P => well_ints a⟩
theorem law_run (hok : ∀ c0 c1 c2 c3 c4, LeadsOk (leadsL c0 c1 c2 c3 c4)) {w : World} {s : Shared} {mg mb : Str → Option Value} {l : Addr} {xs : List Int} (XF : (KF w).In s.heap) (h117 : s.heap.get? 117 = some { cls := .none, data := .fields #[] }) (hg : s.heap.Ns mainGlobals mg) (hb : s.heap.Ns builtinsNs mb) (hn : s.heap.NoLimit)
    (hbt : ∀ x : Str, x ≠ "__name__" → mb x = bootBuiltins x) (hbm : ∃ bm ob, mg "__builtins__" = some (.ref bm) ∧ bm ≠ builtinsNs ∧ s.heap.get? bm = some ob ∧ ob.cls = .type "module" ∧ ob.dict = some builtinsNs ∧ ob.data = .plain)
    (hgens : s.gens = #[]) (hw : Well w.params s.heap (.ref l) (ofPy (PyData.list (xs.map PyData.int)))) (hx : xs.length ≤ 63) :
    wpAny (model PR w) callerA (call (.ref 161) [.ref l]) (fun v s' => v = .bool true ∧ OldK s.heap s'.heap ∧ s'.os = s.os ∧ AllBare s'.gens) (fun _ _ => False) s := by
  obtain ⟨vs, hl, hr⟩ := well_list hw
  obtain ⟨bm, ob, b1, b2, b3, b4, b5, b6⟩ := hbm
  obtain ⟨mc, hc, hc2⟩ := hn
  have ne : ∀ {a : Addr} {o : Obj}, s.heap.get? a = some o → o.data ≠ .fields #[] → a ≠ 117 := fun e hd q => by
    subst q; rw [h117] at e; cases e; exact hd rfl
  let P : Part := ⟨fun a => if a = 117 then none else s.heap.get? a, s.os, s.toks⟩
  have getP : ∀ {a : Addr} {o : Obj}, s.heap.get? a = some o → a ≠ 117 → P.get a = some o := fun e q => by show (if _ = 117 then none else _) = _; rw [if_neg q]; exact e
  have nsP : ∀ {a : Addr} {m : Str → Option Value}, s.heap.Ns a m → PNs P a m := fun ⟨o, es, ep, e, d, r⟩ => ⟨o, es, ep, getP e (ne e (by rw [d]; nofun)), d, r⟩
  have XS : Sat P [tabU 117] s := by
    refine ⟨fun a o e => ?_, fun u hu => ?_, ?_, fun a ha => ?_, .of_eq hgens, rfl, Nat.le_refl _, ?_⟩
    · have e' : (if a = 117 then none else s.heap.get? a) = some o := e
      by_cases q : a = 117
      · rw [if_pos q] at e'; cases e'
      · rw [if_neg q] at e'; exact e'
    · rw [List.mem_singleton.mp hu]
      exact ⟨#[], h117, by trivial⟩
    · exact List.nodup_cons.mpr ⟨by simp, .nil⟩
    · have ha' : a ∈ [117] := ha
      rw [List.mem_singleton.mp ha']
      show (if (117 : Addr) = 117 then none else s.heap.get? 117) = none
      exact if_pos rfl
    · obtain ⟨o, e⟩ := kf_2 w
      exact ⟨o, getP (XF _ _ e) (by decide)⟩
  have B : Bg0 (KF w) P := by
    refine ⟨mg, mb, mc, bm, ob, fun a o e => getP (XF _ _ e) (fun q => by subst q; rw [kf_117] at e; cases e), nsP hg, nsP hb, hbt, ⟨nsP hc, hc2⟩, b1, b2, getP b3 (ne b3 (by rw [b6]; nofun)), b4, b5, b6⟩
  have hA : Fit 30 callerA := ⟨rfl, by decide, by decide⟩
  have hv : (RList (xs.map RInt)).h P (.ref l) := ⟨l, vs.toArray, 0, rfl, getP hl (ne hl (by nofun)), by simpa using hr P⟩
  refine wpAny_mono ((law_spec B hA (O := [tabU 117]) (.head _) hx hok hv).run s XS) (fun v s' ⟨P', O', le, Y, e, r⟩ => ?_) fun _ _ e => e
  subst e
  obtain ⟨ps, e117, _⟩ := Y.own _ (.head _)
  refine ⟨r, ⟨fun b o e => ?_, fun b o e => ?_⟩, Y.os.trans le.1.1, Y.gens⟩
  · by_cases q : b = 117
    · subst q
      rw [h117] at e; cases e
      refine .inr (.inl ⟨?_, rfl, #[], ps, rfl, by rw [e117]; simp⟩)
      obtain ⟨od, cvs, sl, e1, e2⟩ := kf_121 w
      exact (show s.heap.TableAt 121 117 #[] from ⟨⟨_, cvs, XF _ _ e1, rfl, rfl, e2⟩, h117⟩).isCodeTable
    · exact .inl (Y.per _ _ (le.2 _ _ (getP e q)))
  · by_cases q : b = 117
    · subst q; exact ⟨_, e117⟩
    · exact ⟨o, Y.per _ _ (le.2 _ _ (getP e q))⟩
end

section
/-- an order of the leads, by seven choices -/
noncomputable def ltC (o1 o2 o3 o4 o5 o6 o7 : Nat) (x y : Nat) : Bool :=
  if x = 97 then (if y = 98 then true else if y = 99 then true else if y = 100 then Nat.beq o2 1 else if y = 101 then Nat.beq o3 1 else false)
  else if x = 98 then (if y = 99 then Nat.beq o1 1 else if y = 100 then Nat.beq o4 1 else if y = 101 then Nat.beq o5 1 else false)
  else if x = 99 then (if y = 98 then Nat.beq o1 2 else if y = 100 then Nat.beq o6 1 else if y = 101 then Nat.beq o7 1 else false)
  else if x = 100 then (if y = 101 then true else if y = 97 then Nat.beq o2 2 else if y = 98 then Nat.beq o4 2 else if y = 99 then Nat.beq o6 2 else false)
  else (if y = 97 then Nat.beq o3 2 else if y = 98 then Nat.beq o5 2 else if y = 99 then Nat.beq o7 2 else false)
noncomputable def transOk (lt : Nat → Nat → Bool) : Bool := letters.all fun x => letters.all fun y => !(lt x y) || letters.all fun z => !(lt y z) || lt x z
noncomputable def relOf (lt : Nat → Nat → Bool) (x : Nat) : List Nat := letters.filter fun y => lt y x
noncomputable def chkC (o1 o2 o3 o4 o5 o6 o7 : Nat) : Bool := !(transOk (ltC o1 o2 o3 o4 o5 o6 o7)) || okRel (relOf (ltC o1 o2 o3 o4 o5 o6 o7))
noncomputable def three : List Nat := [0, 1, 2]
/-- all orders of the leads: their tables are as they are due -/
theorem chk_00 : (three.all fun o3 => three.all fun o4 => three.all fun o5 => three.all fun o6 => three.all fun o7 => chkC 0 0 o3 o4 o5 o6 o7) = true := by decide +kernel
theorem chk_01 : (three.all fun o3 => three.all fun o4 => three.all fun o5 => three.all fun o6 => three.all fun o7 => chkC 0 1 o3 o4 o5 o6 o7) = true := by decide +kernel
theorem chk_02 : (three.all fun o3 => three.all fun o4 => three.all fun o5 => three.all fun o6 => three.all fun o7 => chkC 0 2 o3 o4 o5 o6 o7) = true := by decide +kernel
theorem chk_10 : (three.all fun o3 => three.all fun o4 => three.all fun o5 => three.all fun o6 => three.all fun o7 => chkC 1 0 o3 o4 o5 o6 o7) = true := by decide +kernel
theorem chk_11 : (three.all fun o3 => three.all fun o4 => three.all fun o5 => three.all fun o6 => three.all fun o7 => chkC 1 1 o3 o4 o5 o6 o7) = true := by decide +kernel
theorem chk_12 : (three.all fun o3 => three.all fun o4 => three.all fun o5 => three.all fun o6 => three.all fun o7 => chkC 1 2 o3 o4 o5 o6 o7) = true := by decide +kernel
theorem chk_20 : (three.all fun o3 => three.all fun o4 => three.all fun o5 => three.all fun o6 => three.all fun o7 => chkC 2 0 o3 o4 o5 o6 o7) = true := by decide +kernel
theorem chk_21 : (three.all fun o3 => three.all fun o4 => three.all fun o5 => three.all fun o6 => three.all fun o7 => chkC 2 1 o3 o4 o5 o6 o7) = true := by decide +kernel
theorem chk_22 : (three.all fun o3 => three.all fun o4 => three.all fun o5 => three.all fun o6 => three.all fun o7 => chkC 2 2 o3 o4 o5 o6 o7) = true := by decide +kernel
theorem chk_all : ∀ o1 ∈ three, ∀ o2 ∈ three, ∀ o3 ∈ three, ∀ o4 ∈ three, ∀ o5 ∈ three, ∀ o6 ∈ three, ∀ o7 ∈ three, chkC o1 o2 o3 o4 o5 o6 o7 = true := by
  have go : ∀ {o1 o2 : Nat}, (three.all fun o3 => three.all fun o4 => three.all fun o5 => three.all fun o6 => three.all fun o7 => chkC o1 o2 o3 o4 o5 o6 o7) = true → ∀ o3 ∈ three, ∀ o4 ∈ three, ∀ o5 ∈ three, ∀ o6 ∈ three, ∀ o7 ∈ three, chkC o1 o2 o3 o4 o5 o6 o7 = true :=
    fun h o3 h3 o4 h4 o5 h5 o6 h6 o7 h7 => List.all_eq_true.mp (List.all_eq_true.mp (List.all_eq_true.mp (List.all_eq_true.mp (List.all_eq_true.mp h o3 h3) o4 h4) o5 h5) o6 h6) o7 h7
  intro o1 h1 o2 h2
  have e1 : o1 = 0 ∨ o1 = 1 ∨ o1 = 2 := by simpa [three] using h1
  have e2 : o2 = 0 ∨ o2 = 1 ∨ o2 = 2 := by simpa [three] using h2
  rcases e1 with rfl | rfl | rfl <;> rcases e2 with rfl | rfl | rfl
  · exact go chk_00
  · exact go chk_01
  · exact go chk_02
  · exact go chk_10
  · exact go chk_11
  · exact go chk_12
  · exact go chk_20
  · exact go chk_21
  · exact go chk_22
/-- which choice a relation makes of two leads -/
noncomputable def pick (lt : Nat → Nat → Bool) (x y : Nat) : Nat := if lt x y = true then 1 else if lt y x = true then 2 else 0
theorem pick_three (lt : Nat → Nat → Bool) (x y : Nat) : pick lt x y ∈ three := by
  unfold pick; split
  · decide
  · split <;> decide
set_option maxHeartbeats 4000000 in
/-- every order with a below b and c, and d below e, is one of them -/
theorem ok_of_lt {lt : Nat → Nat → Bool} (irr : ∀ x, lt x x = false) (tr : ∀ x y z, lt x y = true → lt y z = true → lt x z = true) (hab : lt 97 98 = true) (hac : lt 97 99 = true) (hde : lt 100 101 = true) :
    ∃ rel : Nat → List Nat, (∀ x ∈ letters, relOf lt x = rel x) ∧ okRel rel = true := by
  have asym : ∀ x y, lt x y = true → lt y x = false := fun x y h => by
    cases q : lt y x with
    | false => rfl
    | true => have := tr x y x h q; rw [irr] at this; cases this
  have p1 : ∀ x y, Nat.beq (pick lt x y) 1 = lt x y := fun x y => by
    unfold pick
    cases q : lt x y with
    | true => rfl
    | false =>
      cases q2 : lt y x with
      | true => rfl
      | false => rfl
  have p2 : ∀ x y, Nat.beq (pick lt x y) 2 = lt y x := fun x y => by
    unfold pick
    cases q : lt x y with
    | true => rw [asym x y q]; rfl
    | false =>
      cases q2 : lt y x with
      | true => rfl
      | false => rfl
  have same : ∀ x ∈ letters, ∀ y ∈ letters, ltC (pick lt 98 99) (pick lt 97 100) (pick lt 97 101) (pick lt 98 100) (pick lt 98 101) (pick lt 99 100) (pick lt 99 101) x y = lt x y := by
    intro x hx y hy
    have ex : x = 97 ∨ x = 98 ∨ x = 99 ∨ x = 100 ∨ x = 101 := by simpa [letters] using hx
    have ey : y = 97 ∨ y = 98 ∨ y = 99 ∨ y = 100 ∨ y = 101 := by simpa [letters] using hy
    rcases ex with rfl | rfl | rfl | rfl | rfl <;> rcases ey with rfl | rfl | rfl | rfl | rfl <;> simp [ltC, p1, p2, irr, hab, hac, hde, asym 97 98 hab, asym 97 99 hac, asym 100 101 hde]
  refine ⟨relOf (ltC (pick lt 98 99) (pick lt 97 100) (pick lt 97 101) (pick lt 98 100) (pick lt 98 101) (pick lt 99 100) (pick lt 99 101)), fun x hx => List.filter_congr fun y hy => (same y hy x hx).symm, ?_⟩
  have h := chk_all _ (pick_three lt 98 99) _ (pick_three lt 97 100) _ (pick_three lt 97 101) _ (pick_three lt 98 100) _ (pick_three lt 98 101) _ (pick_three lt 99 100) _ (pick_three lt 99 101)
  unfold chkC at h
  have ht : transOk (ltC (pick lt 98 99) (pick lt 97 100) (pick lt 97 101) (pick lt 98 100) (pick lt 98 101) (pick lt 99 100) (pick lt 99 101)) = true := by
    unfold transOk
    refine List.all_eq_true.mpr fun x hx => List.all_eq_true.mpr fun y hy => ?_
    rw [same x hx y hy]
    cases q : lt x y with
    | false => rfl
    | true =>
      refine List.all_eq_true.mpr fun z hz => ?_
      rw [same y hy z hz, same x hx z hz]
      cases q2 : lt y z with
      | false => rfl
      | true => rw [tr x y z q q2]; rfl
  rw [ht, Bool.not_true, Bool.false_or] at h
  exact h
end

section
noncomputable def bareN (i j k : Nat) : List Nat := List.replicate i 32 ++ List.replicate j 9 ++ List.replicate k 32
noncomputable def bares : List (List Nat) := [0, 1, 2].flatMap fun i => [0, 1, 2].flatMap fun j => [0, 1].map fun k => bareN i j k
/-- all leads that there are -/
noncomputable def allU : List (List Nat) := [[], [32], [32, 32], [9], [32, 9], [32, 32, 9], [9, 9], [32, 9, 9], [32, 32, 9, 9], [32, 32, 32], [9, 32], [32, 9, 32], [32, 32, 9, 32], [9, 9, 32], [32, 9, 9, 32], [32, 32, 9, 9, 32], [32, 32, 32, 32], [9, 32, 32], [32, 9, 32, 32], [32, 32, 9, 32, 32], [9, 9, 32, 32], [32, 9, 9, 32, 32], [32, 32, 9, 9, 32, 32], [9, 9, 9], [32, 9, 9, 9], [32, 32, 9, 9, 9], [32, 32, 32, 9], [9, 32, 9], [32, 9, 32, 9], [32, 32, 9, 32, 9], [9, 9, 32, 9], [32, 9, 9, 32, 9], [32, 32, 9, 9, 32, 9], [32, 32, 32, 32, 32], [9, 32, 32, 32], [32, 9, 32, 32, 32], [32, 32, 9, 32, 32, 32], [9, 9, 32, 32, 32], [32, 9, 9, 32, 32, 32], [32, 32, 9, 9, 32, 32, 32], [32, 32, 32, 32, 9], [9, 32, 32, 9], [32, 9, 32, 32, 9], [32, 32, 9, 32, 32, 9], [9, 9, 32, 32, 9], [32, 9, 9, 32, 32, 9], [32, 32, 9, 9, 32, 32, 9], [9, 9, 9, 32], [32, 9, 9, 9, 32], [32, 32, 9, 9, 9, 32], [32, 32, 32, 9, 32], [9, 32, 9, 32], [32, 9, 32, 9, 32], [32, 32, 9, 32, 9, 32], [9, 9, 32, 9, 32], [32, 9, 9, 32, 9, 32], [32, 32, 9, 9, 32, 9, 32], [9, 9, 9, 9], [32, 9, 9, 9, 9], [32, 32, 9, 9, 9, 9], [32, 32, 32, 9, 9], [9, 32, 9, 9], [32, 9, 32, 9, 9], [32, 32, 9, 32, 9, 9], [9, 9, 32, 9, 9], [32, 9, 9, 32, 9, 9], [32, 32, 9, 9, 32, 9, 9], [32, 32, 32, 32, 32, 9], [9, 32, 32, 32, 9], [32, 9, 32, 32, 32, 9], [32, 32, 9, 32, 32, 32, 9], [9, 9, 32, 32, 32, 9], [32, 9, 9, 32, 32, 32, 9], [32, 32, 9, 9, 32, 32, 32, 9]]
/-- less, by the columns -/
noncomputable def lessC (X Y : List Nat) : Bool := ((List.range 6).filter fun k => decide ((columnsL Y).getD k 0 ≤ (columnsL X).getD k 0)).isEmpty
theorem u_pairs : (allU.all fun X => allU.all fun Y => lessN (wsOf X) (wsOf Y) == lessC X Y) = true := by decide +kernel
theorem u_has : (([] :: moreT).all fun m => bares.all fun b => allU.contains (b ++ m)) = true := by decide +kernel
theorem u_small : (allU.all fun X => decide (X.length ≤ 20) && X.all (fun y => decide (y = 32) || decide (y = 9)) && decide ((wsOf X).b ≤ 1000) && decide ((wsOf X).cnt.length ≤ 1000)) = true := by decide +kernel
theorem u_simple : (allU.all fun X => decide ((wsOf X).cnt.length ≤ 1) == !(occ (S X) (S [32, 9]))) = true := by decide +kernel
theorem u_more : (bares.all fun b => moreT.all fun m => lessC b (b ++ m)) = true := by decide +kernel

theorem bareL_mem (c : Int) : bareL c ∈ bares := by
  have h1 := fmod_range c 3 (by decide)
  have h2 := fmod_range (c.fdiv 3) 3 (by decide)
  have h3 := fmod_range (c.fdiv 9) 2 (by decide)
  have e : bareL c = bareN (c.fmod 3).toNat ((c.fdiv 3).fmod 3).toNat ((c.fdiv 9).fmod 2).toNat := rfl
  rw [e]
  refine List.mem_flatMap.mpr ⟨(c.fmod 3).toNat, ?_, List.mem_flatMap.mpr ⟨((c.fdiv 3).fmod 3).toNat, ?_, List.mem_map.mpr ⟨((c.fdiv 9).fmod 2).toNat, ?_, rfl⟩⟩⟩
  · simp; omega
  · simp; omega
  · simp; omega
theorem moreL_mem (c : Int) : moreL c ∈ moreT := by
  obtain ⟨l, e, h, _⟩ := moreL_get c
  rw [h]; exact List.mem_of_getElem? e
theorem u_mem {b m : List Nat} (hb : b ∈ bares) (hm : m ∈ [] :: moreT) : b ++ m ∈ allU := by
  have := List.all_eq_true.mp (List.all_eq_true.mp u_has m hm) b hb
  exact List.contains_iff_mem.mp this
theorem lead_mem (c0 c1 c2 c3 c4 : Int) : ∀ x, leadsL c0 c1 c2 c3 c4 x ∈ allU := fun x => by
  unfold leadsL
  split
  · have := u_mem (bareL_mem c0) (.head _); rwa [List.append_nil] at this
  split
  · exact u_mem (bareL_mem c0) (.tail _ (moreL_mem c1))
  split
  · exact u_mem (bareL_mem c0) (.tail _ (moreL_mem c2))
  split
  · have := u_mem (bareL_mem c3) (.head _); rwa [List.append_nil] at this
  · exact u_mem (bareL_mem c3) (.tail _ (moreL_mem c4))

/-- behind the blanks and tabs nothing counts -/
theorem wsRun_tail : ∀ (l : List Nat) (st : WS) (r : List Nat), (∀ y ∈ l, y = 32 ∨ y = 9) → (r = [] ∨ ∃ q, r = 120 :: q) → wsRun (l ++ r) st = wsRun l st
  | [], st, r, _, h => by
    rcases h with rfl | ⟨q, rfl⟩
    · rfl
    · show wsRun (120 :: q) st = st
      unfold wsRun; rfl
  | c :: l, st, r, hl, h => by
    have ih := fun st => wsRun_tail l st r (fun y hy => hl y (.tail _ hy)) h
    rw [List.cons_append]
    unfold wsRun
    split
    · exact ih _
    · split
      · exact ih _
      · rfl
theorem tail_kind : ∀ c, tailL c = [] ∨ ∃ q, tailL c = 120 :: q := fun c => by
  unfold tailL
  cases letters.idxOf c with
  | zero => exact .inl rfl
  | succ n => exact .inr ⟨_, rfl⟩
theorem u_blank {X : List Nat} (h : X ∈ allU) : X.length ≤ 20 ∧ (∀ y ∈ X, y = 32 ∨ y = 9) ∧ (wsOf X).b ≤ 1000 ∧ (wsOf X).cnt.length ≤ 1000 := by
  have := List.all_eq_true.mp u_small X h
  simp only [Bool.and_eq_true, decide_eq_true_eq] at this
  obtain ⟨⟨⟨a, b⟩, c⟩, d⟩ := this
  refine ⟨a, fun y hy => ?_, c, d⟩
  have := List.all_eq_true.mp b y hy
  simpa using this
theorem whole_ws {lead : Nat → List Nat} (h : ∀ x, lead x ∈ allU) (c : Nat) : wsOf (whole lead c) = wsOf (lead c) := wsRun_tail _ _ _ (u_blank (h c)).2.1 (tail_kind c)
theorem lessC_iff (X Y : List Nat) : lessC X Y = true ↔ ∀ k < 6, (columnsL X).getD k 0 < (columnsL Y).getD k 0 := by
  unfold lessC
  rw [List.isEmpty_iff, List.filter_eq_nil_iff]
  constructor
  · intro h k hk
    have := h k (List.mem_range.mpr hk)
    simp only [decide_eq_true_eq] at this; omega
  · intro h k hk
    have := h k (List.mem_range.mp hk)
    simp only [decide_eq_true_eq]; omega

/-- the plain law -/
theorem leads_ok : ∀ c0 c1 c2 c3 c4, LeadsOk (leadsL c0 c1 c2 c3 c4) := fun c0 c1 c2 c3 c4 => by
  have hm := lead_mem c0 c1 c2 c3 c4
  have hab : lessC (leadsL c0 c1 c2 c3 c4 97) (leadsL c0 c1 c2 c3 c4 98) = true := List.all_eq_true.mp (List.all_eq_true.mp u_more _ (bareL_mem c0)) _ (moreL_mem c1)
  have hac : lessC (leadsL c0 c1 c2 c3 c4 97) (leadsL c0 c1 c2 c3 c4 99) = true := List.all_eq_true.mp (List.all_eq_true.mp u_more _ (bareL_mem c0)) _ (moreL_mem c2)
  have hde : lessC (leadsL c0 c1 c2 c3 c4 100) (leadsL c0 c1 c2 c3 c4 101) = true := List.all_eq_true.mp (List.all_eq_true.mp u_more _ (bareL_mem c3)) _ (moreL_mem c4)
  generalize leadsL c0 c1 c2 c3 c4 = lead at hm hab hac hde ⊢
  obtain ⟨rel, h1, h2⟩ := ok_of_lt (lt := fun x y => lessC (lead x) (lead y)) (fun x => by
      cases q : lessC (lead x) (lead x) with
      | false => rfl
      | true => have := (lessC_iff _ _).mp q 0 (by decide); omega)
    (fun x y z a b => (lessC_iff _ _).mpr fun k hk => Int.lt_trans ((lessC_iff _ _).mp a k hk) ((lessC_iff _ _).mp b k hk)) hab hac hde
  refine ⟨fun c _ => (u_blank (hm c)).1, fun c _ y hy => ?_, fun c _ => ?_, fun c _ => ?_, rel, fun c hc => ?_, fun c hc => ?_, h2⟩
  · rcases (u_blank (hm c)).2.1 y hy with e | e <;> omega
  · rw [whole_ws hm]; exact (u_blank (hm c)).2.2
  · rw [whole_ws hm]
    exact beq_iff_eq.mp (List.all_eq_true.mp u_simple _ (hm c))
  · rw [← h1 c hc]
    refine List.filter_congr fun y hy => ?_
    rw [whole_ws hm, whole_ws hm]
    exact beq_iff_eq.mp (List.all_eq_true.mp (List.all_eq_true.mp u_pairs _ (hm y)) _ (hm c))
  · rw [← h1 c hc]; rfl
end

section
/-- the defs and the class that the law's claim speaks of -/
def viewK : Program := { PR with main := { PR.main with body := [0, 2, 4, 5, 6, 7, 9, 10, 12, 13, 14, 15, 16, 17].map topStmt } }
abbrev rowK : RowW := PySem.Challenge.rw_jc0027_01.row.toRowW
noncomputable abbrev hookK : Hook := kHook fragK addrK addrK_eq
theorem said : PySem.Challenge.rw_jc0027_01.wellSaid = true := by kernel_rfl
/-- what is seen of the top's run in a world -/
noncomputable abbrev leftP (w : World) : Prop := (openEnds treeTable rowK.prog w 1940).map (fun s => (openSeen viewK [Str.ofString "Whitespace"] (importedModules rowK.prog.main.body) (fun s => xlAt viewK [] s && recOk rowK.records s) true s, hookK.obs s)) = some (openGood viewK [Str.ofString "Whitespace"], hookK.val w)
theorem left_f (w : World) : leftP (w.withFollow "special-get-raises" false) := by kernel_rfl
theorem left_t (w : World) : leftP (w.withFollow "special-get-raises" true) := by kernel_rfl
/-- the top's run, in both of its worlds -/
theorem leftK : LeftO rowK.prog viewK [Str.ofString "Whitespace"] (fun s => xlAt viewK [] s && recOk rowK.records s) (Hook.obs hookK) (Hook.val hookK) 1940 :=
  byRow2 (P := leftP) "special-get-raises" left_f left_t
theorem k_ok : (chainsOk viewK && opensWell PySem.Challenge.rw_jc0027_01.row.prog && (frees rowK && rowK.within.isEmpty)) = true := by decide +kernel
theorem k_bare : rowK.prog.bare := ⟨rfl, rfl, rfl, rfl, rfl, by decide +kernel⟩
theorem k_prom : rowK.promised := by w_witness2
end

section
theorem has_add : ∃ d ∈ recsOf viewK, d.name = "add_callers" := by
  have h : ((recsOf viewK).any fun d => d.name == "add_callers") = true := by decide +kernel
  obtain ⟨d, h1, h2⟩ := List.any_eq_true.mp h
  exact ⟨d, h1, beq_iff_eq.mp h2⟩
theorem law_holds : PySem.Challenge.rw_jc0027_01.Holds := by
  w_on
  refine holds_law said fun sd => ?_
  refine holds_open (q := viewK) (loose := [Str.ofString "Whitespace"]) (Xt := fun s => xlAt viewK [] s && recOk rowK.records s) (XP := XL viewK []) (Yf := Hook.obs hookK) (Ya := Hook.val hookK) (YP := Hook.says hookK) (N := 1940) leftK (Hook.of hookK) (Hook.keeps hookK)
    (fun s e => xl_of s (Bool.and_eq_true_iff.mp e).1) XL.keeps (by rfl) (by rfl) (by rfl) (fun s e => recFacts_of (Bool.and_eq_true_iff.mp e).2) (by rfl) sd k_ok k_bare k_prom ?hc
  case hc =>
  intro w s₀ s₁ mg mb G Y fa o pm cd doc dV kV ho hdo hcd hD hmg hg args vals as hpre hlay hrd hwl hlo
  have X : (KF w).In s₁.heap := kIn_of Y
  refine Ground.open G ?_
  intro T B D TE TW
  clear D TE TW B
  wrow_args hpre hlay hrd hwl hlo
  rename_i xs _ _ _ _ _ l _ _ _ _ hw _ _ _ hlen _
  have efa : fa = 161 := by
    have h1 := mg_of X T.g (gl_law w)
    have h2 : mg "law" = some (.ref fa) := hmg
    exact (Value.ref.inj (Option.some.inj (h1.symm.trans h2))).symm
  subst efa
  have hbm := T.bmain
  refine wpAny_mono (law_run leads_ok X (tab_117 X T has_add) T.g T.b T.nolimit T.builtins hbm hg hw (by omega)) (fun v s' ⟨e, ho, hs, hgs⟩ => ?_) fun _ _ e => e.elim
  subst e
  exact ⟨.inl ⟨.bool true, .bool true, [], rfl, raisesW_false (by wrow_none_raised), .bool true, postW_of (by wrow_shape) (by wtm_val) (by first | done | w_fin), fun _ => ⟨.nil, fun a h => nomatch h⟩⟩, ho, hs, hgs⟩
end

end Mine
theorem PySem.Challenge.cw_jc0027_01_holds : PySem.Challenge.rw_jc0027_01.Holds :=
  Mine.law_holds
