import PyProof.Rows.All
import Wide.All
import OpenK.AllK
import Wide.FinOn
import PyProof.SetScanFacts
import PyProof.Walks
import PyProof.Rows.SetFrom
import Lean
import PySem.Challenge.RW_bn5036_01
set_option Elab.async false
section
open PySem PySem.W PyProof.Rows
set_option maxRecDepth 100000
set_option maxHeartbeats 8000000
namespace Mine
open_top hd for PySem.Challenge.rw_bn5036_01
end Mine
end
section
open PySem PySem.W PySem.Calls PyProof.Rows
set_option maxRecDepth 100000
set_option autoImplicit false
set_option linter.unusedVariables false
namespace Mine

/-! ## Views, frames -/
abbrev View := Addr → Option Obj
noncomputable def View.le (V W : View) : Prop := ∀ a o, V a = some o → W a = some o
theorem View.le.refl (V : View) : V.le V := fun _ _ h => h
theorem View.le.trans {U V W : View} (a : U.le V) (b : V.le W) : U.le W := fun _ _ h => b _ _ (a _ _ h)
noncomputable def hv (h : Heap) : View := fun a => h.get? a
/-- the union, the first wins -/
noncomputable def View.or (V W : View) : View := fun a => (V a).or (W a)
theorem View.le_or (V W : View) : V.le (V.or W) := fun a o h => by simp [View.or, h]
/-- the part from n on -/
noncomputable def View.from (V : View) (n : Nat) : View := fun a => if n ≤ a then V a else none
theorem View.from_le (V : View) (n : Nat) : (V.from n).le V := fun a o h => by
  unfold View.from at h; split at h
  · exact h
  · cases h
theorem View.from_mono {V W : View} (h : V.le W) (n : Nat) : (V.from n).le (W.from n) := fun a o e => by
  unfold View.from at *; split at e
  · rename_i x; rw [if_pos x]; exact h _ _ e
  · cases e
theorem View.from_anti {V : View} {n m : Nat} (h : m ≤ n) : (V.from n).le (V.from m) := fun a o e => by
  unfold View.from at *; split at e
  · rw [if_pos (by omega)]; exact e
  · cases e
theorem View.from_at {V : View} {n a : Nat} {o : Obj} (h : V a = some o) (k : n ≤ a) : V.from n a = some o := by
  unfold View.from; rw [if_pos k]; exact h

noncomputable def locs : List Str → List (Option Value) → Str → Option Value
  | n :: ns, v :: vs, x => if x = n then v else locs ns vs x
  | _, _, _ => none

inductive LocAt : List Str → List (Option Value) → Str → Value → Prop
  | head {x ns v vs} : LocAt (x :: ns) (some v :: vs) x v
  | tail {x y ns v u vs} : LocAt ns vs x v → LocAt (y :: ns) (u :: vs) x v
inductive LocPut : List Str → List (Option Value) → Str → Value → List (Option Value) → Prop
  | head {x ns v u vs} : LocPut (x :: ns) (u :: vs) x v (some v :: vs)
  | tail {x y ns v u vs vs'} : LocPut ns vs x v vs' → LocPut (y :: ns) (u :: vs) x v (u :: vs')

theorem LocAt.mem {ns vs x v} (h : LocAt ns vs x v) : x ∈ ns := by
  induction h with
  | head => simp
  | tail _ ih => simp [ih]
theorem LocPut.mem {ns vs x v vs'} (h : LocPut ns vs x v vs') : x ∈ ns := by
  induction h with
  | head => simp
  | tail _ ih => simp [ih]
theorem LocAt.locs {ns vs x v} (nd : ns.Nodup) (h : LocAt ns vs x v) : locs ns vs x = some v := by
  induction h with
  | head => simp [Mine.locs]
  | tail h ih =>
    rw [List.nodup_cons] at nd
    rename_i x y ns v u vs
    have : ¬ (x = y) := fun e => nd.1 (e ▸ h.mem)
    rw [Mine.locs, if_neg this]; exact ih nd.2
theorem LocPut.locs {ns vs x v vs'} (nd : ns.Nodup) (h : LocPut ns vs x v vs') : (fun y => if y = x then some v else locs ns vs y) = locs ns vs' := by
  induction h with
  | head =>
    funext y
    simp only [Mine.locs]
    split <;> rfl
  | tail h ih =>
    rename_i x y ns v u vs vs'
    rw [List.nodup_cons] at nd
    have hn : ¬ (x = y) := fun e => nd.1 (e ▸ h.mem)
    have ih' := ih nd.2
    funext z
    simp only [Mine.locs]
    by_cases hz : z = x
    · subst hz; rw [if_pos rfl, if_neg hn, ← ih']; simp
    · rw [if_neg hz]
      by_cases hy : z = y
      · rw [if_pos hy, if_pos hy]
      · rw [if_neg hy, if_neg hy, ← ih']; simp [hz]

/-! ## The context -/
abbrev P0 : Program := PySem.Challenge.pw_bn5036_01
noncomputable abbrev KF (w : World) : Frag := hd.heap_39 w.params
structure Cx (w : World) (h : Heap) : Prop where
  K : (KF w).In h
  T : ∃ mg mb, TopRead hd.view_39 (looseW hd.view_39 [Str.ofString "OrderedSet", Str.ofString "sort"]) mg mb h
theorem Cx.keeps {w : World} {h h' : Heap} (C : Cx w h) (hk : ∀ b o, h.get? b = some o → h'.get? b = some o) : Cx w h' :=
  ⟨C.K.keeps hk, let ⟨mg, mb, T⟩ := C.T; ⟨mg, mb, T.keeps hk⟩⟩
theorem Cx.nolimit {w : World} {h : Heap} (C : Cx w h) : h.NoLimit := let ⟨_, _, T⟩ := C.T; T.nolimit
noncomputable def CxV (w : World) (V : View) : Prop := ∃ h₀, Cx w h₀ ∧ (hv h₀).le V
theorem CxV.mono {w : World} {V W : View} (C : CxV w V) (h : V.le W) : CxV w W := let ⟨h₀, a, b⟩ := C; ⟨h₀, a, b.trans h⟩
theorem CxV.at {w : World} {V : View} {h : Heap} (C : CxV w V) (k : V.le (hv h)) : Cx w h := let ⟨_, a, b⟩ := C; a.keeps (b.trans k)

noncomputable def Keeps (h h' : Heap) : Prop := ∀ b o, h.get? b = some o → h'.get? b = some o
theorem Keeps.refl (h : Heap) : Keeps h h := fun _ _ e => e
theorem Keeps.trans {a b c : Heap} (x : Keeps a b) (y : Keeps b c) : Keeps a c := fun _ _ e => y _ _ (x _ _ e)
theorem Keeps.push (h : Heap) (o : Obj) : Keeps h (h.push o) := fun _ _ e => Heap.get?_push_of_some _ e

/-- a kept thing: an address, and what its object is like -/
abbrev Kp := Addr × (Obj → Prop)
noncomputable def HasP (h : Heap) (p : Kp) : Prop := ∃ o, h.get? p.1 = some o ∧ p.2 o
theorem HasP.keeps {h h' : Heap} {p : Kp} (x : HasP h p) (k : ∀ o, h.get? p.1 = some o → h'.get? p.1 = some o) : HasP h' p := let ⟨o, a, b⟩ := x; ⟨o, k o a, b⟩
theorem HasP.lt {h : Heap} {p : Kp} (x : HasP h p) : p.1 < h.objs.size := let ⟨_, a, _⟩ := x; Heap.lt_size a

structure Fm (w : World) (G : Array GenState) (O : OsState) (V : View) (L : Addr) (ns : List Str) (vs : List (Option Value)) (own : List Kp) (s : Shared) : Prop where
  cx : CxV w V
  gens : s.gens = G
  os : s.os = O
  hns : s.heap.Ns L (locs ns vs)
  nn : ns.Nodup
  view : V.le (hv s.heap)
  hown : ∀ p ∈ own, HasP s.heap p
  vL : V L = none
  oL : ∀ p ∈ own, p.1 ≠ L
  vo : ∀ p ∈ own, V p.1 = none
  nd : (own.map (·.1)).Nodup

section
variable {w : World} {G : Array GenState} {O : OsState} {V : View} {L : Addr} {ns : List Str} {vs : List (Option Value)} {own : List Kp} {s : Shared}

theorem Fm.tok (F : Fm w G O V L ns vs own s) (t : Nat) : Fm w G O V L ns vs own { s with toks := t } :=
  ⟨F.cx, F.gens, F.os, F.hns, F.nn, F.view, F.hown, F.vL, F.oL, F.vo, F.nd⟩
theorem Fm.any (F : Fm w G O V L ns vs own s) {s' : Shared} (h : s'.heap = s.heap) (g : s'.gens = s.gens) (o : s'.os = s.os) : Fm w G O V L ns vs own s' :=
  ⟨F.cx, g.trans F.gens, o.trans F.os, h ▸ F.hns, F.nn, h ▸ F.view, fun p hp => by rw [h]; exact F.hown p hp, F.vL, F.oL, F.vo, F.nd⟩
theorem Fm.ctx (F : Fm w G O V L ns vs own s) : Cx w s.heap := F.cx.at F.view
theorem Fm.get (F : Fm w G O V L ns vs own s) {a : Addr} {p : Obj → Prop} (h : (a, p) ∈ own) : ∃ o, s.heap.get? a = some o ∧ p o := F.hown _ h
theorem Fm.nolimit (F : Fm w G O V L ns vs own s) : s.heap.NoLimit := F.ctx.nolimit
theorem Fm.look (F : Fm w G O V L ns vs own s) {a : Addr} {o : Obj} (h : V a = some o) : s.heap.get? a = some o := F.view _ _ h

theorem Fm.keeps (F : Fm w G O V L ns vs own s) {s' : Shared} (k : Keeps s.heap s'.heap) (g : s'.gens = G) (o : s'.os = O) : Fm w G O V L ns vs own s' :=
  ⟨F.cx, g, o, F.hns.keeps k, F.nn, fun a o e => k _ _ (F.view a o e), fun p hp => (F.hown p hp).keeps fun o e => k _ _ e, F.vL, F.oL, F.vo, F.nd⟩
/-- a store of a local -/
theorem Fm.store (F : Fm w G O V L ns vs own s) {h' : Heap} {t : Nat} {x v vs'} (hp : LocPut ns vs x v vs') (hn : h'.Ns L (fun y => if y = x then some v else locs ns vs y)) (hs : Heap.SameBut L s.heap h') :
    Fm w G O V L ns vs' own { s with heap := h', toks := t } :=
  ⟨F.cx, F.gens, F.os, hp.locs F.nn ▸ hn, F.nn, fun a o e => (hs.2 a (fun q => by subst q; rw [F.vL] at e; cases e)).trans (F.view a o e),
   fun p hp => (F.hown p hp).keeps fun o e => (hs.2 _ (F.oL p hp)).trans e, F.vL, F.oL, F.vo, F.nd⟩
theorem Fm.lt (F : Fm w G O V L ns vs own s) : L < s.heap.objs.size := F.hns.lt
theorem Fm.alloc (F : Fm w G O V L ns vs own s) {s' : Shared} {a : Addr} {p : Obj → Prop} (k : Keeps s.heap s'.heap) (g : s'.gens = G) (os : s'.os = O) (ha : s.heap.get? a = none) (ho : HasP s'.heap (a, p)) :
    Fm w G O V L ns vs ((a, p) :: own) s' := by
  have F' := F.keeps k g os
  have hV : V a = none := by
    cases e : V a with
    | none => rfl
    | some o' => have := F.view _ _ e; rw [hv, ha] at this; cases this
  have hL : a ≠ L := by
    rintro rfl
    obtain ⟨o', _, _, hL, _⟩ := F.hns
    rw [ha] at hL; cases hL
  have hn : a ∉ own.map (·.1) := fun hm => by
    obtain ⟨p, hp, rfl⟩ := List.mem_map.mp hm
    obtain ⟨o, ho, _⟩ := F.hown p hp
    rw [ho] at ha; cases ha
  refine ⟨F'.cx, F'.gens, F'.os, F'.hns, F'.nn, F'.view, ?_, F'.vL, ?_, ?_, ?_⟩
  · intro p hp; rcases List.mem_cons.mp hp with rfl | hp
    · exact ho
    · exact F'.hown p hp
  · intro p hp; rcases List.mem_cons.mp hp with rfl | hp
    · exact hL
    · exact F.oL p hp
  · intro p hp; rcases List.mem_cons.mp hp with rfl | hp
    · exact hV
    · exact F.vo p hp
  · simp only [List.map_cons, List.nodup_cons]; exact ⟨hn, F.nd⟩
theorem fresh_none (h : Heap) : h.get? h.objs.size = none := by
  cases e : h.get? h.objs.size with
  | none => rfl
  | some o' => exact absurd (Heap.lt_size e) (Nat.lt_irrefl _)
theorem Fm.push (F : Fm w G O V L ns vs own s) (o : Obj) {t : Nat} {p : Obj → Prop} (hp : p o) (hf : o.isFreed = false := by rfl) :
    Fm w G O V L ns vs ((s.heap.objs.size, p) :: own) { s with heap := s.heap.push o, toks := t } :=
  F.alloc (Keeps.push _ _) F.gens F.os (fresh_none _) ⟨o, Heap.get?_push_size _ hf, hp⟩

/-- an own object changes: everything else is kept -/
theorem Fm.change (F : Fm w G O V L ns vs own s) {s' : Shared} {i : Nat} {a : Addr} {p p' : Obj → Prop} (hi : own[i]? = some (a, p)) (hs : Heap.ExtBut a s.heap s'.heap) (ho : HasP s'.heap (a, p')) (g : s'.gens = G) (os : s'.os = O) :
    Fm w G O V L ns vs (own.set i (a, p')) s' := by
  have hm : (a, p) ∈ own := List.mem_of_getElem? hi
  have hmap : (own.set i (a, p')).map (·.1) = own.map (·.1) := by
    apply List.ext_getElem?
    intro j
    rw [List.getElem?_map, List.getElem?_map, List.getElem?_set]
    by_cases hj : i = j
    · subst hj
      rw [if_pos rfl]
      have hlt : i < own.length := (List.getElem?_eq_some_iff.mp hi).1
      rw [if_pos hlt, hi]; rfl
    · rw [if_neg hj]
  have sub : ∀ q ∈ own.set i (a, p'), q = (a, p') ∨ (q ∈ own ∧ q.1 ≠ a) := by
    intro p hp
    obtain ⟨j, hj⟩ := List.getElem?_of_mem hp
    rw [List.getElem?_set] at hj
    by_cases hij : i = j
    · subst hij
      rw [if_pos rfl] at hj
      split at hj
      · exact .inl (Option.some.inj hj).symm
      · cases hj
    · rw [if_neg hij] at hj
      refine .inr ⟨List.mem_of_getElem? hj, fun e => hij ?_⟩
      have nd := F.nd
      have h1 : (own.map (·.1))[i]? = some a := by rw [List.getElem?_map, hi]; rfl
      have h2 : (own.map (·.1))[j]? = some a := by rw [List.getElem?_map, hj, ← e]; rfl
      exact (List.getElem?_inj (List.getElem?_eq_some_iff.mp h1).1 nd).mp (h1.trans h2.symm)
  have hL : a ≠ L := F.oL _ hm
  refine ⟨F.cx, g, os, F.hns.extBut hs (Ne.symm hL), F.nn, fun b ob e => hs b ob (fun q => by subst q; rw [F.vo _ hm] at e; cases e) (F.view b ob e), ?_, F.vL, ?_, ?_, hmap ▸ F.nd⟩
  · intro q hq; rcases sub q hq with rfl | ⟨hq, hne⟩
    · exact ho
    · exact (F.hown q hq).keeps fun o e => hs _ _ hne e
  · intro p hp; rcases sub p hp with rfl | ⟨hp, _⟩
    · exact hL
    · exact F.oL p hp
  · intro q hp; rcases sub q hp with rfl | ⟨hp, _⟩
    · exact F.vo (a, p) hm
    · exact F.vo _ hp
/-- an own object is forgotten -/
theorem Fm.sub (F : Fm w G O V L ns vs own s) {own' : List Kp} (h : own'.Sublist own) : Fm w G O V L ns vs own' s :=
  ⟨F.cx, F.gens, F.os, F.hns, F.nn, F.view, fun p hp => F.hown p (h.subset hp), F.vL, fun p hp => F.oL p (h.subset hp), fun p hp => F.vo p (h.subset hp), F.nd.sublist (h.map _)⟩
theorem Fm.perm (F : Fm w G O V L ns vs own s) {own' : List Kp} (h : own'.Perm own) : Fm w G O V L ns vs own' s :=
  ⟨F.cx, F.gens, F.os, F.hns, F.nn, F.view, fun p hp => F.hown p (h.mem_iff.mp hp), F.vL, fun p hp => F.oL p (h.mem_iff.mp hp), fun p hp => F.vo p (h.mem_iff.mp hp), (h.map _).nodup_iff.mpr F.nd⟩
/-- weaker predicates -/
theorem Fm.weaken (F : Fm w G O V L ns vs own s) {own' : List Kp} (hm : own'.map (·.1) = own.map (·.1)) (h : ∀ q ∈ own', HasP s.heap q) : Fm w G O V L ns vs own' s := by
  have mm : ∀ q ∈ own', ∃ p ∈ own, p.1 = q.1 := fun q hq => by
    have : q.1 ∈ own.map (·.1) := hm ▸ List.mem_map.mpr ⟨q, hq, rfl⟩
    obtain ⟨p, hp, e⟩ := List.mem_map.mp this
    exact ⟨p, hp, e⟩
  exact ⟨F.cx, F.gens, F.os, F.hns, F.nn, F.view, h, F.vL, fun q hq => let ⟨p, hp, e⟩ := mm q hq; e ▸ F.oL p hp, fun q hq => let ⟨p, hp, e⟩ := mm q hq; e ▸ F.vo p hp, hm ▸ F.nd⟩
/-- an own object that changes and is forgotten -/
theorem Fm.drop (F : Fm w G O V L ns vs own s) {s' : Shared} {a : Addr} {p : Obj → Prop} {r : List Kp} (he : own = (a, p) :: r) (hs : Heap.ExtBut a s.heap s'.heap) (g : s'.gens = G) (os : s'.os = O) : Fm w G O V L ns vs r s' := by
  subst he
  have hL : a ≠ L := F.oL (a, p) (.head _)
  have nd := F.nd
  simp only [List.map_cons, List.nodup_cons] at nd
  refine ⟨F.cx, g, os, F.hns.extBut hs (Ne.symm hL), F.nn, fun b ob e => hs b ob (fun q => by subst q; rw [F.vo (b, p) (.head _)] at e; cases e) (F.view b ob e), fun q hq => (F.hown q (.tail _ hq)).keeps fun o e => hs _ _ (fun q' => nd.1 (List.mem_map.mpr ⟨q, hq, q'⟩)) e, F.vL, fun p hp => F.oL p (.tail _ hp), fun p hp => F.vo p (.tail _ hp), nd.2⟩
/-- the view grows by new objects -/
theorem Fm.grow (F : Fm w G O V L ns vs own s) {s' : Shared} {W : View} (k : Keeps s.heap s'.heap) (g : s'.gens = G) (os : s'.os = O) (hW : W.le (hv s'.heap)) (hf : ∀ a o, W a = some o → s.heap.get? a = none) :
    Fm w G O (V.or W) L ns vs own s' := by
  have F' := F.keeps k g os
  have dis : ∀ a o, s.heap.get? a = some o → V a = none → V.or W a = none := fun a o e hV => by
    show (V a).or (W a) = none
    rw [hV]
    cases hw : W a with
    | none => rfl
    | some o' => rw [hf _ _ hw] at e; cases e
  refine ⟨F.cx.mono (V.le_or W), F'.gens, F'.os, F'.hns, F'.nn, ?_, F'.hown, ?_, F'.oL, fun p hp => let ⟨o, ho, _⟩ := F.hown p hp; dis _ _ ho (F.vo p hp), F'.nd⟩
  · intro a o e
    have e' : (V a).or (W a) = some o := e
    cases hV : V a with
    | none => rw [hV] at e'; exact hW _ _ e'
    | some o' => rw [hV] at e'; cases e'; exact F'.view _ _ hV
  · obtain ⟨oL, _, _, hL, _⟩ := F.hns
    exact dis _ _ hL F.vL
theorem le_or_right {h h' : Heap} {V W : View} (hV : V.le (hv h)) (hf : ∀ a o, W a = some o → h.get? a = none) : W.le (V.or W) := fun a o e => by
  show (V a).or (W a) = some o
  cases hq : V a with
  | none => exact e
  | some o' => have := hV _ _ hq; rw [hv, hf _ _ e] at this; cases this
end
end Mine
end
section
open PySem PySem.W PySem.Calls PyProof.Rows
set_option maxRecDepth 100000
set_option autoImplicit false
set_option linter.unusedVariables false
namespace Mine

/-! ## Room -/
structure Rm (A : Around) (k : Nat) : Prop where
  hd : A.handled = none
  dep : A.depth + k < recursionLimit
  un : A.units + 20 * k < cLine
theorem Rm.mono {A : Around} {k j : Nat} (R : Rm A k) (h : j ≤ k) : Rm A j := ⟨R.hd, by have := R.dep; omega, by have := R.un; omega⟩
theorem Rm.deeper {A : Around} {k : Nat} (R : Rm A (k + 1)) (env : Env) : Rm (A.deeper env) k := ⟨R.hd, by have := R.dep; show A.depth + 1 + k < _; omega, by have := R.un; show A.units + 3 + _ < _; omega⟩
theorem Rm.in1 {A : Around} {k : Nat} (R : Rm A (k + 1)) : Rm A.in1 k := ⟨R.hd, by have := R.dep; show A.depth + k < _; omega, by have := R.un; show A.units + 1 + _ < _; omega⟩
theorem Rm.room {A : Around} {k : Nat} (R : Rm A k) : A.depth < recursionLimit := by have := R.dep; omega
theorem Rm.cl {A : Around} {k : Nat} (R : Rm A (k + 1)) : A.units < cLine := by have := R.un; omega

/-! ## Environments -/
structure En (env : Env) (L : Addr) : Prop where
  kind : env.scope.kind = .function
  loc : env.locals = L
  glob : env.globals = mainGlobals
  bi : env.builtins = builtinsNs
  co : env.scope.isCoroutine = false

abbrev cellO (v : Option Value) : Obj := { cls := .type "cell", data := .cell v }
abbrev CellP (v : Option Value) : Obj → Prop := fun o => o = cellO v

noncomputable def GV (w : World) (x : Str) (v : Value) : Prop :=
  (nsIn (KF w) mainGlobals x = some (some v)) ∨ (nsIn (KF w) mainGlobals x = some none ∧ bootBuiltins x = some v ∧ x ≠ "__name__")

noncomputable def noE : Value → Shared → Prop := fun _ _ => False

section
variable {w : World} {A : Around} {E : Value → Shared → Prop} {s : Shared} {env : Env} {G : Array GenState} {O : OsState} {V : View} {L : Addr} {ns : List Str} {vs : List (Option Value)} {own : List Kp}

theorem wp_noE {α : Type} {t : Sem α} {Q : α → Shared → Prop} (h : wpAny (model P0 w) A t Q noE s) : wpAny (model P0 w) A t Q E s := wpAny_mono h (fun _ _ x => x) fun _ _ f => f.elim

/-! names -/
theorem e_local {x : Str} {pos : Pos} {v : Value} {Q : Value → Shared → Prop} (F : Fm w G O V L ns vs own s) (en : En env L) (hx : env.kindOf x = some .local) (hv : LocAt ns vs x v) (h : Q v s)
    (hd : (x == ("__debug__" : Str)) = false := by decide) : wpAny (model P0 w) A (eval (.Name x pos) env) Q E s :=
  wpAny_Name (wpAny_loadName_local en.kind hx (by rw [en.loc]; exact F.hns) (hv.locs F.nn) h) hd
theorem l_local {x : Str} {v : Value} {Q : Value → Shared → Prop} (F : Fm w G O V L ns vs own s) (en : En env L) (hx : env.kindOf x = some .local) (hv : LocAt ns vs x v) (h : Q v s) :
    wpAny (model P0 w) A (loadName env x) Q E s := wpAny_loadName_local en.kind hx (by rw [en.loc]; exact F.hns) (hv.locs F.nn) h
theorem e_cell {x : Str} {pos : Pos} {c : Addr} {v : Value} {Q : Value → Shared → Prop} (F : Fm w G O V L ns vs own s) (en : En env L) (hx : env.kindOf x = some .cell) (hc : env.cells.lookup x = some c)
    (hm : (c, CellP (some v)) ∈ own) (h : Q v s) (hd : (x == ("__debug__" : Str)) = false := by decide) : wpAny (model P0 w) A (eval (.Name x pos) env) Q E s :=
  let ⟨o, ho, e⟩ := F.get hm; wpAny_Name (wpAny_loadName_cell en.kind hx hc ⟨o, ho, by rw [e]⟩ h) hd
theorem e_free {x : Str} {pos : Pos} {c : Addr} {v : Value} {Q : Value → Shared → Prop} (F : Fm w G O V L ns vs own s) (en : En env L) (hx : env.kindOf x = some .free) (hc : env.cells.lookup x = some c)
    (hm : (c, CellP (some v)) ∈ own) (h : Q v s) (hd : (x == ("__debug__" : Str)) = false := by decide) (hn : (x == ("__classdict__" : Str)) = false := by decide) : wpAny (model P0 w) A (eval (.Name x pos) env) Q E s :=
  let ⟨o, ho, e⟩ := F.get hm; wpAny_Name (wpAny_loadName_free en.kind hx hc ⟨o, ho, by rw [e]⟩ h hn) hd
theorem e_glob {x : Str} {pos : Pos} {v : Value} {Q : Value → Shared → Prop} (F : Fm w G O V L ns vs own s) (en : En env L) (hx : env.kindOf x = some .globalImplicit) (g : GV w x v) (h : Q v s)
    (hd : (x == ("__debug__" : Str)) = false := by decide) : wpAny (model P0 w) A (eval (.Name x pos) env) Q E s := by
  obtain ⟨mg, mb, T⟩ := F.ctx.T
  refine Name_function_global en.kind hx ?_ hd
  rcases g with e | ⟨e, hb, hn⟩
  · exact loadGlobal_global (by rw [en.glob]; exact T.g) (mg_of F.ctx.K T.g e) h
  · exact loadGlobal_builtin (by rw [en.glob]; exact T.g) (mg_none_of F.ctx.K T.g e) (by rw [en.bi]; exact T.b) ((T.builtins x hn).trans hb) h

theorem s_local {x : Str} {v : Value} {vs' : List (Option Value)} {Q : Unit → Shared → Prop} (F : Fm w G O V L ns vs own s) (en : En env L) (hx : env.kindOf x = some .local) (hp : LocPut ns vs x v vs')
    (h : ∀ s', Fm w G O V L ns vs' own s' → Q () s') : wpAny (model P0 w) A (storeName env x v) Q E s := by
  refine wpAny_storeName_local (m := locs ns vs) hx (by rw [en.loc]; exact F.hns) (fun h' hn hs => h _ ?_) (by rw [en.kind]; rfl)
  rw [en.loc] at hn hs
  exact F.store hp hn hs
theorem s_cell {x : Str} {c : Addr} {ov : Option Value} {v : Value} {i : Nat} {Q : Unit → Shared → Prop} (F : Fm w G O V L ns vs own s) (en : En env L) (hx : env.kindOf x = some .cell) (hc : env.cells.lookup x = some c)
    (hi : own[i]? = some (c, CellP ov)) (h : ∀ s', Fm w G O V L ns vs (own.set i (c, CellP (some v))) s' → Q () s') : wpAny (model P0 w) A (storeName env x v) Q E s := by
  obtain ⟨o, ho, rfl⟩ := F.get (List.mem_of_getElem? hi)
  unfold storeName
  simp only [hx, en.kind]
  refine wpAny_bind (wpAny_cellOf hc ?_)
  unfold cellSet
  refine wpAny_bind (wpAny_load ho ?_)
  dsimp only
  refine wpAny_update ho (h _ ?_)
  exact F.change hi (Heap.SameBut.update ..).extBut ⟨_, Heap.get?_update_self _ ho rfl, rfl⟩ F.gens F.os

/-! statements -/
theorem x_nil {Q : Flow → Shared → Prop} (h : Q .next s) : wpAny (model P0 w) A (execs [] env) Q E s := wpAny_execs_nil h
theorem x_cons {st : Stmt} {rest : List Stmt} {Q : Flow → Shared → Prop}
    (h : wpAny (model P0 w) A (exec st env) (fun f s' => match f with | .next => wpAny (model P0 w) A (execs rest env) Q E s' | f => Q f s') E s) :
    wpAny (model P0 w) A (execs (st :: rest) env) Q E s := wpAny_execs_cons h

theorem x_Assign {t : PySem.Expr} {value : PySem.Expr} {pos : Pos} {Q : Flow → Shared → Prop}
    (h : wpAny (model P0 w) A (eval value env) (fun v s₁ => wpAny (model P0 w) A (assign t env v) (fun _ s₂ => Q .next s₂) E s₁) E s)
    (hs : swapsWith value (some t) pos.line env = pure false := by rfl) (hw : swappedStores [t] value env = pure none := by rfl)
    (he : assignEach [t] env = [(false, assign t env)] := by rfl) :
    wpAny (model P0 w) A (exec (.Assign [t] value pos) env) Q E s := by
  have e1 : swapsWithSole [t] value pos.line env = pure false := hs
  show wpAny _ _ (do standAt pos; if ← swapsWithSole [t] value pos.line env then _ else do let v ← eval value env; assignStores env v (← swappedStores [t] value env) ((assignEach [t] env).map fun x => x.2)) Q E s
  rw [e1, hw, he]
  refine wpAny_bind (wpAny_standAt (wpAny_bind (wpAny_pure ?_)))
  rw [if_neg Bool.false_ne_true]
  refine wpAny_bind (wpAny_mono h (fun v s₁ h₁ => ?_) fun _ _ x => x)
  refine wpAny_bind (wpAny_pure ?_)
  exact wpAny_bind (wpAny_mono h₁ (fun _ s₂ h₂ => wpAny_pure h₂) fun _ _ x => x)
theorem a_Name {x : Str} {pos : Pos} {v : Value} {Q : Unit → Shared → Prop} (h : wpAny (model P0 w) A (storeName env x v) Q E s) : wpAny (model P0 w) A (assign (.Name x pos) env v) Q E s := wpAny_assign_Name h
theorem x_If {test : PySem.Expr} {body orelse : List Stmt} {pos : Pos} {Q : Flow → Shared → Prop}
    (h : wpAny (model P0 w) A (isTrue test env (eval test env)) (fun b s₂ => (b = true → wpAny (model P0 w) A (execs body env) Q E s₂) ∧ (b = false → wpAny (model P0 w) A (execs orelse env) Q E s₂)) E s) :
    wpAny (model P0 w) A (exec (.If test body orelse pos) env) Q E s :=
  wpAny_If (wpAny_mono h (fun b s' h' => by cases b; exact h'.2 rfl; exact h'.1 rfl) fun _ _ x => x)
theorem x_Return {e : PySem.Expr} {pos : Pos} {Q : Flow → Shared → Prop} (h : wpAny (model P0 w) A (eval e env) (fun v => Q (.ret v)) E s) : wpAny (model P0 w) A (exec (.Return (some e) pos) env) Q E s := wpAny_Return_some h
/-- a call for its effect -/
theorem x_Expr {e : PySem.Expr} {pos : Pos} {Q : Flow → Shared → Prop} (h : wpAny (model P0 w) A (eval e env) (fun v s' => v = .none ∧ Q .next s') E s)
    (hi : interactive env = false) (hs : swapsWith e none pos.line env = pure false := by rfl) :
    wpAny (model P0 w) A (exec (.Expr e pos) env) Q E s := by
  refine wpAny_Expr (wpAny_mono h (fun v s' h' => ?_) fun _ _ x => x) hi hs
  obtain ⟨rfl, h'⟩ := h'
  exact h'

/-! expressions -/
theorem e_int {i : Int} {k : Nat} {pos : Pos} {Q : Value → Shared → Prop} (F : Fm w G O V L ns vs own s) (h : ∀ t s', Fm w G O V L ns vs own s' → Q (.int i t) s') : wpAny (model P0 w) A (eval (.Constant (.int i) k pos) env) Q E s :=
  wpAny_Constant_int (h _ _ (F.tok _))
theorem e_bool {b : Bool} {k : Nat} {pos : Pos} {Q : Value → Shared → Prop} (h : Q (.bool b) s) : wpAny (model P0 w) A (eval (.Constant (.bool b) k pos) env) Q E s := wpAny_Constant_bool h
theorem e_none {k : Nat} {pos : Pos} {Q : Value → Shared → Prop} (h : Q .none s) : wpAny (model P0 w) A (eval (.Constant .none k pos) env) Q E s := wpAny_Constant_none h
theorem e_str {x : Str} {k : Nat} {pos : Pos} {Q : Value → Shared → Prop} (F : Fm w G O V L ns vs own s) (h : ∀ t s', Fm w G O V L ns vs own s' → Q (.str x t) s') : wpAny (model P0 w) A (eval (.Constant (.str x) k pos) env) Q E s :=
  wpAny_Constant_str (h _ _ (F.tok _))
theorem e_cmp {l r : PySem.Expr} {op : CmpOp} {pos : Pos} {Q : Value → Shared → Prop}
    (h : wpAny (model P0 w) A (eval l env) (fun a s₁ => wpAny (model P0 w) A (eval r env) (fun b s₂ => wpAny (model P0 w) A (compareOp op a b) Q E s₂) E s₁) E s)
    (hm : behindInMarks op r = false := by with_unfolding_all rfl) : wpAny (model P0 w) A (eval (.Compare l [op] [r] pos) env) Q E s := wpAny_Compare1 h hm
theorem e_bin {l r : PySem.Expr} {op : Operator} {pos : Pos} {Q : Value → Shared → Prop}
    (h : wpAny (model P0 w) A (eval l env) (fun a s₁ => wpAny (model P0 w) A (eval r env) (fun b s₂ => wpAny (model P0 w) A (binaryOp op a b) Q E s₂) E s₁) E s) :
    wpAny (model P0 w) A (eval (.BinOp l op r pos) env) Q E s := wpAny_BinOp h
theorem e_ifexp {test body orelse : PySem.Expr} {pos : Pos} {Q : Value → Shared → Prop}
    (h : wpAny (model P0 w) A (isTrue test env (eval test env)) (fun b s₂ => (b = true → wpAny (model P0 w) A (eval body env) Q E s₂) ∧ (b = false → wpAny (model P0 w) A (eval orelse env) Q E s₂)) E s) :
    wpAny (model P0 w) A (eval (.IfExp test body orelse pos) env) Q E s :=
  wpAny_IfExp (wpAny_mono h (fun b s' h' => by cases b; exact h'.2 rfl; exact h'.1 rfl) fun _ _ x => x)
theorem e_unary {op : PySem.UnaryOp} {x : PySem.Expr} {pos : Pos} {Q : Value → Shared → Prop} (h : wpAny (model P0 w) A (eval x env) (fun v s₁ => wpAny (model P0 w) A (unaryOp op v) Q E s₁) E s) :
    wpAny (model P0 w) A (eval (.UnaryOp op x pos) env) Q E s := wpAny_UnaryOp h
theorem t_cmp {l r : PySem.Expr} {op : CmpOp} {pos : Pos} {whole : Sem Value} {Q : Bool → Shared → Prop}
    (h : wpAny (model P0 w) A (eval l env) (fun a s₁ => wpAny (model P0 w) A (eval r env) (fun b s₂ => wpAny (model P0 w) A (compareOp op a b) (fun c s₃ => wpAny (model P0 w) A (truthy c) Q E s₃) E s₂) E s₁) E s)
    (hm : behindInMarks op r = false := by with_unfolding_all rfl) : wpAny (model P0 w) A (isTrue (.Compare l [op] [r] pos) env whole) Q E s := wpAny_isTrue_Compare1 h hm
theorem t_not {x : PySem.Expr} {pos : Pos} {whole : Sem Value} {Q : Bool → Shared → Prop} (h : wpAny (model P0 w) A (isTrue x env (eval x env)) (fun b s₁ => Q (!b) s₁) E s) :
    wpAny (model P0 w) A (isTrue (.UnaryOp .Not x pos) env whole) Q E s := wpAny_isTrue_Not h
theorem t_bool {op : PySem.BoolOp} {values : List PySem.Expr} {pos : Pos} {whole : Sem Value} {Q : Bool → Shared → Prop} (h : wpAny (model P0 w) A (allTrue op values env) Q E s) :
    wpAny (model P0 w) A (isTrue (.BoolOp op values pos) env whole) Q E s := wpAny_isTrue_BoolOp h
theorem t_value {e : PySem.Expr} {whole : Sem Value} {Q : Bool → Shared → Prop} (h : wpAny (model P0 w) A whole (fun v s₁ => wpAny (model P0 w) A (truthy v) Q E s₁) E s)
    (he : isTrue e env whole = (do let v ← whole; standAt e.pos; holding [v] (truthy v)) := by rfl) : wpAny (model P0 w) A (isTrue e env whole) Q E s := by
  rw [he]; exact wpAny_bind (wpAny_mono h (fun v s₁ h₁ => wpAny_bind (wpAny_standAt (wpAny_holding h₁))) fun _ _ x => x)
theorem tr_bool {b : Bool} {Q : Bool → Shared → Prop} (h : Q b s) : wpAny (model P0 w) A (truthy (.bool b)) Q E s := wpAny_truthy_bool h

/-! calls -/
theorem i_nil {pos : Pos} {Q : List Value → Shared → Prop} (h : Q [] s) : wpAny (model P0 w) A (spliced (backTo pos (starEach [] env))) Q E s := wpAny_items_nil h
theorem i_cons {pos : Pos} {e : PySem.Expr} {rest : List PySem.Expr} {Q : List Value → Shared → Prop}
    (h : wpAny (model P0 w) A (eval e env) (fun v s₁ => wpAny (model P0 w) A (spliced (backTo pos (starEach rest env))) (fun vs s₂ => Q (v :: vs) s₂) E s₁) E s)
    (he : starEach (e :: rest) env = (false, eval e env) :: starEach rest env := by rfl) :
    wpAny (model P0 w) A (spliced (backTo pos (starEach (e :: rest) env))) Q E s := by
  rw [he]
  exact Calls.spliced_cons h
theorem e_call {f : PySem.Expr} {args : List PySem.Expr} {pos : Pos} {Q : Value → Shared → Prop}
    (h : wpAny (model P0 w) A (eval f env) (fun fv s₁ => wpAny (model P0 w) A (callWith pos fv [] (backTo pos (starEach args env)) []) Q E s₁) E s)
    (he : eval (.Call f args [] pos) env = (do callWith pos (← eval f env) [] (backTo pos (starEach args env)) (backToKw pos (keywordEach [] env))) := by rfl) :
    wpAny (model P0 w) A (eval (.Call f args [] pos) env) Q E s := by
  rw [he]; exact wpAny_bind h
theorem e_mcall {o : PySem.Expr} {name : Str} {apos pos : Pos} {args : List PySem.Expr} {pl : Sem Bool} {Q : Value → Shared → Prop}
    (h : wpAny (model P0 w) A (eval o env) (fun ov s₁ => wpAny (model P0 w) A (getMethod ov name pl) (fun fx s₂ => wpAny (model P0 w) A (callWith pos fx.1 fx.2 (backTo pos (starEach args env)) []) Q E s₂) E s₁) E s)
    (he : eval (.Call (.Attribute o name apos) args [] pos) env = (do
      let ov ← eval o env
      standAt apos.atName
      let (f, first) ← holding [ov] (getMethod ov name pl)
      callWith pos f first (backTo pos (starEach args env)) []) := by rfl) :
    wpAny (model P0 w) A (eval (.Call (.Attribute o name apos) args [] pos) env) Q E s := MethodCall_ h he
/-- evaluated arguments, then the call: f is of the machine's or a def's -/
theorem c_with {pos : Pos} {f : Value} {first : List Value} {args : List PySem.Expr} {Q : Value → Shared → Prop}
    (hk : ∀ h, Cx w h → ∃ k, (k = Keeper.frame ∨ k = Keeper.machine ∨ k = Keeper.boundFrame) ∧ Looks (model P0 w) h (keeperOf f) k)
    (h : wpAny (model P0 w) A (spliced (backTo pos (starEach args env))) (fun vs s₁ => Cx w s₁.heap ∧ wpAny (model P0 w) A (call f (first ++ vs)) Q E s₁) E s)
    (hp : (backTo pos (starEach args env)).any (·.1) = false := by rfl) :
    wpAny (model P0 w) A (callWith pos f first (backTo pos (starEach args env)) []) Q E s := by
  refine callWith_of (P := Cx w) (by rw [hp]; rfl) hk ?_
  cases he : backTo pos (starEach args env) with
  | nil =>
    rw [he] at h
    unfold evalArgs
    show wpAny _ _ (spliced [] >>= _) _ _ _
    refine wpAny_bind (wpAny_mono h (fun vs s₁ h₁ => wpAny_bind (wpAny_pure (wpAny_holding ?_))) fun _ _ x => x)
    exact wpAny_bind (wpAny_pure (wpAny_bind (wpAny_pure (wpAny_pure h₁))))
  | cons x r =>
    obtain ⟨st, t⟩ := x
    rw [he] at h hp
    have hst : st = false := by simp at hp; exact hp.1
    subst hst
    exact Calls.evalArgs_plain (wpAny_mono h (fun vs s₁ h₁ => h₁) fun _ _ x => x)
theorem keep_builtin {id : String} : ∀ h, Cx w h → ∃ k, (k = Keeper.frame ∨ k = Keeper.machine ∨ k = Keeper.boundFrame) ∧ Looks (model P0 w) h (keeperOf (.builtin id)) k := fun _ _ => ⟨.machine, .inr (.inl rfl), Looks.of_pure rfl⟩
theorem keep_type {T : String} : ∀ h, Cx w h → ∃ k, (k = Keeper.frame ∨ k = Keeper.machine ∨ k = Keeper.boundFrame) ∧ Looks (model P0 w) h (keeperOf (.type T)) k := fun _ _ => ⟨.machine, .inr (.inl rfl), Looks.of_pure rfl⟩
theorem keep_fn {f : Addr} {fo : Obj} {fd : FuncData} (hl : (KF w).lookup f = some fo) (hd : fo.data = .func fd) : ∀ h, Cx w h → ∃ k, (k = Keeper.frame ∨ k = Keeper.machine ∨ k = Keeper.boundFrame) ∧ Looks (model P0 w) h (keeperOf (.ref f)) k := fun h C =>
  ⟨.frame, .inl rfl, fun A Q E s k q => by
    unfold keeperOf
    refine wpAny_bind (wpAny_load (k _ _ (C.K _ _ hl)) ?_)
    rw [hd]; exact wpAny_pure q⟩
theorem e_list {elts : List PySem.Expr} {pos : Pos} {Q : Value → Shared → Prop} (h : wpAny (model P0 w) A (spliced (backTo pos (starEach elts env))) (fun vs s₁ => wpAny (model P0 w) A (newList vs) Q E s₁) E s) :
    wpAny (model P0 w) A (eval (.List elts pos) env) Q E s := List_ h
theorem e_tuple {elts : List PySem.Expr} {k : Nat} {pos : Pos} {Q : Value → Shared → Prop} (h : wpAny (model P0 w) A (spliced (backTo pos (starEach elts env))) (fun vs s₁ => wpAny (model P0 w) A (newTuple vs) Q E s₁) E s) :
    wpAny (model P0 w) A (eval (.Tuple elts k pos) env) Q E s := Tuple_ h
abbrev lo (items : Array Value) (n : Nat) : Obj := { cls := .type "list", data := .seq items n }
abbrev LP (items : Array Value) : Obj → Prop := fun o => ∃ n, o = lo items n
abbrev tupO (items : Array Value) : Obj := { cls := .type "tuple", data := .seq items 0 }
abbrev TP (items : Array Value) : Obj → Prop := fun o => o = tupO items
theorem n_list {l : List Value} {Q : Value → Shared → Prop} (F : Fm w G O V L ns vs own s) (h : ∀ a s', Fm w G O V L ns vs ((a, LP l.toArray) :: own) s' → Q (.ref a) s') (hz : l.length ≤ sizeLine := by size_fits) :
    wpAny (model P0 w) A (newList l) Q E s := wpAny_newObj_type (h _ _ (F.push _ ⟨0, rfl⟩)) (by show l.toArray.size ≤ sizeLine; rw [List.size_toArray]; exact hz)
theorem n_tuple {l : List Value} {Q : Value → Shared → Prop} (F : Fm w G O V L ns vs own s) (h : ∀ a s', Fm w G O V L ns vs ((a, TP l.toArray) :: own) s' → Q (.ref a) s') (hz : l.length ≤ sizeLine := by size_fits) :
    wpAny (model P0 w) A (newTuple l) Q E s := wpAny_newObj_type (h _ _ (F.push _ rfl)) (by show l.toArray.size ≤ sizeLine; rw [List.size_toArray]; exact hz)
end
end Mine
end
section
open PySem PySem.W PySem.Calls PyProof.Rows
set_option maxRecDepth 100000
set_option autoImplicit false
set_option linter.unusedVariables false
namespace Mine

noncomputable def cellObjs : Nat → List (Str × NameKind) → List Kp → List Kp
  | _, [], acc => acc
  | n, (_, k) :: r, acc => if k == .cell then cellObjs (n + 1) r ((n, CellP none) :: acc) else cellObjs n r acc

noncomputable def StoreAll (M : Model) (A : Around) (E : Value → Shared → Prop) (env : Env) : List (Str × Value) → (Shared → Prop) → Shared → Prop
  | [], Q, s => Q s
  | (n, v) :: r, Q, s => wpAny M A (storeName env n v) (fun _ s' => StoreAll M A E env r Q s') E s

theorem forIn_storeAll {M : Model} {A : Around} {E : Value → Shared → Prop} {env : Env} (f : Str × Value → PUnit → Sem (ForInStep PUnit)) (hf : ∀ n v u, f (n, v) u = (do storeName env n v; pure (.yield ⟨⟩))) :
    ∀ (binds : List (Str × Value)) (s : Shared) (Q : PUnit → Shared → Prop), StoreAll M A E env binds (Q ⟨⟩) s → wpAny M A (forIn binds ⟨⟩ f) Q E s
  | [], s, Q, h => by rw [List.forIn_nil]; exact wpAny_pure h
  | (n, v) :: r, s, Q, h => by
    rw [List.forIn_cons, hf]
    refine wpAny_bind (wpAny_bind (wpAny_mono h (fun _ s' h' => wpAny_pure ?_) fun _ _ x => x))
    exact forIn_storeAll f hf r s' Q h'
theorem StoreAll.mono {M : Model} {A : Around} {E : Value → Shared → Prop} {env : Env} {Q Q' : Shared → Prop} (hQ : ∀ s, Q s → Q' s) : ∀ (binds : List (Str × Value)) (s : Shared), StoreAll M A E env binds Q s → StoreAll M A E env binds Q' s
  | [], _, h => hQ _ h
  | (n, v) :: r, s, h => wpAny_mono h (fun _ s' h' => StoreAll.mono hQ r s' h') fun _ _ x => x

theorem locs_none : ∀ (ns : List Str), locs ns (ns.map fun _ => none) = fun _ => none
  | [] => rfl
  | n :: r => by
    funext x
    show (if x = n then none else locs r (r.map fun _ => none) x) = none
    rw [locs_none r]; split <;> rfl

section
variable {w : World} {A : Around} {E : Value → Shared → Prop} {s : Shared} {G : Array GenState} {O : OsState} {V : View} {L : Addr} {ns : List Str} {vs : List (Option Value)}

theorem Fm.cells : ∀ (names : List (Str × NameKind)) (h : Heap) (own : List Kp) (g : Array GenState) (d : Drawn) (t : Nat) (os : OsState), Fm w G O V L ns vs own ⟨h, g, d, t, os⟩ → Fm w G O V L ns vs (cellObjs h.objs.size names own) ⟨pushCells h names, g, d, t, os⟩
  | [], h, own, g, d, t, os, F => F
  | (n, k) :: r, h, own, g, d, t, os, F => by
    unfold cellObjs pushCells
    split
    · have := Fm.cells r (h.push (cellO none)) ((h.objs.size, CellP none) :: own) g d t os (F.push (cellO none) rfl)
      rwa [Heap.size_push] at this
    · exact Fm.cells r h own g d t os F
theorem Fm.start {s₁ : Shared} (C : Cx w s.heap) (nn : ns.Nodup) {cls : Value} (e : s₁ = { s with heap := s.heap.push { cls, data := .dict #[] } }) :
    Fm w s.gens s.os (hv s.heap) s.heap.objs.size ns (ns.map fun _ => none) [] s₁ := by
  subst e
  refine ⟨⟨_, C, View.le.refl _⟩, rfl, rfl, ?_, nn, fun a o e => Heap.get?_push_of_some _ e, fun _ h => (nomatch h), ?_, fun _ h => (nomatch h), fun _ h => (nomatch h), List.nodup_nil⟩
  · rw [locs_none]; exact Heap.Ns.new ..
  · show s.heap.get? s.heap.objs.size = none
    cases e : s.heap.get? s.heap.objs.size with
    | none => rfl
    | some o' => exact absurd (Heap.lt_size e) (Nat.lt_irrefl _)

theorem n_env {scope : Scope} {binds : List (Str × Value)} {qual : Str} {func : Option Addr} {code : Value} {Q : Env → Shared → Prop} (C : Cx w s.heap) (nn : ns.Nodup) (hk : scope.kind = .function) (hco : scope.isCoroutine = false)
    (h : ∀ env s', env = newEnv scope s.heap.objs.size mainGlobals (cellsFrom (s.heap.objs.size + 1) scope.names []) qual func code none builtinsNs → En env s.heap.objs.size →
      Fm w s.gens s.os (hv s.heap) s.heap.objs.size ns (ns.map fun _ => none) (cellObjs (s.heap.objs.size + 1) scope.names []) s' → StoreAll (model P0 w) A E env binds (fun s'' => Q env s'') s') :
    wpAny (model P0 w) A (newFunctionEnv scope mainGlobals [] binds qual func code none builtinsNs) Q E s := by
  simp only [newFunctionEnv, Option.isSome_none, Bool.false_eq_true, if_false]
  refine wpAny_bind (wpAny_alloc ?_)
  refine wpAny_bind (wpAny_layCells _ (fun name kind cells => by cases hkc : kind == NameKind.cell <;> simp [hkc]) _ _ _ _ ?_)
  rw [show ({ s with heap := s.heap.push { cls := .type "frame", data := .dict #[] } } : Shared).heap.objs.size = s.heap.objs.size + 1 from Heap.size_push ..]
  have F0 := Fm.start (s₁ := { s with heap := s.heap.push { cls := .type "frame", data := .dict #[] } }) C nn rfl
  have F1 := Fm.cells scope.names _ _ _ _ _ _ F0
  rw [show (s.heap.push { cls := .type "frame", data := .dict #[] }).objs.size = s.heap.objs.size + 1 from Heap.size_push ..] at F1
  refine wpAny_bind (forIn_storeAll (env := newEnv scope s.heap.objs.size mainGlobals (cellsFrom (s.heap.objs.size + 1) scope.names []) qual func code none builtinsNs) _ (fun _ _ _ => rfl) binds _ _ ?_)
  exact StoreAll.mono (fun s'' h'' => wpAny_pure h'') _ _ (h _ _ rfl ⟨hk, rfl, rfl, rfl, hco⟩ F1)

/-- a call of a def of the text -/
theorem f_call {f : Addr} {name qual : Str} {params : Arguments} {body : List Stmt} {scope : Scope} {dV kV doc pm cdv ct oc : Value} {an od : Option Addr} {osl : Array (Option Value)} {args : List Value} {binds : List (Str × Value)} {Q : Value → Shared → Prop}
    (hl : (KF w).lookup f = some ⟨oc, od, .func (fnOf name qual params body scope dV kV doc pm an cdv ct), osl⟩) (C : Cx w s.heap) (nn : ns.Nodup) (hroom : A.depth < recursionLimit)
    (hcd : codeIn (KF w) cdv qual = true) (hbind : BindsTo s (fnOf name qual params body scope dV kV doc pm an cdv ct) ⟨args, []⟩ binds)
    (h : ∀ env s', env = newEnv scope s.heap.objs.size mainGlobals (cellsFrom (s.heap.objs.size + 1) scope.names []) (qual ++ ".<locals>.") (some f) cdv none builtinsNs → En env s.heap.objs.size →
      Fm w s.gens s.os (hv s.heap) s.heap.objs.size ns (ns.map fun _ => none) (cellObjs (s.heap.objs.size + 1) scope.names []) s' →
      StoreAll (model P0 w) A.in1 noE env binds (fun s'' => Cx w s''.heap ∧ wpAny (model P0 w) (A.deeper env) (execs body env) (fun fl s₃ => Q (match fl with | .ret v => v | _ => .none) s₃) noE s'') s')
    (hk : scope.kind = .function := by rfl) (hco : scope.isCoroutine = false := by rfl) (hgen : scope.isGenerator = false := by rfl) :
    wpAny (model P0 w) A (call (.ref f) args) Q E s := by
  refine wp_noE (wpAny_call ?_)
  refine codeAny_call_function hroom (C.K _ _ hl) rfl hco hgen rfl (codeRec_of C.K hcd) (hbind _ _ _ _ ?_)
  refine wpAny_mono (n_env (E := noE) C nn hk hco fun env s' he en F => StoreAll.mono (fun s'' h'' => (⟨h''.1.nolimit, codeAny_func (wpAny_mono h''.2 (fun _ _ x => x) fun _ _ (x : False) => x.elim)⟩ : s''.heap.NoLimit ∧ codeAny (model P0 w) A (.func body env) _ s'')) _ _ (h env s' he en F)) (fun _ _ x => x) fun _ _ (x : False) => x.elim
end
end Mine
end
section
open PySem
set_option autoImplicit false
set_option linter.unusedVariables false
namespace Mine

/-! ## The table of a set: plain arithmetic -/
noncomputable def Ris (l : List Nat) : Prop := l.Pairwise (· < ·)

theorem below_go (xs : Array Nat) (j : Nat) (hs : Ris xs.toList) : ∀ (fuel lo hi : Nat), hi ≤ xs.size → lo ≤ hi → hi - lo ≤ fuel →
    (∀ i (h : i < xs.size), i < lo → xs[i] < j) → (∀ i (h : i < xs.size), hi ≤ i → j ≤ xs[i]) →
    ∃ p, SetTable.below.go xs j fuel lo hi = p ∧ p ≤ xs.size ∧ (∀ i (h : i < xs.size), i < p → xs[i] < j) ∧ (∀ i (h : i < xs.size), p ≤ i → j ≤ xs[i]) := by
  intro fuel
  induction fuel with
  | zero =>
    intro lo hi h1 h2 h3 h4 h5
    refine ⟨lo, rfl, by omega, h4, fun i h hi' => h5 i h (by omega)⟩
  | succ n ih =>
    intro lo hi h1 h2 h3 h4 h5
    unfold SetTable.below.go
    by_cases hlt : lo < hi
    · rw [if_pos hlt]
      have hm : (lo + hi) / 2 < xs.size := by omega
      have e : xs.getD ((lo + hi) / 2) j = xs[(lo + hi) / 2] := by simp [Array.getD, hm]
      dsimp only
      rw [e]
      have mono : ∀ a b (ha : a < xs.size) (hb : b < xs.size), a ≤ b → xs[a] ≤ xs[b] := by
        intro a b ha hb hab
        rcases Nat.lt_or_ge a b with hl | hl
        · have := List.pairwise_iff_getElem.mp hs a b (by simpa using ha) (by simpa using hb) hl
          simp only [Array.getElem_toList] at this; omega
        · have : a = b := by omega
          subst this; exact Nat.le_refl _
      split
      · rename_i hc
        exact ih _ _ h1 (by omega) (by omega) (fun i h hi' => Nat.lt_of_le_of_lt (mono i _ h hm (by omega)) hc) h5
      · rename_i hc
        exact ih _ _ (by omega) (by omega) (by omega) h4 fun i h hi' => Nat.le_trans (Nat.not_lt.mp hc) (mono _ i hm h hi')
    · rw [if_neg hlt]
      refine ⟨lo, rfl, by omega, h4, fun i h hi' => h5 i h (by omega)⟩

theorem below_spec (xs : Array Nat) (j : Nat) (hs : Ris xs.toList) :
    SetTable.below xs j ≤ xs.size ∧ (∀ i (h : i < xs.size), i < SetTable.below xs j → xs[i] < j) ∧ (∀ i (h : i < xs.size), SetTable.below xs j ≤ i → j ≤ xs[i]) := by
  obtain ⟨p, h1, h2, h3, h4⟩ := below_go xs j hs xs.size 0 xs.size (Nat.le_refl _) (Nat.zero_le _) (by omega) (by intro i h hi; omega) (by intro i h hi; omega)
  have : SetTable.below xs j = p := h1
  rw [this]; exact ⟨h2, h3, h4⟩

theorem below_mem (xs : Array Nat) (j : Nat) (hs : Ris xs.toList) : (xs[SetTable.below xs j]? = some j) ↔ j ∈ xs.toList := by
  obtain ⟨h1, h2, h3⟩ := below_spec xs j hs
  constructor
  · intro h
    exact Array.mem_toList_iff.mpr (Array.mem_of_getElem? h)
  · intro h
    obtain ⟨i, hi, he⟩ := List.mem_iff_getElem.mp h
    have hi' : i < xs.size := by simpa using hi
    have he' : xs[i] = j := by simpa using he
    have hp : SetTable.below xs j ≤ i := by
      rcases Nat.lt_or_ge i (SetTable.below xs j) with hl | hl
      · have := h2 i hi' hl; omega
      · exact hl
    have hlt : SetTable.below xs j < xs.size := by omega
    rcases Nat.eq_or_lt_of_le hp with e | hl
    · rw [e, Array.getElem?_eq_getElem hi', he']
    · have a := h3 _ hlt (Nat.le_refl _)
      have b := List.pairwise_iff_getElem.mp hs _ i (by simpa using hlt) hi hl
      simp only [Array.getElem_toList] at b
      omega
theorem has_iff (xs : Array Nat) (j : Nat) (hs : Ris xs.toList) : (SetTable.has xs j = true) ↔ j ∈ xs.toList := by
  unfold SetTable.has
  rw [beq_iff_eq]; exact below_mem xs j hs

theorem ris_insert (xs : Array Nat) (j : Nat) (hs : Ris xs.toList) (hj : j ∉ xs.toList) : Ris (SetTable.insertAt xs (SetTable.below xs j) j).toList := by
  obtain ⟨h1, h2, h3⟩ := below_spec xs j hs
  rw [SetTable.toList_insertAt]
  have htake : ∀ x ∈ xs.toList.take (SetTable.below xs j), x < j := by
    intro x hx
    obtain ⟨i, hi, rfl⟩ := List.mem_iff_getElem.mp hx
    rw [List.length_take] at hi
    have := h2 i (by simp at hi; omega) (by omega)
    simpa using this
  have hdrop : ∀ x ∈ xs.toList.drop (SetTable.below xs j), j < x := by
    intro x hx
    have hm := List.mem_of_mem_drop hx
    obtain ⟨i, hi, rfl⟩ := List.mem_iff_getElem.mp hx
    rw [List.length_drop] at hi
    have := h3 (SetTable.below xs j + i) (by simp at hi; omega) (by omega)
    have hne : (xs.toList.drop (SetTable.below xs j))[i] ≠ j := fun e => hj (e ▸ hm)
    have e : (xs.toList.drop (SetTable.below xs j))[i] = xs[SetTable.below xs j + i]'(by simp at hi; omega) := by simp
    omega
  unfold Ris
  rw [List.pairwise_append, List.pairwise_cons]
  refine ⟨hs.sublist (List.take_sublist _ _), ⟨hdrop, hs.sublist (List.drop_sublist _ _)⟩, ?_⟩
  intro a ha b hb
  rcases List.mem_cons.mp hb with rfl | hb
  · exact htake a ha
  · exact Nat.lt_trans (htake a ha) (hdrop b hb)
theorem mem_insertAt {α : Type} (xs : Array α) (p : Nat) (x y : α) : y ∈ (SetTable.insertAt xs p x).toList ↔ y = x ∨ y ∈ xs.toList := by
  rw [(SetTable.insertAt_perm xs p x).mem_iff, Array.toList_push, List.mem_append, List.mem_singleton, or_comm]
theorem size_insertAt {α : Type} (xs : Array α) (p : Nat) (x : α) : (SetTable.insertAt xs p x).size = xs.size + 1 := by
  rw [← Array.length_toList, (SetTable.insertAt_perm xs p x).length_eq, Array.length_toList, Array.size_push]
theorem toList_eraseAt {α : Type} (xs : Array α) (p : Nat) : (SetTable.eraseAt xs p).toList = xs.toList.take p ++ xs.toList.drop (p + 1) := by
  simp [SetTable.eraseAt, List.extract_eq_take_drop, List.take_of_length_le]
theorem eraseAt_sublist {α : Type} (xs : Array α) (p : Nat) : (SetTable.eraseAt xs p).toList.Sublist xs.toList := by
  rw [toList_eraseAt]
  calc (xs.toList.take p ++ xs.toList.drop (p + 1)).Sublist (xs.toList.take p ++ xs.toList.drop p) := List.Sublist.append (List.Sublist.refl _) (by
        rw [← List.drop_drop]; exact List.drop_sublist _ _)
    _ = xs.toList := List.take_append_drop _ _

/-! the path of a search -/
abbrev Pr := Nat × Nat × Nat × Nat   -- j more i perturb
noncomputable def adv (mask : Nat) : Pr → Pr := fun (j, more, i, pt) => if more > 0 then (j + 1, more - 1, i, pt) else
  let i' := (i * 5 + 1 + pt / 32) % (mask + 1)
  (i', SetTable.runEnd mask i' - i', i', pt / 32)
noncomputable def pstart (mask : Nat) (h : Int) : Pr := let i := SetTable.bits h % (mask + 1); (i, SetTable.runEnd mask i - i, i, SetTable.bits h)
noncomputable def path (mask : Nat) (h : Int) : Nat → Pr
  | 0 => pstart mask h
  | n + 1 => adv mask (path mask h n)
noncomputable def prOf (p : SetTable.Probe) : Pr := (p.j, p.more, p.i, p.perturb)
theorem prOf_start (t : SetTable) (h : Int) : prOf (t.probeStart h) = pstart t.mask h := rfl
theorem prOf_adv (t : SetTable) (p : SetTable.Probe) (d : Option Nat) : prOf (t.advance { p with dummy := d }) = adv t.mask (prOf p) := by
  unfold SetTable.advance adv prOf
  dsimp only
  split <;> rfl

/-- the state at the head of the m-th leap -/
noncomputable def leapI (mask : Nat) (b : Nat) : Nat → Nat
  | 0 => b % (mask + 1)
  | m + 1 => (leapI mask b m * 5 + 1 + b / 32 ^ (m + 1)) % (mask + 1)
theorem runEnd_le (mask i : Nat) : SetTable.runEnd mask i - i ≤ 9 := by unfold SetTable.runEnd; split <;> omega
theorem runEnd_ge (mask i : Nat) : i ≤ SetTable.runEnd mask i := by unfold SetTable.runEnd; split <;> omega
theorem path_run (mask : Nat) (h : Int) (k i pt : Nat) : ∀ (r e j : Nat), path mask h k = (j, r + e, i, pt) → path mask h (k + r) = (j + r, e, i, pt)
  | 0, e, j, hk => by simpa using hk
  | r + 1, e, j, hk => by
    have hk' : path mask h k = (j, r + (e + 1), i, pt) := by rw [hk]; congr 2; omega
    have := path_run mask h k i pt r (e + 1) j hk'
    show adv mask (path mask h (k + r)) = _
    rw [this]
    unfold adv
    simp
    omega
theorem path_leap (mask : Nat) (h : Int) : ∀ m, ∃ k, k ≤ 10 * m ∧ path mask h k = (leapI mask (SetTable.bits h) m, SetTable.runEnd mask (leapI mask (SetTable.bits h) m) - leapI mask (SetTable.bits h) m, leapI mask (SetTable.bits h) m, SetTable.bits h / 32 ^ m)
  | 0 => ⟨0, Nat.le_refl _, by simp [path, pstart, leapI]⟩
  | m + 1 => by
    obtain ⟨k, hk, e⟩ := path_leap mask h m
    have e' := path_run mask h k _ _ (SetTable.runEnd mask (leapI mask (SetTable.bits h) m) - leapI mask (SetTable.bits h) m) 0 _ (by rw [Nat.add_zero]; exact e)
    have hr := runEnd_le mask (leapI mask (SetTable.bits h) m)
    refine ⟨k + (SetTable.runEnd mask (leapI mask (SetTable.bits h) m) - leapI mask (SetTable.bits h) m) + 1, by omega, ?_⟩
    show adv mask (path mask h _) = _
    rw [e']
    unfold adv
    dsimp only
    rw [if_neg (by omega)]
    have hd : SetTable.bits h / 32 ^ m / 32 = SetTable.bits h / 32 ^ (m + 1) := by rw [Nat.div_div_eq_div_mul, Nat.pow_succ]
    simp only [leapI, hd]

noncomputable def orb (n i : Nat) : Nat → List Nat
  | 0 => []
  | f + 1 => i :: orb n ((i * 5 + 1) % n) f
noncomputable def okMask (mask : Nat) : Prop := mask = 7 ∨ mask = 15 ∨ mask = 31 ∨ mask = 63
theorem orb_bits : ([8, 16, 32, 64].all fun n => (List.range n).all fun i => (orb n i n).foldl (fun m x => m ||| (1 <<< x)) 0 == 2 ^ n - 1) = true := by decide +kernel
theorem testBit_fold (s : Nat) : ∀ (l : List Nat) (m : Nat), (l.foldl (fun m x => m ||| (1 <<< x)) m).testBit s = true → m.testBit s = true ∨ s ∈ l
  | [], m, h => .inl h
  | x :: l, m, h => by
    rcases testBit_fold s l _ h with h | h
    · rw [Nat.testBit_or, Bool.or_eq_true] at h
      rcases h with h | h
      · exact .inl h
      · refine .inr ?_
        rw [Nat.one_shiftLeft, Nat.testBit_two_pow] at h
        simp at h
        simp [h]
    · exact .inr (.tail _ h)
theorem bits_lt (h : Int) : SetTable.bits h < 2 ^ 64 := by
  unfold SetTable.bits
  have h1 : 0 ≤ h % (2 ^ 64 : Int) := Int.emod_nonneg _ (by decide)
  have h2 : h % (2 ^ 64 : Int) < 2 ^ 64 := Int.emod_lt_of_pos _ (by decide)
  omega
theorem leapI_orb (mask b : Nat) (hb : b < 2 ^ 64) (hm : 0 < mask + 1) : ∀ (f m s : Nat), s ∈ orb (mask + 1) (leapI mask b (12 + m)) f → ∃ k, k < f ∧ leapI mask b (12 + m + k) = s
  | 0, m, s, h => by simp [orb] at h
  | f + 1, m, s, h => by
    simp only [orb, List.mem_cons] at h
    rcases h with rfl | h
    · exact ⟨0, by omega, rfl⟩
    · have hz : b / 32 ^ (12 + m + 1) = 0 := by
        refine Nat.div_eq_of_lt (Nat.lt_of_lt_of_le hb ?_)
        calc 2 ^ 64 ≤ 32 ^ 13 := by decide
          _ ≤ 32 ^ (12 + m + 1) := Nat.pow_le_pow_right (by decide) (by omega)
      have e : leapI mask b (12 + (m + 1)) = (leapI mask b (12 + m) * 5 + 1) % (mask + 1) := by
        show leapI mask b (12 + m + 1) = _
        simp only [leapI, hz, Nat.add_zero]
      rw [← e] at h
      obtain ⟨k, hk, hs⟩ := leapI_orb mask b hb hm f (m + 1) s h
      exact ⟨k + 1, by omega, by rw [show 12 + m + (k + 1) = 12 + (m + 1) + k from by omega]; exact hs⟩
theorem leap_cover (mask b s : Nat) (hm : okMask mask) (hb : b < 2 ^ 64) (hs : s ≤ mask) : ∃ m, m < 12 + (mask + 1) ∧ leapI mask b m = s := by
  have hc := orb_bits
  rw [List.all_eq_true] at hc
  have hn : mask + 1 ∈ [8, 16, 32, 64] := by rcases hm with rfl | rfl | rfl | rfl <;> decide
  have h1 := List.all_eq_true.mp (hc _ hn) (leapI mask b 12) (by
    rw [List.mem_range]; show (_ % (mask + 1)) < _; exact Nat.mod_lt _ (by omega))
  have h2 : s ∈ orb (mask + 1) (leapI mask b 12) (mask + 1) := by
    rcases testBit_fold s _ 0 (by rw [beq_iff_eq.mp h1, Nat.testBit_two_pow_sub_one]; simp; omega) with h | h
    · simp at h
    · exact h
  obtain ⟨k, hk, e⟩ := leapI_orb mask b hb (by omega) (mask + 1) 0 s h2
  exact ⟨12 + k, by omega, by simpa using e⟩
theorem path_cover (mask : Nat) (h : Int) (s : Nat) (hm : okMask mask) (hs : s ≤ mask) : ∃ k, k < 10 * SetTable.turns mask ∧ (path mask h k).1 = s := by
  obtain ⟨m, hmm, e⟩ := leap_cover mask _ s hm (bits_lt h) hs
  obtain ⟨k, hk, ep⟩ := path_leap mask h m
  exact ⟨k, by unfold SetTable.turns; omega, by rw [ep]; exact e⟩
theorem adv_le (mask : Nat) (x : Pr) (h : x.1 + x.2.1 ≤ mask) : (adv mask x).1 + (adv mask x).2.1 ≤ mask := by
  obtain ⟨j, more, i, pt⟩ := x
  unfold adv
  dsimp only at *
  split
  · show j + 1 + (more - 1) ≤ mask; omega
  · show _ % (mask + 1) + (SetTable.runEnd mask _ - _) ≤ mask
    have := Nat.mod_lt (i * 5 + 1 + pt / 32) (show mask + 1 > 0 by omega)
    unfold SetTable.runEnd; split <;> omega
theorem path_le (mask : Nat) (h : Int) (k : Nat) : (path mask h k).1 + (path mask h k).2.1 ≤ mask := by
  induction k with
  | zero =>
    show SetTable.bits h % (mask + 1) + (SetTable.runEnd mask _ - _) ≤ mask
    have := Nat.mod_lt (SetTable.bits h) (show mask + 1 > 0 by omega)
    unfold SetTable.runEnd; split <;> omega
  | succ k ih => exact adv_le mask _ ih
end Mine
end
section
open PySem
set_option autoImplicit false
set_option linter.unusedVariables false
set_option linter.unusedSectionVars false
namespace Mine

theorem length_of_all : ∀ (n : Nat) (l : List Nat), (∀ s, s < n → s ∈ l) → n ≤ l.length
  | 0, _, _ => Nat.zero_le _
  | n + 1, l, h => by
    have hm := h n (Nat.lt_succ_self n)
    have := length_of_all n (l.erase n) fun s hs => (List.mem_erase_of_ne (by omega)).mpr (h s (by omega))
    rw [List.length_erase_of_mem hm] at this
    have : 0 < l.length := List.length_pos_of_mem hm
    omega
theorem length_le_of_nodup : ∀ (n : Nat) (l : List Nat), l.Nodup → (∀ x ∈ l, x < n) → l.length ≤ n := by
  intro n
  induction n with
  | zero =>
    intro l _ h
    cases l with
    | nil => exact Nat.le_refl _
    | cons a r => exact absurd (h a (.head _)) (by omega)
  | succ n ih =>
    intro l nd h
    by_cases hm : n ∈ l
    · have h1 := ih (l.erase n) (nd.erase n) fun x hx => by
        have h2 := h x (List.mem_of_mem_erase hx)
        have h3 : x ≠ n := fun e => by subst e; exact (List.Nodup.not_mem_erase nd) hx
        omega
      rw [List.length_erase_of_mem hm] at h1
      omega
    · have := ih l nd fun x hx => by
        have h2 := h x hx
        have h3 : x ≠ n := fun e => hm (e ▸ hx)
        omega
      omega
theorem Ris.nodup {l : List Nat} (h : Ris l) : l.Nodup := List.Pairwise.imp (fun h => Nat.ne_of_lt h) h

structure TOK (t : SetTable) : Prop where
  okm : okMask t.mask
  ris : Ris t.place.toList
  bd : ∀ j ∈ t.place.toList, j ≤ t.mask
  drs : Ris t.dummies.toList
  dbd : ∀ j ∈ t.dummies.toList, j ≤ t.mask
  dis : ∀ j ∈ t.dummies.toList, j ∉ t.place.toList
  fill : t.fill ≤ t.mask

theorem okMask.pos {m : Nat} (h : okMask m) : 7 ≤ m := by rcases h with rfl | rfl | rfl | rfl <;> omega
theorem okMask.le {m : Nat} (h : okMask m) : m ≤ 63 := by rcases h with rfl | rfl | rfl | rfl <;> omega

section
variable {t : SetTable} (T : TOK t)
include T
theorem TOK.slot_live {j i : Nat} : t.slot j = .live i → t.place[i]? = some j := by
  unfold SetTable.slot
  dsimp only
  intro h
  split at h
  · rename_i hc; cases h; exact beq_iff_eq.mp hc
  · split at h <;> cases h
theorem TOK.slot_of_mem {j : Nat} (h : j ∈ t.place.toList) : ∃ i, t.slot j = .live i ∧ t.place[i]? = some j := by
  have := (below_mem t.place j T.ris).mpr h
  refine ⟨SetTable.below t.place j, ?_, this⟩
  unfold SetTable.slot
  dsimp only
  rw [if_pos (by rw [this]; exact beq_self_eq_true _)]
theorem TOK.slot_dummy {j : Nat} : t.slot j = .dummy ↔ j ∈ t.dummies.toList := by
  unfold SetTable.slot
  dsimp only
  constructor
  · intro h
    split at h
    · cases h
    · split at h
      · rename_i hd; exact (has_iff _ _ T.drs).mp hd
      · cases h
  · intro h
    rw [if_neg, if_pos ((has_iff _ _ T.drs).mpr h)]
    rw [beq_iff_eq, below_mem _ _ T.ris]
    exact T.dis j h
theorem TOK.slot_empty {j : Nat} : t.slot j = .empty ↔ j ∉ t.place.toList ∧ j ∉ t.dummies.toList := by
  unfold SetTable.slot
  dsimp only
  constructor
  · intro h
    split at h
    · cases h
    · rename_i h1
      split at h
      · cases h
      · rename_i h2
        exact ⟨fun hm => h1 (by rw [beq_iff_eq, below_mem _ _ T.ris]; exact hm), fun hm => h2 ((has_iff _ _ T.drs).mpr hm)⟩
  · rintro ⟨h1, h2⟩
    rw [if_neg, if_neg]
    · rw [has_iff _ _ T.drs]; exact h2
    · rw [beq_iff_eq, below_mem _ _ T.ris]; exact h1
theorem TOK.exists_empty : ∃ s, s ≤ t.mask ∧ t.slot s = .empty := by
  apply Classical.byContradiction
  intro hno
  have := length_of_all (t.mask + 1) (t.place.toList ++ t.dummies.toList) fun s hs => by
    apply Classical.byContradiction
    intro hm
    rw [List.mem_append, not_or] at hm
    exact hno ⟨s, by omega, T.slot_empty.mpr hm⟩
  have h2 := T.fill
  unfold SetTable.fill at h2
  rw [List.length_append, Array.length_toList, Array.length_toList] at this
  omega
end

/-- where a search stops -/
noncomputable def stops (t : SetTable) (hashAt : Nat → Int) (h : Int) (j : Nat) : Bool := match t.slot j with
  | .empty => true
  | .dummy => false
  | .live i => hashAt i == h
theorem probe_go (t : SetTable) (hashAt : Nat → Int) (h : Int) : ∀ (f k k' : Nat) (p : SetTable.Probe), prOf p = path t.mask h k → k ≤ k' → k' < k + f →
    (∀ m, k ≤ m → m < k' → stops t hashAt h (path t.mask h m).1 = false) → stops t hashAt h (path t.mask h k').1 = true → (∀ d, p.dummy = some d → t.slot d = .dummy) →
    ∃ d p', prOf p' = path t.mask h k' ∧ (∀ x, d = some x → t.slot x = .dummy) ∧ SetTable.probe.go t hashAt h f p = (match t.slot (path t.mask h k').1 with
      | .empty => some (.empty (path t.mask h k').1 d) | .live i => some (.candidate (path t.mask h k').1 i (t.advance p')) | .dummy => none) := by
  intro f
  induction f with
  | zero => intro k k' p _ h1 h2; omega
  | succ f ih =>
    intro k k' p hp hk hk' hno hst hd
    have hj : p.j = (path t.mask h k).1 := congrArg Prod.fst hp
    unfold SetTable.probe.go
    rcases Nat.eq_or_lt_of_le hk with rfl | hlt
    · refine ⟨p.dummy, p, hp, hd, ?_⟩
      rw [← hj] at hst ⊢
      unfold stops at hst
      cases hs : t.slot p.j with
      | empty => rfl
      | dummy => rw [hs] at hst; cases hst
      | live i =>
        rw [hs] at hst
        dsimp only at hst ⊢
        rw [if_pos hst]
    · have h0 := hno k (Nat.le_refl _) hlt
      rw [← hj] at h0
      unfold stops at h0
      have next : ∀ d, (∀ x, d = some x → t.slot x = .dummy) → prOf (t.advance { p with dummy := d }) = path t.mask h (k + 1) := fun d _ => by
        rw [prOf_adv, hp]; rfl
      have dum : ∀ d, (t.advance { p with dummy := d }).dummy = d := fun d => by unfold SetTable.advance; dsimp only; split <;> rfl
      cases hs : t.slot p.j with
      | empty => rw [hs] at h0; cases h0
      | dummy =>
        dsimp only
        have hd' : ∀ x, some p.j = some x → t.slot x = .dummy := fun x e => by cases e; exact hs
        exact ih (k + 1) k' _ (next _ hd') (by omega) (by omega) (fun m h1 h2 => hno m (by omega) h2) hst (by rw [dum]; exact hd')
      | live i =>
        rw [hs] at h0
        dsimp only at h0 ⊢
        rw [h0]
        exact ih (k + 1) k' _ (next p.dummy hd) (by omega) (by omega) (fun m h1 h2 => hno m (by omega) h2) hst (by rw [dum]; exact hd)

theorem first_such (P : Nat → Bool) : ∀ n, P n = true → ∃ m, m ≤ n ∧ P m = true ∧ ∀ k, k < m → P k = false := by
  intro n
  induction n using Nat.strongRecOn with
  | ind n ih =>
    intro hn
    by_cases h : ∃ k, k < n ∧ P k = true
    · obtain ⟨k, hk, hp⟩ := h
      obtain ⟨m, h1, h2, h3⟩ := ih k hk hp
      exact ⟨m, by omega, h2, h3⟩
    · refine ⟨n, Nat.le_refl _, hn, fun k hk => ?_⟩
      cases hp : P k with
      | false => rfl
      | true => exact absurd ⟨k, hk, hp⟩ h

/-- a search from the start: the first stop on the path -/
theorem TOK.probe {t : SetTable} (T : TOK t) (hashAt : Nat → Int) (h : Int) : ∃ k d p', k < 10 * SetTable.turns t.mask ∧ (∀ m, m < k → stops t hashAt h (path t.mask h m).1 = false) ∧ stops t hashAt h (path t.mask h k).1 = true ∧
    (∀ x, d = some x → t.slot x = .dummy) ∧ t.probe hashAt h (t.probeStart h) = (match t.slot (path t.mask h k).1 with
      | .empty => some (.empty (path t.mask h k).1 d) | .live i => some (.candidate (path t.mask h k).1 i (t.advance p')) | .dummy => none) := by
  obtain ⟨s, hs, he⟩ := T.exists_empty
  obtain ⟨k, hk, hp⟩ := path_cover t.mask h s T.okm hs
  obtain ⟨m, h1, h2, h3⟩ := first_such (fun m => stops t hashAt h (path t.mask h m).1) k (by show stops t hashAt h (path t.mask h k).1 = true; rw [hp]; unfold stops; rw [he])
  obtain ⟨d, p', e1, e2, e3⟩ := probe_go t hashAt h (10 * SetTable.turns t.mask) 0 m (t.probeStart h) (prOf_start t h) (Nat.zero_le _) (by omega) (fun x _ hx => h3 x hx) h2 (fun d e => by cases e)
  exact ⟨m, d, p', by omega, h3, h2, e2, e3⟩

theorem TOK.freeSlot {t : SetTable} (T : TOK t) (h : Int) : ∃ s wd, t.freeSlot h = some (s, wd) ∧ s ≤ t.mask ∧ s ∉ t.place.toList ∧ (wd = false → s ∉ t.dummies.toList ∧ ∃ k, k < 10 * SetTable.turns t.mask ∧ (path t.mask h k).1 = s ∧ ∀ m, m < k → t.slot (path t.mask h m).1 ≠ .empty) ∧ (wd = true → s ∈ t.dummies.toList) := by
  obtain ⟨k, d, p', hk, hno, hst, hd, e⟩ := T.probe (fun _ => h + 1) h
  have hne : (h + 1 == h) = false := by rw [beq_eq_false_iff_ne]; omega
  have hem : t.slot (path t.mask h k).1 = .empty := by
    unfold stops at hst
    cases hs : t.slot (path t.mask h k).1 with
    | empty => rfl
    | dummy => rw [hs] at hst; cases hst
    | live i => rw [hs] at hst; dsimp only at hst; rw [hne] at hst; cases hst
  rw [hem] at e
  have hno' : ∀ m, m < k → t.slot (path t.mask h m).1 ≠ .empty := fun m hm q => by
    have := hno m hm; unfold stops at this; rw [q] at this; cases this
  unfold SetTable.freeSlot
  rw [e]
  have he := T.slot_empty.mp hem
  cases d with
  | none => exact ⟨_, false, rfl, by have := path_le t.mask h k; simp; omega, he.1, fun _ => ⟨he.2, k, hk, rfl, hno'⟩, fun q => by cases q⟩
  | some x =>
    have hx := T.slot_dummy.mp (hd x rfl)
    exact ⟨x, true, rfl, T.dbd x hx, T.dis x hx, fun q => by simp at q, fun _ => hx⟩

theorem TOK.put {t : SetTable} (T : TOK t) {s : Nat} (hs : s ≤ t.mask) (hp : s ∉ t.place.toList) (hf : s ∈ t.dummies.toList ∨ t.fill + 1 ≤ t.mask) : TOK (t.put s).1 ∧ (t.put s).1.mask = t.mask ∧ (∀ x, x ∈ (t.put s).1.place.toList ↔ x = s ∨ x ∈ t.place.toList) ∧ (∀ x, t.slot x ≠ .empty → (t.put s).1.slot x ≠ .empty) ∧
    (t.put s).1.place.size = t.place.size + 1 ∧ (t.put s).1.fill ≤ t.fill + 1 := by
  have hmem : ∀ x, x ∈ (t.put s).1.place.toList ↔ x = s ∨ x ∈ t.place.toList := fun x => mem_insertAt _ _ _ _
  have hsz : (t.put s).1.place.size = t.place.size + 1 := size_insertAt _ _ _
  -- the dummies behind
  have hdum : ∃ d : Array Nat, (t.put s).1.dummies = d ∧ d.toList.Sublist t.dummies.toList ∧ s ∉ d.toList ∧ (∀ x, x ∈ t.dummies.toList → x = s ∨ x ∈ d.toList) ∧ (s ∈ t.dummies.toList → d.size + 1 = t.dummies.size) := by
    unfold SetTable.put
    dsimp only
    by_cases hd : s ∈ t.dummies.toList
    · have hb := (below_mem _ _ T.drs).mpr hd
      have hlt := (Array.getElem?_eq_some_iff.mp hb).1
      have hge := (Array.getElem?_eq_some_iff.mp hb).2
      have hsplit : t.dummies.toList = t.dummies.toList.take (SetTable.below t.dummies s) ++ s :: t.dummies.toList.drop (SetTable.below t.dummies s + 1) := by
        have h1 := (List.take_append_drop (SetTable.below t.dummies s) t.dummies.toList).symm
        rw [List.drop_eq_getElem_cons (by simpa using hlt)] at h1
        simpa [hge] using h1
      rw [if_pos ((has_iff _ _ T.drs).mpr hd)]
      refine ⟨_, rfl, eraseAt_sublist _ _, ?_, ?_, ?_⟩
      · rw [toList_eraseAt]
        have nd := T.drs.nodup
        rw [hsplit, List.nodup_append] at nd
        obtain ⟨_, n2, n3⟩ := nd
        rw [List.nodup_cons] at n2
        rw [List.mem_append]
        rintro (q | q)
        · exact n3 s q s (.head _) rfl
        · exact n2.1 q
      · intro x hx
        rw [toList_eraseAt]
        rw [hsplit, List.mem_append, List.mem_cons] at hx
        rw [List.mem_append]
        rcases hx with q | q | q
        · exact .inr (.inl q)
        · exact .inl q
        · exact .inr (.inr q)
      · intro _
        have h2 : (SetTable.eraseAt t.dummies (SetTable.below t.dummies s)).toList.length + 1 = t.dummies.toList.length := by
          rw [toList_eraseAt]
          conv => rhs; rw [hsplit]
          simp only [List.length_append, List.length_cons]
          omega
        rwa [Array.length_toList, Array.length_toList] at h2
    · rw [if_neg (by rw [has_iff _ _ T.drs]; exact hd)]
      exact ⟨_, rfl, List.Sublist.refl _, hd, fun x hx => .inr hx, fun q => absurd q hd⟩
  obtain ⟨d, hd, hsub, hsd, hdm, hds⟩ := hdum
  have hmask : (t.put s).1.mask = t.mask := rfl
  have hdle : d.size ≤ t.dummies.size := by have := hsub.length_le; simpa using this
  have hfill : (t.put s).1.fill ≤ t.mask := by
    unfold SetTable.fill
    rw [hsz, hd]
    have h0 := T.fill
    unfold SetTable.fill at h0 hf
    rcases hf with q | q
    · have := hds q; omega
    · omega
  have T' : TOK (t.put s).1 := by
    refine ⟨T.okm, ris_insert _ _ T.ris hp, ?_, ?_, ?_, ?_, hfill⟩
    · intro j hj
      rcases (hmem j).mp hj with rfl | q
      · exact hs
      · exact T.bd j q
    · rw [hd]; exact T.drs.sublist hsub
    · intro j hj; rw [hd] at hj; exact T.dbd j (hsub.subset hj)
    · intro j hj hm
      rw [hd] at hj
      rcases (hmem j).mp hm with rfl | q
      · exact hsd hj
      · exact T.dis j (hsub.subset hj) q
  refine ⟨T', hmask, hmem, ?_, hsz, ?_⟩
  · intro x hx he
    have h1 := T'.slot_empty.mp he
    refine hx (T.slot_empty.mpr ⟨fun q => h1.1 ((hmem x).mpr (.inr q)), fun q => ?_⟩)
    rcases hdm x q with rfl | q
    · exact h1.1 ((hmem x).mpr (.inl rfl))
    · exact h1.2 (by rw [hd]; exact q)
  · unfold SetTable.fill
    rw [hsz, hd]; omega

theorem mem_of_nodup_drop {α : Type} : True := trivial
theorem TOK.drop {t : SetTable} (T : TOK t) {i j : Nat} (hj : t.place[i]? = some j) : TOK (t.drop i) ∧ (t.drop i).mask = t.mask ∧ (t.drop i).place.toList = t.place.toList.take i ++ t.place.toList.drop (i + 1) ∧ (t.drop i).fill = t.fill := by
  have hlt := (Array.getElem?_eq_some_iff.mp hj).1
  have hge := (Array.getElem?_eq_some_iff.mp hj).2
  have hsplit : t.place.toList = t.place.toList.take i ++ j :: t.place.toList.drop (i + 1) := by
    have h1 := (List.take_append_drop i t.place.toList).symm
    rw [List.drop_eq_getElem_cons (by simpa using hlt)] at h1
    simpa [hge] using h1
  have hjm : j ∈ t.place.toList := by rw [hsplit]; simp
  have hjd : j ∉ t.dummies.toList := fun q => T.dis j q hjm
  have e : t.drop i = { t with place := SetTable.eraseAt t.place i, dummies := SetTable.insertAt t.dummies (SetTable.below t.dummies j) j } := by
    unfold SetTable.drop; rw [hj]
  have hpl : (t.drop i).place.toList = t.place.toList.take i ++ t.place.toList.drop (i + 1) := by rw [e]; exact toList_eraseAt _ _
  have hsub : (t.drop i).place.toList.Sublist t.place.toList := by rw [e]; exact eraseAt_sublist _ _
  have hjn : j ∉ (t.drop i).place.toList := by
    rw [hpl]
    have nd := T.ris.nodup
    rw [hsplit, List.nodup_append] at nd
    obtain ⟨_, n2, n3⟩ := nd
    rw [List.nodup_cons] at n2
    rw [List.mem_append]
    rintro (q | q)
    · exact n3 j q j (.head _) rfl
    · exact n2.1 q
  have hdm : ∀ x, x ∈ (t.drop i).dummies.toList ↔ x = j ∨ x ∈ t.dummies.toList := fun x => by rw [e]; exact mem_insertAt _ _ _ _
  have hfill : (t.drop i).fill = t.fill := by
    unfold SetTable.fill
    have h1 : (t.drop i).place.size + 1 = t.place.size := by
      have h2 : (t.drop i).place.toList.length + 1 = t.place.toList.length := by
        rw [hpl]
        conv => rhs; rw [hsplit]
        simp only [List.length_append, List.length_cons]; omega
      rwa [Array.length_toList, Array.length_toList] at h2
    have h3 : (t.drop i).dummies.size = t.dummies.size + 1 := by rw [e]; exact size_insertAt _ _ _
    omega
  have hmask : (t.drop i).mask = t.mask := by rw [e]
  refine ⟨⟨hmask ▸ T.okm, T.ris.sublist hsub, fun x hx => hmask ▸ T.bd x (hsub.subset hx), ?_, ?_, ?_, by rw [hfill, hmask]; exact T.fill⟩, hmask, hpl, hfill⟩
  · rw [e]; exact ris_insert _ _ T.drs hjd
  · intro x hx
    rw [hmask]
    rcases (hdm x).mp hx with rfl | q
    · exact T.bd _ hjm
    · exact T.dbd x q
  · intro x hx hm
    rcases (hdm x).mp hx with rfl | q
    · exact hjn hm
    · exact T.dis x q (hsub.subset hm)
end Mine
end
section
open PySem
set_option autoImplicit false
set_option linter.unusedVariables false
set_option linter.unusedSectionVars false
namespace Mine

abbrev Own := Array (Option Nat)
noncomputable def occ (ow : Own) (j : Nat) : Prop := ∃ o, ow[j]? = some (some o)

theorem free_spec (mask : Nat) (ow : Own) (hsz : ow.size = mask + 1) (h : Int) : ∀ (f m k : Nat),
    path mask h k = (leapI mask (SetTable.bits h) m, SetTable.runEnd mask (leapI mask (SetTable.bits h) m) - leapI mask (SetTable.bits h) m, leapI mask (SetTable.bits h) m, SetTable.bits h / 32 ^ m) →
    (∃ s k', SetTable.layClean.free mask ow f (leapI mask (SetTable.bits h) m) (SetTable.bits h / 32 ^ m) = some s ∧ k ≤ k' ∧ k' < k + 10 * f ∧ (path mask h k').1 = s ∧ ow[s]? = some none ∧ ∀ x, k ≤ x → x < k' → occ ow (path mask h x).1) ∨
    (SetTable.layClean.free mask ow f (leapI mask (SetTable.bits h) m) (SetTable.bits h / 32 ^ m) = none ∧ ∀ m', m ≤ m' → m' < m + f → occ ow (leapI mask (SetTable.bits h) m'))
  | 0, m, k, hp => .inr ⟨rfl, fun m' h1 h2 => by omega⟩
  | f + 1, m, k, hp => by
    have hi : leapI mask (SetTable.bits h) m < mask + 1 := by cases m <;> exact Nat.mod_lt _ (by omega)
    have hre := runEnd_ge mask (leapI mask (SetTable.bits h) m)
    have hrl := runEnd_le mask (leapI mask (SetTable.bits h) m)
    have hrm : SetTable.runEnd mask (leapI mask (SetTable.bits h) m) ≤ mask := by unfold SetTable.runEnd; split <;> omega
    have pos : ∀ r, r ≤ SetTable.runEnd mask (leapI mask (SetTable.bits h) m) - leapI mask (SetTable.bits h) m → (path mask h (k + r)).1 = leapI mask (SetTable.bits h) m + r := by
      intro r hr
      have := path_run mask h k _ _ r (SetTable.runEnd mask (leapI mask (SetTable.bits h) m) - leapI mask (SetTable.bits h) m - r) _ (by rw [hp]; congr 2; omega)
      rw [this]
    have look : ∀ r, r ≤ SetTable.runEnd mask (leapI mask (SetTable.bits h) m) - leapI mask (SetTable.bits h) m → ((ow.getD (leapI mask (SetTable.bits h) m + r) (some 0)).isNone = true ↔ ow[leapI mask (SetTable.bits h) m + r]? = some none) := by
      intro r hr
      have hlt : leapI mask (SetTable.bits h) m + r < ow.size := by omega
      rw [Array.getElem?_eq_getElem hlt, Array.getD]
      simp [hlt]
    unfold SetTable.layClean.free
    cases hf : (List.range (SetTable.runEnd mask (leapI mask (SetTable.bits h) m) + 1 - leapI mask (SetTable.bits h) m)).find? (fun k => (ow.getD (leapI mask (SetTable.bits h) m + k) (some 0)).isNone) with
    | some r =>
      left
      have hfs := List.find?_some hf
      have hmem := List.mem_of_find?_eq_some hf
      rw [List.mem_range] at hmem
      refine ⟨_, k + r, rfl, by omega, by omega, pos r (by omega), (look r (by omega)).mp hfs, ?_⟩
      intro x hx1 hx2
      have e := pos (x - k) (by omega)
      rw [show k + (x - k) = x from by omega] at e
      rw [e]
      -- not none there: find? takes the first
      have hbefore : (ow.getD (leapI mask (SetTable.bits h) m + (x - k)) (some 0)).isNone = false := by
        have h3 := List.find?_eq_some_iff_getElem.mp hf
        obtain ⟨_, i, hi', hie, hall⟩ := h3
        rw [List.getElem_range] at hie
        subst hie
        have := hall (x - k) (by omega)
        rw [List.getElem_range] at this
        simpa using this
      have hlt : leapI mask (SetTable.bits h) m + (x - k) < ow.size := by omega
      have h4 : ¬ ow[leapI mask (SetTable.bits h) m + (x - k)]? = some none := fun q => by
        have := (look (x - k) (by omega)).mpr q
        rw [hbefore] at this; cases this
      rw [Array.getElem?_eq_getElem hlt] at h4
      cases hq : ow[leapI mask (SetTable.bits h) m + (x - k)] with
      | none => rw [hq] at h4; exact absurd rfl h4
      | some o => exact ⟨o, by rw [Array.getElem?_eq_getElem hlt, hq]⟩
    | none =>
      have hall : ∀ r, r ≤ SetTable.runEnd mask (leapI mask (SetTable.bits h) m) - leapI mask (SetTable.bits h) m → occ ow (leapI mask (SetTable.bits h) m + r) := by
        intro r hr
        have h1 := List.find?_eq_none.mp hf r (by rw [List.mem_range]; omega)
        have hlt : leapI mask (SetTable.bits h) m + r < ow.size := by omega
        have h4 : ¬ ow[leapI mask (SetTable.bits h) m + r]? = some none := fun q => h1 ((look r hr).mpr q)
        rw [Array.getElem?_eq_getElem hlt] at h4
        cases hq : ow[leapI mask (SetTable.bits h) m + r] with
        | none => rw [hq] at h4; exact absurd rfl h4
        | some o => exact ⟨o, by rw [Array.getElem?_eq_getElem hlt, hq]⟩
      dsimp only
      -- the next leap
      have hd : SetTable.bits h / 32 ^ m / 32 = SetTable.bits h / 32 ^ (m + 1) := by rw [Nat.div_div_eq_div_mul, Nat.pow_succ]
      have hl : SetTable.leap mask (leapI mask (SetTable.bits h) m) (SetTable.bits h / 32 ^ m) = (leapI mask (SetTable.bits h) (m + 1), SetTable.bits h / 32 ^ (m + 1)) := by
        unfold SetTable.leap; simp only [leapI, hd]
      rw [hl]
      have hk2 : path mask h (k + (SetTable.runEnd mask (leapI mask (SetTable.bits h) m) - leapI mask (SetTable.bits h) m) + 1) = (leapI mask (SetTable.bits h) (m + 1), SetTable.runEnd mask (leapI mask (SetTable.bits h) (m + 1)) - leapI mask (SetTable.bits h) (m + 1), leapI mask (SetTable.bits h) (m + 1), SetTable.bits h / 32 ^ (m + 1)) := by
        have e' := path_run mask h k _ _ (SetTable.runEnd mask (leapI mask (SetTable.bits h) m) - leapI mask (SetTable.bits h) m) 0 _ (by rw [Nat.add_zero]; exact hp)
        show adv mask (path mask h _) = _
        rw [e']
        unfold adv
        dsimp only
        rw [if_neg (by omega)]
        simp only [leapI, hd]
      rcases free_spec mask ow hsz h f (m + 1) _ hk2 with ⟨s, k', e1, e2, e3, e4, e5, e6⟩ | ⟨e1, e2⟩
      · left
        refine ⟨s, k', e1, by omega, by omega, e4, e5, fun x hx1 hx2 => ?_⟩
        rcases Nat.lt_or_ge x (k + (SetTable.runEnd mask (leapI mask (SetTable.bits h) m) - leapI mask (SetTable.bits h) m) + 1) with hx | hx
        · have e := pos (x - k) (by omega)
          rw [show k + (x - k) = x from by omega] at e
          rw [e]; exact hall _ (by omega)
        · exact e6 x hx hx2
      · right
        refine ⟨e1, fun m' h1 h2 => ?_⟩
        rcases Nat.eq_or_lt_of_le h1 with rfl | h3
        · simpa using hall 0 (Nat.zero_le _)
        · exact e2 m' (by omega) (by omega)

/-- the owners after the first c hashes are laid -/
structure LayInv (mask : Nat) (hs : List Int) (c : Nat) (ow : Own) : Prop where
  sz : ow.size = mask + 1
  lt : ∀ j k : Nat, ow[j]? = some (some k) → k < c
  inj : ∀ j j' k : Nat, ow[j]? = some (some k) → ow[j']? = some (some k) → j = j'
  at_ : ∀ k : Nat, k < c → ∃ (j : Nat) (h : Int) (x : Nat), ow[j]? = some (some k) ∧ hs[k]? = some h ∧ x < 10 * SetTable.turns mask ∧ (path mask h x).1 = j ∧ ∀ y, y < x → occ ow (path mask h y).1

theorem LayInv.exists_free {mask : Nat} {hs : List Int} {c : Nat} {ow : Own} (I : LayInv mask hs c ow) (hc : c ≤ mask) : ∃ s, s ≤ mask ∧ ow[s]? = some none := by
  apply Classical.byContradiction
  intro hno
  have hall : ∀ s, s ≤ mask → occ ow s := by
    intro s hs'
    have hlt : s < ow.size := by rw [I.sz]; omega
    cases hq : ow[s] with
    | none => exact absurd ⟨s, hs', by rw [Array.getElem?_eq_getElem hlt, hq]⟩ hno
    | some o => exact ⟨o, by rw [Array.getElem?_eq_getElem hlt, hq]⟩
  have nd : ((List.range (mask + 1)).map fun s => (ow[s]?.getD none).getD 0).Nodup := by
    unfold List.Nodup
    rw [List.pairwise_map, List.pairwise_iff_getElem]
    intro i j hi hj hij
    rw [List.getElem_range, List.getElem_range]
    simp only [List.length_range] at hi hj
    obtain ⟨a, ha⟩ := hall i (by omega)
    obtain ⟨b, hb⟩ := hall j (by omega)
    rw [ha, hb]
    intro e
    have e' : a = b := e
    subst e'
    exact absurd (I.inj _ _ _ ha hb) (by omega)
  have h1 := length_le_of_nodup c _ nd fun x hx => by
    obtain ⟨s, hs', rfl⟩ := List.mem_map.mp hx
    rw [List.mem_range] at hs'
    obtain ⟨a, ha⟩ := hall s (by omega)
    rw [ha]
    exact I.lt _ _ ha
  simp at h1
  omega

theorem lay_step {mask : Nat} {hs : List Int} {c : Nat} {ow : Own} {h : Int} (hm : okMask mask) (I : LayInv mask hs c ow) (hh : hs[c]? = some h) (hc : c ≤ mask) :
    ∃ j, SetTable.layClean.free mask ow (SetTable.turns mask) (SetTable.bits h % (mask + 1)) (SetTable.bits h) = some j ∧ LayInv mask hs (c + 1) (ow.setIfInBounds j (some c)) := by
  have key := free_spec mask ow I.sz h (SetTable.turns mask) 0 0 (by simp [path, pstart, leapI])
  simp only [leapI, Nat.pow_zero, Nat.div_one] at key
  rcases key with ⟨s, k', e1, _, e3, e4, e5, e6⟩ | ⟨_, e2⟩
  · refine ⟨s, e1, ?_⟩
    have hlt : s < ow.size := (Array.getElem?_eq_some_iff.mp e5).1
    have get : ∀ j, (ow.setIfInBounds s (some c))[j]? = if s = j then some (some c) else ow[j]? := fun j => by
      rw [Array.getElem?_setIfInBounds]
      by_cases e : s = j
      · subst e; simp [hlt]
      · simp [e]
    have occ' : ∀ j, occ ow j → occ (ow.setIfInBounds s (some c)) j := fun j ⟨o, ho⟩ => by
      unfold occ
      rw [get]
      split
      · exact ⟨_, rfl⟩
      · exact ⟨o, ho⟩
    refine ⟨by rw [Array.size_setIfInBounds]; exact I.sz, ?_, ?_, ?_⟩
    · intro j k hj
      rw [get] at hj
      split at hj
      · cases hj; omega
      · have := I.lt j k hj; omega
    · intro j j' k h1 h2
      rw [get] at h1 h2
      split at h1 <;> split at h2
      · omega
      · cases h1; exact absurd (I.lt _ _ h2) (by omega)
      · cases h2; exact absurd (I.lt _ _ h1) (by omega)
      · exact I.inj _ _ _ h1 h2
    · intro k hk
      rcases Nat.lt_or_ge k c with hl | hg
      · obtain ⟨j, h', x, a1, a2, a3, a4, a5⟩ := I.at_ k hl
        refine ⟨j, h', x, ?_, a2, a3, a4, fun y hy => occ' _ (a5 y hy)⟩
        rw [get]
        split
        · rename_i e; subst e; rw [e5] at a1; cases a1
        · exact a1
      · have : k = c := by omega
        subst this
        refine ⟨s, h, k', by rw [get, if_pos rfl], hh, by omega, e4, fun y hy => occ' _ (e6 y (Nat.zero_le _) hy)⟩
  · exfalso
    obtain ⟨s, hs', hsn⟩ := I.exists_free hc
    obtain ⟨m, hm1, hm2⟩ := leap_cover mask (SetTable.bits h) s hm (bits_lt h) hs'
    obtain ⟨o, ho⟩ := e2 m (Nat.zero_le _) (by unfold SetTable.turns; omega)
    rw [hm2, hsn] at ho
    cases ho

theorem layClean_spec (mask : Nat) (hm : okMask mask) (hs : Array Int) (hc : hs.size ≤ mask) : ∃ ow, SetTable.layClean mask hs = some ow ∧ LayInv mask hs.toList hs.size ow := by
  have step : ∀ (rest : List Int) (c : Nat) (ow : Own), hs.toList.drop c = rest → c ≤ hs.size → LayInv mask hs.toList c ow →
      ∃ ow', rest.foldl (fun (acc : Option (Own × Nat)) h => do
        let (owner, k) ← acc
        let j ← SetTable.layClean.free mask owner (SetTable.turns mask) (SetTable.bits h % (mask + 1)) (SetTable.bits h)
        pure (owner.setIfInBounds j (some k), k + 1)) (some (ow, c)) = some (ow', hs.size) ∧ LayInv mask hs.toList hs.size ow' := by
    intro rest
    induction rest with
    | nil =>
      intro c ow hd hcs I
      have : hs.size ≤ c := by
        have := congrArg List.length hd
        simp at this; omega
      have : c = hs.size := by omega
      subst this
      exact ⟨ow, rfl, I⟩
    | cons h r ih =>
      intro c ow hd hcs I
      have hlt : c < hs.toList.length := by
        have := congrArg List.length hd
        simp at this; simp; omega
      have hh : hs.toList[c]? = some h := by
        have := congrArg (fun l => l[0]?) hd
        simpa using this
      obtain ⟨j, e, I'⟩ := lay_step hm I hh (by simp at hlt; omega)
      obtain ⟨ow', e', I''⟩ := ih (c + 1) _ (by rw [← List.drop_drop, hd]; rfl) (by simp at hlt; omega) I'
      refine ⟨ow', ?_, I''⟩
      rw [List.foldl_cons, ← e']
      congr 1
      simp only [Option.bind_eq_bind, Option.bind_some, e]
      rfl
  have I0 : LayInv mask hs.toList 0 (Array.replicate (mask + 1) none) := by
    refine ⟨by simp, ?_, ?_, ?_⟩
    · intro j k hj
      rw [Array.getElem?_replicate] at hj
      split at hj
      · cases hj
      · cases hj
    · intro j j' k hj
      rw [Array.getElem?_replicate] at hj
      split at hj
      · cases hj
      · cases hj
    · intro k hk; omega
  obtain ⟨ow, e, I⟩ := step hs.toList 0 (Array.replicate (mask + 1) none) rfl (Nat.zero_le _) I0
  refine ⟨ow, ?_, I⟩
  unfold SetTable.layClean
  rw [← Array.foldl_toList, e]
  rfl

/-- what a laying gives: places rising, the order a permutation, each reachable -/
structure Laid (mask : Nat) (hs : List Int) (place order : List Nat) : Prop where
  ris : Ris place
  bd : ∀ j ∈ place, j ≤ mask
  len : order.length = place.length
  perm : List.Perm order (List.range hs.length)
  reach : ∀ q ∈ place.zip order, ∃ h x, hs[q.2]? = some h ∧ x < 10 * SetTable.turns mask ∧ (path mask h x).1 = q.1 ∧ ∀ y, y < x → (path mask h y).1 ∈ place

theorem laid_spec (mask finger moves : Nat) (led plain : Bool) (hm : okMask mask) (hs : Array Int) (hc : hs.size ≤ mask) : ∃ place order : Array Nat,
    SetTable.laid mask finger moves led plain hs = some ({ mask, place, dummies := #[], finger, led, moves, plain }, order) ∧ Laid mask hs.toList place.toList order.toList := by
  obtain ⟨ow, e, I⟩ := layClean_spec mask hm hs hc
  refine ⟨((((List.range (mask + 1)).filterMap fun j => (ow.getD j none).map (j, ·))).map (·.1)).toArray, ((((List.range (mask + 1)).filterMap fun j => (ow.getD j none).map (j, ·))).map (·.2)).toArray, ?_, ?_⟩
  · unfold SetTable.laid
    rw [e]
    rfl
  · have hget : ∀ j o, (ow.getD j none) = some o ↔ ow[j]? = some (some o) := fun j o => by
      rw [Array.getD]
      split
      · rename_i h; rw [Array.getElem?_eq_getElem h]; simp
      · rename_i h
        rw [Array.getElem?_eq_none (by omega)]; simp
    have hmem : ∀ q : Nat × Nat, q ∈ (List.range (mask + 1)).filterMap (fun j => (ow.getD j none).map (j, ·)) ↔ ow[q.1]? = some (some q.2) := by
      intro q
      rw [List.mem_filterMap]
      constructor
      · rintro ⟨j, hj, hq⟩
        rw [Option.map_eq_some_iff] at hq
        obtain ⟨o, ho, rfl⟩ := hq
        exact (hget _ _).mp ho
      · intro hq
        have hlt := (Array.getElem?_eq_some_iff.mp hq).1
        rw [I.sz] at hlt
        exact ⟨q.1, List.mem_range.mpr hlt, by rw [(hget _ _).mpr hq]; rfl⟩
    have hris : ∀ n, Ris (((List.range n).filterMap fun j => (ow.getD j none).map (j, ·)).map (·.1)) ∧ ∀ x ∈ ((List.range n).filterMap fun j => (ow.getD j none).map (j, ·)).map (·.1), x < n := by
      intro n
      induction n with
      | zero => exact ⟨List.Pairwise.nil, fun x hx => by simp at hx⟩
      | succ n ih =>
        rw [List.range_succ, List.filterMap_append, List.map_append]
        have h1 : ∀ x ∈ ([n].filterMap fun j => (ow.getD j none).map (j, ·)).map (·.1), x = n := by
          intro x hx
          obtain ⟨q, hq, rfl⟩ := List.mem_map.mp hx
          rw [List.mem_filterMap] at hq
          obtain ⟨j, hj, hq⟩ := hq
          rw [List.mem_singleton] at hj
          rw [Option.map_eq_some_iff] at hq
          obtain ⟨o, _, rfl⟩ := hq
          exact hj
        have h2 : ([n].filterMap fun j => (ow.getD j none).map (j, ·)).map (·.1) = [] ∨ ([n].filterMap fun j => (ow.getD j none).map (j, ·)).map (·.1) = [n] := by
          cases hq : ow.getD n none with
          | none => left; rw [List.filterMap_cons_none (by rw [hq]; rfl)]; rfl
          | some o => right; rw [List.filterMap_cons_some (b := (n, o)) (by rw [hq]; rfl)]; rfl
        refine ⟨?_, fun x hx => ?_⟩
        · refine List.pairwise_append.mpr ⟨ih.1, ?_, fun a ha b hb => by have := ih.2 a ha; have := h1 b hb; omega⟩
          rcases h2 with q | q <;> rw [q] <;> simp
        · rcases List.mem_append.mp hx with q | q
          · have := ih.2 x q; omega
          · have := h1 x q; omega
    have hr := hris (mask + 1)
    generalize hlv : (List.range (mask + 1)).filterMap (fun j => (ow.getD j none).map (j, ·)) = live at hmem hr ⊢
    have hzip : (live.map (·.1)).zip (live.map (·.2)) = live := by
      clear hlv hmem hr
      induction live with
      | nil => rfl
      | cons a r ih => simp [ih]
    have nd2 : (live.map (·.2)).Nodup := by
      have nd1 := hr.1.nodup
      unfold List.Nodup at nd1 ⊢
      rw [List.pairwise_map] at nd1 ⊢
      refine List.Pairwise.imp_of_mem (fun {a b} ha hb hne e => hne ?_) nd1
      have h1 := (hmem a).mp ha
      have h2 := (hmem b).mp hb
      rw [e] at h1
      exact I.inj _ _ _ h1 h2
    refine ⟨hr.1, fun j hj => by have := hr.2 j hj; omega, by simp, ?_, ?_⟩
    · refine (List.perm_ext_iff_of_nodup nd2 List.nodup_range).mpr fun k => ?_
      rw [List.mem_range, Array.length_toList]
      show k ∈ live.map (·.2) ↔ _
      constructor
      · intro hk
        obtain ⟨q, hq, rfl⟩ := List.mem_map.mp hk
        exact I.lt _ _ ((hmem q).mp hq)
      · intro hk
        obtain ⟨j, _, _, hj, _⟩ := I.at_ k hk
        exact List.mem_map.mpr ⟨(j, k), (hmem (j, k)).mpr hj, rfl⟩
    · intro q hq
      have hq' : q ∈ live := by rw [← hzip]; exact hq
      have h1 := (hmem q).mp hq'
      obtain ⟨j, h, x, a1, a2, a3, a4, a5⟩ := I.at_ q.2 (I.lt _ _ h1)
      have : j = q.1 := I.inj _ _ _ a1 h1
      subst this
      refine ⟨h, x, a2, a3, a4, fun y hy => ?_⟩
      obtain ⟨o, ho⟩ := a5 y hy
      exact List.mem_map.mpr ⟨(_, o), (hmem (_, o)).mpr ho, rfl⟩
end Mine
end
section
open PySem
set_option autoImplicit false
set_option linter.unusedVariables false
set_option linter.unusedSectionVars false
namespace Mine

abbrev Ents := Array (Int × Value)
structure SOK0 (bt : Bool) (es : Ents) (t : SetTable) : Prop where
  T : TOK t
  sz : t.place.size = es.size
  pl : t.plain = true
  ld : t.led = !bt
structure SOK (bt : Bool) (es : Ents) (t : SetTable) : Prop extends SOK0 bt es t where
  nf : t.fill * 5 < t.mask * 3
noncomputable def ReachT (es : Ents) (t : SetTable) : Prop :=
  t.dummies = #[] ∧ ∀ q ∈ t.place.toList.zip es.toList, ∃ k, k < 10 * SetTable.turns t.mask ∧ (path t.mask q.2.1 k).1 = q.1 ∧ ∀ m, m < k → t.slot (path t.mask q.2.1 m).1 ≠ .empty

theorem SOK0.fits {bt : Bool} {es : Ents} {t : SetTable} (S : SOK0 bt es t) : t.fits es.size = true := by
  unfold SetTable.fits
  rw [Bool.and_eq_true, beq_iff_eq, decide_eq_true_eq]
  exact ⟨S.sz, S.T.fill⟩

theorem zip_insertAt {α β : Type} (xs : Array α) (ys : Array β) (hxy : xs.size = ys.size) (p : Nat) (x : α) (y : β) (q : α × β) :
    q ∈ (SetTable.insertAt xs p x).toList.zip (SetTable.insertAt ys p y).toList ↔ q = (x, y) ∨ q ∈ xs.toList.zip ys.toList := by
  have hl : (xs.toList.take p).length = (ys.toList.take p).length := by simp [hxy]
  rw [SetTable.toList_insertAt, SetTable.toList_insertAt, List.zip_append hl, List.zip_cons_cons, List.mem_append, List.mem_cons]
  have e : xs.toList.zip ys.toList = (xs.toList.take p).zip (ys.toList.take p) ++ (xs.toList.drop p).zip (ys.toList.drop p) := by
    rw [← List.zip_append hl, List.take_append_drop, List.take_append_drop]
  rw [e, List.mem_append]
  constructor
  · rintro (h | h | h)
    · exact .inr (.inl h)
    · exact .inl h
    · exact .inr (.inr h)
  · rintro (h | h | h)
    · exact .inr (.inl h)
    · exact .inl h
    · exact .inr (.inr h)

theorem put_spec {bt : Bool} {es : Ents} {t : SetTable} (S : SOK bt es t) {s : Nat} {wd : Bool} (hs : s ≤ t.mask) (hp : s ∉ t.place.toList) (hw : wd = true → s ∈ t.dummies.toList) (e : Int × Value) :
    SOK0 bt (SetTable.insertAt es (t.put s).2 e) (t.put s).1 ∧ (t.put s).1.mask = t.mask ∧ (t.put s).1.fill ≤ t.fill + 1 ∧ (wd = true → (t.put s).1.fill ≤ t.fill) ∧
    (ReachT es t → (∃ k, k < 10 * SetTable.turns t.mask ∧ (path t.mask e.1 k).1 = s ∧ ∀ m, m < k → t.slot (path t.mask e.1 m).1 ≠ .empty) → ReachT (SetTable.insertAt es (t.put s).2 e) (t.put s).1) := by
  have hf : s ∈ t.dummies.toList ∨ t.fill + 1 ≤ t.mask := .inr (by have := S.nf; have := S.T.okm.pos; omega)
  obtain ⟨T', hm, hmem, hne, hsz, hfl⟩ := S.T.put hs hp hf
  refine ⟨⟨T', ?_, S.pl, S.ld⟩, hm, hfl, ?_, ?_⟩
  · rw [hsz, size_insertAt, S.sz]
  · intro h
    have hd := hw h
    unfold SetTable.fill
    rw [hsz]
    have h3 : (t.put s).1.dummies.size + 1 = t.dummies.size := by
      have hb := (below_mem _ _ S.T.drs).mpr hd
      have hlt := (Array.getElem?_eq_some_iff.mp hb).1
      have e1 : (t.put s).1.dummies = SetTable.eraseAt t.dummies (SetTable.below t.dummies s) := by
        unfold SetTable.put; dsimp only; rw [if_pos ((has_iff _ _ S.T.drs).mpr hd)]
      have h2 : (SetTable.eraseAt t.dummies (SetTable.below t.dummies s)).toList.length + 1 = t.dummies.toList.length := by
        rw [toList_eraseAt, List.length_append, List.length_take, List.length_drop, Array.length_toList]; omega
      rw [Array.length_toList, Array.length_toList] at h2
      rw [e1]; exact h2
    omega
  · rintro ⟨hd, hr⟩ ⟨k, hk1, hk2, hk3⟩
    have hd' : (t.put s).1.dummies = #[] := by
      unfold SetTable.put; dsimp only
      rw [if_neg]
      · exact hd
      · rw [hd]; intro h; unfold SetTable.has at h; simp at h
    refine ⟨hd', fun q hq => ?_⟩
    have hq' : q ∈ (SetTable.insertAt t.place (SetTable.below t.place s) s).toList.zip (SetTable.insertAt es (SetTable.below t.place s) e).toList := hq
    rw [zip_insertAt _ _ S.sz] at hq'
    rw [hm]
    rcases hq' with rfl | hq'
    · exact ⟨k, hk1, hk2, fun m h => hne _ (hk3 m h)⟩
    · obtain ⟨k', a, b, c⟩ := hr q hq'
      exact ⟨k', a, b, fun m h => hne _ (c m h)⟩

theorem sizeAbove_ok : ∀ m, m < 64 → okMask (SetTable.sizeAbove m - 1) ∧ m ≤ SetTable.sizeAbove m - 1 := by
  have : ((List.range 64).all fun m => (SetTable.sizeAbove m - 1 == 7 || SetTable.sizeAbove m - 1 == 15 || SetTable.sizeAbove m - 1 == 31 || SetTable.sizeAbove m - 1 == 63) && decide (m ≤ SetTable.sizeAbove m - 1)) = true := by decide +kernel
  intro m hm
  have h := List.all_eq_true.mp this m (List.mem_range.mpr hm)
  simp only [Bool.and_eq_true, Bool.or_eq_true, beq_iff_eq, decide_eq_true_eq] at h
  refine ⟨?_, h.2⟩
  unfold okMask; omega

theorem laid_sok {bt : Bool} {es : Ents} {mask finger moves : Nat} (hm : okMask mask) (hb : es.size * 5 < mask * 3) : ∃ t' order,
    SetTable.laid mask finger moves (!bt) true (es.map (·.1)) = some (t', order) ∧ t'.mask = mask ∧ coversAll order es.size = true ∧ (order.filterMap (es[·]?)).size = es.size ∧
    List.Perm (order.filterMap (es[·]?)).toList es.toList ∧ SOK bt (order.filterMap (es[·]?)) t' ∧ ReachT (order.filterMap (es[·]?)) t' := by
  obtain ⟨place, order, e, L⟩ := laid_spec mask finger moves (!bt) true hm (es.map (·.1)) (by rw [Array.size_map]; have := hm.pos; omega)
  have hlen : (es.map (·.1)).toList.length = es.size := by simp
  have hperm : List.Perm order.toList (List.range es.size) := by have := L.perm; rwa [hlen] at this
  have hp2 : List.Perm (order.filterMap (es[·]?)).toList es.toList := by
    rw [Array.toList_filterMap]
    exact (hperm.filterMap _).trans (by rw [filterMap_getElem?_range])
  have hs2 : (order.filterMap (es[·]?)).size = es.size := by rw [← Array.length_toList, hp2.length_eq, Array.length_toList]
  have hplen : place.size = es.size := by
    have h1 := L.len; have h2 := hperm.length_eq
    rw [Array.length_toList, Array.length_toList] at h1
    rw [Array.length_toList, List.length_range] at h2
    omega
  have TT : TOK { mask, place, dummies := #[], finger, led := !bt, moves, plain := true } := by
    refine ⟨hm, L.ris, L.bd, by simp [Ris], by simp, by simp, ?_⟩
    show place.size + (#[] : Array Nat).size ≤ mask
    simp; omega
  refine ⟨_, order, e, rfl, ?_, hs2, hp2, ⟨⟨TT, by rw [hs2]; exact hplen, rfl, rfl⟩, ?_⟩, rfl, ?_⟩
  · unfold coversAll; exact List.isPerm_iff.mpr hperm
  · show (place.size + (#[] : Array Nat).size) * 5 < mask * 3
    simp; omega
  · intro q hq
    -- the entry at q's place is the old one at the order's number
    obtain ⟨i, hi, rfl⟩ := List.mem_iff_getElem.mp hq
    rw [List.length_zip] at hi
    rw [List.getElem_zip]
    have hio : i < order.toList.length := by have := L.len; simp at this hi ⊢; omega
    have hfm : (order.filterMap (es[·]?)).toList[i]'(by omega) = es.toList[order.toList[i]]'(by
        have := hperm.mem_iff.mp (List.getElem_mem hio); rw [List.mem_range] at this; simpa using this) := by
      have gen : ∀ (l : List Nat), (∀ x ∈ l, x < es.size) → ∀ (i : Nat) (h1 : i < (l.filterMap (es[·]?)).length) (h2 : i < l.length) (h3 : l[i] < es.toList.length), (l.filterMap (es[·]?))[i] = es.toList[l[i]] := by
        intro l
        induction l with
        | nil => intro _ i h1; simp at h1
        | cons a r ih =>
          intro hall i h1 h2 h3
          have ha := hall a (.head _)
          have ea : es[a]? = some es[a] := Array.getElem?_eq_getElem ha
          simp only [List.filterMap_cons_some ea] at h1 ⊢
          cases i with
          | zero => simp
          | succ i => 
            simp only [List.getElem_cons_succ]
            exact ih (fun x hx => hall x (.tail _ hx)) i (by simpa using h1) (by simpa using h2) (by simpa using h3)
      have hall : ∀ x ∈ order.toList, x < es.size := fun x hx => List.mem_range.mp (hperm.mem_iff.mp hx)
      have hL : (order.filterMap (es[·]?)).toList = order.toList.filterMap (es[·]?) := by rw [Array.toList_filterMap]
      have := gen order.toList hall i (by rw [← hL]; omega) hio (by have := hall _ (List.getElem_mem hio); simpa using this)
      rw [← this]
      exact List.getElem_of_eq hL _
    have hz : (place.toList[i]'(by simp at hi ⊢; omega), order.toList[i]) ∈ place.toList.zip order.toList := by
      rw [List.mem_iff_getElem]
      exact ⟨i, by rw [List.length_zip]; simp at hi hio ⊢; omega, by rw [List.getElem_zip]⟩
    obtain ⟨h, x, a1, a2, a3, a4⟩ := L.reach _ hz
    have hh : ((order.filterMap (es[·]?)).toList[i]'(by omega)).1 = h := by
      rw [hfm]
      have : (es.map (·.1)).toList[order.toList[i]]? = some h := a1
      rw [Array.toList_map, List.getElem?_map, Option.map_eq_some_iff] at this
      obtain ⟨e', he1, he2⟩ := this
      rw [List.getElem?_eq_some_iff] at he1
      rw [← he2, ← he1.2]
    refine ⟨x, a2, ?_, fun m hm' => ?_⟩
    · show (path mask _ x).1 = _
      rw [hh]; exact a3
    · intro q
      have := (TT.slot_empty.mp q).1
      refine this ?_
      have := a4 m hm'
      rw [← hh] at this
      exact this

theorem relay_spec {bt : Bool} {es : Ents} {t : SetTable} (S : SOK0 bt es t) {wanted : Nat} (hw : wanted < 64) (hb : es.size * 5 ≤ wanted * 3 ∨ es.size = 0) (hs : es.size * 5 < 3 * wanted ∨ es.size = 0) : ∃ t' order,
    t.relaid (es.map (·.1)) wanted = some (t', order) ∧ coversAll order es.size = true ∧ (order.filterMap (es[·]?)).size = es.size ∧ List.Perm (order.filterMap (es[·]?)).toList es.toList ∧ SOK bt (order.filterMap (es[·]?)) t' ∧ ReachT (order.filterMap (es[·]?)) t' := by
  obtain ⟨hm, hle⟩ := sizeAbove_ok wanted hw
  obtain ⟨t', order, e, _, r⟩ := laid_sok (bt := bt) (es := es) (mask := SetTable.sizeAbove wanted - 1) (finger := t.finger) (moves := t.movedTo (SetTable.sizeAbove wanted - 1)) hm (by
    have := hm.pos
    rcases hs with h | h <;> omega)
  refine ⟨t', order, ?_, r⟩
  unfold SetTable.relaid
  rw [S.ld, S.pl]; exact e
end Mine
end
section
open PySem PySem.W PySem.Calls PyProof.Rows
set_option maxRecDepth 100000
set_option autoImplicit false
set_option linter.unusedVariables false
set_option linter.unusedSectionVars false
namespace Mine

abbrev KI (w : World) := PySem.intKind P0 w
noncomputable def byT (w : World) : Bool := w.params.followText "set-order"
noncomputable def ekey (e : Int × Value) : Int := match e.2 with | .int k _ => k | _ => 0
noncomputable def IEnt (e : Int × Value) : Prop := ∃ k tk, e = (hashInt k, .int k tk)
/-- the data of a set of ints S (S up to order) -/
noncomputable def IS (w : World) (d : Data) (S : List Int) : Prop :=
  ∃ es ep t, d = .set es ep t ∧ SOK (byT w) es t ∧ (∀ e ∈ es.toList, IEnt e) ∧ List.Perm (es.toList.map ekey) S ∧ S.Nodup
theorem IS.perm {w : World} {d : Data} {S S' : List Int} (h : IS w d S) (p : List.Perm S S') : IS w d S' := by
  obtain ⟨es, ep, t, h1, h2, h3, h4, h5⟩ := h
  exact ⟨es, ep, t, h1, h2, h3, h4.trans p, p.nodup_iff.mp h5⟩
theorem elemsOf {w : World} {l : List (Int × Value)} (h : ∀ e ∈ l, IEnt e) : ElemsOf (KI w) l := fun e he => by
  obtain ⟨k, tk, rfl⟩ := h e he
  exact ⟨⟨k, intKind_is _ _ _ _, rfl⟩, rfl⟩
theorem is_ekey {w : World} {e : Int × Value} (h : IEnt e) (k : Int) : (KI w).is k e.2 = true ↔ ekey e = k := by
  obtain ⟨j, tk, rfl⟩ := h
  have := KeyKind.is_eq_decide (knd := KI w) (intKind_is P0 w j tk) k
  rw [this]
  show decide (k = j) = true ↔ j = k
  rw [decide_eq_true_eq, eq_comm]

theorem newSetData (w : World) (led : Bool) (h : led = !byT w) : IS w (.set #[] 0 (.fresh 0 0 led)) [] :=
  ⟨#[], 0, _, rfl, ⟨⟨⟨.inl rfl, by simp [SetTable.fresh, Ris], by simp [SetTable.fresh], by simp [SetTable.fresh, Ris], by simp [SetTable.fresh], by simp [SetTable.fresh], by simp [SetTable.fresh, SetTable.fill]⟩, rfl, rfl, h⟩, by simp [SetTable.fresh, SetTable.fill]⟩, by simp, by simp, List.nodup_nil⟩

section
variable {w : World} {A : Around} {E : Value → Shared → Prop} {s : Shared} {a : Addr} {o : Obj} {S : List Int} {k : Int} {tk : Tok}

theorem is_len {es : Ents} {ep : Nat} {t : SetTable} (hp : List.Perm (es.toList.map ekey) S) : es.size = S.length := by
  have := hp.length_eq; simpa using this

theorem w_findInt {es : Ents} {ep : Nat} {t : SetTable} {Q : Option Nat → Shared → Prop} (ho : s.heap.get? a = some o) (hd : o.data = .set es ep t) (hs : SOK0 (byT w) es t) (hi : ∀ e ∈ es.toList, IEnt e) (hb : es.size < scanBound)
    (h : Q (es.toList.findIdx? fun e => (KI w).is k e.2) s) : wpAny (model P0 w) A (setFind a (.int k tk) (hashInt k)) Q E s := by
  have hel := elemsOf (w := w) hi
  unfold setFind setFindIn
  refine wpAny_bind (wpAny_setState_of ho hd hs.fits ?_)
  dsimp only
  rw [byScan_of (knd := KI w) rfl hb hel]
  simp only [↓reduceIte]
  refine wpAny_bind (wpAny_rule ?_)
  refine wpAny_bind (wpAny_setScan_of (knd := KI w) (intKind_is P0 w k tk) ho hd hs.fits hel ?_)
  cases hr : List.findIdx? (fun e => (KI w).is k e.2) es.toList with
  | none => rw [hr] at h; exact wpAny_pure h
  | some j => rw [hr] at h; dsimp only; rw [Nat.zero_add]; exact wpAny_pure h

theorem findIdx_mem {es : Ents} (hi : ∀ e ∈ es.toList, IEnt e) (hp : List.Perm (es.toList.map ekey) S) : ((es.toList.findIdx? fun e => (KI w).is k e.2).isSome = decide (k ∈ S)) := by
  cases hr : es.toList.findIdx? fun e => (KI w).is k e.2 with
  | none =>
    have : k ∉ S := fun hk => by
      obtain ⟨e, he, hek⟩ := List.mem_map.mp (hp.mem_iff.mpr hk)
      have := List.findIdx?_eq_none_iff.mp hr e he
      rw [(is_ekey (w := w) (hi e he) k).mpr hek] at this; cases this
    simp [this]
  | some j =>
    obtain ⟨hj, hpj, _⟩ := List.findIdx?_eq_some_iff_getElem.mp hr
    have : k ∈ S := hp.mem_iff.mp (List.mem_map.mpr ⟨_, List.getElem_mem hj, (is_ekey (w := w) (hi _ (List.getElem_mem hj)) k).mp hpj⟩)
    simp [this]

/-- is k in the set? -/
theorem w_setFind {Q : Option Nat → Shared → Prop} (ho : s.heap.get? a = some o) (hI : IS w o.data S) (hb : S.length < scanBound) (h : ∀ r : Option Nat, r.isSome = decide (k ∈ S) → Q r s) :
    wpAny (model P0 w) A (setFind a (.int k tk) (hashInt k)) Q E s := by
  obtain ⟨es, ep, t, hd, hs, hi, hp, _⟩ := hI
  exact w_findInt ho hd hs.toSOK0 hi (by rw [is_len (ep := ep) (t := t) hp]; exact hb) (h _ (findIdx_mem hi hp))

theorem upd_set {es es' : Ents} {ep : Nat} {t t' : SetTable} (ho : s.heap.get? a = some o) (hd : o.data = .set es ep t) :
    (s.heap.update a (Obj.putSet es' t')).get? a = some { o with data := .set es' (ep + 1) t' } := by
  have := Heap.get?_update_self (Obj.putSet es' t') ho (by rw [putSet_of es' t' hd]; rfl)
  rw [putSet_of es' t' hd] at this; exact this

/-- an int is added -/
theorem w_addHashed {Q : Bool → Shared → Prop} (ho : s.heap.get? a = some o) (hI : IS w o.data S) (hb : S.length < 15) (h1 : k ∈ S → Q false s)
    (h2 : k ∉ S → ∀ d' h', IS w d' (k :: S) → Heap.SameBut a s.heap h' → h'.get? a = some { o with data := d' } → Q true { s with heap := h' }) :
    wpAny (model P0 w) A (setAddHashed a (.int k tk) (hashInt k)) Q E s := by
  obtain ⟨es, ep, t, hd, hs, hi, hp, hnd⟩ := hI
  have hlen : es.size = S.length := is_len (ep := ep) (t := t) hp
  have hel := elemsOf (w := w) hi
  have hbs : es.size < scanBound := by rw [hlen]; show _ < 4096; omega
  have hmem := findIdx_mem (w := w) (k := k) hi hp
  unfold setAddHashed setAddHashedIn
  refine wpAny_holding (wpAny_bind (wpAny_setState_of ho hd hs.fits ?_))
  dsimp only
  rw [byScan_of (knd := KI w) rfl hbs hel]
  simp only [↓reduceIte]
  unfold setAddByScan
  refine wpAny_bind ?_
  refine wpAny_bind (wpAny_rule ?_)
  refine wpAny_bind (wpAny_setScan_of (knd := KI w) (intKind_is P0 w k tk) ho hd hs.fits hel ?_)
  cases hr : List.findIdx? (fun e => (KI w).is k e.2) es.toList with
  | some j =>
    rw [hr] at hmem
    exact wpAny_pure (wpAny_pure (h1 (by simpa using hmem.symm)))
  | none =>
    rw [hr] at hmem
    have hk : k ∉ S := by simpa using hmem.symm
    dsimp only
    obtain ⟨sl, wd, hfree, hsl, hslp, hw0, hw1⟩ := hs.T.freeSlot (hashInt k)
    obtain ⟨S0, hm, hfl, hflw, _⟩ := put_spec hs hsl hslp hw1 (hashInt k, Value.int k tk)
    have hlay : layNew t es (hashInt k) (.int k tk) = (SetTable.insertAt es (t.put sl).2 (hashInt k, .int k tk), (t.put sl).1, wd, false) := by
      unfold layNew
      rw [hfree]
      dsimp only
      rw [show SetTable.orStandIn (t.put sl).1 _ = (t.put sl).1 from by unfold SetTable.orStandIn; rw [if_pos S0.fits], S0.fits]
      rfl
    rw [hlay]
    dsimp only
    have hperm := SetTable.insertAt_perm es (t.put sl).2 (hashInt k, Value.int k tk)
    have hi1 : ∀ e ∈ (SetTable.insertAt es (t.put sl).2 (hashInt k, Value.int k tk)).toList, IEnt e := fun e he => by
      rcases (mem_insertAt _ _ _ _).mp he with rfl | he
      · exact ⟨k, tk, rfl⟩
      · exact hi e he
    have hp1 : List.Perm ((SetTable.insertAt es (t.put sl).2 (hashInt k, Value.int k tk)).toList.map ekey) (k :: S) := by
      refine (hperm.map ekey).trans ?_
      rw [Array.toList_push, List.map_append]
      exact (List.perm_append_singleton _ _).trans (List.Perm.cons _ hp)
    have hsz1 : (SetTable.insertAt es (t.put sl).2 (hashInt k, Value.int k tk)).size = es.size + 1 := size_insertAt _ _ _
    generalize hes1 : SetTable.insertAt es (t.put sl).2 (hashInt k, Value.int k tk) = es1 at *
    generalize ht1 : (t.put sl).1 = t1 at *
    refine wpAny_bind (wpAny_pure ?_)
    rw [hashByValue_scannable 8 rfl]
    have hpl1 : t1.plain = true := S0.pl
    simp only [hpl1, ↓reduceIte, plainKind]
    refine wpAny_bind (wpAny_pure ?_)
    simp only [↓reduceIte]
    refine wpAny_bind (wpAny_storeSet_of ho hd ?_ (by rw [hsz1]; rw [sizeLine_eq]; omega))
    have ho1 := upd_set (es' := es1) (t' := t1) ho hd
    have hsb1 := Heap.SameBut.update s.heap a (Obj.putSet es1 t1)
    split
    · rename_i hfull
      rw [Bool.and_eq_true] at hfull
      obtain ⟨t', order, e1, e2, e3, e4, e5, _⟩ := relay_spec S0 (wanted := SetTable.grown es1.size) (by unfold SetTable.grown; rw [if_neg (by omega)]; omega) (.inl (by unfold SetTable.grown; rw [if_neg (by omega)]; omega)) (.inl (by unfold SetTable.grown; rw [if_neg (by omega)]; omega))
      have hre : relayAll t1 es1 (SetTable.grown es1.size) = (order.filterMap (es1[·]?), t', false) := by
        unfold relayAll
        rw [e1]
        dsimp only
        rw [e2]
        have hf2 := e5.fits
        rw [if_pos (by rw [hf2]; rfl)]
      rw [hre]
      dsimp only
      refine wpAny_bind (wpAny_pure ?_)
      refine wpAny_bind (wpAny_storeSet_of ho1 rfl ?_ (by rw [e3, hsz1, sizeLine_eq]; omega))
      have ho2 := upd_set (s := { s with heap := s.heap.update a (Obj.putSet es1 t1) }) (es' := order.filterMap (es1[·]?)) (t' := t') ho1 rfl
      refine wpAny_pure (wpAny_pure (h2 hk _ _ ⟨_, _, _, rfl, e5, fun e he => hi1 e (e4.mem_iff.mp he), (e4.map ekey).trans hp1, List.nodup_cons.mpr ⟨hk, hnd⟩⟩ (hsb1.trans (Heap.SameBut.update _ a _)) ho2))
    · rename_i hnf
      refine wpAny_pure (wpAny_pure (h2 hk _ _ ⟨es1, ep + 1, t1, rfl, ⟨S0, ?_⟩, hi1, hp1, List.nodup_cons.mpr ⟨hk, hnd⟩⟩ hsb1 ho1))
      rw [Bool.and_eq_true, not_and] at hnf
      cases wd with
      | true => have h3 := hflw rfl; have := hs.nf; rw [hm]; omega
      | false =>
        have h3 := hnf rfl
        unfold SetTable.tooFull at h3
        rw [decide_eq_true_eq] at h3
        omega
end
end Mine
end
section
open PySem PySem.W PySem.Calls PyProof.Rows
set_option maxRecDepth 100000
set_option autoImplicit false
set_option linter.unusedVariables false
set_option linter.unusedSectionVars false
namespace Mine

noncomputable def R10 (l : List Int) : Prop := ∀ x ∈ l, 0 ≤ x ∧ x < 10
theorem len10 {l : List Int} (nd : l.Nodup) (h : R10 l) : l.length ≤ 10 := by
  have := length_le_of_nodup 10 (l.map Int.toNat) (by
    unfold List.Nodup
    rw [List.pairwise_map]
    refine List.Pairwise.imp_of_mem (fun {a b} ha hb hne e => hne ?_) nd
    have := h a ha; have := h b hb; omega) (fun x hx => by
    obtain ⟨y, hy, rfl⟩ := List.mem_map.mp hx
    have := h y hy; omega)
  simpa using this
/-- a set of digits -/
structure IS10 (w : World) (d : Data) (S : List Int) : Prop where
  is : IS w d S
  r : R10 S
theorem IS10.nodup {w : World} {d : Data} {S : List Int} (h : IS10 w d S) : S.Nodup := let ⟨_, _, _, _, _, _, _, n⟩ := h.is; n
theorem IS10.len {w : World} {d : Data} {S : List Int} (h : IS10 w d S) : S.length ≤ 10 := len10 h.nodup h.r
theorem IS10.perm {w : World} {d : Data} {S S' : List Int} (h : IS10 w d S) (p : List.Perm S S') : IS10 w d S' := ⟨h.is.perm p, fun x hx => h.r x (p.mem_iff.mpr hx)⟩
/-- S' has the elements of S, and those of xs -/
noncomputable def Plus (S xs S' : List Int) : Prop := ∀ x, x ∈ S' ↔ x ∈ S ∨ x ∈ xs

abbrev setO (d : Data) : Obj := { cls := .type "set", dict := none, data := d }

section
variable {w : World} {A : Around} {E : Value → Shared → Prop} {s : Shared} {a : Addr} {o : Obj} {S : List Int} {k : Int} {tk : Tok}

/-- setAdd of an int -/
theorem w_setAdd {Q : Bool → Shared → Prop} (ho : s.heap.get? a = some o) (hI : IS10 w o.data S) (hk : 0 ≤ k ∧ k < 10)
    (h : ∀ d' S' h' b, IS10 w d' S' → Plus S [k] S' → Heap.SameBut a s.heap h' → h'.get? a = some { o with data := d' } → Q b { s with heap := h', toks := s.toks + 1 }) :
    wpAny (model P0 w) A (setAdd a (.int k tk)) Q E s := by
  unfold setAdd
  refine wpAny_holding ?_
  refine wpAny_bind ((KI w).pyHash (k := k) (intKind_is _ _ _ _) ?_)
  refine w_addHashed (s := { s with toks := s.toks + 1 }) ho hI.is (by have := hI.len; omega) (fun hm => ?_) fun hm d' h' hd' hsb ho' => ?_
  · have e : ({ s with toks := s.toks + 1 } : Shared) = { s with heap := s.heap, toks := s.toks + 1 } := rfl
    rw [e]
    exact h o.data S s.heap false hI (fun x => by simp only [List.mem_singleton]; exact ⟨.inl, fun q => q.elim id fun e => e ▸ hm⟩) (Heap.SameBut.refl _ _) (by cases o; exact ho)
  · exact h d' (k :: S) h' true ⟨hd', fun x hx => by rcases List.mem_cons.mp hx with rfl | hx; exact hk; exact hI.r x hx⟩ (fun x => by rw [List.mem_cons, List.mem_singleton, or_comm]) hsb ho'

theorem w_state {Q : (Ents × Nat × SetTable) → Shared → Prop} {es : Ents} {ep : Nat} {t : SetTable} (ho : s.heap.get? a = some o) (hd : o.data = .set es ep t) (hs : SOK (byT w) es t) (h : Q (es, ep, t) s) :
    wpAny (model P0 w) A (setState a) Q E s := wpAny_setState_of ho hd hs.fits h

theorem erase_keys : ∀ (l : List (Int × Value)) (i : Nat) (k : Int) (S : List Int) (h : i < l.length), ekey l[i] = k → List.Perm (l.map ekey) S → S.Nodup → List.Perm ((l.take i ++ l.drop (i + 1)).map ekey) (S.erase k) := by
  intro l i k S h hk hp hn
  have h1 : l = l.take i ++ l[i] :: l.drop (i + 1) := by
    have := (List.take_append_drop i l).symm
    rw [List.drop_eq_getElem_cons h] at this
    exact this
  have h2 : List.Perm (l.map ekey) (k :: (l.take i ++ l.drop (i + 1)).map ekey) := by
    conv => lhs; rw [h1]
    rw [List.map_append, List.map_cons, hk, List.map_append]
    exact List.perm_middle
  have h3 := (h2.symm.trans hp).erase k
  rw [List.erase_cons_head] at h3
  exact h3

/-- an int is taken out -/
theorem w_discardH {Q : Bool → Shared → Prop} (ho : s.heap.get? a = some o) (hI : IS10 w o.data S) (h1 : k ∉ S → Q false s)
    (h2 : k ∈ S → ∀ d' h', IS10 w d' (S.erase k) → Heap.SameBut a s.heap h' → h'.get? a = some { o with data := d' } → Q true { s with heap := h' }) :
    wpAny (model P0 w) A (setDiscardHashed a (.int k tk) (hashInt k)) Q E s := by
  obtain ⟨⟨es, ep, t, hd, hs, hi, hp, hnd⟩, hr⟩ := id hI
  have hlen : es.size = S.length := is_len (ep := ep) (t := t) hp
  have hmem := findIdx_mem (w := w) (k := k) hi hp
  unfold setDiscardHashed
  refine wpAny_bind (w_findInt ho hd hs.toSOK0 hi (by have := hI.len; rw [hlen]; show _ < 4096; omega) ?_)
  cases hf : es.toList.findIdx? fun e => (KI w).is k e.2 with
  | none =>
    rw [hf] at hmem
    exact wpAny_pure (h1 (by simpa using hmem.symm))
  | some i =>
    rw [hf] at hmem
    have hk : k ∈ S := by simpa using hmem.symm
    obtain ⟨hij, hpi, _⟩ := List.findIdx?_eq_some_iff_getElem.mp hf
    have hie := (is_ekey (w := w) (hi _ (List.getElem_mem hij)) k).mp hpi
    have hi' : i < es.size := by simpa using hij
    have hip : i < t.place.size := by rw [hs.sz]; exact hi'
    obtain ⟨T', hm', hpl', hf'⟩ := hs.T.drop (Array.getElem?_eq_getElem hip)
    have hes : (SetTable.eraseAt es i).size + 1 = es.size := by
      have : (SetTable.eraseAt es i).toList.length + 1 = es.toList.length := by
        rw [toList_eraseAt, List.length_append, List.length_take, List.length_drop, Array.length_toList]; omega
      rwa [Array.length_toList, Array.length_toList] at this
    have hps : (t.drop i).place.size + 1 = t.place.size := by
      have : (t.drop i).place.toList.length + 1 = t.place.toList.length := by
        rw [hpl', List.length_append, List.length_take, List.length_drop, Array.length_toList]; omega
      rwa [Array.length_toList, Array.length_toList] at this
    have hdrop : t.drop i = { t with place := SetTable.eraseAt t.place i, dummies := SetTable.insertAt t.dummies (SetTable.below t.dummies t.place[i]) t.place[i] } := by
      unfold SetTable.drop; rw [Array.getElem?_eq_getElem hip]
    dsimp only
    refine wpAny_bind (w_state ho hd hs ?_)
    dsimp only
    refine wpAny_bind (wpAny_storeSet_of ho hd ?_ (by rw [sizeLine_eq]; have := hI.len; omega))
    refine wpAny_bind (wpAny_point (wpAny_pure ?_))
    refine h2 hk _ _ ⟨⟨_, ep + 1, _, rfl, ⟨⟨T', by have := hs.sz; omega, by rw [hdrop]; exact hs.pl, by rw [hdrop]; exact hs.ld⟩, by rw [hf', hm']; exact hs.nf⟩, fun e he => hi e ((eraseAt_sublist es i).subset he), ?_, hnd.erase _⟩, fun x hx => hr x (List.mem_of_mem_erase hx)⟩ (Heap.SameBut.update ..) (upd_set ho hd)
    rw [toList_eraseAt]
    exact erase_keys es.toList i k S hij hie hp hnd

/-- set.update.loop over any iterator of ints -/
theorem w_updLoop {R : Result → Shared → Prop} {I : Addr} {fp wr : List Addr} {n : Nat} {P : Nat → Value → Prop} {St : Nat → Heap → Prop} (W : Walks P0 w A.in1 I fp wr n P St) (haf : a ∉ fp) {xs : List Int} (hn : xs.length = n)
    (hv : ∀ i v, P i v → ∃ t x, xs[i]? = some x ∧ v = .int x t) (hx : R10 xs) :
    ∀ (k i : Nat) (s : Shared) (S : List Int) (o : Obj), n - i = k → i ≤ n → St i s.heap → s.heap.get? a = some o → IS10 w o.data S →
      (∀ d' S' h' tk, IS10 w d' S' → Plus S (xs.drop i) S' → (∀ b ob, b ∉ wr → b ≠ a → s.heap.get? b = some ob → h'.get? b = some ob) → h'.get? a = some { o with data := d' } → R (.ok (.ret .none)) { s with heap := h', toks := tk }) →
      codeAny (model P0 w) A (.builtin "set.update.loop" ⟨[.ref a, .ref I], []⟩) R s := by
  have haw : a ∉ wr := fun h => haf (W.sub _ h)
  intro k
  induction k with
  | zero =>
    intro i s S o hk hi hst ho hI hR
    have hin : i = n := by omega
    subst hin
    refine codeAny_builtin F.entry_set_update_loop ?_
    rw [Around.under_plainId F.plain_set_update_loop _]
    show wpAny _ A.in1 (pyNext (.ref I) >>= _) _ _ s
    refine wpAny_bind (W.done s _ _ hst fun h' tk hk' => ?_)
    show wpAny _ A.in1 (ret Value.none) _ _ _
    refine wpAny_pure (hR o.data S h' tk hI (fun x => ?_) (fun b ob hb _ e => hk' b ob hb e) ?_)
    · rw [List.drop_of_length_le (by omega)]; simp
    · rw [hk' a o haw ho]
  | succ k ih =>
    intro i s S o hk hi hst ho hI hR
    have hlt : i < n := by omega
    refine codeAny_builtin F.entry_set_update_loop ?_
    rw [Around.under_plainId F.plain_set_update_loop _]
    show wpAny _ A.in1 (pyNext (.ref I) >>= _) _ _ s
    refine wpAny_bind (W.item i s _ _ hlt hst fun v h' tk hP hst' hk' => ?_)
    obtain ⟨t, x, hxi, rfl⟩ := hv i v hP
    show wpAny _ A.in1 (holding [Value.int x t] (setAdd a (.int x t)) >>= _) _ _ _
    refine wpAny_bind (wpAny_holding ?_)
    refine w_setAdd (o := o) (S := S) (hk' a o haw ho) hI (hx x (List.mem_of_getElem? hxi)) fun d' S' h'' b hd' hpl hsb ho' => ?_
    refine wpAny_pure ⟨plainId_quiet F.plain_set_update_loop _, ih (i + 1) _ S' _ (by omega) hlt (W.frame _ _ _ hst' fun b hb ob e => ?_) ho' hd' fun d3 S3 h3 tk3 hI3 hp3 hk3 ho3 => ?_⟩
    · rw [hsb.2 b (fun e => haf (e ▸ hb))]; exact e
    · refine hR d3 S3 h3 tk3 hI3 (fun y => ?_) (fun b ob hb hba e => hk3 b ob hb hba ((hsb.2 b hba).trans (hk' b ob hb e))) ho3
      have hd : xs.drop i = x :: xs.drop (i + 1) := by
        have hl : i < xs.length := by omega
        rw [List.drop_eq_getElem_cons hl]
        rw [List.getElem?_eq_getElem hl] at hxi
        rw [Option.some.inj hxi]
      rw [hp3 y, hpl y, hd]
      simp only [List.mem_cons, List.not_mem_nil, or_false, or_assoc]
end
end Mine
end
section
open PySem PySem.W PySem.Calls PyProof.Rows
set_option maxRecDepth 100000
set_option autoImplicit false
set_option linter.unusedVariables false
set_option linter.unusedSectionVars false
namespace Mine

/-- a list of ints in a heap -/
noncomputable def LI (h : Heap) (l : Addr) (xs : List Int) : Prop := ∃ vs, h.IsList l vs.toArray ∧ IntsAre vs xs
theorem LI.keeps {h h' : Heap} {l : Addr} {xs : List Int} (x : LI h l xs) (k : ∀ o, h.get? l = some o → h'.get? l = some o) : LI h' l xs :=
  let ⟨vs, ⟨o, ho, r⟩, i⟩ := x; ⟨vs, ⟨o, k o ho, r⟩, i⟩

section
variable {w : World} {A : Around} {E : Value → Shared → Prop} {s : Shared} {a : Addr} {o : Obj} {S : List Int} {k : Int} {tk : Tok}

theorem intsAt {vs : List Value} {xs : List Int} (h : IntsAre vs xs) : ∀ (i : Nat) (v : Value), vs.toArray[i]? = some v → ∃ t x, xs[i]? = some x ∧ v = .int x t := by
  induction h with
  | nil => intro i v h; simp at h
  | cons n t hr ih =>
    intro i v h
    cases i with
    | zero => simp at h; exact ⟨t, n, rfl, h.symm⟩
    | succ i => simp only [List.getElem?_toArray, List.getElem?_cons_succ] at h ⊢; exact ih i v (by simpa using h)

theorem w_isAnySet {v : Value} {T : String} {b1 b2 : Bool} {Q : Bool → Shared → Prop} (hT : s.TypeIs v T) (h1 : isSubtype (.type T) (.type "set") = pure b1) (h2 : isSubtype (.type T) (.type "frozenset") = pure b2) (h : Q (b1 || b2) s) :
    wpAny (model P0 w) A (Builtin.Frozenset.isAnySet v) Q E s := by
  unfold Builtin.Frozenset.isAnySet orM
  refine wpAny_bind (wpAny_isInstance hT h1 ?_)
  cases b1 with
  | true => exact wpAny_pure h
  | false => exact wpAny_isInstance hT h2 (by simpa using h)
/-- a set takes a list's ints -/
theorem w_updateFrom_list {id : String} {l : Addr} {xs : List Int} {Q : Unit → Shared → Prop} (hh : A.handled = none) (hl : LI s.heap l xs) (hx : R10 xs) (ho : s.heap.get? a = some o) (hal : a ≠ l) (hI : IS10 w o.data S)
    (h : ∀ d' S' h' tk, IS10 w d' S' → Plus S xs S' → (∀ b ob, b ≠ a → s.heap.get? b = some ob → h'.get? b = some ob) → h'.get? a = some { o with data := d' } → Q () { s with heap := h', toks := tk }) :
    wpAny (model P0 w) A (Builtin.Frozenset.updateFrom id a (.ref l)) Q E s := by
  obtain ⟨vs, hL, hi⟩ := hl
  have hT := hL.typeIs
  obtain ⟨ol, hol, _⟩ := _root_.id hL
  have hs1 := F.sub_list_set
  have hs2 := F.sub_list_frozenset
  unfold Builtin.Frozenset.updateFrom
  refine wpAny_bind (w_isAnySet hT hs1 hs2 ?_)
  rw [if_neg (by decide)]
  refine wpAny_bind (wpAny_typeOf hT ?_)
  rw [if_neg (by decide)]
  refine wpAny_bind (wpAny_pyIter_list hL ?_)
  refine wpAny_bind (wpAny_runValue ?_)
  have hne : l ≠ s.heap.objs.size := Nat.ne_of_lt (Heap.lt_size hol)
  have hae : a ≠ s.heap.objs.size := Nat.ne_of_lt (Heap.lt_size ho)
  have W := Walks.list (prog := P0) (w := w) (A := A.in1) (by exact hh) s.heap.objs.size l hne vs.toArray
  have hlen : vs.length = xs.length := IntsAre.length hi
  refine w_updLoop (a := a) W (by simp [hae, hal]) (xs := xs) (by simp [hlen]) (intsAt hi) hx vs.toArray.size 0 _ S o (by omega) (Nat.zero_le _) ⟨⟨_, Heap.get?_push_size _ rfl, rfl, rfl⟩, hL.push _⟩ (Heap.get?_push_of_some _ ho) hI fun d' S' h' tk hd' hp hk ho' => ?_
  refine wpAny_pure (h d' S' h' tk hd' (by simpa using hp) (fun b ob hb e => hk b ob ?_ hb (Heap.get?_push_of_some _ e)) ho')
  simp only [List.mem_singleton]
  exact Nat.ne_of_lt (Heap.lt_size e)

theorem w_newSet {Q : Value → Shared → Prop} (h : ∀ d', IS10 w d' [] → Q (.ref s.heap.objs.size) { s with heap := s.heap.push (setO d') }) : wpAny (model P0 w) A (newSet (.type "set")) Q E s := by
  unfold newSet setsByText
  refine wpAny_bind (wpAny_bind (wpAny_askSetting (wpAny_pure ?_)))
  dsimp only
  simp only [newObj]
  exact wpAny_bind (wpAny_alloc (wpAny_pure (h _ ⟨newSetData w _ rfl, fun x hx => by cases hx⟩)))
end
end Mine
end
section
open PySem PySem.W PySem.Calls PyProof.Rows
set_option maxRecDepth 100000
set_option autoImplicit false
set_option linter.unusedVariables false
set_option linter.unusedSectionVars false
namespace Mine

theorem getElem_cons_eraseIdx {α : Type} (l : List α) (i : Nat) (h : i < l.length) : (l[i] :: l.eraseIdx i).Perm l := by
  rw [List.eraseIdx_eq_take_drop_succ]
  have h1 : l = l.take i ++ l[i] :: l.drop (i + 1) := by
    have := (List.take_append_drop i l).symm
    rw [List.drop_eq_getElem_cons h] at this
    exact this
  conv => rhs; rw [h1]
  exact List.perm_middle.symm
theorem pickOrder_go {α : Type} (next : Nat → Nat) : ∀ (fuel k : Nat) (left : List α) (out : Array α), fuel = left.length → (pickOrder.go next fuel k left out).toList.Perm (out.toList ++ left)
  | 0, k, left, out, h => by
    have : left = [] := List.length_eq_zero_iff.mp h.symm
    subst this; rw [pickOrder.go]; simp
  | f + 1, k, left, out, h => by
    have hl : 0 < left.length := by omega
    have hi : next k % left.length < left.length := Nat.mod_lt _ hl
    rw [pickOrder.go, List.getElem?_eq_getElem hi]
    dsimp only
    refine (pickOrder_go next f (k + 1) _ _ (by rw [List.length_eraseIdx_of_lt hi]; omega)).trans ?_
    rw [Array.toList_push, List.append_assoc]
    refine List.Perm.append_left _ ?_
    exact getElem_cons_eraseIdx left _ hi
theorem pickOrder_perm {α : Type} (next : Nat → Nat) (xs : Array α) : (pickOrder next xs).toList.Perm xs.toList := by
  have := pickOrder_go next xs.size 0 xs.toList #[] (by simp)
  simpa [pickOrder] using this

section
variable {w : World} {A : Around} {E : Value → Shared → Prop} {s : Shared} {a : Addr} {o : Obj} {S : List Int} {k : Int} {tk : Tok}

theorem wp_if_false {α : Type} {c : Bool} {x y : Sem α} {Q : α → Shared → Prop} (hc : c = false) (h : wpAny (model P0 w) A y Q E s) : wpAny (model P0 w) A (if c = true then x else y) Q E s := by
  subst hc; exact h
theorem wp_if_true {α : Type} {c : Bool} {x y : Sem α} {Q : α → Shared → Prop} (hc : c = true) (h : wpAny (model P0 w) A x Q E s) : wpAny (model P0 w) A (if c = true then x else y) Q E s := by
  subst hc; exact h
theorem w_byText {Q : Bool → Shared → Prop} (h : Q (byT w) s) : wpAny (model P0 w) A setsByText Q E s := by
  unfold setsByText
  exact wpAny_bind (wpAny_askSetting (wpAny_pure h))

/-- the order in which a set is walked -/
noncomputable def wOrd (w : World) (a : Addr) (es : Ents) (ep : Nat) : Ents := if byT w then pickOrder (w.params.setOrder a ep) es else es
theorem wOrd_perm (w : World) (a : Addr) (es : Ents) (ep : Nat) : (wOrd w a es ep).toList.Perm es.toList := by
  unfold wOrd; split
  · exact pickOrder_perm _ _
  · exact .refl _
theorem w_walk0 {es : Ents} {ep : Nat} {t : SetTable} {Q : Ents → Shared → Prop} (ho : s.heap.get? a = some o) (hd : o.data = .set es ep t) (hf : t.fits es.size = true) (hpl : t.plain = true) (hled : t.led = !byT w)
    (h : Q (wOrd w a es ep) s) : wpAny (model P0 w) A (setWalk a) Q E s := by
  unfold setWalk
  refine wpAny_bind (wpAny_setState_of ho hd hf ?_)
  dsimp only
  refine wpAny_bind (w_byText ?_)
  cases hb : byT w with
  | true =>
    simp only [↓reduceIte]
    refine wpAny_bind (wpAny_askSetting (wpAny_pure ?_))
    have e : wOrd w a es ep = pickOrder (w.params.setOrder a ep) es := by unfold wOrd; rw [hb]; rfl
    rw [e] at h; exact h
  | false =>
    simp only [Bool.false_eq_true, ↓reduceIte]
    refine wp_if_false (by show (!t.plain && _) = false; rw [hpl]; rfl) ?_
    refine wpAny_bind ?_
    show wpAny _ _ (if (!t.led && decide (es.size > 1)) = true then (unsupported _ : Sem Unit) else pure ()) _ _ _
    refine wp_if_false (by rw [hled, hb]; rfl) (wpAny_pure (wpAny_pure ?_))
    simpa [wOrd, hb] using h
theorem w_walkUnseen0 {es : Ents} {ep : Nat} {t : SetTable} {others : List Addr} {fl : Option Addr} {Q : Ents → Shared → Prop} (ho : s.heap.get? a = some o) (hd : o.data = .set es ep t) (hf : t.fits es.size = true) (hpl : t.plain = true) (hled : t.led = !byT w)
    (h : Q (wOrd w a es ep) s) : wpAny (model P0 w) A (setWalkUnseen a others fl) Q E s := by
  unfold setWalkUnseen
  refine wpAny_bind (wpAny_setState_of ho hd hf ?_)
  dsimp only
  refine wpAny_bind (w_byText ?_)
  have : (byT w || t.led && t.plain || decide (es.size ≤ 1)) = true := by rw [hpl, hled]; cases byT w <;> rfl
  rw [this]
  simp only [↓reduceIte]
  exact w_walk0 ho hd hf hpl hled h
end
end Mine
end
section
open PySem PySem.W PySem.Calls PyProof.Rows
set_option maxRecDepth 100000
set_option autoImplicit false
set_option linter.unusedVariables false
set_option linter.unusedSectionVars false
namespace Mine
theorem peek_subSet (w : World) : peek (KF w) ⟨P0, w.params⟩ (isSubtype (.ref 250) (.type "set")) = some true := by kernel_rfl

noncomputable def SetLike (o : Obj) : Prop := o.cls = .type "set" ∨ o.cls = .ref 250

theorem okMask.of_two_n {n : Nat} (h : n < 32) : okMask (SetTable.sizeAbove (n * 2) - 1) ∧ n * 2 ≤ SetTable.sizeAbove (n * 2) - 1 := sizeAbove_ok _ (by omega)

section
variable {w : World} {A : Around} {E : Value → Shared → Prop} {s : Shared} {a b : Addr} {o ob : Obj} {S R : List Int} {k : Int} {tk : Tok}

theorem w_isSet {Q : Bool → Shared → Prop} (C : Cx w s.heap) (ho : s.heap.get? a = some o) (hc : SetLike o) (h : Q true s) : wpAny (model P0 w) A (isInstance (.ref a) (.type "set")) Q E s := by
  simp only [isInstance, typeOf]
  refine wpAny_bind (wpAny_bind (wpAny_load ho (wpAny_pure ?_)))
  rcases hc with hc | hc
  · rw [hc]; exact wpAny_of_eq F.sub_set_set h
  · rw [hc]; exact (Looks.of_peek C.K (peek_subSet w)).here h
theorem w_isAny {Q : Bool → Shared → Prop} (C : Cx w s.heap) (ho : s.heap.get? a = some o) (hc : SetLike o) (h : Q true s) : wpAny (model P0 w) A (Builtin.Frozenset.isAnySet (.ref a)) Q E s := by
  unfold Builtin.Frozenset.isAnySet orM
  exact wpAny_bind (w_isSet C ho hc (wpAny_pure h))
theorem w_baseOf {Q : Value → Shared → Prop} (C : Cx w s.heap) (ho : s.heap.get? a = some o) (hc : SetLike o) (h : Q (.type "set") s) : wpAny (model P0 w) A (Builtin.Frozenset.baseOf a) Q E s := by
  unfold Builtin.Frozenset.baseOf
  exact wpAny_bind (w_isSet C ho hc (wpAny_pure h))

noncomputable abbrev freshD (w : World) : Data := .set #[] 0 (.fresh 0 0 (!byT w))
theorem fresh_is (w : World) : IS10 w (freshD w) [] := ⟨newSetData w _ rfl, fun x hx => by cases hx⟩
theorem w_newSet' {Q : Value → Shared → Prop} (h : Q (.ref s.heap.objs.size) { s with heap := s.heap.push (setO (freshD w)) }) : wpAny (model P0 w) A (newSet (.type "set")) Q E s := by
  unfold newSet setsByText
  refine wpAny_bind (wpAny_bind (wpAny_askSetting (wpAny_pure ?_)))
  dsimp only
  simp only [newObj]
  exact wpAny_bind (wpAny_alloc (wpAny_pure h))

theorem w_relay0 {wanted n : Nat} {fg mv : Nat} {Q : Unit → Shared → Prop} (ho : s.heap.get? a = some o) (hd : o.data = .set #[] n (.fresh fg mv (!byT w))) (hw : wanted < 64)
    (h : ∀ t' h', TOK t' → t'.fill = 0 → t'.mask = SetTable.sizeAbove wanted - 1 → t'.plain = true → t'.led = !byT w → Heap.SameBut a s.heap h' → h'.get? a = some { o with data := .set #[] (n + 1) t' } → Q () { s with heap := h' }) :
    wpAny (model P0 w) A (setRelay a wanted) Q E s := by
  obtain ⟨hm, hle⟩ := sizeAbove_ok wanted hw
  obtain ⟨t', order, e, hmask, hcov, hsz, hperm, hsok, hreach⟩ := laid_sok (bt := byT w) (es := #[]) (mask := SetTable.sizeAbove wanted - 1) (finger := (SetTable.fresh fg mv (!byT w)).finger) (moves := (SetTable.fresh fg mv (!byT w)).movedTo (SetTable.sizeAbove wanted - 1)) hm (by have := hm.pos; simp; omega)
  have hnil : order.filterMap ((#[] : Ents)[·]?) = #[] := by apply Array.eq_empty_of_size_eq_zero; exact hsz
  unfold setRelay
  refine wpAny_bind (wpAny_setState_of ho hd (by simp [SetTable.fits, SetTable.fresh, SetTable.fill]) ?_)
  dsimp only
  have hsl : ¬ SetTable.sizeAbove wanted > sizeLine := by rw [sizeLine_eq]; have := hm.le; omega
  rw [if_neg hsl]
  have e' : (SetTable.fresh fg mv (!byT w)).relaid (Array.map (fun x => x.1) (#[] : Ents)) wanted = some (t', order) := e
  rw [e']
  refine wpAny_bind ?_
  refine wp_if_false (by rw [hsz]; rfl) (wpAny_pure ?_)
  dsimp only
  rw [hnil]
  refine wpAny_storeSet_of ho hd ?_ (by simp)
  have hsz' := hsok.sz
  rw [hnil] at hsz'
  refine h t' _ hsok.T ?_ hmask hsok.pl hsok.ld (Heap.SameBut.update ..) (upd_set ho hd)
  unfold SetTable.fill; rw [hsz', hreach.1]; rfl

structure Roomy (w : World) (n : Nat) (a : Addr) (o : Obj) (s s₁ : Shared) (ts : SetTable) (ep1 : Nat) : Prop where
  g : s₁.gens = s.gens
  dr : s₁.drawn = s.drawn
  tk : s₁.toks = s.toks
  os : s₁.os = s.os
  sb : Heap.SameBut a s.heap s₁.heap
  ho : s₁.heap.get? a = some { o with data := .set #[] ep1 ts }
  T : TOK ts
  f : ts.fill = 0
  m : okMask ts.mask
  room : n * 5 < ts.mask * 3
  pl : ts.plain = true
  ld : ts.led = (!byT w)
theorem w_roomFor {n : Nat} {Q : Unit → Shared → Prop} (ho : s.heap.get? a = some o) (hd : o.data = freshD w) (hle : n ≤ 10) (h : ∀ s₁ ts ep1, Roomy w n a o s s₁ ts ep1 → Q () s₁) :
    wpAny (model P0 w) A (setRoomFor a n) Q E s := by
  have hfr : (SetTable.fresh 0 0 (!byT w)).fits (#[] : Ents).size = true := by simp [SetTable.fits, SetTable.fresh, SetTable.fill]
  have hT0 : TOK (SetTable.fresh 0 0 (!byT w)) := (by
      obtain ⟨es0, ep0, t0, hd0, hs0, _⟩ := newSetData w _ rfl
      cases hd0
      exact hs0.T)
  unfold setRoomFor
  refine wpAny_bind (wpAny_setState_of ho hd hfr ?_)
  dsimp only
  by_cases hn : n < 5
  · have : (SetTable.fresh 0 0 (!byT w)).roomFor n = none := by
      unfold SetTable.roomFor; rw [if_neg]; simp only [SetTable.fresh, SetTable.fill]; simp; omega
    rw [this]
    refine wpAny_pure (h s _ 0 ⟨rfl, rfl, rfl, rfl, Heap.SameBut.refl _ _, (by rw [ho]; cases o; cases hd; rfl), hT0, rfl, .inl rfl, ?_, rfl, rfl⟩)
    show _ < 7 * 3
    omega
  · have : (SetTable.fresh 0 0 (!byT w)).roomFor n = some (n * 2) := by
      unfold SetTable.roomFor; rw [if_pos]; simp [SetTable.fresh]; simp only [SetTable.fresh, SetTable.fill]; simp; omega
    rw [this]
    refine w_relay0 ho hd (by omega) fun t' h' hT hf hmask hpl hld hsb ho' => ?_
    obtain ⟨hm, hle2⟩ := okMask.of_two_n (n := n) (by omega)
    refine h { s with heap := h' } t' 1 ⟨rfl, rfl, rfl, rfl, hsb, ho', hT, hf, (hmask ▸ hm), ?_, hpl, hld⟩
    rw [hmask]
    have : 0 < n := by omega
    omega
/-- all of a set goes into a fresh one -/
theorem w_merge {each : Sem Unit} {Q : Unit → Shared → Prop} (ho : s.heap.get? a = some o) (hd : o.data = freshD w) (hob : s.heap.get? b = some ob) (hI : IS10 w ob.data S) (hab : a ≠ b)
    (h : ∀ d' h', IS10 w d' S → Heap.SameBut a s.heap h' → h'.get? a = some { o with data := d' } → Q () { s with heap := h' }) :
    wpAny (model P0 w) A (setMerge a b each) Q E s := by
  obtain ⟨⟨eo, ep, to, hdb, hs, hi, hp, hnd⟩, hr⟩ := id hI
  have hlen : eo.size = S.length := is_len (ep := ep) (t := to) hp
  have hle := hI.len
  have hfr : (SetTable.fresh 0 0 (!byT w)).fits (#[] : Ents).size = true := by simp [SetTable.fits, SetTable.fresh, SetTable.fill]
  unfold setMerge
  rw [if_neg (by simpa using hab)]
  refine wpAny_bind (wpAny_setState_of hob hdb hs.fits ?_)
  dsimp only
  split
  · rename_i he
    have : S = [] := by
      apply List.length_eq_zero_iff.mp; rw [← hlen]; simpa [Array.isEmpty] using he
    subst this
    refine wpAny_pure (h o.data s.heap (hd ▸ fresh_is w) (Heap.SameBut.refl _ _) ho)
  rename_i hne
  refine wpAny_bind (w_roomFor ho hd (by omega) fun s₁ ts ep1 Rm => ?_)
  obtain ⟨hg1, hdr1, ht1, hos1, hsb, ho1, hT, hf, hm, hroom, hpl, hld⟩ := Rm
  have hs1 : ∀ h', ({ s₁ with heap := h' } : Shared) = { s with heap := h' } := fun h' => by
    cases s; cases s₁; simp only at hg1 hdr1 ht1 hos1; subst hg1 hdr1 ht1 hos1; rfl
  refine wpAny_bind (wpAny_setState_of ho1 rfl (by
    have : ts.place.size = 0 := by unfold SetTable.fill at hf; omega
    unfold SetTable.fits
    rw [Bool.and_eq_true, beq_iff_eq, decide_eq_true_eq]; exact ⟨this, by omega⟩) ?_)
  dsimp only
  have hbl : (ts.led && to.led) = (!byT w) := by rw [hld, hs.ld, Bool.and_self]
  have hbp : (ts.plain && to.plain) = true := by rw [hpl, hs.pl]; rfl
  have hroad : ts.road to = if ts.mask == to.mask && to.dummies.isEmpty then .slotForSlot else .clean := by
    unfold SetTable.road; rw [hf]; rfl
  rw [hroad, hbl, hbp]
  by_cases hc : (ts.mask == to.mask && to.dummies.isEmpty) = true
  · rw [if_pos hc]
    dsimp only
    refine wpAny_storeSet_of ho1 rfl ?_ (by rw [hlen, sizeLine_eq]; omega)
    have hx := upd_set (es' := eo) (t' := { to with finger := ts.finger, led := !byT w, moves := ts.moves, plain := true }) ho1 rfl
    rw [hs1]
    have T := hs.T
    refine h _ _ ⟨⟨eo, ep1 + 1, { to with finger := ts.finger, led := !byT w, moves := ts.moves, plain := true }, rfl, ⟨⟨?_, hs.sz, rfl, rfl⟩, hs.nf⟩, hi, hp, hnd⟩, hr⟩ (hsb.trans (Heap.SameBut.update ..)) hx
    exact ⟨T.okm, T.ris, T.bd, T.drs, T.dbd, T.dis, T.fill⟩
  · rw [if_neg hc]
    dsimp only
    obtain ⟨t', order, e, hmask, hcov, hsz, hperm, hsok, hreach⟩ := laid_sok (bt := byT w) (es := eo) (mask := ts.mask) (finger := ts.finger) (moves := ts.moves) hm hroom
    rw [e]
    refine wpAny_bind (wp_if_false (by rw [hsz]; simp) (wpAny_pure ?_))
    dsimp only
    refine wpAny_storeSet_of ho1 rfl ?_ (by rw [hsz, hlen, sizeLine_eq]; omega)
    have hx := upd_set (es' := order.filterMap (eo[·]?)) (t' := t') ho1 rfl
    rw [hs1]
    exact h _ _ ⟨⟨_, _, _, rfl, hsok, fun e he => hi e (hperm.mem_iff.mp he), (hperm.map ekey).trans hp, hnd⟩, hr⟩ (hsb.trans (Heap.SameBut.update ..)) hx
end
end Mine
end
section
open PySem PySem.W PySem.Calls PyProof.Rows
set_option maxRecDepth 100000
set_option autoImplicit false
set_option linter.unusedVariables false
set_option linter.unusedSectionVars false
namespace Mine

theorem entry_diffLoop : entryFor table "set.difference_update.loop" = some Builtin.«set.difference_update.loop» := entryFor_of_tree (by kernel_rfl)
theorem plain_diffLoop : plainId "set.difference_update.loop" = true := by decide +kernel
theorem w_forL {M : Model} {A : Around} {E : Value → Shared → Prop} {α β : Type} {f : α → β → Sem (ForInStep β)} {Q : β → Shared → Prop} (I : List α → β → Shared → Prop)
    (step : ∀ x r b s, I (x :: r) b s → wpAny M A (f x b) (fun st s' => match st with | .yield b' => I r b' s' | .done b' => Q b' s') E s) (fin : ∀ b s, I [] b s → Q b s) :
    ∀ (l : List α) (b : β) (s : Shared), I l b s → wpAny M A (forIn l b f) Q E s
  | [], b, s, h => by rw [List.forIn_nil]; exact wpAny_pure (fin _ _ h)
  | x :: r, b, s, h => by
    rw [List.forIn_cons]
    refine wpAny_bind (wpAny_mono (step x r b s h) (fun st s' h' => ?_) fun _ _ x => x)
    cases st with
    | yield b' => exact w_forL I step fin r b' s' h'
    | done b' => exact wpAny_pure h'
theorem w_forA {M : Model} {A : Around} {E : Value → Shared → Prop} {α β : Type} {f : α → β → Sem (ForInStep β)} {Q : β → Shared → Prop} (I : List α → β → Shared → Prop)
    (step : ∀ x r b s, I (x :: r) b s → wpAny M A (f x b) (fun st s' => match st with | .yield b' => I r b' s' | .done b' => Q b' s') E s) (fin : ∀ b s, I [] b s → Q b s)
    (xs : Array α) (b : β) (s : Shared) (h : I xs.toList b s) : wpAny M A (forIn xs b f) Q E s := by
  rw [← Array.forIn_toList]; exact w_forL I step fin xs.toList b s h

section
variable {w : World} {A : Around} {E : Value → Shared → Prop} {s : Shared} {a b : Addr} {o ob : Obj} {S R : List Int} {k : Int} {tk : Tok}

/-- what a new set at a new place gives -/
noncomputable def NewS (w : World) (s : Shared) (S : List Int) (Q : Value → Shared → Prop) : Prop :=
  ∀ r d' h' tk, s.heap.get? r = none → Keeps s.heap h' → h'.get? r = some (setO d') → IS10 w d' S → Q (.ref r) { s with heap := h', toks := tk }

theorem SameBut.keepsPush {h h' : Heap} {ob : Obj} (x : Heap.SameBut h.objs.size (h.push ob) h') : Keeps h h' := fun b o e =>
  (x.2 b (Nat.ne_of_lt (Heap.lt_size e))).trans (Heap.get?_push_of_some _ e)

theorem w_copyOf {Q : Value → Shared → Prop} (C : Cx w s.heap) (ho : s.heap.get? a = some o) (hc : SetLike o) (hI : IS10 w o.data S)
    (h : ∀ d' h', IS10 w d' S → Keeps s.heap h' → h'.get? s.heap.objs.size = some (setO d') → Q (.ref s.heap.objs.size) { s with heap := h' }) : wpAny (model P0 w) A (Builtin.Frozenset.copyOf a) Q E s := by
  unfold Builtin.Frozenset.copyOf
  refine wpAny_bind (w_baseOf C ho hc (wpAny_bind (w_newSet' (wpAny_bind (wpAny_pure (wpAny_bind ?_))))))
  refine w_merge (o := setO (freshD w)) (Heap.get?_push_size _ rfl) rfl (Heap.get?_push_of_some _ ho) hI (Ne.symm (Nat.ne_of_lt (Heap.lt_size ho))) fun d' h' hd' hsb ho' => ?_
  exact wpAny_pure (h d' h' hd' (SameBut.keepsPush hsb) ho')

theorem w_discard {Q : Bool → Shared → Prop} (ho : s.heap.get? a = some o) (hI : IS10 w o.data S)
    (h : ∀ d' S' h' b tk, IS10 w d' S' → (∀ x, x ∈ S' ↔ x ∈ S ∧ x ≠ k) → Heap.SameBut a s.heap h' → h'.get? a = some { o with data := d' } → (b = decide (k ∈ S)) → Q b { s with heap := h', toks := tk }) :
    wpAny (model P0 w) A (setDiscard a (.int k tk)) Q E s := by
  unfold setDiscard
  refine wpAny_holding (wpAny_bind ((KI w).pyHash (k := k) (intKind_is _ _ _ _) ?_))
  refine w_discardH (s := { s with toks := s.toks + 1 }) ho hI (fun hm => ?_) fun hm d' h' hd' hsb ho' => ?_
  · exact h o.data S s.heap false _ hI (fun x => ⟨fun hx => ⟨hx, fun e => hm (e ▸ hx)⟩, fun hx => hx.1⟩) (Heap.SameBut.refl _ _) (by cases o; exact ho) (by simp [hm])
  · refine h d' _ h' true _ hd' (fun x => ?_) hsb ho' (by simp [hm])
    rw [hI.nodup.mem_erase_iff, and_comm]

/-- set.difference_update.loop over any iterator of ints -/
theorem w_diffLoop {Rz : Result → Shared → Prop} {I : Addr} {fp wr : List Addr} {n : Nat} {P : Nat → Value → Prop} {St : Nat → Heap → Prop} (W : Walks P0 w A.in1 I fp wr n P St) (haf : a ∉ fp) {xs : List Int} (hn : xs.length = n)
    (hv : ∀ i v, P i v → ∃ t x, xs[i]? = some x ∧ v = .int x t) :
    ∀ (k i : Nat) (s : Shared) (S : List Int) (o : Obj), n - i = k → i ≤ n → St i s.heap → s.heap.get? a = some o → IS10 w o.data S →
      (∀ d' S' h' tk, IS10 w d' S' → (∀ x, x ∈ S' ↔ x ∈ S ∧ x ∉ xs.drop i) → (∀ b ob, b ∉ wr → b ≠ a → s.heap.get? b = some ob → h'.get? b = some ob) → h'.get? a = some { o with data := d' } → Rz (.ok (.ret .none)) { s with heap := h', toks := tk }) →
      codeAny (model P0 w) A (.builtin "set.difference_update.loop" ⟨[.ref a, .ref I], []⟩) Rz s := by
  have haw : a ∉ wr := fun h => haf (W.sub _ h)
  intro k
  induction k with
  | zero =>
    intro i s S o hk hi hst ho hI hR
    have hin : i = n := by omega
    subst hin
    refine codeAny_builtin entry_diffLoop ?_
    rw [Around.under_plainId plain_diffLoop _]
    show wpAny _ A.in1 (pyNext (.ref I) >>= _) _ _ s
    refine wpAny_bind (W.done s _ _ hst fun h' tk hk' => ?_)
    show wpAny _ A.in1 (ret Value.none) _ _ _
    refine wpAny_pure (hR o.data S h' tk hI (fun x => ?_) (fun b ob hb _ e => hk' b ob hb e) ?_)
    · rw [List.drop_of_length_le (by omega)]; simp
    · rw [hk' a o haw ho]
  | succ k ih =>
    intro i s S o hk hi hst ho hI hR
    have hlt : i < n := by omega
    refine codeAny_builtin entry_diffLoop ?_
    rw [Around.under_plainId plain_diffLoop _]
    show wpAny _ A.in1 (pyNext (.ref I) >>= _) _ _ s
    refine wpAny_bind (W.item i s _ _ hlt hst fun v h' tk hP hst' hk' => ?_)
    obtain ⟨t, x, hxi, rfl⟩ := hv i v hP
    show wpAny _ A.in1 (holding [Value.int x t] (setDiscard a (.int x t)) >>= _) _ _ _
    refine wpAny_bind (wpAny_holding ?_)
    refine w_discard (o := o) (S := S) (hk' a o haw ho) hI fun d' S' h'' b tk2 hd' hpl hsb ho' hb => ?_
    refine wpAny_pure ⟨plainId_quiet plain_diffLoop _, ih (i + 1) _ S' _ (by omega) hlt (W.frame _ _ _ hst' fun b hb ob e => ?_) ho' hd' fun d3 S3 h3 tk3 hI3 hp3 hk3 ho3 => ?_⟩
    · rw [hsb.2 b (fun e => haf (e ▸ hb))]; exact e
    · refine hR d3 S3 h3 tk3 hI3 (fun y => ?_) (fun b ob hb hba e => hk3 b ob hb hba ((hsb.2 b hba).trans (hk' b ob hb e))) ho3
      have hd : xs.drop i = x :: xs.drop (i + 1) := by
        have hl : i < xs.length := by omega
        rw [List.drop_eq_getElem_cons hl]
        rw [List.getElem?_eq_getElem hl] at hxi
        rw [Option.some.inj hxi]
      rw [hp3 y, hpl y, hd]
      simp only [List.mem_cons, not_or, and_assoc]

theorem w_tidy {Q : Unit → Shared → Prop} (ho : s.heap.get? a = some o) (hI : IS10 w o.data S)
    (h : ∀ d' h', IS10 w d' S → Heap.SameBut a s.heap h' → h'.get? a = some { o with data := d' } → Q () { s with heap := h' }) : wpAny (model P0 w) A (setTidy a) Q E s := by
  obtain ⟨⟨es, ep, t, hd, hs, hi, hp, hnd⟩, hr⟩ := id hI
  have hlen : es.size = S.length := is_len (ep := ep) (t := t) hp
  have hle := hI.len
  unfold setTidy
  refine wpAny_bind (wpAny_setState_of ho hd hs.fits ?_)
  dsimp only
  split
  · unfold setRelay
    refine wpAny_bind (wpAny_setState_of ho hd hs.fits ?_)
    dsimp only
    have hg : SetTable.grown es.size = es.size * 4 := by unfold SetTable.grown; rw [if_neg (by omega)]
    obtain ⟨hm, hle2⟩ := sizeAbove_ok (SetTable.grown es.size) (by rw [hg]; omega)
    rw [if_neg (by rw [sizeLine_eq]; have := hm.le; omega)]
    obtain ⟨t', order, e1, e2, e3, e4, e5, _⟩ := relay_spec hs.toSOK0 (wanted := SetTable.grown es.size) (by rw [hg]; omega) (by rw [hg]; omega) (by rw [hg]; omega)
    rw [e1]
    refine wpAny_bind (wp_if_false (by rw [e3]; simp) (wpAny_pure ?_))
    dsimp only
    refine wpAny_storeSet_of ho hd ?_ (by rw [e3, hlen, sizeLine_eq]; omega)
    exact h _ _ ⟨⟨_, _, _, rfl, e5, fun e he => hi e (e4.mem_iff.mp he), (e4.map ekey).trans hp, hnd⟩, hr⟩ (Heap.SameBut.update ..) (upd_set ho hd)
  · exact wpAny_pure (h o.data s.heap hI (Heap.SameBut.refl _ _) (by cases o; exact ho))

theorem w_diffUpd_list {id : String} {l : Addr} {xs : List Int} {Q : Unit → Shared → Prop} (hh : A.handled = none) (hl : LI s.heap l xs) (ho : s.heap.get? a = some o) (hal : a ≠ l) (hI : IS10 w o.data S)
    (h : ∀ d' S' h' tk, IS10 w d' S' → (∀ x, x ∈ S' ↔ x ∈ S ∧ x ∉ xs) → (∀ b ob, b ≠ a → s.heap.get? b = some ob → h'.get? b = some ob) → h'.get? a = some { o with data := d' } → Q () { s with heap := h', toks := tk }) :
    wpAny (model P0 w) A (Builtin.Frozenset.differenceUpdate id a (.ref l)) Q E s := by
  obtain ⟨vs, hL, hi⟩ := hl
  have hT := hL.typeIs
  obtain ⟨ol, hol, _⟩ := _root_.id hL
  unfold Builtin.Frozenset.differenceUpdate
  rw [if_neg (by simpa using fun e => hal e.symm)]
  refine wpAny_bind (w_isAnySet hT F.sub_list_set F.sub_list_frozenset ?_)
  rw [if_neg (by decide)]
  refine wpAny_bind (wpAny_pyIter_list hL ?_)
  refine wpAny_bind (wpAny_runValue ?_)
  have hne : l ≠ s.heap.objs.size := Nat.ne_of_lt (Heap.lt_size hol)
  have hae : a ≠ s.heap.objs.size := Nat.ne_of_lt (Heap.lt_size ho)
  have W := Walks.list (prog := P0) (w := w) (A := A.in1) (by exact hh) s.heap.objs.size l hne vs.toArray
  have hlen : vs.length = xs.length := IntsAre.length hi
  refine w_diffLoop (a := a) W (by simp [hae, hal]) (xs := xs) (by simp [hlen]) (intsAt hi) vs.toArray.size 0 _ S o (by omega) (Nat.zero_le _) ⟨⟨_, Heap.get?_push_size _ rfl, rfl, rfl⟩, hL.push _⟩ (Heap.get?_push_of_some _ ho) hI fun d' S' h' tk hd' hp hk ho' => ?_
  refine w_tidy ho' hd' fun d2 h2 hd2 hsb2 ho2 => ?_
  refine h d2 S' h2 tk hd2 (by simpa using hp) (fun b ob hb e => ?_) ho2
  rw [hsb2.2 b hb]
  refine hk b ob ?_ hb (Heap.get?_push_of_some _ e)
  simp only [List.mem_singleton]
  exact Nat.ne_of_lt (Heap.lt_size e)

theorem w_size {Q : Nat → Shared → Prop} (ho : s.heap.get? a = some o) (hI : IS10 w o.data S) (h : Q S.length s) : wpAny (model P0 w) A (Builtin.Frozenset.sizeOf a) Q E s := by
  obtain ⟨⟨es, ep, t, hd, hs, hi, hp, hnd⟩, hr⟩ := id hI
  unfold Builtin.Frozenset.sizeOf setEntries
  refine wpAny_bind (wpAny_bind (wpAny_setState_of ho hd hs.fits (wpAny_pure ?_)))
  refine wpAny_pure ?_
  rw [is_len (ep := ep) (t := t) hp]; exact h

/-- difference with a list -/
theorem w_diff_list {id : String} {l : Addr} {xs : List Int} {Q : Value → Shared → Prop} (C : Cx w s.heap) (hh : A.handled = none) (hl : LI s.heap l xs) (ho : s.heap.get? a = some o) (hc : SetLike o) (hI : IS10 w o.data S)
    (h : ∀ S', (∀ x, x ∈ S' ↔ x ∈ S ∧ x ∉ xs) → NewS w s S' Q) : wpAny (model P0 w) A (Builtin.Frozenset.difference id a (.ref l)) Q E s := by
  obtain ⟨vs, hL, hi⟩ := _root_.id hl
  unfold Builtin.Frozenset.difference
  refine wpAny_bind (w_isAnySet hL.typeIs F.sub_list_set F.sub_list_frozenset ?_)
  dsimp only
  refine wp_if_true rfl ?_
  refine wpAny_bind (wpAny_typeOf hL.typeIs ?_)
  refine wp_if_true (by decide) ?_
  refine wpAny_bind (w_copyOf C ho hc hI fun d' h' hd' hk ho' => ?_)
  refine wpAny_bind (wpAny_pure (wpAny_bind (wpAny_holding ?_)))
  obtain ⟨ol, hol, _⟩ := _root_.id hL
  have hne : s.heap.objs.size ≠ l := Ne.symm (Nat.ne_of_lt (Heap.lt_size hol))
  refine w_diffUpd_list hh (hl.keeps fun o e => hk _ _ e) ho' hne hd' fun d2 S2 h2 tk2 hd2 hm hk2 ho2 => ?_
  refine wpAny_pure (h S2 hm _ d2 h2 tk2 (fresh_none _) (fun b ob e => hk2 b ob (Nat.ne_of_lt (Heap.lt_size e)) (hk b ob e)) ho2 hd2)
end
end Mine
end
section
open PySem PySem.W PySem.Calls PyProof.Rows
set_option maxRecDepth 100000
set_option autoImplicit false
set_option linter.unusedVariables false
set_option linter.unusedSectionVars false
namespace Mine
section
variable {w : World} {A : Around} {E : Value → Shared → Prop} {s : Shared} {a b : Addr} {o ob : Obj} {S R : List Int} {k : Int} {tk : Tok}

theorem w_epoch {es : Ents} {ep : Nat} {t : SetTable} {Q : Nat → Shared → Prop} (ho : s.heap.get? a = some o) (hd : o.data = .set es ep t) (hf : t.fits es.size = true) (h : Q ep s) : wpAny (model P0 w) A (setEpoch a) Q E s := by
  unfold setEpoch
  exact wpAny_bind (wpAny_setState_of ho hd hf (wpAny_pure h))
theorem w_unchanged {id : String} {es : Ents} {ep : Nat} {t : SetTable} {Q : Unit → Shared → Prop} (ho : s.heap.get? a = some o) (hd : o.data = .set es ep t) (hf : t.fits es.size = true) (h : Q () s) :
    wpAny (model P0 w) A (Builtin.Frozenset.unchanged id a ep) Q E s := by
  unfold Builtin.Frozenset.unchanged
  refine wpAny_bind (w_epoch ho hd hf ?_)
  exact wp_if_false (by simp) (wpAny_pure h)

/-- difference with a set -/
theorem w_diff_set {id : String} {Q : Value → Shared → Prop} (C : Cx w s.heap) (hh : A.handled = none) (ho : s.heap.get? a = some o) (hc : SetLike o) (hI : IS10 w o.data S)
    (hob : s.heap.get? b = some ob) (hcb : SetLike ob) (hR : IS10 w ob.data R) (hab : a ≠ b)
    (h : ∀ S', (∀ x, x ∈ S' ↔ x ∈ S ∧ x ∉ R) → NewS w s S' Q) : wpAny (model P0 w) A (Builtin.Frozenset.difference id a (.ref b)) Q E s := by
  unfold Builtin.Frozenset.difference
  refine wpAny_bind (w_isAny C hob hcb ?_)
  dsimp only
  refine wp_if_false rfl ?_
  refine wpAny_bind (wpAny_pure ?_)
  refine wp_if_false rfl ?_
  refine wp_if_true rfl ?_
  refine wpAny_bind (w_size hob hR ?_)
  refine wpAny_bind (w_size ho hI ?_)
  have hle := hR.len
  obtain ⟨⟨es, ep, t, hd, hs, hi, hp, hnd⟩, hr⟩ := _root_.id hI
  obtain ⟨⟨esb, epb, tb, hdb, hsb, hib, hpb, hndb⟩, hrb⟩ := _root_.id hR
  split
  · rename_i hbig
    have hbig' : R.length < S.length / 4 := by simpa using hbig
    refine wpAny_bind (wpAny_rule ?_)
    refine wpAny_bind (w_copyOf C ho hc hI fun d' h' hd' hk ho' => ?_)
    refine wpAny_bind (wpAny_pure (wpAny_bind (wpAny_holding ?_)))
    have hne : b ≠ s.heap.objs.size := Nat.ne_of_lt (Heap.lt_size hob)
    unfold Builtin.Frozenset.differenceUpdate
    refine wp_if_false (by simpa using hne) ?_
    have C' : Cx w h' := C.keeps hk
    refine wpAny_bind (w_isAny (s := { s with heap := h' }) C' (hk _ _ hob) hcb ?_)
    refine wp_if_true rfl ?_
    refine wpAny_bind (wpAny_pure ?_)
    refine wpAny_bind (w_size (s := { s with heap := h' }) (hk _ _ hob) hR ?_)
    refine wpAny_bind (w_size (s := { s with heap := h' }) ho' hd' ?_)
    rw [if_neg (show ¬ R.length / 8 > S.length by omega)]
    refine wpAny_bind (w_epoch (s := { s with heap := h' }) (hk _ _ hob) hdb hsb.fits ?_)
    refine wpAny_bind (wpAny_holding (wpAny_bind (w_walkUnseen0 (s := { s with heap := h' }) (hk _ _ hob) hdb hsb.fits hsb.pl hsb.ld ?_)))
    have hpw : ((wOrd w b esb epb).toList.map ekey).Perm R := ((wOrd_perm w b esb epb).map ekey).trans hpb
    refine wpAny_bind (w_forA (fun rem _ s' => ∃ d2 S2 h2 tk2, s' = { s with heap := h2, toks := tk2 } ∧ IS10 w d2 S2 ∧ h2.get? s.heap.objs.size = some (setO d2) ∧ Keeps s.heap h2 ∧ (∀ e ∈ rem, IEnt e ∧ e ∈ esb.toList) ∧ (∀ x, (x ∈ S2 ∧ x ∉ rem.map ekey) ↔ (x ∈ S ∧ x ∉ R))) ?_ ?_ _ _ _ ?_)
    · rintro ⟨hx, xv⟩ rem _ s' ⟨d2, S2, h2, tk2, rfl, hd2, ho2, hk2, hent, hmem⟩
      obtain ⟨⟨k, tk, hek⟩, hin⟩ := hent _ (.head _)
      cases hek
      have hunch : ∀ h3 tk3, h3.get? b = some ob → wpAny (model P0 w) A (Builtin.Frozenset.unchanged id b epb >>= fun _ => pure (ForInStep.yield PUnit.unit)) (fun st s' => st = .yield ⟨⟩ ∧ s' = { s with heap := h3, toks := tk3 }) E { s with heap := h3, toks := tk3 } := fun h3 tk3 e =>
        wpAny_bind (w_unchanged (s := { s with heap := h3, toks := tk3 }) e hdb hsb.fits (wpAny_pure ⟨rfl, rfl⟩))
      refine wpAny_bind (wpAny_holding ?_)
      refine w_discardH (s := { s with heap := h2, toks := tk2 }) (o := setO d2) ho2 hd2 (fun hm => ?_) fun hm d3 h3 hd3 hsb3 ho3 => ?_
      · refine wpAny_mono (hunch h2 tk2 (hk2 _ _ hob)) (fun st s' hh => ?_) fun _ _ x => x
        obtain ⟨rfl, rfl⟩ := hh
        refine ⟨d2, S2, h2, tk2, rfl, hd2, ho2, hk2, fun e he => hent e (.tail _ he), fun x => ?_⟩
        rw [← hmem x, List.map_cons, List.mem_cons, not_or]
        exact ⟨fun q => ⟨q.1, fun (e : x = k) => hm (e ▸ q.1), q.2⟩, fun q => ⟨q.1, q.2.2⟩⟩
      · refine wpAny_mono (hunch h3 tk2 ((hsb3.2 b hne).trans (hk2 _ _ hob))) (fun st s' hh => ?_) fun _ _ x => x
        obtain ⟨rfl, rfl⟩ := hh
        refine ⟨d3, _, h3, tk2, rfl, hd3, ho3, fun b' o' e => (hsb3.2 b' (Nat.ne_of_lt (Heap.lt_size e))).trans (hk2 _ _ e), fun e he => hent e (.tail _ he), fun x => ?_⟩
        rw [← hmem x, List.map_cons, List.mem_cons, not_or, hd2.nodup.mem_erase_iff]
        exact ⟨fun q => ⟨q.1.2, q.1.1, q.2⟩, fun q => ⟨⟨q.2.1, q.1⟩, q.2.2⟩⟩
    · rintro _ s' ⟨d2, S2, h2, tk2, rfl, hd2, ho2, hk2, hent, hmem⟩
      refine wpAny_pure ?_
      refine w_tidy (s := { s with heap := h2, toks := tk2 }) (o := setO d2) ho2 hd2 fun d3 h3 hd3 hsb3 ho3 => ?_
      refine wpAny_pure (h S2 (fun x => by rw [← hmem x]; simp) _ d3 h3 tk2 (fresh_none _) (fun b' o' e => (hsb3.2 b' (Nat.ne_of_lt (Heap.lt_size e))).trans (hk2 _ _ e)) ho3 hd3)
    · refine ⟨d', S, h', s.toks, rfl, hd', ho', hk, fun e he => ?_, fun x => by rw [hpw.mem_iff]⟩
      have : e ∈ esb.toList := (wOrd_perm w b esb epb).mem_iff.mp he
      exact ⟨hib e this, this⟩
  · refine wpAny_bind (w_baseOf C ho hc ?_)
    refine wpAny_bind (w_newSet' ?_)
    refine wpAny_bind (wpAny_pure ?_)
    have ho1 := Heap.get?_push_of_some (setO (freshD w)) ho
    have hob1 := Heap.get?_push_of_some (setO (freshD w)) hob
    refine wpAny_bind (w_epoch (s := { s with heap := s.heap.push (setO (freshD w)) }) ho1 hd hs.fits ?_)
    refine wpAny_bind (wpAny_holding ?_)
    refine wpAny_bind (wp_if_true rfl (w_walkUnseen0 (s := { s with heap := s.heap.push (setO (freshD w)) }) ho1 hd hs.fits hs.pl hs.ld ?_))
    have hpw : ((wOrd w a es ep).toList.map ekey).Perm S := ((wOrd_perm w a es ep).map ekey).trans hp
    refine wpAny_bind (w_forA (fun rem _ s' => ∃ d2 S2 h2 tk2, s' = { s with heap := h2, toks := tk2 } ∧ IS10 w d2 S2 ∧ h2.get? s.heap.objs.size = some (setO d2) ∧ Keeps s.heap h2 ∧ (∀ e ∈ rem, IEnt e ∧ ekey e ∈ S) ∧ (∀ x, (x ∈ S2 ∨ (x ∈ rem.map ekey ∧ x ∉ R)) ↔ (x ∈ S ∧ x ∉ R))) ?_ ?_ _ _ _ ?_)
    · rintro ⟨hx, xv⟩ rem _ s' ⟨d2, S2, h2, tk2, rfl, hd2, ho2, hk2, hent, hmem⟩
      obtain ⟨⟨k, tk, hek⟩, hin⟩ := hent _ (.head _)
      cases hek
      have hunch : ∀ h3 tk3, h3.get? a = some o → wpAny (model P0 w) A (Builtin.Frozenset.unchanged id a ep >>= fun _ => pure (ForInStep.yield PUnit.unit)) (fun st s' => st = .yield ⟨⟩ ∧ s' = { s with heap := h3, toks := tk3 }) E { s with heap := h3, toks := tk3 } := fun h3 tk3 e =>
        wpAny_bind (w_unchanged (s := { s with heap := h3, toks := tk3 }) e hd hs.fits (wpAny_pure ⟨rfl, rfl⟩))
      refine wpAny_bind (wpAny_holding (wp_if_true rfl ?_))
      refine wpAny_bind (w_setFind (s := { s with heap := h2, toks := tk2 }) (hk2 _ _ hob) hR.is (by show _ < 4096; omega) fun r hr => wpAny_bind (wpAny_pure ?_))
      rw [hr]
      by_cases hkR : k ∈ R
      · refine wp_if_false (by simp [hkR]) (wpAny_pure ?_)
        refine wpAny_mono (hunch h2 tk2 (hk2 _ _ ho)) (fun st s' hh => ?_) fun _ _ x => x
        obtain ⟨rfl, rfl⟩ := hh
        refine ⟨d2, S2, h2, tk2, rfl, hd2, ho2, hk2, fun e he => hent e (.tail _ he), fun x => ?_⟩
        rw [← hmem x, List.map_cons, List.mem_cons]
        constructor
        · rintro (q | q)
          · exact .inl q
          · exact .inr ⟨.inr q.1, q.2⟩
        · rintro (q | ⟨q | q, q'⟩)
          · exact .inl q
          · exact absurd (show x ∈ R by rw [q]; exact hkR) q'
          · exact .inr ⟨q, q'⟩
      · refine wp_if_true (by simp [hkR]) ?_
        have hadd : ∀ d3 S3 h3, IS10 w d3 S3 → (∀ x, x ∈ S3 ↔ x ∈ S2 ∨ x = k) → h3.get? s.heap.objs.size = some (setO d3) → Keeps s.heap h3 →
            (∃ d2 S2 h2' tk2', ({ s with heap := h3, toks := tk2 } : Shared) = { s with heap := h2', toks := tk2' } ∧ IS10 w d2 S2 ∧ h2'.get? s.heap.objs.size = some (setO d2) ∧ Keeps s.heap h2' ∧ (∀ e ∈ rem, IEnt e ∧ ekey e ∈ S) ∧ (∀ x, (x ∈ S2 ∨ (x ∈ rem.map ekey ∧ x ∉ R)) ↔ (x ∈ S ∧ x ∉ R))) := fun d3 S3 h3 hd3 hS3 ho3 hk3 => by
          refine ⟨d3, S3, h3, tk2, rfl, hd3, ho3, hk3, fun e he => hent e (.tail _ he), fun x => ?_⟩
          rw [← hmem x, List.map_cons, List.mem_cons, hS3]
          constructor
          · rintro ((q | q) | q)
            · exact .inl q
            · exact .inr ⟨.inl q, q ▸ hkR⟩
            · exact .inr ⟨.inr q.1, q.2⟩
          · rintro (q | ⟨q | q, q'⟩)
            · exact .inl (.inl q)
            · exact .inl (.inr q)
            · exact .inr ⟨q, q'⟩
        refine wpAny_bind (w_addHashed (s := { s with heap := h2, toks := tk2 }) (o := setO d2) ho2 hd2.is (by have := hd2.len; omega) (fun hm => ?_) fun hm d3 h3 hd3 hsb3 ho3 => ?_)
        · refine wpAny_pure (wpAny_mono (hunch h2 tk2 (hk2 _ _ ho)) (fun st s' hh => ?_) fun _ _ x => x)
          obtain ⟨rfl, rfl⟩ := hh
          exact hadd d2 S2 h2 hd2 (fun x => ⟨.inl, fun q => q.elim (fun y => y) fun e => e ▸ hm⟩) ho2 hk2
        · refine wpAny_pure (wpAny_mono (hunch h3 tk2 ((hsb3.2 a (Nat.ne_of_lt (Heap.lt_size ho))).trans (hk2 _ _ ho))) (fun st s' hh => ?_) fun _ _ x => x)
          obtain ⟨rfl, rfl⟩ := hh
          refine hadd d3 (k :: S2) h3 ⟨hd3, fun y hy => ?_⟩ (fun x => by rw [List.mem_cons, or_comm]) ho3 (fun b' o' e => (hsb3.2 b' (Nat.ne_of_lt (Heap.lt_size e))).trans (hk2 _ _ e))
          rcases List.mem_cons.mp hy with rfl | hy
          · exact hI.r _ hin
          · exact hd2.r y hy
    · rintro _ s' ⟨d2, S2, h2, tk2, rfl, hd2, ho2, hk2, hent, hmem⟩
      refine wpAny_pure ?_
      exact wpAny_pure (h S2 (fun x => by rw [← hmem x]; simp) _ d2 h2 tk2 (fresh_none _) hk2 ho2 hd2)
    · refine ⟨freshD w, [], _, s.toks, rfl, fresh_is w, Heap.get?_push_size _ rfl, Keeps.push _ _, fun e he => ?_, fun x => by rw [hpw.mem_iff]; simp⟩
      have hm : e ∈ es.toList := (wOrd_perm w a es ep).mem_iff.mp he
      exact ⟨hi e hm, hp.mem_iff.mp (List.mem_map.mpr ⟨e, hm, rfl⟩)⟩
end
end Mine
end
section
open PySem PySem.W PySem.Calls PyProof.Rows
set_option maxRecDepth 100000
set_option autoImplicit false
set_option linter.unusedVariables false
set_option linter.unusedSectionVars false
namespace Mine
theorem entry_interLoop : entryFor table "frozenset.intersection.loop" = some Builtin.«frozenset.intersection.loop» := entryFor_of_tree (by kernel_rfl)
theorem plain_interLoop : plainId "frozenset.intersection.loop" = true := by decide +kernel

theorem nodup_len : ∀ {l S : List Int}, l.Nodup → (∀ x ∈ l, x ∈ S) → l.length ≤ S.length
  | [], S, _, _ => Nat.zero_le _
  | x :: l, S, h, sub => by
    rw [List.nodup_cons] at h
    have hx := sub x (.head _)
    have := nodup_len (S := S.erase x) h.2 (fun y hy => (List.mem_erase_of_ne (fun (e : y = x) => h.1 (e ▸ hy))).mpr (sub y (.tail _ hy)))
    rw [List.length_erase_of_mem hx] at this
    have : 0 < S.length := List.length_pos_of_mem hx
    simp only [List.length_cons]; omega
theorem sub_len_eq {S' S : List Int} (nd : S'.Nodup) (nS : S.Nodup) (sub : ∀ x ∈ S', x ∈ S) (hl : S.length ≤ S'.length) : ∀ x ∈ S, x ∈ S' := by
  intro x hx
  apply Classical.byContradiction
  intro hn
  have h1 : (x :: S').Nodup := List.nodup_cons.mpr ⟨hn, nd⟩
  have h2 : ∀ y ∈ x :: S', y ∈ S := fun y hy => by
    rcases List.mem_cons.mp hy with rfl | hy
    · exact hx
    · exact sub y hy
  have := nodup_len h1 h2
  simp at this
  omega

section
variable {w : World} {A : Around} {E : Value → Shared → Prop} {s : Shared} {a b : Addr} {o ob : Obj} {S R : List Int} {k : Int} {tk : Tok}

theorem w_interLoop {Rz : Result → Shared → Prop} {I r : Addr} {fp wr : List Addr} {n : Nat} {P : Nat → Value → Prop} {St : Nat → Heap → Prop} (W : Walks P0 w A.in1 I fp wr n P St) (haf : a ∉ fp) (hrf : r ∉ fp) (har : a ≠ r) {xs : List Int} (hn : xs.length = n)
    (hv : ∀ i v, P i v → ∃ t x, xs[i]? = some x ∧ v = .int x t) :
    ∀ (k i : Nat) (s : Shared) (d' : Data) (S' : List Int), n - i = k → i ≤ n → St i s.heap → s.heap.get? a = some o → IS10 w o.data S → s.heap.get? r = some (setO d') → IS10 w d' S' →
      (∀ x, (x ∈ S' ∨ (x ∈ S ∧ x ∈ xs.drop i)) ↔ (x ∈ S ∧ x ∈ xs)) →
      (∀ d' S' h' tk, IS10 w d' S' → (∀ x, x ∈ S' ↔ x ∈ S ∧ x ∈ xs) → (∀ b ob, b ∉ wr → b ≠ r → s.heap.get? b = some ob → h'.get? b = some ob) → h'.get? r = some (setO d') → Rz (.ok (.ret .none)) { s with heap := h', toks := tk }) →
      codeAny (model P0 w) A (.builtin "frozenset.intersection.loop" ⟨[.ref a, .ref I, .ref r], []⟩) Rz s := by
  have haw : a ∉ wr := fun h => haf (W.sub _ h)
  have hrw : r ∉ wr := fun h => hrf (W.sub _ h)
  intro k
  induction k with
  | zero =>
    intro i s d' S' hk hi hst ho hI hor hd' hm hR
    have hin : i = n := by omega
    subst hin
    refine codeAny_builtin entry_interLoop ?_
    rw [Around.under_plainId plain_interLoop _]
    show wpAny _ A.in1 (pyNext (.ref I) >>= _) _ _ s
    refine wpAny_bind (W.done s _ _ hst fun h' tk hk' => ?_)
    show wpAny _ A.in1 (ret Value.none) _ _ _
    refine wpAny_pure (hR d' S' h' tk hd' (fun x => ?_) (fun b ob hb _ e => hk' b ob hb e) (hk' r _ hrw hor))
    rw [← hm x, List.drop_of_length_le (by omega)]; simp
  | succ k ih =>
    intro i s d' S' hk hi hst ho hI hor hd' hm hR
    have hlt : i < n := by omega
    refine codeAny_builtin entry_interLoop ?_
    rw [Around.under_plainId plain_interLoop _]
    show wpAny _ A.in1 (pyNext (.ref I) >>= _) _ _ s
    refine wpAny_bind (W.item i s _ _ hlt hst fun v h' tk hP hst' hk' => ?_)
    obtain ⟨t, x, hxi, rfl⟩ := hv i v hP
    have hd : xs.drop i = x :: xs.drop (i + 1) := by
      have hl : i < xs.length := by omega
      rw [List.drop_eq_getElem_cons hl]
      rw [List.getElem?_eq_getElem hl] at hxi
      rw [Option.some.inj hxi]
    have hle := hI.len
    refine wpAny_bind (wpAny_holding ((KI w).pyHash (k := x) (intKind_is _ _ _ _) ?_))
    refine wpAny_bind (wpAny_holding (w_setFind (s := { s with heap := h', toks := tk + 1 }) (hk' a o haw ho) hI.is (by show _ < 4096; omega) fun rr hrr => ?_))
    rw [hrr]
    have goon : ∀ (h3 : Heap) (tk3 : Nat) d3 S3, St (i + 1) h3 → h3.get? a = some o → h3.get? r = some (setO d3) → IS10 w d3 S3 → (∀ y, (y ∈ S3 ∨ (y ∈ S ∧ y ∈ xs.drop (i + 1))) ↔ (y ∈ S ∧ y ∈ xs)) → (∀ b ob, b ∉ wr → b ≠ r → s.heap.get? b = some ob → h3.get? b = some ob) →
        codeAny (model P0 w) A (.builtin "frozenset.intersection.loop" ⟨[.ref a, .ref I, .ref r], []⟩) Rz { s with heap := h3, toks := tk3 } := fun h3 tk3 d3 S3 hst3 hoa3 hor3 hd3 hm3 hk3 =>
      ih (i + 1) { s with heap := h3, toks := tk3 } d3 S3 (by omega) hlt hst3 hoa3 hI hor3 hd3 hm3 fun d4 S4 h4 tk4 hd4 hS4 hk4 ho4 => hR d4 S4 h4 tk4 hd4 hS4 (fun b ob hb hbr e => hk4 b ob hb hbr (hk3 b ob hb hbr e)) ho4
    by_cases hxS : x ∈ S
    · refine wp_if_true (by simp [hxS]) ?_
      have done : ∀ (h3 : Heap) (d3 : Data) (S3 : List Int) , St (i + 1) h3 → h3.get? a = some o → h3.get? r = some (setO d3) → IS10 w d3 S3 → (∀ y, y ∈ S3 ↔ y ∈ S' ∨ y = x) → (∀ b ob, b ∉ wr → b ≠ r → s.heap.get? b = some ob → h3.get? b = some ob) →
          wpAny (model P0 w) A.in1 (do
            if (← Builtin.Frozenset.sizeOf r) ≥ (← Builtin.Frozenset.sizeOf a) then rule "frozenset.intersection.all-found"; return ← ret .none
            again (.builtin "frozenset.intersection.loop" ⟨[.ref a, .ref I, .ref r], []⟩))
            (fun fin s' => match fin with | .done f => Rz (.ok f) s' | .again c' => c'.quiet = true ∧ codeAny (model P0 w) A c' Rz s') (fun e s' => Rz (.error e) s') { s with heap := h3, toks := tk + 1 } := fun h3 d3 S3 hst3 hoa3 hor3 hd3 hm3 hk3 => by
        have hm' : ∀ y, (y ∈ S3 ∨ (y ∈ S ∧ y ∈ xs.drop (i + 1))) ↔ (y ∈ S ∧ y ∈ xs) := fun y => by
          rw [← hm y, hm3, hd, List.mem_cons]
          constructor
          · rintro ((q | q) | q)
            · exact .inl q
            · exact .inr ⟨q ▸ hxS, .inl q⟩
            · exact .inr ⟨q.1, .inr q.2⟩
          · rintro (q | ⟨q, q' | q'⟩)
            · exact .inl (.inl q)
            · exact .inl (.inr q')
            · exact .inr ⟨q, q'⟩
        refine wpAny_bind (w_size (s := { s with heap := h3, toks := tk + 1 }) hor3 hd3 ?_)
        refine wpAny_bind (w_size (s := { s with heap := h3, toks := tk + 1 }) hoa3 hI ?_)
        split
        · rename_i hge
          refine wpAny_bind (wpAny_rule (wpAny_pure ?_))
          have hsub : ∀ y ∈ S3, y ∈ S := fun y hy => ((hm' y).mp (.inl hy)).1
          have hall := sub_len_eq hd3.nodup hI.nodup hsub hge
          exact hR d3 S3 h3 (tk + 1) hd3 (fun y => ⟨fun hy => (hm' y).mp (.inl hy), fun hy => hall y hy.1⟩) hk3 hor3
        · exact wpAny_pure ⟨plainId_quiet plain_interLoop _, goon h3 (tk + 1) d3 S3 hst3 hoa3 hor3 hd3 hm' hk3⟩
      refine wpAny_bind (wpAny_holding (w_addHashed (s := { s with heap := h', toks := tk + 1 }) (o := setO d') (hk' r _ hrw hor) hd'.is (by have := hd'.len; omega) (fun hmm => ?_) fun hmm d3 h3 hd3 hsb3 ho3 => ?_))
      · exact done h' d' S' hst' (hk' a o haw ho) (hk' r _ hrw hor) hd' (fun y => ⟨.inl, fun q => q.elim (fun z => z) fun e => e ▸ hmm⟩) (fun b ob hb _ e => hk' b ob hb e)
      · refine done h3 d3 (x :: S') (W.frame _ _ _ hst' fun b hb ob e => ?_) ((hsb3.2 a har).trans (hk' a o haw ho)) ho3 ⟨hd3, fun y hy => ?_⟩ (fun y => by rw [List.mem_cons, or_comm]) (fun b ob hb hbr e => (hsb3.2 b hbr).trans (hk' b ob hb e))
        · exact (hsb3.2 b (fun e => hrf (e ▸ hb))).trans e
        · rcases List.mem_cons.mp hy with rfl | hy
          · exact hI.r _ hxS
          · exact hd'.r y hy
    · refine wp_if_false (by simp [hxS]) ?_
      refine wpAny_pure ⟨plainId_quiet plain_interLoop _, goon h' (tk + 1) d' S' hst' (hk' a o haw ho) (hk' r _ hrw hor) hd' (fun y => ?_) (fun b ob hb _ e => hk' b ob hb e)⟩
      rw [← hm y, hd, List.mem_cons]
      constructor
      · rintro (q | ⟨q, q'⟩)
        · exact .inl q
        · exact .inr ⟨q, .inr q'⟩
      · rintro (q | ⟨q, q' | q'⟩)
        · exact .inl q
        · exact absurd (q' ▸ q) hxS
        · exact .inr ⟨q, q'⟩

/-- intersection with a list -/
theorem w_inter_list {id : String} {l : Addr} {xs : List Int} {Q : Value → Shared → Prop} (C : Cx w s.heap) (hh : A.handled = none) (hl : LI s.heap l xs) (ho : s.heap.get? a = some o) (hc : SetLike o) (hI : IS10 w o.data S) (hal : a ≠ l)
    (h : ∀ S', (∀ x, x ∈ S' ↔ x ∈ S ∧ x ∈ xs) → NewS w s S' Q) : wpAny (model P0 w) A (Builtin.Frozenset.intersection id a (.ref l)) Q E s := by
  obtain ⟨vs, hL, hi⟩ := _root_.id hl
  obtain ⟨ol, hol, _⟩ := _root_.id hL
  unfold Builtin.Frozenset.intersection
  rw [if_neg (by simpa using fun e => hal e.symm)]
  refine wpAny_bind (w_baseOf C ho hc (wpAny_bind (w_newSet' (wpAny_bind (wpAny_pure (wpAny_bind (wpAny_holding ?_)))))))
  refine wpAny_bind (w_isAnySet (hL.push _).typeIs F.sub_list_set F.sub_list_frozenset ?_)
  rw [if_neg (by decide)]
  refine wpAny_bind (wpAny_pyIter_list (s := { s with heap := s.heap.push (setO (freshD w)) }) (hL.push _) ?_)
  dsimp only
  refine wpAny_bind (wpAny_runValue ?_)
  have hsz : (s.heap.push (setO (freshD w))).objs.size = s.heap.objs.size + 1 := Heap.size_push ..
  rw [hsz]
  have hlt := Heap.lt_size hol
  have hat := Heap.lt_size ho
  have hne : l ≠ s.heap.objs.size + 1 := Nat.ne_of_lt (Nat.lt_succ_of_lt hlt)
  have hl0 : s.heap.objs.size ≠ l := Ne.symm (Nat.ne_of_lt hlt)
  have ha0 : a ≠ s.heap.objs.size := Nat.ne_of_lt hat
  have ha1 : a ≠ s.heap.objs.size + 1 := Nat.ne_of_lt (Nat.lt_succ_of_lt hat)
  have W := Walks.list (prog := P0) (w := w) (A := A.in1) (by exact hh) (s.heap.objs.size + 1) l hne vs.toArray
  have hlen : vs.length = xs.length := IntsAre.length hi
  refine w_interLoop (a := a) (o := o) (S := S) W (by simp [hal, ha1]) (by simp [hl0]) ha0 (xs := xs) (by simp [hlen]) (intsAt hi) vs.toArray.size 0 _ (freshD w) [] (by omega) (Nat.zero_le _)
    ⟨⟨_, by rw [← hsz]; exact Heap.get?_push_size _ rfl, rfl, rfl⟩, (hL.push _).push _⟩ (Heap.get?_push_of_some _ (Heap.get?_push_of_some _ ho)) hI (Heap.get?_push_of_some _ (Heap.get?_push_size _ rfl)) (fresh_is w) (by simp) fun d' S' h' tk hd' hp hk ho' => ?_
  refine wpAny_pure (wpAny_pure (h S' hp _ d' h' tk (fresh_none _) (fun b ob e => hk b ob ?_ (Nat.ne_of_lt (Heap.lt_size e)) (Heap.get?_push_of_some _ (Heap.get?_push_of_some _ e))) ho' hd'))
  simp only [List.mem_singleton]
  exact Nat.ne_of_lt (Nat.lt_succ_of_lt (Heap.lt_size e))
end
end Mine
end
section
open PySem PySem.W PySem.Calls PyProof.Rows
set_option maxRecDepth 100000
set_option autoImplicit false
set_option linter.unusedVariables false
set_option linter.unusedSectionVars false
namespace Mine
/-! StopIteration, said once: what is made, how it is raised (also while another is handled), how pyNext takes it; the step of the iterators of lists and tuples -/
/-- an alias in the table, by the tree of its entries -/
theorem entry_like {id id' : String} {b : Builtin} (h1 : entriesT.find (code id) = none) (h2 : id.cutAt '#' = [id])
    (h3 : Manifest.canonical (String.map (fun c => if (c.isAlphanum || c == '_' || c == '.') = true then c else '_') id) ++ "" = id') (h4 : entriesT.find (code id') = some b) : entryFor table id = some b :=
  entryFor_alias (by rw [fastTable_eq_tree]; exact h1) h2 h3 (by rw [fastTable_eq_tree]; exact h4)
theorem mapF_eq {o : Obj} {vs : Array Value} (hd : o.data = .fields vs) (f : Array Value → Array Value) : Obj.mapFields f o = { o with data := .fields (f vs) } := by
  obtain ⟨c, d, dt, sl⟩ := o
  simp only at hd
  subst hd
  rfl
/-- what is handled may be made the context of a new exception -/
noncomputable def HdOK (A : Around) (h : Heap) : Prop := A.handled = none ∨ ∃ x o vs, A.handled = some (.ref x) ∧ h.get? x = some o ∧ o.data = .fields vs ∧ vs[2]? = some .none
theorem HdOK.keeps {A : Around} {h h' : Heap} (x : HdOK A h) (k : ∀ a o, A.handled = some (.ref a) → h.get? a = some o → h'.get? a = some o) : HdOK A h' := by
  rcases x with x | ⟨x, o, vs, hh, ho, hd, h2⟩
  · exact .inl x
  · exact .inr ⟨x, o, vs, hh, k x o hh ho, hd, h2⟩
/-- a StopIteration that bears no value stands at a -/
noncomputable def StopAt (h : Heap) (a : Addr) : Prop := ∃ o vs, h.get? a = some o ∧ o.cls = .type "StopIteration" ∧ o.data = .fields vs ∧ vs[5]? = some .none
theorem StopAt.typeIs {s : Shared} {a : Addr} (x : StopAt s.heap a) : s.TypeIs (.ref a) "StopIteration" := let ⟨o, _, ho, hc, _⟩ := x; ⟨o, ho, hc⟩
theorem entry_unchain : entryFor table "proto.unchain" = some Builtin.«proto.unchain» := entryFor_of_tree (by kernel_rfl)
section
variable {w : World} {A : Around} {E : Value → Shared → Prop} {s : Shared}
theorem w_updateField {a : Addr} {o : Obj} {vs : Array Value} {i : Nat} {v : Value} {Q : Unit → Shared → Prop} (ho : s.heap.get? a = some o) (hd : o.data = .fields vs) (hi : i < vs.size)
    (h : Q () { s with heap := s.heap.update a (Obj.mapFields (·.setIfInBounds i v)) }) : wpAny (model P0 w) A (updateField a i v) Q E s := by
  unfold updateField
  refine wpAny_bind (wpAny_load ho ?_)
  rw [hd]
  dsimp only
  rw [if_pos hi]
  exact wpAny_update ho h
theorem w_raiseNew {α : Type} {a : Addr} {o : Obj} {vs : Array Value} {Q : α → Shared → Prop} (hh : HdOK A s.heap) (ho : s.heap.get? a = some o) (hd : o.data = .fields vs) (hi : 2 < vs.size)
    (h : ∀ h', Heap.SameBut a s.heap h' → (∃ o' vs', h'.get? a = some o' ∧ o'.cls = o.cls ∧ o'.data = .fields vs' ∧ ∀ j, j ≠ 2 → vs'[j]? = vs[j]?) → E (.ref a) { s with heap := h' }) : wpAny (model P0 w) A (raiseNew (.ref a) : Sem α) Q E s := by
  have same := h _ (.refl ..) ⟨o, vs, ho, rfl, hd, fun _ _ => rfl⟩
  unfold raiseNew
  refine wpAny_bind (wpAny_handled ?_)
  rcases hh with hh | ⟨x, ox, vx, hh, hox, hdx, h2⟩
  · rw [hh]
    exact wpAny_bind (wpAny_pure (wpAny_throw same))
  · rw [hh]
    dsimp only
    split
    · refine wpAny_bind (wpAny_holding (wpAny_runValue (codeAny_builtin entry_unchain ?_)))
      unfold Builtin.«proto.unchain»
      dsimp only
      refine wpAny_bind (wpAny_field hox hdx h2 ?_)
      refine wp_if_true rfl ?_
      refine wpAny_bind (wpAny_pure (wpAny_pure ?_))
      dsimp only
      have e1 : Obj.mapFields (·.setIfInBounds 2 (Value.ref x)) o = { o with data := .fields (vs.setIfInBounds 2 (.ref x)) } := mapF_eq hd _
      refine wpAny_bind (w_updateField ho hd hi (wpAny_throw (h _ (Heap.SameBut.update ..) ⟨_, vs.setIfInBounds 2 (.ref x), Heap.get?_update_self (Obj.mapFields (·.setIfInBounds 2 (Value.ref x))) ho (by rw [e1]; rfl), by rw [e1], by rw [e1], fun j hj => Array.getElem?_setIfInBounds_ne (Ne.symm hj)⟩)))
    · exact wpAny_throw same
/-- a StopIteration without a value is made and raised -/
theorem w_stop {α : Type} {Q : α → Shared → Prop} (hh : HdOK A s.heap) (h : ∀ h' a, Keeps s.heap h' → StopAt h' a → E (.ref a) { s with heap := h' }) :
    wpAny (model P0 w) A (newExc (.type "StopIteration") [] >>= fun e => (raiseNew e : Sem α)) Q E s := by
  have nofirst : firstArgMember (.type "StopIteration") [] = pure Value.none := by
    exact congrArg (pure : Value → Sem Value) (ite_self _)
  refine wpAny_bind ?_
  unfold newExc newTuple
  refine wpAny_bind (wpAny_newObj_type (wpAny_bind (wpAny_of_eq nofirst (wpAny_newObj_type ?_ (by size_fits)))) (by size_fits))
  refine w_raiseNew (hh.keeps fun a o _ e => Heap.get?_push_of_some _ (Heap.get?_push_of_some _ e)) (Heap.get?_push_size _ rfl) rfl (show 2 < 6 by decide) fun h' hs ⟨o, vs, ho, hc, hd, hv⟩ => h h' _ (fun b o' e => ?_) ⟨o, vs, ho, hc, hd, (hv 5 (by decide)).trans rfl⟩
  refine (hs.2 b (Nat.ne_of_lt (Nat.lt_trans (Heap.lt_size e) ?_))).trans (Heap.get?_push_of_some _ (Heap.get?_push_of_some _ e))
  simp
/-- the next item: what the slot hands out, or nothing when it ends by StopIteration -/
theorem w_pyNext {it : Value} {Q : Option Value → Shared → Prop} (h : wpAny (model P0 w) A (callSpecial? it "__next__") (fun r s₁ => ∃ v, r = some v ∧ Q (some v) s₁)
      (fun e s₁ => wpAny (model P0 w) A (isInstance e (.type "StopIteration")) (fun b s₂ => (b = true ∧ Q none s₂) ∨ (b = false ∧ E e s₂)) E s₁) s) :
    wpAny (model P0 w) A (pyNext it) Q E s := by
  unfold pyNext
  refine wpAny_bind (wpAny_attempt (wpAny_mono h (fun r s₁ h₁ => ?_) fun e s₁ h₁ => ?_))
  · obtain ⟨v, rfl, hq⟩ := h₁
    exact wpAny_pure hq
  · refine wpAny_bind (wpAny_mono h₁ (fun b s₂ h₂ => ?_) fun _ _ x => x)
    rcases h₂ with ⟨rfl, hq⟩ | ⟨rfl, hq⟩
    · exact wpAny_pure hq
    · exact wpAny_throw hq
theorem StopAt.ends {a : Addr} {Q : Option Value → Shared → Prop} (x : StopAt s.heap a) (h : Q none s) : wpAny (model P0 w) A (isInstance (.ref a) (.type "StopIteration")) (fun b s₂ => (b = true ∧ Q none s₂) ∨ (b = false ∧ E (.ref a) s₂)) E s :=
  wpAny_isInstance x.typeIs isSubtype_stop (.inl ⟨rfl, h⟩)
/-- the step of an iterator that goes up: its two fields are what it walks and the place -/
theorem w_rising {b : Builtin} (hb : b = Builtin.«list_iterator.__next__» ∨ b = Builtin.«tuple_iterator.__next__») {it l : Addr} {i : Nat} {o ol : Obj} {items : Array Value} {nl : Nat} {Q : Fin → Shared → Prop}
    (ho : s.heap.get? it = some o) (hd : o.data = .fields #[.ref l, .int i 0]) (hol : s.heap.get? l = some ol) (hdl : ol.data = .seq items nl)
    (hitem : ∀ x, items[i]? = some x → ∀ h' o', Heap.SameBut it s.heap h' → h'.get? it = some o' → o'.cls = o.cls → o'.data = .fields #[.ref l, .int ((i + 1 : Nat) : Int) 0] → Q (.done (.ret x)) { s with heap := h' })
    (hend : items[i]? = none → HdOK A s.heap ∧ A.handled ≠ some (.ref it) ∧ ∀ h' a, Heap.ExtBut it s.heap h' → (∃ oi, h'.get? it = some oi) → StopAt h' a → E (.ref a) { s with heap := h' }) :
    wpAny (model P0 w) A (b ⟨[.ref it], []⟩) Q E s := by
  have hset : ∀ j v, (s.heap.update it (Obj.mapFields (·.setIfInBounds j v))).get? it = some { o with data := .fields ((#[Value.ref l, .int i 0] : Array Value).setIfInBounds j v) } := fun j v => by
    have e := Heap.get?_update_self (Obj.mapFields (·.setIfInBounds j v)) ho (by rw [mapF_eq hd]; rfl)
    rw [mapF_eq hd] at e; exact e
  cases hx : items[i]? with
  | some x =>
    have hQ := hitem x hx _ _ (Heap.SameBut.update ..) (hset 1 (rawInt ((i : Int) + 1))) rfl (by simp [rawInt])
    rcases hb with rfl | rfl
    all_goals
      refine wpAny_bind (m := field (.ref it) 0) (wpAny_field ho hd (x := .ref l) rfl ?_)
      refine wp_if_false (c := Value.ref l == Value.none) rfl ?_
      refine wpAny_bind (m := field (.ref it) 1) (wpAny_field ho hd (x := .int i 0) rfl ?_)
      refine wpAny_bind (m := seqItems? (.ref l)) (wpAny_seqItems hol hdl ?_)
      simp only [Int.toNat_natCast, hx]
      exact wpAny_bind (wpAny_setField ho hd (by simp) (wpAny_pure hQ))
  | none =>
    obtain ⟨hh, hne, hE⟩ := hend hx
    have hh' : HdOK A (s.heap.update it (Obj.mapFields (·.setIfInBounds 0 .none))) := hh.keeps fun a oa ea e => ((Heap.SameBut.update _ _ _).2 a (fun q => hne (by rw [ea, q]))).trans e
    have last : ∀ {Q : Fin → Shared → Prop}, wpAny (model P0 w) A (newExc (.type "StopIteration") [] >>= fun e => (raiseNew e : Sem Fin)) Q E { s with heap := s.heap.update it (Obj.mapFields (·.setIfInBounds 0 .none)) } :=
      fun {Q} => w_stop hh' fun h' a k st => hE h' a (fun b ob hb e => k b ob (((Heap.SameBut.update _ _ _).2 b hb).trans e)) ⟨_, k it _ (hset 0 .none)⟩ st
    rcases hb with rfl | rfl
    all_goals
      refine wpAny_bind (m := field (.ref it) 0) (wpAny_field ho hd (x := .ref l) rfl ?_)
      refine wp_if_false (c := Value.ref l == Value.none) rfl ?_
      refine wpAny_bind (m := field (.ref it) 1) (wpAny_field ho hd (x := .int i 0) rfl ?_)
      refine wpAny_bind (m := seqItems? (.ref l)) (wpAny_seqItems hol hdl ?_)
      simp only [Int.toNat_natCast, hx]
      exact wpAny_bind (wpAny_rule (wpAny_bind (wpAny_setField ho hd (by simp) last)))
end
end Mine
end
section
open PySem PySem.W PySem.Calls PyProof.Rows
set_option maxRecDepth 100000
set_option autoImplicit false
set_option linter.unusedVariables false
set_option linter.unusedSectionVars false
namespace Mine
section
variable {w : World} {A : Around} {E : Value → Shared → Prop} {s : Shared} {a b : Addr} {o ob : Obj} {S R : List Int} {k : Int} {tk : Tok}

theorem w_fwalkUnseen {es esb : Ents} {ep epb : Nat} {t tb : SetTable} {Q : List (Int × Value) → Shared → Prop} (ho : s.heap.get? a = some o) (hd : o.data = .set es ep t) (hf : t.fits es.size = true) (hi : ∀ e ∈ es.toList, IEnt e)
    (hob : s.heap.get? b = some ob) (hdb : ob.data = .set esb epb tb) (hfb : tb.fits esb.size = true) (hib : ∀ e ∈ esb.toList, IEnt e) (h : Q es.toList s) : wpAny (model P0 w) A (Builtin.Frozenset.walkUnseen a b) Q E s := by
  unfold Builtin.Frozenset.walkUnseen setEntries
  refine wpAny_bind (wpAny_bind (wpAny_setState_of ho hd hf (wpAny_pure ?_)))
  refine wpAny_bind (wpAny_bind (wpAny_setState_of hob hdb hfb (wpAny_pure ?_)))
  refine wpAny_bind (w_forL (fun rem bb s' => s' = s ∧ bb.1 = none ∧ ∀ e ∈ rem, IEnt e) ?_ ?_ _ _ _ ⟨rfl, rfl, fun e he => (List.mem_append.mp he).elim (hi e) (hib e)⟩)
  · rintro ⟨_, _⟩ r ⟨_, _⟩ s' ⟨rfl, _, hr⟩
    obtain ⟨k, tk, e⟩ := hr _ (.head _)
    cases e
    exact wpAny_bind (wpAny_pure (wpAny_pure ⟨rfl, rfl, fun e he => hr e (.tail _ he)⟩))
  · rintro ⟨_, _⟩ s' ⟨rfl, e, _⟩
    cases e
    exact wpAny_pure h

/-- isdisjoint of two sets -/
theorem w_isdisjoint {Q : Value → Shared → Prop} (ho : s.heap.get? a = some o) (hI : IS10 w o.data S) (hob : s.heap.get? b = some (setO ob.data)) (hR : IS10 w ob.data R) (hab : a ≠ b)
    (h : Q (.bool (decide (∀ x ∈ S, x ∉ R))) s) : wpAny (model P0 w) A (Builtin.«frozenset.isdisjoint» ⟨[.ref a, .ref b], []⟩) (fun fin s' => ∃ v, fin = .done (.ret v) ∧ Q v s') E s := by
  have hT : s.TypeIs (.ref b) "set" := ⟨_, hob, rfl⟩
  obtain ⟨⟨es, ep, t, hd, hs, hi, hp, hnd⟩, hr⟩ := _root_.id hI
  obtain ⟨⟨esb, epb, tb, hdb, hsb, hib, hpb, hndb⟩, hrb⟩ := _root_.id hR
  have hdb' : (setO ob.data).data = .set esb epb tb := hdb
  have hle := hI.len
  have hleR := hR.len
  unfold Builtin.«frozenset.isdisjoint» Builtin.Frozenset.oneOther
  simp only [List.isEmpty_nil, bind_assoc]
  refine wpAny_bind (wpAny_pure (wpAny_bind (wpAny_pure ?_)))
  rw [if_neg (by simpa using fun e => hab e.symm)]
  refine wpAny_bind (wpAny_typeOf hT ?_)
  refine wp_if_true (by decide) ?_
  refine wpAny_bind (wpAny_pure ?_)
  refine wpAny_bind (w_size (o := setO ob.data) hob hR ?_)
  refine wpAny_bind (w_size ho hI ?_)
  split
  · have hob' := hob
    dsimp only
    refine wpAny_bind (w_epoch ho hd hs.fits ?_)
    refine wpAny_bind (w_fwalkUnseen ho hd hs.fits hi hob' hdb' hsb.fits hib ?_)
    refine wpAny_bind (w_forL (fun rem bb s' => s' = s ∧ bb.1 = none ∧ (∀ e ∈ rem, IEnt e ∧ ekey e ∈ S) ∧ (∀ x ∈ S, x ∈ rem.map ekey ∨ x ∉ R)) ?_ ?_ _ _ _ ⟨rfl, rfl, fun e he => ⟨hi e he, hp.mem_iff.mp (List.mem_map.mpr ⟨e, he, rfl⟩)⟩, fun x hx => .inl (hp.mem_iff.mpr hx)⟩)
    · rintro ⟨_, _⟩ r ⟨_, _⟩ s' ⟨rfl, _, hr, hrem⟩
      obtain ⟨⟨k, tk, e⟩, hkS⟩ := hr _ (.head _)
      cases e
      refine wpAny_bind (wpAny_holding (w_setFind (o := setO ob.data) hob' hR.is (by show _ < 4096; omega) fun rr hrr => ?_))
      rw [hrr]
      by_cases hkR : k ∈ R
      · refine wp_if_true (by simp [hkR]) ?_
        refine wpAny_bind (wpAny_pure (wpAny_pure ?_))
        have : decide (∀ x ∈ S, x ∉ R) = false := decide_eq_false fun hh => hh k hkS hkR
        rw [this] at h
        exact wpAny_pure ⟨_, rfl, h⟩
      · refine wp_if_false (by simp [hkR]) ?_
        refine wpAny_bind (w_unchanged ho hd hs.fits (wpAny_pure ⟨rfl, rfl, fun e he => hr e (.tail _ he), fun x hx => ?_⟩))
        rcases hrem x hx with q | q
        · rcases List.mem_cons.mp q with q | q
          · exact .inr (by rw [q]; exact hkR)
          · exact .inl q
        · exact .inr q
    · rintro ⟨_, _⟩ s' ⟨rfl, e, _, hrem⟩
      cases e
      have : decide (∀ x ∈ S, x ∉ R) = true := decide_eq_true fun x hx => (hrem x hx).elim (fun q => by cases q) fun q => q
      rw [this] at h
      exact wpAny_pure ⟨_, rfl, h⟩
  · have e : decide (∀ x ∈ S, x ∉ R) = decide (∀ x ∈ R, x ∉ S) := decide_eq_decide.mpr ⟨fun hh x hx hs => hh x hs hx, fun hh x hx hs => hh x hs hx⟩
    rw [e] at h
    have hob' := hob
    dsimp only
    refine wpAny_bind (w_epoch hob' hdb' hsb.fits ?_)
    refine wpAny_bind (w_fwalkUnseen hob' hdb' hsb.fits hib ho hd hs.fits hi ?_)
    refine wpAny_bind (w_forL (fun rem bb s' => s' = s ∧ bb.1 = none ∧ (∀ e ∈ rem, IEnt e ∧ ekey e ∈ R) ∧ (∀ x ∈ R, x ∈ rem.map ekey ∨ x ∉ S)) ?_ ?_ _ _ _ ⟨rfl, rfl, fun e he => ⟨hib e he, hpb.mem_iff.mp (List.mem_map.mpr ⟨e, he, rfl⟩)⟩, fun x hx => .inl (hpb.mem_iff.mpr hx)⟩)
    · rintro ⟨_, _⟩ r ⟨_, _⟩ s' ⟨rfl, _, hr, hrem⟩
      obtain ⟨⟨k, tk, e⟩, hkS⟩ := hr _ (.head _)
      cases e
      refine wpAny_bind (wpAny_holding (w_setFind ho hI.is (by show _ < 4096; omega) fun rr hrr => ?_))
      rw [hrr]
      by_cases hkR : k ∈ S
      · refine wp_if_true (by simp [hkR]) ?_
        refine wpAny_bind (wpAny_pure (wpAny_pure ?_))
        have : decide (∀ x ∈ R, x ∉ S) = false := decide_eq_false fun hh => hh k hkS hkR
        rw [this] at h
        exact wpAny_pure ⟨_, rfl, h⟩
      · refine wp_if_false (by simp [hkR]) ?_
        refine wpAny_bind (w_unchanged hob' hdb' hsb.fits (wpAny_pure ⟨rfl, rfl, fun e he => hr e (.tail _ he), fun x hx => ?_⟩))
        rcases hrem x hx with q | q
        · rcases List.mem_cons.mp q with q | q
          · exact .inr (by rw [q]; exact hkR)
          · exact .inl q
        · exact .inr q
    · rintro ⟨_, _⟩ s' ⟨rfl, e, _, hrem⟩
      cases e
      have : decide (∀ x ∈ R, x ∉ S) = true := decide_eq_true fun x hx => (hrem x hx).elim (fun q => by cases q) fun q => q
      rw [this] at h
      exact wpAny_pure ⟨_, rfl, h⟩

theorem w_subset {id : String} {Q : Bool → Shared → Prop} (ho : s.heap.get? a = some o) (hI : IS10 w o.data S) (hob : s.heap.get? b = some ob) (hR : IS10 w ob.data R)
    (h : Q (decide (∀ x ∈ S, x ∈ R)) s) : wpAny (model P0 w) A (Builtin.Frozenset.subsetOf id a b) Q E s := by
  obtain ⟨⟨es, ep, t, hd, hs, hi, hp, hnd⟩, hr⟩ := _root_.id hI
  obtain ⟨⟨esb, epb, tb, hdb, hsb, hib, hpb, hndb⟩, hrb⟩ := _root_.id hR
  have hleR := hR.len
  unfold Builtin.Frozenset.subsetOf
  refine wpAny_bind (w_size ho hI ?_)
  refine wpAny_bind (w_size hob hR ?_)
  split
  · rename_i hgt
    have : decide (∀ x ∈ S, x ∈ R) = false := decide_eq_false fun hh => by have := nodup_len hI.nodup hh; omega
    rw [this] at h
    exact wpAny_pure h
  refine wpAny_bind (w_epoch ho hd hs.fits ?_)
  refine wpAny_bind (w_fwalkUnseen ho hd hs.fits hi hob hdb hsb.fits hib ?_)
  refine wpAny_bind (w_forL (fun rem bb s' => s' = s ∧ bb.1 = none ∧ (∀ e ∈ rem, IEnt e ∧ ekey e ∈ S) ∧ (∀ x ∈ S, x ∈ rem.map ekey ∨ x ∈ R)) ?_ ?_ _ _ _ ⟨rfl, rfl, fun e he => ⟨hi e he, hp.mem_iff.mp (List.mem_map.mpr ⟨e, he, rfl⟩)⟩, fun x hx => .inl (hp.mem_iff.mpr hx)⟩)
  · rintro ⟨_, _⟩ r ⟨_, _⟩ s' ⟨rfl, _, hr, hrem⟩
    obtain ⟨⟨k, tk, e⟩, hkS⟩ := hr _ (.head _)
    cases e
    refine wpAny_bind (wpAny_holding (w_setFind hob hR.is (by show _ < 4096; omega) fun rr hrr => ?_))
    have hn : rr.isNone = !decide (k ∈ R) := by rw [← hrr]; cases rr <;> rfl
    rw [hn]
    by_cases hkR : k ∈ R
    · refine wp_if_false (by simp [hkR]) ?_
      refine wpAny_bind (w_unchanged ho hd hs.fits (wpAny_pure ⟨rfl, rfl, fun e he => hr e (.tail _ he), fun x hx => ?_⟩))
      rcases hrem x hx with q | q
      · rcases List.mem_cons.mp q with q | q
        · exact .inr (by rw [q]; exact hkR)
        · exact .inl q
      · exact .inr q
    · refine wp_if_true (by simp [hkR]) (wpAny_pure ?_)
      have : decide (∀ x ∈ S, x ∈ R) = false := decide_eq_false fun hh => hkR (hh k hkS)
      rw [this] at h
      exact wpAny_pure h
  · rintro ⟨_, _⟩ s' ⟨rfl, e, _, hrem⟩
    cases e
    have : decide (∀ x ∈ S, x ∈ R) = true := decide_eq_true fun x hx => (hrem x hx).elim (fun q => by cases q) fun q => q
    rw [this] at h
    exact wpAny_pure h

theorem sub_both (hI : S.Nodup) (hR : R.Nodup) (hl : S.length = R.length) : (∀ x ∈ S, x ∈ R) ↔ (∀ x, x ∈ S ↔ x ∈ R) :=
  ⟨fun h x => ⟨h x, fun hx => sub_len_eq hI hR h (Nat.le_of_eq hl.symm) x hx⟩, fun h x => (h x).mp⟩
theorem len_of_iff (hI : S.Nodup) (hR : R.Nodup) (h : ∀ x, x ∈ S ↔ x ∈ R) : S.length = R.length :=
  Nat.le_antisymm (nodup_len hI fun x => (h x).mp) (nodup_len hR fun x => (h x).mpr)

theorem entry_set_eq : entryFor table "set.__eq__" = some Builtin.«frozenset.__eq__» := entry_like (id' := "frozenset.__eq__") (by kernel_rfl) rfl (by decide +kernel) (by kernel_rfl)
theorem entry_set_ne : entryFor table "set.__ne__" = some Builtin.«frozenset.__ne__» := entry_like (id' := "frozenset.__ne__") (by kernel_rfl) rfl (by decide +kernel) (by kernel_rfl)

theorem k_set_eq {Q : Value → Shared → Prop} (ho : s.heap.get? a = some (setO o.data)) (hI : IS10 w o.data S) (hob : s.heap.get? b = some (setO ob.data)) (hR : IS10 w ob.data R)
    (h : ∀ b, (b = true ↔ ∀ x, x ∈ S ↔ x ∈ R) → Q (.bool b) s) (hu : A.units < cLine) : wpAny (model P0 w) A (compareOp .Eq (.ref a) (.ref b)) Q E s := by
  have hTa : s.TypeIs (.ref a) "set" := ⟨_, ho, rfl⟩
  have hTb : s.TypeIs (.ref b) "set" := ⟨_, hob, rfl⟩
  show wpAny _ _ (richCompare .Eq (.ref a) (.ref b)) _ _ _
  refine wpAny_richCompare_same_room hTa hTb F.slot_set_eq ?_ hu
  refine wpAny_call_entry F.slot_set_eq hTa entry_set_eq ?_ (F.args_set_eq_2 _ _)
  refine wpAny_bind (wpAny_of_eq (a := (Value.ref a, Value.ref b)) rfl ?_)
  dsimp only
  refine wpAny_bind (w_isAnySet hTb F.sub_set_set (b2 := false) F.sub_set_frozenset ?_)
  refine wp_if_false rfl ?_
  refine wpAny_bind (wpAny_pure (wpAny_bind (wpAny_pure ?_)))
  refine wpAny_bind (w_size (o := setO o.data) ho hI ?_)
  refine wpAny_bind (w_size (o := setO ob.data) hob hR ?_)
  by_cases hl : S.length = R.length
  · refine wpAny_bind (wp_if_false (by simp [hl]) ?_)
    refine wpAny_bind ?_
    unfold andM
    refine wpAny_bind (wpAny_isInstance hTa F.sub_set_frozenset (wpAny_pure ?_))
    refine wp_if_false rfl ?_
    refine w_subset (o := setO o.data) (ob := setO ob.data) ho hI hob hR ?_
    exact wpAny_pure ⟨_, rfl, (by intro e; cases e), h _ (by rw [decide_eq_true_eq]; exact sub_both hI.nodup hR.nodup hl)⟩
  · refine wpAny_bind (wp_if_true (by simp [hl]) (wpAny_pure ?_))
    exact wpAny_pure ⟨_, rfl, (by intro e; cases e), h false ⟨fun e => (nomatch e), fun e => absurd (len_of_iff hI.nodup hR.nodup e) hl⟩⟩
theorem k_set_ne {Q : Value → Shared → Prop} (ho : s.heap.get? a = some (setO o.data)) (hI : IS10 w o.data S) (hob : s.heap.get? b = some (setO ob.data)) (hR : IS10 w ob.data R)
    (h : ∀ b, (b = true ↔ ∀ x, x ∈ S ↔ x ∈ R) → Q (.bool (!b)) s) (hu : A.units < cLine) : wpAny (model P0 w) A (compareOp .NotEq (.ref a) (.ref b)) Q E s := by
  have hTa : s.TypeIs (.ref a) "set" := ⟨_, ho, rfl⟩
  have hTb : s.TypeIs (.ref b) "set" := ⟨_, hob, rfl⟩
  show wpAny _ _ (richCompare .NotEq (.ref a) (.ref b)) _ _ _
  refine wpAny_richCompare_same_room hTa hTb F.slot_set_ne ?_ hu
  refine wpAny_call_entry F.slot_set_ne hTa entry_set_ne ?_ (F.args_set_ne_2 _ _)
  refine wpAny_bind (wpAny_of_eq (a := (Value.ref a, Value.ref b)) rfl ?_)
  dsimp only
  refine wpAny_bind (w_isAnySet hTb F.sub_set_set (b2 := false) F.sub_set_frozenset ?_)
  refine wp_if_false rfl ?_
  refine wpAny_bind (wpAny_pure (wpAny_bind (wpAny_pure ?_)))
  refine wpAny_bind (w_size (o := setO o.data) ho hI ?_)
  refine wpAny_bind (w_size (o := setO ob.data) hob hR ?_)
  by_cases hl : S.length = R.length
  · refine wpAny_bind (wp_if_false (by simp [hl]) ?_)
    refine wpAny_bind ?_
    unfold andM
    refine wpAny_bind (wpAny_isInstance hTa F.sub_set_frozenset (wpAny_pure ?_))
    refine wp_if_false rfl ?_
    refine w_subset (o := setO o.data) (ob := setO ob.data) ho hI hob hR ?_
    exact wpAny_pure ⟨_, rfl, (by intro e; cases e), h _ (by rw [decide_eq_true_eq]; exact sub_both hI.nodup hR.nodup hl)⟩
  · refine wpAny_bind (wp_if_true (by simp [hl]) (wpAny_pure ?_))
    exact wpAny_pure ⟨_, rfl, (by intro e; cases e), h false ⟨fun e => (nomatch e), fun e => absurd (len_of_iff hI.nodup hR.nodup e) hl⟩⟩
end
end Mine
end
section
open PySem PySem.W PySem.Calls PyProof.Rows
set_option maxRecDepth 100000
set_option autoImplicit false
set_option linter.unusedVariables false
set_option linter.unusedSectionVars false
namespace Mine
theorem slot_si_next : Slot "set_iterator" "__next__" "set_iterator.__next__" :=
  .of (owner := "set_iterator") (n := "__next__") (by rw [typeLookup_type, builtinLookup_eq_fast]; kernel_rfl) (by decide +kernel) (by decide +kernel) (by decide +kernel)
    (by first | exact .inl (by decide +kernel) | exact .inr (by decide +kernel)) (by rw [isSubtype_type]; kernel_rfl)
theorem slot_si_iter : Slot "set_iterator" "__iter__" "set_iterator.__iter__" :=
  .of (owner := "set_iterator") (n := "__iter__") (by rw [typeLookup_type, builtinLookup_eq_fast]; kernel_rfl) (by decide +kernel) (by decide +kernel) (by decide +kernel)
    (by first | exact .inl (by decide +kernel) | exact .inr (by decide +kernel)) (by rw [isSubtype_type]; kernel_rfl)
theorem entry_si_next : entryFor table "set_iterator.__next__" = some Builtin.«set_iterator.__next__» := entryFor_of_tree (by kernel_rfl)
theorem entry_si_iter : entryFor table "set_iterator.__iter__" = some Builtin.«dict_keyiterator.__iter__» := entry_like (id' := "dict_keyiterator.__iter__") (by kernel_rfl) rfl (by decide +kernel) (by kernel_rfl)
theorem entry_set_iter : entryFor table "set.__iter__" = some Builtin.«frozenset.__iter__» := entry_like (id' := "frozenset.__iter__") (by kernel_rfl) rfl (by decide +kernel) (by kernel_rfl)

noncomputable def slotAt (w : World) (t : SetTable) : Nat → Nat
  | 0 => 0
  | i + 1 => if byT w then 0 else t.place.getD i 0 + 1

theorem below_slot {w : World} {t : SetTable} {n : Nat} (T : TOK t) (hn : t.place.size = n) (hb : byT w = false) {i : Nat} (hi : i ≤ n) : SetTable.below t.place (slotAt w t i) = i := by
  have hr := T.ris
  obtain ⟨h1, h2, h3⟩ := below_spec t.place (slotAt w t i) hr
  have mono : ∀ x y (hx : x < t.place.size) (hy : y < t.place.size), x < y → t.place[x] < t.place[y] := fun x y hx hy hxy => by
    have := List.pairwise_iff_getElem.mp hr x y (by simpa using hx) (by simpa using hy) hxy
    simpa using this
  cases i with
  | zero =>
    apply Classical.byContradiction
    intro hne
    have h0 : 0 < SetTable.below t.place (slotAt w t 0) := by omega
    have := h2 0 (by omega) h0
    simp [slotAt] at this
  | succ i =>
    have hi' : i < t.place.size := by omega
    have hs : slotAt w t (i + 1) = t.place[i] + 1 := by
      simp only [slotAt, hb, Bool.false_eq_true, ↓reduceIte]
      rw [Array.getD, dif_pos hi']
      rfl
    rw [hs] at h1 h2 h3 ⊢
    apply Nat.le_antisymm
    · apply Classical.byContradiction
      intro hgt
      have hlt : i + 1 < SetTable.below t.place (t.place[i] + 1) := by omega
      have hsz : i + 1 < t.place.size := by omega
      have := h2 (i + 1) hsz hlt
      have := mono i (i + 1) hi' hsz (by omega)
      omega
    · apply Classical.byContradiction
      intro hlt
      have := h3 i hi' (by omega)
      omega

section
variable {w : World} {A : Around} {E : Value → Shared → Prop} {s : Shared} {a b : Addr} {o ob : Obj} {S R : List Int} {k : Int} {tk : Tok}

theorem w_setNext {es : Ents} {ep : Nat} {t : SetTable} {i : Nat} {Q : Option (Value × Nat) → Shared → Prop} (ho : s.heap.get? a = some o) (hd : o.data = .set es ep t) (hs : SOK (byT w) es t) (hi : i ≤ es.size)
    (h : Q (((wOrd w a es ep)[i]?).map fun e => (e.2, slotAt w t (i + 1))) s) : wpAny (model P0 w) A (setNext a (slotAt w t i) i ep) Q E s := by
  unfold setNext
  refine wpAny_bind (wpAny_setState_of ho hd hs.fits ?_)
  dsimp only
  refine wpAny_bind (w_byText ?_)
  cases hb : byT w with
  | true =>
    simp only [↓reduceIte]
    refine wp_if_false (by simp) ?_
    refine wpAny_bind (w_walk0 ho hd hs.fits hs.pl hs.ld ?_)
    refine wpAny_pure ?_
    have e1 : slotAt w t i = 0 := by cases i <;> simp [slotAt, hb]
    have e2 : slotAt w t (i + 1) = 0 := by simp [slotAt, hb]
    rw [e1]; rw [e2] at h; exact h
  | false =>
    simp only [Bool.false_eq_true, ↓reduceIte]
    refine wp_if_false (by show (!t.plain && _) = false; rw [hs.pl]; rfl) ?_
    refine wpAny_bind ?_
    show wpAny _ _ (if (!t.led && !es.isEmpty) = true then (unsupported _ : Sem Unit) else pure ()) _ _ _
    refine wp_if_false (by rw [hs.ld, hb]; rfl) (wpAny_pure (wpAny_pure ?_))
    rw [below_slot hs.T hs.sz hb hi]
    have e : wOrd w a es ep = es := by unfold wOrd; rw [hb]; rfl
    rw [e] at h
    by_cases hlt : i < es.size
    · have hp : i < t.place.size := by rw [hs.sz]; exact hlt
      rw [Array.getElem?_eq_getElem hlt, Array.getElem?_eq_getElem hp]
      rw [Array.getElem?_eq_getElem hlt] at h
      have e2 : slotAt w t (i + 1) = t.place[i] + 1 := by
        simp only [slotAt, hb, Bool.false_eq_true, ↓reduceIte]
        rw [Array.getD, dif_pos hp]; rfl
      rw [e2] at h
      exact h
    · have hge : es.size ≤ i := Nat.le_of_not_lt hlt
      rw [Array.getElem?_eq_none hge]
      rw [Array.getElem?_eq_none hge] at h
      exact h

noncomputable def SetIt (h : Heap) (it a : Addr) (slot i n ep : Nat) : Prop := ∃ o, h.get? it = some o ∧ o.cls = .type "set_iterator" ∧ o.data = .fields #[.int slot 0, .int i 0, .ref a, .int n 0, .int ep 0]

theorem Walks.set (hh : A.handled = none) (it a : Addr) (hne : a ≠ it) {es : Ents} {ep : Nat} {t : SetTable} (hd : o.data = .set es ep t) (hs : SOK (byT w) es t) :
    Walks P0 w A it [it, a] [it] es.size (fun i v => ∃ e, (wOrd w a es ep)[i]? = some e ∧ v = e.2) (fun i h => SetIt h it a (slotAt w t i) i es.size ep ∧ h.get? a = some o) where
  sub := fun b hb => by simp at hb; simp [hb]
  frame := fun _ _ _ st hk => ⟨let ⟨oi, x, r⟩ := st.1; ⟨oi, hk it (by simp) _ x, r⟩, hk a (by simp) _ st.2⟩
  self := fun i s Q E st hQ => by
    obtain ⟨oi, hoi, hc, hdi⟩ := st.1
    have hT : s.TypeIs (.ref it) "set_iterator" := ⟨oi, hoi, hc⟩
    refine wpAny_pyIter_slot hT slot_si_iter (wpAny_call_entry slot_si_iter hT entry_si_iter ?_ (by unfold argsOk; kernel_rfl))
    show wpAny _ _ (ret (.ref it)) _ _ s
    exact wpAny_pure ⟨_, rfl, "set_iterator", _, hT, slot_si_next.lookup, hQ⟩
  item := fun i s Q E hi st hQ => by
    obtain ⟨⟨oi, hoi, hc, hdi⟩, hoa⟩ := st
    have hT : s.TypeIs (.ref it) "set_iterator" := ⟨oi, hoi, hc⟩
    refine w_pyNext (wpAny_callSpecial?_slot (name := Str.ofString "__next__") hT slot_si_next (wpAny_call_entry slot_si_next hT entry_si_next ?_ (by unfold argsOk; kernel_rfl)))
    show wpAny _ _ (fieldsOf (.ref it) >>= _) _ _ s
    refine wpAny_bind (wpAny_fieldsOf hoi hdi ?_)
    dsimp only
    unfold setEntries
    refine wpAny_bind (wpAny_bind (wpAny_setState_of hoa hd hs.fits (wpAny_pure ?_)))
    refine wp_if_false (by simp) ?_
    have hperm := (wOrd_perm w a es ep).length_eq
    have hlt : i < (wOrd w a es ep).size := by rw [Array.length_toList, Array.length_toList] at hperm; rw [hperm]; exact hi
    simp only [Int.toNat_natCast]
    refine wpAny_bind (w_setNext hoa hd hs (Nat.le_of_lt hi) ?_)
    rw [Array.getElem?_eq_getElem hlt]
    dsimp only [Option.map]
    refine wpAny_bind (wpAny_setField hoi hdi (by simp) ?_)
    have ho1 : (s.heap.update it (Obj.mapFields fun vs => vs.set! 0 (rawInt (slotAt w t (i + 1))))).get? it = some (Obj.mapFields (fun vs => vs.set! 0 (rawInt (slotAt w t (i + 1)))) oi) :=
      Heap.get?_update_self _ hoi (Obj.isFreed_of_fields (Obj.data_mapFields hdi _))
    refine wpAny_bind (wpAny_setField ho1 (Obj.data_mapFields hdi _) (by simp) ?_)
    refine wpAny_pure ⟨_, rfl, _, rfl, ?_⟩
    refine hQ _ _ s.toks ⟨_, Array.getElem?_eq_getElem hlt, rfl⟩ ⟨⟨_, Heap.get?_update_self _ ho1 (Obj.isFreed_of_fields (Obj.data_mapFields (Obj.data_mapFields hdi _) _)), ((Obj.cls_mapFields ..).trans (Obj.cls_mapFields ..)).trans hc, ?_⟩, ?_⟩ ?_
    · rw [Obj.data_mapFields (Obj.data_mapFields hdi _)]; simp [rawInt]
    · rw [(Heap.SameBut.update _ _ _).2 a hne, (Heap.SameBut.update _ _ _).2 a hne]; exact hoa
    · intro b ob hb e
      have hb' : b ≠ it := fun e => hb (by simp [e])
      rw [(Heap.SameBut.update _ _ _).2 b hb', (Heap.SameBut.update _ _ _).2 b hb']; exact e
  done := fun s Q E st hQ => by
    obtain ⟨⟨oi, hoi, hc, hdi⟩, hoa⟩ := st
    have hT : s.TypeIs (.ref it) "set_iterator" := ⟨oi, hoi, hc⟩
    refine w_pyNext (wpAny_callSpecial?_slot (name := Str.ofString "__next__") hT slot_si_next (wpAny_call_entry slot_si_next hT entry_si_next ?_ (by unfold argsOk; kernel_rfl)))
    show wpAny _ _ (fieldsOf (.ref it) >>= _) _ _ s
    refine wpAny_bind (wpAny_fieldsOf hoi hdi ?_)
    dsimp only
    unfold setEntries
    refine wpAny_bind (wpAny_bind (wpAny_setState_of hoa hd hs.fits (wpAny_pure ?_)))
    refine wp_if_false (by simp) ?_
    have hperm := (wOrd_perm w a es ep).length_eq
    simp only [Int.toNat_natCast]
    refine wpAny_bind (w_setNext hoa hd hs (Nat.le_refl _) ?_)
    rw [Array.getElem?_eq_none (by simpa using Nat.le_of_eq hperm)]
    dsimp only [Option.map]
    refine wpAny_bind (wpAny_setField hoi hdi (by simp) ?_)
    exact w_stop (.inl hh) fun h' e k st => st.ends (hQ h' s.toks fun b ob hb x => k b ob (((Heap.SameBut.update _ _ _).2 b fun q => hb (by simp [q])).trans x))
end
end Mine
end
section
open PySem PySem.W PySem.Calls PyProof.Rows
set_option maxRecDepth 100000
set_option autoImplicit false
set_option linter.unusedVariables false
set_option linter.unusedSectionVars false
namespace Mine

noncomputable def View.but (V : View) (H : List Addr) : View := fun a => if a ∈ H then none else V a
theorem View.but_le (V : View) (H : List Addr) : (V.but H).le V := fun a o h => by unfold View.but at h; split at h; cases h; exact h
theorem View.but_at {V : View} {H : List Addr} {a : Addr} {o : Obj} (h : V a = some o) (n : a ∉ H) : V.but H a = some o := by unfold View.but; rw [if_neg n]; exact h
theorem View.but_none {V : View} {H : List Addr} {a : Addr} (n : a ∈ H) : V.but H a = none := by unfold View.but; rw [if_pos n]

/-- an iterator: shapes of its object, and what has to stand around it -/
structure Iter (w : World) (A : Around) (I : Addr) (n : Nat) (P : Nat → Value → Prop) (Sh : Nat → Obj → Prop) (U : Heap → Prop) : Prop where
  item : ∀ i (s : Shared) (Q : Option Value → Shared → Prop) (E : Value → Shared → Prop), i < n → HasP s.heap (I, Sh i) → U s.heap →
    (∀ v h' tk, P i v → HasP h' (I, Sh (i + 1)) → Heap.ExtBut I s.heap h' → Q (some v) { s with heap := h', toks := tk }) → wpAny (model P0 w) A (pyNext (.ref I)) Q E s
  done : ∀ (s : Shared) (Q : Option Value → Shared → Prop) (E : Value → Shared → Prop), HasP s.heap (I, Sh n) → U s.heap →
    (∀ h' tk, Heap.ExtBut I s.heap h' → Q none { s with heap := h', toks := tk }) → wpAny (model P0 w) A (pyNext (.ref I)) Q E s
  self : ∀ i (s : Shared) (Q : Value → Shared → Prop) (E : Value → Shared → Prop), HasP s.heap (I, Sh i) → U s.heap → Q (.ref I) s → wpAny (model P0 w) A (pyIter (.ref I)) Q E s

theorem Iter.of {w : World} {A : Around} {I : Addr} {fp : List Addr} {n : Nat} {P : Nat → Value → Prop} {St : Nat → Heap → Prop} {Sh : Nat → Obj → Prop} {U : Heap → Prop} (W : Walks P0 w A I fp [I] n P St)
    (h1 : ∀ i h, HasP h (I, Sh i) → U h → St i h) (h2 : ∀ i h, St i h → HasP h (I, Sh i)) : Iter w A I n P Sh U where
  item := fun i s Q E hi hp hu hQ => W.item i s Q E hi (h1 i _ hp hu) fun v h' tk hP hst hk => hQ v h' tk hP (h2 _ _ hst) fun b o hb e => hk b o (by simpa using hb) e
  done := fun s Q E hp hu hQ => W.done s Q E (h1 _ _ hp hu) fun h' tk hk => hQ h' tk fun b o hb e => hk b o (by simpa using hb) e
  self := fun i s Q E hp hu hQ => W.self i s Q E (h1 i _ hp hu) hQ

abbrev LIt (l : Addr) (i : Nat) : Obj → Prop := fun o => o.cls = .type "list_iterator" ∧ o.data = .fields #[.ref l, .int i 0]
theorem Iter.list {w : World} {A : Around} (hh : A.handled = none) (I l : Addr) (hne : l ≠ I) (items : Array Value) :
    Iter w A I items.size (fun i v => items[i]? = some v) (LIt l) (fun h => h.IsList l items) :=
  Iter.of (Walks.list hh I l hne items) (fun i h hp hu => ⟨hp, hu⟩) (fun i h st => st.1)
abbrev SIt (w : World) (a : Addr) (t : SetTable) (n ep : Nat) (i : Nat) : Obj → Prop := fun o => o.cls = .type "set_iterator" ∧ o.data = .fields #[.int (slotAt w t i) 0, .int i 0, .ref a, .int n 0, .int ep 0]
theorem Iter.set {w : World} {A : Around} {o : Obj} (hh : A.handled = none) (I a : Addr) (hne : a ≠ I) {es : Ents} {ep : Nat} {t : SetTable} (hd : o.data = .set es ep t) (hs : SOK (byT w) es t) :
    Iter w A I es.size (fun i v => ∃ e, (wOrd w a es ep)[i]? = some e ∧ v = e.2) (SIt w a t es.size ep) (fun h => h.get? a = some o) :=
  Iter.of (Walks.set hh I a hne hd hs) (fun i h hp hu => ⟨hp, hu⟩) (fun i h st => st.1)

section
variable {w : World} {A : Around} {E : Value → Shared → Prop} {s : Shared} {env : Env} {G : Array GenState} {O : OsState} {V : View} {L : Addr} {ns : List Str} {vs : List (Option Value)} {own : List Kp}

theorem Fm.nsne (F : Fm w G O V L ns vs own s) {p : Kp} (h : p ∈ own) : p.1 ≠ L := F.oL p h
/-- the head of own moves on -/
theorem Fm.head (F : Fm w G O V L ns vs own s) {s' : Shared} {a : Addr} {p p' : Obj → Prop} {r : List Kp} (he : own = (a, p) :: r) (hs : Heap.ExtBut a s.heap s'.heap) (ho : HasP s'.heap (a, p')) (g : s'.gens = G) (os : s'.os = O) : Fm w G O V L ns vs ((a, p') :: r) s' := by
  subst he
  exact F.change (i := 0) rfl hs ho g os

theorem e_cellH {x : Str} {pos : Pos} {c : Addr} {v : Value} {Q : Value → Shared → Prop} (en : En env L) (hx : env.kindOf x = some .cell) (hc : env.cells.lookup x = some c)
    (hm : HasP s.heap (c, CellP (some v))) (h : Q v s) (hd : (x == ("__debug__" : Str)) = false := by decide) : wpAny (model P0 w) A (eval (.Name x pos) env) Q E s :=
  let ⟨o, ho, e⟩ := hm; wpAny_Name (wpAny_loadName_cell en.kind hx hc ⟨o, ho, by rw [e]⟩ h) hd
theorem e_freeH {x : Str} {pos : Pos} {c : Addr} {v : Value} {Q : Value → Shared → Prop} (en : En env L) (hx : env.kindOf x = some .free) (hc : env.cells.lookup x = some c)
    (hm : HasP s.heap (c, CellP (some v))) (h : Q v s) (hd : (x == ("__debug__" : Str)) = false := by decide) (hn : (x == ("__classdict__" : Str)) = false := by decide) : wpAny (model P0 w) A (eval (.Name x pos) env) Q E s :=
  let ⟨o, ho, e⟩ := hm; wpAny_Name (wpAny_loadName_free en.kind hx hc ⟨o, ho, by rw [e]⟩ h hn) hd

/-- a for loop -/
theorem x_For {target iter : PySem.Expr} {body orelse : List Stmt} {pos : Pos} {Q : Flow → Shared → Prop} (_F₀ : Fm w G O V L ns vs own s) (INV : Nat → List (Option Value) → List Kp → Prop)
    (h : wpAny (model P0 w) A (eval iter env) (fun xv s₁ => wpAny (model P0 w) A (pyIter xv) (fun it s₂ => ∃ I n i₀ P Sh U vs own, it = .ref I ∧ Iter w A I n P Sh U ∧ i₀ ≤ n ∧
      Fm w G O V L ns vs ((I, Sh i₀) :: own) s₂ ∧ INV i₀ vs own ∧
      (∀ i vs own s, INV i vs own → Fm w G O V L ns vs ((I, Sh i) :: own) s → U s.heap) ∧
      (∀ i v vs own s, i < n → P i v → INV i vs own → Fm w G O V L ns vs ((I, Sh (i + 1)) :: own) s → wpAny (model P0 w) A (assign target env v) (fun _ s' => wpAny (model P0 w) A (execs body env) (fun fl s'' => match fl with
        | .next | .cont => ∃ vs' own', Fm w G O V L ns vs' ((I, Sh (i + 1)) :: own') s'' ∧ INV (i + 1) vs' own'
        | .brk => Q .next s''
        | .ret v => Q (.ret v) s'') noE s') noE s) ∧
      (∀ vs own s, INV n vs own → Fm w G O V L ns vs own s → wpAny (model P0 w) A (execs orelse env) Q noE s)) E s₁) E s)
    (ht : ∀ it v, letOwnedTupleGo target it v = pure () := by intro _ _; rfl)
    (hs : ∀ x, foldedSetIterable iter env x = pure x := by intro _; rfl) :
    wpAny (model P0 w) A (exec (.For target iter body orelse pos) env) Q E s := by
  refine wpAny_For (wpAny_mono h (fun xv s₁ h₁ => wpAny_mono h₁ (fun it s₂ h₂ => ?_) fun _ _ x => x) fun _ _ x => x) hs
  obtain ⟨I, n, i₀, P, Sh, U, vs, own, rfl, It, hi₀, F, hInv, hU, hstep, hdone⟩ := h₂
  refine codeAny_forLoop (fun k s => ∃ i vs own, k = n - i ∧ i ≤ n ∧ Fm w G O V L ns vs ((I, Sh i) :: own) s ∧ INV i vs own) ?_ (n - i₀) ⟨i₀, vs, own, rfl, hi₀, F, hInv⟩ (ht _)
  rintro k s ⟨i, vs, own, rfl, hi, F, hInv⟩
  by_cases hlt : i < n
  · refine It.item i s _ _ hlt (F.get (.head _)) (hU i vs own s hInv F) fun v h' tk hP hp' hk => ?_
    have F' : Fm w G O V L ns vs ((I, Sh (i + 1)) :: own) { s with heap := h', toks := tk } := F.head rfl hk hp' F.gens F.os
    refine wpAny_mono (hstep i v vs own _ hlt hP hInv F') (fun _ s₃ h₃ => wpAny_mono h₃ (fun fl s₄ h₄ => ?_) fun _ _ (x : False) => x.elim) fun _ _ (x : False) => x.elim
    cases fl with
    | next => obtain ⟨vs', own', F₄, hI⟩ := h₄; exact ⟨n - (i + 1), by omega, i + 1, vs', own', rfl, hlt, F₄, hI⟩
    | cont => obtain ⟨vs', own', F₄, hI⟩ := h₄; exact ⟨n - (i + 1), by omega, i + 1, vs', own', rfl, hlt, F₄, hI⟩
    | brk => exact h₄
    | ret v => exact h₄
  · have hin : i = n := by omega
    subst hin
    refine It.done s _ _ (F.get (.head _)) (hU i vs own s hInv F) fun h' tk hk => ?_
    exact wpAny_mono (hdone vs own _ hInv (F.drop (s' := { s with heap := h', toks := tk }) rfl hk F.gens F.os)) (fun _ _ x => x) fun _ _ (x : False) => x.elim

/-- a while loop -/
theorem x_While {test : PySem.Expr} {body orelse : List Stmt} {pos : Pos} {Q : Flow → Shared → Prop} (INV : Nat → List (Option Value) → List Kp → Prop) (k₀ : Nat) (F : Fm w G O V L ns vs own s) (hI : INV k₀ vs own)
    (turn : ∀ k vs own s, INV k vs own → Fm w G O V L ns vs own s → wpAny (model P0 w) A (isTrue test env (eval test env)) (fun b s₂ =>
      if b then wpAny (model P0 w) A (execs body env) (fun f s₃ => match f with
        | .next | .cont => ∃ k' vs' own', k' < k ∧ Fm w G O V L ns vs' own' s₃ ∧ INV k' vs' own'
        | .brk => Q .next s₃
        | .ret v => Q (.ret v) s₃) noE s₂
      else wpAny (model P0 w) A (execs orelse env) Q noE s₂) noE s) :
    wpAny (model P0 w) A (exec (.While test body orelse pos) env) Q E s := by
  refine wpAny_While (codeAny_whileLoop (fun k s => ∃ vs own, Fm w G O V L ns vs own s ∧ INV k vs own) ?_ k₀ ⟨vs, own, F, hI⟩)
  rintro k s ⟨vs, own, F, hI⟩
  refine wpAny_mono (turn k vs own s hI F) (fun b s₂ h₂ => ?_) fun _ _ (x : False) => x.elim
  cases b with
  | true =>
    refine wpAny_mono h₂ (fun f s₃ h₃ => ?_) fun _ _ (x : False) => x.elim
    cases f with
    | next => obtain ⟨k', vs', own', hk, F₄, hI⟩ := h₃; exact ⟨k', hk, vs', own', F₄, hI⟩
    | cont => obtain ⟨k', vs', own', hk, F₄, hI⟩ := h₃; exact ⟨k', hk, vs', own', F₄, hI⟩
    | brk => exact h₃
    | ret v => exact h₃
  | false => exact wpAny_mono h₂ (fun _ _ x => x) fun _ _ (x : False) => x.elim
end
end Mine
end
section
open PySem PySem.W PySem.Calls PyProof.Rows
set_option maxRecDepth 100000
set_option autoImplicit false
set_option linter.unusedVariables false
set_option linter.unusedSectionVars false
namespace Mine

abbrev NsP : Obj → Prop := fun o => ∃ (m : Str → Option Value) (es : Array DictEntry) (ep : Nat), o.data = .dict es ep ∧ StrKeys es ∧ ∀ n, nsFind es n = m n
theorem nsP_of {h : Heap} {a : Addr} {m : Str → Option Value} (x : h.Ns a m) : HasP h (a, NsP) := let ⟨o, es, ep, ho, hd, hk, hm⟩ := x; ⟨o, ho, m, es, ep, hd, hk, hm⟩
theorem ns_of {h : Heap} {a : Addr} (x : HasP h (a, NsP)) : ∃ m, h.Ns a m := let ⟨o, ho, m, es, ep, hd, hk, hm⟩ := x; ⟨m, o, es, ep, ho, hd, hk, hm⟩

noncomputable def cnames (scope : Scope) : List Str := (scope.names.filter fun x => x.2 == .local).map (·.1)

section
variable {w : World} {A : Around} {E : Value → Shared → Prop} {s : Shared} {env : Env} {G : Array GenState} {O : OsState} {V : View} {L : Addr} {ns : List Str} {vs : List (Option Value)} {own : List Kp}

theorem k_append {l : Addr} {items : Array Value} {x : Value} {Q : Value → Shared → Prop} (ho : HasP s.heap (l, LP items)) (hsz : items.size ≤ sizeLine)
    (h : ∀ h', HasP h' (l, LP (items.push x)) → Heap.SameBut l s.heap h' → Q .none { s with heap := h' }) : wpAny (model P0 w) A (call (.builtin "list.append") [.ref l, x]) Q E s := by
  obtain ⟨_, ho, n, rfl⟩ := ho
  exact call_meets F.slot_list_append ⟨_, ho, rfl⟩ F.entry_list_append (F.args_list_append_2 _ _) (list_append l items n x hsz) ⟨ho, h _ ⟨_, IsL.update ho _, _, rfl⟩ (Heap.SameBut.update ..)⟩

/-- into a comprehension -/
theorem Fm.inner {I D C : Addr} {p₀ pD : Obj → Prop} {ext rest : List Kp} {s₄ : Shared} {nsI : List Str} (F : Fm w G O V L ns vs ((I, p₀) :: (ext ++ rest)) s) (nd : nsI.Nodup) (hD : s.heap.get? D = none) (hC : s.heap.get? C = none) (hDC : D ≠ C)
    (hk : ∀ b o, s.heap.get? b = some o → s₄.heap.get? b = some o) (hpD : HasP s₄.heap (D, pD)) (hns : s₄.heap.Ns C (fun _ => none)) (g : s₄.gens = s.gens) (os : s₄.os = s.os) :
    Fm w G O ((hv s.heap).but (I :: ext.map (·.1))) C nsI (nsI.map fun _ => none) ((I, p₀) :: (D, pD) :: ext) s₄ := by
  have hnd := F.nd
  simp only [List.map_cons, List.nodup_cons, List.map_append] at hnd
  have mem : ∀ p ∈ ext, p ∈ (I, p₀) :: (ext ++ rest) := fun p hp => .tail _ (List.mem_append_left _ hp)
  have live : ∀ p, p ∈ (I, p₀) :: (ext ++ rest) → s.heap.get? p.1 ≠ none := fun p hp e => by obtain ⟨o, ho, _⟩ := F.hown p hp; rw [ho] at e; cases e
  refine ⟨F.cx.mono fun a o e => View.but_at (F.view a o e) fun hm => ?_, g.trans F.gens, os.trans F.os, by rw [locs_none]; exact hns, nd, fun a o e => hk a o (View.but_le _ _ a o e), ?_, ?_, ?_, ?_, ?_⟩
  · rcases List.mem_cons.mp hm with rfl | hm
    · rw [F.vo (a, p₀) (.head _)] at e; cases e
    · obtain ⟨p, hp, rfl⟩ := List.mem_map.mp hm
      rw [F.vo p (mem p hp)] at e; cases e
  · intro p hp
    rcases List.mem_cons.mp hp with rfl | hp
    · exact (F.hown _ (.head _)).keeps fun o e => hk _ o e
    rcases List.mem_cons.mp hp with rfl | hp
    · exact hpD
    · exact (F.hown p (mem p hp)).keeps fun o e => hk _ o e
  · cases e : ((hv s.heap).but (I :: ext.map (·.1))) C with
    | none => rfl
    | some o => have := View.but_le _ _ _ _ e; rw [hv, hC] at this; cases this
  · intro p hp e
    rcases List.mem_cons.mp hp with rfl | hp
    · exact live _ (.head _) (e ▸ hC)
    rcases List.mem_cons.mp hp with rfl | hp
    · exact hDC e
    · exact live p (mem p hp) (e ▸ hC)
  · intro p hp
    rcases List.mem_cons.mp hp with rfl | hp
    · exact View.but_none (.head _)
    rcases List.mem_cons.mp hp with rfl | hp
    · cases e : ((hv s.heap).but (I :: ext.map (·.1))) D with
      | none => rfl
      | some o => have := View.but_le _ _ _ _ e; rw [hv, hD] at this; cases this
    · exact View.but_none (.tail _ (List.mem_map.mpr ⟨p, hp, rfl⟩))
  · have hIx : I ∉ ext.map (·.1) := fun hm => hnd.1 (List.mem_append_left _ hm)
    have hDx : D ∉ ext.map (·.1) := fun hm => by obtain ⟨p, hp, e⟩ := List.mem_map.mp hm; exact live p (mem p hp) (e ▸ hD)
    have hID : I ≠ D := fun e => live (I, p₀) (.head _) (by rw [e]; exact hD)
    simp only [List.map_cons, List.nodup_cons, List.mem_cons, not_or]
    exact ⟨⟨hID, hIx⟩, hDx, (List.nodup_append.mp hnd.2).1⟩

/-- and out of it -/
theorem Fm.outer {I D C : Addr} {p₀ pD : Obj → Prop} {ext ext' rest : List Kp} {s' : Shared} {nsI : List Str} {vsI : List (Option Value)} (F : Fm w G O V L ns vs ((I, p₀) :: (ext ++ rest)) s) (hD : s.heap.get? D = none) (hC : s.heap.get? C = none)
    (F' : Fm w G O ((hv s.heap).but (I :: ext.map (·.1))) C nsI vsI ((D, pD) :: ext') s') :
    Fm w G O V L ns vs ((C, NsP) :: (D, pD) :: (ext' ++ rest)) s' := by
  have hnd := F.nd
  simp only [List.map_cons, List.nodup_cons, List.map_append] at hnd
  have live : ∀ p, p ∈ (I, p₀) :: (ext ++ rest) → s.heap.get? p.1 ≠ none := fun p hp e => by obtain ⟨o, ho, _⟩ := F.hown p hp; rw [ho] at e; cases e
  have hL : s.heap.get? L ≠ none := fun e => by obtain ⟨o, _, _, ho, _⟩ := F.hns; rw [ho] at e; cases e
  have memx : ∀ p ∈ ext', (∃ q ∈ (I, p₀) :: ext, q.1 = p.1) ∨ s.heap.get? p.1 = none := fun p hp => by
    by_cases hm : p.1 ∈ I :: ext.map (·.1)
    · rcases List.mem_cons.mp hm with e | hm
      · exact .inl ⟨_, .head _, e.symm⟩
      · obtain ⟨q, hq, e⟩ := List.mem_map.mp hm
        exact .inl ⟨q, .tail _ hq, e⟩
    · have := F'.vo p (.tail _ hp)
      unfold View.but at this
      rw [if_neg hm] at this
      exact .inr this
  have up : ∀ q ∈ (I, p₀) :: ext, q ∈ (I, p₀) :: (ext ++ rest) := fun q hq => by
    rcases List.mem_cons.mp hq with rfl | hq
    · exact .head _
    · exact .tail _ (List.mem_append_left _ hq)
  have hIH : ∀ p, p ∈ (I, p₀) :: (ext ++ rest) → p.1 ≠ L := F.oL
  have keep : ∀ b o, b ∉ I :: ext.map (·.1) → s.heap.get? b = some o → s'.heap.get? b = some o := fun b o hb e => F'.view b o (View.but_at e hb)
  have notH : ∀ b, (∀ p, p ∈ (I, p₀) :: (ext ++ rest) → p.1 ≠ b) → b ∉ I :: ext.map (·.1) := fun b hb hm => by
    rcases List.mem_cons.mp hm with e | hm
    · exact hb (I, p₀) (.head _) e.symm
    · obtain ⟨p, hp, e⟩ := List.mem_map.mp hm
      exact hb p (.tail _ (List.mem_append_left _ hp)) e
  refine ⟨F.cx, F'.gens, F'.os, F.hns.at' fun o e => keep L o (notH L hIH) e, F.nn, fun a o e => keep a o (notH a fun p hp q => ?_) (F.view a o e), ?_, F.vL, ?_, ?_, ?_⟩
  · have := F.vo p hp; rw [q, e] at this; cases this
  · intro p hp
    rcases List.mem_cons.mp hp with rfl | hp
    · exact nsP_of F'.hns
    rcases List.mem_cons.mp hp with rfl | hp
    · exact F'.hown _ (.head _)
    rcases List.mem_append.mp hp with hp | hp
    · exact F'.hown p (.tail _ hp)
    · refine (F.hown p (.tail _ (List.mem_append_right _ hp))).keeps fun o e => keep _ o (fun hm => ?_) e
      rcases List.mem_cons.mp hm with e | hm
      · exact hnd.1 (List.mem_append_right _ (List.mem_map.mpr ⟨p, hp, e⟩))
      · exact (List.nodup_append.mp hnd.2).2.2 p.1 hm p.1 (List.mem_map.mpr ⟨p, hp, rfl⟩) rfl
  · intro p hp
    rcases List.mem_cons.mp hp with rfl | hp
    · exact fun e => hL (e ▸ hC)
    rcases List.mem_cons.mp hp with rfl | hp
    · exact fun e => hL (e ▸ hD)
    rcases List.mem_append.mp hp with hp | hp
    · rcases memx p hp with ⟨q, hq, e⟩ | e
      · exact e ▸ F.oL q (up q hq)
      · exact fun q => hL (q ▸ e)
    · exact F.oL p (.tail _ (List.mem_append_right _ hp))
  · have nofresh : ∀ a, s.heap.get? a = none → V a = none := fun a ha => by
      cases e : V a with
      | none => rfl
      | some o => have := F.view a o e; rw [hv, ha] at this; cases this
    intro p hp
    rcases List.mem_cons.mp hp with rfl | hp
    · exact nofresh _ hC
    rcases List.mem_cons.mp hp with rfl | hp
    · exact nofresh _ hD
    rcases List.mem_append.mp hp with hp | hp
    · rcases memx p hp with ⟨q, hq, e⟩ | e
      · exact e ▸ F.vo q (up q hq)
      · exact nofresh _ e
    · exact F.vo p (.tail _ (List.mem_append_right _ hp))
  · have nd' := F'.nd
    simp only [List.map_cons, List.nodup_cons] at nd'
    have outr : ∀ a, s.heap.get? a = none → a ∉ rest.map (·.1) := fun a ha hm => by
      obtain ⟨p, hp, e⟩ := List.mem_map.mp hm
      exact live p (.tail _ (List.mem_append_right _ hp)) (e ▸ ha)
    have hDC : D ≠ C := F'.oL (D, pD) (.head _)
    have hCx : C ∉ ext'.map (·.1) := fun hm => by
      obtain ⟨p, hp, e⟩ := List.mem_map.mp hm
      exact F'.oL p (.tail _ hp) e
    simp only [List.map_cons, List.nodup_cons, List.mem_cons, List.map_append, List.mem_append, not_or]
    refine ⟨⟨Ne.symm hDC, hCx, outr C hC⟩, ⟨nd'.1, outr D hD⟩, List.nodup_append.mpr ⟨nd'.2, (List.nodup_append.mp hnd.2).2.1, fun a ha b hb e => ?_⟩⟩
    obtain ⟨p, hp, rfl⟩ := List.mem_map.mp ha
    rcases memx p hp with ⟨q, hq, e2⟩ | e2
    · rcases List.mem_cons.mp hq with rfl | hq
      · have : I = b := e2.trans e
        exact hnd.1 (List.mem_append_right _ (by rw [this]; exact hb))
      · exact (List.nodup_append.mp hnd.2).2.2 q.1 (List.mem_map.mpr ⟨q, hq, rfl⟩) b hb (e2.trans e)
    · exact outr _ e2 (by rw [e]; exact hb)
end
end Mine
end
section
open PySem PySem.W PySem.Calls PyProof.Rows
set_option maxRecDepth 100000
set_option autoImplicit false
set_option linter.unusedVariables false
set_option linter.unusedSectionVars false
namespace Mine

theorem En.comp {env : Env} {L : Addr} (en : En env L) (scope : Scope) (cl : List (Str × Addr)) (C : Addr) (hk : scope.kind = .function) (hco : scope.isCoroutine = false) : En (compEnvC scope cl C env) C :=
  ⟨hk, rfl, en.glob, en.bi, hco⟩

section
variable {w : World} {A : Around} {E : Value → Shared → Prop} {s : Shared} {env : Env} {G : Array GenState} {O : OsState} {V : View} {L : Addr} {ns : List Str} {vs : List (Option Value)} {own : List Kp}

abbrev testsOf (ifs : List PySem.Expr) (cenv : Env) : Sem Bool := forIn ifs true fun c r => if r = true then do let ok ← isTrue c cenv (eval c cenv); pure (ForInStep.yield ok) else pure (ForInStep.yield r)

/-- one turn's duty of a comprehension of one clause -/
noncomputable def Turn1 (w : World) (A : Around) (G : Array GenState) (O : OsState) (V' : View) (C D I : Addr) (nsI : List Str) (cenv : Env) (target elt : PySem.Expr) (ifs : List PySem.Expr) (Sh : Nat → Obj → Prop) (P : Nat → Value → Prop) (n : Nat) (INV : Nat → List Value → List Kp → Prop) : Prop :=
  ∀ i v acc ext u s, i < n → P i v → INV i acc ext → u.length = nsI.length → Fm w G O V' C nsI u ((I, Sh (i + 1)) :: (D, LP acc.toArray) :: ext) s →
    wpAny (model P0 w) A (assign target cenv v) (fun _ s₁ => wpAny (model P0 w) A (testsOf ifs cenv) (fun ok s₂ =>
      if ok = true then wpAny (model P0 w) A (eval elt cenv) (fun y s₃ => ∃ u' ext', u'.length = nsI.length ∧ Fm w G O V' C nsI u' ((I, Sh (i + 1)) :: (D, LP acc.toArray) :: ext') s₃ ∧ INV (i + 1) (acc ++ [y]) ext') noE s₂
      else ∃ u' ext', u'.length = nsI.length ∧ Fm w G O V' C nsI u' ((I, Sh (i + 1)) :: (D, LP acc.toArray) :: ext') s₂ ∧ INV (i + 1) acc ext') noE s₁) noE s

theorem comp_block {elt iter target : PySem.Expr} {ifs : List PySem.Expr} {scope : Scope} {pos : Pos} {cl : List (Str × Addr)} {I : Addr} {n : Nat} {P : Nat → Value → Prop} {Sh : Nat → Obj → Prop} {U : Heap → Prop} {ext rest : List Kp}
    {RR : Value → Addr → Result → Shared → Prop} (It : Iter w A I n P Sh U) (F : Fm w G O V L ns vs ((I, Sh 0) :: (ext ++ rest)) s) (hcell : ∀ y ∈ scope.names, y.2 ≠ .cell) (hkind : scope.kind = .function) (hnd : (cnames scope).Nodup)
    (hn : n ≤ 4096) (INV : Nat → List Value → List Kp → Prop) (h0 : INV 0 [] ext)
    (hU : ∀ i acc ext' (s' : Shared), INV i acc ext' → (∀ b o, b ∉ I :: ext.map (·.1) → s.heap.get? b = some o → s'.heap.get? b = some o) → U s'.heap)
    (hstep : ∀ C D, Turn1 w A G O ((hv s.heap).but (I :: ext.map (·.1))) C D I (cnames scope) (compEnvC scope cl C env) target elt ifs Sh P n INV)
    (hRR : ∀ D C acc ext' s', INV n acc ext' → Fm w G O V L ns vs ((C, NsP) :: (D, LP acc.toArray) :: (ext' ++ rest)) s' → RR (.ref D) C (.ok .next) s')
    (ht : ∀ it v, letOwnedTupleGo target it v = pure () := by intro _ _; rfl) :
    wpAny (model P0 w) A (newList []) (fun acc s₃ => wpAny (model P0 w) A (newFunctionEnv scope env.globals cl [] env.qual none .none (some env)) (fun cenv s₄ =>
      codeAny (model P0 w) A (.compStart (.ListComp elt [⟨target, iter, ifs, 0⟩] scope pos) 0 (.ref I) acc { cenv with scope := relabel scope env }) (RR acc cenv.locals) s₄) E s₃) E s := by
  refine wpAny_newObj_type (wpAny_newFunctionEnv hcell (by intro y hy; simp at hy) (fun h₁ hns₁ hsb₁ => ?_) hkind)
  dsimp only at hns₁ hsb₁ ⊢
  generalize hH2 : s.heap.push { cls := .type "list", dict := none, data := .seq ([] : List Value).toArray } = H2 at hns₁ hsb₁ ⊢
  have hC : H2.objs.size = s.heap.objs.size + 1 := by rw [← hH2, Heap.size_push]
  have hDC : s.heap.objs.size ≠ H2.objs.size := by rw [hC]; exact Nat.ne_of_lt (Nat.lt_succ_self _)
  have freshC : s.heap.get? H2.objs.size = none := by
    cases e : s.heap.get? H2.objs.size with
    | none => rfl
    | some o' => exact absurd (Heap.lt_size e) (by rw [hC]; exact Nat.not_lt.mpr (Nat.le_succ _))
  have old : ∀ b o, s.heap.get? b = some o → h₁.get? b = some o := fun b o e =>
    hsb₁.extBut b o (by rw [hC]; exact Nat.ne_of_lt (Nat.lt_succ_of_lt (Heap.lt_size e))) (Heap.get?_push_of_some _ (hH2 ▸ Heap.get?_push_of_some _ e))
  have F₁ : Fm w G O ((hv s.heap).but (I :: ext.map (·.1))) H2.objs.size (cnames scope) ((cnames scope).map fun _ => none) ((I, Sh 0) :: (s.heap.objs.size, LP ([] : List Value).toArray) :: ext) { s with heap := h₁, toks := s.toks + ([] : List (Str × Value)).length } := by
    refine F.inner hnd (fresh_none _) freshC hDC old ⟨_, hsb₁.extBut _ _ hDC (Heap.get?_push_of_some _ (hH2 ▸ Heap.get?_push_size _ rfl)), 0, rfl⟩ ?_ rfl rfl
    exact hns₁
  have loop : ∀ s₄ : Shared, s₄ = { s with heap := h₁, toks := s.toks + ([] : List (Str × Value)).length } →
      codeAny (model P0 w) A (.compLoop (.ListComp elt [⟨target, iter, ifs, 0⟩] scope pos) 0 (.ref I) (.ref s.heap.objs.size) (compEnvC scope cl H2.objs.size env))
        (RR (.ref s.heap.objs.size) H2.objs.size) s₄ := by
    rintro s₄ rfl
    refine codeAny_compLoop_tests (fun k s' => ∃ i acc ext' u, k = n - i ∧ i ≤ n ∧ acc.length ≤ i ∧ u.length = (cnames scope).length ∧ Fm w G O ((hv s.heap).but (I :: ext.map (·.1))) H2.objs.size (cnames scope) u ((I, Sh i) :: (s.heap.objs.size, LP acc.toArray) :: ext') s' ∧ INV i acc ext') ?_ n
      ⟨0, [], ext, _, rfl, Nat.zero_le _, Nat.le_refl _, by simp, F₁, h0⟩ (ht _)
    rintro k s' ⟨i, acc, ext', u, rfl, hi, hacc, hu, F', hI⟩
    have hU' : U s'.heap := hU i acc ext' s' hI fun b o hb e => F'.view b o (View.but_at e hb)
    by_cases hlt : i < n
    · refine It.item i s' _ _ hlt (F'.get (.head _)) hU' fun v h' tk hP hp' hk => ?_
      have F₂ := F'.head (s' := { s' with heap := h', toks := tk }) rfl hk hp' F'.gens F'.os
      refine wpAny_mono (hstep _ _ i v acc ext' u _ hlt hP hI hu F₂) (fun _ s₃ h₃ => wpAny_mono h₃ (fun ok s₄ h₄ => ?_) fun _ _ (x : False) => x.elim) fun _ _ (x : False) => x.elim
      cases ok with
      | false =>
        rw [if_neg Bool.false_ne_true] at h₄ ⊢
        obtain ⟨u', ext'', hu', F₃, hI'⟩ := h₄
        exact ⟨n - (i + 1), by omega, i + 1, acc, ext'', u', rfl, hlt, by omega, hu', F₃, hI'⟩
      | true =>
        rw [if_pos rfl] at h₄ ⊢
        refine wpAny_mono h₄ (fun y s₅ h₅ => ?_) fun _ _ (x : False) => x.elim
        obtain ⟨u', ext'', hu', F₃, hI'⟩ := h₅
        refine k_append (F₃.get (.tail _ (.head _))) (by rw [List.size_toArray, sizeLine_eq]; omega) fun h' hp' hsb => ?_
        have F₄ := F₃.change (i := 1) (s' := { s₅ with heap := h' }) (p' := LP (acc ++ [y]).toArray) rfl hsb.extBut (by rw [← List.push_toArray]; exact hp') F₃.gens F₃.os
        exact ⟨n - (i + 1), by omega, i + 1, acc ++ [y], ext'', u', rfl, hlt, by simp; omega, hu', F₄, hI'⟩
    · have hin : i = n := by omega
      subst hin
      refine It.done s' _ _ (F'.get (.head _)) hU' fun h' tk hk => ?_
      have F₂ := F'.drop (s' := { s' with heap := h', toks := tk }) rfl hk F'.gens F'.os
      exact hRR _ _ acc ext' _ hI (F.outer (fresh_none _) freshC F₂)
  have hU₁ : U h₁ := hU 0 [] ext { s with heap := h₁, toks := s.toks + ([] : List (Str × Value)).length } h0 fun b o _ e => old b o e
  exact codeAny_compStart_list (loop _ rfl) (It.self 0 _ _ _ (F₁.get (.head _)) hU₁ (loop _ rfl))

theorem e_ListComp {elt iter target : PySem.Expr} {ifs : List PySem.Expr} {scope : Scope} {pos : Pos} {cl : List (Str × Addr)} {Q : Value → Shared → Prop} (_F₀ : Fm w G O V L ns vs own s) (INV : Nat → List Value → List Kp → Prop)
    (h : wpAny (model P0 w) A (eval iter env) (fun xv s₁ => wpAny (model P0 w) A (pyIter xv) (fun it s₂ => ∃ I n P Sh U vs ext rest, it = .ref I ∧ Iter w A I n P Sh U ∧ n ≤ 4096 ∧ Fm w G O V L ns vs ((I, Sh 0) :: (ext ++ rest)) s₂ ∧ INV 0 [] ext ∧
      (∀ i acc ext' (s' : Shared), INV i acc ext' → (∀ b o, b ∉ I :: ext.map (·.1) → s₂.heap.get? b = some o → s'.heap.get? b = some o) → U s'.heap) ∧
      (∀ C D, Turn1 w A G O ((hv s₂.heap).but (I :: ext.map (·.1))) C D I (cnames scope) (compEnvC scope cl C env) target elt ifs Sh P n INV) ∧
      (∀ D acc ext' s', INV n acc ext' → Fm w G O V L ns vs ((D, LP acc.toArray) :: (ext' ++ rest)) s' → Q (.ref D) s')) E s₁) E s)
    (hclos : closureFor scope env = pure cl) (hcell : ∀ y ∈ scope.names, y.2 ≠ .cell := by decide) (hkind : scope.kind = .function := by rfl)
    (hnames : ∀ y ∈ scope.names, y.2 = .local → scope.names.lookup y.1 = some .local := by decide) (hnd : (cnames scope).Nodup := by decide)
    (ht : ∀ it v, letOwnedTupleGo target it v = pure () := by intro _ _; rfl)
    (hs : ∀ x, foldedSetIterable iter env x = pure x := by intro _; rfl) :
    wpAny (model P0 w) A (eval (.ListComp elt [⟨target, iter, ifs, 0⟩] scope pos) env) Q E s := by
  rw [eval_ListComp]
  refine wpAny_comprehension_free (use := none) rfl hs hclos hkind hnames (wpAny_mono h (fun xv s₁ h₁ => wpAny_mono h₁ (fun it s₂ h₂ => ?_) fun _ _ e => e) fun _ _ e => e)
  obtain ⟨I, n, P, Sh, U, vs, ext, rest, rfl, It, hn, F, hI, hU, hstep, hQ⟩ := h₂
  refine comp_block (RR := fun acc C => compPost (model P0 w) A E none Q acc C) It F hcell hkind hnd hn INV hI hU hstep ?_ ht
  intro D C acc ext' s' hI' F'
  obtain ⟨m, hm⟩ := ns_of (F'.hown _ (.head _))
  exact ⟨m, hm, fun h' hs' => hQ D acc ext' _ hI' (F'.drop (s' := { s' with heap := h' }) rfl hs'.extBut F'.gens F'.os)⟩

theorem x_AssignComp {elt iter target : PySem.Expr} {ifs : List PySem.Expr} {scope : Scope} {pos spos py : Pos} {y : Str} {cl : List (Str × Addr)} {Q : Flow → Shared → Prop} (_F₀ : Fm w G O V L ns vs own s) (INV : Nat → List Value → List Kp → Prop) (en : En env L)
    (h : wpAny (model P0 w) A (eval iter env) (fun xv s₁ => wpAny (model P0 w) A (pyIter xv) (fun it s₂ => ∃ I n P Sh U vs ext rest, it = .ref I ∧ Iter w A I n P Sh U ∧ n ≤ 4096 ∧ Fm w G O V L ns vs ((I, Sh 0) :: (ext ++ rest)) s₂ ∧ INV 0 [] ext ∧
      (∀ i acc ext' (s' : Shared), INV i acc ext' → (∀ b o, b ∉ I :: ext.map (·.1) → s₂.heap.get? b = some o → s'.heap.get? b = some o) → U s'.heap) ∧
      (∀ C D, Turn1 w A G O ((hv s₂.heap).but (I :: ext.map (·.1))) C D I (cnames scope) (compEnvC scope cl C env) target elt ifs Sh P n INV) ∧
      (∃ vs' : Value → List (Option Value), (∀ v, LocPut ns vs y v (vs' v)) ∧ ∀ D acc ext' s', INV n acc ext' → Fm w G O V L ns (vs' (.ref D)) ((D, LP acc.toArray) :: (ext' ++ rest)) s' → Q .next s')) E s₁) E s)
    (hy : env.kindOf y = some .local) (hclos : closureFor scope env = pure cl)
    (hsw : swapsWith (.ListComp elt [⟨target, iter, ifs, 0⟩] scope pos) (some (.Name y py)) spos.line env = pure true) (hcell : ∀ y ∈ scope.names, y.2 ≠ .cell := by decide) (hkind : scope.kind = .function := by rfl)
    (hnames : ∀ y ∈ scope.names, y.2 = .local → scope.names.lookup y.1 = some .local := by decide) (hnd : (cnames scope).Nodup := by decide)
    (ht : ∀ it v, letOwnedTupleGo target it v = pure () := by intro _ _; rfl)
    (hs : ∀ x, foldedSetIterable iter env x = pure x := by intro _; rfl) :
    wpAny (model P0 w) A (exec (.Assign [.Name y py] (.ListComp elt [⟨target, iter, ifs, 0⟩] scope pos) spos) env) Q E s := by
  rw [exec_Assign_Name_used _ _ _ _ hsw]
  refine wpAny_bind (wpAny_standAt (wpAny_bind ?_))
  show wpAny _ A (do let _ ← comprehension (.ListComp elt [⟨target, iter, ifs, 0⟩] scope pos) scope env _ (newList []) false (eval iter env) (some (assign (.Name y py) env))) _ _ s
  refine wpAny_bind (wpAny_mono (wpAny_comprehension_free (use := some (assign (.Name y py) env)) (Q := fun _ s' => Q .next s') rfl hs hclos hkind hnames
    (wpAny_mono h (fun xv s₁ h₁ => wpAny_mono h₁ (fun it s₂ h₂ => ?_) fun _ _ e => e) fun _ _ e => e)) (fun _ s' hq => wpAny_pure (wpAny_pure hq)) fun _ _ e => e)
  obtain ⟨I, n, P, Sh, U, vs, ext, rest, rfl, It, hn, F, hI, hU, hstep, vs', hput, hQ⟩ := h₂
  refine comp_block (RR := fun acc C => compPost (model P0 w) A E (some (assign (.Name y py) env)) (fun _ s' => Q .next s') acc C) It F hcell hkind hnd hn INV hI hU hstep ?_ ht
  intro D C acc ext' s' hI' F'
  show wpAny _ A (assign (.Name y py) env (.ref D)) _ _ _
  refine wpAny_assign_Name (s_local F' en hy (hput _) fun s'' F'' => ?_)
  obtain ⟨m, hm⟩ := ns_of (F''.hown _ (.head _))
  exact ⟨m, hm, fun h' hs' => hQ D acc ext' _ hI' (F''.drop (s' := { s'' with heap := h' }) rfl hs'.extBut F''.gens F''.os)⟩
end
end Mine
end
section
open PySem PySem.W PySem.Calls PyProof.Rows
set_option maxRecDepth 100000
set_option maxHeartbeats 3200000
set_option autoImplicit false
set_option linter.unusedVariables false
set_option linter.unusedSectionVars false
namespace Mine
section
variable {w : World} {A : Around} {E : Value → Shared → Prop} {s : Shared}

theorem code_set_new' (args : List Value) (hck : checkBuiltinCall "set.__new__" ⟨.type "set" :: args, []⟩ = pure ()) {Q₁ : Value → Shared → Prop}
    (h : Q₁ (.ref s.heap.objs.size) { s with heap := s.heap.push (setO (freshD w)) }) :
    codeAny (model P0 w) A (.call (.builtin "set.__new__") ⟨.type "set" :: args, []⟩) (wants Q₁ E) s := by
  refine codeAny_call_builtin F.plain_set_new F.entry_set_new (wpAny_of_eq hck ?_)
  have own : isSubtype (.type "set") (.type "set") = pure true := sub_set_self
  obtain ⟨hp, g, d, tk, os⟩ := s
  unfold Builtin.«set.__new__» Builtin.Frozenset.newClass
  wp_walk
  refine wpAny_askSetting (wpAny_pure ?_)
  simp only [newObj]
  exact wpAny_bind (wpAny_alloc (wpAny_pure (wpAny_pure h)))

/-- set(..) -/
theorem k_set (args : List Value) (hck : checkBuiltinCall "set.__new__" ⟨.type "set" :: args, []⟩ = pure ()) (hct : checkTypeCall "set" ⟨args, []⟩ = pure ())
    (hci : ∀ (s' : Shared) (self : Value) (Q : Unit → Shared → Prop), s'.TypeIs self "set" → Q () s' → ∀ A E, wpAny (model P0 w) A (checkBuiltinCall "set.__init__" ⟨self :: args, []⟩) Q E s') {Q : Value → Shared → Prop}
    (h : wpAny (model P0 w) A.in1.in1 (Builtin.«set.__init__» ⟨.ref s.heap.objs.size :: args, []⟩) (fun fin s' => fin = .done (.ret .none) ∧ Q (.ref s.heap.objs.size) s') E { s with heap := s.heap.push (setO (freshD w)) }) :
    wpAny (model P0 w) A (call (.type "set") args) Q E s := by
  obtain ⟨c, tl, hmro⟩ := F.called_set.mro
  have hmade := F.called_set.made
  have hsub := F.called_set.sub
  refine wpAny_call (codeAny_of_tree ?_)
  show wpAny _ _ (callAny (.type "set") _) _ _ _
  refine wpAny_pure ⟨Code.quiet_builtin _ (by decide +kernel), codeAny_builtin F.entry_type_call ?_⟩
  rw [Around.under_plain (weight_type_call_type "set" args []) rfl]
  have h1 := F.called_set.notType
  have h2 := F.called_set.canCreate
  repeat (any_goals (first | assumption | wp_step))

  refine codeAny_mono (code_set_new' args hck (E := E) (Q₁ := fun obj s₁ => obj = .ref s.heap.objs.size ∧ s₁ = { s with heap := s.heap.push (setO (freshD w)) }) ⟨rfl, rfl⟩) fun r s₁ hr => ?_
  cases r with
  | error e => exact hr
  | ok fl =>
    cases fl with
    | ret obj =>
      obtain ⟨rfl, rfl⟩ := hr
      have hS : (s.heap.push (setO (freshD w))).get? s.heap.objs.size = some (setO (freshD w)) := Heap.get?_push_size _ rfl
      have hT : Shared.TypeIs { s with heap := s.heap.push (setO (freshD w)) } (.ref s.heap.objs.size) "set" := ⟨_, hS, rfl⟩
      have hli := F.called_set.init.lookup
      have hbi := F.called_set.init.bind (.ref s.heap.objs.size)
      repeat (any_goals (first | assumption | wp_step))

      refine codeAny_mono (codeAny_call_builtin (R := wants (fun r s₂ => r = .none ∧ Q (.ref s.heap.objs.size) s₂) E) F.called_set.init.plain F.entry_set_init (hci _ _ _ hT ?_ _ _)) fun r₂ s₂ hr₂ => ?_
      · refine wpAny_mono h (fun fin s' h' => ?_) fun _ _ x => x
        obtain ⟨rfl, h'⟩ := h'
        exact ⟨rfl, h'⟩
      · cases r₂ with
        | error e => exact hr₂
        | ok fl₂ =>
          cases fl₂ with
          | ret r =>
            obtain ⟨rfl, hq⟩ := hr₂
            repeat (any_goals (first | assumption | wp_step))
          | _ => exact hr₂.elim
    | _ => exact hr.elim
end
end Mine
end
section
open PySem PySem.W PySem.Calls PyProof.Rows
set_option maxRecDepth 100000
set_option autoImplicit false
set_option linter.unusedVariables false
set_option linter.unusedSectionVars false
namespace Mine
theorem peek_cut (w : World) : peek (KF w) ⟨P0, w.params⟩ (typeNameCut 200 (.ref 250)) = some "OrderedSet" := by kernel_rfl
theorem peek_whole (w : World) : peek (KF w) ⟨P0, w.params⟩ (typeNameWhole (.ref 250)) = some "OrderedSet" := by kernel_rfl
section
variable {w : World} {A : Around} {E : Value → Shared → Prop} {s : Shared} {a b : Addr} {o ob : Obj} {S R : List Int} {k : Int} {tk : Tok}

theorem w_typeOf {Q : Value → Shared → Prop} (ho : s.heap.get? a = some o) (h : Q o.cls s) : wpAny (model P0 w) A (typeOf (.ref a)) Q E s := by
  simp only [typeOf]; exact wpAny_bind (wpAny_load ho (wpAny_pure h))
theorem w_shown {Q : Value → Shared → Prop} (ho : s.heap.get? a = some o) (hc : SetLike o) (h : Q o.cls s) : wpAny (model P0 w) A (shownTypeOf (.ref a)) Q E s := by
  unfold shownTypeOf
  refine wpAny_bind (w_typeOf ho ?_)
  refine wp_if_false ?_ (wpAny_pure h)
  rcases hc with hc | hc <;> rw [hc] <;> decide
theorem w_nameCut {Q : String → Shared → Prop} (C : Cx w s.heap) (ho : s.heap.get? a = some o) (hc : SetLike o) (h : ∀ x, Q x s) : wpAny (model P0 w) A (typeNameOfCut 200 (.ref a)) Q E s := by
  unfold typeNameOfCut
  refine wpAny_bind (w_shown ho hc ?_)
  rcases hc with hc | hc <;> rw [hc]
  · show wpAny _ _ (pure _) _ _ _
    exact wpAny_pure (h _)
  · exact (Looks.of_peek C.K (peek_cut w)).here (h _)
theorem w_printedStar {whole : Bool} {sig : Manifest.Signature} {Q : String → Shared → Prop} (C : Cx w s.heap) (ho : s.heap.get? a = some o) (hc : SetLike o) (hs : sig.receiver = .self) (h : ∀ x, Q x s) :
    wpAny (model P0 w) A (Bind.printed "*" whole sig (some (.ref a))) Q E s := by
  unfold Bind.printed Bind.receiverType
  rw [if_neg (by decide), hs]
  refine wpAny_bind (m := (if (Manifest.Receiver.self == Manifest.Receiver.cls) = true then pure (Value.ref a) else typeOf (.ref a))) ?_
  rw [if_neg (by decide)]
  refine w_typeOf ho ?_
  rcases hc with hc | hc <;> rw [hc]
  · exact wpAny_bind (m := typeNameWhole _) (wpAny_pure (wpAny_pure (h _)))
  · exact wpAny_bind ((Looks.of_peek C.K (peek_whole w)).here (wpAny_pure (h _)))

/-- the check of a method of set on a set, or on an OrderedSet -/
theorem w_checkSet {id n : String} {rest : List Value} {Q : Unit → Shared → Prop} (hk : builtinKind id = some .method ∨ builtinKind id = some .slot) (hsp : splitId id = some ("set", n)) (ha : argsOk id ⟨.ref a :: rest, []⟩)
    (C : Cx w s.heap) (ho : s.heap.get? a = some o) (hc : SetLike o) (hQ : Q () s) : wpAny (model P0 w) A (checkBuiltinCall id ⟨.ref a :: rest, []⟩) Q E s := by
  rcases hk with h | h <;>
  · simp only [checkBuiltinCall, h, hsp]
    refine wpAny_bind (w_isSet C ho hc ?_)
    simp only [Bool.not_true, Bool.false_eq_true, if_false]
    cases hsig : Manifest.signature? id with
    | none => exact wpAny_pure hQ
    | some sig =>
      simp only [argsOk, hsig] at ha
      have h2 : Bind.checkArgs id sig ⟨.ref a :: rest, []⟩ = pure () := ha
      show wpAny _ A (Bind.checkArgs id sig ⟨.ref a :: rest, []⟩) Q E s
      rw [h2]; exact wpAny_pure hQ
theorem w_checkInit {rest : List Value} {Q : Unit → Shared → Prop} (hr : rest.length ≤ 1) (C : Cx w s.heap) (ho : s.heap.get? a = some o) (hc : SetLike o) (hQ : Q () s) : wpAny (model P0 w) A (checkBuiltinCall "set.__init__" ⟨.ref a :: rest, []⟩) Q E s := by
  simp only [checkBuiltinCall, kind_set_init, split_set_init, sig_set_init]
  refine wpAny_bind (w_isSet C ho hc ?_)
  simp only [Bool.not_true, Bool.false_eq_true, if_false]
  unfold Bind.checkArgs
  dsimp only
  refine wpAny_bind (m := Bind.printed "set" true _ _) (PyProof.Rows.printed_name (by decide) ?_)
  refine wpAny_bind (m := Bind.printed "*" false _ _) (w_printedStar C ho hc rfl fun short => ?_)
  have hrn : (Manifest.Receiver.self == Manifest.Receiver.none) = false := by decide
  have hn : (if (Manifest.Receiver.self == Manifest.Receiver.none) = true then (Value.ref a :: rest).length else (Value.ref a :: rest).length - 1) = rest.length := by simp [hrn]
  rw [hn]
  simp only [List.map_nil]
  have hk1 : (Manifest.ParamKind.posOnly == Manifest.ParamKind.posOnly) = true := by decide
  have hk2 : (Manifest.ParamKind.posOnly == Manifest.ParamKind.posOrKw) = false := by decide
  have hk3 : (Manifest.ParamKind.posOnly == Manifest.ParamKind.varPos) = false := by decide
  have hc : ∀ m, m ≤ 1 → Bind.check ⟨.positional, "set", "*", .self, [⟨"iterable", .posOnly, false⟩]⟩ "set" short m [] = pure () := fun m hm => by
    have : m = 0 ∨ m = 1 := by omega
    rcases this with rfl | rfl
    · simp [Bind.check, Bind.checkCount, Bind.isPositional]
    · simp [Bind.check, Bind.checkCount, Bind.isPositional, hk1, hk2, hk3]
  rw [hc _ hr]
  exact wpAny_pure hQ

/-- the body of set.__init__ on a fresh table -/
theorem w_initBody {rest : List Value} {Q : Shared → Prop} (hr : rest.length ≤ 1) (C : Cx w s.heap) (ho : s.heap.get? a = some o) (hc : SetLike o) (hd : o.data = freshD w)
    (h : match rest with | [x] => wpAny (model P0 w) A (Builtin.Frozenset.updateFrom "set.__init__" a x) (fun _ s' => Q s') E s | _ => Q s) :
    wpAny (model P0 w) A (Builtin.«set.__init__» ⟨.ref a :: rest, []⟩) (fun fin s' => fin = .done (.ret .none) ∧ Q s') E s := by
  unfold Builtin.«set.__init__» noKeywords
  refine wpAny_bind (m := if _ then _ else _) (wp_if_true rfl (wpAny_pure ?_))
  dsimp only
  refine wpAny_bind (w_nameCut C ho hc fun nm => ?_)
  have hcc : checkCount nm 0 1 rest.length = pure () := by
    unfold checkCount
    have : rest.length = 0 ∨ rest.length = 1 := by omega
    rcases this with e | e <;> rw [e] <;> rfl
  refine wpAny_bind (wpAny_of_eq hcc ?_)
  refine wpAny_bind (m := Builtin.Frozenset.addrOf _) (wpAny_pure ?_)
  unfold setUsed
  refine wpAny_bind (wpAny_bind (wpAny_setState_of ho hd (by simp [SetTable.fits, SetTable.fresh, SetTable.fill]) (wpAny_pure ?_)))
  refine wp_if_false (by simp [SetTable.fresh, SetTable.fill]) ?_
  match rest, hr, h with
  | [], _, h => exact wpAny_pure ⟨rfl, h⟩
  | [x], _, h => exact wpAny_bind (wpAny_mono h (fun _ s' h' => wpAny_pure ⟨rfl, h'⟩) fun _ _ x => x)
  | _ :: _ :: _, hr, _ => simp at hr

theorem k_set0 {Q : Value → Shared → Prop} (C : Cx w s.heap) (h : NewS w s [] Q) : wpAny (model P0 w) A (call (.type "set") []) Q E s := by
  have C' : Cx w (s.heap.push (setO (freshD w))) := C.keeps (Keeps.push _ _)
  refine k_set [] F.newCall_set_0 F.typeCall_set_0 (fun s' self Q hT hQ A E => check_set_init hT hQ) (w_initBody (rest := []) (o := setO (freshD w)) (Nat.zero_le _) C' (Heap.get?_push_size _ rfl) (.inl rfl) rfl ?_)
  exact h _ (freshD w) _ s.toks (fresh_none _) (Keeps.push _ _) (Heap.get?_push_size _ rfl) (fresh_is w)
theorem k_set1 {x : Value} {Q : Value → Shared → Prop} (C : Cx w s.heap)
    (h : wpAny (model P0 w) A.in1.in1 (Builtin.Frozenset.updateFrom "set.__init__" s.heap.objs.size x) (fun _ s' => Q (.ref s.heap.objs.size) s') E { s with heap := s.heap.push (setO (freshD w)) }) :
    wpAny (model P0 w) A (call (.type "set") [x]) Q E s := by
  have C' : Cx w (s.heap.push (setO (freshD w))) := C.keeps (Keeps.push _ _)
  exact k_set [x] (F.newCall_set_1 _) (F.typeCall_set_1 _) (fun s' self Q hT hQ A E => check_set_init_1 hT hQ) (w_initBody (rest := [x]) (o := setO (freshD w)) (Nat.le_refl _) C' (Heap.get?_push_size _ rfl) (.inl rfl) rfl h)
theorem k_set_list {l : Addr} {xs : List Int} {Q : Value → Shared → Prop} (C : Cx w s.heap) (hh : A.handled = none) (hl : LI s.heap l xs) (hx : R10 xs)
    (h : ∀ S', (∀ x, x ∈ S' ↔ x ∈ xs) → NewS w s S' Q) : wpAny (model P0 w) A (call (.type "set") [.ref l]) Q E s := by
  refine k_set1 C ?_
  obtain ⟨vs, ⟨ol, hol, hr⟩, hi⟩ := id hl
  refine w_updateFrom_list (o := setO (freshD w)) hh (hl.keeps fun o e => Heap.get?_push_of_some _ e) hx (Heap.get?_push_size _ rfl) (Ne.symm (Nat.ne_of_lt (Heap.lt_size hol))) (fresh_is w) fun d' S' h' tk hd' hp hk ho' => ?_
  exact h S' (fun x => by rw [hp x]; simp) _ d' h' tk (fresh_none _) (fun b ob e => hk b ob (Nat.ne_of_lt (Heap.lt_size e)) (Heap.get?_push_of_some _ e)) ho' hd'

/-- a call of a method of set on a set, or on an OrderedSet -/
theorem k_setm {id n : String} {B : Builtin} {rest : List Value} {Q : Value → Shared → Prop} (hk : builtinKind id = some .method ∨ builtinKind id = some .slot) (hsp : splitId id = some ("set", n)) (hpl : plainId id = true) (hb : entryFor table id = some B) (ha : argsOk id ⟨.ref a :: rest, []⟩)
    (C : Cx w s.heap) (ho : s.heap.get? a = some o) (hc : SetLike o) (h : wpAny (model P0 w) A.in1 (B ⟨.ref a :: rest, []⟩) (fun fin s' => ∃ v, fin = .done (.ret v) ∧ Q v s') E s) :
    wpAny (model P0 w) A (call (.builtin id) (.ref a :: rest)) Q E s := by
  refine wpAny_call (codeAny_call_builtin hpl hb (w_checkSet hk hsp ha C ho hc (wpAny_mono h (fun fin s' h' => ?_) fun _ _ h' => h')))
  obtain ⟨v, rfl, hv⟩ := h'; exact hv
end
end Mine
end
section
open PySem PySem.W PySem.Calls PyProof.Rows
set_option maxRecDepth 100000
set_option autoImplicit false
set_option linter.unusedVariables false
set_option linter.unusedSectionVars false
namespace Mine
/-- an object that is a set of the digits S -/
noncomputable def SP (w : World) (S : List Int) : Obj → Prop := fun o => ∃ d, o = setO d ∧ IS10 w d S
theorem SP.perm {w : World} {S S' : List Int} {o : Obj} (h : SP w S o) (p : S.Perm S') : SP w S' o := let ⟨d, e, i⟩ := h; ⟨d, e, i.perm p⟩

theorem entry_set_inter : entryFor table "set.intersection" = some Builtin.«frozenset.intersection» := entry_like (id' := "frozenset.intersection") (by kernel_rfl) rfl (by decide +kernel) (by kernel_rfl)
theorem entry_set_diff : entryFor table "set.difference" = some Builtin.«frozenset.difference» := entry_like (id' := "frozenset.difference") (by kernel_rfl) rfl (by decide +kernel) (by kernel_rfl)
theorem entry_set_isdisj : entryFor table "set.isdisjoint" = some Builtin.«frozenset.isdisjoint» := entry_like (id' := "frozenset.isdisjoint") (by kernel_rfl) rfl (by decide +kernel) (by kernel_rfl)

section
variable {w : World} {A : Around} {E : Value → Shared → Prop} {s : Shared} {a b : Addr} {o ob : Obj} {S R : List Int} {k : Int} {tk : Tok}

theorem k_inter_list {l : Addr} {xs : List Int} {Q : Value → Shared → Prop} (C : Cx w s.heap) (hh : A.handled = none) (hl : LI s.heap l xs) (ho : s.heap.get? a = some o) (hc : SetLike o) (hI : IS10 w o.data S) (hal : a ≠ l)
    (h : ∀ S', (∀ x, x ∈ S' ↔ x ∈ S ∧ x ∈ xs) → NewS w s S' Q) : wpAny (model P0 w) A (call (.builtin "set.intersection") [.ref a, .ref l]) Q E s := by
  refine k_setm (n := "intersection") (.inl (by kernel_rfl)) (by kernel_rfl) (by decide +kernel) entry_set_inter (F.args_set_intersection_2 _ _) C ho hc ?_
  refine wpAny_bind (m := Builtin.Frozenset.manyOthers _ _) (wpAny_of_eq (a := (a, [.ref l])) rfl ?_)
  refine wp_if_false rfl ?_
  refine wpAny_bind ?_
  rw [List.forIn_cons]
  refine wpAny_bind (wpAny_bind (wpAny_holding (wpAny_bind (m := Builtin.Frozenset.addrOf _) (wpAny_pure ?_))))
  refine w_inter_list C hh hl ho hc hI hal fun S' hS r d' h' tk hr hk ho' hd' => ?_
  refine wpAny_pure ?_
  dsimp only
  rw [List.forIn_nil]
  refine wpAny_pure ?_
  exact wpAny_pure ⟨_, rfl, h S' hS r d' h' tk hr hk ho' hd'⟩
theorem k_diff_list {l : Addr} {xs : List Int} {Q : Value → Shared → Prop} (C : Cx w s.heap) (hh : A.handled = none) (hl : LI s.heap l xs) (ho : s.heap.get? a = some o) (hc : SetLike o) (hI : IS10 w o.data S)
    (h : ∀ S', (∀ x, x ∈ S' ↔ x ∈ S ∧ x ∉ xs) → NewS w s S' Q) : wpAny (model P0 w) A (call (.builtin "set.difference") [.ref a, .ref l]) Q E s := by
  refine k_setm (n := "difference") (.inl (by kernel_rfl)) (by kernel_rfl) (by decide +kernel) entry_set_diff (F.args_set_difference_2 _ _) C ho hc ?_
  refine wpAny_bind (m := Builtin.Frozenset.manyOthers _ _) (wpAny_of_eq (a := (a, [.ref l])) rfl ?_)
  dsimp only
  refine wpAny_bind (w_diff_list C hh hl ho hc hI fun S' hS r d' h' tk hr hk ho' hd' => ?_)
  refine wpAny_bind (wpAny_holding (wpAny_bind ?_))
  rw [List.forIn_nil]
  refine wpAny_pure (wpAny_pure ?_)
  exact wpAny_pure ⟨_, rfl, h S' hS r d' h' tk hr hk ho' hd'⟩
theorem k_diff_set {Q : Value → Shared → Prop} (C : Cx w s.heap) (hh : A.handled = none) (ho : s.heap.get? a = some o) (hc : SetLike o) (hI : IS10 w o.data S)
    (hob : s.heap.get? b = some ob) (hcb : SetLike ob) (hR : IS10 w ob.data R) (hab : a ≠ b)
    (h : ∀ S', (∀ x, x ∈ S' ↔ x ∈ S ∧ x ∉ R) → NewS w s S' Q) : wpAny (model P0 w) A (call (.builtin "set.difference") [.ref a, .ref b]) Q E s := by
  refine k_setm (n := "difference") (.inl (by kernel_rfl)) (by kernel_rfl) (by decide +kernel) entry_set_diff (F.args_set_difference_2 _ _) C ho hc ?_
  refine wpAny_bind (m := Builtin.Frozenset.manyOthers _ _) (wpAny_of_eq (a := (a, [.ref b])) rfl ?_)
  dsimp only
  refine wpAny_bind (w_diff_set C hh ho hc hI hob hcb hR hab fun S' hS r d' h' tk hr hk ho' hd' => ?_)
  refine wpAny_bind (wpAny_holding (wpAny_bind ?_))
  rw [List.forIn_nil]
  refine wpAny_pure (wpAny_pure ?_)
  exact wpAny_pure ⟨_, rfl, h S' hS r d' h' tk hr hk ho' hd'⟩

/-- what an operation on the set at a leaves -/
noncomputable def Chg (w : World) (s : Shared) (a : Addr) (o : Obj) (S' : List Int) (s' : Shared) : Prop := ∃ d' h' tk, IS10 w d' S' ∧ (∀ b ob, b ≠ a → s.heap.get? b = some ob → h'.get? b = some ob) ∧ h'.get? a = some { o with data := d' } ∧ s' = { s with heap := h', toks := tk }

theorem k_add {Q : Value → Shared → Prop} (C : Cx w s.heap) (ho : s.heap.get? a = some o) (hc : SetLike o) (hI : IS10 w o.data S) (hk : 0 ≤ k ∧ k < 10)
    (h : ∀ S' s', (∀ x, x ∈ S' ↔ x ∈ S ∨ x = k) → Chg w s a o S' s' → Q .none s') : wpAny (model P0 w) A (call (.builtin "set.add") [.ref a, .int k tk]) Q E s := by
  refine k_setm (n := "add") (.inl (by kernel_rfl)) (by kernel_rfl) (by decide +kernel) F.entry_set_add (F.args_set_add_2 _ _) C ho hc ?_
  refine wpAny_bind (m := Builtin.Frozenset.oneOther _ _) (wpAny_of_eq (a := (a, .int k tk)) rfl ?_)
  refine wpAny_bind (w_setAdd ho hI hk fun d' S' h' b hd' hp hsb ho' => ?_)
  exact wpAny_pure ⟨_, rfl, h S' _ (fun x => by rw [hp x, List.mem_singleton]) ⟨d', h', _, hd', hsb.extBut, ho', rfl⟩⟩

theorem k_discard {Q : Value → Shared → Prop} (C : Cx w s.heap) (ho : s.heap.get? a = some o) (hc : SetLike o) (hI : IS10 w o.data S)
    (h : ∀ S' s', (∀ x, x ∈ S' ↔ x ∈ S ∧ x ≠ k) → Chg w s a o S' s' → Q .none s') : wpAny (model P0 w) A (call (.builtin "set.discard") [.ref a, .int k tk]) Q E s := by
  refine k_setm (n := "discard") (.inl (by kernel_rfl)) (by kernel_rfl) (by decide +kernel) F.entry_set_discard (F.args_set_discard_2 _ _) C ho hc ?_
  refine wpAny_bind (m := Builtin.Frozenset.oneOther _ _) (wpAny_of_eq (a := (a, .int k tk)) rfl ?_)
  refine wpAny_bind ?_
  unfold Builtin.Frozenset.withSetAsKey
  refine wpAny_tryCatch (w_discard ho hI fun d' S' h' b tk hd' hp hsb ho' hb => ?_)
  exact wpAny_pure ⟨_, rfl, h S' _ hp ⟨d', h', _, hd', hsb.extBut, ho', rfl⟩⟩
theorem k_remove {Q : Value → Shared → Prop} (C : Cx w s.heap) (ho : s.heap.get? a = some o) (hc : SetLike o) (hI : IS10 w o.data S) (hk : k ∈ S)
    (h : ∀ S' s', (∀ x, x ∈ S' ↔ x ∈ S ∧ x ≠ k) → Chg w s a o S' s' → Q .none s') : wpAny (model P0 w) A (call (.builtin "set.remove") [.ref a, .int k tk]) Q E s := by
  refine k_setm (n := "remove") (.inl (by kernel_rfl)) (by kernel_rfl) (by decide +kernel) F.entry_set_remove (F.args_set_remove_2 _ _) C ho hc ?_
  refine wpAny_bind (m := Builtin.Frozenset.oneOther _ _) (wpAny_of_eq (a := (a, .int k tk)) rfl ?_)
  refine wpAny_bind ?_
  unfold Builtin.Frozenset.withSetAsKey
  refine wpAny_tryCatch (w_discard ho hI fun d' S' h' b tk hd' hp hsb ho' hb => ?_)
  refine wp_if_false (by rw [hb]; simp [hk]) ?_
  exact wpAny_pure ⟨_, rfl, h S' _ hp ⟨d', h', _, hd', hsb.extBut, ho', rfl⟩⟩

theorem k_update_list {l : Addr} {xs : List Int} {Q : Value → Shared → Prop} (C : Cx w s.heap) (hh : A.handled = none) (hl : LI s.heap l xs) (hx : R10 xs) (hal : a ≠ l) (ho : s.heap.get? a = some o) (hc : SetLike o) (hI : IS10 w o.data S)
    (h : ∀ S' s', (∀ x, x ∈ S' ↔ x ∈ S ∨ x ∈ xs) → Chg w s a o S' s' → Q .none s') : wpAny (model P0 w) A (call (.builtin "set.update") [.ref a, .ref l]) Q E s := by
  refine k_setm (n := "update") (.inl (by kernel_rfl)) (by kernel_rfl) (by decide +kernel) F.entry_set_update (F.args_set_update_2 _ _) C ho hc ?_
  refine wpAny_bind (m := Builtin.Frozenset.manyOthers _ _) (wpAny_of_eq (a := (a, [.ref l])) rfl ?_)
  dsimp only
  refine wpAny_bind ?_
  rw [List.forIn_cons]
  refine wpAny_bind (wpAny_bind (w_updateFrom_list (A := A.in1) hh hl hx ho hal hI fun d' S' h' tk hd' hp hk ho' => wpAny_pure ?_))
  dsimp only
  rw [List.forIn_nil]
  refine wpAny_pure ?_
  exact wpAny_pure ⟨_, rfl, h S' _ hp ⟨d', h', _, hd', hk, ho', rfl⟩⟩
theorem k_diffupd_list {l : Addr} {xs : List Int} {Q : Value → Shared → Prop} (C : Cx w s.heap) (hh : A.handled = none) (hl : LI s.heap l xs) (hal : a ≠ l) (ho : s.heap.get? a = some o) (hc : SetLike o) (hI : IS10 w o.data S)
    (h : ∀ S' s', (∀ x, x ∈ S' ↔ x ∈ S ∧ x ∉ xs) → Chg w s a o S' s' → Q .none s') : wpAny (model P0 w) A (call (.builtin "set.difference_update") [.ref a, .ref l]) Q E s := by
  refine k_setm (n := "difference_update") (.inl (by kernel_rfl)) (by kernel_rfl) (by decide +kernel) F.entry_set_difference_update (F.args_set_difference_update_2 _ _) C ho hc ?_
  refine wpAny_bind (m := Builtin.Frozenset.manyOthers _ _) (wpAny_of_eq (a := (a, [.ref l])) rfl ?_)
  dsimp only
  refine wpAny_bind ?_
  rw [List.forIn_cons]
  refine wpAny_bind (wpAny_bind (w_diffUpd_list (A := A.in1) hh hl ho hal hI fun d' S' h' tk hd' hp hk ho' => wpAny_pure ?_))
  dsimp only
  rw [List.forIn_nil]
  refine wpAny_pure ?_
  exact wpAny_pure ⟨_, rfl, h S' _ hp ⟨d', h', _, hd', hk, ho', rfl⟩⟩
theorem k_isdisjoint {Q : Value → Shared → Prop} (C : Cx w s.heap) (ho : s.heap.get? a = some o) (hc : SetLike o) (hI : IS10 w o.data S) (hob : s.heap.get? b = some (setO ob.data)) (hR : IS10 w ob.data R) (hab : a ≠ b)
    (h : Q (.bool (decide (∀ x ∈ S, x ∉ R))) s) : wpAny (model P0 w) A (call (.builtin "set.isdisjoint") [.ref a, .ref b]) Q E s := by
  refine k_setm (n := "isdisjoint") (.inl (by kernel_rfl)) (by kernel_rfl) (by decide +kernel) entry_set_isdisj (F.args_set_isdisjoint_2 _ _) C ho hc ?_
  exact w_isdisjoint ho hI hob hR hab h

theorem k_inSet {Q : Value → Shared → Prop} (ho : HasP s.heap (a, SP w S)) (h : ∀ t, Q (.bool (decide (k ∈ S))) { s with toks := t }) : wpAny (model P0 w) A (compareOp .In (.int k tk) (.ref a)) Q E s := by
  obtain ⟨_, ho, d, rfl, hI⟩ := ho
  have hT : s.TypeIs (.ref a) "set" := ⟨_, ho, rfl⟩
  show wpAny _ _ (do return .bool (← contains (.ref a) (.int k tk))) Q E s
  refine wpAny_bind ?_
  unfold contains
  try with_reducible refine wpAny_holding ?_
  refine wpAny_bind (wpAny_specialOf hT F.slot_set_contains.lookup ?_)
  show wpAny _ _ (if (some (Value.builtin "set.__contains__") == some Value.none) = true then _ else _) _ E s
  rw [if_neg (by rw [beq_builtin_none]; exact Bool.false_ne_true)]
  refine wpAny_bind (wpAny_callSpecialUnlessNone?_slot (name := Str.ofString "__contains__") hT F.slot_set_contains
    (wpAny_call_entry F.slot_set_contains hT entry_set_contains ?_ (F.args_set_contains_2 _ _)))
  unfold Builtin.«frozenset.__contains__» Builtin.Frozenset.oneOther Builtin.Frozenset.addrOf Builtin.Frozenset.withSetAsKey setContains
  simp only [List.isEmpty_nil, pure_bind]
  refine wpAny_bind (wpAny_tryCatch (wpAny_holding (wpAny_bind ((KI w).pyHash (intKind_is _ _ _ _) ?_))))
  refine wpAny_bind (w_setFind (s := { s with toks := s.toks + 1 }) (o := setO d) ho hI.is (by have := hI.len; show _ < 4096; omega) fun r hr => ?_)
  refine wpAny_pure ?_
  show wpAny _ _ (ret (Value.bool r.isSome)) _ _ _
  rw [hr]
  exact wpAny_pure ⟨_, rfl, wpAny_truthy_bool (wpAny_pure (h _))⟩
end
end Mine
end
section
open PySem PySem.W PySem.Calls PyProof.Rows
set_option maxRecDepth 100000
set_option autoImplicit false
set_option linter.unusedVariables false
set_option linter.unusedSectionVars false
namespace Mine
theorem kind_iter : builtinKind "iter" = none := by decide +kernel
theorem plain_iter : plainId "iter" = true := by decide +kernel
theorem entry_iter : entryFor table "iter" = some Builtin.«iter» := entryFor_of_tree (by kernel_rfl)
theorem args_iter1 (a : Value) : argsOk "iter" ⟨[a], []⟩ := by unfold argsOk; kernel_rfl
/-- a list of the ints xs -/
noncomputable def IL (xs : List Int) : Obj → Prop := fun o => ∃ vs : List Value, LP vs.toArray o ∧ IntsAre vs xs

section
variable {w : World} {A : Around} {E : Value → Shared → Prop} {s : Shared} {env : Env} {G : Array GenState} {O : OsState} {V : View} {L : Addr} {ns : List Str} {vs : List (Option Value)} {own : List Kp}

theorem IL.li {h : Heap} {l : Addr} {xs : List Int} (x : HasP h (l, IL xs)) : LI h l xs := let ⟨_, ho, vs, ⟨n, e⟩, hi⟩ := x; ⟨vs, ⟨_, e ▸ ho, rfl, n, rfl⟩, hi⟩
theorem LP.isList {h : Heap} {l : Addr} {items : Array Value} (x : HasP h (l, LP items)) : h.IsList l items := let ⟨_, ho, n, e⟩ := x; ⟨_, e ▸ ho, rfl, n, rfl⟩

theorem Fm.chg (F : Fm w G O V L ns vs own s) {i : Nat} {a : Addr} {o : Obj} {S S' : List Int} {s' : Shared} (hi : own[i]? = some (a, SP w S)) (hd : ∃ d, o = setO d) (hc : Chg w s a o S' s') : Fm w G O V L ns vs (own.set i (a, SP w S')) s' := by
  obtain ⟨d', h', tk, hd', hk, ho', rfl⟩ := hc
  obtain ⟨d, rfl⟩ := hd
  exact F.change (s' := { s with heap := h', toks := tk }) hi (fun b ob hb e => hk b ob hb e) ⟨_, ho', d', rfl, hd'⟩ F.gens F.os
theorem Fm.newS (F : Fm w G O V L ns vs own s) {S : List Int} {Q : Value → Shared → Prop} (h : ∀ r s', Fm w G O V L ns vs ((r, SP w S) :: own) s' → Q (.ref r) s') : NewS w s S Q :=
  fun r d' h' tk hr hk ho hd => h r _ (F.alloc (s' := { s with heap := h', toks := tk }) hk F.gens F.os hr ⟨_, ho, d', rfl, hd⟩)

/-! pairs -/
theorem u_pair {t : Addr} {x y : Value} {Q : List Value → Shared → Prop} (hh : A.handled = none) (F : Fm w G O V L ns vs own s) (ht : HasP s.heap (t, TP #[x, y])) (h : ∀ s', Fm w G O V L ns vs own s' → Q [x, y] s') :
    wpAny (model P0 w) A (unpackItems (.ref t) 2 none) Q E s := by
  obtain ⟨_, ho, rfl⟩ := ht
  refine unpackItems_tuple (items := #[x, y]) hh ⟨_, ho, rfl, 0, rfl⟩ fun h' he => h _ (F.keeps (s' := { s with heap := h' }) (fun b o e => he b o (Nat.ne_of_lt (Heap.lt_size e)) e) F.gens F.os)
theorem a_pair {t : Addr} {x y : Value} {t₁ t₂ : PySem.Expr} {k : Nat} {pos : Pos} {Q : Unit → Shared → Prop} (hh : A.handled = none) (F : Fm w G O V L ns vs own s) (ht : HasP s.heap (t, TP #[x, y]))
    (h : ∀ s', Fm w G O V L ns vs own s' → wpAny (model P0 w) A (assign t₁ env x) (fun _ s₁ => wpAny (model P0 w) A (assign t₂ env y) Q E s₁) E s')
    (he : assignEach [t₁, t₂] env = [(false, assign t₁ env), (false, assign t₂ env)] := by rfl) :
    wpAny (model P0 w) A (assign (.Tuple [t₁, t₂] k pos) env (.ref t)) Q E s := by
  rw [arm_assign_Tuple, he]
  refine wpAny_bind (wpAny_standAt ?_)
  unfold unpack
  refine wpAny_bind (wpAny_holding (u_pair hh F ht fun s' F' => ?_))
  show wpAny _ _ (do holding [y] (assign t₁ env x); (do holding [] (assign t₂ env y); pure ())) _ _ _
  exact wpAny_bind (wpAny_holding (wpAny_mono (h s' F') (fun _ s₁ h₁ => wpAny_bind (wpAny_holding (wpAny_mono h₁ (fun _ _ q => wpAny_pure q) fun _ _ x => x))) fun _ _ x => x))
/-- two names take the two of a display, the second first -/
theorem x_swap2 {t₁ t₂ : PySem.Expr} {n1 n2 : Str} {k : Nat} {tpos pos : Pos} {value : PySem.Expr} {Q : Flow → Shared → Prop} (_F₀ : Fm w G O V L ns vs own s) (hh : A.handled = none)
    (h : wpAny (model P0 w) A (eval value env) (fun v s₁ => ∃ t x y vs own, v = .ref t ∧ HasP s₁.heap (t, TP #[x, y]) ∧ Fm w G O V L ns vs own s₁ ∧ ∀ s', Fm w G O V L ns vs own s' →
      wpAny (model P0 w) A (storeName env n2 y) (fun _ s₂ => wpAny (model P0 w) A (storeName env n1 x) (fun _ => Q .next) E s₂) E s') E s)
    (hs : swapsWithSole [.Tuple [t₁, t₂] k tpos] value pos.line env = pure false := by rfl)
    (hw : swappedStores [.Tuple [t₁, t₂] k tpos] value env = pure (some [n1, n2]) := by rfl) :
    wpAny (model P0 w) A (exec (.Assign [.Tuple [t₁, t₂] k tpos] value pos) env) Q E s := by
  refine Assign_Tuple_swapped (names := [n1, n2]) (wpAny_mono h (fun v s₁ h₁ => ?_) fun _ _ x => x) hs hw
  obtain ⟨t, x, y, vs, own, rfl, ht, F, hQ⟩ := h₁
  refine u_pair hh F ht fun s' F' => ?_
  show wpAny _ _ (do holding [x] (bindName env n2 y); (do holding [] (bindName env n1 x); pure ())) _ _ _
  exact wpAny_bind (wpAny_holding (bindName_ (wpAny_mono (hQ s' F') (fun _ s₁ h₁ => wpAny_bind (wpAny_holding (bindName_ (wpAny_mono h₁ (fun _ _ q => wpAny_pure q) fun _ _ x => x)))) fun _ _ x => x)))
/-- two names or cells take a pair, in order -/
theorem x_pair {t₁ t₂ : PySem.Expr} {k : Nat} {tpos pos : Pos} {value : PySem.Expr} {Q : Flow → Shared → Prop} (_F₀ : Fm w G O V L ns vs own s) (hh : A.handled = none)
    (h : wpAny (model P0 w) A (eval value env) (fun v s₁ => ∃ t x y vs own, v = .ref t ∧ HasP s₁.heap (t, TP #[x, y]) ∧ Fm w G O V L ns vs own s₁ ∧ ∀ s', Fm w G O V L ns vs own s' →
      wpAny (model P0 w) A (assign t₁ env x) (fun _ s₂ => wpAny (model P0 w) A (assign t₂ env y) (fun _ => Q .next) E s₂) E s') E s)
    (hs : swapsWithSole [.Tuple [t₁, t₂] k tpos] value pos.line env = pure false := by rfl)
    (hw : swappedStores [.Tuple [t₁, t₂] k tpos] value env = pure none := by rfl)
    (he : assignEach [t₁, t₂] env = [(false, assign t₁ env), (false, assign t₂ env)] := by rfl) :
    wpAny (model P0 w) A (exec (.Assign [.Tuple [t₁, t₂] k tpos] value pos) env) Q E s := by
  refine Assign_Tuple (wpAny_mono h (fun v s₁ h₁ => ?_) fun _ _ x => x) hs hw
  obtain ⟨t, x, y, vs, own, rfl, ht, F, hQ⟩ := h₁
  exact a_pair hh F ht hQ he

/-! methods -/
theorem gm_set {a : Addr} {S : List Int} {name : Str} {id : String} {pl : Sem Bool} {Q : Value × List Value → Shared → Prop} (slot : Slot "set" name id) (ty : typeOf (.builtin id) = pure (.type "method_descriptor")) (ho : HasP s.heap (a, SP w S))
    (h : Q (.builtin id, [.ref a]) s) : wpAny (model P0 w) A (getMethod (.ref a) name pl) Q E s := by
  obtain ⟨_, ho, d, rfl, _⟩ := ho
  exact getMethod_builtin ⟨_, ho, rfl⟩ F.plainAttrs_set slot ty (fun b e => by cases e; exact ⟨_, ho, rfl⟩) h
theorem gm_list {a : Addr} {items : Array Value} {name : Str} {id : String} {pl : Sem Bool} {Q : Value × List Value → Shared → Prop} (slot : Slot "list" name id) (ty : typeOf (.builtin id) = pure (.type "method_descriptor")) (ho : HasP s.heap (a, LP items))
    (h : Q (.builtin id, [.ref a]) s) : wpAny (model P0 w) A (getMethod (.ref a) name pl) Q E s := by
  obtain ⟨_, ho, n, rfl⟩ := ho
  exact getMethod_builtin ⟨_, ho, rfl⟩ F.plainAttrs_list slot ty (fun b e => by cases e; exact ⟨_, ho, rfl⟩) h

theorem k_iter_list {l : Addr} {items : Array Value} {Q : Value → Shared → Prop} (F : Fm w G O V L ns vs own s) (hl : s.heap.IsList l items) (h : ∀ I s', Fm w G O V L ns vs ((I, LIt l 0) :: own) s' → Q (.ref I) s') :
    wpAny (model P0 w) A (call (.builtin "iter") [.ref l]) Q E s := by
  refine call_function_entry kind_iter plain_iter entry_iter (args_iter1 _) ?_
  refine wpAny_bind (m := someArgs _ _ _ _) (wpAny_of_eq (a := [.ref l]) rfl ?_)
  refine wpAny_bind (wpAny_pyIter_list hl ?_)
  exact wpAny_pure ⟨_, rfl, h _ _ (F.push _ ⟨rfl, rfl⟩)⟩
theorem i_list {l : Addr} {items : Array Value} {Q : Value → Shared → Prop} (F : Fm w G O V L ns vs own s) (hl : s.heap.IsList l items) (h : ∀ I s', Fm w G O V L ns vs ((I, LIt l 0) :: own) s' → l ≠ I → Q (.ref I) s') :
    wpAny (model P0 w) A (pyIter (.ref l)) Q E s := by
  obtain ⟨o, ho, _⟩ := id hl
  exact wpAny_pyIter_list hl (h _ _ (F.push _ ⟨rfl, rfl⟩) (Nat.ne_of_lt (Heap.lt_size ho)))
theorem i_self {I l : Addr} {i : Nat} {Q : Value → Shared → Prop} (hit : HasP s.heap (I, LIt l i)) (h : Q (.ref I) s) : wpAny (model P0 w) A (pyIter (.ref I)) Q E s := wpAny_pyIter_listiter hit h
end
end Mine
end
section
open PySem PySem.W PySem.Calls PyProof.Rows
set_option maxRecDepth 100000
set_option autoImplicit false
set_option linter.unusedVariables false
set_option linter.unusedSectionVars false
namespace Mine
section
variable {w : World} {A : Around} {E : Value → Shared → Prop} {s : Shared} {env : Env} {G : Array GenState} {O : OsState} {V : View} {L : Addr} {ns : List Str} {vs : List (Option Value)} {own : List Kp}

theorem w_extLoop {S I l : Addr} {items : Array Value} {res : Value} {Rz : Result → Shared → Prop} (hh : A.handled = none) (hSI : S ≠ I) (hlI : l ≠ I) (hlS : l ≠ S) (hsz : items.size ≤ 100) :
    ∀ (k i : Nat) (s : Shared) (acc : List Value), items.size - i = k → i ≤ items.size → acc.length + (items.size - i) ≤ 1000 → HasP s.heap (I, LIt l i) → s.heap.IsList l items → HasP s.heap (S, LP acc.toArray) →
    (∀ h' tk, HasP h' (S, LP (acc ++ items.toList.drop i).toArray) → (∀ b o, b ≠ S → b ≠ I → s.heap.get? b = some o → h'.get? b = some o) → Rz (.ok (.ret res)) { s with heap := h', toks := tk }) →
    codeAny (model P0 w) A (.builtin "list.extend.loop" ⟨[.ref S, .ref I, res], []⟩) Rz s := by
  have It := Iter.list (w := w) (A := A.in1) (by exact hh) I l hlI items
  intro k
  induction k with
  | zero =>
    intro i s acc hk hi hb hit hl hS hR
    have hin : i = items.size := by omega
    subst hin
    refine codeAny_builtin F.entry_extend_loop ?_
    rw [Around.under_plainId F.plain_extend_loop _]
    show wpAny _ A.in1 (pyNext (.ref I) >>= _) _ _ s
    refine wpAny_bind (It.done s _ _ hit hl fun h' tk hk' => ?_)
    refine wpAny_pure (hR h' tk ?_ fun b o hbS hbI e => hk' b o hbI e)
    have : items.toList.drop items.size = [] := by rw [← Array.length_toList]; exact List.drop_length
    rw [this, List.append_nil]
    exact hS.keeps fun o e => hk' S o hSI e
  | succ k ih =>
    intro i s acc hk hi hb hit hl hS hR
    have hlt : i < items.size := by omega
    refine codeAny_builtin F.entry_extend_loop ?_
    rw [Around.under_plainId F.plain_extend_loop _]
    show wpAny _ A.in1 (pyNext (.ref I) >>= _) _ _ s
    refine wpAny_bind (It.item i s _ _ hlt hit hl fun v h' tk hP hst' hm => ?_)
    obtain ⟨_, hoS, n, rfl⟩ := hS
    have hS' := hm S _ hSI hoS
    show wpAny _ A.in1 (updateSeq S (·.push v) >>= _) _ _ _
    refine wpAny_bind ?_
    have hsb := Heap.SameBut.update h' S (Obj.mapSeq (·.push v))
    refine wpAny_updateSeq hS' rfl (wpAny_pure ⟨plainId_quiet F.plain_extend_loop _, ih (i + 1) _ (acc ++ [v]) (by omega) hlt (by simp; omega) (hst'.keeps fun o e => (hsb.2 I (Ne.symm hSI)).trans e) ?_ ?_ fun h'' tk'' hS'' hk'' => ?_⟩) (by rw [List.size_toArray, sizeLine_eq]; omega) (by rw [Array.size_push, List.size_toArray, sizeLine_eq]; omega)
    · obtain ⟨ol, hol, r⟩ := hl
      exact ⟨ol, (hsb.2 l hlS).trans (hm l ol hlI hol), r⟩
    · rw [← List.push_toArray]; exact ⟨_, IsL.update hS' _, _, rfl⟩
    · refine hR h'' tk'' ?_ fun b o hbS hbI e => hk'' b o hbS hbI ((hsb.2 b hbS).trans (hm b o hbI e))
      have hd : items.toList.drop i = v :: items.toList.drop (i + 1) := by
        have hl' : i < items.toList.length := by simpa using hlt
        rw [List.drop_eq_getElem_cons hl']
        have : items[i]? = some v := hP
        rw [Array.getElem?_eq_getElem hlt] at this
        rw [← Option.some.inj this]; simp
      rw [hd]
      simpa using hS''

theorem k_extend_it {S I l : Addr} {items : Array Value} {i : Nat} {acc : List Value} {Q : Value → Shared → Prop} (hh : A.handled = none) (hSI : S ≠ I) (hlI : l ≠ I) (hlS : l ≠ S) (hsz : items.size ≤ 100) (hi : i ≤ items.size) (hb : acc.length ≤ 900)
    (hit : HasP s.heap (I, LIt l i)) (hl : s.heap.IsList l items) (hS : HasP s.heap (S, LP acc.toArray))
    (h : ∀ h' tk, HasP h' (S, LP (acc ++ items.toList.drop i).toArray) → (∀ b o, b ≠ S → b ≠ I → s.heap.get? b = some o → h'.get? b = some o) → Q .none { s with heap := h', toks := tk }) :
    wpAny (model P0 w) A (call (.builtin "list.extend") [.ref S, .ref I]) Q E s := by
  have hTS : s.TypeIs (.ref S) "list" := (LP.isList hS).typeIs
  obtain ⟨oi, hoi, hc, hd⟩ := id hit
  have hT : s.TypeIs (.ref I) "list_iterator" := ⟨oi, hoi, hc⟩
  refine wpAny_call (codeAny_call_builtin F.slot_list_extend.plain F.entry_list_extend (F.slot_list_extend.check _ _ _ _ _ _ _ _ hTS (F.args_list_extend_2 _ _) ?_))
  unfold Builtin.«list.extend»
  refine wpAny_bind (m := selfAndOne _ _) (wpAny_of_eq (a := (.ref S, .ref I)) rfl ?_)
  show wpAny _ A.in1 (Builtin.List.listExtendWith (.ref S) (.ref I) .none) _ _ _
  unfold Builtin.List.listExtendWith
  refine wpAny_bind (wpAny_typeOf hT ?_)
  have h1 : Builtin.List.listSameRef (.ref S) (.ref I) = false := by simp [Builtin.List.listSameRef, hSI]
  rw [if_neg (by rw [h1]; decide)]
  refine wpAny_bind (i_self hit ?_)
  refine wpAny_bind (wpAny_holding ?_)
  unfold Builtin.List.listLengthHint
  refine wpAny_bind (wpAny_specialOf hT F.nolen_li ?_)
  show wpAny _ A.in1 (specialOf (Value.ref I) (Str.ofString "__length_hint__") >>= _) _ _ _
  refine wpAny_bind (wpAny_specialOf hT F.hint_li ?_)
  (generalize hid : ("list_iterator.__length_hint__" : String) = id0; (fail_if_success (clear hid id0)); wp_delta; rw [show splitId id0 = some ("list_iterator", "__length_hint__") from by subst hid; decide +kernel]; subst hid)
  refine wpAny_bind (wpAny_isInstance (b := true) hT (by rw [isSubtype_type]; kernel_rfl) ?_)
  refine wpAny_pure ?_
  rw [if_neg (by decide)]
  exact wpAny_pure ⟨plainId_quiet F.plain_extend_loop _, w_extLoop hh hSI hlI hlS hsz _ i s acc rfl hi (by omega) hit hl hS h⟩
end
end Mine
end
section
open PySem PySem.W PySem.Calls PyProof.Rows
set_option maxRecDepth 100000
set_option autoImplicit false
set_option linter.unusedVariables false
set_option linter.unusedSectionVars false
namespace Mine
noncomputable def VP (V : View) (p : Kp) : Prop := ∃ o, V p.1 = some o ∧ p.2 o
theorem gv_set (w : World) : GV w "set" (.type "set") := .inr ⟨by kernel_rfl, by kernel_rfl, by decide⟩
theorem gv_list (w : World) : GV w "list" (.type "list") := .inr ⟨by kernel_rfl, by kernel_rfl, by decide⟩
theorem gv_dict (w : World) : GV w "dict" (.type "dict") := .inr ⟨by kernel_rfl, by kernel_rfl, by decide⟩
theorem gv_iter (w : World) : GV w "iter" (.builtin "iter") := .inr ⟨by kernel_rfl, by kernel_rfl, by decide⟩
theorem gv_len (w : World) : GV w "len" (.builtin "len") := .inr ⟨by kernel_rfl, by kernel_rfl, by decide⟩
theorem gv_range (w : World) : GV w "range" (.type "range") := .inr ⟨by kernel_rfl, by kernel_rfl, by decide⟩
theorem gv_all (w : World) : GV w "all" (.builtin "all") := .inr ⟨by kernel_rfl, by kernel_rfl, by decide⟩
theorem gv_sorted (w : World) : GV w "sorted" (.builtin "sorted") := .inr ⟨by kernel_rfl, by kernel_rfl, by decide⟩
theorem gv_isinstance (w : World) : GV w "isinstance" (.builtin "isinstance") := .inr ⟨by kernel_rfl, by kernel_rfl, by decide⟩
theorem gv_defaultdict (w : World) : GV w "defaultdict" (.type "collections.defaultdict") := .inl (by kernel_rfl)
theorem gv_OrderedSet (w : World) : GV w "OrderedSet" (.ref 250) := .inl (by kernel_rfl)
theorem gv_merge (w : World) : GV w "merge_lists_w_ordering" (.ref 260) := .inl (by kernel_rfl)
theorem gv_CDE (w : World) : GV w "CircularDependencyError" (.ref 277) := .inl (by kernel_rfl)
theorem gv_sas (w : World) : GV w "sort_as_subsets" (.ref 285) := .inl (by kernel_rfl)
theorem gv_sort (w : World) : GV w "sort" (.ref 293) := .inl (by kernel_rfl)
theorem gv_find (w : World) : GV w "find_cycles" (.ref 300) := .inl (by kernel_rfl)
theorem gv_gen (w : World) : GV w "_gen_edges" (.ref 305) := .inl (by kernel_rfl)
theorem gv_pairs (w : World) : GV w "_law_pairs" (.ref 310) := .inl (by kernel_rfl)
theorem gv_behind (w : World) : GV w "_law_behind" (.ref 315) := .inl (by kernel_rfl)
theorem gv_keeps (w : World) : GV w "_law_keeps" (.ref 320) := .inl (by kernel_rfl)
theorem gv_sorted' (w : World) : GV w "_law_sorted" (.ref 327) := .inl (by kernel_rfl)
theorem gv_healed (w : World) : GV w "_law_healed" (.ref 332) := .inl (by kernel_rfl)
theorem gv_unique (w : World) : GV w "unique_list" (.ref 46) := .inl (by kernel_rfl)

section
variable {w : World} {A : Around} {E : Value → Shared → Prop} {s : Shared} {env : Env} {G : Array GenState} {O : OsState} {V : View} {L : Addr} {ns : List Str} {vs : List (Option Value)} {own : List Kp}

theorem Fm.vp (F : Fm w G O V L ns vs own s) {p : Kp} (h : VP V p) : HasP s.heap p := let ⟨o, a, b⟩ := h; ⟨o, F.view _ _ a, b⟩
theorem Fm.vne (F : Fm w G O V L ns vs own s) {p q : Kp} (h : VP V p) (m : q ∈ own) : p.1 ≠ q.1 := fun e => by
  obtain ⟨o, a, b⟩ := h
  rw [e, F.vo q m] at a; cases a
theorem Fm.one (F : Fm w G O V L ns vs own s) {i j : Nat} {p q : Kp} (hi : own[i]? = some p) (hj : own[j]? = some q) (h : i ≠ j) : p.1 ≠ q.1 := fun e => h (by
  have h1 : (own.map (·.1))[i]? = some p.1 := by rw [List.getElem?_map, hi]; rfl
  have h2 : (own.map (·.1))[j]? = some p.1 := by rw [List.getElem?_map, hj, e]; rfl
  exact (List.getElem?_inj (List.getElem?_eq_some_iff.mp h1).1 F.nd).mp (h1.trans h2.symm))

theorem IntsAre.snoc {vs : List Value} {xs : List Int} (h : IntsAre vs xs) (k : Int) (t : Tok) : IntsAre (vs ++ [.int k t]) (xs ++ [k]) := by
  induction h with
  | nil => exact .cons _ _ .nil
  | cons n t' hr ih => exact .cons _ _ ih
theorem IntsAre.app {vs ws : List Value} {xs ys : List Int} (h : IntsAre vs xs) (g : IntsAre ws ys) : IntsAre (vs ++ ws) (xs ++ ys) := by
  induction h with
  | nil => exact g
  | cons n t' hr ih => exact .cons _ _ ih
theorem IntsAre.dropN {vs : List Value} {xs : List Int} (h : IntsAre vs xs) : ∀ i, IntsAre (vs.drop i) (xs.drop i) := by
  induction h with
  | nil => intro i; simp; exact .nil
  | cons n t' hr ih =>
    intro i
    cases i with
    | zero => exact .cons _ _ hr
    | succ i => exact ih i
theorem IL.items {o : Obj} {xs : List Int} (h : IL xs o) : ∃ vs : List Value, LP vs.toArray o ∧ IntsAre vs xs ∧ vs.length = xs.length := let ⟨vs, a, b⟩ := h; ⟨vs, a, b, IntsAre.length b⟩

/-- an int is appended -/
theorem k_appendI {l : Addr} {xs : List Int} {k : Int} {t : Tok} {Q : Value → Shared → Prop} {i : Nat} (F : Fm w G O V L ns vs own s) (hi : own[i]? = some (l, IL xs)) (hb : xs.length ≤ 1000)
    (h : ∀ s', Fm w G O V L ns vs (own.set i (l, IL (xs ++ [k]))) s' → Q .none s') : wpAny (model P0 w) A (call (.builtin "list.append") [.ref l, .int k t]) Q E s := by
  obtain ⟨o, ho, vs', hl, hv⟩ := F.get (List.mem_of_getElem? hi)
  have hlen := IntsAre.length hv
  refine k_append (items := vs'.toArray) ⟨o, ho, hl⟩ (by rw [List.size_toArray, sizeLine_eq]; omega) fun h' hp hsb => ?_
  refine h _ (F.change (s' := { s with heap := h' }) hi hsb.extBut ?_ F.gens F.os)
  obtain ⟨o', ho', hl'⟩ := hp
  exact ⟨o', ho', vs' ++ [.int k t], by rw [← List.push_toArray]; exact hl', IntsAre.snoc hv k t⟩
end

/-! merge, plainly -/
noncomputable def mrg (ov : Int → Bool) (cur oth acc : List Int) : List Int :=
  match cur with
  | [] => acc ++ oth
  | x :: cur => if ov x then mrg (fun y => ov y && decide (y ≠ x)) oth cur acc else mrg ov cur oth (acc ++ [x])
termination_by cur.length + oth.length
noncomputable def mergeF (xs ys : List Int) : List Int := mrg (fun x => decide (x ∈ xs) && decide (x ∈ ys)) xs ys []
end Mine
end
section
open PySem PySem.W PySem.Calls PyProof.Rows
set_option maxRecDepth 100000
set_option autoImplicit false
set_option linter.unusedVariables false
set_option linter.unusedSectionVars false
namespace Mine
noncomputable def fkBound : Obj := { cls := .type "builtin_function_or_method", data := .fields #[.builtin "dict.fromkeys", .type "dict"] }
theorem type_fk : typeOf (.builtin "dict.fromkeys") = pure (.type "classmethod_descriptor") := by show builtinType _ = _; rw [builtinType_eq_fast]; kernel_rfl
theorem entry_fk : entryFor table "dict.fromkeys" = some Builtin.«dict.fromkeys» := entryFor_of_tree (by kernel_rfl)
theorem entry_fkl : entryFor table "dict.fromkeys.loop" = some Builtin.«dict.fromkeys.loop» := entryFor_of_tree (by kernel_rfl)
theorem plain_fkl : plainId "dict.fromkeys.loop" = true := by decide +kernel
theorem quiet_fk {as : Args} : (Code.builtin "dict.fromkeys" as).quiet = true := Code.quiet_builtin _ (by decide +kernel)
theorem type_dict : isType (.type "dict") = pure true := by first | rfl | kernel_rfl | (unfold isType; rw [isSubtype_type]; kernel_rfl)
theorem owner_fk : (kfb_private% "ownerAndName") "dict.fromkeys" = ("dict", "fromkeys") := by first | decide +kernel | kernel_rfl
theorem check_fk {v : Value} : checkBoundCall "dict.fromkeys" ⟨[.type "dict", v], []⟩ = pure () := by first | kernel_rfl | rfl
section
variable {w : World} {A : Around} {E : Value → Shared → Prop} {s : Shared} {env : Env} {G : Array GenState} {O : OsState} {V : View} {L : Addr} {ns : List Str} {vs : List (Option Value)} {own : List Kp}

theorem run_getfk {P : Fin → Shared → Prop} (h : P (.done (.ret (.ref s.heap.objs.size))) { s with heap := s.heap.push fkBound }) :
    wpAny (model P0 w) A (Builtin.«classmethod_descriptor.__get__» ⟨[.builtin "dict.fromkeys", .none, .type "dict"], []⟩) P E s := by
  unfold Builtin.«classmethod_descriptor.__get__»
  refine wpAny_bind (wpAny_of_eq (a := (.builtin "dict.fromkeys", none, some (.type "dict"))) (by first | rfl | kernel_rfl) ?_)
  simp only [owner_fk]
  refine wpAny_bind (wpAny_of_eq (a := .type "dict") rfl ?_)
  refine wpAny_bind (wpAny_of_eq (a := true) type_dict ?_)
  refine wp_if_false rfl ?_
  refine wpAny_bind (wpAny_of_eq (a := true) F.kt_sub_dict ?_)
  refine wp_if_false rfl ?_
  exact wpAny_bind (wpAny_newObj_type (wpAny_pure h))

theorem gm_fromkeys {pl : Sem Bool} {Q : Value × List Value → Shared → Prop} (H : Fm w G O V L ns vs own s)
    (h : ∀ x s', Fm w G O V L ns vs ((x, fun o => o = fkBound) :: own) s' → Q (.ref x, []) s') :
    wpAny (model P0 w) A (getMethod (.type "dict") (Str.ofString "fromkeys") pl) Q E s := by
  have X := H.ctx.K
  have e : findCls (KF w) (.type "dict") (.type "type") (Str.ofString "fromkeys") = some (.get (.builtin "classmethod_descriptor.__get__") (.builtin "dict.fromkeys") .none (.type "dict")) := by kernel_rfl
  have hstub : opaqueClassAbove (.type "dict") = pure none := by unfold opaqueClassAbove; dsimp only; rw [show Manifest.isStub "dict" = false by decide +kernel]; rfl
  have ht : typeOf (.type "dict") = pure (.type "type") := by first | rfl | kernel_rfl
  have L0 : Looks (model P0 w) s.heap (typeOf (.type "dict")) (.type "type") := Looks.of_pure ht
  have hg : findIn (KF w) (.type "type") "__getattribute__" = some (some (.builtin "type.__getattribute__")) := type_tga
  unfold getMethod specialOf
  refine wpAny_bind (wpAny_bind (L0.here ((looks_findIn X hg).here ?_)))
  dsimp only
  rw [if_pos canon_tga]
  refine wpAny_bind (wpAny_mono (Q := fun v => Q (v, [])) (E := E) ?_ (fun _ _ z => wpAny_pure z) fun _ _ z => z)
  have LO : Looks (model P0 w) s.heap (opaqueClassAbove (.type "dict")) none := Looks.of_pure hstub
  refine cls_open X LO L0 hg (looks_hook X (r := none) (by rfl)) (by show subIn (KF w) _ _ = _; rfl) e ?_
  show wpAny _ _ (holding [.builtin "dict.fromkeys"] (call (.builtin "classmethod_descriptor.__get__") [.builtin "dict.fromkeys", .none, .type "dict"]) >>= fun v => ret v) _ _ _
  refine wpAny_bind (wpAny_holding (wpAny_call_entry KFB.slot_get type_fk KFB.entry_get (run_getfk ⟨_, rfl, wpAny_pure (wpAny_pure (h _ _ ?_))⟩) (KFB.args_get _ _ _)))
  exact H.push fkBound rfl

theorem callWith_fk {pos : Pos} {u : Addr} {first : List Value} {args : List PySem.Expr} {Q : Value → Shared → Prop}
    (h : wpAny (model P0 w) A (spliced (backTo pos (starEach args env))) (fun vs s₁ => s₁.heap.get? u = some fkBound ∧ wpAny (model P0 w) A (call (.ref u) (first ++ vs)) Q E s₁) E s)
    (hp : (backTo pos (starEach args env)).any (·.1) = false := by rfl) :
    wpAny (model P0 w) A (callWith pos (.ref u) first (backTo pos (starEach args env)) []) Q E s := by
  have core : wpAny (model P0 w) A (evalArgs (.ref u) true (backTo pos (starEach args env)) []) (fun x s₁ => s₁.heap.get? u = some fkBound ∧ wpAny (model P0 w) A (call (.ref u) (first ++ x.pos) x.kw) Q E s₁) E s := by
    cases he : backTo pos (starEach args env) with
    | nil =>
      rw [he] at h
      unfold evalArgs
      show wpAny _ _ (spliced [] >>= _) _ _ _
      refine wpAny_bind (wpAny_mono h (fun vs s₁ h₁ => wpAny_bind (wpAny_pure (wpAny_holding ?_))) fun _ _ x => x)
      exact wpAny_bind (wpAny_pure (wpAny_bind (wpAny_pure (wpAny_pure h₁))))
    | cons x r =>
      obtain ⟨st, t⟩ := x
      rw [he] at h hp
      have hst : st = false := by simp at hp; exact hp.1
      subst hst
      exact Calls.evalArgs_plain (wpAny_mono h (fun vs s₁ h₁ => h₁) fun _ _ x => x)
  unfold callWith
  refine wpAny_bind (wpAny_holding ?_)
  rw [hp]
  refine wpAny_mono core (fun x s₁ h₁ => wpAny_bind (wpAny_standAt ?_)) fun _ _ x => x
  obtain ⟨ho, hcall⟩ := h₁
  simp only [List.any_nil, Bool.or_false]
  refine wpAny_bind (m := keeperOf (.ref u)) ?_
  unfold keeperOf
  refine wpAny_bind (wpAny_load ho ?_)
  simp only [fkBound, show (Value.type "builtin_function_or_method" != Value.type "method") = true by decide, show (Value.type "builtin_function_or_method" == Value.type "builtin_function_or_method" || Value.type "builtin_function_or_method" == Value.type "method-wrapper") = true by decide, if_true]
  refine wpAny_pure ?_
  exact wpAny_bind (wpAny_mono hcall (fun r s₂ hr => wpAny_bind (wpAny_holding (wpAny_point (wpAny_pure hr)))) fun _ _ x => x)

theorem code_dict_new0 {Q₁ : Value → Shared → Prop} (h : Q₁ (.ref s.heap.objs.size) { s with heap := s.heap.push { cls := .type "dict", data := .dict #[] } }) :
    codeAny (model P0 w) A (.call (.builtin "dict.__new__") ⟨[.type "dict"], []⟩) (wants Q₁ E) s := by
  refine codeAny_call_builtin F.kt_plain_dict_new F.kt_entry_dict_new (wpAny_of_eq (show checkBuiltinCall "dict.__new__" ⟨[.type "dict"], []⟩ = pure () by kernel_rfl) ?_)
  have hsub := F.kt_sub_dict
  have hmro := F.kt_mro_dict
  obtain ⟨hp, g, d, tk, os⟩ := s
  unfold Builtin.«dict.__new__»
  wp_walk
  exact h
theorem k_dict0 {Q : Value → Shared → Prop} (h : Q (.ref s.heap.objs.size) { s with heap := s.heap.push { cls := .type "dict", data := .dict #[] } }) : wpAny (model P0 w) A (call (.type "dict") []) Q E s := by
  refine callType_codes (Q₁ := fun obj s₁ => obj = .ref s.heap.objs.size ∧ s₁ = { s with heap := s.heap.push { cls := .type "dict", data := .dict #[] } }) F.kt_called_dict (show checkTypeCall "dict" ⟨[], []⟩ = pure () by kernel_rfl) F.entry_dict_init (code_dict_new0 ⟨rfl, rfl⟩) ?_
  rintro obj s₁ ⟨rfl, rfl⟩
  have hnew : (s.heap.push { cls := .type "dict", data := .dict #[] }).DictOf (KI w) s.heap.objs.size [] := Heap.DictOf.new s.heap
  refine ⟨hnew.typeIs, (by unfold argsOk; kernel_rfl), ?_⟩
  unfold Builtin.«dict.__init__»
  refine wpAny_bind ?_
  unfold Builtin.Dict.selfAndRest
  refine wpAny_bind (wpAny_notOrdered_dict hnew.typeIs ?_)
  show wpAny _ _ (pure (s.heap.objs.size, [])) _ _ _
  refine wpAny_pure ?_
  show wpAny _ _ (do Builtin.Dict.addKeywords s.heap.objs.size []; ret .none) _ _ _
  refine wpAny_bind ?_
  show wpAny _ _ (do forIn ([] : List (Str × Value)) PUnit.unit _; pure ()) _ _ _
  refine wpAny_bind ?_
  rw [List.forIn_nil]
  exact wpAny_pure (wpAny_pure (wpAny_pure ⟨rfl, h⟩))

/-- first occurrences -/
noncomputable def uniqStep (acc : List Int) (x : Int) : List Int := if x ∈ acc then acc else acc ++ [x]
noncomputable def uniq (xs : List Int) : List Int := xs.foldl uniqStep []
theorem stored_keys (kvs : List (Int × Value)) (k : Int) (v : Value) : (stored kvs k v).map (·.1) = uniqStep (kvs.map (·.1)) k := by
  unfold stored uniqStep
  by_cases h : k ∈ kvs.map (·.1)
  · have h2 : (kvs.any fun kv => decide (kv.1 = k)) = true := by
      obtain ⟨p, hp, e⟩ := List.mem_map.mp h
      exact List.any_eq_true.mpr ⟨p, hp, by simpa using e⟩
    rw [if_pos h2, if_pos h, keys_map_store]
  · have h2 : ¬ (kvs.any fun kv => decide (kv.1 = k)) = true := fun e => by
      obtain ⟨p, hp, e⟩ := List.any_eq_true.mp e
      exact h (List.mem_map.mpr ⟨p, hp, by simpa using e⟩)
    rw [if_neg h2, if_neg h, List.map_append]; rfl

theorem w_fkLoop {d I l : Addr} {items : List Value} {xs : List Int} {Rz : Result → Shared → Prop} (hh : A.handled = none) (hdI : d ≠ I) (hlI : l ≠ I) (hld : l ≠ d) (hi : IntsAre items xs) (hsz : xs.length ≤ 100) :
    ∀ (k i : Nat) (s : Shared) (kvs : List (Int × Value)), xs.length - i = k → i ≤ xs.length → kvs.length ≤ i → HasP s.heap (I, LIt l i) → s.heap.IsList l items.toArray → s.heap.DictOf (KI w) d kvs →
    (∀ h' tk kvs', h'.DictOf (KI w) d kvs' → kvs'.map (·.1) = (xs.drop i).foldl uniqStep (kvs.map (·.1)) → (∀ b o, b ≠ d → b ≠ I → s.heap.get? b = some o → h'.get? b = some o) → Rz (.ok (.ret (.ref d))) { s with heap := h', toks := tk }) →
    codeAny (model P0 w) A (.builtin "dict.fromkeys.loop" ⟨[.ref d, .ref I, .none], []⟩) Rz s := by
  have It := Iter.list (w := w) (A := A.in1) (by exact hh) I l hlI items.toArray
  have hlen := IntsAre.length hi
  intro k
  induction k with
  | zero =>
    intro i s kvs hk hi' hb hit hl hD hR
    have hin : i = items.toArray.size := by simp; omega
    subst hin
    refine codeAny_builtin entry_fkl ?_
    rw [Around.under_plainId plain_fkl _]
    show wpAny _ A.in1 (pyNext (.ref I) >>= _) _ _ s
    refine wpAny_bind (It.done s _ _ hit hl fun h' tk hk' => ?_)
    refine wpAny_pure (hR h' tk kvs (hD.extBut hk' hdI) ?_ fun b o hbS hbI e => hk' b o hbI e)
    rw [List.drop_of_length_le (by simp; omega)]; rfl
  | succ k ih =>
    intro i s kvs hk hi' hb hit hl hD hR
    have hlt : i < items.toArray.size := by simp; omega
    refine codeAny_builtin entry_fkl ?_
    rw [Around.under_plainId plain_fkl _]
    show wpAny _ A.in1 (pyNext (.ref I) >>= _) _ _ s
    refine wpAny_bind (It.item i s _ _ hlt hit hl fun v h' tk hP hst' hm => ?_)
    obtain ⟨t, x, hxi, rfl⟩ := intsAt hi i v hP
    have hD' := hD.extBut hm hdI
    refine wpAny_bind (wpAny_typeOf hD'.typeIs ?_)
    rw [if_pos (by decide)]
    refine wpAny_bind (m := Builtin.Dict.addrOf _) (wpAny_pure (wpAny_bind (wpAny_holding ?_)))
    refine wpAny_dictSet_pairs (knd := KI w) (intKind_is _ _ _ _) hD' (fun h2 hD2 hsb => ?_) (by rw [sizeLine_eq]; omega)
    refine wpAny_pure ⟨plainId_quiet plain_fkl _, ih (i + 1) _ (stored kvs x .none) (by omega) (by omega) (by have := stored_length_le kvs x .none; omega) (hst'.keeps fun o e => (hsb.2 I (Ne.symm hdI)).trans e) ?_ hD2 fun h'' tk'' kvs'' hD'' hkeys hk'' => ?_⟩
    · obtain ⟨ol, hol, r⟩ := hl
      exact ⟨ol, (hsb.2 l hld).trans (hm l ol hlI hol), r⟩
    · refine hR h'' tk'' kvs'' hD'' ?_ fun b o hbS hbI e => hk'' b o hbS hbI ((hsb.2 b hbS).trans (hm b o hbI e))
      have hd : xs.drop i = x :: xs.drop (i + 1) := by
        have hl' : i < xs.length := by omega
        rw [List.drop_eq_getElem_cons hl']
        rw [List.getElem?_eq_getElem hl'] at hxi
        rw [Option.some.inj hxi]
      rw [hkeys, stored_keys, hd]; rfl

theorem k_fromkeys {u l : Addr} {xs : List Int} {Q : Value → Shared → Prop} (hh : A.handled = none) (hu : s.heap.get? u = some fkBound) (hl : LI s.heap l xs) (hsz : xs.length ≤ 100)
    (h : ∀ h' tk kvs, Keeps s.heap h' → h'.DictOf (KI w) s.heap.objs.size kvs → kvs.map (·.1) = uniq xs → Q (.ref s.heap.objs.size) { s with heap := h', toks := tk }) : wpAny (model P0 w) A (call (.ref u) [.ref l]) Q E s := by
  obtain ⟨items, hL, hi⟩ := hl
  obtain ⟨ol, hol, _⟩ := id hL
  refine wpAny_call (codeAny_of_tree ?_)
  show wpAny _ A.in1 (callAny (.ref u) ⟨[.ref l], []⟩) _ _ s
  simp only [callAny]
  refine wpAny_bind (wpAny_load hu ?_)
  simp only [fkBound, show (Value.type "builtin_function_or_method" == Value.type "method" || Value.type "builtin_function_or_method" == Value.type "builtin_function_or_method" || Value.type "builtin_function_or_method" == Value.type "method-wrapper") = true by decide, if_true]
  refine wp_if_true (by decide) ?_
  refine wpAny_bind (wpAny_of_eq (a := ()) check_fk ?_)
  refine wpAny_bind (wpAny_pure (wpAny_pure ?_))
  refine ⟨quiet_fk, codeAny_builtin entry_fk ?_⟩
  rw [Around.under_plainId (by decide +kernel)]
  unfold Builtin.«dict.fromkeys»
  refine wpAny_bind (wpAny_of_eq (a := true) type_dict ?_)
  refine wp_if_false rfl ?_
  refine wpAny_bind (wpAny_of_eq (a := true) F.kt_sub_dict ?_)
  refine wp_if_false rfl ?_
  refine wp_if_false rfl ?_
  refine wpAny_bind (wpAny_bind (wpAny_rule ?_))
  refine wpAny_pure ?_
  refine wpAny_bind (wpAny_pure ?_)
  refine wpAny_bind (k_dict0 ?_)
  refine wpAny_holding ?_
  have hL' := hL.push { cls := .type "dict", data := .dict #[] }
  have hnew : (s.heap.push { cls := .type "dict", data := .dict #[] }).DictOf (KI w) s.heap.objs.size [] := Heap.DictOf.new s.heap
  refine wpAny_bind (wpAny_typeOf hL'.typeIs ?_)
  refine wpAny_bind (wpAny_typeOf hnew.typeIs ?_)
  refine wp_if_false (by decide) ?_
  refine wpAny_bind (wpAny_typeOf hnew.typeIs ?_)
  refine wp_if_false (by decide) ?_
  refine wpAny_bind (wpAny_pyIter_list (s := { s with heap := s.heap.push { cls := .type "dict", data := .dict #[] } }) hL' ?_)
  have hsz1 : (s.heap.push { cls := .type "dict", data := .dict #[] }).objs.size = s.heap.objs.size + 1 := Heap.size_push ..
  have hlt := Heap.lt_size hol
  refine wpAny_pure ⟨plainId_quiet plain_fkl _, w_fkLoop (d := s.heap.objs.size) (I := (s.heap.push { cls := .type "dict", data := .dict #[] }).objs.size) hh (by rw [hsz1]; exact Nat.ne_of_lt (Nat.lt_succ_self _)) (by rw [hsz1]; exact Nat.ne_of_lt (Nat.lt_succ_of_lt hlt)) (Nat.ne_of_lt hlt) hi hsz _ 0 _ [] rfl (Nat.zero_le _) (Nat.zero_le _)
    ⟨_, Heap.get?_push_size _ rfl, rfl, rfl⟩ (hL'.push _) (hnew.push _) fun h' tk kvs' hD hkeys hk => ?_⟩
  refine h h' tk kvs' (fun b o e => hk b o (Nat.ne_of_lt (Heap.lt_size e)) (by rw [hsz1]; exact Nat.ne_of_lt (Nat.lt_succ_of_lt (Heap.lt_size e))) (Heap.get?_push_of_some _ (Heap.get?_push_of_some _ e))) hD hkeys
end
end Mine
end
section
open PySem PySem.W PySem.Calls PyProof.Rows
set_option maxRecDepth 100000
set_option autoImplicit false
set_option linter.unusedVariables false
set_option linter.unusedSectionVars false
namespace Mine
section
variable {w : World} {A : Around} {E : Value → Shared → Prop} {s : Shared} {env : Env} {G : Array GenState} {O : OsState} {V : View} {L : Addr} {ns : List Str} {vs : List (Option Value)} {own : List Kp}

/-- list.extend.loop over any iterator of ints -/
theorem w_extLoopI {S I : Addr} {n : Nat} {P : Nat → Value → Prop} {Sh : Nat → Obj → Prop} {U : Heap → Prop} {xs : List Int} {res : Value} {Rz : Result → Shared → Prop} (It : Iter w A.in1 I n P Sh U) (hSI : S ≠ I) (hn : xs.length = n) (hsz : n ≤ 100)
    (hv : ∀ i v, P i v → ∃ t x, xs[i]? = some x ∧ v = .int x t) (hU : ∀ h h', U h → (∀ b o, b ≠ S → b ≠ I → h.get? b = some o → h'.get? b = some o) → U h') :
    ∀ (k i : Nat) (s : Shared) (acc : List Int), n - i = k → i ≤ n → acc.length + (n - i) ≤ 1000 → HasP s.heap (I, Sh i) → U s.heap → HasP s.heap (S, IL acc) →
    (∀ h' tk, HasP h' (S, IL (acc ++ xs.drop i)) → (∀ b o, b ≠ S → b ≠ I → s.heap.get? b = some o → h'.get? b = some o) → Rz (.ok (.ret res)) { s with heap := h', toks := tk }) →
    codeAny (model P0 w) A (.builtin "list.extend.loop" ⟨[.ref S, .ref I, res], []⟩) Rz s := by
  intro k
  induction k with
  | zero =>
    intro i s acc hk hi hb hit hl hS hR
    have hin : i = n := by omega
    subst hin
    refine codeAny_builtin F.entry_extend_loop ?_
    rw [Around.under_plainId F.plain_extend_loop _]
    show wpAny _ A.in1 (pyNext (.ref I) >>= _) _ _ s
    refine wpAny_bind (It.done s _ _ hit hl fun h' tk hk' => ?_)
    refine wpAny_pure (hR h' tk ?_ fun b o hbS hbI e => hk' b o hbI e)
    have : xs.drop i = [] := List.drop_of_length_le (by omega)
    rw [this, List.append_nil]
    exact hS.keeps fun o e => hk' S o hSI e
  | succ k ih =>
    intro i s acc hk hi hb hit hl hS hR
    have hlt : i < n := by omega
    refine codeAny_builtin F.entry_extend_loop ?_
    rw [Around.under_plainId F.plain_extend_loop _]
    show wpAny _ A.in1 (pyNext (.ref I) >>= _) _ _ s
    refine wpAny_bind (It.item i s _ _ hlt hit hl fun v h' tk hP hst' hm => ?_)
    obtain ⟨t, x, hxi, rfl⟩ := hv i v hP
    obtain ⟨_, hoS, va, ⟨n1, rfl⟩, hva⟩ := hS
    have hlen := IntsAre.length hva
    have hS' := hm S _ hSI hoS
    show wpAny _ A.in1 (updateSeq S (·.push (.int x t)) >>= _) _ _ _
    refine wpAny_bind ?_
    have hsb := Heap.SameBut.update h' S (Obj.mapSeq (·.push (.int x t)))
    refine wpAny_updateSeq hS' rfl (wpAny_pure ⟨plainId_quiet F.plain_extend_loop _, ih (i + 1) _ (acc ++ [x]) (by omega) hlt (by simp; omega) (hst'.keeps fun o e => (hsb.2 I (Ne.symm hSI)).trans e) ?_ ?_ fun h'' tk'' hS'' hk'' => ?_⟩) (by rw [List.size_toArray, sizeLine_eq]; omega) (by rw [Array.size_push, List.size_toArray, sizeLine_eq]; omega)
    · exact hU _ _ hl fun b o hbS hbI e => (hsb.2 b hbS).trans (hm b o hbI e)
    · exact ⟨_, IsL.update hS' _, va ++ [.int x t], ⟨_, by rw [← List.push_toArray]⟩, IntsAre.snoc hva x t⟩
    · refine hR h'' tk'' ?_ fun b o hbS hbI e => hk'' b o hbS hbI ((hsb.2 b hbS).trans (hm b o hbI e))
      have hd : xs.drop i = x :: xs.drop (i + 1) := by
        have hl' : i < xs.length := by omega
        rw [List.drop_eq_getElem_cons hl']
        rw [List.getElem?_eq_getElem hl'] at hxi
        rw [Option.some.inj hxi]
      rw [hd]
      simpa using hS''

abbrev liPost (w : World) (A : Around) (E : Value → Shared → Prop) (Q : Shared → Prop) : Fin → Shared → Prop := fun fin s' => match fin with
  | .done f => wants (fun r s₂ => r = .none ∧ Q s₂) E (.ok f) s'
  | .again c' => c'.quiet = true ∧ codeAny (model P0 w) A c' (wants (fun r s₂ => r = .none ∧ Q s₂) E) s'

/-- list(x) -/
theorem k_list {x : Value} {Q : Value → Shared → Prop}
    (h : ∀ h', (∀ b o, s.heap.get? b = some o → h'.get? b = some o) → HasP h' (s.heap.objs.size, LP #[]) → wpAny (model P0 w) A.in1.in1 (Builtin.List.listExtendWith (.ref s.heap.objs.size) x .none) (liPost w A.in1 E (Q (.ref s.heap.objs.size))) E { s with heap := h' }) :
    wpAny (model P0 w) A (call (.type "list") [x]) Q E s := by
  refine callType_codes (Q₁ := fun obj s₁ => obj = .ref s.heap.objs.size ∧ s₁ = { s with heap := s.heap.push { cls := .type "list", data := .seq #[] } }) F.called_list (F.typeCall_list_1 _) F.entry_list_init
    (code_list_new _ ⟨rfl, rfl⟩) fun obj s₁ h₁ => ?_
  obtain ⟨rfl, rfl⟩ := h₁
  have hS : (s.heap.push { cls := .type "list", data := .seq #[] }).get? s.heap.objs.size = some { cls := .type "list", data := .seq #[] } := Heap.get?_push_size _ rfl
  refine ⟨⟨_, hS, rfl⟩, F.args_list_init_2 _ _, ?_⟩
  show wpAny _ _ (do let old ← Builtin.List.listItems (.ref s.heap.objs.size); Builtin.List.listUpdate (.ref s.heap.objs.size) (fun _ => #[]); letGo old.toList.reverse; Builtin.List.listExtendWith (.ref s.heap.objs.size) x .none) _ _ _
  refine wpAny_bind ?_
  unfold Builtin.List.listItems
  refine wpAny_bind (wpAny_seqItems hS rfl (wpAny_pure ?_))
  show wpAny _ _ (updateSeq s.heap.objs.size (fun _ => #[]) >>= fun _ => letGo (#[] : Array Value).toList.reverse >>= fun _ => Builtin.List.listExtendWith (.ref s.heap.objs.size) x .none) _ _ _
  refine wpAny_bind (wpAny_updateSeq hS rfl ?_)
  have hS₂ := Heap.get?_update_self (Obj.mapSeq (fun _ => (#[] : Array Value))) hS rfl
  refine wpAny_bind (wpAny_letGo ?_)
  refine wpAny_mono (h _ (fun b o e => ?_) ⟨_, hS₂, _, rfl⟩) (fun _ _ x => x) fun _ _ x => x
  exact (Heap.get?_update_other _ _ (Ne.symm (Nat.ne_of_lt (Heap.lt_size e)))).trans (Heap.get?_push_of_some _ e)

theorem k_list_list {l : Addr} {items : Array Value} {Q : Value → Shared → Prop} (hl : s.heap.IsList l items) (hsz : items.size ≤ 1000)
    (h : ∀ r h', s.heap.get? r = none → Keeps s.heap h' → HasP h' (r, LP items) → Q (.ref r) { s with heap := h' }) : wpAny (model P0 w) A (call (.type "list") [.ref l]) Q E s := by
  refine k_list fun h₁ hk ⟨_, ho, n, e⟩ => ?_
  subst e
  obtain ⟨ol, hol, hcl, nl, hdl⟩ := hl
  have hol' := hk _ _ hol
  have hT : Shared.TypeIs { s with heap := h₁ } (.ref l) "list" := ⟨_, hol', hcl⟩
  unfold Builtin.List.listExtendWith
  refine wpAny_bind (wpAny_typeOf hT ?_)
  refine wp_if_true (by simp) ?_
  refine wpAny_bind ?_
  unfold Builtin.List.listItems
  refine wpAny_bind (wpAny_seqItems hol' hdl (wpAny_pure ?_))
  refine wpAny_bind (wpAny_bind (wpAny_seqItems ho rfl (wpAny_pure ?_)))
  refine wp_if_false (by rfl) ?_
  show wpAny _ _ (updateSeq s.heap.objs.size (fun xs => xs ++ items) >>= fun _ => ret .none) _ _ _
  refine wpAny_bind (wpAny_updateSeq ho rfl (wpAny_pure ⟨rfl, ?_⟩) (by rw [sizeLine_eq]; show (#[] : Array Value).size ≤ _; simp) (by rw [sizeLine_eq]; simp; omega))
  refine h _ _ (fresh_none _) (fun b o e => ?_) ⟨_, IsL.update ho _, _, by simp; rfl⟩
  exact (Heap.get?_update_other _ _ (Ne.symm (Nat.ne_of_lt (Heap.lt_size e)))).trans (hk _ _ e)
end
end Mine
end
section
open PySem PySem.W PySem.Calls PyProof.Rows
set_option maxRecDepth 100000
set_option autoImplicit false
set_option linter.unusedVariables false
set_option linter.unusedSectionVars false
namespace Mine
section
variable {w : World} {A : Around} {E : Value → Shared → Prop} {s : Shared} {env : Env} {G : Array GenState} {O : OsState} {V : View} {L : Addr} {ns : List Str} {vs : List (Option Value)} {own : List Kp}

theorem Cx.big {h : Heap} (C : Cx w h) : 337 < h.objs.size := by
  obtain ⟨o, ho⟩ : ∃ o, (KF w).lookup 337 = some o := ⟨_, rfl⟩
  exact Heap.lt_size (C.K _ _ ho)
theorem big_ne {n : Nat} (h : 337 < n) : ((n : Addr) == sysModules) = false := by
  cases e : (n : Addr) == sysModules with
  | false => rfl
  | true =>
    have e1 := beq_iff_eq.mp e
    have : n = 1 := e1
    omega
theorem w_hint_dict {T : String} {d : Addr} {Q : Bool → Shared → Prop} (hT : s.TypeIs (.ref d) T) (hl : typeLookup (.type T) "__len__" = pure (some (.builtin "dict.__len__"))) (hs : isSubtype (.type T) (.type "dict") = pure true) (h : Q false s) :
    wpAny (model P0 w) A (Builtin.List.listLengthHint (.ref d)) Q E s := by
  unfold Builtin.List.listLengthHint
  refine wpAny_bind (wpAny_specialOf hT hl ?_)
  (generalize hid : ("dict.__len__" : String) = id0; (fail_if_success (clear hid id0)); wp_delta; rw [show splitId id0 = some ("dict", "__len__") from by subst hid; decide +kernel]; subst hid)
  refine wpAny_bind (wpAny_isInstance (b := true) hT hs ?_)
  refine wpAny_bind (wpAny_typeOf hT ?_)
  exact wpAny_pure h

/-- list(d) of a dict with int keys -/
theorem k_list_dict {d : Addr} {kvs : List (Int × Value)} {Q : Value → Shared → Prop} (hh : A.handled = none) (hd : (d == sysModules) = false) (hD : s.heap.DictOf (KI w) d kvs) (hsz : kvs.length ≤ 100)
    (h : ∀ r h' tk, s.heap.get? r = none → Keeps s.heap h' → HasP h' (r, IL (kvs.map (·.1))) → Q (.ref r) { s with heap := h', toks := tk }) : wpAny (model P0 w) A (call (.type "list") [.ref d]) Q E s := by
  refine k_list fun h₁ hk ⟨_, ho, n, e⟩ => ?_
  subst e
  obtain ⟨ep, hat⟩ := hD.dictAt
  have hat1 : h₁.DictAt (KI w) d kvs ep := hat.keep hk
  have hT : Shared.TypeIs { s with heap := h₁ } (.ref d) "dict" := hat1.dictOf.typeIs
  have hSd : s.heap.objs.size ≠ d := Ne.symm (Nat.ne_of_lt hat.lt_size)
  unfold Builtin.List.listExtendWith
  refine wpAny_bind (wpAny_typeOf hT ?_)
  have hsr : Builtin.List.listSameRef (.ref s.heap.objs.size) (.ref d) = false := by simp [Builtin.List.listSameRef, hSd]
  rw [hsr]
  refine wp_if_false (by decide) ?_
  refine wpAny_bind (wpAny_pyIter_dict (s := { s with heap := h₁ }) hd hat1 ?_)
  refine wpAny_bind (wpAny_holding (w_hint_dict (T := "dict") (s := { s with heap := h₁.push _ }) (hat1.push _).dictOf.typeIs F.slot_dict_len.lookup F.kt_sub_dict ?_))
  refine wp_if_true (by decide) ?_
  refine wpAny_bind (wpAny_rule ?_)
  refine wpAny_bind ?_
  show wpAny _ _ (updateSeq s.heap.objs.size (·.push .none) >>= fun _ => updateSeq s.heap.objs.size (·.pop)) _ _ _
  have hlt : s.heap.objs.size < h₁.objs.size := Heap.lt_size ho
  have hS₁ := Heap.get?_push_of_some { cls := .type "dict_keyiterator", data := .fields #[.ref d, .int 0 0, .int kvs.length 0, .int ep 0] } ho
  refine wpAny_bind (wpAny_updateSeq hS₁ rfl ?_)
  have hS₂ := Heap.get?_update_self (Obj.mapSeq (·.push Value.none)) hS₁ rfl
  refine wpAny_updateSeq hS₂ rfl ?_
  have hS₃ := Heap.get?_update_self (Obj.mapSeq (·.pop)) hS₂ rfl
  have oth : ∀ b o, b ≠ s.heap.objs.size → (h₁.push { cls := .type "dict_keyiterator", data := .fields #[.ref d, .int 0 0, .int kvs.length 0, .int ep 0] }).get? b = some o →
      (((h₁.push { cls := .type "dict_keyiterator", data := .fields #[.ref d, .int 0 0, .int kvs.length 0, .int ep 0] }).update s.heap.objs.size (Obj.mapSeq (·.push Value.none))).update s.heap.objs.size (Obj.mapSeq (·.pop))).get? b = some o :=
    fun b o hb e => (Heap.get?_update_other _ _ (Ne.symm hb)).trans ((Heap.get?_update_other _ _ (Ne.symm hb)).trans e)
  have hdI : d ≠ h₁.objs.size := Nat.ne_of_lt hat1.lt_size
  have hSI : s.heap.objs.size ≠ h₁.objs.size := Nat.ne_of_lt hlt
  have It : Iter w A.in1.in1 h₁.objs.size kvs.length (fun i v => ∃ k x, kvs[i]? = some (k, x) ∧ (KI w).is k v = true) (fun i o => o.cls = .type "dict_keyiterator" ∧ o.data = .fields #[.ref d, .int i 0, .int kvs.length 0, .int ep 0]) (fun h => h.DictAt (KI w) d kvs ep) :=
    Iter.of (Walks.dictKeys (A := A.in1.in1) (by exact hh) h₁.objs.size d hdI kvs ep) (fun i h hp hu => ⟨hp, hu⟩) (fun i h st => st.1)
  refine wpAny_pure ⟨plainId_quiet F.plain_extend_loop _, w_extLoopI (xs := kvs.map (·.1)) It hSI (by simp) hsz (fun i v ⟨k, x, hx, hk⟩ => ?_) (fun h h' hu hk' => hu.at' fun o e => hk' d o (Ne.symm hSd) hdI e) kvs.length 0 _ [] (by omega) (Nat.zero_le _) (by simp; omega) ?_ ?_ ?_ fun h' tk hp hk' => ⟨rfl, ?_⟩⟩
  · obtain ⟨t, rfl⟩ : ∃ t, v = .int k t := by
      cases v <;> simp [intKind, Value.isInt] at hk
      subst hk; exact ⟨_, rfl⟩
    exact ⟨t, k, by rw [List.getElem?_map, hx]; rfl, rfl⟩
  · exact ⟨_, oth _ _ (Ne.symm hSI) (Heap.get?_push_size _ rfl), rfl, rfl⟩
  · exact (hat1.push _).at' fun o e => oth _ _ (Ne.symm hSd) e
  · exact ⟨_, hS₃, [], ⟨_, rfl⟩, .nil⟩
  · refine h _ _ tk (fresh_none _) (fun b o e => hk' b o (Nat.ne_of_lt (Heap.lt_size e)) (Nat.ne_of_lt (Nat.lt_of_lt_of_le (Heap.lt_size e) (Nat.le_of_lt hlt))) (oth _ _ (Nat.ne_of_lt (Heap.lt_size e)) (Heap.get?_push_of_some _ (hk _ _ e)))) ?_
    simpa using hp
end
end Mine
end
section
open PySem PySem.W PySem.Calls PyProof.Rows
set_option maxRecDepth 100000
set_option maxHeartbeats 1000000
set_option autoImplicit false
set_option linter.unusedVariables false
set_option linter.unusedSectionVars false
namespace Mine
theorem pk_made (w : World) : peek (KF w) ⟨P0, w.params⟩ (Bind.madeBy (.ref 250)) = some (some "set.__new__") := by kernel_rfl
theorem pk_self (w : World) : peek (KF w) ⟨P0, w.params⟩ (isSubtype (.ref 250) (.ref 250)) = some true := by kernel_rfl
theorem pk_init (w : World) : peek (KF w) ⟨P0, w.params⟩ (typeLookup (.ref 250) "__init__") = some (some (.ref 62)) := by kernel_rfl
theorem pk_bind (w : World) (f : Addr) (self : Value) (h : typeIn (KF w) (.ref f) = some (.type "function")) {s : Heap} (C : (KF w).In s) : Looks (model P0 w) s (bindSpecial (.ref f) self) (.ref f, [self]) := bind_fn C self h
theorem pk_tc (w : World) (as : List Value) : peek (KF w) ⟨P0, w.params⟩ (checkBuiltinCall "type.__call__" ⟨.ref 250 :: as, []⟩) = some () := by kernel_rfl
theorem pk_nc (w : World) (v : Value) : peek (KF w) ⟨P0, w.params⟩ (checkBuiltinCall "set.__new__" ⟨[.ref 250, v], []⟩) = some () := by kernel_rfl
theorem pk_nc0 (w : World) : peek (KF w) ⟨P0, w.params⟩ (checkBuiltinCall "set.__new__" ⟨[.ref 250], []⟩) = some () := by kernel_rfl
theorem pk_cls (w : World) (as : List Value) : peek (KF w) ⟨P0, w.params⟩ (Builtin.Frozenset.newClass "set" ⟨.ref 250 :: as, []⟩) = some (.ref 250, as) := by kernel_rfl
theorem pk_mro (w : World) : peek (KF w) ⟨P0, w.params⟩ (mroOf (.ref 250)) = some [.ref 250, .type "set", .type "object"] := by kernel_rfl
theorem pk_call (w : World) (as : List Value) : peek (KF w) ⟨P0, w.params⟩ (callAny (.ref 250) ⟨as, []⟩) = some (.again (.call (.builtin "type.__call__") ⟨.ref 250 :: as, []⟩)) := by kernel_rfl

/-- an OrderedSet: its table, its dict, its list -/
abbrev osO (d : Data) (dx : Addr) (sl : Array (Option Value)) : Obj := { cls := .ref 250, dict := some dx, data := d, slots := sl }

theorem Rm.under {A : Around} {k : Nat} {as : List Value} {C : Addr} (R : Rm A (k + 1)) : Rm (A.under (.builtin "type.__call__" ⟨.ref C :: as, []⟩)) k := by
  refine ⟨R.hd, ?_, ?_⟩
  · show A.depth + (Code.builtin "type.__call__" ⟨.ref C :: as, []⟩).weight + k < _
    have : (Code.builtin "type.__call__" ⟨.ref C :: as, []⟩).weight = 1 := rfl
    rw [this]; have := R.dep; omega
  · show A.units + (Code.builtin "type.__call__" ⟨.ref C :: as, []⟩).cUnits + _ < _
    have : (Code.builtin "type.__call__" ⟨.ref C :: as, []⟩).cUnits = 1 := rfl
    rw [this]; have := R.un; omega

section
variable {w : World} {A : Around} {E : Value → Shared → Prop} {s : Shared}

/-- OrderedSet.__new__ -/
theorem k_osnew {as : List Value} {Q : Value → Shared → Prop} (C : Cx w s.heap) (hck : peek (KF w) ⟨P0, w.params⟩ (checkBuiltinCall "set.__new__" ⟨.ref 250 :: as, []⟩) = some ())
    (h : Q (.ref (s.heap.objs.size + 1)) { s with heap := (s.heap.push emptyDict).push (osO (freshD w) s.heap.objs.size #[]) }) :
    wpAny (model P0 w) A (call (.builtin "set.__new__") (.ref 250 :: as)) Q E s := by
  refine wpAny_call (codeAny_call_builtin F.plain_set_new F.entry_set_new ((Looks.of_peek C.K hck).here ?_))
  unfold Builtin.«set.__new__»
  refine wpAny_bind ((Looks.of_peek C.K (pk_cls w as)).here ?_)
  refine wpAny_bind ?_
  unfold newSet
  refine wpAny_bind (w_byText ?_)
  refine wpAny_bind (wpAny_bind (wpAny_alloc (wpAny_pure ?_)))
  show wpAny _ _ (newObjAsIs (.ref 250) (freshD w) (some s.heap.objs.size)) _ _ _
  unfold newObjAsIs classHasDel
  obtain ⟨oc, od, cd, sl, ho, hdel⟩ : ∃ oc od cd sl, (KF w).lookup 250 = some ⟨oc, od, .cls cd, sl⟩ ∧ cd.hasDel = false := ⟨_, _, _, _, rfl, rfl⟩
  refine wpAny_bind (wpAny_alloc (wpAny_bind (wpAny_bind (wpAny_load (Heap.get?_push_of_some _ (Heap.get?_push_of_some _ (C.K _ _ ho))) (wpAny_pure ?_)))))
  rw [hdel]
  refine wp_if_false rfl (wpAny_pure (wpAny_pure ?_))
  show Q _ _
  rw [Heap.size_push]
  exact h

/-- OrderedSet(v): what __init__ does on the new thing -/
theorem k_osmake {v : Value} {Q : Value → Shared → Prop} (C : Cx w s.heap)
    (h : wpAny (model P0 w) (A.under (.builtin "type.__call__" ⟨[.ref 250, v], []⟩)) (call (.ref 62) [.ref (s.heap.objs.size + 1), v]) (fun r s' => r = .none ∧ Q (.ref (s.heap.objs.size + 1)) s') E { s with heap := (s.heap.push emptyDict).push (osO (freshD w) s.heap.objs.size #[]) }) :
    wpAny (model P0 w) A (call (.ref 250) [v]) Q E s := by
  refine wpAny_call (codeAny_of_tree ?_)
  show wpAny _ _ (callAny (.ref 250) _) _ _ _
  refine (Looks.of_peek C.K (pk_call w [v])).here (And.intro rfl ?_)
  refine codeAny_call_builtin_at (Code.quiet_builtin _ (by decide +kernel)) entry_typeCall ((Looks.of_peek C.K (pk_tc w [v])).here ?_)
  unfold Builtin.«type.__call__»
  have k : ∀ b o, s.heap.get? b = some o → ((s.heap.push emptyDict).push (osO (freshD w) s.heap.objs.size #[])).get? b = some o := fun b o e => Heap.get?_push_of_some _ (Heap.get?_push_of_some _ e)
  have C2 : Cx w ((s.heap.push emptyDict).push (osO (freshD w) s.heap.objs.size #[])) := C.keeps k
  have hx : ((s.heap.push emptyDict).push (osO (freshD w) s.heap.objs.size #[])).get? (s.heap.objs.size + 1) = some (osO (freshD w) s.heap.objs.size #[]) := by
    have := Heap.get?_push_size (o := osO (freshD w) s.heap.objs.size #[]) (s.heap.push emptyDict) rfl
    rwa [Heap.size_push] at this
  refine wp_if_false (by decide) ?_
  refine wpAny_bind ((Looks.of_peek C.K (pk_mro w)).here ?_)
  refine wp_if_false rfl ?_
  refine wpAny_bind (m := Bind.madeBy _) ((Looks.of_peek C.K (pk_made w)).here ?_)
  refine wpAny_bind (wpAny_pure ?_)
  refine wpAny_bind (wpAny_holding (k_osnew C (pk_nc w v) ?_))
  refine wpAny_bind ?_
  unfold isInstance
  refine wpAny_bind (w_typeOf (s := { s with heap := (s.heap.push emptyDict).push (osO (freshD w) s.heap.objs.size #[]) }) hx ((Looks.of_peek C2.K (pk_self w)).here ?_))
  refine wp_if_false rfl ?_
  refine wpAny_bind (wpAny_holding ?_)
  unfold callSpecial? specialOf
  refine wpAny_bind (wpAny_bind (w_typeOf (s := { s with heap := (s.heap.push emptyDict).push (osO (freshD w) s.heap.objs.size #[]) }) hx ((Looks.of_peek C2.K (pk_init w)).here ?_)))
  dsimp only
  refine wpAny_holding (wpAny_bind ((pk_bind w 62 _ (by rfl) C2.K).here ?_))
  dsimp only
  refine wpAny_bind ?_
  refine wpAny_mono h (fun r s' hr => ?_) fun e s' he => ?_
  · obtain ⟨rfl, hq⟩ := hr
    refine wpAny_pure ?_
    refine wp_if_false rfl (wpAny_pure hq)
  · exact he
end
end Mine
end
section
open PySem PySem.W PySem.Calls PyProof.Rows Builtin Builtin.ObjectAttr Builtin.Getset_descriptor
set_option maxRecDepth 100000
set_option maxHeartbeats 4000000
set_option autoImplicit false
set_option linter.unusedVariables false
set_option linter.unusedSectionVars false
namespace Mine
section
variable {w : World} {A : Around} {E : Value → Shared → Prop} {s : Shared} {x dx : Addr} {d : Data} {sl : Array (Option Value)} {v : Value}

theorem instOs {h : Heap} (hx : h.get? x = some (osO d dx sl)) (hd : h.get? dx = some emptyDict) (hnc : notCls (osO d dx sl) = true) : InstAt h x (osO d dx sl) 250 (some emptyDict) := ⟨hx, rfl, hnc, hd⟩

theorem entry_set_ga : entryFor table "set.__getattribute__" = some Builtin.«object.__getattribute__» := entry_like (id' := "object.__getattribute__") (by kernel_rfl) rfl (by decide +kernel) (by kernel_rfl)
theorem pk_ga (w : World) : peek (KF w) ⟨P0, w.params⟩ (typeLookup (.ref 250) "__getattribute__") = some (some (.builtin "set.__getattribute__")) := by kernel_rfl
theorem pk_gat (w : World) : peek (KF w) ⟨P0, w.params⟩ (typeLookup (.ref 250) "__getattr__") = some none := by kernel_rfl
theorem os_ga {expr : Bool} {name : Str} {Q : Value → Shared → Prop} {g a : Value} (C : Cx w s.heap) (I : InstAt s.heap x (osO d dx sl) 250 (some emptyDict)) (hf : findObj (KF w) 250 (some emptyDict) name = some (.bind g a))
    (h : wpAny (model P0 w) A.in1 (call g [a, .ref x, .ref 250]) (fun v s' => wpAny (model P0 w) A (handedOut v) Q E s') noE { s with toks := s.toks + 1 }) :
    wpAny (model P0 w) A (getAttr (.ref x) name expr) Q E s := by
  have hx := I.at_
  unfold getAttr getAttrBy
  refine wpAny_bind (wpAny_mkText (wpAny_holding (wpAny_bind (w_typeOf (s := { s with toks := s.toks + 1 }) hx (wpAny_bind (Looks.of_peek (h := s.heap) C.K (pk_ga w) _ _ _ _ (fun _ _ e => e) ?_))))))
  dsimp only
  refine wp_if_false (by decide) ?_
  unfold getAttrByItsOwn
  refine wpAny_bind (m := hookBefore _) ?_
  show wpAny _ _ (typeLookup (.ref 250) "__getattr__") _ _ _
  refine Looks.of_peek (h := s.heap) C.K (pk_gat w) _ _ _ _ (fun _ _ e => e) ?_
  refine wpAny_bind (wpAny_attempt (wpAny_holding ?_))
  unfold callGetattribute
  refine wp_if_false (by cases expr <;> rfl) ?_
  unfold boundAndCalled
  rw [F.slot_set_getattribute.bind]
  refine wpAny_bind (wpAny_pure ?_)
  show wpAny _ _ (call (.builtin "set.__getattribute__") [.ref x, .str name s.toks]) _ _ _
  refine k_setm (s := { s with toks := s.toks + 1 }) (n := "__getattribute__") (.inr (by kernel_rfl)) (by kernel_rfl) (by decide +kernel) entry_set_ga (F.args_set_getattribute_2 _ _) C hx (.inr rfl) ?_
  unfold Builtin.«object.__getattribute__»
  have L0 := I.type (M := model P0 w)
  have L1 := looks_find (M := model P0 w) C.K I hf
  refine wpAny_bind (wpAny_pure (wpAny_bind (wpAny_pure (wpAny_bind (L0 _ _ _ _ (fun _ _ e => e) (wpAny_bind (L1 _ _ _ _ (fun _ _ e => e) ?_)))))))
  show wpAny _ _ (holding [a] (call g [a, .ref x, .ref 250]) >>= ret) _ _ _
  exact wpAny_bind (wpAny_holding (wpAny_mono h (fun v s' z => wpAny_pure ⟨_, rfl, z⟩) fun _ _ (z : False) => z.elim))

theorem os_get {expr : Bool} {Q : Value → Shared → Prop} (C : Cx w s.heap) (I : InstAt s.heap x (osO d dx sl) 250 (some emptyDict)) (hv : (sl[0]?).join = some v) (hh : handedIn v = true) (h : Q v { s with toks := s.toks + 1 }) :
    wpAny (model P0 w) A (getAttr (.ref x) "_list" expr) Q E s := by
  have hc : isClsIn (KF w) 250 = true := by kernel_rfl
  have ha : findIn (KF w) (.ref 250) "_list" = some (some (.ref 251)) := by kernel_rfl
  have hn : specialIn (KF w) (.ref 251) "__get__" = some (some (.builtin "member_descriptor.__get__")) := by kernel_rfl
  have ht : takesIn (KF w) (.ref 251) = some true := by kernel_rfl
  have hp : slotIn (KF w) 251 250 = some 0 := by kernel_rfl
  exact os_ga C I (findObj_data hc ha hn ht) (wpAny_call (slot_get (s := { s with toks := s.toks + 1 }) C.K I hp hv (handed_on hh h)))

theorem os_slotset {R : Result → Shared → Prop} (C : Cx w s.heap) (I : InstAt s.heap x (osO d dx sl) 250 (some emptyDict)) (hsl : sl = #[] ∨ ∃ u, sl = #[u]) (hf0 : (osO d dx sl).isFreed = false)
    (h : ∀ h', Heap.SameBut x s.heap h' → h'.get? x = some (osO d dx #[some v]) → R (.ok (.ret .none)) { s with heap := h' }) :
    codeAny (model P0 w) A (.call (.builtin "member_descriptor.__set__") ⟨[.ref 251, .ref x, v], []⟩) R s := by
  have hp : slotIn (KF w) 251 250 = some 0 := by kernel_rfl
  obtain ⟨n, tn, owner, behind, tb, dd, sll, cd, ho, hc, hm, hb, hi⟩ := slot_of C.K hp
  have X := C.K
  obtain ⟨hh, g, dr, t, os⟩ := s
  have L0 := I.type (M := model P0 w)
  have L1 := looks_mroIn (M := model P0 w) X hm
  have L2 : Looks (model P0 w) hh (Slots.slotNamesOf (.ref 250)) cd.slotNames := (looks_clsIn X hc).andThen .now
  have hx := I.at_
  dsimp only at ho hx L0 L1
  have f0 := looks_field (M := model P0 w) ho 0 (v := .str n tn) rfl
  have f1 := looks_field (M := model P0 w) ho 1 (v := owner) rfl
  have f3 := looks_field (M := model P0 w) ho 3 (v := .builtin "proto.slot#set") rfl
  have f4 := looks_field (M := model P0 w) ho 4 (v := .int behind tb) rfl
  refine codeAny_call_builtin KF.slot_mset.plain KF.entry_mset (KF.slot_mset.check _ _ _ _ _ _ _ _ ⟨_, ho, rfl⟩ (KF.args_mset _ _ _) ?_)
  unfold Builtin.«member_descriptor.__set__» descrSet descrStoreThrough descrCheckInstance descrNameAndClass isInstance
  have f5 : Looks (model P0 w) hh (descrItself (.ref 251)) [.ref 251] := ((Looks.ld (part := none) ho).andThen .now).andThen (Looks.of_pure (by kernel_rfl))
  repeat lk
  refine ⟨Code.quiet_builtin _ (by decide +kernel), codeAny_builtin KF.entry_slotset ?_⟩
  unfold Builtin.«proto.slot#set» Slots.target
  repeat lk
  rw [if_neg hb]
  refine wpAny_pure (wpAny_bind ?_)
  rw [← hi]
  unfold setSlotAt
  dsimp only
  rw [if_neg (by rw [sizeLine_eq]; omega)]
  refine wpAny_updatePart hx (wpAny_pure (h _ (Heap.SameBut.update ..) ?_))
  have hf : (osO d dx #[some v]).isFreed = false := by
    cases d <;> first | rfl | cases hf0
  have e : (fun o : Obj => { o with slots := (o.slots ++ Array.replicate (0 + 1 - o.slots.size) none).setIfInBounds 0 (some v) }) (osO d dx sl) = osO d dx #[some v] := by
    rcases hsl with rfl | ⟨u, rfl⟩ <;> rfl
  have := Heap.get?_update_self (fun o : Obj => { o with slots := (o.slots ++ Array.replicate (0 + 1 - o.slots.size) none).setIfInBounds 0 (some v) }) hx ((congrArg Obj.isFreed e).trans hf)
  exact this.trans (congrArg some e)

theorem refuse_set (self : Value) : refuseLoop self "__setattr__" [.ref 250, .type "set", .type "object"] = pure () := by
  rw [refuseLoop_ref]; kernel_rfl
theorem os_osa {name : Str} {tk : Tok} {R : Result → Shared → Prop} {p : Addr} (C : Cx w s.heap) (I : InstAt s.heap x (osO d dx sl) 250 (some emptyDict)) (ht : takerIn (KF w) 250 name = some (some (.ref p)))
    (hT : typeIn (KF w) (.ref p) = some (.type "member_descriptor")) (h : codeAny (model P0 w) A.in1 (.call (.builtin "member_descriptor.__set__") ⟨[.ref p, .ref x, v], []⟩) (fun r s' => match r with | .ok (.ret _) => R (.ok (.ret .none)) s' | .ok _ => False | .error e => R (.error e) s') s) :
    codeAny (model P0 w) A (.call (.builtin "object.__setattr__") ⟨[.ref x, .str name tk, v], []⟩) R s := by
  have X := C.K
  have SF := PySem.F.store_object
  have sub : Looks (model P0 w) s.heap (isInstance (.ref x) (.type "object")) true := I.type.andThen (Looks.of_peek X (show peek (KF w) ⟨P0, w.params⟩ (isSubtype (.ref 250) (.type "object")) = some true by kernel_rfl))
  refine codeAny_call_builtin SF.slot.plain SF.entry (@check_slot (model P0 w) _ _ s "object.__setattr__" "object" "__setattr__" (.ref x) [.str name tk, v] [] _ SF.kind SF.split sub (SF.args (.ref x) (.str name tk) v) ?_)
  obtain ⟨attr, ha, hr⟩ := Option.bind_eq_some_iff.mp ht
  have hm : Looks (model P0 w) s.heap (mroOf (.ref 250)) [.ref 250, .type "set", .type "object"] := Looks.of_peek X (pk_mro w)
  have L3 : Looks (model P0 w) s.heap (storeTaker? attr) (some (.ref p)) := by
    cases attr with
    | none => cases hr
    | some a =>
      obtain ⟨b, hb, e⟩ := Option.map_eq_some_iff.mp hr
      refine (looks_takesIn X hb).andThen ?_
      cases b with
      | false => cases e
      | true => cases e; exact .now
  rw [osa_eq, refuse_eq]
  refine wpAny_bind (wpAny_bind (I.type.here (wpAny_bind (hm.here ?_))))
  rw [refuse_set]
  refine wpAny_pure (wpAny_bind (I.type.here (wpAny_bind ((looks_findIn X ha).here (wpAny_bind (L3.here ?_))))))
  have S := KF.slot_mset
  refine wpAny_bind (wpAny_rule (wpAny_bind (wpAny_holding (wpAny_bind (wpAny_bind ((looks_typeIn X hT).here ((Looks.of_pure S.lookup).here (wpAny_holding ?_))))))))
  rw [S.bind]
  refine wpAny_bind (wpAny_pure (wpAny_bind (wpAny_call (codeAny_mono h fun r s' z => ?_))))
  rcases r with e | (v | _ | _ | _) <;> first | exact z | exact wpAny_pure (wpAny_pure z)

theorem os_set {Q : Unit → Shared → Prop} (C : Cx w s.heap) (I : InstAt s.heap x (osO d dx sl) 250 (some emptyDict)) (hsl : sl = #[] ∨ ∃ u, sl = #[u]) (hf0 : (osO d dx sl).isFreed = false)
    (h : ∀ h' tk, Heap.SameBut x s.heap h' → h'.get? x = some (osO d dx #[some v]) → Q () { s with heap := h', toks := tk }) :
    wpAny (model P0 w) A (setAttr (.ref x) "_list" v) Q E s := by
  have hs : findIn (KF w) (.ref 250) "__setattr__" = some (some (.builtin "object.__setattr__")) := by kernel_rfl
  have ht : takerIn (KF w) 250 "_list" = some (some (.ref 251)) := by kernel_rfl
  have hT : typeIn (KF w) (.ref 251) = some (.type "member_descriptor") := by kernel_rfl
  exact set_plain C.K I hs (os_osa (s := { s with toks := s.toks + 1 }) C I ht hT (os_slotset (s := { s with toks := s.toks + 1 }) C I hsl hf0 fun h' hsb ho => h h' _ hsb ho))
end
end Mine
end
section
open PySem PySem.W PySem.Calls PyProof.Rows
set_option maxRecDepth 100000
set_option maxHeartbeats 1000000
set_option autoImplicit false
set_option linter.unusedVariables false
set_option linter.unusedSectionVars false
namespace Mine
section
variable {w : World} {A : Around} {E : Value → Shared → Prop} {s : Shared} {env : Env} {G : Array GenState} {O : OsState} {V : View} {L : Addr} {ns : List Str} {vs : List (Option Value)} {own : List Kp}

theorem keep_any {f : Value} (hk : keepIn (KF w) f = true) : ∀ h, Cx w h → ∃ k, (k = Keeper.frame ∨ k = Keeper.machine ∨ k = Keeper.boundFrame) ∧ Looks (model P0 w) h (keeperOf f) k := fun h C => keeps_K hk h C.K

/-- f(e, *r) -/
theorem c_star2 {pos : Pos} {f : Value} {first : List Value} {e : PySem.Expr} {rest : List PySem.Expr} {Q : Value → Shared → Prop}
    (hk : ∀ h, Cx w h → ∃ k, (k = Keeper.frame ∨ k = Keeper.machine ∨ k = Keeper.boundFrame) ∧ Looks (model P0 w) h (keeperOf f) k)
    (h : wpAny (model P0 w) A (spliced (backTo pos (starEach (e :: rest) env))) (fun vs s₁ => Cx w s₁.heap ∧ wpAny (model P0 w) A (call f (first ++ vs)) Q E s₁) E s)
    (he : starEach (e :: rest) env = (false, eval e env) :: starEach rest env := by rfl) (hst : (backTo pos (starEach rest env)).any (·.1) = true := by rfl) :
    wpAny (model P0 w) A (callWith pos f first (backTo pos (starEach (e :: rest) env)) []) Q E s := by
  rw [he] at h ⊢
  exact ks_call (P := Cx w) (by show (false || (backTo pos (starEach rest env)).any (·.1)) = true; rw [hst]; rfl) hk (evalArgs_plain h)
theorem i_star {pos p : Pos} {e : PySem.Expr} {rest : List PySem.Expr} {Q : List Value → Shared → Prop} (F₀ : Fm w G O V L ns vs own s)
    (h : wpAny (model P0 w) A (eval e env) (fun v s₁ => ∃ t items own, v = .ref t ∧ HasP s₁.heap (t, TP items) ∧ items.size ≤ 100 ∧ Fm w G O V L ns vs own s₁ ∧ ∀ s₂, Fm w G O V L ns vs own s₂ → wpAny (model P0 w) A (spliced (backTo pos (starEach rest env))) (fun vs s₃ => Q (items.toList ++ vs) s₃) E s₂) E s)
    (he : starEach (.Starred e p :: rest) env = (true, eval e env) :: starEach rest env := by rfl) :
    wpAny (model P0 w) A (spliced (backTo pos (starEach (.Starred e p :: rest) env))) Q E s := by
  refine items_star (wpAny_mono h (fun v s₁ h₁ => ?_) fun _ _ x => x) he
  obtain ⟨t, items, own', rfl, ⟨_, ho, rfl⟩, hsz, F, hQ⟩ := h₁
  have hT : s₁.TypeIs (.ref t) "tuple" := ⟨_, ho, rfl⟩
  unfold StarOf notIterableAtAll
  refine wpAny_bind (wpAny_specialOf hT slot_tuple_iter.lookup (wpAny_pure ⟨rfl, ?_⟩))
  exact wpAny_collect_seq t (.inr rfl) ho rfl rfl (fun h' hk => hQ _ (F.keeps (s' := { s₁ with heap := h' }) hk F.gens F.os)) (by rw [sizeLine_eq]; omega)

theorem gm_setT {name : Str} {v : Value} {pl : Sem Bool} {Q : Value × List Value → Shared → Prop} (C : Cx w s.heap) (e : findCls (KF w) (.type "set") (.type "type") name = some (.val v)) (hh : handedIn v = true) (h : ∀ tk, Q (v, []) { s with toks := tk }) :
    wpAny (model P0 w) A (getMethod (.type "set") name pl) Q E s := by
  have X := C.K
  have hstub : opaqueClassAbove (.type "set") = pure none := by unfold opaqueClassAbove; dsimp only; rw [show Manifest.isStub "set" = false by decide +kernel]; rfl
  have ht : typeOf (.type "set") = pure (.type "type") := by first | rfl | kernel_rfl
  have L0 : Looks (model P0 w) s.heap (typeOf (.type "set")) (.type "type") := Looks.of_pure ht
  have hg : findIn (KF w) (.type "type") "__getattribute__" = some (some (.builtin "type.__getattribute__")) := type_tga
  unfold getMethod specialOf
  refine wpAny_bind (wpAny_bind (L0.here ((looks_findIn X hg).here ?_)))
  dsimp only
  rw [if_pos canon_tga]
  refine wpAny_bind (wpAny_mono (Q := fun v => Q (v, [])) (E := E) ?_ (fun _ _ z => wpAny_pure z) fun _ _ z => z)
  have LO : Looks (model P0 w) s.heap (opaqueClassAbove (.type "set")) none := Looks.of_pure hstub
  refine cls_open X LO L0 hg (looks_hook X (r := none) (by rfl)) (by show subIn (KF w) _ _ = _; rfl) e
    (wpAny_pure (by show wpAny _ _ (handedOut v) _ _ _; rw [handedOut_of hh]; exact wpAny_pure (h _)))
theorem gm_os {name : Str} {v : Value} {pl : Sem Bool} {Q : Value × List Value → Shared → Prop} (C : Cx w s.heap) (e : findCls (KF w) (.ref 250) (.type "type") name = some (.val v)) (hh : handedIn v = true) (h : ∀ tk, Q (v, []) { s with toks := tk }) :
    wpAny (model P0 w) A (getMethod (.ref 250) name pl) Q E s := by
  have X := C.K
  have L0 : Looks (model P0 w) s.heap (typeOf (.ref 250)) (.type "type") := Looks.of_peek X (show peek (KF w) ⟨P0, w.params⟩ (typeOf (.ref 250)) = some (.type "type") by kernel_rfl)
  have hg : findIn (KF w) (.type "type") "__getattribute__" = some (some (.builtin "type.__getattribute__")) := type_tga
  unfold getMethod specialOf
  refine wpAny_bind (wpAny_bind (L0.here ((looks_findIn X hg).here ?_)))
  dsimp only
  rw [if_pos canon_tga]
  refine wpAny_bind (wpAny_mono (Q := fun v => Q (v, [])) (E := E) ?_ (fun _ _ z => wpAny_pure z) fun _ _ z => z)
  have LO : Looks (model P0 w) s.heap (opaqueClassAbove (.ref 250)) none := looks_opaque X (by kernel_rfl)
  refine cls_open X LO L0 hg (looks_hook X (r := none) (by rfl)) (by show subIn (KF w) _ _ = _; rfl) e
    (wpAny_pure (by show wpAny _ _ (handedOut v) _ _ _; rw [handedOut_of hh]; exact wpAny_pure (h _)))

/-- a method of an OrderedSet -/
theorem gm_osI {x dx : Addr} {d : Data} {sl : Array (Option Value)} {name : Str} {f : Addr} {pl : Sem Bool} {Q : Value × List Value → Shared → Prop} (C : Cx w s.heap) (I : InstAt s.heap x (osO d dx sl) 250 (some emptyDict))
    (hf : peek (KF w) ⟨P0, w.params⟩ (typeLookup (.ref 250) name) = some (some (.ref f))) (ht : typeIn (KF w) (.ref f) = some (.type "function")) (h : Q (.ref f, [.ref x]) s) : wpAny (model P0 w) A (getMethod (.ref x) name pl) Q E s := by
  have hx := I.at_
  have hd : s.heap.get? dx = some emptyDict := I.dict
  unfold getMethod specialOf
  refine wpAny_bind (wpAny_bind (w_typeOf hx ((Looks.of_peek C.K (pk_ga w)).here ?_)))
  dsimp only
  refine wp_if_false (by decide +kernel) ?_
  refine wpAny_bind (wpAny_bind (w_typeOf hx ((Looks.of_peek C.K (pk_gat w)).here ?_)))
  refine wp_if_false rfl ?_
  refine wpAny_bind (wpAny_bind (w_typeOf hx ((Looks.of_peek C.K hf).here ?_)))
  dsimp only
  refine wpAny_bind ((looks_typeIn C.K ht).here ?_)
  refine wp_if_false rfl ?_
  refine wpAny_bind (wpAny_loadPart hx ?_)
  have hn : s.heap.Ns dx (fun _ => none) := ⟨_, #[], 0, hd, rfl, fun e he => by simp at he, fun _ => rfl⟩
  refine wpAny_bind (wpAny_nsGet hn ?_)
  refine wp_if_false rfl ?_
  exact wpAny_bind (wpAny_rule (wpAny_pure h))

/-- the special method of an OrderedSet -/
theorem w_osSpecial {x dx : Addr} {d : Data} {sl : Array (Option Value)} {name : Str} {f : Addr} {args : List Value} {Q : Option Value → Shared → Prop} (C : Cx w s.heap) (hx : s.heap.get? x = some (osO d dx sl))
    (hf : peek (KF w) ⟨P0, w.params⟩ (typeLookup (.ref 250) name) = some (some (.ref f))) (ht : typeIn (KF w) (.ref f) = some (.type "function")) (h : wpAny (model P0 w) A (call (.ref f) (.ref x :: args)) (fun v => Q (some v)) E s) :
    wpAny (model P0 w) A (callSpecial? (.ref x) name args) Q E s := by
  unfold callSpecial? specialOf
  refine wpAny_bind (wpAny_bind (w_typeOf hx ((Looks.of_peek C.K hf).here ?_)))
  dsimp only
  refine wpAny_holding (wpAny_bind ((pk_bind w f _ ht C.K).here ?_))
  exact wpAny_bind (wpAny_mono h (fun v s' h' => wpAny_pure h') fun _ _ x => x)

theorem pk_and (w : World) : peek (KF w) ⟨P0, w.params⟩ (typeLookup (.ref 250) "__and__") = some (some (.ref 186)) := by kernel_rfl
theorem pk_sub (w : World) : peek (KF w) ⟨P0, w.params⟩ (typeLookup (.ref 250) "__sub__") = some (some (.ref 210)) := by kernel_rfl
theorem pk_fand (w : World) : peek (KF w) ⟨P0, w.params⟩ (fillsNumberSlot (.ref 250) "and") = some true := by kernel_rfl
theorem pk_fsub (w : World) : peek (KF w) ⟨P0, w.params⟩ (fillsNumberSlot (.ref 250) "sub") = some true := by kernel_rfl
theorem pk_fl (w : World) : peek (KF w) ⟨P0, w.params⟩ (fillsNumberSlot (.type "list") "and") = some false := by kernel_rfl
theorem pk_fs (w : World) : peek (KF w) ⟨P0, w.params⟩ (fillsNumberSlot (.type "set") "sub") = some true := by kernel_rfl
theorem pk_st (w : World) : peek (KF w) ⟨P0, w.params⟩ (isSubtype (.type "set") (.ref 250)) = some false := by kernel_rfl
theorem pk_py (w : World) : peek (KF w) ⟨P0, w.params⟩ (numberSlotInPython (.ref 250) "sub") = some true := by kernel_rfl
theorem pk_pys (w : World) : peek (KF w) ⟨P0, w.params⟩ (numberSlotInPython (.type "set") "sub") = some false := by kernel_rfl
theorem pk_rs (w : World) : peek (KF w) ⟨P0, w.params⟩ (typeLookup (.type "set") (dunderR "sub")) = some (some (.builtin "set.__rsub__")) := by kernel_rfl

/-- x & l -/
theorem k_os_and {x l dx : Addr} {d : Data} {sl : Array (Option Value)} {Q : Value → Shared → Prop} (C : Cx w s.heap) (hx : s.heap.get? x = some (osO d dx sl)) (hl : s.TypeIs (.ref l) "list")
    (h : wpAny (model P0 w) A (call (.ref 186) [.ref x, .ref l]) (fun v s' => (∃ a, v = .ref a) ∧ Q v s') E s) : wpAny (model P0 w) A (binaryOp .BitAnd (.ref x) (.ref l)) Q E s := by
  unfold binaryOp
  refine wpAny_holding (wpAny_bind ?_)
  unfold binaryOp1
  refine wpAny_bind (w_typeOf hx (wpAny_bind (wpAny_typeOf hl (wpAny_bind ((Looks.of_peek C.K (pk_fand w)).here ?_)))))
  refine wp_if_false rfl (wpAny_bind ((Looks.of_peek C.K (pk_fl w)).here ?_))
  refine wp_if_false rfl ?_
  refine wp_if_false rfl ?_
  refine wpAny_bind (wpAny_pure ?_)
  refine wp_if_false rfl ?_
  refine wp_if_true rfl ?_
  refine wpAny_bind (m := tryMethod (.ref x) _ _) ?_
  unfold tryMethod
  refine wpAny_bind (w_osSpecial C hx (pk_and w) (by rfl) (wpAny_mono h (fun v s' hv => ?_) fun _ _ e => e))
  obtain ⟨⟨a, rfl⟩, hq⟩ := hv
  exact wpAny_pure (wpAny_pure (wpAny_pure hq))
/-- x - S -/
theorem k_os_sub {x l dx : Addr} {d : Data} {sl : Array (Option Value)} {Q : Value → Shared → Prop} (C : Cx w s.heap) (hx : s.heap.get? x = some (osO d dx sl)) (hl : s.TypeIs (.ref l) "set")
    (h : wpAny (model P0 w) A (call (.ref 210) [.ref x, .ref l]) (fun v s' => (∃ a, v = .ref a) ∧ Q v s') E s) : wpAny (model P0 w) A (binaryOp .Sub (.ref x) (.ref l)) Q E s := by
  unfold binaryOp
  refine wpAny_holding (wpAny_bind ?_)
  unfold binaryOp1
  refine wpAny_bind (w_typeOf hx (wpAny_bind (wpAny_typeOf hl (wpAny_bind ((Looks.of_peek C.K (pk_fsub w)).here ?_)))))
  refine wp_if_false rfl (wpAny_bind ((Looks.of_peek C.K (pk_fs w)).here ?_))
  refine wp_if_true rfl ?_
  refine wpAny_bind ((Looks.of_peek C.K (pk_st w)).here ?_)
  refine wp_if_false rfl ?_
  refine wp_if_false rfl ?_
  refine wp_if_true rfl (wpAny_bind ((Looks.of_peek C.K (pk_py w)).here ?_))
  refine wp_if_true rfl ?_
  refine wpAny_bind ((Looks.of_peek C.K (pk_pys w)).here ?_)
  refine wp_if_true rfl ?_
  refine wpAny_bind ((Looks.of_peek C.K (pk_rs w)).here ?_)
  refine wp_if_true rfl ?_
  refine wpAny_bind (m := tryMethod (.ref x) _ _) ?_
  unfold tryMethod
  refine wpAny_bind (w_osSpecial C hx (pk_sub w) (by rfl) (wpAny_mono h (fun v s' hv => ?_) fun _ _ e => e))
  obtain ⟨⟨a, rfl⟩, hq⟩ := hv
  exact wpAny_pure (wpAny_pure (wpAny_pure hq))
end
end Mine
end
section
open PySem PySem.W PySem.Calls PyProof.Rows
set_option maxRecDepth 100000
set_option maxHeartbeats 1000000
set_option autoImplicit false
set_option linter.unusedVariables false
set_option linter.unusedSectionVars false
namespace Mine
/-- what a call leaves: new things, everything else as it was -/
structure Res (s s' : Shared) (news : List Kp) : Prop where
  keeps : Keeps s.heap s'.heap
  g : s'.gens = s.gens
  os : s'.os = s.os
  fresh : ∀ p ∈ news, s.heap.get? p.1 = none
  nd : (news.map (·.1)).Nodup
  has : ∀ p ∈ news, HasP s'.heap p
section
variable {w : World} {A : Around} {E : Value → Shared → Prop} {s : Shared} {env : Env} {G : Array GenState} {O : OsState} {V : View} {L : Addr} {ns : List Str} {vs : List (Option Value)} {own : List Kp}

theorem Fm.res (F : Fm w G O V L ns vs own s) {s' : Shared} {news : List Kp} (R : Res s s' news) : Fm w G O V L ns vs (news ++ own) s' := by
  have F' := F.keeps R.keeps (R.g.trans F.gens) (R.os.trans F.os)
  have hV : ∀ p ∈ news, V p.1 = none := fun p hp => by
    cases e : V p.1 with
    | none => rfl
    | some o' => have := F.view _ _ e; rw [hv, R.fresh p hp] at this; cases this
  have hL : ∀ p ∈ news, p.1 ≠ L := fun p hp e => by
    obtain ⟨o', _, _, hL, _⟩ := F.hns
    rw [← e, R.fresh p hp] at hL; cases hL
  refine ⟨F'.cx, F'.gens, F'.os, F'.hns, F'.nn, F'.view, ?_, F'.vL, ?_, ?_, ?_⟩
  · intro p hp; exact (List.mem_append.mp hp).elim (R.has p) (F'.hown p)
  · intro p hp; exact (List.mem_append.mp hp).elim (hL p) (F.oL p)
  · intro p hp; exact (List.mem_append.mp hp).elim (hV p) (F.vo p)
  · rw [List.map_append, List.nodup_append]
    refine ⟨R.nd, F.nd, fun a ha b hb e => ?_⟩
    obtain ⟨p, hp, rfl⟩ := List.mem_map.mp ha
    obtain ⟨q, hq, rfl⟩ := List.mem_map.mp hb
    obtain ⟨o, ho, _⟩ := F.hown q hq
    rw [← e, R.fresh p hp] at ho; cases ho
theorem Fm.toRes {s₀ : Shared} (F : Fm w s₀.gens s₀.os (hv s₀.heap) L ns vs own s) {news : List Kp} (h : news.Sublist own) : Res s₀ s news :=
  ⟨F.view, F.gens, F.os, fun p hp => F.vo p (h.subset hp), F.nd.sublist (h.map _), fun p hp => F.hown p (h.subset hp)⟩
theorem Res.tok {s₀ : Shared} {news : List Kp} (R : Res s₀ s news) (t : Nat) : Res s₀ { s with toks := t } news := ⟨R.keeps, R.g, R.os, R.fresh, R.nd, R.has⟩

/-- a thing of the view becomes an own one -/
theorem Fm.free (F : Fm w G O V L ns vs own s) {x : Addr} {o : Obj} {p : Obj → Prop} (hV : V x = some o) (hp : p o) (hcx : CxV w (V.but [x])) : Fm w G O (V.but [x]) L ns vs ((x, p) :: own) s := by
  have hxL : x ≠ L := fun e => by rw [e, F.vL] at hV; cases hV
  have lift : ∀ a, V a = none → V.but [x] a = none := fun a e => by unfold View.but; split <;> first | rfl | exact e
  refine ⟨hcx, F.gens, F.os, F.hns, F.nn, fun a o e => F.view a o (View.but_le _ _ a o e), ?_, lift _ F.vL, ?_, ?_, ?_⟩
  · intro q hq; rcases List.mem_cons.mp hq with rfl | hq
    · exact ⟨o, F.view _ _ hV, hp⟩
    · exact F.hown q hq
  · intro q hq; rcases List.mem_cons.mp hq with rfl | hq
    · exact hxL
    · exact F.oL q hq
  · intro q hq; rcases List.mem_cons.mp hq with rfl | hq
    · exact View.but_none (.head _)
    · exact lift _ (F.vo q hq)
  · simp only [List.map_cons, List.nodup_cons]
    refine ⟨fun hm => ?_, F.nd⟩
    obtain ⟨q, hq, e⟩ := List.mem_map.mp hm
    have := F.vo q hq
    rw [e, hV] at this; cases this

theorem unique_spec {l : Addr} {xs : List Int} {Q : Value → Shared → Prop} (C : Cx w s.heap) (R : Rm A 5) (hl : HasP s.heap (l, IL xs)) (hsz : xs.length ≤ 100)
    (h : ∀ r s', Res s s' [(r, IL (uniq xs))] → Q (.ref r) s') : wpAny (model P0 w) A (call (.ref 46) [.ref l]) Q E s := by
  refine f_call (ns := ["seq"]) (by rfl) C (by decide) R.room (by kernel_rfl) (binds := [("seq", .ref l)]) (.of_eq (by rfl)) ?_
  intro env s' he en H
  have R' := R.deeper env
  generalize hAA : A.deeper env = AA at *
  have hhA : AA.handled = none := R'.hd
  clear hAA
  subst he
  replace H : Fm w s.gens s.os (hv s.heap) s.heap.objs.size _ [none] [] s' := H
  refine s_local H en rfl .head fun s1 H => ⟨H.ctx, ?_⟩
  have hvl : VP (hv s.heap) (l, IL xs) := hl
  refine x_cons (x_Return (e_call (e_glob H en rfl (gv_list w) (c_with keep_type (i_cons (e_mcall (e_glob H en rfl (gv_dict w) (gm_fromkeys H fun u s2 H => callWith_fk (i_cons (e_local H en rfl .head (i_nil ?_)))))))))))
  obtain ⟨_, hu, rfl⟩ := H.get (.head _)
  refine ⟨hu, k_fromkeys hhA hu (IL.li (H.vp hvl)) hsz fun h' tk kvs hk hD hkeys => i_nil ?_⟩
  have H2 := H.keeps (s' := { s2 with heap := h', toks := tk }) hk H.gens H.os
  have hlen : kvs.length ≤ 100 := by
    have e1 : kvs.length = (uniq xs).length := by rw [← hkeys]; simp
    have : ∀ (ys acc : List Int), (ys.foldl uniqStep acc).length ≤ acc.length + ys.length := by
      intro ys
      induction ys with
      | nil => intro acc; simp
      | cons y r ih =>
        intro acc
        have := ih (uniqStep acc y)
        have h2 : (uniqStep acc y).length ≤ acc.length + 1 := by unfold uniqStep; split <;> simp
        simp only [List.foldl_cons, List.length_cons]; omega
    have := this xs []
    unfold uniq at e1
    simp at this
    omega
  refine ⟨H2.ctx, k_list_dict (s := { s2 with heap := h', toks := tk }) hhA (big_ne H.ctx.big) hD hlen fun r h2 tk2 hr hk2 hp => ?_⟩
  have H3 := H2.alloc (s' := { s2 with heap := h2, toks := tk2 }) hk2 H2.gens H2.os hr hp
  rw [hkeys] at H3
  exact h r _ (H3.toRes (.cons_cons _ (.cons _ .slnil)))
end
end Mine
end
section
open PySem PySem.W PySem.Calls PyProof.Rows
set_option maxRecDepth 100000
set_option maxHeartbeats 1000000
set_option autoImplicit false
set_option linter.unusedVariables false
set_option linter.unusedSectionVars false
namespace Mine
noncomputable def OSP (w : World) (S : List Int) (dx l : Addr) : Obj → Prop := fun o => ∃ d, o = osO d dx #[some (.ref l)] ∧ IS10 w d S
abbrev EDP : Obj → Prop := fun o => o = emptyDict
theorem notCls_is {w : World} {d : Data} {S : List Int} {dx : Addr} {sl : Array (Option Value)} (h : IS10 w d S) : notCls (osO d dx sl) = true := by
  obtain ⟨⟨es, ep, t, rfl, _⟩, _⟩ := h; rfl
theorem notFr_is {w : World} {d : Data} {S : List Int} {dx : Addr} {sl : Array (Option Value)} (h : IS10 w d S) : (osO d dx sl).isFreed = false := by
  obtain ⟨⟨es, ep, t, rfl, _⟩, _⟩ := h; rfl
section
variable {w : World} {A : Around} {E : Value → Shared → Prop} {s : Shared} {env : Env} {G : Array GenState} {O : OsState} {V : View} {L : Addr} {ns : List Str} {vs : List (Option Value)} {own : List Kp}

theorem View.but_get {V : View} {H : List Addr} {a : Addr} (h : V.but H a = none) (n : a ∉ H) : V a = none := by unfold View.but at h; rwa [if_neg n] at h
theorem k_isinst {l : Addr} {T Tx : String} {Q : Value → Shared → Prop} (hT : s.TypeIs (.ref l) Tx) (hTx : Tx = "list") (hne : (Value.type "list" == Value.type T) = false) (hty : typeOf (.type T) = pure (.type "type")) (hsub : isSubtype (.type "list") (.type T) = pure false) (h : ∀ tk, Q (.bool false) { s with toks := tk }) :
    wpAny (model P0 w) A (call (.builtin "isinstance") [.ref l, .type T]) Q E s := by
  subst hTx
  refine call_isinstance (isinstance_false_list (a := l) (T := T) hne hty hsub) ?_
  exact ⟨hT, h _⟩

theorem k_osinit {x l : Addr} {o : Obj} {xs : List Int} {Q : Value → Shared → Prop} (C : Cx w s.heap) (hh : A.handled = none) (hl : LI s.heap l xs) (hr : R10 xs) (hxl : x ≠ l) (ho : s.heap.get? x = some o) (hc : SetLike o) (hd : o.data = freshD w)
    (h : ∀ S' s', (∀ y, y ∈ S' ↔ y ∈ xs) → Chg w s x o S' s' → Q .none s') : wpAny (model P0 w) A (call (.builtin "set.__init__") [.ref x, .ref l]) Q E s := by
  refine wpAny_call (codeAny_call_builtin F.called_set.init.plain F.entry_set_init (w_checkInit (rest := [.ref l]) (Nat.le_refl _) C ho hc ?_))
  refine wpAny_mono (w_initBody (rest := [.ref l]) (Q := fun s' => Q .none s') (Nat.le_refl _) C ho hc hd ?_) (fun fin s' h' => ?_) fun _ _ x => x
  · refine w_updateFrom_list (A := A.in1) hh hl hr ho hxl (hd ▸ fresh_is w) fun d' S' h' tk hd' hp hk ho' => ?_
    exact h S' _ (fun y => by rw [hp y]; simp) ⟨d', h', tk, hd', hk, ho', rfl⟩
  · obtain ⟨rfl, h'⟩ := h'
    exact h'
theorem uniq_mem (xs : List Int) : ∀ y, y ∈ uniq xs ↔ y ∈ xs := by
  have : ∀ (ys acc : List Int) (y : Int), y ∈ ys.foldl uniqStep acc ↔ y ∈ acc ∨ y ∈ ys := by
    intro ys
    induction ys with
    | nil => intro acc y; simp
    | cons z r ih =>
      intro acc y
      rw [List.foldl_cons, ih, List.mem_cons]
      unfold uniqStep
      split
      · rename_i hz
        constructor
        · rintro (q | q); exact .inl q; exact .inr (.inr q)
        · rintro (q | q | q); exact .inl q; exact .inl (q ▸ hz); exact .inr q
      · rw [List.mem_append, List.mem_singleton, or_assoc]
  intro y; unfold uniq; rw [this]; simp
theorem uniq_nodup (xs : List Int) : (uniq xs).Nodup := by
  have : ∀ (ys acc : List Int), acc.Nodup → (ys.foldl uniqStep acc).Nodup := by
    intro ys
    induction ys with
    | nil => intro acc h; exact h
    | cons z r ih =>
      intro acc h
      refine ih _ ?_
      unfold uniqStep
      split
      · exact h
      · rename_i hz
        rw [List.nodup_append]
        exact ⟨h, by simp, fun a ha b hb e => hz (by rw [List.mem_singleton] at hb; rw [← hb, ← e]; exact ha)⟩
  exact this xs [] List.nodup_nil
theorem uniq_r10 {xs : List Int} (h : R10 xs) : R10 (uniq xs) := fun x hx => h x ((uniq_mem xs x).mp hx)

theorem os_init {x dx l : Addr} {xs : List Int} {Q : Value → Shared → Prop} (C : CxV w ((hv s.heap).but [x])) (R : Rm A 10) (hx : s.heap.get? x = some (osO (freshD w) dx #[])) (hdx : s.heap.get? dx = some emptyDict) (hxd : x ≠ dx) (hl : HasP s.heap (l, IL xs)) (hlx : l ≠ x) (hr : R10 xs) (hsz : xs.length ≤ 100)
    (h : ∀ l2 S' s', (∀ b o, b ≠ x → s.heap.get? b = some o → s'.heap.get? b = some o) → s'.gens = s.gens → s'.os = s.os → s.heap.get? l2 = none → HasP s'.heap (l2, IL (uniq xs)) → HasP s'.heap (x, OSP w S' dx l2) → (∀ y, y ∈ S' ↔ y ∈ uniq xs) → Q .none s') :
    wpAny (model P0 w) A (call (.ref 62) [.ref x, .ref l]) Q E s := by
  have C0 : Cx w s.heap := C.at fun a o e => View.but_le _ _ a o e
  refine f_call (ns := ["self", "d"]) (by rfl) C0 (by decide) R.room (by kernel_rfl) (binds := [("self", .ref x), ("d", .ref l)]) ?_ ?_
  · exact .of_defaults (T := 55) rfl (C0.K _ _ (by rfl)) rfl rfl rfl
  intro env s' he en H
  have R' := R.deeper env
  generalize hAA : A.deeper env = AA at *
  have hhA : AA.handled = none := R'.hd
  clear hAA
  subst he
  replace H : Fm w s.gens s.os (hv s.heap) s.heap.objs.size _ [none, none] [] s' := H
  refine s_local H en rfl .head fun s1 H => s_local H en rfl (.tail .head) fun s2 H => ⟨H.ctx, ?_⟩
  replace H := H.free (x := x) (p := fun o => o = osO (freshD w) dx #[]) hx rfl C
  have hvl : VP ((hv s.heap).but [x]) (l, IL xs) := let ⟨o, a, b⟩ := hl; ⟨o, View.but_at a (by simpa using hlx), b⟩
  have hvd : ((hv s.heap).but [x]) dx = some emptyDict := View.but_at hdx (by simpa using (Ne.symm hxd))
  refine x_cons (x_If (t_cmp (e_local H en rfl (.tail .head) (e_none (isNot_none (tr_bool ⟨fun _ => ?_, fun e => ?_⟩))))))
  · obtain ⟨ol, hol, vl, ⟨nl, rfl⟩, hvl'⟩ := id hvl
    refine x_cons (x_If (t_bool (wpAny_allTrue_Or_cons (t_value (e_call (e_glob H en rfl (gv_isinstance w) (c_with keep_builtin (i_cons (e_local H en rfl (.tail .head) (i_cons (e_glob H en rfl (gv_set w) (i_nil ⟨H.ctx, ?_⟩))))))))))))
    refine k_isinst ⟨_, H.look hol, rfl⟩ rfl (by decide) (by rfl) F.sub_list_set fun tk => tr_bool ?_
    rw [if_neg Bool.false_ne_true]
    replace H := H.tok tk
    refine wpAny_allTrue_Or_cons (t_value (e_call (e_glob H en rfl (gv_isinstance w) (c_with keep_builtin (i_cons (e_local H en rfl (.tail .head) (i_cons (e_glob H en rfl (gv_dict w) (i_nil ⟨H.ctx, ?_⟩)))))))))
    refine k_isinst ⟨_, H.look hol, rfl⟩ rfl (by decide) (by rfl) (by rw [isSubtype_type]; kernel_rfl) fun tk => tr_bool ?_
    rw [if_neg Bool.false_ne_true]
    replace H := H.tok tk
    refine wpAny_allTrue_Or_nil ⟨fun e => absurd e (by decide), fun _ => ?_⟩
    refine x_cons (plainObj_wpAny_Assign_Attribute (e_call (e_glob H en rfl (gv_unique w) (c_with (keep_fn (f := 46) rfl rfl) (i_cons (e_local H en rfl (.tail .head) (i_nil ⟨H.ctx, ?_⟩)))))))
    refine unique_spec H.ctx (R'.mono (by decide)) (H.vp hvl) hsz fun l2 s3 Rs => ?_
    replace H := H.res Rs
    refine e_local H en rfl .head ?_
    obtain ⟨_, hox, rfl⟩ := H.get (.tail _ (.head _))
    have I := instOs hox (H.look hvd) (notCls_is (fresh_is w))
    refine os_set H.ctx I (.inl rfl) (notFr_is (fresh_is w)) fun h' tk hsb hox' => ?_
    replace H := H.change (i := 1) (p' := fun o => o = osO (freshD w) dx #[some (.ref l2)]) (s' := { s3 with heap := h', toks := tk }) rfl hsb.extBut ⟨_, hox', rfl⟩ H.gens H.os
    refine x_nil ?_
    refine x_cons (x_Expr (e_mcall (e_glob H en rfl (gv_set w) (gm_setT (v := .builtin "set.__init__") H.ctx (by kernel_rfl) (by decide +kernel) fun tk => ?_)) (by rfl)) (by rfl))
    replace H := H.tok tk
    refine c_with keep_builtin (i_cons (e_local H en rfl .head (i_cons (Attribute_Name_ (e_local H en rfl .head (os_get H.ctx (instOs hox' (H.look hvd) (notCls_is (fresh_is w))) rfl rfl (i_nil ?_)))))))
    replace H := H.tok (tk + 1)
    refine ⟨H.ctx, k_osinit H.ctx hhA (IL.li (H.get (.head _))) (uniq_r10 hr) (H.one (i := 1) (j := 0) rfl rfl (by decide)) hox' (.inr rfl) rfl fun S' s4 hS hch => ⟨rfl, x_nil ?_⟩⟩
    obtain ⟨d', h2, tk2, hd', hk2, ho2, rfl⟩ := hch
    replace H := H.change (i := 1) (p' := OSP w S' dx l2) rfl (s' := { s3 with heap := h2, toks := tk2 }) (fun b o hb e => hk2 b o hb e) ⟨_, ho2, d', rfl, hd'⟩ H.gens H.os
    refine x_nil (h l2 S' _ (fun b o hb e => H.view b o (View.but_at e (by simpa using hb))) H.gens H.os ?_ (H.get (.head _)) (H.get (.tail _ (.head _))) hS)
    have h1 := H.vo (l2, IL (uniq xs)) (.head _)
    have h2' : l2 ≠ x := H.one (i := 0) (j := 1) rfl rfl (by decide)
    exact View.but_get h1 (by simpa using h2')
  · cases e
end
end Mine
end
section
open PySem PySem.W PySem.Calls PyProof.Rows
set_option maxRecDepth 100000
set_option maxHeartbeats 1000000
set_option autoImplicit false
set_option linter.unusedVariables false
set_option linter.unusedSectionVars false
namespace Mine
section
variable {w : World} {A : Around} {E : Value → Shared → Prop} {s : Shared} {env : Env} {G : Array GenState} {O : OsState} {V : View} {L : Addr} {ns : List Str} {vs : List (Option Value)} {own : List Kp}

/-- a call of a def of the text, whatever the binding makes -/
theorem f_callV {f : Addr} {name qual : Str} {params : Arguments} {body : List Stmt} {scope : Scope} {dV kV doc pm cdv ct oc : Value} {an od : Option Addr} {osl : Array (Option Value)} {args : List Value} {Q : Value → Shared → Prop}
    (hl : (KF w).lookup f = some ⟨oc, od, .func (fnOf name qual params body scope dV kV doc pm an cdv ct), osl⟩) (C : Cx w s.heap) (nn : ns.Nodup) (hroom : A.depth < recursionLimit)
    (hcd : codeIn (KF w) cdv qual = true)
    (h : wpAny (model P0 w) A.in1 (bindArgs (fnOf name qual params body scope dV kV doc pm an cdv ct) ⟨args, []⟩) (fun binds s₁ => Cx w s₁.heap ∧ ∀ env s', env = newEnv scope s₁.heap.objs.size mainGlobals (cellsFrom (s₁.heap.objs.size + 1) scope.names []) (qual ++ ".<locals>.") (some f) cdv none builtinsNs → En env s₁.heap.objs.size →
      Fm w s₁.gens s₁.os (hv s₁.heap) s₁.heap.objs.size ns (ns.map fun _ => none) (cellObjs (s₁.heap.objs.size + 1) scope.names []) s' →
      StoreAll (model P0 w) A.in1 noE env binds (fun s'' => Cx w s''.heap ∧ wpAny (model P0 w) (A.deeper env) (execs body env) (fun fl s₃ => Q (match fl with | .ret v => v | _ => .none) s₃) noE s'') s') noE s)
    (hk : scope.kind = .function := by rfl) (hco : scope.isCoroutine = false := by rfl) (hgen : scope.isGenerator = false := by rfl) :
    wpAny (model P0 w) A (call (.ref f) args) Q E s := by
  refine wp_noE (wpAny_call ?_)
  refine codeAny_call_function hroom (C.K _ _ hl) rfl hco hgen rfl (codeRec_of C.K hcd) ?_
  refine wpAny_mono h (fun binds s₁ h₁ => ?_) fun _ _ (x : False) => x.elim
  obtain ⟨C₁, h₁⟩ := h₁
  refine wpAny_mono (n_env (E := noE) C₁ nn hk hco fun env s' he en F => StoreAll.mono (fun s'' h'' => (⟨h''.1.nolimit, codeAny_func (wpAny_mono h''.2 (fun _ _ x => x) fun _ _ (x : False) => x.elim)⟩ : s''.heap.NoLimit ∧ codeAny (model P0 w) A (.func body env) _ s'')) _ _ (h₁ env s' he en F)) (fun _ _ x => x) fun _ _ (x : False) => x.elim

theorem osnew_res : Res s { s with heap := (s.heap.push emptyDict).push (osO (freshD w) s.heap.objs.size #[]) } [(s.heap.objs.size + 1, fun o => o = osO (freshD w) s.heap.objs.size #[]), (s.heap.objs.size, EDP)] := by
  have h1 := Heap.get?_push_size (o := osO (freshD w) s.heap.objs.size #[]) (s.heap.push emptyDict) rfl
  rw [Heap.size_push] at h1
  refine ⟨fun b o e => Heap.get?_push_of_some _ (Heap.get?_push_of_some _ e), rfl, rfl, ?_, ?_, ?_⟩
  · intro p hp
    rcases List.mem_cons.mp hp with rfl | hp
    · cases e : s.heap.get? (s.heap.objs.size + 1) with
      | none => rfl
      | some o' => exact absurd (Heap.lt_size e) (Nat.not_lt.mpr (Nat.le_succ _))
    rcases List.mem_cons.mp hp with rfl | hp
    · exact fresh_none _
    · cases hp
  · simp only [List.map_cons, List.map_nil, List.nodup_cons, List.mem_singleton, List.not_mem_nil, not_false_eq_true, List.nodup_nil, and_true]
    exact Ne.symm (Nat.ne_of_lt (Nat.lt_succ_self _))
  · intro p hp
    rcases List.mem_cons.mp hp with rfl | hp
    · exact ⟨_, h1, rfl⟩
    rcases List.mem_cons.mp hp with rfl | hp
    · exact ⟨_, Heap.get?_push_of_some _ (Heap.get?_push_size _ rfl), rfl⟩
    · cases hp

theorem CxV.of {h h' : Heap} {x : Addr} (C : Cx w h) (hx : h.get? x = none) (k : Keeps h h') : CxV w ((hv h').but [x]) :=
  ⟨h, C, fun a o e => View.but_at (k a o e) (by simp only [List.mem_singleton]; rintro rfl; rw [hv, hx] at e; cases e)⟩

/-- OrderedSet(l) -/
theorem os_make {l : Addr} {xs : List Int} {Q : Value → Shared → Prop} (C : Cx w s.heap) (R : Rm A 12) (hl : HasP s.heap (l, IL xs)) (hr : R10 xs) (hsz : xs.length ≤ 100)
    (h : ∀ x dx l2 S' s', Res s s' [(x, OSP w S' dx l2), (dx, EDP), (l2, IL (uniq xs))] → (∀ y, y ∈ S' ↔ y ∈ uniq xs) → Q (.ref x) s') : wpAny (model P0 w) A (call (.ref 250) [.ref l]) Q E s := by
  refine k_osmake C (wp_noE ?_)
  have Rs := osnew_res (w := w) (s := s)
  have hx := Rs.has _ (.head _)
  have hd := Rs.has _ (.tail _ (.head _))
  have fx := Rs.fresh _ (.head _)
  have fd := Rs.fresh _ (.tail _ (.head _))
  have hlne : ∀ a, s.heap.get? a = none → l ≠ a := fun a e q => by obtain ⟨o, ho, _⟩ := hl; rw [← q, ho] at e; cases e
  obtain ⟨_, hx, rfl⟩ := hx
  obtain ⟨_, hd, rfl⟩ := hd
  refine os_init (s := { s with heap := (s.heap.push emptyDict).push (osO (freshD w) s.heap.objs.size #[]) }) (CxV.of C fx Rs.keeps) (R.under.mono (by decide)) hx hd (Ne.symm (Nat.ne_of_lt (Nat.lt_succ_self _))) (hl.keeps fun o e => Rs.keeps _ _ e) (hlne _ fx) hr hsz fun l2 S' s' hk g os hl2 hp hpx hS => ⟨rfl, ?_⟩
  have hl2' : s.heap.get? l2 = none := by
    cases e : s.heap.get? l2 with
    | none => rfl
    | some o => have := Rs.keeps _ _ e; rw [hl2] at this; cases this
  have n1 : l2 ≠ s.heap.objs.size + 1 := fun e => by rw [e, hx] at hl2; cases hl2
  have n2 : l2 ≠ s.heap.objs.size := fun e => by rw [e, hd] at hl2; cases hl2
  refine h _ s.heap.objs.size l2 S' s' ⟨fun b o e => hk b o (fun q => by rw [q, fx] at e; cases e) (Rs.keeps b o e), g, os, ?_, ?_, ?_⟩ hS
  · intro p hp
    rcases List.mem_cons.mp hp with rfl | hp
    · exact fx
    rcases List.mem_cons.mp hp with rfl | hp
    · exact fd
    rcases List.mem_cons.mp hp with rfl | hp
    · exact hl2'
    · cases hp
  · simp only [List.map_cons, List.map_nil, List.nodup_cons, List.mem_cons, List.mem_singleton, List.not_mem_nil, not_false_eq_true, List.nodup_nil, and_true, not_or, or_false]
    exact ⟨⟨Ne.symm (Nat.ne_of_lt (Nat.lt_succ_self _)), Ne.symm n1⟩, Ne.symm n2⟩
  · intro p hp'
    rcases List.mem_cons.mp hp' with rfl | hp'
    · exact hpx
    rcases List.mem_cons.mp hp' with rfl | hp'
    · exact ⟨_, hk _ _ (Nat.ne_of_lt (Nat.lt_succ_self _)) hd, rfl⟩
    rcases List.mem_cons.mp hp' with rfl | hp'
    · exact hp
    · cases hp'
end
end Mine
end
section
open PySem PySem.W PySem.Calls PyProof.Rows
set_option maxRecDepth 100000
set_option maxHeartbeats 1000000
set_option autoImplicit false
set_option linter.unusedVariables false
set_option linter.unusedSectionVars false
namespace Mine
section
variable {w : World} {A : Around} {E : Value → Shared → Prop} {s : Shared} {env : Env} {G : Array GenState} {O : OsState} {V : View} {L : Addr} {ns : List Str} {vs : List (Option Value)} {own : List Kp}

theorem OSP.inst {h : Heap} {x dx l : Addr} {S : List Int} (hx : HasP h (x, OSP w S dx l)) (hd : HasP h (dx, EDP)) : ∃ d, h.get? x = some (osO d dx #[some (.ref l)]) ∧ InstAt h x (osO d dx #[some (.ref l)]) 250 (some emptyDict) ∧ IS10 w d S := by
  obtain ⟨_, hx, d, rfl, hI⟩ := hx
  obtain ⟨_, hd, rfl⟩ := hd
  exact ⟨d, hx, instOs hx hd (notCls_is hI), hI⟩

/-- OrderedSet.__iter__ -/
theorem os_iter {x dx l : Addr} {S : List Int} {items : Array Value} {Q : Value → Shared → Prop} (C : Cx w s.heap) (R : Rm A 5) (hx : HasP s.heap (x, OSP w S dx l)) (hd : HasP s.heap (dx, EDP)) (hl : s.heap.IsList l items)
    (h : ∀ I s', Res s s' [(I, LIt l 0)] → Q (.ref I) s') : wpAny (model P0 w) A (call (.ref 132) [.ref x]) Q E s := by
  obtain ⟨d, hx, I, hI⟩ := OSP.inst hx hd
  refine f_call (ns := ["self"]) (by rfl) C (by decide) R.room (by kernel_rfl) (binds := [("self", .ref x)]) (.of_eq (by rfl)) ?_
  intro env s' he en H
  have R' := R.deeper env
  generalize hAA : A.deeper env = AA at *
  clear hAA
  subst he
  replace H : Fm w s.gens s.os (hv s.heap) s.heap.objs.size _ [none] [] s' := H
  refine s_local H en rfl .head fun s1 H => ⟨H.ctx, ?_⟩
  have I1 : InstAt s1.heap x (osO d dx #[some (.ref l)]) 250 (some emptyDict) := ⟨H.view _ _ I.at_, I.cls, I.no, H.view _ _ I.dict⟩
  refine x_cons (x_Return (e_call (e_glob H en rfl (gv_iter w) (c_with keep_builtin (i_cons (Attribute_Name_ (e_local H en rfl .head (os_get H.ctx I1 rfl rfl (i_nil ?_)))))))))
  replace H := H.tok (s1.toks + 1)
  obtain ⟨ol, hol, hr⟩ := hl
  refine ⟨H.ctx, k_iter_list H ⟨ol, H.view _ _ hol, hr⟩ fun I s2 H => ?_⟩
  exact h I _ (H.toRes (.refl _))

/-- _from_list -/
theorem os_from {x0 l : Addr} {xs : List Int} {Q : Value → Shared → Prop} (C : Cx w s.heap) (R : Rm A 5) (hl : HasP s.heap (l, IL xs)) (hr : R10 xs)
    (h : ∀ x dx S' s', Res s s' [(x, OSP w S' dx l), (dx, EDP)] → (∀ y, y ∈ S' ↔ y ∈ xs) → Q (.ref x) s') : wpAny (model P0 w) A (call (.ref 76) [.ref x0, .ref l]) Q E s := by
  refine f_call (ns := ["self", "new_list", "new"]) (by rfl) C (by decide) R.room (by kernel_rfl) (binds := [("self", .ref x0), ("new_list", .ref l)]) (.of_eq (by rfl)) ?_
  intro env s' he en H
  have R' := R.deeper env
  generalize hAA : A.deeper env = AA at *
  have hhA : AA.handled = none := R'.hd
  clear hAA
  subst he
  replace H : Fm w s.gens s.os (hv s.heap) s.heap.objs.size _ [none, none, none] [] s' := H
  refine s_local H en rfl .head fun s1 H => s_local H en rfl (.tail .head) fun s2 H => ⟨H.ctx, ?_⟩
  have hvl : VP (hv s.heap) (l, IL xs) := hl
  refine x_cons (x_Assign (e_mcall (e_glob H en rfl (gv_OrderedSet w) (gm_os (v := .builtin "set.__new__") H.ctx (by kernel_rfl) (by decide +kernel) fun tk => ?_)) (by rfl)))
  replace H := H.tok tk
  refine c_with keep_builtin (i_cons (e_glob H en rfl (gv_OrderedSet w) (i_nil ⟨H.ctx, k_osnew H.ctx (pk_nc0 w) ?_⟩)))
  replace H := H.res (osnew_res (w := w))
  generalize s2.heap.objs.size = dx at H ⊢
  refine a_Name (s_local H en rfl (.tail (.tail .head)) fun s3 H => ?_)
  generalize dx + 1 = x at H
  refine x_cons (plainObj_wpAny_Assign_Attribute (e_local H en rfl (.tail .head) (e_local H en rfl (.tail (.tail .head)) ?_)))
  obtain ⟨_, hox, rfl⟩ := H.get (.head _)
  obtain ⟨_, hod, rfl⟩ := H.get (.tail _ (.head _))
  refine os_set H.ctx (instOs hox hod (notCls_is (fresh_is w))) (.inl rfl) (notFr_is (fresh_is w)) fun h' tk hsb hox' => ?_
  replace H := H.change (i := 0) (p' := fun o => o = osO (freshD w) dx #[some (.ref l)]) (s' := { s3 with heap := h', toks := tk }) rfl hsb.extBut ⟨_, hox', rfl⟩ H.gens H.os
  refine x_cons (x_Expr (e_mcall (e_glob H en rfl (gv_set w) (gm_setT (v := .builtin "set.update") H.ctx (by kernel_rfl) (by decide +kernel) fun tk => ?_)) (by rfl)) (by rfl))
  replace H := H.tok tk
  refine c_with keep_builtin (i_cons (e_local H en rfl (.tail (.tail .head)) (i_cons (e_local H en rfl (.tail .head) (i_nil ?_)))))
  refine ⟨H.ctx, k_update_list H.ctx hhA (IL.li (H.vp hvl)) hr (Ne.symm (H.vne hvl (.head _))) hox' (.inr rfl) (fresh_is w) fun S' s4 hS hch => ⟨rfl, ?_⟩⟩
  obtain ⟨d', h2, tk2, hd', hk2, ho2, rfl⟩ := hch
  replace H := H.change (i := 0) (p' := OSP w S' dx l) rfl (s' := { s3 with heap := h2, toks := tk2 }) (fun b o hb e => hk2 b o hb e) ⟨_, ho2, d', rfl, hd'⟩ H.gens H.os
  refine x_cons (x_Return (e_local H en rfl (.tail (.tail .head)) ?_))
  exact h x dx S' _ (H.toRes (.refl _)) (fun y => by rw [hS y]; simp)

theorem take_filter {xs : List Int} {i : Nat} {x : Int} (p : Int → Bool) (h : xs[i]? = some x) : (xs.take (i + 1)).filter p = (xs.take i).filter p ++ (if p x then [x] else []) := by
  rw [List.take_add_one, h, List.filter_append]
  cases hp : p x <;> simp [hp]
theorem HasP.but {h h' : Heap} {H : List Addr} {p : Kp} (k : ((hv h).but H).le (hv h')) (x : HasP h p) (n : p.1 ∉ H) : HasP h' p := let ⟨o, a, b⟩ := x; ⟨o, k _ _ (View.but_at a n), b⟩

theorem e_mcallS {o : PySem.Expr} {name : Str} {apos pos : Pos} {args : List PySem.Expr} {Q : Value → Shared → Prop}
    (h : wpAny (model P0 w) A (eval o env) (fun ov s₁ => wpAny (model P0 w) A (getAttr ov name true) (fun f s₂ => wpAny (model P0 w) A (callWith pos f [] (backTo pos (starEach args env)) []) Q E s₂) E s₁) E s)
    (he : eval (.Call (.Attribute o name apos) args [] pos) env = (do
      let ov ← eval o env
      standAt apos.atName
      let fx ← holding [ov] (do let f ← getAttr ov name true; pure (f, ([] : List Value)))
      let p ← (pure pos : Sem Pos)
      callWith p fx.1 fx.2 (backTo pos (starEach args env)) []) := by rfl) :
    wpAny (model P0 w) A (eval (.Call (.Attribute o name apos) args [] pos) env) Q E s := by
  rw [he]
  exact wpAny_bind (wpAny_mono h (fun ov s₁ h₁ => wpAny_bind (wpAny_standAt (wpAny_bind (wpAny_holding (wpAny_bind (wpAny_mono h₁ (fun f s₂ h₂ => wpAny_pure (wpAny_bind (wpAny_pure h₂))) fun _ _ x => x)))))) fun _ _ x => x)
theorem ga_setT {name : Str} {v : Value} {expr : Bool} {Q : Value → Shared → Prop} (C : Cx w s.heap) (e : findCls (KF w) (.type "set") (.type "type") name = some (.val v)) (hh : handedIn v = true) (h : ∀ tk, Q v { s with toks := tk }) :
    wpAny (model P0 w) A (getAttr (.type "set") name expr) Q E s := by
  have X := C.K
  have hstub : opaqueClassAbove (.type "set") = pure none := by unfold opaqueClassAbove; dsimp only; rw [show Manifest.isStub "set" = false by decide +kernel]; rfl
  have ht : typeOf (.type "set") = pure (.type "type") := by first | rfl | kernel_rfl
  have L0 : Looks (model P0 w) s.heap (typeOf (.type "set")) (.type "type") := Looks.of_pure ht
  have hg : findIn (KF w) (.type "type") "__getattribute__" = some (some (.builtin "type.__getattribute__")) := type_tga
  have LO : Looks (model P0 w) s.heap (opaqueClassAbove (.type "set")) none := Looks.of_pure hstub
  exact cls_open X LO L0 hg (looks_hook X (r := none) (by rfl)) (by show subIn (KF w) _ _ = _; rfl) e
    (wpAny_pure (by show wpAny _ _ (handedOut v) _ _ _; rw [handedOut_of hh]; exact wpAny_pure (h _)))
theorem wp_eq {α : Type} {t t' : Sem α} {Q : α → Shared → Prop} (e : t = t') (h : wpAny (model P0 w) A t' Q E s) : wpAny (model P0 w) A t Q E s := e ▸ h
/-- OrderedSet.intersection with a list -/
theorem os_inter {x dx l lb : Addr} {S xs ys : List Int} {Q : Value → Shared → Prop} (C : Cx w s.heap) (R : Rm A 12) (hx : HasP s.heap (x, OSP w S dx l)) (hd : HasP s.heap (dx, EDP)) (hl : HasP s.heap (l, IL xs)) (hlb : HasP s.heap (lb, IL ys)) (hxl : x ≠ lb)
    (hS : ∀ y, y ∈ S ↔ y ∈ xs) (hr : R10 xs) (hsz : xs.length ≤ 100) (h : ∀ x2 dx2 l2 S' s', Res s s' [(x2, OSP w S' dx2 l2), (dx2, EDP), (l2, IL (xs.filter fun y => decide (y ∈ ys)))] → (∀ y, y ∈ S' ↔ y ∈ xs ∧ y ∈ ys) → Q (.ref x2) s') :
    wpAny (model P0 w) A (call (.ref 179) [.ref x, .ref lb]) Q E s := by
  refine f_callV (ns := ["self", "other"]) (by rfl) C (by decide) R.room (by kernel_rfl) ?_
  show wpAny _ _ (newTuple [.ref lb] >>= fun t => (pure [("self", Value.ref x), ("other", t)] : Sem (List (Str × Value)))) _ _ _
  refine wpAny_bind (wpAny_newObj_type (wpAny_pure ?_) (by size_fits))
  have Ks : Keeps s.heap (s.heap.push (tupO #[.ref lb])) := Keeps.push _ _
  have htp : HasP (s.heap.push (tupO #[.ref lb])) (s.heap.objs.size, TP #[.ref lb]) := ⟨_, Heap.get?_push_size _ rfl, rfl⟩
  show Cx w (s.heap.push (tupO #[.ref lb])) ∧ _
  refine ⟨C.keeps Ks, ?_⟩
  generalize hs1 : ({ s with heap := s.heap.push (tupO #[.ref lb]) } : Shared) = s1
  generalize htq : s.heap.objs.size = tp
  rw [htq] at htp
  have e1 : s1.heap = s.heap.push (tupO #[.ref lb]) := by rw [← hs1]
  have e2 : s1.gens = s.gens := by rw [← hs1]
  have e3 : s1.os = s.os := by rw [← hs1]
  rw [← e1] at Ks htp
  replace hx := hx.keeps fun o e => Ks _ _ e
  replace hd := hd.keeps fun o e => Ks _ _ e
  replace hl := hl.keeps fun o e => Ks _ _ e
  replace hlb := hlb.keeps fun o e => Ks _ _ e
  obtain ⟨d, hx', I, hI⟩ := OSP.inst hx hd
  intro env s' he en H
  have R' := R.deeper env
  generalize hAA : A.deeper env = AA at *
  have hhA : AA.handled = none := R'.hd
  clear hAA
  subst he
  obtain ⟨c, hc⟩ : ∃ c, c = s1.heap.objs.size + 1 := ⟨_, rfl⟩
  replace H : Fm w s1.gens s1.os (hv s1.heap) s1.heap.objs.size ["self", "other"] [none, none] [(c, CellP none)] s' := by rw [hc]; exact H
  refine s_local H en rfl .head fun s2 H => s_local H en rfl (.tail .head) fun s3 H => ⟨H.ctx, ?_⟩
  have hvb : VP (hv s1.heap) (lb, IL ys) := hlb
  have hvt : VP (hv s1.heap) (tp, TP #[.ref lb]) := htp
  refine x_cons (x_Assign (e_mcallS (e_glob H en rfl (gv_set w) (ga_setT (v := .builtin "set.intersection") H.ctx (by kernel_rfl) (by decide +kernel) fun tk => ?_)) (by rfl)))
  replace H := H.tok tk
  refine c_star2 keep_builtin (i_cons (e_local H en rfl .head (i_star H (e_local H en rfl (.tail .head) ⟨tp, _, _, rfl, H.vp hvt, (by show 1 ≤ 100; decide), H, fun s4 H => i_nil ?_⟩))))
  refine ⟨H.ctx, k_inter_list H.ctx hhA (IL.li (H.vp hvb)) (H.look hx') (.inr rfl) hI hxl fun S2 hS2 => H.newS fun r s5 H => ?_⟩
  refine a_Name (s_cell (i := 1) H en rfl (by rw [hc]; rfl) rfl fun s6 H => ?_)
  replace H : Fm w s1.gens s1.os (hv s1.heap) s1.heap.objs.size _ _ [(r, SP w S2), (c, CellP (some (.ref r)))] s6 := H
  have I6 : InstAt s6.heap x (osO d dx #[some (.ref l)]) 250 (some emptyDict) := ⟨H.view _ _ I.at_, I.cls, I.no, H.view _ _ I.dict⟩
  refine x_cons (x_Return (e_mcall (e_local H en rfl .head (gm_osI (f := 76) H.ctx I6 (by kernel_rfl) (by rfl) (c_with (keep_fn (f := 76) rfl rfl) (i_cons ?_))))))
  obtain ⟨ol, hol, vl, ⟨nl, rfl⟩, hvl⟩ := hl
  have hlen := IntsAre.length hvl
  refine e_ListComp (cl := [("other_set", c)]) H (fun i acc ext => ext = [] ∧ IntsAre acc ((xs.take i).filter fun y => decide (y ∈ S2))) (Attribute_Name_ (e_local H en rfl .head (os_get H.ctx I6 rfl rfl ?_))) (by rw [hc]; rfl)
  replace H := H.tok (s6.toks + 1)
  refine i_list (items := vl.toArray) H ⟨_, H.look hol, rfl, nl, rfl⟩ fun I0 s7 H hlI => ⟨I0, vl.toArray.size, _, LIt l, _, _, [], _, rfl, Iter.list hhA I0 l hlI vl.toArray, by simp; omega, H, ⟨rfl, .nil⟩, ?_, ?_, ?_⟩
  · intro i acc ext' s8 _ hk
    exact ⟨_, hk l _ (by simpa using hlI) (H.look hol), rfl, nl, rfl⟩
  · intro C0 D i v acc ext u s8 hi hP hinv hu H8
    obtain ⟨rfl, hacc⟩ := hinv
    obtain ⟨t, y, hy, rfl⟩ := intsAt hvl i v hP
    obtain ⟨u0, u1, rfl⟩ : ∃ u0 u1, u = [u0, u1] := by
      match u, hu with
      | [u0, u1], _ => exact ⟨u0, u1, rfl⟩
    have en8 := en.comp { kind := .function, names := [(".0", .local), ("a", .local), ("other_set", .free)], isGenerator := false, isCoroutine := false } [("other_set", c)] C0 rfl rfl
    refine a_Name (s_local H8 en8 rfl (.tail .head) fun s9 H9 => ?_)
    have hcI : c ∉ I0 :: ([] : List Kp).map (·.1) := by simpa using H.one (i := 2) (j := 0) rfl rfl (by decide)
    have hrI : r ∉ I0 :: ([] : List Kp).map (·.1) := by simpa using H.one (i := 1) (j := 0) rfl rfl (by decide)
    refine wpAny_tests_one (t_cmp (e_local H9 en8 rfl (.tail .head) (e_cellH en8 rfl rfl (HasP.but H9.view (H.get (.tail _ (.tail _ (.head _)))) hcI) (k_inSet (HasP.but H9.view (H.get (.tail _ (.head _))) hrI) fun tk => tr_bool ?_))))
    replace H9 := H9.tok tk
    by_cases hm : y ∈ S2
    · rw [if_pos (decide_eq_true hm)]
      refine e_local H9 en8 rfl (.tail .head) ⟨_, _, rfl, H9, rfl, ?_⟩
      rw [take_filter _ hy, if_pos (decide_eq_true hm)]
      exact IntsAre.snoc hacc y t
    · rw [if_neg (by simpa using hm)]
      refine ⟨_, _, rfl, H9, rfl, ?_⟩
      rw [take_filter _ hy, if_neg (by simpa using hm), List.append_nil]
      exact hacc
  · rintro D acc ext' s8 ⟨rfl, hacc⟩ H8
    have htk : xs.take vl.toArray.size = xs := List.take_of_length_le (by simp; omega)
    rw [htk] at hacc
    have hfl : (xs.filter fun y => decide (y ∈ S2)) = xs.filter fun y => decide (y ∈ ys) := by
      apply List.filter_congr
      intro y hy
      rw [decide_eq_decide, hS2, hS]
      exact ⟨fun q => q.2, fun q => ⟨hy, q⟩⟩
    rw [hfl] at hacc
    replace H8 := H8.weaken (own' := [(D, IL (xs.filter fun y => decide (y ∈ ys))), (r, SP w S2), (c, CellP (some (.ref r)))]) rfl fun q hq => by
      rcases List.mem_cons.mp hq with rfl | hq
      · obtain ⟨o, ho, hp⟩ := H8.get (.head _); exact ⟨o, ho, acc, hp, hacc⟩
      · exact H8.hown q (.tail _ hq)
    refine i_nil ⟨H8.ctx, os_from H8.ctx (R'.mono (by decide)) (H8.get (.head _)) (fun y hy => hr y (List.mem_filter.mp hy).1) fun x2 dx2 S' s9 Rs hS' => ?_⟩
    replace H8 := (H8.res Rs).toRes (s₀ := s1) (news := [(x2, OSP w S' dx2 D), (dx2, EDP), (D, IL (xs.filter fun y => decide (y ∈ ys)))]) (.cons_cons _ (.cons_cons _ (.cons_cons _ (.cons _ (.cons _ .slnil)))))
    refine h x2 dx2 D S' s9 ⟨Ks.trans H8.keeps, H8.g.trans e2, H8.os.trans e3, fun p hp => ?_, H8.nd, H8.has⟩ fun y => ?_
    · have := H8.fresh p hp
      cases e : s.heap.get? p.1 with
      | none => rfl
      | some o => rw [Ks _ _ e] at this; cases this
    · rw [hS' y, List.mem_filter]; simp
/-- OrderedSet.difference with a set -/
theorem os_diff {x dx l lb : Addr} {S xs Rr : List Int} {Q : Value → Shared → Prop} (C : Cx w s.heap) (R : Rm A 12) (hx : HasP s.heap (x, OSP w S dx l)) (hd : HasP s.heap (dx, EDP)) (hl : HasP s.heap (l, IL xs)) (hlb : HasP s.heap (lb, SP w Rr)) (hxl : x ≠ lb)
    (hS : ∀ y, y ∈ S ↔ y ∈ xs) (hr : R10 xs) (hsz : xs.length ≤ 100) (h : ∀ x2 dx2 l2 S' s', Res s s' [(x2, OSP w S' dx2 l2), (dx2, EDP), (l2, IL (xs.filter fun y => decide (y ∉ Rr)))] → (∀ y, y ∈ S' ↔ y ∈ xs ∧ y ∉ Rr) → Q (.ref x2) s') :
    wpAny (model P0 w) A (call (.ref 203) [.ref x, .ref lb]) Q E s := by
  refine f_callV (ns := ["self", "other"]) (by rfl) C (by decide) R.room (by kernel_rfl) ?_
  show wpAny _ _ (newTuple [.ref lb] >>= fun t => (pure [("self", Value.ref x), ("other", t)] : Sem (List (Str × Value)))) _ _ _
  refine wpAny_bind (wpAny_newObj_type (wpAny_pure ?_) (by size_fits))
  have Ks : Keeps s.heap (s.heap.push (tupO #[.ref lb])) := Keeps.push _ _
  have htp : HasP (s.heap.push (tupO #[.ref lb])) (s.heap.objs.size, TP #[.ref lb]) := ⟨_, Heap.get?_push_size _ rfl, rfl⟩
  show Cx w (s.heap.push (tupO #[.ref lb])) ∧ _
  refine ⟨C.keeps Ks, ?_⟩
  generalize hs1 : ({ s with heap := s.heap.push (tupO #[.ref lb]) } : Shared) = s1
  generalize htq : s.heap.objs.size = tp
  rw [htq] at htp
  have e1 : s1.heap = s.heap.push (tupO #[.ref lb]) := by rw [← hs1]
  have e2 : s1.gens = s.gens := by rw [← hs1]
  have e3 : s1.os = s.os := by rw [← hs1]
  rw [← e1] at Ks htp
  replace hx := hx.keeps fun o e => Ks _ _ e
  replace hd := hd.keeps fun o e => Ks _ _ e
  replace hl := hl.keeps fun o e => Ks _ _ e
  replace hlb := hlb.keeps fun o e => Ks _ _ e
  obtain ⟨d, hx', I, hI⟩ := OSP.inst hx hd
  intro env s' he en H
  have R' := R.deeper env
  generalize hAA : A.deeper env = AA at *
  have hhA : AA.handled = none := R'.hd
  clear hAA
  subst he
  obtain ⟨c, hc⟩ : ∃ c, c = s1.heap.objs.size + 1 := ⟨_, rfl⟩
  replace H : Fm w s1.gens s1.os (hv s1.heap) s1.heap.objs.size ["self", "other"] [none, none] [(c, CellP none)] s' := by rw [hc]; exact H
  refine s_local H en rfl .head fun s2 H => s_local H en rfl (.tail .head) fun s3 H => ⟨H.ctx, ?_⟩
  have hvb : VP (hv s1.heap) (lb, SP w Rr) := hlb
  have hvt : VP (hv s1.heap) (tp, TP #[.ref lb]) := htp
  refine x_cons (x_Assign (e_mcallS (e_glob H en rfl (gv_set w) (ga_setT (v := .builtin "set.difference") H.ctx (by kernel_rfl) (by decide +kernel) fun tk => ?_)) (by rfl)))
  replace H := H.tok tk
  refine c_star2 keep_builtin (i_cons (e_local H en rfl .head (i_star H (e_local H en rfl (.tail .head) ⟨tp, _, _, rfl, H.vp hvt, (by show 1 ≤ 100; decide), H, fun s4 H => i_nil ?_⟩))))
  obtain ⟨_, hob, db, rfl, hRr⟩ := H.vp hvb
  refine ⟨H.ctx, k_diff_set H.ctx hhA (H.look hx') (.inr rfl) hI hob (.inl rfl) hRr hxl fun S2 hS2 => H.newS fun r s5 H => ?_⟩
  refine a_Name (s_cell (i := 1) H en rfl (by rw [hc]; rfl) rfl fun s6 H => ?_)
  replace H : Fm w s1.gens s1.os (hv s1.heap) s1.heap.objs.size _ _ [(r, SP w S2), (c, CellP (some (.ref r)))] s6 := H
  have I6 : InstAt s6.heap x (osO d dx #[some (.ref l)]) 250 (some emptyDict) := ⟨H.view _ _ I.at_, I.cls, I.no, H.view _ _ I.dict⟩
  refine x_cons (x_Return (e_mcall (e_local H en rfl .head (gm_osI (f := 76) H.ctx I6 (by kernel_rfl) (by rfl) (c_with (keep_fn (f := 76) rfl rfl) (i_cons ?_))))))
  obtain ⟨ol, hol, vl, ⟨nl, rfl⟩, hvl⟩ := hl
  have hlen := IntsAre.length hvl
  refine e_ListComp (cl := [("other_set", c)]) H (fun i acc ext => ext = [] ∧ IntsAre acc ((xs.take i).filter fun y => decide (y ∈ S2))) (Attribute_Name_ (e_local H en rfl .head (os_get H.ctx I6 rfl rfl ?_))) (by rw [hc]; rfl)
  replace H := H.tok (s6.toks + 1)
  refine i_list (items := vl.toArray) H ⟨_, H.look hol, rfl, nl, rfl⟩ fun I0 s7 H hlI => ⟨I0, vl.toArray.size, _, LIt l, _, _, [], _, rfl, Iter.list hhA I0 l hlI vl.toArray, by simp; omega, H, ⟨rfl, .nil⟩, ?_, ?_, ?_⟩
  · intro i acc ext' s8 _ hk
    exact ⟨_, hk l _ (by simpa using hlI) (H.look hol), rfl, nl, rfl⟩
  · intro C0 D i v acc ext u s8 hi hP hinv hu H8
    obtain ⟨rfl, hacc⟩ := hinv
    obtain ⟨t, y, hy, rfl⟩ := intsAt hvl i v hP
    obtain ⟨u0, u1, rfl⟩ : ∃ u0 u1, u = [u0, u1] := by
      match u, hu with
      | [u0, u1], _ => exact ⟨u0, u1, rfl⟩
    have en8 := en.comp { kind := .function, names := [(".0", .local), ("a", .local), ("other_set", .free)], isGenerator := false, isCoroutine := false } [("other_set", c)] C0 rfl rfl
    refine a_Name (s_local H8 en8 rfl (.tail .head) fun s9 H9 => ?_)
    have hcI : c ∉ I0 :: ([] : List Kp).map (·.1) := by simpa using H.one (i := 2) (j := 0) rfl rfl (by decide)
    have hrI : r ∉ I0 :: ([] : List Kp).map (·.1) := by simpa using H.one (i := 1) (j := 0) rfl rfl (by decide)
    refine wpAny_tests_one (t_cmp (e_local H9 en8 rfl (.tail .head) (e_cellH en8 rfl rfl (HasP.but H9.view (H.get (.tail _ (.tail _ (.head _)))) hcI) (k_inSet (HasP.but H9.view (H.get (.tail _ (.head _))) hrI) fun tk => tr_bool ?_))))
    replace H9 := H9.tok tk
    by_cases hm : y ∈ S2
    · rw [if_pos (decide_eq_true hm)]
      refine e_local H9 en8 rfl (.tail .head) ⟨_, _, rfl, H9, rfl, ?_⟩
      rw [take_filter _ hy, if_pos (decide_eq_true hm)]
      exact IntsAre.snoc hacc y t
    · rw [if_neg (by simpa using hm)]
      refine ⟨_, _, rfl, H9, rfl, ?_⟩
      rw [take_filter _ hy, if_neg (by simpa using hm), List.append_nil]
      exact hacc
  · rintro D acc ext' s8 ⟨rfl, hacc⟩ H8
    have htk : xs.take vl.toArray.size = xs := List.take_of_length_le (by simp; omega)
    rw [htk] at hacc
    have hfl : (xs.filter fun y => decide (y ∈ S2)) = xs.filter fun y => decide (y ∉ Rr) := by
      apply List.filter_congr
      intro y hy
      rw [decide_eq_decide, hS2, hS]
      exact ⟨fun q => q.2, fun q => ⟨hy, q⟩⟩
    rw [hfl] at hacc
    replace H8 := H8.weaken (own' := [(D, IL (xs.filter fun y => decide (y ∉ Rr))), (r, SP w S2), (c, CellP (some (.ref r)))]) rfl fun q hq => by
      rcases List.mem_cons.mp hq with rfl | hq
      · obtain ⟨o, ho, hp⟩ := H8.get (.head _); exact ⟨o, ho, acc, hp, hacc⟩
      · exact H8.hown q (.tail _ hq)
    refine i_nil ⟨H8.ctx, os_from H8.ctx (R'.mono (by decide)) (H8.get (.head _)) (fun y hy => hr y (List.mem_filter.mp hy).1) fun x2 dx2 S' s9 Rs hS' => ?_⟩
    replace H8 := (H8.res Rs).toRes (s₀ := s1) (news := [(x2, OSP w S' dx2 D), (dx2, EDP), (D, IL (xs.filter fun y => decide (y ∉ Rr)))]) (.cons_cons _ (.cons_cons _ (.cons_cons _ (.cons _ (.cons _ .slnil)))))
    refine h x2 dx2 D S' s9 ⟨Ks.trans H8.keeps, H8.g.trans e2, H8.os.trans e3, fun p hp => ?_, H8.nd, H8.has⟩ fun y => ?_
    · have := H8.fresh p hp
      cases e : s.heap.get? p.1 with
      | none => rfl
      | some o => rw [Ks _ _ e] at this; cases this
    · rw [hS' y, List.mem_filter]; simp

/-- x & l -/
theorem os_and {x dx l lb : Addr} {S xs ys : List Int} {Q : Value → Shared → Prop} (C : Cx w s.heap) (R : Rm A 14) (hx : HasP s.heap (x, OSP w S dx l)) (hd : HasP s.heap (dx, EDP)) (hl : HasP s.heap (l, IL xs)) (hlb : HasP s.heap (lb, IL ys)) (hxl : x ≠ lb)
    (hS : ∀ y, y ∈ S ↔ y ∈ xs) (hr : R10 xs) (hsz : xs.length ≤ 100) (h : ∀ x2 dx2 l2 S' s', Res s s' [(x2, OSP w S' dx2 l2), (dx2, EDP), (l2, IL (xs.filter fun y => decide (y ∈ ys)))] → (∀ y, y ∈ S' ↔ y ∈ xs ∧ y ∈ ys) → Q (.ref x2) s') :
    wpAny (model P0 w) A (binaryOp .BitAnd (.ref x) (.ref lb)) Q E s := by
  obtain ⟨d, hx', I, hI⟩ := OSP.inst hx hd
  obtain ⟨ol, hol, vl, ⟨nl, rfl⟩, hvl⟩ := id hlb
  refine k_os_and C hx' ⟨_, hol, rfl⟩ ?_
  refine f_call (ns := ["self", "other"]) (by rfl) C (by decide) R.room (by kernel_rfl) (binds := [("self", .ref x), ("other", .ref lb)]) (.of_eq (by rfl)) ?_
  intro env s' he en H
  have R' := R.deeper env
  generalize hAA : A.deeper env = AA at *
  clear hAA
  subst he
  replace H : Fm w s.gens s.os (hv s.heap) s.heap.objs.size ["self", "other"] [none, none] [] s' := H
  refine s_local H en rfl .head fun s1 H => s_local H en rfl (.tail .head) fun s2 H => ⟨H.ctx, ?_⟩
  have I1 : InstAt s2.heap x (osO d dx #[some (.ref l)]) 250 (some emptyDict) := ⟨H.view _ _ I.at_, I.cls, I.no, H.view _ _ I.dict⟩
  refine x_cons (x_Return (e_mcall (e_local H en rfl .head (gm_osI (f := 179) H.ctx I1 (by kernel_rfl) (by rfl) (c_with (keep_fn (f := 179) rfl rfl) (i_cons (e_local H en rfl (.tail .head) (i_nil ⟨H.ctx, ?_⟩))))))))
  refine os_inter H.ctx (R'.mono (by decide)) (hx.keeps fun o e => H.view _ _ e) (hd.keeps fun o e => H.view _ _ e) (hl.keeps fun o e => H.view _ _ e) (hlb.keeps fun o e => H.view _ _ e) hxl hS hr hsz fun x2 dx2 l2 S' s3 Rs hS' => ?_
  exact ⟨⟨x2, rfl⟩, h x2 dx2 l2 S' s3 ((H.res Rs).toRes (.cons_cons _ (.cons_cons _ (.cons_cons _ .slnil)))) hS'⟩

/-- x - R -/
theorem os_sub {x dx l lb : Addr} {S xs Rr : List Int} {Q : Value → Shared → Prop} (C : Cx w s.heap) (R : Rm A 14) (hx : HasP s.heap (x, OSP w S dx l)) (hd : HasP s.heap (dx, EDP)) (hl : HasP s.heap (l, IL xs)) (hlb : HasP s.heap (lb, SP w Rr)) (hxl : x ≠ lb)
    (hS : ∀ y, y ∈ S ↔ y ∈ xs) (hr : R10 xs) (hsz : xs.length ≤ 100) (h : ∀ x2 dx2 l2 S' s', Res s s' [(x2, OSP w S' dx2 l2), (dx2, EDP), (l2, IL (xs.filter fun y => decide (y ∉ Rr)))] → (∀ y, y ∈ S' ↔ y ∈ xs ∧ y ∉ Rr) → Q (.ref x2) s') :
    wpAny (model P0 w) A (binaryOp .Sub (.ref x) (.ref lb)) Q E s := by
  obtain ⟨d, hx', I, hI⟩ := OSP.inst hx hd
  obtain ⟨ol, hol, db, rfl, _⟩ := id hlb
  refine k_os_sub C hx' ⟨_, hol, rfl⟩ ?_
  refine f_call (ns := ["self", "other"]) (by rfl) C (by decide) R.room (by kernel_rfl) (binds := [("self", .ref x), ("other", .ref lb)]) (.of_eq (by rfl)) ?_
  intro env s' he en H
  have R' := R.deeper env
  generalize hAA : A.deeper env = AA at *
  clear hAA
  subst he
  replace H : Fm w s.gens s.os (hv s.heap) s.heap.objs.size ["self", "other"] [none, none] [] s' := H
  refine s_local H en rfl .head fun s1 H => s_local H en rfl (.tail .head) fun s2 H => ⟨H.ctx, ?_⟩
  have I1 : InstAt s2.heap x (osO d dx #[some (.ref l)]) 250 (some emptyDict) := ⟨H.view _ _ I.at_, I.cls, I.no, H.view _ _ I.dict⟩
  refine x_cons (x_Return (e_mcall (e_local H en rfl .head (gm_osI (f := 203) H.ctx I1 (by kernel_rfl) (by rfl) (c_with (keep_fn (f := 203) rfl rfl) (i_cons (e_local H en rfl (.tail .head) (i_nil ⟨H.ctx, ?_⟩))))))))
  refine os_diff H.ctx (R'.mono (by decide)) (hx.keeps fun o e => H.view _ _ e) (hd.keeps fun o e => H.view _ _ e) (hl.keeps fun o e => H.view _ _ e) (hlb.keeps fun o e => H.view _ _ e) hxl hS hr hsz fun x2 dx2 l2 S' s3 Rs hS' => ?_
  exact ⟨⟨x2, rfl⟩, h x2 dx2 l2 S' s3 ((H.res Rs).toRes (.cons_cons _ (.cons_cons _ (.cons_cons _ .slnil)))) hS'⟩
end
end Mine
end
section
open PySem PySem.W PySem.Calls PyProof.Rows
set_option maxRecDepth 100000
set_option maxHeartbeats 1000000
set_option autoImplicit false
set_option linter.unusedVariables false
set_option linter.unusedSectionVars false
namespace Mine
theorem pk_iter (w : World) : peek (KF w) ⟨P0, w.params⟩ (typeLookup (.ref 250) "__iter__") = some (some (.ref 132)) := by kernel_rfl
theorem pk_len (w : World) : peek (KF w) ⟨P0, w.params⟩ (typeLookup (.ref 250) "__len__") = some (some (.builtin "set.__len__")) := by kernel_rfl
section
variable {w : World} {A : Around} {E : Value → Shared → Prop} {s : Shared} {env : Env} {G : Array GenState} {O : OsState} {V : View} {L : Addr} {ns : List Str} {vs : List (Option Value)} {own : List Kp}

theorem i_os {x dx l : Addr} {S : List Int} {items : Array Value} {Q : Value → Shared → Prop} (C : Cx w s.heap) (R : Rm A 5) (hx : HasP s.heap (x, OSP w S dx l)) (hd : HasP s.heap (dx, EDP)) (hl : s.heap.IsList l items)
    (h : ∀ I s', Res s s' [(I, LIt l 0)] → Q (.ref I) s') : wpAny (model P0 w) A (pyIter (.ref x)) Q E s := by
  obtain ⟨d, hx', I, hI⟩ := OSP.inst hx hd
  unfold pyIter specialOf
  refine wpAny_bind (wpAny_bind (w_typeOf hx' ((Looks.of_peek C.K (pk_iter w)).here ?_)))
  dsimp only
  refine wpAny_bind (m := callSpecialIfBoundUnlessNone? _ _ _) ?_
  simp only [callSpecialIfBoundUnlessNone?, bindSpecialIfBound?, specialOf]
  refine wpAny_holding (wpAny_bind (wpAny_bind (wpAny_bind (w_typeOf hx' ((Looks.of_peek C.K (pk_iter w)).here ?_)))))
  dsimp only
  refine wpAny_bind (wpAny_askSetting (wpAny_ite ?_))
  have fin2 : ∀ I s', Res s s' [(I, LIt l 0)] → s'.TypeIs (.ref I) "list_iterator" := fun I s' Rs => by
    obtain ⟨o, ho, hc, _⟩ := Rs.has _ (.head _)
    exact ⟨o, ho, hc⟩
  split
  · refine wpAny_bind ((pk_bind w 132 _ (by rfl) C.K).here (wpAny_pure ?_))
    dsimp only
    refine wp_if_false rfl (wpAny_bind (os_iter C R hx hd hl fun I s' Rs => wpAny_pure ?_))
    dsimp only
    exact wpAny_bind (wpAny_bind (wpAny_typeOf (fin2 I s' Rs) (wpAny_of_eq slot_listiter_next.lookup (wpAny_pure (h I s' Rs)))))
  · refine wpAny_tryCatch (wpAny_bind ((pk_bind w 132 _ (by rfl) C.K).here (wpAny_pure ?_)))
    dsimp only
    refine wp_if_false rfl (wpAny_bind (os_iter C R hx hd hl fun I s' Rs => wpAny_pure ?_))
    dsimp only
    exact wpAny_bind (wpAny_bind (wpAny_typeOf (fin2 I s' Rs) (wpAny_of_eq slot_listiter_next.lookup (wpAny_pure (h I s' Rs)))))

theorem k_len_os {x dx l : Addr} {S : List Int} {Q : Value → Shared → Prop} (C : Cx w s.heap) (hx : HasP s.heap (x, OSP w S dx l))
    (h : ∀ t tk, Q (.int S.length t) { s with toks := tk }) : wpAny (model P0 w) A (call (.builtin "len") [.ref x]) Q E s := by
  obtain ⟨_, hx', d, rfl, hI⟩ := hx
  have hle := hI.len
  refine Calls.call_function_entry kind_len plain_len entry_len (args_len1 _) ?_
  unfold Builtin.«len»
  refine wpAny_bind (m := oneArg "len" _) (wpAny_pure ?_)
  refine wpAny_bind (m := callSpecial? (.ref x) (Str.ofString "__len__")) ?_
  unfold callSpecial? specialOf
  refine wpAny_bind (wpAny_bind (w_typeOf hx' ((Looks.of_peek C.K (pk_len w)).here ?_)))
  dsimp only
  rw [F.slot_set_len.bind]
  refine wpAny_holding (wpAny_bind (wpAny_pure (wpAny_bind ?_)))
  refine k_setm (n := "__len__") (.inr (by kernel_rfl)) (by kernel_rfl) (by decide +kernel) entry_set_len (F.args_set_len_1 _) C hx' (.inr rfl) ?_
  unfold Builtin.«frozenset.__len__»
  refine wpAny_bind (m := Builtin.Frozenset.slot0 _ _) (wpAny_of_eq (a := x) rfl ?_)
  refine wpAny_bind (w_size (o := osO d dx #[some (.ref l)]) hx' hI ?_)
  unfold retInt
  refine wpAny_bind (wpAny_mkInt (wpAny_pure ⟨_, rfl, wpAny_pure ?_⟩))
  refine wpAny_bind (wpAny_holding (wpAny_pure ?_))
  refine wpAny_bind (wpAny_letGo ?_)
  show wpAny _ _ (if ((S.length : Nat) : Int) < 0 then _ else _) _ _ _
  rw [if_neg (by omega)]
  show wpAny _ _ (if ((S.length : Nat) : Int) ≥ 2 ^ 63 then _ else _) _ _ _
  rw [if_neg (by omega)]
  exact wpAny_bind (wpAny_mkInt (wpAny_pure ⟨_, rfl, h _ _⟩))

theorem w_hint_os {x dx l : Addr} {S : List Int} {Q : Bool → Shared → Prop} (C : Cx w s.heap) (hx : HasP s.heap (x, OSP w S dx l)) (h : ∀ b tk, Q b { s with toks := tk }) :
    wpAny (model P0 w) A (Builtin.List.listLengthHint (.ref x)) Q E s := by
  obtain ⟨_, hx', d, rfl, hI⟩ := id hx
  unfold Builtin.List.listLengthHint specialOf
  refine wpAny_bind (wpAny_bind (w_typeOf hx' ((Looks.of_peek C.K (pk_len w)).here ?_)))
  (generalize hid : ("set.__len__" : String) = id0; (fail_if_success (clear hid id0)); wp_delta; rw [show splitId id0 = some ("set", "__len__") from by subst hid; decide +kernel]; subst hid)
  refine wpAny_bind (w_isSet C hx' (.inr rfl) ?_)
  refine wpAny_bind (w_typeOf hx' ?_)
  refine wpAny_bind (k_len_os C hx fun t tk => ?_)
  refine wpAny_bind (m := asInt? _) (wpAny_pure ?_)
  exact wpAny_pure (h _ _)

/-- list(x) of an OrderedSet -/
theorem k_list_os {x dx l : Addr} {S xs : List Int} {Q : Value → Shared → Prop} (C : Cx w s.heap) (R : Rm A 8) (hx : HasP s.heap (x, OSP w S dx l)) (hd : HasP s.heap (dx, EDP)) (hl : HasP s.heap (l, IL xs)) (hsz : xs.length ≤ 100)
    (h : ∀ r s', Res s s' [(r, IL xs)] → Q (.ref r) s') : wpAny (model P0 w) A (call (.type "list") [.ref x]) Q E s := by
  have R2 : Rm A.in1.in1 5 := (((R.mono (show 7 ≤ 8 by decide)).in1).in1).mono (by decide)
  refine k_list fun h₁ hk ho => ?_
  have hx1 := hx.keeps fun o e => hk _ _ e
  have hd1 := hd.keeps fun o e => hk _ _ e
  have hl1 := hl.keeps fun o e => hk _ _ e
  have C1 : Cx w h₁ := C.keeps hk
  obtain ⟨_, hx', d, rfl, hI⟩ := id hx1
  obtain ⟨ol, hol, vl, ⟨nl, rfl⟩, hvl⟩ := id hl1
  have hlen := IntsAre.length hvl
  have ne : ∀ p : Kp, HasP s.heap p → s.heap.objs.size ≠ p.1 := fun p hp => Ne.symm (Nat.ne_of_lt hp.lt)
  unfold Builtin.List.listExtendWith
  refine wpAny_bind (w_typeOf (s := { s with heap := h₁ }) hx' ?_)
  have hsr : Builtin.List.listSameRef (.ref s.heap.objs.size) (.ref x) = false := by simp [Builtin.List.listSameRef, ne _ hx]
  rw [hsr]
  refine wp_if_false rfl ?_
  refine wpAny_bind (i_os (s := { s with heap := h₁ }) C1 R2 hx1 hd1 (LP.isList ⟨_, hol, nl, rfl⟩) fun I s2 Rs => ?_)
  have C2 : Cx w s2.heap := C1.keeps Rs.keeps
  refine wpAny_bind (wpAny_holding (w_hint_os C2 (hx1.keeps fun o e => Rs.keeps _ _ e) fun b tk => ?_))
  have hS2 : HasP s2.heap (s.heap.objs.size, LP #[]) := ho.keeps fun o e => Rs.keeps _ _ e
  have hI2 := Rs.has _ (.head _)
  have fI := Rs.fresh _ (.head _)
  have hSI : s.heap.objs.size ≠ I := fun e => by obtain ⟨o, a, _⟩ := ho; rw [e] at a; rw [fI] at a; cases a
  have hlI : l ≠ I := fun e => by have : h₁.get? I = none := fI; rw [← e, hol] at this; cases this
  have hlS : l ≠ s.heap.objs.size := Ne.symm (ne _ hl)
  have hl2 : s2.heap.IsList l vl.toArray := LP.isList ⟨_, Rs.keeps _ _ hol, nl, rfl⟩
  have keepAll : ∀ b o, s.heap.get? b = some o → s2.heap.get? b = some o := fun b o e => Rs.keeps _ _ (hk _ _ e)
  have fin : ∀ h3, HasP h3 (I, LIt l 0) → h3.IsList l vl.toArray → HasP h3 (s.heap.objs.size, LP ([] : List Value).toArray) → (∀ b o, b ≠ s.heap.objs.size → s2.heap.get? b = some o → h3.get? b = some o) →
      codeAny (model P0 w) A.in1 (.builtin "list.extend.loop" ⟨[.ref s.heap.objs.size, .ref I, .none], []⟩) (wants (fun r s₂ => r = .none ∧ Q (.ref s.heap.objs.size) s₂) E) { s2 with heap := h3, toks := tk } := fun h3 hi hll hS hk3 => by
    refine w_extLoop (A := A.in1) R.hd hSI hlI hlS (by simp; omega) vl.toArray.size 0 { s2 with heap := h3, toks := tk } [] rfl (Nat.zero_le _) (by simp; omega) hi hll hS fun h' tk' hp hk' => ⟨rfl, ?_⟩
    have KK : Keeps s.heap h' := fun b o e => hk' b o (Nat.ne_of_lt (Heap.lt_size e)) (fun q => by have : h₁.get? I = none := fI; rw [← q, hk _ _ e] at this; cases this) (hk3 b o (Nat.ne_of_lt (Heap.lt_size e)) (keepAll _ _ e))
    refine h _ _ ⟨KK, Rs.g, Rs.os, fun p hp => ?_, by simp, fun p hp => ?_⟩
    · rw [List.mem_singleton] at hp; subst hp; exact fresh_none _
    · rw [List.mem_singleton] at hp; subst hp
      obtain ⟨o', ho', hp'⟩ := hp
      exact ⟨o', ho', vl, by simpa using hp', hvl⟩
  cases b with
  | false =>
    refine wp_if_false (by rfl) ?_
    refine wpAny_pure ⟨plainId_quiet F.plain_extend_loop _, ?_⟩
    exact fin s2.heap hI2 hl2 hS2 fun b o _ e => e
  | true =>
    refine wp_if_true (by rfl) ?_
    refine wpAny_bind (wpAny_rule ?_)
    obtain ⟨_, hoS, nS, rfl⟩ := hS2
    refine wpAny_bind ?_
    show wpAny _ _ (updateSeq s.heap.objs.size (·.push .none) >>= fun _ => updateSeq s.heap.objs.size (·.pop)) _ _ _
    refine wpAny_bind (wpAny_updateSeq hoS rfl ?_)
    have hS₂ := Heap.get?_update_self (Obj.mapSeq (·.push Value.none)) hoS rfl
    refine wpAny_updateSeq hS₂ rfl ?_
    have hS₃ := Heap.get?_update_self (Obj.mapSeq (·.pop)) hS₂ rfl
    have oth : ∀ b o, b ≠ s.heap.objs.size → s2.heap.get? b = some o → ((s2.heap.update s.heap.objs.size (Obj.mapSeq (·.push Value.none))).update s.heap.objs.size (Obj.mapSeq (·.pop))).get? b = some o :=
      fun b o hb e => (Heap.get?_update_other _ _ (Ne.symm hb)).trans ((Heap.get?_update_other _ _ (Ne.symm hb)).trans e)
    refine wpAny_pure ⟨plainId_quiet F.plain_extend_loop _, ?_⟩
    refine fin _ (hI2.keeps fun o e => oth _ _ (Ne.symm hSI) e) ?_ ⟨_, hS₃, _, rfl⟩ oth
    obtain ⟨o1, a1, r1⟩ := hl2
    exact ⟨o1, oth _ _ hlS a1, r1⟩
end
end Mine
end
section
open PySem PySem.W PySem.Calls PyProof.Rows
set_option maxRecDepth 100000
set_option maxHeartbeats 1000000
set_option autoImplicit false
set_option linter.unusedVariables false
set_option linter.unusedSectionVars false
namespace Mine
section
variable {w : World} {A : Around} {E : Value → Shared → Prop} {s : Shared}

theorem merge_spec {la lb : Addr} {xs ys : List Int} {Q : Value → Shared → Prop} (C : Cx w s.heap) (R : Rm A 40) (ha : HasP s.heap (la, IL xs)) (hb : HasP s.heap (lb, IL ys)) (hx : R10 xs) (hy : R10 ys) (hxl : xs.length ≤ 20) (hyl : ys.length ≤ 20)
    (h : ∀ r s', Keeps s.heap s'.heap → s'.gens = s.gens → s'.os = s.os → s.heap.get? r = none → HasP s'.heap (r, IL (mergeF xs ys)) → Q (.ref r) s') : wpAny (model P0 w) A (call (.ref 260) [.ref la, .ref lb]) Q E s := by
  refine f_call (ns := ["a", "b", "overlap", "result", "current", "other", "element"]) (by rfl) C (by decide) R.room (by kernel_rfl) (binds := [("a", .ref la), ("b", .ref lb)]) ?_ ?_
  · exact .of_eq (by rfl)
  intro env s' he en H
  have R' := R.deeper env
  generalize hAA : A.deeper env = AA at *
  have hhA : AA.handled = none := R'.hd
  clear hAA
  subst he
  replace H : Fm w s.gens s.os (hv s.heap) s.heap.objs.size _ [none, none, none, none, none, none, none] [] s' := H
  refine s_local H en rfl .head fun s1 H => s_local H en rfl (.tail .head) fun s2 H => ⟨H.ctx, ?_⟩
  have hva : VP (hv s.heap) (la, IL xs) := ha
  have hvb : VP (hv s.heap) (lb, IL ys) := hb
  refine x_cons (x_Assign (e_mcall (e_call (e_glob H en rfl (gv_set w) (c_with keep_type (i_cons (e_local H en rfl .head (i_nil ?_)))))) (by rfl)))
  refine ⟨H.ctx, k_set_list H.ctx hhA (IL.li (H.vp hva)) hx fun S₁ hS₁ => H.newS fun r0 s3 H => ?_⟩
  refine gm_set F.slot_set_intersection F.type_set_intersection (H.get (.head _)) ?_
  refine c_with keep_builtin (i_cons (e_local H en rfl (.tail .head) (i_nil ⟨H.ctx, ?_⟩)))
  obtain ⟨o1, ho1, d1, rfl, hd1⟩ := H.get (.head _)
  refine k_inter_list H.ctx hhA (IL.li (H.vp hvb)) ho1 (.inl rfl) hd1 (Ne.symm (H.vne hvb (.head _))) fun S₂ hS₂ => H.newS fun r1 s4 H => ?_
  refine a_Name (s_local H en rfl (.tail (.tail .head)) fun s5 H => ?_)
  replace H := H.sub (own' := [(r1, SP w S₂)]) (.cons_cons _ (.cons _ (.refl _)))
  refine x_cons (x_Assign (e_list (i_nil (n_list H fun res s6 H => a_Name (s_local H en rfl (.tail (.tail (.tail .head))) fun s7 H => ?_)))) (by rfl))
  refine x_cons (x_swap2 H hhA (e_tuple (i_cons (e_call (e_glob H en rfl (gv_iter w) (c_with keep_builtin (i_cons (e_local H en rfl .head (i_nil ⟨H.ctx, ?_⟩)))))))))
  obtain ⟨oa, hoa, va, hla, hva'⟩ := H.vp hva
  refine k_iter_list H (LP.isList ⟨oa, hoa, hla⟩) fun Ia s8 H => ?_
  refine i_cons (e_call (e_glob H en rfl (gv_iter w) (c_with keep_builtin (i_cons (e_local H en rfl (.tail .head) (i_nil ⟨H.ctx, ?_⟩))))))
  obtain ⟨ob, hob, vb, hlb, hvb'⟩ := H.vp hvb
  refine k_iter_list H (LP.isList ⟨ob, hob, hlb⟩) fun Ib s9 H => i_nil ?_
  refine n_tuple H fun tp s10 H => ⟨tp, _, _, _, _, rfl, H.get (.head _), H, fun s11 H => ?_⟩
  replace H := H.sub (.cons _ (.refl _))
  refine s_local H en rfl (.tail (.tail (.tail (.tail (.tail .head))))) fun s12 H => s_local H en rfl (.tail (.tail (.tail (.tail .head)))) fun s13 H => ?_
  have H' : Fm w s.gens s.os (hv s.heap) s.heap.objs.size _ _ [(Ia, LIt la 0), (Ib, LIt lb 0), (res, IL []), (r1, SP w S₂)] s13 :=
    (H.perm (own' := [(Ia, LIt la 0), (Ib, LIt lb 0), (res, LP #[]), (r1, SP w S₂)]) (List.Perm.swap ..)).weaken rfl fun q hq => by
      rcases List.mem_cons.mp hq with rfl | hq
      · exact H.get (.tail _ (.head _))
      rcases List.mem_cons.mp hq with rfl | hq
      · exact H.get (.head _)
      rcases List.mem_cons.mp hq with rfl | hq
      · obtain ⟨o, ho, hp⟩ := H.get (.tail _ (.tail _ (.head _))); exact ⟨o, ho, [], hp, .nil⟩
      · exact H.hown q (.tail _ (.tail _ (.tail _ hq)))
  clear H
  refine x_cons (x_While (fun k vs own => ∃ Ic lc xc i Io lo xo j acc S u, vs = [some (.ref la), some (.ref lb), some (.ref r1), some (.ref res), some (.ref Ic), some (.ref Io), u] ∧ own = [(Ic, LIt lc i), (Io, LIt lo j), (res, IL acc), (r1, SP w S)] ∧
    VP (hv s.heap) (lc, IL xc) ∧ VP (hv s.heap) (lo, IL xo) ∧ i ≤ xc.length ∧ j ≤ xo.length ∧ xc.length ≤ 20 ∧ xo.length ≤ 20 ∧ acc.length ≤ i + j ∧ k = (xc.length - i) + (xo.length - j) ∧ mrg (fun x => decide (x ∈ S)) (xc.drop i) (xo.drop j) acc = mergeF xs ys) (xs.length + ys.length) H' ?_ ?_)
  · refine ⟨Ia, la, xs, 0, Ib, lb, ys, 0, [], S₂, none, rfl, rfl, hva, hvb, Nat.zero_le _, Nat.zero_le _, hxl, hyl, Nat.zero_le _, rfl, ?_⟩
    have : (fun x => decide (x ∈ S₂)) = (fun x => decide (x ∈ xs) && decide (x ∈ ys)) := by
      funext x; rw [Bool.eq_iff_iff]; simp only [decide_eq_true_eq, Bool.and_eq_true]; rw [hS₂, hS₁]
    rw [this]; rfl
  rintro k _ _ sW ⟨Ic, lc, xc, i, Io, lo, xo, j, acc, S, u, rfl, rfl, hvc, hvo, hi, hj, hxc, hxo, hacc, rfl, hmrg⟩ H
  refine t_value (e_bool (tr_bool ?_))
  rw [if_pos rfl]
  obtain ⟨oc, hoc, vc, ⟨nc, rfl⟩, hvc'⟩ := hvc
  have hlenc := IntsAre.length hvc'
  have hIc : lc ≠ Ic := H.vne ⟨_, hoc, vc, ⟨nc, rfl⟩, hvc'⟩ (.head _)
  refine x_cons (x_For H (fun i' vs own => ∃ acc u, vs = [some (.ref la), some (.ref lb), some (.ref r1), some (.ref res), some (.ref Ic), some (.ref Io), u] ∧ own = [(Io, LIt lo j), (res, IL acc), (r1, SP w S)] ∧
    i ≤ i' ∧ acc.length ≤ i' + j ∧ mrg (fun x => decide (x ∈ S)) (xc.drop i') (xo.drop j) acc = mergeF xs ys) (e_local H en rfl (.tail (.tail (.tail (.tail .head)))) (i_self (H.get (.head _)) ?_)))
  refine ⟨Ic, vc.toArray.size, i, _, LIt lc, fun h => h.IsList lc vc.toArray, _, _, rfl, Iter.list hhA Ic lc hIc vc.toArray, by simp [hlenc, hi], H, ⟨acc, u, rfl, rfl, Nat.le_refl _, hacc, hmrg⟩, fun i vs own s _ F => ⟨_, F.look hoc, rfl, nc, rfl⟩, ?_, ?_⟩
  · rintro i' v _ _ s₂ hlt hP ⟨acc, u, rfl, rfl, hii, hacc, hmrg⟩ H
    obtain ⟨t, x, hxi, rfl⟩ := intsAt hvc' i' v hP
    have hxlt : i' < xc.length := (List.getElem?_eq_some_iff.mp hxi).1
    have hdrop : xc.drop i' = x :: xc.drop (i' + 1) := by
      rw [List.drop_eq_getElem_cons hxlt]
      rw [List.getElem?_eq_getElem hxlt] at hxi
      rw [Option.some.inj hxi]
    rw [hdrop, mrg] at hmrg
    refine a_Name (s_local H en rfl (.tail (.tail (.tail (.tail (.tail (.tail .head)))))) fun s3 H => ?_)
    refine x_cons (x_If (t_cmp (e_local H en rfl (.tail (.tail (.tail (.tail (.tail (.tail .head)))))) (e_local H en rfl (.tail (.tail .head)) (k_inSet (H.get (.tail _ (.tail _ (.tail _ (.head _))))) fun tk' => tr_bool ⟨fun hb => ?_, fun hb => ?_⟩)))))
    · -- met: taken out, swapped
      rw [decide_eq_true_eq] at hb
      rw [if_pos (by simpa using hb)] at hmrg
      replace H := H.tok tk'
      refine x_cons (x_Expr (e_mcall (e_local H en rfl (.tail (.tail .head)) (gm_set F.slot_set_discard F.type_set_discard (H.get (.tail _ (.tail _ (.tail _ (.head _)))))
        (c_with keep_builtin (i_cons (e_local H en rfl (.tail (.tail (.tail (.tail (.tail (.tail .head)))))) (i_nil ⟨H.ctx, ?_⟩)))))) (by rfl)) (by rfl))
      obtain ⟨o1, ho1, d1, rfl, hd1⟩ := H.get (.tail _ (.tail _ (.tail _ (.head _))))
      refine k_discard H.ctx ho1 (.inl rfl) hd1 fun S' s4 hS' hch => ⟨rfl, ?_⟩
      replace H := H.chg (i := 3) rfl ⟨d1, rfl⟩ hch
      refine x_cons (x_swap2 H hhA (e_tuple (i_cons (e_local H en rfl (.tail (.tail (.tail (.tail .head)))) (i_cons (e_local H en rfl (.tail (.tail (.tail (.tail (.tail .head))))) (i_nil ?_)))))))
      refine n_tuple H fun tp s10 H => ⟨tp, _, _, _, _, rfl, H.get (.head _), H, fun s11 H => ?_⟩
      replace H := H.sub (.cons _ (.refl _))
      refine s_local H en rfl (.tail (.tail (.tail (.tail .head)))) fun s12 H => s_local H en rfl (.tail (.tail (.tail (.tail (.tail .head))))) fun s13 H => ?_
      refine x_cons (wpAny_Break (x_nil ⟨(xo.length - j) + (xc.length - (i' + 1)), _, _, by omega, H.perm (List.Perm.swap _ _ _), Io, lo, xo, j, Ic, lc, xc, i' + 1, acc, S', some (.int x t), rfl, rfl, hvo, ⟨_, hoc, vc, ⟨nc, rfl⟩, hvc'⟩, hj, hxlt, hxo, hxc, by omega, by omega, ?_⟩))
      rw [← hmrg]
      congr 1
      funext y
      rw [Bool.eq_iff_iff]; simp only [decide_eq_true_eq, Bool.and_eq_true]; exact hS' y
    · rw [decide_eq_false_iff_not] at hb
      rw [if_neg (by simpa using hb)] at hmrg
      replace H := H.tok tk'
      refine x_nil ?_
      obtain ⟨o1, ho1, v1, ⟨n1, rfl⟩, hv1⟩ := H.get (.tail _ (.tail _ (.head _)))
      refine x_cons (x_Expr (e_mcall (e_local H en rfl (.tail (.tail (.tail .head))) (gm_list F.slot_list_append F.type_list_append ⟨_, ho1, n1, rfl⟩
        (c_with keep_builtin (i_cons (e_local H en rfl (.tail (.tail (.tail (.tail (.tail (.tail .head)))))) (i_nil ⟨H.ctx, ?_⟩)))))) (by rfl)) (by rfl))
      refine k_appendI H (i := 2) rfl (by omega) fun s4 H => ⟨rfl, x_nil ⟨_, _, H, acc ++ [x], some (.int x t), rfl, rfl, by omega, by simp; omega, hmrg⟩⟩
  · rintro _ _ s₂ ⟨acc, u, rfl, rfl, hii, hacc, hmrg⟩ H
    have hlv : vc.toArray.size = xc.length := by simp [hlenc]
    rw [hlv] at hacc hmrg
    rw [List.drop_length, mrg] at hmrg
    obtain ⟨o1, ho1, v1, ⟨n1, rfl⟩, hv1⟩ := H.get (.tail _ (.head _))
    obtain ⟨oo, hoo, vo, ⟨no, rfl⟩, hvo'⟩ := hvo
    have hleno := IntsAre.length hvo'
    refine x_cons (x_Expr (e_mcall (e_local H en rfl (.tail (.tail (.tail .head))) (gm_list F.slot_list_extend F.type_list_extend ⟨_, ho1, n1, rfl⟩
        (c_with keep_builtin (i_cons (e_local H en rfl (.tail (.tail (.tail (.tail (.tail .head))))) (i_nil ⟨H.ctx, ?_⟩)))))) (by rfl)) (by rfl))
    have hvo : VP (hv s.heap) (lo, IL xo) := ⟨_, hoo, vo, ⟨no, rfl⟩, hvo'⟩
    have l1 := IntsAre.length hv1
    refine k_extend_it (l := lo) (items := vo.toArray) (i := j) (acc := v1) hhA (H.one (i := 1) (j := 0) rfl rfl (by decide)) (H.vne hvo (.head _)) (H.vne hvo (.tail _ (.head _))) (by simp; omega) (by simp; omega) (by omega) (H.get (.head _)) ⟨_, H.look hoo, rfl, no, rfl⟩ ⟨_, ho1, n1, rfl⟩ fun h' tk' hp hk => ⟨rfl, ?_⟩
    have hres : HasP h' (res, IL (mergeF xs ys)) := by
      obtain ⟨o2, ho2, hp2⟩ := hp
      refine ⟨o2, ho2, v1 ++ vo.drop j, by simpa using hp2, ?_⟩
      rw [← hmrg]
      exact IntsAre.app hv1 (IntsAre.dropN hvo' j)
    refine x_cons (wpAny_Break ?_)
    have K : Keeps s.heap h' := fun b o e => hk b o (fun q => by have := H.vo (res, IL acc) (.tail _ (.head _)); rw [← q, hv, e] at this; cases this) (fun q => by have := H.vo (Io, LIt lo j) (.head _); rw [← q, hv, e] at this; cases this) (H.view b o e)
    have hloc : Heap.Ns h' s.heap.objs.size (locs _ _) := H.hns.at' fun o e => hk _ o (Ne.symm (H.oL (res, IL acc) (.tail _ (.head _)))) (Ne.symm (H.oL (Io, LIt lo j) (.head _))) e
    have H2 := H.sub (own' := []) (.cons _ (.cons _ (.cons _ (.refl _))))
    have H3 : Fm w s.gens s.os (hv s.heap) s.heap.objs.size _ _ [] { s₂ with heap := h', toks := tk' } := ⟨H2.cx, H2.gens, H2.os, hloc, H2.nn, K, fun _ h => (nomatch h), H2.vL, fun _ h => (nomatch h), fun _ h => (nomatch h), List.nodup_nil⟩
    refine x_cons (x_Return (e_local H3 en rfl (.tail (.tail (.tail .head))) ?_))
    exact h res _ K H3.gens H3.os (H.vo (res, IL acc) (.tail _ (.head _))) hres
end
end Mine
end
section
open PySem PySem.W PySem.Calls PyProof.Rows
set_option maxRecDepth 100000
set_option maxHeartbeats 1000000
set_option autoImplicit false
set_option linter.unusedVariables false
set_option linter.unusedSectionVars false
namespace Mine
noncomputable def View.only (V : View) (H : List Addr) : View := fun a => if a ∈ H then V a else none
theorem View.only_at {V : View} {H : List Addr} {a : Addr} (n : a ∈ H) : V.only H a = V a := by unfold View.only; rw [if_pos n]
theorem View.only_no {V : View} {H : List Addr} {a : Addr} (n : a ∉ H) : V.only H a = none := by unfold View.only; rw [if_neg n]
theorem View.only_le (V : View) (H : List Addr) : (V.only H).le V := fun a o e => by unfold View.only at e; split at e; exact e; cases e

section
variable {w : World} {A : Around} {E : Value → Shared → Prop} {s : Shared} {env : Env} {G : Array GenState} {O : OsState} {V : View} {L : Addr} {ns : List Str} {vs : List (Option Value)} {own : List Kp}

/-- own things become part of the view -/
theorem Fm.freeze {fr rest : List Kp} (F : Fm w G O V L ns vs (fr ++ rest) s) : Fm w G O (V.or ((hv s.heap).only (fr.map (·.1)))) L ns vs rest s := by
  have hnd := F.nd
  rw [List.map_append, List.nodup_append] at hnd
  have nof : ∀ a, V a = none → a ∉ fr.map (·.1) → V.or ((hv s.heap).only (fr.map (·.1))) a = none := fun a h n => by
    show (V a).or _ = none
    rw [h, View.only_no n]; rfl
  have hL : L ∉ fr.map (·.1) := fun hm => by
    obtain ⟨p, hp, e⟩ := List.mem_map.mp hm
    exact F.oL p (List.mem_append_left _ hp) e
  refine ⟨F.cx.mono (V.le_or _), F.gens, F.os, F.hns, F.nn, fun a o e => ?_, fun p hp => F.hown p (List.mem_append_right _ hp), nof _ F.vL hL, fun p hp => F.oL p (List.mem_append_right _ hp), fun p hp => nof _ (F.vo p (List.mem_append_right _ hp)) fun hm => hnd.2.2 _ hm _ (List.mem_map.mpr ⟨p, hp, rfl⟩) rfl, hnd.2.1⟩
  have e' : (V a).or ((hv s.heap).only (fr.map (·.1)) a) = some o := e
  cases hV : V a with
  | none => rw [hV] at e'; exact View.only_le _ _ _ _ e'
  | some o' => rw [hV] at e'; cases e'; exact F.view _ _ hV
theorem VP.or {V W : View} {p : Kp} (h : VP V p) : VP (V.or W) p := let ⟨o, a, b⟩ := h; ⟨o, V.le_or W _ _ a, b⟩
theorem Fm.frozen {fr rest : List Kp} (F : Fm w G O V L ns vs (fr ++ rest) s) {p : Kp} (hp : p ∈ fr) : VP (V.or ((hv s.heap).only (fr.map (·.1)))) p := by
  obtain ⟨o, ho, h⟩ := F.hown p (List.mem_append_left _ hp)
  refine ⟨o, ?_, h⟩
  show (V p.1).or _ = some o
  rw [F.vo p (List.mem_append_left _ hp), View.only_at (List.mem_map.mpr ⟨p, hp, rfl⟩)]
  exact ho

/-! ranges -/
abbrev RIt (n : Nat) (i : Nat) : Obj → Prop := fun o => o = { cls := .type "range_iterator", data := .fields #[.int (i : Int) 0, .int ((n : Int) - (i : Int)) 0, .int 1 0] }
theorem Iter.range {w : World} {A : Around} (hh : A.handled = none) (I : Addr) (n : Nat) : Iter w A I n (fun i v => ∃ t, v = .int (i : Int) t) (RIt n) (fun _ => True) := by
  have W := Walks.range (prog := P0) (w := w) (A := A) hh I 0 1 n
  have e : ∀ (i : Nat) (h : Heap), IsRangeIter h I (0 + (i : Nat) * 1) ((n : Int) - (i : Nat)) 1 ↔ HasP h (I, RIt n i) := fun i h => by
    rw [show (0 : Int) + (i : Int) * 1 = (i : Int) by omega]
    exact ⟨fun x => ⟨_, x, rfl⟩, fun ⟨o, a, b⟩ => by rw [b] at a; exact a⟩
  refine ⟨fun i s Q E hi hp _ hQ => W.item i s Q E hi ((e i _).mpr hp) fun v h' tk ⟨t, hv⟩ hst hk => ?_, fun s Q E hp _ hQ => W.done s Q E ((e n _).mpr hp) fun h' tk hk => hQ h' tk fun b o hb e => hk b o (by simpa using hb) e, fun i s Q E hp _ hQ => W.self i s Q E ((e i _).mpr hp) hQ⟩
  refine hQ v h' tk ⟨t, by rw [hv]; congr 1; omega⟩ ((e (i + 1) _).mp hst) fun b o hb e => hk b o (by simpa using hb) e
theorem small_range {n : Int} (h0 : -1 ≤ n) (h : n ≤ 1000) : Builtin.Range.small 0 n 1 = true ∧ Builtin.Range.rangeSize 0 n 1 = (n.toNat : Int) := by
  have : ((List.range 1002).all fun (n : Nat) => Builtin.Range.small 0 ((n : Int) - 1) 1 && decide (Builtin.Range.rangeSize 0 ((n : Int) - 1) 1 = (((n : Int) - 1).toNat : Int))) = true := by decide +kernel
  have := List.all_eq_true.mp this (n + 1).toNat (List.mem_range.mpr (by omega))
  have e : (((n + 1).toNat : Nat) : Int) - 1 = n := by omega
  rw [e] at this
  simpa using this
/-- range(n), iterated -/
theorem i_range {n : Int} {t : Tok} {Q : Value → Shared → Prop} (F : Fm w G O V L ns vs own s) (hn0 : -1 ≤ n) (hn : n ≤ 1000) (h : ∀ I s', Fm w G O V L ns vs ((I, RIt n.toNat 0) :: own) s' → Q (.ref I) s') :
    wpAny (model P0 w) A (call (.type "range") [.int n t]) (fun r s₁ => wpAny (model P0 w) A (pyIter r) Q E s₁) E s := by
  obtain ⟨h1, h2⟩ := small_range hn0 hn
  refine call_range_1 ?_
  have F1 := F.push (t := s.toks + 1 + 1) { cls := .type "range", data := .fields #[.int 0 s.toks, .int n t, .int 1 (s.toks + 1)] } (p := fun _ => True) trivial
  refine wpAny_pyIter_range (hr := Heap.get?_push_size _ rfl) h1 ?_
  rw [h2]
  have F2 := (F1.push { cls := .type "range_iterator", data := .fields #[rawInt 0, rawInt n.toNat, rawInt 1] } (t := s.toks + 1 + 1) (p := RIt n.toNat 0) (by simp [rawInt])).sub (own' := (_, RIt n.toNat 0) :: own) (.cons_cons _ (.cons _ (.refl _)))
  exact h _ _ F2

/-! subscripts of lists -/
theorem e_sub {value slice : PySem.Expr} {pos : Pos} {Q : Value → Shared → Prop}
    (h : wpAny (model P0 w) A (eval value env) (fun o s₁ => wpAny (model P0 w) A (eval slice env) (fun i s₂ => ∃ l items k t x, o = .ref l ∧ i = .int (k : Nat) t ∧ s₂.heap.IsList l items ∧ items[k]? = some x ∧ k < 1000 ∧ Q x s₂) E s₁) E s)
    (hs : ∀ o i, subscripted slice false o i = operate [o, i] (getItem o i) := by intro _ _; with_unfolding_all rfl) :
    wpAny (model P0 w) A (eval (.Subscript value slice pos) env) Q E s := by
  refine Subscript_ (wpAny_mono h (fun o s₁ h₁ => wpAny_mono h₁ (fun i s₂ h₂ => ?_) fun _ _ x => x) fun _ _ x => x)
  obtain ⟨l, items, k, t, x, rfl, rfl, hl, hx, hk, hq⟩ := h₂
  unfold subscriptTail
  refine wpAny_bind ?_
  rw [getitemInPython_of_ne hl.typeIs.not_modules]
  refine wpAny_bind (wpAny_specialOf hl.typeIs F.slot_list_getitem.lookup ?_)
  have fin : wpAny (model P0 w) A (subscripted slice false (.ref l) (.int k t)) (fun r s₃ => wpAny (model P0 w) A (letTemporaryGo value (.ref l) r >>= fun _ => pure r) Q E s₃) E s₂ := by
    rw [hs]
    exact wpAny_operating (wpAny_getItem_list hl (by omega) (by omega) (by simpa using hx) (wpAny_bind (wpAny_letTemporaryGo (wpAny_pure hq))))
  first
    | exact wpAny_pure (wpAny_bind fin)
    | exact wpAny_bind (wpAny_pure (wpAny_bind fin))
    | exact wpAny_bind fin
    | exact wpAny_pure fin
end
end Mine
end
section
open PySem PySem.W PySem.Calls PyProof.Rows
set_option maxRecDepth 100000
set_option maxHeartbeats 1000000
set_option autoImplicit false
set_option linter.unusedVariables false
set_option linter.unusedSectionVars false
namespace Mine
section
variable {w : World} {A : Around} {E : Value → Shared → Prop} {s : Shared} {env : Env} {G : Array GenState} {O : OsState} {V : View} {L : Addr} {ns : List Str} {vs : List (Option Value)} {own : List Kp}

/-- the form of a turn of a comprehension -/
noncomputable def TurnIs (e : PySem.Expr) (depth : Nat) (target : PySem.Expr) (p : Pos) (body : Value → Env → Sem Unit) : Prop :=
  ∀ it acc env, compTurn e depth it acc env = (do
    standAt p
    match ← pyNext it with
    | none => pure (.done .next)
    | some v =>
      letOwnedTupleGo target it v
      assign target env v
      body acc env
      again (.compLoop e depth it acc env))
noncomputable def DenIs (w : World) (e : PySem.Expr) (depth : Nat) : Prop :=
  ∀ (A : Around) it acc env, (model P0 w).den (.compLoop e depth it acc env) = (compTurn e depth it acc env).onRaise (fun x => do noteFrame x env; theTreesLotGoes x) ∧ A.under (.compLoop e depth it acc env) = A ∧ (Code.compLoop e depth it acc env).quiet = true
noncomputable def StartIs (w : World) (e : PySem.Expr) (depth : Nat) : Prop :=
  ∀ (A : Around) it acc env R s, codeAny (model P0 w) A (.compLoop e depth it acc env) R s →
    wpAny (model P0 w) A (pyIter it) (fun it' s' => codeAny (model P0 w) A (.compLoop e depth it' acc env) R s') (notedBy (model P0 w) A env fun x s' => R (.error x) s') s →
    codeAny (model P0 w) A (.compStart e depth it acc env) R s

theorem comp_loopG {e target : PySem.Expr} {depth : Nat} {p : Pos} {body : Value → Env → Sem Unit} {I : Addr} {acc : Value} {n i₀ : Nat} {P : Nat → Value → Prop} {Sh : Nat → Obj → Prop} {U : Heap → Prop} {R : Result → Shared → Prop}
    (ht : TurnIs e depth target p body) (hd : DenIs w e depth) (It : Iter w A I n P Sh U) (INV : Nat → List (Option Value) → List Kp → Prop) (F : Fm w G O V L ns vs ((I, Sh i₀) :: own) s) (hi₀ : i₀ ≤ n) (h0 : INV i₀ vs own)
    (hU : ∀ i vs own s, INV i vs own → Fm w G O V L ns vs ((I, Sh i) :: own) s → U s.heap)
    (hstep : ∀ i v vs own s, i < n → P i v → INV i vs own → Fm w G O V L ns vs ((I, Sh (i + 1)) :: own) s → wpAny (model P0 w) A (assign target env v) (fun _ s₁ => wpAny (model P0 w) A (body acc env) (fun _ s₂ =>
      ∃ vs' own', Fm w G O V L ns vs' ((I, Sh (i + 1)) :: own') s₂ ∧ INV (i + 1) vs' own') noE s₁) noE s)
    (hR : ∀ vs own s, INV n vs own → Fm w G O V L ns vs own s → R (.ok .next) s)
    (hl : ∀ i v (s : Shared) (Q : Unit → Shared → Prop) (E : Value → Shared → Prop), HasP s.heap (I, Sh i) → Q () s → wpAny (model P0 w) A (letOwnedTupleGo target (.ref I) v) Q E s) :
    codeAny (model P0 w) A (.compLoop e depth (.ref I) acc env) R s := by
  obtain ⟨h1, h2, h3⟩ := hd A (.ref I) acc env
  refine codeAny_loop h3 (fun k s => ∃ i vs own, k = n - i ∧ i ≤ n ∧ Fm w G O V L ns vs ((I, Sh i) :: own) s ∧ INV i vs own) ?_ (n - i₀) ⟨i₀, vs, own, rfl, hi₀, F, h0⟩
  rintro k s ⟨i, vs, own, rfl, hi, F, hI⟩
  rw [h1, h2]
  refine wpAny_noted ?_
  rw [ht]
  refine wpAny_bind (wpAny_standAt (wpAny_bind ?_))
  by_cases hlt : i < n
  · refine It.item i s _ _ hlt (F.get (.head _)) (hU i vs own s hI F) fun v h' tk hP hp' hk => ?_
    have F' : Fm w G O V L ns vs ((I, Sh (i + 1)) :: own) { s with heap := h', toks := tk } := F.head rfl hk hp' F.gens F.os
    refine wpAny_bind (hl (i + 1) v _ _ _ hp' ?_)
    refine wpAny_bind (wpAny_mono (hstep i v vs own _ hlt hP hI F') (fun _ s₃ h₃ => wpAny_bind (wpAny_mono h₃ (fun _ s₄ h₄ => ?_) fun _ _ (x : False) => x.elim)) fun _ _ (x : False) => x.elim)
    obtain ⟨vs', own', F₄, hI'⟩ := h₄
    exact wpAny_pure ⟨rfl, n - (i + 1), by omega, i + 1, vs', own', rfl, hlt, F₄, hI'⟩
  · have hin : i = n := by omega
    subst hin
    refine It.done s _ _ (F.get (.head _)) (hU i vs own s hI F) fun h' tk hk => ?_
    exact wpAny_pure (hR vs own _ hI (F.drop (s' := { s with heap := h', toks := tk }) rfl hk F.gens F.os))

/-- an inner clause -/
theorem comp_inner {e target : PySem.Expr} {depth : Nat} {p : Pos} {body : Value → Env → Sem Unit} {I : Addr} {acc : Value} {n i₀ : Nat} {P : Nat → Value → Prop} {Sh : Nat → Obj → Prop} {U : Heap → Prop} {Q : Flow → Shared → Prop}
    (ht : TurnIs e depth target p body) (hd : DenIs w e depth) (hs : StartIs w e depth) (hh : A.handled = none) (It : Iter w A I n P Sh U) (INV : Nat → List (Option Value) → List Kp → Prop) (F : Fm w G O V L ns vs ((I, Sh i₀) :: own) s) (hi₀ : i₀ ≤ n) (h0 : INV i₀ vs own)
    (hU : ∀ i vs own s, INV i vs own → Fm w G O V L ns vs ((I, Sh i) :: own) s → U s.heap)
    (hstep : ∀ i v vs own s, i < n → P i v → INV i vs own → Fm w G O V L ns vs ((I, Sh (i + 1)) :: own) s → wpAny (model P0 w) A (assign target env v) (fun _ s₁ => wpAny (model P0 w) A (body acc env) (fun _ s₂ =>
      ∃ vs' own', Fm w G O V L ns vs' ((I, Sh (i + 1)) :: own') s₂ ∧ INV (i + 1) vs' own') noE s₁) noE s)
    (hR : ∀ vs own s, INV n vs own → Fm w G O V L ns vs own s → Q .next s)
    (hl : ∀ i v (s : Shared) (Q : Unit → Shared → Prop) (E : Value → Shared → Prop), HasP s.heap (I, Sh i) → Q () s → wpAny (model P0 w) A (letOwnedTupleGo target (.ref I) v) Q E s) :
    wpAny (model P0 w) A (runOwn (.compStart e depth (.ref I) acc env) env) Q E s := by
  refine wpAny_runOwn ?_
  have hm : A.mark none = A := rfl
  rw [hm]
  have loop : codeAny (model P0 w) A (.compLoop e depth (.ref I) acc env) (fun r s' => match r with | .ok f => Q f s' | .error e => cameBackBy (model P0 w) A env E e s') s :=
    comp_loopG ht hd It INV F hi₀ h0 hU hstep hR hl
  exact hs _ _ _ _ _ _ loop (It.self i₀ _ _ _ (F.get (.head _)) (hU i₀ vs own s h0 F) loop)

/-- the outer clause, with its own frame -/
theorem comp_blockG {e target : PySem.Expr} {p : Pos} {body : Value → Env → Sem Unit} {scope : Scope} {cl : List (Str × Addr)} {I : Addr} {n : Nat} {P : Nat → Value → Prop} {Sh : Nat → Obj → Prop} {U : Heap → Prop} {ext rest : List Kp}
    {RR : Value → Addr → Result → Shared → Prop} {newAcc : Sem Value} {p₀ : Obj → Prop} (ht : TurnIs e 0 target p body) (hd : DenIs w e 0) (hs : StartIs w e 0)
    (hacc : ∀ Q : Value → Shared → Prop, (∀ D s', s.heap.get? D = none → Keeps s.heap s'.heap → s'.gens = s.gens → s'.os = s.os → HasP s'.heap (D, p₀) → Q (.ref D) s') → wpAny (model P0 w) A newAcc Q E s)
    (It : Iter w A I n P Sh U) (F : Fm w G O V L ns vs ((I, Sh 0) :: (ext ++ rest)) s) (hcell : ∀ y ∈ scope.names, y.2 ≠ .cell) (hkind : scope.kind = .function) (hnd : (cnames scope).Nodup)
    (INV : Nat → (Obj → Prop) → List Kp → Prop) (h0 : INV 0 p₀ ext)
    (hU : ∀ i pD ext' (s' : Shared), INV i pD ext' → (∀ b o, b ∉ I :: ext.map (·.1) → s.heap.get? b = some o → s'.heap.get? b = some o) → U s'.heap)
    (hstep : ∀ C D i v pD ext' u s', i < n → P i v → INV i pD ext' → u.length = (cnames scope).length → Fm w G O ((hv s.heap).but (I :: ext.map (·.1))) C (cnames scope) u ((I, Sh (i + 1)) :: (D, pD) :: ext') s' →
      wpAny (model P0 w) A (assign target (compEnvC scope cl C env) v) (fun _ s₁ => wpAny (model P0 w) A (body (.ref D) (compEnvC scope cl C env)) (fun _ s₂ => ∃ u' pD' ext'', u'.length = (cnames scope).length ∧
        Fm w G O ((hv s.heap).but (I :: ext.map (·.1))) C (cnames scope) u' ((I, Sh (i + 1)) :: (D, pD') :: ext'') s₂ ∧ INV (i + 1) pD' ext'') noE s₁) noE s')
    (hRR : ∀ D C pD ext' s', INV n pD ext' → Fm w G O V L ns vs ((C, NsP) :: (D, pD) :: (ext' ++ rest)) s' → RR (.ref D) C (.ok .next) s')
    (hl : ∀ i v (s : Shared) (Q : Unit → Shared → Prop) (E : Value → Shared → Prop), HasP s.heap (I, Sh i) → Q () s → wpAny (model P0 w) A (letOwnedTupleGo target (.ref I) v) Q E s) :
    wpAny (model P0 w) A newAcc (fun acc s₃ => wpAny (model P0 w) A (newFunctionEnv scope env.globals cl [] env.qual none .none (some env)) (fun cenv s₄ =>
      codeAny (model P0 w) A (.compStart e 0 (.ref I) acc { cenv with scope := relabel scope env }) (RR acc cenv.locals) s₄) E s₃) E s := by
  refine hacc _ fun D s₃ hD hk₃ hg₃ ho₃ hp₃ => ?_
  refine wpAny_newFunctionEnv hcell (by intro y hy; simp at hy) (fun h₁ hns₁ hsb₁ => ?_) hkind
  have hDC : D ≠ s₃.heap.objs.size := Nat.ne_of_lt hp₃.lt
  have freshC : s.heap.get? s₃.heap.objs.size = none := by
    cases e : s.heap.get? s₃.heap.objs.size with
    | none => rfl
    | some o' => exact absurd (Heap.lt_size (hk₃ _ _ e)) (Nat.lt_irrefl _)
  have old : ∀ b o, s.heap.get? b = some o → h₁.get? b = some o := fun b o e =>
    hsb₁.extBut b o (fun q => by rw [q, freshC] at e; cases e) (Heap.get?_push_of_some _ (hk₃ _ _ e))
  have F₁ : Fm w G O ((hv s.heap).but (I :: ext.map (·.1))) s₃.heap.objs.size (cnames scope) ((cnames scope).map fun _ => none) ((I, Sh 0) :: (D, p₀) :: ext) { s₃ with heap := h₁, toks := s₃.toks + ([] : List (Str × Value)).length } := by
    refine F.inner hnd hD freshC hDC old ?_ hns₁ hg₃ ho₃
    exact hp₃.keeps fun o e => hsb₁.extBut _ _ hDC (Heap.get?_push_of_some _ e)
  have loop : ∀ s₄ : Shared, s₄ = { s₃ with heap := h₁, toks := s₃.toks + ([] : List (Str × Value)).length } →
      codeAny (model P0 w) A (.compLoop e 0 (.ref I) (.ref D) (compEnvC scope cl s₃.heap.objs.size env)) (RR (.ref D) s₃.heap.objs.size) s₄ := by
    rintro s₄ rfl
    refine comp_loopG ht hd It (fun i u own => ∃ pD ext', u.length = (cnames scope).length ∧ own = (D, pD) :: ext' ∧ INV i pD ext') F₁ (Nat.zero_le _) ⟨p₀, ext, by simp, rfl, h0⟩ ?_ ?_ ?_ hl
    · rintro i u _ s ⟨pD, ext', _, rfl, hI⟩ F'
      exact hU i pD ext' s hI fun b o hb e => F'.view b o (View.but_at e hb)
    · rintro i v u _ s' hi hP ⟨pD, ext', hu, rfl, hI⟩ F'
      refine wpAny_mono (hstep _ _ i v pD ext' u s' hi hP hI hu F') (fun _ s₁ h₁ => wpAny_mono h₁ (fun _ s₂ h₂ => ?_) fun _ _ x => x) fun _ _ x => x
      obtain ⟨u', pD', ext'', hu', F'', hI'⟩ := h₂
      exact ⟨u', _, F'', pD', ext'', hu', rfl, hI'⟩
    · rintro u _ s' ⟨pD, ext', hu, rfl, hI⟩ F'
      exact hRR _ _ pD ext' _ hI (F.outer hD freshC F')
  have hU₁ : U h₁ := hU 0 p₀ ext { s₃ with heap := h₁, toks := s₃.toks + ([] : List (Str × Value)).length } h0 fun b o _ e => old b o e
  exact hs _ _ _ _ _ _ (loop _ rfl) (It.self 0 _ _ _ (F₁.get (.head _)) hU₁ (loop _ rfl))

theorem DenIs.list {w : World} {elt : PySem.Expr} {gs : List Comprehension} {scope : Scope} {pos : Pos} {depth : Nat} : DenIs w (.ListComp elt gs scope pos) depth := fun A it acc env => ⟨rfl, rfl, rfl⟩
theorem DenIs.set {w : World} {elt : PySem.Expr} {gs : List Comprehension} {scope : Scope} {pos : Pos} {depth : Nat} : DenIs w (.SetComp elt gs scope pos) depth := fun A it acc env => ⟨rfl, rfl, rfl⟩
theorem start_tail {p : Pos} {e : PySem.Expr} {depth : Nat} {it acc : Value} {R : Result → Shared → Prop}
    (hq : (Code.compLoop e depth it acc env).quiet = true) (hq' : ∀ it', (Code.compLoop e depth it' acc env).quiet = true)
    (h0 : codeAny (model P0 w) A (.compLoop e depth it acc env) R s)
    (h : wpAny (model P0 w) A (pyIter it) (fun it' s' => codeAny (model P0 w) A (.compLoop e depth it' acc env) R s') (notedBy (model P0 w) A env fun x s' => R (.error x) s') s) :
    wpAny (model P0 w) A (do
      if (← ask).params.followText "comprehension-iter-twice" then return ← again (.compLoop e depth it acc env)
      rule "comprehension.iter-twice"
      standAt p
      again (.compLoop e depth (← pyIter it) acc env)) (fun fin s' => match fin with | .done f => R (.ok f) s' | .again c' => c'.quiet = true ∧ codeAny (model P0 w) A c' R s') (notedBy (model P0 w) A env fun x s' => R (.error x) s') s := by
  refine wpAny_bind (wpAny_askSetting (wpAny_ite ?_))
  split
  · first
      | exact wpAny_bind (wpAny_pure (wpAny_pure (And.intro hq h0)))
      | exact wpAny_pure (And.intro hq h0)
  · exact wpAny_bind (wpAny_rule (wpAny_bind (wpAny_standAt (wpAny_bind (wpAny_mono h (fun it' s' h' => wpAny_pure (And.intro (hq' _) h')) fun _ _ x => x)))))
theorem StartIs.of {w : World} {e : PySem.Expr} {depth : Nat} {p : Pos} (hden : ∀ it acc env, (model P0 w).den (.compStart e depth it acc env) = (compStart e depth it acc env).onRaise (fun x => do noteFrame x env; standAt theWindowsPlace))
    (hu : ∀ (A : Around) it acc env, A.under (.compStart e depth it acc env) = A) (hq : ∀ it acc env, (Code.compLoop e depth it acc env).quiet = true)
    (hs : ∀ it acc env, compStart e depth it acc env = (do
      if (← ask).params.followText "comprehension-iter-twice" then return ← again (.compLoop e depth it acc env)
      rule "comprehension.iter-twice"
      standAt p
      again (.compLoop e depth (← pyIter it) acc env))) : StartIs w e depth := fun A it acc env R s h0 h => by
  refine codeAny_of_tree ?_
  rw [hden, hu, hs]
  exact wpAny_notedAt (start_tail (hq _ _ _) (fun _ => hq _ _ _) h0 h)

/-- the two clauses of a list comprehension -/
theorem list2_turn0 {elt i1 i2 t1 t2 : PySem.Expr} {scope : Scope} {pos : Pos} :
    TurnIs (.ListComp elt [⟨t1, i1, [], 0⟩, ⟨t2, i2, [], 0⟩] scope pos) 0 t1 i1.pos (fun acc env => do
      let x ← eval i2 env
      standAt i2.pos
      let x ← foldedSetIterable i2 env x
      let _ ← runOwn (.compStart (.ListComp elt [⟨t1, i1, [], 0⟩, ⟨t2, i2, [], 0⟩] scope pos) 1 (← holding [x] (pyIter x)) acc env) env) := by
  intro it acc env
  have h1 : compTurn (.ListComp elt [⟨t1, i1, [], 0⟩, ⟨t2, i2, [], 0⟩] scope pos) 0 it acc env = (do
    standAt i1.pos
    match ← pyNext it with
    | none => pure (.done .next)
    | some v =>
      letOwnedTupleGo t1 it v
      assign t1 env v
      let x ← eval i2 env
      standAt i2.pos
      let x ← foldedSetIterable i2 env x
      let _ ← runOwn (.compStart (.ListComp elt [⟨t1, i1, [], 0⟩, ⟨t2, i2, [], 0⟩] scope pos) 1 (← holding [x] (pyIter x)) acc env) env
      again (.compLoop (.ListComp elt [⟨t1, i1, [], 0⟩, ⟨t2, i2, [], 0⟩] scope pos) 0 it acc env)) := rfl
  rw [h1]
  simp only [bind_assoc, pure_bind]
theorem list2_turn1 {elt i1 i2 t1 t2 : PySem.Expr} {scope : Scope} {pos : Pos} :
    TurnIs (.ListComp elt [⟨t1, i1, [], 0⟩, ⟨t2, i2, [], 0⟩] scope pos) 1 t2 i2.pos (fun acc env => do let _ ← call (.builtin "list.append") [acc, ← eval elt env]) := by
  intro it acc env
  have h1 : compTurn (.ListComp elt [⟨t1, i1, [], 0⟩, ⟨t2, i2, [], 0⟩] scope pos) 1 it acc env = (do
    standAt i2.pos
    match ← pyNext it with
    | none => pure (.done .next)
    | some v =>
      letOwnedTupleGo t2 it v
      assign t2 env v
      (do let _ ← call (.builtin "list.append") [acc, ← eval elt env])
      again (.compLoop (.ListComp elt [⟨t1, i1, [], 0⟩, ⟨t2, i2, [], 0⟩] scope pos) 1 it acc env)) := rfl
  rw [h1]
theorem set2_turn0 {elt i1 i2 t1 t2 : PySem.Expr} {scope : Scope} {pos : Pos} :
    TurnIs (.SetComp elt [⟨t1, i1, [], 0⟩, ⟨t2, i2, [], 0⟩] scope pos) 0 t1 i1.pos (fun acc env => do
      let x ← eval i2 env
      standAt i2.pos
      let x ← foldedSetIterable i2 env x
      let _ ← runOwn (.compStart (.SetComp elt [⟨t1, i1, [], 0⟩, ⟨t2, i2, [], 0⟩] scope pos) 1 (← holding [x] (pyIter x)) acc env) env) := by
  intro it acc env
  have h1 : compTurn (.SetComp elt [⟨t1, i1, [], 0⟩, ⟨t2, i2, [], 0⟩] scope pos) 0 it acc env = (do
    standAt i1.pos
    match ← pyNext it with
    | none => pure (.done .next)
    | some v =>
      letOwnedTupleGo t1 it v
      assign t1 env v
      let x ← eval i2 env
      standAt i2.pos
      let x ← foldedSetIterable i2 env x
      let _ ← runOwn (.compStart (.SetComp elt [⟨t1, i1, [], 0⟩, ⟨t2, i2, [], 0⟩] scope pos) 1 (← holding [x] (pyIter x)) acc env) env
      again (.compLoop (.SetComp elt [⟨t1, i1, [], 0⟩, ⟨t2, i2, [], 0⟩] scope pos) 0 it acc env)) := rfl
  rw [h1]
  simp only [bind_assoc, pure_bind]
theorem set2_turn1 {elt i1 i2 t1 t2 : PySem.Expr} {scope : Scope} {pos : Pos} :
    TurnIs (.SetComp elt [⟨t1, i1, [], 0⟩, ⟨t2, i2, [], 0⟩] scope pos) 1 t2 i2.pos (fun acc env => do let v ← eval elt env; standAt elt.pos; let _ ← call (.builtin "set.add") [acc, v]) := by
  intro it acc env
  have h1 : compTurn (.SetComp elt [⟨t1, i1, [], 0⟩, ⟨t2, i2, [], 0⟩] scope pos) 1 it acc env = (do
    standAt i2.pos
    match ← pyNext it with
    | none => pure (.done .next)
    | some v =>
      letOwnedTupleGo t2 it v
      assign t2 env v
      (do let v ← eval elt env; standAt elt.pos; let _ ← call (.builtin "set.add") [acc, v])
      again (.compLoop (.SetComp elt [⟨t1, i1, [], 0⟩, ⟨t2, i2, [], 0⟩] scope pos) 1 it acc env)) := rfl
  rw [h1]
theorem list2_start {w : World} {elt i1 i2 t1 t2 : PySem.Expr} {scope : Scope} {pos : Pos} : StartIs w (.ListComp elt [⟨t1, i1, [], 0⟩, ⟨t2, i2, [], 0⟩] scope pos) 0 ∧ StartIs w (.ListComp elt [⟨t1, i1, [], 0⟩, ⟨t2, i2, [], 0⟩] scope pos) 1 :=
  ⟨.of (p := i1.pos) (fun _ _ _ => rfl) (fun _ _ _ _ => rfl) (fun _ _ _ => rfl) (fun _ _ _ => rfl), .of (p := i2.pos) (fun _ _ _ => rfl) (fun _ _ _ _ => rfl) (fun _ _ _ => rfl) (fun _ _ _ => rfl)⟩
theorem set2_start {w : World} {elt i1 i2 t1 t2 : PySem.Expr} {scope : Scope} {pos : Pos} : StartIs w (.SetComp elt [⟨t1, i1, [], 0⟩, ⟨t2, i2, [], 0⟩] scope pos) 0 ∧ StartIs w (.SetComp elt [⟨t1, i1, [], 0⟩, ⟨t2, i2, [], 0⟩] scope pos) 1 :=
  ⟨.of (p := i1.pos) (fun _ _ _ => rfl) (fun _ _ _ _ => rfl) (fun _ _ _ => rfl) (fun _ _ _ => rfl), .of (p := i2.pos) (fun _ _ _ => rfl) (fun _ _ _ _ => rfl) (fun _ _ _ => rfl) (fun _ _ _ => rfl)⟩

/-- one clause, any target -/
theorem list1_turn {elt i1 t1 : PySem.Expr} {ifs : List PySem.Expr} {scope : Scope} {pos : Pos} :
    TurnIs (.ListComp elt [⟨t1, i1, ifs, 0⟩] scope pos) 0 t1 i1.pos (fun acc env => do
      let mut ok := true
      for c in ifs do
        if ok then ok ← isTrue c env (eval c env)
      if ok then
        (do let _ ← call (.builtin "list.append") [acc, ← eval elt env])) := by
  intro it acc env
  rw [compTurn_list]
  refine bind_congr fun _ => ?_
  refine bind_congr fun r => ?_
  cases r with
  | none => rfl
  | some v =>
    show (letOwnedTupleGo t1 it v >>= fun _ => assign t1 env v >>= fun _ => _) = (letOwnedTupleGo t1 it v >>= fun _ => assign t1 env v >>= fun _ => _)
    refine bind_congr fun _ => ?_
    refine bind_congr fun _ => ?_
    simp only [bind_assoc]
    refine bind_congr fun ok => ?_
    cases ok <;> simp
theorem list1_start {w : World} {elt i1 t1 : PySem.Expr} {ifs : List PySem.Expr} {scope : Scope} {pos : Pos} : StartIs w (.ListComp elt [⟨t1, i1, ifs, 0⟩] scope pos) 0 :=
  .of (p := i1.pos) (fun _ _ _ => rfl) (fun _ _ _ _ => rfl) (fun _ _ _ => rfl) (fun _ _ _ => rfl)
theorem let_list {elts : List PySem.Expr} {k : Nat} {pos : Pos} {I l : Addr} {i : Nat} {v : Value} {Q : Unit → Shared → Prop} (hit : HasP s.heap (I, LIt l i)) (hQ : Q () s) : wpAny (model P0 w) A (letOwnedTupleGo (.Tuple elts k pos) (.ref I) v) Q E s := by
  cases v with
  | ref T => exact wpAny_letOwnedTupleGo_listiter hit hQ
  | _ => exact wpAny_pure hQ
theorem x_ForP {elts : List PySem.Expr} {kk : Nat} {tpos : Pos} {iter : PySem.Expr} {body orelse : List Stmt} {pos : Pos} {Q : Flow → Shared → Prop} (_F₀ : Fm w G O V L ns vs own s) (INV : Nat → List (Option Value) → List Kp → Prop)
    (h : wpAny (model P0 w) A (eval iter env) (fun xv s₁ => wpAny (model P0 w) A (pyIter xv) (fun it s₂ => ∃ I l items vs own, it = .ref I ∧ A.handled = none ∧ l ≠ I ∧
      Fm w G O V L ns vs ((I, LIt l 0) :: own) s₂ ∧ INV 0 vs own ∧
      (∀ i vs own s, INV i vs own → Fm w G O V L ns vs ((I, LIt l i) :: own) s → s.heap.IsList l items) ∧
      (∀ i v vs own s, i < items.size → items[i]? = some v → INV i vs own → Fm w G O V L ns vs ((I, LIt l (i + 1)) :: own) s → wpAny (model P0 w) A (assign (.Tuple elts kk tpos) env v) (fun _ s' => wpAny (model P0 w) A (execs body env) (fun fl s'' => match fl with
        | .next | .cont => ∃ vs' own', Fm w G O V L ns vs' ((I, LIt l (i + 1)) :: own') s'' ∧ INV (i + 1) vs' own'
        | .brk => Q .next s''
        | .ret v => Q (.ret v) s'') noE s') noE s) ∧
      (∀ vs own s, INV items.size vs own → Fm w G O V L ns vs own s → wpAny (model P0 w) A (execs orelse env) Q noE s)) E s₁) E s)
    (hs : ∀ x, foldedSetIterable iter env x = pure x := by intro _; rfl) :
    wpAny (model P0 w) A (exec (.For (.Tuple elts kk tpos) iter body orelse pos) env) Q E s := by
  refine wpAny_For (wpAny_mono h (fun xv s₁ h₁ => wpAny_mono h₁ (fun it s₂ h₂ => ?_) fun _ _ x => x) fun _ _ x => x) hs
  obtain ⟨I, l, items, vs, own, rfl, hh, hlI, F, hInv, hU, hstep, hdone⟩ := h₂
  have It := Iter.list (w := w) hh I l hlI items
  refine codeAny_forLoop_any (fun k s => ∃ i vs own, k = items.size - i ∧ i ≤ items.size ∧ Fm w G O V L ns vs ((I, LIt l i) :: own) s ∧ INV i vs own) ?_ (items.size - 0) ⟨0, vs, own, rfl, Nat.zero_le _, F, hInv⟩
  rintro k s ⟨i, vs, own, rfl, hi, F, hInv⟩
  by_cases hlt : i < items.size
  · refine It.item i s _ _ hlt (F.get (.head _)) (hU i vs own s hInv F) fun v h' tk hP hp' hk => ?_
    have F' : Fm w G O V L ns vs ((I, LIt l (i + 1)) :: own) { s with heap := h', toks := tk } := F.head rfl hk hp' F.gens F.os
    refine let_list hp' ?_
    refine wpAny_mono (hstep i v vs own _ hlt hP hInv F') (fun _ s₃ h₃ => wpAny_mono h₃ (fun fl s₄ h₄ => ?_) fun _ _ (x : False) => x.elim) fun _ _ (x : False) => x.elim
    cases fl with
    | next => obtain ⟨vs', own', F₄, hI⟩ := h₄; exact ⟨items.size - (i + 1), by omega, i + 1, vs', own', rfl, hlt, F₄, hI⟩
    | cont => obtain ⟨vs', own', F₄, hI⟩ := h₄; exact ⟨items.size - (i + 1), by omega, i + 1, vs', own', rfl, hlt, F₄, hI⟩
    | brk => exact h₄
    | ret v => exact h₄
  · have hin : i = items.size := by omega
    subst hin
    refine It.done s _ _ (F.get (.head _)) (hU _ vs own s hInv F) fun h' tk hk => ?_
    exact wpAny_mono (hdone vs own _ hInv (F.drop (s' := { s with heap := h', toks := tk }) rfl hk F.gens F.os)) (fun _ _ x => x) fun _ _ (x : False) => x.elim
/-- a comprehension of one clause over a list of pairs -/
theorem e_ListCompP {elt iter : PySem.Expr} {elts : List PySem.Expr} {kk : Nat} {tpos : Pos} {ifs : List PySem.Expr} {scope : Scope} {pos : Pos} {cl : List (Str × Addr)} {Q : Value → Shared → Prop} (_F₀ : Fm w G O V L ns vs own s) (INV : Nat → (Obj → Prop) → List Kp → Prop)
    (h : wpAny (model P0 w) A (eval iter env) (fun xv s₁ => wpAny (model P0 w) A (pyIter xv) (fun it s₂ => ∃ I l items vs ext rest, it = .ref I ∧ A.handled = none ∧ l ≠ I ∧ Fm w G O V L ns vs ((I, LIt l 0) :: (ext ++ rest)) s₂ ∧ INV 0 (LP #[]) ext ∧
      (∀ i pD ext' (s' : Shared), INV i pD ext' → (∀ b o, b ∉ I :: ext.map (·.1) → s₂.heap.get? b = some o → s'.heap.get? b = some o) → s'.heap.IsList l items) ∧
      (∀ C D i v pD ext' u s', i < items.size → items[i]? = some v → INV i pD ext' → u.length = (cnames scope).length → Fm w G O ((hv s₂.heap).but (I :: ext.map (·.1))) C (cnames scope) u ((I, LIt l (i + 1)) :: (D, pD) :: ext') s' →
        wpAny (model P0 w) A (assign (.Tuple elts kk tpos) (compEnvC scope cl C env) v) (fun _ s₁ => wpAny (model P0 w) A (testsOf ifs (compEnvC scope cl C env)) (fun ok s₂' =>
          if ok = true then wpAny (model P0 w) A (eval elt (compEnvC scope cl C env)) (fun x s₃ => wpAny (model P0 w) A (call (.builtin "list.append") [.ref D, x]) (fun _ s₄ => ∃ u' pD' ext'', u'.length = (cnames scope).length ∧
            Fm w G O ((hv s₂.heap).but (I :: ext.map (·.1))) C (cnames scope) u' ((I, LIt l (i + 1)) :: (D, pD') :: ext'') s₄ ∧ INV (i + 1) pD' ext'') noE s₃) noE s₂'
          else ∃ u' pD' ext'', u'.length = (cnames scope).length ∧ Fm w G O ((hv s₂.heap).but (I :: ext.map (·.1))) C (cnames scope) u' ((I, LIt l (i + 1)) :: (D, pD') :: ext'') s₂' ∧ INV (i + 1) pD' ext'') noE s₁) noE s') ∧
      (∀ D pD ext' s', INV items.size pD ext' → Fm w G O V L ns vs ((D, pD) :: (ext' ++ rest)) s' → Q (.ref D) s')) E s₁) E s)
    (hclos : closureFor scope env = pure cl) (hcell : ∀ y ∈ scope.names, y.2 ≠ .cell := by decide) (hkind : scope.kind = .function := by rfl)
    (hnames : ∀ y ∈ scope.names, y.2 = .local → scope.names.lookup y.1 = some .local := by decide) (hnd : (cnames scope).Nodup := by decide)
    (hs : ∀ x, foldedSetIterable iter env x = pure x := by intro _; rfl) :
    wpAny (model P0 w) A (eval (.ListComp elt [⟨.Tuple elts kk tpos, iter, ifs, 0⟩] scope pos) env) Q E s := by
  rw [eval_ListComp]
  refine wpAny_comprehension_free (use := none) rfl hs hclos hkind hnames (wpAny_mono h (fun xv s₁ h₁ => wpAny_mono h₁ (fun it s₂ h₂ => ?_) fun _ _ e => e) fun _ _ e => e)
  obtain ⟨I, l, items, vs, ext, rest, rfl, hh, hlI, F, hI, hU, hstep, hQ⟩ := h₂
  refine comp_blockG (p₀ := LP #[]) (RR := fun acc C => compPost (model P0 w) A E none Q acc C) list1_turn DenIs.list list1_start (fun Q hq => wpAny_newObj_type (hq _ _ (fresh_none _) (Keeps.push _ _) rfl rfl ⟨_, Heap.get?_push_size _ rfl, 0, rfl⟩)) (Iter.list hh I l hlI items) F hcell hkind hnd INV hI hU ?_ ?_ (fun i v s Q E hp q => let_list hp q)
  · intro C D i v pD ext' u s' hi hP hI hu F'
    refine wpAny_mono (hstep C D i v pD ext' u s' hi hP hI hu F') (fun _ s₁ h₁ => wpAny_bind (wpAny_mono h₁ (fun ok s₂ h₂ => ?_) fun _ _ x => x)) fun _ _ x => x
    cases ok with
    | true =>
      rw [if_pos rfl] at h₂
      exact wpAny_bind (wpAny_mono h₂ (fun x s₃ h₃ => wpAny_bind (wpAny_mono h₃ (fun _ s₄ h₄ => wpAny_pure h₄) fun _ _ x => x)) fun _ _ x => x)
    | false =>
      rw [if_neg Bool.false_ne_true] at h₂
      exact wpAny_pure h₂
  · intro D C pD ext' s' hI' F'
    obtain ⟨m, hm⟩ := ns_of (F'.hown _ (.head _))
    exact ⟨m, hm, fun h' hs' => hQ D pD ext' _ hI' (F'.drop (s' := { s' with heap := h' }) rfl hs'.extBut F'.gens F'.os)⟩
/-- a comprehension of two clauses -/
theorem e_Comp2 {e i1 i2 t1 : PySem.Expr} {scope : Scope} {pp p1 : Pos} {cl : List (Str × Addr)} {newAcc : Sem Value} {p₀ : Obj → Prop} {Q : Value → Shared → Prop} {g : Comprehension} {gs : List Comprehension}
    (heval : eval e env = comprehension e scope env pp newAcc false (eval i1 env)) (hcl : clausesOf e = g :: gs) (hg : g.iter = i1)
    (ht : TurnIs e 0 t1 p1 (fun acc env => do
      let x ← eval i2 env
      standAt i2.pos
      let x ← foldedSetIterable i2 env x
      let _ ← runOwn (.compStart e 1 (← holding [x] (pyIter x)) acc env) env)) (hd : DenIs w e 0) (hst : StartIs w e 0)
    (hacc : ∀ (s : Shared) (Q : Value → Shared → Prop), (∀ D s', s.heap.get? D = none → Keeps s.heap s'.heap → s'.gens = s.gens → s'.os = s.os → HasP s'.heap (D, p₀) → Q (.ref D) s') → wpAny (model P0 w) A newAcc Q E s)
    (_F₀ : Fm w G O V L ns vs own s) (INV : Nat → (Obj → Prop) → List Kp → Prop)
    (h : wpAny (model P0 w) A (eval i1 env) (fun xv s₁ => wpAny (model P0 w) A (pyIter xv) (fun it s₂ => ∃ I n P Sh U vs ext rest, it = .ref I ∧ Iter w A I n P Sh U ∧ Fm w G O V L ns vs ((I, Sh 0) :: (ext ++ rest)) s₂ ∧ INV 0 p₀ ext ∧
      (∀ i pD ext' (s' : Shared), INV i pD ext' → (∀ b o, b ∉ I :: ext.map (·.1) → s₂.heap.get? b = some o → s'.heap.get? b = some o) → U s'.heap) ∧
      (∀ C D i v pD ext' u s', i < n → P i v → INV i pD ext' → u.length = (cnames scope).length → Fm w G O ((hv s₂.heap).but (I :: ext.map (·.1))) C (cnames scope) u ((I, Sh (i + 1)) :: (D, pD) :: ext') s' →
        wpAny (model P0 w) A (assign t1 (compEnvC scope cl C env) v) (fun _ s₁ => wpAny (model P0 w) A (eval i2 (compEnvC scope cl C env)) (fun xv s₂' => wpAny (model P0 w) A (pyIter xv) (fun it s₃ =>
          wpAny (model P0 w) A (runOwn (.compStart e 1 it (.ref D) (compEnvC scope cl C env)) (compEnvC scope cl C env)) (fun _ s₄ => ∃ u' pD' ext'', u'.length = (cnames scope).length ∧
            Fm w G O ((hv s₂.heap).but (I :: ext.map (·.1))) C (cnames scope) u' ((I, Sh (i + 1)) :: (D, pD') :: ext'') s₄ ∧ INV (i + 1) pD' ext'') noE s₃) noE s₂') noE s₁) noE s') ∧
      (∀ D pD ext' s', INV n pD ext' → Fm w G O V L ns vs ((D, pD) :: (ext' ++ rest)) s' → Q (.ref D) s')) E s₁) E s)
    (hclos : closureFor scope env = pure cl) (hcell : ∀ y ∈ scope.names, y.2 ≠ .cell := by decide) (hkind : scope.kind = .function := by rfl)
    (hnames : ∀ y ∈ scope.names, y.2 = .local → scope.names.lookup y.1 = some .local := by decide) (hnd : (cnames scope).Nodup := by decide)
    (hl : ∀ it v, letOwnedTupleGo t1 it v = pure () := by intro _ _; rfl)
    (hs : ∀ x, foldedSetIterable i1 env x = pure x := by intro _; rfl)
    (hs2 : ∀ env x, foldedSetIterable i2 env x = pure x := by intro _ _; rfl) :
    wpAny (model P0 w) A (eval e env) Q E s := by
  rw [heval]
  refine wpAny_comprehension_free (use := none) hcl (hg ▸ hs) hclos hkind hnames (wpAny_mono h (fun xv s₁ h₁ => wpAny_mono h₁ (fun it s₂ h₂ => ?_) fun _ _ e => e) fun _ _ e => e)
  obtain ⟨I, n, P, Sh, U, vs, ext, rest, rfl, It, F, hI, hU, hstep, hQ⟩ := h₂
  refine comp_blockG (RR := fun acc C => compPost (model P0 w) A E none Q acc C) ht hd hst (hacc s₂) It F hcell hkind hnd INV hI hU ?_ ?_ (fun i v s Q E _ q => wpAny_of_eq (hl _ _) q)
  · intro C D i v pD ext' u s' hi hP hI hu F'
    refine wpAny_mono (hstep C D i v pD ext' u s' hi hP hI hu F') (fun _ s₁ h₁ => wpAny_bind (wpAny_mono h₁ (fun xv s₂ h₂ => ?_) fun _ _ x => x)) fun _ _ x => x
    refine wpAny_bind (wpAny_standAt (wpAny_bind (wpAny_of_eq (hs2 _ _) (wpAny_bind (wpAny_holding (wpAny_mono h₂ (fun it s₃ h₃ => ?_) fun _ _ x => x))))))
    exact wpAny_bind (wpAny_mono h₃ (fun _ s₄ h₄ => wpAny_pure h₄) fun _ _ x => x)
  · intro D C pD ext' s' hI' F'
    obtain ⟨m, hm⟩ := ns_of (F'.hown _ (.head _))
    exact ⟨m, hm, fun h' hs' => hQ D pD ext' _ hI' (F'.drop (s' := { s' with heap := h' }) rfl hs'.extBut F'.gens F'.os)⟩
theorem acc_list (s : Shared) (Q : Value → Shared → Prop) (h : ∀ D s', s.heap.get? D = none → Keeps s.heap s'.heap → s'.gens = s.gens → s'.os = s.os → HasP s'.heap (D, LP #[]) → Q (.ref D) s') : wpAny (model P0 w) A (newList []) Q E s :=
  wpAny_newObj_type (h _ _ (fresh_none _) (Keeps.push _ _) rfl rfl ⟨_, Heap.get?_push_size _ rfl, 0, rfl⟩)

theorem e_ListComp2 {elt i1 i2 t1 t2 : PySem.Expr} {scope : Scope} {pos : Pos} {cl : List (Str × Addr)} {Q : Value → Shared → Prop}
    (_F₀ : Fm w G O V L ns vs own s) (INV : Nat → (Obj → Prop) → List Kp → Prop)
    (h : wpAny (model P0 w) A (eval i1 env) (fun xv s₁ => wpAny (model P0 w) A (pyIter xv) (fun it s₂ => ∃ I n P Sh U vs ext rest, it = .ref I ∧ Iter w A I n P Sh U ∧ Fm w G O V L ns vs ((I, Sh 0) :: (ext ++ rest)) s₂ ∧ INV 0 (LP #[]) ext ∧
      (∀ i pD ext' (s' : Shared), INV i pD ext' → (∀ b o, b ∉ I :: ext.map (·.1) → s₂.heap.get? b = some o → s'.heap.get? b = some o) → U s'.heap) ∧
      (∀ C D i v pD ext' u s', i < n → P i v → INV i pD ext' → u.length = (cnames scope).length → Fm w G O ((hv s₂.heap).but (I :: ext.map (·.1))) C (cnames scope) u ((I, Sh (i + 1)) :: (D, pD) :: ext') s' →
        wpAny (model P0 w) A (assign t1 (compEnvC scope cl C env) v) (fun _ s₁ => wpAny (model P0 w) A (eval i2 (compEnvC scope cl C env)) (fun xv s₂' => wpAny (model P0 w) A (pyIter xv) (fun it s₃ =>
          wpAny (model P0 w) A (runOwn (.compStart (.ListComp elt [⟨t1, i1, [], 0⟩, ⟨t2, i2, [], 0⟩] scope pos) 1 it (.ref D) (compEnvC scope cl C env)) (compEnvC scope cl C env)) (fun _ s₄ => ∃ u' pD' ext'', u'.length = (cnames scope).length ∧
            Fm w G O ((hv s₂.heap).but (I :: ext.map (·.1))) C (cnames scope) u' ((I, Sh (i + 1)) :: (D, pD') :: ext'') s₄ ∧ INV (i + 1) pD' ext'') noE s₃) noE s₂') noE s₁) noE s') ∧
      (∀ D pD ext' s', INV n pD ext' → Fm w G O V L ns vs ((D, pD) :: (ext' ++ rest)) s' → Q (.ref D) s')) E s₁) E s)
    (hclos : closureFor scope env = pure cl) (hcell : ∀ y ∈ scope.names, y.2 ≠ .cell := by decide) (hkind : scope.kind = .function := by rfl)
    (hnames : ∀ y ∈ scope.names, y.2 = .local → scope.names.lookup y.1 = some .local := by decide) (hnd : (cnames scope).Nodup := by decide)
    (hl : ∀ it v, letOwnedTupleGo t1 it v = pure () := by intro _ _; rfl)
    (hs : ∀ x, foldedSetIterable i1 env x = pure x := by intro _; rfl)
    (hs2 : ∀ env x, foldedSetIterable i2 env x = pure x := by intro _ _; rfl) :
    wpAny (model P0 w) A (eval (.ListComp elt [⟨t1, i1, [], 0⟩, ⟨t2, i2, [], 0⟩] scope pos) env) Q E s :=
  e_Comp2 (eval_ListComp ..) rfl rfl list2_turn0 DenIs.list list2_start.1 (fun s Q hq => acc_list s Q hq) _F₀ INV h hclos hcell hkind hnames hnd hl hs hs2

theorem e_SetComp2 {elt i1 i2 t1 t2 : PySem.Expr} {scope : Scope} {pos : Pos} {cl : List (Str × Addr)} {Q : Value → Shared → Prop} {p₀ : Obj → Prop}
    (hacc : ∀ (s : Shared) (Q : Value → Shared → Prop), (∀ D s', s.heap.get? D = none → Keeps s.heap s'.heap → s'.gens = s.gens → s'.os = s.os → HasP s'.heap (D, p₀) → Q (.ref D) s') → wpAny (model P0 w) A (newSet (.type "set")) Q E s)
    (_F₀ : Fm w G O V L ns vs own s) (INV : Nat → (Obj → Prop) → List Kp → Prop)
    (h : wpAny (model P0 w) A (eval i1 env) (fun xv s₁ => wpAny (model P0 w) A (pyIter xv) (fun it s₂ => ∃ I n P Sh U vs ext rest, it = .ref I ∧ Iter w A I n P Sh U ∧ Fm w G O V L ns vs ((I, Sh 0) :: (ext ++ rest)) s₂ ∧ INV 0 (p₀) ext ∧
      (∀ i pD ext' (s' : Shared), INV i pD ext' → (∀ b o, b ∉ I :: ext.map (·.1) → s₂.heap.get? b = some o → s'.heap.get? b = some o) → U s'.heap) ∧
      (∀ C D i v pD ext' u s', i < n → P i v → INV i pD ext' → u.length = (cnames scope).length → Fm w G O ((hv s₂.heap).but (I :: ext.map (·.1))) C (cnames scope) u ((I, Sh (i + 1)) :: (D, pD) :: ext') s' →
        wpAny (model P0 w) A (assign t1 (compEnvC scope cl C env) v) (fun _ s₁ => wpAny (model P0 w) A (eval i2 (compEnvC scope cl C env)) (fun xv s₂' => wpAny (model P0 w) A (pyIter xv) (fun it s₃ =>
          wpAny (model P0 w) A (runOwn (.compStart (.SetComp elt [⟨t1, i1, [], 0⟩, ⟨t2, i2, [], 0⟩] scope pos) 1 it (.ref D) (compEnvC scope cl C env)) (compEnvC scope cl C env)) (fun _ s₄ => ∃ u' pD' ext'', u'.length = (cnames scope).length ∧
            Fm w G O ((hv s₂.heap).but (I :: ext.map (·.1))) C (cnames scope) u' ((I, Sh (i + 1)) :: (D, pD') :: ext'') s₄ ∧ INV (i + 1) pD' ext'') noE s₃) noE s₂') noE s₁) noE s') ∧
      (∀ D pD ext' s', INV n pD ext' → Fm w G O V L ns vs ((D, pD) :: (ext' ++ rest)) s' → Q (.ref D) s')) E s₁) E s)
    (hclos : closureFor scope env = pure cl) (hcell : ∀ y ∈ scope.names, y.2 ≠ .cell := by decide) (hkind : scope.kind = .function := by rfl)
    (hnames : ∀ y ∈ scope.names, y.2 = .local → scope.names.lookup y.1 = some .local := by decide) (hnd : (cnames scope).Nodup := by decide)
    (hl : ∀ it v, letOwnedTupleGo t1 it v = pure () := by intro _ _; rfl)
    (hs : ∀ x, foldedSetIterable i1 env x = pure x := by intro _; rfl)
    (hs2 : ∀ env x, foldedSetIterable i2 env x = pure x := by intro _ _; rfl) :
    wpAny (model P0 w) A (eval (.SetComp elt [⟨t1, i1, [], 0⟩, ⟨t2, i2, [], 0⟩] scope pos) env) Q E s :=
  e_Comp2 (g := ⟨t1, i1, [], 0⟩) (gs := [⟨t2, i2, [], 0⟩]) (pp := firstIterPos [⟨t1, i1, [], 0⟩, ⟨t2, i2, [], 0⟩] pos) rfl rfl rfl set2_turn0 DenIs.set set2_start.1 hacc _F₀ INV h hclos hcell hkind hnames hnd hl hs hs2

theorem list2_inner {elt i1 i2 t1 t2 : PySem.Expr} {scope : Scope} {pos : Pos} {I : Addr} {acc : Value} {n i₀ : Nat} {P : Nat → Value → Prop} {Sh : Nat → Obj → Prop} {U : Heap → Prop} {Q : Flow → Shared → Prop}
    (hh : A.handled = none) (It : Iter w A I n P Sh U) (INV : Nat → List (Option Value) → List Kp → Prop) (F : Fm w G O V L ns vs ((I, Sh i₀) :: own) s) (hi₀ : i₀ ≤ n) (h0 : INV i₀ vs own)
    (hU : ∀ i vs own s, INV i vs own → Fm w G O V L ns vs ((I, Sh i) :: own) s → U s.heap)
    (hstep : ∀ i v vs own s, i < n → P i v → INV i vs own → Fm w G O V L ns vs ((I, Sh (i + 1)) :: own) s → wpAny (model P0 w) A (assign t2 env v) (fun _ s₁ => wpAny (model P0 w) A (eval elt env) (fun x s₂ => wpAny (model P0 w) A (call (.builtin "list.append") [acc, x]) (fun _ s₃ =>
      ∃ vs' own', Fm w G O V L ns vs' ((I, Sh (i + 1)) :: own') s₃ ∧ INV (i + 1) vs' own') noE s₂) noE s₁) noE s)
    (hR : ∀ vs own s, INV n vs own → Fm w G O V L ns vs own s → Q .next s)
    (hl : ∀ it v, letOwnedTupleGo t2 it v = pure () := by intro _ _; rfl) :
    wpAny (model P0 w) A (runOwn (.compStart (.ListComp elt [⟨t1, i1, [], 0⟩, ⟨t2, i2, [], 0⟩] scope pos) 1 (.ref I) acc env) env) Q E s :=
  comp_inner list2_turn1 DenIs.list list2_start.2 hh It INV F hi₀ h0 hU (fun i v vs own s hi hP hI F => wpAny_mono (hstep i v vs own s hi hP hI F) (fun _ s₁ h₁ => wpAny_bind (wpAny_mono h₁ (fun x s₂ h₂ => wpAny_bind (wpAny_mono h₂ (fun _ _ q => wpAny_pure q) fun _ _ x => x)) fun _ _ x => x)) fun _ _ x => x) hR (fun i v s Q E _ q => wpAny_of_eq (hl _ _) q)

theorem set2_inner {elt i1 i2 t1 t2 : PySem.Expr} {scope : Scope} {pos : Pos} {I : Addr} {acc : Value} {n i₀ : Nat} {P : Nat → Value → Prop} {Sh : Nat → Obj → Prop} {U : Heap → Prop} {Q : Flow → Shared → Prop}
    (hh : A.handled = none) (It : Iter w A I n P Sh U) (INV : Nat → List (Option Value) → List Kp → Prop) (F : Fm w G O V L ns vs ((I, Sh i₀) :: own) s) (hi₀ : i₀ ≤ n) (h0 : INV i₀ vs own)
    (hU : ∀ i vs own s, INV i vs own → Fm w G O V L ns vs ((I, Sh i) :: own) s → U s.heap)
    (hstep : ∀ i v vs own s, i < n → P i v → INV i vs own → Fm w G O V L ns vs ((I, Sh (i + 1)) :: own) s → wpAny (model P0 w) A (assign t2 env v) (fun _ s₁ => wpAny (model P0 w) A (eval elt env) (fun x s₂ => wpAny (model P0 w) A (call (.builtin "set.add") [acc, x]) (fun _ s₃ =>
      ∃ vs' own', Fm w G O V L ns vs' ((I, Sh (i + 1)) :: own') s₃ ∧ INV (i + 1) vs' own') noE s₂) noE s₁) noE s)
    (hR : ∀ vs own s, INV n vs own → Fm w G O V L ns vs own s → Q .next s)
    (hl : ∀ it v, letOwnedTupleGo t2 it v = pure () := by intro _ _; rfl) :
    wpAny (model P0 w) A (runOwn (.compStart (.SetComp elt [⟨t1, i1, [], 0⟩, ⟨t2, i2, [], 0⟩] scope pos) 1 (.ref I) acc env) env) Q E s :=
  comp_inner set2_turn1 DenIs.set set2_start.2 hh It INV F hi₀ h0 hU (fun i v vs own s hi hP hI F => wpAny_mono (hstep i v vs own s hi hP hI F) (fun _ s₁ h₁ => wpAny_bind (wpAny_mono h₁ (fun x s₂ h₂ => wpAny_bind (wpAny_standAt (wpAny_bind (wpAny_mono h₂ (fun _ _ q => wpAny_pure q) fun _ _ x => x)))) fun _ _ x => x)) fun _ _ x => x) hR (fun i v s Q E _ q => wpAny_of_eq (hl _ _) q)
end
end Mine
end
section
open PySem PySem.W PySem.Calls PyProof.Rows
set_option maxRecDepth 100000
set_option maxHeartbeats 1000000
set_option autoImplicit false
set_option linter.unusedVariables false
set_option linter.unusedSectionVars false
namespace Mine
/-! lists of pairs -/
noncomputable def PairP (p : Int × Int) : Obj → Prop := fun o => ∃ t t', o = tupO #[.int p.1 t, .int p.2 t']
noncomputable def pairsOf (xs : List Int) : List (Int × Int) := xs.zip xs.tail
noncomputable def pp3 (a b : List (Int × Int)) : Nat → List (Int × Int)
  | 0 => []
  | 1 => a
  | _ => a ++ b
noncomputable def tups (ts : List Addr) (ps : List (Int × Int)) : List Kp := List.zipWith (fun t p => (t, PairP p)) ts ps
theorem tups_snoc {ts : List Addr} {ps : List (Int × Int)} (h : ts.length = ps.length) (t : Addr) (p : Int × Int) : tups (ts ++ [t]) (ps ++ [p]) = tups ts ps ++ [(t, PairP p)] := by
  unfold tups; rw [List.zipWith_append h]; rfl
/-- a list of pairs, in a view -/
noncomputable def VPL (V : View) (l : Addr) (ps : List (Int × Int)) : Prop := ∃ ts : List Addr, VP V (l, LP (ts.map Value.ref).toArray) ∧ ts.length = ps.length ∧ ∀ q ∈ tups ts ps, VP V q
theorem VPL.le {V W : View} {l : Addr} {ps : List (Int × Int)} (h : VPL V l ps) (k : V.le W) : VPL W l ps := by
  obtain ⟨ts, ⟨o, a, b⟩, c, d⟩ := h
  exact ⟨ts, ⟨o, k _ _ a, b⟩, c, fun q hq => let ⟨o, a, b⟩ := d q hq; ⟨o, k _ _ a, b⟩⟩
abbrev TIt (t : Addr) (i : Nat) : Obj → Prop := fun o => o.cls = .type "tuple_iterator" ∧ o.data = .fields #[.ref t, .int i 0]
theorem Iter.tuple {w : World} {A : Around} (hh : A.handled = none) (I t : Addr) (hne : t ≠ I) (items : Array Value) :
    Iter w A I items.size (fun i v => items[i]? = some v) (TIt t) (fun h => h.IsTuple t items) :=
  Iter.of (Walks.tuple hh I t hne items) (fun i h hp hu => ⟨hp, hu⟩) (fun i h st => st.1)
theorem at_ints {vs : List Value} {xs : List Int} (h : IntsAre vs xs) : ∀ (i : Nat) (x : Int), xs[i]? = some x → ∃ t, vs.toArray[i]? = some (.int x t) := by
  induction h with
  | nil => intro i x h; simp at h
  | cons n t hr ih =>
    intro i x h
    cases i with
    | zero => exact ⟨t, by simp at h; simp [h]⟩
    | succ i => simpa using ih i x (by simpa using h)
theorem pairsOf_length (xs : List Int) : (pairsOf xs).length = xs.length - 1 := by simp [pairsOf]
theorem pairsOf_at {xs : List Int} {k : Nat} {x y : Int} (h1 : xs[k]? = some x) (h2 : xs[k + 1]? = some y) : (pairsOf xs)[k]? = some (x, y) := by
  rw [pairsOf, List.getElem?_zip_eq_some]; exact ⟨h1, by rw [List.getElem?_tail]; exact h2⟩
section
variable {w : World} {A : Around} {E : Value → Shared → Prop} {s : Shared} {env : Env} {G : Array GenState} {O : OsState} {V : View} {L : Addr} {ns : List Str} {vs : List (Option Value)} {own : List Kp}
theorem i_tuple {t : Addr} {items : Array Value} {Q : Value → Shared → Prop} (F : Fm w G O V L ns vs own s) (hl : HasP s.heap (t, TP items)) (h : ∀ I s', Fm w G O V L ns vs ((I, TIt t 0) :: own) s' → t ≠ I → Q (.ref I) s') :
    wpAny (model P0 w) A (pyIter (.ref t)) Q E s := by
  obtain ⟨_, ho, rfl⟩ := hl
  exact wpAny_pyIter_tuple ⟨_, ho, rfl, 0, rfl⟩ (h _ _ (F.push _ ⟨rfl, rfl⟩) (Nat.ne_of_lt (Heap.lt_size ho)))

theorem len_spec {l : Addr} {items : Array Value} {Q : Value → Shared → Prop} (F : Fm w G O V L ns vs own s) (hl : s.heap.IsList l items) (hz : items.size ≤ 1000)
    (h : ∀ t s', Fm w G O V L ns vs own s' → Q (.int items.size t) s') : wpAny (model P0 w) A (call (.builtin "len") [.ref l]) Q E s :=
  call_len_list hl (by omega) (h _ _ (F.tok _))

theorem pairs_spec {T la lb : Addr} {xs ys : List Int} {Q : Value → Shared → Prop} (C : Cx w s.heap) (R : Rm A 10) (hT : HasP s.heap (T, TP #[.ref la, .ref lb])) (ha : HasP s.heap (la, IL xs)) (hb : HasP s.heap (lb, IL ys)) (hxl : xs.length ≤ 20) (hyl : ys.length ≤ 20)
    (h : ∀ l ts s', ts.length = (pairsOf xs ++ pairsOf ys).length → Res s s' ((l, LP (ts.map Value.ref).toArray) :: tups ts (pairsOf xs ++ pairsOf ys)) → Q (.ref l) s') :
    wpAny (model P0 w) A (call (.ref 310) [.ref T]) Q E s := by
  refine f_call (ns := ["rows"]) (by rfl) C (by decide) R.room (by kernel_rfl) (binds := [("rows", .ref T)]) (.of_eq (by rfl)) ?_
  intro env s' he en H
  have R' := R.deeper env
  generalize hAA : A.deeper env = AA at *
  have hhA : AA.handled = none := R'.hd
  clear hAA
  subst he
  replace H : Fm w s.gens s.os (hv s.heap) s.heap.objs.size ["rows"] [none] [] s' := H
  refine s_local H en rfl .head fun s1 H => ⟨H.ctx, ?_⟩
  have hvT : VP (hv s.heap) (T, TP #[.ref la, .ref lb]) := hT
  have hva : VP (hv s.heap) (la, IL xs) := ha
  have hvb : VP (hv s.heap) (lb, IL ys) := hb
  refine x_cons (x_Return (e_ListComp2 (cl := []) H
    (fun i pD ext => ∃ ts, pD = LP (ts.map Value.ref).toArray ∧ ts.length = (pp3 (pairsOf xs) (pairsOf ys) i).length ∧ ext = tups ts (pp3 (pairsOf xs) (pairsOf ys) i))
    (e_local H en rfl .head (i_tuple H (H.vp hvT) fun I s2 H hTI => ⟨I, 2, _, TIt T, _, _, [], _, rfl, Iter.tuple hhA I T hTI #[.ref la, .ref lb], H, ⟨[], rfl, rfl, rfl⟩, ?_, ?_, ?_⟩)) (by rfl)))
  · intro i pD ext' s3 _ hk
    obtain ⟨_, ho, rfl⟩ := H.vp hvT
    exact ⟨_, hk T _ (by simpa using hTI) ho, rfl, 0, rfl⟩
  · rintro C0 D i v pD ext u s3 hi hP ⟨ts, rfl, hlen, rfl⟩ hu H3
    obtain ⟨u0, u1, u2, rfl⟩ : ∃ u0 u1 u2, u = [u0, u1, u2] := by
      match u, hu with
      | [u0, u1, u2], _ => exact ⟨u0, u1, u2, rfl⟩
    have en3 := en.comp { kind := .function, names := [(".0", .local), ("row", .local), ("k", .local), ("range", .globalImplicit), ("len", .globalImplicit)], isGenerator := false, isCoroutine := false } [] C0 rfl rfl
    obtain ⟨l, zs, ps0, hvz, hzl, hv0, hp0, hpl, hnext⟩ : ∃ (l : Addr) (zs : List Int) (ps0 : List (Int × Int)), VP (hv s.heap) (l, IL zs) ∧ zs.length ≤ 20 ∧ v = .ref l ∧
        pp3 (pairsOf xs) (pairsOf ys) i = ps0 ∧ ps0.length ≤ 100 ∧
        pp3 (pairsOf xs) (pairsOf ys) (i + 1) = ps0 ++ pairsOf zs := by
      match i, hi with
      | 0, _ => exact ⟨la, xs, [], hva, hxl, by simpa using hP.symm, rfl, by simp, rfl⟩
      | 1, _ => exact ⟨lb, ys, pairsOf xs, hvb, hyl, by simpa using hP.symm, rfl, by rw [pairsOf_length]; omega, rfl⟩
    subst hv0
    rw [hp0] at hlen H3
    rw [hnext]
    have hlI : l ∉ I :: ([] : List Kp).map (·.1) := by simpa using H.vne hvz (.head _)
    have hz3 : ∀ {s' : Shared}, ((hv s2.heap).but [I]).le (hv s'.heap) → HasP s'.heap (l, IL zs) := fun k => HasP.but (H := [I]) k (H.vp hvz) hlI
    refine a_Name (s_local H3 en3 rfl (.tail .head) fun s4 H4 => ?_)
    refine e_call (e_glob H4 en3 rfl (gv_range w) (c_with keep_type (i_cons (e_bin (e_call (e_glob H4 en3 rfl (gv_len w) (c_with keep_builtin (i_cons (e_local H4 en3 rfl (.tail .head) (i_nil ⟨H4.ctx, ?_⟩))))))))))
    obtain ⟨oz, hoz, vz, ⟨nz, rfl⟩, hvz'⟩ := hz3 H4.view
    have hlz := IntsAre.length hvz'
    refine len_spec H4 (items := vz.toArray) ⟨_, hoz, rfl, nz, rfl⟩ (by simp; omega) fun t5 s5 H5 => ?_
    refine e_int H5 fun t6 s6 H6 => P.sub_int (i_nil ?_)
    replace H6 := H6.tok (s6.toks + 1)
    refine ⟨H6.ctx, i_range H6 (by simp; omega) (by simp; omega) fun J s7 H7 => ?_⟩
    have hm : ((vz.toArray.size : Int) - 1).toNat = (pairsOf zs).length := by rw [pairsOf_length]; simp; omega
    rw [hm] at H7
    refine list2_inner hhA (Iter.range hhA J (pairsOf zs).length) (fun j u own => ∃ ts u2, u = [u0, some (.ref l), u2] ∧ ts.length = (ps0 ++ (pairsOf zs).take j).length ∧
      own = (I, TIt T (i + 1)) :: (D, LP (ts.map Value.ref).toArray) :: tups ts (ps0 ++ (pairsOf zs).take j)) H7 (Nat.zero_le _) ⟨ts, u2, rfl, by simpa using hlen, by simp⟩ (fun _ _ _ _ _ _ => trivial) ?_ ?_
    · rintro j v _ _ s8 hj ⟨t8, rfl⟩ ⟨ts, u2, rfl, hlen, rfl⟩ H8
      refine a_Name (s_local H8 en3 rfl (.tail (.tail .head)) fun s9 H9 => ?_)
      obtain ⟨oz, hoz, vz, ⟨nz, rfl⟩, hvz'⟩ := hz3 H9.view
      have hlz := IntsAre.length hvz'
      rw [pairsOf_length] at hj
      have hjlt : j < zs.length := by omega
      have hjlt1 : j + 1 < zs.length := by omega
      obtain ⟨x, hx⟩ : ∃ x, zs[j]? = some x := ⟨_, List.getElem?_eq_getElem hjlt⟩
      obtain ⟨y, hy⟩ : ∃ x, zs[j + 1]? = some x := ⟨_, List.getElem?_eq_getElem hjlt1⟩
      obtain ⟨tx, hvx⟩ := at_ints hvz' j x hx
      obtain ⟨ty, hvy⟩ := at_ints hvz' (j + 1) y hy
      refine e_tuple (i_cons (e_sub (e_local H9 en3 rfl (.tail .head) (e_local H9 en3 rfl (.tail (.tail .head)) ⟨l, vz.toArray, j, t8, _, rfl, rfl, ⟨_, hoz, rfl, nz, rfl⟩, hvx, by omega, ?_⟩))))
      refine i_cons (e_sub (e_local H9 en3 rfl (.tail .head) (e_bin (e_local H9 en3 rfl (.tail (.tail .head)) (e_int H9 fun t10 s10 H10 => P.add_int ?_)))))
      replace H10 := H10.tok (s10.toks + 1)
      obtain ⟨oz, hoz, vz2, ⟨nz, rfl⟩, hvz2⟩ := hz3 H10.view
      obtain ⟨ty, hvy⟩ := at_ints hvz2 (j + 1) y hy
      refine ⟨l, vz2.toArray, j + 1, s10.toks, _, rfl, rfl, ⟨_, hoz, rfl, nz, rfl⟩, hvy, by omega, i_nil ?_⟩
      refine n_tuple H10 fun tp s11 H11 => ?_
      have hts : ts.length ≤ 120 := by
        rw [hlen, List.length_append, List.length_take, pairsOf_length]; omega
      refine k_append (items := (ts.map Value.ref).toArray) (H11.get (.tail _ (.tail _ (.tail _ (.head _))))) (by simp [sizeLine_eq]; omega) fun h' hp hsb => ?_
      have H12 := H11.change (s' := { s11 with heap := h' }) (i := 3) (p' := LP ((ts ++ [tp]).map Value.ref).toArray) rfl hsb.extBut (by obtain ⟨o, ho, n, e⟩ := hp; exact ⟨o, ho, n, by simpa using e⟩) H11.gens H11.os
      have htk : (pairsOf zs).take (j + 1) = (pairsOf zs).take j ++ [(x, y)] := by rw [List.take_add_one, pairsOf_at hx hy]; rfl
      refine ⟨_, (I, TIt T (i + 1)) :: (D, LP ((ts ++ [tp]).map Value.ref).toArray) :: (tups ts (ps0 ++ (pairsOf zs).take j) ++ [(tp, PairP (x, y))]), ?_, ts ++ [tp], some (.int (j : Int) t8), rfl, ?_, ?_⟩
      · have H13 := H12.weaken (own' := (tp, PairP (x, y)) :: (J, RIt (pairsOf zs).length (j + 1)) :: (I, TIt T (i + 1)) :: (D, LP ((ts ++ [tp]).map Value.ref).toArray) :: tups ts (ps0 ++ (pairsOf zs).take j)) rfl fun q hq => by
          rcases List.mem_cons.mp hq with rfl | hq
          · obtain ⟨o, ho, e⟩ := H12.get (.head _)
            exact ⟨o, ho, _, _, e⟩
          · exact H12.hown q (.tail _ hq)
        exact H13.perm (List.perm_append_singleton (tp, PairP (x, y)) ((J, RIt (pairsOf zs).length (j + 1)) :: (I, TIt T (i + 1)) :: (D, LP ((ts ++ [tp]).map Value.ref).toArray) :: tups ts (ps0 ++ (pairsOf zs).take j)))
      · rw [htk, ← List.append_assoc, List.length_append, List.length_append, hlen]; rfl
      · rw [htk, ← List.append_assoc, tups_snoc hlen]
    · rintro _ _ s8 ⟨ts, u2, rfl, hlen, rfl⟩ H8
      rw [List.take_length] at hlen H8
      exact ⟨_, _, _, rfl, H8, ts, rfl, hlen, rfl⟩
  · rintro D pD ext' s3 ⟨ts, rfl, hlen, rfl⟩ H3
    refine h D ts _ hlen (H3.toRes ?_)
    rw [List.append_nil]; exact .refl _
end
end Mine
end
section
open PySem PySem.W PySem.Calls PyProof.Rows
set_option maxRecDepth 100000
set_option maxHeartbeats 1000000
set_option autoImplicit false
set_option linter.unusedVariables false
set_option linter.unusedSectionVars false
namespace Mine
section
variable {w : World} {A : Around} {E : Value → Shared → Prop} {s : Shared} {env : Env} {G : Array GenState} {O : OsState} {V : View} {L : Addr} {ns : List Str} {vs : List (Option Value)} {own : List Kp}

theorem k_mul {l : Addr} {xs : List Value} {x : Int} {u : Tok} {Q : Value → Shared → Prop} (H : Fm w G O V L ns vs own s) (hl : HasP s.heap (l, LP xs.toArray)) (h0 : 0 ≤ x) (h1 : x ≤ 1000) (hsz : xs.length ≤ 1000)
    (h : ∀ D s', Fm w G O V L ns vs ((D, LP (List.replicate x.toNat xs).flatten.toArray) :: own) s' → Q (.ref D) s') : wpAny (model P0 w) A (binaryOp .Mult (.ref l) (.int x u)) Q E s := by
  obtain ⟨_, ho, k, rfl⟩ := hl
  have hsz' : xs.toArray.size * x.toNat ≤ 2 ^ 24 := by
    simp only [List.size_toArray]
    calc xs.length * x.toNat ≤ 1000 * 1000 := Nat.mul_le_mul hsz (by omega)
      _ ≤ 2 ^ 24 := by decide
  refine wpAny_binaryOp_repeat_ref (T := "list") (U := "int") (by decide) ⟨_, ho, rfl⟩ (fun s' => typeIs_int s' x u) noFill_list_mul F.fills_int_mul F.slot_int_rmul repeat_list F.slot_int_index.lookup
    (call_meets F.slot_int_rmul (typeIs_int s x u) F.entry_int_rmul (F.args_int_rmul_2 _ _) (int___rmul___int_list x u l xs.toArray k)
      ⟨ho, rfl, ⟨_, ho, rfl⟩, call_meets F.slot_list_mul ⟨_, ho, rfl⟩ F.entry_list_mul (F.args_list_mul_2 _ _)
        (AutoListH.list___mul___list_int_3 l xs.toArray k x u (by simp [Builtin.List.listFitsIndex]; omega) (by omega) (by simp [Builtin.List.listTooLong, sizeLine]; omega))
        ⟨ho, ?_⟩⟩)
  rw [listMul_foldl_if]
  exact h _ _ (H.push _ ⟨0, rfl⟩)

theorem k_setitem {l : Addr} {items : Array Value} {k : Nat} {t : Tok} {v : Value} {i : Nat} {Q : Unit → Shared → Prop} (F : Fm w G O V L ns vs own s) (hi : own[i]? = some (l, LP items)) (hk : k < items.size) (hsz : items.size ≤ 1000)
    (h : ∀ s', Fm w G O V L ns vs (own.set i (l, LP (items.setIfInBounds k v))) s' → Q () s') : wpAny (model P0 w) A (setItem (.ref l) (.int (k : Int) t) v) Q E s := by
  obtain ⟨_, ho, n, rfl⟩ := F.get (List.mem_of_getElem? hi)
  refine ki_setAt ho (by omega) (by omega) (by omega) ?_
  exact h _ (F.change (s' := { s with heap := s.heap.update l (Obj.mapSeq (·.setIfInBounds k v)) }) hi (Heap.SameBut.update ..).extBut ⟨_, IsL.update ho _, _, rfl⟩ F.gens F.os)

theorem x_AssignSub {o i : PySem.Expr} {pos' pos : Pos} {value : PySem.Expr} {Q : Flow → Shared → Prop}
    (h : wpAny (model P0 w) A (eval value env) (fun v s₁ => wpAny (model P0 w) A (eval o env) (fun ov s₂ => wpAny (model P0 w) A (eval i env) (fun iv s₃ => wpAny (model P0 w) A (setItem ov iv v) (fun _ => Q .next) E s₃) E s₂) E s₁) E s)
    (hs : swapsWith value (some (.Subscript o i pos')) pos.line env = pure false := by rfl) :
    wpAny (model P0 w) A (exec (.Assign [.Subscript o i pos'] value pos) env) Q E s := wpAny_Assign_Subscript h hs
end

/-! the matrix -/
noncomputable def BP (f : Int → Bool) : Obj → Prop := LP ((List.range 10).map fun (c : Nat) => Value.bool (f c)).toArray
noncomputable def mrows (rs : List Addr) (M : Int → Int → Bool) : List Kp := rs.mapIdx fun (k : Nat) r => (r, BP (M k))
noncomputable def setM (M : Int → Int → Bool) (p c : Int) : Int → Int → Bool := fun x y => if x = p ∧ y = c then true else M x y
theorem mrows_at {rs : List Addr} {M : Int → Int → Bool} {k : Nat} {r : Addr} (h : rs[k]? = some r) : (mrows rs M)[k]? = some (r, BP (M k)) := by
  rw [mrows, List.getElem?_mapIdx, h]; rfl
theorem mrows_set {rs : List Addr} {M : Int → Int → Bool} {k : Nat} {r : Addr} {c : Int} (h : rs[k]? = some r) : (mrows rs M).set k (r, BP (setM M k c k)) = mrows rs (setM M k c) := by
  apply List.ext_getElem?
  intro j
  have hlt : k < rs.length := (List.getElem?_eq_some_iff.mp h).1
  rw [List.getElem?_set, mrows, mrows, List.getElem?_mapIdx, List.getElem?_mapIdx, List.length_mapIdx]
  by_cases hj : k = j
  · subst hj
    rw [if_pos rfl, if_pos hlt, h]; rfl
  · rw [if_neg hj]
    cases rs[j]? with
    | none => rfl
    | some r' =>
      have : setM M k c (j : Int) = M j := by
        funext y; unfold setM; rw [if_neg]; intro e; omega
      simp [this]
theorem bp_set {M : Int → Int → Bool} {p c : Nat} (hc : c < 10) : ((List.range 10).map fun (c : Nat) => Value.bool (M p c)).toArray.setIfInBounds c (.bool true) = ((List.range 10).map fun (y : Nat) => Value.bool (setM M p c p y)).toArray := by
  apply Array.toList_inj.mp
  rw [Array.toList_setIfInBounds]
  apply List.ext_getElem?
  intro j
  rw [List.getElem?_set]
  simp only [List.getElem?_map, List.length_map, List.length_range]
  by_cases hj : c = j
  · subst hj
    rw [if_pos rfl, if_pos hc, List.getElem?_range hc]
    simp [setM]
  · rw [if_neg hj]
    by_cases hjl : j < 10
    · rw [List.getElem?_range hjl]
      have : setM M p c (p : Int) (j : Int) = M p j := by unfold setM; rw [if_neg]; intro e; omega
      simp [this]
    · rw [List.getElem?_eq_none (by simp; omega)]; rfl
noncomputable def behind1 (items : List Int) (via p : Int) (M : Int → Int → Bool) : Int → Int → Bool := items.foldl (fun M c => if M via c then setM M p c else M) M
noncomputable def behind2 (items : List Int) (via : Int) (M : Int → Int → Bool) (L : List Int) : Int → Int → Bool := L.foldl (fun M p => if M p via then behind1 items via p M else M) M
noncomputable def behind3 (items : List Int) (M : Int → Int → Bool) (L : List Int) : Int → Int → Bool := L.foldl (fun M via => behind2 items via M items) M
noncomputable def behind0 (ps : List (Int × Int)) : Int → Int → Bool := ps.foldl (fun M p => setM M p.1 p.2) fun _ _ => false
noncomputable def behindF (ps : List (Int × Int)) (items : List Int) : Int → Int → Bool := behind3 items (behind0 ps) items
end Mine
end
section
open PySem PySem.W PySem.Calls PyProof.Rows
set_option maxRecDepth 100000
set_option maxHeartbeats 1000000
set_option autoImplicit false
set_option linter.unusedVariables false
set_option linter.unusedSectionVars false
namespace Mine
theorem mrows_snoc {rs : List Addr} {M : Int → Int → Bool} {r : Addr} : mrows (rs ++ [r]) M = mrows rs M ++ [(r, BP (M rs.length))] := by
  unfold mrows; rw [List.mapIdx_append]; simp
theorem mrows_mem {rs : List Addr} {M : Int → Int → Bool} {k : Nat} {r : Addr} (h : rs[k]? = some r) : (r, BP (M k)) ∈ mrows rs M := List.mem_of_getElem? (mrows_at h)
theorem tups_mem {ts : List Addr} {ps : List (Int × Int)} {i : Nat} {t : Addr} {q : Int × Int} (h1 : ts[i]? = some t) (h2 : ps[i]? = some q) : (t, PairP q) ∈ tups ts ps :=
  List.mem_of_getElem? (i := i) (by rw [tups, List.getElem?_zipWith, h1, h2])
theorem digit {x : Int} (h0 : 0 ≤ x) (h1 : x < 10) : ∃ n : Nat, x = n ∧ n < 10 := ⟨x.toNat, by omega, by omega⟩
theorem bp_at {f : Int → Bool} {c : Nat} (hc : c < 10) : (((List.range 10).map fun (c : Nat) => Value.bool (f c)).toArray)[c]? = some (.bool (f c)) := by
  simp [List.getElem?_range hc]
section
variable {w : World} {A : Around} {E : Value → Shared → Prop} {s : Shared} {env : Env} {G : Array GenState} {O : OsState} {V : View} {L : Addr} {ns : List Str} {vs : List (Option Value)} {own : List Kp}
theorem k_mset {rs : List Addr} {M : Int → Int → Bool} {pre : List Kp} {p c : Nat} {r : Addr} {t : Tok} {Q : Unit → Shared → Prop} (F : Fm w G O V L ns vs (pre ++ mrows rs M) s) (hr : rs[p]? = some r) (hc : c < 10)
    (h : ∀ s', Fm w G O V L ns vs (pre ++ mrows rs (setM M p c)) s' → Q () s') : wpAny (model P0 w) A (setItem (.ref r) (.int (c : Int) t) (.bool true)) Q E s := by
  refine k_setitem (items := ((List.range 10).map fun (c : Nat) => Value.bool (M p c)).toArray) (i := pre.length + p) F ?_ (by simpa using hc) (by simp) fun s' F' => h s' ?_
  · rw [List.getElem?_append_right (by omega), Nat.add_sub_cancel_left]; exact mrows_at hr
  · rw [List.set_append_right _ _ (by omega), Nat.add_sub_cancel_left, bp_set hc] at F'
    have e := mrows_set (M := M) (c := (c : Int)) hr
    rw [← e]; exact F'

theorem behind_spec {lp li : Addr} {ps : List (Int × Int)} {xs : List Int} {Q : Value → Shared → Prop} (C : Cx w s.heap) (R : Rm A 10) (hp : VPL (hv s.heap) lp ps) (hi : HasP s.heap (li, IL xs))
    (hpr : ∀ q ∈ ps, (0 ≤ q.1 ∧ q.1 < 10) ∧ (0 ≤ q.2 ∧ q.2 < 10)) (hx : R10 xs) (hpl : ps.length ≤ 100) (hxl : xs.length ≤ 100)
    (h : ∀ B rs s', rs.length = 10 → Res s s' ((B, LP (rs.map Value.ref).toArray) :: mrows rs (behindF ps xs)) → Q (.ref B) s') :
    wpAny (model P0 w) A (call (.ref 315) [.ref lp, .ref li]) Q E s := by
  refine f_call (ns := ["pairs", "items", "behind", "p", "c", "via"]) (by rfl) C (by decide) R.room (by kernel_rfl) (binds := [("pairs", .ref lp), ("items", .ref li)]) (.of_eq (by rfl)) ?_
  intro env s' he en H
  have R' := R.deeper env
  generalize hAA : A.deeper env = AA at *
  have hhA : AA.handled = none := R'.hd
  clear hAA
  subst he
  replace H : Fm w s.gens s.os (hv s.heap) s.heap.objs.size ["pairs", "items", "behind", "p", "c", "via"] [none, none, none, none, none, none] [] s' := H
  refine s_local H en rfl .head fun s1 H => s_local H en rfl (.tail .head) fun s2 H => ⟨H.ctx, ?_⟩
  have hvi : VP (hv s.heap) (li, IL xs) := hi
  refine x_cons (x_AssignComp (cl := []) H (fun i acc ext => ∃ rs : List Addr, acc = rs.map Value.ref ∧ rs.length = i ∧ ext = mrows rs fun _ _ => false) en
    (e_call (e_glob H en rfl (gv_range w) (c_with keep_type (i_cons (e_int H fun t3 s3 H => i_nil ⟨H.ctx, i_range H (by decide) (by decide) fun I s4 H => ?_⟩))))) rfl (by rfl) (by rfl))
  refine ⟨I, 10, _, RIt 10, _, _, [], _, rfl, Iter.range hhA I 10, by decide, H, ⟨[], rfl, rfl, rfl⟩, fun _ _ _ _ _ _ => trivial, ?_, ?_⟩
  · rintro C0 D i v acc ext u s5 hi10 hP ⟨rs, rfl, hrs, rfl⟩ hu H5
    obtain ⟨u0, u1, rfl⟩ : ∃ u0 u1, u = [u0, u1] := by
      match u, hu with
      | [u0, u1], _ => exact ⟨u0, u1, rfl⟩
    have en5 := en.comp { kind := .function, names := [(".0", .local), ("_", .local)], isGenerator := false, isCoroutine := false } [] C0 rfl rfl
    refine a_Name (s_local H5 en5 rfl (.tail .head) fun s6 H6 => ?_)
    refine wpAny_tests_nil ?_
    rw [if_pos rfl]
    refine e_bin (e_list (i_cons (e_bool (i_nil (n_list H6 fun a0 s7 H7 => e_int H7 fun t8 s8 H8 => k_mul H8 (H8.get (.head _)) (by decide) (by decide) (by decide) fun r s9 H9 => ?_)))))
    have H10 : Fm w s.gens s.os _ C0 _ _ ((r, BP fun _ => false) :: (I, RIt 10 (i + 1)) :: (D, LP (rs.map Value.ref).toArray) :: mrows rs fun _ _ => false) s9 := H9.sub (.cons_cons _ (.cons _ (.refl _)))
    refine ⟨[u0, some v], mrows (rs ++ [r]) fun _ _ => false, rfl, ?_, rs ++ [r], by simp, by simp [hrs], rfl⟩
    rw [mrows_snoc]
    exact H10.perm (List.perm_append_singleton (r, BP fun _ => false) ((I, RIt 10 (i + 1)) :: (D, LP (rs.map Value.ref).toArray) :: mrows rs fun _ _ => false))
  refine ⟨_, fun v => .tail (.tail .head), ?_⟩
  rintro B acc ext' s5 ⟨rs, rfl, hrs, rfl⟩ H
  rw [List.append_nil] at H
  -- the pairs
  obtain ⟨ts, hvp, hlen, htup⟩ := hp
  obtain ⟨op, hop, npp, rfl⟩ := id hvp
  refine x_cons (x_ForP H (fun i vs own => ∃ u3 u4, vs = [some (.ref lp), some (.ref li), some (.ref B), u3, u4, none] ∧ own = (B, LP (rs.map Value.ref).toArray) :: mrows rs (behind0 (ps.take i))) (e_local H en rfl .head (i_list H ⟨_, H.look hop, rfl, npp, rfl⟩ fun I s6 H hlI => ?_)))
  refine ⟨I, lp, (ts.map Value.ref).toArray, _, _, rfl, hhA, hlI, H, ⟨none, none, rfl, rfl⟩, fun i vs own s _ F => ⟨_, F.look hop, rfl, npp, rfl⟩, ?_, ?_⟩
  · rintro i v _ _ s7 hi7 hP ⟨u3, u4, rfl, rfl⟩ H
    have hi7' : i < ps.length := by simpa [hlen] using hi7
    obtain ⟨q, hq⟩ : ∃ q, ps[i]? = some q := ⟨_, List.getElem?_eq_getElem hi7'⟩
    obtain ⟨t, ht, rfl⟩ : ∃ t, ts[i]? = some t ∧ v = .ref t := by
      have hP' : (ts.map Value.ref)[i]? = some v := by simpa using hP
      rw [List.getElem?_map] at hP'
      cases e : ts[i]? with
      | none => rw [e] at hP'; cases hP'
      | some t => rw [e] at hP'; exact ⟨t, rfl, (Option.some.inj hP').symm⟩
    obtain ⟨ot, hot, t1, t2, rfl⟩ := H.vp (htup _ (tups_mem ht hq))
    obtain ⟨⟨a1, a2⟩, a3, a4⟩ := hpr q (List.mem_of_getElem? hq)
    obtain ⟨x, y⟩ := q
    obtain ⟨x, rfl, hx10⟩ := digit a1 a2
    obtain ⟨y, rfl, hy10⟩ := digit a3 a4
    refine a_pair hhA H ⟨_, hot, rfl⟩ fun s8 H => a_Name (s_local H en rfl (.tail (.tail (.tail .head))) fun s9 H => a_Name (s_local H en rfl (.tail (.tail (.tail (.tail .head)))) fun s10 H => ?_))
    obtain ⟨oB, hoB, nB, rfl⟩ := H.get (.tail _ (.head _))
    obtain ⟨r, hr⟩ : ∃ r, rs[x]? = some r := ⟨_, List.getElem?_eq_getElem (by omega)⟩
    refine x_cons (x_AssignSub (e_bool (e_sub (e_local H en rfl (.tail (.tail .head)) (e_local H en rfl (.tail (.tail (.tail .head))) ⟨B, _, x, t1, .ref r, rfl, rfl, ⟨_, hoB, rfl, nB, rfl⟩, by simp [hr], by omega, e_local H en rfl (.tail (.tail (.tail (.tail .head)))) ?_⟩)))))
    refine k_mset (pre := [(I, LIt lp (i + 1)), (B, LP (rs.map Value.ref).toArray)]) H hr hy10 fun s11 H => x_nil ⟨_, _, H, _, _, rfl, ?_⟩
    rw [List.take_add_one, hq, behind0, behind0]
    show _ = _ :: mrows rs (List.foldl _ _ (_ ++ [_]))
    rw [List.foldl_append]; rfl
  · rintro _ _ s7 ⟨u3, u4, rfl, rfl⟩ H
    refine x_nil ?_
    rw [List.take_of_length_le (by simp [hlen])] at H
    obtain ⟨oi, hoi, vi, ⟨ni, rfl⟩, hvi'⟩ := id hvi
    have hli := IntsAre.length hvi'
    have hvis : vi.toArray.size = xs.length := by simp [hli]
    refine x_cons (x_For H (fun i vs own => ∃ u3 u4 u5, vs = [some (.ref lp), some (.ref li), some (.ref B), u3, u4, u5] ∧ own = (B, LP (rs.map Value.ref).toArray) :: mrows rs (behind3 xs (behind0 ps) (xs.take i))) (e_local H en rfl (.tail .head) (i_list H ⟨_, H.look hoi, rfl, ni, rfl⟩ fun I1 s8 H hlI => ?_)))
    refine ⟨I1, _, 0, _, LIt li, fun h => h.IsList li vi.toArray, _, _, rfl, Iter.list hhA I1 li hlI vi.toArray, Nat.zero_le _, H, ⟨u3, u4, none, rfl, rfl⟩, fun i vs own s _ F => ⟨_, F.look hoi, rfl, ni, rfl⟩, ?_, ?_⟩
    · rintro i v _ _ s9 hi9 hP ⟨u3, u4, u5, rfl, rfl⟩ H
      obtain ⟨t1, via, hvia, rfl⟩ := intsAt hvi' i v hP
      obtain ⟨v1, rfl, hv10⟩ := digit (hx via (List.mem_of_getElem? hvia)).1 (hx via (List.mem_of_getElem? hvia)).2
      have htk : behind3 xs (behind0 ps) (xs.take (i + 1)) = behind2 xs v1 (behind3 xs (behind0 ps) (xs.take i)) xs := by
        rw [List.take_add_one, hvia, behind3, behind3]
        show List.foldl _ _ (_ ++ [_]) = _
        rw [List.foldl_append]; rfl
      generalize behind3 xs (behind0 ps) (xs.take i) = M0 at H htk
      refine a_Name (s_local H en rfl (.tail (.tail (.tail (.tail (.tail .head))))) fun s10 H => ?_)
      refine x_cons (x_For H (fun j vs own => ∃ u3 u4, vs = [some (.ref lp), some (.ref li), some (.ref B), u3, u4, some (.int v1 t1)] ∧ own = (I1, LIt li (i + 1)) :: (B, LP (rs.map Value.ref).toArray) :: mrows rs (behind2 xs v1 M0 (xs.take j))) (e_local H en rfl (.tail .head) (i_list H ⟨_, H.look hoi, rfl, ni, rfl⟩ fun I2 s11 H hlI2 => ?_)))
      refine ⟨I2, _, 0, _, LIt li, fun h => h.IsList li vi.toArray, _, _, rfl, Iter.list hhA I2 li hlI2 vi.toArray, Nat.zero_le _, H, ⟨u3, u4, rfl, rfl⟩, fun i vs own s _ F => ⟨_, F.look hoi, rfl, ni, rfl⟩, ?_, ?_⟩
      · rintro j v _ _ s12 hj hP ⟨u3, u4, rfl, rfl⟩ H
        obtain ⟨t2, p2, hp2, rfl⟩ := intsAt hvi' j v hP
        obtain ⟨v2, rfl, hv20⟩ := digit (hx p2 (List.mem_of_getElem? hp2)).1 (hx p2 (List.mem_of_getElem? hp2)).2
        have htk : behind2 xs v1 M0 (xs.take (j + 1)) = if behind2 xs v1 M0 (xs.take j) v2 v1 then behind1 xs v1 v2 (behind2 xs v1 M0 (xs.take j)) else behind2 xs v1 M0 (xs.take j) := by
          rw [List.take_add_one, hp2, behind2, behind2]
          show List.foldl _ _ (_ ++ [_]) = _
          rw [List.foldl_append]; rfl
        generalize behind2 xs v1 M0 (xs.take j) = M1 at H htk
        refine a_Name (s_local H en rfl (.tail (.tail (.tail .head))) fun s13 H => ?_)
        obtain ⟨oB, hoB, nB, rfl⟩ := H.get (.tail _ (.tail _ (.head _)))
        obtain ⟨r2, hr2⟩ : ∃ r, rs[v2]? = some r := ⟨_, List.getElem?_eq_getElem (by omega)⟩
        obtain ⟨or2, hor2, nr2, rfl⟩ := H.get (.tail _ (.tail _ (.tail _ (mrows_mem hr2))))
        refine x_cons (x_If (t_value (e_sub (e_sub (e_local H en rfl (.tail (.tail .head)) (e_local H en rfl (.tail (.tail (.tail .head))) ⟨B, _, v2, t2, .ref r2, rfl, rfl, ⟨_, hoB, rfl, nB, rfl⟩, by simp [hr2], by omega,
          e_local H en rfl (.tail (.tail (.tail (.tail (.tail .head))))) ⟨r2, _, v1, t1, _, rfl, rfl, ⟨_, hor2, rfl, nr2, rfl⟩, bp_at hv10, by omega, tr_bool ⟨fun hb => ?_, fun hb => ?_⟩⟩⟩))))))
        · rw [hb, if_pos rfl] at htk
          refine x_cons (x_For H (fun k vs own => ∃ u4, vs = [some (.ref lp), some (.ref li), some (.ref B), some (.int v2 t2), u4, some (.int v1 t1)] ∧ own = (I2, LIt li (j + 1)) :: (I1, LIt li (i + 1)) :: (B, LP (rs.map Value.ref).toArray) :: mrows rs (behind1 (xs.take k) v1 v2 M1)) (e_local H en rfl (.tail .head) (i_list H ⟨_, H.look hoi, rfl, ni, rfl⟩ fun I3 s14 H hlI3 => ?_)))
          refine ⟨I3, _, 0, _, LIt li, fun h => h.IsList li vi.toArray, _, _, rfl, Iter.list hhA I3 li hlI3 vi.toArray, Nat.zero_le _, H, ⟨u4, rfl, rfl⟩, fun i vs own s _ F => ⟨_, F.look hoi, rfl, ni, rfl⟩, ?_, ?_⟩
          · rintro k v _ _ s15 hk hP ⟨u4, rfl, rfl⟩ H
            obtain ⟨t3, p3, hp3, rfl⟩ := intsAt hvi' k v hP
            obtain ⟨v3, rfl, hv30⟩ := digit (hx p3 (List.mem_of_getElem? hp3)).1 (hx p3 (List.mem_of_getElem? hp3)).2
            have htk : behind1 (xs.take (k + 1)) v1 v2 M1 = if behind1 (xs.take k) v1 v2 M1 v1 v3 then setM (behind1 (xs.take k) v1 v2 M1) v2 v3 else behind1 (xs.take k) v1 v2 M1 := by
              rw [List.take_add_one, hp3, behind1, behind1]
              show List.foldl _ _ (_ ++ [_]) = _
              rw [List.foldl_append]; rfl
            generalize behind1 (xs.take k) v1 v2 M1 = M2 at H htk
            refine a_Name (s_local H en rfl (.tail (.tail (.tail (.tail .head)))) fun s16 H => ?_)
            obtain ⟨oB, hoB, nB, rfl⟩ := H.get (.tail _ (.tail _ (.tail _ (.head _))))
            obtain ⟨r1, hr1⟩ : ∃ r, rs[v1]? = some r := ⟨_, List.getElem?_eq_getElem (by omega)⟩
            obtain ⟨or1, hor1, nr1, rfl⟩ := H.get (.tail _ (.tail _ (.tail _ (.tail _ (mrows_mem hr1)))))
            refine x_cons (x_If (t_value (e_sub (e_sub (e_local H en rfl (.tail (.tail .head)) (e_local H en rfl (.tail (.tail (.tail (.tail (.tail .head))))) ⟨B, _, v1, t1, .ref r1, rfl, rfl, ⟨_, hoB, rfl, nB, rfl⟩, by simp [hr1], by omega,
              e_local H en rfl (.tail (.tail (.tail (.tail .head)))) ⟨r1, _, v3, t3, _, rfl, rfl, ⟨_, hor1, rfl, nr1, rfl⟩, bp_at hv30, by omega, tr_bool ⟨fun hb => ?_, fun hb => ?_⟩⟩⟩))))))
            · rw [hb, if_pos rfl] at htk
              refine x_cons (x_AssignSub (e_bool (e_sub (e_local H en rfl (.tail (.tail .head)) (e_local H en rfl (.tail (.tail (.tail .head))) ⟨B, _, v2, t2, .ref r2, rfl, rfl, ⟨_, hoB, rfl, nB, rfl⟩, by simp [hr2], by omega, e_local H en rfl (.tail (.tail (.tail (.tail .head)))) ?_⟩)))))
              refine k_mset (pre := [(I3, LIt li (k + 1)), (I2, LIt li (j + 1)), (I1, LIt li (i + 1)), (B, LP (rs.map Value.ref).toArray)]) H hr2 hv30 fun s17 H => x_nil (x_nil ⟨_, _, H, _, rfl, by rw [htk]; rfl⟩)
            · rw [hb, if_neg Bool.false_ne_true] at htk
              exact x_nil (x_nil ⟨_, _, H, _, rfl, by rw [htk]⟩)
          · rintro _ _ s15 ⟨u4, rfl, rfl⟩ H
            rw [hvis, List.take_length] at H
            exact x_nil (x_nil (x_nil ⟨_, _, H, _, _, rfl, by rw [htk]⟩))
        · rw [hb, if_neg Bool.false_ne_true] at htk
          exact x_nil (x_nil ⟨_, _, H, _, _, rfl, by rw [htk]⟩)
      · rintro _ _ s12 ⟨u3, u4, rfl, rfl⟩ H
        rw [hvis, List.take_length] at H
        exact x_nil (x_nil ⟨_, _, H, _, _, _, rfl, by rw [htk]⟩)
    · rintro _ _ s9 ⟨u3, u4, u5, rfl, rfl⟩ H
      rw [hvis, List.take_length] at H
      exact x_nil (x_cons (x_Return (e_local H en rfl (.tail (.tail .head)) (h B rs _ hrs (H.toRes (.refl _))))))
end
end Mine
end
section
open PySem PySem.W PySem.Calls PyProof.Rows
set_option maxRecDepth 100000
set_option maxHeartbeats 1000000
set_option autoImplicit false
set_option linter.unusedVariables false
set_option linter.unusedSectionVars false
namespace Mine
noncomputable def placeN (out : List Int) : Nat → Int → Int
  | 0 => fun _ => -1
  | k + 1 => fun y => if out[k]? = some y then (k : Int) else placeN out k y
noncomputable def placeF (out : List Int) : Int → Int := placeN out out.length
noncomputable def keepsF (out : List Int) (ps : List (Int × Int)) : Bool := ((ps.filter fun q => decide (placeF out q.2 ≥ 0)).map fun q => decide (placeF out q.1 < placeF out q.2)).all id
theorem IntsAre.setN {vs : List Value} {xs : List Int} (h : IntsAre vs xs) (x : Int) (t : Tok) : ∀ k, IntsAre (vs.set k (.int x t)) (xs.set k x) := by
  induction h with
  | nil => intro k; exact .nil
  | cons n t' hr ih =>
    intro k
    cases k with
    | zero => exact .cons _ _ hr
    | succ k => exact .cons _ _ (ih k)
theorem IntsAre.rep (x : Int) (t : Tok) : ∀ k, IntsAre (List.replicate k [Value.int x t]).flatten (List.replicate k x)
  | 0 => .nil
  | k + 1 => .cons _ _ (IntsAre.rep x t k)
section
variable {w : World} {A : Around} {E : Value → Shared → Prop} {s : Shared} {env : Env} {G : Array GenState} {O : OsState} {V : View} {L : Addr} {ns : List Str} {vs : List (Option Value)} {own : List Kp}
theorem kept_it {h : Heap} {h' : Heap} {o : Obj} (hk : ∀ b x, b ∉ [h.objs.size] → (h.push o).get? b = some x → h'.get? b = some x) : Keeps h h' :=
  fun b x e => hk b x (fun hm => by rw [List.mem_singleton.mp hm] at e; exact Nat.lt_irrefl _ (Heap.lt_size e)) (Heap.get?_push_of_some _ e)
theorem k_all {l : Addr} {bs : List Bool} {Q : Value → Shared → Prop} (F : Fm w G O V L ns vs own s) (hh : A.handled = none) (hl : HasP s.heap (l, LP (bs.map Value.bool).toArray))
    (h : ∀ s', Fm w G O V L ns vs own s' → Q (.bool (bs.all id)) s') : wpAny (model P0 w) A (call (.builtin "all") [.ref l]) Q E s := by
  have hl' := LP.isList hl
  refine call_all_walk (wpAny_pyIter_list hl' ?_)
  refine ⟨s.heap.objs.size, [s.heap.objs.size, l], [s.heap.objs.size], (bs.map Value.bool).toArray.size, _, _, fun i => (bs[i]?).getD true, rfl, Walks.list (A := A.in1) hh _ l (Nat.ne_of_lt hl.lt) (bs.map Value.bool).toArray,
    ⟨⟨_, Heap.get?_push_size _ rfl, rfl, rfl⟩, hl'.push _⟩, fun i v s' Q' E' hP hQ => ?_, fun h' tk hk => ?_⟩
  · have hP' : (bs.map Value.bool)[i]? = some v := by simpa using hP
    rw [List.getElem?_map] at hP'
    cases e : bs[i]? with
    | none => rw [e] at hP'; cases hP'
    | some b =>
      rw [e] at hP'; cases hP'
      simp only [e, Option.getD_some] at hQ
      exact wpAny_truthy_bool hQ
  · have e : ((List.range (bs.map Value.bool).toArray.size).all fun i => (bs[i]?).getD true) = bs.all id := by
      simp only [List.size_toArray, List.length_map]; exact LSm.range_all bs
    rw [e]
    exact h _ (F.keeps (s' := { s with heap := h', toks := tk }) (kept_it hk) F.gens F.os)
theorem k_any {l : Addr} {bs : List Bool} {Q : Value → Shared → Prop} (F : Fm w G O V L ns vs own s) (hh : A.handled = none) (hl : HasP s.heap (l, LP (bs.map Value.bool).toArray))
    (h : ∀ s', Fm w G O V L ns vs own s' → Q (.bool (bs.any id)) s') : wpAny (model P0 w) A (call (.builtin "any") [.ref l]) Q E s := by
  have hl' := LP.isList hl
  refine call_any_walk (wpAny_pyIter_list hl' ?_)
  refine ⟨s.heap.objs.size, [s.heap.objs.size, l], [s.heap.objs.size], (bs.map Value.bool).toArray.size, _, _, fun i => (bs[i]?).getD false, rfl, Walks.list (A := A.in1) hh _ l (Nat.ne_of_lt hl.lt) (bs.map Value.bool).toArray,
    ⟨⟨_, Heap.get?_push_size _ rfl, rfl, rfl⟩, hl'.push _⟩, fun i v s' Q' E' hP hQ => ?_, fun h' tk hk => ?_⟩
  · have hP' : (bs.map Value.bool)[i]? = some v := by simpa using hP
    rw [List.getElem?_map] at hP'
    cases e : bs[i]? with
    | none => rw [e] at hP'; cases hP'
    | some b =>
      rw [e] at hP'; cases hP'
      simp only [e, Option.getD_some] at hQ
      exact wpAny_truthy_bool hQ
  · have e : ((List.range (bs.map Value.bool).toArray.size).any fun i => (bs[i]?).getD false) = bs.any id := by
      simp only [List.size_toArray, List.length_map]; exact LSm.range_any bs
    rw [e]
    exact h _ (F.keeps (s' := { s with heap := h', toks := tk }) (kept_it hk) F.gens F.os)

noncomputable def placeL (out : List Int) (k : Nat) : List Int := (List.range 10).map fun (y : Nat) => placeN out k y
theorem placeL_at {out : List Int} {k y : Nat} (h : y < 10) : (placeL out k)[y]? = some (placeN out k y) := by simp [placeL, List.getElem?_range h]
theorem placeL_set {out : List Int} {k x : Nat} (hx : out[k]? = some (x : Int)) : (placeL out k).set x (k : Int) = placeL out (k + 1) := by
  apply List.ext_getElem?
  intro j
  rw [List.getElem?_set]
  by_cases hj : j < 10
  · rw [placeL_at hj, placeL_at hj]
    by_cases e : x = j
    · subst e; rw [if_pos rfl, if_pos (by simp [placeL]; exact hj)]; simp [placeN, hx]
    · rw [if_neg e]
      have : ¬ out[k]? = some (j : Int) := by rw [hx]; intro q; exact e (by have := Option.some.inj q; omega)
      simp [placeN, this]
  · have h1 : (placeL out k)[j]? = none := List.getElem?_eq_none (by simp [placeL]; omega)
    have h2 : (placeL out (k + 1))[j]? = none := List.getElem?_eq_none (by simp [placeL]; omega)
    rw [h1, h2]
    split
    · rw [if_neg (by simp [placeL]; omega)]
    · rfl

theorem keeps_spec {lo' lp : Addr} {out : List Int} {ps : List (Int × Int)} {Q : Value → Shared → Prop} (C : Cx w s.heap) (R : Rm A 10) (ho : HasP s.heap (lo', IL out)) (hp : VPL (hv s.heap) lp ps)
    (hpr : ∀ q ∈ ps, (0 ≤ q.1 ∧ q.1 < 10) ∧ (0 ≤ q.2 ∧ q.2 < 10)) (hx : R10 out) (hpl : ps.length ≤ 100) (hxl : out.length ≤ 100)
    (h : ∀ s', Res s s' [] → Q (.bool (keepsF out ps)) s') :
    wpAny (model P0 w) A (call (.ref 320) [.ref lo', .ref lp]) Q E s := by
  refine f_call (ns := ["out", "pairs", "k"]) (by rfl) C (by decide) R.room (by kernel_rfl) (binds := [("out", .ref lo'), ("pairs", .ref lp)]) (.of_eq (by rfl)) ?_
  intro env s' he en H
  have R' := R.deeper env
  generalize hAA : A.deeper env = AA at *
  have hhA : AA.handled = none := R'.hd
  clear hAA
  subst he
  obtain ⟨c, hc⟩ : ∃ c, c = s.heap.objs.size + 1 := ⟨_, rfl⟩
  replace H : Fm w s.gens s.os (hv s.heap) s.heap.objs.size ["out", "pairs", "k"] [none, none, none] [(c, CellP none)] s' := by rw [hc]; exact H
  refine s_local H en rfl .head fun s1 H => s_local H en rfl (.tail .head) fun s2 H => ⟨H.ctx, ?_⟩
  have hvo : VP (hv s.heap) (lo', IL out) := ho
  obtain ⟨oo, hoo, vo, ⟨no, rfl⟩, hvo'⟩ := id hvo
  have hlo := IntsAre.length hvo'
  refine x_cons (x_Assign (e_bin (e_list (i_cons (e_unary (e_int H fun t3 s3 H => P.neg_int (i_nil ?_)))))))
  replace H := H.tok (s3.toks + 1)
  refine n_list H fun a4 s4 H => e_int H fun t5 s5 H => k_mul H (H.get (.head _)) (by decide) (by decide) (by simp) fun Pl s6 H => a_Name (s_cell (i := 2) H en rfl (by rw [hc]; rfl) rfl fun s7 H => ?_)
  replace H := (H.sub (own' := [(Pl, LP (List.replicate (10 : Int).toNat [Value.int (-1) s3.toks]).flatten.toArray), (c, CellP (some (.ref Pl)))]) (.cons_cons _ (.cons _ (.refl _)))).weaken (own' := [(Pl, IL (placeL out 0)), (c, CellP (some (.ref Pl)))]) rfl fun q hq => by
    rcases List.mem_cons.mp hq with rfl | hq
    · obtain ⟨o, ho, e⟩ := H.get (.head _)
      exact ⟨o, ho, _, e, IntsAre.rep (-1) s3.toks 10⟩
    · exact H.hown q (.tail _ (.tail _ hq))
  refine x_cons (x_For H (fun i vs own => ∃ u, vs = [some (.ref lo'), some (.ref lp), u] ∧ own = [(Pl, IL (placeL out i)), (c, CellP (some (.ref Pl)))])
    (e_call (e_glob H en rfl (gv_range w) (c_with keep_type (i_cons (e_call (e_glob H en rfl (gv_len w) (c_with keep_builtin (i_cons (e_local H en rfl .head (i_nil ⟨H.ctx, len_spec H (items := vo.toArray) ⟨_, H.look hoo, rfl, no, rfl⟩ (by simp; omega) fun t8 s8 H => i_nil ⟨H.ctx, i_range H (by omega) (by simp; omega) fun I s9 H => ?_⟩⟩)))))))))))
  have hsz : ((vo.toArray.size : Nat) : Int).toNat = out.length := by simp [hlo]
  rw [hsz] at H
  refine ⟨I, out.length, 0, _, RIt out.length, _, _, _, rfl, Iter.range hhA I _, Nat.zero_le _, H, ⟨none, rfl, rfl⟩, fun _ _ _ _ _ _ => trivial, ?_, ?_⟩
  · rintro i v _ _ s10 hi ⟨t10, rfl⟩ ⟨u, rfl, rfl⟩ H
    refine a_Name (s_local H en rfl (.tail (.tail .head)) fun s11 H => ?_)
    obtain ⟨x, hxi⟩ : ∃ x, out[i]? = some x := ⟨_, List.getElem?_eq_getElem hi⟩
    obtain ⟨x, rfl, hx10⟩ := digit (hx x (List.mem_of_getElem? hxi)).1 (hx x (List.mem_of_getElem? hxi)).2
    obtain ⟨tx, hvx⟩ := at_ints hvo' i x hxi
    refine x_cons (x_AssignSub (e_local H en rfl (.tail (.tail .head)) (e_cell H en rfl (by rw [hc]; rfl) (.tail _ (.tail _ (.head _)))
      (e_sub (e_local H en rfl .head (e_local H en rfl (.tail (.tail .head)) ⟨lo', _, i, t10, _, rfl, rfl, ⟨_, H.look hoo, rfl, no, rfl⟩, hvx, by omega, ?_⟩))))))
    obtain ⟨oP, hoP, vP, ⟨nP, rfl⟩, hvP⟩ := H.get (.tail _ (.head _))
    have hlP := IntsAre.length hvP
    have H2 := H.weaken (own' := [(I, RIt out.length (i + 1)), (Pl, LP vP.toArray), (c, CellP (some (.ref Pl)))]) rfl fun q hq => by
      rcases List.mem_cons.mp hq with rfl | hq
      · exact H.get (.head _)
      rcases List.mem_cons.mp hq with rfl | hq
      · exact ⟨_, hoP, nP, rfl⟩
      · exact H.hown q (.tail _ (.tail _ hq))
    have hlP10 : vP.length = 10 := by rw [hlP]; simp [placeL]
    refine k_setitem (i := 1) (items := vP.toArray) H2 rfl (by simp; omega) (by simp; omega) fun s12 H3 => ?_
    refine x_nil ⟨_, [(Pl, IL (placeL out (i + 1))), (c, CellP (some (.ref Pl)))], H3.weaken rfl fun q hq => ?_, _, rfl, rfl⟩
    rcases List.mem_cons.mp hq with rfl | hq
    · exact H3.get (.head _)
    rcases List.mem_cons.mp hq with rfl | hq
    · obtain ⟨o, ho, e⟩ := H3.get (.tail _ (.head _))
      refine ⟨o, ho, vP.set x (.int i t10), ?_, ?_⟩
      · obtain ⟨n, e⟩ := e; exact ⟨n, by rw [e]; congr 1; apply Array.toList_inj.mp; simp⟩
      · rw [← placeL_set hxi]; exact IntsAre.setN hvP i t10 x
    · exact H3.hown q (.tail _ (.tail _ hq))
  · rintro _ _ s10 ⟨u, rfl, rfl⟩ H
    refine x_nil (x_cons (x_Return (e_call (e_glob H en rfl (gv_all w) (c_with keep_builtin (i_cons ?_))))))
    obtain ⟨ts, hvp, hlen, htup⟩ := hp
    obtain ⟨op, hop, npp, rfl⟩ := id hvp
    refine e_ListCompP (cl := [("place", c)]) H (fun i pD ext => ext = [] ∧ pD = LP ((((ps.take i).filter fun q => decide (placeF out q.2 ≥ 0)).map fun q => decide (placeF out q.1 < placeF out q.2)).map Value.bool).toArray)
      (e_local H en rfl (.tail .head) (i_list H ⟨_, H.look hop, rfl, npp, rfl⟩ fun I2 s11 H hlI2 => ?_)) (by rw [hc]; rfl)
    refine ⟨I2, lp, (ts.map Value.ref).toArray, _, [], _, rfl, hhA, hlI2, H, ⟨rfl, rfl⟩, ?_, ?_, ?_⟩
    · intro i pD ext' s12 _ hk
      exact ⟨_, hk lp _ (by simpa using hlI2) (H.look hop), rfl, npp, rfl⟩
    · rintro C0 D i v pD ext u s12 hi hP ⟨rfl, rfl⟩ hu H8
      obtain ⟨u0, u1, u2, rfl⟩ : ∃ u0 u1 u2, u = [u0, u1, u2] := by
        match u, hu with
        | [u0, u1, u2], _ => exact ⟨u0, u1, u2, rfl⟩
      have en8 := en.comp { kind := .function, names := [(".0", .local), ("p", .local), ("c", .local), ("place", .free)], isGenerator := false, isCoroutine := false } [("place", c)] C0 rfl rfl
      have hi7' : i < ps.length := by simpa [hlen] using hi
      obtain ⟨q, hq⟩ : ∃ q, ps[i]? = some q := ⟨_, List.getElem?_eq_getElem hi7'⟩
      obtain ⟨t, ht, rfl⟩ : ∃ t, ts[i]? = some t ∧ v = .ref t := by
        have hP' : (ts.map Value.ref)[i]? = some v := by simpa using hP
        rw [List.getElem?_map] at hP'
        cases e : ts[i]? with
        | none => rw [e] at hP'; cases hP'
        | some t => rw [e] at hP'; exact ⟨t, rfl, (Option.some.inj hP').symm⟩
      have htI : t ∉ I2 :: ([] : List Kp).map (·.1) := by simpa using H.vne (htup _ (tups_mem ht hq)) (.head _)
      obtain ⟨ot, hot, t1, t2, rfl⟩ := HasP.but H8.view (H.vp (htup _ (tups_mem ht hq))) htI
      obtain ⟨⟨a1, a2⟩, a3, a4⟩ := hpr q (List.mem_of_getElem? hq)
      have htk : (ps.take (i + 1)) = ps.take i ++ [q] := by rw [List.take_add_one, hq]; rfl
      obtain ⟨x, y⟩ := q
      obtain ⟨x, rfl, hx10⟩ := digit a1 a2
      obtain ⟨y, rfl, hy10⟩ := digit a3 a4
      have hcI : c ∉ I2 :: ([] : List Kp).map (·.1) := by simpa using H.one (i := 2) (j := 0) rfl rfl (by decide)
      have hPI : Pl ∉ I2 :: ([] : List Kp).map (·.1) := by simpa using H.one (i := 1) (j := 0) rfl rfl (by decide)
      have hC : ∀ {s' : Shared}, ((hv s11.heap).but (I2 :: ([] : List Kp).map (·.1))).le (hv s'.heap) → HasP s'.heap (c, CellP (some (.ref Pl))) := fun k => HasP.but k (H.get (.tail _ (.tail _ (.head _)))) hcI
      have hPl : ∀ {s' : Shared} {y : Nat}, ((hv s11.heap).but (I2 :: ([] : List Kp).map (·.1))).le (hv s'.heap) → y < 10 → ∃ items t, s'.heap.IsList Pl items ∧ items[y]? = some (.int (placeF out y) t) := fun k hy => by
        obtain ⟨o, ho, vP, ⟨n, rfl⟩, hv⟩ := HasP.but (p := (Pl, IL (placeL out out.length))) k (H.get (.tail _ (.head _))) hPI
        obtain ⟨t, ht⟩ := at_ints hv _ _ (placeL_at hy)
        exact ⟨vP.toArray, t, ⟨_, ho, rfl, n, rfl⟩, ht⟩
      refine a_pair hhA H8 ⟨_, hot, rfl⟩ fun s13 H9 => a_Name (s_local H9 en8 rfl (.tail .head) fun s14 H9 => a_Name (s_local H9 en8 rfl (.tail (.tail .head)) fun s15 H9 => ?_))
      obtain ⟨it1, tk1, l1, g1⟩ := hPl (s' := s15) H9.view hy10
      refine wpAny_tests_one (t_cmp (e_sub (e_cellH en8 rfl rfl (hC H9.view) (e_local H9 en8 rfl (.tail (.tail .head)) ⟨Pl, it1, y, t2, _, rfl, rfl, l1, g1, by omega, e_int H9 fun t16 s16 H10 => P.ge_int (tr_bool ?_)⟩))))
      by_cases hm : placeF out (y : Int) ≥ 0
      · rw [if_pos (decide_eq_true hm)]
        obtain ⟨it2, tk2, l2, g2⟩ := hPl (s' := s16) H10.view hx10
        obtain ⟨it3, tk3, l3, g3⟩ := hPl (s' := s16) H10.view hy10
        refine e_cmp (e_sub (e_cellH en8 rfl rfl (hC H10.view) (e_local H10 en8 rfl (.tail .head) ⟨Pl, it2, x, t1, _, rfl, rfl, l2, g2, by omega,
          e_sub (e_cellH en8 rfl rfl (hC H10.view) (e_local H10 en8 rfl (.tail (.tail .head)) ⟨Pl, it3, y, t2, _, rfl, rfl, l3, g3, by omega, P.lt_int ?_⟩))⟩)))
        have hfl : ((ps.take i).filter fun q => decide (placeF out q.2 ≥ 0)).length ≤ 100 := Nat.le_trans (List.length_filter_le ..) (by rw [List.length_take]; omega)
        refine k_append (H10.get (.tail _ (.head _))) (by rw [List.size_toArray, sizeLine_eq, List.length_map, List.length_map]; omega) fun h' hp hsb => ?_
        refine ⟨_, _, [], rfl, H10.change (s' := { s16 with heap := h' }) (i := 1) rfl hsb.extBut hp H10.gens H10.os, rfl, ?_⟩
        rw [htk, List.filter_append]
        simp [hm]
      · rw [if_neg (by simpa using hm)]
        refine ⟨_, _, [], rfl, H10, rfl, ?_⟩
        rw [htk, List.filter_append]
        simp [hm]
    · rintro D pD ext' s12 ⟨rfl, rfl⟩ H3
      refine i_nil ⟨H3.ctx, ?_⟩
      have e1 : ps.take (ts.map Value.ref).toArray.size = ps := List.take_of_length_le (by simp [hlen])
      rw [e1] at H3
      refine k_all H3 hhA (H3.get (.head _)) fun s13 H3 => h _ (H3.toRes (List.nil_sublist _))
end
end Mine
end
section
open PySem PySem.W PySem.Calls PyProof.Rows
set_option maxRecDepth 100000
set_option maxHeartbeats 1000000
set_option autoImplicit false
set_option linter.unusedVariables false
set_option linter.unusedSectionVars false
namespace Mine
abbrev DDT : String := "collections.defaultdict"
theorem dd_mro : mroOf (.type DDT) = pure [.type DDT, .type "dict", .type "object"] := by rw [mroOf_type]; kernel_rfl
theorem dd_new : typeLookup (.type DDT) "__new__" = pure (some (.builtin "dict.__new__")) := by rw [typeLookup_type, builtinLookup_eq_fast]; kernel_rfl
theorem dd_sub : isSubtype (.type DDT) (.type DDT) = pure true := by rw [isSubtype_type]; kernel_rfl
theorem dd_subd : isSubtype (.type DDT) (.type "dict") = pure true := by rw [isSubtype_type]; kernel_rfl
theorem slot_dd_init : Slot DDT "__init__" "collections.defaultdict.__init__" :=
  Slot.of (owner := DDT) (n := "__init__") (by rw [typeLookup_type, builtinLookup_eq_fast]; kernel_rfl) (by decide +kernel) (by decide +kernel) (by decide +kernel) (.inl (by kernel_rfl)) dd_sub
theorem slot_dd_getitem : Slot DDT "__getitem__" "dict.__getitem__" :=
  Slot.of (owner := "dict") (n := "__getitem__") (by rw [typeLookup_type, builtinLookup_eq_fast]; kernel_rfl) (by decide +kernel) (by decide +kernel) (by decide +kernel) (.inr (by kernel_rfl)) dd_subd
theorem slot_dd_missing : Slot DDT "__missing__" "collections.defaultdict.__missing__" :=
  Slot.of (owner := DDT) (n := "__missing__") (by rw [typeLookup_type, builtinLookup_eq_fast]; kernel_rfl) (by decide +kernel) (by decide +kernel) (by decide +kernel) (.inr (by kernel_rfl)) dd_sub
theorem slot_dd_iter : Slot DDT "__iter__" "dict.__iter__" :=
  Slot.of (owner := "dict") (n := "__iter__") (by rw [typeLookup_type, builtinLookup_eq_fast]; kernel_rfl) (by decide +kernel) (by decide +kernel) (by decide +kernel) (.inl (by kernel_rfl)) dd_subd
theorem entry_dd_init : entryFor table "collections.defaultdict.__init__" = some Builtin.«collections.defaultdict.__init__» := entryFor_of_tree (by kernel_rfl)
theorem entry_dd_missing : entryFor table "collections.defaultdict.__missing__" = some Builtin.«collections.defaultdict.__missing__» := entryFor_of_tree (by kernel_rfl)
theorem args_dd_missing (a b : Value) : argsOk "collections.defaultdict.__missing__" ⟨[a, b], []⟩ := by unfold argsOk; kernel_rfl
theorem args_dd_init (a b : Value) : argsOk "collections.defaultdict.__init__" ⟨[a, b], []⟩ := by unfold argsOk; kernel_rfl
theorem called_dd : TypeCalled DDT "dict.__new__" "collections.defaultdict.__init__" :=
  ⟨by decide +kernel, by decide +kernel, ⟨_, _, dd_mro⟩, madeBy_type dd_mro dd_new (by decide +kernel), by decide +kernel, dd_sub, slot_dd_init⟩
theorem typeCall_dd (a : Value) : checkTypeCall DDT ⟨[a], []⟩ = pure () := by kernel_rfl
theorem newCall_dd (a : Value) : checkBuiltinCall "dict.__new__" ⟨[.type DDT, a], []⟩ = pure () := by kernel_rfl
theorem isType_dd : isType (.type DDT) = pure true := by first | rfl | kernel_rfl | (unfold isType; rw [isSubtype_type]; kernel_rfl)

/-- a defaultdict of sets -/
abbrev ddO (es : Array DictEntry) (ep : Nat) (sl : Array (Option Value)) : Obj := { cls := .type DDT, dict := none, data := .dict es ep, slots := sl }
section
variable {w : World} {A : Around} {E : Value → Shared → Prop} {s : Shared} {env : Env} {G : Array GenState} {O : OsState} {V : View} {L : Addr} {ns : List Str} {vs : List (Option Value)} {own : List Kp}
theorem code_dd_new (a : Value) {Q₁ : Value → Shared → Prop} (h : Q₁ (.ref s.heap.objs.size) { s with heap := s.heap.push (ddO #[] 0 #[]) }) :
    codeAny (model P0 w) A (.call (.builtin "dict.__new__") ⟨[.type DDT, a], []⟩) (wants Q₁ E) s := by
  refine codeAny_call_builtin F.kt_plain_dict_new F.kt_entry_dict_new (wpAny_of_eq (newCall_dd a) ?_)
  have hsub := dd_subd
  have hmro := dd_mro
  have hty := isType_dd
  obtain ⟨hp, g, d, tk, os⟩ := s
  unfold Builtin.«dict.__new__»
  wp_walk
  exact h
theorem typeCallable : typeLookup (.type "type") "__call__" = pure (some (.builtin "type.__call__")) := by rw [typeLookup_type, builtinLookup_eq_fast]; kernel_rfl
theorem set_ty : typeOf (.type "set") = pure (.type "type") := by first | rfl | kernel_rfl
theorem dd_notord : isSubtype (.type DDT) (.type "collections.OrderedDict") = pure false := by rw [isSubtype_type]; kernel_rfl
theorem w_notOrdered_dd {name : String} {a : Addr} {rest : List Value} {kw : List (Str × Value)} {o : Obj} {Q : Unit → Shared → Prop} (ho : s.heap.get? a = some o) (hc : o.cls = .type DDT) (h : Q () s) :
    wpAny (model P0 w) A (Builtin.Dict.notOrdered name ⟨.ref a :: rest, kw⟩) Q E s := by
  unfold Builtin.Dict.notOrdered
  split
  · refine wpAny_bind (w_typeOf ho ?_)
    rw [hc]
    refine wp_if_true (by decide) ?_
    unfold isInstance
    refine wpAny_bind (wpAny_bind (w_typeOf ho ?_))
    rw [hc]
    refine wpAny_of_eq dd_notord ?_
    exact wpAny_pure h
  · exact wpAny_pure h
theorem k_dd {Q : Value → Shared → Prop} (h : ∀ a s', a = s.heap.objs.size → Res s s' [(a, fun o => o = ddO #[] 0 #[some (.type "set")])] → Q (.ref a) s') :
    wpAny (model P0 w) A (call (.type DDT) [.type "set"]) Q E s := by
  refine callType_codes (Q₁ := fun obj s₁ => obj = .ref s.heap.objs.size ∧ s₁ = { s with heap := s.heap.push (ddO #[] 0 #[]) }) called_dd (typeCall_dd _) entry_dd_init (code_dd_new _ ⟨rfl, rfl⟩) ?_
  rintro obj s₁ ⟨rfl, rfl⟩
  have ho : (s.heap.push (ddO #[] 0 #[])).get? s.heap.objs.size = some (ddO #[] 0 #[]) := Heap.get?_push_size _ rfl
  refine ⟨⟨_, ho, rfl⟩, args_dd_init _ _, ?_⟩
  unfold Builtin.«collections.defaultdict.__init__»
  dsimp only [List.head?_cons]
  refine wp_if_true (by decide) ?_
  unfold specialOf
  rw [set_ty]
  refine wpAny_bind (wpAny_bind (wpAny_pure (wpAny_of_eq typeCallable ?_)))
  refine wp_if_false rfl ?_
  refine wpAny_bind (m := PySem.slotAt _ 0) ?_
  unfold PySem.slotAt
  refine wpAny_bind (wpAny_loadPart ho (wpAny_pure ?_))
  show wpAny _ _ (Builtin.Collections_defaultdict.setFactory (.ref s.heap.objs.size) (some (.type "set")) >>= _) _ _ _
  unfold Builtin.Collections_defaultdict.setFactory
  refine wpAny_bind ?_
  show wpAny _ _ (PySem.slotAt s.heap.objs.size 0 >>= _) _ _ _
  unfold PySem.slotAt
  refine wpAny_bind (wpAny_bind (wpAny_loadPart ho (wpAny_pure ?_)))
  refine wp_if_true (by decide) ?_
  refine wpAny_bind (m := slotLetsGo _ _ _) (wpAny_pure ?_)
  show wpAny _ _ (setSlotAt s.heap.objs.size 0 (some (.type "set"))) _ _ _
  unfold setSlotAt
  dsimp only
  rw [if_neg (show ¬ (0 ≥ sizeLine) by rw [sizeLine_eq]; decide)]
  refine wpAny_updatePart ho ?_
  have ho2 := Heap.get?_update_self (fun o : Obj => { o with slots := (o.slots ++ Array.replicate (0 + 1 - o.slots.size) none).setIfInBounds 0 (some (.type "set")) }) ho (by rfl)
  refine wpAny_bind (wpAny_holding (wpAny_runValue (codeAny_builtin F.entry_dict_init ?_)))
  unfold Builtin.«dict.__init__» Builtin.Dict.selfAndRest
  refine wpAny_bind (wpAny_bind (w_notOrdered_dd (s := { s with heap := (s.heap.push (ddO #[] 0 #[])).update s.heap.objs.size _ }) ho2 rfl ?_))
  show wpAny _ _ (pure (s.heap.objs.size, [])) _ _ _
  refine wpAny_pure ?_
  show wpAny _ _ (do Builtin.Dict.addKeywords s.heap.objs.size []; ret .none) _ _ _
  refine wpAny_bind ?_
  show wpAny _ _ (do forIn ([] : List (Str × Value)) PUnit.unit _; pure ()) _ _ _
  refine wpAny_bind ?_
  rw [List.forIn_nil]
  refine wpAny_pure (wpAny_pure (wpAny_pure (wpAny_pure ⟨rfl, h _ _ rfl ⟨fun b o e => ?_, rfl, rfl, ?_, by simp, ?_⟩⟩)))
  · exact (Heap.get?_update_other _ _ (Ne.symm (Nat.ne_of_lt (Heap.lt_size e)))).trans (Heap.get?_push_of_some _ e)
  · intro p hp; rw [List.mem_singleton] at hp; subst hp; exact fresh_none _
  · intro p hp; rw [List.mem_singleton] at hp; subst hp; exact ⟨_, ho2, by rfl⟩
end
end Mine
end
section
open PySem PySem.W PySem.Calls PyProof.Rows
set_option maxRecDepth 100000
set_option maxHeartbeats 1000000
set_option autoImplicit false
set_option linter.unusedVariables false
set_option linter.unusedSectionVars false
namespace Mine
noncomputable def EOK : List DictEntry → List (Int × Addr) → Prop
  | [], [] => True
  | e :: es, q :: kvs => (e.hash = hashInt q.1 ∧ (∃ t, e.key = .int q.1 t) ∧ e.val = .ref q.2) ∧ EOK es kvs
  | _, _ => False
noncomputable def look (kvs : List (Int × Addr)) (k : Int) : Option Addr := (kvs.find? fun q => q.1 == k).map (·.2)
theorem EOK.len : ∀ {es : List DictEntry} {kvs : List (Int × Addr)}, EOK es kvs → es.length = kvs.length
  | [], [], _ => rfl
  | _ :: _, _ :: _, h => by simp [EOK.len h.2]
theorem EOK.keys : ∀ {es : List DictEntry} {kvs : List (Int × Addr)}, EOK es kvs → ∀ e ∈ es, ∃ k t, e.key = .int k t ∧ e.hash = hashInt k
  | [], [], _, e, he => nomatch he
  | e :: es, q :: kvs, h, e', he => by
    rcases List.mem_cons.mp he with rfl | he
    · obtain ⟨t, ht⟩ := h.1.2.1; exact ⟨_, t, ht, h.1.1⟩
    · exact EOK.keys h.2 e' he
theorem EOK.find : ∀ {es : List DictEntry} {kvs : List (Int × Addr)} (k : Int), EOK es kvs → (es.find? fun e => Value.isInt k e.key).map (·.val) = (look kvs k).map .ref
  | [], [], _, _ => rfl
  | e :: es, q :: kvs, k, h => by
    obtain ⟨t, ht⟩ := h.1.2.1
    have hb : Value.isInt k e.key = (q.1 == k) := by rw [ht]; rfl
    simp only [look, List.find?_cons, hb]
    cases q.1 == k with
    | true => simp [h.1.2.2]
    | false => simpa [look] using EOK.find k h.2
theorem EOK.push : ∀ {es : List DictEntry} {kvs : List (Int × Addr)} (k : Int) (t : Tok) (a : Addr), EOK es kvs → EOK (es ++ [⟨hashInt k, .int k t, .ref a⟩]) (kvs ++ [(k, a)])
  | [], [], _, t, _, _ => ⟨⟨rfl, ⟨t, rfl⟩, rfl⟩, trivial⟩
  | e :: es, q :: kvs, k, t, a, h => ⟨h.1, EOK.push k t a h.2⟩
theorem EOK.at : ∀ {es : List DictEntry} {kvs : List (Int × Addr)} (i : Nat) (q : Int × Addr), EOK es kvs → kvs[i]? = some q → ∃ e t, es[i]? = some e ∧ e.key = .int q.1 t ∧ e.hash = hashInt q.1 ∧ e.val = .ref q.2
  | [], [], i, q, _, h => by simp at h
  | e :: es, p :: kvs, 0, q, h, hq => by
    obtain rfl : p = q := by simpa using hq
    obtain ⟨t, ht⟩ := h.1.2.1
    exact ⟨e, t, rfl, ht, h.1.1, h.1.2.2⟩
  | e :: es, p :: kvs, i + 1, q, h, hq => by simpa using EOK.at i q h.2 (by simpa using hq)
abbrev ddD (es : Array DictEntry) (ep : Nat) : Obj := ddO es ep #[some (.type "set")]
noncomputable def DDP (kvs : List (Int × Addr)) : Obj → Prop := fun o => ∃ es ep, o = ddD es ep ∧ EOK es.toList kvs
section
variable {w : World} {A : Around} {E : Value → Shared → Prop} {s : Shared} {env : Env} {G : Array GenState} {O : OsState} {V : View} {L : Addr} {ns : List Str} {vs : List (Option Value)} {own : List Kp}
theorem EOK.intKeys {es : Array DictEntry} {kvs : List (Int × Addr)} (h : EOK es.toList kvs) : IntKeys es := fun e he => h.keys e (Array.mem_toList_iff.mpr he)
theorem findBy_list (es : Array DictEntry) (k : Int) : findBy Value.isInt es k = (es.toList.find? fun e => Value.isInt k e.key).map (·.val) := by
  unfold findBy
  rw [← Array.find?_toList]
theorem wp_borrowed {f : Value} {pos : List Value} {Q : Value → Shared → Prop} (h : wpAny (model P0 w) A (call f pos) Q E s) : wpAny (model P0 w) A (callBorrowed f pos) Q E s := fun Γ p hΓ => by
  have h1 := h Γ p hΓ
  unfold call at h1
  rw [Sem.wp_runValue] at h1
  unfold callBorrowed
  rw [Sem.wp_call]
  refine Eq.mp ?_ h1
  congr 1
  funext r s'
  cases r with
  | error e => rfl
  | ok f => cases f <;> rfl
theorem entry_setdefault : entryFor table "dict.setdefault" = some Builtin.«dict.setdefault» := entryFor_of_tree (by kernel_rfl)
theorem w_ddGet {d : Addr} {es : Array DictEntry} {ep : Nat} {kvs : List (Int × Addr)} {k : Int} {t : Tok} {Q : Option Value → Shared → Prop} (ho : s.heap.get? d = some (ddD es ep)) (he : EOK es.toList kvs)
    (h : Q ((look kvs k).map .ref) { s with toks := s.toks + 1 }) : wpAny (model P0 w) A (dictGet d (.int k t)) Q E s := by
  unfold dictGet
  try with_reducible refine wpAny_holding ?_
  refine wpAny_bind (wpAny_pyHash_int (wpAny_bind (wpAny_dictFind_int (s := { s with toks := s.toks + 1 }) ho rfl he.intKeys ?_)))
  rw [← EOK.find k he, ← findBy_list, findBy_of_findIdx?] at h
  cases hi : es.findIdx? fun e => Value.isInt k e.key with
  | none => rw [hi] at h; exact wpAny_pure h
  | some i => rw [hi] at h; exact wpAny_bind (wpAny_dictEntries (s := { s with toks := s.toks + 1 }) ho rfl (wpAny_pure h))
theorem dd_type {d : Addr} {es : Array DictEntry} {ep : Nat} (ho : s.heap.get? d = some (ddD es ep)) : s.TypeIs (.ref d) DDT := ⟨_, ho, rfl⟩
/-- d[k], there -/
theorem k_ddhit {d a : Addr} {kvs : List (Int × Addr)} {k : Int} {t : Tok} {Q : Value → Shared → Prop} (hd : HasP s.heap (d, DDP kvs)) (hl : look kvs k = some a) (h : Q (.ref a) { s with toks := s.toks + 1 }) :
    wpAny (model P0 w) A (getItem (.ref d) (.int k t)) Q E s := by
  obtain ⟨_, ho, es, ep, rfl, he⟩ := hd
  refine wpAny_getItem_slot (dd_type ho) (by decide) slot_dd_getitem (wpAny_call_entry slot_dd_getitem (dd_type ho) entry_dict_getitem ?_ (args_dict_getitem _ _))
  show wpAny _ _ (dictGet d (.int k t) >>= _) _ _ s
  refine wpAny_bind (w_ddGet ho he ?_)
  rw [hl]
  exact wpAny_pure ⟨_, rfl, h⟩
/-- d[k], made -/
theorem k_ddmiss {d : Addr} {kvs : List (Int × Addr)} {k : Int} {t : Tok} {i : Nat} {Q : Value → Shared → Prop} (F : Fm w G O V L ns vs own s) (hi : own[i]? = some (d, DDP kvs)) (hd : (d == sysModules) = false) (hl : look kvs k = none) (hsz : kvs.length ≤ 100)
    (h : ∀ r s', Fm w G O V L ns vs ((r, SP w []) :: own.set i (d, DDP (kvs ++ [(k, r)]))) s' → Q (.ref r) s') :
    wpAny (model P0 w) A (getItem (.ref d) (.int k t)) Q E s := by
  obtain ⟨_, ho, es, ep, rfl, he⟩ := F.get (List.mem_of_getElem? hi)
  refine wpAny_getItem_slot (dd_type ho) (by decide) slot_dd_getitem (wpAny_call_entry slot_dd_getitem (dd_type ho) entry_dict_getitem ?_ (args_dict_getitem _ _))
  show wpAny _ _ (dictGet d (.int k t) >>= _) _ _ s
  refine wpAny_bind (w_ddGet ho he ?_)
  rw [hl]
  show wpAny _ _ (Builtin.Dict.missed d (.int k t) >>= _) _ _ _
  refine wpAny_bind ?_
  unfold Builtin.Dict.missed
  refine wp_if_false (by rw [hd]) (wpAny_pure ?_)
  show wpAny _ _ (typeOf (.ref d) >>= _) _ _ _
  refine wpAny_bind (w_typeOf (s := { s with toks := s.toks + 1 }) ho ?_)
  refine wp_if_true (show (Value.type DDT != Value.type "dict") = true by decide) ?_
  refine wpAny_bind (wpAny_callSpecial?_slot (s := { s with toks := s.toks + 1 }) (name := Str.ofString "__missing__") (dd_type ho) slot_dd_missing (wpAny_call (codeAny_call_builtin slot_dd_missing.plain entry_dd_missing (slot_dd_missing.check _ _ _ _ _ _ _ _ (dd_type (s := { s with toks := s.toks + 1 }) ho) (args_dd_missing _ _) ?_))))
  show wpAny _ _ (Builtin.Collections_defaultdict.factory? (.ref d) >>= _) _ _ _
  refine wpAny_bind ?_
  unfold Builtin.Collections_defaultdict.factory?
  show wpAny _ _ (PySem.slotAt d 0 >>= _) _ _ _
  unfold PySem.slotAt
  refine wpAny_bind (wpAny_bind (wpAny_loadPart (s := { s with toks := s.toks + 1 }) ho (wpAny_pure (wpAny_pure ?_))))
  show wpAny _ _ (callOutOfASlot (.type "set") >>= _) _ _ _
  refine wpAny_bind ?_
  unfold callOutOfASlot
  refine wpAny_bind (m := borrowsExactly (.type "set")) (wpAny_pure ?_)
  refine wp_if_true rfl ?_
  have F1 := F.tok (s.toks + 1)
  refine wp_borrowed (k_set0 F1.ctx (F1.newS fun r s2 H => ?_))
  obtain ⟨es2, ep2, ho2⟩ : ∃ es2 ep2, s2.heap.get? d = some (ddD es2 ep2) ∧ EOK es2.toList kvs := by
    obtain ⟨_, ho, es, ep, rfl, he⟩ := H.get (.tail _ (List.mem_of_getElem? hi))
    exact ⟨es, ep, ho, he⟩
  obtain ⟨ho2, he2⟩ := ho2
  refine wpAny_pure ⟨Code.quiet_builtin _ (by decide +kernel), codeAny_builtin entry_setdefault ?_⟩
  unfold Builtin.«dict.setdefault»
  refine wpAny_bind ?_
  unfold Builtin.Dict.keyAndDefault
  refine wpAny_bind (w_notOrdered_dd ho2 rfl ?_)
  show wpAny _ _ (pure ((d, Value.int k t, some (Value.ref r)) : Addr × Value × Option Value)) _ _ _
  refine wpAny_pure ?_
  dsimp only
  rw [if_neg (by rw [hd]; exact Bool.false_ne_true)]
  refine wpAny_bind ?_
  unfold dictSetDefault
  refine wpAny_holding (wpAny_bind (wpAny_pyHash_int (wpAny_bind (wpAny_dictFind_int (s := { s2 with toks := s2.toks + 1 }) ho2 rfl he2.intKeys ?_))))
  have hnone : es2.findIdx? (fun e => Value.isInt k e.key) = none := by
    have := EOK.find k he2
    rw [hl, ← findBy_list, findBy_of_findIdx?] at this
    cases hi : es2.findIdx? fun e => Value.isInt k e.key with
    | none => rfl
    | some i =>
      rw [hi] at this
      have hlt : i < es2.size := (Array.findIdx?_eq_some_iff_getElem.mp hi).1
      simp [hlt] at this
  rw [hnone]
  have hes : es2.size ≤ 100 := by have := he2.len; simp at this; omega
  refine wpAny_bind (wpAny_rule (wpAny_bind (wpAny_updateDictKeys (s := { s2 with toks := s2.toks + 1 }) ho2 rfl (wpAny_pure (wpAny_pure ?_)) (hz := by rw [sizeLine_eq]; omega))))
  refine wpAny_bind (wpAny_rule (wpAny_pure ⟨_, rfl, ?_⟩))
  have H2 := H.change (i := i + 1) (p' := DDP (kvs ++ [(k, r)])) (s' := { s2 with heap := s2.heap.update d (Obj.mapDictKeys fun x => x.push ⟨hashInt k, .int k t, .ref r⟩), toks := s2.toks + 1 }) hi (Heap.SameBut.update ..).extBut
    ⟨_, Heap.get?_update_self _ ho2 rfl, _, _, rfl, by simpa using EOK.push k t r he2⟩ H.gens H.os
  exact h r _ H2
end
end Mine
end
section
open PySem PySem.W PySem.Calls PyProof.Rows
set_option maxRecDepth 100000
set_option maxHeartbeats 1000000
set_option autoImplicit false
set_option linter.unusedVariables false
set_option linter.unusedSectionVars false
namespace Mine
abbrev KIt (d : Addr) (n ep : Nat) (i : Nat) : Obj → Prop := fun o => o.cls = .type "dict_keyiterator" ∧ o.data = .fields #[.ref d, .int i 0, .int n 0, .int ep 0]
section
variable {w : World} {A : Around} {E : Value → Shared → Prop} {s : Shared} {env : Env} {G : Array GenState} {O : OsState} {V : View} {L : Addr} {ns : List Str} {vs : List (Option Value)} {own : List Kp}

abbrev kitO (d : Addr) (n ep : Nat) : Obj := { cls := .type "dict_keyiterator", data := .fields #[.ref d, .int 0 0, .int n 0, .int ep 0] }
theorem w_pyIter_dd {d : Addr} {es : Array DictEntry} {ep : Nat} {Q : Value → Shared → Prop} (hd : (d == sysModules) = false) (ho : s.heap.get? d = some (ddD es ep))
    (h : Q (.ref s.heap.objs.size) { s with heap := s.heap.push (kitO d es.size ep) }) : wpAny (model P0 w) A (pyIter (.ref d)) Q E s := by
  refine wpAny_pyIter_slot (dd_type ho) slot_dd_iter (wpAny_call_entry slot_dd_iter (dd_type ho) F.entry_dict_iter ?_ (F.args_dict_iter_1 _))
  unfold Builtin.«dict.__iter__»
  refine wpAny_bind ?_
  unfold Builtin.Dict.dictSlotNone
  refine wpAny_bind (w_notOrdered_dd ho rfl ?_)
  show wpAny _ _ (pure (Value.ref d)) _ _ s
  refine wpAny_pure ?_
  show wpAny _ _ (Builtin.Dict.showsAll d >>= _) _ _ s
  unfold Builtin.Dict.showsAll
  rw [if_neg (by rw [hd]; exact Bool.false_ne_true)]
  refine wpAny_bind (wpAny_pure (wpAny_bind (wpAny_dictEntries ho rfl (wpAny_bind (wpAny_dictEpoch ho rfl ?_)))))
  refine wpAny_bind (wpAny_newObj_type (wpAny_pure ⟨_, rfl, "dict_keyiterator", _, ⟨_, Heap.get?_push_size _ rfl, rfl⟩, F.slot_dict_keyiterator_next.lookup, ?_⟩))
  simpa [rawInt] using h
theorem i_dd {d : Addr} {es : Array DictEntry} {ep : Nat} {Q : Value → Shared → Prop} (H : Fm w G O V L ns vs own s) (hd : (d == sysModules) = false) (ho : s.heap.get? d = some (ddD es ep))
    (h : ∀ I s', Fm w G O V L ns vs ((I, KIt d es.size ep 0) :: own) s' → d ≠ I → Q (.ref I) s') : wpAny (model P0 w) A (pyIter (.ref d)) Q E s :=
  w_pyIter_dd hd ho (h _ _ (H.push _ ⟨rfl, rfl⟩) (Nat.ne_of_lt (Heap.lt_size ho)))

/-- the head of a step of the iterator over the keys -/
theorem w_keyHead {it d : Addr} {n ep i : Nat} {es : Array DictEntry} {Q : Option Value → Shared → Prop} (hh : A.handled = none) (hit : HasP s.heap (it, KIt d es.size ep i)) (hod : s.heap.get? d = some (ddD es ep))
    (hitem : ∀ e, es[i]? = some e → ∀ h', HasP h' (it, KIt d es.size ep (i + 1)) → Heap.SameBut it s.heap h' → Q (some e.key) { s with heap := h' })
    (hend : es[i]? = none → ∀ h', Heap.ExtBut it s.heap h' → Q none { s with heap := h' }) : wpAny (model P0 w) A (pyNext (.ref it)) Q E s := by
  obtain ⟨o, ho, hc, hd⟩ := hit
  have hT : s.TypeIs (.ref it) "dict_keyiterator" := ⟨o, ho, hc⟩
  have hdd : (ddD es ep).data = .dict es ep := rfl
  have nm : ∀ {A : Around} {s : Shared} {Q : String → Shared → Prop} {E : Value → Shared → Prop}, s.TypeIs (.ref it) "dict_keyiterator" → Q "dict_keyiterator" s → wpAny (model P0 w) A (typeNameOfWhole (.ref it)) Q E s := fun a b => wpAny_typeNameOfWhole_keyiter a b
  refine w_pyNext (wpAny_callSpecial?_slot (name := Str.ofString "__next__") hT F.slot_dict_keyiterator_next (wpAny_call_entry F.slot_dict_keyiterator_next hT F.entry_dict_keyiterator_next ?_ (F.args_dict_keyiterator_next_1 _)))
  refine wpAny_bind (wpAny_pure (wpAny_bind (wpAny_bind ?_)))
  first | refine wpAny_bind (nm hT (wpAny_pure ?_)) | refine wpAny_bind (wpAny_typeNameOf_keyiter hT (wpAny_pure ?_))
  refine wpAny_bind (wpAny_fieldsOf ho hd ?_)
  simp only [show Builtin.Dict_items.ownsTuple "dict_keyiterator" = false by decide, Bool.false_eq_true, if_false]
  show wpAny _ _ (if (Value.ref d == Value.none) = true then _ else _) _ _ s
  rw [if_neg (show ¬ ((Value.ref d == Value.none) = true) from Bool.false_ne_true)]
  refine wpAny_bind (wpAny_pure (wpAny_bind (wpAny_dictEntries hod hdd ?_)))
  rw [if_neg (by simp)]
  refine wpAny_bind (wpAny_pure (wpAny_bind (wpAny_dictEpoch hod hdd ?_)))
  rw [if_neg (by simp)]
  refine wpAny_pure ?_
  cases hx : es[i]? with
  | some e =>
    simp only [show ¬ ((i : Int) < 0) from by omega, if_false, Int.toNat_natCast, hx]
    refine wpAny_bind ?_
    first | refine wpAny_bind (nm hT (wpAny_pure ?_)) | refine wpAny_bind (wpAny_typeNameOf_keyiter hT (wpAny_pure ?_))
    refine wpAny_bind (wpAny_isOneOf_keyiter hT ?_)
    show wpAny _ _ (setField (.ref it) 1 (rawInt ((i : Int) + 1)) >>= _) _ _ s
    refine wpAny_bind (wpAny_setField ho hd (by simp) ?_)
    have hit' : HasP (s.heap.update it (Obj.mapFields (·.setIfInBounds 1 (rawInt ((i : Int) + 1))))) (it, KIt d es.size ep (i + 1)) :=
      ⟨_, Heap.get?_update_self _ ho (Obj.isFreed_of_fields (Obj.data_mapFields hd _)), (Obj.cls_mapFields ..).trans hc, by rw [Obj.data_mapFields hd]; simp [rawInt]⟩
    refine wpAny_bind (wpAny_holding ?_)
    refine wpAny_bind (wpAny_isOneOf_keyiter (s := { s with heap := s.heap.update it (Obj.mapFields (·.setIfInBounds 1 (rawInt ((i : Int) + 1)))) }) (let ⟨o, a, b, _⟩ := hit'; ⟨o, a, b⟩) ?_)
    show wpAny _ _ (pure e.key) _ _ _
    exact wpAny_pure (wpAny_pure ⟨_, rfl, _, rfl, hitem e hx _ hit' (Heap.SameBut.update ..)⟩)
  | none =>
    simp only [show ¬ ((i : Int) < 0) from by omega, if_false, Int.toNat_natCast, hx]
    refine wpAny_bind ?_
    first | refine wpAny_bind (nm hT (wpAny_pure ?_)) | refine wpAny_bind (wpAny_typeNameOf_keyiter hT (wpAny_pure ?_))
    show wpAny _ _ (setField (.ref it) 0 .none >>= _) _ _ s
    refine wpAny_bind (wpAny_setField ho hd (by simp) ?_)
    exact w_stop (.inl hh) fun h' a k st => st.ends (hend hx _ fun b ob hb x => k b ob (((Heap.SameBut.update _ _ _).2 b hb).trans x))

theorem Iter.dd (hh : A.handled = none) (I d : Addr) {es : Array DictEntry} {ep : Nat} {kvs : List (Int × Addr)} (he : EOK es.toList kvs) :
    Iter w A I es.size (fun i v => ∃ q t, kvs[i]? = some q ∧ v = .int q.1 t) (KIt d es.size ep) (fun h => h.get? d = some (ddD es ep)) := by
  have hlen := he.len
  refine ⟨fun i s Q E hi hp hu hQ => w_keyHead (n := 0) hh hp hu (fun e hx h' hit' hsb => ?_) fun hx => ?_, fun s Q E hp hu hQ => w_keyHead (n := 0) hh hp hu (fun e hx => ?_) fun hx h' hsb => hQ h' s.toks hsb, fun i s Q E hp hu hQ => ?_⟩
  · obtain ⟨q, hq⟩ : ∃ q, kvs[i]? = some q := ⟨_, List.getElem?_eq_getElem (by rw [← hlen]; simpa using hi)⟩
    obtain ⟨e', t, he', hk, _⟩ := EOK.at i q he hq
    have : es[i]? = some e' := by rw [← Array.getElem?_toList]; exact he'
    rw [hx] at this; cases this
    exact hQ _ h' s.toks ⟨q, t, hq, hk⟩ hit' hsb.extBut
  · rw [Array.getElem?_eq_getElem hi] at hx; cases hx
  · rw [Array.getElem?_eq_none (Nat.le_refl _)] at hx; cases hx
  · exact wpAny_pyIter_keyiter hp hQ
end
end Mine
end
section
open PySem PySem.W PySem.Calls PyProof.Rows
set_option maxRecDepth 100000
set_option maxHeartbeats 1000000
set_option autoImplicit false
set_option linter.unusedVariables false
set_option linter.unusedSectionVars false
namespace Mine
theorem Iter.walks {w : World} {A : Around} {I d : Addr} {n : Nat} {P : Nat → Value → Prop} {Sh : Nat → Obj → Prop} {o : Obj} (It : Iter w A I n P Sh (fun h => h.get? d = some o)) (hne : d ≠ I) :
    Walks P0 w A I [I, d] [I] n P (fun i h => HasP h (I, Sh i) ∧ h.get? d = some o) where
  sub := fun b hb => by simp at hb; simp [hb]
  frame := fun _ _ _ st hk => ⟨st.1.keeps fun o e => hk I (by simp) o e, hk d (by simp) _ st.2⟩
  item := fun i s Q E hi st hQ => It.item i s Q E hi st.1 st.2 fun v h' tk hP hp hk => hQ v h' tk hP ⟨hp, hk d o hne st.2⟩ fun b ob hb e => hk b ob (by simpa using hb) e
  done := fun s Q E st hQ => It.done s Q E st.1 st.2 fun h' tk hk => hQ h' tk fun b ob hb e => hk b ob (by simpa using hb) e
  self := fun i s Q E st hQ => It.self i s Q E st.1 st.2 hQ
theorem dd_set : isSubtype (.type DDT) (.type "set") = pure false := by rw [isSubtype_type]; kernel_rfl
theorem dd_fset : isSubtype (.type DDT) (.type "frozenset") = pure false := by rw [isSubtype_type]; kernel_rfl
section
variable {w : World} {A : Around} {E : Value → Shared → Prop} {s : Shared} {env : Env} {G : Array GenState} {O : OsState} {V : View} {L : Addr} {ns : List Str} {vs : List (Option Value)} {own : List Kp}
theorem k_set_dd {d : Addr} {kvs : List (Int × Addr)} {Q : Value → Shared → Prop} (C : Cx w s.heap) (hh : A.handled = none) (hd : (d == sysModules) = false) (ho : HasP s.heap (d, DDP kvs)) (hx : R10 (kvs.map (·.1)))
    (h : ∀ S', (∀ x, x ∈ S' ↔ x ∈ kvs.map (·.1)) → NewS w s S' Q) : wpAny (model P0 w) A (call (.type "set") [.ref d]) Q E s := by
  obtain ⟨_, ho, es, ep, rfl, he⟩ := ho
  have hlen := he.len
  refine k_set1 C ?_
  have ho1 : (s.heap.push (setO (freshD w))).get? d = some (ddD es ep) := Heap.get?_push_of_some _ ho
  have hT : Shared.TypeIs { s with heap := s.heap.push (setO (freshD w)) } (.ref d) DDT := ⟨_, ho1, rfl⟩
  unfold Builtin.Frozenset.updateFrom
  refine wpAny_bind (w_isAnySet hT dd_set dd_fset ?_)
  rw [if_neg (by decide)]
  refine wpAny_bind (wpAny_typeOf hT ?_)
  rw [if_neg (by decide)]
  refine wpAny_bind (w_pyIter_dd (s := { s with heap := s.heap.push (setO (freshD w)) }) hd ho1 ?_)
  refine wpAny_bind (wpAny_runValue ?_)
  have h0 : (s.heap.push (setO (freshD w))).get? s.heap.objs.size = some (setO (freshD w)) := Heap.get?_push_size _ rfl
  have hne : d ≠ (s.heap.push (setO (freshD w))).objs.size := Nat.ne_of_lt (Heap.lt_size ho1)
  have hae : s.heap.objs.size ≠ (s.heap.push (setO (freshD w))).objs.size := Nat.ne_of_lt (Heap.lt_size h0)
  have hal : s.heap.objs.size ≠ d := Ne.symm (Nat.ne_of_lt (Heap.lt_size ho))
  have W := (Iter.dd (w := w) (A := A.in1.in1.in1) (ep := ep) hh (s.heap.push (setO (freshD w))).objs.size d he).walks hne
  refine w_updLoop (a := s.heap.objs.size) W (by simp [hae, hal]) (xs := kvs.map (·.1)) (by simp [← hlen]) (fun i v hv => by obtain ⟨q, t, hq, rfl⟩ := hv; exact ⟨t, q.1, by rw [List.getElem?_map, hq]; rfl, rfl⟩) hx es.size 0 _ [] (setO (freshD w)) (by omega) (Nat.zero_le _) ⟨⟨_, Heap.get?_push_size _ rfl, rfl, rfl⟩, Heap.get?_push_of_some _ ho1⟩ (Heap.get?_push_of_some _ h0) (fresh_is w) fun d' S' h' tk hd' hp hk ho' => ?_
  refine wpAny_pure (h S' (fun x => by rw [hp x]; simp) _ d' h' tk (fresh_none _) (fun b ob e => hk b ob ?_ (Nat.ne_of_lt (Heap.lt_size e)) (Heap.get?_push_of_some _ (Heap.get?_push_of_some _ e))) ho' hd')
  simp only [List.mem_singleton]
  exact Nat.ne_of_lt (by rw [Heap.size_push]; exact Nat.lt_succ_of_lt (Heap.lt_size e))
end
end Mine
end
section
open PySem PySem.W PySem.Calls PyProof.Rows
set_option maxRecDepth 100000
set_option maxHeartbeats 1000000
set_option autoImplicit false
set_option linter.unusedVariables false
set_option linter.unusedSectionVars false
namespace Mine
/-- the sets of a defaultdict -/
noncomputable def edgs (w : World) (kvs : List (Int × Addr)) (T : Int → List Int) : List Kp := kvs.map fun q => (q.2, SP w (T q.1))
noncomputable def edg (w : World) (d : Addr) (kvs : List (Int × Addr)) (T : Int → List Int) : List Kp := (d, DDP kvs) :: edgs w kvs T
noncomputable def updT (T : Int → List Int) (k : Int) (S : List Int) : Int → List Int := fun x => if x = k then S else T x
theorem edgs_congr {w : World} {kvs : List (Int × Addr)} {T T' : Int → List Int} (h : ∀ x ∈ kvs.map (·.1), T' x = T x) : edgs w kvs T' = edgs w kvs T :=
  List.map_congr_left fun q hq => by rw [h _ (List.mem_map.mpr ⟨q, hq, rfl⟩)]
theorem edgs_at {w : World} {kvs : List (Int × Addr)} {T : Int → List Int} {j : Nat} {k : Int} {a : Addr} (h : kvs[j]? = some (k, a)) : (edgs w kvs T)[j]? = some (a, SP w (T k)) := by
  rw [edgs, List.getElem?_map, h]; rfl
theorem edgs_set {w : World} {kvs : List (Int × Addr)} {T : Int → List Int} {j : Nat} {k : Int} {a : Addr} {S : List Int} (h : kvs[j]? = some (k, a)) (nd : (kvs.map (·.1)).Nodup) :
    (edgs w kvs T).set j (a, SP w S) = edgs w kvs (updT T k S) := by
  apply List.ext_getElem?
  intro i
  have hlt : j < kvs.length := (List.getElem?_eq_some_iff.mp h).1
  rw [List.getElem?_set, edgs, edgs, List.getElem?_map, List.getElem?_map, List.length_map]
  by_cases e : j = i
  · subst e
    rw [if_pos rfl, if_pos hlt, h]; simp [updT]
  · rw [if_neg e]
    cases hi : kvs[i]? with
    | none => rfl
    | some q =>
      have hne : q.1 ≠ k := fun q' => e (by
        have h1 : (kvs.map (·.1))[j]? = some k := by rw [List.getElem?_map, h]; rfl
        have h2 : (kvs.map (·.1))[i]? = some k := by rw [List.getElem?_map, hi]; simp [q']
        exact (List.getElem?_inj (List.getElem?_eq_some_iff.mp h1).1 nd).mp (h1.trans h2.symm))
      simp [updT, hne]
theorem look_none {kvs : List (Int × Addr)} {k : Int} (h : look kvs k = none) : k ∉ kvs.map (·.1) := fun hm => by
  obtain ⟨q, hq, e⟩ := List.mem_map.mp hm
  unfold look at h
  rw [Option.map_eq_none_iff, List.find?_eq_none] at h
  exact h q hq (by simp [e])
theorem look_some {kvs : List (Int × Addr)} {k : Int} {a : Addr} (h : look kvs k = some a) : ∃ j : Nat, kvs[j]? = some (k, a) := by
  unfold look at h
  rw [Option.map_eq_some_iff] at h
  obtain ⟨q, hq, rfl⟩ := h
  obtain ⟨j, hj⟩ := List.getElem?_of_mem (List.mem_of_find?_eq_some hq)
  have := List.find?_some hq
  refine ⟨j, by rw [hj]; congr 1; ext1 <;> simp_all⟩
section
variable {w : World} {A : Around} {E : Value → Shared → Prop} {s : Shared} {env : Env} {G : Array GenState} {O : OsState} {V : View} {L : Addr} {ns : List Str} {vs : List (Option Value)} {own : List Kp}
/-- d[k], there or made -/
theorem k_ddget {pre : List Kp} {d : Addr} {kvs : List (Int × Addr)} {T : Int → List Int} {k : Int} {t : Tok} {Q : Value → Shared → Prop} (F : Fm w G O V L ns vs (pre ++ edg w d kvs T) s) (hd : (d == sysModules) = false) (hsz : kvs.length ≤ 100)
    (h : ∀ (a : Addr) (j : Nat) (kvs' : List (Int × Addr)) (T' : Int → List Int) (s' : Shared), Fm w G O V L ns vs (pre ++ edg w d kvs' T') s' → kvs'[j]? = some (k, a) → kvs'.map (·.1) = uniqStep (kvs.map (·.1)) k → (∀ x ∈ kvs.map (·.1), T' x = T x) → (k ∉ kvs.map (·.1) → T' k = []) → Q (.ref a) s') :
    wpAny (model P0 w) A (getItem (.ref d) (.int k t)) Q E s := by
  have hidx : (pre ++ edg w d kvs T)[pre.length]? = some (d, DDP kvs) := by rw [List.getElem?_append_right (Nat.le_refl _), Nat.sub_self]; rfl
  cases hl : look kvs k with
  | some a =>
    obtain ⟨j, hj⟩ := look_some hl
    have hm : k ∈ kvs.map (·.1) := List.mem_map.mpr ⟨_, List.mem_of_getElem? hj, rfl⟩
    refine k_ddhit (F.get (List.mem_of_getElem? hidx)) hl (h a j kvs T _ (F.tok _) hj ?_ (fun _ _ => rfl) fun hn => absurd hm hn)
    unfold uniqStep; rw [if_pos hm]
  | none =>
    have hn := look_none hl
    refine k_ddmiss F hidx hd hl hsz fun r s' H => ?_
    rw [List.set_append_right _ _ (Nat.le_refl _), Nat.sub_self] at H
    have e1 : edgs w kvs T = edgs w kvs (updT T k []) := (edgs_congr fun x hx => by unfold updT; rw [if_neg]; rintro rfl; exact hn hx).symm
    have H2 : Fm w G O V L ns vs ((r, SP w []) :: (pre ++ (d, DDP (kvs ++ [(k, r)])) :: edgs w kvs (updT T k []))) s' := by rw [← e1]; exact H
    have e2 : pre ++ edg w d (kvs ++ [(k, r)]) (updT T k []) = (pre ++ (d, DDP (kvs ++ [(k, r)])) :: edgs w kvs (updT T k [])) ++ [(r, SP w [])] := by
      simp [edg, edgs, updT]
    refine h r kvs.length (kvs ++ [(k, r)]) (updT T k []) s' (e2 ▸ H2.perm (List.perm_append_singleton _ _)) (by simp) ?_ (fun x hx => ?_) (fun _ => by simp [updT])
    · unfold uniqStep; rw [if_neg hn]; simp
    · unfold updT; rw [if_neg]; rintro rfl; exact hn hx
theorem uniqStep_nodup {xs : List Int} {k : Int} (h : xs.Nodup) : (uniqStep xs k).Nodup := by
  unfold uniqStep
  split
  · exact h
  · rename_i hn
    rw [List.nodup_append]
    exact ⟨h, by simp, fun a ha b hb e => by rw [List.mem_singleton] at hb; subst hb; exact hn (e ▸ ha)⟩
theorem uniqStep_mem {xs : List Int} {k x : Int} : x ∈ uniqStep xs k ↔ x ∈ xs ∨ x = k := by
  unfold uniqStep
  split
  · rename_i h; exact ⟨.inl, fun q => q.elim id fun e => e ▸ h⟩
  · simp
/-- the add of an item into one of the sets -/
theorem k_eadd {pre : List Kp} {d : Addr} {kvs : List (Int × Addr)} {T : Int → List Int} {j : Nat} {k y : Int} {a : Addr} {t : Tok} {Q : Value → Shared → Prop} (F : Fm w G O V L ns vs (pre ++ edg w d kvs T) s) (hj : kvs[j]? = some (k, a)) (nd : (kvs.map (·.1)).Nodup) (hy : 0 ≤ y ∧ y < 10)
    (h : ∀ T' s', Fm w G O V L ns vs (pre ++ edg w d kvs T') s' → (∀ x, x ≠ k → T' x = T x) → (∀ z, z ∈ T' k ↔ z ∈ T k ∨ z = y) → Q .none s') :
    wpAny (model P0 w) A (call (.builtin "set.add") [.ref a, .int y t]) Q E s := by
  have hidx : (pre ++ edg w d kvs T)[pre.length + (j + 1)]? = some (a, SP w (T k)) := by rw [List.getElem?_append_right (by omega), Nat.add_sub_cancel_left]; exact edgs_at hj
  obtain ⟨o, ho, dt, rfl, hI⟩ := F.get (List.mem_of_getElem? hidx)
  refine k_add F.ctx ho (.inl rfl) hI hy fun S' s' hS hch => ?_
  have H := F.chg hidx ⟨dt, rfl⟩ hch
  rw [List.set_append_right _ _ (by omega), Nat.add_sub_cancel_left] at H
  have e : (edg w d kvs T).set (j + 1) (a, SP w S') = edg w d kvs (updT T k S') := by
    show (d, DDP kvs) :: (edgs w kvs T).set j (a, SP w S') = _
    rw [edgs_set hj nd]; rfl
  rw [e] at H
  exact h _ s' H (fun x hx => by unfold updT; rw [if_neg hx]) fun z => by simp [updT, hS z]
end
end Mine
end
section
open PySem PySem.W PySem.Calls PyProof.Rows
set_option maxRecDepth 100000
set_option maxHeartbeats 1000000
set_option autoImplicit false
set_option linter.unusedVariables false
set_option linter.unusedSectionVars false
namespace Mine
section
variable {w : World} {A : Around} {E : Value → Shared → Prop} {s : Shared} {env : Env} {G : Array GenState} {O : OsState} {V : View} {L : Addr} {ns : List Str} {vs : List (Option Value)} {own : List Kp}
theorem e_subDD {value slice : PySem.Expr} {pos : Pos} {Q : Value → Shared → Prop}
    (h : wpAny (model P0 w) A (eval value env) (fun o s₁ => wpAny (model P0 w) A (eval slice env) (fun i s₂ => ∃ d, o = .ref d ∧ (d == sysModules) = false ∧ s₂.TypeIs (.ref d) DDT ∧ wpAny (model P0 w) A (getItem o i) Q E s₂) E s₁) E s)
    (hs : ∀ o i, subscripted slice false o i = operate [o, i] (getItem o i) := by intro _ _; with_unfolding_all rfl) :
    wpAny (model P0 w) A (eval (.Subscript value slice pos) env) Q E s := by
  refine Subscript_ (wpAny_mono h (fun o s₁ h₁ => wpAny_mono h₁ (fun i s₂ h₂ => ?_) fun _ _ x => x) fun _ _ x => x)
  obtain ⟨d, rfl, hd, hT, hq⟩ := h₂
  unfold subscriptTail
  refine wpAny_bind ?_
  rw [getitemInPython_of_ne (by simpa using hd)]
  refine wpAny_bind (wpAny_specialOf hT slot_dd_getitem.lookup ?_)
  have fin : wpAny (model P0 w) A (subscripted slice false (.ref d) i) (fun r s₃ => wpAny (model P0 w) A (letTemporaryGo value (.ref d) r >>= fun _ => pure r) Q E s₃) E s₂ := by
    rw [hs]
    exact wpAny_operating (wpAny_mono hq (fun r s₃ h₃ => wpAny_bind (wpAny_letTemporaryGo (wpAny_pure h₃))) fun _ _ x => x)
  first
    | exact wpAny_pure (wpAny_bind fin)
    | exact wpAny_bind (wpAny_pure (wpAny_bind fin))
    | exact wpAny_bind fin
    | exact wpAny_pure fin
end
end Mine
end
section
open PySem PySem.W PySem.Calls PyProof.Rows
set_option maxRecDepth 100000
set_option maxHeartbeats 1000000
set_option autoImplicit false
set_option linter.unusedVariables false
set_option linter.unusedSectionVars false
namespace Mine
theorem r10_lay : ∀ {xs : List Int}, R10 xs → xs.length ≤ 1000 → True := fun _ _ => trivial
section
variable {w : World} {A : Around} {E : Value → Shared → Prop} {s : Shared} {env : Env} {G : Array GenState} {O : OsState} {V : View} {L : Addr} {ns : List Str} {vs : List (Option Value)} {own : List Kp}
theorem k_truthyL {l : Addr} {xs : List Int} {Q : Bool → Shared → Prop} (F : Fm w G O V L ns vs own s) (hl : HasP s.heap (l, IL xs)) (hz : xs.length ≤ 1000) (h : ∀ s', Fm w G O V L ns vs own s' → Q (!xs.isEmpty) s') :
    wpAny (model P0 w) A (truthy (.ref l)) Q E s := by
  obtain ⟨o, ho, v, ⟨n, rfl⟩, hv⟩ := hl
  have hlen := IntsAre.length hv
  refine wpAny_truthy_list (items := v.toArray) ⟨_, ho, rfl, n, rfl⟩ (by simp; omega) ?_
  have e : (!v.toArray.isEmpty) = !xs.isEmpty := by
    cases v <;> cases xs <;> simp_all
  rw [e]
  exact h _ (F.tok _)
theorem k_inL {l : Addr} {xs : List Int} {k : Int} {t : Tok} {Q : Value → Shared → Prop} (hl : HasP s.heap (l, IL xs)) (h : Q (.bool (decide (k ∈ xs))) s) : wpAny (model P0 w) A (compareOp .In (.int k t) (.ref l)) Q E s := by
  obtain ⟨o, ho, v, ⟨n, rfl⟩, hv⟩ := hl
  refine in_list_ints ⟨_, ho, rfl, n, rfl⟩ hv ?_
  have e : (xs.any (· == k)) = decide (k ∈ xs) := by rw [Bool.eq_iff_iff]; simp
  rw [e]; exact h
theorem k_notinL {l : Addr} {xs : List Int} {k : Int} {t : Tok} {Q : Value → Shared → Prop} (hl : HasP s.heap (l, IL xs)) (h : Q (.bool (!decide (k ∈ xs))) s) : wpAny (model P0 w) A (compareOp .NotIn (.int k t) (.ref l)) Q E s := by
  obtain ⟨o, ho, v, ⟨n, rfl⟩, hv⟩ := hl
  refine notin_list_ints ⟨_, ho, rfl, n, rfl⟩ hv ?_
  have e : (xs.any (· == k)) = decide (k ∈ xs) := by rw [Bool.eq_iff_iff]; simp
  rw [e]; exact h
theorem k_indexL {l : Addr} {xs : List Int} {k : Int} {t : Tok} {Q : Value → Shared → Prop} (F : Fm w G O V L ns vs own s) (hl : HasP s.heap (l, IL xs)) (hz : xs.length ≤ 1000) (hk : k ∈ xs) (h : ∀ t s', Fm w G O V L ns vs own s' → Q (.int (xs.idxOf k : Nat) t) s') :
    wpAny (model P0 w) A (call (.builtin "list.index") [.ref l, .int k t]) Q E s := by
  obtain ⟨o, ho, v, ⟨n, rfl⟩, hi⟩ := hl
  have hlen := hi.length
  have hj : xs.idxOf k < xs.length := List.idxOf_lt_length_iff.mpr hk
  refine call_meets PySem.F.slot_list_index ⟨_, ho, rfl⟩ PySem.F.entry_list_index (PySem.F.args_list_index_2 _ _)
    (SeqAt.list_indexAt l v.toArray n none #[] (.int k t) (isInt k) (xs.idxOf k) (by simpa [hlen] using hj) (by omega) ?_ ?_) ⟨ho, fun y hy => (eq_isInt k t hi y (by simpa using hy)).at _ _, h _ _ (F.tok _)⟩
  · show isInt k v[xs.idxOf k] = true
    rw [isInt_at k hi _ (by omega) hj]
    simpa using List.getElem_idxOf hj
  · intro j hjs hlt
    show isInt k v[j] = false
    rw [isInt_at k hi j (by simpa using hjs) (by omega)]
    exact ne_of_lt_idxOf hlt _
theorem IntsAre.dropLast {vs : List Value} {xs : List Int} (h : IntsAre vs xs) : IntsAre vs.dropLast xs.dropLast := by
  induction h with
  | nil => exact .nil
  | cons n t hr ih =>
    cases hr with
    | nil => exact .nil
    | cons n' t' hr' => exact .cons _ _ ih
theorem IntsAre.tail {vs : List Value} {xs : List Int} (h : IntsAre vs xs) : IntsAre vs.tail xs.tail := by
  cases h with
  | nil => exact .nil
  | cons n t hr => exact hr
theorem IntsAre.takeN {vs : List Value} {xs : List Int} (h : IntsAre vs xs) : ∀ i, IntsAre (vs.take i) (xs.take i) := by
  induction h with
  | nil => intro i; simp; exact .nil
  | cons n t' hr ih =>
    intro i
    cases i with
    | zero => exact .nil
    | succ i => exact .cons _ _ (ih i)
/-- the last is taken off -/
theorem k_popL {l : Addr} {xs : List Int} {i : Nat} {Q : Value → Shared → Prop} (F : Fm w G O V L ns vs own s) (hi : own[i]? = some (l, IL xs)) (hz : xs.length ≤ 1000) (hne : xs ≠ [])
    (h : ∀ y s', Fm w G O V L ns vs (own.set i (l, IL xs.dropLast)) s' → Q y s') : wpAny (model P0 w) A (call (.builtin "list.pop") [.ref l]) Q E s := by
  obtain ⟨o, ho, v, ⟨n, rfl⟩, hv⟩ := F.get (List.mem_of_getElem? hi)
  have hlen := hv.length
  have hpos : 0 < xs.length := List.length_pos_iff.mpr hne
  obtain ⟨y, hy⟩ : ∃ y, v.toArray[v.toArray.size - 1]? = some y := ⟨_, Array.getElem?_eq_getElem (by simp; omega)⟩
  refine call_meets PySem.F.slot_list_pop ⟨_, ho, rfl⟩ PySem.F.entry_list_pop (PySem.F.args_list_pop_1 _) (MeetsSeq.list_pop_last l v.toArray n y hy (by rw [sizeLine_eq]; simp; omega)) ⟨ho, ?_⟩
  have e : (v.toArray.eraseIdxIfInBounds (v.toArray.size - 1)) = v.dropLast.toArray := by
    apply Array.toList_inj.mp
    rw [Array.eraseIdxIfInBounds, dif_pos (by simp; omega)]
    simp [List.dropLast_eq_take, List.eraseIdx_eq_take_drop_succ]
    omega
  have hu := IsL.update ho (fun xs => xs.eraseIdxIfInBounds (v.toArray.size - 1))
  rw [e] at hu
  exact h _ _ (F.change (s' := { s with heap := s.heap.update l (Obj.mapSeq fun xs => xs.eraseIdxIfInBounds (v.toArray.size - 1)) }) hi (Heap.SameBut.update ..).extBut ⟨_, hu, v.dropLast, ⟨_, rfl⟩, IntsAre.dropLast hv⟩ F.gens F.os)
/-- the first is taken off -/
theorem k_pop0 {l : Addr} {x : Int} {xs : List Int} {i : Nat} {u : Tok} {Q : Value → Shared → Prop} (F : Fm w G O V L ns vs own s) (hi : own[i]? = some (l, IL (x :: xs))) (hz : xs.length ≤ 1000)
    (h : ∀ t s', Fm w G O V L ns vs (own.set i (l, IL xs)) s' → Q (.int x t) s') : wpAny (model P0 w) A (call (.builtin "list.pop") [.ref l, .int 0 u]) Q E s := by
  obtain ⟨o, ho, v, ⟨n, rfl⟩, hv⟩ := F.get (List.mem_of_getElem? hi)
  cases hv with
  | cons _ t hr =>
  rename_i v
  have hlen := hr.length
  refine call_meets PySem.F.slot_list_pop ⟨_, ho, rfl⟩ PySem.F.entry_list_pop (PySem.F.args_list_pop_2 _ _) (MeetsSeq.list_pop_at l (Value.int x t :: v).toArray n 0 u 0 (.int x t) (by decide) (by simp [seqIndex?]) (by simp) (by rw [sizeLine_eq]; simp; omega)) ⟨ho, ?_⟩
  have e : ((Value.int x t :: v).toArray.eraseIdxIfInBounds 0) = v.toArray := by
    apply Array.toList_inj.mp
    rw [Array.eraseIdxIfInBounds, dif_pos (by simp)]
    simp
  have hu := IsL.update ho (fun xs => xs.eraseIdxIfInBounds 0)
  rw [e] at hu
  exact h _ _ (F.change (s' := { s with heap := s.heap.update l (Obj.mapSeq fun xs => xs.eraseIdxIfInBounds 0) }) hi (Heap.SameBut.update ..).extBut ⟨_, hu, v, ⟨_, rfl⟩, hr⟩ F.gens F.os)
end
end Mine
end
section
open PySem PySem.W PySem.Calls PyProof.Rows
set_option maxRecDepth 100000
set_option maxHeartbeats 1000000
set_option autoImplicit false
set_option linter.unusedVariables false
set_option linter.unusedSectionVars false
namespace Mine
section
variable {w : World} {A : Around} {E : Value → Shared → Prop} {s : Shared} {env : Env} {G : Array GenState} {O : OsState} {V : View} {L : Addr} {ns : List Str} {vs : List (Option Value)} {own : List Kp}
/-- the last item -/
theorem e_subLast {value : PySem.Expr} {k : Nat} {p1 p2 pos : Pos} {Q : Value → Shared → Prop}
    (h : wpAny (model P0 w) A (eval value env) (fun o s₁ => ∃ l xs x G O V L ns vs own, o = .ref l ∧ Fm w G O V L ns vs own s₁ ∧ (l, IL (xs ++ [x])) ∈ own ∧ xs.length ≤ 1000 ∧ ∀ t s', Fm w G O V L ns vs own s' → Q (.int x t) s') E s)
    (hs : ∀ o i, subscripted (.UnaryOp .USub (.Constant (.int 1) k p1) p2) false o i = operate [o, i] (getItem o i) := by intro _ _; with_unfolding_all rfl) :
    wpAny (model P0 w) A (eval (.Subscript value (.UnaryOp .USub (.Constant (.int 1) k p1) p2) pos) env) Q E s := by
  refine Subscript_ (wpAny_mono h (fun o s₁ h₁ => ?_) fun _ _ x => x)
  obtain ⟨l, xs, x, G, O, V, L, ns, vs, own, rfl, F, hl, hz, hq⟩ := h₁
  refine e_unary (e_int F fun t s₂ F2 => P.neg_int ?_)
  have F3 := F2.tok (s₂.toks + 1)
  obtain ⟨o, ho, v, ⟨n, rfl⟩, hv⟩ := F3.get hl
  have hlen := hv.length
  have hlL : (({ s₂ with toks := s₂.toks + 1 } : Shared)).heap.IsList l v.toArray := ⟨_, ho, rfl, n, rfl⟩
  obtain ⟨tx, hvx⟩ := at_ints hv xs.length x (by simp)
  have hsz : v.toArray.size = xs.length + 1 := by simp [hlen]
  unfold subscriptTail
  refine wpAny_bind ?_
  rw [getitemInPython_of_ne hlL.typeIs.not_modules]
  refine wpAny_bind (wpAny_specialOf hlL.typeIs PySem.F.slot_list_getitem.lookup ?_)
  have fin : wpAny (model P0 w) A (subscripted (.UnaryOp .USub (.Constant (.int 1) k p1) p2) false (.ref l) (.int (-1) s₂.toks)) (fun r s₃ => wpAny (model P0 w) A (letTemporaryGo value (.ref l) r >>= fun _ => pure r) Q E s₃) E { s₂ with toks := s₂.toks + 1 } := by
    rw [hs]
    refine wpAny_operating (wpAny_getItem_list_neg hlL (by decide) (by omega) (by decide) (x := .int x tx) ?_ (wpAny_bind (wpAny_letTemporaryGo (wpAny_pure (hq tx _ F3)))))
    have : ((-1 : Int) + v.toArray.size).toNat = xs.length := by omega
    rw [this]; exact hvx
  first
    | exact wpAny_pure (wpAny_bind fin)
    | exact wpAny_bind (wpAny_pure (wpAny_bind fin))
    | exact wpAny_bind fin
    | exact wpAny_pure fin
/-- a slice of a list of ints -/
theorem e_slice {value : PySem.Expr} {lower upper : Option PySem.Expr} {p pos : Pos} {Q : Value → Shared → Prop}
    (h : wpAny (model P0 w) A (eval value env) (fun o s₁ => wpAny (model P0 w) A (evalPart lower env) (fun vl s₂ => wpAny (model P0 w) A (evalPart upper env) (fun vu s₃ => ∃ l xs a b G O V L ns vs own, o = .ref l ∧ Fm w G O V L ns vs own s₃ ∧ HasP s₃.heap (l, IL xs) ∧ xs.length ≤ 1000 ∧
      (∀ vs : List Value, IntsAre vs xs → ∃ lo hi, IsPart vl lo ∧ IsPart vu hi ∧ slicePick vs.toArray lo hi none = ((vs.drop a).take b).toArray) ∧ ∀ r s', Fm w G O V L ns vs ((r, IL ((xs.drop a).take b)) :: own) s' → Q (.ref r) s') E s₂) E s₁) E s)
    (ht : ∀ o r, letTemporaryGo value o r = pure () := by intro _ _; rfl) :
    wpAny (model P0 w) A (eval (.Subscript value (.Slice lower upper none p) pos) env) Q E s := by
  refine wpAny_Subscript_Slice (T := "list") F.slot_list_getitem.lookup (wpAny_mono h (fun o s₁ h₁ => wpAny_Slice (wpAny_mono h₁ (fun vl s₂ h₂ => wpAny_mono h₂ (fun vu s₃ h₃ => ?_) fun _ _ x => x) fun _ _ x => x)) fun _ _ x => x) ht
  rw [evalPart_none]
  refine wpAny_pure ?_
  obtain ⟨l, xs, a, b, G, O, V, L, ns, vs, own, rfl, F, ⟨o, ho, v, ⟨n, rfl⟩, hv⟩, hz, hpart, hq⟩ := h₃
  obtain ⟨lo', hi', pl, pu, e⟩ := hpart v hv
  have hl : s₃.heap.IsList l v.toArray := ⟨_, ho, rfl, n, rfl⟩
  have hlen := hv.length
  refine ⟨Heap.IsList.typeIs (s := { s₃ with heap := s₃.heap.push { cls := .type "slice", data := .fields #[vl, vu, .none] } }) (hl.push _), ?_⟩
  refine wpAny_getItem_list_slice (hl.push _) (Heap.IsSliceOf.new ..) pl pu .none (by simp) ?_ (by rw [sizeLine_eq]; simp; omega)
  have F1 := F.push (t := s₃.toks) { cls := .type "slice", data := .fields #[vl, vu, .none] } (p := fun _ => True) trivial
  have F2 := (F1.push (t := s₃.toks) { cls := .type "list", data := .seq (slicePick v.toArray lo' hi' none) } (p := IL ((xs.drop a).take b)) ⟨_, ⟨0, by rw [e]⟩, IntsAre.takeN (IntsAre.dropN hv a) b⟩).sub (own' := (_, IL ((xs.drop a).take b)) :: own) (.cons_cons _ (.cons _ (.refl _)))
  exact hq _ _ F2
end
end Mine
end
section
set_option autoImplicit false
set_option linter.unusedVariables false
namespace Mine
/-! the search for rings, plainly -/
noncomputable def Ed (ps : List (Int × Int)) (a b : Int) : Prop := (a, b) ∈ ps
noncomputable def Cyc (ps : List (Int × Int)) (x : Int) : Prop := Relation.TransGen (Ed ps) x x
noncomputable def Par (ps : List (Int × Int)) (x : Int) : Prop := ∃ c, (x, c) ∈ ps
structure DI (ps : List (Int × Int)) (v : Int) (stack todo out : List Int) : Prop where
  path : ∀ i a b, stack[i]? = some a → stack[i + 1]? = some b → (a, b) ∈ ps
  head : stack ≠ [] → stack[0]? = some v
  pars : ∀ x ∈ stack, Par ps x
  part : ∀ x ∈ todo, Par ps x
  disj : ∀ x ∈ stack, x ∉ todo
  vt : v ∉ todo
  nd : stack.Nodup
  sound : ∀ x ∈ out, Cyc ps x
  fin : ∀ u, Par ps u → u ∉ todo → u ∉ stack → ∀ c, (u, c) ∈ ps → c ∉ todo ∧ (c = v → v ∈ out)

theorem path_to {ps : List (Int × Int)} {stack : List Int} (path : ∀ i a b, stack[i]? = some a → stack[i + 1]? = some b → (a, b) ∈ ps) :
    ∀ (d i : Nat) (a b : Int), stack[i]? = some a → stack[i + d + 1]? = some b → Relation.TransGen (Ed ps) a b
  | 0, i, a, b, ha, hb => .single (path i a b ha hb)
  | d + 1, i, a, b, ha, hb => by
    have hlt : i + (d + 1) + 1 < stack.length := (List.getElem?_eq_some_iff.mp hb).1
    obtain ⟨m, hm⟩ : ∃ m, stack[i + d + 1]? = some m := ⟨_, List.getElem?_eq_getElem (by omega)⟩
    exact .tail (path_to path d i a m ha hm) (path (i + d + 1) m b hm hb)
theorem tg_trans {r : Int → Int → Prop} {a b c : Int} (h : Relation.TransGen r a b) (g : Relation.TransGen r b c) : Relation.TransGen r a c := by
  induction g with
  | single e => exact .tail h e
  | tail _ e ih => exact .tail ih e

theorem DI.start {ps : List (Int × Int)} {v : Int} {K todo out : List Int} (hK : ∀ x, x ∈ K ↔ Par ps x) (hv : v ∈ K) (ht : ∀ x, x ∈ todo ↔ x ∈ K ∧ x ≠ v) (hs : ∀ x ∈ out, Cyc ps x) : DI ps v [v] todo out where
  path := fun i a b _ hb => by simp at hb
  head := fun _ => rfl
  pars := fun x hx => by rw [List.mem_singleton] at hx; subst hx; exact (hK _).mp hv
  part := fun x hx => (hK x).mp ((ht x).mp hx).1
  disj := fun x hx h => by rw [List.mem_singleton] at hx; exact ((ht x).mp h).2 hx
  vt := fun h => ((ht v).mp h).2 rfl
  nd := by simp
  sound := hs
  fin := fun u hu h1 h2 => absurd ((ht u).mpr ⟨(hK u).mpr hu, fun e => h2 (by simp [e])⟩) h1

/-- what is met on the stack lies on a ring -/
theorem DI.met {ps : List (Int × Int)} {v top c : Int} {stack todo out : List Int} (D : DI ps v (stack ++ [top]) todo out) (hc : c ∈ stack ++ [top]) (he : (top, c) ∈ ps) :
    ∀ x ∈ (stack ++ [top]).drop ((stack ++ [top]).idxOf c), Cyc ps x := by
  intro x hx
  obtain ⟨j, hj⟩ := List.getElem?_of_mem hx
  rw [List.getElem?_drop] at hj
  have hci : (stack ++ [top])[(stack ++ [top]).idxOf c]? = some c := by
    rw [List.getElem?_eq_getElem (List.idxOf_lt_length_iff.mpr hc)]; simp
  have htop : (stack ++ [top])[stack.length]? = some top := by simp
  have hjl : (stack ++ [top]).idxOf c + j < (stack ++ [top]).length := (List.getElem?_eq_some_iff.mp hj).1
  have hjl' : (stack ++ [top]).idxOf c + j ≤ stack.length := by simp at hjl; omega
  generalize (stack ++ [top]).idxOf c = i at *
  -- from c to x
  have h1 : x = c ∨ Relation.TransGen (Ed ps) c x := by
    cases j with
    | zero => left; rw [Nat.add_zero, hci] at hj; exact (Option.some.inj hj).symm
    | succ d => exact .inr (path_to D.path d i c x hci hj)
  -- from x to top
  have h2 : x = top ∨ Relation.TransGen (Ed ps) x top := by
    rcases Nat.lt_or_ge (i + j) stack.length with h | h
    · obtain ⟨d, hd⟩ : ∃ d, stack.length = (i + j) + d + 1 := ⟨stack.length - (i + j) - 1, by omega⟩
      exact .inr (path_to D.path d (i + j) x top hj (hd ▸ htop))
    · have : i + j = stack.length := by omega
      rw [this, htop] at hj; exact .inl (Option.some.inj hj).symm
  have h3 : Relation.TransGen (Ed ps) x c := h2.elim (fun e => .single (by rw [e]; exact he)) fun g => .tail g he
  exact h1.elim (fun e => e ▸ h3) fun g => tg_trans h3 g

theorem DI.outs {ps : List (Int × Int)} {v : Int} {stack todo out out' : List Int} (D : DI ps v stack todo out) (h : ∀ x ∈ out, x ∈ out') (hs : ∀ x ∈ out', Cyc ps x) : DI ps v stack todo out' :=
  ⟨D.path, D.head, D.pars, D.part, D.disj, D.vt, D.nd, hs, fun u a b c d e => ⟨(D.fin u a b c d e).1, fun q => h _ ((D.fin u a b c d e).2 q)⟩⟩
theorem DI.todos {ps : List (Int × Int)} {v : Int} {stack todo todo' out : List Int} (D : DI ps v stack todo out) (h : ∀ x, x ∈ todo' ↔ x ∈ todo) : DI ps v stack todo' out :=
  ⟨D.path, D.head, D.pars, fun x hx => D.part x ((h x).mp hx), fun x hx q => D.disj x hx ((h x).mp q), fun q => D.vt ((h v).mp q), D.nd, D.sound,
    fun u a b c d e => ⟨fun q => (D.fin u a (fun q => b ((h u).mpr q)) c d e).1 ((h d).mp q), (D.fin u a (fun q => b ((h u).mpr q)) c d e).2⟩⟩

theorem DI.push {ps : List (Int × Int)} {v top c : Int} {stack todo todo' out : List Int} (D : DI ps v (stack ++ [top]) todo out) (hc : c ∈ todo) (he : (top, c) ∈ ps) (ht : ∀ x, x ∈ todo' ↔ x ∈ todo ∧ x ≠ c) :
    DI ps v (stack ++ [top] ++ [c]) todo' out where
  path := fun i a b ha hb => by
    have hlt : i + 1 < (stack ++ [top] ++ [c]).length := (List.getElem?_eq_some_iff.mp hb).1
    simp at hlt
    rcases Nat.lt_or_ge (i + 1) (stack ++ [top]).length with h | h
    · rw [List.getElem?_append_left h] at hb
      rw [List.getElem?_append_left (by omega)] at ha
      exact D.path i a b ha hb
    · have hi : i = stack.length := by simp at h; omega
      subst hi
      have e1 : (stack ++ [top] ++ [c])[stack.length]? = some top := by simp
      have e2 : (stack ++ [top] ++ [c])[stack.length + 1]? = some c := by simp
      rw [e1] at ha; rw [e2] at hb
      rw [← Option.some.inj ha, ← Option.some.inj hb]; exact he
  head := fun _ => by
    have := D.head (by simp)
    rw [List.getElem?_append_left (by simp)]; exact this
  pars := fun x hx => by
    rcases List.mem_append.mp hx with hx | hx
    · exact D.pars x hx
    · rw [List.mem_singleton] at hx; subst hx; exact D.part _ hc
  part := fun x hx => D.part x ((ht x).mp hx).1
  disj := fun x hx q => by
    rcases List.mem_append.mp hx with hx | hx
    · exact D.disj x hx ((ht x).mp q).1
    · rw [List.mem_singleton] at hx; exact ((ht x).mp q).2 hx
  vt := fun q => D.vt ((ht v).mp q).1
  nd := by
    rw [List.nodup_append]
    exact ⟨D.nd, by simp, fun a ha b hb e => by rw [List.mem_singleton] at hb; subst hb; exact D.disj a ha (e ▸ hc)⟩
  sound := D.sound
  fin := fun u a b d x hx => by
    have hu : u ∉ stack ++ [top] := fun q => d (List.mem_append_left _ q)
    have huc : u ≠ c := fun q => d (by simp [q])
    have := D.fin u a (fun q => b ((ht u).mpr ⟨q, huc⟩)) hu x hx
    exact ⟨fun q => this.1 ((ht x).mp q).1, this.2⟩

theorem DI.pop {ps : List (Int × Int)} {v top : Int} {stack todo out : List Int} (D : DI ps v (stack ++ [top]) todo out) (hall : ∀ c, (top, c) ∈ ps → c ∉ todo ∧ (c = v → v ∈ out)) : DI ps v stack todo out where
  path := fun i a b ha hb => by
    have h1 := (List.getElem?_eq_some_iff.mp hb).1
    refine D.path i a b ?_ ?_
    · rw [List.getElem?_append_left (by omega)]; exact ha
    · rw [List.getElem?_append_left h1]; exact hb
  head := fun h => by
    have := D.head (by simp)
    rwa [List.getElem?_append_left (List.length_pos_iff.mpr h)] at this
  pars := fun x hx => D.pars x (List.mem_append_left _ hx)
  part := D.part
  disj := fun x hx => D.disj x (List.mem_append_left _ hx)
  vt := D.vt
  nd := (List.nodup_append.mp D.nd).1
  sound := D.sound
  fin := fun u a b d x hx => by
    by_cases e : u = top
    · subst e; exact hall x hx
    · exact D.fin u a b (fun q => (List.mem_append.mp q).elim d fun q => e (by simpa using q)) x hx

theorem DI.done {ps : List (Int × Int)} {v : Int} {todo out : List Int} (D : DI ps v [] todo out) (hc : Cyc ps v) : v ∈ out := by
  have key : ∀ x, Relation.TransGen (Ed ps) v x → x ∉ todo ∧ (x = v → v ∈ out) := by
    intro x hx
    have hv : Par ps v := by
      have : ∀ y, Relation.TransGen (Ed ps) v y → Par ps v := by
        intro y hy
        induction hy with
        | single e => exact ⟨_, e⟩
        | tail _ _ ih => exact ih
      exact this x hx
    induction hx with
    | single e => exact D.fin v hv D.vt (by simp) _ e
    | tail h e ih => exact D.fin _ ⟨_, e⟩ ih.1 (by simp) _ e
  exact (key v hc).2 rfl
end Mine
end
section
open PySem PySem.W PySem.Calls PyProof.Rows
set_option maxRecDepth 100000
set_option maxHeartbeats 1000000
set_option autoImplicit false
set_option linter.unusedVariables false
set_option linter.unusedSectionVars false
namespace Mine
section
variable {w : World} {A : Around} {E : Value → Shared → Prop} {s : Shared} {env : Env} {G : Array GenState} {O : OsState} {V : View} {L : Addr} {ns : List Str} {vs : List (Option Value)} {own : List Kp}
theorem i_set {a : Addr} {S : List Int} {Q : Value → Shared → Prop} (H : Fm w G O V L ns vs own s) (hh : A.handled = none) (ha : HasP s.heap (a, SP w S))
    (h : ∀ I s' ord Sh o, Fm w G O V L ns vs ((I, Sh 0) :: own) s' → List.Perm ord S → s.heap.get? a = some o → a ≠ I → Iter w A I ord.length (fun i v => ∃ t x, ord[i]? = some x ∧ v = .int x t) Sh (fun h => h.get? a = some o) → Q (.ref I) s') :
    wpAny (model P0 w) A (pyIter (.ref a)) Q E s := by
  obtain ⟨_, ho, d, rfl, ⟨es, ep, t, rfl, hs, hi, hp, hnd⟩, hr⟩ := ha
  have hT : s.TypeIs (.ref a) "set" := ⟨_, ho, rfl⟩
  have hd : (setO (.set es ep t)).data = .set es ep t := rfl
  refine wpAny_pyIter_slot hT F.slot_set_iter (wpAny_call_entry F.slot_set_iter hT entry_set_iter ?_ (by unfold argsOk; kernel_rfl))
  unfold Builtin.«frozenset.__iter__»
  refine wpAny_bind (m := Builtin.Frozenset.slot0 _ _) (wpAny_of_eq (a := a) rfl ?_)
  have hI : IS10 w (setO (.set es ep t)).data S := ⟨⟨es, ep, t, rfl, hs, hi, hp, hnd⟩, hr⟩
  refine wpAny_bind (w_size ho hI ?_)
  refine wpAny_bind ?_
  unfold setDrawn
  refine wpAny_bind (wpAny_setState_of ho hd hs.fits ?_)
  refine wpAny_bind (w_byText (wpAny_pure ?_))
  dsimp only
  refine wp_if_false (show (!byT w && (!t.plain && decide (es.size > 1))) = false by rw [hs.pl]; simp) ?_
  refine wpAny_bind (wpAny_pure ?_)
  show wpAny _ _ (setEpoch a >>= _) _ _ _
  refine wpAny_bind ?_
  unfold setEpoch
  refine wpAny_bind (wpAny_setState_of ho hd hs.fits (wpAny_pure ?_))
  have hne : a ≠ s.heap.objs.size := Nat.ne_of_lt (Heap.lt_size ho)
  have hlen : S.length = es.size := by rw [← hp.length_eq]; simp
  refine wpAny_bind (wpAny_newObj_type (wpAny_pure ⟨_, rfl, "set_iterator", _, ⟨_, Heap.get?_push_size _ rfl, rfl⟩, slot_si_next.lookup, ?_⟩))
  have It := Iter.set (w := w) (A := A) (o := setO (.set es ep t)) hh s.heap.objs.size a hne hd hs
  have hperm := wOrd_perm w a es ep
  have hol : ((wOrd w a es ep).toList.map ekey).length = es.size := by rw [List.length_map, hperm.length_eq]; simp
  refine h s.heap.objs.size _ ((wOrd w a es ep).toList.map ekey) (SIt w a t es.size ep) _ (H.push _ ⟨rfl, by simp [rawInt, hlen, slotAt]⟩) ((hperm.map ekey).trans hp) ho hne ?_
  rw [hol]
  refine ⟨fun i s Q E hi' hp' hu hQ => It.item i s Q E hi' hp' hu fun v h' tk hP => hQ v h' tk ?_, It.done, It.self⟩
  obtain ⟨e, he, rfl⟩ := hP
  have hel : (wOrd w a es ep).toList[i]? = some e := by simpa using he
  obtain ⟨k, tk', rfl⟩ := hi e (hperm.mem_iff.mp (List.mem_of_getElem? hel))
  exact ⟨tk', k, by rw [List.getElem?_map, hel]; rfl, rfl⟩
/-- a for loop, its invariant told once the iterator is known -/
theorem x_ForX {target iter : PySem.Expr} {body orelse : List Stmt} {pos : Pos} {Q : Flow → Shared → Prop} (_F₀ : Fm w G O V L ns vs own s)
    (h : wpAny (model P0 w) A (eval iter env) (fun xv s₁ => wpAny (model P0 w) A (pyIter xv) (fun it s₂ => ∃ (INV : Nat → List (Option Value) → List Kp → Prop) (I : Addr) (n i₀ : Nat) (P : Nat → Value → Prop) (Sh : Nat → Obj → Prop) (U : Heap → Prop) (vs : List (Option Value)) (own : List Kp), it = .ref I ∧ Iter w A I n P Sh U ∧ i₀ ≤ n ∧
      Fm w G O V L ns vs ((I, Sh i₀) :: own) s₂ ∧ INV i₀ vs own ∧
      (∀ i vs own s, INV i vs own → Fm w G O V L ns vs ((I, Sh i) :: own) s → U s.heap) ∧
      (∀ i v vs own s, i < n → P i v → INV i vs own → Fm w G O V L ns vs ((I, Sh (i + 1)) :: own) s → wpAny (model P0 w) A (assign target env v) (fun _ s' => wpAny (model P0 w) A (execs body env) (fun fl s'' => match fl with
        | .next | .cont => ∃ vs' own', Fm w G O V L ns vs' ((I, Sh (i + 1)) :: own') s'' ∧ INV (i + 1) vs' own'
        | .brk => Q .next s''
        | .ret v => Q (.ret v) s'') noE s') noE s) ∧
      (∀ vs own s, INV n vs own → Fm w G O V L ns vs own s → wpAny (model P0 w) A (execs orelse env) Q noE s)) E s₁) E s)
    (ht : ∀ it v, letOwnedTupleGo target it v = pure () := by intro _ _; rfl)
    (hs : ∀ x, foldedSetIterable iter env x = pure x := by intro _; rfl) :
    wpAny (model P0 w) A (exec (.For target iter body orelse pos) env) Q E s := by
  refine wpAny_For (wpAny_mono h (fun xv s₁ h₁ => wpAny_mono h₁ (fun it s₂ h₂ => ?_) fun _ _ x => x) fun _ _ x => x) hs
  obtain ⟨INV, I, n, i₀, P, Sh, U, vs, own, rfl, It, hi₀, F, hInv, hU, hstep, hdone⟩ := h₂
  refine codeAny_forLoop (fun k s => ∃ i vs own, k = n - i ∧ i ≤ n ∧ Fm w G O V L ns vs ((I, Sh i) :: own) s ∧ INV i vs own) ?_ (n - i₀) ⟨i₀, vs, own, rfl, hi₀, F, hInv⟩ (ht _)
  rintro k s ⟨i, vs, own, rfl, hi, F, hInv⟩
  by_cases hlt : i < n
  · refine It.item i s _ _ hlt (F.get (.head _)) (hU i vs own s hInv F) fun v h' tk hP hp' hk => ?_
    have F' : Fm w G O V L ns vs ((I, Sh (i + 1)) :: own) { s with heap := h', toks := tk } := F.head rfl hk hp' F.gens F.os
    refine wpAny_mono (hstep i v vs own _ hlt hP hInv F') (fun _ s₃ h₃ => wpAny_mono h₃ (fun fl s₄ h₄ => ?_) fun _ _ (x : False) => x.elim) fun _ _ (x : False) => x.elim
    cases fl with
    | next => obtain ⟨vs', own', F₄, hI⟩ := h₄; exact ⟨n - (i + 1), by omega, i + 1, vs', own', rfl, hlt, F₄, hI⟩
    | cont => obtain ⟨vs', own', F₄, hI⟩ := h₄; exact ⟨n - (i + 1), by omega, i + 1, vs', own', rfl, hlt, F₄, hI⟩
    | brk => exact h₄
    | ret v => exact h₄
  · have hin : i = n := by omega
    subst hin
    refine It.done s _ _ (F.get (.head _)) (hU i vs own s hInv F) fun h' tk hk => ?_
    exact wpAny_mono (hdone vs own _ hInv (F.drop (s' := { s with heap := h', toks := tk }) rfl hk F.gens F.os)) (fun _ _ x => x) fun _ _ (x : False) => x.elim
end
end Mine
end
section
open PySem PySem.W PySem.Calls PyProof.Rows
set_option maxRecDepth 100000
set_option maxHeartbeats 1000000
set_option autoImplicit false
set_option linter.unusedVariables false
set_option linter.unusedSectionVars false
namespace Mine
theorem slice_from {vs : List Value} {xs : List Int} {k : Nat} (hv : IntsAre vs xs) (hk : k ≤ xs.length) :
    slicePick vs.toArray (some (k : Int)) none none = ((vs.drop k).take (xs.length - k)).toArray := by
  have e : sliceBounds (some (k : Int)) none none vs.toArray.size = ((k : Int), ((xs.length : Nat) : Int), 1) := by
    have hs : vs.toArray.size = xs.length := by rw [List.size_toArray, hv.length]
    simp only [sliceBounds, Option.getD_none, show (1 : Int) > 0 by decide, if_true, if_neg (show ¬ ((k : Int) < 0) by omega), hs]
    congr 1
    omega
  exact kmk_pick_nat _ e
theorem slice_to {vs : List Value} {xs : List Int} {k : Nat} (hv : IntsAre vs xs) (hk : k ≤ xs.length) :
    slicePick vs.toArray none (some (k : Int)) none = ((vs.drop 0).take k).toArray := by
  have e : sliceBounds none (some (k : Int)) none vs.toArray.size = (((0 : Nat) : Int), ((k : Nat) : Int), 1) := by
    have hs : vs.toArray.size = xs.length := by rw [List.size_toArray, hv.length]
    simp only [sliceBounds, Option.getD_none, show (1 : Int) > 0 by decide, if_true, if_neg (show ¬ ((k : Int) < 0) by omega), hs]
    congr 1
    congr 1
    omega
  exact kmk_pick_nat _ e
theorem slice_mid {vs : List Value} {xs : List Int} {j k : Nat} (hv : IntsAre vs xs) :
    slicePick vs.toArray (some (j : Int)) (some (k : Int)) none = ((vs.drop (min j xs.length)).take (min k xs.length - min j xs.length)).toArray := by
  have e : sliceBounds (some (j : Int)) (some (k : Int)) none vs.toArray.size = (((min j xs.length : Nat) : Int), ((min k xs.length : Nat) : Int), 1) := by
    have hs : vs.toArray.size = xs.length := by rw [List.size_toArray, hv.length]
    simp only [sliceBounds, Option.getD_none, show (1 : Int) > 0 by decide, if_true, if_neg (show ¬ ((k : Int) < 0) by omega), if_neg (show ¬ ((j : Int) < 0) by omega), hs]
    congr 1
    · omega
    · congr 1; omega
  exact kmk_pick_nat _ e
theorem len_less {S S' : List Int} {k : Int} (nd : S'.Nodup) (h : ∀ x, x ∈ S' ↔ x ∈ S ∧ x ≠ k) (hk : k ∈ S) : S'.length + 1 ≤ S.length := by
  have : (k :: S').length ≤ S.length := nodup_len (l := k :: S') (S := S) (List.nodup_cons.mpr ⟨fun q => ((h k).mp q).2 rfl, nd⟩) fun x hx => by
    rcases List.mem_cons.mp hx with rfl | hx
    · exact hk
    · exact ((h x).mp hx).1
  simpa using this
theorem len_same {S S' : List Int} (nd : S.Nodup) (nd' : S'.Nodup) (h : ∀ x, x ∈ S' ↔ x ∈ S) : S'.length = S.length :=
  Nat.le_antisymm (nodup_len nd' fun x hx => (h x).mp hx) (nodup_len nd fun x hx => (h x).mpr hx)
end Mine
end
section
open PySem PySem.W PySem.Calls PyProof.Rows
set_option maxRecDepth 100000
set_option maxHeartbeats 1000000
set_option autoImplicit false
set_option linter.unusedVariables false
set_option linter.unusedSectionVars false
namespace Mine
section
variable {w : World} {A : Around} {E : Value → Shared → Prop} {s : Shared} {env : Env} {G : Array GenState} {O : OsState} {V : View} {L : Addr} {ns : List Str} {vs : List (Option Value)} {own : List Kp}
theorem Cyc.par {ps : List (Int × Int)} {x : Int} (h : Cyc ps x) : Par ps x := by
  have : ∀ y, Relation.TransGen (Ed ps) x y → Par ps x := by
    intro y hy
    induction hy with
    | single e => exact ⟨_, e⟩
    | tail _ _ ih => exact ih
  exact this x h
theorem or_none {V W : View} {a : Addr} (h : V.or W a = none) : V a = none := by
  have h' : (V a).or (W a) = none := h
  cases e : V a with
  | none => rfl
  | some o => rw [e] at h'; cases h'
/-- back to the smaller view -/
theorem Fm.thaw {W : View} (F : Fm w G O (V.or W) L ns vs own s) (C : CxV w V) : Fm w G O V L ns vs own s :=
  ⟨C, F.gens, F.os, F.hns, F.nn, (V.le_or W).trans F.view, F.hown, or_none F.vL, F.oL, fun p hp => or_none (F.vo p hp), F.nd⟩
theorem e_part {e : PySem.Expr} {Q : Value → Shared → Prop} (h : wpAny (model P0 w) A (eval e env) Q E s) : wpAny (model P0 w) A (evalPart (some e) env) Q E s := h
theorem find_spec {lp li : Addr} {ps : List (Int × Int)} {Q : Value → Shared → Prop} (C : Cx w s.heap) (R : Rm A 10) (hp : VPL (hv s.heap) lp ps)
    (hpr : ∀ q ∈ ps, (0 ≤ q.1 ∧ q.1 < 10) ∧ (0 ≤ q.2 ∧ q.2 < 10)) (hpl : ps.length ≤ 100)
    (h : ∀ r S s', (∀ x, x ∈ S ↔ Cyc ps x) → Res s s' [(r, SP w S)] → Q (.ref r) s') :
    wpAny (model P0 w) A (call (.ref 300) [.ref lp, .ref li]) Q E s := by
  refine f_call (ns := ["tuples", "allitems", "edges", "parent", "child", "nodes_to_test", "output", "node", "stack", "todo", "top", "cyc"]) (by rfl) C (by decide) R.room (by kernel_rfl) (binds := [("tuples", .ref lp), ("allitems", .ref li)]) (.of_eq (by rfl)) ?_
  intro env s' he en H
  have R' := R.deeper env
  generalize hAA : A.deeper env = AA at *
  have hhA : AA.handled = none := R'.hd
  clear hAA
  subst he
  replace H : Fm w s.gens s.os (hv s.heap) s.heap.objs.size _ [none, none, none, none, none, none, none, none, none, none, none, none] [] s' := H
  refine s_local H en rfl .head fun s1 H => s_local H en rfl (.tail .head) fun s2 H => ⟨H.ctx, ?_⟩
  refine x_cons (x_Assign (e_call (e_glob H en rfl (gv_defaultdict w) (c_with keep_type (i_cons (e_glob H en rfl (gv_set w) (i_nil ⟨H.ctx, k_dd fun d s3 hdq Rs => ?_⟩)))))))
  have hdS : (d == sysModules) = false := hdq ▸ big_ne H.ctx.big
  replace H := H.res Rs
  refine a_Name (s_local H en rfl (.tail (.tail .head)) fun s4 H => ?_)
  replace H : Fm w s.gens s.os (hv s.heap) s.heap.objs.size _ _ (edg w d [] fun _ => []) s4 := H.weaken rfl fun q hq => by
    obtain rfl : q = (d, DDP []) := by simpa [edg, edgs] using hq
    obtain ⟨o, ho, rfl⟩ := H.get (.head _)
    exact ⟨_, ho, #[], 0, rfl, trivial⟩
  obtain ⟨ts, hvp, hlen, htup⟩ := hp
  obtain ⟨op, hop, npp, rfl⟩ := id hvp
  refine x_cons (x_ForP H (fun i vs own => ∃ u3 u4 kvs T, vs = [some (.ref lp), some (.ref li), some (.ref d), u3, u4, none, none, none, none, none, none, none] ∧ own = edg w d kvs T ∧ (kvs.map (·.1)).Nodup ∧ kvs.length ≤ i ∧
      (∀ x, x ∈ kvs.map (·.1) ↔ ∃ c, (x, c) ∈ ps.take i) ∧ ∀ x ∈ kvs.map (·.1), ∀ z, z ∈ T x ↔ (x, z) ∈ ps.take i)
    (e_local H en rfl .head (i_list H ⟨_, H.look hop, rfl, npp, rfl⟩ fun I s6 H hlI => ?_)))
  refine ⟨I, lp, (ts.map Value.ref).toArray, _, _, rfl, hhA, hlI, H, ⟨none, none, [], fun _ => [], rfl, rfl, List.nodup_nil, Nat.le_refl _, by simp, by simp⟩, fun i vs own s _ F => ⟨_, F.look hop, rfl, npp, rfl⟩, ?_, ?_⟩
  · rintro i v _ _ s7 hi7 hP ⟨u3, u4, kvs, T, rfl, rfl, hnd, hkl, hkeys, hT⟩ H
    have hi7' : i < ps.length := by simpa [hlen] using hi7
    obtain ⟨q, hq⟩ : ∃ q, ps[i]? = some q := ⟨_, List.getElem?_eq_getElem hi7'⟩
    obtain ⟨t, ht, rfl⟩ : ∃ t, ts[i]? = some t ∧ v = .ref t := by
      have hP' : (ts.map Value.ref)[i]? = some v := by simpa using hP
      rw [List.getElem?_map] at hP'
      cases e : ts[i]? with
      | none => rw [e] at hP'; cases hP'
      | some t => rw [e] at hP'; exact ⟨t, rfl, (Option.some.inj hP').symm⟩
    obtain ⟨ot, hot, t1, t2, rfl⟩ := H.vp (htup _ (tups_mem ht hq))
    obtain ⟨⟨a1, a2⟩, a3, a4⟩ := hpr q (List.mem_of_getElem? hq)
    have htk : ps.take (i + 1) = ps.take i ++ [q] := by rw [List.take_add_one, hq]; rfl
    obtain ⟨x, y⟩ := q
    refine a_pair hhA H ⟨_, hot, rfl⟩ fun s8 H => a_Name (s_local H en rfl (.tail (.tail (.tail .head))) fun s9 H => a_Name (s_local H en rfl (.tail (.tail (.tail (.tail .head)))) fun s10 H => ?_))
    have hdT : s10.TypeIs (.ref d) DDT := by
      obtain ⟨o, ho, es, ep, rfl, _⟩ := H.get (a := d) (p := DDP kvs) (.tail _ (.head _))
      exact ⟨_, ho, rfl⟩
    refine x_cons (x_Expr (e_mcall (e_subDD (e_local H en rfl (.tail (.tail .head)) (e_local H en rfl (.tail (.tail (.tail .head))) ⟨d, rfl, hdS, hdT, ?_⟩))) (by rfl)) (by rfl))
    refine k_ddget (pre := [(I, LIt lp (i + 1))]) H hdS (by omega) fun a j kvs' T' s11 H hj hk' hT' hTn => ?_
    have hnd' : (kvs'.map (·.1)).Nodup := hk' ▸ uniqStep_nodup hnd
    have haS := H.get (a := a) (p := SP w (T' x)) (.tail _ (.tail _ (List.mem_of_getElem? (edgs_at hj))))
    refine gm_set F.slot_set_add F.type_set_add haS (c_with keep_builtin (i_cons (e_local H en rfl (.tail (.tail (.tail (.tail .head)))) (i_nil ⟨H.ctx, ?_⟩))))
    refine k_eadd (pre := [(I, LIt lp (i + 1))]) H hj hnd' ⟨a3, a4⟩ fun T'' s12 H hT1 hT2 => ⟨rfl, x_nil ⟨_, _, H, _, _, kvs', T'', rfl, rfl, hnd', ?_, ?_, ?_⟩⟩
    · have e1 : kvs'.length = (kvs'.map (·.1)).length := by simp
      rw [e1, hk']; unfold uniqStep; split
      · simp; omega
      · simp; omega
    · intro z
      rw [hk', uniqStep_mem, hkeys, htk]
      constructor
      · rintro (⟨c, hc⟩ | rfl)
        · exact ⟨c, List.mem_append_left _ hc⟩
        · exact ⟨y, by simp⟩
      · rintro ⟨c, hc⟩
        rcases List.mem_append.mp hc with hc | hc
        · exact .inl ⟨c, hc⟩
        · rw [List.mem_singleton] at hc; exact .inr (congrArg Prod.fst hc)
    · intro z hz c
      rw [hk', uniqStep_mem] at hz
      rw [htk, List.mem_append, List.mem_singleton]
      by_cases e : z = x
      · subst e
        rw [hT2]
        by_cases hm : z ∈ kvs.map (·.1)
        · rw [hT' z hm, hT z hm]; simp
        · rw [hTn hm]
          have : (z, c) ∉ ps.take i := fun q => hm ((hkeys z).mpr ⟨c, q⟩)
          simp [this]
      · have hm : z ∈ kvs.map (·.1) := hz.elim id fun q => absurd q e
        rw [hT1 z e, hT' z hm, hT z hm]
        simp [e]
  · rintro _ _ s7 ⟨u3, u4, kvs, T, rfl, rfl, hnd, hkl, hkeys, hT⟩ H
    refine x_nil ?_
    have etk : ps.take (ts.map Value.ref).toArray.size = ps := List.take_of_length_le (by simp [hlen])
    rw [etk] at hkeys hT
    have hkl' : kvs.length ≤ 100 := by simp [hlen] at hkl; omega
    have hK10 : R10 (kvs.map (·.1)) := fun x hx => by obtain ⟨c, hc⟩ := (hkeys x).mp hx; exact (hpr _ hc).1
    refine x_cons (x_Assign (e_call (e_glob H en rfl (gv_set w) (c_with keep_type (i_cons (e_local H en rfl (.tail (.tail .head)) (i_nil ⟨H.ctx, k_set_dd H.ctx hhA hdS (H.get (.head _)) hK10 fun N hN => H.newS fun nt s8 H => ?_⟩)))))))
    refine a_Name (s_local H en rfl (.tail (.tail (.tail (.tail (.tail .head))))) fun s9 H => ?_)
    refine x_cons (x_Assign (e_call (e_glob H en rfl (gv_set w) (c_with keep_type (i_nil ⟨H.ctx, k_set0 H.ctx (H.newS fun out s10 H => ?_)⟩)))))
    refine a_Name (s_local H en rfl (.tail (.tail (.tail (.tail (.tail (.tail .head)))))) fun s11 H => ?_)
    have hNp : ∀ x, x ∈ N ↔ Par ps x := fun x => by rw [hN, hkeys]; rfl
    -- what stands still goes into the view
    have CV : CxV w (hv s.heap) := H.cx
    have Hp := H.perm (own' := ((nt, SP w N) :: edg w d kvs T) ++ [(out, SP w [])]) (List.perm_append_singleton _ _)
    have fz : ∀ p ∈ (nt, SP w N) :: edg w d kvs T, VP _ p := fun p hp => Hp.frozen hp
    replace H := Hp.freeze
    clear Hp
    generalize hW : (hv s11.heap).only (List.map (fun x => x.1) ((nt, SP w N) :: edg w d kvs T)) = W at H fz
    clear hW
    have vnt := fz _ (.head _)
    have vd : VP ((hv s.heap).or W) (d, DDP kvs) := fz _ (.tail _ (.head _))
    have vT : ∀ j k a, kvs[j]? = some (k, a) → VP ((hv s.heap).or W) (a, SP w (T k)) := fun j k a hj => fz _ (.tail _ (.tail _ (List.mem_of_getElem? (edgs_at hj))))
    -- the outer loop
    obtain ⟨ont, hont, hontp⟩ := vnt
    have hnt11 := H.look hont
    refine x_cons (x_ForX H (e_local H en rfl (.tail (.tail (.tail (.tail (.tail .head))))) (i_set H hhA (H.vp ⟨ont, hont, hontp⟩) fun I s12 ord Sh o H hord ho hne It => ?_)))
    obtain rfl : o = ont := Option.some.inj (ho.symm.trans hnt11)
    refine ⟨fun i vs own => ∃ u7 u8 u9 u10 u11 S, vs = [some (.ref lp), some (.ref li), some (.ref d), u3, u4, some (.ref nt), some (.ref out), u7, u8, u9, u10, u11] ∧ own = [(out, SP w S)] ∧ (∀ x ∈ S, Cyc ps x) ∧ ∀ x ∈ ord.take i, Cyc ps x → x ∈ S,
      I, ord.length, 0, _, Sh, _, _, _, rfl, It, Nat.zero_le _, H, ⟨none, none, none, none, none, [], rfl, rfl, by simp, by simp⟩, fun i vs own s _ F => ?_, ?_, ?_⟩
    · exact F.look hont
    · rintro i v _ _ s13 hi ⟨t13, node, hnode, rfl⟩ ⟨u7, u8, u9, u10, u11, S, rfl, rfl, hsound, hcomp⟩ H
      have hnN : node ∈ N := hord.mem_iff.mp (List.mem_of_getElem? hnode)
      have hn10 : 0 ≤ node ∧ node < 10 := hK10 node ((hN node).mp hnN)
      refine a_Name (s_local H en rfl (.tail (.tail (.tail (.tail (.tail (.tail (.tail .head))))))) fun s14 H => ?_)
      refine x_cons (x_Assign (e_list (i_cons (e_local H en rfl (.tail (.tail (.tail (.tail (.tail (.tail (.tail .head))))))) (i_nil (n_list H fun st s15 H => a_Name (s_local H en rfl (.tail (.tail (.tail (.tail (.tail (.tail (.tail (.tail .head)))))))) fun s16 H => ?_)))))))
      replace H : Fm w s.gens s.os _ _ _ _ [(st, IL [node]), (I, Sh (i + 1)), (out, SP w S)] s16 := H.weaken rfl fun q hq => by
        rcases List.mem_cons.mp hq with rfl | hq
        · obtain ⟨ob, hob, e⟩ := H.get (.head _); exact ⟨ob, hob, _, e, .cons _ _ .nil⟩
        · exact H.hown q (.tail _ hq)
      obtain ⟨ont2, hont2, dn, rfl, hIn⟩ := H.vp ⟨o, hont, hontp⟩
      refine x_cons (x_Assign (e_mcall (e_local H en rfl (.tail (.tail (.tail (.tail (.tail .head))))) (gm_set F.slot_set_difference F.type_set_difference ⟨_, hont2, dn, rfl, hIn⟩ (c_with keep_builtin (i_cons (e_local H en rfl (.tail (.tail (.tail (.tail (.tail (.tail (.tail (.tail .head)))))))) (i_nil ⟨H.ctx, ?_⟩)))))) (by rfl)))
      refine k_diff_list H.ctx hhA (IL.li (H.get (.head _))) hont2 (.inl rfl) hIn fun td0 htd => H.newS fun td s17 H => ?_
      refine a_Name (s_local H en rfl (.tail (.tail (.tail (.tail (.tail (.tail (.tail (.tail (.tail .head))))))))) fun s18 H => ?_)
      have D0 : DI ps node [node] td0 S := DI.start hNp hnN (fun x => by rw [htd x]; simp) hsound
      refine x_cons (x_While (fun k vs own => ∃ u7 u10 u11 stack todo S', vs = [some (.ref lp), some (.ref li), some (.ref d), u3, u4, some (.ref nt), some (.ref out), u7, some (.ref st), some (.ref td), u10, u11] ∧
        own = [(td, SP w todo), (st, IL stack), (I, Sh (i + 1)), (out, SP w S')] ∧ DI ps node stack todo S' ∧ (∀ x ∈ S, x ∈ S') ∧ k = 2 * todo.length + stack.length) (2 * td0.length + 1) H ⟨_, _, _, [node], td0, S, rfl, rfl, D0, fun _ h => h, rfl⟩ ?_)
      rintro k _ _ s19 ⟨u7, u10, u11, stack, todo, S', rfl, rfl, D, hSS, rfl⟩ H
      have hstR : R10 stack := fun x hx => hK10 x ((hN x).mp ((hNp x).mpr (D.pars x hx)))
      have hstl : stack.length ≤ 1000 := Nat.le_trans (len10 D.nd hstR) (by decide)
      refine t_value (e_local H en rfl (.tail (.tail (.tail (.tail (.tail (.tail (.tail (.tail .head)))))))) (k_truthyL H (H.get (.tail _ (.head _))) hstl fun s20 H => ?_))
      by_cases hse : stack = []
      · subst hse
        rw [if_neg (by simp)]
        refine x_nil (x_nil ⟨_, _, H.sub (.cons _ (.cons _ (.refl _))), u7, some (.ref st), some (.ref td), u10, u11, S', rfl, rfl, D.sound, fun x hx hcx => ?_⟩)
        rw [List.take_add_one, hnode] at hx
        rcases List.mem_append.mp hx with hx | hx
        · exact hSS x (hcomp x hx hcx)
        · have : x = node := by simpa using hx
          subst this; exact D.done hcx
      rw [if_pos (by simpa using hse)]
      obtain ⟨pre, top, rfl⟩ : ∃ pre top, stack = pre ++ [top] := ⟨stack.dropLast, stack.getLast hse, (List.dropLast_concat_getLast hse).symm⟩
      have htopK : top ∈ kvs.map (·.1) := (hN top).mp ((hNp top).mpr (D.pars top (by simp)))
      obtain ⟨j, a, hl, hj⟩ : ∃ (j : Nat) (a : Addr), look kvs top = some a ∧ kvs[j]? = some (top, a) := by
        cases hl : look kvs top with
        | none => exact absurd htopK (look_none hl)
        | some a => obtain ⟨j, hj⟩ := look_some hl; exact ⟨j, a, rfl, hj⟩
      refine x_cons (x_Assign (e_subLast (e_local H en rfl (.tail (.tail (.tail (.tail (.tail (.tail (.tail (.tail .head)))))))) ⟨st, pre, top, _, _, _, _, _, _, _, rfl, H, .tail _ (.head _), by simp at hstl; omega, fun t21 s21 H => a_Name (s_local H en rfl (.tail (.tail (.tail (.tail (.tail (.tail (.tail (.tail (.tail (.tail .head)))))))))) fun s22 H => ?_)⟩)))
      have hdT : s22.TypeIs (.ref d) DDT := by
        obtain ⟨ob, hob, es, ep, rfl, _⟩ := H.vp vd
        exact ⟨_, hob, rfl⟩
      refine x_cons (x_ForX H (e_subDD (e_local H en rfl (.tail (.tail .head)) (e_local H en rfl (.tail (.tail (.tail (.tail (.tail (.tail (.tail (.tail (.tail (.tail .head)))))))))) ⟨d, rfl, hdS, hdT, k_ddhit (H.vp vd) hl ?_⟩))))
      replace H := H.tok (s22.toks + 1)
      obtain ⟨oa, hoa, hoap⟩ := vT j top a hj
      have hoa22 := H.look hoa
      refine i_set H hhA (H.vp ⟨oa, hoa, hoap⟩) fun I2 s23 ord2 Sh2 o2 H hord2 ho2 hne2 It2 => ?_
      obtain rfl : o2 = oa := Option.some.inj (ho2.symm.trans hoa22)
      refine ⟨fun m vs own => ∃ u7 u11 todo1 S2, vs = [some (.ref lp), some (.ref li), some (.ref d), u3, u4, some (.ref nt), some (.ref out), u7, some (.ref st), some (.ref td), some (.int top t21), u11] ∧
        own = [(td, SP w todo1), (st, IL (pre ++ [top])), (I, Sh (i + 1)), (out, SP w S2)] ∧ DI ps node (pre ++ [top]) todo1 S2 ∧ (∀ x ∈ S', x ∈ S2) ∧ todo1.length = todo.length ∧ (∀ c ∈ ord2.take m, c ∉ todo1 ∧ (c = node → node ∈ S2)),
        I2, ord2.length, 0, _, Sh2, _, _, _, rfl, It2, Nat.zero_le _, H, ⟨u7, u11, todo, S', rfl, rfl, D, fun _ h => h, rfl, by simp⟩, fun i vs own s _ F => ?_, ?_, ?_⟩
      · exact F.look hoa
      · rintro m v _ _ s24 hm ⟨t24, c, hc, rfl⟩ ⟨u7, u11, todo1, S2, rfl, rfl, D, hSS2, hlen1, hdone⟩ H
        have hcT : (top, c) ∈ ps := (hT top htopK c).mp (hord2.mem_iff.mp (List.mem_of_getElem? hc))
        have hc10 := (hpr _ hcT).2
        refine a_Name (s_local H en rfl (.tail (.tail (.tail (.tail (.tail (.tail (.tail .head))))))) fun s25 H => ?_)
        refine x_cons (wpAny_mono (Q := fun (f : Flow) s' => f = Flow.next ∧ ∃ (u11 : Option Value) (todo2 S3 : List Int), Fm w s.gens s.os ((hv s.heap).or W) s.heap.objs.size ["tuples", "allitems", "edges", "parent", "child", "nodes_to_test", "output", "node", "stack", "todo", "top", "cyc"]
            [some (.ref lp), some (.ref li), some (.ref d), u3, u4, some (.ref nt), some (.ref out), some (.int c t24), some (.ref st), some (.ref td), some (.int top t21), u11]
            [(I2, Sh2 (m + 1)), (td, SP w todo2), (st, IL (pre ++ [top])), (I, Sh (i + 1)), (out, SP w S3)] s' ∧ (∀ x, x ∈ todo2 ↔ x ∈ todo1) ∧ todo2.length = todo1.length ∧ (∀ x ∈ S2, x ∈ S3) ∧ (∀ x ∈ S3, Cyc ps x) ∧ (c ∈ pre ++ [top] → c ∈ S3))
          (x_If (t_cmp (e_local H en rfl (.tail (.tail (.tail (.tail (.tail (.tail (.tail .head))))))) (e_local H en rfl (.tail (.tail (.tail (.tail (.tail (.tail (.tail (.tail .head)))))))) (k_inL (H.get (.tail _ (.tail _ (.head _)))) (tr_bool ⟨fun hb => ?_, fun hb => ?_⟩))))))
          (fun f s26 hf => ?_) fun _ _ x => x)
        · have hci : c ∈ pre ++ [top] := of_decide_eq_true hb
          have hix : (pre ++ [top]).idxOf c ≤ (pre ++ [top]).length := Nat.le_of_lt (List.idxOf_lt_length_of_mem hci)
          obtain ⟨o1, ho1, v1, ⟨n1, rfl⟩, hv1⟩ := H.get (.tail _ (.tail _ (.head _)))
          refine x_cons (x_Assign (e_slice (e_local H en rfl (.tail (.tail (.tail (.tail (.tail (.tail (.tail (.tail (.head))))))))) (e_part (e_mcall (e_local H en rfl (.tail (.tail (.tail (.tail (.tail (.tail (.tail (.tail (.head))))))))) (gm_list F.slot_list_index F.type_list_index ⟨_, ho1, n1, rfl⟩ (c_with keep_builtin (i_cons (e_local H en rfl (.tail (.tail (.tail (.tail (.tail (.tail (.tail (.head)))))))) (i_nil ⟨H.ctx, k_indexL H ⟨_, ho1, v1, ⟨n1, rfl⟩, hv1⟩ hstl hci fun t26 s26 H => ?_⟩)))))) (by rfl))))))
          refine wpAny_pure ⟨st, pre ++ [top], (pre ++ [top]).idxOf c, (pre ++ [top]).length - (pre ++ [top]).idxOf c, _, _, _, _, _, _, _, rfl, H, H.get (.tail _ (.tail _ (.head _))), hstl, fun vs hvs => ⟨_, _, .int _ _, .none, slice_from hvs hix⟩, fun cy s27 H => ?_⟩
          rw [List.take_of_length_le (by rw [List.length_drop]; exact Nat.le_refl _)] at H
          have hcyc := D.met hci hcT
          generalize hCY : (pre ++ [top]).drop ((pre ++ [top]).idxOf c) = CY at H hcyc
          have hCYs : ∀ x ∈ CY, x ∈ pre ++ [top] := fun x hx => List.mem_of_mem_drop (hCY ▸ hx)
          have hcCY : c ∈ CY := by
            rw [← hCY]
            have hlt := List.idxOf_lt_length_of_mem hci
            have e2 : (List.drop ((pre ++ [top]).idxOf c) (pre ++ [top]))[0]? = some c := by
              rw [List.getElem?_drop, Nat.add_zero, List.getElem?_eq_getElem hlt, List.getElem_idxOf hlt]
            exact List.mem_of_getElem? e2
          have hCYr : R10 CY := fun x hx => hstR x (hCYs x hx)
          refine a_Name (s_local H en rfl (.tail (.tail (.tail (.tail (.tail (.tail (.tail (.tail (.tail (.tail (.tail (.head)))))))))))) fun s28 H => ?_)
          obtain ⟨o2, ho2', d2, rfl, hI2⟩ := H.get (.tail _ (.tail _ (.head _)))
          have ne1 := H.one (i := 2) (j := 0) rfl rfl (by decide)
          refine x_cons (x_Expr (e_mcall (e_local H en rfl (.tail (.tail (.tail (.tail (.tail (.tail (.tail (.tail (.tail (.head)))))))))) (gm_set F.slot_set_difference_update F.type_set_difference_update ⟨_, ho2', d2, rfl, hI2⟩ (c_with keep_builtin (i_cons (e_local H en rfl (.tail (.tail (.tail (.tail (.tail (.tail (.tail (.tail (.tail (.tail (.tail (.head)))))))))))) (i_nil ⟨H.ctx, k_diffupd_list H.ctx hhA (IL.li (H.get (.head _))) ne1 ho2' (.inl rfl) hI2 fun todo2 s29 ht2 hc => ⟨rfl, ?_⟩⟩)))))) (by rfl)) (by rfl))
          replace H := H.chg (i := 2) rfl ⟨_, rfl⟩ hc
          obtain ⟨o3, ho3', d3, rfl, hI3⟩ := H.get (.tail _ (.tail _ (.tail _ (.tail _ (.tail _ (.head _))))))
          have ne2 := H.one (i := 5) (j := 0) rfl rfl (by decide)
          refine x_cons (x_Expr (e_mcall (e_local H en rfl (.tail (.tail (.tail (.tail (.tail (.tail (.head))))))) (gm_set F.slot_set_update F.type_set_update ⟨_, ho3', d3, rfl, hI3⟩ (c_with keep_builtin (i_cons (e_local H en rfl (.tail (.tail (.tail (.tail (.tail (.tail (.tail (.tail (.tail (.tail (.tail (.head)))))))))))) (i_nil ⟨H.ctx, k_update_list H.ctx hhA (IL.li (H.get (.head _))) hCYr ne2 ho3' (.inl rfl) hI3 fun S3 s30 hS3 hc2 => ⟨rfl, ?_⟩⟩)))))) (by rfl)) (by rfl))
          replace H := H.chg (i := 5) rfl ⟨_, rfl⟩ hc2
          obtain ⟨_, _, _, _, hI4⟩ := H.get (a := td) (p := SP w todo2) (.tail _ (.tail _ (.head _)))
          have htt : ∀ x, x ∈ todo2 ↔ x ∈ todo1 := fun x => (ht2 x).trans ⟨fun h => h.1, fun h => ⟨h, fun q => D.disj x (hCYs x q) h⟩⟩
          exact x_nil ⟨rfl, _, todo2, S3, H.sub (.cons _ (.refl _)), htt, len_same hI2.nodup hI4.nodup htt, fun x hx => (hS3 x).mpr (.inl hx), fun x hx => ((hS3 x).mp hx).elim (D.sound x) (hcyc x), fun _ => (hS3 c).mpr (.inr hcCY)⟩
        · rw [decide_eq_false_iff_not] at hb
          exact x_nil ⟨rfl, u11, todo1, S2, H, fun _ => Iff.rfl, rfl, fun _ h => h, D.sound, fun h => absurd h hb⟩
        · obtain ⟨rfl, u12, todo2, S3, H, ht2, hl2, hS3, hs3, hin3⟩ := hf
          have D2 := (D.outs hS3 hs3).todos ht2
          have h10 := H.get (a := td) (p := SP w todo2) (.tail _ (.head _))
          refine x_cons (x_If (t_cmp (e_local H en rfl (.tail (.tail (.tail (.tail (.tail (.tail (.tail (.head)))))))) (e_local H en rfl (.tail (.tail (.tail (.tail (.tail (.tail (.tail (.tail (.tail (.head)))))))))) (k_inSet h10 fun t27 => tr_bool ⟨fun hb => ?_, fun hb => ?_⟩)))))
          · have hct : c ∈ todo2 := of_decide_eq_true hb
            replace H := H.tok t27
            obtain ⟨o1, ho1, v1, ⟨n1, rfl⟩, hv1⟩ := H.get (.tail _ (.tail _ (.head _)))
            refine x_cons (x_Expr (e_mcall (e_local H en rfl (.tail (.tail (.tail (.tail (.tail (.tail (.tail (.tail (.head))))))))) (gm_list F.slot_list_append F.type_list_append ⟨_, ho1, n1, rfl⟩ (c_with keep_builtin (i_cons (e_local H en rfl (.tail (.tail (.tail (.tail (.tail (.tail (.tail (.head)))))))) (i_nil ⟨H.ctx, k_appendI H (i := 2) rfl hstl fun s28 H => ⟨rfl, ?_⟩⟩)))))) (by rfl)) (by rfl))
            obtain ⟨o2, ho2', d2, rfl, hI2⟩ := H.get (.tail _ (.head _))
            refine x_cons (x_Expr (e_mcall (e_local H en rfl (.tail (.tail (.tail (.tail (.tail (.tail (.tail (.tail (.tail (.head)))))))))) (gm_set F.slot_set_remove F.type_set_remove ⟨_, ho2', d2, rfl, hI2⟩ (c_with keep_builtin (i_cons (e_local H en rfl (.tail (.tail (.tail (.tail (.tail (.tail (.tail (.head)))))))) (i_nil ⟨H.ctx, k_remove H.ctx ho2' (.inl rfl) hI2 hct fun todo3 s29 ht3 hc3 => ⟨rfl, ?_⟩⟩)))))) (by rfl)) (by rfl))
            replace H := H.chg (i := 1) rfl ⟨_, rfl⟩ hc3
            obtain ⟨_, _, _, _, hI4⟩ := H.get (a := td) (p := SP w todo3) (.tail _ (.head _))
            have hlt := len_less hI4.nodup ht3 hct
            refine x_cons (wpAny_Break (x_nil ⟨2 * todo3.length + (pre ++ [top] ++ [c]).length, _, _, by simp; omega, H.sub (.cons _ (.refl _)), _, _, _, pre ++ [top] ++ [c], todo3, S3, rfl, rfl, D2.push hct hcT ht3, fun x hx => hS3 x (hSS2 x (hSS x hx)), rfl⟩))
          · have hct : c ∉ todo2 := of_decide_eq_false hb
            replace H := H.tok t27
            refine x_nil (x_nil ⟨_, _, H, _, u12, todo2, S3, rfl, rfl, D2, fun x hx => hS3 x (hSS2 x hx), hl2.trans hlen1, fun c' hc' => ?_⟩)
            rw [List.take_add_one, hc] at hc'
            rcases List.mem_append.mp hc' with hc' | hc'
            · obtain ⟨x1, x2⟩ := hdone c' hc'
              exact ⟨fun q => x1 ((ht2 c').mp q), fun q => hS3 _ (x2 q)⟩
            · obtain rfl : c' = c := by simpa using hc'
              refine ⟨hct, fun q => ?_⟩
              subst q
              refine hin3 (List.mem_of_getElem? (D.head (by simp)))
      · rintro _ _ s24 ⟨u7, u11, todo1, S2, rfl, rfl, D, hSS2, hlen1, hdone⟩ H
        rw [List.take_length] at hdone
        have D2 := D.pop fun c hc => hdone c (hord2.mem_iff.mpr ((hT top htopK c).mpr hc))
        obtain ⟨o1, ho1, v1, ⟨n1, rfl⟩, hv1⟩ := H.get (.tail _ (.head _))
        refine x_cons (wpAny_Expr_any (e_mcall (e_local H en rfl (.tail (.tail (.tail (.tail (.tail (.tail (.tail (.tail .head)))))))) (gm_list F.slot_list_pop F.type_list_pop ⟨_, ho1, n1, rfl⟩ (c_with keep_builtin (i_nil ⟨H.ctx, ?_⟩)))) (by rfl)) (by rfl))
        refine k_popL H (i := 1) rfl hstl (by simp) fun y s25 H => x_nil (x_nil ⟨2 * todo1.length + pre.length, _, _, by rw [hlen1]; simp, H, u7, _, u11, pre, todo1, S2, rfl, by simp, D2, fun x hx => hSS2 x (hSS x hx), rfl⟩)
    · rintro _ _ s13 ⟨u7, u8, u9, u10, u11, S, rfl, rfl, hsound, hcomp⟩ H
      refine x_nil (x_cons (x_Return (e_local H en rfl (.tail (.tail (.tail (.tail (.tail (.tail .head)))))) ?_)))
      rw [List.take_length] at hcomp
      refine h out S _ (fun x => ⟨hsound x, fun hx => hcomp x (hord.mem_iff.mpr ((hNp x).mpr hx.par)) hx⟩) ((H.thaw CV).toRes (.refl _))
end
end Mine
end
section
open PySem PySem.W PySem.Calls PyProof.Rows
set_option maxRecDepth 100000
set_option maxHeartbeats 1000000
set_option autoImplicit false
set_option linter.unusedVariables false
set_option linter.unusedSectionVars false
namespace Mine
/-! sets of pairs of digits -/
noncomputable def hpair (p : Int × Int) : Int := reduceHash (Builtin.Tuple.tupleHashOf [hashInt p.1, hashInt p.2])
noncomputable def D10 (p : Int × Int) : Prop := (0 ≤ p.1 ∧ p.1 < 10) ∧ (0 ≤ p.2 ∧ p.2 < 10)
theorem hpair_nodup : ((List.range 100).map fun (n : Nat) => hpair (((n / 10 : Nat) : Int), ((n % 10 : Nat) : Int))).Nodup := by decide +kernel
theorem hpair_inj {p q : Int × Int} (hp : D10 p) (hq : D10 q) (h : hpair p = hpair q) : p = q := by
  obtain ⟨⟨a1, a2⟩, a3, a4⟩ := hp
  obtain ⟨⟨b1, b2⟩, b3, b4⟩ := hq
  obtain ⟨x, y⟩ := p
  obtain ⟨u, v⟩ := q
  obtain ⟨m, rfl⟩ := Int.eq_ofNat_of_zero_le a1
  obtain ⟨n, rfl⟩ := Int.eq_ofNat_of_zero_le a3
  obtain ⟨m', rfl⟩ := Int.eq_ofNat_of_zero_le b1
  obtain ⟨n', rfl⟩ := Int.eq_ofNat_of_zero_le b3
  simp only at a2 a4 b2 b4
  have nd := hpair_nodup
  have l1 : 10 * m + n < 100 := by omega
  have l2 : 10 * m' + n' < 100 := by omega
  have e : ∀ i j : Nat, i < 10 → j < 10 → ((List.range 100).map fun (n : Nat) => hpair (((n / 10 : Nat) : Int), ((n % 10 : Nat) : Int)))[10 * i + j]? = some (hpair ((i : Int), (j : Int))) := fun i j hi hj => by
    rw [List.getElem?_map, List.getElem?_range (by omega)]
    have e1 : (10 * i + j) / 10 = i := by omega
    have e2 : (10 * i + j) % 10 = j := by omega
    simp only [Option.map_some, e1, e2]
  have h1 := e m n (by omega) (by omega)
  have h2 := e m' n' (by omega) (by omega)
  rw [← h, ← h1] at h2
  have := (List.getElem?_inj (by simp; omega) nd).mp h2
  have e1 : m = m' := by omega
  have e2 : n = n' := by omega
  subst e1; subst e2; rfl
noncomputable def qents (q : List (Addr × (Int × Int))) : List (Int × Value) := q.map fun e => (hpair e.2, .ref e.1)
/-- an object that is a set of the pairs of q, held by q's addresses -/
noncomputable def PSP (w : World) (q : List (Addr × (Int × Int))) : Obj → Prop := fun o => ∃ es ep t, o = setO (.set es ep t) ∧ SOK (byT w) es t ∧ ReachT es t ∧ List.Perm es.toList (qents q) ∧ (q.map (·.2)).Nodup ∧ (∀ e ∈ q, D10 e.2)
noncomputable def TQ (h : Heap) (q : List (Addr × (Int × Int))) : Prop := ∀ e ∈ q, HasP h (e.1, PairP e.2)
noncomputable def qtups (q : List (Addr × (Int × Int))) : List Kp := q.map fun e => (e.1, PairP e.2)
section
variable {w : World} {A : Around} {E : Value → Shared → Prop} {s : Shared} {a x : Addr} {o : Obj} {q : List (Addr × (Int × Int))} {p : Int × Int}
theorem pair_key (h : HasP s.heap (x, PairP p)) : IsTupleKey (KI w) s.heap [p.1, p.2] x := by
  obtain ⟨o, ho, t, t', rfl⟩ := h
  exact ⟨_, _, _, ho, rfl, rfl, .cons (intKind_is _ _ _ _) (.cons (intKind_is _ _ _ _) .nil)⟩
theorem hash_is : tupleKeyHash (KI w) [p.1, p.2] = hpair p := rfl
theorem w_classP {n : Nat} {Q : Bool → Shared → Prop} (h : HasP s.heap (x, PairP p)) (hQ : Q false s) : wpAny (model P0 w) A (ofAClassStatement (n + 1) (.ref x)) Q E s := by
  obtain ⟨o, ho, t, t', rfl⟩ := h
  have hT : s.TypeIs (.ref x) "tuple" := ⟨_, ho, rfl⟩
  unfold ofAClassStatement
  refine wpAny_bind (wpAny_typeOf hT ?_)
  dsimp only
  rw [if_pos (by rfl)]
  refine wpAny_bind (wpAny_pure ?_)
  rw [if_neg (by decide)]
  refine wpAny_bind (wpAny_seqItems ho rfl ?_)
  dsimp only
  refine wpAny_bind ?_
  simp only [List.forIn_toArray, List.forIn_cons, List.forIn_nil]
  have e : ∀ k t, ofAClassStatement n (.int k t) = pure false := fun k t => by cases n <;> rfl
  simp only [e]
  refine wpAny_bind (wpAny_bind (wpAny_pure ?_))
  rw [if_neg (by decide)]
  refine wpAny_pure (wpAny_bind (wpAny_bind (wpAny_pure ?_)))
  rw [if_neg (by decide)]
  exact wpAny_pure (wpAny_pure (wpAny_pure hQ))
theorem w_hashP {n : Nat} {Q : Bool → Shared → Prop} (h : HasP s.heap (x, PairP p)) (hQ : Q true s) : wpAny (model P0 w) A (hashByValue (n + 1) (.ref x)) Q E s := by
  obtain ⟨o, ho, t, t', rfl⟩ := h
  have hT : s.TypeIs (.ref x) "tuple" := ⟨_, ho, rfl⟩
  unfold hashByValue
  refine wpAny_bind (wpAny_specialOf hT F.slot_tuple_hash.lookup ?_)
  dsimp only
  refine wpAny_bind (wpAny_seqItems ho rfl ?_)
  simp only [Option.getD_some]
  refine wpAny_bind ?_
  have e : ∀ k t, hashByValue n (.int k t) = pure true := fun k t => by cases n <;> rfl
  simp only [List.forIn_toArray, List.forIn_cons, List.forIn_nil, e]
  refine wpAny_bind (wpAny_bind (wpAny_pure ?_))
  rw [if_neg (by decide)]
  refine wpAny_pure (wpAny_bind (wpAny_bind (wpAny_pure ?_)))
  rw [if_neg (by decide)]
  exact wpAny_pure (wpAny_pure (wpAny_pure hQ))
end
end Mine
end
section
open PySem PySem.W PySem.Calls PyProof.Rows
set_option maxRecDepth 100000
set_option maxHeartbeats 1000000
set_option autoImplicit false
set_option linter.unusedVariables false
set_option linter.unusedSectionVars false
namespace Mine
section
variable {w : World} {A : Around} {E : Value → Shared → Prop} {s : Shared} {a x : Addr} {o : Obj} {q : List (Addr × (Int × Int))} {p : Int × Int}
theorem w_seenP {stored : List Value} {Q : Bool → Shared → Prop} (hx : HasP s.heap (x, PairP p)) (hst : ∀ y ∈ stored, ∃ b p', y = .ref b ∧ HasP s.heap (b, PairP p')) (h : Q false s) :
    wpAny (model P0 w) A (searchCouldBeSeen (.ref x) stored) Q E s := by
  unfold searchCouldBeSeen
  refine wpAny_bind (w_forL (fun rem bb s' => s' = s ∧ bb.1 = none ∧ ∀ y ∈ rem, y ∈ stored) ?_ ?_ _ _ _ ⟨rfl, rfl, fun y hy => hy⟩)
  · rintro y r ⟨_, _⟩ s' ⟨rfl, rfl, hr⟩
    obtain ⟨b, p', rfl, hb⟩ := hst y (hr _ (.head _))
    have fin : ∀ (Q' : ForInStep (MProd (Option Bool) PUnit) → Shared → Prop), Q' (.yield ⟨none, ⟨⟩⟩) s' → Q' (.yield ⟨none, ⟨⟩⟩) s' := fun _ h => h
    dsimp only
    split
    · exact wpAny_pure ⟨rfl, rfl, fun y hy => hr y (.tail _ hy)⟩
    · refine wpAny_bind (wpAny_eqIsQuiet_tuple (pair_key (w := w) hx) ?_)
      refine wp_if_false (by decide) ?_
      refine wpAny_bind (wpAny_eqIsQuiet_tuple (pair_key (w := w) hb) ?_)
      refine wp_if_false (by decide) ?_
      refine wpAny_bind (w_classP hx ?_)
      refine wp_if_false (by decide) ?_
      refine wpAny_bind (w_classP hb ?_)
      refine wp_if_false (by decide) ?_
      exact wpAny_pure ⟨rfl, rfl, fun y hy => hr y (.tail _ hy)⟩
  · rintro ⟨_, _⟩ s' ⟨rfl, e, _⟩
    cases e
    exact wpAny_pure h
theorem okMask.odd {m : Nat} (h : okMask m) : (m % 2 == 0) = false := by rcases h with rfl | rfl | rfl | rfl <;> rfl
/-- the place of a pair, or a free slot -/
theorem w_searchH (hpair : Int × Int → Int) (hpair_inj : ∀ {p q : Int × Int}, D10 p → D10 q → hpair p = hpair q → p = q) {adding : Bool} {n : Nat} {es : Ents} {ep : Nat} {t : SetTable} {Q : SetFound → Shared → Prop} (hu : A.units < cLine) (ho : s.heap.get? a = some o) (hd : o.data = .set es ep t) (hs : SOK (byT w) es t) (hr : ReachT es t)
    (hperm : List.Perm es.toList (q.map fun e => (hpair e.2, Value.ref e.1))) (hD : ∀ e ∈ q, D10 e.2) (hT : TQ s.heap q) (hx : HasP s.heap (x, PairP p)) (hp : D10 p)
    (h1 : p ∈ q.map (·.2) → ∀ i, (adding = false → i.isSome = true) → Q (.there i) s)
    (h2 : p ∉ q.map (·.2) → ∀ sl, sl ≤ t.mask → sl ∉ t.place.toList → sl ∉ t.dummies.toList → (∃ k, k < 10 * SetTable.turns t.mask ∧ (path t.mask (hpair p) k).1 = sl ∧ ∀ m, m < k → t.slot (path t.mask (hpair p) m).1 ≠ .empty) → Q (.free sl false) s) :
    wpAny (model P0 w) A (setSearchFrom a (.ref x) (hpair p) adding (n + 1) none) Q E s := by
  obtain ⟨k, d, p', hk, hk1, hk2, hdd, hpr⟩ := hs.T.probe (fun i => (es[i]?.map (·.1)).getD 0) (hpair p)
  have hdm := hr.1
  have hd0 : d = none := by
    cases d with
    | none => rfl
    | some x => have := (hs.T.slot_dummy (j := x)).mp (hdd x rfl); rw [hdm] at this; simp at this
  subst hd0
  have hpl : (path t.mask (hpair p) k).1 ≤ t.mask := by have := path_le t.mask (hpair p) k; omega
  have ent : ∀ (i : Nat) (e : Int × Value), es[i]? = some e → ∃ g ∈ q, e = (hpair g.2, .ref g.1) := fun i e he => by
    have hm : e ∈ es.toList := List.mem_of_getElem? (by simpa using he)
    obtain ⟨g, hg, rfl⟩ := List.mem_map.mp (hperm.mem_iff.mp hm)
    exact ⟨g, hg, rfl⟩
  unfold setSearchFrom
  refine wpAny_bind (wpAny_setState_of ho hd hs.fits ?_)
  dsimp only
  refine wp_if_false (by unfold SetTable.gaveWay; exact okMask.odd hs.T.okm) ?_
  generalize hgg : SetTable.probe t _ (hpair p) _ = pr
  have hg' : t.probe (fun i => (es[i]?.map (·.1)).getD 0) (hpair p) (t.probeStart (hpair p)) = pr := hgg
  rw [hpr] at hg'
  clear hgg
  subst hg'
  cases hsl : t.slot (path t.mask (hpair p) k).1 with
  | dummy => have := hs.T.slot_dummy.mp hsl; rw [hdm] at this; simp at this
  | empty =>
    dsimp only
    have hpq : p ∉ q.map (·.2) := fun hm => by
      obtain ⟨g, hg, rfl⟩ := List.mem_map.mp hm
      have he : (hpair g.2, Value.ref g.1) ∈ es.toList := hperm.mem_iff.mpr (List.mem_map.mpr ⟨g, hg, rfl⟩)
      obtain ⟨i, hi⟩ := List.getElem?_of_mem he
      have hlt : i < es.toList.length := (List.getElem?_eq_some_iff.mp hi).1
      have hlt' : i < t.place.toList.length := by
        have := hs.sz
        simp only [Array.length_toList] at hlt ⊢
        omega
      obtain ⟨k0, b1, b2, b3⟩ := hr.2 (t.place.toList[i], (hpair g.2, Value.ref g.1)) (by
        refine List.mem_of_getElem? (i := i) ?_
        rw [List.getElem?_zip_eq_some]
        exact ⟨List.getElem?_eq_getElem hlt', hi⟩)
      simp only at b2 b3
      rcases Nat.lt_trichotomy k k0 with c | c | c
      · exact b3 k c hsl
      · subst c
        rw [hs.T.slot_empty] at hsl
        rw [b2] at hsl
        exact hsl.1 (List.getElem_mem hlt')
      · have hst := hk1 k0 c
        obtain ⟨i', e1, e2⟩ := hs.T.slot_of_mem (j := t.place.toList[i]) (List.getElem_mem hlt')
        unfold stops at hst
        rw [b2, e1] at hst
        dsimp only at hst
        have hii : i' = i := by
          have nd := hs.T.ris.nodup
          have q1 : t.place.toList[i']? = some t.place.toList[i] := by simpa using e2
          have q2 : t.place.toList[i]? = some t.place.toList[i] := List.getElem?_eq_getElem hlt'
          exact (List.getElem?_inj (List.getElem?_eq_some_iff.mp q1).1 nd).mp (q1.trans q2.symm)
        subst hii
        have hi2 : es[i']? = some (hpair g.2, Value.ref g.1) := by simpa using hi
        rw [hi2] at hst
        simp at hst
    exact wpAny_pure (h2 hpq _ hpl (hs.T.slot_empty.mp hsl).1 (hs.T.slot_empty.mp hsl).2 ⟨k, hk, rfl, fun m hm he => by
      have := hk1 m hm
      unfold stops at this
      rw [he] at this
      cases this⟩)
  | live i =>
    dsimp only
    have hpi := hs.T.slot_live hsl
    have hi : i < es.size := by
      have := (Array.getElem?_eq_some_iff.mp hpi).1
      rw [hs.sz] at this; exact this
    obtain ⟨g, hgq, hge⟩ := ent i es[i] (Array.getElem?_eq_getElem hi)
    have hei : es[i]? = some (hpair g.2, Value.ref g.1) := by rw [Array.getElem?_eq_getElem hi, hge]
    have hpp : g.2 = p := by
      unfold stops at hk2
      rw [hsl] at hk2
      dsimp only at hk2
      rw [hei] at hk2
      exact hpair_inj (hD g hgq) hp (by simpa using hk2)
    have hm : p ∈ q.map (·.2) := hpp ▸ List.mem_map.mpr ⟨g, hgq, rfl⟩
    have hgP : HasP s.heap (g.1, PairP p) := hpp ▸ hT g hgq
    by_cases hled : t.led = true
    · refine wp_if_false (by rw [hled]; rfl) ?_
      rw [hei]
      dsimp only
      refine wpAny_bind (wpAny_holding (wpAny_eqBool_tuple hu (pair_key (w := w) hgP) (pair_key (w := w) hx) ?_))
      rw [decide_eq_true rfl]
      refine wpAny_bind (wpAny_setState_of ho hd hs.fits ?_)
      dsimp only
      cases adding with
      | true => exact wp_if_true rfl (wpAny_pure (h1 hm none (fun e => by cases e)))
      | false =>
        refine wp_if_false rfl ?_
        have e1 : t.sameMemory t.moves t.mask = some true := by unfold SetTable.sameMemory; simp
        rw [e1]
        dsimp only
        rw [if_pos rfl, hsl]
        dsimp only
        rw [hei]
        dsimp only
        have e2 : isSame (.ref g.1) (.ref g.1) = pure true := by
          unfold isSame
          dsimp only
          rw [if_pos (by simp)]
        rw [e2]
        refine wpAny_bind (wpAny_bind (wpAny_pure (wpAny_pure ?_)))
        rw [if_pos rfl]
        exact wpAny_pure (h1 hm (some i) fun _ => rfl)
    · refine wp_if_true (by simpa using hled) ?_
      refine wpAny_bind (w_seenP hx (fun y hy => ?_) ?_)
      · obtain ⟨e, he, rfl⟩ := List.mem_map.mp hy
        have he' : e ∈ es.toList := by
          have := Array.mem_toList_iff.mp (by simpa using he : e ∈ (es.filter fun e => e.1 == hpair p).toList)
          exact Array.mem_toList_iff.mpr (Array.mem_filter.mp this).1
        obtain ⟨j, hj⟩ := List.getElem?_of_mem he'
        obtain ⟨g', hg1, rfl⟩ := ent j e (by simpa using hj)
        exact ⟨_, _, rfl, hT g' hg1⟩
      · refine wp_if_false (by decide) ?_
        rw [hei]
        dsimp only
        refine wpAny_bind (wpAny_holding (wpAny_eqBool_tuple hu (pair_key (w := w) hgP) (pair_key (w := w) hx) ?_))
        rw [decide_eq_true rfl]
        refine wpAny_bind (wpAny_setState_of ho hd hs.fits ?_)
        dsimp only
        cases adding with
        | true => exact wp_if_true rfl (wpAny_pure (h1 hm none (fun e => by cases e)))
        | false =>
          refine wp_if_false rfl ?_
          have e1 : t.sameMemory t.moves t.mask = some true := by unfold SetTable.sameMemory; simp
          rw [e1]
          dsimp only
          rw [if_pos rfl, hsl]
          dsimp only
          rw [hei]
          dsimp only
          have e2 : isSame (.ref g.1) (.ref g.1) = pure true := by
            unfold isSame
            dsimp only
            rw [if_pos (by simp)]
          rw [e2]
          refine wpAny_bind (wpAny_bind (wpAny_pure (wpAny_pure ?_)))
          rw [if_pos rfl]
          exact wpAny_pure (h1 hm (some i) fun _ => rfl)
theorem w_searchP {adding : Bool} {n : Nat} {es : Ents} {ep : Nat} {t : SetTable} {Q : SetFound → Shared → Prop} (hu : A.units < cLine) (ho : s.heap.get? a = some o) (hd : o.data = .set es ep t) (hs : SOK (byT w) es t) (hr : ReachT es t)
    (hperm : List.Perm es.toList (qents q)) (hD : ∀ e ∈ q, D10 e.2) (hT : TQ s.heap q) (hx : HasP s.heap (x, PairP p)) (hp : D10 p)
    (h1 : p ∈ q.map (·.2) → ∀ i, (adding = false → i.isSome = true) → Q (.there i) s)
    (h2 : p ∉ q.map (·.2) → ∀ sl, sl ≤ t.mask → sl ∉ t.place.toList → sl ∉ t.dummies.toList → (∃ k, k < 10 * SetTable.turns t.mask ∧ (path t.mask (hpair p) k).1 = sl ∧ ∀ m, m < k → t.slot (path t.mask (hpair p) m).1 ≠ .empty) → Q (.free sl false) s) :
    wpAny (model P0 w) A (setSearchFrom a (.ref x) (hpair p) adding (n + 1) none) Q E s :=
  w_searchH hpair hpair_inj hu ho hd hs hr hperm hD hT hx hp h1 h2
end
end Mine
end
section
open PySem PySem.W PySem.Calls PyProof.Rows
set_option maxRecDepth 100000
set_option maxHeartbeats 1000000
set_option autoImplicit false
set_option linter.unusedVariables false
set_option linter.unusedSectionVars false
namespace Mine
abbrev Q2 := List (Addr × (Int × Int))
/-- as PSP, for any hash, with what the mask may be -/
noncomputable def PSH (H : Int × Int → Int) (w : World) (q : Q2) (d : Data) : Prop :=
  ∃ es ep t, d = .set es ep t ∧ SOK (byT w) es t ∧ ReachT es t ∧ List.Perm es.toList (q.map fun e => (H e.2, Value.ref e.1)) ∧ (q.map (·.2)).Nodup ∧ (∀ e ∈ q, D10 e.2) ∧ (t.mask = 7 ∨ t.mask = 31)
theorem relay20 {bt : Bool} {es : Ents} {t : SetTable} (S : SOK0 bt es t) (hs : es.size ≤ 6) : ∃ t' order,
    t.relaid (es.map (·.1)) 20 = some (t', order) ∧ t'.mask = 31 ∧ (order.filterMap (es[·]?)).size = es.size ∧ List.Perm (order.filterMap (es[·]?)).toList es.toList ∧ SOK bt (order.filterMap (es[·]?)) t' ∧ ReachT (order.filterMap (es[·]?)) t' := by
  obtain ⟨t', order, e, e2, _, r⟩ := laid_sok (bt := bt) (es := es) (mask := 31) (finger := t.finger) (moves := t.movedTo 31) (by unfold okMask; omega) (by omega)
  refine ⟨t', order, ?_, e2, r⟩
  unfold SetTable.relaid
  rw [S.ld, S.pl, show SetTable.sizeAbove 20 - 1 = 31 from rfl]; exact e
section
variable {w : World} {A : Around} {E : Value → Shared → Prop} {s : Shared} {a x : Addr} {o : Obj} {q : Q2} {p : Int × Int}
theorem w_addH (H : Int × Int → Int) (Hinj : ∀ {p q : Int × Int}, D10 p → D10 q → H p = H q → p = q) {Q : Bool → Shared → Prop} (hu : A.units < cLine) (ho : s.heap.get? a = some o) (hI : PSH H w q o.data)
    (hT : TQ s.heap q) (hx : HasP s.heap (x, PairP p)) (hp : D10 p) (hb : p ∉ q.map (·.2) → q.length ≤ 17)
    (h1 : p ∈ q.map (·.2) → Q false s)
    (h2 : p ∉ q.map (·.2) → ∀ d' h', PSH H w (q ++ [(x, p)]) d' → Heap.SameBut a s.heap h' → h'.get? a = some { o with data := d' } → Q true { s with heap := h' }) :
    wpAny (model P0 w) A (setAddHashed a (.ref x) (H p)) Q E s := by
  obtain ⟨es, ep, t, hd, hs, hr, hperm, hnd, hD, hmask⟩ := hI
  have hlen : es.size = q.length := by have := hperm.length_eq; simpa using this
  have hdm := hr.1
  have hfl : t.fill = es.size := by unfold SetTable.fill; rw [hdm, hs.sz]; rfl
  unfold setAddHashed
  refine wpAny_holding ?_
  rw [show (100000 : Nat) = 99999 + 1 from rfl]
  unfold setAddHashedIn
  refine wpAny_bind (wpAny_setState_of ho hd hs.fits ?_)
  dsimp only
  refine wp_if_false rfl ?_
  refine wpAny_bind ?_
  unfold setSearch
  rw [show (100000 : Nat) = 99999 + 1 from rfl]
  refine w_searchH H Hinj hu ho hd hs hr hperm hD hT hx hp (fun hm i _ => ?_) (fun hm sl b1 b2 b3 b4 => ?_)
  · dsimp only
    exact wpAny_pure (h1 hm)
  · dsimp only
    have hb := hb hm
    obtain ⟨S0, hm1, hfl1, _, hre1⟩ := put_spec (wd := false) hs b1 b2 (fun e => by cases e) (H p, Value.ref x)
    refine wpAny_bind (wpAny_setState_of ho hd hs.fits ?_)
    dsimp only
    have hR1 := hre1 hr b4
    rw [if_pos S0.pl]
    refine wpAny_bind (w_hashP hx ?_)
    rw [if_pos rfl]
    have hpermI := SetTable.insertAt_perm es (t.put sl).2 (H p, Value.ref x)
    have hsz1 : (SetTable.insertAt es (t.put sl).2 (H p, Value.ref x)).size = es.size + 1 := size_insertAt _ _ _
    have hp1 : List.Perm (SetTable.insertAt es (t.put sl).2 (H p, Value.ref x)).toList ((q ++ [(x, p)]).map fun e => (H e.2, Value.ref e.1)) := by
      refine hpermI.trans ?_
      rw [Array.toList_push, List.map_append]
      exact hperm.append_right _
    have hnd1 : ((q ++ [(x, p)]).map (·.2)).Nodup := by
      rw [List.map_append, List.nodup_append]
      refine ⟨hnd, by simp, fun y hy z hz e => ?_⟩
      subst e
      have : y = p := by simpa using hz
      exact hm (this ▸ hy)
    have hD1 : ∀ e ∈ q ++ [(x, p)], D10 e.2 := fun e he => by
      rcases List.mem_append.mp he with he | he
      · exact hD e he
      · have : e = (x, p) := by simpa using he
        subst this; exact hp
    generalize hes1 : SetTable.insertAt es (t.put sl).2 (H p, Value.ref x) = es1 at *
    generalize ht1 : (t.put sl).1 = t1 at *
    have hfl2 : t1.fill = es1.size := by unfold SetTable.fill; rw [hR1.1, S0.sz]; rfl
    refine wpAny_bind (wpAny_storeSet_of ho hd ?_ (by rw [hsz1, sizeLine_eq]; omega))
    have ho1 := upd_set (es' := es1) (t' := t1) ho hd
    have hsb1 := Heap.SameBut.update s.heap a (Obj.putSet es1 t1)
    by_cases hful : t1.tooFull = true
    · refine wp_if_true (by rw [hful]; rfl) ?_
      have hful' := hful
      unfold SetTable.tooFull at hful'
      rw [decide_eq_true_eq, hfl2, hsz1, hm1] at hful'
      have hnf := hs.nf
      rw [hfl] at hnf
      have h7 : t.mask = 7 := by rcases hmask with h | h <;> omega
      have h4 : es.size = 4 := by omega
      have hg : SetTable.grown (es.size + 1) = 20 := by unfold SetTable.grown; rw [if_neg (by omega)]; omega
      obtain ⟨t', order, e1, e2, e3, e4, e5, e6⟩ := relay20 S0 (by omega)
      rw [hg]
      refine wpAny_bind ?_
      unfold setRelay
      refine wpAny_bind (wpAny_setState_of ho1 rfl S0.fits ?_)
      dsimp only
      rw [if_neg (by rw [sizeLine_eq, show SetTable.sizeAbove 20 = 32 from rfl]; omega)]
      rw [e1]
      refine wpAny_bind ?_
      refine wp_if_false (by rw [e3]; simp) (wpAny_pure ?_)
      dsimp only
      refine wpAny_storeSet_of ho1 rfl ?_ (by rw [e3, hsz1, sizeLine_eq]; omega)
      have ho2 := upd_set (s := { s with heap := s.heap.update a (Obj.putSet es1 t1) }) (es' := order.filterMap (es1[·]?)) (t' := t') ho1 rfl
      exact wpAny_pure (h2 hm _ _ ⟨_, _, _, rfl, e5, e6, e4.trans hp1, hnd1, hD1, .inr e2⟩ (hsb1.trans (Heap.SameBut.update _ a _)) ho2)
    · refine wp_if_false (by rw [Bool.not_eq_true] at hful; rw [hful]; rfl) ?_
      refine wpAny_pure (h2 hm _ _ ⟨es1, ep + 1, t1, rfl, ⟨S0, ?_⟩, hR1, hp1, hnd1, hD1, hm1 ▸ hmask⟩ hsb1 ho1)
      unfold SetTable.tooFull at hful
      rw [decide_eq_true_eq] at hful
      omega
end
end Mine
end
section
open PySem PySem.W PySem.Calls PyProof.Rows
set_option maxRecDepth 100000
set_option maxHeartbeats 1000000
set_option autoImplicit false
set_option linter.unusedVariables false
set_option linter.unusedSectionVars false
namespace Mine
/-- an object that is a set of the pairs of q -/
noncomputable def PP (w : World) (q : Q2) : Obj → Prop := fun o => ∃ d, o = setO d ∧ PSH hpair w q d
theorem PSH.fresh (H : Int × Int → Int) (w : World) : PSH H w [] (freshD w) := by
  obtain ⟨es, ep, t, hd, hs, -, -, -⟩ := newSetData w (!byT w) rfl
  injection hd with h1 h2 h3
  subst h1 h2 h3
  exact ⟨_, _, _, rfl, hs, ⟨rfl, fun e he => by simp [SetTable.fresh] at he⟩, by simp, by simp, by simp, .inl rfl⟩
theorem TQ.sub {h : Heap} {q q' : Q2} (x : TQ h q') (k : ∀ e ∈ q, e ∈ q') : TQ h q := fun e he => x e (k e he)
theorem TQ.keeps {h h' : Heap} {q : Q2} {a : Addr} {o : Obj} (x : TQ h q) (ho : h.get? a = some o) (hc : o.cls = .type "set") (k : ∀ b o, b ≠ a → h.get? b = some o → h'.get? b = some o) : TQ h' q := fun e he => by
  obtain ⟨oe, hoe, t, t', rfl⟩ := x e he
  refine ⟨_, k _ _ (fun q => ?_) hoe, t, t', rfl⟩
  subst q
  rw [ho] at hoe
  cases hoe
  exact absurd (show Value.type "tuple" = .type "set" from hc) (by decide)
section
variable {w : World} {A : Around} {E : Value → Shared → Prop} {s : Shared} {env : Env} {G : Array GenState} {O : OsState} {V : View} {L : Addr} {ns : List Str} {vs : List (Option Value)} {own : List Kp} {a x : Addr} {o : Obj} {q : Q2} {p : Int × Int}
theorem w_setAddP {Q : Bool → Shared → Prop} (hu : A.units < cLine) (ho : s.heap.get? a = some o) (hI : PSH hpair w q o.data) (hT : TQ s.heap q) (hx : HasP s.heap (x, PairP p)) (hp : D10 p) (hb : p ∉ q.map (·.2) → q.length ≤ 17)
    (h : ∀ q' d' h' b t, PSH hpair w q' d' → (q' = q ∧ p ∈ q.map (·.2) ∨ q' = q ++ [(x, p)] ∧ p ∉ q.map (·.2)) → Heap.SameBut a s.heap h' → h'.get? a = some { o with data := d' } → Q b { s with heap := h', toks := t }) :
    wpAny (model P0 w) A (setAdd a (.ref x)) Q E s := by
  unfold setAdd
  refine wpAny_holding ?_
  refine wpAny_bind (wpAny_pyHash_tuple hu (pair_key (w := w) hx) ?_)
  rw [hash_is]
  refine w_addH hpair hpair_inj (s := { s with toks := s.toks + ([p.1, p.2].length + 1) }) hu ho hI hT hx hp hb (fun hm => ?_) fun hm d' h' hd' hsb ho' => ?_
  · exact h q o.data s.heap false _ hI (.inl ⟨rfl, hm⟩) (Heap.SameBut.refl _ _) (by cases o; exact ho)
  · exact h _ d' h' true _ hd' (.inr ⟨rfl, hm⟩) hsb ho'
theorem k_addP {i : Nat} {Q : Value → Shared → Prop} (H : Fm w G O V L ns vs own s) (R : Rm A 3) (hi : own[i]? = some (a, PP w q)) (hT : TQ s.heap q) (hx : HasP s.heap (x, PairP p)) (hp : D10 p) (hb : p ∉ q.map (·.2) → q.length ≤ 17)
    (h : ∀ q' s', Fm w G O V L ns vs (own.set i (a, PP w q')) s' → (q' = q ∧ p ∈ q.map (·.2) ∨ q' = q ++ [(x, p)] ∧ p ∉ q.map (·.2)) → Q .none s') : wpAny (model P0 w) A (call (.builtin "set.add") [.ref a, .ref x]) Q E s := by
  obtain ⟨o, ho, d, rfl, hI⟩ := H.get (List.mem_of_getElem? hi)
  refine k_setm (n := "add") (.inl (by kernel_rfl)) (by kernel_rfl) (by decide +kernel) F.entry_set_add (F.args_set_add_2 _ _) H.ctx ho (.inl rfl) ?_
  refine wpAny_bind (m := Builtin.Frozenset.oneOther _ _) (wpAny_of_eq (a := (a, .ref x)) rfl ?_)
  refine wpAny_bind (w_setAddP R.in1.cl ho hI hT hx hp hb fun q' d' h' b t hd' hq hsb ho' => ?_)
  exact wpAny_pure ⟨_, rfl, h q' _ (H.change hi hsb.extBut ⟨_, ho', _, rfl, hd'⟩ H.gens H.os) hq⟩
theorem w_updLoopP {Rz : Result → Shared → Prop} {I l : Addr} {ts : List Addr} {ps : List (Int × Int)} (hh : A.handled = none) (hu : A.in1.units < cLine) (hne : l ≠ I) (haI : a ≠ I) (hlen : ts.length = ps.length) (hD : ∀ p ∈ ps, D10 p) (hpl : ps.length ≤ 18) :
    ∀ (k i : Nat) (s : Shared) (q : Q2) (o : Obj), ts.length - i = k → i ≤ ts.length → HasP s.heap (I, LIt l i) → s.heap.IsList l (ts.map Value.ref).toArray → s.heap.get? a = some o → o.cls = .type "set" → PSH hpair w q o.data → q.length ≤ i → (∀ e ∈ q, e ∈ ts.zip ps) → (∀ p, p ∈ q.map (·.2) ↔ p ∈ ps.take i) → TQ s.heap (ts.zip ps) →
      (∀ d' q' h' tk, PSH hpair w q' d' → (∀ e ∈ q', e ∈ ts.zip ps) → (∀ p, p ∈ q'.map (·.2) ↔ p ∈ ps) → (∀ b ob, b ≠ I → b ≠ a → s.heap.get? b = some ob → h'.get? b = some ob) → h'.get? a = some { o with data := d' } → Rz (.ok (.ret .none)) { s with heap := h', toks := tk }) →
      codeAny (model P0 w) A (.builtin "set.update.loop" ⟨[.ref a, .ref I], []⟩) Rz s := by
  have It := Iter.list (w := w) (A := A.in1) (by exact hh) I l hne (ts.map Value.ref).toArray
  have hsz : (ts.map Value.ref).toArray.size = ts.length := by simp
  intro k
  induction k with
  | zero =>
    intro i s q o hk hi hit hl ho hc hI hqi hqz hqm hT hR
    have hin : i = ts.length := by omega
    subst hin
    refine codeAny_builtin F.entry_set_update_loop ?_
    rw [Around.under_plainId F.plain_set_update_loop _]
    show wpAny _ A.in1 (pyNext (.ref I) >>= _) _ _ s
    refine wpAny_bind (It.done s _ _ (hsz ▸ hit) hl fun h' tk hk' => ?_)
    show wpAny _ A.in1 (ret Value.none) _ _ _
    rw [List.take_of_length_le (by omega)] at hqm
    exact wpAny_pure (hR o.data q h' tk hI hqz hqm (fun b ob hb _ e => hk' b ob hb e) (by rw [hk' a o haI ho]))
  | succ k ih =>
    intro i s q o hk hi hit hl ho hc hI hqi hqz hqm hT hR
    have hlt : i < ts.length := by omega
    have hlt' : i < ps.length := by omega
    refine codeAny_builtin F.entry_set_update_loop ?_
    rw [Around.under_plainId F.plain_set_update_loop _]
    show wpAny _ A.in1 (pyNext (.ref I) >>= _) _ _ s
    refine wpAny_bind (It.item i s _ _ (by omega) hit hl fun v h' tk hP hit' hk' => ?_)
    obtain rfl : v = .ref ts[i] := by
      have : (ts.map Value.ref)[i]? = some v := by simpa using hP
      rw [List.getElem?_map, List.getElem?_eq_getElem hlt] at this
      exact (Option.some.inj this).symm
    have hz : (ts[i], ps[i]) ∈ ts.zip ps := List.mem_of_getElem? (i := i) (by rw [List.getElem?_zip_eq_some]; exact ⟨List.getElem?_eq_getElem hlt, List.getElem?_eq_getElem hlt'⟩)
    have nI : ∀ e ∈ ts.zip ps, e.1 ≠ I := fun e he q => by
      obtain ⟨oe, hoe, t, t', rfl⟩ := hT e he
      obtain ⟨oi, hoi, hci, _⟩ := hit
      simp only at hoe
      rw [q, hoi] at hoe
      cases hoe
      exact absurd (show Value.type "tuple" = .type "list_iterator" from hci) (by decide)
    have hT1 : TQ h' (ts.zip ps) := fun e he => (hT e he).keeps fun ob eo => hk' _ _ (nI e he) eo
    show wpAny _ A.in1 (holding [Value.ref ts[i]] (setAdd a (.ref ts[i])) >>= _) _ _ _
    refine wpAny_bind (wpAny_holding ?_)
    refine w_setAddP (o := o) (s := { s with heap := h', toks := tk }) (p := ps[i]) hu (hk' a o haI ho) hI (hT1.sub hqz) (hT1 _ hz) (hD _ (List.getElem_mem hlt')) (fun _ => by omega) fun q' d' h'' b tk2 hd' hq' hsb ho' => ?_
    obtain ⟨ol, hol, hrl⟩ := hl
    have hla : l ≠ a := fun e => by
      subst e
      rw [ho] at hol
      cases hol
      rw [hrl.1] at hc
      exact absurd hc (by decide)
    have htk : ps.take (i + 1) = ps.take i ++ [ps[i]] := by rw [List.take_add_one, List.getElem?_eq_getElem hlt']; rfl
    refine wpAny_pure ⟨plainId_quiet F.plain_set_update_loop _, ih (i + 1) _ q' _ (by omega) hlt (hit'.keeps fun ob e => ?_) ⟨ol, (hsb.2 l hla).trans (hk' _ _ hne hol), hrl⟩ ho' hc hd' ?_ ?_ ?_ (hT1.keeps (hk' a o haI ho) hc fun b ob hb e => (hsb.2 b hb).trans e) fun d3 q3 h3 tk3 hI3 hz3 hm3 hk3 ho3 => ?_⟩
    · exact (hsb.2 I (Ne.symm haI)).trans e
    · rcases hq' with ⟨rfl, _⟩ | ⟨rfl, _⟩
      · omega
      · simp; omega
    · rcases hq' with ⟨rfl, _⟩ | ⟨rfl, _⟩
      · exact hqz
      · intro e he
        rcases List.mem_append.mp he with he | he
        · exact hqz e he
        · have : e = (ts[i], ps[i]) := by simpa using he
          subst this; exact hz
    · intro y
      rw [htk, List.mem_append, List.mem_singleton]
      rcases hq' with ⟨rfl, hm⟩ | ⟨rfl, hm⟩
      · rw [hqm]
        exact ⟨.inl, fun h => h.elim id fun e => e ▸ (hqm _).mp hm⟩
      · rw [List.map_append, List.mem_append, hqm]
        simp
    · exact hR d3 q3 h3 tk3 hI3 hz3 hm3 (fun b ob hb hba e => hk3 b ob hb hba ((hsb.2 b hba).trans (hk' b ob hb e))) ho3
/-- set(pairs) -/
theorem k_set_pairs {l : Addr} {ts : List Addr} {ps : List (Int × Int)} {Q : Value → Shared → Prop} (C : Cx w s.heap) (R : Rm A 5) (hl : s.heap.IsList l (ts.map Value.ref).toArray) (hlen : ts.length = ps.length) (hT : TQ s.heap (ts.zip ps)) (hD : ∀ p ∈ ps, D10 p) (hpl : ps.length ≤ 18)
    (h : ∀ r q s', Res s s' [(r, PP w q)] → (∀ e ∈ q, e ∈ ts.zip ps) → (∀ p, p ∈ q.map (·.2) ↔ p ∈ ps) → Q (.ref r) s') : wpAny (model P0 w) A (call (.type "set") [.ref l]) Q E s := by
  refine k_set1 C ?_
  obtain ⟨ol, hol, hrl⟩ := id hl
  have hl1 : (s.heap.push (setO (freshD w))).IsList l (ts.map Value.ref).toArray := hl.push _
  have hTl : ({ s with heap := s.heap.push (setO (freshD w)) } : Shared).TypeIs (.ref l) "list" := hl1.typeIs
  unfold Builtin.Frozenset.updateFrom
  refine wpAny_bind (w_isAnySet hTl F.sub_list_set F.sub_list_frozenset ?_)
  rw [if_neg (by decide)]
  refine wpAny_bind (wpAny_typeOf hTl ?_)
  rw [if_neg (by decide)]
  refine wpAny_bind (wpAny_pyIter_list hl1 ?_)
  refine wpAny_bind (wpAny_runValue ?_)
  have hls : l < s.heap.objs.size := Heap.lt_size hol
  have e1 : (s.heap.push (setO (freshD w))).objs.size = s.heap.objs.size + 1 := Heap.size_push ..
  have keep : ∀ b ob, s.heap.get? b = some ob → ((s.heap.push (setO (freshD w))).push { cls := .type "list_iterator", data := .fields #[.ref l, .int 0 0] }).get? b = some ob := fun b ob e => Heap.get?_push_of_some _ (Heap.get?_push_of_some _ e)
  refine w_updLoopP (A := A.in1.in1) (a := s.heap.objs.size) (I := (s.heap.push (setO (freshD w))).objs.size) (ts := ts) (ps := ps) R.hd R.in1.in1.in1.cl (by rw [e1]; exact Nat.ne_of_lt (Nat.lt_succ_of_lt hls)) (by rw [e1]; exact Nat.ne_of_lt (Nat.lt_succ_self _)) hlen hD hpl ts.length 0 _ [] (setO (freshD w)) (by omega) (Nat.zero_le _)
    ⟨_, Heap.get?_push_size _ rfl, rfl, rfl⟩ (hl1.push _) (Heap.get?_push_of_some _ (Heap.get?_push_size _ rfl)) rfl (PSH.fresh _ w) (Nat.le_refl _) (by simp) (by simp) (fun e he => (hT e he).keeps fun ob eo => keep _ _ eo) fun d' q' h' tk hI hz hm hk ho' => ?_
  refine wpAny_pure (h _ q' _ ⟨fun b ob e => hk b ob ?_ (Nat.ne_of_lt (Heap.lt_size e)) (keep b ob e), rfl, rfl, fun p hp => ?_, by simp, fun p hp => ?_⟩ hz hm)
  · rw [e1]; exact Nat.ne_of_lt (Nat.lt_succ_of_lt (Heap.lt_size e))
  · obtain rfl : p = (s.heap.objs.size, PP w q') := by simpa using hp
    exact fresh_none _
  · obtain rfl : p = (s.heap.objs.size, PP w q') := by simpa using hp
    exact ⟨_, ho', _, rfl, hI⟩
end
end Mine
end
section
open PySem PySem.W PySem.Calls PyProof.Rows
set_option maxRecDepth 100000
set_option maxHeartbeats 1000000
set_option autoImplicit false
set_option linter.unusedVariables false
set_option linter.unusedSectionVars false
namespace Mine
theorem PSH.len {H : Int × Int → Int} {w : World} {q r : Q2} {d d' : Data} (hI : PSH H w q d) (hR : PSH H w r d') (h : ∀ p, p ∈ q.map (·.2) ↔ p ∈ r.map (·.2)) : q.length = r.length := by
  obtain ⟨_, _, _, _, _, _, _, hn, _⟩ := hI
  obtain ⟨_, _, _, _, _, _, _, hn', _⟩ := hR
  have := ((List.perm_ext_iff_of_nodup hn hn').mpr h).length_eq
  simpa using this
section
variable {w : World} {A : Around} {E : Value → Shared → Prop} {s : Shared} {a b : Addr} {o ob : Obj} {q r : Q2}
theorem w_sizeP {H : Int × Int → Int} {Q : Nat → Shared → Prop} (ho : s.heap.get? a = some o) (hI : PSH H w q o.data) (h : Q q.length s) : wpAny (model P0 w) A (Builtin.Frozenset.sizeOf a) Q E s := by
  obtain ⟨es, ep, t, hd, hs, -, hp, -⟩ := hI
  unfold Builtin.Frozenset.sizeOf setEntries
  refine wpAny_bind (wpAny_bind (wpAny_setState_of ho hd hs.fits (wpAny_pure ?_)))
  refine wpAny_pure ?_
  have : es.size = q.length := by have := hp.length_eq; simpa using this
  rw [this]; exact h
theorem w_fwalkP {es : Ents} {ep : Nat} {t : SetTable} {esb : Ents} {epb : Nat} {tb : SetTable} {Q : List (Int × Value) → Shared → Prop} (ho : s.heap.get? a = some o) (hd : o.data = .set es ep t) (hs : SOK (byT w) es t)
    (hob : s.heap.get? b = some ob) (hdb : ob.data = .set esb epb tb) (hsb : SOK (byT w) esb tb) (hall : ∀ e ∈ es.toList ++ esb.toList, ∃ x p, e.2 = .ref x ∧ HasP s.heap (x, PairP p))
    (h : ∀ L, List.Perm L es.toList → Q L s) : wpAny (model P0 w) A (Builtin.Frozenset.walkUnseen a b) Q E s := by
  unfold Builtin.Frozenset.walkUnseen setEntries
  refine wpAny_bind (wpAny_bind (wpAny_setState_of ho hd hs.fits (wpAny_pure ?_)))
  refine wpAny_bind (wpAny_bind (wpAny_setState_of hob hdb hsb.fits (wpAny_pure ?_)))
  refine wpAny_bind (w_forL (fun rem bb s' => s' = s ∧ (bb.1 = none) ∧ ∀ e ∈ rem, e ∈ es.toList ++ esb.toList) ?_ ?_ _ _ _ ⟨rfl, rfl, fun e he => he⟩)
  · rintro ⟨hsh, v⟩ rr ⟨_, _⟩ s' ⟨rfl, rfl, hr⟩
    obtain ⟨x, p, e1, o1, ho1, t1, t1', rfl⟩ := hall _ (hr _ (.head _))
    simp only at e1
    subst e1
    have hT : s'.TypeIs (.ref x) "tuple" := ⟨_, ho1, rfl⟩
    dsimp only
    unfold Builtin.Frozenset.quietEq
    dsimp only
    refine wpAny_bind (wpAny_bind (wpAny_specialOf hT F.slot_tuple_eq.lookup (wpAny_pure ?_)))
    refine wp_if_true (by decide) ?_
    unfold Builtin.Frozenset.walk
    refine wpAny_bind (wpAny_bind (w_walk0 ho hd hs.fits hs.pl hs.ld (wpAny_pure (wpAny_pure (wpAny_pure (h _ (wOrd_perm w a es ep)))))))
  · rintro ⟨_, _⟩ s' ⟨rfl, e, _⟩
    cases e
    exact wpAny_pure (h _ (.refl _))
theorem w_subsetP {id : String} {Q : Bool → Shared → Prop} (hu : A.units < cLine) (ho : s.heap.get? a = some o) (hI : PSH hpair w q o.data) (hob : s.heap.get? b = some ob) (hR : PSH hpair w r ob.data) (hTq : TQ s.heap q) (hTr : TQ s.heap r)
    (hm : ∀ p, p ∈ q.map (·.2) ↔ p ∈ r.map (·.2)) (h : Q true s) : wpAny (model P0 w) A (Builtin.Frozenset.subsetOf id a b) Q E s := by
  have hl := PSH.len hI hR hm
  unfold Builtin.Frozenset.subsetOf
  refine wpAny_bind (w_sizeP ho hI ?_)
  refine wpAny_bind (w_sizeP hob hR ?_)
  rw [if_neg (by omega)]
  obtain ⟨es, ep, t, hd, hs, hr, hp, hn, hD, -⟩ := hI
  obtain ⟨esb, epb, tb, hdb, hsb, hrb, hpb, hnb, hDb, -⟩ := hR
  refine wpAny_bind (w_epoch ho hd hs.fits ?_)
  refine wpAny_bind (w_fwalkP ho hd hs hob hdb hsb (fun e he => ?_) fun L hL => ?_)
  · rcases List.mem_append.mp he with he | he
    · obtain ⟨g, hg, rfl⟩ := List.mem_map.mp (hp.mem_iff.mp he)
      exact ⟨_, _, rfl, hTq g hg⟩
    · obtain ⟨g, hg, rfl⟩ := List.mem_map.mp (hpb.mem_iff.mp he)
      exact ⟨_, _, rfl, hTr g hg⟩
  · refine wpAny_bind (w_forL (fun rem bb s' => s' = s ∧ (bb.1 = none) ∧ ∀ e ∈ rem, ∃ g ∈ q, e = (hpair g.2, Value.ref g.1)) ?_ ?_ _ _ _ ⟨rfl, rfl, fun e he => by
      obtain ⟨g, hg, rfl⟩ := List.mem_map.mp (hp.mem_iff.mp (hL.mem_iff.mp he))
      exact ⟨g, hg, rfl⟩⟩)
    · rintro ⟨hsh, v⟩ rr ⟨_, _⟩ s' ⟨rfl, rfl, hrr⟩
      obtain ⟨g, hg, e1⟩ := hrr _ (.head _)
      obtain ⟨rfl, rfl⟩ := Prod.mk.inj e1
      dsimp only
      refine wpAny_bind (wpAny_holding ?_)
      unfold setFind
      rw [show (100000 : Nat) = 99999 + 1 from rfl]
      unfold setFindIn
      refine wpAny_bind (wpAny_setState_of hob hdb hsb.fits ?_)
      dsimp only
      refine wp_if_false rfl ?_
      unfold setSearch
      rw [show (100000 : Nat) = 99999 + 1 from rfl]
      refine wpAny_bind (w_searchH hpair hpair_inj hu hob hdb hsb hrb hpb hDb hTr (hTq g hg) (hD g hg) (fun _ i hi => ?_) fun hno => absurd ((hm g.2).mp (List.mem_map.mpr ⟨g, hg, rfl⟩)) hno)
      have hi' := hi rfl
      cases i with
      | none => cases hi'
      | some i =>
        dsimp only
        refine wpAny_pure ?_
        refine wp_if_false rfl ?_
        refine wpAny_bind (w_unchanged ho hd hs.fits (wpAny_pure ⟨rfl, rfl, fun e he => hrr e (.tail _ he)⟩))
    · rintro ⟨_, _⟩ s' ⟨rfl, e, _⟩
      cases e
      exact wpAny_pure h
/-- two sets of the same pairs are not unequal -/
theorem k_neP {Q : Value → Shared → Prop} (R : Rm A 3) (ha : HasP s.heap (a, PP w q)) (hb : HasP s.heap (b, PP w r)) (hTq : TQ s.heap q) (hTr : TQ s.heap r) (hm : ∀ p, p ∈ q.map (·.2) ↔ p ∈ r.map (·.2))
    (h : Q (.bool false) s) : wpAny (model P0 w) A (compareOp .NotEq (.ref a) (.ref b)) Q E s := by
  obtain ⟨_, ho, d, rfl, hI⟩ := ha
  obtain ⟨_, hob, d', rfl, hR⟩ := hb
  have hTa : s.TypeIs (.ref a) "set" := ⟨_, ho, rfl⟩
  have hTb : s.TypeIs (.ref b) "set" := ⟨_, hob, rfl⟩
  have hl := PSH.len hI hR hm
  show wpAny _ _ (richCompare .NotEq (.ref a) (.ref b)) _ _ _
  refine wpAny_richCompare_same_room hTa hTb F.slot_set_ne ?_ R.cl
  refine wpAny_call_entry F.slot_set_ne hTa entry_set_ne ?_ (F.args_set_ne_2 _ _)
  refine wpAny_bind (wpAny_of_eq (a := (Value.ref a, Value.ref b)) rfl ?_)
  dsimp only
  refine wpAny_bind (w_isAnySet hTb F.sub_set_set (b2 := false) F.sub_set_frozenset ?_)
  refine wp_if_false rfl ?_
  refine wpAny_bind (wpAny_pure (wpAny_bind (wpAny_pure ?_)))
  refine wpAny_bind (w_sizeP (o := setO d) ho hI ?_)
  refine wpAny_bind (w_sizeP (o := setO d') hob hR ?_)
  refine wpAny_bind (wp_if_false (by simp [hl]) ?_)
  refine wpAny_bind ?_
  unfold andM
  refine wpAny_bind (wpAny_isInstance hTa F.sub_set_frozenset (wpAny_pure ?_))
  refine wp_if_false rfl ?_
  refine w_subsetP (o := setO d) (ob := setO d') R.in1.cl ho hI hob hR hTq hTr hm ?_
  exact wpAny_pure ⟨_, rfl, (by intro e; cases e), h⟩
end
end Mine
end
section
open PySem PySem.W PySem.Calls PyProof.Rows
set_option maxRecDepth 100000
set_option maxHeartbeats 1000000
set_option autoImplicit false
set_option linter.unusedVariables false
set_option linter.unusedSectionVars false
namespace Mine
theorem nodup_lenG {α : Type} [DecidableEq α] : ∀ {l S : List α}, l.Nodup → (∀ x ∈ l, x ∈ S) → l.length ≤ S.length
  | [], S, _, _ => Nat.zero_le _
  | x :: l, S, h, sub => by
    rw [List.nodup_cons] at h
    have hx : x ∈ S := sub x (.head _)
    have := nodup_lenG (l := l) (S := S.erase x) h.2 fun y hy => by
      refine (List.mem_erase_of_ne ?_).mpr (sub y (.tail _ hy))
      rintro rfl
      exact h.1 hy
    rw [List.length_erase_of_mem hx] at this
    have := List.length_pos_of_mem hx
    simp only [List.length_cons]
    omega
theorem qtups_snoc (q : Q2) (x : Addr) (p : Int × Int) : qtups (q ++ [(x, p)]) = qtups q ++ [(x, PairP p)] := by simp [qtups]
section
variable {w : World} {A : Around} {E : Value → Shared → Prop} {s : Shared} {env : Env} {G : Array GenState} {O : OsState} {V : View} {L : Addr} {ns : List Str} {vs : List (Option Value)} {own : List Kp}
theorem acc_setP {w : World} {A : Around} {E : Value → Shared → Prop} (s : Shared) (Q : Value → Shared → Prop) (h : ∀ D s', s.heap.get? D = none → Keeps s.heap s'.heap → s'.gens = s.gens → s'.os = s.os → HasP s'.heap (D, PP w []) → Q (.ref D) s') : wpAny (model P0 w) A (newSet (.type "set")) Q E s :=
  w_newSet' (h _ _ (fresh_none _) (Keeps.push _ _) rfl rfl ⟨_, Heap.get?_push_size _ rfl, _, rfl, PSH.fresh _ w⟩)
theorem Fm.tq {own' : List Kp} {q : Q2} (H : Fm w G O V L ns vs own s) (h : ∀ p ∈ qtups q, p ∈ own) : TQ s.heap q := fun e he => H.hown (e.1, PairP e.2) (h _ (List.mem_map.mpr ⟨e, he, rfl⟩))
theorem gen_spec {d : Addr} {kvs : List (Int × Addr)} {T : Int → List Int} {ps : List (Int × Int)} {Q : Value → Shared → Prop} (C : Cx w s.heap) (R : Rm A 10) (hdS : (d == sysModules) = false) (hd : HasP s.heap (d, DDP kvs))
    (hT : ∀ k a, (k, a) ∈ kvs → HasP s.heap (a, SP w (T k))) (hps : ∀ k ∈ kvs.map (·.1), ∀ x ∈ T k, (x, k) ∈ ps) (hD : ∀ p ∈ ps, D10 p) (hpl : ps.length ≤ 18)
    (h : ∀ r q s', (∀ p, p ∈ q.map (·.2) ↔ p.2 ∈ kvs.map (·.1) ∧ p.1 ∈ T p.2) → Res s s' ((r, PP w q) :: qtups q) → Q (.ref r) s') :
    wpAny (model P0 w) A (call (.ref 305) [.ref d]) Q E s := by
  refine f_call (ns := ["edges"]) (by rfl) C (by decide) R.room (by kernel_rfl) (binds := [("edges", .ref d)]) (.of_eq (by rfl)) ?_
  intro env s' he en H
  have R' := R.deeper env
  generalize hAA : A.deeper env = AA at *
  have hhA : AA.handled = none := R'.hd
  clear hAA
  subst he
  obtain ⟨c, hc⟩ : ∃ c, c = s.heap.objs.size + 1 := ⟨_, rfl⟩
  replace H : Fm w s.gens s.os (hv s.heap) s.heap.objs.size ["edges"] [none] [(c, CellP none)] s' := by rw [hc]; exact H
  refine s_cell (i := 0) H en rfl (by rw [hc]; rfl) rfl fun s1 H => ⟨H.ctx, ?_⟩
  replace H : Fm w s.gens s.os (hv s.heap) s.heap.objs.size ["edges"] [none] [(c, CellP (some (.ref d)))] s1 := H
  have vd : VP (hv s.heap) (d, DDP kvs) := hd
  have vT : ∀ k a, (k, a) ∈ kvs → VP (hv s.heap) (a, SP w (T k)) := hT
  obtain ⟨od, hod, es, ep, rfl, hes⟩ := id vd
  have hesz : es.size = kvs.length := by have := hes.len; simpa using this
  refine x_cons (x_Return (e_SetComp2 (cl := [("edges", c)]) (p₀ := PP w []) acc_setP H
    (fun i pD ext => ∃ q, pD = PP w q ∧ ext = qtups q ∧ (q.map (·.2)).Nodup ∧ ∀ p, p ∈ q.map (·.2) ↔ p.2 ∈ (kvs.take i).map (·.1) ∧ p.1 ∈ T p.2)
    (e_cell H en rfl (by rw [hc]; rfl) (.head _) (i_dd H hdS (H.look hod) fun I s2 H hdI => ⟨I, es.size, _, KIt d es.size ep, _, _, [], _, rfl, Iter.dd hhA I d hes, H, ⟨[], rfl, rfl, .nil, by simp⟩, ?_, ?_, ?_⟩)) (by rw [hc]; rfl)))
  · intro i pD ext' s3 _ hk
    exact hk d _ (by simpa using hdI) (H.look hod)
  · rintro C0 D i v pD ext u s3 hi ⟨⟨k, a0⟩, t, hkv, rfl⟩ ⟨q, rfl, rfl, hnd, hq⟩ hu H3
    obtain ⟨u0, u1, u2, rfl⟩ : ∃ u0 u1 u2, u = [u0, u1, u2] := by
      match u, hu with
      | [u0, u1, u2], _ => exact ⟨u0, u1, u2, rfl⟩
    have en3 := en.comp { kind := .function, names := [(".0", .local), ("left", .local), ("right", .local), ("edges", .free)], isGenerator := false, isCoroutine := false } [("edges", c)] C0 rfl rfl
    have hkm : k ∈ kvs.map (·.1) := List.mem_map.mpr ⟨_, List.mem_of_getElem? hkv, rfl⟩
    obtain ⟨j, a, hl, hj⟩ : ∃ (j : Nat) (a : Addr), look kvs k = some a ∧ kvs[j]? = some (k, a) := by
      cases hl : look kvs k with
      | none => exact absurd hkm (look_none hl)
      | some a => obtain ⟨j, hj⟩ := look_some hl; exact ⟨j, a, rfl, hj⟩
    have va := vT k a (List.mem_of_getElem? hj)
    obtain ⟨oa, hoa, hoap⟩ := id va
    have haI : a ∉ I :: ([] : List Kp).map (·.1) := by simpa using H.vne va (.head _)
    have hcI : c ∉ I :: ([] : List Kp).map (·.1) := by simpa using H.one (i := 1) (j := 0) rfl rfl (by decide)
    have hdI' : d ∉ I :: ([] : List Kp).map (·.1) := by simpa using hdI
    have ga : ∀ {s' : Shared}, ((hv s2.heap).but [I]).le (hv s'.heap) → s'.heap.get? a = some oa := fun k => k _ _ (View.but_at (H.look hoa) haI)
    have gd : ∀ {s' : Shared}, ((hv s2.heap).but [I]).le (hv s'.heap) → s'.heap.get? d = some (ddD es ep) := fun k => k _ _ (View.but_at (H.look hod) hdI')
    have gc : ∀ {s' : Shared}, ((hv s2.heap).but [I]).le (hv s'.heap) → HasP s'.heap (c, CellP (some (.ref d))) := fun k => HasP.but (H := [I]) k (H.get (.tail _ (.head _))) hcI
    refine a_Name (s_local H3 en3 rfl (.tail .head) fun s4 H4 => ?_)
    refine e_subDD (e_cellH en3 rfl rfl (gc H4.view) (e_local H4 en3 rfl (.tail .head) ⟨d, rfl, hdS, ⟨_, gd H4.view, rfl⟩, k_ddhit ⟨_, gd H4.view, es, ep, rfl, hes⟩ hl ?_⟩))
    replace H4 := H4.tok (s4.toks + 1)
    refine i_set H4 hhA ⟨oa, ga H4.view, hoap⟩ fun J s5 ord Sh o H5 hord ho hne It => ?_
    obtain rfl : o = oa := Option.some.inj (ho.symm.trans (ga H4.view))
    refine set2_inner hhA It (fun m u own => ∃ q u2, u = [u0, some (.int k t), u2] ∧ own = (I, KIt d es.size ep (i + 1)) :: (D, PP w q) :: qtups q ∧ (q.map (·.2)).Nodup ∧
      ∀ p, p ∈ q.map (·.2) ↔ (p.2 ∈ (kvs.take i).map (·.1) ∧ p.1 ∈ T p.2) ∨ (p.2 = k ∧ p.1 ∈ ord.take m)) H5 (Nat.zero_le _) ⟨q, u2, rfl, rfl, hnd, fun p => by rw [hq]; simp⟩ (fun _ _ _ _ _ F => ga F.view) ?_ ?_
    · rintro m v _ _ s6 hm ⟨t6, x, hx, rfl⟩ ⟨q, u2, rfl, rfl, hnd, hq⟩ H6
      have hxT : x ∈ T k := hord.mem_iff.mp (List.mem_of_getElem? hx)
      have hxp : (x, k) ∈ ps := hps k hkm x hxT
      refine a_Name (s_local H6 en3 rfl (.tail (.tail .head)) fun s7 H7 => ?_)
      refine e_tuple (i_cons (e_local H7 en3 rfl (.tail (.tail .head)) (i_cons (e_local H7 en3 rfl (.tail .head) (i_nil (n_tuple H7 fun tp s8 H8 => ?_))))))
      replace H8 := H8.weaken (own' := (tp, PairP (x, k)) :: (J, Sh (m + 1)) :: (I, KIt d es.size ep (i + 1)) :: (D, PP w q) :: qtups q) rfl fun z hz => by
        rcases List.mem_cons.mp hz with rfl | hz
        · obtain ⟨o, ho, e⟩ := H8.get (.head _)
          exact ⟨o, ho, _, _, e⟩
        · exact H8.hown z (.tail _ hz)
      have hsub : ∀ p ∈ q.map (·.2), p ∈ ps := fun p hp => by
        rcases (hq p).mp hp with ⟨h1, h2⟩ | ⟨h1, h2⟩
        · obtain ⟨e, he, h3⟩ := List.mem_map.mp h1
          have := hps p.2 (List.mem_map.mpr ⟨e, List.mem_of_mem_take he, h3⟩) p.1 h2
          exact this
        · have := hps k hkm p.1 (hord.mem_iff.mp (List.mem_of_mem_take h2))
          obtain ⟨p1, p2⟩ := p
          simp only at h1 this
          rw [h1]; exact this
      refine k_addP (i := 3) (p := (x, k)) H8 (R'.mono (by decide)) rfl (H8.tq (own' := []) fun z hz => .tail _ (.tail _ (.tail _ (.tail _ hz)))) (H8.get (.head _)) (hD _ hxp) (fun hno => ?_) fun q' s9 H9 hq' => ?_
      · have := nodup_lenG (l := (x, k) :: q.map (·.2)) (S := ps) (List.nodup_cons.mpr ⟨hno, hnd⟩) fun y hy => by
          rcases List.mem_cons.mp hy with rfl | hy
          · exact hxp
          · exact hsub y hy
        simp at this
        omega
      · have htk : ord.take (m + 1) = ord.take m ++ [x] := by rw [List.take_add_one, hx]; rfl
        rcases hq' with ⟨rfl, hin⟩ | ⟨rfl, hno⟩
        · refine ⟨_, _, H9.sub (.cons _ (.refl _)), q', _, rfl, rfl, hnd, fun p => ?_⟩
          rw [hq, htk, List.mem_append, List.mem_singleton]
          constructor
          · rintro (h | ⟨h1, h2⟩)
            · exact .inl h
            · exact .inr ⟨h1, .inl h2⟩
          · rintro (h | ⟨h1, h2 | h2⟩)
            · exact .inl h
            · exact .inr ⟨h1, h2⟩
            · obtain ⟨p1, p2⟩ := p
              simp only at h1 h2
              subst h1 h2
              exact (hq _).mp hin
        · have HP := H9.perm (own' := (J, Sh (m + 1)) :: (I, KIt d es.size ep (i + 1)) :: (D, PP w (q ++ [(tp, (x, k))])) :: (qtups q ++ [(tp, PairP (x, k))]))
            (List.perm_append_singleton (tp, PairP (x, k)) ((J, Sh (m + 1)) :: (I, KIt d es.size ep (i + 1)) :: (D, PP w (q ++ [(tp, (x, k))])) :: qtups q))
          refine ⟨_, _, HP, q ++ [(tp, (x, k))], _, rfl, by rw [qtups_snoc], ?_, fun p => ?_⟩
          · rw [List.map_append, List.nodup_append]
            refine ⟨hnd, by simp, fun y hy z hz e => ?_⟩
            subst e
            have : y = (x, k) := by simpa using hz
            exact hno (this ▸ hy)
          · rw [List.map_append, List.mem_append, hq, htk, List.mem_append, List.mem_singleton]
            obtain ⟨p1, p2⟩ := p
            simp only [List.map_cons, List.map_nil, List.mem_singleton, Prod.mk.injEq]
            constructor
            · rintro ((h | ⟨h1, h2⟩) | ⟨h1, h2⟩)
              · exact .inl h
              · exact .inr ⟨h1, .inl h2⟩
              · exact .inr ⟨h2, .inr h1⟩
            · rintro (h | ⟨h1, h2 | h2⟩)
              · exact .inl (.inl h)
              · exact .inl (.inr ⟨h1, h2⟩)
              · exact .inr ⟨h2, h1⟩
    · rintro _ _ s6 ⟨q, u2, rfl, rfl, hnd, hq⟩ H6
      refine ⟨_, _, _, rfl, H6, q, rfl, rfl, hnd, fun p => ?_⟩
      have htk : kvs.take (i + 1) = kvs.take i ++ [(k, a0)] := by rw [List.take_add_one, hkv]; rfl
      rw [List.take_length] at hq
      rw [hq, htk, List.map_append, List.mem_append, List.map_cons, List.map_nil, List.mem_singleton]
      constructor
      · rintro (⟨h1, h2⟩ | ⟨h1, h2⟩)
        · exact ⟨.inl h1, h2⟩
        · exact ⟨.inr h1, h1 ▸ hord.mem_iff.mp h2⟩
      · rintro ⟨h1 | h1, h2⟩
        · exact .inl ⟨h1, h2⟩
        · exact .inr ⟨h1, hord.mem_iff.mpr (by have h3 : p.2 = k := h1; rw [← h3]; exact h2)⟩
  · rintro D pD ext' s3 ⟨q, rfl, rfl, hnd, hq⟩ H3
    rw [hesz, List.take_length] at hq
    exact h D q _ hq (H3.toRes (List.sublist_append_left ((D, PP w q) :: qtups q) _))
end
end Mine
end
section
open PySem PySem.W PySem.Calls PyProof.Rows
set_option maxRecDepth 100000
set_option maxHeartbeats 1000000
set_option autoImplicit false
set_option linter.unusedVariables false
set_option linter.unusedSectionVars false
namespace Mine
/-! a stretch of a generator's run, from its waking to its next end -/
noncomputable def St (M : Model) (A : Around) (Post : End → Shared → Prop) (c : Code) (t : Sem Fin) (fs : List Frame) (s : Shared) : Prop :=
  ∀ (Γ : Ctx) (p : Pos), Γ.code = c → Γ.Woken A → ∃ e s', Runs M Γ p t fs s e s' ∧ Post e s'
/-- how a stretch ends: it is left (R), or it sleeps having handed out a value (Y) -/
noncomputable def PostOf (R : Result → Shared → Prop) (Y : Value → GenState → Shared → Prop) : End → Shared → Prop
  | .ret r => R r
  | .susp v g l k c p fs => fun s => (End.susp v g l k c p fs).quiet = true ∧ Y v (End.susp v g l k c p fs).genState s
noncomputable def Go (M : Model) (A : Around) (Post : End → Shared → Prop) (gs : GenState) (r : Resume) (s : Shared) : Prop :=
  match gs with
  | .fresh c => r = .send .none ∧ St M A Post c (M.den c) [] s
  | .suspended k _ c _ fs _ => St M A Post c (k r) fs s
  | _ => False
section
variable {M : Model} {A : Around} {Post : End → Shared → Prop} {c : Code} {fs : List Frame} {s : Shared}
theorem st_wrap {α : Type} {m : Sem α} {K : α → Sem Fin} {H : Value → Sem Fin} {gd lv}
    (h : wpAny M (A.over c fs) m (fun a s' => St M A Post c (K a) fs s') (fun x s' => St M A Post c (H x) fs s') s) :
    St M A Post c (m.wrap K H gd lv) fs s := by
  rintro Γ p rfl hΓ
  exact runs_wrap_of_wp K H gd lv m (h (Γ.over fs) p (hΓ.over fs)) (fun a p' s' h' => h' Γ p' rfl hΓ) (fun x p' s' h' => h' Γ p' rfl hΓ)
theorem st_bind {α : Type} {m : Sem α} {K : α → Sem Fin}
    (h : wpAny M (A.over c fs) m (fun a s' => St M A Post c (K a) fs s') (fun x s' => St M A Post c (.raise x) fs s') s) : St M A Post c (m >>= K) fs s := by
  rw [Sem.bind_eq_wrap']; exact st_wrap h
theorem st_at {p' : Pos} {k : Unit → Sem Fin} (h : St M A Post c (k ()) fs s) : St M A Post c (.at p' k) fs s :=
  st_wrap (m := standAt p') (K := k) (H := .raise) (gd := id) (lv := id) (wpAny_standAt h)
theorem st_point {l : List Value} {k : Unit → Sem Fin} (h : St M A Post c (k ()) fs s) : St M A Post c (.point l k) fs s :=
  st_wrap (m := point) (K := k) (H := .raise) (gd := id) (lv := fun _ => l) (wpAny_point h)
theorem st_rule {tag : String} {k : Unit → Sem Fin} (h : St M A Post c (k ()) fs s) : St M A Post c (.rule tag k) fs s :=
  st_wrap (m := rule tag) (K := k) (H := .raise) (gd := id) (lv := id) (wpAny_rule h)
theorem st_call {c' : Code} {h g l} {k : Result → Sem Fin} (hc : ∀ p, St M A Post c' (M.den c') (.ret k h g l c p [] :: fs) s) : St M A Post c (.call c' h g l k) fs s := by
  rintro Γ p rfl hΓ
  obtain ⟨e, s', hr, he⟩ := hc p (Γ.goto c') p rfl (hΓ.goto c')
  exact ⟨e, s', runs_call_seg hr, he⟩
theorem st_leaf {k h g l c₁ p₁ kp} (r : Result) (hk : St M A Post c₁ (k r) fs s) : St M A Post c (leafOf r) (.ret k h g l c₁ p₁ kp :: fs) s := by
  rintro Γ p rfl hΓ
  obtain ⟨e, s', hr, he⟩ := hk (Γ.goto c₁) p₁ rfl (hΓ.goto c₁)
  exact ⟨e, s', Runs.pop r hr, he⟩
theorem st_again {c' : Code} (hq : c'.quiet = true) (hc : St M A Post c' (M.den c') fs s) : St M A Post c (.pure (.again c')) fs s := by
  rintro Γ p rfl hΓ
  obtain ⟨e, s', hr, he⟩ := hc (Γ.goto c') p rfl (hΓ.goto c')
  exact ⟨e, s', Runs.head (c₁ := c') (fun _ _ x => .again hq x) hr, he⟩
theorem st_end {R : Result → Shared → Prop} {Y : Value → GenState → Shared → Prop} (r : Result) (h : R r s) : St M A (PostOf R Y) c (leafOf r) [] s := by
  rintro Γ p rfl _
  exact ⟨.ret r, s, Runs.leaf r, h⟩
theorem st_yield {R : Result → Shared → Prop} {Y : Value → GenState → Shared → Prop} {v g l} {k : Resume → Sem Fin} (hfs : splitAtGen fs = none) (hg : g = false) (hfg : fs.any Frame.guarded = false)
    (h : ∀ l p b, Y v (.suspended k l c p fs b) s) : St M A (PostOf R Y) c (.yield v g l k) fs s := by
  rintro Γ p rfl _
  exact ⟨_, s, Runs.yield' fs hfs, by simp [End.quiet, hg, hfg], h _ _ _⟩
theorem w_resume {R : Result → Shared → Prop} {Y : Value → GenState → Shared → Prop} {E : Value → Shared → Prop} {g : Nat} {gs : GenState} {r : Resume} {l : List Value} {α : Type} {k : GenResult → Sem α} {Q : α → Shared → Prop} (hg : s.gens[g]? = some gs)
    (hgo : Go M A (PostOf R Y) gs r (s.setGen g .running))
    (hR : ∀ x s₁, R x s₁ → wpAny M A (k (End.ret x).result) Q E (s₁.setGen g .finished))
    (hY : ∀ v gs' s₁, gs'.bare = true → Y v gs' s₁ → wpAny M A (k (.yielded v)) Q E (s₁.setGen g gs')) : wpAny M A (.resume g r l k) Q E s := by
  intro Γ p hΓ
  rw [Sem.wp_resume]
  have hB : ∀ c, (Γ.wake c p).Woken A := fun c => hΓ.wake c p
  have fin : ∀ e₁ s₁, PostOf R Y e₁ s₁ → Sem.wp M Γ (k e₁.result) (fun a _ s' => Q a s') (fun e _ s' => E e s') p (s₁.setGen g e₁.genState) := by
    intro e₁ s₁ he
    cases e₁ with
    | ret x => exact hR x s₁ he Γ p hΓ
    | susp v g₀ l₀ k₀ c₀ p₀ fs₀ => exact hY v _ s₁ (End.bare_of_quiet he.1) he.2 Γ p hΓ
  have hqt : ∀ e₁ s₁, PostOf R Y e₁ s₁ → e₁.quiet = true := by
    intro e₁ s₁ he
    cases e₁ with
    | ret x => rfl
    | susp v g₀ l₀ k₀ c₀ p₀ fs₀ => exact he.1
  cases gs with
  | fresh c =>
    obtain ⟨rfl, hs⟩ := hgo
    obtain ⟨e₁, s₁, hr, he⟩ := hs (Γ.wake c p) p rfl (hB c)
    exact ⟨_, _, by unfold Wakes; rw [hg]; exact ⟨e₁, s₁, hr, hqt e₁ s₁ he, rfl, rfl⟩, fin e₁ s₁ he⟩
  | suspended k₀ l₀ c₀ p₀ fs₀ cl =>
    obtain ⟨e₁, s₁, hr, he⟩ := hgo (Γ.wake c₀ p) p₀ rfl (hB c₀)
    exact ⟨_, _, by unfold Wakes; rw [hg]; exact ⟨e₁, s₁, hr, hqt e₁ s₁ he, rfl, rfl⟩, fin e₁ s₁ he⟩
  | running => exact hgo.elim
  | finished => exact hgo.elim
end
section
variable {M : Model} {A : Around} {R : Result → Shared → Prop} {Y : Value → GenState → Shared → Prop} {c : Code} {fs : List Frame} {s : Shared} {env : Env}
  {K : Flow → Sem Fin} {H : Value → Sem Fin} {gd : Bool → Bool} {lv : List Value → List Value}
theorem st_execs_nil (h : St M A (PostOf R Y) c (K .next) fs s) : St M A (PostOf R Y) c ((execs [] env).wrap K H gd lv) fs s := h
theorem st_execs_cons {st : Stmt} {rest : List Stmt}
    (h : St M A (PostOf R Y) c ((exec st env).wrap (fun f => match f with | .next => (execs rest env).wrap K H gd lv | f => K f) H gd lv) fs s) :
    St M A (PostOf R Y) c ((execs (st :: rest) env).wrap K H gd lv) fs s := by rw [execs_cons_wrap]; exact h
theorem st_Expr_Yield {e : PySem.Expr} {ypos pos : Pos} (hfs : splitAtGen fs = none) (hgd : gd false = false) (hfg : fs.any Frame.guarded = false)
    (h : wpAny M (A.over c fs) (eval e env) (fun v s' => ∀ gs : GenState, (∀ A' s'' Post, St M A' Post c (K .next) fs s'' → Go M A' Post gs (.send .none) s'') → Y v gs s')
      (fun x s' => St M A (PostOf R Y) c (H x) fs s') s) (hco : env.scope.isCoroutine = false := by rfl) (hi : interactive env = false := by rfl) :
    St M A (PostOf R Y) c ((exec (.Expr (.Yield (some e) ypos) pos) env).wrap K H gd lv) fs s := by
  rw [exec_Expr env _ pos hi rfl]
  show St M A (PostOf R Y) c (.at pos fun _ => ((eval e env >>= fun v => (standAt ypos >>= fun _ => yieldOut env v)) >>= fun x =>
    dropValue (.Yield (some e) ypos) pos x).wrap K H gd lv) fs s
  have hy : ∀ v, yieldOut env v = yieldValue v := fun v => by simp only [yieldOut, hco, Bool.false_eq_true, if_false]
  simp only [hy]
  refine st_at ?_
  rw [Sem.bind_eq_wrap', Sem.bind_eq_wrap', Sem.wrap_wrap, Sem.wrap_wrap]
  refine st_wrap (wpAny_mono h (fun v s' h' => ?_) fun _ _ x => x)
  refine st_at (st_yield hfs hgd hfg fun l p b => ?_)
  exact h' _ fun A' s'' Post hx => hx
theorem st_While {test : PySem.Expr} {body orelse : List Stmt} {pos : Pos}
    (h : ∀ p, St M A (PostOf R Y) (.whileLoop test body orelse env) (M.den (.whileLoop test body orelse env))
      (.ret (fun r => ((match r with | .ok f => (.pure f : Sem Flow) | .error e => .raise e).onRaise fun (x : Value) => do
        if (← field x 1) == Value.none then unsupported "frame.own-activation:exception-without-traceback"
        setFlight x env.frame).wrap K H gd lv) none (gd false) (lv []) c p [] :: fs) s) :
    St M A (PostOf R Y) c ((exec (.While test body orelse pos) env).wrap K H gd lv) fs s :=
  st_at (st_call h)
end
section
variable {prog : Program} {w : World} {A : Around} {R : Result → Shared → Prop} {Y : Value → GenState → Shared → Prop} {fs : List Frame} {s : Shared} {env : Env}
abbrev noted (env : Env) : Value → Sem Fin := fun e => (do noteFrame e env; theTreesLotGoes e : Sem Unit).wrap (fun _ => .raise e) .raise id id
theorem st_whileLoop {test : PySem.Expr} {body orelse : List Stmt}
    (h : wpAny (model prog w) (A.over (.whileLoop test body orelse env) fs) (isTrue test env (eval test env)) (fun b s' =>
        if b = true then
          St (model prog w) A (PostOf R Y) (.whileLoop test body orelse env) ((execs body env).wrap (fun f => match f with
            | .next | .cont => .pure (.again (.whileLoop test body orelse env))
            | .brk => .pure (.done .next)
            | .ret v => .pure (.done (.ret v))) (noted env) id id) fs s'
        else St (model prog w) A (PostOf R Y) (.whileLoop test body orelse env) ((execs orelse env).wrap (fun f => .pure (.done f)) (noted env) id id) fs s')
      (fun x s' => St (model prog w) A (PostOf R Y) (.whileLoop test body orelse env) (noted env x) fs s') s) :
    St (model prog w) A (PostOf R Y) (.whileLoop test body orelse env) ((model prog w).den (.whileLoop test body orelse env)) fs s := by
  show St _ A (PostOf R Y) _ ((whileTurn test body orelse env).onRaise (fun x => do noteFrame x env; theTreesLotGoes x)) fs s
  unfold whileTurn
  rw [Sem.onRaise_eq_wrap, Sem.bind_eq_wrap', Sem.wrap_wrap]
  refine st_wrap (wpAny_mono h (fun b s' hb => ?_) fun x s' hx => ?_)
  · cases b with
    | true =>
      rw [if_pos rfl] at hb
      show St _ A (PostOf R Y) _ (Sem.wrap _ _ _ _ (if true = true then _ else _)) fs s'
      rw [if_pos rfl, Sem.bind_eq_wrap', Sem.wrap_wrap]
      rw [Sem.wrap_congr (execs body env) _ _ (K' := fun f => match f with
            | .next | .cont => .pure (.again (.whileLoop test body orelse env))
            | .brk => .pure (.done .next)
            | .ret v => .pure (.done (.ret v))) (H' := noted env)
        (fun f => by cases f <;> rfl)
        (fun e => by first | exact Sem.bind_eq_wrap _ _ | (show (do noteFrame e env; theTreesLotGoes e : Sem Unit).bind (fun _ => .raise e) = _; rw [Sem.bind_eq_wrap]))]
      exact hb
    | false =>
      rw [if_neg Bool.false_ne_true] at hb
      show St _ A (PostOf R Y) _ (Sem.wrap _ _ _ _ (if false = true then _ else _)) fs s'
      rw [if_neg Bool.false_ne_true, Sem.bind_eq_wrap', Sem.wrap_wrap]
      rw [Sem.wrap_congr (execs orelse env) _ _ (K' := fun f => (.pure (.done f) : Sem Fin)) (H' := noted env)
        (fun f => by rfl)
        (fun e => by first | exact Sem.bind_eq_wrap _ _ | (show (do noteFrame e env; theTreesLotGoes e : Sem Unit).bind (fun _ => .raise e) = _; rw [Sem.bind_eq_wrap]))]
      exact hb
  · first
      | (rw [← Sem.bind_eq_wrap] at hx; exact hx)
      | (show St _ A (PostOf R Y) _ ((do noteFrame x env; theTreesLotGoes x : Sem Unit).bind fun _ => .raise x) fs s'; rw [Sem.bind_eq_wrap]; exact hx)
abbrev leftBy (env : Env) : Value → Sem Fin := fun e => (leaving env e).wrap (fun _ => .raise e) .raise id id
theorem st_func {body : List Stmt}
    (h : St (model prog w) A (PostOf R Y) (.func body env) ((execs body env).wrap (fun f => .pure (.done (.ret (match f with | .ret v => v | _ => .none)))) (leftBy env) id id) fs s) :
    St (model prog w) A (PostOf R Y) (.func body env) ((model prog w).den (.func body env)) fs s := by
  show St _ A (PostOf R Y) _ (.point [] fun _ => ((execs body env).onRaise (leaving env)) >>= _) fs s
  refine st_point ?_
  rw [Sem.onRaise_eq_wrap, Sem.bind_eq_wrap', Sem.wrap_wrap]
  rw [Sem.wrap_congr (execs body env) _ _ (K' := fun f => .pure (.done (.ret (match f with | .ret v => v | _ => .none))))
    (H' := leftBy env) (fun f => by cases f <;> rfl)
    (fun e => by rw [Sem.bind_eq_wrap, Sem.wrap_wrap]; rfl)]
  exact h
end
end Mine
end
section
open PySem PySem.W PySem.Calls PyProof.Rows
set_option maxRecDepth 100000
set_option maxHeartbeats 1000000
set_option autoImplicit false
set_option linter.unusedVariables false
set_option linter.unusedSectionVars false
namespace Mine
section
variable {M : Model} {A : Around} {R : Result → Shared → Prop} {Y : Value → GenState → Shared → Prop} {c : Code} {fs : List Frame} {s : Shared} {env : Env}
  {K : Flow → Sem Fin} {H : Value → Sem Fin} {gd : Bool → Bool} {lv : List Value → List Value}
abbrev ownK (env : Env) (K : Flow → Sem Fin) (H : Value → Sem Fin) (gd : Bool → Bool) (lv : List Value → List Value) : Result → Sem Fin := fun r =>
  ((match r with | .ok f => (.pure f : Sem Flow) | .error e => .raise e).onRaise fun (x : Value) => do
        if (← field x 1) == Value.none then unsupported "frame.own-activation:exception-without-traceback"
        setFlight x env.frame).wrap K H gd lv
theorem st_For {target iter : PySem.Expr} {body orelse : List Stmt} {pos : Pos}
    (h : wpAny M (A.over c fs) (eval iter env) (fun xv s₁ => wpAny M (A.over c fs) (pyIter xv) (fun it s₂ => ∀ p l, St M A (PostOf R Y) (.forLoop target it body orelse env) (M.den (.forLoop target it body orelse env)) (.ret (ownK env K H gd lv) none (gd false) l c p [] :: fs) s₂)
      (fun x s' => St M A (PostOf R Y) c (H x) fs s') s₁) (fun x s' => St M A (PostOf R Y) c (H x) fs s') s)
    (hs : ∀ x, foldedSetIterable iter env x = pure x := by intro _; rfl) :
    St M A (PostOf R Y) c ((exec (.For target iter body orelse pos) env).wrap K H gd lv) fs s := by
  have e : exec (.For target iter body orelse pos) env = (do
    standAt pos
    let x ← foldedSetIterable iter env (← eval iter env)
    standAt iter.pos
    runOwn (.forLoop target (← holding [x] (pyIter x)) body orelse env) env) := rfl
  rw [e]
  refine st_at ?_
  simp only [hs]
  show St M A (PostOf R Y) c (Sem.wrap K H gd lv (eval iter env >>= fun x => (pure x >>= fun x => (standAt iter.pos >>= fun _ => holding [x] (pyIter x) >>= fun it => runOwn (.forLoop target it body orelse env) env)))) fs s
  rw [Sem.bind_eq_wrap', Sem.wrap_wrap]
  refine st_wrap (wpAny_mono h (fun xv s₁ h₁ => ?_) fun _ _ x => x)
  show St M A (PostOf R Y) c (Sem.wrap K H gd lv (standAt iter.pos >>= fun _ => holding [xv] (pyIter xv) >>= fun it => runOwn (.forLoop target it body orelse env) env)) fs s₁
  refine st_at ?_
  show St M A (PostOf R Y) c (Sem.wrap K H gd lv (holding [xv] (pyIter xv) >>= fun it => runOwn (.forLoop target it body orelse env) env)) fs s₁
  rw [Sem.bind_eq_wrap', Sem.wrap_wrap]
  refine st_wrap (wpAny_holding (wpAny_mono h₁ (fun it s₂ h₂ => ?_) fun _ _ x => x))
  exact st_call fun p => h₂ p _
end
section
variable {prog : Program} {w : World} {A : Around} {R : Result → Shared → Prop} {Y : Value → GenState → Shared → Prop} {fs : List Frame} {s : Shared} {env : Env}
theorem st_forLoop {target : PySem.Expr} {it : Value} {body orelse : List Stmt}
    (h : wpAny (model prog w) (A.over (.forLoop target it body orelse env) fs) (pyNext it) (fun ov s' => match ov with
        | none => St (model prog w) A (PostOf R Y) (.block orelse env) ((model prog w).den (.block orelse env)) fs s'
        | some v => wpAny (model prog w) (A.over (.forLoop target it body orelse env) fs) (assign target env v) (fun _ s'' =>
          St (model prog w) A (PostOf R Y) (.forLoop target it body orelse env) ((execs body env).wrap (fun f => match f with
            | .next | .cont => .pure (.again (.forLoop target it body orelse env))
            | .brk => .pure (.done .next)
            | .ret v => .pure (.done (.ret v))) (noted env) id id) fs s'') noE s')
      (fun x s' => St (model prog w) A (PostOf R Y) (.forLoop target it body orelse env) (noted env x) fs s') s)
    (ht : ∀ v, letOwnedTupleGo target it v = pure () := by intro _; rfl) :
    St (model prog w) A (PostOf R Y) (.forLoop target it body orelse env) ((model prog w).den (.forLoop target it body orelse env)) fs s := by
  show St _ A (PostOf R Y) _ ((forTurn target it body orelse env).onRaise (fun x => do noteFrame x env; theTreesLotGoes x)) fs s
  have hn : ∀ e, Sem.bind (do noteFrame e env; theTreesLotGoes e : Sem Unit) (fun _ => (.raise e : Sem Fin)) = noted env e := fun e => Sem.bind_eq_wrap _ _
  unfold forTurn
  simp only [ht]
  refine st_at ?_
  show St _ A (PostOf R Y) _ (Sem.onRaise (((pyNext it).onRaise fun _ => standAt { target.pos with line := 0 }) >>= fun x => _) _) fs s
  rw [Sem.onRaise_eq_wrap, Sem.bind_eq_wrap', Sem.wrap_wrap, Sem.onRaise_eq_wrap, Sem.wrap_wrap]
  refine st_wrap (wpAny_mono h (fun ov s' h' => ?_) fun x s' hx => ?_)
  · cases ov with
    | none => exact st_again rfl h'
    | some v =>
      show St _ A (PostOf R Y) _ (Sem.wrap _ _ _ _ ((pure () : Sem Unit) >>= fun _ => assign target env v >>= fun _ => execs body env >>= _)) fs s'
      show St _ A (PostOf R Y) _ (Sem.wrap _ _ _ _ (assign target env v >>= fun _ => execs body env >>= _)) fs s'
      rw [Sem.bind_eq_wrap', Sem.wrap_wrap]
      refine st_wrap (wpAny_mono h' (fun _ s'' h'' => ?_) fun _ _ x => x.elim)
      rw [Sem.bind_eq_wrap', Sem.wrap_wrap]
      refine (congrArg (fun t => St (model prog w) A (PostOf R Y) (.forLoop target it body orelse env) t fs s'') (Sem.wrap_congr (execs body env) (K' := fun f => match f with
            | .next | .cont => .pure (.again (.forLoop target it body orelse env))
            | .brk => .pure (.done .next)
            | .ret v => .pure (.done (.ret v))) (H' := noted env) _ _ (fun f => by cases f <;> rfl) (fun e => hn e))).mpr ?_
      exact h''
  · refine st_at ?_
    show St _ A (PostOf R Y) _ (Sem.bind (do noteFrame x env; theTreesLotGoes x : Sem Unit) (fun _ => (.raise x : Sem Fin))) fs s'
    rw [hn]; exact hx
theorem st_block0 {c : Code} (h : St (model prog w) A (PostOf R Y) (.block [] env) (leafOf (.ok .next)) fs s) : St (model prog w) A (PostOf R Y) (.block [] env) ((model prog w).den (.block [] env)) fs s := h
end
end Mine
end
section
open PySem PySem.W PySem.Calls PyProof.Rows
set_option maxRecDepth 100000
set_option maxHeartbeats 1000000
set_option autoImplicit false
set_option linter.unusedVariables false
set_option linter.unusedSectionVars false
namespace Mine
abbrev yf (it : Value) : Code := .builtin "proto.yield_from" ⟨[it, .bool false, .none], []⟩
theorem close_li : typeLookup (.type "list_iterator") "close" = pure none := am_miss_of_fast (by kernel_rfl)
theorem plain_yf : plainId "proto.yield_from" = true := by decide +kernel
theorem stop_ty : typeOf (.type "StopIteration") = pure (.type "type") := rfl
theorem entry_yf : entryFor table "proto.yield_from" = some Builtin.«proto.yield_from» := entryFor_of_fast (by kernel_rfl)
/-- what stands under an entry of the table, said for a name that is not written out (with it written out the kernel reckons for half a minute) -/
theorem den_entry {prog : Program} {w : World} {id : String} {a : Args} {b : Builtin} (h : entryFor table id = some b) : (model prog w).den (.builtin id a) = b a := by
  show (match entryFor table id with | some f => f a | none => unsupported ((withoutEnding? id "#data").getD id)) = b a
  rw [h]
section
variable {M : Model} {A : Around} {R : Result → Shared → Prop} {Y : Value → GenState → Shared → Prop} {c : Code} {fs : List Frame} {s : Shared} {env : Env}
  {K : Flow → Sem Fin} {H : Value → Sem Fin} {gd : Bool → Bool} {lv : List Value → List Value}
theorem st_YieldFrom {value : PySem.Expr} {ypos pos : Pos}
    (h : wpAny M (A.over c fs) (eval value env) (fun v s₁ => ∃ T, s₁.TypeIs v T ∧ T ≠ "coroutine" ∧ wpAny M (A.over c fs) (pyIter v) (fun it s₂ => ∀ (k : Result → Sem Fin) (l : List Value) (p : Pos),
      (∀ A' Post s₃, St M A' Post c (K .next) fs s₃ → St M A' Post c (k (.ok (.ret .none))) fs s₃) → St M A (PostOf R Y) (yf it) (M.den (yf it)) (.ret k none (gd false) l c p [] :: fs) s₂) noE s₁) noE s)
    (hi : interactive env = false := by rfl) :
    St M A (PostOf R Y) c ((exec (.Expr (.YieldFrom value ypos) pos) env).wrap K H gd lv) fs s := by
  rw [exec_Expr env _ pos hi rfl]
  show St M A (PostOf R Y) c (.at pos fun _ => ((eval value env >>= fun v => (standAt ypos >>= fun _ => yieldFrom env v)) >>= fun x =>
    dropValue (.YieldFrom value ypos) pos x).wrap K H gd lv) fs s
  refine st_at ?_
  rw [Sem.bind_eq_wrap', Sem.bind_eq_wrap', Sem.wrap_wrap, Sem.wrap_wrap]
  refine st_wrap (wpAny_mono h (fun v s₁ h₁ => ?_) fun _ _ x => x.elim)
  obtain ⟨T, hT, hne, h₁⟩ := h₁
  refine st_at ?_
  unfold yieldFrom
  show St M A (PostOf R Y) c (Sem.wrap _ _ _ _ (typeOf v >>= fun t => _)) fs s₁
  rw [Sem.bind_eq_wrap', Sem.wrap_wrap]
  refine st_wrap (wpAny_typeOf hT ?_)
  rw [if_neg (by simpa using hne)]
  rw [Sem.bind_eq_wrap', Sem.wrap_wrap]
  refine st_wrap (wpAny_holding (wpAny_mono h₁ (fun it s₂ h₂ => ?_) fun _ _ x => x.elim))
  exact st_call fun p => h₂ _ _ p fun A' Post s₃ h₃ => h₃
end
section
variable {prog : Program} {w : World} {A : Around} {R : Result → Shared → Prop} {Y : Value → GenState → Shared → Prop} {fs : List Frame} {s : Shared} {env : Env}
theorem st_yf {it : Addr} (hfs : splitAtGen fs = none) (hfg : fs.any Frame.guarded = false)
    (h : wpAny (model prog w) (A.over (yf (.ref it)) fs) (callSpecial? (.ref it) "__next__") (fun ov s₁ => ∃ y, ov = some y ∧ s₁.TypeIs (.ref it) "list_iterator" ∧
        ∀ gs, (∀ A' s'' Post, s''.TypeIs (.ref it) "list_iterator" → St (model prog w) A' Post (yf (.ref it)) ((model prog w).den (yf (.ref it))) fs s'' → Go (model prog w) A' Post gs (.send .none) s'') → Y y gs s₁)
      (fun e s₁ => ∃ a o vs, e = .ref a ∧ s₁.heap.get? a = some o ∧ o.cls = .type "StopIteration" ∧ o.data = .fields vs ∧ vs[5]? = some .none ∧ St (model prog w) A (PostOf R Y) (yf (.ref it)) (leafOf (.ok (.ret .none))) fs s₁) s) :
    St (model prog w) A (PostOf R Y) (yf (.ref it)) ((model prog w).den (yf (.ref it))) fs s := by
  have e : (model prog w).den (yf (.ref it)) = Builtin.«proto.yield_from» ⟨[.ref it, .bool false, .none], []⟩ := den_entry entry_yf
  generalize hden : (model prog w).den (yf (.ref it)) = D at *
  rw [e]
  unfold Builtin.«proto.yield_from»
  dsimp only
  refine st_bind (wpAny_pure ?_)
  refine st_bind (wpAny_attempt (wpAny_holding ?_))
  rw [if_neg Bool.false_ne_true, if_pos (show (Value.none == Value.none) = true from rfl)]
  refine wpAny_bind (wpAny_rule ?_)
  refine wpAny_bind (wpAny_mono h (fun ov s₁ h₁ => ?_) fun x s₁ h₁ => ?_)
  · obtain ⟨y, rfl, hT, hY⟩ := h₁
    dsimp only
    refine wpAny_pure ?_
    refine st_bind (wpAny_typeOf hT ?_)
    dsimp only
    rw [close_li]
    refine st_bind (wpAny_pure ?_)
    refine st_bind (wpAny_pure ?_)
    have slept : ∀ {b : Bool} {A : Around} {Q : Unit → Shared → Prop} {E : Value → Shared → Prop} {s : Shared}, s.TypeIs (.ref it) "list_iterator" → Q () s → wpAny (model prog w) A (Builtin.Generator.sleptOver (.ref it) b) Q E s := fun ⟨o, ho, hc⟩ hQ => by
      unfold Builtin.Generator.sleptOver
      dsimp only
      refine wpAny_bind (wpAny_load ho ?_)
      rw [if_pos (by rw [hc]; decide)]
      exact wpAny_pure hQ
    refine st_bind (slept hT ?_)
    show St _ A (PostOf R Y) _ (.yield y _ _ _) fs s₁
    refine st_yield hfs rfl hfg fun l p b => hY _ fun A' s'' Post hT'' h'' => ?_
    show St _ A' Post (yf (.ref it)) (Builtin.Generator.sleptOver (.ref it) false >>= fun _ => _) fs s''
    refine st_bind (slept hT'' ?_)
    refine st_bind (wpAny_pure ?_)
    exact st_again (plainId_quiet plain_yf _) (hden ▸ h'')
  · obtain ⟨a, o, vs, rfl, ho, hc, hd, h5, hst⟩ := h₁
    unfold Builtin.Generator.endsTheTurnAsAValue Builtin.Generator.isStopAndMetaclass
    refine st_bind (wpAny_bind (wpAny_bind (wpAny_typeOf ⟨o, ho, hc⟩ ?_)))
    dsimp only
    rw [isSubtype_stop]
    refine wpAny_bind (wpAny_pure ?_)
    rw [stop_ty]
    refine wpAny_bind (wpAny_pure (wpAny_pure ?_))
    dsimp only
    rw [if_neg Bool.false_ne_true]
    refine wpAny_pure ?_
    rw [if_pos rfl, if_neg Bool.false_ne_true]
    refine st_bind (wpAny_rule ?_)
    refine st_bind (wpAny_field ho hd h5 ?_)
    exact hst
end
end Mine
end
section
open PySem PySem.W PySem.Calls PyProof.Rows
set_option maxRecDepth 100000
set_option maxHeartbeats 1000000
set_option autoImplicit false
set_option linter.unusedVariables false
set_option linter.unusedSectionVars false
namespace Mine
theorem pk_stop (w : World) : peek (KF w) ⟨P0, w.params⟩ (isSubtype (.ref 277) (.type "StopIteration")) = some false := by kernel_rfl
section
variable {w : World} {A : Around} {E : Value → Shared → Prop} {s : Shared} {env : Env} {ns : List Str}
theorem w_notStop {e : Addr} {o : Obj} {Q : Bool → Shared → Prop} (C : Cx w s.heap) (ho : s.heap.get? e = some o) (hc : o.cls = .ref 277) (h : Q false s) : wpAny (model P0 w) A (isInstance (.ref e) (.type "StopIteration")) Q E s := by
  simp only [isInstance, typeOf]
  refine wpAny_bind (wpAny_bind (wpAny_load ho (wpAny_pure ?_)))
  rw [hc]; exact (Looks.of_peek C.K (pk_stop w)).here h
theorem notLambda {a : Addr} {g : Nat} {Q : Bool → Shared → Prop} (hg : s.heap.IsGen a g) (h : Q false s) : wpAny (model P0 w) A (Builtin.Generator.madeByALambda (.ref a)) Q E s := by
  obtain ⟨o, nm, qn, ho, hc, hd, hsl⟩ := hg
  unfold Builtin.Generator.madeByALambda
  dsimp only
  refine wpAny_bind (wpAny_load ho (wpAny_pure ?_))
  rw [hc, hd]; exact h
/-- one step of a generator -/
theorem w_genNext {a : Addr} {g : Nat} {gs : GenState} {R : Result → Shared → Prop} {Y : Value → GenState → Shared → Prop} {Q : Option Value → Shared → Prop} (hh : A.handled = none) (hl : s.heap.NoLimit) (hroom : A.depth < recursionLimit)
    (hg : s.heap.IsGen a g) (hgs : s.gens[g]? = some gs) (hgo : Go (model P0 w) A.in1 (PostOf R Y) gs (.send .none) (s.setGen g .running))
    (hR : ∀ x s₁, R x s₁ → (x = .ok (.ret .none) ∧ ∀ h', Keeps s₁.heap h' → Q none { s₁.setGen g .finished with heap := h' }) ∨
      (∃ e o, x = .error (.ref e) ∧ s₁.heap.IsGen a g ∧ Cx w s₁.heap ∧ s₁.heap.get? e = some o ∧ o.cls = .ref 277 ∧ E (.ref e) (s₁.setGen g .finished)))
    (hY : ∀ v gs' s₁, gs'.bare = true → Y v gs' s₁ → Q (some v) (s₁.setGen g gs')) : wpAny (model P0 w) A (pyNext (.ref a)) Q E s := by
  refine w_pyNext (wpAny_callSpecial?_slot (name := Str.ofString "__next__") hg.typeIs slot_gen_next (wpAny_call_entry slot_gen_next hg.typeIs entry_gen_next ?_ (args_gen_next _)))
  show wpAny _ A.in1 (Builtin.Generator.genWake (.ref a) (.send .none)) _ _ s
  unfold Builtin.Generator.genWake
  refine wpAny_bind (wpAny_holding (wpAny_genNumber hg (wpAny_bind (wpAny_genState hgs ?_))))
  cases gs with
  | running => exact hgo.elim
  | finished => exact hgo.elim
  | _ =>
    refine wpAny_bind (wpAny_roomToWake hl hroom ?_)
    show wpAny _ A.in1 (.resume g (.send .none) [] _) _ _ s
    refine w_resume hgs hgo (fun x s₁ hx => ?_) (fun v gs' s₁ hb hv => ?_)
    · rcases hR x s₁ hx with ⟨rfl, hq⟩ | ⟨e, o, rfl, hg1, C1, ho, hc, hE⟩
      · show wpAny _ A.in1 (newExc (.type "StopIteration") [] >>= fun e => raiseNew e >>= _) _ _ _
        rw [← bind_assoc]
        exact wpAny_bind (w_stop (.inl hh) fun h' e k st => st.ends (hq h' k))
      · have hg2 : (s₁.setGen g .finished).heap.IsGen a g := hg1
        have C2 : Cx w (s₁.setGen g .finished).heap := C1
        have ho2 : (s₁.setGen g .finished).heap.get? e = some o := ho
        show wpAny _ A.in1 (Builtin.Generator.genLeft (.ref a) (.ref e)) _ _ _
        unfold Builtin.Generator.genLeft
        refine wpAny_bind (notLambda hg2 ?_)
        unfold Builtin.Generator.genEscaped
        refine wpAny_bind (w_notStop C2 ho2 hc ?_)
        refine wp_if_false rfl ?_
        refine wpAny_bind (w_notStop C2 ho2 hc ?_)
        refine wp_if_true rfl ?_
        refine wpAny_bind (wpAny_throw ?_)
        exact w_notStop C2 ho2 hc (.inr ⟨rfl, hE⟩)
    · exact wpAny_pure ⟨v, rfl, v, rfl, hY v gs' s₁ hb hv⟩
/-- a call of a generator def of the text -/
theorem f_callGen {f : Addr} {name qual : Str} {params : Arguments} {body : List Stmt} {scope : Scope} {dV kV doc pm cdv ct oc : Value} {an od : Option Addr} {osl : Array (Option Value)} {args : List Value} {Q : Value → Shared → Prop}
    (hl : (KF w).lookup f = some ⟨oc, od, .func (fnOf name qual params body scope dV kV doc pm an cdv ct), osl⟩) (C : Cx w s.heap) (nn : ns.Nodup) (hroom : A.depth < recursionLimit)
    (hcd : codeIn (KF w) cdv qual = true)
    (h : wpAny (model P0 w) A.in1 (bindArgs (fnOf name qual params body scope dV kV doc pm an cdv ct) ⟨args, []⟩) (fun binds s₁ => Cx w s₁.heap ∧ ∀ env s', env = newEnv scope s₁.heap.objs.size mainGlobals (cellsFrom (s₁.heap.objs.size + 1) scope.names []) (qual ++ ".<locals>.") (some f) cdv none builtinsNs → En env s₁.heap.objs.size →
      Fm w s₁.gens s₁.os (hv s₁.heap) s₁.heap.objs.size ns (ns.map fun _ => none) (cellObjs (s₁.heap.objs.size + 1) scope.names []) s' →
      StoreAll (model P0 w) A.in1 noE env binds (fun s'' => Cx w s''.heap ∧ ∀ a s₃, a = s''.heap.objs.size → s₃.gens = s''.gens.push (.fresh (.func body env)) → s₃.os = s''.os → Keeps s''.heap s₃.heap → s₃.heap.IsGen a s''.gens.size → Q (.ref a) s₃) s') noE s)
    (hk : scope.kind = .function := by rfl) (hco : scope.isCoroutine = false := by rfl) (hgen : scope.isGenerator = true := by rfl) :
    wpAny (model P0 w) A (call (.ref f) args) Q E s := by
  refine wp_noE (wpAny_call ?_)
  refine codeAny_call_generator hroom (C.K _ _ hl) rfl hco hgen rfl (codeRec_of C.K hcd) (wpAny_mono h (fun binds s₁ h₁ => ?_) fun _ _ (x : False) => x.elim)
  obtain ⟨C1, h₁⟩ := h₁
  refine wpAny_mono (n_env (E := noE) C1 nn hk hco fun env s' he en F => StoreAll.mono (fun s'' h'' => ?_) _ _ (h₁ env s' he en F)) (fun _ _ x => x) fun _ _ (x : False) => x.elim
  refine ⟨h''.1.nolimit, ?_⟩
  exact h''.2 _ _ rfl rfl rfl (Keeps.push _ _) ⟨_, _, _, Heap.get?_push_size _ rfl, rfl, rfl, rfl⟩
end
end Mine
end
section
open PySem PySem.W PySem.Calls PyProof.Rows
set_option maxRecDepth 100000
set_option maxHeartbeats 1000000
set_option autoImplicit false
set_option linter.unusedVariables false
set_option linter.unusedSectionVars false
namespace Mine
/-! one round of the sort, plainly -/
noncomputable def outsF (ps : List (Int × Int)) (td : List Int) : List Int := td.filter fun n => td.all fun p => !decide ((p, n) ∈ ps)
noncomputable def restF (ps : List (Int × Int)) (td : List Int) : List Int := td.filter fun n => !decide (n ∈ outsF ps td)
theorem outsF_mem {ps : List (Int × Int)} {td : List Int} {n : Int} : n ∈ outsF ps td ↔ n ∈ td ∧ ∀ p ∈ td, (p, n) ∉ ps := by
  unfold outsF; rw [List.mem_filter]; simp
theorem restF_mem {ps : List (Int × Int)} {td : List Int} {n : Int} : n ∈ restF ps td ↔ n ∈ td ∧ n ∉ outsF ps td := by
  unfold restF; rw [List.mem_filter]; simp
theorem restF_lt {ps : List (Int × Int)} {td : List Int} (h : outsF ps td ≠ []) : (restF ps td).length < td.length := by
  obtain ⟨x, hx⟩ := List.exists_mem_of_ne_nil _ h
  unfold restF
  refine Nat.lt_of_le_of_ne (List.length_filter_le ..) fun e => ?_
  have := List.length_filter_eq_length_iff.mp e x (outsF_mem.mp hx).1
  simp [hx] at this
theorem noBool_set : typeLookup (.type "set") "__bool__" = pure none := am_miss_of_fast (by kernel_rfl)
section
variable {w : World} {A : Around} {E : Value → Shared → Prop} {s : Shared} {env : Env} {G : Array GenState} {O : OsState} {V : View} {L : Addr} {ns : List Str} {vs : List (Option Value)} {own : List Kp}
/-- the truth of a set -/
theorem tr_set {a : Addr} {S : List Int} {Q : Bool → Shared → Prop} (H : Fm w G O V L ns vs own s) (ha : HasP s.heap (a, SP w S)) (h : ∀ s', Fm w G O V L ns vs own s' → Q (!S.isEmpty) s') : wpAny (model P0 w) A (truthy (.ref a)) Q E s := by
  have C := H.ctx
  obtain ⟨_, ho, d, rfl, hI⟩ := ha
  have hT : s.TypeIs (.ref a) "set" := ⟨_, ho, rfl⟩
  have hle := hI.len
  have key : wpAny (model P0 w) A (runValue (.builtin "len" ⟨[.ref a], []⟩)) (fun r s' => (∃ t, r = .int S.length t) ∧ Fm w G O V L ns vs own s') E s := by
    refine wpAny_runValue (codeAny_builtin entry_len ?_)
    rw [Around.under_plainId plain_len _]
    unfold Builtin.«len»
    refine wpAny_bind (m := oneArg "len" _) (wpAny_pure ?_)
    refine wpAny_bind (m := callSpecial? (.ref a) (Str.ofString "__len__")) (wpAny_callSpecial?_slot (name := Str.ofString "__len__") hT F.slot_set_len ?_)
    refine k_setm (n := "__len__") (.inr (by kernel_rfl)) (by kernel_rfl) (by decide +kernel) entry_set_len (F.args_set_len_1 _) C ho (.inl rfl) ?_
    unfold Builtin.«frozenset.__len__»
    refine wpAny_bind (m := Builtin.Frozenset.slot0 _ _) (wpAny_of_eq (a := a) rfl ?_)
    refine wpAny_bind (w_size (o := setO d) ho hI ?_)
    unfold retInt
    refine wpAny_bind (wpAny_mkInt (wpAny_pure ⟨_, rfl, ?_⟩))
    dsimp only
    refine wpAny_bind (wpAny_holding (wpAny_pure ?_))
    refine wpAny_bind (wpAny_letGo ?_)
    show wpAny _ _ (if ((S.length : Nat) : Int) < 0 then _ else _) _ _ _
    rw [if_neg (by omega)]
    show wpAny _ _ (if ((S.length : Nat) : Int) ≥ 2 ^ 63 then _ else _) _ _ _
    rw [if_neg (by omega)]
    exact wpAny_bind (wpAny_mkInt (wpAny_pure ⟨⟨_, rfl⟩, (H.tok _).tok _⟩))
  unfold truthy
  refine wpAny_bind (wpAny_callSpecial?_none (name := Str.ofString "__bool__") hT noBool_set ?_)
  refine wpAny_bind (wpAny_specialOf (name := Str.ofString "__len__") hT F.slot_set_len.lookup ?_)
  refine wpAny_bind (wpAny_mono key (fun r s' h' => ?_) fun _ _ e => e)
  obtain ⟨⟨t, rfl⟩, H'⟩ := h'
  refine wpAny_pure ?_
  have e : ((S.length : Int) != 0) = !S.isEmpty := by cases S <;> simp <;> omega
  rw [e]
  exact h _ H'
/-- a smaller view -/
theorem Fm.shrink {V' : View} (H : Fm w G O V L ns vs own s) (C : CxV w V') (k : V'.le V) : Fm w G O V' L ns vs own s :=
  have no : ∀ a, V a = none → V' a = none := fun a ha => by
    cases e : V' a with
    | none => rfl
    | some o => have := k _ _ e; rw [ha] at this; cases this
  ⟨C, H.gens, H.os, H.hns, H.nn, k.trans H.view, H.hown, no _ H.vL, H.oL, fun p hp => no _ (H.vo p hp), H.nd⟩
end
/-! the surroundings of a stretch -/
structure Ov (A A' : Around) (env : Env) : Prop where
  hd : A'.handled = A.handled
  dep : A'.depth = A.depth + 1
  un : A'.units ≤ A.units + 10
  fr : A'.frames = A.frames.map (env :: ·)
theorem Ov.rm {A A' : Around} {env : Env} {k : Nat} (o : Ov A A' env) (R : Rm A (k + 1)) : Rm A' k := ⟨o.hd.trans R.hd, by have := R.dep; rw [o.dep]; omega, by have := R.un; have := o.un; omega⟩
theorem ov_func {A : Around} {body : List Stmt} {env : Env} : Ov A (A.over (.func body env) []) env := by
  constructor <;> simp [Around.over, marksOver, frameCount, unitsOf, envsOf, pushEnvs, Code.envs, Code.weight, Code.cUnits, Code.frames, Code.isFrame, Code.isCreation, Code.isGuard, Code.isCaller, Code.env?]
theorem ov_while {A : Around} {test : PySem.Expr} {body orelse body' : List Stmt} {env : Env} {k : Result → Sem Fin} {g : Bool} {l kp : List Value} {p : Pos} : Ov A (A.over (.whileLoop test body orelse env) [.ret k none g l (.func body' env) p kp]) env := by
  constructor <;> simp [Around.over, marksOver, Frame.marks, markOver, Frame.where_, frameCount, unitsOf, envsOf, pushEnvs, Code.envs, Code.weight, Code.cUnits, Code.frames, Code.isFrame, Code.isCreation, Code.isGuard, Code.isCaller, Code.env?]
theorem ov_for {A : Around} {test : PySem.Expr} {it : Value} {body orelse body' : List Stmt} {env : Env} {k : Result → Sem Fin} {g : Bool} {l kp : List Value} {p : Pos} : Ov A (A.over (.forLoop test it body orelse env) [.ret k none g l (.func body' env) p kp]) env := by
  constructor <;> simp [Around.over, marksOver, Frame.marks, markOver, Frame.where_, frameCount, unitsOf, envsOf, pushEnvs, Code.envs, Code.weight, Code.cUnits, Code.frames, Code.isFrame, Code.isCreation, Code.isGuard, Code.isCaller, Code.env?]
theorem ov_block {A : Around} {b body' : List Stmt} {env : Env} {k : Result → Sem Fin} {g : Bool} {l kp : List Value} {p : Pos} : Ov A (A.over (.block b env) [.ret k none g l (.func body' env) p kp]) env := by
  constructor <;> simp [Around.over, marksOver, Frame.marks, markOver, Frame.where_, frameCount, unitsOf, envsOf, pushEnvs, Code.envs, Code.weight, Code.cUnits, Code.frames, Code.isFrame, Code.isCreation, Code.isGuard, Code.isCaller, Code.env?]
theorem yf_guard : ¬ "proto.yield_from" ∈ guardIds := by decide +kernel
theorem ov_yf {A : Around} {test : PySem.Expr} {it x : Value} {body orelse body' : List Stmt} {env : Env} {k k' : Result → Sem Fin} {g g' : Bool} {l kp l' kp' : List Value} {p p' : Pos} :
    Ov A (A.over (yf x) [.ret k' none g' l' (.forLoop test it body orelse env) p' kp', .ret k none g l (.func body' env) p kp]) env := by
  constructor <;> simp [Around.over, marksOver, Frame.marks, markOver, Frame.where_, frameCount, unitsOf, envsOf, pushEnvs, Code.envs, Code.weight, Code.cUnits, Code.frames, Code.isFrame, Code.isCreation, Code.isGuard, Code.isCaller, Code.env?, yf_guard]
end Mine
end
section
open PySem PySem.W PySem.Calls PyProof.Rows
set_option maxRecDepth 100000
set_option maxHeartbeats 1000000
set_option autoImplicit false
set_option linter.unusedVariables false
set_option linter.unusedSectionVars false
namespace Mine
/-! an exception on its way: what the tracebacks change -/
structure Tr (fr : List Addr) (e : Addr) (h h' : Heap) : Prop where
  keep : ∀ b o, b ≠ e → b ∉ fr → h.get? b = some o → h'.get? b = some o
  slot : ∀ b o, b ∈ fr → h.get? b = some o → ∃ sl, h'.get? b = some { o with slots := sl }
/-- the exception e (as oe, but for its fields) is on its way, in flight in fl -/
structure Fl (fr : List Addr) (e : Addr) (oe : Obj) (h : Heap) (fl : Option Value) (h' : Heap) : Prop where
  ex : ∀ b ∈ fr, ∃ o, h.get? b = some o ∧ ∀ vs, o.data ≠ .fields vs
  ne : e ∉ fr
  tr : Tr fr e h h'
  ob : ∃ vs : Array Value, h'.get? e = some { oe with data := .fields vs } ∧ 1 < vs.size ∧ vs[2]? = some .none ∧ match fl with
    | none => vs[1]? = some Value.none
    | some v => ∃ T oT ts, vs[1]? = some (.ref T) ∧ h.get? T = none ∧ T ≠ e ∧ T ∉ fr ∧ h'.get? T = some oT ∧ oT.data = .fields ts ∧ ts[3]? = some v
abbrev frs (l : List Env) : List Addr := l.filterMap (·.frame)
abbrev FF (h : Heap) (l : List Env) : Prop := h.FunFrames {} l
theorem FF.mem {h : Heap} {l : List Env} (x : FF h l) {b : Addr} (hb : b ∈ frs l) : ∃ o, h.get? b = some o ∧ ∀ vs, o.data ≠ .fields vs := (Heap.FunFrames.mem x hb).2
theorem FF.tr {h h' : Heap} {l : List Env} (x : FF h l) (k : ∀ b ∈ frs l, ∀ o, h.get? b = some o → ∃ sl, h'.get? b = some { o with slots := sl }) : FF h' l := by
  induction l with
  | nil => trivial
  | cons env rest ih =>
    obtain ⟨hk, ⟨L, o, hf, hn, ho, hd⟩, hr⟩ := x
    have hfr : frs (env :: rest) = L :: frs rest := by simp [frs, hf]
    obtain ⟨sl, ho'⟩ := k L (by rw [hfr]; exact .head _) o ho
    exact ⟨hk, ⟨L, _, hf, hn, ho', hd⟩, ih hr fun b hb => k b (by rw [hfr]; exact .tail _ hb)⟩
section
variable {M : Model} {A : Around} {E : Value → Shared → Prop} {s : Shared} {fr : List Addr} {e : Addr} {oe : Obj} {h₀ : Heap} {env : Env} {outer : List Env} {L : Addr}
theorem w_entry {head : Value} {hadNext : Bool} {vs : Array Value} {Q : Unit → Shared → Prop} (hfr : A.frames = some (env :: outer)) (hff : FF s.heap (env :: outer)) (hsub : ∀ b ∈ frs (env :: outer), b ∈ fr) (hf : env.frame = some L) (hef : e ∉ fr)
    (he : s.heap.get? e = some { oe with data := .fields vs }) (hsz : 1 < vs.size)
    (h : ∀ h' T ts, s.heap.get? T = none → (∀ b o, b ≠ e → b ∉ fr → s.heap.get? b = some o → h'.get? b = some o) → (∀ b o, b ∈ fr → s.heap.get? b = some o → ∃ sl, h'.get? b = some { o with slots := sl }) →
      h'.get? e = some { oe with data := .fields (vs.setIfInBounds 1 (.ref T)) } → (∃ oT, h'.get? T = some oT ∧ oT.data = .fields ts ∧ ts[3]? = some (rawInt L)) → Q () { s with heap := h' }) :
    wpAny M A (do let a ← frameOf env; let pl ← entryPlaceOf L hadNext; let b ← EntryCells.newEntry head a .none (rawInt L) .none pl; setField (.ref e) 1 b) Q E s := by
  have hef' : e ∉ frs (env :: outer) := fun hm => hef (hsub _ hm)
  refine wpAny_bind (wpAny_frameOf_fun hfr hff hf fun h₁ hs₁ => ?_)
  refine wpAny_bind (wpAny_entryPlaceOf fun pl hpl => ?_)
  unfold EntryCells.newEntry newFields
  refine wpAny_bind (wpAny_newObj_type ?_ (hpl.sizeOk5 _ _ _ _ _))
  have he₁ : h₁.get? e = some { oe with data := .fields vs } := (hs₁.2.1 e hef').trans he
  have he₂ := Heap.get?_push_of_some (h := h₁) { cls := .type "traceback", dict := none, data := .fields ([head, .ref L, .none, rawInt L, .none] ++ (if pl.isEmpty then List.replicate 6 Value.none else pl)).toArray } he₁
  refine wpAny_setField he₂ rfl hsz ?_
  have hTe : h₁.objs.size ≠ e := Nat.ne_of_gt (Heap.lt_size he₁)
  have e1 : Obj.mapFields (·.setIfInBounds 1 (Value.ref h₁.objs.size)) { oe with data := .fields vs } = { oe with data := .fields (vs.setIfInBounds 1 (.ref h₁.objs.size)) } := mapF_eq rfl _
  have he₃ := Heap.get?_update_self (Obj.mapFields (·.setIfInBounds 1 (Value.ref h₁.objs.size))) he₂ (by rw [e1]; rfl)
  rw [e1] at he₃
  have hT₃ := (Heap.get?_update_other (h₁.push { cls := .type "traceback", dict := none, data := .fields ([head, .ref L, .none, rawInt L, .none] ++ (if pl.isEmpty then List.replicate 6 Value.none else pl)).toArray })
    (Obj.mapFields (·.setIfInBounds 1 (Value.ref h₁.objs.size))) (Ne.symm hTe)).trans (Heap.get?_push_size h₁ rfl)
  have keep : ∀ b o, b ≠ e → h₁.get? b = some o →
      ((h₁.push { cls := .type "traceback", dict := none, data := .fields ([head, .ref L, .none, rawInt L, .none] ++ (if pl.isEmpty then List.replicate 6 Value.none else pl)).toArray }).update e (Obj.mapFields (·.setIfInBounds 1 (Value.ref h₁.objs.size)))).get? b = some o :=
    fun b o hbe hb => by
      rw [Heap.get?_update_other _ _ (Ne.symm hbe)]
      exact Heap.get?_push_of_some _ hb
  refine h _ h₁.objs.size _ ?_ (fun b o hbe hbf hb => keep b o hbe ((hs₁.2.1 b fun hm => hbf (hsub _ hm)).trans hb)) (fun b o hbf hb => ?_) he₃ ⟨_, hT₃, rfl, ?_⟩
  · cases hx : s.heap.get? h₁.objs.size with
    | none => rfl
    | some o =>
      obtain ⟨sl, hs⟩ := hs₁.2.2 _ o hx
      rw [fresh_none] at hs; cases hs
  · obtain ⟨sl, hs⟩ := hs₁.2.2 b o hb
    exact ⟨sl, keep b _ (fun q => hef (q ▸ hbf)) hs⟩
  · first | (simp; done) | (rcases hpl with rfl | ⟨_, _, _, _, _, _, _, rfl⟩ <;> simp)
theorem Fl.ff {l : List Env} {fl : Option Value} (F : Fl fr e oe h₀ fl s.heap) (x : FF h₀ l) (hsub : ∀ b ∈ frs l, b ∈ fr) : FF s.heap l := x.tr fun b hb o ho => F.tr.slot b o (hsub b hb) ho
/-- the first note of a frame -/
theorem note_first {Q : Unit → Shared → Prop} (hfr : A.frames = some (env :: outer)) (hff : FF h₀ (env :: outer)) (hsub : ∀ b ∈ frs (env :: outer), b ∈ fr) (hf : env.frame = some L)
    (F : Fl fr e oe h₀ none s.heap) (h : ∀ h', Fl fr e oe h₀ (some (rawInt L)) h' → Q () { s with heap := h' }) : wpAny M A (noteFrame (.ref e) env) Q E s := by
  have hff' := F.ff hff hsub
  obtain ⟨ex, hef, tr, vs, he, hsz, hz2, h1⟩ := F
  simp only at h1
  unfold noteFrame
  simp only [hf]
  refine wpAny_bind (wpAny_field he rfl h1 ?_)
  rw [if_neg (by decide)]
  refine w_entry hfr hff' hsub hf hef he hsz fun h' T ts hT hk hs he' ⟨oT, hT', hdT, h3⟩ => h h' ⟨ex, hef, ⟨fun b o a1 a2 a3 => hk b o a1 a2 (tr.keep b o a1 a2 a3), fun b o a1 a2 => ?_⟩, _, he', by simpa using hsz, by simpa [Array.getElem?_setIfInBounds] using hz2, T, oT, ts, by simp [hsz], ?_, ?_, ?_, hT', hdT, h3⟩
  · obtain ⟨sl, x⟩ := tr.slot b o a1 a2
    obtain ⟨sl', y⟩ := hs b _ a1 x
    exact ⟨sl', y⟩
  · cases hx : h₀.get? T with
    | none => rfl
    | some o =>
      by_cases hTe : T = e
      · subst hTe; rw [he] at hT; cases hT
      by_cases hTf : T ∈ fr
      · obtain ⟨sl, x⟩ := tr.slot T o hTf hx; rw [x] at hT; cases hT
      · rw [tr.keep T o hTe hTf hx] at hT; cases hT
  · rintro rfl; rw [he] at hT; cases hT
  · intro hTf
    obtain ⟨o, ho, _⟩ := ex T hTf
    obtain ⟨sl, x⟩ := tr.slot T o hTf ho
    rw [x] at hT; cases hT
/-- the flight of a traced one is set -/
theorem Fl.set {v v' : Value} {Q : Unit → Shared → Prop} {T : Addr} {oT : Obj} {ts vs : Array Value} (F : Fl fr e oe h₀ (some v) s.heap) (he : s.heap.get? e = some { oe with data := .fields vs }) (h1 : vs[1]? = some (.ref T)) (hT : s.heap.get? T = some oT) (hdT : oT.data = .fields ts) (h3 : ts[3]? = some v)
    (h : ∀ h', Fl fr e oe h₀ (some v') h' → h'.get? e = some { oe with data := .fields vs } → h'.get? T = some { oT with data := .fields (ts.setIfInBounds 3 v') } → Q () { s with heap := h' }) : wpAny M A (setField (.ref T) 3 v') Q E s := by
  obtain ⟨ex, hef, tr, vs', he', hsz, hz2, T', oT', ts', h1', hn', hne', hnf', hT', hdT', h3'⟩ := F
  rw [he] at he'
  have ev : vs = vs' := by injection he' with q; injection q with _ _ q _; injection q
  subst ev
  rw [h1] at h1'
  obtain rfl : T = T' := by injection h1' with q; injection q
  rw [hT] at hT'
  obtain rfl : oT = oT' := by injection hT'
  have h3s : 3 < ts.size := (Array.getElem?_eq_some_iff.mp h3).1
  have e1 : Obj.mapFields (·.setIfInBounds 3 v') oT = { oT with data := .fields (ts.setIfInBounds 3 v') } := mapF_eq hdT _
  have hT2 := Heap.get?_update_self (Obj.mapFields (·.setIfInBounds 3 v')) hT (by rw [e1]; rfl)
  rw [e1] at hT2
  have other : ∀ b, b ≠ T → (s.heap.update T (Obj.mapFields (·.setIfInBounds 3 v'))).get? b = s.heap.get? b := fun b hb => Heap.get?_update_other _ _ (Ne.symm hb)
  have heT : (s.heap.update T (Obj.mapFields (·.setIfInBounds 3 v'))).get? e = some { oe with data := .fields vs } := (other e (Ne.symm hne')).trans he
  refine wpAny_setField hT hdT h3s (h _ ⟨ex, hef, ⟨fun b o a1 a2 a3 => ?_, fun b o a1 a2 => ?_⟩, vs, heT, hsz, hz2, T, _, _, h1, hn', hne', hnf', hT2, rfl, by simp [h3s]⟩ heT hT2)
  · rw [other b (fun q => by subst q; rw [hn'] at a3; cases a3)]
    exact tr.keep b o a1 a2 a3
  · rw [other b (fun q => hnf' (q ▸ a1))]
    exact tr.slot b o a1 a2
/-- a further frame's note -/
theorem note_next {Q : Unit → Shared → Prop} (hfr : A.frames = some (env :: outer)) (hff : FF h₀ (env :: outer)) (hsub : ∀ b ∈ frs (env :: outer), b ∈ fr) (hf : env.frame = some L)
    (F : Fl fr e oe h₀ (some .none) s.heap) (h : ∀ h', Fl fr e oe h₀ (some (rawInt L)) h' → Q () { s with heap := h' }) : wpAny M A (noteFrame (.ref e) env) Q E s := by
  obtain ⟨vs, he, hsz, hz2, T, oT, ts, h1, hn, hne, hnf, hT, hdT, h3⟩ := F.ob
  unfold noteFrame
  simp only [hf]
  refine wpAny_bind (wpAny_field he rfl h1 ?_)
  rw [if_pos (show (Value.ref T != Value.none) = true from by simp)]
  refine wpAny_bind (wpAny_field hT hdT h3 ?_)
  rw [if_neg (show ¬ ((Value.none == rawInt L) = true) from by simp [rawInt])]
  refine wpAny_bind (F.set he h1 hT hdT h3 fun h1' F1 he1 hT1 => ?_)
  have hff' : FF h1' (env :: outer) := F1.ff (s := { s with heap := h1' }) hff hsub
  obtain ⟨ex, hef, tr, _⟩ := F1
  refine w_entry (s := { s with heap := h1' }) hfr hff' hsub hf hef he1 hsz fun h' T2 ts2 hT2 hk hs he' ⟨oT2, hT2', hdT2, h32⟩ => h h' ⟨ex, hef, ⟨fun b o a1 a2 a3 => hk b o a1 a2 (tr.keep b o a1 a2 a3), fun b o a1 a2 => ?_⟩, _, he', by simpa using hsz, by simpa [Array.getElem?_setIfInBounds] using hz2, T2, oT2, ts2, by simp [hsz], ?_, ?_, ?_, hT2', hdT2, h32⟩
  · obtain ⟨sl, x⟩ := tr.slot b o a1 a2
    obtain ⟨sl', y⟩ := hs b _ a1 x
    exact ⟨sl', y⟩
  · cases hx : h₀.get? T2 with
    | none => rfl
    | some o =>
      have hT2' : h1'.get? T2 = none := hT2
      by_cases hTe : T2 = e
      · subst hTe; rw [he1] at hT2'; cases hT2'
      by_cases hTf : T2 ∈ fr
      · obtain ⟨sl, x⟩ := tr.slot T2 o hTf hx; rw [x] at hT2'; cases hT2'
      · rw [tr.keep T2 o hTe hTf hx] at hT2'; cases hT2'
  · have hT2' : h1'.get? T2 = none := hT2
    rintro rfl; rw [he1] at hT2'; cases hT2'
  · have hT2' : h1'.get? T2 = none := hT2
    intro hTf
    obtain ⟨o, ho, _⟩ := ex T2 hTf
    obtain ⟨sl, x⟩ := tr.slot T2 o hTf ho
    rw [x] at hT2'; cases hT2'
theorem note_again {Q : Unit → Shared → Prop} (hf : env.frame = some L) (F : Fl fr e oe h₀ (some (rawInt L)) s.heap) (h : Q () s) : wpAny M A (noteFrame (.ref e) env) Q E s := by
  obtain ⟨vs, he, hsz, hz2, T, oT, ts, h1, hn, hne, hnf, hT, hdT, h3⟩ := F.ob
  unfold noteFrame
  simp only [hf]
  refine wpAny_bind (wpAny_field he rfl h1 ?_)
  rw [if_pos (show (Value.ref T != Value.none) = true from by simp)]
  refine wpAny_bind (wpAny_field hT hdT h3 ?_)
  rw [if_pos (show (rawInt L == rawInt L) = true from by simp)]
  exact wpAny_pure h
theorem flight_set {v : Value} {f : Option Addr} {Q : Unit → Shared → Prop} (F : Fl fr e oe h₀ (some v) s.heap) (h : ∀ h', Fl fr e oe h₀ (some (f.elim .none fun a => rawInt a)) h' → Q () { s with heap := h' }) : wpAny M A (setFlight (.ref e) f) Q E s := by
  obtain ⟨vs, he, hsz, hz2, T, oT, ts, h1, hn, hne, hnf, hT, hdT, h3⟩ := F.ob
  unfold setFlight
  refine wpAny_bind (wpAny_field he rfl h1 ?_)
  rw [if_pos (show (Value.ref T != Value.none) = true from by simp)]
  exact F.set he h1 hT hdT h3 fun h' F' _ _ => h h' F'
theorem flight_set0 {f : Option Addr} {Q : Unit → Shared → Prop} (F : Fl fr e oe h₀ none s.heap) (h : Q () s) : wpAny M A (setFlight (.ref e) f) Q E s := by
  obtain ⟨vs, he, hsz, hz2, h1⟩ := F.ob
  unfold setFlight
  refine wpAny_bind (wpAny_field he rfl h1 ?_)
  rw [if_neg (by decide)]
  exact wpAny_pure h
/-- leaving a frame in which it is in flight -/
theorem leave_again {Q : Unit → Shared → Prop} (hf : env.frame = some L) (F : Fl fr e oe h₀ (some (rawInt L)) s.heap) (h : ∀ h', Fl fr e oe h₀ (some .none) h' → Q () { s with heap := h' }) : wpAny M A (leaving env (.ref e)) Q E s := by
  unfold leaving
  exact wpAny_bind (note_again hf F (flight_set F h))
/-- past the run of a loop of its own -/
theorem own_again {Q : Flow → Shared → Prop} (hf : env.frame = some L) (F : Fl fr e oe h₀ (some (rawInt L)) s.heap) (h : ∀ h', Fl fr e oe h₀ (some (rawInt L)) h' → E (.ref e) { s with heap := h' }) :
    wpAny M A ((.raise (.ref e) : Sem Flow).onRaise fun (x : Value) => do
        if (← field x 1) == Value.none then unsupported "frame.own-activation:exception-without-traceback"
        setFlight x env.frame) Q E s := by
  obtain ⟨vs, he, hsz, hz2, T, oT, ts, h1, hn, hne, hnf, hT, hdT, h3⟩ := F.ob
  refine wpAny_onRaise (wpAny_throw ?_)
  refine wpAny_bind (wpAny_field he rfl h1 ?_)
  rw [if_neg (show ¬ ((Value.ref T == Value.none) = true) from by simp)]
  rw [hf]
  exact flight_set F fun h' F' => h h' F'
end
end Mine
end
section
open PySem PySem.W PySem.Calls PyProof.Rows Builtin Builtin.ObjectAttr Builtin.Getset_descriptor
set_option maxRecDepth 100000
set_option maxHeartbeats 1000000
set_option autoImplicit false
set_option linter.unusedVariables false
set_option linter.unusedSectionVars false
namespace Mine
theorem ex_get (w : World) : peek (KF w) ⟨P0, w.params⟩ (typeLookup (.ref 277) "__getattribute__") = some (some (.builtin "BaseException.__getattribute__")) := by kernel_rfl
theorem ex_gat (w : World) : peek (KF w) ⟨P0, w.params⟩ (typeLookup (.ref 277) "__getattr__") = some none := by kernel_rfl
theorem ex_made (w : World) : peek (KF w) ⟨P0, w.params⟩ (Bind.madeBy (.ref 277)) = some (some "Exception.__new__") := by kernel_rfl
theorem ex_mro (w : World) : peek (KF w) ⟨P0, w.params⟩ (mroOf (.ref 277)) = some [.ref 277, .type "Exception", .type "BaseException", .type "object"] := by kernel_rfl
theorem ex_self (w : World) : peek (KF w) ⟨P0, w.params⟩ (isSubtype (.ref 277) (.ref 277)) = some true := by kernel_rfl
theorem ex_base (w : World) : peek (KF w) ⟨P0, w.params⟩ (isSubtype (.ref 277) (.type "BaseException")) = some true := by kernel_rfl
theorem ex_init (w : World) : peek (KF w) ⟨P0, w.params⟩ (typeLookup (.ref 277) "__init__") = some (some (.ref 274)) := by kernel_rfl
theorem ex_call (w : World) (as : List Value) : peek (KF w) ⟨P0, w.params⟩ (callAny (.ref 277) ⟨as, []⟩) = some (.again (.call (.builtin "type.__call__") ⟨.ref 277 :: as, []⟩)) := by kernel_rfl
theorem ex_tc (w : World) (as : List Value) : peek (KF w) ⟨P0, w.params⟩ (checkBuiltinCall "type.__call__" ⟨.ref 277 :: as, []⟩) = some () := by kernel_rfl
theorem ex_nc (w : World) (a b c : Value) : peek (KF w) ⟨P0, w.params⟩ (checkBuiltinCall "Exception.__new__" ⟨[.ref 277, a, b, c], []⟩) = some () := by kernel_rfl
theorem ex_refuse (self : Value) : refuseLoop self "__setattr__" [.ref 277, .type "Exception", .type "BaseException", .type "object"] = pure () := by
  rw [refuseLoop_ref]; kernel_rfl
/-- the exception's object -/
abbrev exO (dx : Option Addr) (t : Addr) : Obj := { cls := .ref 277, dict := dx, data := .fields #[.ref t, .none, .none, .none, .bool false, .none] }
section
variable {w : World} {A : Around} {E : Value → Shared → Prop} {s : Shared} {env : Env} {G : Array GenState} {O : OsState} {V : View} {L : Addr} {ns : List Str} {vs : List (Option Value)} {own : List Kp} {x dx : Addr} {ox : Obj}
/-- the store of an attribute of a thing whose type stores plainly -/
theorem ex_osa {od : Option Obj} {name : Str} {tk : Tok} {v : Value} {R : Result → Shared → Prop} (C : Cx w s.heap) (I : InstAt s.heap x ox 277 od) (ht : takerIn (KF w) 277 name = some none)
    (h : ∀ b, wpAny (model P0 w) A.in1 (storeInOwnDict (.ref x) (.ref 277) (.str name tk) name v b)
      (fun fin s' => match fin with | .done f => R (.ok f) s' | .again c' => c'.quiet = true ∧ codeAny (model P0 w) A c' R s') (fun e s' => R (.error e) s') s) :
    codeAny (model P0 w) A (.call (.builtin "object.__setattr__") ⟨[.ref x, .str name tk, v], []⟩) R s := by
  have X := C.K
  have SF := PySem.F.store_object
  have sub : Looks (model P0 w) s.heap (isInstance (.ref x) (.type "object")) true := I.type.andThen (Looks.of_peek X (show peek (KF w) ⟨P0, w.params⟩ (isSubtype (.ref 277) (.type "object")) = some true by kernel_rfl))
  refine codeAny_call_builtin SF.slot.plain SF.entry (@check_slot (model P0 w) _ _ s "object.__setattr__" "object" "__setattr__" (.ref x) [.str name tk, v] [] _ SF.kind SF.split sub (SF.args (.ref x) (.str name tk) v) ?_)
  obtain ⟨attr, ha, hr⟩ := Option.bind_eq_some_iff.mp ht
  have hm : Looks (model P0 w) s.heap (mroOf (.ref 277)) _ := Looks.of_peek X (ex_mro w)
  have L3 : Looks (model P0 w) s.heap (storeTaker? attr) none := by
    cases attr with
    | none => exact .now
    | some a =>
      obtain ⟨b, hb, e⟩ := Option.map_eq_some_iff.mp hr
      refine (looks_takesIn X hb).andThen ?_
      cases b with
      | false => exact .now
      | true => cases e
  rw [osa_eq, refuse_eq]
  refine wpAny_bind (wpAny_bind (I.type.here (wpAny_bind (hm.here ?_))))
  rw [ex_refuse]
  refine wpAny_pure (wpAny_bind (I.type.here (wpAny_bind ((looks_findIn X ha).here (wpAny_bind (L3.here ?_))))))
  exact h _
theorem ex_hasDict {Q : ClassData → Shared → Prop} (C : Cx w s.heap) (h : ∀ cd, cd.hasDict = true → Q cd s) : wpAny (model P0 w) A (classData 277) Q E s := by
  obtain ⟨cd, hc, hd⟩ : ∃ cd, clsIn (KF w) 277 = some cd ∧ cd.hasDict = true := any_some (show (clsIn (KF w) 277).any (·.hasDict) = true by kernel_rfl)
  exact (looks_clsIn C.K hc).here (h _ hd)
/-- a name goes into a dict -/
theorem w_nsput {name : Str} {v : Value} {es : List DictEntry} {n : Nat} {tk : Tok} {Q : Fin → Shared → Prop} (D : s.heap.get? dx = some (dictOf es n)) (hok : (getL name es).isSome = true) (hz : es.length ≤ 1000)
    (h : ∀ h' n', Heap.SameBut dx s.heap h' → h'.get? dx = some (dictOf (putL name (PyData.keyHash w.params name) (.str name s.toks) v es) n') → Q (.done (.ret .none)) { s with heap := h', toks := s.toks + 1 }) :
    wpAny (model P0 w) A (storeInDict dx (.str name tk) name v) Q E s := by
  have e := putName_dict name (PyData.keyHash w.params name) (.str name s.toks) v es n
  have D' := Heap.get?_update_self (Obj.putName name (PyData.keyHash w.params name) (.str name s.toks) v) D (by rw [e]; rfl)
  rw [e] at D'
  unfold storeInDict
  refine wpAny_bind (wpAny_pure ?_)
  refine wpAny_bind ?_
  unfold nsSet
  refine wpAny_bind (wpAny_bind (wpAny_askSetting (wpAny_pure (wpAny_bind (wpAny_mkText (wpAny_bind (wpAny_loadPart D ?_)))))))
  dsimp only
  have c : (!es.toArray.any (·.key.isStr name) && es.toArray.any (·.refKey)) = false := by
    unfold getL at hok
    rw [List.any_toArray, List.any_toArray]
    split at hok
    · rename_i en he
      rw [List.any_eq_true.mpr ⟨en, List.mem_of_find?_eq_some he, List.find?_some he⟩]; rfl
    · split at hok
      · cases hok
      · rename_i z; rw [Bool.not_eq_true] at z; rw [z, Bool.and_false]
  rw [aRefKeyMayBeTheName_at, c]
  refine wpAny_updatePart D ?_
  refine wpAny_bind (wpAny_lookBehind D' (pastItsLine_dict (by
    have : (putL name (PyData.keyHash w.params name) (.str name s.toks) v es).length ≤ es.length + 1 := by
      clear D D' e c hok h
      induction es with
      | nil => simp [putL]
      | cons a r ih =>
        unfold putL
        split
        · simp
        · simp only [List.length_cons]
          have := ih (by simp at hz; omega)
          omega
    rw [List.size_toArray, sizeLine_eq]; omega)) ?_)
  exact wpAny_pure (h _ _ (Heap.SameBut.update ..) D')
end
end Mine
end
section
open PySem PySem.W PySem.Calls PyProof.Rows Builtin Builtin.ObjectAttr Builtin.Getset_descriptor
set_option maxRecDepth 100000
set_option maxHeartbeats 1000000
set_option autoImplicit false
set_option linter.unusedVariables false
set_option linter.unusedSectionVars false
namespace Mine
noncomputable def DX1 (v : Value) : Obj → Prop := fun o => ∃ h1 t1 n, o = dictOf [⟨h1, .str "cycles" t1, v⟩] n
noncomputable def DX2 (v u : Value) : Obj → Prop := fun o => ∃ h1 t1 h2 t2 n, o = dictOf [⟨h1, .str "cycles" t1, v⟩, ⟨h2, .str "edges" t2, u⟩] n
theorem isStr_ce (t : Tok) : (Value.str "cycles" t).isStr "edges" = false := by rfl
section
variable {w : World} {A : Around} {E : Value → Shared → Prop} {s : Shared} {env : Env} {G : Array GenState} {O : OsState} {V : View} {L : Addr} {ns : List Str} {vs : List (Option Value)} {own : List Kp} {x dx t : Addr} {ox : Obj}
theorem ex_set0 {v : Value} {Q : Unit → Shared → Prop} (C : Cx w s.heap) (hx : s.heap.get? x = some (exO none t))
    (h : ∀ h' d tk, d = s.heap.objs.size → (∀ b o, b ≠ x → s.heap.get? b = some o → h'.get? b = some o) → h'.get? x = some (exO (some d) t) → HasP h' (d, DX1 v) → Q () { s with heap := h', toks := tk }) :
    wpAny (model P0 w) A (setAttr (.ref x) "cycles" v) Q E s := by
  have I : InstAt s.heap x (exO none t) 277 none := ⟨hx, rfl, rfl, trivial⟩
  refine set_plain C.K I (show findIn (KF w) (.ref 277) "__setattr__" = some (some (.builtin "object.__setattr__")) by kernel_rfl) ?_
  refine ex_osa (s := { s with toks := s.toks + 1 }) C I (by kernel_rfl) fun b => ?_
  unfold storeInOwnDict
  refine wpAny_bind (wpAny_pure ?_)
  refine wp_if_false (by rfl) ?_
  refine wpAny_bind ?_
  show wpAny _ _ (instanceDict x true) _ _ _
  unfold instanceDict
  refine wpAny_bind (wpAny_loadPart hx ?_)
  dsimp only
  refine wpAny_bind (ex_hasDict (s := { s with toks := s.toks + 1 }) C fun cd hcd => ?_)
  refine wp_if_false (by rw [hcd]; rfl) ?_
  refine wp_if_false (by rfl) ?_
  refine wpAny_bind (wpAny_alloc ?_)
  have hx1 := Heap.get?_push_of_some (h := s.heap) { cls := .type "dict", data := .dict #[] } hx
  refine wpAny_bind (wpAny_update hx1 ?_)
  refine wpAny_pure ?_
  dsimp only
  have hne : s.heap.objs.size ≠ x := Nat.ne_of_gt (Heap.lt_size hx)
  have hx2 := Heap.get?_update_self (fun o => { o with dict := some s.heap.objs.size }) hx1 rfl
  have D : ((s.heap.push { cls := .type "dict", data := .dict #[] }).update x (fun o => { o with dict := some s.heap.objs.size })).get? s.heap.objs.size = some (dictOf [] 0) :=
    (Heap.get?_update_other _ _ (Ne.symm hne)).trans (Heap.get?_push_size _ rfl)
  refine w_nsput (s := { s with toks := s.toks + 1, heap := (s.heap.push { cls := .type "dict", data := .dict #[] }).update x (fun o => { o with dict := some s.heap.objs.size }) }) D rfl (by simp) fun h' n' hsb hd' => ?_
  refine h h' _ _ rfl (fun b o hb e => ?_) ((hsb.2 x (Ne.symm hne)).trans hx2) ⟨_, hd', _, _, _, rfl⟩
  have hb2 : b ≠ s.heap.objs.size := Nat.ne_of_lt (Heap.lt_size e)
  exact (hsb.2 b hb2).trans ((Heap.get?_update_other _ _ (Ne.symm hb)).trans (Heap.get?_push_of_some _ e))
theorem ex_set1 {u v : Value} {Q : Unit → Shared → Prop} (C : Cx w s.heap) (hx : s.heap.get? x = some (exO (some dx) t)) (hd : HasP s.heap (dx, DX1 u)) (hxd : x ≠ dx)
    (h : ∀ h' tk, Heap.SameBut dx s.heap h' → HasP h' (dx, DX2 u v) → Q () { s with heap := h', toks := tk }) :
    wpAny (model P0 w) A (setAttr (.ref x) "edges" v) Q E s := by
  obtain ⟨_, D, h1, t1, n, rfl⟩ := hd
  have I : InstAt s.heap x (exO (some dx) t) 277 (some (dictOf [⟨h1, .str "cycles" t1, u⟩] n)) := ⟨hx, rfl, rfl, D⟩
  refine set_plain C.K I (show findIn (KF w) (.ref 277) "__setattr__" = some (some (.builtin "object.__setattr__")) by kernel_rfl) ?_
  refine ex_osa (s := { s with toks := s.toks + 1 }) C I (by kernel_rfl) fun b => ?_
  unfold storeInOwnDict
  refine wpAny_bind (wpAny_pure ?_)
  refine wp_if_false (by rfl) ?_
  refine wpAny_bind ?_
  show wpAny _ _ (instanceDict x true) _ _ _
  unfold instanceDict
  refine wpAny_bind (wpAny_loadPart hx ?_)
  dsimp only
  refine wpAny_bind (ex_hasDict (s := { s with toks := s.toks + 1 }) C fun cd hcd => ?_)
  refine wp_if_false (by rw [hcd]; rfl) ?_
  refine wpAny_pure ?_
  dsimp only
  refine w_nsput (s := { s with toks := s.toks + 1 }) D (by rfl) (by simp) fun h' n' hsb hd' => ?_
  exact h h' _ hsb ⟨_, hd', h1, t1, _, _, _, rfl⟩
theorem ex_check {e : Addr} {o : Obj} {Q : Bool → Shared → Prop} (C : Cx w s.heap) (ho : s.heap.get? e = some o) (hc : o.cls = .ref 277) (h : Q true s) : wpAny (model P0 w) A (isInstance (.ref e) (.type "BaseException")) Q E s := by
  simp only [isInstance, typeOf]
  refine wpAny_bind (wpAny_bind (wpAny_load ho (wpAny_pure ?_)))
  rw [hc]; exact (Looks.of_peek C.K (ex_base w)).here h
theorem Fm.adoptAt {own' : List Kp} {s' : Shared} {a : Addr} {p : Obj → Prop} (F' : Fm w G O V L ns vs own' s') (F : Fm w G O V L ns vs own s) (ha : s.heap.get? a = none) (hp : HasP s'.heap (a, p)) (hm : own'.map (·.1) = own.map (·.1) := by rfl) :
    Fm w G O V L ns vs ((a, p) :: own') s' := by
  have hV : V a = none := by
    cases e : V a with
    | none => rfl
    | some o' => have := F.view _ _ e; rw [hv, ha] at this; cases this
  have hL : a ≠ L := by
    rintro rfl
    obtain ⟨o', _, _, hL, _⟩ := F.hns
    rw [ha] at hL; cases hL
  have hn : a ∉ own'.map (·.1) := fun hq => by
    rw [hm] at hq
    obtain ⟨q, hq2, rfl⟩ := List.mem_map.mp hq
    obtain ⟨o, ho, _⟩ := F.hown q hq2
    rw [ho] at ha; cases ha
  refine ⟨F'.cx, F'.gens, F'.os, F'.hns, F'.nn, F'.view, ?_, F'.vL, ?_, ?_, ?_⟩
  · intro p hp; rcases List.mem_cons.mp hp with rfl | hp
    · assumption
    · exact F'.hown p hp
  · intro p hp; rcases List.mem_cons.mp hp with rfl | hp
    · exact hL
    · exact F'.oL p hp
  · intro p hp; rcases List.mem_cons.mp hp with rfl | hp
    · exact hV
    · exact F'.vo p hp
  · simp only [List.map_cons, List.nodup_cons]; exact ⟨hn, F'.nd⟩
/-- its __init__ -/
theorem ex_initc {msg vc ve : Value} {Q : Value → Shared → Prop} (C : CxV w ((hv s.heap).but [x])) (R : Rm A 10) (hx : s.heap.get? x = some (exO none t))
    (h : ∀ dx s', (∀ b o, b ≠ x → s.heap.get? b = some o → s'.heap.get? b = some o) → s'.gens = s.gens → s'.os = s.os → s.heap.get? dx = none → s'.heap.get? x = some (exO (some dx) t) → HasP s'.heap (dx, DX2 vc ve) → Q .none s') :
    wpAny (model P0 w) A (call (.ref 274) [.ref x, msg, vc, ve]) Q noE s := by
  have C0 : Cx w s.heap := C.at fun a o e => View.but_le _ _ a o e
  refine f_call (ns := ["self", "message", "cycles", "edges"]) (by rfl) C0 (by decide) R.room (by kernel_rfl) (binds := [("self", .ref x), ("message", msg), ("cycles", vc), ("edges", ve)]) (.of_eq (by rfl)) ?_
  intro env s' he en H
  have R' := R.deeper env
  generalize hAA : A.deeper env = AA at *
  have hhA : AA.handled = none := R'.hd
  clear hAA
  subst he
  replace H : Fm w s.gens s.os (hv s.heap) s.heap.objs.size _ [none, none, none, none] [] s' := H
  refine s_local H en rfl .head fun s1 H => s_local H en rfl (.tail .head) fun s2 H => s_local H en rfl (.tail (.tail .head)) fun s3 H => s_local H en rfl (.tail (.tail (.tail .head))) fun s4 H => ⟨H.ctx, ?_⟩
  replace H := H.free (x := x) (p := fun o => o = exO none t) hx rfl C
  refine x_cons (x_pair H hhA (e_tuple (i_cons (e_local H en rfl (.tail (.tail .head)) (i_cons (e_local H en rfl (.tail (.tail (.tail .head))) (i_nil (n_tuple H fun tp s5 H5 => ⟨tp, vc, ve, _, _, rfl, ?_, H5, fun s6 H => ?_⟩))))))) )
  · obtain ⟨o, ho, e⟩ := H5.get (.head _)
    exact ⟨o, ho, e⟩
  · rw [assign_Attribute]
    refine wpAny_bind (wpAny_holding (e_local H en rfl .head (wpAny_bind (wpAny_standAt (wpAny_bind (wpAny_holding ?_))))))
    obtain ⟨_, hx6, rfl⟩ := H.get (.tail _ (.head _))
    refine ex_set0 H.ctx hx6 fun h' d tk hd hk hx' hD => ?_
    have hdn : s6.heap.get? d = none := hd ▸ fresh_none _
    have H2 := (H.change (i := 1) (p' := fun o => o = exO (some d) t) (s' := { s6 with heap := h', toks := tk }) rfl (fun b o hb e => hk b o hb e) ⟨_, hx', rfl⟩ H.gens H.os).adoptAt H hdn hD
    refine wpAny_release ?_
    rw [assign_Attribute]
    refine wpAny_bind (wpAny_holding (e_local H2 en rfl .head (wpAny_bind (wpAny_standAt (wpAny_bind (wpAny_holding ?_))))))
    have hxd : x ≠ d := H2.one (i := 2) (j := 0) rfl rfl (by decide)
    refine ex_set1 H2.ctx hx' (H2.get (.head _)) hxd fun h2 tk2 hsb hD2 => wpAny_release (x_nil ?_)
    have H3 := H2.change (i := 0) (p' := DX2 vc ve) (s' := { s6 with heap := h2, toks := tk2 }) rfl hsb.extBut hD2 H2.gens H2.os
    refine h d _ (fun b o hb e => H3.view b o (View.but_at e (by simpa using hb))) H3.gens H3.os ?_ ((hsb.2 x hxd).trans hx') hD2
    have h1 := H3.vo (d, DX2 vc ve) (.head _)
    exact View.but_get h1 (by simpa using (Ne.symm hxd))
/-- the exception made -/
theorem ex_make {msg vc ve : Value} {Q : Value → Shared → Prop} (C : Cx w s.heap) (R : Rm A 12)
    (h : ∀ e dx t s', Res s s' [(e, fun o => o = exO (some dx) t), (dx, DX2 vc ve)] → Q (.ref e) s') : wpAny (model P0 w) A (call (.ref 277) [msg, vc, ve]) Q E s := by
  refine wp_noE (wpAny_call (codeAny_of_tree ?_))
  show wpAny _ _ (callAny (.ref 277) _) _ _ _
  refine (Looks.of_peek C.K (ex_call w [msg, vc, ve])).here (And.intro rfl ?_)
  refine codeAny_call_builtin_at (Code.quiet_builtin _ (by decide +kernel)) entry_typeCall ((Looks.of_peek C.K (ex_tc w [msg, vc, ve])).here ?_)
  unfold Builtin.«type.__call__»
  have h1 : (s.heap.push { cls := .type "tuple", data := .seq [msg, vc, ve].toArray }).objs.size = s.heap.objs.size + 1 := Heap.size_push ..
  have k : ∀ b o, s.heap.get? b = some o → ((s.heap.push { cls := .type "tuple", data := .seq [msg, vc, ve].toArray }).push (exO none s.heap.objs.size)).get? b = some o := fun b o e => Heap.get?_push_of_some _ (Heap.get?_push_of_some _ e)
  have C2 : Cx w ((s.heap.push { cls := .type "tuple", data := .seq [msg, vc, ve].toArray }).push (exO none s.heap.objs.size)) := C.keeps k
  have hx : ((s.heap.push { cls := .type "tuple", data := .seq [msg, vc, ve].toArray }).push (exO none s.heap.objs.size)).get? (s.heap.objs.size + 1) = some (exO none s.heap.objs.size) := by
    have := Heap.get?_push_size (o := exO none s.heap.objs.size) (s.heap.push { cls := .type "tuple", data := .seq [msg, vc, ve].toArray }) rfl
    rwa [h1] at this
  refine wp_if_false (by decide) ?_
  refine wpAny_bind ((Looks.of_peek C.K (ex_mro w)).here ?_)
  refine wp_if_false rfl ?_
  refine wpAny_bind (m := Bind.madeBy _) ((Looks.of_peek C.K (ex_made w)).here ?_)
  refine wpAny_bind (wpAny_pure ?_)
  obtain ⟨nm, q, N, bs, hdct, sn, sub, ab, col, dd, k0, k1, k2, k3, k5, hC⟩ : ∃ nm q N bs hdct sn sub ab col dd k0 k1 k2 k3 k5, (KF w).lookup 277 = some (excClassObj nm q 277 N bs [.type "Exception", .type "BaseException", .type "object"] hdct sn sub ab col dd k0 k1 k2 k3 k5 "Exception.__new__") := ⟨_, _, _, _, _, _, _, _, _, _, _, _, _, _, _, rfl⟩
  refine wpAny_bind (wpAny_holding (wpAny_call (codeAny_call_builtin_code (Code.quiet_builtin _ PySem.F.excBase_Exception.quiet) ((Looks.of_peek C.K (ex_nc w msg vc ve)).here (codeAny_exc_new_sub PySem.F.excBase_Exception (C.K _ _ hC) ?_)))))
  refine wpAny_bind ?_
  unfold isInstance
  refine wpAny_bind (w_typeOf (s := { s with heap := (s.heap.push { cls := .type "tuple", data := .seq [msg, vc, ve].toArray }).push (exO none s.heap.objs.size) }) hx ((Looks.of_peek C2.K (ex_self w)).here ?_))
  refine wp_if_false rfl ?_
  refine wpAny_bind (wpAny_holding ?_)
  unfold callSpecial? specialOf
  refine wpAny_bind (wpAny_bind (w_typeOf (s := { s with heap := (s.heap.push { cls := .type "tuple", data := .seq [msg, vc, ve].toArray }).push (exO none s.heap.objs.size) }) hx ((Looks.of_peek C2.K (ex_init w)).here ?_)))
  dsimp only
  refine wpAny_holding (wpAny_bind ((pk_bind w 274 _ (by rfl) C2.K).here ?_))
  dsimp only
  refine wpAny_bind ?_
  have R1 : Rm (A.under (.builtin "type.__call__" ⟨[.ref 277, msg, vc, ve], []⟩)) 11 := R.under
  have hnn : s.heap.get? (s.heap.objs.size + 1) = none := Heap.get?_none_of_le (Nat.le_succ _)
  refine ex_initc (s := { s with heap := (s.heap.push { cls := .type "tuple", data := .seq [msg, vc, ve].toArray }).push (exO none s.heap.objs.size) }) (x := s.heap.objs.size + 1) (t := s.heap.objs.size) (CxV.of C hnn k) (R1.mono (by decide)) hx fun dx s' a1 a2 a3 a4 a5 a6 => ?_
  have hdn : s.heap.get? dx = none := by
    cases q : s.heap.get? dx with
    | none => rfl
    | some o => rw [k dx o q] at a4; cases a4
  have hed : s.heap.objs.size + 1 ≠ dx := fun q => by rw [← q, hx] at a4; cases a4
  refine wpAny_pure ?_
  refine wp_if_false rfl (wpAny_pure (h _ dx s.heap.objs.size s' ⟨fun b o e => a1 b o (Nat.ne_of_lt (Nat.lt_succ_of_lt (Heap.lt_size e))) (k b o e), a2, a3, ?_, ?_, ?_⟩))
  · intro p hp
    rcases List.mem_cons.mp hp with rfl | hp
    · exact hnn
    · obtain rfl : p = (dx, DX2 vc ve) := by simpa using hp
      exact hdn
  · simpa using hed
  · intro p hp
    rcases List.mem_cons.mp hp with rfl | hp
    · exact ⟨_, a5, rfl⟩
    · obtain rfl : p = (dx, DX2 vc ve) := by simpa using hp
      exact a6
end
end Mine
end
section
open PySem PySem.W PySem.Calls PyProof.Rows
set_option maxRecDepth 100000
set_option maxHeartbeats 1000000
set_option autoImplicit false
set_option linter.unusedVariables false
set_option linter.unusedSectionVars false
namespace Mine
theorem ex_meta (w : World) : peek (KF w) ⟨P0, w.params⟩ (typeOf (.ref 277)) = some (.type "type") := by kernel_rfl
section
variable {w : World} {A : Around} {E : Value → Shared → Prop} {s : Shared} {env : Env}
theorem w_isTypeX {e : Addr} {o : Obj} {vs : Array Value} {Q : Bool → Shared → Prop} (ho : s.heap.get? e = some o) (hd : o.data = .fields vs) (h : Q false s) : wpAny (model P0 w) A (isType (.ref e)) Q E s := by
  unfold isType
  refine wpAny_bind (wpAny_loadPart ho (wpAny_pure ?_))
  rw [hd]; exact h
theorem x_RaiseX {exc : PySem.Expr} {pos : Pos} {Q : Flow → Shared → Prop} (hh : A.handled = none)
    (h : wpAny (model P0 w) A (eval exc env) (fun v s₁ => ∃ e o vs, v = .ref e ∧ Cx w s₁.heap ∧ s₁.heap.get? e = some o ∧ o.cls = .ref 277 ∧ o.data = .fields vs ∧ vs[1]? = some .none ∧ E (.ref e) s₁) E s) :
    wpAny (model P0 w) A (exec (.Raise (some exc) none pos) env) Q E s := by
  show wpAny _ _ (standAt pos >>= fun _ => raiseStmt env ((evalOpt (some exc) env).map fun x => do let v ← x; standAt pos; pure v) none) _ _ _
  refine wpAny_bind (wpAny_standAt ?_)
  unfold raiseStmt
  show wpAny _ _ ((do let v ← eval exc env; standAt pos; pure v) >>= fun xv => _) _ _ _
  refine wpAny_bind (wpAny_bind (wpAny_mono h (fun v s₁ h₁ => ?_) fun _ _ x => x))
  obtain ⟨e, o, vs, rfl, C, ho, hc, hd, h1, hE⟩ := h₁
  refine wpAny_bind (wpAny_standAt (wpAny_pure ?_))
  refine wpAny_bind (wpAny_pure ?_)
  refine wpAny_bind (wpAny_holding ?_)
  unfold excFromValue isExcClass
  refine wpAny_bind (wpAny_bind (w_isTypeX ho hd ?_))
  refine wp_if_false rfl (wpAny_pure ?_)
  refine wp_if_false rfl ?_
  refine wpAny_bind (ex_check C ho hc ?_)
  refine wp_if_true rfl (wpAny_pure ?_)
  dsimp only
  refine wpAny_bind (w_isTypeX ho hd ?_)
  refine wp_if_false rfl ?_
  refine wpAny_bind ?_
  unfold raisedInstance
  refine wpAny_bind (w_typeOf ho ?_)
  rw [hc]
  refine wpAny_bind ((Looks.of_peek C.K (ex_meta w)).here ?_)
  refine wp_if_true rfl (wpAny_pure ?_)
  unfold setFlight
  refine wpAny_bind (wpAny_bind (wpAny_field ho hd h1 ?_))
  refine wp_if_false rfl (wpAny_pure ?_)
  simp only [raiseNew]
  refine wpAny_bind (wpAny_handled ?_)
  rw [hh]
  exact wpAny_bind (wpAny_pure (wpAny_throw hE))
end
end Mine
end
section
open PySem PySem.W PySem.Calls PyProof.Rows
set_option maxRecDepth 100000
set_option maxHeartbeats 1000000
set_option autoImplicit false
set_option linter.unusedVariables false
set_option linter.unusedSectionVars false
namespace Mine
/-! the generator sort_as_subsets: what it is ready for -/
/-- all but H as it was -/
structure Chd (H : List Addr) (s s₁ : Shared) : Prop where
  keep : ∀ b o, b ∉ H → s.heap.get? b = some o → s₁.heap.get? b = some o
  g : s₁.gens = s.gens
  os : s₁.os = s.os
/-- the things at H as they are in h -/
noncomputable def Same (H : List Addr) (h h' : Heap) : Prop := ∀ a ∈ H, ∃ o, h.get? a = some o ∧ h'.get? a = some o
noncomputable def newsX (w : World) (dx r eds : Addr) (S : List Int) (q : Q2) : List Kp := (dx, DX2 (.ref r) (.ref eds)) :: (r, SP w S) :: (eds, PP w q) :: qtups q
/-- it was left by the exception -/
noncomputable def ErrX (w : World) (ps : List (Int × Int)) (fr H : List Addr) (s : Shared) (x : Result) (s₁ : Shared) : Prop :=
  ∃ e dx t r S eds q h₀, x = .error (.ref e) ∧ Fl fr e (exO (some dx) t) h₀ (some .none) s₁.heap ∧ (∀ b o, b ∉ H → s.heap.get? b = some o → h₀.get? b = some o) ∧
    (∀ p ∈ newsX w dx r eds S q, HasP h₀ p) ∧ (∀ a ∈ e :: (newsX w dx r eds S q).map (·.1), s.heap.get? a = none) ∧ (e :: (newsX w dx r eds S q).map (·.1)).Nodup ∧
    (∀ x, x ∈ S ↔ Cyc ps x) ∧ (∀ p, p ∈ q.map (·.2) ↔ p ∈ ps) ∧ s₁.gens = s.gens ∧ s₁.os = s.os
structure Cnd (cy : Prop) (V : View) (outer : List Env) (H : List Addr) (A : Around) (s : Shared) : Prop where
  fr : cy → A.frames = some outer
  ff : cy → FF s.heap outer
  vn : cy → ∀ b ∈ frs outer, V b = none ∧ b ∉ H
noncomputable def Post2 (w : World) (V : View) (ps : List (Int × Int)) (outer : List Env) (cy : Prop) (L : Addr) (Rd : List Int → List Addr → Heap → GenState → Prop) (td : List Int) (H : List Addr) (s : Shared) : End → Shared → Prop :=
  PostOf (fun x s₁ => (td = [] ∧ x = .ok (.ret .none) ∧ Chd H s s₁) ∨ (cy ∧ outsF ps td = [] ∧ td ≠ [] ∧ ErrX w ps (L :: frs outer) H s x s₁))
    (fun v gs' s₁ => outsF ps td ≠ [] ∧ ∃ l H', v = .ref l ∧ s.heap.get? l = none ∧ l ∉ H' ∧ L ∈ H' ∧ HasP s₁.heap (l, IL (outsF ps td)) ∧ Chd H s s₁ ∧ H'.Nodup ∧ (∀ a ∈ H', (a ∈ H ∨ s.heap.get? a = none) ∧ V a = none ∧ ∃ o, s₁.heap.get? a = some o) ∧ Rd (restF ps td) H' s₁.heap gs')
noncomputable def Rdy2 (w : World) (O : OsState) (V : View) (ps : List (Int × Int)) (outer : List Env) (cy : Prop) (L : Addr) : Nat → List Int → List Addr → Heap → GenState → Prop
  | 0 => fun _ _ _ _ => False
  | n + 1 => fun td H h gs => ∀ A s, Rm A 30 → Cnd cy V outer H A s → Same H h s.heap → V.le (hv s.heap) → s.os = O →
      Go (model P0 w) A (Post2 w V ps outer cy L (Rdy2 w O V ps outer cy L n) td H s) gs (.send .none) s
section
variable {w : World} {A : Around} {E : Value → Shared → Prop} {s : Shared} {env : Env} {G : Array GenState} {O : OsState} {V : View} {L : Addr} {ns : List Str} {vs : List (Option Value)} {own : List Kp}
abbrev Hof (L : Addr) (own : List Kp) : List Addr := L :: own.map (·.1)
theorem Fm.hnd (F : Fm w G O V L ns vs own s) : (Hof L own).Nodup := by
  rw [List.nodup_cons]
  refine ⟨fun hm => ?_, F.nd⟩
  obtain ⟨p, hp, e⟩ := List.mem_map.mp hm
  exact F.oL p hp e
theorem Fm.hvn (F : Fm w G O V L ns vs own s) : ∀ a ∈ Hof L own, V a = none ∧ ∃ o, s.heap.get? a = some o := fun a ha => by
  rcases List.mem_cons.mp ha with rfl | ha
  · obtain ⟨o, _, _, ho, _⟩ := F.hns; exact ⟨F.vL, o, ho⟩
  · obtain ⟨p, hp, rfl⟩ := List.mem_map.mp ha
    obtain ⟨o, ho, _⟩ := F.hown p hp
    exact ⟨F.vo p hp, o, ho⟩
/-- a sleeper woken -/
theorem Fm.wake {s' : Shared} {V' : View} (F : Fm w G O V L ns vs own s) (hS : Same (Hof L own) s.heap s'.heap) (hV : V'.le (hv s'.heap)) (hV0 : ∀ a ∈ Hof L own, V' a = none) (C : CxV w V') (os : s'.os = O) :
    Fm w s'.gens O ((hv s'.heap).but (Hof L own)) L ns vs own s' := by
  refine ⟨C.mono fun a o e => View.but_at (hV a o e) (fun hm => by rw [hV0 a hm] at e; cases e), rfl, os, ?_, F.nn, View.but_le _ _, fun p hp => ?_, View.but_none (.head _), F.oL, fun p hp => View.but_none (.tail _ (List.mem_map.mpr ⟨p, hp, rfl⟩)), F.nd⟩
  · obtain ⟨o, h1, h2⟩ := hS L (.head _)
    exact F.hns.at' fun o' e => by rw [h1] at e; cases e; exact h2
  · obtain ⟨o, h1, h2⟩ := hS p.1 (.tail _ (List.mem_map.mpr ⟨p, hp, rfl⟩))
    exact (F.hown p hp).keeps fun o' e => by rw [h1] at e; cases e; exact h2
theorem Fm.chd {H : List Addr} {s₀ : Shared} (F : Fm w s₀.gens s₀.os ((hv s₀.heap).but H) L ns vs own s) : Chd H s₀ s :=
  ⟨fun b o hb e => F.view b o (View.but_at e hb), F.gens, F.os⟩
theorem but_or {H : List Addr} {h : Heap} {a : Addr} (e : (hv h).but H a = none) : a ∈ H ∨ h.get? a = none := by
  by_cases hm : a ∈ H
  · exact .inl hm
  · exact .inr (View.but_get e hm)
end
theorem while_ind {w : World} {test : PySem.Expr} {body orelse : List Stmt} {env : Env} {fs : List Frame} (P : Nat → Around → (End → Shared → Prop) → Shared → Prop) (zero : ∀ A Post s, ¬ P 0 A Post s)
    (step : ∀ n, (∀ A Post s, P n A Post s → St (model P0 w) A Post (.whileLoop test body orelse env) ((model P0 w).den (.whileLoop test body orelse env)) fs s) →
      ∀ A Post s, P (n + 1) A Post s → St (model P0 w) A Post (.whileLoop test body orelse env) ((model P0 w).den (.whileLoop test body orelse env)) fs s) :
    ∀ n A Post s, P n A Post s → St (model P0 w) A Post (.whileLoop test body orelse env) ((model P0 w).den (.whileLoop test body orelse env)) fs s
  | 0, A, Post, s, h => (zero A Post s h).elim
  | n + 1, A, Post, s, h => step n (while_ind P zero step n) A Post s h
/-- at the head of the loop -/
noncomputable def I2 (w : World) (ps : List (Int × Int)) (lp li c : Addr) (td : List Int) (vs : List (Option Value)) (own : List Kp) : Prop :=
  ∃ d u3 u4 tl ts u6 u7 kvs T S, vs = [some (.ref lp), some (.ref li), some (.ref d), u3, u4, some (.ref tl), u6, u7] ∧ own = (c, CellP (some (.ref ts))) :: (ts, SP w S) :: (tl, IL td) :: edg w d kvs T ∧ (d == sysModules) = false ∧
    (∀ x, x ∈ S ↔ x ∈ td) ∧ (kvs.map (·.1)).Nodup ∧ R10 (kvs.map (·.1)) ∧ (∀ k ∈ kvs.map (·.1), ∀ z, z ∈ T k ↔ (z, k) ∈ ps) ∧ (∀ q ∈ ps, q.2 ∈ kvs.map (·.1))
end Mine
end
section
open PySem PySem.W PySem.Calls PyProof.Rows
set_option maxRecDepth 100000
set_option maxHeartbeats 4000000
set_option autoImplicit false
set_option linter.unusedVariables false
set_option linter.unusedSectionVars false
namespace Mine
abbrev ns2 : List Str := ["tuples", "allitems", "edges", "parent", "child", "todo", "output", "node"]
theorem ff_cons {env : Env} {outer : List Env} {h : Heap} {L : Addr} {o : Obj} (enk : env.scope.kind ≠ .module) (enL : env.frame = some L) (ho : h.get? L = some o) (hn : ∀ vs, o.data ≠ .fields vs) (hr : FF h outer) : FF h (env :: outer) := ⟨enk, ⟨L, o, enL, rfl, ho, hn⟩, hr⟩
theorem frs_cons {env : Env} {outer : List Env} {L : Addr} (enL : env.frame = some L) : frs (env :: outer) = L :: frs outer := by simp only [frs, List.filterMap_cons, enL]
section
variable {w : World} {A : Around} {E : Value → Shared → Prop} {s : Shared} {G : Array GenState} {O : OsState} {V : View} {L : Addr} {ns : List Str} {vs : List (Option Value)} {own : List Kp}
/-- k_ddget, and what was there is there -/
theorem k_ddget2 {pre : List Kp} {d : Addr} {kvs : List (Int × Addr)} {T : Int → List Int} {k : Int} {t : Tok} {Q : Value → Shared → Prop} (F : Fm w G O V L ns vs (pre ++ edg w d kvs T) s) (hd : (d == sysModules) = false) (hsz : kvs.length ≤ 100)
    (h : ∀ (a : Addr) (j : Nat) (kvs' : List (Int × Addr)) (T' : Int → List Int) (s' : Shared), Fm w G O V L ns vs (pre ++ edg w d kvs' T') s' → kvs'[j]? = some (k, a) → kvs'.map (·.1) = uniqStep (kvs.map (·.1)) k → (∀ x ∈ kvs.map (·.1), T' x = T x) → (k ∉ kvs.map (·.1) → T' k = []) → (∀ q ∈ kvs, q ∈ kvs') → Q (.ref a) s') :
    wpAny (model P0 w) A (getItem (.ref d) (.int k t)) Q E s := by
  have hidx : (pre ++ edg w d kvs T)[pre.length]? = some (d, DDP kvs) := by rw [List.getElem?_append_right (Nat.le_refl _), Nat.sub_self]; rfl
  cases hl : look kvs k with
  | some a =>
    obtain ⟨j, hj⟩ := look_some hl
    have hm : k ∈ kvs.map (·.1) := List.mem_map.mpr ⟨_, List.mem_of_getElem? hj, rfl⟩
    refine k_ddhit (F.get (List.mem_of_getElem? hidx)) hl (h a j kvs T _ (F.tok _) hj ?_ (fun _ _ => rfl) (fun hn => absurd hm hn) fun _ h => h)
    unfold uniqStep; rw [if_pos hm]
  | none =>
    have hn := look_none hl
    refine k_ddmiss F hidx hd hl hsz fun r s' H => ?_
    rw [List.set_append_right _ _ (Nat.le_refl _), Nat.sub_self] at H
    have e1 : edgs w kvs T = edgs w kvs (updT T k []) := (edgs_congr fun x hx => by unfold updT; rw [if_neg]; rintro rfl; exact hn hx).symm
    have H2 : Fm w G O V L ns vs ((r, SP w []) :: (pre ++ (d, DDP (kvs ++ [(k, r)])) :: edgs w kvs (updT T k []))) s' := by rw [← e1]; exact H
    have e2 : pre ++ edg w d (kvs ++ [(k, r)]) (updT T k []) = (pre ++ (d, DDP (kvs ++ [(k, r)])) :: edgs w kvs (updT T k [])) ++ [(r, SP w [])] := by
      simp [edg, edgs, updT]
    refine h r kvs.length (kvs ++ [(k, r)]) (updT T k []) s' (e2 ▸ H2.perm (List.perm_append_singleton _ _)) (by simp) ?_ (fun x hx => ?_) (fun _ => by simp [updT]) fun q hq => List.mem_append_left _ hq
    · unfold uniqStep; rw [if_neg hn]; simp
    · unfold updT; rw [if_neg]; rintro rfl; exact hn hx
end
section
variable {w : World} {A : Around} {R : Result → Shared → Prop} {Y : Value → GenState → Shared → Prop} {c : Code} {fs : List Frame} {s : Shared} {env : Env} {K : Flow → Sem Fin} {H : Value → Sem Fin} {gd : Bool → Bool} {lv : List Value → List Value}
/-- a statement of a stretch, its surroundings hidden -/
theorem st_step {st : Stmt} {rest : List Stmt} (ov : Ov A (A.over c fs) env)
    (h : ∀ AA, Ov A AA env → wpAny (model P0 w) AA (exec st env) (fun f s' => St (model P0 w) A (PostOf R Y) c (match f with | .next => (execs rest env).wrap K H gd lv | f => K f) fs s') (fun x s' => St (model P0 w) A (PostOf R Y) c (H x) fs s') s) :
    St (model P0 w) A (PostOf R Y) c ((execs (st :: rest) env).wrap K H gd lv) fs s := st_execs_cons (st_wrap (wpAny_mono (h _ ov) (fun f s' h' => by cases f <;> exact h') fun _ _ x => x))
theorem st_whileO {test : PySem.Expr} {body orelse : List Stmt} (ov : Ov A (A.over (.whileLoop test body orelse env) fs) env)
    (h : ∀ AA, Ov A AA env → wpAny (model P0 w) AA (isTrue test env (eval test env)) (fun b s' =>
        (b = true → St (model P0 w) A (PostOf R Y) (.whileLoop test body orelse env) ((execs body env).wrap (fun f => match f with
            | .next | .cont => .pure (.again (.whileLoop test body orelse env))
            | .brk => .pure (.done .next)
            | .ret v => .pure (.done (.ret v))) (noted env) id id) fs s') ∧
        (b = false → St (model P0 w) A (PostOf R Y) (.whileLoop test body orelse env) ((execs orelse env).wrap (fun f => .pure (.done f)) (noted env) id id) fs s')) noE s) :
    St (model P0 w) A (PostOf R Y) (.whileLoop test body orelse env) ((model P0 w).den (.whileLoop test body orelse env)) fs s :=
  st_whileLoop (wpAny_mono (h _ ov) (fun b s' h' => by
    cases b with
    | true => rw [if_pos rfl]; exact h'.1 rfl
    | false => rw [if_neg Bool.false_ne_true]; exact h'.2 rfl) fun _ _ x => x.elim)
end
section
variable {w : World} {A : Around} {E : Value → Shared → Prop} {s : Shared}
theorem sas_call {V : View} {lp li : Addr} {ps : List (Int × Int)} {xs : List Int} {outer : List Env} {cy : Prop} {Q : Value → Shared → Prop} (C : Cx w s.heap) (R : Rm A 5) (hV : V.le (hv s.heap)) (CV : CxV w V) (hp : VPL V lp ps) (hi : VP V (li, IL xs))
    (hD : ∀ p ∈ ps, D10 p) (hpl : ps.length ≤ 18) (hx : R10 xs) (hnd : xs.Nodup) (hcy : ∀ td : List Int, td ≠ [] → outsF ps td = [] → cy)
    (h : ∀ a L H gs s', s'.gens = s.gens.push gs → gs.bare = true → s'.os = s.os → Keeps s.heap s'.heap → s'.heap.IsGen a s.gens.size → s.heap.get? a = none → a ∉ H → H.Nodup → (∀ x ∈ H, s.heap.get? x = none ∧ V x = none ∧ ∃ o, s'.heap.get? x = some o) → L ∈ H →
      Rdy2 w s.os V ps outer cy L (xs.length + 1) xs H s'.heap gs → Q (.ref a) s') :
    wpAny (model P0 w) A (call (.ref 285) [.ref lp, .ref li]) Q E s := by
  refine f_callGen (ns := ns2) (by rfl) C (by decide) R.room (by kernel_rfl) ((BindsTo.of_eq (by rfl) : BindsTo s _ _ [("tuples", .ref lp), ("allitems", .ref li)]) _ _ _ _ ?_)
  refine ⟨C, fun env s' he en H => ?_⟩
  obtain ⟨c, hc⟩ : ∃ c, c = s.heap.objs.size + 1 := ⟨_, rfl⟩
  replace H : Fm w s.gens s.os (hv s.heap) s.heap.objs.size ns2 [none, none, none, none, none, none, none, none] [(c, CellP none)] s' := by rw [hc]; exact H
  have hL : s.heap.get? s.heap.objs.size = none := fresh_none _
  have hcn : s.heap.get? c = none := by rw [hc]; exact Heap.get?_none_of_le (Nat.le_succ _)
  have enL : env.frame = some s.heap.objs.size := by rw [he]; rfl
  have enk : env.scope.kind ≠ .module := by rw [he]; exact (show ScopeKind.function ≠ .module by decide)
  generalize hLL : s.heap.objs.size = L at *
  subst he
  refine s_local H en rfl .head fun s1 H => s_local H en rfl (.tail .head) fun s2 H => ⟨H.ctx, fun a s₃ ha hg3 hos3 hk3 hgen3 => ?_⟩
  have H3 := (H.keeps hk3 (s' := { s₃ with gens := s.gens }) rfl (hos3.trans H.os))
  have vno : ∀ x, s.heap.get? x = none → V x = none := fun x hx => by
    cases e : V x with
    | none => rfl
    | some o => have := hV _ _ e; rw [hv, hx] at this; cases this
  refine h a L [L, c] _ s₃ (hg3.trans (by rw [H.gens])) rfl (hos3.trans H.os) (fun b o e => hk3 b o (H.view b o e)) (by rw [← H.gens]; exact hgen3) ?_ ?_ ?_ ?_ (.head _) ?_
  · rw [ha]
    cases e : s.heap.get? s2.heap.objs.size with
    | none => rfl
    | some o => exact absurd (Heap.lt_size (H.view _ _ e)) (Nat.lt_irrefl _)
  · rw [ha]
    intro hm
    obtain ⟨_, o, ho⟩ := H.hvn _ hm
    exact absurd (Heap.lt_size ho) (Nat.lt_irrefl _)
  · exact H.hnd
  · intro x hx
    obtain ⟨_, o, ho⟩ := H.hvn x hx
    refine ⟨?_, ?_, o, hk3 _ _ ho⟩
    · rcases List.mem_cons.mp hx with rfl | hx
      · exact hL
      · obtain rfl : x = c := by simpa using hx
        exact hcn
    · rcases List.mem_cons.mp hx with rfl | hx
      · exact vno _ hL
      · obtain rfl : x = c := by simpa using hx
        exact vno _ hcn
  -- its first waking
  intro A s4 R4 Cn hS hV4 hos4
  refine ⟨rfl, st_func ?_⟩
  have F4 := H3.wake (V' := V) (s' := s4) hS hV4 (fun a ha => vno a (by
    rcases List.mem_cons.mp ha with rfl | ha
    · exact hL
    · obtain rfl : a = c := by simpa using ha
      exact hcn)) CV hos4
  have VV : V.le ((hv s4.heap).but [L, c]) := fun a o e => View.but_at (hV4 _ _ e) (by
    intro hm
    rcases List.mem_cons.mp hm with rfl | hm
    · rw [vno _ hL] at e; cases e
    · obtain rfl : a = c := by simpa using hm
      rw [vno _ hcn] at e; cases e)
  clear H3 H
  replace H := F4
  clear F4
  have vp4 : VPL ((hv s4.heap).but [L, c]) lp ps := hp.le VV
  have vi4 : VP ((hv s4.heap).but [L, c]) (li, IL xs) := let ⟨o, a, b⟩ := hi; ⟨o, VV _ _ a, b⟩
  refine st_step ov_func fun AA oA => ?_
  have RA := oA.rm R4
  have hhA : AA.handled = none := RA.hd
  refine x_Assign (e_call (e_glob H en rfl (gv_defaultdict w) (c_with keep_type (i_cons (e_glob H en rfl (gv_set w) (i_nil ⟨H.ctx, k_dd fun d s5 hdq Rs => ?_⟩))))))
  have hdS : (d == sysModules) = false := hdq ▸ big_ne H.ctx.big
  replace H := H.res Rs
  refine a_Name (s_local H en rfl (.tail (.tail (.head))) fun s6 H => ?_)
  replace H : Fm w s4.gens s.os ((hv s4.heap).but [L, c]) L ns2 _ ((c, CellP none) :: edg w d [] fun _ => []) s6 := (H.weaken (own' := [(d, DDP []), (c, CellP none)]) rfl fun q hq => by
    rcases List.mem_cons.mp hq with rfl | hq
    · obtain ⟨o, ho, rfl⟩ := H.get (.head _)
      exact ⟨_, ho, #[], 0, rfl, trivial⟩
    · exact H.hown q (.tail _ hq)).perm (List.Perm.swap _ _ _)
  dsimp only
  -- the edges
  refine st_step ov_func fun AA oA => ?_
  have RA := oA.rm R4
  have hhA : AA.handled = none := RA.hd
  obtain ⟨ts, hvp, hlen, htup⟩ := id vp4
  obtain ⟨op, hop, npp, rfl⟩ := id hvp
  refine x_ForP H (fun i vs own => ∃ u3 u4 kvs T, vs = [some (.ref lp), some (.ref li), some (.ref d), u3, u4, none, none, none] ∧ own = (c, CellP none) :: edg w d kvs T ∧ (kvs.map (·.1)).Nodup ∧ kvs.length ≤ i ∧
      (∀ x, x ∈ kvs.map (·.1) ↔ ∃ p, (p, x) ∈ ps.take i) ∧ ∀ x ∈ kvs.map (·.1), ∀ z, z ∈ T x ↔ (z, x) ∈ ps.take i)
    (e_local H en rfl .head (i_list H ⟨_, H.look hop, rfl, npp, rfl⟩ fun I s7 H hlI => ?_))
  refine ⟨I, lp, (ts.map Value.ref).toArray, _, _, rfl, hhA, hlI, H, ⟨none, none, [], fun _ => [], rfl, rfl, List.nodup_nil, Nat.le_refl _, by simp, by simp⟩, fun i vs own s _ F => ⟨_, F.look hop, rfl, npp, rfl⟩, ?_, ?_⟩
  · rintro i v _ _ s8 hi7 hP ⟨u3, u4, kvs, T, rfl, rfl, hnd, hkl, hkeys, hT⟩ H
    have hi7' : i < ps.length := by simpa [hlen] using hi7
    obtain ⟨q, hq⟩ : ∃ q, ps[i]? = some q := ⟨_, List.getElem?_eq_getElem hi7'⟩
    obtain ⟨t, ht, rfl⟩ : ∃ t, ts[i]? = some t ∧ v = .ref t := by
      have hP' : (ts.map Value.ref)[i]? = some v := by simpa using hP
      rw [List.getElem?_map] at hP'
      cases e : ts[i]? with
      | none => rw [e] at hP'; cases hP'
      | some t => rw [e] at hP'; exact ⟨t, rfl, (Option.some.inj hP').symm⟩
    obtain ⟨ot, hot, t1, t2, rfl⟩ := H.vp (htup _ (tups_mem ht hq))
    obtain ⟨⟨a1, a2⟩, a3, a4⟩ := hD q (List.mem_of_getElem? hq)
    have htk : ps.take (i + 1) = ps.take i ++ [q] := by rw [List.take_add_one, hq]; rfl
    obtain ⟨y, x⟩ := q
    refine a_pair hhA H ⟨_, hot, rfl⟩ fun s8 H => a_Name (s_local H en rfl (.tail (.tail (.tail (.head)))) fun s9 H => a_Name (s_local H en rfl (.tail (.tail (.tail (.tail (.head))))) fun s10 H => ?_))
    have hdT : s10.TypeIs (.ref d) DDT := by
      obtain ⟨o, ho, es, ep, rfl, _⟩ := H.get (a := d) (p := DDP kvs) (.tail _ (.tail _ (.head _)))
      exact ⟨_, ho, rfl⟩
    refine x_cons (x_Expr (e_mcall (e_subDD (e_local H en rfl (.tail (.tail (.head))) (e_local H en rfl (.tail (.tail (.tail (.tail (.head))))) ⟨d, rfl, hdS, hdT, ?_⟩))) (by rfl)) (by rfl))
    refine k_ddget (pre := [(I, LIt lp (i + 1)), (c, CellP none)]) H hdS (by omega) fun a j kvs' T' s11 H hj hk' hT' hTn => ?_
    have hnd' : (kvs'.map (·.1)).Nodup := hk' ▸ uniqStep_nodup hnd
    have haS := H.get (a := a) (p := SP w (T' x)) (.tail _ (.tail _ (.tail _ (List.mem_of_getElem? (edgs_at hj)))))
    refine gm_set F.slot_set_add F.type_set_add haS (c_with keep_builtin (i_cons (e_local H en rfl (.tail (.tail (.tail (.head)))) (i_nil ⟨H.ctx, ?_⟩))))
    refine k_eadd (pre := [(I, LIt lp (i + 1)), (c, CellP none)]) H hj hnd' ⟨a1, a2⟩ fun T'' s12 H hT1 hT2 => ⟨rfl, x_nil ⟨_, _, H, _, _, kvs', T'', rfl, rfl, hnd', ?_, ?_, ?_⟩⟩
    · have e1 : kvs'.length = (kvs'.map (·.1)).length := by simp
      rw [e1, hk']; unfold uniqStep; split
      · simp; omega
      · simp; omega
    · intro z
      rw [hk', uniqStep_mem, hkeys, htk]
      constructor
      · rintro (⟨p, hp⟩ | rfl)
        · exact ⟨p, List.mem_append_left _ hp⟩
        · exact ⟨y, by simp⟩
      · rintro ⟨p, hp⟩
        rcases List.mem_append.mp hp with hp | hp
        · exact .inl ⟨p, hp⟩
        · rw [List.mem_singleton] at hp; exact .inr (congrArg Prod.snd hp)
    · intro z hz p
      rw [hk', uniqStep_mem] at hz
      rw [htk, List.mem_append, List.mem_singleton]
      by_cases e : z = x
      · subst e
        rw [hT2]
        by_cases hm : z ∈ kvs.map (·.1)
        · rw [hT' z hm, hT z hm]; simp
        · rw [hTn hm]
          have : (p, z) ∉ ps.take i := fun q => hm ((hkeys z).mpr ⟨p, q⟩)
          simp [this]
      · have hm : z ∈ kvs.map (·.1) := hz.elim id fun q => absurd q e
        rw [hT1 z e, hT' z hm, hT z hm]
        simp [e]
  rintro _ _ s8 ⟨u3, u4, kvs, T, rfl, rfl, hkn, hkl, hkeys, hT⟩ H
  have etk : ps.take (ts.map Value.ref).toArray.size = ps := List.take_of_length_le (by simp [hlen])
  rw [etk] at hkeys hT
  have hkl' : kvs.length ≤ 18 := by simp [hlen] at hkl; omega
  have hK10 : R10 (kvs.map (·.1)) := fun x hx => by obtain ⟨p, hp⟩ := (hkeys x).mp hx; exact (hD _ hp).2
  refine x_nil ?_
  dsimp only
  -- todo, todo_set
  refine st_step ov_func fun AA oA => ?_
  have RA := oA.rm R4
  have hhA : AA.handled = none := RA.hd
  obtain ⟨ol, hol, vl, ⟨nl, rfl⟩, hvl⟩ := id vi4
  have hlenv := IntsAre.length hvl
  have hx10 := len10 hnd hx
  refine x_Assign (e_call (e_glob H en rfl (gv_list w) (c_with keep_type (i_cons (e_local H en rfl (.tail (.head)) (i_nil ⟨H.ctx, ?_⟩))))))
  refine k_list_list (items := vl.toArray) ⟨_, H.look hol, rfl, nl, rfl⟩ (by simp; omega) fun tl h9 hn9 hk9 hp9 => ?_
  replace H := H.alloc (s' := { s8 with heap := h9 }) (p := IL xs) hk9 H.gens H.os hn9 (by obtain ⟨o, ho, e⟩ := hp9; exact ⟨o, ho, vl, e, hvl⟩)
  refine a_Name (s_local H en rfl (.tail (.tail (.tail (.tail (.tail (.head)))))) fun s10 H => ?_)
  dsimp only
  refine st_step ov_func fun AA oA => ?_
  have RA := oA.rm R4
  have hhA : AA.handled = none := RA.hd
  refine x_Assign (e_call (e_glob H en rfl (gv_set w) (c_with keep_type (i_cons (e_local H en rfl (.tail (.head)) (i_nil ⟨H.ctx, ?_⟩))))))
  refine k_set_list H.ctx hhA (IL.li (H.vp vi4)) hx fun S hS => H.newS fun tss s11 H => ?_
  refine a_Name (s_cell (i := 2) H en rfl (by rw [hc]; rfl) rfl fun s12 H => ?_)
  replace H := H.perm (own' := (c, CellP (some (.ref tss))) :: (tss, SP w S) :: (tl, IL xs) :: edg w d kvs T) (by
    show List.Perm ((c, CellP (some (.ref tss))) :: (tss, SP w S) :: (tl, IL xs) :: edg w d kvs T) ((tss, SP w S) :: (tl, IL xs) :: (c, CellP (some (.ref tss))) :: edg w d kvs T)
    exact ((List.Perm.swap _ _ _).trans (.cons _ (List.Perm.swap _ _ _))))
  dsimp only
  -- the loop
  refine st_execs_cons (st_While fun p => ?_)
  refine while_ind (fun n A Post s => match n with
    | 0 => False
    | n + 1 => ∃ td vs own s0 H0, td.length ≤ n ∧ td.Nodup ∧ R10 td ∧ Fm w s0.gens s0.os ((hv s0.heap).but H0) L ns2 vs own s ∧ I2 w ps lp li c td vs own ∧ Rm A 30 ∧ Cnd cy V outer H0 A s0 ∧ V.le ((hv s0.heap).but H0) ∧ (∀ a ∈ H0, a ∈ Hof L own) ∧ s0.os = s4.os ∧
        Post = Post2 w V ps outer cy L (Rdy2 w s4.os V ps outer cy L n) td H0 s0) (fun _ _ _ h => h) ?_ (xs.length + 1) A _ _ ⟨xs, _, _, s4, [L, c], Nat.le_refl _, hnd, hx, hos4 ▸ H, ?_, R4, Cn, VV, by simp, rfl, by rw [hos4]; rfl⟩
  · intro n IH A Post s13 hP
    obtain ⟨td, vs, own, s0, H0, hlen13, hndt, htd10, H, hI, R13, Cn, VV, hsub0, hos0, rfl⟩ := hP
    obtain ⟨d, u3, u4, tl, tss, u6, u7, kvs0, T0, S, rfl, rfl, hdS, hS, hkn, hK10, hT, hkp⟩ := hI
    refine st_whileO ov_while fun AA oA => ?_
    have RA := oA.rm R13
    have hhA : AA.handled = none := RA.hd
    refine t_value (e_cell H en rfl (by rw [hc]; rfl) (.head _) (tr_set H (H.get (.tail _ (.head _))) fun s14 H => ⟨fun hb => ?_, fun hb => ?_⟩))
    rotate_left
    · have hte : td = [] := by
        cases td with
        | nil => rfl
        | cons x r =>
          have : x ∈ S := (hS x).mpr (.head _)
          cases S with
          | nil => cases this
          | cons _ _ => simp at hb
      refine st_execs_nil ?_
      refine st_leaf (.ok .next) ?_
      exact st_end (.ok (.ret .none)) (.inl ⟨hte, rfl, H.chd⟩)
    have hte : td ≠ [] := fun e => by
      subst e
      cases S with
      | nil => simp at hb
      | cons x r => exact absurd ((hS x).mp (.head _)) (by simp)
    have htl10 := len10 hndt htd10
    have vp13 := hp.le VV
    -- output = []
    refine st_step ov_while fun AA oA => ?_
    have RA := oA.rm R13
    have hhA : AA.handled = none := RA.hd
    refine x_Assign (e_list (i_nil (n_list H fun ol s15 H => a_Name (s_local H en rfl (.tail (.tail (.tail (.tail (.tail (.tail (.head))))))) fun s16 H => ?_))))
    have holH : ol ∉ H0 := fun hm => by
      have nd := H.hnd
      have h1 := hsub0 ol hm
      rw [List.nodup_cons] at nd
      obtain ⟨n1, n2⟩ := nd
      rw [List.map_cons, List.nodup_cons] at n2
      rcases List.mem_cons.mp h1 with e | h1
      · exact n1 (e ▸ .head _)
      · exact n2.1 h1
    obtain ⟨otl, hotl, vtl, ⟨ntl, rfl⟩, hvtl⟩ := H.get (a := tl) (p := IL td) (.tail _ (.tail _ (.tail _ (.head _))))
    have hlt := IntsAre.length hvtl
    replace H := H.weaken (own' := (ol, IL []) :: (c, CellP (some (.ref tss))) :: (tss, SP w S) :: (tl, LP vtl.toArray) :: edg w d kvs0 T0) rfl fun q hq => by
      rcases List.mem_cons.mp hq with rfl | hq
      · obtain ⟨o, ho, e⟩ := H.get (.head _); exact ⟨o, ho, [], e, .nil⟩
      rcases List.mem_cons.mp hq with rfl | hq
      · exact H.get (.tail _ (.head _))
      rcases List.mem_cons.mp hq with rfl | hq
      · exact H.get (.tail _ (.tail _ (.head _)))
      rcases List.mem_cons.mp hq with rfl | hq
      · exact ⟨_, hotl, ntl, rfl⟩
      · exact H.hown q (.tail _ (.tail _ (.tail _ (.tail _ hq))))
    dsimp only
    -- for node in todo
    refine st_step ov_while fun AA oA => ?_
    have RA := oA.rm R13
    have hhA : AA.handled = none := RA.hd
    refine x_For H (fun i vs own => ∃ u7 kvs T, vs = [some (.ref lp), some (.ref li), some (.ref d), u3, u4, some (.ref tl), some (.ref ol), u7] ∧
        own = (ol, IL ((td.take i).filter fun n => td.all fun p => !decide ((p, n) ∈ ps))) :: (c, CellP (some (.ref tss))) :: (tss, SP w S) :: (tl, LP vtl.toArray) :: edg w d kvs T ∧ (kvs.map (·.1)).Nodup ∧ R10 (kvs.map (·.1)) ∧ (∀ k ∈ kvs.map (·.1), ∀ z, z ∈ T k ↔ (z, k) ∈ ps) ∧ (∀ q ∈ ps, q.2 ∈ kvs.map (·.1)) ∧ ∀ q ∈ kvs0, q ∈ kvs)
      (e_local H en rfl (.tail (.tail (.tail (.tail (.tail (.head)))))) (i_list H (items := vtl.toArray) (LP.isList (H.get (.tail _ (.tail _ (.tail _ (.head _)))))) fun I s17 H hlI => ?_))
    refine ⟨I, vtl.toArray.size, 0, _, LIt tl, _, _, _, rfl, Iter.list hhA I tl hlI vtl.toArray, Nat.zero_le _, H, ⟨u7, kvs0, T0, rfl, rfl, hkn, hK10, hT, hkp, fun _ h => h⟩, ?_, ?_, ?_⟩
    · rintro i _ _ s18 ⟨u7, kvs, T, rfl, rfl, _⟩ F
      exact LP.isList (F.get (.tail _ (.tail _ (.tail _ (.tail _ (.head _))))))
    · rintro i v _ _ s18 hi hP ⟨u7, kvs, T, rfl, rfl, hkn, hK10, hT, hkp, hk0⟩ H
      obtain ⟨t18, node, hnode, rfl⟩ := intsAt hvtl i v hP
      have hnT : node ∈ td := List.mem_of_getElem? hnode
      have hn10 := htd10 node hnT
      have hkl := len10 hkn hK10
      rw [List.length_map] at hkl
      refine a_Name (s_local H en rfl (.tail (.tail (.tail (.tail (.tail (.tail (.tail (.head)))))))) fun s19 H => ?_)
      have hdT : s19.TypeIs (.ref d) DDT := by
        obtain ⟨o, ho, es, ep, rfl, _⟩ := H.get (a := d) (p := DDP kvs) (.tail _ (.tail _ (.tail _ (.tail _ (.tail _ (.head _))))))
        exact ⟨_, ho, rfl⟩
      refine x_cons (x_If (t_value (e_mcall (e_cell H en rfl (by rw [hc]; rfl) (.tail _ (.tail _ (.head _))) (gm_set F.slot_set_isdisjoint F.type_set_isdisjoint (H.get (a := tss) (p := SP w S) (.tail _ (.tail _ (.tail _ (.head _))))) (c_with keep_builtin (i_cons (e_subDD (e_local H en rfl (.tail (.tail (.head))) (e_local H en rfl (.tail (.tail (.tail (.tail (.tail (.tail (.tail (.head)))))))) ⟨d, rfl, hdS, hdT, ?_⟩))))))) (by rfl))))
      refine k_ddget2 (pre := [(I, LIt tl (i + 1)), (ol, IL ((td.take i).filter fun n => td.all fun p => !decide ((p, n) ∈ ps))), (c, CellP (some (.ref tss))), (tss, SP w S), (tl, LP vtl.toArray)]) H hdS (by omega) fun a j kvs' T' s20 H hj hk' hT' hTn hkk => i_nil ⟨H.ctx, ?_⟩
      have hkn' : (kvs'.map (·.1)).Nodup := hk' ▸ uniqStep_nodup hkn
      have hK10' : R10 (kvs'.map (·.1)) := fun x hx => by
        rw [hk', uniqStep_mem] at hx
        exact hx.elim (hK10 x) fun e => e ▸ hn10
      have hkp' : ∀ q ∈ ps, q.2 ∈ kvs'.map (·.1) := fun q hq => by rw [hk', uniqStep_mem]; exact .inl (hkp q hq)
      have hTT : ∀ k ∈ kvs'.map (·.1), ∀ z, z ∈ T' k ↔ (z, k) ∈ ps := fun k hk z => by
        by_cases hm : k ∈ kvs.map (·.1)
        · rw [hT' k hm]; exact hT k hm z
        · rw [hk', uniqStep_mem] at hk
          obtain rfl : k = node := hk.elim (fun q => absurd q hm) id
          rw [hTn hm]
          simp only [List.not_mem_nil, false_iff]
          exact fun q => hm (hkp _ q)
      have hnk : node ∈ kvs'.map (·.1) := by rw [hk', uniqStep_mem]; exact .inr rfl
      obtain ⟨_, hoS, dS, rfl, hIS⟩ := H.get (a := tss) (p := SP w S) (.tail _ (.tail _ (.tail _ (.head _))))
      have hma : (a, SP w (T' node)) ∈ [(I, LIt tl (i + 1)), (ol, IL ((td.take i).filter fun n => td.all fun p => !decide ((p, n) ∈ ps))), (c, CellP (some (.ref tss))), (tss, SP w S), (tl, LP vtl.toArray)] ++ edg w d kvs' T' :=
        List.mem_append_right _ (.tail _ (List.mem_of_getElem? (edgs_at hj)))
      obtain ⟨_, hoa, da, rfl, hIa⟩ := H.get hma
      have hta : tss ≠ a := by
        have := H.one (i := 3) (j := 6 + j) (p := (tss, SP w S)) (q := (a, SP w (T' node))) rfl (by
          rw [List.getElem?_append_right (by simp; omega)]
          show (edg w d kvs' T')[6 + j - 5]? = _
          rw [show 6 + j - 5 = j + 1 by omega]
          exact edgs_at hj) (by omega)
        exact this
      refine k_isdisjoint (o := setO dS) (ob := setO da) H.ctx hoS (.inl rfl) hIS hoa hIa hta (tr_bool ?_)
      have hall : decide (∀ x ∈ S, x ∉ T' node) = td.all fun p => !decide ((p, node) ∈ ps) := by
        rw [Bool.eq_iff_iff, decide_eq_true_eq, List.all_eq_true]
        constructor
        · intro h x hx
          have := h x ((hS x).mpr hx)
          rw [hTT node hnk] at this
          simpa using this
        · intro h x hx
          rw [hTT node hnk]
          simpa using h x ((hS x).mp hx)
      have htk : td.take (i + 1) = td.take i ++ [node] := by rw [List.take_add_one, hnode]; rfl
      refine ⟨fun hb => ?_, fun hb => ?_⟩
      · rw [hall] at hb
        obtain ⟨o1, ho1, v1, ⟨n1, rfl⟩, hv1⟩ := H.get (a := ol) (.tail _ (.head _))
        refine x_cons (x_Expr (e_mcall (e_local H en rfl (.tail (.tail (.tail (.tail (.tail (.tail (.head))))))) (gm_list F.slot_list_append F.type_list_append ⟨_, ho1, n1, rfl⟩ (c_with keep_builtin (i_cons (e_local H en rfl (.tail (.tail (.tail (.tail (.tail (.tail (.tail (.head)))))))) (i_nil ⟨H.ctx, k_appendI H (i := 1) rfl (Nat.le_trans (List.length_filter_le ..) (by rw [List.length_take]; omega)) fun s21 H => ⟨rfl, ?_⟩⟩)))))) (by rfl)) (by rfl))
        refine x_nil (x_nil ⟨_, _, H, _, kvs', T', rfl, ?_, hkn', hK10', hTT, hkp', fun q hq => hkk q (hk0 q hq)⟩)
        rw [htk, List.filter_append]
        simp [hb]
      · rw [hall] at hb
        refine x_nil (x_nil ⟨_, _, H, _, kvs', T', rfl, ?_, hkn', hK10', hTT, hkp', fun q hq => hkk q (hk0 q hq)⟩)
        rw [htk, List.filter_append]
        simp [hb]
    rintro _ _ s18 ⟨u7, kvs, T, rfl, rfl, hkn, hK10, hT, hkp, hk0⟩ H
    have etk : td.take vtl.toArray.size = td := List.take_of_length_le (by simp; omega)
    rw [etk] at H
    replace H : Fm w s0.gens s0.os _ L ns2 _ ((ol, IL (outsF ps td)) :: (c, CellP (some (.ref tss))) :: (tss, SP w S) :: (tl, LP vtl.toArray) :: edg w d kvs T) s18 := H
    have hol10 : (outsF ps td).length ≤ 10 := Nat.le_trans (List.length_filter_le ..) htl10
    refine x_nil ?_
    dsimp only
    -- if not output
    refine st_step ov_while fun AA oA => ?_
    have RA := oA.rm R13
    have hhA : AA.handled = none := RA.hd
    refine x_If (t_not (t_value (e_local H en rfl (.tail (.tail (.tail (.tail (.tail (.tail (.head))))))) (k_truthyL H (H.get (.head _)) (by omega) fun s19 H => ⟨fun hb => ?_, fun hb => ?_⟩))))
    · have hout : outsF ps td = [] := by
        cases q : outsF ps td with
        | nil => rfl
        | cons _ _ => rw [q] at hb; simp at hb
      have hc' := hcy td hte hout
      have hKv : ∀ k a, (k, a) ∈ kvs → HasP s19.heap (a, SP w (T k)) := fun k a hm => by
        obtain ⟨j, hj⟩ := List.getElem?_of_mem hm
        exact H.hown (a, SP w (T k)) (.tail _ (.tail _ (.tail _ (.tail _ (.tail _ (List.mem_of_getElem? (edgs_at hj)))))))
      generalize hbs : ((ol, IL (outsF ps td)) :: (c, CellP (some (.ref tss))) :: (tss, SP w S) :: (tl, LP vtl.toArray) :: edg w d kvs T) = base at H
      have baseH : ∀ (p : Kp) (rest : List Kp) (s : Shared), Fm w s0.gens s0.os ((hv s0.heap).but H0) L ns2 [some (.ref lp), some (.ref li), some (.ref d), u3, u4, some (.ref tl), some (.ref ol), u7] (p :: rest) s → True := fun _ _ _ _ => trivial
      refine x_cons (x_RaiseX hhA (e_call (e_glob H en rfl (gv_CDE w) (c_with (keep_any (by kernel_rfl)) (i_cons (e_str H fun t20 s20 H => ?_))))))
      refine i_cons (e_call (e_glob H en rfl (gv_find w) (c_with (keep_fn (f := 300) rfl rfl) (i_cons (e_local H en rfl .head (i_cons (e_local H en rfl (.tail (.head)) (i_nil ⟨H.ctx, ?_⟩))))))))
      refine find_spec H.ctx (RA.mono (by decide)) (vp13.le H.view) (fun q hq => hD q hq) (by omega) fun r SS s21 hSS Rs => ?_
      replace H := H.res Rs
      refine i_cons (e_call (e_glob H en rfl (gv_gen w) (c_with (keep_fn (f := 305) rfl rfl) (i_cons (e_local H en rfl (.tail (.tail (.head))) (i_nil ⟨H.ctx, ?_⟩))))))
      refine gen_spec (kvs := kvs) (T := T) (ps := ps) H.ctx (RA.mono (by decide)) hdS (H.hown (d, DDP kvs) (.tail _ (by rw [← hbs]; exact .tail _ (.tail _ (.tail _ (.tail _ (.head _))))))) (fun k a hm => H.hown (a, SP w (T k)) (.tail _ (by
        obtain ⟨j, hj⟩ := List.getElem?_of_mem hm
        have := List.mem_of_getElem? (edgs_at (w := w) (T := T) hj)
        rw [← hbs]
        exact .tail _ (.tail _ (.tail _ (.tail _ (.tail _ this))))))) (fun k hk x hx => (hT k hk x).mp hx) hD hpl fun eds q s22 hq Rs => ?_
      replace H := H.res Rs
      refine i_nil ⟨H.ctx, ex_make H.ctx (RA.mono (by decide)) fun e dx te s23 Rs => ?_⟩
      replace H := H.res Rs
      have HP := H.perm (own' := ((e, fun o => o = exO (some dx) te) :: newsX w dx r eds SS q) ++ base) (by
        show List.Perm ((e, fun o => o = exO (some dx) te) :: (dx, DX2 (.ref r) (.ref eds)) :: (r, SP w SS) :: (eds, PP w q) :: (qtups q ++ base)) ((e, fun o => o = exO (some dx) te) :: (dx, DX2 (.ref r) (.ref eds)) :: (eds, PP w q) :: (qtups q ++ (r, SP w SS) :: base))
        exact .cons _ (.cons _ ((List.Perm.swap _ _ _).trans (.cons _ List.perm_middle.symm))))
      obtain ⟨_, heo, rfl⟩ := HP.get (a := e) (.head _)
      refine ⟨e, _, _, rfl, HP.ctx, heo, rfl, rfl, rfl, ?_⟩
      have hndA : (e :: (newsX w dx r eds SS q).map (·.1)).Nodup ∧ ∀ x ∈ e :: (newsX w dx r eds SS q).map (·.1), x ∉ base.map (·.1) ∧ x ≠ L := by
        have nd := HP.nd
        rw [List.map_append, List.nodup_append] at nd
        refine ⟨nd.1, fun x hx => ⟨fun hb => nd.2.2 x hx x hb rfl, ?_⟩⟩
        obtain ⟨p, hp, rfl⟩ := List.mem_map.mp (show x ∈ ((e, fun o => o = exO (some dx) te) :: newsX w dx r eds SS q).map (·.1) from hx)
        exact HP.oL p (List.mem_append_left _ hp)
      have hH0 : ∀ x ∈ H0, x = L ∨ x ∈ base.map (·.1) := fun x hx => by
        rcases List.mem_cons.mp (hsub0 x hx) with h1 | h1
        · exact .inl h1
        · right
          rw [← hbs]
          rcases List.mem_cons.mp h1 with h1 | h1
          · exact .tail _ (h1 ▸ .head _)
          rcases List.mem_cons.mp h1 with h1 | h1
          · exact .tail _ (.tail _ (h1 ▸ .head _))
          rcases List.mem_cons.mp h1 with h1 | h1
          · exact .tail _ (.tail _ (.tail _ (h1 ▸ .head _)))
          rcases List.mem_cons.mp h1 with h1 | h1
          · exact .tail _ (.tail _ (.tail _ (.tail _ (h1 ▸ .head _))))
          obtain ⟨p, hp, rfl⟩ := List.mem_map.mp h1
          obtain ⟨q, hq, rfl⟩ := List.mem_map.mp hp
          exact .tail _ (.tail _ (.tail _ (.tail _ (.tail _ (List.mem_map.mpr ⟨_, List.mem_map.mpr ⟨q, hk0 q hq, rfl⟩, rfl⟩)))))
      have hfresh : ∀ x ∈ e :: (newsX w dx r eds SS q).map (·.1), s0.heap.get? x = none := fun x hx => by
        obtain ⟨p, hp, rfl⟩ := List.mem_map.mp (show x ∈ ((e, fun o => o = exO (some dx) te) :: newsX w dx r eds SS q).map (·.1) from hx)
        rcases but_or (HP.vo p (List.mem_append_left _ hp)) with q | q
        · rcases hH0 _ q with q | q
          · exact absurd q (hndA.2 _ hx).2
          · exact absurd q (hndA.2 _ hx).1
        · exact q
      -- it flies
      have hfr := Cn.fr hc'
      have hff := Cn.ff hc'
      have hvn := Cn.vn hc'
      have hexo : ∀ b ∈ frs outer, ∃ o, s23.heap.get? b = some o ∧ ∀ vs, o.data ≠ .fields vs := fun b hb => by
        obtain ⟨o, ho, hn⟩ := FF.mem hff hb
        exact ⟨o, HP.chd.keep b o (hvn b hb).2 ho, hn⟩
      have heL : e ≠ L := (hndA.2 e (.head _)).2
      have hne : e ∉ L :: frs outer := fun hm => by
        rcases List.mem_cons.mp hm with h1 | h1
        · exact heL h1
        · obtain ⟨o, ho, _⟩ := FF.mem hff h1
          rw [hfresh e (.head _)] at ho; cases ho
      obtain ⟨oL, esL, epL, hoL, hdL, _⟩ := id HP.hns
      have Fl0 : Fl (L :: frs outer) e (exO (some dx) te) s23.heap none s23.heap := ⟨fun b hb => by
        rcases List.mem_cons.mp hb with rfl | hb
        · exact ⟨oL, hoL, fun vs q => by rw [hdL] at q; cases q⟩
        · exact hexo b hb, hne, ⟨fun _ _ _ _ h => h, fun b o _ ho => ⟨o.slots, ho⟩⟩, _, heo, by simp, by rfl, rfl⟩
      have hffA := ff_cons (outer := outer) (h := s23.heap) enk enL hoL (fun vs q => by rw [hdL] at q; cases q) (FF.tr hff fun b hb o ho => ⟨o.slots, HP.chd.keep b o (hvn b hb).2 ho⟩)
      have frE := frs_cons (outer := outer) enL
      refine st_wrap (wpAny_bind (note_first (outer := outer) (by rw [ov_while.fr, hfr]; rfl) hffA (fun b hb => frE ▸ hb) enL Fl0 fun h1 F1 => wpAny_theTreesLotGoes ?_))
      refine st_leaf (.error (.ref e)) ?_
      refine st_wrap (own_again enL F1 fun h2 F2 => ?_)
      refine st_wrap (leave_again enL F2 fun h3 F3 => ?_)
      refine st_end (.error (.ref e)) (.inr ⟨hc', hout, hte, e, dx, te, r, SS, eds, q, s23.heap, rfl, F3, HP.chd.keep, fun p hp => HP.hown p (List.mem_append_left _ (.tail _ hp)), hfresh, hndA.1, hSS, ?_, HP.gens, HP.os⟩)
      intro p
      rw [hq]
      constructor
      · rintro ⟨a1, a2⟩
        exact (hT p.2 a1 p.1).mp a2
      · intro hp
        exact ⟨hkp p hp, (hT p.2 (hkp p hp) p.1).mpr hp⟩
    have hout : outsF ps td ≠ [] := fun e => by rw [e] at hb; simp at hb
    refine x_nil ?_
    dsimp only
    -- todo_set.difference_update(output)
    refine st_step ov_while fun AA oA => ?_
    have RA := oA.rm R13
    have hhA : AA.handled = none := RA.hd
    obtain ⟨_, hoS, dS, rfl, hIS⟩ := H.get (a := tss) (p := SP w S) (.tail _ (.tail _ (.head _)))
    refine x_Expr (e_mcall (e_cell H en rfl (by rw [hc]; rfl) (.tail _ (.head _)) (gm_set F.slot_set_difference_update F.type_set_difference_update ⟨_, hoS, dS, rfl, hIS⟩ (c_with keep_builtin (i_cons (e_local H en rfl (.tail (.tail (.tail (.tail (.tail (.tail (.head))))))) (i_nil ⟨H.ctx, ?_⟩)))))) (by rfl)) (by rfl)
    refine k_diffupd_list H.ctx hhA (IL.li (H.get (.head _))) (H.one (i := 2) (j := 0) rfl rfl (by decide)) hoS (.inl rfl) hIS fun S2 s20 hS2 hch => ⟨rfl, ?_⟩
    replace H := H.chg (i := 2) rfl ⟨_, rfl⟩ hch
    dsimp only
    have hS2' : ∀ x, x ∈ S2 ↔ x ∈ restF ps td := fun x => by rw [hS2, hS, restF_mem]
    -- todo = [t for t in todo if t in todo_set]
    refine st_step ov_while fun AA oA => ?_
    have RA := oA.rm R13
    have hhA : AA.handled = none := RA.hd
    refine x_AssignComp (cl := [("todo_set", c)]) H (fun i acc ext => ext = [] ∧ IntsAre acc ((td.take i).filter fun y => decide (y ∈ S2))) en
      (e_local H en rfl (.tail (.tail (.tail (.tail (.tail (.head)))))) (i_list H (items := vtl.toArray) (LP.isList (H.get (.tail _ (.tail _ (.tail _ (.head _)))))) fun I s21 H hlI => ?_)) rfl (by rw [hc]; rfl) (by rfl)
    refine ⟨I, vtl.toArray.size, _, LIt tl, _, _, [], _, rfl, Iter.list hhA I tl hlI vtl.toArray, by simp; omega, H, ⟨rfl, .nil⟩, ?_, ?_, ?_⟩
    · intro i acc ext' s22 _ hk
      obtain ⟨o, ho, hr⟩ := LP.isList (H.get (a := tl) (.tail _ (.tail _ (.tail _ (.tail _ (.head _))))))
      exact ⟨o, hk tl _ (by simpa using hlI) ho, hr⟩
    · intro C0 D i v acc ext u s22 hi hP hinv hu H8
      obtain ⟨rfl, hacc⟩ := hinv
      obtain ⟨t, y, hy, rfl⟩ := intsAt hvtl i v hP
      obtain ⟨u0, u1, rfl⟩ : ∃ u0 u1, u = [u0, u1] := by
        match u, hu with
        | [u0, u1], _ => exact ⟨u0, u1, rfl⟩
      have en8 := en.comp { kind := .function, names := [(".0", .local), ("t", .local), ("todo_set", .free)], isGenerator := false, isCoroutine := false } [("todo_set", c)] C0 rfl rfl
      refine a_Name (s_local H8 en8 rfl (.tail (.head)) fun s23 H9 => ?_)
      have hcI : c ∉ I :: ([] : List Kp).map (·.1) := by simpa using H.one (i := 2) (j := 0) rfl rfl (by decide)
      have hrI : tss ∉ I :: ([] : List Kp).map (·.1) := by simpa using H.one (i := 3) (j := 0) rfl rfl (by decide)
      refine wpAny_tests_one (t_cmp (e_local H9 en8 rfl (.tail (.head)) (e_cellH en8 rfl rfl (HasP.but H9.view (H.get (.tail _ (.tail _ (.head _)))) hcI) (k_inSet (HasP.but H9.view (H.get (a := tss) (p := SP w S2) (.tail _ (.tail _ (.tail _ (.head _))))) hrI) fun tk => tr_bool ?_))))
      replace H9 := H9.tok tk
      by_cases hm : y ∈ S2
      · rw [if_pos (decide_eq_true hm)]
        refine e_local H9 en8 rfl (.tail (.head)) ⟨_, _, rfl, H9, rfl, ?_⟩
        rw [take_filter _ hy, if_pos (decide_eq_true hm)]
        exact IntsAre.snoc hacc y t
      · rw [if_neg (by simpa using hm)]
        refine ⟨_, _, rfl, H9, rfl, ?_⟩
        rw [take_filter _ hy, if_neg (by simpa using hm), List.append_nil]
        exact hacc
    refine ⟨fun v => [some (.ref lp), some (.ref li), some (.ref d), u3, u4, some v, some (.ref ol), u7], fun v => (.tail (.tail (.tail (.tail (.tail (.head)))))), ?_⟩
    rintro D acc ext' s22 ⟨rfl, hacc⟩ H
    rw [etk] at hacc
    have hfl : (td.filter fun y => decide (y ∈ S2)) = restF ps td := by
      unfold restF
      apply List.filter_congr
      intro y hy
      have := hS2' y
      rw [restF_mem] at this
      by_cases h2 : y ∈ S2 <;> by_cases h3 : y ∈ outsF ps td <;> simp_all
    rw [hfl] at hacc
    replace H := H.weaken (own' := (D, IL (restF ps td)) :: (ol, IL (outsF ps td)) :: (c, CellP (some (.ref tss))) :: (tss, SP w S2) :: (tl, LP vtl.toArray) :: edg w d kvs T) rfl fun q hq => by
      rcases List.mem_cons.mp hq with rfl | hq
      · obtain ⟨o, ho, hp⟩ := H.get (.head _); exact ⟨o, ho, acc, hp, hacc⟩
      · exact H.hown q (.tail _ hq)
    dsimp only
    -- yield output
    refine st_execs_cons (st_Expr_Yield rfl rfl rfl ?_)
    refine e_local H en rfl (.tail (.tail (.tail (.tail (.tail (.tail (.head))))))) fun gs hgs => ⟨hout, ol, Hof L ((c, CellP (some (.ref tss))) :: (tss, SP w S2) :: (D, IL (restF ps td)) :: edg w d kvs T), rfl, ?_⟩
    have hol0 : s0.heap.get? ol = none := (but_or (H.vo (ol, IL (outsF ps td)) (.tail _ (.head _)))).elim (fun q => absurd q holH) id
    have hYol := H.get (a := ol) (p := IL (outsF ps td)) (.tail _ (.head _))
    have HP := H.perm (own' := (ol, IL (outsF ps td)) :: (tl, LP vtl.toArray) :: (c, CellP (some (.ref tss))) :: (tss, SP w S2) :: (D, IL (restF ps td)) :: edg w d kvs T) ?_
    rotate_left
    · show List.Perm ((ol, IL (outsF ps td)) :: (tl, LP vtl.toArray) :: (c, CellP (some (.ref tss))) :: (tss, SP w S2) :: (D, IL (restF ps td)) :: edg w d kvs T) ((D, IL (restF ps td)) :: (ol, IL (outsF ps td)) :: (c, CellP (some (.ref tss))) :: (tss, SP w S2) :: (tl, LP vtl.toArray) :: edg w d kvs T)
      refine List.Perm.trans ?_ (List.Perm.swap _ _ _)
      refine .cons _ ?_
      refine List.Perm.trans (l₂ := (c, CellP (some (.ref tss))) :: (tl, LP vtl.toArray) :: (tss, SP w S2) :: (D, IL (restF ps td)) :: edg w d kvs T) (List.Perm.swap _ _ _) ?_
      refine List.Perm.trans (l₂ := (c, CellP (some (.ref tss))) :: (tss, SP w S2) :: (tl, LP vtl.toArray) :: (D, IL (restF ps td)) :: edg w d kvs T) (.cons _ (List.Perm.swap _ _ _)) ?_
      refine List.Perm.trans (l₂ := (c, CellP (some (.ref tss))) :: (tss, SP w S2) :: (D, IL (restF ps td)) :: (tl, LP vtl.toArray) :: edg w d kvs T) (.cons _ (.cons _ (List.Perm.swap _ _ _))) ?_
      refine List.Perm.trans (l₂ := (c, CellP (some (.ref tss))) :: (D, IL (restF ps td)) :: (tss, SP w S2) :: (tl, LP vtl.toArray) :: edg w d kvs T) (.cons _ (List.Perm.swap _ _ _)) ?_
      exact List.Perm.swap _ _ _
    have holn : ol ∉ Hof L ((c, CellP (some (.ref tss))) :: (tss, SP w S2) :: (D, IL (restF ps td)) :: edg w d kvs T) := fun hm => by
      have nd := HP.hnd
      rw [List.nodup_cons] at nd
      obtain ⟨n1, n2⟩ := nd
      rw [List.map_cons, List.nodup_cons] at n2
      rcases List.mem_cons.mp hm with e | hm
      · exact n1 (e ▸ .head _)
      · exact n2.1 (.tail _ hm)
    have H2 := HP.sub (own' := (c, CellP (some (.ref tss))) :: (tss, SP w S2) :: (D, IL (restF ps td)) :: edg w d kvs T) (.cons _ (.cons _ (.refl _)))
    have hvn : ∀ a ∈ Hof L ((c, CellP (some (.ref tss))) :: (tss, SP w S2) :: (D, IL (restF ps td)) :: edg w d kvs T), V a = none := fun a ha => by
      cases e : V a with
      | none => rfl
      | some o => have := VV _ _ e; rw [(H2.hvn a ha).1] at this; cases this
    refine ⟨hol0, holn, .head _, hYol, H2.chd, H2.hnd, fun a ha => ⟨but_or (H2.hvn a ha).1, hvn a ha, (H2.hvn a ha).2⟩, ?_⟩
    have hrl := restF_lt hout
    obtain ⟨m, rfl⟩ : ∃ m, n = m + 1 := ⟨n - 1, by omega⟩
    intro A' s'' R'' Cn'' hS'' hV'' hos''
    refine hgs A' s'' _ (st_again rfl (IH A' _ s'' ⟨restF ps td, [some (.ref lp), some (.ref li), some (.ref d), u3, u4, some (.ref D), some (.ref ol), u7], _, s'', _, by omega, hndt.sublist (List.filter_sublist ..), fun x hx => htd10 x (restF_mem.mp hx).1, ?_, ?_, R'', Cn'', ?_, fun a ha => ha, hos'', rfl⟩))
    · have := H2.wake (V' := V) hS'' hV'' hvn CV (hos''.trans hos0.symm)
      rw [← hos''.trans hos0.symm] at this
      exact this
    · exact ⟨d, u3, u4, D, tss, some (.ref ol), u7, kvs, T, S2, rfl, rfl, hdS, hS2', hkn, hK10, hT, hkp⟩
    · exact fun a o e => View.but_at (hV'' _ _ e) fun hm => by rw [hvn a hm] at e; cases e
  · exact ⟨d, u3, u4, tl, tss, none, none, kvs, T, S, rfl, rfl, hdS, hS, hkn, hK10, hT, fun q hq => (hkeys _).mpr ⟨q.1, hq⟩⟩
end
end Mine
end
section
open PySem PySem.W PySem.Calls PyProof.Rows
set_option maxRecDepth 100000
set_option maxHeartbeats 1000000
set_option autoImplicit false
set_option linter.unusedVariables false
set_option linter.unusedSectionVars false
namespace Mine
/-- things exactly as they are in h -/
noncomputable def exK (h : Heap) (H : List Addr) : List Kp := H.map fun a => (a, fun o => h.get? a = some o)
theorem exK_map (h : Heap) (H : List Addr) : (exK h H).map (·.1) = H := by simp [exK, Function.comp_def]
/-- gens change at I alone (new ones may come) -/
structure GCh (I : List Nat) (g g' : Array GenState) : Prop where
  keep : ∀ (i : Nat) x, i ∉ I → g[i]? = some x → g'[i]? = some x
  bare : (∀ x ∈ g, x.bare = true) → ∀ x ∈ g', x.bare = true
theorem GCh.refl (I : List Nat) (g : Array GenState) : GCh I g g := ⟨fun _ _ _ h => h, fun h => h⟩
theorem GCh.trans {I : List Nat} {a b c : Array GenState} (x : GCh I a b) (y : GCh I b c) : GCh I a c := ⟨fun i z hi h => y.keep i z hi (x.keep i z hi h), fun h => y.bare (x.bare h)⟩
theorem GCh.mono {I J : List Nat} {a b : Array GenState} (x : GCh I a b) (h : ∀ i ∈ I, i ∈ J) : GCh J a b := ⟨fun i z hi => x.keep i z fun q => hi (h i q), x.bare⟩
theorem GCh.set {I : List Nat} (g : Array GenState) {i : Nat} {x : GenState} (hi : i ∈ I) (hx : x.bare = true) : GCh I g (g.setIfInBounds i x) := by
  refine ⟨fun j z hj h => ?_, fun h y hy => ?_⟩
  · have hne : i ≠ j := fun q => hj (by rw [← q]; exact hi)
    rw [Array.getElem?_setIfInBounds_ne hne]; exact h
  · obtain ⟨j, hj, rfl⟩ := Array.mem_iff_getElem.mp hy
    have hj' : j < g.size := by simpa using hj
    rw [Array.getElem_setIfInBounds hj']
    split
    · exact hx
    · exact h _ (Array.getElem_mem _)
theorem GCh.push {I : List Nat} (g : Array GenState) {x : GenState} (hx : x.bare = true) : GCh I g (g.push x) := ⟨fun j z _ h => by
    have := (Array.getElem?_eq_some_iff.mp h).1
    rw [Array.getElem?_push_lt this]; rw [Array.getElem?_eq_getElem this] at h; exact h, fun h y hy => by
    rcases Array.mem_push.mp hy with q | q
    · exact h y q
    · exact q ▸ hx⟩
section
variable {w : World} {A : Around} {E : Value → Shared → Prop} {s : Shared} {env : Env} {G : Array GenState} {O : OsState} {V : View} {L : Addr} {ns : List Str} {vs : List (Option Value)} {own : List Kp}
theorem Fm.gens' (F : Fm w G O V L ns vs own s) : Fm w s.gens O V L ns vs own s := ⟨F.cx, rfl, F.os, F.hns, F.nn, F.view, F.hown, F.vL, F.oL, F.vo, F.nd⟩
theorem Fm.regen (F : Fm w G O V L ns vs own s) {s' : Shared} (hh : s'.heap = s.heap) (os : s'.os = s.os) : Fm w s'.gens O V L ns vs own s' :=
  ⟨F.cx, rfl, os.trans F.os, hh ▸ F.hns, F.nn, hh ▸ F.view, fun p hp => hh ▸ F.hown p hp, F.vL, F.oL, F.vo, F.nd⟩
/-- a step of something that owns H, seen from outside -/
theorem Fm.step {H H' : List Addr} {h : Heap} {s₁ : Shared} (F : Fm w G O V L ns vs (exK h H ++ own) s) (hk : ∀ b o, b ∉ H → s.heap.get? b = some o → s₁.heap.get? b = some o) (os : s₁.os = s.os) (nd : H'.Nodup)
    (hH : ∀ a ∈ H', (a ∈ H ∨ s.heap.get? a = none) ∧ ∃ o, s₁.heap.get? a = some o) : Fm w s₁.gens O V L ns vs (exK s₁.heap H' ++ own) s₁ := by
  have hm : ∀ a ∈ H, ∃ p ∈ exK h H ++ own, p.1 = a := fun a ha => ⟨_, List.mem_append_left _ (List.mem_map.mpr ⟨a, ha, rfl⟩), rfl⟩
  have hnL : L ∉ H := fun ha => by obtain ⟨p, hp, e⟩ := hm L ha; exact F.oL p hp e
  have hnV : ∀ a ∈ H, V a = none := fun a ha => by obtain ⟨p, hp, rfl⟩ := hm a ha; exact F.vo p hp
  have ndA := F.nd
  rw [List.map_append, exK_map, List.nodup_append] at ndA
  have hnO : ∀ p ∈ own, p.1 ∉ H := fun p hp ha => ndA.2.2 _ ha _ (List.mem_map.mpr ⟨p, hp, rfl⟩) rfl
  obtain ⟨oL, _, _, hL, _⟩ := id F.hns
  have hV' : ∀ a ∈ H', V a = none := fun a ha => by
    rcases (hH a ha).1 with q | q
    · exact hnV a q
    · cases e : V a with
      | none => rfl
      | some o => have := F.view _ _ e; rw [hv, q] at this; cases this
  have hL' : ∀ a ∈ H', a ≠ L := fun a ha => by
    rintro rfl
    rcases (hH a ha).1 with q | q
    · exact hnL q
    · rw [hL] at q; cases q
  have hO' : ∀ p ∈ own, p.1 ∉ H' := fun p hp ha => by
    rcases (hH _ ha).1 with q | q
    · exact hnO p hp q
    · obtain ⟨o, ho, _⟩ := F.hown p (List.mem_append_right _ hp)
      rw [ho] at q; cases q
  refine ⟨F.cx, rfl, os.trans F.os, F.hns.at' fun o e => hk L o hnL e, F.nn, fun a o e => hk a o (fun q => by rw [hnV a q] at e; cases e) (F.view a o e), fun p hp => ?_, F.vL, fun p hp => ?_, fun p hp => ?_, ?_⟩
  · rcases List.mem_append.mp hp with hp | hp
    · obtain ⟨a, ha, rfl⟩ := List.mem_map.mp hp
      obtain ⟨o, ho⟩ := (hH a ha).2
      exact ⟨o, ho, ho⟩
    · exact (F.hown p (List.mem_append_right _ hp)).keeps fun o e => hk _ o (hnO p hp) e
  · rcases List.mem_append.mp hp with hp | hp
    · obtain ⟨a, ha, rfl⟩ := List.mem_map.mp hp
      exact hL' a ha
    · exact F.oL p (List.mem_append_right _ hp)
  · rcases List.mem_append.mp hp with hp | hp
    · obtain ⟨a, ha, rfl⟩ := List.mem_map.mp hp
      exact hV' a ha
    · exact F.vo p (List.mem_append_right _ hp)
  · rw [List.map_append, exK_map, List.nodup_append]
    refine ⟨nd, ndA.2.1, fun a ha b hb e => ?_⟩
    obtain ⟨p, hp, rfl⟩ := List.mem_map.mp hb
    exact hO' p hp (e ▸ ha)
theorem Fm.same {H : List Addr} {h : Heap} (F : Fm w G O V L ns vs (exK h H ++ own) s) : Same H h s.heap := fun a ha => by
  obtain ⟨o, ho, e⟩ := F.hown (a, fun o => h.get? a = some o) (List.mem_append_left _ (List.mem_map.mpr ⟨a, ha, rfl⟩))
  exact ⟨o, e, ho⟩
/-- a new thing is adopted -/
theorem Fm.adopt (F : Fm w G O V L ns vs own s) {a : Addr} {p : Obj → Prop} (hV : V a = none) (hL : a ≠ L) (hn : a ∉ own.map (·.1)) (hp : HasP s.heap (a, p)) : Fm w G O V L ns vs ((a, p) :: own) s := by
  refine ⟨F.cx, F.gens, F.os, F.hns, F.nn, F.view, ?_, F.vL, ?_, ?_, ?_⟩
  · intro q hq; rcases List.mem_cons.mp hq with rfl | hq
    · exact hp
    · exact F.hown q hq
  · intro q hq; rcases List.mem_cons.mp hq with rfl | hq
    · exact hL
    · exact F.oL q hq
  · intro q hq; rcases List.mem_cons.mp hq with rfl | hq
    · exact hV
    · exact F.vo q hq
  · simp only [List.map_cons, List.nodup_cons]; exact ⟨hn, F.nd⟩
theorem w_liItem {it l : Addr} {i : Nat} {items : Array Value} {x : Value} {Q : Option Value → Shared → Prop} (hit : HasP s.heap (it, LIt l i)) (hl : s.heap.IsList l items) (hx : items[i]? = some x)
    (hQ : ∀ h', HasP h' (it, LIt l (i + 1)) → Heap.SameBut it s.heap h' → Q (some x) { s with heap := h' }) : wpAny (model P0 w) A (callSpecial? (.ref it) "__next__") Q E s := by
  obtain ⟨o, ho, hc, hd⟩ := hit
  obtain ⟨ol, hol, _, nl, hdl⟩ := hl
  refine wpAny_callSpecial?_slot (name := Str.ofString "__next__") (T := "list_iterator") ⟨o, ho, hc⟩ slot_listiter_next (wpAny_call_entry slot_listiter_next (T := "list_iterator") ⟨o, ho, hc⟩ entry_listiter_next
    (w_rising (.inl rfl) ho hd hol hdl (fun y e h' o' sb e1 e2 e3 => ?_) fun e => ?_) (args_listiter_next _))
  · rw [hx] at e; cases e
    exact ⟨x, rfl, hQ h' ⟨o', e1, e2.trans hc, e3⟩ sb⟩
  · rw [hx] at e; cases e
theorem w_liEnd {it l : Addr} {i : Nat} {items : Array Value} {Q : Option Value → Shared → Prop} (hh : A.handled = none) (hit : HasP s.heap (it, LIt l i)) (hl : s.heap.IsList l items) (hx : items[i]? = none)
    (hE : ∀ h' a o vs, Heap.ExtBut it s.heap h' → (∃ oi, h'.get? it = some oi) → h'.get? a = some o → o.cls = .type "StopIteration" → o.data = .fields vs → vs[5]? = some .none → E (.ref a) { s with heap := h' }) : wpAny (model P0 w) A (callSpecial? (.ref it) "__next__") Q E s := by
  obtain ⟨o, ho, hc, hd⟩ := hit
  obtain ⟨ol, hol, _, nl, hdl⟩ := hl
  refine wpAny_callSpecial?_slot (name := Str.ofString "__next__") (T := "list_iterator") ⟨o, ho, hc⟩ slot_listiter_next (wpAny_call_entry slot_listiter_next (T := "list_iterator") ⟨o, ho, hc⟩ entry_listiter_next
    (w_rising (.inl rfl) ho hd hol hdl (fun y e => ?_) fun _ => ⟨.inl hh, fun e => ?_, fun h' a k k' ⟨oa, va, e1, e2, e3, e4⟩ => hE h' a oa va k k' e1 e2 e3 e4⟩) (args_listiter_next _))
  · rw [hx] at e; cases e
  · have e' : A.handled = some (.ref it) := e
    rw [hh] at e'; cases e'
end
end Mine
end
section
open PySem PySem.W PySem.Calls PyProof.Rows
set_option maxRecDepth 100000
set_option maxHeartbeats 4000000
set_option autoImplicit false
set_option linter.unusedVariables false
set_option linter.unusedSectionVars false
namespace Mine
/-- what is handed out next: the item, what is left of its round, what is left to do -/
noncomputable def nxt (ps : List (Int × Int)) (cur td : List Int) : Option (Int × List Int × List Int) := match cur with
  | x :: c => some (x, c, td)
  | [] => match outsF ps td with
    | x :: c => some (x, c, restF ps td)
    | [] => none
theorem part_len (ps : List (Int × Int)) (td : List Int) : (outsF ps td).length + (restF ps td).length ≤ td.length := by
  have e : restF ps td = td.filter fun n => !(td.all fun p => !decide ((p, n) ∈ ps)) := by
    unfold restF
    apply List.filter_congr
    intro n hn
    congr 1
    rw [Bool.eq_iff_iff, decide_eq_true_eq]
    unfold outsF
    rw [List.mem_filter]
    exact ⟨fun h => h.2, fun h => ⟨hn, h⟩⟩
  rw [e]
  unfold outsF
  rw [← List.countP_eq_length_filter, ← List.countP_eq_length_filter]
  have := List.length_eq_countP_add_countP (fun n => td.all fun p => !decide ((p, n) ∈ ps)) (l := td)
  simp only [Bool.not_eq_true, Bool.decide_eq_false] at this
  omega
theorem gch_set {I : List Nat} {a b : Array GenState} {g : Nat} {x : GenState} (c : GCh I a b) (h : g ∈ I ∨ a.size ≤ g) (hx : x.bare = true) : GCh I a (b.setIfInBounds g x) := by
  refine ⟨fun i z hi hz => ?_, fun hb => (GCh.set (I := [g]) b (by simp) hx).bare (c.bare hb)⟩
  have hne : g ≠ i := by
    rintro rfl
    have := (Array.getElem?_eq_some_iff.mp hz).1
    rcases h with h | h
    · exact hi h
    · omega
  rw [Array.getElem?_setIfInBounds_ne hne]
  exact c.keep i z hi hz
structure ChG (H : List Addr) (I : List Nat) (s s₁ : Shared) : Prop where
  keep : ∀ b o, b ∉ H → s.heap.get? b = some o → s₁.heap.get? b = some o
  g : GCh I s.gens s₁.gens
  os : s₁.os = s.os
noncomputable def ErrX1 (w : World) (ps : List (Int × Int)) (outer : List Env) (H : List Addr) (s : Shared) (x : Result) (s₁ : Shared) : Prop :=
  ∃ fr e dx t r S eds q h₀, (∀ b ∈ fr, b ∈ frs outer ∨ b ∈ H ∨ s.heap.get? b = none) ∧ (∀ b ∈ frs outer, b ∈ fr) ∧ x = .error (.ref e) ∧ Fl fr e (exO (some dx) t) h₀ (some .none) s₁.heap ∧ (∀ b o, b ∉ H → s.heap.get? b = some o → h₀.get? b = some o) ∧
    (∀ p ∈ newsX w dx r eds S q, HasP h₀ p) ∧ (∀ a ∈ e :: (newsX w dx r eds S q).map (·.1), s.heap.get? a = none ∧ a ∉ fr) ∧ (e :: (newsX w dx r eds S q).map (·.1)).Nodup ∧
    (∀ x, x ∈ S ↔ Cyc ps x) ∧ (∀ p, p ∈ q.map (·.2) ↔ p ∈ ps) ∧ s₁.os = s.os
abbrev Gq := List (Nat × GenState)
noncomputable def Post1 (w : World) (V : View) (ps : List (Int × Int)) (outer : List Env) (cy : Prop) (Rd : List Int → List Int → List Addr → Gq → Heap → GenState → Prop) (cur td : List Int) (H : List Addr) (gq : Gq) (s : Shared) : End → Shared → Prop :=
  PostOf (fun x s₁ => nxt ps cur td = none ∧ ((td = [] ∧ x = .ok (.ret .none) ∧ ChG H (gq.map (·.1)) s s₁) ∨ (cy ∧ td ≠ [] ∧ ErrX1 w ps outer H s x s₁ ∧ GCh (gq.map (·.1)) s.gens s₁.gens)))
    (fun v gs' s₁ => ∃ x t cur' td' H' gq', nxt ps cur td = some (x, cur', td') ∧ v = .int x t ∧ ChG H (gq.map (·.1)) s s₁ ∧ H'.Nodup ∧ (∀ a ∈ H', (a ∈ H ∨ s.heap.get? a = none) ∧ V a = none ∧ ∃ o, s₁.heap.get? a = some o) ∧
      (∀ q ∈ gq', (q.1 ∈ gq.map (·.1) ∨ s.gens.size ≤ q.1) ∧ s₁.gens[q.1]? = some q.2) ∧ Rd cur' td' H' gq' s₁.heap gs')
noncomputable def Rdy1 (w : World) (O : OsState) (V : View) (ps : List (Int × Int)) (outer : List Env) (cy : Prop) : Nat → List Int → List Int → List Addr → Gq → Heap → GenState → Prop
  | 0 => fun _ _ _ _ _ _ => False
  | n + 1 => fun cur td H gq h gs => ∀ A s, Rm A 40 → Cnd cy V outer H A s → Same H h s.heap → V.le (hv s.heap) → s.os = O → (∀ q ∈ gq, s.gens[q.1]? = some q.2) →
      Go (model P0 w) A (Post1 w V ps outer cy (Rdy1 w O V ps outer cy n) cur td H gq s) gs (.send .none) s
noncomputable def GenP (g : Nat) : Obj → Prop := fun o => ∃ nm qn, o.cls = .type "generator" ∧ o.data = .fields #[.int g 0, nm, qn] ∧ o.slots = #[]
theorem GenP.is {h : Heap} {a : Addr} {g : Nat} (x : HasP h (a, GenP g)) : h.IsGen a g := let ⟨o, ho, nm, qn, r⟩ := x; ⟨o, nm, qn, ho, r⟩
theorem GenP.of {h : Heap} {a : Addr} {g : Nat} (x : h.IsGen a g) : HasP h (a, GenP g) := let ⟨o, nm, qn, ho, r⟩ := x; ⟨o, ho, nm, qn, r⟩
theorem for_ind {w : World} {target : PySem.Expr} {it : Value} {body orelse : List Stmt} {env : Env} {fs : List Frame} (P : Nat → Around → (End → Shared → Prop) → Shared → Prop)
    (step : ∀ n, (∀ m, m < n → ∀ A Post s, P m A Post s → St (model P0 w) A Post (.forLoop target it body orelse env) ((model P0 w).den (.forLoop target it body orelse env)) fs s) →
      ∀ A Post s, P n A Post s → St (model P0 w) A Post (.forLoop target it body orelse env) ((model P0 w).den (.forLoop target it body orelse env)) fs s) :
    ∀ n A Post s, P n A Post s → St (model P0 w) A Post (.forLoop target it body orelse env) ((model P0 w).den (.forLoop target it body orelse env)) fs s := fun n => by
  induction n using Nat.strongRecOn with
  | ind n ih => exact step n ih
noncomputable def KQ (w : World) (fc : Code) (fs1 : List Frame) (k : Result → Sem PySem.Fin) : Prop := ∀ (A' : Around) (Post : End → Shared → Prop) (s₃ : Shared), St (model P0 w) A' Post fc (.pure (.again fc)) fs1 s₃ → St (model P0 w) A' Post fc (k (.ok (.ret .none))) fs1 s₃
theorem yf_ind {w : World} {fc : Code} {fs1 : List Frame} (P : List Int → Addr → Around → (End → Shared → Prop) → Shared → Prop)
    (step : ∀ cur, (∀ it A Post s k l p, KQ w fc fs1 k → cur ≠ [] → P cur.tail it A Post s → St (model P0 w) A Post (yf (.ref it)) ((model P0 w).den (yf (.ref it))) (.ret k none false l fc p [] :: fs1) s) →
      ∀ it A Post s k l p, KQ w fc fs1 k → P cur it A Post s → St (model P0 w) A Post (yf (.ref it)) ((model P0 w).den (yf (.ref it))) (.ret k none false l fc p [] :: fs1) s) :
    ∀ cur it A Post s k l p, KQ w fc fs1 k → P cur it A Post s → St (model P0 w) A Post (yf (.ref it)) ((model P0 w).den (yf (.ref it))) (.ret k none false l fc p [] :: fs1) s := fun cur => by
  induction cur with
  | nil => exact step [] fun it A Post s k l p _ h => absurd rfl h
  | cons x c ih => exact step (x :: c) fun it A Post s k l p hk _ hP => ih it A Post s k l p hk hP
abbrev ns1 : List Str := ["tuples", "allitems", "deterministic_order", "set_"]
section
variable {w : World} {A : Around} {R : Result → Shared → Prop} {Y : Value → GenState → Shared → Prop} {fs : List Frame} {s : Shared} {env : Env}
theorem st_forO {target : PySem.Expr} {it : Value} {body orelse : List Stmt} (ov : Ov A (A.over (.forLoop target it body orelse env) fs) env)
    (h : ∀ AA, Ov A AA env → wpAny (model P0 w) AA (pyNext it) (fun ov s' => match ov with
        | none => St (model P0 w) A (PostOf R Y) (.block orelse env) ((model P0 w).den (.block orelse env)) fs s'
        | some v => wpAny (model P0 w) AA (assign target env v) (fun _ s'' =>
          St (model P0 w) A (PostOf R Y) (.forLoop target it body orelse env) ((execs body env).wrap (fun f => match f with
            | .next | .cont => .pure (.again (.forLoop target it body orelse env))
            | .brk => .pure (.done .next)
            | .ret v => .pure (.done (.ret v))) (noted env) id id) fs s'') noE s')
      (fun x s' => St (model P0 w) A (PostOf R Y) (.forLoop target it body orelse env) (noted env x) fs s') s)
    (ht : ∀ v, letOwnedTupleGo target it v = pure () := by intro _; rfl) :
    St (model P0 w) A (PostOf R Y) (.forLoop target it body orelse env) ((model P0 w).den (.forLoop target it body orelse env)) fs s :=
  st_forLoop (h _ ov) ht
theorem st_ForO {c : Code} {target iter : PySem.Expr} {body orelse : List Stmt} {pos : Pos} {K : Flow → Sem PySem.Fin} {H : Value → Sem PySem.Fin} {gd : Bool → Bool} {lv : List Value → List Value} (ov : Ov A (A.over c fs) env)
    (h : ∀ AA, Ov A AA env → wpAny (model P0 w) AA (eval iter env) (fun xv s₁ => wpAny (model P0 w) AA (pyIter xv) (fun it s₂ => ∀ p l, St (model P0 w) A (PostOf R Y) (.forLoop target it body orelse env) ((model P0 w).den (.forLoop target it body orelse env)) (.ret (ownK env K H gd lv) none (gd false) l c p [] :: fs) s₂) noE s₁) noE s)
    (hs : ∀ x, foldedSetIterable iter env x = pure x := by intro _; rfl) :
    St (model P0 w) A (PostOf R Y) c ((exec (.For target iter body orelse pos) env).wrap K H gd lv) fs s :=
  st_For (wpAny_mono (h _ ov) (fun xv s₁ h₁ => wpAny_mono h₁ (fun _ _ x => x) fun _ _ x => x.elim) fun _ _ x => x.elim) hs
/-- sas_call below a frame -/
theorem sas_callE {env : Env} (enk : env.scope.kind ≠ .module) {V : View} {lp li : Addr} {ps : List (Int × Int)} {xs : List Int} {outer : List Env} {cy : Prop} {Q : Value → Shared → Prop} {E : Value → Shared → Prop} (C : Cx w s.heap) (R : Rm A 5) (hV : V.le (hv s.heap)) (CV : CxV w V) (hp : VPL V lp ps) (hi : VP V (li, IL xs))
    (hD : ∀ p ∈ ps, D10 p) (hpl : ps.length ≤ 18) (hx : R10 xs) (hnd : xs.Nodup) (hcy : ∀ td : List Int, td ≠ [] → outsF ps td = [] → cy)
    (h : ∀ a L H gs s', s'.gens = s.gens.push gs → gs.bare = true → s'.os = s.os → Keeps s.heap s'.heap → s'.heap.IsGen a s.gens.size → s.heap.get? a = none → a ∉ H → H.Nodup → (∀ x ∈ H, s.heap.get? x = none ∧ V x = none ∧ ∃ o, s'.heap.get? x = some o) → L ∈ H →
      Rdy2 w s.os V ps (env :: outer) cy L (xs.length + 1) xs H s'.heap gs → Q (.ref a) s') :
    wpAny (model P0 w) A (call (.ref 285) [.ref lp, .ref li]) Q E s := sas_call C R hV CV hp hi hD hpl hx hnd hcy h
theorem cnd_in {env : Env} {outer : List Env} {A AA : Around} (oA : Ov A AA env) (h : A.frames = some outer) : AA.in1.frames = some (env :: outer) := by
  show AA.frames = _
  rw [oA.fr, h]; rfl
end
section
variable {w : World} {A : Around} {E : Value → Shared → Prop} {s : Shared} {G : Array GenState} {O : OsState} {V : View} {L : Addr} {ns : List Str} {vs : List (Option Value)} {own : List Kp}
theorem Fm.none_of (F : Fm w G O V L ns vs own s) {a : Addr} (h : s.heap.get? a = none) : V a = none ∧ a ≠ L ∧ a ∉ own.map (·.1) := by
  refine ⟨?_, ?_, ?_⟩
  · cases e : V a with
    | none => rfl
    | some o => have := F.view _ _ e; rw [hv, h] at this; cases this
  · rintro rfl
    obtain ⟨o, _, _, hL, _⟩ := F.hns
    rw [h] at hL; cases hL
  · intro hm
    obtain ⟨p, hp, rfl⟩ := List.mem_map.mp hm
    obtain ⟨o, ho, _⟩ := F.hown p hp
    rw [h] at ho; cases ho
end
section
variable {w : World} {A : Around} {E : Value → Shared → Prop} {s : Shared}
theorem sort_call {V : View} {lp li : Addr} {ps : List (Int × Int)} {xs : List Int} {outer : List Env} {cy : Prop} {Q : Value → Shared → Prop} (C : Cx w s.heap) (R : Rm A 5) (hV : V.le (hv s.heap)) (CV : CxV w V) (hp : VPL V lp ps) (hi : VP V (li, IL xs))
    (hD : ∀ p ∈ ps, D10 p) (hpl : ps.length ≤ 18) (hx : R10 xs) (hnd : xs.Nodup) (hcy : ∀ td : List Int, td ≠ [] → outsF ps td = [] → cy)
    (h : ∀ a H gs s', s'.gens = s.gens.push gs → gs.bare = true → s'.os = s.os → Keeps s.heap s'.heap → s'.heap.IsGen a s.gens.size → s.heap.get? a = none → a ∉ H → H.Nodup → (∀ x ∈ H, s.heap.get? x = none ∧ V x = none ∧ ∃ o, s'.heap.get? x = some o) →
      Rdy1 w s.os V ps outer cy (xs.length + 1) [] xs H [] s'.heap gs → Q (.ref a) s') :
    wpAny (model P0 w) A (call (.ref 293) [.ref lp, .ref li]) Q E s := by
  refine f_callGen (ns := ns1) (by rfl) C (by decide) R.room (by kernel_rfl) ((BindsTo.of_defaults (T := 286) rfl (C.K _ _ (by rfl)) rfl rfl rfl : BindsTo s _ _ [("tuples", .ref lp), ("allitems", .ref li), ("deterministic_order", .bool true)]) _ _ _ _ ?_)
  refine ⟨C, fun env s' he en H => ?_⟩
  replace H : Fm w s.gens s.os (hv s.heap) s.heap.objs.size ns1 [none, none, none, none] [] s' := H
  have hL : s.heap.get? s.heap.objs.size = none := fresh_none _
  have enL : env.frame = some s.heap.objs.size := by rw [he]; rfl
  have enk : env.scope.kind ≠ .module := by rw [he]; exact (show ScopeKind.function ≠ .module by decide)
  generalize hLL : s.heap.objs.size = L at *
  subst he
  refine s_local H en rfl .head fun s1 H => s_local H en rfl (.tail .head) fun s2 H => s_local H en rfl (.tail (.tail .head)) fun s2 H => ⟨H.ctx, fun a s₃ ha hg3 hos3 hk3 hgen3 => ?_⟩
  have H3 := (H.keeps hk3 (s' := { s₃ with gens := s.gens }) rfl (hos3.trans H.os))
  have vno : ∀ x, s.heap.get? x = none → V x = none := fun x hx => by
    cases e : V x with
    | none => rfl
    | some o => have := hV _ _ e; rw [hv, hx] at this; cases this
  refine h a [L] _ s₃ (hg3.trans (by rw [H.gens])) rfl (hos3.trans H.os) (fun b o e => hk3 b o (H.view b o e)) (by rw [← H.gens]; exact hgen3) ?_ ?_ H.hnd ?_ ?_
  · rw [ha]
    cases e : s.heap.get? s2.heap.objs.size with
    | none => rfl
    | some o => exact absurd (Heap.lt_size (H.view _ _ e)) (Nat.lt_irrefl _)
  · rw [ha]
    intro hm
    obtain ⟨_, o, ho⟩ := H.hvn _ hm
    exact absurd (Heap.lt_size ho) (Nat.lt_irrefl _)
  · intro x hx
    obtain ⟨_, o, ho⟩ := H.hvn x hx
    obtain rfl : x = L := by simpa using hx
    exact ⟨hL, vno _ hL, o, hk3 _ _ ho⟩
  -- its first waking
  intro A s4 R4 Cn hS hV4 hos4 _
  refine ⟨rfl, st_func ?_⟩
  have F4 := H3.wake (V' := V) (s' := s4) hS hV4 (fun a ha => vno a (by
    obtain rfl : a = L := by simpa using ha
    exact hL)) CV hos4
  have VV : V.le ((hv s4.heap).but [L]) := fun a o e => View.but_at (hV4 _ _ e) (by
    intro hm
    obtain rfl : a = L := by simpa using hm
    rw [vno _ hL] at e; cases e)
  clear H3 H
  replace H : Fm w s4.gens s.os ((hv s4.heap).but [L]) L ns1 _ [] s4 := F4
  clear F4
  have vp4 : VPL ((hv s4.heap).but [L]) lp ps := hp.le VV
  have vi4 : VP ((hv s4.heap).but [L]) (li, IL xs) := let ⟨o, a, b⟩ := hi; ⟨o, VV _ _ a, b⟩
  refine st_execs_cons (st_ForO ov_func fun AA oA => ?_)
  have RA := oA.rm R4
  have hhA : AA.handled = none := RA.hd
  refine e_call (e_glob H en rfl (gv_sas w) (c_with (keep_fn (f := 285) rfl rfl) (i_cons (e_local H en rfl .head (i_cons (e_local H en rfl (.tail (.head)) (i_nil ⟨H.ctx, ?_⟩)))))))
  refine sas_callE (V := V) (outer := outer) (cy := cy) enk H.ctx (RA.mono (by decide)) hV4 CV hp hi hD hpl hx hnd hcy fun a2 L2 H2 gs2 s5 hg5 hb5 hos5 hk5 hgen5 ha5 haH hnd5 hH5 hL2 hrd => ?_
  obtain ⟨g2, hg2'⟩ : ∃ g, g = s4.gens.size := ⟨_, rfl⟩
  have hg2 := hg2'.symm
  rw [hg2] at hgen5
  have F5 := H.step (H := []) (h := s5.heap) (H' := H2) (s₁ := s5) (fun b o _ e => hk5 b o e) hos5 hnd5 (fun x hx => ⟨.inr (hH5 x hx).1, (hH5 x hx).2.2⟩)
  obtain ⟨n1, n2, n3⟩ := H.none_of ha5
  have F5' := (F5.adopt (p := GenP g2) n1 n2 (by rw [List.append_nil, exK_map]; exact haH) (GenP.of hgen5)).perm (own' := exK s5.heap H2 ++ [(a2, GenP g2)]) (by rw [List.append_nil]; exact List.perm_append_singleton _ _)
  refine wpAny_pyIter_gen hgen5 fun p lk => ?_
  have hffc : ∀ (td : List Int) (s0 s : Shared) (H0 : List Addr) (u : Option Value) (own : List Kp) (A : Around), Cnd cy V outer H0 A s0 → V.le ((hv s0.heap).but H0) → Fm w s.gens s0.os ((hv s0.heap).but H0) L ns1 [some (.ref lp), some (.ref li), some (.bool true), u] own s → cy → FF s.heap outer ∧ (∀ b ∈ frs outer, (∃ o, s.heap.get? b = some o) ∧ b ≠ L ∧ b ∉ own.map (·.1)) := fun td s0 s H0 u own A Cn VV F hc => by
    have hvn := Cn.vn hc
    refine ⟨FF.tr (Cn.ff hc) fun b hb o ho => ⟨o.slots, F.view b o (View.but_at ho (hvn b hb).2)⟩, fun b hb => ?_⟩
    obtain ⟨o, ho, _⟩ := FF.mem (Cn.ff hc) hb
    have hb1 : ((hv s0.heap).but H0) b = some o := View.but_at ho (hvn b hb).2
    refine ⟨⟨o, F.view _ _ hb1⟩, fun q => (by subst q; rw [F.vL] at hb1; cases hb1), fun hm => ?_⟩
    obtain ⟨p, hp, rfl⟩ := List.mem_map.mp hm
    rw [F.vo p hp] at hb1; cases hb1
  refine for_ind (fun n A Post s => ∃ td u s0 H0 gq0 h2 H2 gs2 N N1, td.length ≤ n ∧ td.length ≤ N1 ∧ td.length < N ∧ Fm w s.gens s0.os ((hv s0.heap).but H0) L ns1 [some (.ref lp), some (.ref li), some (.bool true), u] (exK h2 H2 ++ [(a2, GenP g2)]) s ∧
      Rdy2 w s4.os V ps (_ :: outer) cy L2 N td H2 h2 gs2 ∧ s.gens[g2]? = some gs2 ∧ GCh (gq0.map (·.1)) s0.gens s.gens ∧ (g2 ∈ gq0.map (·.1) ∨ s0.gens.size ≤ g2) ∧ Rm A 40 ∧ Cnd cy V outer H0 A s0 ∧ V.le ((hv s0.heap).but H0) ∧
      (∀ a ∈ H0, ∃ o, s.heap.get? a = some o) ∧ s0.os = s4.os ∧ L2 ∈ H2 ∧ Post = Post1 w V ps outer cy (Rdy1 w s4.os V ps outer cy N1) [] td H0 gq0 s0) ?_ xs.length A _ s5
    ⟨xs, none, s4, [L], [], s5.heap, H2, gs2, xs.length + 1, xs.length, Nat.le_refl _, Nat.le_refl _, Nat.lt_succ_self _, hos4 ▸ F5', hrd, by rw [hg5, ← hg2]; exact Array.getElem?_push_size, hg5 ▸ GCh.push _ hb5, .inr (Nat.le_of_eq hg2), R4, Cn, VV, fun a ha => (F5'.hvn a (by
      obtain rfl : a = L := by simpa using ha
      exact .head _)).2, hos4 ▸ rfl, hL2, by rw [hos4]; rfl⟩
  intro n IH A Post s6 hP
  obtain ⟨td, u, s0, H0, gq0, h2, H2, gs2, N, N1, hln, hlN1, hlN, H, hrd, hgs, hgc, hgi, R6, Cn, VV, hsub0, hos0, hL2, rfl⟩ := hP
  have hosH : s6.os = s4.os := H.os.trans hos0
  have hV6 : V.le (hv s6.heap) := VV.trans H.view
  have hwithin := hffc td s0 s6 H0 u _ A Cn VV H
  have hvL : V L = none := by
    cases e : V L with
    | none => rfl
    | some o => have := VV _ _ e; rw [H.vL] at this; cases this
  have hvown : ∀ p ∈ exK h2 H2 ++ [(a2, GenP g2)], V p.1 = none := fun p hp => by
    cases e : V p.1 with
    | none => rfl
    | some o => have := VV _ _ e; rw [H.vo p hp] at this; cases this
  have hH2own : ∀ a ∈ H2, ∃ p ∈ exK h2 H2 ++ [(a2, GenP g2)], p.1 = a := fun a ha => ⟨_, List.mem_append_left _ (List.mem_map.mpr ⟨a, ha, rfl⟩), rfl⟩
  have hmap : ∀ (x : List Kp), (exK h2 H2 ++ x).map (·.1) = H2 ++ x.map (·.1) := fun x => by rw [List.map_append, exK_map]
  have hndO := H.nd
  rw [hmap, List.nodup_append] at hndO
  have ha2H : a2 ∉ H2 := fun hm => hndO.2.2 a2 hm a2 (by simp) rfl
  have hLH : L ∉ H2 := fun hm => by obtain ⟨p, hp, e⟩ := hH2own L hm; exact H.oL p hp e
  refine st_forO ov_for fun AA oA => ?_
  have RA := oA.rm R6
  have hhA : AA.handled = none := RA.hd
  obtain ⟨N', rfl⟩ : ∃ m, N = m + 1 := ⟨N - 1, by omega⟩
  have hgo := hrd AA.in1 (s6.setGen g2 .running) ((RA.mono (j := 31) (by decide)).in1) ⟨fun hc => cnd_in oA (Cn.fr hc), fun hc => ?_, fun hc b hb => ?_⟩ H.same hV6 hosH
  rotate_left
  · obtain ⟨f1, f2⟩ := hwithin hc
    obtain ⟨oL, esL, epL, hoL, hdL, _⟩ := id H.hns
    exact ff_cons enk enL hoL (fun vs q => by rw [hdL] at q; cases q) f1
  · rw [frs_cons enL] at hb
    rcases List.mem_cons.mp hb with rfl | hb
    · exact ⟨hvL, hLH⟩
    · refine ⟨(Cn.vn hc b hb).1, fun hm => ?_⟩
      obtain ⟨p, hp, e⟩ := hH2own b hm
      exact ((hwithin hc).2 b hb).2.2 (e ▸ List.mem_map.mpr ⟨p, hp, rfl⟩)
  refine w_genNext (g := g2) (gs := gs2) hhA H.ctx.nolimit (RA.room) (GenP.is (H.get (List.mem_append_right _ (.head _)))) hgs hgo (fun x s7 hx => ?_) (fun v gs' s7 hb hv7 => ?_)
  · have hHV : ∀ b o, ((hv s0.heap).but H0) b = some o → b ∉ H2 := fun b o e hm => by
      obtain ⟨p, hp, q⟩ := hH2own b hm
      have := H.vo p hp
      rw [q, e] at this; cases this
    rcases hx with ⟨htd, rfl, hch⟩ | ⟨hc, hout, htd, e, dx, te, r, SS, eds, q, h₀, rfl, F, hkp, hnews, hfresh, hndn, hSS, hq, hgn, hon⟩
    · refine .inl ⟨rfl, fun h' hk' => ?_⟩
      refine st_block0 (c := .builtin "" ⟨[], []⟩) (st_leaf (.ok .next) (st_end (.ok (.ret .none)) ⟨by subst htd; rfl, .inl ⟨htd, rfl, ⟨fun b o hb e => ?_, ?_, ?_⟩⟩⟩))
      · have e1 : ((hv s0.heap).but H0) b = some o := View.but_at e hb
        exact hk' b o (hch.keep b o (hHV b o e1) (H.view b o e1))
      · show GCh _ _ (s7.gens.setIfInBounds g2 .finished)
        rw [hch.g]
        exact gch_set (gch_set hgc hgi rfl) hgi rfl
      · exact hch.os.trans H.os
    · right
      obtain ⟨hffo, hfo⟩ := hwithin hc
      have frE := frs_cons (outer := outer) enL
      have hvn := Cn.vn hc
      obtain ⟨oa, hoa, hga⟩ := H.get (a := a2) (p := GenP g2) (List.mem_append_right _ (.head _))
      have hfr2 : ∀ b ∈ L2 :: frs (_ :: outer), V b = none ∧ b ≠ a2 ∧ ∃ o, s6.heap.get? b = some o := fun b hb => by
        rcases List.mem_cons.mp hb with rfl | hb
        · obtain ⟨p, hp, q⟩ := hH2own b hL2
          obtain ⟨o, ho, _⟩ := H.hown p hp
          exact ⟨q ▸ hvown p hp, fun e => ha2H (e ▸ hL2), o, q ▸ ho⟩
        · rw [frE] at hb
          rcases List.mem_cons.mp hb with rfl | hb
          · obtain ⟨oL, _, _, hoL, _⟩ := id H.hns
            exact ⟨hvL, fun e => H.oL (a2, GenP g2) (List.mem_append_right _ (.head _)) e.symm, oL, hoL⟩
          · exact ⟨(hvn b hb).1, fun e => (hfo b hb).2.2 (by rw [e, hmap]; simp), (hfo b hb).1⟩
      have hfre : ∀ a ∈ e :: (newsX w dx r eds SS q).map (·.1), s6.heap.get? a = none := hfresh
      have hene : s6.heap.get? e = none := hfresh e (.head _)
      have toh : ∀ b o, b ∉ H2 → b ∉ L2 :: frs (_ :: outer) → s6.heap.get? b = some o → s7.heap.get? b = some o := fun b o h1 h2 h3 =>
        F.tr.keep b o (fun q => by rw [q, hene] at h3; cases h3) h2 (hkp b o h1 h3)
      have hga7 : s7.heap.get? a2 = some oa := toh a2 oa ha2H (fun hm => (hfr2 a2 hm).2.1 rfl) hoa
      have hV7 : V.le (hv s7.heap) := fun b o hb => toh b o (fun hm => by
          obtain ⟨p, hp, q⟩ := hH2own b hm
          rw [← q, hvown p hp] at hb; cases hb) (fun hm => by rw [(hfr2 b hm).1] at hb; cases hb) (hV6 b o hb)
      have C7 : Cx w s7.heap := CV.at hV7
      obtain ⟨vse, hoe, _⟩ := F.ob
      refine ⟨e, _, rfl, GenP.is ⟨oa, hga7, hga⟩, C7, hoe, rfl, ?_⟩
      -- it flies on
      obtain ⟨oL, esL, epL, hoL, hdL, _⟩ := id H.hns
      have hffA := ff_cons (outer := outer) (h := h₀) enk enL (hkp L oL hLH hoL) (fun vs q => by rw [hdL] at q; cases q) (FF.tr hffo fun b hb o ho => ⟨o.slots, hkp b o (fun hm => by
        obtain ⟨p, hp, q⟩ := hH2own b hm
        exact (hfo b hb).2.2 (q ▸ List.mem_map.mpr ⟨p, hp, rfl⟩)) ho⟩)
      refine st_wrap (wpAny_bind (note_next (s := s7.setGen g2 .finished) (h₀ := h₀) (outer := outer) (by rw [ov_for.fr, Cn.fr hc]; rfl) hffA (fun b hb => .tail _ hb) enL F fun h1 F1 => wpAny_theTreesLotGoes ?_))
      refine st_leaf (.error (.ref e)) ?_
      refine st_wrap (own_again enL F1 fun h2 F2 => ?_)
      refine st_wrap (leave_again enL F2 fun h3 F3 => ?_)
      have hnone : nxt ps [] td = none := by unfold nxt; rw [hout]
      have h0none : ∀ a, s6.heap.get? a = none → s0.heap.get? a = none := fun a ha => by
        cases e1 : s0.heap.get? a with
        | none => rfl
        | some o =>
          by_cases hm : a ∈ H0
          · obtain ⟨o', ho'⟩ := hsub0 a hm
            rw [ha] at ho'; cases ho'
          · have := H.view a o (View.but_at e1 hm)
            rw [hv, ha] at this; cases this
      refine st_end (.error (.ref e)) ⟨hnone, .inr ⟨hc, htd, ⟨_, e, dx, te, r, SS, eds, q, h₀, fun b hb => ?_, fun b hb => ?_, rfl, F3, fun b o hb e1 => ?_, hnews, fun a ha => ⟨h0none a (hfresh a ha), fun hm => ?_⟩, hndn, hSS, hq, ?_⟩, ?_⟩⟩
      · rcases List.mem_cons.mp hb with rfl | hb
        · obtain ⟨p, hp, q⟩ := hH2own b hL2
          exact .inr (but_or (q ▸ H.vo p hp))
        · rw [frE] at hb
          rcases List.mem_cons.mp hb with rfl | hb
          · exact .inr (but_or H.vL)
          · exact .inl hb
      · exact .tail _ (by rw [frE]; exact .tail _ hb)
      · have e2 : ((hv s0.heap).but H0) b = some o := View.but_at e1 hb
        exact hkp b o (hHV b o e2) (H.view b o e2)
      · obtain ⟨_, _, o, ho⟩ := hfr2 a hm
        rw [hfre a ha] at ho; cases ho
      · exact hon.trans H.os
      · show GCh _ _ (s7.gens.setIfInBounds g2 .finished)
        rw [hgn]
        exact gch_set (gch_set hgc hgi rfl) hgi rfl
  · obtain ⟨hout, l, H2', rfl, hl0, hlH, hL2H, hlP, hch, hnd', hH', hrd'⟩ := hv7
    have F7 := H.step (H := H2) (H' := H2') (s₁ := s7) hch.keep hch.os hnd' (fun a ha => ⟨(hH' a ha).1, (hH' a ha).2.2⟩)
    obtain ⟨n1, n2, n3⟩ := H.none_of (a := l) hl0
    obtain ⟨ol, hol, vl, ⟨nl, rfl⟩, hvl⟩ := hlP
    have hla2 : l ≠ a2 := fun e => n3 (by rw [e, hmap]; simp)
    have F8 := (F7.adopt (a := l) (p := LP vl.toArray) n1 n2 (by
      rw [List.map_append, exK_map]
      intro hm
      rcases List.mem_append.mp hm with hm | hm
      · exact hlH hm
      · exact hla2 (by simpa using hm)) ⟨_, hol, nl, rfl⟩).regen (s' := s7.setGen g2 gs') rfl rfl
    refine a_Name (s_local F8 en rfl (.tail (.tail (.tail (.head)))) fun s8 H8 => ?_)
    obtain ⟨ol8, hol8, nl8, rfl⟩ := H8.get (a := l) (p := LP vl.toArray) (.head _)
    refine st_execs_cons (st_YieldFrom (e_local H8 en rfl (.tail (.tail (.tail (.head)))) ⟨"list", ⟨_, hol8, rfl⟩, by decide, i_list H8 (items := vl.toArray) (LP.isList (H8.get (.head _))) fun it s9 H9 hlit => fun k lk pk hk => ?_⟩))
    have hg9 : s9.gens = (s7.setGen g2 gs').gens := H9.gens
    have hg7 : s7.gens = s6.gens.setIfInBounds g2 .running := hch.g
    have H9' := H9.perm (own' := exK s7.heap H2' ++ [(a2, GenP g2), (it, LIt l 0), (l, LP vl.toArray)]) (by
      have p1 : List.Perm (exK s7.heap H2' ++ ([(a2, GenP g2)] ++ [(it, LIt l 0), (l, LP vl.toArray)])) ((it, LIt l 0) :: (l, LP vl.toArray) :: (exK s7.heap H2' ++ [(a2, GenP g2)])) := by
        rw [← List.append_assoc]
        exact List.perm_append_comm
      exact p1)
    replace H9' := H9'.gens'
    have hpl := part_len ps td
    refine yf_ind (fun cur it A Post s => ∃ td i l items cur0 td0 s0 H0 gq0 h2 H2 gs2 N N1, cur.length + td.length ≤ n ∧ (cur = [] → td.length < n) ∧ cur.length + td.length ≤ N1 ∧ td.length < N ∧ IntsAre (items.drop i) cur ∧
        Fm w s.gens s0.os ((hv s0.heap).but H0) L ns1 [some (.ref lp), some (.ref li), some (.bool true), some (.ref l)] (exK h2 H2 ++ [(a2, GenP g2), (it, LIt l i), (l, LP items.toArray)]) s ∧
        Rdy2 w s4.os V ps (_ :: outer) cy L2 N td H2 h2 gs2 ∧ s.gens[g2]? = some gs2 ∧ GCh (gq0.map (·.1)) s0.gens s.gens ∧ (g2 ∈ gq0.map (·.1) ∨ s0.gens.size ≤ g2) ∧ Rm A 40 ∧ Cnd cy V outer H0 A s0 ∧ V.le ((hv s0.heap).but H0) ∧
        (cur = [] → ∀ a ∈ H0, ∃ o, s.heap.get? a = some o) ∧ s0.os = s4.os ∧ L2 ∈ H2 ∧ (cur ≠ [] → nxt ps cur0 td0 = nxt ps cur td) ∧ (cur = [] → cur0 = [] ∧ td0 = td) ∧
        Post = Post1 w V ps outer cy (Rdy1 w s4.os V ps outer cy N1) cur0 td0 H0 gq0 s0) ?_ (outsF ps td) it A _ s9 k lk pk (fun A' P' s' h' => hk A' P' s' h')
      ⟨restF ps td, 0, l, vl, [], td, s0, H0, gq0, s7.heap, H2', gs', N', N1, by omega, fun e => absurd e hout, by omega, by have := restF_lt hout; omega, hvl, H9', hrd', ?_, ?_, hgi, R6, Cn, VV, fun e => absurd e hout, hos0, ?_, fun _ => ?_, fun e => absurd e hout, rfl⟩
    rotate_left
    · rw [hg9]
      show (s7.gens.setIfInBounds g2 gs')[g2]? = _
      rw [hg7]
      have hlt := (Array.getElem?_eq_some_iff.mp hgs).1
      rw [Array.getElem?_setIfInBounds_self_of_lt (by simpa using hlt)]
    · rw [hg9]
      show GCh _ _ (s7.gens.setIfInBounds g2 gs')
      rw [hg7]
      exact gch_set (gch_set hgc hgi rfl) hgi hb
    · exact hL2H
    · unfold nxt
      cases q : outsF ps td with
      | nil => exact absurd q hout
      | cons x c => rfl
    -- a step of the yield from
    intro cur IHc it A Post s k lk pk hk hP
    obtain ⟨td, i, l, items, cur0, td0, s0, H0, gq0, h2, H2, gs2, N, N1, q1, q2, q3, q4, hcur, H, hrd, hgs, hgc, hgi, R6, Cn, VV, hsub0, hos0, hL2, hnx, hnil, rfl⟩ := hP
    have hit := H.get (a := it) (p := LIt l i) (List.mem_append_right _ (.tail _ (.head _)))
    have hlL := LP.isList (H.get (a := l) (p := LP items.toArray) (List.mem_append_right _ (.tail _ (.tail _ (.head _)))))
    have pit : ∀ j, List.Perm (exK h2 H2 ++ [(a2, GenP g2), (it, LIt l j), (l, LP items.toArray)]) ((it, LIt l j) :: (exK h2 H2 ++ [(a2, GenP g2), (l, LP items.toArray)])) := fun j => by
      refine List.Perm.trans (List.Perm.append_left _ (List.Perm.swap _ _ _)) List.perm_middle
    cases cur with
    | nil =>
      obtain ⟨rfl, rfl⟩ := hnil rfl
      have hlen0 : (items.drop i).length = 0 := by have := hcur.length; simpa using this
      refine st_yf rfl rfl (w_liEnd (ov_yf.hd.trans R6.hd) hit hlL (by
        rw [List.length_drop] at hlen0
        rw [Array.getElem?_eq_none]; simp; omega) fun h' a o vs hext hito ha hc hd h5 => ⟨a, o, vs, rfl, ha, hc, hd, h5, ?_⟩)
      have HD := (((H.perm (pit i).symm).drop (s' := { s with heap := h' }) rfl hext rfl H.os).sub (own' := exK h2 H2 ++ [(a2, GenP g2)]) (List.Sublist.append_left (.cons_cons _ (.cons _ (.refl _))) _))
      refine st_leaf (.ok (.ret .none)) (hk _ _ _ (st_again rfl (IH td0.length (q2 rfl) A _ _ ⟨td0, some (.ref l), s0, H0, gq0, h2, H2, gs2, N, N1, Nat.le_refl _, by simpa using q3, q4, HD, hrd, hgs, hgc, hgi, R6, Cn, VV, fun b hb => ?_, hos0, hL2, rfl⟩)))
      obtain ⟨ob, hob⟩ := hsub0 rfl b hb
      by_cases hbi : b = it
      · subst hbi; exact hito
      · exact ⟨ob, hext b ob hbi hob⟩
    | cons x c =>
      have hnx' := hnx (by simp)
      obtain ⟨t9, hx9, hc9⟩ : ∃ t9, items.toArray[i]? = some (.int x t9) ∧ IntsAre (items.drop (i + 1)) c := by
        have hlt : i < items.length := by
          have := hcur.length
          rw [List.length_drop] at this
          simp at this; omega
        rw [List.drop_eq_getElem_cons hlt] at hcur
        generalize hgi9 : items[i] = z at hcur
        cases hcur with
        | cons y t9 h => exact ⟨t9, by simp [List.getElem?_eq_getElem hlt, hgi9], h⟩
      refine st_yf rfl rfl (w_liItem hit hlL hx9 fun h' hit' hsb => ⟨.int x t9, rfl, let ⟨o, a, b, _⟩ := hit'; ⟨o, a, b⟩, fun gs hgs9 => ?_⟩)
      have HN := ((H.perm (pit i).symm).head (s' := { s with heap := h' }) (p' := LIt l (i + 1)) rfl hsb.extBut hit' rfl H.os).perm (own' := exK h2 H2 ++ [(a2, GenP g2), (it, LIt l (i + 1)), (l, LP items.toArray)]) (pit (i + 1))
      have hvn : ∀ a ∈ Hof L (exK h2 H2 ++ [(a2, GenP g2), (it, LIt l (i + 1)), (l, LP items.toArray)]), V a = none := fun a ha => by
        cases e : V a with
        | none => rfl
        | some o => have := VV _ _ e; rw [(HN.hvn a ha).1] at this; cases this
      refine ⟨x, t9, c, td, Hof L (exK h2 H2 ++ [(a2, GenP g2), (it, LIt l (i + 1)), (l, LP items.toArray)]), [(g2, gs2)], hnx', rfl, ⟨fun b o hb e => HN.view b o (View.but_at e hb), hgc, HN.os⟩, HN.hnd, fun a ha => ⟨but_or (HN.hvn a ha).1, hvn a ha, (HN.hvn a ha).2⟩, fun q hq => ?_, ?_⟩
      · obtain rfl : q = (g2, gs2) := by simpa using hq
        exact ⟨hgi, hgs⟩
      obtain ⟨M, rfl⟩ : ∃ M, N1 = M + 1 := ⟨N1 - 1, by simp at q3; omega⟩
      intro A' s'' R'' Cn'' hS'' hV'' hos'' hgq''
      have HW := HN.wake (V' := V) (s' := s'') hS'' hV'' hvn CV (hos''.trans hos0.symm)
      rw [← hos''.trans hos0.symm] at HW
      obtain ⟨oi, hoi, hci, _⟩ := HW.get (a := it) (p := LIt l (i + 1)) (List.mem_append_right _ (.tail _ (.head _)))
      refine hgs9 A' s'' _ ⟨oi, hoi, hci⟩ (IHc it A' _ s'' k lk pk hk (by simp) ⟨td, i + 1, l, items, c, td, s'', _, [(g2, gs2)], h2, H2, gs2, N, M, by simp at q1 ⊢; omega, fun e => by subst e; simp at q1; omega, by simp at q3 ⊢; omega, q4, hc9, HW, hrd, hgq'' _ (.head _), GCh.refl _ _, .inl (by simp), R'', Cn'', ?_, fun _ a ha => (HW.hvn a ha).2, hos'', hL2, fun _ => rfl, fun e => ⟨e, rfl⟩, rfl⟩)
      exact fun a o e => View.but_at (hV'' _ _ e) fun hm => by rw [hvn a hm] at e; cases e
end
end Mine
end
section
open PySem PySem.W PySem.Calls PyProof.Rows
set_option maxRecDepth 100000
set_option maxHeartbeats 1000000
set_option autoImplicit false
set_option linter.unusedVariables false
set_option linter.unusedSectionVars false
namespace Mine
/-! tuples of three; a tuple taken apart while an exception is handled -/
section
variable {w : World} {A : Around} {E : Value → Shared → Prop} {s : Shared} {env : Env} {G : Array GenState} {O : OsState} {V : View} {L : Addr} {ns : List Str} {vs : List (Option Value)} {own : List Kp}
theorem next_tuple_endH {it t : Addr} {i : Nat} {items : Array Value} {Q : Option Value → Shared → Prop} (hh : HdOK A s.heap) (hn : ∀ x, A.handled = some (.ref x) → x ≠ it)
    (hit : IsTupIter s.heap it t i) (ht : IsTup s.heap t items) (hx : items[i]? = none)
    (hQ : ∀ h', Heap.ExtBut it s.heap h' → Q none { s with heap := h' }) : wpAny (model P0 w) A (pyNext (.ref it)) Q E s := by
  have hT := hit.typeIs
  obtain ⟨o, ho, hc, hd⟩ := hit
  obtain ⟨ol, hol, _, nl, hdl⟩ := ht
  refine w_pyNext (wpAny_callSpecial?_slot (name := Str.ofString "__next__") hT slot_tupleiter_next (wpAny_call_entry slot_tupleiter_next hT entry_tupleiter_next
    (w_rising (.inr rfl) ho hd hol hdl (fun y e => ?_) fun _ => ⟨hh, fun e => hn it e rfl, fun h' a k _ st => st.ends (hQ h' k)⟩) (args_tupleiter_next _)))
  rw [hx] at e; cases e
theorem unpackItems_tupleH {t : Addr} {items : Array Value} {Q : List Value → Shared → Prop} (hh : HdOK A s.heap) (ht : IsTup s.heap t items)
    (hQ : ∀ h', Heap.ExtBut s.heap.objs.size s.heap h' → Q items.toList { s with heap := h' }) : wpAny (model P0 w) A (unpackItems (.ref t) items.size none) Q E s := by
  have old : ∀ {a o}, s.heap.get? a = some o → a ≠ s.heap.objs.size := fun e => Nat.ne_of_lt (Heap.lt_size e)
  have tne : t ≠ s.heap.objs.size := let ⟨_, e, _⟩ := ht; old e
  have last : ∀ h₁, IsTupIter h₁ s.heap.objs.size t items.size → Heap.ExtBut s.heap.objs.size s.heap h₁ → wpAny (model P0 w) A (pyNext (.ref s.heap.objs.size)) (fun r s₂ => r = none ∧ Q items.toList s₂) E { s with heap := h₁ } := fun h₁ hi k =>
    next_tuple_endH (hh.keeps fun a o _ e => k a o (old e) e) (fun x hx => by
      rcases hh with hh | ⟨x', _, _, hh, e, _⟩
      · rw [hh] at hx; cases hx
      · rw [hh] at hx; cases hx; exact old e) hi (ht.extBut k tne) (by simp) fun h₂ k' => ⟨rfl, hQ h₂ fun b o hb e => k' b o hb (k b o hb e)⟩
  unfold unpackItems notIterableAtAll
  refine wpAny_bind (wpAny_bind (wpAny_specialOf ht.typeIs slot_tuple_iter.lookup (wpAny_pure (wp_if_false rfl ?_))))
  refine wpAny_bind (wpAny_holding (iter_tuple ht (wpAny_bind (wpAny_holding (draw_tuple tne items.size 0 _ _ ⟨_, Heap.get?_push_size _ rfl, rfl, rfl⟩ (ht.push _) (by omega) fun h₁ hi hs => ?_)))))
  rw [List.drop_zero, List.take_of_length_le (show items.toList.length ≤ items.size by simp), if_neg (by simp)]
  refine wpAny_bind (wpAny_holding (wpAny_mono (last h₁ (by simpa using hi) fun b o hb e => hs.extBut b o hb (Heap.get?_push_of_some _ e)) (fun r s₂ h₂ => ?_) fun _ _ x => x))
  obtain ⟨rfl, hq⟩ := h₂
  exact wpAny_pure hq
/-- the exception with a traceback -/
noncomputable def EXO (dx : Addr) : Obj → Prop := fun o => ∃ vs, o = { cls := .ref 277, dict := some dx, data := .fields vs } ∧ vs[2]? = some .none
noncomputable def HdF (A : Around) (own : List Kp) : Prop := A.handled = none ∨ ∃ x dx, A.handled = some (.ref x) ∧ (x, EXO dx) ∈ own
theorem Fm.hdok (F : Fm w G O V L ns vs own s) (h : HdF A own) : HdOK A s.heap := by
  rcases h with h | ⟨x, dx, h, hm⟩
  · exact .inl h
  · obtain ⟨o, ho, vx, rfl, h2⟩ := F.get hm
    exact .inr ⟨x, _, vx, h, ho, rfl, h2⟩
theorem u_tup {t : Addr} {items : Array Value} {Q : List Value → Shared → Prop} (hh : HdF A own) (F : Fm w G O V L ns vs own s) (ht : HasP s.heap (t, TP items)) (h : ∀ s', Fm w G O V L ns vs own s' → Q items.toList s') :
    wpAny (model P0 w) A (unpackItems (.ref t) items.size none) Q E s := by
  obtain ⟨_, ho, rfl⟩ := ht
  refine unpackItems_tupleH (items := items) (F.hdok hh) ⟨_, ho, rfl, 0, rfl⟩ fun h' he => h _ (F.keeps (s' := { s with heap := h' }) (fun b o e => he b o (Nat.ne_of_lt (Heap.lt_size e)) e) F.gens F.os)
/-- two names take the two of a display, the second first -/
theorem x_swap2H {t₁ t₂ : PySem.Expr} {n1 n2 : Str} {k : Nat} {tpos pos : Pos} {value : PySem.Expr} {Q : Flow → Shared → Prop} (_F₀ : Fm w G O V L ns vs own s)
    (h : wpAny (model P0 w) A (eval value env) (fun v s₁ => ∃ t x y vs own, v = .ref t ∧ HasP s₁.heap (t, TP #[x, y]) ∧ HdF A own ∧ Fm w G O V L ns vs own s₁ ∧ ∀ s', Fm w G O V L ns vs own s' →
      wpAny (model P0 w) A (storeName env n2 y) (fun _ s₂ => wpAny (model P0 w) A (storeName env n1 x) (fun _ => Q .next) E s₂) E s') E s)
    (hs : swapsWithSole [.Tuple [t₁, t₂] k tpos] value pos.line env = pure false := by rfl)
    (hw : swappedStores [.Tuple [t₁, t₂] k tpos] value env = pure (some [n1, n2]) := by rfl) :
    wpAny (model P0 w) A (exec (.Assign [.Tuple [t₁, t₂] k tpos] value pos) env) Q E s := by
  refine Assign_Tuple_swapped (names := [n1, n2]) (wpAny_mono h (fun v s₁ h₁ => ?_) fun _ _ x => x) hs hw
  obtain ⟨t, x, y, vs, own, rfl, ht, hh, F, hQ⟩ := h₁
  refine u_tup (items := #[x, y]) hh F ht fun s' F' => ?_
  show wpAny _ _ (do holding [x] (bindName env n2 y); (do holding [] (bindName env n1 x); pure ())) _ _ _
  exact wpAny_bind (wpAny_holding (bindName_ (wpAny_mono (hQ s' F') (fun _ s₁ h₁ => wpAny_bind (wpAny_holding (bindName_ (wpAny_mono h₁ (fun _ _ q => wpAny_pure q) fun _ _ x => x)))) fun _ _ x => x)))
/-- three names take the three of a display, the last first -/
theorem x_swap3 {t₁ t₂ t₃ : PySem.Expr} {n1 n2 n3 : Str} {k : Nat} {tpos pos : Pos} {value : PySem.Expr} {Q : Flow → Shared → Prop} (_F₀ : Fm w G O V L ns vs own s) (hh : A.handled = none)
    (h : wpAny (model P0 w) A (eval value env) (fun v s₁ => ∃ t x y z vs own, v = .ref t ∧ HasP s₁.heap (t, TP #[x, y, z]) ∧ Fm w G O V L ns vs own s₁ ∧ ∀ s', Fm w G O V L ns vs own s' →
      wpAny (model P0 w) A (storeName env n3 z) (fun _ s₂ => wpAny (model P0 w) A (storeName env n2 y) (fun _ s₃ => wpAny (model P0 w) A (storeName env n1 x) (fun _ => Q .next) E s₃) E s₂) E s') E s)
    (hs : swapsWithSole [.Tuple [t₁, t₂, t₃] k tpos] value pos.line env = pure false := by rfl)
    (hw : swappedStores [.Tuple [t₁, t₂, t₃] k tpos] value env = pure (some [n1, n2, n3]) := by rfl) :
    wpAny (model P0 w) A (exec (.Assign [.Tuple [t₁, t₂, t₃] k tpos] value pos) env) Q E s := by
  refine Assign_Tuple_swapped (names := [n1, n2, n3]) (wpAny_mono h (fun v s₁ h₁ => ?_) fun _ _ x => x) hs hw
  obtain ⟨t, x, y, z, vs, own, rfl, ht, F, hQ⟩ := h₁
  refine u_tup (items := #[x, y, z]) (.inl hh) F ht fun s' F' => ?_
  show wpAny _ _ (do holding [y, x] (bindName env n3 z); (do holding [x] (bindName env n2 y); (do holding [] (bindName env n1 x); pure ()))) _ _ _
  refine wpAny_bind (wpAny_holding (bindName_ (wpAny_mono (hQ s' F') (fun _ s₁ h₁ => ?_) fun _ _ x => x)))
  refine wpAny_bind (wpAny_holding (bindName_ (wpAny_mono h₁ (fun _ s₂ h₂ => ?_) fun _ _ x => x)))
  exact wpAny_bind (wpAny_holding (bindName_ (wpAny_mono h₂ (fun _ _ q => wpAny_pure q) fun _ _ x => x)))
/-- three targets take a triple, in order -/
theorem x_triple {t₁ t₂ t₃ : PySem.Expr} {k : Nat} {tpos pos : Pos} {value : PySem.Expr} {Q : Flow → Shared → Prop} (hh : A.handled = none)
    (h : wpAny (model P0 w) A (eval value env) (fun v s₁ => ∃ t x y z G V vs own, v = .ref t ∧ HasP s₁.heap (t, TP #[x, y, z]) ∧ Fm w G O V L ns vs own s₁ ∧ ∀ s', Fm w G O V L ns vs own s' →
      wpAny (model P0 w) A (assign t₁ env x) (fun _ s₂ => wpAny (model P0 w) A (assign t₂ env y) (fun _ s₃ => wpAny (model P0 w) A (assign t₃ env z) (fun _ => Q .next) E s₃) E s₂) E s') E s)
    (hs : swapsWithSole [.Tuple [t₁, t₂, t₃] k tpos] value pos.line env = pure false := by rfl)
    (hw : swappedStores [.Tuple [t₁, t₂, t₃] k tpos] value env = pure none := by rfl)
    (he : assignEach [t₁, t₂, t₃] env = [(false, assign t₁ env), (false, assign t₂ env), (false, assign t₃ env)] := by rfl) :
    wpAny (model P0 w) A (exec (.Assign [.Tuple [t₁, t₂, t₃] k tpos] value pos) env) Q E s := by
  refine Assign_Tuple (wpAny_mono h (fun v s₁ h₁ => ?_) fun _ _ x => x) hs hw
  obtain ⟨t, x, y, z, G, V, vs, own, rfl, ht, F, hQ⟩ := h₁
  rw [arm_assign_Tuple, he]
  refine wpAny_bind (wpAny_standAt ?_)
  unfold unpack
  refine wpAny_bind (wpAny_holding (u_tup (items := #[x, y, z]) (.inl hh) F ht fun s' F' => ?_))
  show wpAny _ _ (do holding [y, z] (assign t₁ env x); (do holding [z] (assign t₂ env y); (do holding [] (assign t₃ env z); pure ()))) _ _ _
  refine wpAny_bind (wpAny_holding (wpAny_mono (hQ s' F') (fun _ s₁ h₁ => ?_) fun _ _ x => x))
  refine wpAny_bind (wpAny_holding (wpAny_mono h₁ (fun _ s₂ h₂ => ?_) fun _ _ x => x))
  exact wpAny_bind (wpAny_holding (wpAny_mono h₂ (fun _ _ q => wpAny_pure q) fun _ _ x => x))
end
end Mine
end
section
open PySem PySem.W PySem.Calls PyProof.Rows Builtin Builtin.ObjectAttr Builtin.Getset_descriptor
set_option maxRecDepth 100000
set_option maxHeartbeats 1000000
set_option autoImplicit false
set_option linter.unusedVariables false
set_option linter.unusedSectionVars false
namespace Mine
theorem ex_nt (w : World) : peek (KF w) ⟨P0, w.params⟩ (isInstance (.ref 277) (.type "tuple")) = some false := by kernel_rfl
theorem ex_ic (w : World) : peek (KF w) ⟨P0, w.params⟩ (isExcClass (.ref 277)) = some true := by kernel_rfl
section
variable {w : World} {A : Around} {E : Value → Shared → Prop} {s : Shared} {env : Env} {G : Array GenState} {O : OsState} {V : View} {L : Addr} {ns : List Str} {vs : List (Option Value)} {own : List Kp} {x dx e : Addr}
theorem ex_matches {o : Obj} {Q : Bool → Shared → Prop} (C : Cx w s.heap) (ho : s.heap.get? e = some o) (hc : o.cls = .ref 277) (h : Q true s) : wpAny (model P0 w) A (excMatches (.ref e) (.ref 277)) Q E s := by
  unfold excMatches
  refine wpAny_bind ((Looks.of_peek C.K (ex_nt w)).here ?_)
  refine wp_if_false rfl (wpAny_bind (wpAny_pure ?_))
  simp only [List.forIn_cons, List.forIn_nil]
  refine wpAny_bind (wpAny_bind (wpAny_bind ((Looks.of_peek C.K (ex_ic w)).here ?_)))
  refine wp_if_false rfl (wpAny_pure ?_)
  dsimp only
  refine wpAny_pure ?_
  refine wpAny_bind (w_typeOf ho ?_)
  rw [hc]
  refine wpAny_bind (wpAny_bind (wpAny_bind ((Looks.of_peek C.K (ex_self w)).here ?_)))
  refine wp_if_true rfl (wpAny_pure ?_)
  dsimp only
  exact wpAny_pure (wpAny_pure h)
theorem ex_ga {expr : Bool} {name : Str} {Q : Value → Shared → Prop} {v : Value} {o od : Obj} (C : Cx w s.heap) (I : InstAt s.heap x o 277 (some od)) (hf : findObj (KF w) 277 (some od) name = some (.value v)) (hh : handedIn v = true)
    (h : Q v { s with toks := s.toks + 1 }) : wpAny (model P0 w) A (getAttr (.ref x) name expr) Q E s := by
  have hx := I.at_
  have hcls := I.cls
  unfold getAttr getAttrBy
  refine wpAny_bind (wpAny_mkText (wpAny_holding (wpAny_bind (w_typeOf (s := { s with toks := s.toks + 1 }) hx ?_))))
  rw [hcls]
  refine wpAny_bind (Looks.of_peek (h := s.heap) C.K (ex_get w) _ _ _ _ (fun _ _ e => e) ?_)
  dsimp only
  refine wp_if_false (by decide) ?_
  unfold getAttrByItsOwn
  refine wpAny_bind (m := hookBefore _) ?_
  show wpAny _ _ (typeLookup (.ref 277) "__getattr__") _ _ _
  refine Looks.of_peek (h := s.heap) C.K (ex_gat w) _ _ _ _ (fun _ _ e => e) ?_
  refine wpAny_bind (wpAny_attempt (wpAny_holding ?_))
  unfold callGetattribute
  refine wp_if_false (by cases expr <;> rfl) ?_
  unfold boundAndCalled
  have SG := PySem.F.excAttr_ValueError.ga
  rw [SG.bind]
  refine wpAny_bind (wpAny_pure ?_)
  show wpAny _ _ (call (.builtin "BaseException.__getattribute__") [.ref x, .str name s.toks]) _ _ _
  have sub : Looks (model P0 w) s.heap (isInstance (.ref x) (.type "BaseException")) true := I.type.andThen (Looks.of_peek C.K (ex_base w))
  refine wpAny_call (codeAny_call_builtin SG.plain PySem.F.entry_bexc_ga (@check_slot (model P0 w) _ _ { s with toks := s.toks + 1 } "BaseException.__getattribute__" "BaseException" "__getattribute__" (.ref x) [.str name s.toks] [] _ (by decide +kernel) (by decide +kernel) sub (PySem.F.args_bexc_ga (.ref x) (.str name s.toks)) ?_))
  unfold Builtin.«object.__getattribute__»
  have L0 := I.type (M := model P0 w)
  have L1 := looks_find (M := model P0 w) C.K I hf
  refine wpAny_bind (wpAny_pure (wpAny_bind (wpAny_pure (wpAny_bind (L0 _ _ _ _ (fun _ _ e => e) (wpAny_bind (L1 _ _ _ _ (fun _ _ e => e) ?_)))))))
  refine wpAny_pure ?_
  show wpAny _ _ (handedOut v) _ _ _
  rw [handedOut_of hh]
  exact wpAny_pure h
theorem ex_cyc {expr : Bool} {Q : Value → Shared → Prop} {c d : Addr} (C : Cx w s.heap) (hx : HasP s.heap (x, EXO dx)) (hd : HasP s.heap (dx, DX2 (.ref c) (.ref d))) (h : Q (.ref c) { s with toks := s.toks + 1 }) : wpAny (model P0 w) A (getAttr (.ref x) "cycles" expr) Q E s := by
  obtain ⟨_, ho, vs, rfl, _⟩ := hx
  obtain ⟨_, hdo, h1, t1, h2, t2, n, rfl⟩ := hd
  exact ex_ga C (od := dictOf [⟨h1, .str "cycles" t1, .ref c⟩, ⟨h2, .str "edges" t2, .ref d⟩] n) ⟨ho, rfl, rfl, hdo⟩
    (findObj_own (attr := none) (by kernel_rfl) (by kernel_rfl) rfl (by rfl)) rfl h
theorem ex_edg {expr : Bool} {Q : Value → Shared → Prop} {c d : Addr} (C : Cx w s.heap) (hx : HasP s.heap (x, EXO dx)) (hd : HasP s.heap (dx, DX2 (.ref c) (.ref d))) (h : Q (.ref d) { s with toks := s.toks + 1 }) : wpAny (model P0 w) A (getAttr (.ref x) "edges" expr) Q E s := by
  obtain ⟨_, ho, vs, rfl, _⟩ := hx
  obtain ⟨_, hdo, h1, t1, h2, t2, n, rfl⟩ := hd
  exact ex_ga C (od := dictOf [⟨h1, .str "cycles" t1, .ref c⟩, ⟨h2, .str "edges" t2, .ref d⟩] n) ⟨ho, rfl, rfl, hdo⟩
    (findObj_own (attr := none) (by kernel_rfl) (by kernel_rfl) rfl (by rfl)) rfl h
end
end Mine
end
section
open PySem PySem.W PySem.Calls PyProof.Rows
set_option maxRecDepth 100000
set_option maxHeartbeats 1000000
set_option autoImplicit false
set_option linter.unusedVariables false
set_option linter.unusedSectionVars false
namespace Mine
inductive LocSet : List Str → List (Option Value) → Str → Option Value → List (Option Value) → Prop
  | head {x ns v u vs} : LocSet (x :: ns) (u :: vs) x v (v :: vs)
  | tail {x y ns v u vs vs'} : LocSet ns vs x v vs' → LocSet (y :: ns) (u :: vs) x v (u :: vs')
theorem LocSet.mem {ns vs x v vs'} (h : LocSet ns vs x v vs') : x ∈ ns := by
  induction h with
  | head => exact .head _
  | tail _ ih => exact .tail _ ih
theorem LocSet.locs {ns vs x v vs'} (nd : ns.Nodup) (h : LocSet ns vs x v vs') : (fun y => if y = x then v else locs ns vs y) = locs ns vs' := by
  induction h with
  | head =>
    funext y
    simp only [Mine.locs]
    split <;> rfl
  | tail h ih =>
    rename_i x y ns v u vs vs'
    rw [List.nodup_cons] at nd
    have hn : ¬ (x = y) := fun e => nd.1 (e ▸ h.mem)
    have ih' := ih nd.2
    funext z
    simp only [Mine.locs]
    by_cases hz : z = x
    · subst hz; rw [if_pos rfl, if_neg hn, ← ih']; simp
    · rw [← ih']; simp only [if_neg hz]
section
variable {w : World} {A : Around} {E : Value → Shared → Prop} {s : Shared} {env : Env} {G : Array GenState} {O : OsState} {V : View} {L : Addr} {ns : List Str} {vs : List (Option Value)} {own : List Kp} {fr : List Addr} {e : Addr} {oe : Obj} {h₀ : Heap}
/-- a name goes: bound to None, then unbound -/
theorem x_unbind {x : Str} {pos : Pos} {vs' : List (Option Value)} {Q : Unit → Shared → Prop} (F : Fm w G O V L ns vs own s) (en : En env L) (hx : env.kindOf x = some .local) (hp : LocPut ns vs x .none vs')
    {f : Option Value → List (Option Value)} (hs : ∀ u, LocSet ns vs' x u (f u)) (h : ∀ u s', Fm w G O V L ns (f u) own s' → Q () s') :
    wpAny (model P0 w) A (do bindName env x .none; unbindBehindTheSuite env x pos) Q E s := by
  refine wpAny_bind (wpAny_bindName (s_local F en hx hp fun s1 F1 => ?_))
  have hp0 : (env.scope.kind == .class || (env.scope.kind == .module && env.locals != env.globals)) = false := by rw [en.kind]; rfl
  unfold unbindBehindTheSuite
  refine wpAny_onRaise ?_
  unfold unbindName
  refine wpAny_bind (wpAny_point (wpAny_bind ?_))
  unfold deleteName
  simp only [hx, hp0]
  rw [if_neg (by decide)]
  refine wpAny_bind (wpAny_nsDel_keeps (m := locs ns vs') (by rw [en.loc]; exact F1.hns) fun h₂ u hn₂ hs₂ => ?_)
  have hm : (locs ns vs' x).isSome = true := by
    rw [← hp.locs F.nn]; simp
  rw [hm]
  simp only [Bool.not_true, Bool.false_eq_true, if_false]
  refine wpAny_pure (wpAny_point ?_)
  have hset := hs u
  rw [en.loc] at hn₂ hs₂
  exact h u _ ⟨F1.cx, F1.gens, F1.os, hset.locs F.nn ▸ hn₂, F1.nn, fun a o e => (hs₂.2 a (fun q => by subst q; rw [F1.vL] at e; cases e)).trans (F1.view a o e),
    fun p hp => (F1.hown p hp).keeps fun o e => (hs₂.2 _ (F1.oL p hp)).trans e, F1.vL, F1.oL, F1.vo, F1.nd⟩
theorem came_again {E' : Value → Shared → Prop} (hf : env.frame = some L) (F : Fl fr e oe h₀ (some (rawInt L)) s.heap) (h : ∀ h', Fl fr e oe h₀ (some (rawInt L)) h' → E' (.ref e) { s with heap := h' }) : cameBackBy (model P0 w) A env E' (.ref e) s := by
  obtain ⟨vs, he, hsz, hz2, T, oT, ts, h1, hn, hne, hnf, hT, hdT, h3⟩ := F.ob
  unfold cameBackBy
  refine wpAny_bind (wpAny_field he rfl h1 ?_)
  rw [if_neg (show ¬ ((Value.ref T == Value.none) = true) from by simp)]
  rw [hf]
  exact flight_set F fun h' F' => h h' F'
theorem ns_slots {h h' : Heap} {a : Addr} {m : Str → Option Value} (hn : h.Ns a m) (k : ∀ o, h.get? a = some o → ∃ sl, h'.get? a = some { o with slots := sl }) : h'.Ns a m := by
  obtain ⟨o, es, ep, ho, hd, r⟩ := hn
  obtain ⟨sl, hs⟩ := k o ho
  exact ⟨_, es, ep, hs, hd, r⟩
end
end Mine
end
section
open PySem PySem.W PySem.Calls PyProof.Rows
set_option maxRecDepth 100000
set_option maxHeartbeats 4000000
set_option autoImplicit false
set_option linter.unusedVariables false
set_option linter.unusedSectionVars false
namespace Mine
/-- all that is handed out from here on, and what is left in the end -/
inductive Drain (ps : List (Int × Int)) : List Int → List Int → List Int → List Int → Prop
  | stop {cur td : List Int} : nxt ps cur td = none → Drain ps cur td [] td
  | more {cur td : List Int} {x : Int} {cur' td' out tz : List Int} : nxt ps cur td = some (x, cur', td') → Drain ps cur' td' out tz → Drain ps cur td (x :: out) tz
/-- what a call leaves but for the slots of the frames fr: new things; new generators -/
structure ResG (fr : List Addr) (s s' : Shared) (news : List Kp) : Prop where
  keeps : ∀ b o, b ∉ fr → s.heap.get? b = some o → s'.heap.get? b = some o
  slot : ∀ b o, b ∈ fr → s.heap.get? b = some o → ∃ sl, s'.heap.get? b = some { o with slots := sl }
  g : GCh [] s.gens s'.gens
  os : s'.os = s.os
  fresh : ∀ p ∈ news, s.heap.get? p.1 = none
  nd : (news.map (·.1)).Nodup
  has : ∀ p ∈ news, HasP s'.heap p
theorem nxt_lt {ps : List (Int × Int)} {cur td : List Int} {x : Int} {cur' td' : List Int} (h : nxt ps cur td = some (x, cur', td')) : cur'.length + td'.length < cur.length + td.length := by
  unfold nxt at h
  cases cur with
  | cons y c =>
    simp only [Option.some.injEq, Prod.mk.injEq] at h
    obtain ⟨rfl, rfl, rfl⟩ := h
    simp
  | nil =>
    dsimp only at h
    have := part_len ps td
    cases q : outsF ps td with
    | nil => rw [q] at h; cases h
    | cons y c =>
      rw [q] at h this
      simp only [Option.some.injEq, Prod.mk.injEq] at h
      obtain ⟨rfl, rfl, rfl⟩ := h
      simp at this ⊢
      omega
theorem gch_comp {I : List Nat} {a b c : Array GenState} (x : GCh [] a b) (y : GCh I b c) (h : ∀ i ∈ I, a.size ≤ i) : GCh [] a c :=
  ⟨fun i z _ hz => y.keep i z (fun hm => by have := h i hm; have := (Array.getElem?_eq_some_iff.mp hz).1; omega) (x.keep i z (fun h => nomatch h) hz), fun hb => y.bare (x.bare hb)⟩
abbrev nsL : List Str := ["pairs", "items", "out", "ring", "edges", "item", "e"]
section
variable {w : World} {A : Around} {E : Value → Shared → Prop} {s : Shared} {env : Env} {G : Array GenState} {O : OsState} {V : View} {L : Addr} {ns : List Str} {vs : List (Option Value)} {own : List Kp}
theorem Fm.toResG {s₀ : Shared} (F : Fm w G s₀.os (hv s₀.heap) L ns vs own s) (hg : GCh [] s₀.gens G) {news : List Kp} (h : news.Sublist own) : ResG [] s₀ s news :=
  ⟨fun b o _ e => F.view b o e, fun _ _ hb => (nomatch hb), F.gens ▸ hg, F.os, fun p hp => F.vo p (h.subset hp), F.nd.sublist (h.map _), fun p hp => F.hown p (h.subset hp)⟩
theorem Fm.toResF {s₀ : Shared} {fr : List Addr} {h4 : Heap} (F : Fm w G s₀.os (fun b => if b ∈ fr then h4.get? b else s₀.heap.get? b) L ns vs own s) (hsl : ∀ b o, b ∈ fr → s₀.heap.get? b = some o → ∃ sl, h4.get? b = some { o with slots := sl })
    (hg : GCh [] s₀.gens G) {news : List Kp} (h : news.Sublist own) : ResG fr s₀ s news := by
  refine ⟨fun b o hb e => F.view b o (by show (if _ then _ else _) = _; rw [if_neg hb]; exact e), fun b o hb e => ?_, F.gens ▸ hg, F.os, fun p hp => ?_, F.nd.sublist (h.map _), fun p hp => F.hown p (h.subset hp)⟩
  · obtain ⟨sl, hs⟩ := hsl b o hb e
    exact ⟨sl, F.view b _ (by show (if _ then _ else _) = _; rw [if_pos hb]; exact hs)⟩
  · have hn := F.vo p (h.subset hp)
    cases e : s₀.heap.get? p.1 with
    | none => rfl
    | some o =>
      by_cases hb : p.1 ∈ fr
      · obtain ⟨sl, hs⟩ := hsl p.1 o hb e
        rw [if_pos hb, hs] at hn; cases hn
      · rw [if_neg hb, e] at hn; cases hn
/-- sort_call below a frame -/
theorem sort_callE {env : Env} (enk : env.scope.kind ≠ .module) {V : View} {lp li : Addr} {ps : List (Int × Int)} {xs : List Int} {outer : List Env} {cy : Prop} {Q : Value → Shared → Prop} (C : Cx w s.heap) (R : Rm A 5) (hV : V.le (hv s.heap)) (CV : CxV w V) (hp : VPL V lp ps) (hi : VP V (li, IL xs))
    (hD : ∀ p ∈ ps, D10 p) (hpl : ps.length ≤ 18) (hx : R10 xs) (hnd : xs.Nodup) (hcy : ∀ td : List Int, td ≠ [] → outsF ps td = [] → cy)
    (h : ∀ a H gs s', s'.gens = s.gens.push gs → gs.bare = true → s'.os = s.os → Keeps s.heap s'.heap → s'.heap.IsGen a s.gens.size → s.heap.get? a = none → a ∉ H → H.Nodup → (∀ x ∈ H, s.heap.get? x = none ∧ V x = none ∧ ∃ o, s'.heap.get? x = some o) →
      Rdy1 w s.os V ps (env :: outer) cy (xs.length + 1) [] xs H [] s'.heap gs → Q (.ref a) s') :
    wpAny (model P0 w) A (call (.ref 293) [.ref lp, .ref li]) Q E s := sort_call C R hV CV hp hi hD hpl hx hnd hcy h
theorem sorted_call {V : View} {lp li : Addr} {ps : List (Int × Int)} {xs : List Int} {outer : List Env} {cy : Prop} {Q : Value → Shared → Prop} (C : Cx w s.heap) (R : Rm A 50) (hV : V.le (hv s.heap)) (CV : CxV w V) (hp : VPL V lp ps) (hi : VP V (li, IL xs))
    (hD : ∀ p ∈ ps, D10 p) (hpl : ps.length ≤ 18) (hx : R10 xs) (hnd : xs.Nodup) (hxl : xs.length ≤ 100) (hcy : ∀ td : List Int, td ≠ [] → outsF ps td = [] → cy) (Cn : Cnd cy V outer [] A s)
    (h1 : ∀ r lo out s', Drain ps [] xs out [] → ResG [] s s' [(r, TP #[.ref lo, .none, .none]), (lo, IL out)] → Q (.ref r) s')
    (hE2 : cy → ∀ r lo out tz rg S eds q s', tz ≠ [] → Drain ps [] xs out tz → (∀ x, x ∈ S ↔ Cyc ps x) → (∀ p, p ∈ q.map (·.2) ↔ p ∈ ps) →
      ResG (frs outer) s s' ((r, TP #[.ref lo, .ref rg, .ref eds]) :: (lo, IL out) :: (rg, SP w S) :: (eds, PP w q) :: qtups q) → Q (.ref r) s') :
    wpAny (model P0 w) A (call (.ref 327) [.ref lp, .ref li]) Q E s := by
  refine wp_noE ?_
  refine f_call (ns := nsL) (by rfl) C (by decide) R.room (by kernel_rfl) (binds := [("pairs", .ref lp), ("items", .ref li)]) (.of_eq (by rfl)) fun env s' he en H => ?_
  have hL : s.heap.get? s.heap.objs.size = none := fresh_none _
  have enL : env.frame = some s.heap.objs.size := by rw [he]; rfl
  have enk : env.scope.kind ≠ .module := by rw [he]; exact (show ScopeKind.function ≠ .module by decide)
  have R' := R.deeper env
  have hfrA : cy → (A.deeper env).frames = some (env :: outer) := fun hc => by
    show A.frames.map _ = _
    rw [Cn.fr hc]; rfl
  generalize hAA : A.deeper env = AA at *
  have hhA : AA.handled = none := R'.hd
  clear hAA
  generalize hLL : s.heap.objs.size = L at *
  subst he
  refine s_local H en rfl .head fun s1 H => s_local H en rfl (.tail .head) fun s2 H => ⟨H.ctx, ?_⟩
  replace H : Fm w s.gens s.os (hv s.heap) L nsL [some (.ref lp), some (.ref li), none, none, none, none, none] [] s2 := H
  refine x_cons (x_swap3 H hhA (e_tuple (i_cons (e_list (i_nil (n_list H fun lo s3 H => i_cons (e_none (i_cons (e_none (i_nil (n_tuple H fun tp s4 H => ⟨tp, _, _, _, _, _, rfl, H.get (.head _), H, fun s5 H => ?_⟩)))))))))))
  refine s_local H en rfl (.tail (.tail (.tail (.tail .head)))) fun s6 H => s_local H en rfl (.tail (.tail (.tail .head))) fun s7 H => s_local H en rfl (.tail (.tail .head)) fun s8 H => ?_
  replace H : Fm w s.gens s.os (hv s.heap) L nsL [some (.ref lp), some (.ref li), some (.ref lo), some .none, some .none, none, none] [(lo, IL [])] s8 := (H.sub (own' := [(lo, LP #[])]) (.cons _ (.refl _))).weaken rfl fun q hq => by
    obtain rfl : q = (lo, IL []) := by simpa using hq
    obtain ⟨o, ho, hp⟩ := H.get (a := lo) (.tail _ (.head _)); exact ⟨o, ho, [], hp, .nil⟩
  refine x_cons (wpAny_Try_except ?_)
  refine x_cons (wpAny_For ?_)
  have hVL : V L = none := by
    cases e : V L with
    | none => rfl
    | some o => have := hV _ _ e; rw [hv, hL] at this; cases this
  have hVs : V.le (hv s8.heap) := hV.trans H.view
  refine e_call (e_glob H en rfl (gv_sort w) (c_with (keep_fn (f := 293) rfl rfl) (i_cons (e_local H en rfl .head (i_cons (e_local H en rfl (.tail .head) (i_nil ⟨H.ctx, ?_⟩)))))))
  refine sort_callE enk (V := V) (outer := outer) (cy := cy) H.ctx (R'.mono (by decide)) hVs CV hp hi hD hpl hx hnd hcy fun a2 H2 gs2 s9 hg9 hb9 hos9 hk9 hgen9 ha9 haH nd9 hH9 hrd => ?_
  obtain ⟨g2, hg2'⟩ : ∃ g, g = s8.gens.size := ⟨_, rfl⟩
  have hg2 := hg2'.symm
  rw [hg2] at hgen9
  have F9 := H.step (H := []) (h := s9.heap) (H' := H2) (s₁ := s9) (fun b o _ e => hk9 b o e) hos9 nd9 (fun x hx => ⟨.inr (hH9 x hx).1, (hH9 x hx).2.2⟩)
  obtain ⟨n1, n2, n3⟩ := H.none_of ha9
  have F9' := (F9.adopt (p := GenP g2) n1 n2 (by
    rw [List.map_append, exK_map]
    intro hm
    rcases List.mem_append.mp hm with hm | hm
    · exact haH hm
    · exact n3 hm) (GenP.of hgen9)).perm (own' := exK s9.heap H2 ++ [(a2, GenP g2), (lo, IL [])]) List.perm_middle
  clear F9
  refine wpAny_pyIter_gen hgen9 ?_
  have hgz : s.gens.size ≤ g2 := by rw [hg2', H.gens]; exact Nat.le_refl _
  refine codeAny_forLoop (fun k s' => ∃ cur td acc H2 gq gs h2 N u, k = cur.length + td.length ∧ k < N ∧ acc.length + k ≤ xs.length ∧ (∀ out tz, Drain ps cur td out tz → Drain ps [] xs (acc ++ out) tz) ∧
      Fm w s'.gens s.os (hv s.heap) L nsL [some (.ref lp), some (.ref li), some (.ref lo), some .none, some .none, u, none] (exK h2 H2 ++ [(a2, GenP g2), (lo, IL acc)]) s' ∧
      Rdy1 w s8.os V ps (_ :: outer) cy N cur td H2 gq h2 gs ∧ s'.gens[g2]? = some gs ∧ GCh [] s.gens s'.gens ∧ (∀ q ∈ gq, s.gens.size ≤ q.1 ∧ q.1 ≠ g2 ∧ s'.gens[q.1]? = some q.2)) ?_ (0 + xs.length)
    ⟨[], xs, [], H2, [], gs2, s9.heap, xs.length + 1, none, rfl, by omega, by simp, fun _ _ d => d, F9', hrd, by rw [hg9, ← hg2]; exact Array.getElem?_push_size, by rw [hg9, H.gens]; exact GCh.push _ hb9, fun _ h => nomatch h⟩
  clear hrd F9' nd9 hH9 haH hb9 hg9 hk9 hos9
  rintro k s10 ⟨cur, td, acc, H2, gq, gs, h2, N, u, rfl, hkN, hal, hdr, HH, hrd, hgs, hgc, hgq⟩
  obtain ⟨N, rfl⟩ : ∃ m, N = m + 1 := ⟨N - 1, by omega⟩
  have os8 : s8.os = s.os := H.os
  clear H
  have hH2own : ∀ a ∈ H2, ∃ p ∈ exK h2 H2 ++ [(a2, GenP g2), (lo, IL acc)], p.1 = a := fun a ha => ⟨_, List.mem_append_left _ (List.mem_map.mpr ⟨a, ha, rfl⟩), rfl⟩
  have hH2V : ∀ a ∈ H2, s.heap.get? a = none := fun a ha => by obtain ⟨p, hp, rfl⟩ := hH2own a ha; exact HH.vo p hp
  have hLH : L ∉ H2 := fun hm => by obtain ⟨p, hp, e⟩ := hH2own L hm; exact HH.oL p hp e
  have hV10 : V.le (hv s10.heap) := hV.trans HH.view
  have hout : cy → ∀ b ∈ frs outer, ∃ o, s.heap.get? b = some o := fun hc b hb => let ⟨o, ho, _⟩ := FF.mem (Cn.ff hc) hb; ⟨o, ho⟩
  have hffo : cy → FF s10.heap outer := fun hc => FF.tr (Cn.ff hc) fun b hb o ho => ⟨o.slots, HH.view b o ho⟩
  obtain ⟨oL, esL, epL, hoL, hdL, _⟩ := id HH.hns
  have hndO := HH.nd
  rw [List.map_append, exK_map, List.nodup_append] at hndO
  have ha2H : a2 ∉ H2 := fun hm => hndO.2.2 a2 hm a2 (by simp) rfl
  have hloH : lo ∉ H2 := fun hm => hndO.2.2 lo hm lo (by simp) rfl
  have hlt2 : g2 < s10.gens.size := (Array.getElem?_eq_some_iff.mp hgs).1
  have hgo := hrd AA.in1 (s10.setGen g2 .running) ((R'.mono (j := 41) (by decide)).in1) ⟨fun hc => hfrA hc, fun hc => ff_cons enk enL hoL (fun vs q => by rw [hdL] at q; cases q) (hffo hc), fun hc b hb => ?_⟩ HH.same hV10 (HH.os.trans os8.symm) (fun q hq => ?_)
  rotate_left
  · rw [frs_cons enL] at hb
    rcases List.mem_cons.mp hb with rfl | hb
    · exact ⟨hVL, hLH⟩
    · refine ⟨(Cn.vn hc b hb).1, fun hm => ?_⟩
      obtain ⟨o, ho⟩ := hout hc b hb
      rw [hH2V b hm] at ho; cases ho
  · show (s10.gens.setIfInBounds g2 .running)[q.1]? = _
    rw [Array.getElem?_setIfInBounds_ne (Ne.symm (hgq q hq).2.1)]
    exact (hgq q hq).2.2
  have hgc' : GCh [] s.gens (s10.setGen g2 .running).gens := gch_set hgc (.inr hgz) rfl
  have hI : ∀ i ∈ gq.map (·.1), s.gens.size ≤ i := fun i hi => by obtain ⟨q, hq, rfl⟩ := List.mem_map.mp hi; exact (hgq q hq).1
  refine w_genNext (g := g2) (gs := gs) hhA HH.ctx.nolimit R'.room (GenP.is (HH.get (List.mem_append_right _ (.head _)))) hgs hgo (fun x s11 hx11 => ?_) (fun v gs' s11 hb hv11 => ?_)
  · obtain ⟨hnone, hx11⟩ := hx11
    have hfin := hdr [] td (.stop hnone)
    rw [List.append_nil] at hfin
    rcases hx11 with ⟨rfl, rfl, hch⟩ | ⟨hc, htd, hex, hgx⟩
    · refine .inl ⟨rfl, fun h' hk' => ?_⟩
      have HE := HH.step (H := H2) (H' := []) (s₁ := { s11.setGen g2 .finished with heap := h' }) (fun b o hb e => hk' b o (hch.keep b o hb e)) hch.os .nil (fun _ h => nomatch h)
      refine x_nil (x_nil (x_nil ?_))
      refine x_cons (x_Return (e_tuple (i_cons (e_local HE en rfl (.tail (.tail .head)) (i_cons (e_local HE en rfl (.tail (.tail (.tail .head))) (i_cons (e_local HE en rfl (.tail (.tail (.tail (.tail .head)))) (i_nil (n_tuple HE fun tp s12 HE => ?_)))))))))) 
      refine h1 tp lo acc s12 hfin (HE.toResG ?_ (.cons_cons _ (.cons _ (.refl _))))
      exact gch_set (gch_comp hgc' hch.g hI) (.inr hgz) rfl
    · right
      obtain ⟨fr, e, dx, te, r, SS, eds, q, h₀, hfrI, hfrO, rfl, F, hkp, hnews, hfresh, hndn, hSS, hq, hon⟩ := hex
      have frE := frs_cons (outer := outer) enL
      have hfresh' : ∀ a ∈ e :: (newsX w dx r eds SS q).map (·.1), s10.heap.get? a = none := fun a ha => (hfresh a ha).1
      have hLo : L ∉ frs outer := fun hm => by obtain ⟨o, ho⟩ := hout hc L hm; rw [hL] at ho; cases ho
      have hfr' : ∀ b ∈ fr, b = L ∨ b ∈ frs outer ∨ b ∈ H2 ∨ s10.heap.get? b = none := fun b hb => by
        rcases hfrI b hb with h | h | h
        · rw [frE] at h
          rcases List.mem_cons.mp h with h | h
          · exact .inl h
          · exact .inr (.inl h)
        · exact .inr (.inr (.inl h))
        · exact .inr (.inr (.inr h))
      have toh : ∀ fl h', Fl fr e (exO (some dx) te) h₀ fl h' → ∀ b o, b ∉ H2 → b ≠ L → b ∉ frs outer → s10.heap.get? b = some o → h'.get? b = some o := fun fl h' F' b o a1 a2 a3 a4 =>
        F'.tr.keep b o (fun q => by rw [q, hfresh' e (.head _)] at a4; cases a4) (fun hm => by
          rcases hfr' b hm with h | h | h | h
          · exact a2 h
          · exact a3 h
          · exact a1 h
          · rw [h] at a4; cases a4) (hkp b o a1 a4)
      have hoOut : ∀ p ∈ exK h2 H2 ++ [(a2, GenP g2), (lo, IL acc)], p.1 ∉ frs outer := fun p hp hm => by
        obtain ⟨o, ho⟩ := hout hc _ hm
        have := HH.vo p hp
        rw [hv, ho] at this; cases this
      have ma2 : (a2, GenP g2) ∈ exK h2 H2 ++ [(a2, GenP g2), (lo, IL acc)] := List.mem_append_right _ (.head _)
      have mlo : (lo, IL acc) ∈ exK h2 H2 ++ [(a2, GenP g2), (lo, IL acc)] := List.mem_append_right _ (.tail _ (.head _))
      obtain ⟨oa, hoa, hga⟩ := HH.get ma2
      obtain ⟨olo, hlo, hlop⟩ := HH.get mlo
      have hV11 : V.le (hv s11.heap) := fun b o hb => toh _ _ F b o (fun hm => by have := hV _ _ hb; rw [hv, hH2V b hm] at this; cases this) (fun q => by rw [q, hVL] at hb; cases hb) (fun hm => by rw [(Cn.vn hc b hm).1] at hb; cases hb) (hV10 b o hb)
      obtain ⟨vse, hoe, _⟩ := F.ob
      refine ⟨e, _, rfl, GenP.is ⟨oa, toh _ _ F a2 oa ha2H (HH.oL _ ma2) (hoOut _ ma2) hoa, hga⟩, CV.at hV11, hoe, rfl, ?_⟩
      have hffA := ff_cons (outer := outer) (h := h₀) enk enL (hkp L oL hLH hoL) (fun vs q => by rw [hdL] at q; cases q) (FF.tr (hffo hc) fun b hb o ho => ⟨o.slots, hkp b o (fun hm => by
        obtain ⟨o', ho'⟩ := hout hc b hb
        rw [hH2V b hm] at ho'; cases ho') ho⟩)
      have mk : ∀ (s' : Shared), Fl fr e (exO (some dx) te) h₀ (some .none) s'.heap → s'.os = s.os →
          Fm w s'.gens s.os (fun b => if b ∈ frs outer then s'.heap.get? b else s.heap.get? b) L nsL [some (.ref lp), some (.ref li), some (.ref lo), some .none, some .none, u, none] ((lo, IL acc) :: (e, EXO dx) :: newsX w dx r eds SS q) s' ∧
          (∀ b o, b ∈ frs outer → s.heap.get? b = some o → ∃ sl, s'.heap.get? b = some { o with slots := sl }) := fun s' F' os' => by
        have hnone : ∀ a ∈ e :: (newsX w dx r eds SS q).map (·.1), s.heap.get? a = none := fun a ha => by
          cases e1 : s.heap.get? a with
          | none => rfl
          | some o => have := HH.view a o e1; rw [hv, hfresh' a ha] at this; cases this
        have hnV : ∀ a, s.heap.get? a = none → (fun b => if b ∈ frs outer then s'.heap.get? b else s.heap.get? b) a = none := fun a ha => by
          have : a ∉ frs outer := fun hm => by obtain ⟨o, ho⟩ := hout hc a hm; rw [ha] at ho; cases ho
          dsimp only
          rw [if_neg this]; exact ha
        refine ⟨⟨CV.mono fun a o ha => ?_, rfl, os', ns_slots (h := h₀) (HH.hns.at' fun o e => hkp L o hLH e) (fun o ho => F'.tr.slot L o (hfrO L (by rw [frE]; exact .head _)) ho), HH.nn, fun a o ha => ?_, fun p hp => ?_, hnV L hL, fun p hp => ?_, fun p hp => ?_, ?_⟩, fun b o hb ho => ?_⟩
        · have : a ∉ frs outer := fun hm => by rw [(Cn.vn hc a hm).1] at ha; cases ha
          show (if _ then _ else _) = _
          rw [if_neg this]; exact hV a o ha
        · by_cases hm : a ∈ frs outer
          · rw [if_pos hm] at ha; exact ha
          · rw [if_neg hm] at ha
            exact toh _ _ F' a o (fun h => by rw [hH2V a h] at ha; cases ha) (fun h => by rw [h, hL] at ha; cases ha) hm (HH.view a o ha)
        · rcases List.mem_cons.mp hp with rfl | hp
          · exact ⟨olo, toh _ _ F' lo olo hloH (HH.oL _ mlo) (hoOut _ mlo) hlo, hlop⟩
          rcases List.mem_cons.mp hp with rfl | hp
          · obtain ⟨vs', he', _, hz, _⟩ := F'.ob
            exact ⟨_, he', vs', rfl, hz⟩
          · obtain ⟨o, ho, hpo⟩ := hnews p hp
            have hm : p.1 ∈ (newsX w dx r eds SS q).map (·.1) := List.mem_map.mpr ⟨p, hp, rfl⟩
            exact ⟨o, F'.tr.keep _ o (fun h => (List.nodup_cons.mp hndn).1 (h ▸ hm)) (hfresh p.1 (.tail _ hm)).2 ho, hpo⟩
        · rcases List.mem_cons.mp hp with rfl | hp
          · exact HH.oL _ mlo
          · intro h
            have := hfresh' p.1 (by
              rcases List.mem_cons.mp hp with rfl | hp
              · exact .head _
              · exact .tail _ (List.mem_map.mpr ⟨p, hp, rfl⟩))
            rw [h, hoL] at this; cases this
        · rcases List.mem_cons.mp hp with rfl | hp
          · exact hnV lo (HH.vo _ mlo)
          · exact hnV p.1 (hnone p.1 (by
              rcases List.mem_cons.mp hp with rfl | hp
              · exact .head _
              · exact .tail _ (List.mem_map.mpr ⟨p, hp, rfl⟩)))
        · refine List.nodup_cons.mpr ⟨fun hm => ?_, hndn⟩
          have := hfresh' lo hm
          rw [hlo] at this; cases this
        · obtain ⟨sl, hs⟩ := F'.tr.slot b o (hfrO b (by rw [frE]; exact .tail _ hb)) (hkp b o (fun hm => by rw [hH2V b hm] at ho; cases ho) (HH.view b o ho))
          exact ⟨sl, hs⟩
      have hgE : GCh [] s.gens (s11.setGen g2 .finished).gens := gch_set (gch_comp hgc' hgx hI) (.inr hgz) rfl
      have osE : s11.os = s.os := hon.trans HH.os
      refine note_next (s := s11.setGen g2 .finished) (h₀ := h₀) (outer := outer) (hfrA hc) hffA (fun b hb => hfrO b hb) enL F fun h1' F1 => ?_
      refine came_again (s := { s11.setGen g2 .finished with heap := h1' }) enL F1 fun h2' F2 => ?_
      refine note_again enL F2 ?_
      refine flight_set (f := none) F2 fun h3' F3 => ?_
      obtain ⟨H3, _⟩ := mk { s11.setGen g2 .finished with heap := h3' } F3 osE
      refine wpAny_handleBy_cons (codeAny_handlers_test ?_) (by intro q; cases q)
      obtain ⟨vs3, he3, _⟩ := F3.ob
      refine e_glob H3 en rfl (gv_CDE w) (ex_matches H3.ctx he3 rfl ?_)
      refine codeAny_handlers_suite_as (flight_set (f := none) F3 fun h4' F4 => ?_)
      obtain ⟨H4, sl4⟩ := mk { s11.setGen g2 .finished with heap := h4' } F4 osE
      refine s_local H4 en rfl (.tail (.tail (.tail (.tail (.tail (.tail .head)))))) fun s13 H => ?_
      have mdx : (dx, DX2 (.ref r) (.ref eds)) ∈ (lo, IL acc) :: (e, EXO dx) :: newsX w dx r eds SS q := .tail _ (.tail _ (.head _))
      refine x_cons (x_swap2H H (e_tuple (i_cons (Attribute_name (e_local H en rfl (.tail (.tail (.tail (.tail (.tail (.tail .head)))))) (ex_cyc H.ctx (H.get (.tail _ (.head _))) (H.get mdx) (i_cons (Attribute_name (e_local (H.tok _) en rfl (.tail (.tail (.tail (.tail (.tail (.tail .head)))))) (ex_edg H.ctx (H.get (.tail _ (.head _))) (H.get mdx) (i_nil (n_tuple ((H.tok _).tok _) fun tq s14 H => ?_))))))))))))
      refine ⟨tq, _, _, _, _, rfl, H.get (.head _), .inr ⟨e, dx, rfl, .tail _ (.tail _ (.head _))⟩, H, fun s15 H => ?_⟩
      refine s_local H en rfl (.tail (.tail (.tail (.tail .head)))) fun s16 H => s_local H en rfl (.tail (.tail (.tail .head))) fun s17 H => x_nil ?_
      refine x_unbind H en rfl (.tail (.tail (.tail (.tail (.tail (.tail .head)))))) (fun u => (.tail (.tail (.tail (.tail (.tail (.tail .head))))))) fun u' s18 H => ?_
      refine x_cons (x_Return (e_tuple (i_cons (e_local H en rfl (.tail (.tail .head)) (i_cons (e_local H en rfl (.tail (.tail (.tail .head))) (i_cons (e_local H en rfl (.tail (.tail (.tail (.tail .head)))) (i_nil (n_tuple H fun tp s19 H => ?_)))))))))) 
      exact hE2 hc tp lo acc td r SS eds q s19 htd hfin hSS hq (H.toResF sl4 hgE (.cons_cons _ (.cons _ (.cons_cons _ (.cons _ (.cons _ (.refl _)))))))
  · obtain ⟨x, t, cur', td', H2', gq', hnx, rfl, hch, nd', hH', hgq', hrd'⟩ := hv11
    have F11 := (HH.step (H := H2) (H' := H2') (s₁ := s11) hch.keep hch.os nd' (fun a ha => ⟨(hH' a ha).1, (hH' a ha).2.2⟩)).regen (s' := s11.setGen g2 gs') rfl rfl
    have hlt11 : g2 < s11.gens.size := by
      have := hch.g.keep g2 .running (fun hm => by obtain ⟨q, hq, e⟩ := List.mem_map.mp hm; exact (hgq q hq).2.1 e) (show (s10.gens.setIfInBounds g2 .running)[g2]? = _ from Array.getElem?_setIfInBounds_self_of_lt (by simpa using hlt2))
      exact (Array.getElem?_eq_some_iff.mp this).1
    have hlx := nxt_lt hnx
    have hgc11 : GCh [] s.gens (s11.setGen g2 gs').gens := gch_set (gch_comp hgc' hch.g hI) (.inr hgz) hb
    refine a_Name (s_local F11 en rfl (.tail (.tail (.tail (.tail (.tail .head))))) fun s12 H12 => ?_)
    replace H12 := H12.perm (own' := (lo, IL acc) :: (exK s11.heap H2' ++ [(a2, GenP g2)])) (by
      have p1 : List.Perm ((exK s11.heap H2' ++ [(a2, GenP g2)]) ++ [(lo, IL acc)]) ((lo, IL acc) :: (exK s11.heap H2' ++ [(a2, GenP g2)])) := List.perm_append_singleton _ _
      rw [List.append_assoc] at p1
      exact p1.symm)
    obtain ⟨ol, hol, vl, ⟨nl, rfl⟩, hvl⟩ := H12.get (a := lo) (p := IL acc) (.head _)
    refine x_cons (x_Expr (e_mcall (e_local H12 en rfl (.tail (.tail .head)) (gm_list F.slot_list_append F.type_list_append ⟨_, hol, nl, rfl⟩ (c_with keep_builtin (i_cons (e_local H12 en rfl (.tail (.tail (.tail (.tail (.tail .head))))) (i_nil ⟨H12.ctx, ?_⟩)))))) (by rfl)) (by rfl))
    refine k_appendI H12 (i := 0) rfl (by omega) fun s13 H13 => ⟨rfl, x_nil ⟨cur'.length + td'.length, hlx, ?_⟩⟩
    have hg13 : s13.gens = (s11.setGen g2 gs').gens := H13.gens
    replace H13 := (H13.perm (own' := exK s11.heap H2' ++ [(a2, GenP g2), (lo, IL (acc ++ [x]))]) (by
      have p1 : List.Perm ((exK s11.heap H2' ++ [(a2, GenP g2)]) ++ [(lo, IL (acc ++ [x]))]) ((lo, IL (acc ++ [x])) :: (exK s11.heap H2' ++ [(a2, GenP g2)])) := List.perm_append_singleton _ _
      rw [List.append_assoc] at p1
      exact p1)).gens'
    refine ⟨cur', td', acc ++ [x], H2', gq', gs', s11.heap, N, _, rfl, by omega, by simp; omega, fun out tz d => ?_, H13, hrd', ?_, ?_, fun q hq => ?_⟩
    · have := hdr _ _ (.more hnx d)
      simpa using this
    · rw [hg13]; exact Array.getElem?_setIfInBounds_self_of_lt hlt11
    · rw [hg13]; exact hgc11
    · obtain ⟨q1, q2⟩ := hgq' q hq
      have q3 : s.gens.size ≤ q.1 ∧ q.1 ≠ g2 := by
        rcases q1 with q1 | q1
        · obtain ⟨q', hq', e⟩ := List.mem_map.mp q1
          rw [← e]; exact ⟨(hgq q' hq').1, (hgq q' hq').2.1⟩
        · have e1 : (s10.setGen g2 .running).gens.size = s10.gens.size := Array.size_setIfInBounds
          rw [e1] at q1
          exact ⟨by omega, by omega⟩
      refine ⟨q3.1, q3.2, ?_⟩
      rw [hg13]
      show (s11.gens.setIfInBounds g2 gs')[q.1]? = _
      rw [Array.getElem?_setIfInBounds_ne (Ne.symm q3.2)]
      exact q2
end
end Mine
end
section
open PySem PySem.W PySem.Calls PyProof.Rows PySem.SeqAt
set_option maxRecDepth 100000
set_option maxHeartbeats 1000000
set_option autoImplicit false
set_option linter.unusedVariables false
set_option linter.unusedSectionVars false
namespace Mine
/-! comparisons, sums, sorted -/
theorem all_ints : ∀ {vs ws : List Value} {xs ys : List Int}, IntsAre vs xs → IntsAre ws ys → vs.length = ws.length → (∀ (A : Around) (s : Shared) j (h1 : j < vs.toArray.size) (h2 : j < ws.toArray.size), EqAt A s vs.toArray[j] ws.toArray[j] (xs.getD j 0 == ys.getD j 0)) := by
  intro vs ws xs ys hv hw hl A s j h1 h2
  induction hv generalizing ws ys j with
  | nil => simp at h1
  | cons n t hv ih =>
    cases hw with
    | nil => simp at h2
    | cons m u hw =>
      cases j with
      | zero => exact EqAt.int_int n t m u
      | succ j =>
        have := ih hw (by simpa using hl) j (by simpa using h1) (by simpa using h2)
        simp only [List.getElem_toArray, List.getElem_cons_succ, List.getD_cons_succ] at this ⊢
        exact this
theorem all_dec : ∀ {xs ys : List Int}, xs.length = ys.length → (List.range xs.length).all (fun j => xs.getD j 0 == ys.getD j 0) = decide (xs = ys) := by
  intro xs ys hl
  rw [Bool.eq_iff_iff, decide_eq_true_eq, List.all_eq_true]
  constructor
  · intro h
    apply List.ext_getElem hl
    intro i h1 h2
    have := h i (List.mem_range.mpr h1)
    simpa [List.getD_eq_getElem?_getD, h1, h2] using this
  · rintro rfl i _
    simp
section
variable {w : World} {A : Around} {E : Value → Shared → Prop} {s : Shared} {env : Env} {G : Array GenState} {O : OsState} {V : View} {L : Addr} {ns : List Str} {vs : List (Option Value)} {own : List Kp}
theorem rc_eqL {l b : Addr} {xs ys : List Int} (hl : HasP s.heap (l, IL xs)) (hb : HasP s.heap (b, IL ys)) (hu : A.units < cLine) : RcAt A s (.ref l) (.ref b) (decide (xs = ys)) := by
  obtain ⟨o, ho, v, ⟨n, rfl⟩, hv⟩ := hl
  obtain ⟨o2, ho2, v2, ⟨n2, rfl⟩, hv2⟩ := hb
  have e1 := hv.length
  have e2 := hv2.length
  by_cases he : xs.length = ys.length
  · have h := RcAt.lists (e := fun j => xs.getD j 0 == ys.getD j 0) ⟨_, ho, rfl, n, rfl⟩ ⟨_, ho2, rfl, n2, rfl⟩ (by simp; omega) hu (fun j h1 h2 => all_ints hv hv2 (by omega) A.in1 s j h1 h2)
    have e3 : v.toArray.size = xs.length := by simp [e1]
    rw [e3, all_dec he] at h
    exact h
  · have h := RcAt.lists_lengths (A := A) ⟨_, ho, rfl, n, rfl⟩ ⟨_, ho2, rfl, n2, rfl⟩ (by simp; omega) hu
    rw [show decide (xs = ys) = false from decide_eq_false (fun q => he (by rw [q]))]
    exact h
theorem rc_neL {l b : Addr} {xs ys : List Int} (hl : HasP s.heap (l, IL xs)) (hb : HasP s.heap (b, IL ys)) (hu : A.units < cLine) : RcNeAt A s (.ref l) (.ref b) (!decide (xs = ys)) := by
  obtain ⟨o, ho, v, ⟨n, rfl⟩, hv⟩ := hl
  obtain ⟨o2, ho2, v2, ⟨n2, rfl⟩, hv2⟩ := hb
  have e1 := hv.length
  have e2 := hv2.length
  by_cases he : xs.length = ys.length
  · have h := RcNeAt.lists (e := fun j => xs.getD j 0 == ys.getD j 0) ⟨_, ho, rfl, n, rfl⟩ ⟨_, ho2, rfl, n2, rfl⟩ (by simp; omega) hu (fun j h1 h2 => all_ints hv hv2 (by omega) A.in1 s j h1 h2)
    have e3 : v.toArray.size = xs.length := by simp [e1]
    rw [e3, all_dec he] at h
    exact h
  · have h := RcNeAt.lists_lengths (A := A) ⟨_, ho, rfl, n, rfl⟩ ⟨_, ho2, rfl, n2, rfl⟩ (by simp; omega) hu
    rw [show decide (xs = ys) = false from decide_eq_false (fun q => he (by rw [q]))]
    exact h
theorem c_eqL {l b : Addr} {xs ys : List Int} {Q : Value → Shared → Prop} (R : Rm A 2) (hl : HasP s.heap (l, IL xs)) (hb : HasP s.heap (b, IL ys)) (h : Q (.bool (decide (xs = ys))) s) : wpAny (model P0 w) A (compareOp .Eq (.ref l) (.ref b)) Q E s :=
  rc_eqL hl hb R.cl P0 w E Q h
theorem c_neL {l b : Addr} {xs ys : List Int} {Q : Value → Shared → Prop} (R : Rm A 2) (hl : HasP s.heap (l, IL xs)) (hb : HasP s.heap (b, IL ys)) (h : Q (.bool (!decide (xs = ys))) s) : wpAny (model P0 w) A (compareOp .NotEq (.ref l) (.ref b)) Q E s :=
  rc_neL hl hb R.cl P0 w E Q h
/-- the two of two pairs of lists -/
theorem two_lists {a b c d : Addr} {xs ys zs us : List Int} {A : Around} (R : Rm A 2) (ha : HasP s.heap (a, IL xs)) (hb : HasP s.heap (b, IL ys)) (hc : HasP s.heap (c, IL zs)) (hd : HasP s.heap (d, IL us)) (n1 : a ≠ c) (n2 : b ≠ d) :
    ∀ j (h1 : j < #[Value.ref a, .ref b].size) (h2 : j < #[Value.ref c, .ref d].size), EqAt A s #[Value.ref a, .ref b][j] #[Value.ref c, .ref d][j] ([decide (xs = zs), decide (ys = us)].getD j false) := by
  intro j h1 h2
  match j, h1, h2 with
  | 0, _, _ => exact EqAt.of_refs n1 (rc_eqL ha hc R.cl)
  | 1, _, _ => exact EqAt.of_refs n2 (rc_eqL hb hd R.cl)
theorem c_eqTT {t u a b c d : Addr} {xs ys zs us : List Int} {Q : Value → Shared → Prop} (R : Rm A 4) (ht : HasP s.heap (t, TP #[.ref a, .ref b])) (hu : HasP s.heap (u, TP #[.ref c, .ref d])) (ha : HasP s.heap (a, IL xs)) (hb : HasP s.heap (b, IL ys)) (hc : HasP s.heap (c, IL zs)) (hd : HasP s.heap (d, IL us)) (n1 : a ≠ c) (n2 : b ≠ d)
    (h : Q (.bool (decide (xs = zs) && decide (ys = us))) s) : wpAny (model P0 w) A (compareOp .Eq (.ref t) (.ref u)) Q E s := by
  obtain ⟨o, ho, rfl⟩ := ht
  obtain ⟨o2, ho2, rfl⟩ := hu
  refine eq_tupleAt (e := fun j => [decide (xs = zs), decide (ys = us)].getD j false) ⟨_, ho, rfl, 0, rfl⟩ ⟨_, ho2, rfl, 0, rfl⟩ (R.mono (by decide) : Rm A 1).cl (two_lists (R.mono (by decide) : Rm A 3).in1 ha hb hc hd n1 n2) ?_
  have e : ((List.range (min #[Value.ref a, .ref b].size #[Value.ref c, .ref d].size)).all (fun j => [decide (xs = zs), decide (ys = us)].getD j false) && #[Value.ref a, .ref b].size == #[Value.ref c, .ref d].size) = (decide (xs = zs) && decide (ys = us)) := by
    have r : List.range (min #[Value.ref a, .ref b].size #[Value.ref c, .ref d].size) = [0, 1] := by rfl
    rw [r]; simp
  rw [e]; exact h
theorem c_neTT {t u a b c d : Addr} {xs ys zs us : List Int} {Q : Value → Shared → Prop} (R : Rm A 4) (ht : HasP s.heap (t, TP #[.ref a, .ref b])) (hu : HasP s.heap (u, TP #[.ref c, .ref d])) (ha : HasP s.heap (a, IL xs)) (hb : HasP s.heap (b, IL ys)) (hc : HasP s.heap (c, IL zs)) (hd : HasP s.heap (d, IL us)) (n1 : a ≠ c) (n2 : b ≠ d)
    (h : Q (.bool (!(decide (xs = zs) && decide (ys = us)))) s) : wpAny (model P0 w) A (compareOp .NotEq (.ref t) (.ref u)) Q E s := by
  obtain ⟨o, ho, rfl⟩ := ht
  obtain ⟨o2, ho2, rfl⟩ := hu
  refine RcNeAt.tuples (e := fun j => [decide (xs = zs), decide (ys = us)].getD j false) ⟨_, ho, rfl, 0, rfl⟩ ⟨_, ho2, rfl, 0, rfl⟩ (R.mono (by decide) : Rm A 1).cl (two_lists (R.mono (by decide) : Rm A 3).in1 ha hb hc hd n1 n2) P0 w E Q ?_
  have e : ((List.range (min #[Value.ref a, .ref b].size #[Value.ref c, .ref d].size)).all (fun j => [decide (xs = zs), decide (ys = us)].getD j false) && #[Value.ref a, .ref b].size == #[Value.ref c, .ref d].size) = (decide (xs = zs) && decide (ys = us)) := by
    have r : List.range (min #[Value.ref a, .ref b].size #[Value.ref c, .ref d].size) = [0, 1] := by rfl
    rw [r]; simp
  rw [e]; exact h
theorem c_neT3 {t u : Addr} {a b c a' b' c' : Bool} {Q : Value → Shared → Prop} (R : Rm A 4) (ht : HasP s.heap (t, TP #[.bool a, .bool b, .bool c])) (hu : HasP s.heap (u, TP #[.bool a', .bool b', .bool c']))
    (h : Q (.bool (!(a == a' && (b == b' && c == c')))) s) : wpAny (model P0 w) A (compareOp .NotEq (.ref t) (.ref u)) Q E s := by
  obtain ⟨o, ho, rfl⟩ := ht
  obtain ⟨o2, ho2, rfl⟩ := hu
  refine RcNeAt.tuples (e := fun j => [a == a', b == b', c == c'].getD j false) ⟨_, ho, rfl, 0, rfl⟩ ⟨_, ho2, rfl, 0, rfl⟩ (R.mono (by decide) : Rm A 1).cl (fun j h1 h2 => ?_) P0 w E Q ?_
  · match j, h1, h2 with
    | 0, _, _ => exact EqAt.bool_bool a a'
    | 1, _, _ => exact EqAt.bool_bool b b'
    | 2, _, _ => exact EqAt.bool_bool c c'
  have e : ((List.range (min #[Value.bool a, .bool b, .bool c].size #[Value.bool a', .bool b', .bool c'].size)).all (fun j => [a == a', b == b', c == c'].getD j false) && #[Value.bool a, .bool b, .bool c].size == #[Value.bool a', .bool b', .bool c'].size) = (a == a' && (b == b' && c == c')) := by
    have r : List.range (min #[Value.bool a, .bool b, .bool c].size #[Value.bool a', .bool b', .bool c'].size) = [0, 1, 2] := by rfl
    rw [r]; simp
  rw [e]; exact h
theorem b_addL {l b : Addr} {xs ys : List Int} {Q : Value → Shared → Prop} (F : Fm w G O V L ns vs own s) (hl : HasP s.heap (l, IL xs)) (hb : HasP s.heap (b, IL ys)) (hz : xs.length + ys.length ≤ 1000)
    (h : ∀ r s', Fm w G O V L ns vs ((r, IL (xs ++ ys)) :: own) s' → Q (.ref r) s') : wpAny (model P0 w) A (binaryOp .Add (.ref l) (.ref b)) Q E s := by
  obtain ⟨o, ho, v, ⟨n, rfl⟩, hv⟩ := hl
  obtain ⟨o2, ho2, v2, ⟨n2, rfl⟩, hv2⟩ := hb
  have e1 := hv.length
  have e2 := hv2.length
  have e : v.toArray ++ v2.toArray = (v ++ v2).toArray := by simp
  refine concat_meets ⟨_, ho, rfl⟩ ⟨_, ho2, rfl⟩ noFill_list_add seq_list_add PySem.F.slot_list_add PySem.F.entry_list_add (PySem.F.args_list_add_2 _ _) (list_addW l b v.toArray v2.toArray n n2 none none #[] #[] (by rw [sizeLine_eq]; simp; omega)) ⟨ho, ho2, ?_⟩
  rw [e]
  exact h _ _ (F.push (t := s.toks) _ ⟨v ++ v2, ⟨0, rfl⟩, IntsAre.append hv hv2⟩)
theorem k_sortedI {l : Addr} {xs : List Int} {Q : Value → Shared → Prop} (F : Fm w G O V L ns vs own s) (hl : HasP s.heap (l, IL xs)) (hz : xs.length < 64)
    (h : ∀ r zs s', zs.Perm xs → zs.Pairwise (· ≤ ·) → Fm w G O V L ns vs ((r, IL zs) :: own) s' → Q (.ref r) s') : wpAny (model P0 w) A (call (.builtin "sorted") [.ref l]) Q E s := by
  obtain ⟨o, ho, v, ⟨n, rfl⟩, hv⟩ := hl
  have e1 := hv.length
  refine sorted_ints (vs := v) ⟨_, ho, rfl, n, rfl⟩ hv (by omega) fun out ns' a1 a2 a3 => h _ ns' _ a2 a3 (F.alloc (s' := { s with heap := sortedAll s.heap v out }) (fun b o e => sortedAll_old e) F.gens F.os (Heap.get?_none_of_le (Nat.le_succ _)) ?_)
  obtain ⟨e, he⟩ := sortedAll_at s.heap v out
  exact ⟨_, he, out.toList, ⟨e, by simp [seqObj]⟩, a1⟩
theorem b_mod {a b : Int} {t u : Tok} {Q : Value → Shared → Prop} (hb : b ≠ 0) (F : Fm w G O V L ns vs own s) (h : ∀ t' s', Fm w G O V L ns vs own s' → Q (.int (a.fmod b) t') s') : wpAny (model P0 w) A (binaryOp .Mod (.int a t) (.int b u)) Q E s :=
  mod_int' hb (h _ _ (F.tok _))
theorem b_fdiv {a b : Int} {t u : Tok} {Q : Value → Shared → Prop} (hb : b ≠ 0) (ha : b.natAbs < 1000) (F : Fm w G O V L ns vs own s) (h : ∀ t' s', Fm w G O V L ns vs own s' → Q (.int (a.fdiv b) t') s') : wpAny (model P0 w) A (binaryOp .FloorDiv (.int a t) (.int b u)) Q E s :=
  floordiv_int hb (h _ _ (F.tok _)) (.inl (PyProof.noPylong_small (by omega)))
end
end Mine
end
section
open PySem PySem.W PySem.Calls PyProof.Rows
set_option maxRecDepth 100000
set_option maxHeartbeats 1000000
set_option autoImplicit false
set_option linter.unusedVariables false
set_option linter.unusedSectionVars false
namespace Mine
/-! comprehensions over a list of ints -/
theorem take_fmap {g : Int → Option Int} : ∀ {xs : List Int} {i : Nat} {y : Int}, xs[i]? = some y → (xs.take (i + 1)).filterMap g = (xs.take i).filterMap g ++ (g y).toList := by
  intro xs i y h
  rw [List.take_add_one, h, List.filterMap_append]
  cases e : g y <;> simp [e]
section
variable {w : World} {A : Around} {E : Value → Shared → Prop} {s : Shared} {env : Env} {G : Array GenState} {O : OsState} {V : View} {L : Addr} {ns : List Str} {vs : List (Option Value)} {own : List Kp}
theorem i_listK {l : Addr} {items : Array Value} {Q : Value → Shared → Prop} (F : Fm w G O V L ns vs own s) (hl : s.heap.IsList l items) (h : ∀ I s', s.heap.get? I = none → Keeps s.heap s'.heap → Fm w G O V L ns vs ((I, LIt l 0) :: own) s' → l ≠ I → Q (.ref I) s') :
    wpAny (model P0 w) A (pyIter (.ref l)) Q E s :=
  wpAny_pyIter_list hl (h _ _ (fresh_none _) (Keeps.push _ _) (F.push (t := s.toks) _ ⟨rfl, rfl⟩) (Nat.ne_of_lt (let ⟨o, a, _⟩ := hl; Heap.lt_size a)))
noncomputable def TurnI (w : World) (A : Around) (G : Array GenState) (O : OsState) (x : Str) (elt : PySem.Expr) (ifs : List PySem.Expr) (scope : Scope) (cl : List (Str × Addr)) (env : Env) (xs : List Int) (g : Int → Option Int) (s₁ : Shared) : Prop :=
  ∀ (I : Addr) (s₂ : Shared) (C D : Addr) (k : Int) (t : Tok) (acc : Array Value) (i : Nat) (u0 : Option Value) (l : Addr) (s' : Shared), k ∈ xs → s₁.heap.get? I = none → Keeps s₁.heap s₂.heap → Fm w G O ((hv s₂.heap).but [I]) C ([".0", x] : List Str) [u0, some (.int k t)] [(I, LIt l i), (D, LP acc)] s' → En (compEnvC scope cl C env) C →
      wpAny (model P0 w) A (testsOf ifs (compEnvC scope cl C env)) (fun ok s₃ => if ok = true then wpAny (model P0 w) A (eval elt (compEnvC scope cl C env)) (fun y s₄ => ∃ k' t', y = .int k' t' ∧ g k = some k' ∧
        Fm w G O ((hv s₂.heap).but [I]) C ([".0", x] : List Str) [u0, some (.int k t)] [(I, LIt l i), (D, LP acc)] s₄) noE s₃ else g k = none ∧ Fm w G O ((hv s₂.heap).but [I]) C ([".0", x] : List Str) [u0, some (.int k t)] [(I, LIt l i), (D, LP acc)] s₃) noE s'
theorem e_CompI {x : Str} {px : Pos} {elt iter : PySem.Expr} {ifs : List PySem.Expr} {scope : Scope} {pos : Pos} {cl : List (Str × Addr)} {Q : Value → Shared → Prop} (_F₀ : Fm w G O V L ns vs own s) (en : En env L) (hh : A.handled = none) (xs : List Int) (g : Int → Option Int)
    (h : wpAny (model P0 w) A (eval iter env) (fun xv s₁ => ∃ l vs own, xv = .ref l ∧ Fm w G O V L ns vs own s₁ ∧ HasP s₁.heap (l, IL xs) ∧ xs.length ≤ 1000 ∧ TurnI w A G O x elt ifs scope cl env xs g s₁ ∧
      (∀ D s', Fm w G O V L ns vs ((D, IL (xs.filterMap g)) :: own) s' → Q (.ref D) s')) E s)
    (hclos : closureFor scope env = pure cl) (sc : cnames scope = ([".0", x] : List Str)) (hkx : ∀ C, (compEnvC scope cl C env).kindOf x = some .local) (hkind : scope.kind = .function := by rfl) (hco : scope.isCoroutine = false := by rfl) (hcell : ∀ y ∈ scope.names, y.2 ≠ .cell := by decide)
    (hnames : ∀ y ∈ scope.names, y.2 = .local → scope.names.lookup y.1 = some .local := by decide) (hnd : (cnames scope).Nodup := by decide)
    (hs : ∀ x, foldedSetIterable iter env x = pure x := by intro _; rfl) :
    wpAny (model P0 w) A (eval (.ListComp elt [⟨.Name x px, iter, ifs, 0⟩] scope pos) env) Q E s := by
  refine e_ListComp _F₀ (fun i acc ext => ext = [] ∧ IntsAre acc ((xs.take i).filterMap g)) (wpAny_mono h (fun xv s₁ h₁ => ?_) fun _ _ x => x) hclos hcell hkind hnames hnd (by intro _ _; rfl) hs
  obtain ⟨l, vs, own, rfl, H, ⟨ol, hol, vl, ⟨nl, rfl⟩, hvl⟩, hz, hturn, hq⟩ := h₁
  have hlen := IntsAre.length hvl
  refine i_listK (items := vl.toArray) H ⟨_, hol, rfl, nl, rfl⟩ fun I0 s7 hI0 hK7 H7 hlI => ?_
  refine ⟨I0, vl.toArray.size, _, LIt l, _, _, [], own, rfl, Iter.list hh I0 l hlI vl.toArray, by simp; omega, H7, ⟨rfl, .nil⟩, ?_, ?_, ?_⟩
  · intro i acc ext' s8 _ hk
    exact ⟨_, hk l _ (by simpa using hlI) (hK7 _ _ hol), rfl, nl, rfl⟩
  · intro C0 D i v acc ext u s8 hi hP hinv hu H8
    obtain ⟨rfl, hacc⟩ := hinv
    obtain ⟨t, y, hy, rfl⟩ := intsAt hvl i v hP
    rw [sc] at H8 hu ⊢
    obtain ⟨u0, u1, rfl⟩ : ∃ u0 u1, u = [u0, u1] := by
      match u, hu with
      | [u0, u1], _ => exact ⟨u0, u1, rfl⟩
    have en8 := en.comp scope cl C0 hkind hco
    refine a_Name (s_local H8 en8 (hkx C0) (.tail .head) fun s9 H9 => ?_)
    refine wpAny_mono (hturn I0 s7 C0 D y t acc.toArray (i + 1) u0 l s9 (List.mem_of_getElem? hy) hI0 hK7 H9 en8) (fun ok s10 h10 => ?_) fun _ _ x => x
    cases ok with
    | true =>
      rw [if_pos rfl] at h10 ⊢
      refine wpAny_mono h10 (fun z s11 h11 => ?_) fun _ _ x => x
      obtain ⟨k', t', rfl, hg, H11⟩ := h11
      refine ⟨_, [], rfl, H11, rfl, ?_⟩
      rw [take_fmap hy, hg]
      exact IntsAre.snoc hacc k' t'
    | false =>
      rw [if_neg (by decide)] at h10 ⊢
      obtain ⟨hg, H11⟩ := h10
      refine ⟨_, [], rfl, H11, rfl, ?_⟩
      rw [take_fmap hy, hg]
      simpa using hacc
  · rintro D acc ext' s8 ⟨rfl, hacc⟩ H8
    have htk : xs.take vl.toArray.size = xs := List.take_of_length_le (by simp; omega)
    rw [htk] at hacc
    exact hq D s8 (H8.weaken rfl fun q hq => by
      rcases List.mem_cons.mp hq with rfl | hq
      · obtain ⟨o, ho, hp⟩ := H8.get (.head _); exact ⟨o, ho, acc, hp, hacc⟩
      · exact H8.hown q (.tail _ hq))
theorem fm_filter (p : Int → Bool) : ∀ xs : List Int, xs.filterMap (fun k => if p k then some k else none) = xs.filter p
  | [] => rfl
  | x :: r => by
    have ih := fm_filter p r
    by_cases h : p x = true <;> simp [h, ih]
theorem fm_some : ∀ xs : List Int, xs.filterMap some = xs := fun xs => by simp
theorem turn_copy {x : Str} {p : Pos} {scope : Scope} {cl : List (Str × Addr)} {xs : List Int} {s₁ : Shared} (hkx : ∀ C, (compEnvC scope cl C env).kindOf x = some .local) (hd : (x == ("__debug__" : Str)) = false := by decide) :
    TurnI w A G O x (.Name x p) [] scope cl env xs some s₁ := fun I s₂ C D k t acc i u0 l s' hk hI hK H en => by
  refine wpAny_tests_nil ?_
  rw [if_pos rfl]
  exact e_local H en (hkx C) (.tail .head) ⟨k, t, rfl, rfl, H⟩ hd
theorem HasP.inner {I : Addr} {s₁ s₂ s' : Shared} {p : Kp} (hI : s₁.heap.get? I = none) (hK : Keeps s₁.heap s₂.heap) (v : ((hv s₂.heap).but [I]).le (hv s'.heap)) (h : HasP s₁.heap p) : HasP s'.heap p := by
  obtain ⟨o, ho, hp⟩ := h
  refine ⟨o, v _ _ (View.but_at (hK _ _ ho) fun hm => ?_), hp⟩
  obtain rfl : p.1 = I := by simpa using hm
  rw [hI] at ho; cases ho
theorem any_mem {ys : List Int} {k : Int} : (ys.any (· == k)) = decide (k ∈ ys) := by
  rw [Bool.eq_iff_iff]; simp
theorem turn_in {x nm : Str} {p p1 p2 p3 : Pos} {scope : Scope} {cl : List (Str × Addr)} {xs ys : List Int} {s₁ : Shared} {c lb : Addr} (hc : HasP s₁.heap (c, CellP (some (.ref lb)))) (hl : HasP s₁.heap (lb, IL ys))
    (hkx : ∀ C, (compEnvC scope cl C env).kindOf x = some .local) (hkn : ∀ C, (compEnvC scope cl C env).kindOf nm = some .cell) (hcl : ∀ C, (compEnvC scope cl C env).cells.lookup nm = some c)
    (hd : (x == ("__debug__" : Str)) = false := by decide) (hd2 : (nm == ("__debug__" : Str)) = false := by decide) :
    TurnI w A G O x (.Name x p) [.Compare (.Name x p1) [.In] [.Name nm p2] p3] scope cl env xs (fun k => if decide (k ∈ ys) = true then some k else none) s₁ := fun I s₂ C D k t acc i u0 l s' hk hI hK H en => by
  obtain ⟨o, ho, v, ⟨n, rfl⟩, hv'⟩ := hl.inner hI hK H.view
  refine wpAny_tests_one (t_cmp (e_local H en (hkx C) (.tail .head) (e_cellH en (hkn C) (hcl C) (hc.inner hI hK H.view) (in_list_ints ⟨_, ho, rfl, n, rfl⟩ hv' (tr_bool ?_)) hd2) hd) (by rfl))
  rw [any_mem]
  by_cases h : k ∈ ys
  · rw [if_pos (decide_eq_true h)]
    exact e_local H en (hkx C) (.tail .head) ⟨k, t, rfl, by simp [h], H⟩ hd
  · rw [if_neg (by simpa using h)]
    exact ⟨by simp [h], H⟩
theorem turn_notin {x nm : Str} {p p1 p2 p3 : Pos} {scope : Scope} {cl : List (Str × Addr)} {xs ys : List Int} {s₁ : Shared} {c lb : Addr} (hc : HasP s₁.heap (c, CellP (some (.ref lb)))) (hl : HasP s₁.heap (lb, IL ys))
    (hkx : ∀ C, (compEnvC scope cl C env).kindOf x = some .local) (hkn : ∀ C, (compEnvC scope cl C env).kindOf nm = some .cell) (hcl : ∀ C, (compEnvC scope cl C env).cells.lookup nm = some c)
    (hd : (x == ("__debug__" : Str)) = false := by decide) (hd2 : (nm == ("__debug__" : Str)) = false := by decide) :
    TurnI w A G O x (.Name x p) [.Compare (.Name x p1) [.NotIn] [.Name nm p2] p3] scope cl env xs (fun k => if decide (k ∉ ys) = true then some k else none) s₁ := fun I s₂ C D k t acc i u0 l s' hk hI hK H en => by
  obtain ⟨o, ho, v, ⟨n, rfl⟩, hv'⟩ := hl.inner hI hK H.view
  refine wpAny_tests_one (t_cmp (e_local H en (hkx C) (.tail .head) (e_cellH en (hkn C) (hcl C) (hc.inner hI hK H.view) (notin_list_ints ⟨_, ho, rfl, n, rfl⟩ hv' (tr_bool ?_)) hd2) hd) (by rfl))
  rw [any_mem]
  by_cases h : k ∈ ys
  · rw [if_neg (by simpa using h)]
    exact ⟨by simp [h], H⟩
  · rw [if_pos (by simpa using h)]
    exact e_local H en (hkx C) (.tail .head) ⟨k, t, rfl, by simp [h], H⟩ hd
end
end Mine
end
section
open PySem PySem.W PySem.Calls PyProof.Rows
set_option maxRecDepth 100000
set_option maxHeartbeats 1000000
set_option autoImplicit false
set_option linter.unusedVariables false
set_option linter.unusedSectionVars false
namespace Mine
theorem uniq_id {xs : List Int} (h : xs.Nodup) : uniq xs = xs := by
  have aux : ∀ (r acc : List Int), (acc ++ r).Nodup → r.foldl uniqStep acc = acc ++ r := by
    intro r
    induction r with
    | nil => intro acc _; simp
    | cons x r ih =>
      intro acc hn
      have hx : x ∉ acc := fun hm => by
        rw [List.nodup_append] at hn
        exact hn.2.2 x hm x (.head _) rfl
      have e : uniqStep acc x = acc ++ [x] := by unfold uniqStep; rw [if_neg hx]
      rw [List.foldl_cons, e, ih (acc ++ [x]) (by simpa using hn)]
      simp
  unfold uniq
  rw [aux xs [] (by simpa using h)]
  rfl
section
variable {w : World} {A : Around} {E : Value → Shared → Prop} {s : Shared} {env : Env} {G : Array GenState} {O : OsState} {V : View} {L : Addr} {ns : List Str} {vs : List (Option Value)} {own : List Kp}
/-- a step of new things and new generators -/
theorem Fm.resG (F : Fm w G O V L ns vs own s) {s' : Shared} {news : List Kp} (R : ResG [] s s' news) : Fm w s'.gens O V L ns vs (news ++ own) s' := by
  have R0 : Res s { s' with gens := s.gens } news := ⟨fun b o e => R.keeps b o (fun h => nomatch h) e, rfl, R.os, R.fresh, R.nd, R.has⟩
  exact (F.res R0).regen (s' := s') rfl rfl
/-- list(OrderedSet(a) & b), the two in cells -/
theorem e_osAnd {na nb : Str} {p1 p2 p3 p4 p5 p6 p7 : Pos} {ca cb la lb : Addr} {xs ys : List Int} {Q : Value → Shared → Prop} (H : Fm w G O V L ns vs own s) (en : En env L) (R : Rm A 16)
    (h1 : env.kindOf "list" = some .globalImplicit) (h2 : env.kindOf "OrderedSet" = some .globalImplicit) (ka : env.kindOf na = some .cell) (kb : env.kindOf nb = some .cell) (la' : env.cells.lookup na = some ca) (lb' : env.cells.lookup nb = some cb)
    (ma : (ca, CellP (some (.ref la))) ∈ own) (mb : (cb, CellP (some (.ref lb))) ∈ own) (ha : HasP s.heap (la, IL xs)) (hb : HasP s.heap (lb, IL ys)) (hr : R10 xs) (hnd : xs.Nodup) (hsz : xs.length ≤ 100)
    (h : ∀ r s', Fm w G O V L ns vs ((r, IL (xs.filter fun y => decide (y ∈ ys))) :: own) s' → Q (.ref r) s') (hd : (na == ("__debug__" : Str)) = false := by decide) (hd2 : (nb == ("__debug__" : Str)) = false := by decide) :
    wpAny (model P0 w) A (eval (.Call (.Name "list" p1) [.BinOp (.Call (.Name "OrderedSet" p2) [.Name na p3] [] p4) .BitAnd (.Name nb p5) p6] [] p7) env) Q E s := by
  refine e_call (e_glob H en h1 (gv_list w) (c_with keep_type (i_cons (e_bin (e_call (e_glob H en h2 (gv_OrderedSet w) ?_))))))
  refine c_with (keep_any (by kernel_rfl)) (i_cons (e_cell H en ka la' ma (i_nil ⟨H.ctx, os_make H.ctx (R.mono (by decide)) ha hr hsz fun x dx l2 S1 s1 R1 hS1 => ?_⟩) hd))
  have H1 := H.res R1
  refine e_cell H1 en kb lb' (List.mem_append_right _ mb) ?_ hd2
  rw [uniq_id hnd] at hS1 H1
  have hb1 : HasP s1.heap (lb, IL ys) := hb.keeps fun o e => R1.keeps _ _ e
  refine os_and H1.ctx (R.mono (by decide)) (H1.get (.head _)) (H1.get (.tail _ (.head _))) (H1.get (.tail _ (.tail _ (.head _)))) hb1 (fun e => ?_) hS1 hr hsz fun x2 dx2 l3 S2 s2 R2 hS2 => ?_
  · obtain ⟨o, ho, _⟩ := hb
    have := R1.fresh _ (.head _)
    rw [e] at this
    rw [this] at ho; cases ho
  have H2 := H1.res R2
  refine i_nil ⟨H2.ctx, k_list_os H2.ctx (R.mono (by decide)) (H2.get (.head _)) (H2.get (.tail _ (.head _))) (H2.get (.tail _ (.tail _ (.head _)))) (Nat.le_trans (List.length_filter_le _ _) hsz) fun r s3 R3 => ?_⟩
  have H3 := H2.res R3
  exact h r s3 (H3.sub (.cons_cons _ (.cons _ (.cons _ (.cons _ (.cons _ (.cons _ (.cons _ (.refl _)))))))))
end
end Mine
end
section
open PySem PySem.W PySem.Calls PyProof.Rows
set_option maxRecDepth 100000
set_option maxHeartbeats 4000000
set_option autoImplicit false
set_option linter.unusedVariables false
set_option linter.unusedSectionVars false
namespace Mine
noncomputable def everyF (xs ys : List Int) : List Int := xs ++ ys.filter fun y => decide (y ∉ xs)
noncomputable def psF (xs ys : List Int) : List (Int × Int) := pairsOf xs ++ pairsOf ys
/-- what makes two rows healed -/
structure Healthy (xs ys : List Int) : Prop where
  rx : R10 xs
  ry : R10 ys
  nx : xs.Nodup
  ny : ys.Nodup
  mperm : (mergeF xs ys).Perm (everyF xs ys)
  kx : ((mergeF xs ys).filter fun y => decide (y ∈ xs)) = xs
  ky : ((mergeF xs ys).filter fun y => decide (y ∈ ys)) = ys
  acyc : ∀ td : List Int, td ≠ [] → outsF (psF xs ys) td = [] → False
  drain : ∀ out, Drain (psF xs ys) [] (mergeF xs ys) out [] → out.Perm (mergeF xs ys) ∧ keepsF out (psF xs ys) = true
  nocyc : ∀ x, ¬ Cyc (psF xs ys) x
  alike : (xs.filter fun y => decide (y ∈ ys)) = ys.filter fun y => decide (y ∈ xs)
  m1 : mergeF (mergeF xs ys) xs = mergeF xs ys
  m2 : mergeF xs (mergeF xs ys) = mergeF xs ys
  m3 : mergeF (mergeF xs ys) ys = mergeF xs ys
  m4 : mergeF ys (mergeF xs ys) = mergeF xs ys
section
variable {w : World} {A : Around} {E : Value → Shared → Prop} {s : Shared} {env : Env} {G : Array GenState} {O : OsState} {V : View} {L : Addr} {ns : List Str} {vs : List (Option Value)} {own : List Kp}
theorem c_isNN {Q : Value → Shared → Prop} (h : Q (.bool true) s) : wpAny (model P0 w) A (compareOp .Is .none .none) Q E s := by
  show wpAny _ _ (do return Value.bool (← isSame .none .none)) _ _ _
  unfold isSame
  exact wpAny_bind (wpAny_pure (wpAny_pure h))
theorem c_isRN {a : Addr} {Q : Value → Shared → Prop} (h : Q (.bool false) s) : wpAny (model P0 w) A (compareOp .Is (.ref a) .none) Q E s := by
  show wpAny _ _ (do return Value.bool (← isSame (.ref a) .none)) _ _ _
  unfold isSame
  exact wpAny_bind (wpAny_pure (wpAny_pure h))
theorem sorted_same {zs us xs ys : List Int} (p : zs.Perm xs) (q : us.Perm ys) (h : xs.Perm ys) (a : zs.Pairwise (· ≤ ·)) (b : us.Pairwise (· ≤ ·)) : zs = us :=
  List.Perm.eq_of_pairwise (fun x y _ _ h1 h2 => Int.le_antisymm h1 h2) a b (p.trans (h.trans q.symm))
abbrev nsH : List Str := ["rows", "every", "pairs", "m", "out", "ring", "edges"]
theorem healed_spec {la lb : Addr} {xs ys : List Int} {Q : Value → Shared → Prop} (C : Cx w s.heap) (R : Rm A 60) (ha : HasP s.heap (la, IL xs)) (hb : HasP s.heap (lb, IL ys)) (K : Healthy xs ys)
    (h : ∀ s', ResG [] s s' [] → Q (.bool true) s') :
    wpAny (model P0 w) A (call (.ref 332) [.ref la, .ref lb]) Q E s := by
  refine wp_noE ?_
  refine f_call (ns := nsH) (by rfl) C (by decide) R.room (by kernel_rfl) (binds := [("a", .ref la), ("b", .ref lb)]) (.of_eq (by rfl)) fun env s' he en H => ?_
  have R' := R.deeper env
  generalize hAA : A.deeper env = AA at *
  have hhA : AA.handled = none := R'.hd
  clear hAA
  subst he
  have hva : VP (hv s.heap) (la, IL xs) := ha
  have hvb : VP (hv s.heap) (lb, IL ys) := hb
  obtain ⟨ca, hca⟩ : ∃ c, c = s.heap.objs.size + 1 := ⟨_, rfl⟩
  obtain ⟨cb, hcb⟩ : ∃ c, c = s.heap.objs.size + 1 + 1 := ⟨_, rfl⟩
  replace H : Fm w s.gens s.os (hv s.heap) s.heap.objs.size nsH [none, none, none, none, none, none, none] [(cb, CellP none), (ca, CellP none)] s' := by rw [hca, hcb]; exact H
  refine s_cell (i := 1) H en rfl (by rw [hca]; rfl) rfl fun s1 H => s_cell (i := 0) H en rfl (by rw [hcb]; rfl) rfl fun s2 H => ⟨H.ctx, ?_⟩
  replace H : Fm w s.gens s.os (hv s.heap) s.heap.objs.size nsH [none, none, none, none, none, none, none] [(cb, CellP (some (.ref lb))), (ca, CellP (some (.ref la)))] s2 := H
  have hxl := len10 K.nx K.rx
  have hyl := len10 K.ny K.ry
  -- rows
  refine x_cons (x_Assign (e_tuple (i_cons (e_CompI H en hhA xs some (e_cell H en rfl (by rw [hca]; rfl) (.tail _ (.head _)) ⟨la, _, _, rfl, H, H.vp hva, by omega, turn_copy (fun _ => rfl), fun c1 s3 H => ?_⟩) rfl rfl (fun _ => rfl)))))
  refine i_cons (e_CompI H en hhA ys some (e_cell H en rfl (by rw [hcb]; rfl) (.tail _ (.head _)) ⟨lb, _, _, rfl, H, H.vp hvb, by omega, turn_copy (fun _ => rfl), fun c2 s4 H => ?_⟩) rfl rfl (fun _ => rfl))
  rw [fm_some, fm_some] at H
  refine i_nil (n_tuple H fun tr s5 H => a_Name (s_local H en rfl .head fun s6 H => ?_))
  replace H : Fm w s.gens s.os (hv s.heap) s.heap.objs.size nsH [some (.ref tr), none, none, none, none, none, none] [(tr, TP #[.ref c1, .ref c2]), (c2, IL ys), (c1, IL xs), (cb, CellP (some (.ref lb))), (ca, CellP (some (.ref la)))] s6 := H
  -- every, pairs
  refine x_cons (x_swap2 H hhA (e_tuple (i_cons (e_bin (e_cell H en rfl (by rw [hca]; rfl) (.tail _ (.tail _ (.tail _ (.tail _ (.head _))))) (e_CompI H en hhA ys (fun k => if decide (k ∉ xs) = true then some k else none) (e_cell H en rfl (by rw [hcb]; rfl) (.tail _ (.tail _ (.tail _ (.head _)))) ⟨lb, _, _, rfl, H, H.vp hvb, by omega, turn_notin (H.get (.tail _ (.tail _ (.tail _ (.tail _ (.head _)))))) (H.vp hva) (fun _ => rfl) (fun _ => rfl) (fun _ => by rw [hca]; rfl), fun c3 s7 H => ?_⟩) rfl rfl (fun _ => rfl)))))))
  rw [fm_filter] at H
  refine b_addL H (H.vp hva) (H.get (.head _)) (by have := List.length_filter_le (fun y => decide (y ∉ xs)) ys; omega) fun ev s8 H => ?_
  refine i_cons (e_call (e_glob H en rfl (gv_pairs w) (c_with (keep_fn (f := 310) rfl rfl) (i_cons (e_local H en rfl .head (i_nil ⟨H.ctx, pairs_spec (T := tr) H.ctx (R'.mono (by decide)) (H.get (.tail _ (.tail _ (.head _)))) (H.get (.tail _ (.tail _ (.tail _ (.tail _ (.head _)))))) (H.get (.tail _ (.tail _ (.tail _ (.head _))))) (by omega) (by omega) fun lp ts s9 hts Rs => ?_⟩))))))
  replace H := H.res Rs
  refine i_nil (n_tuple H fun tq s10 H => ⟨tq, _, _, _, _, rfl, H.get (.head _), H, fun s11 H => s_local H en rfl (.tail (.tail .head)) fun s12 H => s_local H en rfl (.tail .head) fun s13 H => ?_⟩)
  replace H := H.sub (.cons _ (.refl _))
  replace H : Fm w s.gens s.os (hv s.heap) s.heap.objs.size nsH [some (.ref tr), some (.ref ev), some (.ref lp), none, none, none, none] (((lp, LP (ts.map Value.ref).toArray) :: tups ts (psF xs ys)) ++ [(ev, IL (everyF xs ys)), (c3, IL (ys.filter fun y => decide (y ∉ xs))), (tr, TP #[.ref c1, .ref c2]), (c2, IL ys), (c1, IL xs), (cb, CellP (some (.ref lb))), (ca, CellP (some (.ref la)))]) s13 := H
  have CV : CxV w (hv s.heap) := H.cx
  have fz : ∀ p ∈ (lp, LP (ts.map Value.ref).toArray) :: tups ts (psF xs ys), VP _ p := fun p hp => H.frozen hp
  replace H := H.freeze
  generalize hW : (hv s13.heap).only (List.map (fun x => x.1) ((lp, LP (ts.map Value.ref).toArray) :: tups ts (psF xs ys))) = W at H fz
  have vpl : VPL ((hv s.heap).or W) lp (psF xs ys) := ⟨ts, fz _ (.head _), hts, fun q hq => fz _ (.tail _ hq)⟩
  replace hva := VP.or (W := W) hva
  replace hvb := VP.or (W := W) hvb
  clear hW fz
  -- plain facts
  have hMp := K.mperm
  have hevn : (everyF xs ys).Nodup := by
    unfold everyF
    rw [List.nodup_append]
    refine ⟨K.nx, K.ny.filter _, fun x hx y hy e => ?_⟩
    have := (List.mem_filter.mp hy).2
    rw [← e] at this
    simp [hx] at this
  have hevr : R10 (everyF xs ys) := fun x hx => by
    rcases List.mem_append.mp hx with hx | hx
    · exact K.rx x hx
    · exact K.ry x (List.mem_filter.mp hx).1
  have hMn : (mergeF xs ys).Nodup := hMp.nodup_iff.mpr hevn
  have hMr : R10 (mergeF xs ys) := fun x hx => hevr x (hMp.mem_iff.mp hx)
  have hMl := len10 hMn hMr
  have hel := len10 hevn hevr
  have hD : ∀ p ∈ psF xs ys, (0 ≤ p.1 ∧ p.1 < 10) ∧ (0 ≤ p.2 ∧ p.2 < 10) := fun p hp => by
    have hz : ∀ {zs : List Int} {p : Int × Int}, R10 zs → p ∈ pairsOf zs → (0 ≤ p.1 ∧ p.1 < 10) ∧ (0 ≤ p.2 ∧ p.2 < 10) := fun {zs p} hr hp => by
      obtain ⟨p1, p2⟩ := p
      have := List.of_mem_zip hp
      exact ⟨hr _ this.1, hr _ (List.mem_of_mem_tail this.2)⟩
    rcases List.mem_append.mp hp with hp | hp
    · exact hz K.rx hp
    · exact hz K.ry hp
  have hpl : (psF xs ys).length ≤ 18 := by
    have e1 := pairsOf_length xs
    have e2 := pairsOf_length ys
    unfold psF
    rw [List.length_append]; omega
  have g13 : s13.gens = s.gens := H.gens
  -- m
  refine x_cons (x_Assign (e_call (e_glob H en rfl (gv_merge w) (c_with (keep_fn (f := 260) rfl rfl) (i_cons (e_cell H en rfl (by rw [hca]; rfl) (.tail _ (.tail _ (.tail _ (.tail _ (.tail _ (.tail _ (.head _))))))) (i_cons (e_cell H en rfl (by rw [hcb]; rfl) (.tail _ (.tail _ (.tail _ (.tail _ (.tail _ (.head _)))))) (i_nil ⟨H.ctx, merge_spec H.ctx (R'.mono (by decide)) (H.vp hva) (H.vp hvb) K.rx K.ry (by omega) (by omega) fun m s14 km gm om fm pm => ?_⟩)))))))))
  replace H := H.alloc km (gm.trans H.gens) (om.trans H.os) fm pm
  refine a_Name (s_local H en rfl (.tail (.tail (.tail .head))) fun s15 H => ?_)
  -- sorted
  refine x_cons (x_triple (O := s.os) (L := s.heap.objs.size) (ns := nsH) hhA (e_call (e_glob H en rfl (gv_sorted' w) (c_with (keep_fn (f := 327) rfl rfl) (i_cons (e_local H en rfl (.tail (.tail .head)) (i_cons (e_local H en rfl (.tail (.tail (.tail .head))) (i_nil ⟨H.ctx, ?_⟩)))))))))
  refine sorted_call (cy := False) (outer := []) (V := hv s15.heap) H.ctx (R'.mono (by decide)) (View.le.refl _) ⟨_, H.ctx, View.le.refl _⟩ (vpl.le H.view) (H.get (a := m) (p := IL (mergeF xs ys)) (.head _)) hD hpl hMr hMn (by omega) (fun td h1 h2 => K.acyc td h1 h2) ⟨fun h => h.elim, fun h => h.elim, fun h => h.elim⟩ (fun r lo out s16 hdr RG => ?_) (fun hc => hc.elim)
  have hG : GCh [] s.gens s16.gens := by rw [← H.gens]; exact RG.g
  replace H := H.resG RG
  obtain ⟨hop, hok⟩ := K.drain out hdr
  refine ⟨r, _, _, _, _, _, _, _, rfl, H.get (.head _), H, fun s17 H => ?_⟩
  refine a_Name (s_local H en rfl (.tail (.tail (.tail (.tail .head)))) fun s18 H => a_Name (s_local H en rfl (.tail (.tail (.tail (.tail (.tail .head))))) fun s19 H => a_Name (s_local H en rfl (.tail (.tail (.tail (.tail (.tail (.tail .head)))))) fun s20 H => ?_)))
  replace H : Fm w s16.gens s.os ((hv s.heap).or W) s.heap.objs.size nsH [some (.ref tr), some (.ref ev), some (.ref lp), some (.ref m), some (.ref lo), some .none, some .none] [(lo, IL out), (m, IL (mergeF xs ys)), (ev, IL (everyF xs ys)), (tr, TP #[.ref c1, .ref c2]), (c2, IL ys), (c1, IL xs), (cb, CellP (some (.ref lb))), (ca, CellP (some (.ref la)))] s20 := H.sub (.cons _ (.cons_cons _ (.cons_cons _ (.cons_cons _ (.cons _ (.refl _))))))
  have hout : R10 out := fun x hx => hMr x (hop.mem_iff.mp hx)
  have houtl : out.length ≤ 10 := by rw [hop.length_eq]; exact hMl
  -- the answer
  refine x_cons (x_Return (BoolOp_and (e_cmp (e_tuple (i_cons (e_cell H en rfl (by rw [hca]; rfl) (.tail _ (.tail _ (.tail _ (.tail _ (.tail _ (.tail _ (.tail _ (.head _)))))))) (i_cons (e_cell H en rfl (by rw [hcb]; rfl) (.tail _ (.tail _ (.tail _ (.tail _ (.tail _ (.tail _ (.head _))))))) (i_nil (n_tuple H fun t1 s21 H => e_local H en rfl .head ?_))))))))))
  refine c_eqTT (R'.mono (by decide)) (H.get (.head _)) (H.get (.tail _ (.tail _ (.tail _ (.tail _ (.head _)))))) (H.vp hva) (H.vp hvb) (H.get (.tail _ (.tail _ (.tail _ (.tail _ (.tail _ (.tail _ (.head _)))))))) (H.get (.tail _ (.tail _ (.tail _ (.tail _ (.tail _ (.head _))))))) (H.vne hva (.tail _ (.tail _ (.tail _ (.tail _ (.tail _ (.tail _ (.head _)))))))) (H.vne hvb (.tail _ (.tail _ (.tail _ (.tail _ (.tail _ (.head _))))))) (tr_bool ?_)
  rw [if_pos (by simp)]
  replace H := H.sub (.cons _ (.refl _))
  refine BoolOp_and (Compare_chain (e_call (e_glob H en rfl (gv_sorted w) (c_with keep_builtin (i_cons (e_local H en rfl (.tail (.tail (.tail .head))) (i_nil ⟨H.ctx, k_sortedI H (H.get (.tail _ (.head _))) (by omega) fun z1 zs1 s22 p1 q1 H => ?_⟩)))))))
  refine chain_link (e_call (e_glob H en rfl (gv_sorted w) (c_with keep_builtin (i_cons (e_local H en rfl (.tail .head) (i_nil ⟨H.ctx, k_sortedI H (H.get (.tail _ (.tail _ (.tail _ (.head _))))) (by omega) fun z2 zs2 s23 p2 q2 H => c_eqL (R'.mono (by decide)) (H.get (.tail _ (.head _))) (H.get (.head _)) (tr_bool ?_)⟩))))))
  rw [if_pos (decide_eq_true (sorted_same p1 p2 hMp q1 q2))]
  refine chain_last (e_call (e_glob H en rfl (gv_sorted w) (c_with keep_builtin (i_cons (e_local H en rfl (.tail (.tail (.tail (.tail .head)))) (i_nil ⟨H.ctx, k_sortedI H (H.get (.tail _ (.tail _ (.head _)))) (by omega) fun z3 zs3 s24 p3 q3 H => c_eqL (R'.mono (by decide)) (H.get (.tail _ (.head _))) (H.get (.head _)) (tr_bool ?_)⟩))))))
  rw [if_pos (decide_eq_true (sorted_same p2 p3 (hMp.symm.trans hop.symm) q2 q3))]
  replace H := H.sub (.cons _ (.cons _ (.cons _ (.refl _))))
  refine BoolOp_and (e_cmp (e_CompI H en hhA (mergeF xs ys) (fun k => if decide (k ∈ xs) = true then some k else none) (e_local H en rfl (.tail (.tail (.tail .head))) ⟨m, _, _, rfl, H, H.get (.tail _ (.head _)), by omega, turn_in (H.get (.tail _ (.tail _ (.tail _ (.tail _ (.tail _ (.tail _ (.tail _ (.head _))))))))) (H.vp hva) (fun _ => rfl) (fun _ => rfl) (fun _ => by rw [hca]; rfl), fun d1 s25 H => e_cell H en rfl (by rw [hca]; rfl) (.tail _ (.tail _ (.tail _ (.tail _ (.tail _ (.tail _ (.tail _ (.tail _ (.head _))))))))) (c_eqL (R'.mono (by decide)) (H.get (.head _)) (H.vp hva) (tr_bool ?_))⟩) rfl rfl (fun _ => rfl)))
  rw [if_pos (decide_eq_true (by rw [fm_filter]; exact K.kx))]
  replace H := H.sub (.cons _ (.refl _))
  refine BoolOp_and (e_cmp (e_CompI H en hhA (mergeF xs ys) (fun k => if decide (k ∈ ys) = true then some k else none) (e_local H en rfl (.tail (.tail (.tail .head))) ⟨m, _, _, rfl, H, H.get (.tail _ (.head _)), by omega, turn_in (H.get (.tail _ (.tail _ (.tail _ (.tail _ (.tail _ (.tail _ (.head _)))))))) (H.vp hvb) (fun _ => rfl) (fun _ => rfl) (fun _ => by rw [hcb]; rfl), fun d2 s26 H => e_cell H en rfl (by rw [hcb]; rfl) (.tail _ (.tail _ (.tail _ (.tail _ (.tail _ (.tail _ (.tail _ (.head _)))))))) (c_eqL (R'.mono (by decide)) (H.get (.head _)) (H.vp hvb) (tr_bool ?_))⟩) rfl rfl (fun _ => rfl)))
  rw [if_pos (decide_eq_true (by rw [fm_filter]; exact K.ky))]
  replace H := H.sub (.cons _ (.refl _))
  refine BoolOp_and (e_cmp (e_local H en rfl (.tail (.tail (.tail (.tail (.tail .head))))) (e_none (c_isNN (tr_bool ?_)))))
  rw [if_pos rfl]
  refine BoolOp_and (e_call (e_glob H en rfl (gv_keeps w) (c_with (keep_fn (f := 320) rfl rfl) (i_cons (e_local H en rfl (.tail (.tail (.tail (.tail .head)))) (i_cons (e_local H en rfl (.tail (.tail .head)) (i_nil ⟨H.ctx, keeps_spec H.ctx (R'.mono (by decide)) (H.get (.head _)) (vpl.le H.view) hD hout (by omega) (by omega) fun s27 Rs => ?_⟩))))))))
  replace H := H.res Rs
  rw [hok]
  refine tr_bool ?_
  rw [if_pos rfl]
  refine BoolOp_and (e_cmp (e_call (e_glob H en rfl (gv_find w) (c_with (keep_fn (f := 300) rfl rfl) (i_cons (e_local H en rfl (.tail (.tail .head)) (i_cons (e_local H en rfl (.tail (.tail (.tail .head))) (i_nil ⟨H.ctx, find_spec H.ctx (R'.mono (by decide)) (vpl.le H.view) hD (by omega) fun cy SS s28 hSS Rs => ?_⟩)))))))))
  replace H := H.res Rs
  refine e_call (e_glob H en rfl (gv_set w) (c_with keep_type (i_nil ⟨H.ctx, k_set0 H.ctx (H.newS fun e0 s29 H => ?_)⟩)))
  obtain ⟨oc, hoc, dc, rfl, hdc⟩ := H.get (a := cy) (p := SP w SS) (.tail _ (.head _))
  obtain ⟨oe, hoe, de, rfl, hde⟩ := H.get (a := e0) (p := SP w []) (.head _)
  refine k_set_eq (o := setO dc) (ob := setO de) hoc hdc hoe hde (fun b hb => tr_bool ?_) (R'.mono (by decide) : Rm _ 1).cl
  rw [if_pos (hb.mpr fun x => by rw [hSS]; simp [K.nocyc x])]
  replace H := H.sub (.cons _ (.cons _ (.refl _)))
  refine BoolOp_and (e_cmp (e_osAnd H en (R'.mono (by decide)) rfl rfl rfl rfl (by rw [hca]; rfl) (by rw [hcb]; rfl) (.tail _ (.tail _ (.tail _ (.tail _ (.tail _ (.tail _ (.tail _ (.head _)))))))) (.tail _ (.tail _ (.tail _ (.tail _ (.tail _ (.tail _ (.head _))))))) (H.vp hva) (H.vp hvb) K.rx K.nx (by omega) fun o1 s30 H => ?_))
  refine e_osAnd H en (R'.mono (by decide)) rfl rfl rfl rfl (by rw [hcb]; rfl) (by rw [hca]; rfl) (.tail _ (.tail _ (.tail _ (.tail _ (.tail _ (.tail _ (.tail _ (.head _)))))))) (.tail _ (.tail _ (.tail _ (.tail _ (.tail _ (.tail _ (.tail _ (.tail _ (.head _))))))))) (H.vp hvb) (H.vp hva) K.ry K.ny (by omega) fun o2 s31 H => ?_
  refine c_eqL (R'.mono (by decide)) (H.get (.tail _ (.head _))) (H.get (.head _)) (tr_bool ?_)
  rw [if_pos (decide_eq_true K.alike)]
  replace H := H.sub (.cons _ (.cons _ (.refl _)))
  refine BoolOp_and (Compare_chain (e_call (e_glob H en rfl (gv_merge w) (c_with (keep_fn (f := 260) rfl rfl) (i_cons (e_local H en rfl (.tail (.tail (.tail .head))) (i_cons (e_cell H en rfl (by rw [hca]; rfl) (.tail _ (.tail _ (.tail _ (.tail _ (.tail _ (.tail _ (.tail _ (.head _)))))))) (i_nil ⟨H.ctx, merge_spec H.ctx (R'.mono (by decide)) (H.get (.tail _ (.head _))) (H.vp hva) hMr K.rx (by omega) (by omega) fun m1 s32 k1 g1 o1 f1 p1 => ?_⟩)))))))))
  replace H := H.alloc k1 (g1.trans H.gens) (o1.trans H.os) f1 p1
  refine chain_link (e_call (e_glob H en rfl (gv_merge w) (c_with (keep_fn (f := 260) rfl rfl) (i_cons (e_cell H en rfl (by rw [hca]; rfl) (.tail _ (.tail _ (.tail _ (.tail _ (.tail _ (.tail _ (.tail _ (.tail _ (.head _))))))))) (i_cons (e_local H en rfl (.tail (.tail (.tail .head))) (i_nil ⟨H.ctx, merge_spec H.ctx (R'.mono (by decide)) (H.vp hva) (H.get (.tail _ (.tail _ (.head _)))) K.rx hMr (by omega) (by omega) fun m2 s33 k2 g2 o2 f2 p2 => ?_⟩))))))))
  replace H := H.alloc k2 (g2.trans H.gens) (o2.trans H.os) f2 p2
  refine c_eqL (R'.mono (by decide)) (H.get (.tail _ (.head _))) (H.get (.head _)) (tr_bool ?_)
  rw [if_pos (decide_eq_true (by rw [K.m1, K.m2]))]
  refine chain_last (e_local H en rfl (.tail (.tail (.tail .head))) (c_eqL (R'.mono (by decide)) (H.get (.head _)) (H.get (.tail _ (.tail _ (.tail _ (.head _))))) (tr_bool ?_)))
  rw [if_pos (decide_eq_true K.m2)]
  replace H := H.sub (.cons _ (.cons _ (.refl _)))
  refine BoolOp_one (Compare_chain (e_call (e_glob H en rfl (gv_merge w) (c_with (keep_fn (f := 260) rfl rfl) (i_cons (e_local H en rfl (.tail (.tail (.tail .head))) (i_cons (e_cell H en rfl (by rw [hcb]; rfl) (.tail _ (.tail _ (.tail _ (.tail _ (.tail _ (.tail _ (.head _))))))) (i_nil ⟨H.ctx, merge_spec H.ctx (R'.mono (by decide)) (H.get (.tail _ (.head _))) (H.vp hvb) hMr K.ry (by omega) (by omega) fun m3 s34 k1 g1 o1 f1 p1 => ?_⟩)))))))))
  replace H := H.alloc k1 (g1.trans H.gens) (o1.trans H.os) f1 p1
  refine chain_link (e_call (e_glob H en rfl (gv_merge w) (c_with (keep_fn (f := 260) rfl rfl) (i_cons (e_cell H en rfl (by rw [hcb]; rfl) (.tail _ (.tail _ (.tail _ (.tail _ (.tail _ (.tail _ (.tail _ (.head _)))))))) (i_cons (e_local H en rfl (.tail (.tail (.tail .head))) (i_nil ⟨H.ctx, merge_spec H.ctx (R'.mono (by decide)) (H.vp hvb) (H.get (.tail _ (.tail _ (.head _)))) K.ry hMr (by omega) (by omega) fun m4 s35 k2 g2 o2 f2 p2 => ?_⟩))))))))
  replace H := H.alloc k2 (g2.trans H.gens) (o2.trans H.os) f2 p2
  refine c_eqL (R'.mono (by decide)) (H.get (.tail _ (.head _))) (H.get (.head _)) (tr_bool ?_)
  rw [if_pos (decide_eq_true (by rw [K.m3, K.m4]))]
  refine chain_last (e_local H en rfl (.tail (.tail (.tail .head))) (c_eqL (R'.mono (by decide)) (H.get (.head _)) (H.get (.tail _ (.tail _ (.tail _ (.head _))))) ?_))
  rw [decide_eq_true K.m4]
  exact h s35 ((H.thaw CV).toResG hG (List.nil_sublist _))
end
end Mine
end
section
open PySem PySem.W PySem.Calls PyProof.Rows
set_option maxRecDepth 100000
set_option maxHeartbeats 1000000
set_option autoImplicit false
set_option linter.unusedVariables false
set_option linter.unusedSectionVars false
namespace Mine
theorem VP.le {V W : View} {p : Kp} (h : VP V p) (k : V.le W) : VP W p := let ⟨o, a, b⟩ := h; ⟨o, k _ _ a, b⟩
section
variable {w : World} {A : Around} {E : Value → Shared → Prop} {s : Shared} {env : Env} {G : Array GenState} {O : OsState} {V : View} {L : Addr} {ns : List Str} {vs : List (Option Value)} {own : List Kp}
/-- own things go into the view -/
theorem Fm.fz {fr rest : List Kp} (F : Fm w G O V L ns vs (fr ++ rest) s) : ∃ V', V.le V' ∧ (∀ p ∈ fr, VP V' p) ∧ Fm w G O V' L ns vs rest s :=
  ⟨_, V.le_or _, fun p hp => F.frozen hp, F.freeze⟩
theorem Fm.fz1 {p : Kp} {rest : List Kp} (F : Fm w G O V L ns vs (p :: rest) s) : ∃ V', V.le V' ∧ VP V' p ∧ Fm w G O V' L ns vs rest s := by
  obtain ⟨V', a, b, c⟩ := Fm.fz (fr := [p]) (rest := rest) F
  exact ⟨V', a, b p (.head _), c⟩
theorem Fm.absorb (F : Fm w G O V L ns vs own s) {s' : Shared} {news : List Kp} (R : Res s s' news) : ∃ V', V.le V' ∧ (∀ p ∈ news, VP V' p) ∧ Fm w G O V' L ns vs own s' := (F.res R).fz
/-- the frame itself may have got its slots -/
theorem Fm.resL (F : Fm w G O V L ns vs own s) {s' : Shared} {news : List Kp} (R : ResG [L] s s' news) : Fm w s'.gens O V L ns vs (news ++ own) s' := by
  have hnl : ∀ {a : Addr}, a ≠ L → a ∉ [L] := fun h hm => h (by simpa using hm)
  have hV : ∀ p ∈ news, V p.1 = none := fun p hp => by
    cases e : V p.1 with
    | none => rfl
    | some o' => have := F.view _ _ e; rw [hv, R.fresh p hp] at this; cases this
  have hL : ∀ p ∈ news, p.1 ≠ L := fun p hp e => by
    obtain ⟨o', _, _, hL, _⟩ := F.hns
    rw [← e, R.fresh p hp] at hL; cases hL
  refine ⟨F.cx, rfl, R.os.trans F.os, ns_slots F.hns fun o ho => R.slot L o (by simp) ho, F.nn, fun a o e => R.keeps a o (hnl fun q => by rw [q, F.vL] at e; cases e) (F.view a o e), ?_, F.vL, ?_, ?_, ?_⟩
  · intro p hp
    rcases List.mem_append.mp hp with hp | hp
    · exact R.has p hp
    · exact (F.hown p hp).keeps fun o e => R.keeps _ o (hnl (F.oL p hp)) e
  · intro p hp; exact (List.mem_append.mp hp).elim (hL p) (F.oL p)
  · intro p hp; exact (List.mem_append.mp hp).elim (hV p) (F.vo p)
  · rw [List.map_append, List.nodup_append]
    refine ⟨R.nd, F.nd, fun a ha b hb e => ?_⟩
    obtain ⟨p, hp, rfl⟩ := List.mem_map.mp ha
    obtain ⟨q, hq, rfl⟩ := List.mem_map.mp hb
    obtain ⟨o, ho, _⟩ := F.hown q hq
    rw [← e, R.fresh p hp] at ho; cases ho
theorem x_AssignCompI {x y : Str} {px py spos : Pos} {elt iter : PySem.Expr} {ifs : List PySem.Expr} {scope : Scope} {pos : Pos} {cl : List (Str × Addr)} {Q : Flow → Shared → Prop} (_F₀ : Fm w G O V L ns vs own s) (en : En env L) (hh : A.handled = none) (xs : List Int) (g : Int → Option Int)
    (h : wpAny (model P0 w) A (eval iter env) (fun xv s₁ => ∃ l vs own, xv = .ref l ∧ Fm w G O V L ns vs own s₁ ∧ HasP s₁.heap (l, IL xs) ∧ xs.length ≤ 1000 ∧ TurnI w A G O x elt ifs scope cl env xs g s₁ ∧
      (∃ vs' : Value → List (Option Value), (∀ v, LocPut ns vs y v (vs' v)) ∧ ∀ D s', Fm w G O V L ns (vs' (.ref D)) ((D, IL (xs.filterMap g)) :: own) s' → Q .next s')) E s)
    (hy : env.kindOf y = some .local) (hclos : closureFor scope env = pure cl) (sc : cnames scope = ([".0", x] : List Str)) (hkx : ∀ C, (compEnvC scope cl C env).kindOf x = some .local)
    (hsw : swapsWith (.ListComp elt [⟨.Name x px, iter, ifs, 0⟩] scope pos) (some (.Name y py)) spos.line env = pure true) (hkind : scope.kind = .function := by rfl) (hco : scope.isCoroutine = false := by rfl) (hcell : ∀ y ∈ scope.names, y.2 ≠ .cell := by decide)
    (hnames : ∀ y ∈ scope.names, y.2 = .local → scope.names.lookup y.1 = some .local := by decide) (hnd : (cnames scope).Nodup := by decide)
    (hs : ∀ x, foldedSetIterable iter env x = pure x := by intro _; rfl) :
    wpAny (model P0 w) A (exec (.Assign [.Name y py] (.ListComp elt [⟨.Name x px, iter, ifs, 0⟩] scope pos) spos) env) Q E s := by
  refine x_AssignComp _F₀ (fun i acc ext => ext = [] ∧ IntsAre acc ((xs.take i).filterMap g)) en (wpAny_mono h (fun xv s₁ h₁ => ?_) fun _ _ x => x) hy hclos hsw hcell hkind hnames hnd (by intro _ _; rfl) hs
  obtain ⟨l, vs, own, rfl, H, ⟨ol, hol, vl, ⟨nl, rfl⟩, hvl⟩, hz, hturn, vs', hput, hq⟩ := h₁
  have hlen := IntsAre.length hvl
  refine i_listK (items := vl.toArray) H ⟨_, hol, rfl, nl, rfl⟩ fun I0 s7 hI0 hK7 H7 hlI => ?_
  refine ⟨I0, vl.toArray.size, _, LIt l, _, _, [], own, rfl, Iter.list hh I0 l hlI vl.toArray, by simp; omega, H7, ⟨rfl, .nil⟩, ?_, ?_, vs', hput, ?_⟩
  · intro i acc ext' s8 _ hk
    exact ⟨_, hk l _ (by simpa using hlI) (hK7 _ _ hol), rfl, nl, rfl⟩
  · intro C0 D i v acc ext u s8 hi hP hinv hu H8
    obtain ⟨rfl, hacc⟩ := hinv
    obtain ⟨t, y, hy, rfl⟩ := intsAt hvl i v hP
    rw [sc] at H8 hu ⊢
    obtain ⟨u0, u1, rfl⟩ : ∃ u0 u1, u = [u0, u1] := by
      match u, hu with
      | [u0, u1], _ => exact ⟨u0, u1, rfl⟩
    have en8 := en.comp scope cl C0 hkind hco
    refine a_Name (s_local H8 en8 (hkx C0) (.tail .head) fun s9 H9 => ?_)
    refine wpAny_mono (hturn I0 s7 C0 D y t acc.toArray (i + 1) u0 l s9 (List.mem_of_getElem? hy) hI0 hK7 H9 en8) (fun ok s10 h10 => ?_) fun _ _ x => x
    cases ok with
    | true =>
      rw [if_pos rfl] at h10 ⊢
      refine wpAny_mono h10 (fun z s11 h11 => ?_) fun _ _ x => x
      obtain ⟨k', t', rfl, hg, H11⟩ := h11
      refine ⟨_, [], rfl, H11, rfl, ?_⟩
      rw [take_fmap hy, hg]
      exact IntsAre.snoc hacc k' t'
    | false =>
      rw [if_neg (by decide)] at h10 ⊢
      obtain ⟨hg, H11⟩ := h10
      refine ⟨_, [], rfl, H11, rfl, ?_⟩
      rw [take_fmap hy, hg]
      simpa using hacc
  · rintro D acc ext' s8 ⟨rfl, hacc⟩ H8
    have htk : xs.take vl.toArray.size = xs := List.take_of_length_le (by simp; omega)
    rw [htk] at hacc
    exact hq D s8 (H8.weaken rfl fun q hq => by
      rcases List.mem_cons.mp hq with rfl | hq
      · obtain ⟨o, ho, hp⟩ := H8.get (.head _); exact ⟨o, ho, acc, hp, hacc⟩
      · exact H8.hown q (.tail _ hq))
theorem tr_list {l : Addr} {xs : List Int} {Q : Bool → Shared → Prop} (H : Fm w G O V L ns vs own s) (hl : HasP s.heap (l, IL xs)) (hz : xs.length ≤ 1000) (h : ∀ s', Fm w G O V L ns vs own s' → Q (!xs.isEmpty) s') : wpAny (model P0 w) A (truthy (.ref l)) Q E s := by
  obtain ⟨o, ho, v, ⟨n, rfl⟩, hv⟩ := hl
  have hlen := hv.length
  refine wpAny_truthy_list ⟨_, ho, rfl, n, rfl⟩ (by simp; omega) ?_
  have e : v.toArray.isEmpty = xs.isEmpty := by
    cases hv <;> simp
  rw [e]
  exact h _ (H.tok _)
/-! the item of a list of rows of truth values -/
theorem row_at {V : View} {B : Addr} {rs : List Addr} {M : Int → Int → Bool} (hr : rs.length = 10) (hm : ∀ p ∈ mrows rs M, VP V p) {k : Int} (h0 : 0 ≤ k) (h1 : k < 10) : ∃ r, rs[k.toNat]? = some r ∧ VP V (r, BP (M k)) := by
  obtain ⟨r, hr'⟩ : ∃ r, rs[k.toNat]? = some r := ⟨_, List.getElem?_eq_getElem (by omega)⟩
  refine ⟨r, hr', ?_⟩
  have := mrows_at (M := M) hr'
  have e : ((k.toNat : Nat) : Int) = k := by omega
  rw [e] at this
  exact hm _ (List.mem_of_getElem? this)
end
end Mine
end
section
open PySem PySem.W PySem.Calls PyProof.Rows
set_option maxRecDepth 100000
set_option maxHeartbeats 1000000
set_option autoImplicit false
set_option linter.unusedVariables false
set_option linter.unusedSectionVars false
namespace Mine
/-- the common ones of ys take their turns from bs -/
noncomputable def swp (xs : List Int) : List Int → List Int → List Int
  | [], _ => []
  | y :: ys, bs => if y ∈ xs then (match bs with | b :: bs => b :: swp xs ys bs | [] => []) else y :: swp xs ys bs
theorem swp_pos {xs ys bs : List Int} {y b : Int} (h : y ∈ xs) : swp xs (y :: ys) (b :: bs) = b :: swp xs ys bs := by rw [swp, if_pos h]
theorem swp_neg {xs ys bs : List Int} {y : Int} (h : y ∉ xs) : swp xs (y :: ys) bs = y :: swp xs ys bs := by rw [swp.eq_def]; simp only [if_neg h]
theorem swp_perm (xs : List Int) : ∀ (ys bs : List Int), bs.length = (ys.filter fun y => decide (y ∈ xs)).length → (swp xs ys bs).Perm (bs ++ ys.filter fun y => decide (y ∉ xs))
  | [], bs, h => by
    have : bs = [] := by simpa using h
    subst this; simp [swp]
  | y :: ys, bs, h => by
    unfold swp
    by_cases hy : y ∈ xs
    · rw [if_pos hy]
      rw [List.filter_cons_of_pos (by simpa using hy)] at h
      rw [List.filter_cons_of_neg (by simpa using hy)]
      cases bs with
      | nil => simp at h
      | cons b bs => exact (swp_perm xs ys bs (by simpa using h)).cons b
    · rw [if_neg hy]
      rw [List.filter_cons_of_neg (by simpa using hy)] at h
      rw [List.filter_cons_of_pos (by simpa using hy)]
      exact ((swp_perm xs ys bs h).cons y).trans List.perm_middle.symm
section
variable {w : World} {A : Around} {E : Value → Shared → Prop} {s : Shared} {env : Env} {G : Array GenState} {O : OsState} {V : View} {L : Addr} {ns : List Str} {vs : List (Option Value)} {own : List Kp}
theorem e_swapComp {p1 p2 p3 p4 p5 p6 p7 p8 p9 p10 pos : Pos} {k0 : Nat} {iter : PySem.Expr} {scope : Scope} {cl : List (Str × Addr)} {ca co la lbo : Addr} {xs ys bs : List Int} {Q : Value → Shared → Prop} (_F₀ : Fm w G O V L ns vs own s) (en : En env L) (hh : A.handled = none)
    (h : wpAny (model P0 w) A (eval iter env) (fun xv s₁ => ∃ lb rest, xv = .ref lb ∧ Fm w G O V L ns vs ((lbo, IL bs) :: rest) s₁ ∧ HasP s₁.heap (lb, IL ys) ∧ lb ≠ lbo ∧ HasP s₁.heap (la, IL xs) ∧ la ≠ lbo ∧ (ca, CellP (some (.ref la))) ∈ rest ∧ (co, CellP (some (.ref lbo))) ∈ rest ∧
      (∀ D r s', Fm w G O V L ns vs ((D, IL (swp xs ys bs)) :: (lbo, IL r) :: rest) s' → Q (.ref D) s')) E s)
    (hyl : ys.length ≤ 100) (hbl : bs.length = (ys.filter fun y => decide (y ∈ xs)).length)
    (hclos : closureFor scope env = pure cl) (sc : cnames scope = ([".0", "item"] : List Str)) (hkx : ∀ C, (compEnvC scope cl C env).kindOf "item" = some .local)
    (hka : ∀ C, (compEnvC scope cl C env).kindOf "a" = some .cell) (hca : ∀ C, (compEnvC scope cl C env).cells.lookup ("a" : Str) = some ca) (hko : ∀ C, (compEnvC scope cl C env).kindOf "both" = some .cell) (hco' : ∀ C, (compEnvC scope cl C env).cells.lookup ("both" : Str) = some co)
    (hmc : ∀ C, ∃ pl : Sem Bool, eval (.Call (.Attribute (.Name "both" p4) "pop" p5) [.Constant (.int 0) k0 p6] [] p7) (compEnvC scope cl C env) = (do
      let ov ← eval (.Name "both" p4) (compEnvC scope cl C env)
      standAt p5.atName
      let (f, first) ← holding [ov] (getMethod ov "pop" pl)
      callWith p7 f first (backTo p7 (starEach [.Constant (.int 0) k0 p6] (compEnvC scope cl C env))) []))
    (hkind : scope.kind = .function := by rfl) (hco : scope.isCoroutine = false := by rfl) (hcell : ∀ y ∈ scope.names, y.2 ≠ .cell := by decide)
    (hnames : ∀ y ∈ scope.names, y.2 = .local → scope.names.lookup y.1 = some .local := by decide) (hnd : (cnames scope).Nodup := by decide)
    (hs : ∀ x, foldedSetIterable iter env x = pure x := by intro _; rfl) :
    wpAny (model P0 w) A (eval (.ListComp (.IfExp (.Compare (.Name "item" p1) [.In] [.Name "a" p2] p3) (.Call (.Attribute (.Name "both" p4) "pop" p5) [.Constant (.int 0) k0 p6] [] p7) (.Name "item" p8) p9) [⟨.Name "item" p10, iter, [], 0⟩] scope pos) env) Q E s := by
  refine e_ListComp _F₀ (fun i acc ext => ∃ r as, ext = [(lbo, IL r)] ∧ IntsAre acc as ∧ as ++ swp xs (ys.drop i) r = swp xs ys bs ∧ r.length = ((ys.drop i).filter fun y => decide (y ∈ xs)).length ∧ r.length ≤ 100) (wpAny_mono h (fun xv s₁ h₁ => ?_) fun _ _ x => x) hclos hcell hkind hnames hnd (by intro _ _; rfl) hs
  obtain ⟨lb, rest, rfl, H, ⟨ol, hol, vl, ⟨nl, rfl⟩, hvl⟩, hne, hla, hna, mca, mco, hq⟩ := h₁
  have hlen := IntsAre.length hvl
  have hbs : bs.length ≤ 100 := by have := List.length_filter_le (fun y => decide (y ∈ xs)) ys; omega
  refine i_listK (items := vl.toArray) H ⟨_, hol, rfl, nl, rfl⟩ fun I0 s7 hI0 hK7 H7 hlI => ?_
  refine ⟨I0, vl.toArray.size, _, LIt lb, _, _, [(lbo, IL bs)], rest, rfl, Iter.list hh I0 lb hlI vl.toArray, by simp; omega, H7, ⟨bs, [], rfl, .nil, rfl, hbl, hbs⟩, ?_, ?_, ?_⟩
  · intro i acc ext' s8 _ hk
    exact ⟨_, hk lb _ (by simp [hlI, hne]) (hK7 _ _ hol), rfl, nl, rfl⟩
  · intro C0 D i v acc ext u s8 hi hP hinv hu H8
    obtain ⟨r, as, rfl, hacc, hsw, hrl, hr100⟩ := hinv
    obtain ⟨t, y, hy, rfl⟩ := intsAt hvl i v hP
    rw [sc] at H8 hu ⊢
    obtain ⟨u0, u1, rfl⟩ : ∃ u0 u1, u = [u0, u1] := by
      match u, hu with
      | [u0, u1], _ => exact ⟨u0, u1, rfl⟩
    have en8 := en.comp scope cl C0 hkind hco
    have hlt : i < ys.length := (List.getElem?_eq_some_iff.mp hy).1
    have hdr : ys.drop i = y :: ys.drop (i + 1) := by
      rw [List.drop_eq_getElem_cons hlt]
      rw [(List.getElem?_eq_some_iff.mp hy).2]
    have old : ∀ p : Kp, HasP s₁.heap p → p.1 ≠ lbo → HasP s8.heap p := fun p hp hn => by
      obtain ⟨o, ho, hpo⟩ := hp
      refine ⟨o, H8.view _ _ (View.but_at (hK7 _ _ ho) fun hm => ?_), hpo⟩
      rcases List.mem_cons.mp hm with hm | hm
      · rw [hm, hI0] at ho; cases ho
      · exact hn (by simpa using hm)
    have hcnl : ∀ p ∈ rest, p.1 ≠ lbo := fun p hp e => by
      have := H.nd
      rw [List.map_cons, List.nodup_cons] at this
      exact this.1 (e ▸ List.mem_map.mpr ⟨p, hp, rfl⟩)
    have hA8 := old _ hla hna
    have hcA8 := old _ (H.hown _ (.tail _ mca)) (hcnl _ mca)
    have hcO8 := old _ (H.hown _ (.tail _ mco)) (hcnl _ mco)
    refine a_Name (s_local H8 en8 (hkx C0) (.tail .head) fun s9 H9 => ?_)
    have k9 : ∀ p : Kp, HasP s₁.heap p → p.1 ≠ lbo → HasP s9.heap p := fun p hp hn => by
      obtain ⟨o, ho, hpo⟩ := hp
      refine ⟨o, H9.view _ _ (View.but_at (hK7 _ _ ho) fun hm => ?_), hpo⟩
      rcases List.mem_cons.mp hm with hm | hm
      · rw [hm, hI0] at ho; cases ho
      · exact hn (by simpa using hm)
    obtain ⟨oa, hoa, va, ⟨na, rfl⟩, hva⟩ := k9 _ hla hna
    refine wpAny_tests_nil ?_
    rw [if_pos rfl]
    refine e_ifexp (t_cmp (e_local H9 en8 (hkx C0) (.tail .head) (e_cellH en8 (hka C0) (hca C0) (k9 _ (H.hown _ (.tail _ mca)) (hcnl _ mca)) (in_list_ints ⟨_, hoa, rfl, na, rfl⟩ hva (tr_bool ⟨fun hb => ?_, fun hb => ?_⟩)))) (by rfl))
    · rw [any_mem] at hb
      have hyx : y ∈ xs := of_decide_eq_true hb
      rw [hdr, List.filter_cons_of_pos (by simpa using hyx)] at hrl
      cases r with
      | nil => simp at hrl
      | cons b r =>
        obtain ⟨o3, ho3, v3, ⟨n3, rfl⟩, hv3⟩ := H9.get (a := lbo) (p := IL (b :: r)) (.tail _ (.tail _ (.head _)))
        obtain ⟨pl, hpl⟩ := hmc C0
        refine e_mcall (pl := pl) (e_cellH en8 (hko C0) (hco' C0) (k9 _ (H.hown _ (.tail _ mco)) (hcnl _ mco)) (gm_list F.slot_list_pop F.type_list_pop ⟨_, ho3, n3, rfl⟩ (c_with keep_builtin (i_cons (e_int H9 fun t10 s10 H10 => i_nil ⟨H10.ctx, k_pop0 H10 (i := 2) rfl (by simp at hr100; omega) fun t11 s11 H11 => ?_⟩))))) hpl
        refine ⟨_, [(lbo, IL r)], rfl, H11, r, as ++ [b], rfl, IntsAre.snoc hacc b t11, ?_, by simpa using hrl, by simp at hr100; omega⟩
        rw [hdr, swp_pos hyx] at hsw
        simpa using hsw
    · rw [any_mem] at hb
      have hyx : y ∉ xs := by simpa using hb
      refine e_local H9 en8 (hkx C0) (.tail .head) ⟨_, [(lbo, IL r)], rfl, H9, r, as ++ [y], rfl, IntsAre.snoc hacc y t, ?_, ?_, hr100⟩
      · rw [hdr, swp_neg hyx] at hsw
        simpa using hsw
      · rw [hdr, List.filter_cons_of_neg (by simpa using hyx)] at hrl
        exact hrl
  · rintro D acc ext' s8 ⟨r, as, rfl, hacc, hsw, hrl, _⟩ H8
    have htk : ys.drop vl.toArray.size = [] := List.drop_eq_nil_of_le (by simp; omega)
    rw [htk] at hsw
    have : as = swp xs ys bs := by simpa [swp] using hsw
    subst this
    exact hq D r s8 (H8.weaken rfl fun q hq => by
      rcases List.mem_cons.mp hq with rfl | hq
      · obtain ⟨o, ho, hp⟩ := H8.get (.head _); exact ⟨o, ho, acc, hp, hacc⟩
      · exact H8.hown q (.tail _ hq))
end
end Mine
end
section
open PySem PySem.W PySem.Calls PyProof.Rows
set_option maxRecDepth 100000
set_option maxHeartbeats 1000000
set_option autoImplicit false
set_option linter.unusedVariables false
set_option linter.unusedSectionVars false
namespace Mine
section
variable {w : World} {A : Around} {E : Value → Shared → Prop} {s : Shared} {env : Env} {G : Array GenState} {O : OsState} {V : View} {L : Addr} {ns : List Str} {vs : List (Option Value)} {own : List Kp}
theorem gv_any (w : World) : GV w "any" (.builtin "any") := .inr ⟨by kernel_rfl, by kernel_rfl, by decide⟩
noncomputable def TurnC (w : World) (A : Around) (G : Array GenState) (O : OsState) (x : Str) (elt : PySem.Expr) (ifs : List PySem.Expr) (scope : Scope) (cl : List (Str × Addr)) (env : Env) (xs : List Int) (g : Int → Option Int) (s₁ : Shared) : Prop :=
  ∀ (I : Addr) (s₂ : Shared) (C D c : Addr) (k : Int) (t : Tok) (acc : Array Value) (i : Nat) (u0 : Option Value) (l : Addr) (s' : Shared), k ∈ xs → s₁.heap.get? I = none → Keeps s₁.heap s₂.heap →
      Fm w G O ((hv s₂.heap).but [I]) C ([".0"] : List Str) [u0] [(I, LIt l i), (D, LP acc), (c, CellP (some (.int k t)))] s' → En (compEnvC scope ((x, c) :: cl) C env) C →
      wpAny (model P0 w) A (testsOf ifs (compEnvC scope ((x, c) :: cl) C env)) (fun ok s₃ => if ok = true then wpAny (model P0 w) A (eval elt (compEnvC scope ((x, c) :: cl) C env)) (fun y s₄ => ∃ k' t', y = .int k' t' ∧ g k = some k' ∧
        Fm w G O ((hv s₂.heap).but [I]) C ([".0"] : List Str) [u0] [(I, LIt l i), (D, LP acc), (c, CellP (some (.int k t)))] s₄) noE s₃ else g k = none ∧ Fm w G O ((hv s₂.heap).but [I]) C ([".0"] : List Str) [u0] [(I, LIt l i), (D, LP acc), (c, CellP (some (.int k t)))] s₃) noE s'
theorem e_CompC {x : Str} {px : Pos} {elt iter : PySem.Expr} {ifs : List PySem.Expr} {scope : Scope} {pos : Pos} {cl : List (Str × Addr)} {Q : Value → Shared → Prop} (_F₀ : Fm w G O V L ns vs own s) (en : En env L) (hh : A.handled = none) (xs : List Int) (g : Int → Option Int)
    (h : wpAny (model P0 w) A (eval iter env) (fun xv s₁ => ∃ l vs own, xv = .ref l ∧ Fm w G O V L ns vs own s₁ ∧ HasP s₁.heap (l, IL xs) ∧ xs.length ≤ 1000 ∧ TurnC w A G O x elt ifs scope cl env xs g s₁ ∧
      (∀ D s', Fm w G O V L ns vs ((D, IL (xs.filterMap g)) :: own) s' → Q (.ref D) s')) E s)
    (hclos : closureFor scope env = pure cl) (hcells : ∀ n, cellsFrom n scope.names cl = (x, n) :: cl) (hpush : ∀ h, pushCells h scope.names = h.push (cellO none)) (hkx : ∀ C c, (compEnvC scope ((x, c) :: cl) C env).kindOf x = some .cell)
    (hnames : ∀ y ∈ scope.names, y.2 = .local → scope.names.lookup y.1 = some .local := by decide) (hkind : scope.kind = .function := by rfl) (hco : scope.isCoroutine = false := by rfl)
    (hs : ∀ x, foldedSetIterable iter env x = pure x := by intro _; rfl) :
    wpAny (model P0 w) A (eval (.ListComp elt [⟨.Name x px, iter, ifs, 0⟩] scope pos) env) Q E s := by
  rw [eval_ListComp]
  refine wpAny_comprehension_free (use := none) rfl hs hclos hkind hnames (wpAny_mono h (fun xv s₁ h₁ => ?_) fun _ _ e => e)
  obtain ⟨l, vs, own, rfl, H, ⟨ol, hol, vl, ⟨nl, rfl⟩, hvl⟩, hz, hturn, hq⟩ := h₁
  have hlen := IntsAre.length hvl
  refine i_listK (items := vl.toArray) H ⟨_, hol, rfl, nl, rfl⟩ fun I s2 hI hK H2 hlI => ?_
  refine wpAny_newObj_type ?_
  simp only [newFunctionEnv, Option.isSome_some, if_true]
  refine wpAny_bind (wpAny_alloc ?_)
  refine wpAny_bind (wpAny_layCells _ (fun name kind cells => by cases hkc : kind == NameKind.cell <;> simp) _ _ _ _ ?_)
  rw [hcells, hpush]
  dsimp only
  rw [List.forIn_nil]
  refine wpAny_bind (wpAny_pure (wpAny_pure ?_))
  dsimp only
  obtain ⟨D, hD⟩ : ∃ D, D = s2.heap.objs.size := ⟨_, rfl⟩
  generalize hA : s2.heap.push { cls := .type "list", data := .seq (#[] : Array Value) } = h1
  have hsz1 : h1.objs.size = D + 1 := by rw [← hA, Heap.size_push, hD]
  generalize hB : h1.push { cls := .type "dict", data := .dict #[] } = h2
  have hsz2 : h2.objs.size = D + 2 := by rw [← hB, Heap.size_push, hsz1]
  rw [hsz1, hsz2, ← hD]
  have fresh : ∀ a, D ≤ a → s2.heap.get? a = none := fun a ha => Heap.get?_none_of_le (by rw [← hD]; exact ha)
  have k1 : Keeps s2.heap h1 := fun b o e => hA ▸ Heap.get?_push_of_some _ e
  have k2 : Keeps h1 h2 := fun b o e => hB ▸ Heap.get?_push_of_some _ e
  have k3 : Keeps h2 (h2.push (cellO none)) := fun b o e => Heap.get?_push_of_some _ e
  have oD : h1.get? D = some { cls := .type "list", data := .seq (#[] : Array Value) } := by rw [← hA, hD]; exact Heap.get?_push_size _ rfl
  have oC : h2.get? (D + 1) = some { cls := .type "dict", data := .dict #[] } := by rw [← hB, ← hsz1]; exact Heap.get?_push_size _ rfl
  have oc : (h2.push (cellO none)).get? (D + 2) = some (cellO none) := by rw [← hsz2]; exact Heap.get?_push_size _ rfl
  have F0 := Fm.inner (ext := []) (rest := own) (D := D) (C := D + 1) (pD := LP #[]) (nsI := ([".0"] : List Str)) (s₄ := { s2 with heap := h2.push (cellO none) }) H2 (by simp) (fresh D (Nat.le_refl _)) (fresh (D + 1) (Nat.le_succ _)) (Nat.ne_of_lt (Nat.lt_succ_self _))
    (fun b o e => k3 _ _ (k2 _ _ (k1 _ _ e))) ⟨_, k3 _ _ (k2 _ _ oD), 0, rfl⟩ ⟨_, #[], 0, k3 _ _ oC, rfl, fun e he => by simp at he, fun n => by simp [nsFind, findBy]⟩ rfl rfl
  replace F0 : Fm w G O ((hv s2.heap).but [I]) (D + 1) ([".0"] : List Str) [none] [(I, LIt l 0), (D, LP #[])] { s2 with heap := h2.push (cellO none) } := F0
  have hIlt : I < D := by
    obtain ⟨o, ho, _⟩ := H2.get (.head _)
    rw [hD]; exact Heap.lt_size ho
  have F1 := (F0.adopt (a := D + 2) (p := CellP none) (by
    cases e : ((hv s2.heap).but [I]) (D + 2) with
    | none => rfl
    | some o => have := View.but_le _ _ _ _ e; rw [hv, fresh (D + 2) (Nat.le_add_right _ _)] at this; cases this) (Nat.succ_ne_self _) (by
      intro hm
      rcases List.mem_cons.mp hm with hm | hm
      · exact absurd hm (Nat.ne_of_gt (Nat.lt_succ_of_lt (Nat.lt_succ_of_lt hIlt)))
      · exact absurd (List.mem_singleton.mp hm) (Nat.ne_of_gt (Nat.lt_succ_of_lt (Nat.lt_succ_self _)))) ⟨_, oc, rfl⟩).perm (own' := [(I, LIt l 0), (D, LP #[]), (D + 2, CellP none)]) (List.perm_append_singleton (D + 2, CellP none) [(I, LIt l 0), (D, LP #[])])
  have It := Iter.list (w := w) hh I l hlI vl.toArray
  have hlI0 : ∀ s' : Shared, ((hv s2.heap).but [I]).le (hv s'.heap) → s'.heap.IsList l vl.toArray := fun s' hv' => ⟨_, hv' _ _ (View.but_at (hK _ _ hol) (by simpa using hlI)), rfl, nl, rfl⟩
  have loop : codeAny (model P0 w) A (.compLoop (.ListComp elt [⟨.Name x px, iter, ifs, 0⟩] scope pos) 0 (.ref I) (.ref D) (compEnvC scope ((x, D + 2) :: cl) (D + 1) env)) (compPost (model P0 w) A E none Q (.ref D) (D + 1)) { s2 with heap := h2.push (cellO none) } := by
    refine codeAny_compLoop_tests (fun k s' => ∃ i acc u0 ov, k = vl.toArray.size - i ∧ i ≤ vl.toArray.size ∧ acc.length ≤ i ∧ Fm w G O ((hv s2.heap).but [I]) (D + 1) ([".0"] : List Str) [u0] [(I, LIt l i), (D, LP acc.toArray), (D + 2, CellP ov)] s' ∧ IntsAre acc ((xs.take i).filterMap g)) ?_ vl.toArray.size
      ⟨0, [], none, none, rfl, Nat.zero_le _, Nat.le_refl _, F1, .nil⟩ (by intro _; rfl)
    rintro k s' ⟨i, acc, u0, ov, rfl, hi, hacc, F', hI'⟩
    have hU' := hlI0 s' F'.view
    by_cases hlt : i < vl.toArray.size
    · refine It.item i s' _ _ hlt (F'.get (.head _)) hU' fun v h' tk hP hp' hk => ?_
      have F₂ := F'.head (s' := { s' with heap := h', toks := tk }) rfl hk hp' F'.gens F'.os
      obtain ⟨t, y, hy, rfl⟩ := intsAt hvl i v hP
      have en8 := en.comp scope ((x, D + 2) :: cl) (D + 1) hkind hco
      refine a_Name (s_cell (i := 2) F₂ en8 (hkx _ _) (by simp [compEnvC]) rfl fun s9 H9 => ?_)
      refine wpAny_mono (hturn I s2 (D + 1) D (D + 2) y t acc.toArray (i + 1) u0 l s9 (List.mem_of_getElem? hy) hI hK H9 en8) (fun ok s10 h10 => ?_) fun _ _ x => x.elim
      cases ok with
      | false =>
        rw [if_neg Bool.false_ne_true] at h10 ⊢
        obtain ⟨hg, H11⟩ := h10
        refine ⟨vl.toArray.size - (i + 1), by omega, i + 1, acc, u0, _, rfl, hlt, by omega, H11, ?_⟩
        rw [take_fmap hy, hg]
        simpa using hI'
      | true =>
        rw [if_pos rfl] at h10 ⊢
        refine wpAny_mono h10 (fun z s11 h11 => ?_) fun _ _ x => x.elim
        obtain ⟨k', t', rfl, hg, H11⟩ := h11
        refine k_append (H11.get (.tail _ (.head _))) (by rw [List.size_toArray, sizeLine_eq]; simp at hlt; omega) fun h' hp' hsb => ?_
        have F₄ := H11.change (i := 1) (s' := { s11 with heap := h' }) (p' := LP (acc ++ [Value.int k' t']).toArray) rfl hsb.extBut (by rw [← List.push_toArray]; exact hp') H11.gens H11.os
        refine ⟨vl.toArray.size - (i + 1), by omega, i + 1, acc ++ [Value.int k' t'], u0, _, rfl, hlt, by simp; omega, F₄, ?_⟩
        rw [take_fmap hy, hg]
        exact IntsAre.snoc hI' k' t'
    · have hin : i = vl.toArray.size := by omega
      subst hin
      refine It.done s' _ _ (F'.get (.head _)) hU' fun h' tk hk => ?_
      have F₂ := F'.drop (s' := { s' with heap := h', toks := tk }) rfl hk F'.gens F'.os
      have H3 := Fm.outer (ext := []) (rest := own) H2 (fresh D (Nat.le_refl _)) (fresh (D + 1) (Nat.le_succ _)) F₂
      have htk : xs.take vl.toArray.size = xs := List.take_of_length_le (by simp; omega)
      rw [htk] at hI'
      obtain ⟨m, hm⟩ := ns_of (H3.hown _ (.head _))
      refine ⟨m, hm, fun h'' hs'' => hq D _ ?_⟩
      have H4 := H3.drop (s' := { s' with heap := h'', toks := tk }) rfl hs''.extBut H3.gens H3.os
      refine (H4.weaken (own' := (D, IL (xs.filterMap g)) :: (D + 2, CellP ov) :: own) rfl fun q hq => ?_).sub (.cons_cons _ (.cons _ (.refl _)))
      rcases List.mem_cons.mp hq with rfl | hq
      · obtain ⟨o, ho, hp⟩ := H4.get (.head _); exact ⟨o, ho, acc, hp, hI'⟩
      · exact H4.hown q (.tail _ hq)
  exact codeAny_compStart_list loop (It.self 0 _ _ _ (F1.get (.head _)) (hlI0 _ F1.view) loop)
/-- no ring reaches it -/
theorem turn_free {p p1 p2 p3 p4 p5 p6 p7 p8 p9 p10 p11 : Pos} {scope scope2 : Scope} {cl : List (Str × Addr)} {xs rg : List Int} {M : Int → Int → Bool} {rs : List Addr} {s₁ : Shared} {ch Bl cr rl : Addr} (hh : A.handled = none)
    (h1 : HasP s₁.heap (ch, CellP (some (.ref Bl)))) (h2 : HasP s₁.heap (Bl, LP (rs.map Value.ref).toArray)) (h3 : ∀ p ∈ mrows rs M, HasP s₁.heap p) (h4 : HasP s₁.heap (cr, CellP (some (.ref rl)))) (h5 : HasP s₁.heap (rl, IL rg)) (hrs : rs.length = 10)
    (hx : R10 xs) (hr : R10 rg) (hrl : rg.length ≤ 100)
    (kI : ∀ C c, (compEnvC scope (("item", c) :: cl) C env).kindOf "item" = some .cell) (kA : ∀ C c, (compEnvC scope (("item", c) :: cl) C env).kindOf "any" = some .globalImplicit) (kR : ∀ C c, (compEnvC scope (("item", c) :: cl) C env).kindOf "rings" = some .cell)
    (lR : ∀ C c, (compEnvC scope (("item", c) :: cl) C env).cells.lookup ("rings" : Str) = some cr)
    (hclos : ∀ C c, closureFor scope2 (compEnvC scope (("item", c) :: cl) C env) = pure ([("item", c), ("behind", ch)] : List (Str × Addr))) (sc2 : cnames scope2 = ([".0", "r"] : List Str))
    (k2r : ∀ C c C2, (compEnvC scope2 [("item", c), ("behind", ch)] C2 (compEnvC scope (("item", c) :: cl) C env)).kindOf "r" = some .local)
    (k2b : ∀ C c C2, (compEnvC scope2 [("item", c), ("behind", ch)] C2 (compEnvC scope (("item", c) :: cl) C env)).kindOf "behind" = some .cell)
    (k2i : ∀ C c C2, (compEnvC scope2 [("item", c), ("behind", ch)] C2 (compEnvC scope (("item", c) :: cl) C env)).kindOf "item" = some .cell)
    (hkind2 : scope2.kind = .function := by rfl) (hco2 : scope2.isCoroutine = false := by rfl) (hcell2 : ∀ y ∈ scope2.names, y.2 ≠ .cell := by decide)
    (hnames2 : ∀ y ∈ scope2.names, y.2 = .local → scope2.names.lookup y.1 = some .local := by decide) (hnd2 : (cnames scope2).Nodup := by decide) :
    TurnC w A G O "item" (.Name "item" p) [.UnaryOp .Not (.Call (.Name "any" p1) [.ListComp (.Subscript (.Subscript (.Name "behind" p2) (.Name "r" p3) p4) (.Name "item" p5) p6) [⟨.Name "r" p7, .Name "rings" p8, [], 0⟩] scope2 p9] [] p10) p11] scope cl env xs
      (fun k => if (!(rg.any fun r => M r k)) = true then some k else none) s₁ := fun I s₂ C D c k t acc i u0 l s' hk hI hK H en => by
  obtain ⟨k0, k9⟩ := hx k hk
  have mc : (c, CellP (some (.int k t))) ∈ [(I, LIt l i), (D, LP acc), (c, CellP (some (.int k t)))] := .tail _ (.tail _ (.head _))
  obtain ⟨orl, horl, vr, ⟨nr, rfl⟩, hvr⟩ := h5.inner hI hK H.view
  have hlenr := hvr.length
  refine wpAny_tests_one (t_not (t_value (e_call (e_glob H en (kA C c) (gv_any w) (c_with keep_builtin (i_cons ?_)))) (by rfl)))
  refine e_ListComp (cl := [("item", c), ("behind", ch)]) H (fun j ac ext => ext = [] ∧ ac = (rg.take j).map fun r => Value.bool (M r k)) (e_cellH en (kR C c) (lR C c) (h4.inner hI hK H.view) ?_) (hclos C c) hcell2 hkind2 hnames2 hnd2
  refine i_listK (items := vr.toArray) H ⟨_, horl, rfl, nr, rfl⟩ fun I2 s3 hI2 hK2 H3 hlI2 => ?_
  have vw : ∀ pp : Kp, HasP s₁.heap pp → HasP s3.heap pp := fun pp hp => (hp.inner hI hK H.view).keeps fun o e => hK2 _ _ e
  have cin : ∀ (s'' : Shared) (pp : Kp), ((hv s3.heap).but [I2]).le (hv s''.heap) → HasP s'.heap pp → HasP s''.heap pp := fun s'' pp hv' hp => by
    obtain ⟨o, ho, hpo⟩ := hp
    refine ⟨o, hv' _ _ (View.but_at (hK2 _ _ ho) fun hm => ?_), hpo⟩
    obtain hm : pp.1 = I2 := by simpa using hm
    rw [hm, hI2] at ho; cases ho
  refine ⟨I2, vr.toArray.size, _, LIt rl, _, _, [], _, rfl, Iter.list hh I2 rl hlI2 vr.toArray, by simp; omega, H3, ⟨rfl, rfl⟩, ?_, ?_, ?_⟩
  · intro j ac ext' s8 _ hk8
    exact ⟨_, hk8 rl _ (by simpa using hlI2) (hK2 _ _ horl), rfl, nr, rfl⟩
  · rintro C2 D2 j v ac ext u s8 hj hP ⟨rfl, rfl⟩ hu H8
    obtain ⟨tr, y, hy, rfl⟩ := intsAt hvr j v hP
    rw [sc2] at H8 hu ⊢
    obtain ⟨w0, w1, rfl⟩ : ∃ u0 u1, u = [u0, u1] := by
      match u, hu with
      | [u0, u1], _ => exact ⟨u0, u1, rfl⟩
    have en8 := en.comp scope2 [("item", c), ("behind", ch)] C2 hkind2 hco2
    refine a_Name (s_local H8 en8 (k2r C c C2) (.tail .head) fun s9 H9 => ?_)
    refine wpAny_tests_nil ?_
    rw [if_pos rfl]
    have inn : ∀ pp : Kp, HasP s₁.heap pp → HasP s9.heap pp := fun pp hp => cin s9 pp H9.view (hp.inner hI hK H.view)
    obtain ⟨oB, hoB, nB, rfl⟩ := inn _ h2
    obtain ⟨y0, y1⟩ := hr y (List.mem_of_getElem? hy)
    obtain ⟨rr, hrr⟩ : ∃ rr, rs[y.toNat]? = some rr := ⟨_, List.getElem?_eq_getElem (by omega)⟩
    have hrow := inn _ (h3 _ (List.mem_of_getElem? (mrows_at (M := M) hrr)))
    have ey : ((y.toNat : Nat) : Int) = y := by omega
    have ek : ((k.toNat : Nat) : Int) = k := by omega
    rw [ey] at hrow
    obtain ⟨oR, hoR, nR, rfl⟩ := hrow
    refine e_sub (e_sub (e_cellH en8 (k2b C c C2) rfl (inn _ h1) (e_local H9 en8 (k2r C c C2) (.tail .head) ⟨Bl, _, y.toNat, tr, _, rfl, by rw [ey], ⟨_, hoB, rfl, nB, rfl⟩, (by simp [hrr] : (List.map Value.ref rs).toArray[y.toNat]? = some (.ref rr)), by omega, ?_⟩)))
    refine e_cellH en8 (k2i C c C2) rfl (cin s9 _ H9.view (H.hown _ mc)) ⟨rr, _, k.toNat, t, _, rfl, by rw [ek], ⟨_, hoR, rfl, nR, rfl⟩, bp_at (by omega), by omega, ?_⟩
    refine ⟨_, [], rfl, H9, rfl, ?_⟩
    rw [List.take_add_one, hy, ek]
    simp
  · rintro D2 ac ext' s8 ⟨rfl, rfl⟩ H8
    have htk : rg.take vr.toArray.size = rg := List.take_of_length_le (by simp; omega)
    rw [htk] at H8
    have e1 : (rg.map fun r => Value.bool (M r k)) = (rg.map fun r => M r k).map Value.bool := by simp
    rw [e1] at H8
    refine i_nil ⟨H8.ctx, k_any H8 hh (H8.get (.head _)) fun s9 H9 => tr_bool ?_⟩
    have H10 := H9.sub (.cons _ (.refl _))
    have e2 : (rg.map fun r => M r k).any id = rg.any fun r => M r k := by simp [List.any_map, Function.comp_def]
    rw [e2]
    cases hb : (rg.any fun r => M r k) with
    | true =>
      rw [if_neg (by simp)]
      exact ⟨by simp [hb], H10⟩
    | false =>
      rw [if_pos (by simp)]
      exact e_cell H10 en (kI C c) (by simp [compEnvC]) mc ⟨k, t, rfl, by simp [hb], H10⟩
end
end Mine
end
section
open PySem PySem.W PySem.Calls PyProof.Rows
set_option maxRecDepth 100000
set_option maxHeartbeats 1000000
set_option autoImplicit false
set_option linter.unusedVariables false
set_option linter.unusedSectionVars false
namespace Mine
section
variable {w : World} {A : Around} {E : Value → Shared → Prop} {s : Shared} {env : Env} {G : Array GenState} {O : OsState} {V : View} {L : Addr} {ns : List Str} {vs : List (Option Value)} {own : List Kp}
/-- on a ring -/
theorem turn_ring {p p2 p3 p4 p5 p6 : Pos} {scope : Scope} {cl : List (Str × Addr)} {xs : List Int} {M : Int → Int → Bool} {rs : List Addr} {s₁ : Shared} {ch Bl : Addr}
    (h1 : HasP s₁.heap (ch, CellP (some (.ref Bl)))) (h2 : HasP s₁.heap (Bl, LP (rs.map Value.ref).toArray)) (h3 : ∀ p ∈ mrows rs M, HasP s₁.heap p) (hrs : rs.length = 10) (hx : R10 xs)
    (hkx : ∀ C, (compEnvC scope cl C env).kindOf "item" = some .local) (hkn : ∀ C, (compEnvC scope cl C env).kindOf "behind" = some .cell) (hcl : ∀ C, (compEnvC scope cl C env).cells.lookup ("behind" : Str) = some ch) :
    TurnI w A G O "item" (.Name "item" p) [.Subscript (.Subscript (.Name "behind" p2) (.Name "item" p3) p4) (.Name "item" p5) p6] scope cl env xs (fun k => if M k k = true then some k else none) s₁ := fun I s₂ C D k t acc i u0 l s' hk hI hK H en => by
  obtain ⟨k0, k9⟩ := hx k hk
  have inn : ∀ pp : Kp, HasP s₁.heap pp → HasP s'.heap pp := fun pp hp => hp.inner hI hK H.view
  obtain ⟨oB, hoB, nB, rfl⟩ := inn _ h2
  obtain ⟨rr, hrr⟩ : ∃ rr, rs[k.toNat]? = some rr := ⟨_, List.getElem?_eq_getElem (by omega)⟩
  have hrow := inn _ (h3 _ (List.mem_of_getElem? (mrows_at (M := M) hrr)))
  have ek : ((k.toNat : Nat) : Int) = k := by omega
  rw [ek] at hrow
  obtain ⟨oR, hoR, nR, rfl⟩ := hrow
  refine wpAny_tests_one (t_value (e_sub (e_sub (e_cellH en (hkn C) (hcl C) (inn _ h1) (e_local H en (hkx C) (.tail .head) ⟨Bl, _, k.toNat, t, _, rfl, by rw [ek], ⟨_, hoB, rfl, nB, rfl⟩, (by simp [hrr] : (List.map Value.ref rs).toArray[k.toNat]? = some (.ref rr)), by omega, ?_⟩)))) (by rfl))
  refine e_local H en (hkx C) (.tail .head) ⟨rr, _, k.toNat, t, _, rfl, by rw [ek], ⟨_, hoR, rfl, nR, rfl⟩, bp_at (by omega), by omega, tr_bool ?_⟩
  rw [ek]
  cases hb : M k k with
  | true =>
    rw [if_pos rfl]
    exact e_local H en (hkx C) (.tail .head) ⟨k, t, rfl, by simp [hb], H⟩
  | false =>
    rw [if_neg (by decide)]
    exact ⟨by simp [hb], H⟩
/-- the pairs that end in the list behind a cell -/
theorem e_pairsIn {q1 q2 q3 q4 q5 q6 q7 q8 tpos pos : Pos} {kk k2 : Nat} {iter : PySem.Expr} {scope : Scope} {cl : List (Str × Addr)} {cf lf lp : Addr} {fr : List Int} {ps : List (Int × Int)} {Q : Value → Shared → Prop} (_F₀ : Fm w G O V L ns vs own s) (en : En env L) (hh : A.handled = none)
    (h : wpAny (model P0 w) A (eval iter env) (fun xv s₁ => ∃ own, xv = .ref lp ∧ Fm w G O V L ns vs own s₁ ∧ VPL V lp ps ∧ (cf, CellP (some (.ref lf))) ∈ own ∧ HasP s₁.heap (lf, IL fr) ∧
      (∀ D ts s', ts.length = (ps.filter fun q => decide (q.2 ∈ fr)).length → Fm w G O V L ns vs (((D, LP (ts.map Value.ref).toArray) :: tups ts (ps.filter fun q => decide (q.2 ∈ fr))) ++ own) s' → Q (.ref D) s')) E s)
    (hpl : ps.length ≤ 100)
    (hclos : closureFor scope env = pure cl) (sc : cnames scope = ([".0", "p", "c"] : List Str)) (hkp : ∀ C, (compEnvC scope cl C env).kindOf "p" = some .local) (hkc : ∀ C, (compEnvC scope cl C env).kindOf "c" = some .local)
    (hkf : ∀ C, (compEnvC scope cl C env).kindOf "free" = some .cell) (hcf : ∀ C, (compEnvC scope cl C env).cells.lookup ("free" : Str) = some cf)
    (hta : ∀ C, assignEach [.Name "p" q4, .Name "c" q5] (compEnvC scope cl C env) = [(false, assign (.Name "p" q4) (compEnvC scope cl C env)), (false, assign (.Name "c" q5) (compEnvC scope cl C env))])
    (hkind : scope.kind = .function := by rfl) (hco : scope.isCoroutine = false := by rfl) (hcell : ∀ y ∈ scope.names, y.2 ≠ .cell := by decide)
    (hnames : ∀ y ∈ scope.names, y.2 = .local → scope.names.lookup y.1 = some .local := by decide) (hnd : (cnames scope).Nodup := by decide)
    (hs : ∀ x, foldedSetIterable iter env x = pure x := by intro _; rfl) :
    wpAny (model P0 w) A (eval (.ListComp (.Tuple [.Name "p" q1, .Name "c" q2] kk q3) [⟨.Tuple [.Name "p" q4, .Name "c" q5] k2 tpos, iter, [.Compare (.Name "c" q6) [.In] [.Name "free" q7] q8], 0⟩] scope pos) env) Q E s := by
  refine e_ListCompP _F₀ (fun i pD ext => ∃ ts, pD = LP (ts.map Value.ref).toArray ∧ ts.length = ((ps.take i).filter fun q => decide (q.2 ∈ fr)).length ∧ ext = tups ts ((ps.take i).filter fun q => decide (q.2 ∈ fr))) (wpAny_mono h (fun xv s₁ h₁ => ?_) fun _ _ x => x) hclos hcell hkind hnames hnd hs
  obtain ⟨own, rfl, H, vpl, mcf, hlf, hq⟩ := h₁
  obtain ⟨ts0, vl, hlen0, vt⟩ := vpl
  obtain ⟨ol, hol, nl, rfl⟩ := id vl
  have hol1 := H.look hol
  refine i_listK (items := (ts0.map Value.ref).toArray) H ⟨_, hol1, rfl, nl, rfl⟩ fun I s2 hI hK H2 hlI => ?_
  refine ⟨I, lp, (ts0.map Value.ref).toArray, _, [], own, rfl, hh, hlI, H2, ⟨[], rfl, rfl, rfl⟩, ?_, ?_, ?_⟩
  · intro i pD ext' s8 _ hk
    exact ⟨_, hk lp _ (by simpa using hlI) (hK _ _ hol1), rfl, nl, rfl⟩
  · rintro C D i v pD ext u s8 hi hP ⟨ts, rfl, hlen, rfl⟩ hu H8
    rw [sc] at H8 hu ⊢
    obtain ⟨u0, u1, u2, rfl⟩ : ∃ u0 u1 u2, u = [u0, u1, u2] := by
      match u, hu with
      | [u0, u1, u2], _ => exact ⟨u0, u1, u2, rfl⟩
    have hi' : i < ps.length := by simpa [hlen0] using hi
    obtain ⟨q, hq'⟩ : ∃ q, ps[i]? = some q := ⟨_, List.getElem?_eq_getElem hi'⟩
    obtain ⟨tt, ht, rfl⟩ : ∃ t, ts0[i]? = some t ∧ v = .ref t := by
      have hP' : (ts0.map Value.ref)[i]? = some v := by simpa using hP
      rw [List.getElem?_map] at hP'
      cases e : ts0[i]? with
      | none => rw [e] at hP'; cases hP'
      | some t => rw [e] at hP'; exact ⟨t, rfl, (Option.some.inj hP').symm⟩
    have hpairV := vt _ (tups_mem ht hq')
    have inn : ∀ (s'' : Shared), ((hv s2.heap).but (I :: ([] : List Kp).map (·.1))).le (hv s''.heap) → ∀ pp : Kp, HasP s₁.heap pp → HasP s''.heap pp := fun s'' hv' pp hp => by
      obtain ⟨o, ho, hpo⟩ := hp
      refine ⟨o, hv' _ _ (View.but_at (hK _ _ ho) fun hm => ?_), hpo⟩
      obtain hm : pp.1 = I := by simpa using hm
      rw [hm, hI] at ho; cases ho
    obtain ⟨ot, hot, t1, t2, rfl⟩ := inn _ H8.view _ (H.vp hpairV)
    have en8 := en.comp scope cl C hkind hco
    have htk : ps.take (i + 1) = ps.take i ++ [q] := by rw [List.take_add_one, hq']; rfl
    obtain ⟨x, y⟩ := q
    refine a_pair hh H8 ⟨_, hot, rfl⟩ (fun s9 H9 => a_Name (s_local H9 en8 (hkp C) (.tail .head) fun s10 H10 => a_Name (s_local H10 en8 (hkc C) (.tail (.tail .head)) fun s11 H11 => ?_))) (hta C)
    obtain ⟨of', hof', vf, ⟨nf, rfl⟩, hvf⟩ := inn _ H11.view _ hlf
    refine wpAny_tests_one (t_cmp (e_local H11 en8 (hkc C) (.tail (.tail .head)) (e_cellH en8 (hkf C) (hcf C) (inn _ H11.view _ (H.hown _ mcf)) (in_list_ints ⟨_, hof', rfl, nf, rfl⟩ hvf (tr_bool ?_)))) (by rfl))
    rw [any_mem, htk, List.filter_append]
    have hts : ts.length ≤ 100 := by rw [hlen]; exact Nat.le_trans (List.length_filter_le _ _) (by rw [List.length_take]; omega)
    by_cases hm : y ∈ fr
    · rw [if_pos (decide_eq_true hm)]
      have e1 : ([(x, y)] : List (Int × Int)).filter (fun q => decide (q.2 ∈ fr)) = [(x, y)] := by simp [hm]
      rw [e1]
      refine e_tuple (i_cons (e_local H11 en8 (hkp C) (.tail .head) (i_cons (e_local H11 en8 (hkc C) (.tail (.tail .head)) (i_nil (n_tuple H11 fun tp s12 H12 => ?_))))))
      refine k_append (items := (ts.map Value.ref).toArray) (H12.get (.tail _ (.tail _ (.head _)))) (by simp [sizeLine_eq]; omega) fun h' hp hsb => ?_
      have H13 := H12.change (s' := { s12 with heap := h' }) (i := 2) (p' := LP ((ts ++ [tp]).map Value.ref).toArray) rfl hsb.extBut (by obtain ⟨o, ho, n, e⟩ := hp; exact ⟨o, ho, n, by simpa using e⟩) H12.gens H12.os
      refine ⟨[u0, some (.int x t1), some (.int y t2)], LP ((ts ++ [tp]).map Value.ref).toArray, tups ts ((ps.take i).filter fun q => decide (q.2 ∈ fr)) ++ [(tp, PairP (x, y))], ?_, ?_, ts ++ [tp], rfl, by simp [hlen], (tups_snoc hlen _ _).symm⟩
      · rfl
      · have H14 := H13.weaken (own' := (tp, PairP (x, y)) :: (I, LIt lp (i + 1)) :: (D, LP ((ts ++ [tp]).map Value.ref).toArray) :: tups ts ((ps.take i).filter fun q => decide (q.2 ∈ fr))) rfl fun q hq => by
          rcases List.mem_cons.mp hq with rfl | hq
          · obtain ⟨o, ho, e⟩ := H13.get (.head _)
            exact ⟨o, ho, _, _, e⟩
          · exact H13.hown q (.tail _ hq)
        exact H14.perm (List.perm_append_singleton (tp, PairP (x, y)) ((I, LIt lp (i + 1)) :: (D, LP ((ts ++ [tp]).map Value.ref).toArray) :: tups ts ((ps.take i).filter fun q => decide (q.2 ∈ fr))))
    · rw [if_neg (by simpa using hm)]
      have e1 : ([(x, y)] : List (Int × Int)).filter (fun q => decide (q.2 ∈ fr)) = [] := by simp [hm]
      rw [e1, List.append_nil]
      exact ⟨_, _, _, rfl, H11, ts, rfl, hlen, rfl⟩
  · rintro D pD ext' s8 ⟨ts, rfl, hlen, rfl⟩ H8
    have htk : ps.take (ts0.map Value.ref).toArray.size = ps := List.take_of_length_le (by simp [hlen0])
    rw [htk] at hlen H8
    exact hq D ts s8 hlen H8
end
end Mine
end
section
open PySem PySem.W PySem.Calls PyProof.Rows
set_option maxRecDepth 100000
set_option maxHeartbeats 1000000
set_option autoImplicit false
set_option linter.unusedVariables false
set_option linter.unusedSectionVars false
namespace Mine
section
variable {w : World} {A : Around} {E : Value → Shared → Prop} {s : Shared} {env : Env} {G : Array GenState} {O : OsState} {V : View} {L : Addr} {ns : List Str} {vs : List (Option Value)} {own : List Kp}
theorem u_not {v : Value} {Q : Value → Shared → Prop} (h : wpAny (model P0 w) A (truthy v) (fun b s' => Q (.bool (!b)) s') E s) : wpAny (model P0 w) A (unaryOp .Not v) Q E s := by
  unfold unaryOp
  refine wpAny_holding ?_
  show wpAny _ _ (do return Value.bool (!(← truthy v))) _ _ _
  exact wpAny_bind (wpAny_mono h (fun b s' x => wpAny_pure x) fun _ _ x => x)
theorem c_isN {v : Value} {b : Bool} {Q : Value → Shared → Prop} (hv : (v = .none ∧ b = true) ∨ (∃ a, v = .ref a ∧ b = false)) (h : Q (.bool b) s) : wpAny (model P0 w) A (compareOp .Is v .none) Q E s := by
  rcases hv with ⟨rfl, rfl⟩ | ⟨a, rfl, rfl⟩
  · exact c_isNN h
  · exact c_isRN h
/-- sorted_call below a frame that may be left by the exception -/
theorem sorted_callE {env : Env} (enk : env.scope.kind ≠ .module) (enL : env.frame = some L) (hfr : A.frames = some [env]) {lp li : Addr} {ps : List (Int × Int)} {xs : List Int} {Q : Value → Shared → Prop} (H : Fm w G O V L ns vs own s) (R : Rm A 50) (hp : VPL V lp ps) (hi : VP V (li, IL xs))
    (hD : ∀ p ∈ ps, D10 p) (hpl : ps.length ≤ 18) (hx : R10 xs) (hnd : xs.Nodup) (hxl : xs.length ≤ 100)
    (h1 : ∀ r lo out s', Drain ps [] xs out [] → ResG [] s s' [(r, TP #[.ref lo, .none, .none]), (lo, IL out)] → Q (.ref r) s')
    (h2 : ∀ r lo out tz rg S eds q s', tz ≠ [] → Drain ps [] xs out tz → (∀ x, x ∈ S ↔ Cyc ps x) → (∀ p, p ∈ q.map (·.2) ↔ p ∈ ps) →
      ResG [L] s s' ((r, TP #[.ref lo, .ref rg, .ref eds]) :: (lo, IL out) :: (rg, SP w S) :: (eds, PP w q) :: qtups q) → Q (.ref r) s') :
    wpAny (model P0 w) A (call (.ref 327) [.ref lp, .ref li]) Q E s := by
  obtain ⟨oL, esL, epL, hoL, hdL, _⟩ := id H.hns
  have e1 : frs [env] = [L] := by simp [frs, enL]
  refine sorted_call (V := V) (outer := [env]) (cy := True) H.ctx R H.view H.cx hp hi hD hpl hx hnd hxl (fun _ _ _ => trivial) ⟨fun _ => hfr, fun _ => ff_cons enk enL hoL (fun vs q => by rw [hdL] at q; cases q) trivial, fun _ b hb => ?_⟩ h1 (fun _ => ?_)
  · rw [e1] at hb
    obtain rfl : b = L := by simpa using hb
    exact ⟨H.vL, by simp⟩
  · rw [e1]; exact h2
/-- list(OrderedSet(x) - set(rings)), the two in cells -/
theorem e_osSub {na nr : Str} {p1 p2 p3 p4 p5 p6 p7 p8 p9 : Pos} {ca cr la lr : Addr} {xs rg : List Int} {Q : Value → Shared → Prop} (H : Fm w G O V L ns vs own s) (en : En env L) (hh : A.handled = none) (R : Rm A 16)
    (h1 : env.kindOf "list" = some .globalImplicit) (h2 : env.kindOf "OrderedSet" = some .globalImplicit) (h3 : env.kindOf "set" = some .globalImplicit) (ka : env.kindOf na = some .cell) (kr : env.kindOf nr = some .cell) (la' : env.cells.lookup na = some ca) (lr' : env.cells.lookup nr = some cr)
    (ma : (ca, CellP (some (.ref la))) ∈ own) (mr : (cr, CellP (some (.ref lr))) ∈ own) (ha : HasP s.heap (la, IL xs)) (hb : HasP s.heap (lr, IL rg)) (hr : R10 xs) (hrg : R10 rg) (hnd : xs.Nodup) (hsz : xs.length ≤ 100)
    (h : ∀ r s', Fm w G O V L ns vs ((r, IL (xs.filter fun y => decide (y ∉ rg))) :: own) s' → Q (.ref r) s') (hd : (na == ("__debug__" : Str)) = false := by decide) (hd2 : (nr == ("__debug__" : Str)) = false := by decide) :
    wpAny (model P0 w) A (eval (.Call (.Name "list" p1) [.BinOp (.Call (.Name "OrderedSet" p2) [.Name na p3] [] p4) .Sub (.Call (.Name "set" p5) [.Name nr p6] [] p7) p8] [] p9) env) Q E s := by
  refine e_call (e_glob H en h1 (gv_list w) (c_with keep_type (i_cons (e_bin (e_call (e_glob H en h2 (gv_OrderedSet w) ?_))))))
  refine c_with (keep_any (by kernel_rfl)) (i_cons (e_cell H en ka la' ma (i_nil ⟨H.ctx, os_make H.ctx (R.mono (by decide)) ha hr hsz fun x dx l2 S1 s1 R1 hS1 => ?_⟩) hd))
  have H1 := H.res R1
  rw [uniq_id hnd] at hS1 H1
  have hb1 : HasP s1.heap (lr, IL rg) := hb.keeps fun o e => R1.keeps _ _ e
  refine e_call (e_glob H1 en h3 (gv_set w) (c_with keep_type (i_cons (e_cell H1 en kr lr' (List.mem_append_right _ mr) (i_nil ⟨H1.ctx, k_set_list H1.ctx hh (IL.li hb1) hrg fun S2 hS2 => H1.newS fun sr s2 H2 => ?_⟩) hd2))))
  refine os_sub H2.ctx (R.mono (by decide)) (H2.get (.tail _ (.head _))) (H2.get (.tail _ (.tail _ (.head _)))) (H2.get (.tail _ (.tail _ (.tail _ (.head _))))) (H2.get (.head _)) (fun e => ?_) hS1 hr hsz fun x2 dx2 l3 S3 s3 R2 hS3 => ?_
  · have := H2.nd
    rw [List.map_cons, List.nodup_cons] at this
    exact this.1 (e ▸ .head _)
  have H3 := H2.res R2
  refine i_nil ⟨H3.ctx, k_list_os H3.ctx (R.mono (by decide)) (H3.get (.head _)) (H3.get (.tail _ (.head _))) (H3.get (.tail _ (.tail _ (.head _)))) (Nat.le_trans (List.length_filter_le _ _) hsz) fun r s4 R3 => ?_⟩
  have H4 := H3.res R3
  have e2 : (xs.filter fun y => decide (y ∉ S2)) = xs.filter fun y => decide (y ∉ rg) := List.filter_congr fun y _ => by simp [hS2]
  rw [e2] at H4
  exact h r s4 (H4.sub (.cons_cons _ (.cons _ (.cons _ (.cons _ (.cons _ (.cons _ (.cons _ (.cons _ (.refl _))))))))))
end
end Mine
end
section
open PySem PySem.W PySem.Calls PyProof.Rows
set_option maxRecDepth 100000
set_option maxHeartbeats 4000000
set_option autoImplicit false
set_option linter.unusedVariables false
set_option linter.unusedSectionVars false
namespace Mine
noncomputable def rgF (xs ys : List Int) : List Int := (everyF xs ys).filter fun k => behindF (psF xs ys) (everyF xs ys) k k
noncomputable def freeF (xs ys : List Int) : List Int := (everyF xs ys).filter fun k => !((rgF xs ys).any fun r => behindF (psF xs ys) (everyF xs ys) r k)
theorem mrg_len (ov : Int → Bool) (cur oth acc : List Int) : (mrg ov cur oth acc).length ≤ acc.length + cur.length + oth.length := by
  generalize hn : cur.length + oth.length = n
  induction n using Nat.strongRecOn generalizing ov cur oth acc with
  | ind n ih =>
    cases cur with
    | nil => rw [mrg]; simp
    | cons x cur =>
      rw [mrg.eq_def ov (x :: cur) oth acc]
      dsimp only
      split
      · have := ih (oth.length + cur.length) (by rw [← hn, List.length_cons]; omega) (fun y => ov y && decide (y ≠ x)) oth cur acc rfl
        simp only [List.length_cons] at hn ⊢; omega
      · have := ih (cur.length + oth.length) (by rw [← hn, List.length_cons]; omega) ov cur oth (acc ++ [x]) rfl
        simp only [List.length_cons, List.length_append, List.length_nil] at hn this ⊢; omega
theorem mergeF_len {xs ys : List Int} (hx : xs.length ≤ 10) (hy : ys.length ≤ 10) : (mergeF xs ys).length ≤ 20 := by
  have := mrg_len (fun x => decide (x ∈ xs) && decide (x ∈ ys)) xs ys []
  unfold mergeF
  simp at this
  omega
structure LawOK (xs ys : List Int) : Prop where
  al : decide ((xs.filter fun y => decide (y ∈ ys)) = ys.filter fun y => decide (y ∈ xs)) = (rgF xs ys).isEmpty
  ke : (decide (((mergeF xs ys).filter fun y => decide (y ∈ xs)) = xs) && decide (((mergeF xs ys).filter fun y => decide (y ∈ ys)) = ys)) = (rgF xs ys).isEmpty
  dr : ∀ out tz, Drain (psF xs ys) [] (everyF xs ys) out tz → (tz = [] ↔ rgF xs ys = []) ∧ out.Perm (freeF xs ys) ∧ keepsF out ((psF xs ys).filter fun q => decide (q.2 ∈ freeF xs ys)) = true
  cy : ∀ x, x ∈ rgF xs ys ↔ Cyc (psF xs ys) x
  h1 : Healthy xs (ys.filter fun y => decide (y ∉ rgF xs ys))
  h2 : Healthy (xs.filter fun y => decide (y ∉ rgF xs ys)) ys
theorem every_nd {xs ys : List Int} (nx : xs.Nodup) (ny : ys.Nodup) : (everyF xs ys).Nodup := by
  unfold everyF
  rw [List.nodup_append]
  refine ⟨nx, ny.filter _, fun x hx y hy e => ?_⟩
  have := (List.mem_filter.mp hy).2
  rw [← e] at this
  simp [hx] at this
theorem every_r {xs ys : List Int} (rx : R10 xs) (ry : R10 ys) : R10 (everyF xs ys) := fun x hx => by
  rcases List.mem_append.mp hx with hx | hx
  · exact rx x hx
  · exact ry x (List.mem_filter.mp hx).1
theorem ps_d {xs ys : List Int} (rx : R10 xs) (ry : R10 ys) : ∀ p ∈ psF xs ys, (0 ≤ p.1 ∧ p.1 < 10) ∧ (0 ≤ p.2 ∧ p.2 < 10) := fun p hp => by
  have hz : ∀ {zs : List Int} {p : Int × Int}, R10 zs → p ∈ pairsOf zs → (0 ≤ p.1 ∧ p.1 < 10) ∧ (0 ≤ p.2 ∧ p.2 < 10) := fun {zs p} hr hp => by
    obtain ⟨p1, p2⟩ := p
    have := List.of_mem_zip hp
    exact ⟨hr _ this.1, hr _ (List.mem_of_mem_tail this.2)⟩
  rcases List.mem_append.mp hp with hp | hp
  · exact hz rx hp
  · exact hz ry hp
theorem ps_len {xs ys : List Int} (hx : xs.length ≤ 10) (hy : ys.length ≤ 10) : (psF xs ys).length ≤ 18 := by
  have e1 := pairsOf_length xs
  have e2 := pairsOf_length ys
  unfold psF
  rw [List.length_append]; omega
abbrev nsW : List Str := ["script", "lead", "drawn", "half", "every", "pairs", "alike", "rows", "m", "keeps", "out", "ring", "edges"]
section
variable {w : World} {A : Around} {E : Value → Shared → Prop} {s : Shared}
theorem law_walk {ls : Addr} {zs : List Int} {Q : Value → Shared → Prop} (C : Cx w s.heap) (R : Rm A 80) (hfr0 : A.frames = some []) (hs : HasP s.heap (ls, IL zs)) (hzl : zs.length ≤ 63) (K : ∀ xs ys, R10 xs → R10 ys → xs.Nodup → ys.Nodup → LawOK xs ys)
    (h : ∀ s', ResG [] s s' [] → Q (.bool true) s') :
    wpAny (model P0 w) A (call (.ref 337) [.ref ls]) Q E s := by
  refine wp_noE ?_
  refine f_call (ns := nsW) (by rfl) C (by decide) R.room (by kernel_rfl) (binds := [("script", .ref ls)]) (.of_eq (by rfl)) fun env s' he en H => ?_
  have hL : s.heap.get? s.heap.objs.size = none := fresh_none _
  have enL : env.frame = some s.heap.objs.size := by rw [he]; rfl
  have enk : env.scope.kind ≠ .module := by rw [he]; exact (show ScopeKind.function ≠ .module by decide)
  have R' := R.deeper env
  have hfrA : (A.deeper env).frames = some [env] := by
    show A.frames.map _ = _
    rw [hfr0]; rfl
  generalize hAA : A.deeper env = AA at *
  have hhA : AA.handled = none := R'.hd
  clear hAA
  generalize hLL : s.heap.objs.size = L at *
  subst he
  obtain ⟨ca, hca⟩ : ∃ c, c = L + 1 := ⟨_, rfl⟩
  obtain ⟨cb, hcb⟩ : ∃ c, c = L + 1 + 1 := ⟨_, rfl⟩
  obtain ⟨co, hco⟩ : ∃ c, c = L + 1 + 1 + 1 := ⟨_, rfl⟩
  obtain ⟨ch, hch⟩ : ∃ c, c = L + 1 + 1 + 1 + 1 := ⟨_, rfl⟩
  obtain ⟨cr, hcr⟩ : ∃ c, c = L + 1 + 1 + 1 + 1 + 1 := ⟨_, rfl⟩
  obtain ⟨cf, hcf⟩ : ∃ c, c = L + 1 + 1 + 1 + 1 + 1 + 1 := ⟨_, rfl⟩
  replace H : Fm w s.gens s.os (hv s.heap) L nsW [none, none, none, none, none, none, none, none, none, none, none, none, none] [(cf, CellP none), (cr, CellP none), (ch, CellP none), (co, CellP none), (cb, CellP none), (ca, CellP none)] s' := by rw [hca, hcb, hco, hch, hcr, hcf]; exact H
  refine s_local H en rfl .head fun s1 H => ⟨H.ctx, ?_⟩
  have vs : VP (hv s.heap) (ls, IL zs) := hs
  have CV : CxV w (hv s.heap) := H.cx
  -- lead
  refine x_cons (x_Assign (wpAny_mono (Q := fun v s' => ∃ z t, v = .int z t ∧ Fm w s.gens s.os (hv s.heap) L nsW [some (.ref ls), none, none, none, none, none, none, none, none, none, none, none, none] [(cf, CellP none), (cr, CellP none), (ch, CellP none), (co, CellP none), (cb, CellP none), (ca, CellP none)] s')
    (e_ifexp (t_value (e_local H en rfl .head (tr_list H (H.vp vs) (by omega) fun s2 H => ⟨fun hb => ?_, fun hb => ?_⟩)) (by rfl))) (fun v s3 h3 => ?_) fun _ _ x => x))
  · refine e_bin (e_sub (e_local H en rfl .head (e_int H fun t5 s5 H => ?_)))
    obtain ⟨o, ho, v, ⟨n, rfl⟩, hv'⟩ := H.vp vs
    cases hv' with
    | nil => simp at hb
    | cons z0 t0 hv' => exact ⟨ls, _, 0, t5, .int z0 t0, rfl, rfl, ⟨_, ho, rfl, n, rfl⟩, rfl, by decide, e_int H fun t6 s6 H => b_mod (by decide) H fun t7 s7 H => ⟨_, _, rfl, H⟩⟩
  · exact e_int H fun t4 s4 H => ⟨_, _, rfl, H⟩
  obtain ⟨z, tz, rfl, H⟩ := h3
  refine a_Name (s_local H en rfl (.tail .head) fun s4 H => ?_)
  -- drawn
  obtain ⟨D0, hD0⟩ : ∃ D0, D0 = (zs.drop (min 1 zs.length)).take (min 25 zs.length - min 1 zs.length) := ⟨_, rfl⟩
  have hD0l : D0.length ≤ 24 := by rw [hD0, List.length_take, List.length_drop]; omega
  refine x_cons (x_AssignCompI (cl := []) H en hhA D0 (fun k => some (k.fmod 10)) (e_slice (e_local H en rfl .head (e_part (e_int H fun t5 s5 H => e_part (e_int H fun t6 s6 H => ⟨ls, zs, min 1 zs.length, min 25 zs.length - min 1 zs.length, _, _, _, _, _, _, _, rfl, H, H.vp vs, by omega, fun vs hvs => ⟨_, _, .int _ _, .int _ _, slice_mid hvs⟩, fun r s7 H => ?_⟩))))) rfl (by rfl) rfl (fun _ => rfl) (by rfl))
  rw [← hD0] at H
  refine ⟨r, _, _, rfl, H, H.get (.head _), by omega, fun I s₂ C D k t acc i u0 l s' hk hI hK H en => wpAny_tests_nil (by rw [if_pos rfl]; exact e_bin (e_local H en rfl (.tail .head) (e_int H fun t8 s8 H => b_mod (by decide) H fun t9 s9 H => ⟨_, _, rfl, rfl, H⟩))), _, fun v => (.tail (.tail .head)), fun D s8 H => ?_⟩
  obtain ⟨ds, hds⟩ : ∃ ds, ds = D0.filterMap fun k => some (k.fmod 10) := ⟨_, rfl⟩
  rw [← hds] at H
  have hdsl : ds.length ≤ 24 := by rw [hds]; exact Nat.le_trans (List.length_filterMap_le _ _) hD0l
  have hdsr : R10 ds := fun x hx => by
    rw [hds, List.mem_filterMap] at hx
    obtain ⟨k, _, e⟩ := hx
    obtain rfl : k.fmod 10 = x := by simpa using e
    exact ⟨Int.fmod_nonneg_of_pos _ (by decide), Int.fmod_lt_of_pos _ (by decide)⟩
  replace H := H.sub (own' := (D, IL ds) :: [(cf, CellP none), (cr, CellP none), (ch, CellP none), (co, CellP none), (cb, CellP none), (ca, CellP none)]) (.cons_cons _ (.cons _ (.refl _)))
  obtain ⟨V1, k1, vd, H⟩ := H.fz1
  clear vs
  -- half
  obtain ⟨od, hod, vdl, ⟨nd, rfl⟩, hvd⟩ := H.vp vd
  have hlen := hvd.length
  refine x_cons (x_Assign (e_bin (e_call (e_glob H en rfl (gv_len w) (c_with keep_builtin (i_cons (e_local H en rfl (.tail (.tail .head)) (i_nil ⟨H.ctx, len_spec H (items := vdl.toArray) ⟨_, hod, rfl, nd, rfl⟩ (by simp; omega) fun t9 s9 H => e_int H fun t10 s10 H => b_fdiv (b := 2) (by decide) (by decide) H fun t11 s11 H => ?_⟩))))))))
  obtain ⟨hf, hhf⟩ : ∃ hf : Nat, hf = ds.length / 2 := ⟨_, rfl⟩
  have ehf : ((vdl.toArray.size : Nat) : Int).fdiv 2 = (hf : Int) := by
    rw [Int.fdiv_eq_ediv_of_nonneg _ (by decide), hhf]
    simp [hlen]
  rw [ehf]
  refine a_Name (s_local H en rfl (.tail (.tail (.tail .head))) fun s12 H => ?_)
  have hfl : hf ≤ ds.length := by omega
  -- a, b
  refine x_cons (x_pair H hhA (e_tuple (i_cons (e_call (e_glob H en rfl (gv_unique w) (c_with (keep_fn (f := 46) rfl rfl) (i_cons (e_slice (e_local H en rfl (.tail (.tail .head)) (wpAny_pure (e_part (e_local H en rfl (.tail (.tail (.tail .head))) ⟨D, ds, 0, hf, _, _, _, _, _, _, _, rfl, H, H.vp vd, by omega, fun vs hvs => ⟨_, _, .none, .int _ _, slice_to hvs hfl⟩, fun r1 s13 H => i_nil ⟨H.ctx, ?_⟩⟩))))))))))))
  refine unique_spec H.ctx (R'.mono (by decide)) (H.get (.head _)) (by rw [List.length_take]; simp; omega) fun la s14 Rs => ?_
  replace H := H.res Rs
  refine i_cons (e_call (e_glob H en rfl (gv_unique w) (c_with (keep_fn (f := 46) rfl rfl) (i_cons (e_slice (e_local H en rfl (.tail (.tail .head)) (e_part (e_local H en rfl (.tail (.tail (.tail .head))) (wpAny_pure ⟨D, ds, hf, ds.length - hf, _, _, _, _, _, _, _, rfl, H, H.vp vd, by omega, fun vs hvs => ⟨_, _, .int _ _, .none, slice_from hvs hfl⟩, fun r2 s15 H => i_nil ⟨H.ctx, ?_⟩⟩)))))))))
  refine unique_spec H.ctx (R'.mono (by decide)) (H.get (.head _)) (by rw [List.length_take, List.length_drop]; omega) fun lb s16 Rs => ?_
  replace H := H.res Rs
  refine i_nil (n_tuple H fun tp s17 H => ⟨tp, _, _, _, _, rfl, H.get (.head _), H, fun s18 H => ?_⟩)
  obtain ⟨xs, hxs⟩ : ∃ xs, xs = uniq ((ds.drop 0).take hf) := ⟨_, rfl⟩
  obtain ⟨ys, hys⟩ : ∃ ys, ys = uniq ((ds.drop hf).take (ds.length - hf)) := ⟨_, rfl⟩
  have nx : xs.Nodup := hxs ▸ uniq_nodup _
  have ny : ys.Nodup := hys ▸ uniq_nodup _
  have rx : R10 xs := fun x hx => hdsr x (List.mem_of_mem_drop (List.mem_of_mem_take ((uniq_mem _ x).mp (hxs ▸ hx))))
  have ry : R10 ys := fun x hx => hdsr x (List.mem_of_mem_drop (List.mem_of_mem_take ((uniq_mem _ x).mp (hys ▸ hx))))
  replace H : Fm w s.gens s.os V1 L nsW [some (.ref ls), some (.int z tz), some (.ref D), some (.int hf t11), none, none, none, none, none, none, none, none, none] ([(lb, IL ys), (la, IL xs)] ++ [(cf, CellP none), (cr, CellP none), (ch, CellP none), (co, CellP none), (cb, CellP none), (ca, CellP none)]) s18 := by
    rw [hxs, hys]
    exact H.sub (.cons _ (.cons_cons _ (.cons _ (.cons_cons _ (.cons _ (.refl _))))))
  obtain ⟨V2, k2, f2, H⟩ := H.fz
  have va := f2 _ (.tail _ (.head _))
  have vb := f2 _ (.head _)
  have k02 := k1.trans k2
  clear f2 k1 k2 hxs hys vd
  refine a_Name (s_cell (i := 5) H en rfl (by rw [hca]; rfl) rfl fun s19 H => a_Name (s_cell (i := 4) H en rfl (by rw [hcb]; rfl) rfl fun s20 H => ?_))
  have hxl := len10 nx rx
  have hyl0 := len10 ny ry
  replace H : Fm w s.gens s.os V2 L nsW [some (.ref ls), some (.int z tz), some (.ref D), some (.int hf t11), none, none, none, none, none, none, none, none, none] [(cf, CellP none), (cr, CellP none), (ch, CellP none), (co, CellP none), (cb, CellP (some (.ref lb))), (ca, CellP (some (.ref la)))] s20 := H
  -- if
  refine x_cons (wpAny_mono (Q := fun (f : Flow) s' => f = .next ∧ ∃ V3 lb' ys' ov, V2.le V3 ∧ VP V3 (lb', IL ys') ∧ ys'.Nodup ∧ R10 ys' ∧ Fm w s.gens s.os V3 L nsW [some (.ref ls), some (.int z tz), some (.ref D), some (.int hf t11), none, none, none, none, none, none, none, none, none] [(cf, CellP none), (cr, CellP none), (ch, CellP none), (co, CellP ov), (cb, CellP (some (.ref lb'))), (ca, CellP (some (.ref la)))] s')
    (x_If (t_cmp (e_bin (e_local H en rfl (.tail .head) (e_int H fun t21 s21 H => b_mod (b := 3) (by decide) H fun t22 s22 H => e_int H fun t23 s23 H => P.eq_int (tr_bool ⟨fun hb => ?_, fun hb => ?_⟩)))))) (fun f s30 h30 => ?_) fun _ _ x => x)
  · refine x_cons (x_Assign (e_CompI (cl := [("b", cb)]) H en hhA xs (fun k => if decide (k ∈ ys) = true then some k else none) (e_cell H en rfl (by rw [hca]; rfl) (.tail _ (.tail _ (.tail _ (.tail _ (.tail _ (.head _)))))) ⟨la, _, _, rfl, H, H.vp va, by omega, turn_in (H.get (.tail _ (.tail _ (.tail _ (.tail _ (.head _)))))) (H.vp vb) (fun _ => rfl) (fun _ => rfl) (fun _ => rfl), fun lbo s24 H => ?_⟩) (by rw [hcb]; rfl) rfl (fun _ => rfl)))
    rw [fm_filter] at H
    refine a_Name (s_cell (i := 4) H en rfl (by rw [hco]; rfl) rfl fun s25 H => ?_)
    have hbl : (xs.filter fun k => decide (k ∈ ys)).length = (ys.filter fun y => decide (y ∈ xs)).length := by
      apply List.Perm.length_eq
      rw [List.perm_ext_iff_of_nodup (nx.filter _) (ny.filter _)]
      intro y
      simp [and_comm]
    refine x_cons (x_Assign (e_swapComp (cl := [("both", co), ("a", ca)]) (bs := xs.filter fun k => decide (k ∈ ys)) (xs := xs) (ys := ys) (lbo := lbo) (la := la) (ca := ca) (co := co) H en hhA (e_cell H en rfl (by rw [hcb]; rfl) (.tail _ (.tail _ (.tail _ (.tail _ (.tail _ (.head _)))))) ⟨lb, _, rfl, H, H.vp vb, H.vne vb (.head _), H.vp va, H.vne va (.head _), (.tail _ (.tail _ (.tail _ (.tail _ (.tail _ (.head _)))))), (.tail _ (.tail _ (.tail _ (.head _)))), fun D2 r s26 H => ?_⟩) (by omega) hbl (by rw [hca, hco]; rfl) rfl (fun _ => rfl) (fun _ => rfl) (fun _ => rfl) (fun _ => rfl) (fun _ => rfl) (fun _ => ⟨_, rfl⟩)))
    refine a_Name (s_cell (i := 6) H en rfl (by rw [hcb]; rfl) rfl fun s27 H => x_nil ⟨rfl, ?_⟩)
    replace H : Fm w s.gens s.os V2 L nsW [some (.ref ls), some (.int z tz), some (.ref D), some (.int hf t11), none, none, none, none, none, none, none, none, none] ([(D2, IL (swp xs ys (xs.filter fun k => decide (k ∈ ys)))), (lbo, IL r)] ++ [(cf, CellP none), (cr, CellP none), (ch, CellP none), (co, CellP (some (.ref lbo))), (cb, CellP (some (.ref D2))), (ca, CellP (some (.ref la)))]) s27 := H
    obtain ⟨V3, k3, f3, H⟩ := H.fz
    have hp : (swp xs ys (xs.filter fun k => decide (k ∈ ys))).Perm ys := by
      refine (swp_perm xs ys _ hbl).trans (((?_ : (xs.filter fun k => decide (k ∈ ys)).Perm (ys.filter fun y => decide (y ∈ xs))).append_right _).trans ?_)
      · rw [List.perm_ext_iff_of_nodup (nx.filter _) (ny.filter _)]
        intro y
        simp [and_comm]
      · have := List.filter_append_perm (fun y => decide (y ∈ xs)) ys
        simpa using this
    exact ⟨V3, D2, _, _, k3, f3 _ (.head _), hp.nodup_iff.mpr ny, fun x hx => ry x (hp.mem_iff.mp hx), H⟩
  · exact x_nil ⟨rfl, V2, lb, ys, _, View.le.refl _, vb, ny, ry, H⟩
  obtain ⟨rfl, V3, lb', ys', ov, k3, vb', ny', ry', H⟩ := h30
  clear vb ny ry hyl0
  replace va := va.le k3
  have KK := K xs ys' rx ry' nx ny'
  have hyl := len10 ny' ry'
  -- every
  refine x_cons (x_Assign (e_bin (e_cell H en rfl (by rw [hca]; rfl) (.tail _ (.tail _ (.tail _ (.tail _ (.tail _ (.head _)))))) (e_CompI (cl := [("a", ca)]) H en hhA ys' (fun k => if decide (k ∉ xs) = true then some k else none) (e_cell H en rfl (by rw [hcb]; rfl) (.tail _ (.tail _ (.tail _ (.tail _ (.head _))))) ⟨lb', _, _, rfl, H, H.vp vb', by omega, turn_notin (H.get (.tail _ (.tail _ (.tail _ (.tail _ (.tail _ (.head _))))))) (H.vp va) (fun _ => rfl) (fun _ => rfl) (fun _ => rfl), fun c3 s31 H => ?_⟩) (by rw [hca]; rfl) rfl (fun _ => rfl)))))
  rw [fm_filter] at H
  refine b_addL H (H.vp va) (H.get (.head _)) (by have := List.length_filter_le (fun y => decide (y ∉ xs)) ys'; omega) fun lev s32 H => a_Name (s_local H en rfl (.tail (.tail (.tail (.tail .head)))) fun s33 H => ?_)
  obtain ⟨ev, hev⟩ : ∃ ev, ev = everyF xs ys' := ⟨_, rfl⟩
  have evn : ev.Nodup := hev ▸ every_nd nx ny'
  have evr : R10 ev := hev ▸ every_r rx ry'
  have evl := len10 evn evr
  replace H : Fm w s.gens s.os V3 L nsW [some (.ref ls), some (.int z tz), some (.ref D), some (.int hf t11), some (.ref lev), none, none, none, none, none, none, none, none] ((lev, IL ev) :: [(cf, CellP none), (cr, CellP none), (ch, CellP none), (co, CellP ov), (cb, CellP (some (.ref lb'))), (ca, CellP (some (.ref la)))]) s33 := by rw [hev]; exact H.sub (.cons_cons _ (.cons _ (.refl _)))
  obtain ⟨V4, k4, vev, H⟩ := H.fz1
  replace va := va.le k4
  replace vb' := vb'.le k4
  -- pairs
  refine x_cons (x_Assign (e_call (e_glob H en rfl (gv_pairs w) (c_with (keep_fn (f := 310) rfl rfl) (i_cons (e_tuple (i_cons (e_cell H en rfl (by rw [hca]; rfl) (.tail _ (.tail _ (.tail _ (.tail _ (.tail _ (.head _)))))) (i_cons (e_cell H en rfl (by rw [hcb]; rfl) (.tail _ (.tail _ (.tail _ (.tail _ (.head _))))) (i_nil (n_tuple H fun tt s34 H => i_nil ⟨H.ctx, pairs_spec (T := tt) H.ctx (R'.mono (by decide)) (H.get (.head _)) (H.vp va) (H.vp vb') (by omega) (by omega) fun lp ts s35 hts Rs => ?_⟩))))))))))))
  obtain ⟨ps, hps⟩ : ∃ ps, ps = psF xs ys' := ⟨_, rfl⟩
  have hD : ∀ p ∈ ps, (0 ≤ p.1 ∧ p.1 < 10) ∧ (0 ≤ p.2 ∧ p.2 < 10) := hps ▸ ps_d rx ry'
  have hpl : ps.length ≤ 18 := hps ▸ ps_len hxl hyl
  have hts' : ts.length = ps.length := hps ▸ hts
  replace Rs : Res s34 s35 ((lp, LP (ts.map Value.ref).toArray) :: tups ts ps) := by rw [hps]; exact Rs
  obtain ⟨V5, k5, f5, H⟩ := H.absorb Rs
  have vpl : VPL V5 lp ps := ⟨ts, f5 _ (.head _), hts', fun q hq => f5 _ (.tail _ hq)⟩
  clear f5 Rs hts
  replace va := va.le k5
  replace vb' := vb'.le k5
  replace vev := vev.le k5
  refine a_Name (s_local H en rfl (.tail (.tail (.tail (.tail (.tail .head))))) fun s36 H => ?_)
  replace H : Fm w s.gens s.os V5 L nsW [some (.ref ls), some (.int z tz), some (.ref D), some (.int hf t11), some (.ref lev), some (.ref lp), none, none, none, none, none, none, none] [(cf, CellP none), (cr, CellP none), (ch, CellP none), (co, CellP ov), (cb, CellP (some (.ref lb'))), (ca, CellP (some (.ref la)))] s36 := H.sub (.cons _ (.refl _))
  -- behind
  refine x_cons (x_Assign (e_call (e_glob H en rfl (gv_behind w) (c_with (keep_fn (f := 315) rfl rfl) (i_cons (e_local H en rfl (.tail (.tail (.tail (.tail (.tail .head))))) (i_cons (e_local H en rfl (.tail (.tail (.tail (.tail .head)))) (i_nil ⟨H.ctx, behind_spec H.ctx (R'.mono (by decide)) (vpl.le H.view) (H.vp vev) hD evr (by omega) (by omega) fun Bl rs s37 hrs Rs => ?_⟩)))))))))
  obtain ⟨M, hM⟩ : ∃ M, M = behindF ps ev := ⟨_, rfl⟩
  rw [← hM] at Rs
  obtain ⟨V6, k6, f6, H⟩ := H.absorb Rs
  have vB := f6 _ (.head _)
  have vrw : ∀ p ∈ mrows rs M, VP V6 p := fun p hp => f6 p (.tail _ hp)
  clear f6 Rs
  replace va := va.le k6
  replace vb' := vb'.le k6
  replace vev := vev.le k6
  replace vpl := vpl.le k6
  refine a_Name (s_cell (i := 2) H en rfl (by rw [hch]; rfl) rfl fun s38 H => ?_)
  -- rings
  refine x_cons (x_Assign (e_CompI (cl := [("behind", ch)]) H en hhA ev (fun k => if M k k = true then some k else none) (e_local H en rfl (.tail (.tail (.tail (.tail .head)))) ⟨lev, _, _, rfl, H, H.vp vev, by omega, turn_ring (H.get (.tail _ (.tail _ (.head _)))) (H.vp vB) (fun p hp => H.vp (vrw p hp)) hrs evr (fun _ => rfl) (fun _ => rfl) (fun _ => rfl), fun lr s39 H => ?_⟩) (by rw [hch]; rfl) rfl (fun _ => rfl)))
  obtain ⟨rg, hrg⟩ : ∃ rg, rg = rgF xs ys' := ⟨_, rfl⟩
  have erg : (ev.filterMap fun k => if M k k = true then some k else none) = rg := by rw [fm_filter (fun k => M k k), hrg, hM, hev, hps]; rfl
  rw [erg] at H
  have rgs : ∀ x ∈ rg, x ∈ ev := fun x hx => by rw [hrg, ] at hx; exact hev ▸ (List.mem_filter.mp hx).1
  have rgr : R10 rg := fun x hx => evr x (rgs x hx)
  have rgl : rg.length ≤ 10 := by rw [hrg]; exact Nat.le_trans (List.length_filter_le _ _) (by rw [← hev]; exact evl)
  refine a_Name (s_cell (i := 2) H en rfl (by rw [hcr]; rfl) rfl fun s40 H => ?_)
  replace H : Fm w s.gens s.os V6 L nsW [some (.ref ls), some (.int z tz), some (.ref D), some (.int hf t11), some (.ref lev), some (.ref lp), none, none, none, none, none, none, none] ((lr, IL rg) :: [(cf, CellP none), (cr, CellP (some (.ref lr))), (ch, CellP (some (.ref Bl))), (co, CellP ov), (cb, CellP (some (.ref lb'))), (ca, CellP (some (.ref la)))]) s40 := H
  obtain ⟨V7, k7, vr, H⟩ := H.fz1
  replace va := va.le k7
  replace vb' := vb'.le k7
  replace vev := vev.le k7
  replace vpl := vpl.le k7
  replace vB := vB.le k7
  replace vrw := fun p hp => VP.le (vrw p hp) k7
  -- alike
  refine x_cons (x_Assign (e_cmp (e_osAnd H en (R'.mono (by decide)) rfl rfl rfl rfl (by rw [hca]; rfl) (by rw [hcb]; rfl) (.tail _ (.tail _ (.tail _ (.tail _ (.tail _ (.head _)))))) (.tail _ (.tail _ (.tail _ (.tail _ (.head _))))) (H.vp va) (H.vp vb') rx nx (by omega) fun o1 s41 H => e_osAnd H en (R'.mono (by decide)) rfl rfl rfl rfl (by rw [hcb]; rfl) (by rw [hca]; rfl) (.tail _ (.tail _ (.tail _ (.tail _ (.tail _ (.head _)))))) (.tail _ (.tail _ (.tail _ (.tail _ (.tail _ (.tail _ (.head _))))))) (H.vp vb') (H.vp va) ry' ny' (by omega) fun o2 s42 H => c_eqL (R'.mono (by decide)) (H.get (.tail _ (.head _))) (H.get (.head _)) ?_)))
  rw [KK.al, ← hrg]
  refine a_Name (s_local H en rfl (.tail (.tail (.tail (.tail (.tail (.tail .head)))))) fun s43 H => ?_)
  replace H := H.sub (.cons _ (.cons _ (.refl _)))
  -- rows
  refine x_cons (x_Assign (e_tuple (i_cons (e_CompI (cl := []) H en hhA xs some (e_cell H en rfl (by rw [hca]; rfl) (.tail _ (.tail _ (.tail _ (.tail _ (.tail _ (.head _)))))) ⟨la, _, _, rfl, H, H.vp va, by omega, turn_copy (fun _ => rfl), fun c1 s44 H => ?_⟩) rfl rfl (fun _ => rfl)))))
  refine i_cons (e_CompI (cl := []) H en hhA ys' some (e_cell H en rfl (by rw [hcb]; rfl) (.tail _ (.tail _ (.tail _ (.tail _ (.tail _ (.head _)))))) ⟨lb', _, _, rfl, H, H.vp vb', by omega, turn_copy (fun _ => rfl), fun c2 s45 H => ?_⟩) rfl rfl (fun _ => rfl))
  rw [fm_some, fm_some] at H
  refine i_nil (n_tuple H fun tr s46 H => a_Name (s_local H en rfl (.tail (.tail (.tail (.tail (.tail (.tail (.tail .head))))))) fun s47 H => ?_))
  replace H : Fm w s.gens s.os V7 L nsW [some (.ref ls), some (.int z tz), some (.ref D), some (.int hf t11), some (.ref lev), some (.ref lp), some (.bool rg.isEmpty), some (.ref tr), none, none, none, none, none] ([(tr, TP #[.ref c1, .ref c2]), (c2, IL ys'), (c1, IL xs)] ++ [(cf, CellP none), (cr, CellP (some (.ref lr))), (ch, CellP (some (.ref Bl))), (co, CellP ov), (cb, CellP (some (.ref lb'))), (ca, CellP (some (.ref la)))]) s47 := H
  have nc1 : la ≠ c1 := H.vne va (.tail _ (.tail _ (.head _)))
  have nc2 : lb' ≠ c2 := H.vne vb' (.tail _ (.head _))
  obtain ⟨V8, k8, f8, H⟩ := H.fz
  have vtr := f8 _ (.head _)
  have vc2 := f8 _ (.tail _ (.head _))
  have vc1 := f8 _ (.tail _ (.tail _ (.head _)))
  clear f8
  replace va := va.le k8
  replace vb' := vb'.le k8
  replace vev := vev.le k8
  replace vpl := vpl.le k8
  replace vB := vB.le k8
  replace vrw := fun p hp => VP.le (vrw p hp) k8
  replace vr := vr.le k8
  -- m
  refine x_cons (x_Assign (e_call (e_glob H en rfl (gv_merge w) (c_with (keep_fn (f := 260) rfl rfl) (i_cons (e_cell H en rfl (by rw [hca]; rfl) (.tail _ (.tail _ (.tail _ (.tail _ (.tail _ (.head _)))))) (i_cons (e_cell H en rfl (by rw [hcb]; rfl) (.tail _ (.tail _ (.tail _ (.tail _ (.head _))))) (i_nil ⟨H.ctx, merge_spec H.ctx (R'.mono (by decide)) (H.vp va) (H.vp vb') rx ry' (by omega) (by omega) fun m s48 km gm om fm pm => ?_⟩)))))))))
  replace H := H.alloc km (gm.trans H.gens) (om.trans H.os) fm pm
  refine a_Name (s_local H en rfl (.tail (.tail (.tail (.tail (.tail (.tail (.tail (.tail .head)))))))) fun s49 H => ?_)
  obtain ⟨MM, hMM⟩ : ∃ MM, MM = mergeF xs ys' := ⟨_, rfl⟩
  have MMl : MM.length ≤ 20 := by
    rw [hMM]
    exact mergeF_len hxl hyl
  replace H : Fm w s.gens s.os V8 L nsW [some (.ref ls), some (.int z tz), some (.ref D), some (.int hf t11), some (.ref lev), some (.ref lp), some (.bool rg.isEmpty), some (.ref tr), some (.ref m), none, none, none, none] ((m, IL MM) :: [(cf, CellP none), (cr, CellP (some (.ref lr))), (ch, CellP (some (.ref Bl))), (co, CellP ov), (cb, CellP (some (.ref lb'))), (ca, CellP (some (.ref la)))]) s49 := by rw [hMM]; exact H
  obtain ⟨V9, k9, vm, H⟩ := H.fz1
  replace va := va.le k9
  replace vb' := vb'.le k9
  replace vev := vev.le k9
  replace vpl := vpl.le k9
  replace vB := vB.le k9
  replace vrw := fun p hp => VP.le (vrw p hp) k9
  replace vr := vr.le k9
  replace vtr := vtr.le k9
  replace vc1 := vc1.le k9
  replace vc2 := vc2.le k9
  -- keeps
  refine x_cons (x_Assign (wpAny_mono (Q := fun v s' => v = .bool rg.isEmpty ∧ Fm w s.gens s.os V9 L nsW [some (.ref ls), some (.int z tz), some (.ref D), some (.int hf t11), some (.ref lev), some (.ref lp), some (.bool rg.isEmpty), some (.ref tr), some (.ref m), none, none, none, none] [(cf, CellP none), (cr, CellP (some (.ref lr))), (ch, CellP (some (.ref Bl))), (co, CellP ov), (cb, CellP (some (.ref lb'))), (ca, CellP (some (.ref la)))] s')
    (BoolOp_and (e_cmp (e_CompI (cl := [("a", ca)]) H en hhA MM (fun k => if decide (k ∈ xs) = true then some k else none) (e_local H en rfl (.tail (.tail (.tail (.tail (.tail (.tail (.tail (.tail .head)))))))) ⟨m, _, _, rfl, H, H.vp vm, by omega, turn_in (H.get (.tail _ (.tail _ (.tail _ (.tail _ (.tail _ (.head _))))))) (H.vp va) (fun _ => rfl) (fun _ => rfl) (fun _ => rfl), fun d1 s50 H => e_cell H en rfl (by rw [hca]; rfl) (.tail _ (.tail _ (.tail _ (.tail _ (.tail _ (.tail _ (.head _))))))) (c_eqL (R'.mono (by decide)) (H.get (.head _)) (H.vp va) (tr_bool ?_))⟩) (by rw [hca]; rfl) rfl (fun _ => rfl)))) (fun v s52 h52 => ?_) fun _ _ x => x))
  · rw [fm_filter]
    replace H := H.sub (.cons _ (.refl _))
    by_cases hk1 : (MM.filter fun k => decide (k ∈ xs)) = xs
    · rw [if_pos (decide_eq_true hk1)]
      refine BoolOp_one (e_cmp (e_CompI (cl := [("b", cb)]) H en hhA MM (fun k => if decide (k ∈ ys') = true then some k else none) (e_local H en rfl (.tail (.tail (.tail (.tail (.tail (.tail (.tail (.tail .head)))))))) ⟨m, _, _, rfl, H, H.vp vm, by omega, turn_in (H.get (.tail _ (.tail _ (.tail _ (.tail _ (.head _)))))) (H.vp vb') (fun _ => rfl) (fun _ => rfl) (fun _ => rfl), fun d2 s51 H => e_cell H en rfl (by rw [hcb]; rfl) (.tail _ (.tail _ (.tail _ (.tail _ (.tail _ (.head _)))))) (c_eqL (R'.mono (by decide)) (H.get (.head _)) (H.vp vb') ⟨?_, H.sub (.cons _ (.refl _))⟩)⟩) (by rw [hcb]; rfl) rfl (fun _ => rfl)))
      rw [fm_filter]
      have hke := KK.ke
      rw [← hMM, ← hrg, decide_eq_true hk1, Bool.true_and] at hke
      rw [hke]
    · rw [if_neg (by simpa using hk1)]
      refine ⟨?_, H⟩
      have hke := KK.ke
      rw [← hMM, ← hrg, decide_eq_false hk1, Bool.false_and] at hke
      rw [decide_eq_false hk1, hke]
  obtain ⟨rfl, H⟩ := h52
  refine a_Name (s_local H en rfl (.tail (.tail (.tail (.tail (.tail (.tail (.tail (.tail (.tail .head))))))))) fun s53 H => ?_)
  -- free
  refine x_cons (x_Assign (e_CompC (cl := [("rings", cr), ("behind", ch)]) H en hhA ev (fun k => if (!(rg.any fun r => M r k)) = true then some k else none) (e_local H en rfl (.tail (.tail (.tail (.tail .head)))) ⟨lev, _, _, rfl, H, H.vp vev, by omega, turn_free hhA (H.get (.tail _ (.tail _ (.head _)))) (H.vp vB) (fun p hp => H.vp (vrw p hp)) (H.get (.tail _ (.head _))) (H.vp vr) hrs evr rgr (by omega) (fun _ _ => rfl) (fun _ _ => rfl) (fun _ _ => rfl) (fun _ _ => rfl) (fun _ _ => rfl) rfl (fun _ _ _ => rfl) (fun _ _ _ => rfl) (fun _ _ _ => rfl), fun lf s54 H => ?_⟩) (by rw [hcr, hch]; rfl) (fun _ => rfl) (fun _ => rfl) (fun _ _ => rfl)))
  obtain ⟨fr, hfr⟩ : ∃ fr, fr = freeF xs ys' := ⟨_, rfl⟩
  have efr : (ev.filterMap fun k => if (!(rg.any fun r => M r k)) = true then some k else none) = fr := by rw [fm_filter (fun k => !(rg.any fun r => M r k)), hfr, hM, hev, hps, hrg]; rfl
  rw [efr] at H
  have frl : fr.length ≤ 10 := by rw [hfr]; exact Nat.le_trans (List.length_filter_le _ _) (by rw [← hev]; exact evl)
  refine a_Name (s_cell (i := 1) H en rfl (by rw [hcf]; rfl) rfl fun s55 H => ?_)
  replace H : Fm w s.gens s.os V9 L nsW [some (.ref ls), some (.int z tz), some (.ref D), some (.int hf t11), some (.ref lev), some (.ref lp), some (.bool rg.isEmpty), some (.ref tr), some (.ref m), some (.bool rg.isEmpty), none, none, none] ((lf, IL fr) :: [(cf, CellP (some (.ref lf))), (cr, CellP (some (.ref lr))), (ch, CellP (some (.ref Bl))), (co, CellP ov), (cb, CellP (some (.ref lb'))), (ca, CellP (some (.ref la)))]) s55 := H
  obtain ⟨V10, k10, vf, H⟩ := H.fz1
  replace va := va.le k10
  replace vb' := vb'.le k10
  replace vev := vev.le k10
  replace vpl := vpl.le k10
  replace vB := vB.le k10
  replace vrw := fun p hp => VP.le (vrw p hp) k10
  replace vr := vr.le k10
  replace vtr := vtr.le k10
  replace vc1 := vc1.le k10
  replace vc2 := vc2.le k10
  replace vm := vm.le k10
  -- sorted
  refine x_cons (wpAny_mono (Q := fun (f : Flow) s' => f = .next ∧ ∃ V11 rv evv lo out tzz, V10.le V11 ∧ Fm w s'.gens s.os V11 L nsW [some (.ref ls), some (.int z tz), some (.ref D), some (.int hf t11), some (.ref lev), some (.ref lp), some (.bool rg.isEmpty), some (.ref tr), some (.ref m), some (.bool rg.isEmpty), some (.ref lo), some rv, some evv] [(cf, CellP (some (.ref lf))), (cr, CellP (some (.ref lr))), (ch, CellP (some (.ref Bl))), (co, CellP ov), (cb, CellP (some (.ref lb'))), (ca, CellP (some (.ref la)))] s' ∧
      VP V11 (lo, IL out) ∧ GCh [] s.gens s'.gens ∧ Drain ps [] ev out tzz ∧ ((tzz = [] ∧ rv = .none ∧ evv = .none) ∨ (tzz ≠ [] ∧ ∃ r S e q, rv = .ref r ∧ evv = .ref e ∧ VP V11 (r, SP w S) ∧ (∀ x, x ∈ S ↔ Cyc ps x) ∧ VP V11 (e, PP w q) ∧ (∀ p ∈ qtups q, VP V11 p) ∧ ∀ p, p ∈ q.map (·.2) ↔ p ∈ ps)))
    (x_triple (O := s.os) (L := L) (ns := nsW) hhA (e_call (e_glob H en rfl (gv_sorted' w) (c_with (keep_fn (f := 327) rfl rfl) (i_cons (e_local H en rfl (.tail (.tail (.tail (.tail (.tail .head))))) (i_cons (e_local H en rfl (.tail (.tail (.tail (.tail .head)))) (i_nil ⟨H.ctx, ?_⟩))))))))) (fun f s60 h60 => ?_) fun _ _ x => x)
  · have hg0 : s55.gens = s.gens := H.gens
    refine sorted_callE enk enL hfrA H (R'.mono (by decide)) vpl vev hD hpl evr evn (by omega) (fun r lo out s56 hdr RG => ?_) (fun r lo out tzz rg' S eds q s56 htz hdr hS hq RG => ?_)
    · have hG : GCh [] s.gens s56.gens := by rw [← hg0]; exact RG.g
      replace H := H.resG RG
      refine ⟨r, _, _, _, _, _, _, _, rfl, H.get (.head _), H, fun s57 H => ?_⟩
      refine a_Name (s_local H en rfl (.tail (.tail (.tail (.tail (.tail (.tail (.tail (.tail (.tail (.tail .head)))))))))) fun s58 H => a_Name (s_local H en rfl (.tail (.tail (.tail (.tail (.tail (.tail (.tail (.tail (.tail (.tail (.tail .head))))))))))) fun s59 H => a_Name (s_local H en rfl (.tail (.tail (.tail (.tail (.tail (.tail (.tail (.tail (.tail (.tail (.tail (.tail .head)))))))))))) fun s60 H => ?_)))
      have hg60 : s60.gens = s56.gens := H.gens
      replace H : Fm w s56.gens s.os V10 L nsW [some (.ref ls), some (.int z tz), some (.ref D), some (.int hf t11), some (.ref lev), some (.ref lp), some (.bool rg.isEmpty), some (.ref tr), some (.ref m), some (.bool rg.isEmpty), some (.ref lo), some .none, some .none] ((lo, IL out) :: [(cf, CellP (some (.ref lf))), (cr, CellP (some (.ref lr))), (ch, CellP (some (.ref Bl))), (co, CellP ov), (cb, CellP (some (.ref lb'))), (ca, CellP (some (.ref la)))]) s60 := H.sub (.cons _ (.refl _))
      obtain ⟨V11, k11, vlo, H⟩ := H.fz1
      exact ⟨rfl, V11, _, _, lo, out, [], k11, H.gens', vlo, hg60 ▸ hG, hdr, .inl ⟨rfl, rfl, rfl⟩⟩
    · have hG : GCh [] s.gens s56.gens := by rw [← hg0]; exact RG.g
      replace H := H.resL RG
      refine ⟨r, _, _, _, _, _, _, _, rfl, H.get (.head _), H, fun s57 H => ?_⟩
      refine a_Name (s_local H en rfl (.tail (.tail (.tail (.tail (.tail (.tail (.tail (.tail (.tail (.tail .head)))))))))) fun s58 H => a_Name (s_local H en rfl (.tail (.tail (.tail (.tail (.tail (.tail (.tail (.tail (.tail (.tail (.tail .head))))))))))) fun s59 H => a_Name (s_local H en rfl (.tail (.tail (.tail (.tail (.tail (.tail (.tail (.tail (.tail (.tail (.tail (.tail .head)))))))))))) fun s60 H => ?_)))
      have hg60 : s60.gens = s56.gens := H.gens
      replace H : Fm w s56.gens s.os V10 L nsW [some (.ref ls), some (.int z tz), some (.ref D), some (.int hf t11), some (.ref lev), some (.ref lp), some (.bool rg.isEmpty), some (.ref tr), some (.ref m), some (.bool rg.isEmpty), some (.ref lo), some (.ref rg'), some (.ref eds)] (((r, TP #[.ref lo, .ref rg', .ref eds]) :: (lo, IL out) :: (rg', SP w S) :: (eds, PP w q) :: qtups q) ++ [(cf, CellP (some (.ref lf))), (cr, CellP (some (.ref lr))), (ch, CellP (some (.ref Bl))), (co, CellP ov), (cb, CellP (some (.ref lb'))), (ca, CellP (some (.ref la)))]) s60 := H
      obtain ⟨V11, k11, f11, H⟩ := H.fz
      exact ⟨rfl, V11, _, _, lo, out, tzz, k11, H.gens', f11 _ (.tail _ (.head _)), hg60 ▸ hG, hdr, .inr ⟨htz, rg', S, eds, q, rfl, rfl, f11 _ (.tail _ (.tail _ (.head _))), hS, f11 _ (.tail _ (.tail _ (.tail _ (.head _)))), fun p hp => f11 p (.tail _ (.tail _ (.tail _ (.tail _ hp)))), hq⟩⟩
  obtain ⟨rfl, V11, rv, evv, lo, out, tzz, k11, H, vlo, hG, hdr, hring⟩ := h60
  replace va := va.le k11
  replace vb' := vb'.le k11
  replace vev := vev.le k11
  replace vpl := vpl.le k11
  replace vB := vB.le k11
  replace vrw := fun p hp => VP.le (vrw p hp) k11
  replace vr := vr.le k11
  replace vtr := vtr.le k11
  replace vc1 := vc1.le k11
  replace vc2 := vc2.le k11
  replace vm := vm.le k11
  replace vf := vf.le k11
  obtain ⟨hz, hperm, hkeep⟩ := KK.dr out tzz (by rw [← hps, ← hev]; exact hdr)
  rw [← hrg] at hz
  rw [← hfr] at hperm hkeep
  rw [← hps] at hkeep
  have hcy : ∀ x, x ∈ rg ↔ Cyc ps x := fun x => by rw [hrg, hps]; exact KK.cy x
  have outl : out.length ≤ 10 := by rw [hperm.length_eq]; exact frl
  have outr : R10 out := fun x hx => by
    have := hperm.mem_iff.mp hx
    rw [hfr] at this
    exact evr x (hev ▸ (List.mem_filter.mp this).1)
  have hrvN : (rv = .none ∧ rg.isEmpty = true) ∨ (∃ a, rv = .ref a ∧ rg.isEmpty = false) := by
    rcases hring with ⟨a1, a2, _⟩ | ⟨a1, r, S, e, q, a2, _⟩
    · exact .inl ⟨a2, by rw [hz.mp a1]; rfl⟩
    · refine .inr ⟨r, a2, ?_⟩
      cases hq : rg with
      | nil => exact absurd (hz.mpr hq) a1
      | cons x l => rfl
  -- if 1
  refine x_cons (x_If (isTrue_or (t_cmp (e_tuple (i_cons (e_local H en rfl (.tail (.tail (.tail (.tail (.tail (.tail .head)))))) (i_cons (e_local H en rfl (.tail (.tail (.tail (.tail (.tail (.tail (.tail (.tail (.tail .head))))))))) (i_cons (e_cmp (e_local H en rfl (.tail (.tail (.tail (.tail (.tail (.tail (.tail (.tail (.tail (.tail (.tail .head))))))))))) (e_none (c_isN hrvN (i_nil (n_tuple H fun t1 s61 H => e_tuple (i_cons (e_unary (e_cell H en rfl (by rw [hcr]; rfl) (.tail _ (.tail _ (.head _))) (u_not (tr_list H (H.vp vr) (by omega) fun s62 H => i_cons (e_unary (e_cell H en rfl (by rw [hcr]; rfl) (.tail _ (.tail _ (.head _))) (u_not (tr_list H (H.vp vr) (by omega) fun s63 H => i_cons (e_unary (e_cell H en rfl (by rw [hcr]; rfl) (.tail _ (.tail _ (.head _))) (u_not (tr_list H (H.vp vr) (by omega) fun s64 H => i_nil (n_tuple H fun t2 s65 H => c_neT3 (R'.mono (by decide)) (H.get (.tail _ (.head _))) (H.get (.head _)) (tr_bool ?_))))))))))))))))))))))))))))))
  rw [if_neg (by simp)]
  replace H := H.sub (.cons _ (.cons _ (.refl _)))
  refine isTrue_or (t_cmp (e_tuple (i_cons (e_cell H en rfl (by rw [hca]; rfl) (.tail _ (.tail _ (.tail _ (.tail _ (.tail _ (.head _)))))) (i_cons (e_cell H en rfl (by rw [hcb]; rfl) (.tail _ (.tail _ (.tail _ (.tail _ (.head _))))) (i_nil (n_tuple H fun t3 s66 H => e_local H en rfl (.tail (.tail (.tail (.tail (.tail (.tail (.tail .head))))))) (c_neTT (R'.mono (by decide)) (H.get (.head _)) (H.vp vtr) (H.vp va) (H.vp vb') (H.vp vc1) (H.vp vc2) nc1 nc2 (tr_bool ?_))))))))))
  rw [if_neg (by simp)]
  refine isTrue_or_nil ⟨fun h => (nomatch h), fun _ => x_nil ?_⟩
  replace H := H.sub (.cons _ (.refl _))
  -- if 2
  refine x_cons (x_If (t_cmp (e_call (e_glob H en rfl (gv_find w) (c_with (keep_fn (f := 300) rfl rfl) (i_cons (e_local H en rfl (.tail (.tail (.tail (.tail (.tail .head))))) (i_cons (e_local H en rfl (.tail (.tail (.tail (.tail .head)))) (i_nil ⟨H.ctx, find_spec H.ctx (R'.mono (by decide)) (vpl.le H.view) hD (by omega) fun cyS SS s67 hSS Rs => ?_⟩))))))))))
  have HF := H.res Rs
  refine e_call (e_glob HF en rfl (gv_set w) (c_with keep_type (i_cons (e_cell HF en rfl (by rw [hcr]; rfl) (.tail _ (.tail _ (.head _))) (i_nil ⟨HF.ctx, k_set_list HF.ctx hhA (IL.li (HF.vp vr)) rgr fun S2 hS2 => HF.newS fun e0 s68 HF => ?_⟩)))))
  obtain ⟨oc, hoc, dc, rfl, hdc⟩ := HF.get (a := cyS) (p := SP w SS) (.tail _ (.head _))
  obtain ⟨oe, hoe, de, rfl, hde⟩ := HF.get (a := e0) (p := SP w S2) (.head _)
  refine k_set_ne (o := setO dc) (ob := setO de) hoc hdc hoe hde (fun b hb => tr_bool ?_) (R'.mono (by decide) : Rm _ 1).cl
  rw [hb.mpr fun x => by rw [hSS, hS2, hcy]]
  refine ⟨fun h => (nomatch h), fun _ => x_nil ?_⟩
  replace H := HF.sub (.cons _ (.cons _ (.refl _)))
  clear HF Rs hoc hdc hoe hde hb
  -- if 3
  refine x_cons (x_If (isTrue_or (t_cmp (e_call (e_glob H en rfl (gv_sorted w) (c_with keep_builtin (i_cons (e_local H en rfl (.tail (.tail (.tail (.tail (.tail (.tail (.tail (.tail (.tail (.tail .head)))))))))) (i_nil ⟨H.ctx, k_sortedI H (H.vp vlo) (by omega) fun z1 zs1 s69 p1 q1 H => ?_⟩)))))))))
  refine e_call (e_glob H en rfl (gv_sorted w) (c_with keep_builtin (i_cons (e_cell H en rfl (by rw [hcf]; rfl) (.tail _ (.head _)) (i_nil ⟨H.ctx, k_sortedI H (H.vp vf) (by omega) fun z2 zs2 s70 p2 q2 H => c_neL (R'.mono (by decide)) (H.get (.tail _ (.head _))) (H.get (.head _)) (tr_bool ?_)⟩)))))
  rw [if_neg (by simp [sorted_same p1 p2 hperm q1 q2])]
  replace H := H.sub (.cons _ (.cons _ (.refl _)))
  refine isTrue_or (t_not (t_value (e_call (e_glob H en rfl (gv_keeps w) (c_with (keep_fn (f := 320) rfl rfl) (i_cons (e_local H en rfl (.tail (.tail (.tail (.tail (.tail (.tail (.tail (.tail (.tail (.tail .head)))))))))) (i_cons (e_pairsIn (cl := [("free", cf)]) (cf := cf) (lf := lf) (lp := lp) (fr := fr) (ps := ps) H en hhA (e_local H en rfl (.tail (.tail (.tail (.tail (.tail .head))))) ⟨_, rfl, H, vpl, (.head _), H.vp vf, fun lq tq s71 htq H => ?_⟩) (by omega) (by rw [hcf]; rfl) rfl (fun _ => rfl) (fun _ => rfl) (fun _ => rfl) (fun _ => rfl) (fun _ => rfl)))))))) (by rfl)))
  have vpq : VPL (hv s71.heap) lq (ps.filter fun q => decide (q.2 ∈ fr)) := ⟨tq, H.hown _ (.head _), htq, fun q hq => H.hown _ (List.mem_append_left _ (.tail _ hq))⟩
  refine i_nil ⟨H.ctx, keeps_spec H.ctx (R'.mono (by decide)) (H.vp vlo) vpq (fun q hq => hD q (List.mem_filter.mp hq).1) outr (Nat.le_trans (List.length_filter_le _ _) (by omega)) (by omega) fun s72 Rs => ?_⟩
  replace H := (H.res Rs).sub (own' := [(cf, CellP (some (.ref lf))), (cr, CellP (some (.ref lr))), (ch, CellP (some (.ref Bl))), (co, CellP ov), (cb, CellP (some (.ref lb'))), (ca, CellP (some (.ref la)))]) (List.sublist_append_right ((lq, LP (tq.map Value.ref).toArray) :: tups tq (ps.filter fun q => decide (q.2 ∈ fr))) _)
  rw [hkeep]
  refine tr_bool ?_
  rw [if_neg (by decide)]
  refine isTrue_or_nil ⟨fun h => (nomatch h), fun _ => x_nil ?_⟩
  clear vpq Rs
  -- if 4
  refine x_cons (wpAny_mono (Q := fun (f : Flow) s' => f = .next ∧ ∃ G V12, V11.le V12 ∧ Fm w G s.os V12 L nsW [some (.ref ls), some (.int z tz), some (.ref D), some (.int hf t11), some (.ref lev), some (.ref lp), some (.bool rg.isEmpty), some (.ref tr), some (.ref m), some (.bool rg.isEmpty), some (.ref lo), some rv, some evv] [(cf, CellP (some (.ref lf))), (cr, CellP (some (.ref lr))), (ch, CellP (some (.ref Bl))), (co, CellP ov), (cb, CellP (some (.ref lb'))), (ca, CellP (some (.ref la)))] s' ∧ GCh [] s.gens s'.gens)
    (x_If (isTrue_and (t_value (e_cell H en rfl (by rw [hcr]; rfl) (.tail _ (.head _)) (tr_list H (H.vp vr) (by omega) fun s73 H => ?_)) (by rfl)))) (fun f s80 h80 => ?_) fun _ _ x => x)
  · have hg73 : GCh [] s.gens s73.gens := by rw [H.gens]; exact hG
    cases hre : rg.isEmpty with
    | true =>
      rw [show (!true) = false from rfl, if_neg (by decide)]
      exact ⟨fun h => (nomatch h), fun _ => x_nil ⟨rfl, _, V11, View.le.refl _, hre ▸ H, hg73⟩⟩
    | false =>
      rw [show (!false) = true from rfl, if_pos rfl]
      rcases hring with ⟨a1, _, _⟩ | ⟨a1, r, S, e, q, rfl, rfl, vS, hS, vq, vqt, hq⟩
      · rw [hz.mp a1] at hre; cases hre
      refine isTrue_and (isTrue_or (t_cmp (e_local H en rfl (.tail (.tail (.tail (.tail (.tail (.tail (.tail (.tail (.tail (.tail (.tail .head))))))))))) (e_call (e_glob H en rfl (gv_set w) (c_with keep_type (i_cons (e_cell H en rfl (by rw [hcr]; rfl) (.tail _ (.head _)) (i_nil ⟨H.ctx, k_set_list H.ctx hhA (IL.li (H.vp vr)) rgr fun S2 hS2 => H.newS fun e0 s74 HF => ?_⟩)))))))))
      obtain ⟨oc, hoc, dc, rfl, hdc⟩ := HF.vp vS
      obtain ⟨oe, hoe, de, rfl, hde⟩ := HF.get (a := e0) (p := SP w S2) (.head _)
      refine k_set_ne (o := setO dc) (ob := setO de) hoc hdc hoe hde (fun b hb => tr_bool ?_) (R'.mono (by decide) : Rm _ 1).cl
      rw [hb.mpr fun x => by rw [hS, hS2, hcy]]
      rw [if_neg (by decide)]
      replace HF := HF.sub (.cons _ (.refl _))
      obtain ⟨ts0, vl0, hlen0, vt0⟩ := id vpl
      have hzip : ∀ e ∈ ts0.zip ps, VP V11 (e.1, PairP e.2) := fun e he => by
        obtain ⟨i, hi⟩ := List.mem_iff_getElem?.mp he
        obtain ⟨i1, i2⟩ := List.getElem?_zip_eq_some.mp hi
        exact vt0 _ (tups_mem i1 i2)
      obtain ⟨ol0, hol0, nl0, rfl⟩ := HF.vp vl0
      refine isTrue_or (t_cmp (e_local HF en rfl (.tail (.tail (.tail (.tail (.tail (.tail (.tail (.tail (.tail (.tail (.tail (.tail .head)))))))))))) (e_call (e_glob HF en rfl (gv_set w) (c_with keep_type (i_cons (e_local HF en rfl (.tail (.tail (.tail (.tail (.tail .head))))) (i_nil ⟨HF.ctx, k_set_pairs (ts := ts0) (ps := ps) HF.ctx (R'.mono (by decide)) ⟨_, hol0, rfl, nl0, rfl⟩ hlen0 (fun e he => HF.vp (hzip e he)) hD hpl fun r2 q2 s75 Rs hq2 hq2m => ?_⟩))))))))
      have HG := HF.res Rs
      refine k_neP (R'.mono (by decide)) (HG.vp vq) (HG.get (.head _)) (fun e he => HG.vp (vqt (e.1, PairP e.2) (List.mem_map.mpr ⟨e, he, rfl⟩))) (fun e he => HG.vp (hzip e (hq2 e he))) (fun p => by rw [hq, hq2m]) (tr_bool ?_)
      rw [if_neg (by decide)]
      refine isTrue_or_nil ?_
      rw [if_neg (by decide)]
      replace HG := HG.sub (own' := [(cf, CellP (some (.ref lf))), (cr, CellP (some (.ref lr))), (ch, CellP (some (.ref Bl))), (co, CellP ov), (cb, CellP (some (.ref lb'))), (ca, CellP (some (.ref la)))]) (.cons _ (.refl _))
      exact ⟨fun h => (nomatch h), fun _ => x_nil ⟨rfl, _, V11, View.le.refl _, hre ▸ HG, by rw [HG.gens]; exact hG⟩⟩
  obtain ⟨rfl, G, V12, k12, H, hG⟩ := h80
  replace va := va.le k12
  replace vb' := vb'.le k12
  replace vev := vev.le k12
  replace vpl := vpl.le k12
  replace vB := vB.le k12
  replace vrw := fun p hp => VP.le (vrw p hp) k12
  replace vr := vr.le k12
  replace vtr := vtr.le k12
  replace vc1 := vc1.le k12
  replace vc2 := vc2.le k12
  replace vm := vm.le k12
  replace vf := vf.le k12
  -- the healed
  have kall : (hv s.heap).le V12 := k02.trans (k3.trans (k4.trans (k5.trans (k6.trans (k7.trans (k8.trans (k9.trans (k10.trans (k11.trans k12)))))))))
  have hGG : GCh [] s.gens G := by rw [← H.gens]; exact hG
  have fin : ∀ s2 vs2 own2 s', Fm w G s.os V12 L nsW vs2 own2 s2 → ResG [] s2 s' [] → Q (.bool true) s' := fun s2 vs2 own2 s' H2 RG => by
    have HE := ((H2.resG RG).shrink CV kall)
    exact h s' (HE.toResG (hGG.trans (by have := RG.g; rw [H2.gens] at this; exact this)) (List.nil_sublist _))
  refine x_cons (x_If (t_cmp (e_local H en rfl (.tail .head) (e_int H fun t81 s81 H => P.lt_int (tr_bool ⟨fun hb => ?_, fun hb => x_nil ?_⟩)))))
  · refine x_cons (x_Return (e_call (e_glob H en rfl (gv_healed w) (c_with (keep_fn (f := 332) rfl rfl) (i_cons (e_cell H en rfl (by rw [hca]; rfl) (.tail _ (.tail _ (.tail _ (.tail _ (.tail _ (.head _)))))) (i_cons (e_osSub H en hhA (R'.mono (by decide)) rfl rfl rfl rfl rfl (by rw [hcb]; rfl) (by rw [hcr]; rfl) (.tail _ (.tail _ (.tail _ (.tail _ (.head _))))) (.tail _ (.head _)) (H.vp vb') (H.vp vr) ry' rgr ny' (by omega) fun r s82 H => i_nil ⟨H.ctx, ?_⟩))))))))
    exact healed_spec H.ctx (R'.mono (by decide)) (H.vp va) (H.get (.head _)) (hrg ▸ KK.h1) fun s' RG => fin _ _ _ _ H RG
  · refine x_cons (x_Return (e_call (e_glob H en rfl (gv_healed w) (c_with (keep_fn (f := 332) rfl rfl) (i_cons (e_osSub H en hhA (R'.mono (by decide)) rfl rfl rfl rfl rfl (by rw [hca]; rfl) (by rw [hcr]; rfl) (.tail _ (.tail _ (.tail _ (.tail _ (.tail _ (.head _)))))) (.tail _ (.head _)) (H.vp va) (H.vp vr) rx rgr nx (by omega) fun r s82 H => i_cons (e_cell H en rfl (by rw [hcb]; rfl) (.tail _ (.tail _ (.tail _ (.tail _ (.tail _ (.head _)))))) (i_nil ⟨H.ctx, ?_⟩))))))))
    exact healed_spec H.ctx (R'.mono (by decide)) (H.get (.head _)) (H.vp vb') (hrg ▸ KK.h2) fun s' RG => fin _ _ _ _ H RG
end
end Mine
end
section
set_option autoImplicit false
set_option linter.unusedVariables false
namespace Mine
/-! behind is the closure -/
abbrev Tg (ps : List (Int × Int)) : Int → Int → Prop := Relation.TransGen (Ed ps)
/-- a way whose inner points lie in K -/
inductive Pth (R : Int → Int → Prop) (K : Int → Prop) : Int → Int → Prop
  | edge {p c : Int} : R p c → Pth R K p c
  | step {p v c : Int} : R p v → K v → Pth R K v c → Pth R K p c
theorem Pth.split {R : Int → Int → Prop} {K K' : Int → Prop} {v : Int} (hK : ∀ u, K' u → K u ∨ u = v) {p c : Int} (h : Pth R K' p c) : Pth R K p c ∨ (Pth R K p v ∧ Pth R K v c) := by
  induction h with
  | edge e => exact .inl (.edge e)
  | step e hu _ ih =>
    rcases hK _ hu with hu | rfl
    · rcases ih with ih | ⟨ih1, ih2⟩
      · exact .inl (.step e hu ih)
      · exact .inr ⟨.step e hu ih1, ih2⟩
    · rcases ih with ih | ⟨ih1, ih2⟩
      · exact .inr ⟨.edge e, ih⟩
      · exact .inr ⟨.edge e, ih2⟩
theorem Pth.mono {R : Int → Int → Prop} {K K' : Int → Prop} (h : ∀ u, K u → K' u) {p c : Int} (q : Pth R K p c) : Pth R K' p c := by
  induction q with
  | edge e => exact .edge e
  | step e k _ ih => exact .step e (h _ k) ih
theorem Pth.of_tg {ps : List (Int × Int)} {K : Int → Prop} (hK : ∀ p c, Ed ps p c → K p ∧ K c) {p c : Int} (h : Tg ps p c) : Pth (Ed ps) K p c := by
  have app : ∀ {a b c : Int}, Pth (Ed ps) K a b → Ed ps b c → Pth (Ed ps) K a c := by
    intro a b c h1 h2
    induction h1 with
    | edge e => exact .step e (hK _ _ e).2 (.edge h2)
    | step e k _ ih => exact .step e k (ih h2)
  induction h with
  | single e => exact .edge e
  | tail _ e ih => exact app ih e
noncomputable def LeM (M N : Int → Int → Bool) : Prop := ∀ x y, M x y = true → N x y = true
theorem LeM.trans {M N P : Int → Int → Bool} (a : LeM M N) (b : LeM N P) : LeM M P := fun x y h => b x y (a x y h)
theorem setM_le (M : Int → Int → Bool) (p c : Int) : LeM M (setM M p c) := fun x y h => by unfold setM; split <;> simp [h]
theorem setM_at (M : Int → Int → Bool) (p c : Int) : setM M p c p c = true := by simp [setM]
theorem setM_iff {M : Int → Int → Bool} {p c x y : Int} (h : setM M p c x y = true) : M x y = true ∨ (x = p ∧ y = c) := by
  unfold setM at h
  split at h
  · rename_i q; exact .inr q
  · exact .inl h
theorem b0_le : ∀ (ps : List (Int × Int)) (M : Int → Int → Bool), LeM M (ps.foldl (fun M p => setM M p.1 p.2) M)
  | [], M => fun _ _ h => h
  | p :: ps, M => (setM_le M p.1 p.2).trans (b0_le ps _)
theorem b0_has : ∀ (ps : List (Int × Int)) (M : Int → Int → Bool) (x y : Int), (x, y) ∈ ps → ps.foldl (fun M p => setM M p.1 p.2) M x y = true
  | p :: ps, M, x, y, h => by
    rcases List.mem_cons.mp h with rfl | h
    · exact b0_le ps _ x y (setM_at M x y)
    · exact b0_has ps _ x y h
theorem b0_sound : ∀ (ps : List (Int × Int)) (M : Int → Int → Bool) (x y : Int), ps.foldl (fun M p => setM M p.1 p.2) M x y = true → M x y = true ∨ (x, y) ∈ ps
  | [], M, x, y, h => .inl h
  | p :: ps, M, x, y, h => by
    rcases b0_sound ps _ x y h with h | h
    · rcases setM_iff h with h | ⟨rfl, rfl⟩
      · exact .inl h
      · exact .inr (.head _)
    · exact .inr (.tail _ h)
/-! the inner loops -/
theorem b1_le : ∀ (L : List Int) (via p : Int) (M : Int → Int → Bool), LeM M (behind1 L via p M)
  | [], via, p, M => fun _ _ h => h
  | c :: L, via, p, M => by
    show LeM M (behind1 L via p (if M via c then setM M p c else M))
    refine LeM.trans ?_ (b1_le L via p _)
    split
    · exact setM_le M p c
    · exact fun _ _ h => h
theorem b1_has : ∀ (L : List Int) (via p : Int) (M : Int → Int → Bool) (c : Int), c ∈ L → M via c = true → behind1 L via p M p c = true
  | d :: L, via, p, M, c, hc, h => by
    show behind1 L via p (if M via d then setM M p d else M) p c = true
    rcases List.mem_cons.mp hc with rfl | hc
    · rw [if_pos h]; exact b1_le L via p _ p c (setM_at M p c)
    · refine b1_has L via p _ c hc ?_
      split
      · exact setM_le M p d via c h
      · exact h
theorem b1_sound (T : Int → Int → Prop) (tr : ∀ a b c, T a b → T b c → T a c) : ∀ (L : List Int) (via p : Int) (M : Int → Int → Bool), (∀ x y, M x y = true → T x y) → T p via → ∀ x y, behind1 L via p M x y = true → T x y
  | [], via, p, M, h, hp => h
  | c :: L, via, p, M, h, hp => by
    refine b1_sound T tr L via p (if M via c then setM M p c else M) (fun x y q => ?_) hp
    split at q
    · rename_i hv
      rcases setM_iff q with q | ⟨rfl, rfl⟩
      · exact h x y q
      · exact tr _ _ _ hp (h _ _ hv)
    · exact h x y q
theorem b2_le (items : List Int) (via : Int) : ∀ (L : List Int) (M : Int → Int → Bool), LeM M (behind2 items via M L)
  | [], M => fun _ _ h => h
  | p :: L, M => by
    show LeM M (behind2 items via (if M p via then behind1 items via p M else M) L)
    refine LeM.trans ?_ (b2_le items via L _)
    split
    · exact b1_le items via p M
    · exact fun _ _ h => h
theorem b2_has (items : List Int) (via : Int) : ∀ (L : List Int) (M : Int → Int → Bool) (p c : Int), p ∈ L → c ∈ items → M p via = true → M via c = true → behind2 items via M L p c = true
  | d :: L, M, p, c, hp, hc, h1, h2 => by
    show behind2 items via (if M d via then behind1 items via d M else M) L p c = true
    rcases List.mem_cons.mp hp with rfl | hp
    · rw [if_pos h1]; exact b2_le items via L _ p c (b1_has items via p M c hc h2)
    · have hle : LeM M (if M d via then behind1 items via d M else M) := by
        split
        · exact b1_le items via d M
        · exact fun _ _ h => h
      exact b2_has items via L _ p c hp hc (hle _ _ h1) (hle _ _ h2)
theorem b2_sound (T : Int → Int → Prop) (tr : ∀ a b c, T a b → T b c → T a c) (items : List Int) (via : Int) : ∀ (L : List Int) (M : Int → Int → Bool), (∀ x y, M x y = true → T x y) → ∀ x y, behind2 items via M L x y = true → T x y
  | [], M, h => h
  | p :: L, M, h => by
    refine b2_sound T tr items via L (if M p via then behind1 items via p M else M) fun x y q => ?_
    split at q
    · rename_i hv
      exact b1_sound T tr items via p M h (h _ _ hv) x y q
    · exact h x y q
theorem b3_sound (T : Int → Int → Prop) (tr : ∀ a b c, T a b → T b c → T a c) (items : List Int) : ∀ (L : List Int) (M : Int → Int → Bool), (∀ x y, M x y = true → T x y) → ∀ x y, behind3 items M L x y = true → T x y
  | [], M, h => h
  | v :: L, M, h => b3_sound T tr items L _ (b2_sound T tr items v items M h)
theorem b3_has (R : Int → Int → Prop) (items : List Int) : ∀ (L done : List Int) (M : Int → Int → Bool), (∀ p c, p ∈ items → c ∈ items → Pth R (· ∈ done) p c → M p c = true) → (∀ v ∈ L, v ∈ items) →
    ∀ p c, p ∈ items → c ∈ items → Pth R (fun u => u ∈ done ∨ u ∈ L) p c → behind3 items M L p c = true
  | [], done, M, h, _, p, c, hp, hc, hpath => h p c hp hc (hpath.mono fun u hu => hu.elim id fun q => nomatch q)
  | v :: L, done, M, h, hL, p, c, hp, hc, hpath => by
    refine b3_has R items L (v :: done) (behind2 items v M items) (fun p c hp hc q => ?_) (fun u hu => hL u (.tail _ hu)) p c hp hc ?_
    · rcases q.split (K := (· ∈ done)) (v := v) (fun u hu => by
        rcases List.mem_cons.mp hu with rfl | hu
        · exact .inr rfl
        · exact .inl hu) with q | ⟨q1, q2⟩
      · exact b2_le items v items M p c (h p c hp hc q)
      · exact b2_has items v items M p c hp hc (h p v hp (hL v (.head _)) q1) (h v c (hL v (.head _)) hc q2)
    · refine hpath.mono fun u hu => ?_
      rcases hu with hu | hu
      · exact .inl (.tail _ hu)
      · rcases List.mem_cons.mp hu with rfl | hu
        · exact .inl (.head _)
        · exact .inr hu
theorem behindF_iff {ps : List (Int × Int)} {items : List Int} (hv : ∀ p c, Ed ps p c → p ∈ items ∧ c ∈ items) {x y : Int} (hx : x ∈ items) (hy : y ∈ items) : behindF ps items x y = true ↔ Tg ps x y := by
  constructor
  · intro h
    refine b3_sound (Tg ps) (fun a b c => tg_trans) items items (behind0 ps) (fun x y h => ?_) x y h
    rcases b0_sound ps _ x y h with h | h
    · cases h
    · exact .single h
  · intro h
    refine b3_has (Ed ps) items items [] (behind0 ps) (fun p c _ _ q => ?_) (fun v hv => hv) x y hx hy ((Pth.of_tg (K := (· ∈ items)) (fun p c e => hv p c e) h).mono fun u hu => .inr hu)
    cases q with
    | edge e => exact b0_has ps _ p c e
    | step _ k _ => cases k
end Mine
end
section
set_option autoImplicit false
set_option linter.unusedVariables false
namespace Mine
/-! orders of lists -/
theorem pairs_sub : ∀ {l : List Int} {x y : Int}, (x, y) ∈ pairsOf l → [x, y].Sublist l
  | [], x, y, h => by simp [pairsOf] at h
  | [a], x, y, h => by simp [pairsOf] at h
  | a :: b :: l, x, y, h => by
    have h' : (x, y) ∈ (a, b) :: pairsOf (b :: l) := by simpa [pairsOf] using h
    rcases List.mem_cons.mp h' with e | h'
    · cases e
      exact .cons_cons _ (.cons_cons _ (List.nil_sublist _))
    · exact .cons _ (pairs_sub h')
/-- a head before all that comes after -/
theorem head_tg {ps : List (Int × Int)} : ∀ {l : List Int} {a y : Int}, (∀ p, p ∈ pairsOf (a :: l) → p ∈ ps) → y ∈ l → Tg ps a y
  | b :: l, a, y, h, hy => by
    have hb : Tg ps a b := .single (h _ (by simp [pairsOf]))
    rcases List.mem_cons.mp hy with rfl | hy
    · exact hb
    · exact tg_trans hb (head_tg (l := l) (fun p hp => h p (by
        have : p ∈ (a, b) :: pairsOf (b :: l) := .tail _ hp
        simpa [pairsOf] using this)) hy)
theorem sub_tg {ps : List (Int × Int)} : ∀ {l : List Int} {x y : Int}, (∀ p, p ∈ pairsOf l → p ∈ ps) → [x, y].Sublist l → Tg ps x y
  | [], x, y, h, hs => by cases hs
  | a :: l, x, y, h, hs => by
    cases hs with
    | cons _ hs =>
      refine sub_tg (l := l) (fun p hp => h p ?_) hs
      cases l with
      | nil => simp [pairsOf] at hp
      | cons b l =>
        have : p ∈ (a, b) :: pairsOf (b :: l) := .tail _ hp
        simpa [pairsOf] using this
    | cons_cons _ hs => exact head_tg h (hs.subset (.head _))
theorem pairs_mem {l : List Int} {x y : Int} (h : (x, y) ∈ pairsOf l) : x ∈ l ∧ y ∈ l := ⟨(pairs_sub h).subset (.head _), (pairs_sub h).subset (.tail _ (.head _))⟩
/-- two orders of the same things differ at a pair -/
theorem perm_inv : ∀ {c d : List Int}, c.Perm d → c ≠ d → ∃ x y, [x, y].Sublist c ∧ [y, x].Sublist d
  | [], d, p, h => absurd (List.nil_perm.mp p).symm h
  | a :: c, [], p, h => absurd (List.perm_nil.mp p) h
  | a :: c, b :: d, p, h => by
    by_cases e : a = b
    · subst e
      obtain ⟨x, y, h1, h2⟩ := perm_inv (List.Perm.cons_inv p) (fun q => h (by rw [q]))
      exact ⟨x, y, .cons _ h1, .cons _ h2⟩
    · refine ⟨a, b, .cons_cons _ (List.singleton_sublist.mpr ?_), .cons_cons _ (List.singleton_sublist.mpr ?_)⟩
      · have := p.mem_iff.mpr (List.mem_cons_self (a := b) (l := d))
        rcases List.mem_cons.mp this with q | q
        · exact absurd q.symm e
        · exact q
      · have := p.mem_iff.mp (List.mem_cons_self (a := a) (l := c))
        rcases List.mem_cons.mp this with q | q
        · exact absurd q e
        · exact q
theorem min_of (T : Int → Int → Prop) (tr : ∀ a b c, T a b → T b c → T a c) : ∀ (l : List Int), l ≠ [] → (∀ a ∈ l, ¬ T a a) → ∃ a ∈ l, ∀ b ∈ l, ¬ T b a
  | [], h, _ => absurd rfl h
  | a :: l, _, hn => by
    by_cases hl : l = []
    · subst hl
      exact ⟨a, .head _, fun b hb => by rw [List.mem_singleton.mp hb]; exact hn a (.head _)⟩
    · obtain ⟨m, hm, hmin⟩ := min_of T tr l hl fun x hx => hn x (.tail _ hx)
      by_cases ha : T a m
      · refine ⟨a, .head _, fun b hb q => ?_⟩
        rcases List.mem_cons.mp hb with rfl | hb
        · exact hn _ (.head _) q
        · exact hmin b hb (tr _ _ _ q ha)
      · refine ⟨m, .tail _ hm, fun b hb => ?_⟩
        rcases List.mem_cons.mp hb with rfl | hb
        · exact ha
        · exact hmin b hb
/-! places -/
theorem idx_ne {a x : Int} {l : List Int} (h : a ≠ x) : (a :: l).idxOf x = l.idxOf x + 1 := by
  rw [List.idxOf_cons, show (a == x) = false from by simpa using h]; rfl
theorem idx_eq {a : Int} {l : List Int} : (a :: l).idxOf a = 0 := by
  rw [List.idxOf_cons, show (a == a) = true from by simp]; rfl
theorem sub_idx : ∀ {l : List Int} {x y : Int}, l.Nodup → [x, y].Sublist l → l.idxOf x < l.idxOf y
  | a :: l, x, y, n, hs => by
    rw [List.nodup_cons] at n
    cases hs with
    | cons _ hs =>
      have hx : x ∈ l := hs.subset (.head _)
      have hy : y ∈ l := hs.subset (.tail _ (.head _))
      have nx : a ≠ x := fun e => n.1 (e ▸ hx)
      have ny : a ≠ y := fun e => n.1 (e ▸ hy)
      rw [idx_ne nx, idx_ne ny]
      exact Nat.succ_lt_succ (sub_idx n.2 hs)
    | cons_cons _ hs =>
      have hy : y ∈ l := hs.subset (.head _)
      have ny : a ≠ y := fun e => n.1 (e ▸ hy)
      rw [idx_eq, idx_ne ny]
      exact Nat.succ_pos _
theorem tg_idx {ps : List (Int × Int)} {f : Int → Nat} (h : ∀ p c, Ed ps p c → f p < f c) {x y : Int} (q : Tg ps x y) : f x < f y := by
  induction q with
  | single e => exact h _ _ e
  | tail _ e ih => exact Nat.lt_trans ih (h _ _ e)
end Mine
end
section
set_option autoImplicit false
set_option linter.unusedVariables false
namespace Mine
/-! the merge -/
theorem mrg_acc (ov : Int → Bool) (cur oth acc : List Int) : mrg ov cur oth acc = acc ++ mrg ov cur oth [] := by
  generalize hn : cur.length + oth.length = n
  induction n using Nat.strongRecOn generalizing ov cur oth acc with
  | ind n ih =>
    cases cur with
    | nil => rw [mrg, mrg]; simp
    | cons x cur =>
      rw [mrg.eq_def ov (x :: cur) oth acc, mrg.eq_def ov (x :: cur) oth []]
      dsimp only
      split
      · rw [ih (oth.length + cur.length) (by simp at hn; omega) _ oth cur acc rfl]
      · rw [ih (cur.length + oth.length) (by simp at hn; omega) ov cur oth (acc ++ [x]) rfl, ih (cur.length + oth.length) (by simp at hn; omega) ov cur oth ([] ++ [x]) rfl]
        simp
theorem mrg_nil (ov : Int → Bool) (oth : List Int) : mrg ov [] oth [] = oth := by rw [mrg]; simp
theorem mrg_no {ov : Int → Bool} {x : Int} {cur oth : List Int} (h : ov x = false) : mrg ov (x :: cur) oth [] = x :: mrg ov cur oth [] := by
  rw [mrg.eq_def]; dsimp only
  rw [h, if_neg (by decide), mrg_acc]; rfl
theorem mrg_ov {ov : Int → Bool} {x : Int} {cur oth : List Int} (h : ov x = true) : mrg ov (x :: cur) oth [] = mrg (fun y => ov y && decide (y ≠ x)) oth cur [] := by
  rw [mrg.eq_def]; dsimp only
  rw [h, if_pos rfl]
theorem mrg_run {ov : Int → Bool} {oth : List Int} : ∀ {p r : List Int}, (∀ y ∈ p, ov y = false) → mrg ov (p ++ r) oth [] = p ++ mrg ov r oth []
  | [], r, h => rfl
  | x :: p, r, h => by
    rw [List.cons_append, mrg_no (h x (.head _)), mrg_run (p := p) fun y hy => h y (.tail _ hy)]
    rfl
abbrev Alike (xs ys : List Int) : Prop := (xs.filter fun y => decide (y ∈ ys)) = ys.filter fun y => decide (y ∈ xs)
/-- alike rows are both kept -/
theorem mrg_keeps : ∀ (n : Nat) (ov : Int → Bool) (cur oth : List Int), cur.length + oth.length = n → cur.Nodup → oth.Nodup → (∀ y, ov y = true ↔ y ∈ cur ∧ y ∈ oth) → Alike cur oth →
    ((mrg ov cur oth []).filter fun y => decide (y ∈ cur)) = cur ∧ ((mrg ov cur oth []).filter fun y => decide (y ∈ oth)) = oth ∧ (mrg ov cur oth []).Nodup ∧ ∀ y, y ∈ mrg ov cur oth [] ↔ y ∈ cur ∨ y ∈ oth := by
  intro n
  induction n using Nat.strongRecOn with
  | ind n ih =>
    intro ov cur oth hn nc no hov hal
    cases cur with
    | nil =>
      rw [mrg_nil]
      refine ⟨by simp, ?_, no, by simp⟩
      rw [List.filter_eq_self]; intro a ha; simpa using ha
    | cons x cur =>
      rw [List.nodup_cons] at nc
      cases hx : ov x with
      | false =>
        have hxo : x ∉ oth := fun h => by rw [(hov x).mpr ⟨.head _, h⟩] at hx; cases hx
        rw [mrg_no hx]
        have hal' : Alike cur oth := by
          unfold Alike at hal ⊢
          rw [List.filter_cons_of_neg (by simpa using hxo)] at hal
          rw [hal]
          apply List.filter_congr
          intro y hy
          have : y ≠ x := fun e => hxo (e ▸ hy)
          simp [this]
        obtain ⟨k1, k2, k3, k4⟩ := ih (cur.length + oth.length) (by simp at hn; omega) ov cur oth rfl nc.2 no (fun y => by
          rw [hov]
          constructor
          · rintro ⟨h1, h2⟩
            rcases List.mem_cons.mp h1 with rfl | h1
            · exact absurd h2 hxo
            · exact ⟨h1, h2⟩
          · rintro ⟨h1, h2⟩; exact ⟨.tail _ h1, h2⟩) hal'
        have hxm : x ∉ mrg ov cur oth [] := fun h => ((k4 x).mp h).elim nc.1 hxo
        refine ⟨?_, ?_, List.nodup_cons.mpr ⟨hxm, k3⟩, fun y => ?_⟩
        · rw [List.filter_cons_of_pos (by simp)]
          congr 1
          refine Eq.trans (List.filter_congr fun y hy => ?_) k1
          have : y ≠ x := fun e => hxm (e ▸ hy)
          simp [this]
        · rw [List.filter_cons_of_neg (by simpa using hxo)]; exact k2
        · rw [List.mem_cons, k4, List.mem_cons, or_assoc]
      | true =>
        obtain ⟨_, hxo⟩ := (hov x).mp hx
        rw [mrg_ov hx]
        have hal0 := hal
        unfold Alike at hal
        rw [List.filter_cons_of_pos (by simpa using hxo)] at hal
        obtain ⟨p, r, rfl, hp, _, hr⟩ := List.filter_eq_cons_iff.mp hal.symm
        have hp' : ∀ y ∈ p, y ∉ x :: cur := fun y hy => by simpa using hp y hy
        rw [List.nodup_append] at no
        obtain ⟨np, nxr, npr⟩ := no
        rw [List.nodup_cons] at nxr
        have hpx : ∀ y ∈ p, y ≠ x := fun y hy e => hp' y hy (e ▸ .head _)
        have hpr : ∀ y ∈ p, y ∉ r := fun y hy h => npr y hy y (.tail _ h) rfl
        have hpc : ∀ y ∈ p, y ∉ cur := fun y hy h => hp' y hy (.tail _ h)
        have hov' : ∀ y, (ov y && decide (y ≠ x)) = true ↔ y ∈ r ∧ y ∈ cur := fun y => by
          rw [Bool.and_eq_true, hov, decide_eq_true_eq]
          constructor
          · rintro ⟨⟨h1, h2⟩, h3⟩
            rcases List.mem_cons.mp h1 with h1 | h1
            · exact absurd h1 h3
            rcases List.mem_append.mp h2 with h2 | h2
            · exact absurd h1 (hpc y h2)
            rcases List.mem_cons.mp h2 with h2 | h2
            · exact absurd h2 h3
            · exact ⟨h2, h1⟩
          · rintro ⟨h1, h2⟩
            exact ⟨⟨.tail _ h2, List.mem_append_right _ (.tail _ h1)⟩, fun e => nxr.1 (e ▸ h1)⟩
        have hno : ∀ y ∈ p ++ [x], (fun y => ov y && decide (y ≠ x)) y = false := fun y hy => by
          cases q : (fun y => ov y && decide (y ≠ x)) y with
          | false => rfl
          | true =>
            have := (hov' y).mp q
            rcases List.mem_append.mp hy with hy | hy
            · exact absurd this.1 (hpr y hy)
            · rw [List.mem_singleton] at hy
              subst hy
              exact absurd this.1 nxr.1
        have e1 : p ++ x :: r = (p ++ [x]) ++ r := by simp
        rw [e1, mrg_run hno]
        have halr : Alike r cur := by
          unfold Alike
          have a1 : (r.filter fun y => decide (y ∈ cur)) = r.filter fun y => decide (y ∈ x :: cur) := List.filter_congr fun y hy => by
            have : y ≠ x := fun e => nxr.1 (e ▸ hy)
            simp [this]
          rw [a1, hr]
          apply List.filter_congr
          intro y hy
          have h1 : y ∉ p := fun q => hpc y q hy
          have h2 : y ≠ x := fun e => nc.1 (e ▸ hy)
          simp [h1, h2]
        obtain ⟨k1, k2, k3, k4⟩ := ih (r.length + cur.length) (by simp at hn; omega) (fun y => ov y && decide (y ≠ x)) r cur rfl nxr.2 nc.2 hov' halr
        generalize hm : mrg (fun y => ov y && decide (y ≠ x)) r cur [] = m at k1 k2 k3 k4 ⊢
        have hxm : x ∉ m := fun h => ((k4 x).mp h).elim nxr.1 nc.1
        have hpm : ∀ y ∈ p, y ∉ m := fun y hy h => ((k4 y).mp h).elim (hpr y hy) (hpc y hy)
        refine ⟨?_, ?_, ?_, fun y => ?_⟩
        · rw [List.filter_append, List.filter_append]
          have f1 : (p.filter fun y => decide (y ∈ x :: cur)) = [] := List.filter_eq_nil_iff.mpr fun y hy => by simpa using hp' y hy
          have f2 : ([x].filter fun y => decide (y ∈ x :: cur)) = [x] := by simp
          have f3 : (m.filter fun y => decide (y ∈ x :: cur)) = cur := Eq.trans (List.filter_congr fun y hy => by
            have : y ≠ x := fun e => hxm (e ▸ hy)
            simp [this]) k2
          rw [f1, f2, f3]; rfl
        · rw [List.filter_append]
          have f1 : ((p ++ [x]).filter fun y => decide (y ∈ (p ++ [x]) ++ r)) = p ++ [x] := List.filter_eq_self.mpr fun y hy => by simp only [decide_eq_true_eq]; exact List.mem_append_left _ hy
          have f3 : (m.filter fun y => decide (y ∈ (p ++ [x]) ++ r)) = r := Eq.trans (List.filter_congr fun y hy => by
            have h1 : y ≠ x := fun e => hxm (e ▸ hy)
            have h2 : y ∉ p := fun q => hpm y q hy
            simp [h1, h2]) k1
          rw [f1, f3]
        · rw [List.nodup_append, List.nodup_append]
          refine ⟨⟨np, by simp, fun a ha b hb e => ?_⟩, k3, fun a ha b hb e => ?_⟩
          · rw [List.mem_singleton] at hb
            exact hpx a ha (e.trans hb)
          · subst e
            rcases List.mem_append.mp ha with ha | ha
            · exact hpm _ ha hb
            · rw [List.mem_singleton] at ha
              exact hxm (ha ▸ hb)
        · simp only [List.mem_append, List.mem_cons, k4, List.not_mem_nil, or_false]
          constructor
          · rintro ((h | h) | (h | h))
            · exact .inr (.inl (.inl h))
            · exact .inl (.inl h)
            · exact .inr (.inr h)
            · exact .inl (.inr h)
          · rintro ((h | h) | ((h | h) | h))
            · exact .inl (.inr h)
            · exact .inr (.inr h)
            · exact .inl (.inl h)
            · exact .inl (.inr h)
            · exact .inr (.inl h)
end Mine
end
section
set_option autoImplicit false
set_option linter.unusedVariables false
namespace Mine
/-! what the sort hands out -/
theorem outs_rest_perm (ps : List (Int × Int)) (td : List Int) : (outsF ps td ++ restF ps td).Perm td := by
  have e : restF ps td = td.filter fun n => !(td.all fun p => !decide ((p, n) ∈ ps)) := by
    unfold restF
    apply List.filter_congr
    intro n hn
    congr 1
    rw [Bool.eq_iff_iff, decide_eq_true_eq]
    unfold outsF
    rw [List.mem_filter]
    exact ⟨fun h => h.2, fun h => ⟨hn, h⟩⟩
  rw [e]
  unfold outsF
  exact List.filter_append_perm _ td
theorem nxt_nil {ps : List (Int × Int)} {cur td : List Int} (h : nxt ps cur td = none) : cur = [] ∧ outsF ps td = [] := by
  unfold nxt at h
  cases cur with
  | cons x c => cases h
  | nil =>
    refine ⟨rfl, ?_⟩
    dsimp only at h
    cases q : outsF ps td with
    | nil => rfl
    | cons x c => rw [q] at h; cases h
theorem Drain.facts {ps : List (Int × Int)} {cur td out tz : List Int} (d : Drain ps cur td out tz) (inv : ∀ c ∈ cur, ∀ p, (p, c) ∈ ps → p ∉ cur ∧ p ∉ td) :
    (out ++ tz).Perm (cur ++ td) ∧ outsF ps tz = [] ∧ ∀ o1 c o2, out = o1 ++ c :: o2 → ∀ p, (p, c) ∈ ps → p ∉ c :: o2 ∧ p ∉ tz := by
  induction d with
  | stop h =>
    obtain ⟨rfl, ho⟩ := nxt_nil h
    exact ⟨.refl _, ho, fun o1 c o2 e => by simp at e⟩
  | @more cur td x cur' td' out tz h d ih =>
    unfold nxt at h
    cases cur with
    | cons y c =>
      simp only [Option.some.injEq, Prod.mk.injEq] at h
      obtain ⟨rfl, rfl, rfl⟩ := h
      obtain ⟨h1, h2, h3⟩ := ih fun c' hc' p hp => ⟨fun q => (inv c' (.tail _ hc') p hp).1 (.tail _ q), (inv c' (.tail _ hc') p hp).2⟩
      refine ⟨h1.cons y, h2, fun o1 c' o2 e p hp => ?_⟩
      cases o1 with
      | nil =>
        simp only [List.nil_append, List.cons.injEq] at e
        obtain ⟨rfl, rfl⟩ := e
        obtain ⟨i1, i2⟩ := inv y (.head _) p hp
        have hn : p ∉ out ++ tz := fun q => by
          rcases List.mem_append.mp (h1.mem_iff.mp q) with q | q
          · exact i1 (.tail _ q)
          · exact i2 q
        refine ⟨fun q => ?_, fun q => hn (List.mem_append_right _ q)⟩
        rcases List.mem_cons.mp q with q | q
        · exact i1 (q ▸ .head _)
        · exact hn (List.mem_append_left _ q)
      | cons z o1 =>
        simp only [List.cons_append, List.cons.injEq] at e
        exact h3 o1 c' o2 e.2 p hp
    | nil =>
      dsimp only at h
      cases q : outsF ps td with
      | nil => rw [q] at h; cases h
      | cons y c =>
        rw [q] at h
        simp only [Option.some.injEq, Prod.mk.injEq] at h
        obtain ⟨rfl, rfl, rfl⟩ := h
        have hpm := outs_rest_perm ps td
        rw [q] at hpm
        have hin : ∀ n ∈ y :: c, ∀ p, (p, n) ∈ ps → p ∉ td := fun n hn p hp hm => by
          rw [← q] at hn
          exact (outsF_mem.mp hn).2 p hm hp
        have sub : ∀ p, p ∈ c ∨ p ∈ restF ps td → p ∈ td := fun p hp => hpm.mem_iff.mp (by
          rcases hp with hp | hp
          · exact .tail _ (List.mem_append_left _ hp)
          · exact .tail _ (List.mem_append_right _ hp))
        obtain ⟨h1, h2, h3⟩ := ih fun c' hc' p hp => ⟨fun z => hin c' (.tail _ hc') p hp (sub p (.inl z)), fun z => hin c' (.tail _ hc') p hp (sub p (.inr z))⟩
        refine ⟨(h1.cons y).trans (by simpa using hpm), h2, fun o1 c' o2 e p hp => ?_⟩
        cases o1 with
        | nil =>
          simp only [List.nil_append, List.cons.injEq] at e
          obtain ⟨rfl, rfl⟩ := e
          have hnt := hin y (.head _) p hp
          have hn : p ∉ out ++ tz := fun z => hnt (sub p (List.mem_append.mp (h1.mem_iff.mp z)))
          refine ⟨fun z => ?_, fun z => hn (List.mem_append_right _ z)⟩
          rcases List.mem_cons.mp z with z | z
          · exact hnt (hpm.mem_iff.mp (by rw [z]; exact .head _))
          · exact hn (List.mem_append_left _ z)
        | cons z o1 =>
          simp only [List.cons_append, List.cons.injEq] at e
          exact h3 o1 c' o2 e.2 p hp
end Mine
end
section
set_option autoImplicit false
set_option linter.unusedVariables false
namespace Mine
structure SortF (ps : List (Int × Int)) (ev out tz : List Int) : Prop where
  nd : out.Nodup
  mem : ∀ n, n ∈ out ↔ n ∈ ev ∧ n ∉ tz
  sub : ∀ n ∈ tz, n ∈ ev
  ord : ∀ p c, Ed ps p c → c ∈ out → p ∈ out ∧ out.idxOf p < out.idxOf c
  stuck : ∀ n ∈ ev, n ∈ tz ↔ ∃ r, Cyc ps r ∧ Tg ps r n
theorem sort_facts {ps : List (Int × Int)} {ev out tz : List Int} (nd : ev.Nodup) (hv : ∀ p c, Ed ps p c → p ∈ ev ∧ c ∈ ev) (d : Drain ps [] ev out tz) : SortF ps ev out tz := by
  obtain ⟨h1, h2, h3⟩ := d.facts fun c hc => nomatch hc
  rw [List.nil_append] at h1
  have hnd := h1.nodup_iff.mpr nd
  rw [List.nodup_append] at hnd
  have ord : ∀ p c, Ed ps p c → c ∈ out → p ∈ out ∧ out.idxOf p < out.idxOf c := fun p c he hc => by
    obtain ⟨o1, o2, e⟩ := List.append_of_mem hc
    obtain ⟨a1, a2⟩ := h3 o1 c o2 e p he
    have hp : p ∈ out ++ tz := h1.mem_iff.mpr (hv p c he).1
    have hpo : p ∈ out := (List.mem_append.mp hp).elim id fun q => absurd q a2
    refine ⟨hpo, sub_idx hnd.1 ?_⟩
    rw [e] at hpo ⊢
    have hp1 : p ∈ o1 := (List.mem_append.mp hpo).elim id fun q => absurd q a1
    exact (List.singleton_sublist.mpr hp1).append (List.singleton_sublist.mpr (List.mem_cons_self (a := c) (l := o2)))
  have anc : ∀ (r n : Int), Tg ps r n → n ∈ out → r ∈ out ∧ out.idxOf r < out.idxOf n := by
    intro r n h
    induction h with
    | single e => exact ord _ _ e
    | tail _ e ih =>
      intro hn
      obtain ⟨b1, b2⟩ := ord _ _ e hn
      obtain ⟨c1, c2⟩ := ih b1
      exact ⟨c1, Nat.lt_trans c2 b2⟩
  have mem : ∀ n, n ∈ out ↔ n ∈ ev ∧ n ∉ tz := fun n => by
    rw [← h1.mem_iff, List.mem_append]
    constructor
    · intro h; exact ⟨.inl h, fun q => hnd.2.2 n h n q rfl⟩
    · rintro ⟨h, q⟩; exact h.elim id fun z => absurd z q
  refine ⟨hnd.1, mem, fun n hn => h1.mem_iff.mp (List.mem_append_right _ hn), ord, fun n hn => ⟨fun ht => ?_, fun ⟨r, hr, hrn⟩ => ?_⟩⟩
  · -- a walk back inside tz
    classical
    have pred : ∀ m ∈ tz, ∃ p ∈ tz, Ed ps p m := fun m hm => by
      have : m ∉ outsF ps tz := by rw [h2]; exact fun h => nomatch h
      rw [outsF_mem] at this
      refine Classical.byContradiction fun hc => this ⟨hm, fun p hp q => hc ⟨p, hp, q⟩⟩
    refine Classical.byContradiction fun hno => ?_
    have hA : ∀ a ∈ tz.filter (fun m => decide (m = n ∨ Tg ps m n)), ¬ Tg ps a a := fun a ha hc => by
      have := (List.mem_filter.mp ha).2
      simp only [decide_eq_true_eq] at this
      rcases this with rfl | h
      · exact hno ⟨a, hc, hc⟩
      · exact hno ⟨a, hc, h⟩
    obtain ⟨a, ha, hmin⟩ := min_of (Tg ps) (fun _ _ _ => tg_trans) (tz.filter fun m => decide (m = n ∨ Tg ps m n)) (List.ne_nil_of_mem (List.mem_filter.mpr ⟨ht, by simp⟩)) hA
    obtain ⟨ha1, ha2⟩ := List.mem_filter.mp ha
    simp only [decide_eq_true_eq] at ha2
    obtain ⟨p, hp, he⟩ := pred a ha1
    refine hmin p (List.mem_filter.mpr ⟨hp, ?_⟩) (.single he)
    simp only [decide_eq_true_eq]
    right
    rcases ha2 with rfl | h
    · exact .single he
    · exact tg_trans (.single he) h
  · refine Classical.byContradiction fun hc => ?_
    have ho := (mem n).mpr ⟨hn, hc⟩
    obtain ⟨hro, _⟩ := anc _ _ hrn ho
    exact Nat.lt_irrefl _ (anc _ _ hr hro).2
/-! keeps -/
theorem place_mem {out : List Int} (nd : out.Nodup) {x : Int} : placeF out x = if x ∈ out then (out.idxOf x : Int) else -1 := by
  have aux : ∀ k, k ≤ out.length → placeN out k x = if x ∈ out.take k then (out.idxOf x : Int) else -1 := by
    intro k
    induction k with
    | zero => intro _; simp [placeN]
    | succ k ih =>
      intro hk
      have hlt : k < out.length := hk
      unfold placeN
      rw [List.take_add_one, List.getElem?_eq_getElem hlt]
      by_cases h : out[k] = x
      · rw [if_pos (by rw [h])]
        rw [if_pos (by simp [h])]
        have : out.idxOf x = k := by
          rw [← h]; exact List.Nodup.idxOf_getElem nd k hlt
        rw [this]
      · rw [if_neg (by simpa using h), ih (Nat.le_of_lt hlt)]
        have e : x ∈ List.take k out ++ (some out[k]).toList ↔ x ∈ List.take k out := by
          simp only [Option.toList_some, List.mem_append, List.mem_singleton]
          exact ⟨fun q => q.elim id fun z => absurd z.symm h, .inl⟩
        simp only [e]
  have := aux out.length (Nat.le_refl _)
  rw [List.take_length] at this
  exact this
theorem keeps_of {out : List Int} {ps : List (Int × Int)} (nd : out.Nodup) (h : ∀ p c, (p, c) ∈ ps → c ∈ out → p ∈ out ∧ out.idxOf p < out.idxOf c) : keepsF out ps = true := by
  unfold keepsF
  rw [List.all_eq_true]
  intro b hb
  obtain ⟨q, hq, rfl⟩ := List.mem_map.mp hb
  obtain ⟨hq1, hq2⟩ := List.mem_filter.mp hq
  obtain ⟨p, c⟩ := q
  simp only [decide_eq_true_eq] at hq2
  have hc : c ∈ out := by
    refine Classical.byContradiction fun hn => ?_
    rw [place_mem nd, if_neg hn] at hq2
    omega
  obtain ⟨h1, h2⟩ := h p c hq1 hc
  simp only [id, decide_eq_true_eq]
  rw [place_mem nd, place_mem nd, if_pos h1, if_pos hc]
  omega
end Mine
end
section
set_option autoImplicit false
set_option linter.unusedVariables false
namespace Mine
theorem ps_ev {xs ys : List Int} : ∀ p c, Ed (psF xs ys) p c → p ∈ everyF xs ys ∧ c ∈ everyF xs ys := fun p c h => by
  have hx : ∀ {z}, z ∈ xs → z ∈ everyF xs ys := fun h => List.mem_append_left _ h
  have hy : ∀ {z}, z ∈ ys → z ∈ everyF xs ys := fun {z} h => by
    by_cases q : z ∈ xs
    · exact hx q
    · exact List.mem_append_right _ (List.mem_filter.mpr ⟨h, by simpa using q⟩)
  rcases List.mem_append.mp h with h | h
  · exact ⟨hx (pairs_mem h).1, hx (pairs_mem h).2⟩
  · exact ⟨hy (pairs_mem h).1, hy (pairs_mem h).2⟩
theorem ev_mem {xs ys : List Int} {z : Int} : z ∈ everyF xs ys ↔ z ∈ xs ∨ z ∈ ys := by
  unfold everyF
  rw [List.mem_append, List.mem_filter, decide_eq_true_eq]
  constructor
  · rintro (h | h)
    · exact .inl h
    · exact .inr h.1
  · rintro (h | h)
    · exact .inl h
    · by_cases q : z ∈ xs
      · exact .inl q
      · exact .inr ⟨h, q⟩
theorem mergeF_keeps {xs ys : List Int} (nx : xs.Nodup) (ny : ys.Nodup) (al : Alike xs ys) :
    ((mergeF xs ys).filter fun y => decide (y ∈ xs)) = xs ∧ ((mergeF xs ys).filter fun y => decide (y ∈ ys)) = ys ∧ (mergeF xs ys).Nodup ∧ ∀ y, y ∈ mergeF xs ys ↔ y ∈ xs ∨ y ∈ ys :=
  mrg_keeps _ _ xs ys rfl nx ny (fun y => by simp) al
/-- nothing new from a part -/
theorem merge_part {M l : List Int} (nM : M.Nodup) (hl : (M.filter fun y => decide (y ∈ l)) = l) : mergeF M l = M ∧ mergeF l M = M := by
  have nl : l.Nodup := hl ▸ nM.filter _
  have hs : ∀ y ∈ l, y ∈ M := fun y hy => by rw [← hl] at hy; exact (List.mem_filter.mp hy).1
  have hlM : (l.filter fun y => decide (y ∈ M)) = l := List.filter_eq_self.mpr fun y hy => by simpa using hs y hy
  constructor
  · obtain ⟨k1, _, _, k4⟩ := mergeF_keeps nM nl (show Alike M l from hl.trans hlM.symm)
    have : ((mergeF M l).filter fun y => decide (y ∈ M)) = mergeF M l := List.filter_eq_self.mpr fun y hy => by simpa using ((k4 y).mp hy).elim id (hs y)
    rw [← this]; exact k1
  · obtain ⟨_, k2, _, k4⟩ := mergeF_keeps nl nM (show Alike l M from hlM.trans hl.symm)
    have : ((mergeF l M).filter fun y => decide (y ∈ M)) = mergeF l M := List.filter_eq_self.mpr fun y hy => by simpa using ((k4 y).mp hy).elim (hs y) id
    rw [← this]; exact k2
theorem filter_sub {M l : List Int} (h : (M.filter fun y => decide (y ∈ l)) = l) : l.Sublist M := by
  rw [← h]; exact List.filter_sublist
/-- alike rows have no ring -/
theorem ed_idx {xs ys : List Int} (nx : xs.Nodup) (ny : ys.Nodup) (al : Alike xs ys) : ∀ p c, Ed (psF xs ys) p c → (mergeF xs ys).idxOf p < (mergeF xs ys).idxOf c := fun p c h => by
  obtain ⟨k1, k2, k3, _⟩ := mergeF_keeps nx ny al
  rcases List.mem_append.mp h with h | h
  · exact sub_idx k3 ((pairs_sub h).trans (filter_sub k1))
  · exact sub_idx k3 ((pairs_sub h).trans (filter_sub k2))
theorem no_ring {xs ys : List Int} (nx : xs.Nodup) (ny : ys.Nodup) (al : Alike xs ys) : ∀ x, ¬ Cyc (psF xs ys) x := fun x h => Nat.lt_irrefl _ (tg_idx (ed_idx nx ny al) h)
/-- unlike rows have one, through two of both -/
theorem ring_of {xs ys : List Int} (nx : xs.Nodup) (ny : ys.Nodup) (al : ¬ Alike xs ys) : ∃ x y, [x, y].Sublist xs ∧ [y, x].Sublist ys := by
  have hp : (xs.filter fun y => decide (y ∈ ys)).Perm (ys.filter fun y => decide (y ∈ xs)) := by
    rw [List.perm_ext_iff_of_nodup (nx.filter _) (ny.filter _)]
    intro y
    simp [and_comm]
  obtain ⟨x, y, h1, h2⟩ := perm_inv hp al
  exact ⟨x, y, h1.trans List.filter_sublist, h2.trans List.filter_sublist⟩
theorem ring_cyc {xs ys : List Int} {x y : Int} (h1 : [x, y].Sublist xs) (h2 : [y, x].Sublist ys) : Cyc (psF xs ys) x ∧ Cyc (psF xs ys) y := by
  have t1 : Tg (psF xs ys) x y := sub_tg (fun p hp => List.mem_append_left _ hp) h1
  have t2 : Tg (psF xs ys) y x := sub_tg (fun p hp => List.mem_append_right _ hp) h2
  exact ⟨tg_trans t1 t2, tg_trans t2 t1⟩
theorem healthy_of {xs ys : List Int} (rx : R10 xs) (ry : R10 ys) (nx : xs.Nodup) (ny : ys.Nodup) (al : Alike xs ys) : Healthy xs ys := by
  obtain ⟨k1, k2, k3, k4⟩ := mergeF_keeps nx ny al
  have hev := every_nd nx ny
  have mp1 := merge_part k3 k1
  have mp2 := merge_part k3 k2
  have hmp : (mergeF xs ys).Perm (everyF xs ys) := by
    rw [List.perm_ext_iff_of_nodup k3 hev]
    intro y
    rw [k4, ev_mem]
  refine ⟨rx, ry, nx, ny, hmp, k1, k2, fun td ht ho => ?_, fun out d => ?_, no_ring nx ny al, al, mp1.1, mp1.2, mp2.1, mp2.2⟩
  · obtain ⟨a, ha, hmin⟩ := min_of (fun a b => (mergeF xs ys).idxOf a < (mergeF xs ys).idxOf b) (fun _ _ _ => Nat.lt_trans) td ht fun a _ => Nat.lt_irrefl _
    have : a ∈ outsF (psF xs ys) td := outsF_mem.mpr ⟨ha, fun p hp q => hmin p hp (ed_idx nx ny al p a q)⟩
    rw [ho] at this
    cases this
  · have F := sort_facts k3 (fun p c h => ⟨hmp.mem_iff.mpr (ps_ev p c h).1, hmp.mem_iff.mpr (ps_ev p c h).2⟩) d
    refine ⟨?_, keeps_of F.nd F.ord⟩
    rw [List.perm_ext_iff_of_nodup F.nd k3]
    intro y
    rw [F.mem]
    simp
theorem law_ok (xs ys : List Int) (rx : R10 xs) (ry : R10 ys) (nx : xs.Nodup) (ny : ys.Nodup) : LawOK xs ys := by
  have hev := every_nd nx ny
  have hB : ∀ {x y}, x ∈ everyF xs ys → y ∈ everyF xs ys → (behindF (psF xs ys) (everyF xs ys) x y = true ↔ Tg (psF xs ys) x y) := fun hx hy => behindF_iff ps_ev hx hy
  have cyev : ∀ x, Cyc (psF xs ys) x → x ∈ everyF xs ys := fun x h => by
    cases h with
    | single e => exact (ps_ev _ _ e).1
    | tail _ e => exact (ps_ev _ _ e).2
  have cy : ∀ x, x ∈ rgF xs ys ↔ Cyc (psF xs ys) x := fun x => by
    unfold rgF
    rw [List.mem_filter]
    exact ⟨fun h => (hB h.1 h.1).mp h.2, fun h => ⟨cyev x h, (hB (cyev x h) (cyev x h)).mpr h⟩⟩
  have hal : Alike xs ys ↔ rgF xs ys = [] := by
    constructor
    · intro al
      rw [List.eq_nil_iff_forall_not_mem]
      intro x hx
      exact no_ring nx ny al x ((cy x).mp hx)
    · intro h
      refine Classical.byContradiction fun al => ?_
      obtain ⟨x, y, h1, h2⟩ := ring_of nx ny al
      have := (cy x).mpr (ring_cyc h1 h2).1
      rw [h] at this
      cases this
  have hfr : ∀ n, n ∈ freeF xs ys ↔ n ∈ everyF xs ys ∧ ¬ ∃ r, Cyc (psF xs ys) r ∧ Tg (psF xs ys) r n := fun n => by
    unfold freeF
    rw [List.mem_filter]
    constructor
    · rintro ⟨h1, h2⟩
      refine ⟨h1, fun ⟨r, hr, hrn⟩ => ?_⟩
      have : ((rgF xs ys).any fun r => behindF (psF xs ys) (everyF xs ys) r n) = true := List.any_eq_true.mpr ⟨r, (cy r).mpr hr, (hB (cyev r hr) h1).mpr hrn⟩
      rw [this] at h2
      cases h2
    · rintro ⟨h1, h2⟩
      refine ⟨h1, ?_⟩
      cases q : ((rgF xs ys).any fun r => behindF (psF xs ys) (everyF xs ys) r n) with
      | false => rfl
      | true =>
        obtain ⟨r, hr, hb⟩ := List.any_eq_true.mp q
        have hc := (cy r).mp hr
        exact absurd ⟨r, hc, (hB (cyev r hc) h1).mp hb⟩ h2
  have dal : decide (Alike xs ys) = (rgF xs ys).isEmpty := by
    rw [Bool.eq_iff_iff, decide_eq_true_eq, hal]
    simp
  have sub_filter : ∀ {x y : Int} {l : List Int}, [x, y].Sublist (l.filter fun z => decide (z ∉ rgF xs ys)) → [x, y].Sublist l ∧ x ∉ rgF xs ys ∧ y ∉ rgF xs ys := fun {x y l} h => by
    refine ⟨h.trans List.filter_sublist, ?_, ?_⟩
    · simpa using (List.mem_filter.mp (h.subset (.head _))).2
    · simpa using (List.mem_filter.mp (h.subset (.tail _ (.head _)))).2
  refine ⟨dal, ?_, fun out tz d => ?_, cy, ?_, ?_⟩
  · rw [← dal, Bool.eq_iff_iff, Bool.and_eq_true, decide_eq_true_eq, decide_eq_true_eq, decide_eq_true_eq]
    constructor
    · rintro ⟨h1, h2⟩
      show (xs.filter fun y => decide (y ∈ ys)) = ys.filter fun y => decide (y ∈ xs)
      have e1 : (xs.filter fun y => decide (y ∈ ys)) = ((mergeF xs ys).filter fun y => decide (y ∈ xs)).filter fun y => decide (y ∈ ys) := by rw [h1]
      have e2 : (ys.filter fun y => decide (y ∈ xs)) = ((mergeF xs ys).filter fun y => decide (y ∈ ys)).filter fun y => decide (y ∈ xs) := by rw [h2]
      rw [e1, e2, List.filter_filter, List.filter_filter]
      exact List.filter_congr fun y _ => Bool.and_comm _ _
    · intro al
      exact ⟨(mergeF_keeps nx ny al).1, (mergeF_keeps nx ny al).2.1⟩
  · have F := sort_facts hev ps_ev d
    have hfo : ∀ n, n ∈ out ↔ n ∈ freeF xs ys := fun n => by
      rw [F.mem, hfr]
      exact ⟨fun h => ⟨h.1, fun q => h.2 ((F.stuck n h.1).mpr q)⟩, fun h => ⟨h.1, fun q => h.2 ((F.stuck n h.1).mp q)⟩⟩
    refine ⟨⟨fun h => ?_, fun h => ?_⟩, ?_, keeps_of F.nd fun p c hp hc => F.ord p c (List.mem_filter.mp hp).1 hc⟩
    · rw [List.eq_nil_iff_forall_not_mem]
      intro x hx
      have hc := (cy x).mp hx
      have := (F.stuck x (cyev x hc)).mpr ⟨x, hc, hc⟩
      rw [h] at this
      cases this
    · rw [List.eq_nil_iff_forall_not_mem]
      intro n hn
      obtain ⟨r, hr, _⟩ := (F.stuck n (F.sub n hn)).mp hn
      have := (cy r).mpr hr
      rw [h] at this
      cases this
    · rw [List.perm_ext_iff_of_nodup F.nd (show (freeF xs ys).Nodup from hev.filter _)]
      exact hfo
  · refine healthy_of rx (fun y hy => ry y (List.mem_filter.mp hy).1) nx (ny.filter _) (Classical.byContradiction fun al => ?_)
    obtain ⟨x, y, h1, h2⟩ := ring_of nx (ny.filter _) al
    obtain ⟨h3, h4, h5⟩ := sub_filter h2
    exact h4 ((cy y).mpr (ring_cyc h1 h3).2)
  · refine healthy_of (fun y hy => rx y (List.mem_filter.mp hy).1) ry (nx.filter _) ny (Classical.byContradiction fun al => ?_)
    obtain ⟨x, y, h1, h2⟩ := ring_of (nx.filter _) ny al
    obtain ⟨h3, h4, h5⟩ := sub_filter h1
    exact h4 ((cy x).mpr (ring_cyc h3 h2).1)
end Mine
end
section
open PySem PySem.W PySem.Calls PyProof.Rows
set_option maxRecDepth 100000
set_option maxHeartbeats 8000000
set_option autoImplicit false
namespace Mine
theorem cx_of {w : World} {s₀ s₁ : Shared} {mg mb : Str → Option Value} {R : WRecords} (G : Ground hd.view_39 [Str.ofString "OrderedSet", Str.ofString "sort"] R (XL hd.view_39 []) w s₀ mg mb s₁.heap) (Y : (KF w).In s₁.heap) : Cx w s₁.heap :=
  ⟨Y, mg, mb, topRead_of G.T⟩
theorem items_ints {R : WRecords} : ∀ {xs : List WData}, WShape.hasItems R xs .int = true → ∃ zs : List Int, xs = zs.map .int
  | [], _ => ⟨[], rfl⟩
  | d :: xs, h => by
    simp only [WShape.hasItems, Bool.and_eq_true] at h
    obtain ⟨i, rfl⟩ := hasW_int h.1
    obtain ⟨zs, rfl⟩ := items_ints h.2
    exact ⟨i :: zs, rfl⟩
theorem well_ints {P : Params} {h : Heap} : ∀ {vs : List Value} {zs : List Int}, WellAll P h vs (zs.map .int) → IntsAre vs zs
  | [], [], _ => .nil
  | v :: vs, z :: zs, h => by
    cases h with
    | cons a b =>
      cases a with
      | int i t => exact .cons _ t (well_ints b)
  | [], z :: zs, h => by cases h
  | v :: vs, [], h => by cases h
theorem top : PySem.Challenge.rw_bn5036_01.Holds := by
  refine hd ?_
  intro w s₀ s₁ mg mb G Y a o pm cd doc dV kV h1 h2 h3 h4 h5 hg args vals as hpre hlay hreads hwell hlow
  have C : Cx w s₁.heap := cx_of G (kIn_of Y)
  have ha : a = 337 := by
    have e1 := mg_of (K := KF w) (n := "law") (v := .ref 337) (kIn_of Y) G.T.g (by kernel_rfl)
    have e2 : mg "law" = some (.ref a) := h5
    rw [e1] at e2
    cases e2; rfl
  subst ha
  obtain ⟨zs, ls, hargs, hvals, hls, hzl⟩ : ∃ (zs : List Int) (ls : Addr), args = [.list (zs.map .int)] ∧ vals = [.ref ls] ∧ HasP s₁.heap (ls, IL zs) ∧ zs.length ≤ 63 := by
    obtain ⟨p1, p2⟩ := pre_splitW hpre
    obtain ⟨d, r, rfl, q1, q2⟩ := hasAllW_cons (e := .list .int) (es := []) p1
    obtain rfl := hasAllW_nil q2
    obtain ⟨xs, rfl, q3⟩ := hasW_list q1
    obtain ⟨zs, rfl⟩ := items_ints q3
    cases hwell with
    | cons hw hr =>
      cases hr
      cases hw with
      | list hget hall =>
        refine ⟨zs, _, rfl, rfl, ⟨_, hget, _, ⟨0, rfl⟩, well_ints hall⟩, ?_⟩
        have p3 : WTm.holds PySem.Challenge.rw_bn5036_01.row.records (.and (.not (.lt (.lit (.int 63)) (.len (.arg 0)))) (.lit (.bool true))) { args := [.list (zs.map .int)] } = true := p2
        simp [WTm.holds, WTm.value] at p3
        have e : less? (WData.int 63) (WData.int (zs.length : Int)) = some (decide ((63 : Int) < (zs.length : Int))) := by
          first | rfl | simp [less?]
        rw [e] at p3
        refine Nat.le_of_not_lt fun hlt => ?_
        rw [show decide ((63 : Int) < (zs.length : Int)) = true from by simp; omega] at p3
        simp at p3
  subst hargs hvals
  refine law_walk (s := s₁) C ⟨rfl, by decide +kernel, by decide +kernel⟩ rfl hls hzl law_ok fun s' RG => ⟨.inl ⟨_, .bool true, [], rfl, fun _ => rfl, .bool true, ?_, fun _ => ⟨.nil, fun _ h => nomatch h⟩⟩, .of_keep fun b o e => RG.keeps b o (fun h => nomatch h) e, RG.os, RG.g.bare (by rw [hg]; exact AllBare.empty)⟩
  show (WShape.has PySem.Challenge.rw_bn5036_01.row.records (.bool true) PySem.Challenge.rw_bn5036_01.row.returns && PySem.Challenge.rw_bn5036_01.row.post.holds PySem.Challenge.rw_bn5036_01.row.records { args := [.list (zs.map .int)], res := some (.bool true), after := [.list (zs.map .int)] }) = true
  rw [Bool.and_eq_true]
  refine ⟨by kernel_rfl, ?_⟩
  show WTm.holds _ (.eq .res (.lit (.bool true))) _ = true
  simp [WTm.holds, WTm.value]
  rw [show same (WData.bool true) (WData.bool true) = true by decide +kernel]
end Mine
end
theorem PySem.Challenge.cw_bn5036_01_holds : PySem.Challenge.rw_bn5036_01.Holds := by
  exact Mine.top
