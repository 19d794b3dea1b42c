import PyProof.Rows.All
import Wide.All
import OpenK.AllK
import Wide.FinOn
import PySem.Challenge.RW_kq0024_01
set_option Elab.async false
set_option linter.unusedVariables false
section
open PySem PySem.W PySem.Spec PySem.Calls PyProof.Rows
set_option maxRecDepth 100000
namespace Kq
structure Ext (X : List Addr) (h h' : Heap) : Prop where
  keep : ∀ b o, h.get? b = some o → b ∉ X → h'.get? b = some o
  up : h.UpToSlots h'
  there : ∀ b o, h.get? b = some o → ∃ o', h'.get? b = some o'
theorem Ext.refl (X : List Addr) (h : Heap) : Ext X h h := ⟨fun _ _ e _ => e, .refl h, fun _ o e => ⟨o, e⟩⟩
theorem Ext.mono {X Y : List Addr} {h h' : Heap} (x : Ext X h h') (hxy : ∀ b ∈ X, b ∈ Y) : Ext Y h h' :=
  ⟨fun b o e hb => x.keep b o e fun q => hb (hxy b q), x.up, x.there⟩
theorem Ext.trans {X Y : List Addr} {h₁ h₂ h₃ : Heap} (x : Ext X h₁ h₂) (y : Ext Y h₂ h₃) (hy : ∀ b ∈ Y, b ∈ X ∨ h₁.get? b = none) : Ext X h₁ h₃ :=
  ⟨fun b o e hb => y.keep b o (x.keep b o e hb) fun q => (hy b q).elim hb fun n => (by rw [n] at e; cases e), x.up.trans y.up, fun b o e => let ⟨o', e'⟩ := x.there b o e; y.there b o' e'⟩
theorem Ext.fresh {X : List Addr} {h h' : Heap} {b : Addr} (x : Ext X h h') (hb : h'.get? b = none) : h.get? b = none := by
  cases q : h.get? b with
  | none => rfl
  | some o => obtain ⟨o', e⟩ := x.there b o q; rw [hb] at e; cases e
theorem Ext.of {h h' : Heap} (k : ∀ b o, h.get? b = some o → h'.get? b = some o) : Ext [] h h' :=
  ⟨fun b o e _ => k b o e, .of_keeps k, fun b o e => ⟨o, k b o e⟩⟩
theorem Ext.base {X : List Addr} {B h h' : Heap} (x : Ext X h h') (hB : B.StaysIn h) (hx : ∀ b ∈ X, B.get? b = none) : B.StaysIn h' :=
  fun b o e => x.keep b o (hB b o e) fun q => by rw [hx b q] at e; cases e
theorem Ext.ns {X : List Addr} {h h' : Heap} {L : Addr} {m : Str → Option Value} (x : Ext X h h') (hn : h.Ns L m) : h'.Ns L m := x.up.ns hn
theorem none_of_ge {h : Heap} {b : Addr} (hb : h.objs.size ≤ b) : h.get? b = none := by
  cases q : h.get? b with
  | none => rfl
  | some o => exact absurd (Heap.lt_size q) (Nat.not_lt.mpr hb)
theorem upd_there {h : Heap} {a : Addr} {o : Obj} {vs : Array Value} (f : Array Value → Array Value) (b : Addr) (ho : h.get? a = some o) (hd : o.data = .fields vs) (ob : Obj) (q : h.get? b = some ob) :
    ∃ o', (h.update a (Obj.mapFields f)).get? b = some o' := by
  by_cases hb : b = a
  · subst hb; exact ⟨_, Heap.get?_update_self _ ho (Obj.isFreed_of_fields (Obj.data_mapFields hd _))⟩
  · exact ⟨ob, (Heap.get?_update_other _ _ (Ne.symm hb)).trans q⟩
abbrev fr (l : List Env) : List Addr := l.filterMap (·.frame)
abbrev Frs (h : Heap) (l : List Env) : Prop := h.FunFrames {} l
theorem Ext.frs {X : List Addr} {h h' : Heap} {l : List Env} (x : Ext X h h') (hl : Frs h l) : Frs h' l :=
  hl.of_keeps fun b o e hn => let ⟨_, q⟩ := x.up b o e hn; ⟨_, q, rfl⟩
theorem empty_get (b : Addr) : ({} : Heap).get? b = none := none_of_ge (Nat.zero_le _)
def Exc (h : Heap) (e : Addr) (c a0 ctx : Value) (tb : Option (Addr × Value)) : Prop :=
  ∃ o vs, h.get? e = some o ∧ o.cls = c ∧ o.data = .fields vs ∧ vs[0]? = some a0 ∧ vs[2]? = some ctx ∧
    match tb with
    | none => vs[1]? = some .none
    | some p => vs[1]? = some (.ref p.1) ∧ p.1 ≠ e ∧ ∃ oT ts, h.get? p.1 = some oT ∧ oT.data = .fields ts ∧ ts[3]? = some p.2
abbrev tbs (tb : Option (Addr × Value)) : List Addr := tb.toList.map (·.1)
theorem Exc.keep {X : List Addr} {h h' : Heap} {e : Addr} {c a0 ctx : Value} {tb : Option (Addr × Value)} (x : Exc h e c a0 ctx tb) (E : Ext X h h') (he : e ∉ X) (ht : ∀ b ∈ tbs tb, b ∉ X) : Exc h' e c a0 ctx tb := by
  obtain ⟨o, vs, ho, hc, hd, h0, h2, h1⟩ := x
  refine ⟨o, vs, E.keep _ _ ho he, hc, hd, h0, h2, ?_⟩
  cases tb with
  | none => exact h1
  | some p =>
    obtain ⟨h1, hne, oT, ts, hT, hdT, h3⟩ := h1
    exact ⟨h1, hne, oT, ts, E.keep _ _ hT (ht _ (by simp [tbs])), hdT, h3⟩
theorem Exc.there {h : Heap} {e : Addr} {c a0 ctx : Value} {tb : Option (Addr × Value)} (x : Exc h e c a0 ctx tb) : ∃ o, h.get? e = some o ∧ o.cls = c :=
  let ⟨o, _, ho, hc, _⟩ := x; ⟨o, ho, hc⟩
theorem Exc.off_frames {h : Heap} {l : List Env} {e : Addr} {c a0 ctx : Value} {tb : Option (Addr × Value)} (x : Exc h e c a0 ctx tb) (hl : Frs h l) : e ∉ fr l := fun q => by
  obtain ⟨o, vs, ho, _, hd, _⟩ := x
  obtain ⟨_, o', ho', hn⟩ := hl.mem q
  rw [ho] at ho'; cases ho'; exact hn vs hd
section
variable {M : Model} {A : Around} {E : Value → Shared → Prop} {s : Shared}
theorem entry {env : Env} {outer : List Env} {L e : Addr} {o : Obj} {vs : Array Value} {head : Value} {hadNext : Bool} {Q : Unit → Shared → Prop}
    (hfr : A.frames = some (env :: outer)) (hl : Frs s.heap (env :: outer)) (hf : env.frame = some L) (he : s.heap.get? e = some o) (hd : o.data = .fields vs) (hsz : 1 < vs.size)
    (h : ∀ h' T, s.heap.get? T = none → T ≠ e → Ext (e :: fr (env :: outer)) s.heap h' → h'.get? e = some (o.mapFields (·.setIfInBounds 1 (.ref T))) →
      (∃ oT ts, h'.get? T = some oT ∧ oT.data = .fields ts ∧ ts[3]? = some (rawInt L)) → Q () { s with heap := h' }) :
    wpAny M A (do let a ← frameOf env; let pl ← entryPlaceOf L hadNext; let b ← EntryCells.newEntry head a .none (rawInt L) .none pl; setField (.ref e) 1 b) Q E s := by
  have off : e ∉ fr (env :: outer) := fun q => by
    obtain ⟨_, o', ho', hn⟩ := hl.mem q
    rw [he] at ho'; cases ho'; exact hn vs hd
  refine wpAny_bind (wpAny_frameOf_fun hfr hl hf fun h₁ hs₁ => ?_)
  refine wpAny_bind (wpAny_entryPlaceOf fun pl hpl => ?_)
  unfold EntryCells.newEntry newFields
  refine wpAny_bind (wpAny_newObj_type ?_ (hpl.sizeOk5 _ _ _ _ _))
  have he₁ : h₁.get? e = some o := (hs₁.2.1 e off).trans he
  have he₂ := Heap.get?_push_of_some (h := h₁) { cls := .type "traceback", dict := none, data := .fields ([head, .ref L, .none, rawInt L, .none] ++ (if pl.isEmpty then List.replicate 6 Value.none else pl)).toArray } he₁
  refine wpAny_setField he₂ hd hsz ?_
  have hlt := Heap.lt_size he₁
  have hd₃ := Obj.data_mapFields hd (·.setIfInBounds 1 (Value.ref h₁.objs.size))
  have hT₂ := Heap.get?_push_size h₁ (o := { cls := .type "traceback", dict := none, data := .fields ([head, .ref L, .none, rawInt L, .none] ++ (if pl.isEmpty then List.replicate 6 Value.none else pl)).toArray }) rfl
  have other : ∀ b ob, b ≠ e → h₁.get? b = some ob → ((h₁.push { cls := .type "traceback", dict := none, data := .fields ([head, .ref L, .none, rawInt L, .none] ++ (if pl.isEmpty then List.replicate 6 Value.none else pl)).toArray }).update e
      (Obj.mapFields (·.setIfInBounds 1 (Value.ref h₁.objs.size)))).get? b = some ob := fun b ob hb q => (Heap.get?_update_other _ _ (Ne.symm hb)).trans (Heap.get?_push_of_some _ q)
  refine h _ h₁.objs.size (none_of_ge (by rw [hs₁.1]; exact Nat.le_refl _)) (Nat.ne_of_gt hlt) ⟨fun b ob q hb => ?_, fun b ob q hn => ?_, ?_⟩ (Heap.get?_update_self _ he₂ (Obj.isFreed_of_fields hd₃)) ⟨_, _, (Heap.get?_update_other _ _ (Nat.ne_of_lt hlt)).trans hT₂, rfl, by simp⟩
  · rw [List.mem_cons, not_or] at hb
    exact other b ob hb.1 ((hs₁.2.1 b hb.2).trans q)
  · obtain ⟨sl, q'⟩ := hs₁.2.2 b ob q
    refine ⟨sl, other b _ (fun z => ?_) q'⟩
    subst z; rw [he] at q; cases q; exact hn vs hd
  · intro b ob q
    by_cases hb : b = e
    · subst hb; exact ⟨_, Heap.get?_update_self _ he₂ (Obj.isFreed_of_fields hd₃)⟩
    · obtain ⟨sl, q'⟩ := hs₁.2.2 b ob q
      exact ⟨_, other b _ hb q'⟩
theorem exc_mapped {h : Heap} {e T : Addr} {o : Obj} {vs : Array Value} {c a0 ctx f : Value} (ho : h.get? e = some (o.mapFields (·.setIfInBounds 1 (.ref T)))) (hc : o.cls = c) (hd : o.data = .fields vs) (h0 : vs[0]? = some a0) (h2 : vs[2]? = some ctx) (hT : T ≠ e)
    (ht : ∃ oT ts, h.get? T = some oT ∧ oT.data = .fields ts ∧ ts[3]? = some f) : Exc h e c a0 ctx (some (T, f)) := by
  have hsz : 1 < vs.size := by have := (Array.getElem?_eq_some_iff.mp h2).1; omega
  exact ⟨_, _, ho, by rw [Obj.cls_mapFields]; exact hc, Obj.data_mapFields hd _, by rw [Array.getElem?_setIfInBounds_ne (by decide)]; exact h0, by rw [Array.getElem?_setIfInBounds_ne (by decide)]; exact h2,
    by simp [hsz], hT, ht⟩
theorem note {env : Env} {outer : List Env} {L e : Addr} {c a0 ctx : Value} {tb : Option (Addr × Value)} {Q : Unit → Shared → Prop}
    (hfr : A.frames = some (env :: outer)) (hl : Frs s.heap (env :: outer)) (hf : env.frame = some L) (he : Exc s.heap e c a0 ctx tb) (hq : ∀ p ∈ tb, p.2 = .none)
    (h : ∀ h' T, s.heap.get? T = none → Ext (e :: tbs tb ++ fr (env :: outer)) s.heap h' → Exc h' e c a0 ctx (some (T, rawInt L)) → Q () { s with heap := h' }) :
    wpAny M A (noteFrame (.ref e) env) Q E s := by
  obtain ⟨o, vs, ho, hc, hd, h0, h2, h1⟩ := id he
  have hsz : 1 < vs.size := by have := (Array.getElem?_eq_some_iff.mp h2).1; omega
  unfold noteFrame
  simp only [hf]
  cases tb with
  | none =>
    refine wpAny_bind (wpAny_field ho hd h1 ?_)
    rw [if_neg (by decide)]
    refine entry hfr hl hf ho hd hsz fun h' T hT hne x he' ht => ?_
    exact h h' T hT (x.mono fun b hb => by simpa [tbs] using hb) (exc_mapped he' hc hd h0 h2 hne ht)
  | some p =>
    obtain ⟨T₀, f⟩ := p
    obtain rfl : f = .none := hq _ rfl
    obtain ⟨h1, hne₀, oT, ts, hT₀, hdT, h3⟩ := h1
    refine wpAny_bind (wpAny_field ho hd h1 ?_)
    rw [if_pos (show (Value.ref T₀ != Value.none) = true from by simp)]
    refine wpAny_bind (wpAny_field hT₀ hdT h3 ?_)
    rw [if_neg (show ¬ ((Value.none == rawInt L) = true) from by simp [rawInt])]
    refine wpAny_bind (wpAny_setField hT₀ hdT (Array.getElem?_eq_some_iff.mp h3).1 ?_)
    have other : ∀ b, b ≠ T₀ → (s.heap.update T₀ (Obj.mapFields (·.setIfInBounds 3 Value.none))).get? b = s.heap.get? b := fun b hb => Heap.get?_update_other _ _ (Ne.symm hb)
    have x₀ : Ext [T₀] s.heap (s.heap.update T₀ (Obj.mapFields (·.setIfInBounds 3 Value.none))) :=
      ⟨fun b ob q hb => (other b (fun z => hb (by simp [z]))).trans q, fun b ob q hn => ⟨ob.slots, (other b fun z => by subst z; rw [hT₀] at q; cases q; exact hn ts hdT).trans q⟩, fun b ob q => upd_there _ b hT₀ hdT ob q⟩
    refine entry hfr (x₀.frs hl) hf ((other e (Ne.symm hne₀)).trans ho) hd hsz fun h' T hT hne x he' ht => ?_
    refine h h' T (x₀.fresh hT) ⟨fun b ob q hb => ?_, x₀.up.trans x.up, fun b ob q => let ⟨o', q'⟩ := x₀.there b ob q; x.there b o' q'⟩ (exc_mapped he' hc hd h0 h2 hne ht)
    simp only [tbs, Option.toList, List.map_cons, List.map_nil, List.cons_append, List.nil_append, List.mem_cons, not_or] at hb
    exact x.keep b ob (x₀.keep b ob q (by simp [hb.2.1])) (by rw [List.mem_cons, not_or]; exact ⟨hb.1, hb.2.2⟩)
theorem note_again {env : Env} {L e T : Addr} {c a0 ctx : Value} {Q : Unit → Shared → Prop} (hf : env.frame = some L) (he : Exc s.heap e c a0 ctx (some (T, rawInt L))) (h : Q () s) :
    wpAny M A (noteFrame (.ref e) env) Q E s := by
  obtain ⟨o, vs, ho, hc, hd, h0, h2, h1, hne, oT, ts, hT, hdT, h3⟩ := he
  exact wpAny_noteFrame_inFlight hf ho hd h1 hT hdT h3 h
theorem flight {e : Addr} {c a0 ctx : Value} {tb : Option (Addr × Value)} {x : Option Addr} {Q : Unit → Shared → Prop} (he : Exc s.heap e c a0 ctx tb)
    (h : ∀ h', Ext (tbs tb) s.heap h' → Exc h' e c a0 ctx (tb.map fun p => (p.1, x.elim .none fun f => rawInt f)) → Q () { s with heap := h' }) : wpAny M A (setFlight (.ref e) x) Q E s := by
  obtain ⟨o, vs, ho, hc, hd, h0, h2, h1⟩ := id he
  unfold setFlight
  cases tb with
  | none =>
    refine wpAny_bind (wpAny_field ho hd h1 ?_)
    rw [if_neg (by decide)]
    exact wpAny_pure (h s.heap (.refl ..) he)
  | some p =>
    obtain ⟨T, f⟩ := p
    obtain ⟨h1, hne, oT, ts, hT, hdT, h3⟩ := h1
    refine wpAny_bind (wpAny_field ho hd h1 ?_)
    rw [if_pos (show (Value.ref T != Value.none) = true from by simp)]
    have hsz3 : 3 < ts.size := (Array.getElem?_eq_some_iff.mp h3).1
    refine wpAny_setField hT hdT hsz3 ?_
    have other : ∀ b, b ≠ T → (s.heap.update T (Obj.mapFields (·.setIfInBounds 3 (x.elim .none fun f => rawInt f)))).get? b = s.heap.get? b := fun b hb => Heap.get?_update_other _ _ (Ne.symm hb)
    refine h _ ⟨fun b ob q hb => (other b (fun z => hb (by simp [tbs, z]))).trans q, fun b ob q hn => ⟨ob.slots, (other b fun z => by subst z; rw [hT] at q; cases q; exact hn ts hdT).trans q⟩, fun b ob q => upd_there _ b hT hdT ob q⟩ ?_
    exact ⟨o, vs, (other e (Ne.symm hne)).trans ho, hc, hd, h0, h2, h1, hne, _, _, Heap.get?_update_self _ hT (Obj.isFreed_of_fields (Obj.data_mapFields hdT _)), Obj.data_mapFields hdT _, by simp [hsz3]⟩
theorem leave {env : Env} {outer : List Env} {L e : Addr} {c a0 ctx : Value} {tb : Option (Addr × Value)} {Q : Unit → Shared → Prop}
    (hfr : A.frames = some (env :: outer)) (hl : Frs s.heap (env :: outer)) (hf : env.frame = some L) (he : Exc s.heap e c a0 ctx tb) (hq : ∀ p ∈ tb, p.2 = .none)
    (h : ∀ h' T, s.heap.get? T = none → Ext (e :: tbs tb ++ fr (env :: outer)) s.heap h' → Exc h' e c a0 ctx (some (T, .none)) → Q () { s with heap := h' }) :
    wpAny M A (leaving env (.ref e)) Q E s := by
  unfold leaving
  refine wpAny_bind (note hfr hl hf he hq fun h₁ T hT x₁ e₁ => ?_)
  refine flight e₁ fun h₂ x₂ e₂ => ?_
  refine h h₂ T hT (x₁.trans x₂ fun b hb => ?_) e₂
  simp only [tbs, Option.toList, List.map_cons, List.map_nil, List.mem_singleton] at hb
  exact .inr (hb ▸ hT)
theorem leave_again {env : Env} {L e T : Addr} {c a0 ctx : Value} {Q : Unit → Shared → Prop} (hf : env.frame = some L) (he : Exc s.heap e c a0 ctx (some (T, rawInt L)))
    (h : ∀ h', Ext [T] s.heap h' → Exc h' e c a0 ctx (some (T, .none)) → Q () { s with heap := h' }) : wpAny M A (leaving env (.ref e)) Q E s := by
  unfold leaving
  refine wpAny_bind (note_again hf he ?_)
  exact flight he fun h₂ x₂ e₂ => h h₂ x₂ e₂
theorem came_back {env : Env} {L e T : Addr} {c a0 ctx f : Value} (hf : env.frame = some L) (he : Exc s.heap e c a0 ctx (some (T, f)))
    (h : ∀ h', Ext [T] s.heap h' → Exc h' e c a0 ctx (some (T, rawInt L)) → E (.ref e) { s with heap := h' }) : cameBackBy M A env E (.ref e) s := by
  obtain ⟨o, vs, ho, hc, hd, h0, h2, h1, hne, oT, ts, hT, hdT, h3⟩ := id he
  unfold cameBackBy
  refine wpAny_bind (wpAny_field ho hd h1 ?_)
  rw [if_neg (show ¬ ((Value.ref T == Value.none) = true) from by simp)]
  rw [hf]
  exact flight he fun h₂ x₂ e₂ => h h₂ x₂ e₂
end
end Kq
end
section
open PySem PySem.W PySem.Spec PySem.Calls PyProof.Rows
set_option maxRecDepth 100000
namespace Kq
def Sub (B : Heap) (c T : Value) (b : Bool) : Prop :=
  ∀ (M : Model) (A : Around) (Q : Bool → Shared → Prop) (E : Value → Shared → Prop) (s : Shared), B.StaysIn s.heap → Q b s → wpAny M A (isSubtype c T) Q E s
def Plain (B : Heap) (c : Value) : Prop :=
  ∀ (M : Model) (A : Around) (Q : Value → Shared → Prop) (E : Value → Shared → Prop) (s : Shared), B.StaysIn s.heap → Q (.type "type") s → wpAny M A (typeOf c) Q E s
theorem Sub.type {B : Heap} {X T : String} {b : Bool} (h : isSubtype (.type X) (.type T) = pure b) : Sub B (.type X) (.type T) b := fun _ _ _ _ _ _ hq => wpAny_of_eq h hq
theorem Plain.type {B : Heap} {X : String} (h : (Manifest.find? X).elim "type" (·.metatype) = "type") : Plain B (.type X) := fun _ _ _ _ _ _ hq => wpAny_of_eq (show typeOf (.type X) = pure (.type "type") by simp only [typeOf, h]) hq
theorem Sub.own {B : Heap} {nm q : Str} {C N : Addr} {bs bm : List Value} {hdct : Bool} {sn : List Str} {sub : List Value} {ab : Bool} {col : Option Bool} {dd : Option Addr} {k0 k1 k2 k3 k5 : Option Value} {newId : String} {T : Value} {b : Bool}
    (hC : B.get? C = some (excClassObj nm q C N bs bm hdct sn sub ab col dd k0 k1 k2 k3 k5 newId)) (hb : (Value.ref C :: bm).contains T = b) : Sub B (.ref C) T b := fun _ _ _ _ ⟨_, _, _, _, _⟩ hB hq => wpAny_isSubtype_exc (hB _ _ hC) (hb ▸ hq)
theorem Plain.own {B : Heap} {C : Addr} {o : Obj} (hC : B.get? C = some o) (hc : o.cls = .type "type") : Plain B (.ref C) := fun _ _ _ _ s hB hq => by
  refine wpAny_typeOf (T := "type") ⟨o, hB _ _ hC, hc⟩ hq
section
variable {prog : Program} {w : World} {A : Around} {E : Value → Shared → Prop} {s : Shared}
theorem entry_unchain : entryFor table "proto.unchain" = some Builtin.«proto.unchain» := entryFor_of_tree (by kernel_rfl)
def Ends (h : Heap) (x e : Addr) : Prop :=
  ∃ o vs cx, h.get? x = some o ∧ o.data = .fields vs ∧ vs[2]? = some cx ∧ (cx = .none ∨ ∃ y oy ys, cx = .ref y ∧ y ≠ e ∧ h.get? y = some oy ∧ oy.data = .fields ys ∧ ys[2]? = some .none)
theorem unchained {x e : Addr} {R : Result → Shared → Prop} (hx : Ends s.heap x e) (h : R (.ok (.ret .none)) s) :
    codeAny (model prog w) A (.builtin "proto.unchain" ⟨[.ref e, .ref x, .ref x, .bool false], []⟩) R s := by
  obtain ⟨o, vs, cx, ho, hd, h2, hcx⟩ := hx
  refine codeAny_builtin entry_unchain ?_
  unfold Builtin.«proto.unchain»
  refine wpAny_bind (wpAny_field ho hd h2 ?_)
  rcases hcx with rfl | ⟨y, oy, ys, rfl, hye, hoy, hdy, h2y⟩
  · simp only [beq_self_eq_true, if_true]
    exact wpAny_pure h
  · have b1 : (Value.ref y == Value.none) = false := by simp
    have b2 : (Value.ref y == Value.ref e) = false := by simp [hye]
    simp only [b1, b2, Bool.false_eq_true, if_false]
    by_cases hyx : y = x
    · subst hyx
      simp only [beq_self_eq_true, if_true]
      exact wpAny_bind (wpAny_rule (wpAny_pure h))
    · have b3 : (Value.ref y == Value.ref x) = false := by simp [hyx]
      simp only [b3, Bool.false_eq_true, if_false]
      refine wpAny_bind (wpAny_pure (wpAny_pure ⟨Code.quiet_builtin _ (by decide +kernel), ?_⟩))
      refine codeAny_builtin entry_unchain ?_
      unfold Builtin.«proto.unchain»
      refine wpAny_bind (wpAny_field hoy hdy h2y ?_)
      simp only [beq_self_eq_true, if_true]
      exact wpAny_pure h
theorem raise_out {e : Addr} {α : Type} {Q : α → Shared → Prop} (hh : A.handled = none) (h : E (.ref e) s) : wpAny (model prog w) A (raiseNew (.ref e) : Sem α) Q E s :=
  wpAny_raiseNew_none hh h
theorem raise_in {x e : Addr} {c a0 ctx : Value} {tb : Option (Addr × Value)} {α : Type} {Q : α → Shared → Prop} (hh : A.handled = some (.ref x)) (hne : x ≠ e) (hx : Ends s.heap x e) (he : Exc s.heap e c a0 ctx tb)
    (h : ∀ h', Ext [e] s.heap h' → Exc h' e c a0 (.ref x) tb → (∀ o, s.heap.get? e = some o → h'.get? e = some (o.mapFields (·.setIfInBounds 2 (.ref x)))) → E (.ref e) { s with heap := h' }) : wpAny (model prog w) A (raiseNew (.ref e) : Sem α) Q E s := by
  obtain ⟨o, vs, ho, hc, hd, h0, h2, h1⟩ := he
  have hsz : 2 < vs.size := (Array.getElem?_eq_some_iff.mp h2).1
  unfold raiseNew
  refine wpAny_bind (wpAny_handled ?_)
  rw [hh]
  have b1 : (Value.ref x != Value.ref e) = true := by simp [hne]
  simp only [b1, if_true]
  refine wpAny_bind (wpAny_holding (wpAny_runValue (unchained hx ?_)))
  show wpAny (model prog w) A (do updateField e 2 (.ref x); throw (.ref e)) Q E s
  unfold updateField
  refine wpAny_bind (wpAny_bind (wpAny_load ho ?_))
  rw [hd]
  show wpAny _ _ (if 2 < vs.size then _ else _) _ _ _
  rw [if_pos hsz]
  refine wpAny_update ho (wpAny_throw (h _ ?_ ?_ fun o' ho' => ?_))
  · refine ⟨fun b ob q hb => (Heap.get?_update_other _ _ fun z => hb (by simp [z])).trans q, fun b ob q hn => ⟨ob.slots, (Heap.get?_update_other _ _ fun z => ?_).trans q⟩, fun b ob q => upd_there _ b ho hd ob q⟩
    subst z; rw [ho] at q; cases q; exact hn vs hd
  · refine ⟨_, _, Heap.get?_update_self _ ho (Obj.isFreed_of_fields (Obj.data_mapFields hd _)), by rw [Obj.cls_mapFields]; exact hc, Obj.data_mapFields hd _, by rw [Array.getElem?_setIfInBounds_ne (by decide)]; exact h0, by simp [hsz], ?_⟩
    cases tb with
    | none => rw [Array.getElem?_setIfInBounds_ne (by decide)]; exact h1
    | some p =>
      obtain ⟨h1, hne', oT, ts, hT, hdT, h3⟩ := h1
      exact ⟨by rw [Array.getElem?_setIfInBounds_ne (by decide)]; exact h1, hne', oT, ts, (Heap.get?_update_other _ _ (Ne.symm hne')).trans hT, hdT, h3⟩
  · rw [ho] at ho'; cases ho'
    exact Heap.get?_update_self _ ho (Obj.isFreed_of_fields (Obj.data_mapFields hd _))
def Short (h : Heap) (y : Addr) : Prop :=
  ∃ o vs cx, h.get? y = some o ∧ o.data = .fields vs ∧ vs[2]? = some cx ∧ (cx = .none ∨ ∃ z oz zs, cx = .ref z ∧ h.get? z = some oz ∧ oz.data = .fields zs ∧ zs[2]? = some .none)
def Hd (A : Around) (h : Heap) : Prop := A.handled = none ∨ ∃ y, A.handled = some (.ref y) ∧ Short h y
abbrev ctxOf (A : Around) : Value := A.handled.getD .none
theorem Short.keep {h h' : Heap} {y : Addr} (x : Short h y) (k : Ext [] h h') : Short h' y := by
  obtain ⟨o, vs, cx, ho, hd, h2, hc⟩ := x
  refine ⟨o, vs, cx, k.keep _ _ ho (by simp), hd, h2, hc.imp id fun ⟨z, oz, zs, e, hz, r⟩ => ⟨z, oz, zs, e, k.keep _ _ hz (by simp), r⟩⟩
theorem Short.ends {h : Heap} {y e : Addr} (x : Short h y) (k : ∀ z oz, h.get? z = some oz → z ≠ y → z ≠ e) (hy : y ≠ e) : Ends h y e := by
  obtain ⟨o, vs, cx, ho, hd, h2, hc⟩ := x
  refine ⟨o, vs, cx, ho, hd, h2, hc.imp id fun ⟨z, oz, zs, e, hz, r⟩ => ⟨z, oz, zs, e, ?_, hz, r⟩⟩
  by_cases q : z = y
  · rw [q]; exact hy
  · exact k z oz hz q
theorem Exc.short {h : Heap} {y : Addr} {c a0 : Value} {tb : Option (Addr × Value)} (x : Exc h y c a0 .none tb) : Short h y :=
  let ⟨o, vs, ho, _, hd, _, h2, _⟩ := x; ⟨o, vs, _, ho, hd, h2, .inl rfl⟩
theorem Exc.short2 {h : Heap} {y z : Addr} {c a0 c' a0' : Value} {tb tb' : Option (Addr × Value)} (x : Exc h y c a0 (.ref z) tb) (x' : Exc h z c' a0' .none tb') : Short h y :=
  let ⟨o, vs, ho, _, hd, _, h2, _⟩ := x; let ⟨o', vs', ho', _, hd', _, h2', _⟩ := x'; ⟨o, vs, _, ho, hd, h2, .inr ⟨z, o', vs', rfl, ho', hd', h2'⟩⟩
theorem raise_new {h₀ : Heap} {e : Addr} {c a0 : Value} {α : Type} {Q : α → Shared → Prop} (hh : Hd A h₀) (hne : h₀.get? e = none) (k : Ext [] h₀ s.heap) (he : Exc s.heap e c a0 .none none)
    (h : ∀ h', Ext [] h₀ h' → Exc h' e c a0 (ctxOf A) none → (∀ o, s.heap.get? e = some o → ∃ v, h'.get? e = some (o.mapFields (·.setIfInBounds 2 v))) → E (.ref e) { s with heap := h' }) :
    wpAny (model prog w) A (raiseNew (.ref e) : Sem α) Q E s := by
  rcases hh with hn | ⟨y, hy, sh⟩
  · refine raise_out hn (h s.heap k (by rw [ctxOf, hn]; exact he) fun o ho => ?_)
    obtain ⟨o', vs, ho', _, hd, _, h2, _⟩ := he
    rw [ho] at ho'; cases ho'
    refine ⟨.none, ho.trans (congrArg some ?_)⟩
    obtain ⟨c, d, dt, sl⟩ := o
    simp only at hd; subst hd
    obtain ⟨hlt, h2'⟩ := Array.getElem?_eq_some_iff.mp h2
    show _ = ({ cls := c, dict := d, data := .fields (vs.setIfInBounds 2 .none), slots := sl } : Obj)
    have e1 : vs.setIfInBounds 2 .none = vs := by
      apply Array.ext_getElem?
      intro i
      by_cases hi : i = 2
      · subst hi; rw [Array.getElem?_setIfInBounds_self_of_lt hlt, h2]
      · rw [Array.getElem?_setIfInBounds_ne (Ne.symm hi)]
    rw [e1]
  · have ne : ∀ z oz, h₀.get? z = some oz → z ≠ e := fun z oz hz q => by rw [q, hne] at hz; cases hz
    obtain ⟨oy, vy, cy, hoy, hdy, h2y, hcy⟩ := sh
    have en : Ends s.heap y e := ⟨oy, vy, cy, k.keep _ _ hoy (by simp), hdy, h2y, hcy.imp id fun ⟨z, oz, zs, ez, hz, r⟩ => ⟨z, oz, zs, ez, ne z oz hz, k.keep _ _ hz (by simp), r⟩⟩
    refine raise_in hy (ne y oy hoy) en he fun h' x' e' m' => ?_
    refine h h' (k.trans x' fun b hb => .inr (by rw [List.mem_singleton.mp hb]; exact hne)) (by rw [ctxOf, hy]; exact e') fun o ho => ⟨_, m' o ho⟩
theorem raise_held {env : Env} {B : Heap} {x : Sem Value} {Q : Flow → Shared → Prop}
    (h : wpAny (model prog w) A x (fun v s₁ => ∃ e c a0 ctx tb, v = .ref e ∧ Exc s₁.heap e c a0 ctx tb ∧ B.StaysIn s₁.heap ∧ Plain B c ∧ Sub B c (.type "BaseException") true ∧ (∀ b ∈ tbs tb, B.get? b = none) ∧
      ∀ h', Ext (tbs tb) s₁.heap h' → Exc h' e c a0 ctx (tb.map fun p => (p.1, .none)) → wpAny (model prog w) A (raiseNew (.ref e) : Sem Flow) Q E { s₁ with heap := h' }) E s) :
    wpAny (model prog w) A (raiseStmt env (some x) none) Q E s := by
  unfold raiseStmt
  refine wpAny_bind (wpAny_mono h (fun v s₁ h₁ => ?_) fun _ _ x => x)
  obtain ⟨e, c, a0, ctx, tb, rfl, he, hB, hp, hs, htb, hk⟩ := h₁
  obtain ⟨o, vs, ho, hc, hd, h0, h2, h1⟩ := id he
  obtain ⟨hp', g, d, tk, os⟩ := s₁
  have isT : ∀ {Q' : Bool → Shared → Prop}, Q' false ⟨hp', g, d, tk, os⟩ → wpAny (model prog w) A (isType (.ref e)) Q' E ⟨hp', g, d, tk, os⟩ := fun hq => by
    unfold isType
    refine wpAny_bind (wpAny_loadPart ho ?_)
    rw [hd]; exact wpAny_pure hq
  refine wpAny_bind (wpAny_pure ?_)
  refine wpAny_bind (wpAny_holding ?_)
  unfold excFromValue isExcClass
  refine wpAny_bind (wpAny_bind (isT (wpAny_pure ?_)))
  simp only [Bool.false_eq_true, if_false]
  refine wpAny_bind ?_
  unfold isInstance
  refine wpAny_bind (wpAny_typeOf_ref ho ?_)
  rw [hc]
  refine hs _ _ _ _ _ hB ?_
  simp only [if_true]
  refine wpAny_pure ?_
  refine wpAny_bind (isT ?_)
  simp only [Bool.false_eq_true, if_false]
  refine wpAny_bind ?_
  unfold raisedInstance
  refine wpAny_bind (wpAny_typeOf_ref ho ?_)
  rw [hc]
  refine wpAny_bind (hp _ _ _ _ _ hB ?_)
  simp only [beq_self_eq_true, if_true]
  refine wpAny_pure ?_
  refine wpAny_bind (flight he fun h' x' e' => ?_)
  exact hk h' x' e'
end
end Kq
end
section
open PySem PySem.W PyProof.Rows
set_option maxRecDepth 100000
set_option maxHeartbeats 8000000
open_top hd for PySem.Challenge.rw_kq0024_01
end
section
open PySem PySem.W PySem.Spec PySem.Calls PyProof.Rows
set_option maxRecDepth 100000
namespace Kq
structure G0 (w : World) (B : Heap) (mg mb : Str → Option Value) : Prop where
  X : (hd.heap_39 w.params).In B
  g : B.Ns mainGlobals mg
  b : B.Ns builtinsNs mb
  nolimit : B.NoLimit
  builtins : ∀ x : Str, x ≠ "__name__" → mb x = bootBuiltins x
  bmain : ∃ bm ob, mg "__builtins__" = some (.ref bm) ∧ bm ≠ builtinsNs ∧ B.get? bm = some ob ∧ ob.cls = .type "module" ∧ ob.dict = some builtinsNs ∧ ob.data = .plain
section
variable {prog : Program} {w : World} {A : Around} {E : Value → Shared → Prop} {s : Shared} {B : Heap} {mg mb : Str → Option Value} {env : Env}
theorem name_g {x : Str} {pos : Pos} {v : Value} {Q : Value → Shared → Prop} (G : G0 w B mg mb) (hB : B.StaysIn s.heap) (hn : nsIn (hd.heap_39 w.params) mainGlobals x = some (some v)) (h : Q v s)
    (hk : env.scope.kind = .function := by rfl) (hgl : env.globals = mainGlobals := by rfl) (hx : env.kindOf x = some .globalImplicit := by rfl) (hdb : (x == ("__debug__" : Str)) = false := by decide) :
    wpAny (model prog w) A (eval (.Name x pos) env) Q E s :=
  Name_function_global hk hx (loadGlobal_global (hgl ▸ G.g.keeps hB) (mg_of G.X G.g hn) h) hdb
theorem name_b {x : Str} {pos : Pos} {v : Value} {Q : Value → Shared → Prop} (G : G0 w B mg mb) (hB : B.StaysIn s.heap) (hn : nsIn (hd.heap_39 w.params) mainGlobals x = some none) (hv : bootBuiltins x = some v) (hne : x ≠ "__name__") (h : Q v s)
    (hk : env.scope.kind = .function := by rfl) (hgl : env.globals = mainGlobals := by rfl) (hbu : env.builtins = builtinsNs := by rfl) (hx : env.kindOf x = some .globalImplicit := by rfl) (hdb : (x == ("__debug__" : Str)) = false := by decide) :
    wpAny (model prog w) A (eval (.Name x pos) env) Q E s :=
  Name_function_global hk hx (loadGlobal_builtin (hgl ▸ G.g.keeps hB) (mg_none_of G.X G.g hn) (hbu ▸ G.b.keeps hB) ((G.builtins x hne).trans hv) h) hdb
structure Clause (T : String) : Prop where
  exc : isSubtype (.type T) (.type "BaseException") = pure true
  nt : isSubtype (.type ((Manifest.find? T).elim "type" (·.metatype))) (.type "tuple") = pure false
theorem matches1 {e : Addr} {o : Obj} {T : String} {b : Bool} {Q : Bool → Shared → Prop} (C : Clause T) (ho : s.heap.get? e = some o) (hB : B.StaysIn s.heap) (hs : Sub B o.cls (.type T) b) (h : Q b s) :
    wpAny (model prog w) A (excMatches (.ref e) (.type T)) Q E s := by
  have hexc := C.exc
  have hnt := C.nt
  unfold Sub at hs
  obtain ⟨hp, g, d, tk, os⟩ := s
  unfold excMatches
  repeat (first | (with_reducible refine wpAny_loadPart_at ho ?_) | (with_reducible refine hs _ _ _ _ _ hB ?_) | wp_step)
  cases b <;> (repeat (first | exact h | wp_step))
theorem matches2 {e tup : Addr} {o : Obj} {T1 T2 : String} {b1 b2 : Bool} {Q : Bool → Shared → Prop} (C1 : Clause T1) (C2 : Clause T2) (ht : IsTup s.heap tup #[.type T1, .type T2]) (ho : s.heap.get? e = some o) (hB : B.StaysIn s.heap)
    (hs1 : Sub B o.cls (.type T1) b1) (hs2 : Sub B o.cls (.type T2) b2) (h : Q (b1 || b2) s) :
    wpAny (model prog w) A (excMatches (.ref e) (.ref tup)) Q E s := by
  unfold Sub at hs1 hs2
  have hexc1 := C1.exc
  have hexc2 := C2.exc
  obtain ⟨ot, hot, hc, n, hd⟩ := ht
  have hT : s.TypeIs (.ref tup) "tuple" := ⟨ot, hot, hc⟩
  have hm1 : typeOf (.type T1) = pure (.type ((Manifest.find? T1).elim "type" (·.metatype))) := rfl
  obtain ⟨hp, g, d, tk, os⟩ := s
  unfold excMatches
  refine wpAny_bind (wpAny_isInstance hT isSubtype_tuple_tuple ?_)
  dsimp only
  rw [if_pos rfl]
  refine wpAny_bind (wpAny_seqItems hot hd ?_)
  dsimp only [Option.getD_some, Option.getD]
  repeat (first | (with_reducible refine wpAny_loadPart_at ho ?_) | (with_reducible refine hs1 _ _ _ _ _ hB ?_) | (with_reducible refine hs2 _ _ _ _ _ hB ?_) | wp_step)
  cases b1 <;> cases b2 <;> (repeat (first | exact h | (with_reducible refine hs1 _ _ _ _ _ hB ?_) | (with_reducible refine hs2 _ _ _ _ _ hB ?_) | wp_step))
abbrev NB (M : Model) (A : Around) (env : Env) (e : Addr) (E : Value → Shared → Prop) : Value → Shared → Prop := notedBy M (A.mark (some (.ref e))) env (cameBackBy M A env E)
theorem handle {e : Addr} {t : Expr} {b₀ : Stmt} {suite : List Stmt} {pos : Pos} {rest : List ExceptHandler} {Q : Flow → Shared → Prop}
    (h : wpAny (model prog w) (A.mark (some (.ref e))) (eval t env) (fun c s₁ => wpAny (model prog w) (A.mark (some (.ref e))) (excMatches (.ref e) c) (fun b s₂ =>
        if b then wpAny (model prog w) (A.mark (some (.ref e))) (setFlight (.ref e) none) (fun _ s₃ => wpAny (model prog w) (A.mark (some (.ref e))) (execs (b₀ :: suite) env) Q (NB (model prog w) A env e E) s₃) (NB (model prog w) A env e E) s₂
        else wpAny (model prog w) A (handleBy (.ref e) env rest) Q E s₂) (NB (model prog w) A env e E) s₁) (NB (model prog w) A env e E) s) :
    wpAny (model prog w) A (handleBy (.ref e) env (.ExceptHandler (some t) none (b₀ :: suite) pos :: rest)) Q E s := by
  refine wpAny_handleBy_cons (codeAny_handlers_test (wpAny_mono h (fun c s₁ h₁ => wpAny_mono h₁ (fun b s₂ h₂ => ?_) fun _ _ x => x) fun _ _ x => x)) (by intro q; cases q)
  cases b with
  | true => exact codeAny_handlers_suite (by simpa using h₂)
  | false => simpa using h₂
theorem in_handler {outer : List Env} {L e x : Addr} {c a0 ctx : Value} {tb : Option (Addr × Value)} (hfr : A.frames = some (env :: outer)) (hl : Frs s.heap (env :: outer)) (hf : env.frame = some L)
    (hx : Exc s.heap x c a0 ctx tb) (hq : ∀ p ∈ tb, p.2 = .none)
    (h : ∀ h' T, s.heap.get? T = none → Ext (x :: tbs tb ++ fr (env :: outer)) s.heap h' → Exc h' x c a0 ctx (some (T, rawInt L)) → E (.ref x) { s with heap := h' }) :
    NB (model prog w) A env e E (.ref x) s := by
  refine note (A := A.mark (some (.ref e))) hfr hl hf hx hq fun h' T hT x₁ e₁ => ?_
  refine came_back hf e₁ fun h₂ x₂ e₂ => h h₂ T hT (x₁.trans x₂ fun b hb => ?_) e₂
  exact .inr (List.mem_singleton.mp hb ▸ hT)
theorem in_handler_again {L e x T : Addr} {c a0 ctx : Value} (hf : env.frame = some L) (hx : Exc s.heap x c a0 ctx (some (T, rawInt L)))
    (h : ∀ h', Ext [T] s.heap h' → Exc h' x c a0 ctx (some (T, rawInt L)) → E (.ref x) { s with heap := h' }) : NB (model prog w) A env e E (.ref x) s := by
  refine note_again (A := A.mark (some (.ref e))) hf hx ?_
  exact came_back hf hx h
theorem pass_on {L e T : Addr} {c a0 ctx f : Value} {Q : Flow → Shared → Prop} (hf : env.frame = some L) (he : Exc s.heap e c a0 ctx (some (T, f)))
    (h : ∀ h', Ext [T] s.heap h' → Exc h' e c a0 ctx (some (T, rawInt L)) → E (.ref e) { s with heap := h' }) : wpAny (model prog w) A (handleBy (.ref e) env []) Q E s := by
  refine wpAny_handleBy_nil ?_
  obtain ⟨o, vs, ho, hc, hd, h0, h2, h1, hne, oT, ts, hT, hdT, h3⟩ := id he
  unfold PySem.passOn
  refine wpAny_bind (wpAny_field ho hd h1 ?_)
  rw [if_neg (show ¬ ((Value.ref T == Value.none) = true) from by simp)]
  rw [hf]
  refine wpAny_bind (flight he fun h₂ x₂ e₂ => wpAny_throw (h h₂ x₂ e₂))
theorem caught {outer : List Env} {L e : Addr} {c a0 ctx : Value} {tb : Option (Addr × Value)} {x : Str} {np : Pos} {T : String} {b : Bool} {b₀ : Stmt} {suite : List Stmt} {pos : Pos} {rest : List ExceptHandler} {Q : Flow → Shared → Prop}
    (G : G0 w B mg mb) (hB : B.StaysIn s.heap) (hfr : A.frames = some (env :: outer)) (hl : Frs s.heap (env :: outer)) (hf : env.frame = some L) (he : Exc s.heap e c a0 ctx tb) (hq : ∀ p ∈ tb, p.2 = .none)
    (hoff : ∀ a ∈ e :: tbs tb ++ fr (env :: outer), B.get? a = none)
    (hn : nsIn (hd.heap_39 w.params) mainGlobals x = some none) (hv : bootBuiltins x = some (.type T)) (hne : x ≠ "__name__") (C : Clause T) (hs : Sub B c (.type T) b)
    (k : ∀ h' T', s.heap.get? T' = none → Ext (e :: tbs tb ++ fr (env :: outer)) s.heap h' → Exc h' e c a0 ctx (some (T', .none)) →
      if b then wpAny (model prog w) (A.mark (some (.ref e))) (execs (b₀ :: suite) env) Q (NB (model prog w) A env e E) { s with heap := h' } else wpAny (model prog w) A (handleBy (.ref e) env rest) Q E { s with heap := h' })
    (hk : env.scope.kind = .function := by rfl) (hgl : env.globals = mainGlobals := by rfl) (hbu : env.builtins = builtinsNs := by rfl) (hx : env.kindOf x = some .globalImplicit := by rfl) (hdb : (x == ("__debug__" : Str)) = false := by decide) :
    wpAny (model prog w) A (noteFrame (.ref e) env) (fun _ s₂ => wpAny (model prog w) A (setFlight (.ref e) none) (fun _ s₃ =>
      wpAny (model prog w) A (handleBy (.ref e) env (.ExceptHandler (some (.Name x np)) none (b₀ :: suite) pos :: rest)) Q E s₃) E s₂) E s := by
  refine note hfr hl hf he hq fun h₁ T₁ hT₁ x₁ e₁ => ?_
  refine flight e₁ fun h₂ x₂ e₂ => ?_
  have x₁₂ : Ext (e :: tbs tb ++ fr (env :: outer)) s.heap h₂ := x₁.trans x₂ fun a ha => .inr (List.mem_singleton.mp ha ▸ hT₁)
  have hB₂ : B.StaysIn h₂ := x₁₂.base hB hoff
  refine handle (name_b (s := { s with heap := h₂ }) G hB₂ hn hv hne ?_ hk hgl hbu hx hdb)
  obtain ⟨o, ho, hc⟩ := e₂.there
  refine matches1 (s := { s with heap := h₂ }) C ho hB₂ (hc ▸ hs) ?_
  have kk := k h₂ T₁ hT₁ x₁₂ e₂
  cases b with
  | false => simpa using kk
  | true =>
    simp only [if_true]
    refine flight (s := { s with heap := h₂ }) e₂ fun h₃ x₃ e₃ => ?_
    have := k h₃ T₁ hT₁ (x₁₂.trans x₃ fun a ha => .inr (List.mem_singleton.mp ha ▸ hT₁)) e₃
    simpa using this
end
end Kq
end
section
open PySem PySem.W PySem.Spec PySem.Calls PyProof.Rows
open Builtin Builtin.ObjectAttr
set_option maxRecDepth 100000
namespace Kq
abbrev bmV : List Value := [.type "ValueError", .type "Exception", .type "BaseException", .type "object"]
abbrev seObj : Obj := excClassObj "StatisticsError" "StatisticsError" 52 51 [.type "ValueError"] bmV true [] [] false none none (some (.ref 43)) none (some (.str "StatisticsError" 378)) (some (.str "StatisticsError" 386)) (some (.bool true)) "ValueError.__new__"
theorem ns_none {K : Frag} {h : Heap} {a : Addr} {m : Str → Option Value} {n : Str} (X : K.In h) (hn : h.Ns a m) (e : nsIn K a n = some none) : m n = none := by
  obtain ⟨o, es, ep, ho, hd, _, hf⟩ := hn
  unfold nsIn at e
  split at e
  · rename_i c d es' n' sl hl
    have := X _ _ hl
    rw [ho] at this; cases this; cases hd
    rw [← hf n]
    split at e
    · cases e
    · rename_i hq
      unfold nsFind findBy
      rw [← Array.find?_toList, hq]; rfl
  · cases e
def attrNames : List Str := ["is_finite", "as_integer_ratio", "numerator", "denominator", "__getattribute__", "__getattr__", "__setattr__", "__init__", "args", "__float__", "__index__"]
variable {prog : Program} {w : World} {A : Around} {E : Value → Shared → Prop} {B : Heap} {mg mb : Str → Option Value}
theorem se_cls (G : G0 w B mg mb) : B.get? 52 = some seObj := G.X 52 _ rfl
theorem se_ns (G : G0 w B mg mb) : ∃ mN, B.Ns 51 mN ∧ ∀ x ∈ attrNames, mN x = none := by
  have h51 := G.X 51 _ rfl
  have hns : B.Ns 51 (nsFind _) := ⟨_, _, _, h51, rfl, fun e he => by
    simp only [List.mem_toArray, List.mem_cons, List.not_mem_nil, or_false] at he
    rcases he with rfl | rfl | rfl | rfl | rfl <;> exact ⟨_, _, rfl⟩, fun _ => rfl⟩
  refine ⟨_, hns, fun x hx => ?_⟩
  simp only [attrNames, List.mem_cons, List.not_mem_nil, or_false] at hx
  rcases hx with rfl | rfl | rfl | rfl | rfl | rfl | rfl | rfl | rfl | rfl | rfl <;> exact ns_none G.X hns rfl
theorem mro_VE : mroOf (.type "ValueError") = pure bmV := by kernel_rfl
theorem ve_attr : ExcAttrBase "ValueError" bmV where
  toExcAttrFacts := F.excAttr_ValueError
  mro := mro_VE
  noGetattr := by rw [typeLookup_type, builtinLookup_eq_fast]; kernel_rfl
  hasBase := by decide +kernel
structure NoName (x : Str) : Prop where
  ve : typeLookup (.type "ValueError") x = pure none
  mem : x ∈ attrNames
  plain : (["__module__", "__name__", "__qualname__", "__doc__", "__annotations__"] : List Str).contains x = false
  short : x.length ≤ 100
theorem no_is_finite : NoName "is_finite" := ⟨by rw [typeLookup_type, builtinLookup_eq_fast]; kernel_rfl, by decide +kernel, by decide +kernel, by decide +kernel⟩
theorem no_as_integer_ratio : NoName "as_integer_ratio" := ⟨by rw [typeLookup_type, builtinLookup_eq_fast]; kernel_rfl, by decide +kernel, by decide +kernel, by decide +kernel⟩
theorem no_numerator : NoName "numerator" := ⟨by rw [typeLookup_type, builtinLookup_eq_fast]; kernel_rfl, by decide +kernel, by decide +kernel, by decide +kernel⟩
theorem no_denominator : NoName "denominator" := ⟨by rw [typeLookup_type, builtinLookup_eq_fast]; kernel_rfl, by decide +kernel, by decide +kernel, by decide +kernel⟩
section
variable {s : Shared} {α : Type}
theorem attr_error {o : Value} {name : Str} {msg : Str} {Q : α → Shared → Prop}
    (h : ∀ h' tk e, Heap.NewAttrErr s.heap h' e o name → s.heap.objs.size ≤ e → wpAny (model prog w) A (raiseNew (.ref e) : Sem α) Q E { s with heap := h', toks := tk }) (hm : msg.length ≤ sizeLine := by size_fits) :
    wpAny (model prog w) A (raiseAttrError o name msg : Sem α) Q E s := by
  unfold raiseAttrError
  refine wpAny_bind (wpAny_mkStr (wpAny_bind ?_) hm)
  unfold newExc newTuple
  refine wpAny_bind (wpAny_newObj_type ?_ (by size_fits))
  refine wpAny_bind (m := firstArgMember _ _) (wpAny_of_eq (a := Value.none) (by simp only [firstArgMember, attrError_no_first]; rfl) ?_)
  rw [ownMembersOf_AttributeError]
  refine wpAny_newObj_type ?_ (by size_fits)
  obtain ⟨hp, g, d, tk, os⟩ := s
  have f1 := sub_AttributeError
  repeat (any_goals (first | assumption | wp_step))
  refine h _ _ _ ⟨fun b ob hb => ?_, Heap.get?_none_of_le (by simp), ?_⟩ (by simp)
  · have hlt : b < hp.objs.size := Heap.lt_size hb
    refine (Heap.get?_update_other _ _ ?_).trans (Heap.get?_push_of_some _ (Heap.get?_push_of_some _ hb))
    simp only [Heap.size_push]
    exact Nat.ne_of_gt (Nat.lt_succ_of_lt hlt)
  · exact ⟨_, _, Heap.get?_update_self _ (Heap.get?_push_size _ rfl) rfl⟩
end
section
variable {h : Heap} {g : Array GenState} {d : Drawn} {t : Nat} {os : OsState} {x : Addr} {mA : Str → Option Value} {name : Str}
theorem get_entry_hit {tk : Tok} {v : Value} {Q : Fin → Shared → Prop} (G : G0 w B mg mb) (hB : B.StaysIn h) (N : NoName name) (I : h.Inst x 52 mA) (hv : mA name = some v) (hq : Q (.done (.ret v)) ⟨h, g, d, t, os⟩) :
    wpAny (model prog w) A (Builtin.«object.__getattribute__» ⟨[.ref x, .str name tk], []⟩) Q E ⟨h, g, d, t, os⟩ := by
  have hC := hB _ _ (se_cls G)
  obtain ⟨mN, hn0, hmN⟩ := se_ns G
  have hn := hn0.keeps hB
  have hna := hmN name N.mem
  have hve := N.ve
  obtain ⟨o, hx, hc, hnc, hd⟩ := I
  rcases hd with ⟨_, hmA⟩ | ⟨dx, hdx, hne, hns⟩
  · rw [hmA name] at hv; cases hv
  unfold Builtin.«object.__getattribute__»
  repeat (first | (with_reducible refine wpAny_loadPart_at hx ?_; rw [hc]) | (with_reducible refine wpAny_typeLookup_exc hC hn mro_VE hve ?_; rw [hna]) | wp_step)
  split
  · rename_i c hcd
    exact absurd hcd (hnc c)
  unfold instanceDict
  repeat (first | (with_reducible refine wpAny_loadPart_at hx ?_; rw [hc]) | with_reducible refine wpAny_loadPart_at hC ?_ | wp_step)
  rw [hdx]
  repeat (first | (with_reducible refine wpAny_nsGet hns.ns ?_; rw [hv]) | wp_step)
  exact hq
end
end Kq
end
section
open PySem PySem.W PySem.Spec PySem.Calls PyProof.Rows
open Builtin Builtin.ObjectAttr
set_option maxRecDepth 100000
namespace Kq
variable {prog : Program} {w : World} {A : Around} {E : Value → Shared → Prop} {B : Heap} {mg mb : Str → Option Value}
section
variable {h : Heap} {g : Array GenState} {d : Drawn} {t : Nat} {os : OsState} {x : Addr} {mA : Str → Option Value} {name : Str}
theorem name_cut {Q : String → Shared → Prop} {M : Model} (hC : h.get? 52 = some seObj) (hx : ∃ o, h.get? x = some o ∧ o.cls = .ref 52) (hq : Q "StatisticsError" ⟨h, g, d, t, os⟩) :
    wpAny M A (typeNameOfCut 100 (.ref x)) Q E ⟨h, g, d, t, os⟩ := by
  obtain ⟨o, hx, hc⟩ := hx
  have e1 : (Str.ofString "StatisticsError").toString = "StatisticsError" := by decide +kernel
  unfold typeNameOfCut shownTypeOf
  repeat (first | (with_reducible refine wpAny_loadPart_at hx ?_; rw [hc]) | wp_step)
  show Q (Str.ofString "StatisticsError").toString _
  rw [e1]; exact hq
theorem get_entry_miss {tk : Tok} {Q : Fin → Shared → Prop} (G : G0 w B mg mb) (hB : B.StaysIn h) (N : NoName name) (I : h.Inst x 52 mA) (hv : mA name = none)
    (hq : ∀ h' tk e, Heap.NewAttrErr h h' e (.ref x) name → h.objs.size ≤ e → wpAny (model prog w) A (raiseNew (.ref e) : Sem Fin) Q E ⟨h', g, d, tk, os⟩) :
    wpAny (model prog w) A (Builtin.«object.__getattribute__» ⟨[.ref x, .str name tk], []⟩) Q E ⟨h, g, d, t, os⟩ := by
  have hC := hB _ _ (se_cls G)
  obtain ⟨mN, hn0, hmN⟩ := se_ns G
  have hn := hn0.keeps hB
  have hna := hmN name N.mem
  have hve := N.ve
  have hpl := N.plain
  have hsh := N.short
  obtain ⟨o, hx, hc, hnc, hd⟩ := I
  have last : wpAny (model prog w) A (noSuchAttribute (.ref x) name : Sem Fin) Q E ⟨h, g, d, t, os⟩ := by
    unfold noSuchAttribute
    refine wpAny_bind (name_cut hC ⟨o, hx, hc⟩ ?_)
    exact attr_error hq (attrMsg_fits (by decide +kernel) (by rw [sizeLine_eq]; omega))
  unfold Builtin.«object.__getattribute__»
  repeat (first | (with_reducible refine wpAny_loadPart_at hx ?_; rw [hc]) | (with_reducible refine wpAny_typeLookup_exc hC hn mro_VE hve ?_; rw [hna]) | wp_step)
  split
  · rename_i c hcd
    exact absurd hcd (hnc c)
  unfold instanceDict
  repeat (first | (with_reducible refine wpAny_loadPart_at hx ?_; rw [hc]) | with_reducible refine wpAny_loadPart_at hC ?_ | wp_step)
  rcases hd with ⟨hdn, _⟩ | ⟨dx, hdx, hne, hns⟩
  · rw [hdn]
    repeat (first | exact last | (simp only [hpl, Bool.false_eq_true, if_false]) | wp_step)
  · rw [hdx]
    repeat (first | exact last | (with_reducible refine wpAny_nsGet hns.ns ?_; rw [hv]) | (simp only [hpl, Bool.false_eq_true, if_false]) | wp_step)
theorem get_call_hit {tk : Tok} {v : Value} {R : Result → Shared → Prop} (G : G0 w B mg mb) (hB : B.StaysIn h) (N : NoName name) (I : h.Inst x 52 mA) (hv : mA name = some v) (hq : R (.ok (.ret v)) ⟨h, g, d, t, os⟩) :
    codeAny (model prog w) A (.call (.builtin "BaseException.__getattribute__") ⟨[.ref x, .str name tk], []⟩) R ⟨h, g, d, t, os⟩ := by
  obtain ⟨o, hx, hc, _⟩ := id I
  exact codeAny_call_builtin ve_attr.ga.plain F.entry_bexc_ga (wpAny_check_ga_own ve_attr (hB _ _ (se_cls G)) .base hx hc (get_entry_hit G hB N I hv hq))
theorem get_call_miss {tk : Tok} {R : Result → Shared → Prop} (G : G0 w B mg mb) (hB : B.StaysIn h) (N : NoName name) (I : h.Inst x 52 mA) (hv : mA name = none)
    (hq : ∀ h' tk e, Heap.NewAttrErr h h' e (.ref x) name → h.objs.size ≤ e → ∀ Q : Fin → Shared → Prop, wpAny (model prog w) A.in1 (raiseNew (.ref e) : Sem Fin) Q (fun e s' => R (.error e) s') ⟨h', g, d, tk, os⟩) :
    codeAny (model prog w) A (.call (.builtin "BaseException.__getattribute__") ⟨[.ref x, .str name tk], []⟩) R ⟨h, g, d, t, os⟩ := by
  obtain ⟨o, hx, hc, _⟩ := id I
  exact codeAny_call_builtin ve_attr.ga.plain F.entry_bexc_ga (wpAny_check_ga_own ve_attr (hB _ _ (se_cls G)) .base hx hc (get_entry_miss G hB N I hv fun h' tk e hx hsz => hq h' tk e hx hsz _))
theorem get_hit {a : Addr} {expr : Bool} {Q : Value → Shared → Prop} (G : G0 w B mg mb) (hB : B.StaysIn h) (N : NoName name) (I : h.Inst x 52 mA) (hv : mA name = some (.ref a)) (hq : Q (.ref a) ⟨h, g, d, t + 1, os⟩) :
    wpAny (model prog w) A (getAttr (.ref x) name expr) Q E ⟨h, g, d, t, os⟩ := by
  have hC := hB _ _ (se_cls G)
  obtain ⟨mN, hn0, hmN⟩ := se_ns G
  have hn := hn0.keeps hB
  have hm1 := hmN "__getattribute__" (by decide +kernel)
  have hm2 := hmN "__getattr__" (by decide +kernel)
  have f3 := ve_attr.ga.bind (.ref x)
  have hx0 : (expr && onTheHeap (Value.builtin "BaseException.__getattribute__")) = false := by cases expr <;> rfl
  have hx2 : (Value.builtin "BaseException.__getattribute__" == Value.builtin "object.__getattribute__") = false := by decide +kernel
  have hx1 : (onTheHeap (Value.ref 52) && Value.builtin "BaseException.__getattribute__" == Value.builtin "object.__getattribute__") = false := by rw [hx2]; rfl
  obtain ⟨o, hx, hc, _⟩ := id I
  unfold getAttr getAttrBy
  repeat (any_goals (first | assumption | (with_reducible refine wpAny_loadPart_at hx ?_; rw [hc]) | (with_reducible refine wpAny_typeLookup_exc hC hn mro_VE ve_attr.ga.lookup ?_; rw [hm1]) | (with_reducible refine wpAny_typeLookup_exc hC hn mro_VE ve_attr.noGetattr ?_; rw [hm2]) | wp_step))
  refine get_call_hit G hB N I hv ?_
  repeat (any_goals (first | assumption | wp_step))
theorem get_miss {expr : Bool} {Q : Value → Shared → Prop} (G : G0 w B mg mb) (hB : B.StaysIn h) (N : NoName name) (I : h.Inst x 52 mA) (hv : mA name = none)
    (hq : ∀ h' tk e, Heap.NewAttrErr h h' e (.ref x) name → h.objs.size ≤ e → ∀ (Q : Fin → Shared → Prop), wpAny (model prog w) A.in1 (raiseNew (.ref e) : Sem Fin) Q
      (fun v s' => v = .ref e ∧ (∃ o ws, s'.heap.get? e = some o ∧ o.cls = .type "AttributeError" ∧ o.data = .fields ws ∧ (∃ n u, ws[6]? = some (.str n u))) ∧ E (.ref e) s') ⟨h', g, d, tk, os⟩) :
    wpAny (model prog w) A (getAttr (.ref x) name expr) Q E ⟨h, g, d, t, os⟩ := by
  have hC := hB _ _ (se_cls G)
  obtain ⟨mN, hn0, hmN⟩ := se_ns G
  have hn := hn0.keeps hB
  have hm1 := hmN "__getattribute__" (by decide +kernel)
  have hm2 := hmN "__getattr__" (by decide +kernel)
  have f3 := ve_attr.ga.bind (.ref x)
  have f1 := sub_AttributeError
  have hx0 : (expr && onTheHeap (Value.builtin "BaseException.__getattribute__")) = false := by cases expr <;> rfl
  have hx2 : (Value.builtin "BaseException.__getattribute__" == Value.builtin "object.__getattribute__") = false := by decide +kernel
  have hx1 : (onTheHeap (Value.ref 52) && Value.builtin "BaseException.__getattribute__" == Value.builtin "object.__getattribute__") = false := by rw [hx2]; rfl
  obtain ⟨o, hx, hc, _⟩ := id I
  unfold getAttr getAttrBy
  repeat (any_goals (first | assumption | (with_reducible refine wpAny_loadPart_at hx ?_; rw [hc]) | (with_reducible refine wpAny_typeLookup_exc hC hn mro_VE ve_attr.ga.lookup ?_; rw [hm1]) | (with_reducible refine wpAny_typeLookup_exc hC hn mro_VE ve_attr.noGetattr ?_; rw [hm2]) | wp_step))
  refine get_call_miss G hB N I hv fun h' tk' e hx' hsz Q' => ?_
  refine wpAny_mono (hq h' tk' e hx' hsz Q') (fun _ _ z => z) fun v s' hv' => ?_
  obtain ⟨rfl, ⟨oe, ws, ho, hoc, hod, nm, u, h6⟩, hE⟩ := hv'
  obtain ⟨hp, g', d', t', os'⟩ := s'
  show wpAny _ _ (getattributeRaised _ _ _ _ _ _ _) _ _ _
  unfold getattributeRaised
  refine wpAny_bind (wpAny_isInstance (T := "AttributeError") ⟨oe, ho, hoc⟩ sub_AttributeError ?_)
  simp only [if_true]
  unfold hookBehind
  simp only [onTheHeap, if_true]
  refine wpAny_bind (wpAny_pure ?_)
  unfold hookOrError attributeErrorLeaves
  have given : ∀ {Q' : Bool → Shared → Prop} {E' : Value → Shared → Prop}, Q' false ⟨hp, g', d', t', os'⟩ → wpAny (model prog w) A (lacksNameAndObj (.ref e)) Q' E' ⟨hp, g', d', t', os'⟩ := fun hq' => by
    unfold lacksNameAndObj
    refine wpAny_bind (wpAny_isInstance (T := "AttributeError") ⟨oe, ho, hoc⟩ sub_AttributeError ?_)
    simp only [Bool.not_true, Bool.false_eq_true, if_false]
    refine wpAny_bind (wpAny_load ho ?_)
    rw [hod]
    simp only [h6, Bool.true_or, if_true]
    exact wpAny_pure hq'
  have noted : wpAny (model prog w) A (do noteAttr (.ref e) (.ref x) (.str name t); (throw (.ref e) : Sem Value)) Q E ⟨hp, g', d', t', os'⟩ := by
    refine wpAny_bind ?_
    unfold noteAttr
    refine wpAny_bind (given ?_)
    simp only [Bool.false_eq_true, if_false]
    exact wpAny_pure (wpAny_throw hE)
  cases expr with
  | true =>
    simp only [Bool.not_true, Bool.false_eq_true, if_false, if_true]
    refine wpAny_bind (given ?_)
    simp only [Bool.false_eq_true, if_false]
    exact noted
  | false =>
    simp only [Bool.not_true, Bool.false_eq_true, if_false]
    exact noted
end
end Kq
end
section
open PySem PySem.W PySem.Spec PySem.Calls PyProof.Rows
open Builtin Builtin.ObjectAttr
set_option maxRecDepth 100000
namespace Kq
variable {prog : Program} {w : World} {A : Around} {E : Value → Shared → Prop} {B : Heap} {mg mb : Str → Option Value} {s : Shared}
theorem miss {x : Addr} {mA : Str → Option Value} {name : Str} {expr : Bool} {Q : Value → Shared → Prop} (G : G0 w B mg mb) (hB : B.StaysIn s.heap) (N : NoName name) (I : s.heap.Inst x 52 mA) (hv : mA name = none) (hh : Hd A s.heap)
    (h : ∀ h' tk e a0, s.heap.get? e = none → Ext [] s.heap h' → Exc h' e (.type "AttributeError") a0 (ctxOf A) none → E (.ref e) { s with heap := h', toks := tk }) :
    wpAny (model prog w) A (getAttr (.ref x) name expr) Q E s := by
  obtain ⟨hp, g, d, t, os⟩ := s
  refine get_miss G hB N I hv fun h' tk e hx hsz Q' => ?_
  obtain ⟨a0, u, he⟩ := hx.there
  have k0 : Ext [] hp h' := Ext.of hx.keeps
  have e0 : Exc h' e (.type "AttributeError") a0 .none none := ⟨_, _, he, rfl, rfl, rfl, rfl, rfl⟩
  refine raise_new (A := A.in1) (h₀ := hp) hh (none_of_ge hsz) k0 e0 fun h₂ x₂ e₂ m₂ => ?_
  obtain ⟨v, hm⟩ := m₂ _ he
  exact ⟨rfl, ⟨_, _, hm, rfl, rfl, name, u, rfl⟩, h h₂ tk e a0 (none_of_ge hsz) x₂ e₂⟩
theorem canon_ga : (Manifest.canonical "BaseException.__getattribute__" != "object.__getattribute__") = false := by decide +kernel
theorem meth {x : Addr} {mA : Str → Option Value} {name : Str} {pl : Sem Bool} {Q : Value × List Value → Shared → Prop} (G : G0 w B mg mb) (hB : B.StaysIn s.heap) (N : NoName name) (I : s.heap.Inst x 52 mA)
    (h : wpAny (model prog w) A (getAttr (.ref x) name) (fun v s' => Q (v, []) s') E s) :
    wpAny (model prog w) A (getMethod (.ref x) name pl) Q E s := by
  have hC := hB _ _ (se_cls G)
  obtain ⟨mN, hn0, hmN⟩ := se_ns G
  have hn := hn0.keeps hB
  have hm1 := hmN "__getattribute__" (by decide +kernel)
  have hm2 := hmN "__getattr__" (by decide +kernel)
  have hm3 := hmN name N.mem
  have hve := N.ve
  have hcan := canon_ga
  obtain ⟨o, hx, hc, _⟩ := id I
  obtain ⟨hp, g, d, t, os⟩ := s
  unfold getMethod specialOf
  repeat (any_goals (first | assumption | (with_reducible refine wpAny_loadPart_at hx ?_; rw [hc]) | (with_reducible refine wpAny_typeLookup_exc hC hn mro_VE ve_attr.ga.lookup ?_; rw [hm1]) | (with_reducible refine wpAny_typeLookup_exc hC hn mro_VE ve_attr.noGetattr ?_; rw [hm2]) | (with_reducible refine wpAny_typeLookup_exc hC hn mro_VE hve ?_; rw [hm3]) | (simp only [hcan, Bool.false_eq_true, if_false]) | (with_reducible refine wpAny_mono h (fun v s' hv => ?_) fun _ _ z => z) | wp_step))
theorem meth_hit {x f : Addr} {mA : Str → Option Value} {name : Str} {pl : Sem Bool} {Q : Value × List Value → Shared → Prop} (G : G0 w B mg mb) (hB : B.StaysIn s.heap) (N : NoName name) (I : s.heap.Inst x 52 mA) (hv : mA name = some (.ref f))
    (h : Q (.ref f, []) { s with toks := s.toks + 1 }) : wpAny (model prog w) A (getMethod (.ref x) name pl) Q E s :=
  meth G hB N I (by obtain ⟨hp, g, d, t, os⟩ := s; exact get_hit G hB N I hv h)
theorem meth_miss {x : Addr} {mA : Str → Option Value} {name : Str} {pl : Sem Bool} {Q : Value × List Value → Shared → Prop} (G : G0 w B mg mb) (hB : B.StaysIn s.heap) (N : NoName name) (I : s.heap.Inst x 52 mA) (hv : mA name = none) (hh : Hd A s.heap)
    (h : ∀ h' tk e a0, s.heap.get? e = none → Ext [] s.heap h' → Exc h' e (.type "AttributeError") a0 (ctxOf A) none → E (.ref e) { s with heap := h', toks := tk }) :
    wpAny (model prog w) A (getMethod (.ref x) name pl) Q E s := meth G hB N I (miss G hB N I hv hh h)
theorem defcall {a : Addr} {o : Obj} {fd : FuncData} {body : List Stmt} {args : Args} {binds : List (Str × Value)} {outer : List Env} {R : Result → Shared → Prop}
    (G : G0 w B mg mb) (hB : B.StaysIn s.heap) (hroom : A.depth < recursionLimit) (hfr : A.frames = some outer) (hl : Frs s.heap outer)
    (ho : s.heap.get? a = some o) (hdata : o.data = .func fd) (hcd : s.heap.CodeRec fd.code fd.qualname)
    (hbody : fd.body = .stmts body) (hbind : bindArgs fd args = pure binds) (hcell : ∀ x ∈ fd.scope.names, x.2 ≠ .cell) (hloc : ∀ x ∈ binds, fd.scope.names.lookup x.1 = some .local)
    (h : ∀ h₀, h₀.Ns s.heap.objs.size (fun x => binds.reverse.lookup x) → Ext [] s.heap h₀ → Frs h₀ (callEnv fd s.heap.objs.size a :: outer) → (A.deeper (callEnv fd s.heap.objs.size a)).frames = some (callEnv fd s.heap.objs.size a :: outer) →
      wpAny (model prog w) (A.deeper (callEnv fd s.heap.objs.size a)) (execs body (callEnv fd s.heap.objs.size a)) (fun f s' => R (.ok (.ret (match f with | .ret v => v | _ => .none))) s')
        (fun e s' => wpAny (model prog w) (A.deeper (callEnv fd s.heap.objs.size a)) (leaving (callEnv fd s.heap.objs.size a) e) (fun _ s'' => R (.error e) s'') (fun e' s'' => R (.error e') s'') s')
        { s with heap := h₀, toks := s.toks + binds.length })
    (hco : fd.scope.isCoroutine = false := by rfl) (hgen : fd.scope.isGenerator = false := by rfl) (hk : fd.scope.kind = .function := by rfl) :
    codeAny (model prog w) A (.call (.ref a) args) R s := by
  refine codeAny_call_def hroom ho hdata (G.nolimit.keeps hB) hcd hbody (.of_eq hbind) hcell hloc (fun h₀ hns hk₀ => ?_) hco hgen hk
  have x₀ : Ext [] s.heap h₀ := .of hk₀
  refine h h₀ hns x₀ ?_ (Around.frames_deeper hfr)
  exact .cons (by show fd.scope.kind ≠ .module; rw [hk]; decide) rfl hns (empty_get _) (x₀.frs hl)
end Kq
end
section
open PySem PySem.W PySem.Spec PySem.Calls PyProof.Rows
open Builtin Builtin.ObjectAttr
set_option maxRecDepth 100000
namespace Kq
variable {prog : Program} {w : World} {A : Around} {E : Value → Shared → Prop} {B : Heap} {mg mb : Str → Option Value} {s : Shared}
theorem made_exc {h h' : Heap} {e : Addr} {c : String} {args : List Value} (x : Heap.MadeExc h h' e c args) : Ext [] h h' ∧ ∃ t, Exc h' e (.type c) (.ref t) .none none ∧ h.get? t = none ∧ h'.get? t = some { cls := .type "tuple", data := .seq args.toArray } := by
  obtain ⟨t, he, ht, ht'⟩ := x.there
  exact ⟨.of x.keeps, t, ⟨_, _, he, rfl, rfl, rfl, rfl, rfl⟩, ht, ht'⟩
theorem error_made {α : Type} {c msg : String} {Q : α → Shared → Prop} (hp : PlainExc c) (hh : Hd A s.heap) (hm : (msg : Str).length ≤ sizeLine)
    (h : ∀ h' tk e a0, s.heap.get? e = none → Ext [] s.heap h' → Exc h' e (.type c) a0 (ctxOf A) none → E (.ref e) { s with heap := h', toks := tk }) :
    wpAny (model prog w) A (raiseErrorMade c msg : Sem α) Q E s := by
  unfold raiseErrorMade
  refine wpAny_bind (wpAny_mkStr (wpAny_bind ?_) hm)
  refine wpAny_newExc_plain hp fun h' e hx => ?_
  obtain ⟨k, t, he, _, _⟩ := made_exc hx
  exact raise_new (h₀ := s.heap) hh hx.new k he fun h₂ x₂ e₂ _ => h h₂ _ e (.ref t) hx.new x₂ e₂
theorem name_cut50 {h : Heap} {g : Array GenState} {d : Drawn} {t : Nat} {os : OsState} {x : Addr} {Q : String → Shared → Prop} {M : Model} (hC : h.get? 52 = some seObj) (hx : ∃ o, h.get? x = some o ∧ o.cls = .ref 52) (hq : Q "StatisticsError" ⟨h, g, d, t, os⟩) :
    wpAny M A (typeNameOfCut 50 (.ref x)) Q E ⟨h, g, d, t, os⟩ := by
  obtain ⟨o, hx, hc⟩ := hx
  have e1 : (Str.ofString "StatisticsError").toString = "StatisticsError" := by decide +kernel
  unfold typeNameOfCut shownTypeOf
  repeat (first | (with_reducible refine wpAny_loadPart_at hx ?_; rw [hc]) | wp_step)
  show Q (Str.ofString "StatisticsError").toString _
  rw [e1]; exact hq
theorem lk_VE_float : typeLookup (.type "ValueError") "__float__" = pure none := by rw [typeLookup_type, builtinLookup_eq_fast]; kernel_rfl
theorem lk_VE_index : typeLookup (.type "ValueError") "__index__" = pure none := by rw [typeLookup_type, builtinLookup_eq_fast]; kernel_rfl
theorem isfinite_of {x : Addr} {o : Obj} {vs : Array Value} {Q : Value → Shared → Prop} (G : G0 w B mg mb) (hB : B.StaysIn s.heap) (hx : s.heap.get? x = some o) (hc : o.cls = .ref 52) (hd : o.data = .fields vs) (hh : Hd A s.heap)
    (h : ∀ h' tk e a0, s.heap.get? e = none → Ext [] s.heap h' → Exc h' e (.type "TypeError") a0 (ctxOf A) none → E (.ref e) { s with heap := h', toks := tk }) :
    wpAny (model prog w) A (call (.builtin "math.isfinite") [.ref x]) Q E s := by
  have hC := hB _ _ (se_cls G)
  obtain ⟨mN, hn0, hmN⟩ := se_ns G
  have hn := hn0.keeps hB
  have hm1 := hmN "__float__" (by decide +kernel)
  have hm2 := hmN "__index__" (by decide +kernel)
  refine call_function_entry PySem.Flt.kind_isfinite PySem.Flt.plain_isfinite PySem.Flt.entry_isfinite (PySem.Flt.args_isfinite _) ?_
  obtain ⟨hp, g, d, t, os⟩ := s
  unfold Builtin.«math.isfinite»
  repeat (first | (with_reducible refine wpAny_load hx ?_) | (with_reducible refine wpAny_loadPart_at hx ?_; rw [hc]) | (with_reducible refine wpAny_typeLookup_exc hC hn mro_VE lk_VE_float ?_; rw [hm1]) | (with_reducible refine wpAny_typeLookup_exc hC hn mro_VE lk_VE_index ?_; rw [hm2]) | wp_step)
  rw [hd]
  repeat (first | (with_reducible refine wpAny_loadPart_at hx ?_; rw [hc]) | (with_reducible refine wpAny_typeLookup_exc hC hn mro_VE lk_VE_float ?_; rw [hm1]) | (with_reducible refine wpAny_typeLookup_exc hC hn mro_VE lk_VE_index ?_; rw [hm2]) | (with_reducible refine name_cut50 hC ⟨o, hx, hc⟩ ?_) | wp_step)
  exact error_made (A := A.in1) plainExc_TypeError hh (by decide +kernel) h
end Kq
end
section
open PySem PySem.W PySem.Spec PySem.Calls PyProof.Rows
open Builtin Builtin.ObjectAttr
set_option maxRecDepth 100000
namespace Kq
variable {prog : Program} {w : World} {A : Around} {E : Value → Shared → Prop} {B : Heap} {mg mb : Str → Option Value} {s : Shared}
abbrev pNone : Arguments := { posonlyargs := [], args := [], vararg := none, kwonlyargs := [], kw_defaults := [], kwarg := none, defaults := [] }
abbrev sFree (n : Str) : Scope := { kind := .function, names := [(n, .free)], isGenerator := false, isCoroutine := false }
structure FreeName (n : Str) : Prop where
  debug : (n == ("__debug__" : Str)) = false
  classdict : (n == ("__classdict__" : Str)) = false
def Lam (B : Heap) (f : Addr) (v : Value) : Prop :=
  ∃ o nm qual n pos cc pm cdv ct, B.get? f = some o ∧ o.data = .func (kla_fn nm qual pNone (.Name n pos) (sFree n) [(n, cc)] pm cdv ct) ∧ B.CodeRec cdv qual ∧ B.IsCell cc (some v) ∧ FreeName n
def Ask (B : Heap) (f er : Addr) : Prop :=
  ∃ o nm qual n np pos cc doc pm cdv ct, B.get? f = some o ∧ o.data = .func (fnX nm qual pNone [.Raise (some (.Name n np)) none pos] (sFree n) [(n, cc)] .none .none doc pm none cdv ct) ∧ B.CodeRec cdv qual ∧ B.IsCell cc (some (.ref er)) ∧ FreeName n
theorem lookup_self (n : Str) (k : NameKind) : List.lookup n [(n, k)] = some k := by simp [List.lookup]
theorem lam_call {f : Addr} {v : Value} {R : Result → Shared → Prop} (G : G0 w B mg mb) (hB : B.StaysIn s.heap) (hroom : A.depth < recursionLimit) (F : Lam B f v)
    (h : ∀ h' tk, Ext [] s.heap h' → R (.ok (.ret v)) { s with heap := h', toks := tk }) : codeAny (model prog w) A (.call (.ref f) ⟨[], []⟩) R s := by
  obtain ⟨o, nm, qual, n, pos, cc, pm, cdv, ct, ho, hd, hcd, hcell, hn⟩ := F
  refine kla_callFunE hroom (hB _ _ ho) hd rfl rfl rfl (hcd.keeps hB) ?_
  show wpAny _ _ (bindArgs (kla_fn nm qual pNone (.Name n pos) (sFree n) [(n, cc)] pm cdv ct) ⟨[], []⟩) _ _ _
  rw [show bindArgs (kla_fn nm qual pNone (.Name n pos) (sFree n) [(n, cc)] pm cdv ct) ⟨[], []⟩ = pure [] from rfl]
  refine wpAny_pure (wpAny_newFunctionEnv (fun x hx => ?_) (fun x hx => nomatch hx) (fun h₁ hns hsb => ⟨(G.nolimit.keeps hB).fresh _ hsb, ?_⟩) rfl)
  · rw [List.mem_singleton.mp hx]; exact fun q => nomatch q
  have k₁ : ∀ b o, s.heap.get? b = some o → h₁.get? b = some o := fun b o e => hsb.extBut b o (Nat.ne_of_lt (Heap.lt_size e)) (Heap.get?_push_of_some _ e)
  refine kla_codeExpr (wpAny_Name (wpAny_loadName_free (c := cc) rfl ?_ ?_ ((hcell.keeps hB).keeps k₁) (h _ _ (.of k₁)) hn.classdict) hn.debug)
  · exact lookup_self n .free
  · show List.lookup n [(n, cc)] = some cc
    simp [List.lookup]
theorem ask_call {f er : Addr} {c a0 ctx : Value} {tb : Option (Addr × Value)} {outer : List Env} {R : Result → Shared → Prop} (G : G0 w B mg mb) (hB : B.StaysIn s.heap) (hroom : A.depth < recursionLimit) (hfr : A.frames = some outer) (hl : Frs s.heap outer) (F : Ask B f er)
    (he : Exc s.heap er c a0 ctx tb) (hq : ∀ p ∈ tb, p.2 = .none) (htb : ∀ b ∈ tbs tb, B.get? b = none) (hP : Plain B c) (hS : Sub B c (.type "BaseException") true)
    (hh : A.handled = none ∨ (tb = none ∧ ∃ y, A.handled = some (.ref y) ∧ y ≠ er ∧ Ends s.heap y er))
    (h : ∀ h' T tk, s.heap.get? T = none → Ext (er :: tbs tb ++ fr outer) s.heap h' → Exc h' er c a0 (A.handled.getD ctx) (some (T, .none)) → R (.error (.ref er)) { s with heap := h', toks := tk }) :
    codeAny (model prog w) A (.call (.ref f) ⟨[], []⟩) R s := by
  obtain ⟨o, nm, qual, n, np, pos, cc, doc, pm, cdv, ct, ho, hd, hcd, hcell, hn⟩ := F
  refine defcall (binds := []) G hB hroom hfr hl (hB _ _ ho) hd (hcd.keeps hB) rfl rfl (fun x hx => ?_) (fun x hx => nomatch hx) fun h₀ hns x₀ hl₀ hfr₀ => ?_
  · rw [List.mem_singleton.mp hx]; exact fun q => nomatch q
  have hB₀ : B.StaysIn h₀ := x₀.base hB (fun b hb => nomatch hb)
  refine wpAny_execs_cons ?_
  rw [arm_exec_Raise]
  refine wpAny_bind (wpAny_standAt ?_)
  refine raise_held (B := B) (wpAny_bind (wpAny_Name (wpAny_loadName_free (c := cc) rfl ?_ ?_ (hcell.keeps hB₀) ?_ hn.classdict) hn.debug))
  · exact lookup_self n .free
  · show List.lookup n [(n, cc)] = some cc
    simp [List.lookup]
  refine wpAny_bind (wpAny_standAt (wpAny_pure ⟨er, c, a0, ctx, tb, rfl, he.keep x₀ (by simp) (by simp), hB₀, hP, hS, htb, fun h₁ x₁ e₁ => ?_⟩))
  have out : ∀ h₂ ctx₂, Ext (er :: tbs tb) h₀ h₂ → ctx₂ = A.handled.getD ctx → Exc h₂ er c a0 ctx₂ (tb.map fun p => (p.1, .none)) →
      wpAny (model prog w) (A.deeper (callEnv (fnX nm qual pNone [.Raise (some (.Name n np)) none pos] (sFree n) [(n, cc)] .none .none doc pm none cdv ct) s.heap.objs.size f))
        (leaving (callEnv (fnX nm qual pNone [.Raise (some (.Name n np)) none pos] (sFree n) [(n, cc)] .none .none doc pm none cdv ct) s.heap.objs.size f) (.ref er)) (fun _ s'' => R (.error (.ref er)) s'') (fun e' s'' => R (.error e') s'')
        { s with heap := h₂, toks := s.toks + 0 } := fun h₂ ctx₂ x₂ ec e₂ => by
    subst ec
    refine leave (L := s.heap.objs.size) hfr₀ (x₂.frs hl₀) rfl e₂ (by intro p hp; cases tb with | none => cases hp | some q => cases hp; rfl) fun h₃ T hT x₃ e₃ => ?_
    have x₀₂ : Ext (er :: tbs tb) s.heap h₂ := (x₀.mono (fun b hb => nomatch hb)).trans x₂ fun b hb => .inl hb
    refine h h₃ T _ (x₀₂.fresh hT) ?_ e₃
    refine (x₀₂.mono (fun b hb => List.mem_append_left _ hb)).trans x₃ fun b hb => ?_
    simp only [List.cons_append, List.mem_cons, List.mem_append] at hb ⊢
    rcases hb with rfl | hb | hb
    · exact .inl (.inl rfl)
    · refine .inl (.inr (.inl ?_))
      cases tb with
      | none => exact hb
      | some q => exact hb
    · rcases List.mem_cons.mp (show b ∈ s.heap.objs.size :: fr outer from hb) with rfl | hb
      · exact .inr (none_of_ge (Nat.le_refl _))
      · exact .inl (.inr (.inr hb))
  rcases hh with hn' | ⟨rfl, y, hy, hne, en⟩
  · refine raise_out hn' (out h₁ ctx (x₁.mono fun b hb => List.mem_cons_of_mem _ hb) (by rw [hn']; rfl) e₁)
  · have en₁ : Ends h₁ y er := by
      obtain ⟨oy, vy, cy, hoy, hdy, h2y, hcy⟩ := en
      refine ⟨oy, vy, cy, x₁.keep _ _ (x₀.keep _ _ hoy (by simp)) (by simp), hdy, h2y, hcy.imp id fun ⟨z, oz, zs, ez, hz, hoz, r⟩ => ⟨z, oz, zs, ez, hz, x₁.keep _ _ (x₀.keep _ _ hoz (by simp)) (by simp), r⟩⟩
    refine raise_in hy hne en₁ e₁ fun h₂ x₂ e₂ _ => ?_
    refine out h₂ (.ref y) ((x₁.mono fun b hb => List.mem_cons_of_mem _ hb).trans x₂ fun b hb => .inl (by rw [List.mem_singleton.mp hb]; exact .head _)) (by rw [hy]; rfl) e₂
end Kq
end
section
open PySem PySem.W PySem.Spec PySem.Calls PyProof.Rows
open Builtin Builtin.ObjectAttr
set_option maxRecDepth 100000
namespace Kq
variable {prog : Program} {w : World} {A : Around} {E : Value → Shared → Prop} {B : Heap} {mg mb : Str → Option Value} {s : Shared}
theorem clause_AE : Clause "AttributeError" := ⟨by rw [isSubtype_type]; kernel_rfl, by rw [isSubtype_type]; kernel_rfl⟩
theorem sub_AE (B : Heap) : Sub B (.type "AttributeError") (.type "AttributeError") true := .type (by rw [isSubtype_type]; kernel_rfl)
theorem sub_AE_base (B : Heap) : Sub B (.type "AttributeError") (.type "BaseException") true := .type (by rw [isSubtype_type]; kernel_rfl)
theorem plain_AE (B : Heap) : Plain B (.type "AttributeError") := .type (by decide +kernel)
theorem call0 {pos : Pos} {f : Addr} {o : Obj} {fd : FuncData} {Q : Value → Shared → Prop} (ho : s.heap.get? f = some o) (hd : o.data = .func fd)
    (h : codeAny (model prog w) A (.call (.ref f) ⟨[], []⟩) (fun r s' => match r with | .ok (.ret v) => Q v s' | .ok _ => False | .error e => E e s') s) :
    wpAny (model prog w) A (callWith pos (.ref f) [] [] []) Q E s :=
  callWith_function (PySem.evalArgs_none ⟨⟨ho, hd⟩, wpAny_call h⟩)
structure Thing (B : Heap) (x : Addr) (mA : Str → Option Value) : Prop where
  inst : B.Inst x 52 mA
  obj : ∃ o vs, B.get? x = some o ∧ o.cls = .ref 52 ∧ o.data = .fields vs
theorem inst_keeps {h h' : Heap} {x C : Addr} {mA : Str → Option Value} (I : h.Inst x C mA) (k : h.StaysIn h') : h'.Inst x C mA := by
  obtain ⟨o, hx, hc, hn, hd⟩ := I
  refine ⟨o, k _ _ hx, hc, hn, hd.imp id fun ⟨d, e, ne, n⟩ => ⟨d, e, ne, n.at fun _ q => k _ _ q⟩⟩
def Tip (h : Heap) (z : Addr) : Prop := ∃ o vs, h.get? z = some o ∧ o.data = .fields vs ∧ vs[2]? = some .none
theorem Tip.keep {X : List Addr} {h h' : Heap} {z : Addr} (t : Tip h z) (x : Ext X h h') (hz : z ∉ X) : Tip h' z :=
  let ⟨o, vs, ho, r⟩ := t; ⟨o, vs, x.keep _ _ ho hz, r⟩
theorem Tip.off_frames {h : Heap} {z : Addr} {l : List Env} (t : Tip h z) (hl : Frs h l) : z ∉ fr l := fun q => by
  obtain ⟨o, vs, ho, hd, _⟩ := t
  obtain ⟨_, o', ho', hn⟩ := hl.mem q
  rw [ho] at ho'; cases ho'; exact hn vs hd
theorem Tip.lt {h : Heap} {z b : Addr} (t : Tip h z) (hb : h.get? b = none) : z ≠ b := fun q => by
  obtain ⟨o, vs, ho, _⟩ := t; rw [q, hb] at ho; cases ho
theorem Exc.tip {h : Heap} {y : Addr} {c a0 : Value} {tb : Option (Addr × Value)} (x : Exc h y c a0 .none tb) : Tip h y :=
  let ⟨o, vs, ho, _, hd, _, h2, _⟩ := x; ⟨o, vs, ho, hd, h2⟩
theorem Tip.short {h : Heap} {y : Addr} (t : Tip h y) : Short h y := let ⟨o, vs, ho, hd, h2⟩ := t; ⟨o, vs, _, ho, hd, h2, .inl rfl⟩
theorem Tip.ends {h : Heap} {y e : Addr} (t : Tip h y) : Ends h y e := let ⟨o, vs, ho, hd, h2⟩ := t; ⟨o, vs, _, ho, hd, h2, .inl rfl⟩
def Hd1 (A : Around) (h : Heap) : Prop := A.handled = none ∨ ∃ y, A.handled = some (.ref y) ∧ Tip h y
theorem Hd1.hd {A : Around} {h : Heap} (x : Hd1 A h) : Hd A h := x.imp id fun ⟨y, e, t⟩ => ⟨y, e, t.short⟩
def Cx (h : Heap) (c : Value) (X : List Addr) : Prop := c = .none ∨ ∃ z, c = .ref z ∧ Tip h z ∧ z ∉ X
theorem Exc.short' {h : Heap} {y : Addr} {c a0 cx : Value} {tb : Option (Addr × Value)} {X : List Addr} (x : Exc h y c a0 cx tb) (k : Cx h cx X) : Short h y := by
  rcases k with rfl | ⟨z, rfl, ⟨o', vs', ho', hd', h2'⟩, _⟩
  · exact x.short
  · obtain ⟨o, vs, ho, _, hd, _, h2, _⟩ := x
    exact ⟨o, vs, _, ho, hd, h2, .inr ⟨z, o', vs', rfl, ho', hd', h2'⟩⟩
theorem Cx.keep {X Y : List Addr} {h h' : Heap} {c : Value} (k : Cx h c X) (x : Ext Y h h') (hY : ∀ z, Tip h z → z ∉ X → z ∉ Y) : Cx h' c [] :=
  k.imp id fun ⟨z, e, t, n⟩ => ⟨z, e, t.keep x (hY z t n), by simp⟩
theorem Exc.over {X : List Addr} {h h' : Heap} {l : List Env} {e : Addr} {c a0 ctx : Value} {tb : Option (Addr × Value)} (x : Exc h e c a0 ctx tb) (k : Ext (X ++ fr l) h h') (hl : Frs h l) (hX : ∀ b ∈ X, h.get? b = none) : Exc h' e c a0 ctx tb := by
  have off : ∀ b o vs, h.get? b = some o → o.data = .fields vs → b ∉ X ++ fr l := fun b o vs ho hd q => by
    rcases List.mem_append.mp q with q | q
    · rw [hX b q] at ho; cases ho
    · obtain ⟨_, o', ho', hn⟩ := hl.mem q
      rw [ho] at ho'; cases ho'; exact hn vs hd
  obtain ⟨o, vs, ho, hc, hd, h0, h2, h1⟩ := id x
  refine x.keep k (off e o vs ho hd) fun b hb => ?_
  cases tb with
  | none => cases hb
  | some p =>
    obtain ⟨_, _, oT, ts, hT, hdT, _⟩ := h1
    rw [List.mem_singleton.mp (show b ∈ [p.1] from hb)]
    exact off _ _ _ hT hdT
structure Act (env : Env) (L : Addr) (A : Around) (outer : List Env) : Prop where
  kind : env.scope.kind = .function
  glob : env.globals = mainGlobals
  blt : env.builtins = builtinsNs
  frame : env.frame = some L
  loc : env.locals = L
  frames : A.frames = some (env :: outer)
section
variable {env : Env} {L : Addr} {outer : List Env} {x f : Addr} {mA m : Str → Option Value} {Q : Flow → Shared → Prop}
theorem name_l {M : Model} {n : Str} {p : Pos} {v : Value} {Q : Value → Shared → Prop} (C : Act env L A outer) (hns : s.heap.Ns L m) (k : env.kindOf n = some .local) (hv : m n = some v) (hq : Q v s) {A' : Around} (hd : (n == ("__debug__" : Str)) = false := by decide) :
    wpAny M A' (eval (.Name n p) env) Q E s := wpAny_Name (wpAny_loadName_local C.kind k (C.loc ▸ hns) hv hq) hd
theorem isfinite_tail {e : Addr} {a0 ctx : Value} {tb : Option (Addr × Value)} {p1 p2 p3 p4 p5 p6 : Pos} (G : G0 w B mg mb) (hB : B.StaysIn s.heap) (C : Act env L A outer) (hl : Frs s.heap (env :: outer)) (hoff : ∀ a ∈ e :: tbs tb ++ fr (env :: outer), B.get? a = none) (T : Thing B x mA)
    (hns : s.heap.Ns L m) (hx : m "x" = some (.ref x)) (kx : env.kindOf "x" = some .local) (kA : env.kindOf "AttributeError" = some .globalImplicit) (kI : env.kindOf "isfinite" = some .globalImplicit)
    (he : Exc s.heap e (.type "AttributeError") a0 ctx tb) (hq : ∀ p ∈ tb, p.2 = .none) (hcx : Cx s.heap ctx (e :: tbs tb))
    (h : ∀ h' tk e' a' c' T', s.heap.get? e' = none → s.heap.get? T' = none → Ext (e :: tbs tb ++ fr (env :: outer)) s.heap h' → Exc h' e' (.type "TypeError") a' c' (some (T', rawInt L)) → (∃ T'', s.heap.get? T'' = none ∧ T'' ≠ T' ∧ T'' ≠ e' ∧ Exc h' e (.type "AttributeError") a0 ctx (some (T'', .none))) → E (.ref e') { s with heap := h', toks := tk }) :
    wpAny (model prog w) A (noteFrame (.ref e) env) (fun _ s₂ => wpAny (model prog w) A (setFlight (.ref e) none) (fun _ s₃ =>
      wpAny (model prog w) A (handleBy (.ref e) env [.ExceptHandler (some (.Name "AttributeError" p1)) none [.Return (some (.Call (.Name "isfinite" p2) [.Name "x" p3] [] p4)) p5] p6]) Q E s₃) E s₂) E s := by
  refine caught (b := true) G hB C.frames hl C.frame he hq hoff rfl rfl (by decide) clause_AE (sub_AE B) (fun h₁ T₁ hT₁ x₁ e₁ => ?_) C.kind C.glob C.blt kA
  simp only [if_true]
  have hB₁ : B.StaysIn h₁ := x₁.base hB hoff
  have sh₁ : Short h₁ e := e₁.short' (hcx.keep x₁ fun z t n => by
    rw [List.mem_append]; exact fun q => q.elim n (t.off_frames hl))
  obtain ⟨o, vs, hox, hc, hd⟩ := T.obj
  refine wpAny_execs_cons (wpAny_Return_some (Call_Name (trees := [(false, eval (.Name "x" p3) env)]) rfl ?_))
  refine name_g (s := { s with heap := h₁ }) G hB₁ rfl ?_ C.kind C.glob kI
  refine callWith_builtin1 (name_l (s := { s with heap := h₁ }) C (x₁.ns hns) kx hx ?_)
  refine isfinite_of (s := { s with heap := h₁ }) G hB₁ (hB₁ _ _ hox) hc hd (.inr ⟨e, rfl, sh₁⟩) fun h₂ tk e' a' hf x₂ e₂ => ?_
  refine in_handler (s := { s with heap := h₂, toks := tk }) C.frames (x₂.frs (x₁.frs hl)) C.frame e₂ (fun p hp => nomatch hp) fun h₃ T₃ hT₃ x₃ e₃ => ?_
  refine h h₃ tk e' a' _ T₃ (x₁.fresh hf) (x₁.fresh (x₂.fresh hT₃)) ?_ e₃ ⟨T₁, hT₁, ?_, ?_, ((e₁.keep x₂ (by simp) (by simp)).keep x₃ ?_ ?_)⟩
  rotate_left
  · intro q
    obtain ⟨_, _, _, _, _, _, _, _, _, oT, ts, hoT, hdT, _⟩ := e₁.keep x₂ (by simp) (by simp)
    rw [show (T₁, Value.none).1 = T₃ from q, hT₃] at hoT; cases hoT
  · intro q
    obtain ⟨_, _, _, _, _, _, _, _, _, oT, ts, hoT, hdT, _⟩ := e₁
    rw [show (T₁, Value.none).1 = e' from q, hf] at hoT; cases hoT
  · intro hb
    rcases List.mem_cons.mp (show e ∈ e' :: fr (env :: outer) from hb) with q | q
    · obtain ⟨o, ho, _⟩ := e₁.there; rw [q, hf] at ho; cases ho
    · exact he.off_frames hl q
  · intro b hb hb'
    have ht := e₁
    obtain ⟨_, _, _, _, _, _, _, _, _, oT, ts, hoT, hdT, _⟩ := ht
    rw [List.mem_singleton.mp (show b ∈ [T₁] from hb)] at hb'
    rcases List.mem_cons.mp (show T₁ ∈ e' :: fr (env :: outer) from hb') with q | q
    · rw [q, hf] at hoT; cases hoT
    · obtain ⟨_, o', ho', hn⟩ := (x₁.frs hl).mem q
      rw [hoT] at ho'; cases ho'; exact hn ts hdT
  refine (x₁.trans x₂ (fun b hb => nomatch hb)).trans x₃ fun b hb => ?_
  simp only [tbs, Option.toList, List.map_nil, List.nil_append, List.cons_append, List.mem_cons] at hb
  rcases hb with rfl | hb
  · exact .inr (x₁.fresh hf)
  · exact .inl (List.mem_append_right _ hb)
theorem call_m {n nm : Str} {p1 p2 p3 : Pos} {Q : Value → Shared → Prop} {M : Model} (hline : (p2.endLine == p3.line) = true) (hb : attributeBase (.Name n p1) nm env (eval (.Name n p1) env) = eval (.Name n p1) env)
    (h : wpAny M A (eval (.Name n p1) env) (fun ov s₁ => ∀ pl, wpAny M A (getMethod ov nm pl) (fun fx s₂ => wpAny M A (callWith p3 fx.1 fx.2 [] []) Q E s₂) E s₁) E s) :
    wpAny M A (eval (.Call (.Attribute (.Name n p1) nm p2) [] [] p3) env) Q E s := by
  rw [arm_eval_Call, hb]
  refine wpAny_bind (wpAny_mono h (fun ov s₁ h₁ => wpAny_bind (wpAny_standAt ?_)) fun _ _ e => e)
  have hform : methodCallForm (([] : List Expr).length + ([] : List Keyword).length) (backTo p3 (starEach [] env)) (backToKw p3 (keywordEach [] env)) = true := rfl
  have hpos : methodCallPos true (.Name n p1) env p2 p3 = pure p3 := by unfold methodCallPos; simp [hline]
  unfold methodCall
  rw [hform]
  refine wpAny_bind (wpAny_holding (wpAny_mono (h₁ _) (fun fx s₂ h₂ => ?_) fun _ _ e => e))
  exact wpAny_bind (wpAny_of_eq hpos h₂)
abbrev tryIsfinite (p1 p2 p3 p4 p5 p6 p7 p8 p9 p10 p11 : Pos) : Stmt :=
  .Try [.Return (some (.Call (.Attribute (.Name "x" p1) "is_finite" p2) [] [] p3)) p4] [.ExceptHandler (some (.Name "AttributeError" p5)) none [.Return (some (.Call (.Name "isfinite" p6) [.Name "x" p7] [] p8)) p9] p10] [] [] p11
section
variable {p1 p2 p3 p4 p5 p6 p7 p8 p9 p10 p11 : Pos} (hline : (p2.endLine == p3.line) = true)
include hline
theorem isfinite_body_lam {v : Value} (G : G0 w B mg mb) (hB : B.StaysIn s.heap) (hroom : A.depth < recursionLimit) (C : Act env L A outer) (T : Thing B x mA)
    (hns : s.heap.Ns L m) (hx : m "x" = some (.ref x)) (kx : env.kindOf "x" = some .local) (hv : mA "is_finite" = some (.ref f)) (F : Lam B f v)
    (h : ∀ h' tk, Ext [] s.heap h' → Q (.ret v) { s with heap := h', toks := tk }) : wpAny (model prog w) A (exec (tryIsfinite p1 p2 p3 p4 p5 p6 p7 p8 p9 p10 p11) env) Q E s := by
  refine wpAny_Try_except (wpAny_execs_cons (wpAny_Return_some (call_m hline rfl (name_l C hns kx hx fun pl => ?_))))
  refine meth_hit G hB no_is_finite (inst_keeps T.inst hB) hv ?_
  obtain ⟨o, nm, qual, n, pos, cc, pm, cdv, ct, ho, hd, _⟩ := id F
  refine call0 (s := { s with toks := s.toks + 1 }) (hB _ _ ho) hd ?_
  exact lam_call (s := { s with toks := s.toks + 1 }) G hB hroom F fun h' tk x₁ => h h' tk x₁
theorem isfinite_body_none (G : G0 w B mg mb) (hB : B.StaysIn s.heap) (C : Act env L A outer) (hl : Frs s.heap (env :: outer)) (hoff : ∀ a ∈ fr (env :: outer), B.get? a = none) (T : Thing B x mA)
    (hns : s.heap.Ns L m) (hx : m "x" = some (.ref x)) (kx : env.kindOf "x" = some .local) (kA : env.kindOf "AttributeError" = some .globalImplicit) (kI : env.kindOf "isfinite" = some .globalImplicit)
    (hv : mA "is_finite" = none) (hh : Hd1 A s.heap)
    (h : ∀ h' tk e' a' c' T', s.heap.get? e' = none → s.heap.get? T' = none → Ext (fr (env :: outer)) s.heap h' → Exc h' e' (.type "TypeError") a' c' (some (T', rawInt L)) → E (.ref e') { s with heap := h', toks := tk }) :
    wpAny (model prog w) A (exec (tryIsfinite p1 p2 p3 p4 p5 p6 p7 p8 p9 p10 p11) env) Q E s := by
  refine wpAny_Try_except (wpAny_execs_cons (wpAny_Return_some (call_m hline rfl (name_l C hns kx hx fun pl => ?_))))
  refine meth_miss G hB no_is_finite (inst_keeps T.inst hB) hv hh.hd fun h₁ tk e a0 hf x₁ e₁ => ?_
  have hB₁ : B.StaysIn h₁ := x₁.base hB (fun b hb => nomatch hb)
  have hBe : B.get? e = none := by
    cases q : B.get? e with
    | none => rfl
    | some o => rw [hB _ _ q] at hf; cases hf
  refine isfinite_tail (s := { s with heap := h₁, toks := tk }) (m := m) G hB₁ C (x₁.frs hl) (fun a ha => ?_) T (x₁.ns hns) hx kx kA kI e₁ (fun p hp => nomatch hp) ?_ fun h₂ tk₂ e' a' c' T' hf' hT' x₂ e₂ k₂ => ?_
  · rcases List.mem_cons.mp (show a ∈ e :: fr (env :: outer) from ha) with rfl | ha
    · exact hBe
    · exact hoff a ha
  · rcases hh with hn | ⟨y, hy, t⟩
    · left; rw [ctxOf, hn]; rfl
    · right; refine ⟨y, by rw [ctxOf, hy]; rfl, t.keep x₁ (by simp), ?_⟩
      simp only [tbs, Option.toList, List.map_nil, List.mem_singleton]; exact t.lt hf
  · refine h h₂ tk₂ e' a' c' T' (x₁.fresh hf') (x₁.fresh hT') (x₁.mono (fun b hb => nomatch hb) |>.trans x₂ fun b hb => ?_) e₂
    rcases List.mem_cons.mp (show b ∈ e :: fr (env :: outer) from hb) with rfl | hb
    · exact .inr hf
    · exact .inl hb
theorem isfinite_body_ask {er : Addr} {a0 ctx : Value} {tb : Option (Addr × Value)} (G : G0 w B mg mb) (hB : B.StaysIn s.heap) (hroom : A.depth < recursionLimit) (C : Act env L A outer) (hl : Frs s.heap (env :: outer)) (hoff : ∀ a ∈ er :: tbs tb ++ fr (env :: outer), B.get? a = none) (T : Thing B x mA)
    (hns : s.heap.Ns L m) (hx : m "x" = some (.ref x)) (kx : env.kindOf "x" = some .local) (kA : env.kindOf "AttributeError" = some .globalImplicit) (kI : env.kindOf "isfinite" = some .globalImplicit)
    (hv : mA "is_finite" = some (.ref f)) (F : Ask B f er) (he : Exc s.heap er (.type "AttributeError") a0 ctx tb) (hq : ∀ p ∈ tb, p.2 = .none)
    (hh : A.handled = none ∨ (tb = none ∧ ∃ y, A.handled = some (.ref y) ∧ y ≠ er ∧ Tip s.heap y)) (hcx : Cx s.heap (A.handled.getD ctx) (er :: tbs tb))
    (h : ∀ h' tk e' a' c' T', s.heap.get? e' = none → s.heap.get? T' = none → Ext (er :: tbs tb ++ fr (env :: outer)) s.heap h' → Exc h' e' (.type "TypeError") a' c' (some (T', rawInt L)) → (∃ T'', s.heap.get? T'' = none ∧ T'' ≠ T' ∧ T'' ≠ e' ∧ Exc h' er (.type "AttributeError") a0 (A.handled.getD ctx) (some (T'', .none))) → E (.ref e') { s with heap := h', toks := tk }) :
    wpAny (model prog w) A (exec (tryIsfinite p1 p2 p3 p4 p5 p6 p7 p8 p9 p10 p11) env) Q E s := by
  refine wpAny_Try_except (wpAny_execs_cons (wpAny_Return_some (call_m hline rfl (name_l C hns kx hx fun pl => ?_))))
  refine meth_hit G hB no_is_finite (inst_keeps T.inst hB) hv ?_
  obtain ⟨o, nm, qual, n, np, pos, cc, doc, pm, cdv, ct, ho, hd, _⟩ := id F
  refine call0 (s := { s with toks := s.toks + 1 }) (hB _ _ ho) hd ?_
  refine ask_call (s := { s with toks := s.toks + 1 }) G hB hroom C.frames hl F he hq (fun b hb => hoff b (by simp [hb])) (plain_AE B) (sub_AE_base B) (hh.imp id fun ⟨e, y, hy, ne, t⟩ => ⟨e, y, hy, ne, t.ends⟩) fun h₁ T₁ tk hT₁ x₁ e₁ => ?_
  have hB₁ : B.StaysIn h₁ := x₁.base hB hoff
  have hBT : B.get? T₁ = none := by
    cases q : B.get? T₁ with
    | none => rfl
    | some o => rw [hB _ _ q] at hT₁; cases hT₁
  refine isfinite_tail (s := { s with heap := h₁, toks := tk }) (m := m) G hB₁ C (x₁.frs hl) (fun a ha => ?_) T (x₁.ns hns) hx kx kA kI e₁ (fun p hp => by cases hp; rfl) ?_ fun h₂ tk₂ e' a' c' T' hf' hT' x₂ e₂ k₂ => ?_
  · rcases List.mem_cons.mp (show a ∈ er :: T₁ :: fr (env :: outer) from ha) with rfl | ha
    · exact hoff _ (by simp)
    · rcases List.mem_cons.mp ha with rfl | ha
      · exact hBT
      · exact hoff _ (by simp only [List.mem_append]; exact .inr ha)
  · refine hcx.imp id fun ⟨z, e, t, n⟩ => ⟨z, e, t.keep x₁ ?_, ?_⟩
    · rw [List.mem_append]; exact fun q => q.elim n (t.off_frames hl)
    · simp only [tbs, Option.toList, List.map_cons, List.map_nil, List.mem_cons, List.not_mem_nil, or_false, not_or]
      exact ⟨fun q => n (by simp [q]), t.lt hT₁⟩
  · obtain ⟨T'', n'', d'', dd'', q''⟩ := k₂
    refine h h₂ tk₂ e' a' c' T' (x₁.fresh hf') (x₁.fresh hT') (x₁.trans x₂ fun b hb => ?_) e₂ ⟨T'', x₁.fresh n'', d'', dd'', q''⟩
    rcases List.mem_cons.mp (show b ∈ er :: T₁ :: fr (env :: outer) from hb) with rfl | hb
    · exact .inl (by simp)
    · rcases List.mem_cons.mp hb with rfl | hb
      · exact .inr hT₁
      · exact .inl (by simp only [List.mem_append]; exact .inr hb)
end
end
end Kq
end
section
open PySem PySem.W PySem.Spec PySem.Calls PyProof.Rows
open Builtin Builtin.ObjectAttr
set_option maxRecDepth 100000
namespace Kq
variable {prog : Program} {w : World} {A : Around} {E : Value → Shared → Prop} {B : Heap} {mg mb : Str → Option Value} {s : Shared}
section
variable {x f : Addr} {mA : Str → Option Value} {outer : List Env} {R : Result → Shared → Prop}
theorem off_cons {h : Heap} {env : Env} {L : Addr} {l : List Env} {X : List Addr} (hf : env.frame = some L) (hl : ∀ a ∈ X ++ fr l, h.get? a = none) (hL : h.get? L = none) : ∀ a ∈ X ++ fr (env :: l), h.get? a = none := by
  intro a ha
  have e : fr (env :: l) = L :: fr l := by simp [fr, hf]
  rw [e] at ha
  rcases List.mem_append.mp ha with q | q
  · exact hl a (List.mem_append_left _ q)
  · rcases List.mem_cons.mp q with rfl | q
    · exact hL
    · exact hl a (List.mem_append_right _ q)
theorem off_cons0 {h : Heap} {env : Env} {L : Addr} {l : List Env} (hf : env.frame = some L) (hl : ∀ a ∈ fr l, h.get? a = none) (hL : h.get? L = none) : ∀ a ∈ fr (env :: l), h.get? a = none := off_cons (X := []) hf hl hL
theorem base_none {B h : Heap} {a : Addr} (hB : B.StaysIn h) (ha : h.get? a = none) : B.get? a = none := by
  cases q : B.get? a with
  | none => rfl
  | some o => rw [hB _ _ q] at ha; cases ha
theorem ext_out {h h₀ h' : Heap} {env : Env} {L : Addr} {l : List Env} {X : List Addr} (hf : env.frame = some L) (hL : h.get? L = none) (x₀ : Ext [] h h₀) (x : Ext (X ++ fr (env :: l)) h₀ h') : Ext (X ++ fr l) h h' := by
  have e : fr (env :: l) = L :: fr l := by simp [fr, hf]
  refine (x₀.mono (fun b hb => nomatch hb)).trans x fun b hb => ?_
  rw [e] at hb
  rcases List.mem_append.mp hb with q | q
  · exact .inl (List.mem_append_left _ q)
  · rcases List.mem_cons.mp q with rfl | q
    · exact .inr hL
    · exact .inl (List.mem_append_right _ q)
theorem ext_out0 {h h₀ h' : Heap} {env : Env} {L : Addr} {l : List Env} (hf : env.frame = some L) (hL : h.get? L = none) (x₀ : Ext [] h h₀) (x : Ext (fr (env :: l)) h₀ h') : Ext (fr l) h h' := ext_out (X := []) hf hL x₀ x
theorem isfinite_call_lam {v : Value} (G : G0 w B mg mb) (hB : B.StaysIn s.heap) (hroom : A.depth + 1 < recursionLimit) (hfr : A.frames = some outer) (hl : Frs s.heap outer) (T : Thing B x mA) (hv : mA "is_finite" = some (.ref f)) (F : Lam B f v)
    (h : ∀ h' tk, Ext [] s.heap h' → R (.ok (.ret v)) { s with heap := h', toks := tk }) : codeAny (model prog w) A (.call (.ref 62) ⟨[.ref x], []⟩) R s := by
  have h62 := G.X 62 _ rfl
  refine defcall (binds := [("x", .ref x)]) G hB (by omega) hfr hl (hB _ _ h62) rfl ((codeRec_of G.X rfl).keeps hB) rfl rfl (by decide) (fun y hy => by rw [List.mem_singleton.mp hy]; rfl) fun h₀ hns x₀ hl₀ hfr₀ => ?_
  have hB₀ : B.StaysIn h₀ := x₀.base hB (fun b hb => nomatch hb)
  refine wpAny_execs_cons (isfinite_body_lam (L := s.heap.objs.size) (s := { s with heap := h₀, toks := s.toks + 1 }) rfl G hB₀ (by show A.depth + 1 < _; exact hroom) ⟨rfl, rfl, rfl, rfl, rfl, hfr₀⟩ T hns rfl rfl hv F fun h' tk x₁ => ?_)
  exact h h' tk (x₀.trans x₁ fun b hb => nomatch hb)
theorem isfinite_call_none (G : G0 w B mg mb) (hB : B.StaysIn s.heap) (hroom : A.depth + 1 < recursionLimit) (hfr : A.frames = some outer) (hl : Frs s.heap outer) (hoff : ∀ a ∈ fr outer, B.get? a = none) (T : Thing B x mA) (hv : mA "is_finite" = none) (hh : Hd1 A s.heap)
    (h : ∀ h' tk e' a' c' T', s.heap.get? e' = none → s.heap.get? T' = none → Ext (fr outer) s.heap h' → Exc h' e' (.type "TypeError") a' c' (some (T', .none)) → R (.error (.ref e')) { s with heap := h', toks := tk }) :
    codeAny (model prog w) A (.call (.ref 62) ⟨[.ref x], []⟩) R s := by
  have h62 := G.X 62 _ rfl
  refine defcall (binds := [("x", .ref x)]) G hB (by omega) hfr hl (hB _ _ h62) rfl ((codeRec_of G.X rfl).keeps hB) rfl rfl (by decide) (fun y hy => by rw [List.mem_singleton.mp hy]; rfl) fun h₀ hns x₀ hl₀ hfr₀ => ?_
  have hB₀ : B.StaysIn h₀ := x₀.base hB (fun b hb => nomatch hb)
  have hL := none_of_ge (Nat.le_refl s.heap.objs.size)
  refine wpAny_execs_cons (isfinite_body_none (L := s.heap.objs.size) (outer := outer) (s := { s with heap := h₀, toks := s.toks + 1 }) rfl G hB₀ ⟨rfl, rfl, rfl, rfl, rfl, hfr₀⟩ hl₀ (off_cons0 rfl hoff (base_none hB hL)) T hns rfl rfl rfl rfl hv (hh.imp id fun ⟨y, e, t⟩ => ⟨y, e, t.keep x₀ (by simp)⟩) fun h' tk e' a' c' T' hf hT x₁ e₁ => ?_)
  refine leave_again (s := { s with heap := h', toks := tk }) rfl e₁ fun h₂ x₂ e₂ => ?_
  refine h h₂ tk e' a' c' T' (x₀.fresh hf) (x₀.fresh hT) ?_ e₂
  exact (ext_out0 rfl hL x₀ x₁).trans x₂ fun b hb => .inr (List.mem_singleton.mp hb ▸ x₀.fresh hT)
theorem isfinite_call_ask {er : Addr} {a0 ctx : Value} {tb : Option (Addr × Value)} (G : G0 w B mg mb) (hB : B.StaysIn s.heap) (hroom : A.depth + 1 < recursionLimit) (hfr : A.frames = some outer) (hl : Frs s.heap outer) (hoff : ∀ a ∈ er :: tbs tb ++ fr outer, B.get? a = none) (T : Thing B x mA)
    (hv : mA "is_finite" = some (.ref f)) (F : Ask B f er) (he : Exc s.heap er (.type "AttributeError") a0 ctx tb) (hq : ∀ p ∈ tb, p.2 = .none)
    (hh : A.handled = none ∨ (tb = none ∧ ∃ y, A.handled = some (.ref y) ∧ y ≠ er ∧ Tip s.heap y)) (hcx : Cx s.heap (A.handled.getD ctx) (er :: tbs tb))
    (h : ∀ h' tk e' a' c' T', s.heap.get? e' = none → s.heap.get? T' = none → Ext (er :: tbs tb ++ fr outer) s.heap h' → Exc h' e' (.type "TypeError") a' c' (some (T', .none)) → (∃ T'', s.heap.get? T'' = none ∧ T'' ≠ T' ∧ T'' ≠ e' ∧ Exc h' er (.type "AttributeError") a0 (A.handled.getD ctx) (some (T'', .none))) → R (.error (.ref e')) { s with heap := h', toks := tk }) :
    codeAny (model prog w) A (.call (.ref 62) ⟨[.ref x], []⟩) R s := by
  have h62 := G.X 62 _ rfl
  refine defcall (binds := [("x", .ref x)]) G hB (by omega) hfr hl (hB _ _ h62) rfl ((codeRec_of G.X rfl).keeps hB) rfl rfl (by decide) (fun y hy => by rw [List.mem_singleton.mp hy]; rfl) fun h₀ hns x₀ hl₀ hfr₀ => ?_
  have hB₀ : B.StaysIn h₀ := x₀.base hB (fun b hb => nomatch hb)
  have hL := none_of_ge (Nat.le_refl s.heap.objs.size)
  refine wpAny_execs_cons (isfinite_body_ask (L := s.heap.objs.size) (outer := outer) (s := { s with heap := h₀, toks := s.toks + 1 }) rfl G hB₀ (by show A.depth + 1 < _; exact hroom) ⟨rfl, rfl, rfl, rfl, rfl, hfr₀⟩ hl₀ (off_cons rfl hoff (base_none hB hL)) T hns rfl rfl rfl rfl hv F
    (he.keep x₀ (by simp) (by simp)) hq (hh.imp id fun ⟨e, y, hy, ne, t⟩ => ⟨e, y, hy, ne, t.keep x₀ (by simp)⟩) (hcx.imp id fun ⟨z, e, t, n⟩ => ⟨z, e, t.keep x₀ (by simp), n⟩) fun h' tk e' a' c' T' hf hT x₁ e₁ k₁ => ?_)
  refine leave_again (s := { s with heap := h', toks := tk }) rfl e₁ fun h₂ x₂ e₂ => ?_
  obtain ⟨T'', n'', d'', dd'', q''⟩ := k₁
  refine h h₂ tk e' a' c' T' (x₀.fresh hf) (x₀.fresh hT) ?_ e₂ ⟨T'', x₀.fresh n'', d'', dd'', q''.keep x₂ ?_ ?_⟩
  rotate_left
  · intro hb
    obtain ⟨o, ho, _⟩ := he.there
    have := x₀.fresh hT
    rw [← List.mem_singleton.mp hb, ho] at this; cases this
  · intro b hb hb'
    rw [List.mem_singleton.mp (show b ∈ [T''] from hb), List.mem_singleton] at hb'
    exact d'' hb'
  exact (ext_out rfl hL x₀ x₁).trans x₂ fun b hb => .inr (List.mem_singleton.mp hb ▸ x₀.fresh hT)
end
end Kq
end
section
open PySem PySem.W PySem.Spec PySem.Calls PyProof.Rows
open Builtin Builtin.ObjectAttr Builtin.Getset_descriptor
set_option maxRecDepth 100000
namespace Kq
variable {prog : Program} {w : World} {A : Around} {E : Value → Shared → Prop} {B : Heap} {mg mb : Str → Option Value} {s : Shared}
theorem kn_dga (d tp : Value) (a : Addr) : descrGetArgs ⟨[d, .ref a, tp], []⟩ = pure (d, some (.ref a), given tp) := rfl
theorem se_name_get {tp : Value} {R : Result → Shared → Prop} (hC : s.heap.get? 52 = some seObj) (h : R (.ok (.ret (.str "StatisticsError" 378))) s) :
    codeAny (model prog w) A (.call (.builtin "getset_descriptor.__get__") ⟨[.builtin "type.__name__", .ref 52, tp], []⟩) R s := by
  obtain ⟨hh, g, dr, t, os⟩ := s
  have L0 : Looks (model prog w) hh (typeOf (.ref 52)) (.type "type") := fun _ _ _ _ k hq => wpAny_typeOf_ref (k _ _ hC) hq
  have L1 : Looks (model prog w) hh (isSubtype (.type "type") (.type "type")) true := Looks.of_pure (by rw [isSubtype_type]; kernel_rfl)
  refine codeAny_call_builtin KF.slot_gs.plain KF.entry_gs (KF.slot_gs.check _ _ _ _ _ _ _ _ ktyn_type (KF.args_gs _ _ _) ?_)
  unfold Builtin.«getset_descriptor.__get__» descrGet
  rw [kn_dga]
  refine wpAny_bind (wpAny_pure ?_)
  unfold descrGetter descrCheckInstance descrNameAndClass isInstance
  simp only [ktyn_owner]
  repeat lk
  refine ⟨Code.quiet_builtin _ (by decide +kernel), codeAny_builtin ktyn_entry ?_⟩
  unfold Builtin.«type.__name__» keptObject
  repeat (first | with_reducible refine wpAny_loadPart_at hC ?_ | wp_step)
  exact h
theorem se_name {expr : Bool} {Q : Value → Shared → Prop} (G : G0 w B mg mb) (hB : B.StaysIn s.heap) (h : ∀ tk, Q (.str "StatisticsError" 378) { s with toks := tk }) : wpAny (model prog w) A (getAttr (.ref 52) "__name__" expr) Q E s := by
  have X := G.X.keeps hB
  have hC := hB _ _ (se_cls G)
  have L0 : Looks (model prog w) s.heap (typeOf (.ref 52)) (.type "type") := fun _ _ _ _ k hq => wpAny_typeOf_ref (k _ _ hC) hq
  have LO : Looks (model prog w) s.heap (opaqueClassAbove (.ref 52)) none := looks_opaque X rfl
  have hg : findIn (hd.heap_39 w.params) (.type "type") "__getattribute__" = some (some (.builtin "type.__getattribute__")) := type_tga
  refine cls_open (r := .get (.builtin "getset_descriptor.__get__") (.builtin "type.__name__") (.ref 52) (.type "type")) X LO L0 hg (looks_hook X (r := none) (by rfl)) (by show subIn _ _ _ = _; rfl) ?_ ?_
  · kernel_rfl
  show wpAny _ _ (do ret (← holding [Value.builtin "type.__name__"] (call (.builtin "getset_descriptor.__get__") [.builtin "type.__name__", .ref 52, .type "type"]))) _ _ _
  refine wpAny_bind (wpAny_holding (wpAny_call (se_name_get (s := { s with toks := s.toks + 1 }) hC ?_)))
  exact wpAny_pure (handed_on rfl (h _))
end Kq
end
section
open PySem PySem.W PySem.Spec PySem.Calls PyProof.Rows
open Builtin Builtin.ObjectAttr Builtin.Getset_descriptor
set_option maxRecDepth 100000
namespace Kq
variable {prog : Program} {w : World} {A : Around} {E : Value → Shared → Prop} {B : Heap} {mg mb : Str → Option Value} {s : Shared}
theorem Ext.store {X : List Addr} {h h₁ h₂ : Heap} {L : Addr} (x : Ext X h h₁) (hs : Heap.SameBut L h₁ h₂) (hL : h.get? L = none) : Ext X h h₂ := by
  have ne : ∀ b o, h.get? b = some o → b ≠ L := fun b o e q => by rw [q, hL] at e; cases e
  refine ⟨fun b o e hb => (hs.2 b (ne b o e)).trans (x.keep b o e hb), fun b o e hn => ?_, fun b o e => ?_⟩
  · obtain ⟨sl, q⟩ := x.up b o e hn; exact ⟨sl, (hs.2 b (ne b o e)).trans q⟩
  · obtain ⟨o', q⟩ := x.there b o e; exact ⟨o', (hs.2 b (ne b o e)).trans q⟩
theorem Act.frs {env : Env} {L : Addr} {outer : List Env} {X : List Addr} {h h' : Heap} {m : Str → Option Value} (C : Act env L A outer) (x : Ext X h h') (hl : Frs h outer) (hns : h'.Ns L m) : Frs h' (env :: outer) :=
  .cons (by rw [C.kind]; decide) C.frame hns (empty_get _) (x.frs hl)
theorem ext_push {h : Heap} {o : Obj} : Ext [] h (h.push o) := .of fun _ _ q => Heap.get?_push_of_some _ q
section
variable {env : Env} {L : Addr} {outer : List Env} {x : Addr} {mA m : Str → Option Value}
theorem attr_name {M : Model} {n nm : Str} {p1 p2 : Pos} {Q : Value → Shared → Prop} (h : wpAny M A (eval (.Name n p1) env) (fun ov s₁ => wpAny M A (getAttr ov nm true) Q E s₁) E s) :
    wpAny M A (eval (.Attribute (.Name n p1) nm p2) env) Q E s := by
  rw [arm_eval_Attribute]
  show wpAny M A (eval (.Name n p1) env >>= _) Q E s
  refine wpAny_bind (wpAny_mono h (fun ov s₁ h₁ => wpAny_bind (wpAny_standAt (wpAny_bind (wpAny_holding (wpAny_mono h₁ (fun r s₂ h₂ => ?_) fun _ _ z => z))))) fun _ _ z => z)
  exact wpAny_bind (wpAny_pure (wpAny_pure h₂))
theorem type_name_of {p10 p11 p12 p13 : Pos} {Q : Value → Shared → Prop} (G : G0 w B mg mb) (hB : B.StaysIn s.heap) (C : Act env L A outer) {A' : Around} (T : Thing B x mA) (hns : s.heap.Ns L m) (hx : m "x" = some (.ref x)) (kx : env.kindOf "x" = some .local) (kT : env.kindOf "type" = some .globalImplicit)
    (h : ∀ tk, Q (.str "StatisticsError" 378) { s with toks := tk }) :
    wpAny (model prog w) A' (eval (.Attribute (.Call (.Name "type" p10) [.Name "x" p11] [] p12) "__name__" p13) env) Q E s := by
  rw [arm_eval_Attribute]
  obtain ⟨o, vs, ho, hc, hd⟩ := T.obj
  show wpAny _ _ (eval (.Call (.Name "type" p10) [.Name "x" p11] [] p12) env >>= _) Q E s
  refine wpAny_bind (Call_Name (trees := [(false, eval (.Name "x" p11) env)]) rfl ?_)
  refine name_b G hB rfl rfl (by decide) ?_ C.kind C.glob C.blt kT
  refine callWith_type1 (name_l C hns kx hx ?_)
  obtain ⟨hp, g, d, t, os⟩ := s
  refine call_type_obj (hB _ _ ho) (by rw [hc]; decide) ?_
  rw [hc]
  refine wpAny_bind (wpAny_standAt (wpAny_bind (wpAny_holding (se_name G hB fun tk => ?_))))
  exact wpAny_bind (wpAny_letTemporaryGo (wpAny_pure (h tk)))
abbrev sayA : Str := "can't convert type '"
abbrev sayB : Str := "' to numerator/denominator"
abbrev sayAll : Str := "can't convert type 'StatisticsError' to numerator/denominator"
theorem say_eq : Str.empty ++ sayA ++ "StatisticsError" ++ sayB = sayAll := by decide +kernel
theorem msg_of {p9 p10 p11 p12 p13 p14 p15 p16 : Pos} {Q : Value → Shared → Prop} (G : G0 w B mg mb) (hB : B.StaysIn s.heap) (C : Act env L A outer) {A' : Around} (T : Thing B x mA) (hns : s.heap.Ns L m) (hx : m "x" = some (.ref x)) (kx : env.kindOf "x" = some .local) (kT : env.kindOf "type" = some .globalImplicit)
    (h : ∀ u tk, Q (.str sayAll u) { s with toks := tk }) :
    wpAny (model prog w) A' (eval (.JoinedStr [.Constant (.str sayA) 0 p9, .FormattedValue (.Attribute (.Call (.Name "type" p10) [.Name "x" p11] [] p12) "__name__" p13) (-1) none p14, .Constant (.str sayB) 0 p15] p16) env) Q E s := by
  refine wpAny_JoinedStr ?_
  refine wpAny_Constant_str ⟨_, _, rfl, by decide +kernel, ?_⟩
  refine wpAny_FormattedValue_plain (type_name_of (s := { s with toks := s.toks + 1 }) G hB C T hns hx kx kT fun tk => ?_)
  have fin : ∀ (t : Tok) (tk' : Nat), Joins (model prog w) A' E (evalEach [.Constant (.str sayB) 0 p15] env) (Str.empty ++ sayA ++ "StatisticsError") (fun out s₁ => out.length ≤ sizeLine ∧ Q (.str out s₁.toks) { s₁ with toks := s₁.toks + 1 }) { s with toks := tk' } := fun t tk' => by
    refine wpAny_Constant_str ⟨_, _, rfl, by decide +kernel, ?_⟩
    rw [say_eq]
    exact ⟨by decide +kernel, h _ _⟩
  refine wpAny_formatField_str ⟨_, _, rfl, by decide +kernel, fin 0 _⟩ ⟨_, _, rfl, by decide +kernel, fin 0 _⟩ (by decide +kernel)
end
end Kq
end
section
open PySem PySem.W PySem.Spec PySem.Calls PyProof.Rows
open Builtin Builtin.ObjectAttr Builtin.Getset_descriptor
set_option maxRecDepth 100000
namespace Kq
variable {prog : Program} {w : World} {A : Around} {E : Value → Shared → Prop} {B : Heap} {mg mb : Str → Option Value} {s : Shared}
theorem plain_TE (B : Heap) : Plain B (.type "TypeError") := .type (by decide +kernel)
theorem sub_TE_base (B : Heap) : Sub B (.type "TypeError") (.type "BaseException") true := .type (by rw [isSubtype_type]; kernel_rfl)
theorem raise_new2 {h₀ : Heap} {e : Addr} {c a0 : Value} {α : Type} {Q : α → Shared → Prop} (hh : Hd A h₀) (hne : h₀.get? e = none) (k : Ext [] h₀ s.heap) (he : Exc s.heap e c a0 .none none)
    (h : ∀ h', Ext [] h₀ h' → Ext [e] s.heap h' → Exc h' e c a0 (ctxOf A) none → E (.ref e) { s with heap := h' }) :
    wpAny (model prog w) A (raiseNew (.ref e) : Sem α) Q E s := by
  rcases hh with hn | ⟨y, hy, sh⟩
  · exact raise_out hn (h s.heap k (.refl ..) (by rw [ctxOf, hn]; exact he))
  · have ne : ∀ z oz, h₀.get? z = some oz → z ≠ e := fun z oz hz q => by rw [q, hne] at hz; cases hz
    obtain ⟨oy, vy, cy, hoy, hdy, h2y, hcy⟩ := sh
    have en : Ends s.heap y e := ⟨oy, vy, cy, k.keep _ _ hoy (by simp), hdy, h2y, hcy.imp id fun ⟨z, oz, zs, ez, hz, r⟩ => ⟨z, oz, zs, ez, ne z oz hz, k.keep _ _ hz (by simp), r⟩⟩
    refine raise_in hy (ne y oy hoy) en he fun h' x' e' m' => ?_
    exact h h' (k.trans x' fun b hb => .inr (by rw [List.mem_singleton.mp hb]; exact hne)) x' (by rw [ctxOf, hy]; exact e')
section
variable {env : Env} {L : Addr} {outer : List Env} {x : Addr} {mA m : Str → Option Value} {Q : Flow → Shared → Prop}
variable {p1 p2 p3 p4 p5 p6 p7 p8 p9 p10 p11 p12 p13 p14 p15 p16 p17 p18 p19 p20 p21 p22 p23 : Pos}
abbrev suite2 (p8 p9 p10 p11 p12 p13 p14 p15 p16 p17 p18 p19 p20 p21 : Pos) : List Stmt :=
  [.Assign [.Name "msg" p8] (.JoinedStr [.Constant (.str sayA) 0 p9, .FormattedValue (.Attribute (.Call (.Name "type" p10) [.Name "x" p11] [] p12) "__name__" p13) (-1) none p14, .Constant (.str sayB) 0 p15] p16) p17,
   .Raise (some (.Call (.Name "TypeError" p18) [.Name "msg" p19] [] p20)) none p21]
abbrev try2 (p1 p2 p3 p4 p5 p6 p7 p8 p9 p10 p11 p12 p13 p14 p15 p16 p17 p18 p19 p20 p21 p22 p23 : Pos) : Stmt :=
  .Try [.Return (some (.Tuple [.Attribute (.Name "x" p1) "numerator" p2, .Attribute (.Name "x" p3) "denominator" p4] 0 p5)) p6]
    [.ExceptHandler (some (.Name "AttributeError" p7)) none (suite2 p8 p9 p10 p11 p12 p13 p14 p15 p16 p17 p18 p19 p20 p21) p22] [] [] p23
theorem try2_pair {a b : Addr} (G : G0 w B mg mb) (hB : B.StaysIn s.heap) (C : Act env L A outer) (T : Thing B x mA) (hns : s.heap.Ns L m) (hx : m "x" = some (.ref x)) (kx : env.kindOf "x" = some .local)
    (ha : mA "numerator" = some (.ref a)) (hb : mA "denominator" = some (.ref b))
    (h : ∀ h' tk t, Ext [] s.heap h' → s.heap.get? t = none → h'.get? t = some { cls := .type "tuple", data := .seq #[.ref a, .ref b] } → Q (.ret (.ref t)) { s with heap := h', toks := tk }) :
    wpAny (model prog w) A (exec (try2 p1 p2 p3 p4 p5 p6 p7 p8 p9 p10 p11 p12 p13 p14 p15 p16 p17 p18 p19 p20 p21 p22 p23) env) Q E s := by
  refine wpAny_Try_except (wpAny_execs_cons (wpAny_Return_some (wpAny_Tuple (args_cons (attr_name (name_l C hns kx hx ?_))))))
  obtain ⟨hp, g, d, t, os⟩ := s
  refine get_hit G hB no_numerator (inst_keeps T.inst hB) ha ?_
  refine args_cons (attr_name (name_l (s := ⟨hp, g, d, t + 1, os⟩) C hns kx hx ?_))
  refine get_hit G hB no_denominator (inst_keeps T.inst hB) hb ?_
  refine args_nil ⟨by show 2 ≤ sizeLine; decide +kernel, ?_⟩
  exact h _ _ _ ext_push (none_of_ge (Nat.le_refl _)) (Heap.get?_push_size _ rfl)
theorem suite2_raises {h₀ : Heap} {X : List Addr} {e : Addr} {E' : Value → Shared → Prop} {Q : Flow → Shared → Prop} (G : G0 w B mg mb) (hB : B.StaysIn s.heap) (C : Act env L A outer) (T : Thing B x mA) (hns : s.heap.Ns L m) (hx : m "x" = some (.ref x)) (kx : env.kindOf "x" = some .local)
    (kT : env.kindOf "type" = some .globalImplicit) (kE : env.kindOf "TypeError" = some .globalImplicit) (km : env.kindOf "msg" = some .local) (x₀ : Ext X h₀ s.heap) (hL : h₀.get? L = none) (hBL : B.get? L = none) (hl : Frs h₀ outer) (ht : Tip s.heap e) (hne : e ≠ L)
    (h : ∀ h' tk e' c' t T', h₀.get? e' = none → h₀.get? T' = none → Ext (X ++ fr outer) h₀ h' → Exc h' e' (.type "TypeError") (.ref t) c' (some (T', rawInt L)) → h₀.get? t = none → (∃ u, h'.get? t = some { cls := .type "tuple", data := .seq #[.str sayAll u] }) → E' (.ref e') { s with heap := h', toks := tk }) :
    wpAny (model prog w) (A.mark (some (.ref e))) (execs (suite2 p8 p9 p10 p11 p12 p13 p14 p15 p16 p17 p18 p19 p20 p21) env) Q (NB (model prog w) A env e E') s := by
  refine wpAny_execs_cons (wpAny_Assign_Name (msg_of G hB C T hns hx kx kT fun u tk => ?_))
  refine wpAny_storeName_local km (by rw [C.loc]; exact hns) (fun h₁ hns₁ hs₁ => ?_) (by rw [C.kind]; rfl)
  rw [C.loc] at hns₁ hs₁
  have x₁ : Ext X h₀ h₁ := x₀.store hs₁ hL
  have hB₁ : B.StaysIn h₁ := fun b o q => (hs₁.2 b fun z => by rw [z, hBL] at q; cases q).trans (hB b o q)
  refine wpAny_execs_cons ?_
  rw [arm_exec_Raise]
  refine wpAny_bind (wpAny_standAt ?_)
  refine raise_held (B := B) (wpAny_bind (Call_Name (trees := [(false, eval (.Name "msg" p19) env)]) rfl ?_))
  refine name_b (v := .type "TypeError") (s := { s with heap := h₁, toks := tk + 1 }) G hB₁ rfl rfl (by decide) ?_ C.kind C.glob C.blt kE
  refine callWith_type1 (name_l (v := .str sayAll u) (s := { s with heap := h₁, toks := tk + 1 }) C hns₁ km (if_pos rfl) ?_)
  refine wpAny_call_exc F.excCall_TypeError (fun h₂ e' hm => ?_)
  obtain ⟨x₂, t, e₂, htn, htn'⟩ := made_exc hm
  refine wpAny_bind (wpAny_standAt (wpAny_pure ⟨e', _, _, _, none, rfl, e₂, fun b o q => hm.keeps b o (hB₁ b o q), plain_TE B, sub_TE_base B, by simp, fun h₃ x₃ e₃ => ?_⟩))
  have tip₁ : Tip h₁ e := by
    obtain ⟨oe, vs, hoe, r⟩ := ht
    exact ⟨oe, vs, (hs₁.2 e hne).trans hoe, r⟩
  refine raise_new2 (s := { s with heap := h₃, toks := tk + 1 }) (h₀ := h₁) (.inr ⟨e, rfl, tip₁.short⟩) hm.new (x₂.trans x₃ fun b hb => nomatch hb) e₃ fun h₄ x₄ x₃₄ e₄ => ?_
  have hns₄ : h₄.Ns L _ := x₄.ns hns₁
  have x₁₄ : Ext X h₀ h₄ := x₁.trans x₄ fun b hb => nomatch hb
  refine in_handler (s := { s with heap := h₄, toks := tk + 1 }) C.frames (C.frs x₁₄ hl hns₄) C.frame e₄ (fun p hp => nomatch hp) fun h₅ T' hT' x₅ e₅ => ?_
  refine h h₅ _ e' _ t T' (x₁.fresh hm.new) (x₁₄.fresh hT') ?_ e₅ (x₁.fresh htn) ⟨u, ?_⟩
  · refine (x₁₄.mono fun b hb => List.mem_append_left _ hb).trans x₅ fun b hb => ?_
    have e1 : fr (env :: outer) = L :: fr outer := by simp [fr, C.frame]
    rw [e1] at hb
    rcases List.mem_cons.mp (show b ∈ e' :: L :: fr outer from hb) with rfl | hb
    · exact .inr (x₁.fresh hm.new)
    · rcases List.mem_cons.mp hb with rfl | hb
      · exact .inr hL
      · exact .inl (List.mem_append_right _ hb)
  · have q₃ := x₃.keep _ _ htn' (by simp)
    have net : t ≠ e' := fun z => by
      obtain ⟨o, vs, ho, _, hd, _⟩ := e₂
      rw [z, ho] at htn'; cases htn'; cases hd
    have q₄ := x₃₄.keep _ _ q₃ (by simpa using net)
    refine x₅.keep _ _ q₄ fun hb => ?_
    have e1 : fr (env :: outer) = L :: fr outer := by simp [fr, C.frame]
    rw [e1] at hb
    rcases List.mem_cons.mp (show t ∈ e' :: L :: fr outer from hb) with rfl | hb
    · exact net rfl
    · rcases List.mem_cons.mp hb with rfl | hb
      · obtain ⟨o, es, ep, ho, hd, _⟩ := hns₁
        rw [htn] at ho; cases ho
      · obtain ⟨_, o, ho, _⟩ := hl.mem hb
        rw [x₁.fresh htn] at ho; cases ho
end
end Kq
end
section
open PySem PySem.W PySem.Spec PySem.Calls PyProof.Rows
open Builtin Builtin.ObjectAttr Builtin.Getset_descriptor
set_option maxRecDepth 100000
namespace Kq
variable {prog : Program} {w : World} {A : Around} {E : Value → Shared → Prop} {B : Heap} {mg mb : Str → Option Value} {s : Shared}
section
variable {env : Env} {L : Addr} {outer : List Env} {x : Addr} {mA m : Str → Option Value} {Q : Flow → Shared → Prop}
variable {p1 p2 p3 p4 p5 p6 p7 p8 p9 p10 p11 p12 p13 p14 p15 p16 p17 p18 p19 p20 p21 p22 p23 : Pos}
theorem try2_raises {h₀ : Heap} {X : List Addr} (G : G0 w B mg mb) (hB : B.StaysIn s.heap) (C : Act env L A outer) (T : Thing B x mA) (hns : s.heap.Ns L m) (hx : m "x" = some (.ref x)) (kx : env.kindOf "x" = some .local)
    (kA : env.kindOf "AttributeError" = some .globalImplicit) (kT : env.kindOf "type" = some .globalImplicit) (kE : env.kindOf "TypeError" = some .globalImplicit) (km : env.kindOf "msg" = some .local) (x₀ : Ext X h₀ s.heap) (hL : h₀.get? L = none) (hBL : B.get? L = none) (hl : Frs h₀ outer)
    (hoff : ∀ a ∈ fr outer, B.get? a = none) (hh : A.handled = none) (hlack : mA "numerator" = none ∨ ((∃ a, mA "numerator" = some (.ref a)) ∧ mA "denominator" = none))
    (h : ∀ h' tk e' c' t T', h₀.get? e' = none → h₀.get? T' = none → Ext (X ++ fr outer) h₀ h' → Exc h' e' (.type "TypeError") (.ref t) c' (some (T', rawInt L)) → h₀.get? t = none → (∃ u, h'.get? t = some { cls := .type "tuple", data := .seq #[.str sayAll u] }) → E (.ref e') { s with heap := h', toks := tk }) :
    wpAny (model prog w) A (exec (try2 p1 p2 p3 p4 p5 p6 p7 p8 p9 p10 p11 p12 p13 p14 p15 p16 p17 p18 p19 p20 p21 p22 p23) env) Q E s := by
  have e1 : fr (env :: outer) = L :: fr outer := by simp [fr, C.frame]
  have tail : ∀ h₁ tk e a0, s.heap.get? e = none → Ext [] s.heap h₁ → Exc h₁ e (.type "AttributeError") a0 (ctxOf A) none →
      wpAny (model prog w) A (noteFrame (.ref e) env) (fun _ s₂ => wpAny (model prog w) A (setFlight (.ref e) none) (fun _ s₃ =>
        wpAny (model prog w) A (handleBy (.ref e) env [.ExceptHandler (some (.Name "AttributeError" p7)) none (suite2 p8 p9 p10 p11 p12 p13 p14 p15 p16 p17 p18 p19 p20 p21) p22]) Q E s₃) E s₂) E { s with heap := h₁, toks := tk } := fun h₁ tk e a0 hf x₁ e₁ => by
    have hB₁ : B.StaysIn h₁ := x₁.base hB (fun b hb => nomatch hb)
    have x₀₁ : Ext X h₀ h₁ := x₀.trans x₁ fun b hb => nomatch hb
    have hns₁ := x₁.ns hns
    have offs : ∀ a ∈ e :: tbs none ++ fr (env :: outer), B.get? a = none := fun a ha => by
      rw [e1] at ha
      rcases List.mem_cons.mp (show a ∈ e :: L :: fr outer from ha) with rfl | ha
      · exact base_none hB hf
      · rcases List.mem_cons.mp ha with rfl | ha
        · exact hBL
        · exact hoff a ha
    refine caught (s := { s with heap := h₁, toks := tk }) (b := true) G hB₁ C.frames (C.frs x₀₁ hl hns₁) C.frame e₁ (fun p hp => nomatch hp) offs rfl rfl (by decide) clause_AE (sub_AE B) (fun h₂ T₂ hT₂ x₂ e₂ => ?_) C.kind C.glob C.blt kA
    simp only [if_true]
    have x₀₂ : Ext (X ++ fr outer) h₀ h₂ := (x₀₁.mono fun b hb => List.mem_append_left _ hb).trans x₂ fun b hb => by
      rw [e1] at hb
      rcases List.mem_cons.mp (show b ∈ e :: L :: fr outer from hb) with rfl | hb
      · exact .inr (x₀.fresh hf)
      · rcases List.mem_cons.mp hb with rfl | hb
        · exact .inr hL
        · exact .inl (List.mem_append_right _ hb)
    have neL : e ≠ L := fun z => by
      obtain ⟨o, es, ep, ho, _⟩ := hns
      rw [z, ho] at hf; cases hf
    refine suite2_raises (s := { s with heap := h₂, toks := tk }) (h₀ := h₀) (X := X ++ fr outer) G (x₂.base hB₁ offs) C T (x₂.ns hns₁) hx kx kT kE km x₀₂ hL hBL hl (Exc.tip (by rw [ctxOf, hh] at e₂; exact e₂)) neL fun h' tk' e' c' t T' k1 k2 k3 k4 k5 k6 => ?_
    exact h h' tk' e' c' t T' k1 k2 (k3.mono fun b hb => by simp only [List.mem_append] at hb ⊢; rcases hb with hb | hb; exact hb; exact .inr hb) k4 k5 k6
  refine wpAny_Try_except (wpAny_execs_cons (wpAny_Return_some (wpAny_Tuple (args_cons (attr_name (name_l C hns kx hx ?_))))))
  rcases hlack with hn | ⟨⟨a, ha⟩, hn⟩
  · exact miss G hB no_numerator (inst_keeps T.inst hB) hn (.inl hh) tail
  · obtain ⟨hp, g, d, t, os⟩ := s
    refine get_hit G hB no_numerator (inst_keeps T.inst hB) ha ?_
    refine args_cons (attr_name (name_l (s := ⟨hp, g, d, t + 1, os⟩) C hns kx hx ?_))
    exact miss (s := ⟨hp, g, d, t + 1, os⟩) G hB no_denominator (inst_keeps T.inst hB) hn (.inl hh) tail
end
end Kq
end
section
open PySem PySem.W PySem.Spec PySem.Calls PyProof.Rows
open Builtin Builtin.ObjectAttr Builtin.Getset_descriptor
set_option maxRecDepth 100000
namespace Kq
variable {prog : Program} {w : World} {A : Around} {E : Value → Shared → Prop} {B : Heap} {mg mb : Str → Option Value} {s : Shared}
theorem list_keeps {h h' : Heap} {a : Addr} {items : Array Value} (x : h.IsList a items) (k : h.StaysIn h') : h'.IsList a items := let ⟨o, ho, r⟩ := x; ⟨o, k _ _ ho, r⟩
def Raised (E : Value → Shared → Prop) (s : Shared) (X : List Addr) (f : Value) (c : Value) : Prop :=
  ∀ h' tk e' a' c' T', s.heap.get? e' = none → s.heap.get? T' = none → Ext X s.heap h' → Exc h' e' c a' c' (some (T', f)) → E (.ref e') { s with heap := h', toks := tk }
theorem call1 {pos : Pos} {f : Addr} {o : Obj} {fd : FuncData} {t : Sem Value} {Q : Value → Shared → Prop}
    (h : wpAny (model prog w) A t (fun v s₁ => (s₁.heap.get? f = some o ∧ o.data = .func fd) ∧ codeAny (model prog w) A (.call (.ref f) ⟨[v], []⟩) (fun r s' => match r with | .ok (.ret v) => Q v s' | .ok _ => False | .error e => E e s') s₁) E s) :
    wpAny (model prog w) A (callWith pos (.ref f) [] [(false, t)] []) Q E s :=
  callWith_function (evalArgs_plain (spliced_cons (wpAny_mono h (fun _ _ h₁ => spliced_nil ⟨h₁.1, wpAny_call h₁.2⟩) fun _ _ z => z)))
section
variable {env : Env} {L : Addr} {outer : List Env} {x f er : Addr} {mA m : Str → Option Value} {Q : Flow → Shared → Prop} {E' : Value → Shared → Prop}
variable {q1 q2 q3 q4 q5 q6 q7 q8 q9 : Pos}
abbrev suite1 (q1 q2 q3 q4 q5 q6 q7 q8 q9 : Pos) : List Stmt :=
  [.Assert (.UnaryOp .Not (.Call (.Name "_isfinite" q1) [.Name "x" q2] [] q3) q4) none q5, .Return (some (.Tuple [.Name "x" q6, .Constant .none 0 q7] 0 q8)) q9]
theorem assert_at {test : Expr} {pos : Pos} {Q : Flow → Shared → Prop}
    (h : wpAny (model prog w) A (isTrue test env (eval test env)) (fun b s₁ => if b then Q .next s₁ else Hd A s₁.heap ∧ ∀ h' e a0, s₁.heap.get? e = none → Ext [] s₁.heap h' → Exc h' e (.type "AssertionError") a0 (ctxOf A) none → E (.ref e) { s₁ with heap := h' }) E s) :
    wpAny (model prog w) A (exec (.Assert test none pos) env) Q E s := by
  rw [arm_exec_Assert]
  refine wpAny_bind (wpAny_standAt (wpAny_bind (wpAny_mono h (fun b s₁ h₁ => ?_) fun _ _ x => x)))
  cases b with
  | true => exact wpAny_pure h₁
  | false =>
    simp only [Bool.false_eq_true, if_false] at h₁ ⊢
    unfold assertFails valueOfOpt
    refine wpAny_bind (wpAny_pure ?_)
    refine wpAny_bind (wpAny_standAt ?_)
    refine wpAny_bind (wpAny_rule ?_)
    refine wpAny_bind (wpAny_newExc_plain plainExc_AssertionError fun h' e hm => ?_)
    obtain ⟨k, t, he, _⟩ := made_exc hm
    exact raise_new2 (h₀ := s₁.heap) h₁.1 hm.new k he fun h₂ x₂ _ e₂ => h₁.2 h₂ e _ hm.new x₂ e₂
theorem test1 {Q : Bool → Shared → Prop} {A' : Around} (G : G0 w B mg mb) (hB : B.StaysIn s.heap) (C : Act env L A outer) (hns : s.heap.Ns L m) (hx : m "x" = some (.ref x)) (kx : env.kindOf "x" = some .local) (kI : env.kindOf "_isfinite" = some .globalImplicit) {whole : Sem Value}
    (h : codeAny (model prog w) A' (.call (.ref 62) ⟨[.ref x], []⟩) (fun r s' => match r with | .ok (.ret v) => wpAny (model prog w) A' (truthy v) (fun b s₁ => Q (!b) s₁) E s' | .ok _ => False | .error e => E e s') s) :
    wpAny (model prog w) A' (isTrue (.UnaryOp .Not (.Call (.Name "_isfinite" q1) [.Name "x" q2] [] q3) q4) env whole) Q E s := by
  have h62 := G.X 62 _ rfl
  refine wpAny_isTrue_Not (wpAny_isTrue_value (Call_Name (trees := [(false, eval (.Name "x" q2) env)]) rfl ?_))
  refine name_g (v := .ref 62) G hB rfl ?_ C.kind C.glob kI
  exact call1 (name_l C hns kx hx ⟨⟨hB _ _ h62, rfl⟩, h⟩)
theorem suite1_val {l : Addr} (G : G0 w B mg mb) (hB : B.StaysIn s.heap) (hroom : A.depth + 1 < recursionLimit) (C : Act env L A outer) (hl : Frs s.heap (env :: outer)) (T : Thing B x mA) (hns : s.heap.Ns L m) (hx : m "x" = some (.ref x)) (kx : env.kindOf "x" = some .local) (kI : env.kindOf "_isfinite" = some .globalImplicit)
    (hv : mA "is_finite" = some (.ref f)) (F : Lam B f (.ref l)) (hl0 : B.IsList l #[])
    (h : ∀ h' tk t, Ext [] s.heap h' → s.heap.get? t = none → h'.get? t = some { cls := .type "tuple", data := .seq #[.ref x, .none] } → Q (.ret (.ref t)) { s with heap := h', toks := tk }) :
    wpAny (model prog w) (A.mark (some (.ref er))) (execs (suite1 q1 q2 q3 q4 q5 q6 q7 q8 q9) env) Q E' s := by
  refine wpAny_execs_cons (assert_at (test1 G hB C hns hx kx kI ?_))
  refine isfinite_call_lam G hB hroom C.frames hl T hv F fun h₁ tk x₁ => ?_
  have hB₁ : B.StaysIn h₁ := x₁.base hB (fun b hb => nomatch hb)
  refine wpAny_truthy_list (s := { s with heap := h₁, toks := tk }) (list_keeps hl0 hB₁) (by decide) ?_
  refine wpAny_execs_cons (wpAny_Return_some (wpAny_Tuple (args_cons (name_l (s := { s with heap := h₁, toks := tk + 1 + 1 }) C (x₁.ns hns) kx hx (args_cons (wpAny_Constant_none (args_nil ⟨by show 2 ≤ sizeLine; decide +kernel, ?_⟩)))))))
  exact h _ _ _ (x₁.trans ext_push fun b hb => nomatch hb) (x₁.fresh (none_of_ge (Nat.le_refl _))) (Heap.get?_push_size _ rfl)
theorem suite1_assert {l : Addr} {items : Array Value} (G : G0 w B mg mb) (hB : B.StaysIn s.heap) (hroom : A.depth + 1 < recursionLimit) (C : Act env L A outer) (hl : Frs s.heap (env :: outer)) (T : Thing B x mA) (hns : s.heap.Ns L m) (hx : m "x" = some (.ref x)) (kx : env.kindOf "x" = some .local) (kI : env.kindOf "_isfinite" = some .globalImplicit)
    (hv : mA "is_finite" = some (.ref f)) (F : Lam B f (.ref l)) (hl1 : B.IsList l items) (h1 : items.isEmpty = false) (hz : (items.size : Int) < 2 ^ 63) (ht : Tip s.heap er)
    (h : Raised E' s (fr (env :: outer)) (rawInt L) (.type "AssertionError")) :
    wpAny (model prog w) (A.mark (some (.ref er))) (execs (suite1 q1 q2 q3 q4 q5 q6 q7 q8 q9) env) Q (NB (model prog w) A env er E') s := by
  refine wpAny_execs_cons (assert_at (test1 G hB C hns hx kx kI ?_))
  refine isfinite_call_lam G hB hroom C.frames hl T hv F fun h₁ tk x₁ => ?_
  have hB₁ : B.StaysIn h₁ := x₁.base hB (fun b hb => nomatch hb)
  refine wpAny_truthy_list (s := { s with heap := h₁, toks := tk }) (list_keeps hl1 hB₁) hz ?_
  rw [h1]
  refine ⟨.inr ⟨er, rfl, (ht.keep x₁ (by simp)).short⟩, fun h₂ e a0 hf x₂ e₂ => ?_⟩
  refine in_handler (s := { s with heap := h₂, toks := tk + 1 + 1 }) C.frames (x₂.frs (x₁.frs hl)) C.frame e₂ (fun p hp => nomatch hp) fun h₃ T₃ hT₃ x₃ e₃ => ?_
  refine h h₃ _ e _ _ T₃ (x₁.fresh hf) (x₁.fresh (x₂.fresh hT₃)) ?_ e₃
  refine ((x₁.trans x₂ (fun b hb => nomatch hb)).mono (fun b hb => nomatch hb)).trans x₃ fun b hb => ?_
  rcases List.mem_cons.mp (show b ∈ e :: fr (env :: outer) from hb) with rfl | hb
  · exact .inr (x₁.fresh hf)
  · exact .inl hb
theorem suite1_none (G : G0 w B mg mb) (hB : B.StaysIn s.heap) (hroom : A.depth + 1 < recursionLimit) (C : Act env L A outer) (hl : Frs s.heap (env :: outer)) (hoff : ∀ a ∈ fr (env :: outer), B.get? a = none) (T : Thing B x mA) (hns : s.heap.Ns L m) (hx : m "x" = some (.ref x)) (kx : env.kindOf "x" = some .local) (kI : env.kindOf "_isfinite" = some .globalImplicit)
    (hv : mA "is_finite" = none) (ht : Tip s.heap er) (h : Raised E' s (fr (env :: outer)) (rawInt L) (.type "TypeError")) :
    wpAny (model prog w) (A.mark (some (.ref er))) (execs (suite1 q1 q2 q3 q4 q5 q6 q7 q8 q9) env) Q (NB (model prog w) A env er E') s := by
  refine wpAny_execs_cons (assert_at (test1 G hB C hns hx kx kI ?_))
  refine isfinite_call_none G hB hroom C.frames hl hoff T hv (.inr ⟨er, rfl, ht⟩) fun h₂ tk e a0 c0 T₂ hf hT₂ x₂ e₂ => ?_
  refine in_handler (s := { s with heap := h₂, toks := tk }) C.frames (x₂.frs hl) C.frame e₂ (fun p hp => by cases hp; rfl) fun h₃ T₃ hT₃ x₃ e₃ => ?_
  refine h h₃ _ e _ _ T₃ hf (x₂.fresh hT₃) (x₂.trans x₃ fun b hb => ?_) e₃
  rcases List.mem_cons.mp (show b ∈ e :: T₂ :: fr (env :: outer) from hb) with rfl | hb
  · exact .inr hf
  · rcases List.mem_cons.mp hb with rfl | hb
    · exact .inr hT₂
    · exact .inl hb
theorem suite1_ask {e2 : Addr} {a2 : Value} (G : G0 w B mg mb) (hB : B.StaysIn s.heap) (hroom : A.depth + 1 < recursionLimit) (C : Act env L A outer) (hl : Frs s.heap (env :: outer)) (hoff : ∀ a ∈ e2 :: fr (env :: outer), B.get? a = none) (T : Thing B x mA) (hns : s.heap.Ns L m) (hx : m "x" = some (.ref x)) (kx : env.kindOf "x" = some .local) (kI : env.kindOf "_isfinite" = some .globalImplicit)
    (hv : mA "is_finite" = some (.ref f)) (F : Ask B f e2) (ht : Tip s.heap er) (he2 : Exc s.heap e2 (.type "AttributeError") a2 .none none) (hne : er ≠ e2)
    (h : ∀ h' tk e' a' c' T', s.heap.get? e' = none → s.heap.get? T' = none → Ext (e2 :: fr (env :: outer)) s.heap h' → Exc h' e' (.type "TypeError") a' c' (some (T', rawInt L)) → (∃ T'', s.heap.get? T'' = none ∧ T'' ≠ T' ∧ T'' ≠ e' ∧ Exc h' e2 (.type "AttributeError") a2 (.ref er) (some (T'', .none))) → E' (.ref e') { s with heap := h', toks := tk }) :
    wpAny (model prog w) (A.mark (some (.ref er))) (execs (suite1 q1 q2 q3 q4 q5 q6 q7 q8 q9) env) Q (NB (model prog w) A env er E') s := by
  refine wpAny_execs_cons (assert_at (test1 G hB C hns hx kx kI ?_))
  refine isfinite_call_ask G hB hroom C.frames hl (tb := none) hoff T hv F he2 (fun p hp => nomatch hp) (.inr ⟨rfl, er, rfl, hne, ht⟩) (.inr ⟨er, rfl, ht, by simpa using hne⟩) fun h₂ tk e a0 c0 T₂ hf hT₂ x₂ e₂ k₂ => ?_
  obtain ⟨T'', n'', d'', dd'', q''⟩ := k₂
  refine in_handler (s := { s with heap := h₂, toks := tk }) C.frames (x₂.frs hl) C.frame e₂ (fun p hp => by cases hp; rfl) fun h₃ T₃ hT₃ x₃ e₃ => ?_
  refine h h₃ _ e _ _ T₃ hf (x₂.fresh hT₃) (x₂.trans x₃ fun b hb => ?_) e₃ ⟨T'', n'', ?_, dd'', q''.keep x₃ ?_ ?_⟩
  · rcases List.mem_cons.mp (show b ∈ e :: T₂ :: fr (env :: outer) from hb) with rfl | hb
    · exact .inr hf
    · rcases List.mem_cons.mp hb with rfl | hb
      · exact .inr hT₂
      · exact .inl (List.mem_cons_of_mem _ hb)
  · intro q
    obtain ⟨_, _, _, _, _, _, _, _, _, oT, ts, hoT, hdT, _⟩ := q''
    rw [show (T'', Value.none).1 = T₃ from q, hT₃] at hoT; cases hoT
  · intro hb
    obtain ⟨o, ho, _⟩ := he2.there
    rcases List.mem_cons.mp (show e2 ∈ e :: T₂ :: fr (env :: outer) from hb) with q | q
    · rw [q, hf] at ho; cases ho
    · rcases List.mem_cons.mp q with q | q
      · rw [q, hT₂] at ho; cases ho
      · exact he2.off_frames hl q
  · intro b hb hb'
    obtain ⟨_, _, _, _, _, _, _, _, _, oT, ts, hoT, hdT, _⟩ := q''
    rw [List.mem_singleton.mp (show b ∈ [T''] from hb)] at hb'
    rcases List.mem_cons.mp (show T'' ∈ e :: T₂ :: fr (env :: outer) from hb') with q | q
    · exact dd'' q
    · rcases List.mem_cons.mp q with q | q
      · exact d'' q
      · obtain ⟨_, o', ho', hn⟩ := (x₂.frs hl).mem q
        rw [hoT] at ho'; cases ho'; exact hn ts hdT
end
end Kq
end
section
open PySem PySem.W PySem.Spec PySem.Calls PyProof.Rows
open Builtin Builtin.ObjectAttr Builtin.Getset_descriptor
set_option maxRecDepth 100000
namespace Kq
variable {prog : Program} {w : World} {A : Around} {E : Value → Shared → Prop} {B : Heap} {mg mb : Str → Option Value} {s : Shared}
theorem clause_OE : Clause "OverflowError" := ⟨by rw [isSubtype_type]; kernel_rfl, by rw [isSubtype_type]; kernel_rfl⟩
theorem clause_VE : Clause "ValueError" := ⟨by rw [isSubtype_type]; kernel_rfl, by rw [isSubtype_type]; kernel_rfl⟩
section
variable {env : Env} {L : Addr} {outer : List Env} {x f er : Addr} {mA m : Str → Option Value} {Q : Flow → Shared → Prop} {c a0 : Value}
variable {p1 p2 p3 p4 p5 p6 p7 p8 p9 p10 p11 p12 q1 q2 q3 q4 q5 q6 q7 q8 q9 : Pos}
abbrev hand2 (p8 p9 p10 p11 q1 q2 q3 q4 q5 q6 q7 q8 q9 : Pos) : List ExceptHandler :=
  [.ExceptHandler (some (.Tuple [.Name "OverflowError" p8, .Name "ValueError" p9] 0 p10)) none (suite1 q1 q2 q3 q4 q5 q6 q7 q8 q9) p11]
abbrev try1 (p1 p2 p3 p4 p5 p6 p7 p8 p9 p10 p11 p12 q1 q2 q3 q4 q5 q6 q7 q8 q9 : Pos) : Stmt :=
  .Try [.Return (some (.Call (.Attribute (.Name "x" p1) "as_integer_ratio" p2) [] [] p3)) p4] (.ExceptHandler (some (.Name "AttributeError" p5)) none [.Pass p6] p7 :: hand2 p8 p9 p10 p11 q1 q2 q3 q4 q5 q6 q7 q8 q9) [] [] p12
structure Knows (env : Env) : Prop where
  x : env.kindOf "x" = some .local
  ae : env.kindOf "AttributeError" = some .globalImplicit
  oe : env.kindOf "OverflowError" = some .globalImplicit
  ve : env.kindOf "ValueError" = some .globalImplicit
  fin : env.kindOf "_isfinite" = some .globalImplicit
  type : env.kindOf "type" = some .globalImplicit
  te : env.kindOf "TypeError" = some .globalImplicit
  msg : env.kindOf "msg" = some .local
variable (hline : (p2.endLine == p3.line) = true)
include hline
theorem t1_lam {v : Value} (G : G0 w B mg mb) (hB : B.StaysIn s.heap) (hroom : A.depth < recursionLimit) (C : Act env L A outer) (T : Thing B x mA) (hns : s.heap.Ns L m) (hx : m "x" = some (.ref x)) (k : Knows env) (hv : mA "as_integer_ratio" = some (.ref f)) (F : Lam B f v)
    (h : ∀ h' tk, Ext [] s.heap h' → Q (.ret v) { s with heap := h', toks := tk }) : wpAny (model prog w) A (exec (try1 p1 p2 p3 p4 p5 p6 p7 p8 p9 p10 p11 p12 q1 q2 q3 q4 q5 q6 q7 q8 q9) env) Q E s := by
  refine wpAny_Try_except (wpAny_execs_cons (wpAny_Return_some (call_m hline rfl (name_l C hns k.x hx fun pl => ?_))))
  refine meth_hit G hB no_as_integer_ratio (inst_keeps T.inst hB) hv ?_
  obtain ⟨o, nm, qual, n, pos, cc, pm, cdv, ct, ho, hd, _⟩ := id F
  refine call0 (s := { s with toks := s.toks + 1 }) (hB _ _ ho) hd ?_
  exact lam_call (s := { s with toks := s.toks + 1 }) G hB hroom F fun h' tk x₁ => h h' tk x₁
theorem t1_none (G : G0 w B mg mb) (hB : B.StaysIn s.heap) (C : Act env L A outer) (hl : Frs s.heap (env :: outer)) (hoff : ∀ a ∈ fr (env :: outer), B.get? a = none) (T : Thing B x mA) (hns : s.heap.Ns L m) (hx : m "x" = some (.ref x)) (k : Knows env) (hv : mA "as_integer_ratio" = none) (hh : A.handled = none)
    (h : ∀ h' tk, Ext (fr (env :: outer)) s.heap h' → Q .next { s with heap := h', toks := tk }) : wpAny (model prog w) A (exec (try1 p1 p2 p3 p4 p5 p6 p7 p8 p9 p10 p11 p12 q1 q2 q3 q4 q5 q6 q7 q8 q9) env) Q E s := by
  refine wpAny_Try_except (wpAny_execs_cons (wpAny_Return_some (call_m hline rfl (name_l C hns k.x hx fun pl => ?_))))
  refine meth_miss G hB no_as_integer_ratio (inst_keeps T.inst hB) hv (.inl hh) fun h₁ tk e a0 hf x₁ e₁ => ?_
  have hB₁ : B.StaysIn h₁ := x₁.base hB (fun b hb => nomatch hb)
  refine caught (s := { s with heap := h₁, toks := tk }) (b := true) G hB₁ C.frames (x₁.frs hl) C.frame e₁ (fun p hp => nomatch hp) (fun a ha => ?_) rfl rfl (by decide) clause_AE (sub_AE B) (fun h₂ T₂ hT₂ x₂ e₂ => ?_) C.kind C.glob C.blt k.ae
  · rcases List.mem_cons.mp (show a ∈ e :: fr (env :: outer) from ha) with rfl | ha
    · exact base_none hB hf
    · exact hoff a ha
  · simp only [if_true]
    refine wpAny_execs_cons (wpAny_Pass (wpAny_pure (h _ _ ?_)))
    refine (x₁.mono fun b hb => nomatch hb).trans x₂ fun b hb => ?_
    rcases List.mem_cons.mp (show b ∈ e :: fr (env :: outer) from hb) with rfl | hb
    · exact .inr hf
    · exact .inl hb
theorem t1_ask (G : G0 w B mg mb) (hB : B.StaysIn s.heap) (hroom : A.depth < recursionLimit) (C : Act env L A outer) (hl : Frs s.heap (env :: outer)) (hoff : ∀ a ∈ er :: fr (env :: outer), B.get? a = none) (T : Thing B x mA) (hns : s.heap.Ns L m) (hx : m "x" = some (.ref x)) (k : Knows env) (hv : mA "as_integer_ratio" = some (.ref f)) (F : Ask B f er) (hh : A.handled = none)
    (he : Exc s.heap er c a0 .none none) (hP : Plain B c) (hS : Sub B c (.type "BaseException") true) {b : Bool} (hs : Sub B c (.type "AttributeError") b)
    (h : ∀ h' tk T', s.heap.get? T' = none → Ext (er :: fr (env :: outer)) s.heap h' → Exc h' er c a0 .none (some (T', .none)) →
      if b then Q .next { s with heap := h', toks := tk } else wpAny (model prog w) A (handleBy (.ref er) env (hand2 p8 p9 p10 p11 q1 q2 q3 q4 q5 q6 q7 q8 q9)) Q E { s with heap := h', toks := tk }) :
    wpAny (model prog w) A (exec (try1 p1 p2 p3 p4 p5 p6 p7 p8 p9 p10 p11 p12 q1 q2 q3 q4 q5 q6 q7 q8 q9) env) Q E s := by
  refine wpAny_Try_except (wpAny_execs_cons (wpAny_Return_some (call_m hline rfl (name_l C hns k.x hx fun pl => ?_))))
  refine meth_hit G hB no_as_integer_ratio (inst_keeps T.inst hB) hv ?_
  obtain ⟨o, nm, qual, n, np, pos, cc, doc, pm, cdv, ct, ho, hd, _⟩ := id F
  refine call0 (s := { s with toks := s.toks + 1 }) (hB _ _ ho) hd ?_
  refine ask_call (s := { s with toks := s.toks + 1 }) G hB hroom C.frames hl F he (fun p hp => nomatch hp) (fun b hb => nomatch hb) hP hS (.inl hh) fun h₁ T₁ tk hT₁ x₁ e₁ => ?_
  rw [hh] at e₁
  have hB₁ : B.StaysIn h₁ := x₁.base hB hoff
  refine caught (s := { s with heap := h₁, toks := tk }) (b := b) G hB₁ C.frames (x₁.frs hl) C.frame e₁ (fun p hp => by cases hp; rfl) (fun a ha => ?_) rfl rfl (by decide) clause_AE hs (fun h₂ T₂ hT₂ x₂ e₂ => ?_) C.kind C.glob C.blt k.ae
  · rcases List.mem_cons.mp (show a ∈ er :: T₁ :: fr (env :: outer) from ha) with rfl | ha
    · exact hoff _ (by simp)
    · rcases List.mem_cons.mp ha with rfl | ha
      · exact base_none hB hT₁
      · exact hoff a (List.mem_cons_of_mem _ ha)
  · have kk := h h₂ tk T₂ (x₁.fresh hT₂) (x₁.trans x₂ fun b hb => by
      rcases List.mem_cons.mp (show b ∈ er :: T₁ :: fr (env :: outer) from hb) with rfl | hb
      · exact .inl (.head _)
      · rcases List.mem_cons.mp hb with rfl | hb
        · exact .inr hT₁
        · exact .inl (List.mem_cons_of_mem _ hb)) e₂
    cases b with
    | true =>
      simp only [if_true] at kk ⊢
      exact wpAny_execs_cons (wpAny_Pass (wpAny_pure kk))
    | false => simpa using kk
omit hline
theorem hand2_runs {T' : Addr} {b1 b2 : Bool} (G : G0 w B mg mb) (hB : B.StaysIn s.heap) (C : Act env L A outer) (hl : Frs s.heap (env :: outer)) (k : Knows env) (he : Exc s.heap er c a0 .none (some (T', .none))) (hs1 : Sub B c (.type "OverflowError") b1) (hs2 : Sub B c (.type "ValueError") b2) (hBT : B.get? T' = none)
    (h : ∀ h', Ext [T'] s.heap h' → Exc h' er c a0 .none (some (T', if b1 || b2 then .none else rawInt L)) →
      if b1 || b2 then wpAny (model prog w) (A.mark (some (.ref er))) (execs (suite1 q1 q2 q3 q4 q5 q6 q7 q8 q9) env) Q (NB (model prog w) A env er E) { s with heap := h' } else E (.ref er) { s with heap := h' }) :
    wpAny (model prog w) A (handleBy (.ref er) env (hand2 p8 p9 p10 p11 q1 q2 q3 q4 q5 q6 q7 q8 q9)) Q E s := by
  refine handle (wpAny_Tuple (args_cons (name_b (v := .type "OverflowError") G hB rfl rfl (by decide) (args_cons (name_b (v := .type "ValueError") G hB rfl rfl (by decide) (args_nil ⟨by show 2 ≤ sizeLine; decide +kernel, ?_⟩) C.kind C.glob C.blt k.ve)) C.kind C.glob C.blt k.oe)))
  have x₁ : Ext [] s.heap (s.heap.push { cls := .type "tuple", data := .seq #[.type "OverflowError", .type "ValueError"] }) := ext_push
  have e₁ := he.keep x₁ (by simp) (by simp)
  have hB₁ : B.StaysIn _ := x₁.base hB (fun b hb => nomatch hb)
  obtain ⟨o, ho, hc⟩ := e₁.there
  refine matches2 clause_OE clause_VE ⟨_, Heap.get?_push_size _ rfl, rfl, 0, rfl⟩ ho hB₁ (hc ▸ hs1) (hc ▸ hs2) ?_
  cases hb : (b1 || b2) with
  | true =>
    simp only [if_true]
    refine flight e₁ fun h₂ x₂ e₂ => ?_
    have := h h₂ (x₁.mono (fun b hb => nomatch hb) |>.trans x₂ fun b hb => .inl hb) (by rw [hb]; exact e₂)
    rw [hb] at this
    exact this
  | false =>
    simp only [Bool.false_eq_true, if_false]
    refine pass_on C.frame e₁ fun h₂ x₂ e₂ => ?_
    have := h h₂ (x₁.mono (fun b hb => nomatch hb) |>.trans x₂ fun b hb => .inl hb) (by rw [hb]; exact e₂)
    rw [hb] at this
    exact this
end
end Kq
end
section
open PySem PySem.W PySem.Spec PySem.Calls PyProof.Rows
open Builtin Builtin.ObjectAttr Builtin.Getset_descriptor
set_option maxRecDepth 100000
namespace Kq
variable {prog : Program} {w : World} {A : Around} {E : Value → Shared → Prop} {B : Heap} {mg mb : Str → Option Value} {s : Shared}
section
variable {outer : List Env} {x f er : Addr} {mA : Str → Option Value} {R : Result → Shared → Prop} {c a0 : Value}
theorem ratio_enter (G : G0 w B mg mb) (hB : B.StaysIn s.heap) (hroom : A.depth < recursionLimit) (hfr : A.frames = some outer) (hl : Frs s.heap outer)
    (h : ∀ env h₀ A' p1 p2 p3 p4 p5 p6 p7 p8 p9 p10 p11 p12 q1 q2 q3 q4 q5 q6 q7 q8 q9 r1 r2 r3 r4 r5 r6 r7 r8 r9 r10 r11 r12 r13 r14 r15 r16 r17 r18 r19 r20 r21 r22 r23 tk, (p2.endLine == p3.line) = true → A'.depth = A.depth + 1 → A'.handled = A.handled →
      Act env s.heap.objs.size A' outer → Knows env → (∃ m, h₀.Ns s.heap.objs.size m ∧ m "x" = some (.ref x)) → Ext [] s.heap h₀ →
      wpAny (model prog w) A' (execs [try1 p1 p2 p3 p4 p5 p6 p7 p8 p9 p10 p11 p12 q1 q2 q3 q4 q5 q6 q7 q8 q9, try2 r1 r2 r3 r4 r5 r6 r7 r8 r9 r10 r11 r12 r13 r14 r15 r16 r17 r18 r19 r20 r21 r22 r23] env)
        (fun f s' => R (.ok (.ret (match f with | .ret v => v | _ => .none))) s') (fun e s' => wpAny (model prog w) A' (leaving env e) (fun _ s'' => R (.error e) s'') (fun e' s'' => R (.error e') s'') s') { s with heap := h₀, toks := tk }) :
    codeAny (model prog w) A (.call (.ref 69) ⟨[.ref x], []⟩) R s := by
  have h69 := G.X 69 _ rfl
  refine defcall (binds := [("x", .ref x)]) G hB hroom hfr hl (hB _ _ h69) rfl ((codeRec_of G.X rfl).keeps hB) rfl rfl (by decide) (fun y hy => by rw [List.mem_singleton.mp hy]; rfl) fun h₀ hns x₀ hl₀ hfr₀ => ?_
  exact h _ h₀ _ _ _ _ _ _ _ _ _ _ _ _ _ _ _ _ _ _ _ _ _ _ _ _ _ _ _ _ _ _ _ _ _ _ _ _ _ _ _ _ _ _ _ _ _ _ rfl rfl rfl ⟨rfl, rfl, rfl, rfl, rfl, hfr₀⟩ ⟨rfl, rfl, rfl, rfl, rfl, rfl, rfl, rfl⟩ ⟨_, hns, rfl⟩ x₀
def Gone (B h : Heap) (mA : Str → Option Value) (Y : List Addr) : Prop :=
  (mA "as_integer_ratio" = none ∧ Y = []) ∨ (∃ f er a0, mA "as_integer_ratio" = some (.ref f) ∧ Ask B f er ∧ Exc h er (.type "AttributeError") a0 .none none ∧ B.get? er = none ∧ Y = [er])
theorem cons_fr {env : Env} {L : Addr} (C : Act env L A outer) : fr (env :: outer) = L :: fr outer := by simp [fr, C.frame]
theorem t1_gone {env : Env} {L : Addr} {m : Str → Option Value} {Y : List Addr} {Q : Flow → Shared → Prop} {p1 p2 p3 p4 p5 p6 p7 p8 p9 p10 p11 p12 q1 q2 q3 q4 q5 q6 q7 q8 q9 : Pos} (hline : (p2.endLine == p3.line) = true) (G : G0 w B mg mb) (hB : B.StaysIn s.heap) (hroom : A.depth < recursionLimit) (C : Act env L A outer) (hl : Frs s.heap (env :: outer))
    (hoff : ∀ a ∈ fr (env :: outer), B.get? a = none) (T : Thing B x mA) (hns : s.heap.Ns L m) (hx : m "x" = some (.ref x)) (k : Knows env) (hg : Gone B s.heap mA Y) (hh : A.handled = none)
    (h : ∀ h' tk, Ext (Y ++ fr (env :: outer)) s.heap h' → B.StaysIn h' → Q .next { s with heap := h', toks := tk }) : wpAny (model prog w) A (exec (try1 p1 p2 p3 p4 p5 p6 p7 p8 p9 p10 p11 p12 q1 q2 q3 q4 q5 q6 q7 q8 q9) env) Q E s := by
  rcases hg with ⟨hv, rfl⟩ | ⟨f, er, a0, hv, F, he, hBe, rfl⟩
  · exact t1_none hline G hB C hl hoff T hns hx k hv hh fun h' tk x₁ => h h' tk x₁ (x₁.base hB hoff)
  · have hoff' : ∀ a ∈ er :: fr (env :: outer), B.get? a = none := fun a ha => (List.mem_cons.mp ha).elim (fun q => q ▸ hBe) (hoff a)
    refine t1_ask hline G hB hroom C hl hoff' T hns hx k hv F hh he (plain_AE B) (sub_AE_base B) (sub_AE B) fun h' tk T' hT' x₁ e₁ => ?_
    simp only [if_true]
    exact h h' tk x₁ (x₁.base hB hoff')
theorem ratio_lam {v : Value} (G : G0 w B mg mb) (hB : B.StaysIn s.heap) (hroom : A.depth + 1 < recursionLimit) (hfr : A.frames = some outer) (hl : Frs s.heap outer) (T : Thing B x mA) (hv : mA "as_integer_ratio" = some (.ref f)) (F : Lam B f v)
    (h : ∀ h' tk, Ext [] s.heap h' → R (.ok (.ret v)) { s with heap := h', toks := tk }) : codeAny (model prog w) A (.call (.ref 69) ⟨[.ref x], []⟩) R s := by
  refine ratio_enter G hB (by omega) hfr hl fun env h₀ A' p1 p2 p3 p4 p5 p6 p7 p8 p9 p10 p11 p12 q1 q2 q3 q4 q5 q6 q7 q8 q9 r1 r2 r3 r4 r5 r6 r7 r8 r9 r10 r11 r12 r13 r14 r15 r16 r17 r18 r19 r20 r21 r22 r23 tk hline hd hhd C k hm x₀ => ?_
  obtain ⟨m, hns, hx⟩ := hm
  refine wpAny_execs_cons (t1_lam (s := { s with heap := h₀, toks := tk }) hline G (x₀.base hB fun b hb => nomatch hb) (by omega) C T hns hx k hv F fun h' tk' x₁ => ?_)
  exact h h' tk' (x₀.trans x₁ fun b hb => nomatch hb)
theorem ratio_pair {a b : Addr} {Y : List Addr} (G : G0 w B mg mb) (hB : B.StaysIn s.heap) (hroom : A.depth + 1 < recursionLimit) (hfr : A.frames = some outer) (hl : Frs s.heap outer) (hoff : ∀ a ∈ fr outer, B.get? a = none) (hh : A.handled = none) (T : Thing B x mA) (hg : Gone B s.heap mA Y)
    (ha : mA "numerator" = some (.ref a)) (hb : mA "denominator" = some (.ref b))
    (h : ∀ h' tk t, Ext (Y ++ fr outer) s.heap h' → s.heap.get? t = none → h'.get? t = some { cls := .type "tuple", data := .seq #[.ref a, .ref b] } → R (.ok (.ret (.ref t))) { s with heap := h', toks := tk }) : codeAny (model prog w) A (.call (.ref 69) ⟨[.ref x], []⟩) R s := by
  refine ratio_enter G hB (by omega) hfr hl fun env h₀ A' p1 p2 p3 p4 p5 p6 p7 p8 p9 p10 p11 p12 q1 q2 q3 q4 q5 q6 q7 q8 q9 r1 r2 r3 r4 r5 r6 r7 r8 r9 r10 r11 r12 r13 r14 r15 r16 r17 r18 r19 r20 r21 r22 r23 tk hline hd hhd C k hm x₀ => ?_
  obtain ⟨m, hns, hx⟩ := hm
  have hL := none_of_ge (Nat.le_refl s.heap.objs.size)
  have hg₀ : Gone B h₀ mA Y := hg.imp id fun ⟨f, er, a0, e1, e2, e3, r⟩ => ⟨f, er, a0, e1, e2, e3.keep x₀ (by simp) (by simp), r⟩
  refine wpAny_execs_cons (t1_gone (s := { s with heap := h₀, toks := tk }) hline G (x₀.base hB fun b hb => nomatch hb) (by omega) C (C.frs x₀ hl hns) (off_cons0 C.frame hoff (base_none hB hL)) T hns hx k hg₀ (hhd.trans hh) fun h₁ tk₁ x₁ hB₁ => ?_)
  refine wpAny_execs_cons (try2_pair (s := { s with heap := h₁, toks := tk₁ }) G hB₁ C T (x₁.ns hns) hx k.x ha hb fun h₂ tk₂ t x₂ ht ht' => ?_)
  have x₀₁ := ext_out C.frame hL x₀ x₁
  exact h h₂ tk₂ t (x₀₁.trans x₂ fun b hb => nomatch hb) (x₀₁.fresh ht) ht'
theorem ratio_lacks {Y : List Addr} (G : G0 w B mg mb) (hB : B.StaysIn s.heap) (hroom : A.depth + 1 < recursionLimit) (hfr : A.frames = some outer) (hl : Frs s.heap outer) (hoff : ∀ a ∈ fr outer, B.get? a = none) (hh : A.handled = none) (T : Thing B x mA) (hg : Gone B s.heap mA Y)
    (hlack : mA "numerator" = none ∨ ((∃ a, mA "numerator" = some (.ref a)) ∧ mA "denominator" = none))
    (h : ∀ h' tk e' c' t T', s.heap.get? e' = none → s.heap.get? T' = none → Ext (Y ++ fr outer) s.heap h' → Exc h' e' (.type "TypeError") (.ref t) c' (some (T', .none)) → s.heap.get? t = none → (∃ u, h'.get? t = some { cls := .type "tuple", data := .seq #[.str sayAll u] }) → R (.error (.ref e')) { s with heap := h', toks := tk }) :
    codeAny (model prog w) A (.call (.ref 69) ⟨[.ref x], []⟩) R s := by
  refine ratio_enter G hB (by omega) hfr hl fun env h₀ A' p1 p2 p3 p4 p5 p6 p7 p8 p9 p10 p11 p12 q1 q2 q3 q4 q5 q6 q7 q8 q9 r1 r2 r3 r4 r5 r6 r7 r8 r9 r10 r11 r12 r13 r14 r15 r16 r17 r18 r19 r20 r21 r22 r23 tk hline hd hhd C k hm x₀ => ?_
  obtain ⟨m, hns, hx⟩ := hm
  have hL := none_of_ge (Nat.le_refl s.heap.objs.size)
  have hg₀ : Gone B h₀ mA Y := hg.imp id fun ⟨f, er, a0, e1, e2, e3, r⟩ => ⟨f, er, a0, e1, e2, e3.keep x₀ (by simp) (by simp), r⟩
  refine wpAny_execs_cons (t1_gone (s := { s with heap := h₀, toks := tk }) hline G (x₀.base hB fun b hb => nomatch hb) (by omega) C (C.frs x₀ hl hns) (off_cons0 C.frame hoff (base_none hB hL)) T hns hx k hg₀ (hhd.trans hh) fun h₁ tk₁ x₁ hB₁ => ?_)
  have x₀₁ := ext_out C.frame hL x₀ x₁
  refine wpAny_execs_cons (try2_raises (s := { s with heap := h₁, toks := tk₁ }) (h₀ := s.heap) (X := Y ++ fr outer) G hB₁ C T (x₁.ns hns) hx k.x k.ae k.type k.te k.msg x₀₁ hL (base_none hB hL) hl hoff (hhd.trans hh) hlack fun h₂ tk₂ e' c' t T' n1 n2 x₂ e₂ n3 tt => ?_)
  refine leave_again (s := { s with heap := h₂, toks := tk₂ }) C.frame e₂ fun h₃ x₃ e₃ => ?_
  have x₀₂ : Ext (Y ++ fr outer) s.heap h₂ := x₂.mono fun b hb => by simp only [List.mem_append] at hb ⊢; rcases hb with hb | hb; exact hb; exact .inr hb
  refine h h₃ tk₂ e' c' t T' n1 n2 (x₀₂.trans x₃ fun b hb => .inr (List.mem_singleton.mp hb ▸ n2)) e₃ n3 ?_
  obtain ⟨u, ht⟩ := tt
  refine ⟨u, x₃.keep _ _ ht fun hb => ?_⟩
  obtain ⟨_, _, _, _, _, _, _, _, _, oT, ts, hoT, hdT, _⟩ := e₂
  rw [List.mem_singleton.mp hb] at ht
  rw [show (T', rawInt s.heap.objs.size).1 = T' from rfl, ht] at hoT; cases hoT; cases hdT
end
end Kq
end
section
open PySem PySem.W PySem.Spec PySem.Calls PyProof.Rows
open Builtin Builtin.ObjectAttr Builtin.Getset_descriptor
set_option maxRecDepth 100000
namespace Kq
variable {prog : Program} {w : World} {A : Around} {E : Value → Shared → Prop} {B : Heap} {mg mb : Str → Option Value} {s : Shared}
structure Err (B h : Heap) (er : Addr) (c a0 : Value) (b1 b2 : Bool) : Prop where
  exc : Exc h er c a0 .none none
  plain : Plain B c
  base : Sub B c (.type "BaseException") true
  ae : Sub B c (.type "AttributeError") false
  oe : Sub B c (.type "OverflowError") b1
  ve : Sub B c (.type "ValueError") b2
  off : B.get? er = none
section
variable {outer : List Env} {x f er : Addr} {mA : Str → Option Value} {R : Result → Shared → Prop} {c a0 : Value} {b1 b2 : Bool}
theorem ratio_mid (G : G0 w B mg mb) (hB : B.StaysIn s.heap) (hroom : A.depth + 2 < recursionLimit) (hfr : A.frames = some outer) (hl : Frs s.heap outer) (hoff : ∀ a ∈ fr outer, B.get? a = none) (hh : A.handled = none) (T : Thing B x mA) (hv : mA "as_integer_ratio" = some (.ref f)) (F : Ask B f er) (he : Err B s.heap er c a0 b1 b2)
    (h : ∀ env A' m h₂ tk T' q1 q2 q3 q4 q5 q6 q7 q8 q9 (Q : Flow → Shared → Prop) (E : Value → Shared → Prop), Act env s.heap.objs.size A' outer → Knows env → A'.depth + 1 < recursionLimit → h₂.Ns s.heap.objs.size m → m "x" = some (.ref x) → Frs h₂ (env :: outer) → (∀ a ∈ fr (env :: outer), B.get? a = none) →
      s.heap.get? T' = none → Ext (er :: fr outer) s.heap h₂ → B.StaysIn h₂ → Exc h₂ er c a0 .none (some (T', if b1 || b2 then .none else rawInt s.heap.objs.size)) →
      (∀ v s', R (.ok (.ret v)) s' → Q (.ret v) s') → (∀ e s', wpAny (model prog w) A' (leaving env e) (fun _ s'' => R (.error e) s'') (fun e' s'' => R (.error e') s'') s' → E e s') →
      if b1 || b2 then wpAny (model prog w) (A'.mark (some (.ref er))) (execs (suite1 q1 q2 q3 q4 q5 q6 q7 q8 q9) env) Q (NB (model prog w) A' env er E) { s with heap := h₂, toks := tk } else E (.ref er) { s with heap := h₂, toks := tk }) :
    codeAny (model prog w) A (.call (.ref 69) ⟨[.ref x], []⟩) R s := by
  refine ratio_enter G hB (by omega) hfr hl fun env h₀ A' p1 p2 p3 p4 p5 p6 p7 p8 p9 p10 p11 p12 q1 q2 q3 q4 q5 q6 q7 q8 q9 r1 r2 r3 r4 r5 r6 r7 r8 r9 r10 r11 r12 r13 r14 r15 r16 r17 r18 r19 r20 r21 r22 r23 tk hline hd hhd C k hm x₀ => ?_
  obtain ⟨m, hns, hx⟩ := hm
  have hL := none_of_ge (Nat.le_refl s.heap.objs.size)
  have hB₀ := x₀.base hB fun b hb => nomatch hb
  have off₁ := off_cons0 C.frame hoff (base_none hB hL)
  have off₂ : ∀ a ∈ er :: fr (env :: outer), B.get? a = none := fun a ha => (List.mem_cons.mp ha).elim (fun q => q ▸ he.off) (off₁ a)
  refine wpAny_execs_cons (t1_ask (s := { s with heap := h₀, toks := tk }) hline G hB₀ (by omega) C (C.frs x₀ hl hns) off₂ T hns hx k hv F (hhd.trans hh) (he.exc.keep x₀ (by simp) (by simp)) he.plain he.base he.ae fun h₁ tk₁ T₁ hT₁ x₁ e₁ => ?_)
  simp only [Bool.false_eq_true, if_false]
  have hB₁ := x₁.base hB₀ off₂
  refine hand2_runs (s := { s with heap := h₁, toks := tk₁ }) G hB₁ C (x₁.frs (C.frs x₀ hl hns)) k e₁ he.oe he.ve (base_none hB₀ hT₁) fun h₂ x₂ e₂ => ?_
  have x₀₁ : Ext (er :: fr outer) s.heap h₁ := ext_out (X := [er]) C.frame hL x₀ x₁
  have hT₁' := x₀.fresh hT₁
  exact h env A' m h₂ tk₁ T₁ q1 q2 q3 q4 q5 q6 q7 q8 q9 _ _ C k (by omega) (x₂.ns (x₁.ns hns)) hx (x₂.frs (x₁.frs (C.frs x₀ hl hns))) off₁ hT₁' (x₀₁.trans x₂ fun b hb => .inr (List.mem_singleton.mp hb ▸ hT₁')) (x₂.base hB₁ fun b hb => List.mem_singleton.mp hb ▸ base_none hB₀ hT₁) e₂ (fun v s' hr => hr) (fun e s' hr => hr)
theorem ratio_infinite {g l : Addr} (G : G0 w B mg mb) (hB : B.StaysIn s.heap) (hroom : A.depth + 2 < recursionLimit) (hfr : A.frames = some outer) (hl : Frs s.heap outer) (hoff : ∀ a ∈ fr outer, B.get? a = none) (hh : A.handled = none) (T : Thing B x mA) (hv : mA "as_integer_ratio" = some (.ref f)) (F : Ask B f er) (he : Err B s.heap er c a0 b1 b2) (hb : (b1 || b2) = true)
    (hw : mA "is_finite" = some (.ref g)) (FL : Lam B g (.ref l)) (hl0 : B.IsList l #[])
    (h : ∀ h' tk t, Ext (er :: fr outer) s.heap h' → s.heap.get? t = none → h'.get? t = some { cls := .type "tuple", data := .seq #[.ref x, .none] } → R (.ok (.ret (.ref t))) { s with heap := h', toks := tk }) :
    codeAny (model prog w) A (.call (.ref 69) ⟨[.ref x], []⟩) R s := by
  refine ratio_mid G hB hroom hfr hl hoff hh T hv F he fun env A' m h₂ tk T' q1 q2 q3 q4 q5 q6 q7 q8 q9 Q E C k hd hns hx hl₂ off₂ hT' x₂ hB₂ e₂ hQ hE => ?_
  rw [hb]
  simp only [if_true]
  refine suite1_val (s := { s with heap := h₂, toks := tk }) G hB₂ hd C hl₂ T hns hx k.x k.fin hw FL hl0 fun h₃ tk₃ t x₃ ht ht' => hQ _ _ ?_
  exact h h₃ tk₃ t (x₂.trans x₃ fun b hb => nomatch hb) (x₂.fresh ht) ht'
theorem ratio_out {env : Env} {A' : Around} {L e T : Addr} {c a ctx : Value} {X : List Addr} {h₀ : Heap} (C : Act env L A' outer) (x₀ : Ext X h₀ s.heap) (hT : h₀.get? T = none) (he : Exc s.heap e c a ctx (some (T, rawInt L)))
    (h : ∀ h', Ext X h₀ h' → Ext [T] s.heap h' → Exc h' e c a ctx (some (T, .none)) → R (.error (.ref e)) { s with heap := h' }) :
    wpAny (model prog w) A' (leaving env (.ref e)) (fun _ s'' => R (.error (.ref e)) s'') (fun e' s'' => R (.error e') s'') s :=
  leave_again C.frame he fun h' x₁ e₁ => h h' (x₀.trans x₁ fun b hb => .inr (List.mem_singleton.mp hb ▸ hT)) x₁ e₁
theorem drop_fr {env : Env} {L : Addr} {h₀ h₁ h₂ : Heap} {X Y : List Addr} {A' : Around} (C : Act env L A' outer) (hL : h₀.get? L = none) (x : Ext (X ++ fr outer) h₀ h₁) (y : Ext (Y ++ fr (env :: outer)) h₁ h₂) (hY : ∀ b ∈ Y, b ∈ X) : Ext (X ++ fr outer) h₀ h₂ := by
  refine x.trans y fun b hb => ?_
  rw [cons_fr C] at hb
  rcases List.mem_append.mp hb with q | q
  · exact .inl (List.mem_append_left _ (hY b q))
  · rcases List.mem_cons.mp q with rfl | q
    · exact .inr hL
    · exact .inl (List.mem_append_right _ q)
theorem ratio_assert {g l : Addr} {items : Array Value} (G : G0 w B mg mb) (hB : B.StaysIn s.heap) (hroom : A.depth + 2 < recursionLimit) (hfr : A.frames = some outer) (hl : Frs s.heap outer) (hoff : ∀ a ∈ fr outer, B.get? a = none) (hh : A.handled = none) (T : Thing B x mA) (hv : mA "as_integer_ratio" = some (.ref f)) (F : Ask B f er) (he : Err B s.heap er c a0 b1 b2) (hb : (b1 || b2) = true)
    (hw : mA "is_finite" = some (.ref g)) (FL : Lam B g (.ref l)) (hl1 : B.IsList l items) (h1 : items.isEmpty = false) (hz : (items.size : Int) < 2 ^ 63)
    (h : ∀ h' tk e' a' c' T', s.heap.get? e' = none → s.heap.get? T' = none → Ext (er :: fr outer) s.heap h' → Exc h' e' (.type "AssertionError") a' c' (some (T', .none)) → R (.error (.ref e')) { s with heap := h', toks := tk }) :
    codeAny (model prog w) A (.call (.ref 69) ⟨[.ref x], []⟩) R s := by
  refine ratio_mid G hB hroom hfr hl hoff hh T hv F he fun env A' m h₂ tk T' q1 q2 q3 q4 q5 q6 q7 q8 q9 Q E C k hd hns hx hl₂ off₂ hT' x₂ hB₂ e₂ hQ hE => ?_
  have hL := none_of_ge (Nat.le_refl s.heap.objs.size)
  rw [hb] at e₂ ⊢
  simp only [if_true]
  refine suite1_assert (s := { s with heap := h₂, toks := tk }) G hB₂ hd C hl₂ T hns hx k.x k.fin hw FL hl1 h1 hz e₂.tip fun h₃ tk₃ e' a' c' T₃ n1 n2 x₃ e₃ => hE _ _ ?_
  refine ratio_out (s := { s with heap := h₃, toks := tk₃ }) C (drop_fr (X := [er]) (Y := []) C hL x₂ x₃ (by simp)) (x₂.fresh n2) e₃ fun h₄ x₄ _ e₄ => ?_
  exact h h₄ tk₃ e' a' c' T₃ (x₂.fresh n1) (x₂.fresh n2) x₄ e₄
theorem ratio_te_none (G : G0 w B mg mb) (hB : B.StaysIn s.heap) (hroom : A.depth + 2 < recursionLimit) (hfr : A.frames = some outer) (hl : Frs s.heap outer) (hoff : ∀ a ∈ fr outer, B.get? a = none) (hh : A.handled = none) (T : Thing B x mA) (hv : mA "as_integer_ratio" = some (.ref f)) (F : Ask B f er) (he : Err B s.heap er c a0 b1 b2) (hb : (b1 || b2) = true)
    (hw : mA "is_finite" = none)
    (h : ∀ h' tk e' a' c' T', s.heap.get? e' = none → s.heap.get? T' = none → Ext (er :: fr outer) s.heap h' → Exc h' e' (.type "TypeError") a' c' (some (T', .none)) → R (.error (.ref e')) { s with heap := h', toks := tk }) :
    codeAny (model prog w) A (.call (.ref 69) ⟨[.ref x], []⟩) R s := by
  refine ratio_mid G hB hroom hfr hl hoff hh T hv F he fun env A' m h₂ tk T' q1 q2 q3 q4 q5 q6 q7 q8 q9 Q E C k hd hns hx hl₂ off₂ hT' x₂ hB₂ e₂ hQ hE => ?_
  have hL := none_of_ge (Nat.le_refl s.heap.objs.size)
  rw [hb] at e₂ ⊢
  simp only [if_true]
  refine suite1_none (s := { s with heap := h₂, toks := tk }) G hB₂ hd C hl₂ off₂ T hns hx k.x k.fin hw e₂.tip fun h₃ tk₃ e' a' c' T₃ n1 n2 x₃ e₃ => hE _ _ ?_
  refine ratio_out (s := { s with heap := h₃, toks := tk₃ }) C (drop_fr (X := [er]) (Y := []) C hL x₂ x₃ (by simp)) (x₂.fresh n2) e₃ fun h₄ x₄ _ e₄ => ?_
  exact h h₄ tk₃ e' a' c' T₃ (x₂.fresh n1) (x₂.fresh n2) x₄ e₄
theorem ratio_te_ask {g e2 : Addr} {a2 : Value} (G : G0 w B mg mb) (hB : B.StaysIn s.heap) (hroom : A.depth + 2 < recursionLimit) (hfr : A.frames = some outer) (hl : Frs s.heap outer) (hoff : ∀ a ∈ fr outer, B.get? a = none) (hh : A.handled = none) (T : Thing B x mA) (hv : mA "as_integer_ratio" = some (.ref f)) (F : Ask B f er) (he : Err B s.heap er c a0 b1 b2) (hb : (b1 || b2) = true)
    (hw : mA "is_finite" = some (.ref g)) (F2 : Ask B g e2) (he2 : Exc s.heap e2 (.type "AttributeError") a2 .none none) (hB2 : B.get? e2 = none) (hne : er ≠ e2)
    (h : ∀ h' tk e' a' c' T', s.heap.get? e' = none → s.heap.get? T' = none → Ext (er :: e2 :: fr outer) s.heap h' → Exc h' e' (.type "TypeError") a' c' (some (T', .none)) → Tip h' er → (∃ T'', s.heap.get? T'' = none ∧ T'' ≠ er ∧ T'' ≠ e' ∧ T'' ≠ T' ∧ Exc h' e2 (.type "AttributeError") a2 (.ref er) (some (T'', .none))) → R (.error (.ref e')) { s with heap := h', toks := tk }) :
    codeAny (model prog w) A (.call (.ref 69) ⟨[.ref x], []⟩) R s := by
  refine ratio_mid G hB hroom hfr hl hoff hh T hv F he fun env A' m h₂ tk T' q1 q2 q3 q4 q5 q6 q7 q8 q9 Q E C k hd hns hx hl₂ off₂ hT' x₂ hB₂ e₂ hQ hE => ?_
  have hL := none_of_ge (Nat.le_refl s.heap.objs.size)
  rw [hb] at e₂ ⊢
  simp only [if_true]
  have off₃ : ∀ a ∈ e2 :: fr (env :: outer), B.get? a = none := fun a ha => (List.mem_cons.mp ha).elim (fun q => q ▸ hB2) (off₂ a)
  have he2' : Exc h₂ e2 (.type "AttributeError") a2 .none none := he2.keep x₂ (fun hb => by
    rcases List.mem_cons.mp hb with q | q
    · exact hne q.symm
    · exact he2.off_frames hl q) (by simp)
  refine suite1_ask (s := { s with heap := h₂, toks := tk }) G hB₂ hd C hl₂ off₃ T hns hx k.x k.fin hw F2 e₂.tip he2' hne fun h₃ tk₃ e' a' c' T₃ n1 n2 x₃ e₃ k₃ => hE _ _ ?_
  obtain ⟨T'', m1, m2, m3, m4⟩ := k₃
  have y₂ : Ext (([er, e2] : List Addr) ++ fr outer) s.heap h₂ := x₂.mono fun b hb => by
    rcases List.mem_cons.mp hb with q | q
    · simp [q]
    · exact List.mem_append_right _ q
  refine ratio_out (s := { s with heap := h₃, toks := tk₃ }) C (drop_fr (X := [er, e2]) (Y := [e2]) C hL y₂ x₃ (by simp)) (x₂.fresh n2) e₃ fun h₄ x₄ x₄' e₄ => ?_
  have ner : ∀ b, s.heap.get? b = none → b ≠ er := fun b hb q => by
    obtain ⟨o, ho, _⟩ := he.exc.there; rw [q, ho] at hb; cases hb
  have ne2 : ∀ b, s.heap.get? b = none → b ≠ e2 := fun b hb q => by
    obtain ⟨o, ho, _⟩ := he2.there; rw [q, ho] at hb; cases hb
  refine h h₄ tk₃ e' a' c' T₃ (x₂.fresh n1) (x₂.fresh n2) x₄ e₄ ?_ ⟨T'', x₂.fresh m1, ner _ (x₂.fresh m1), m3, m2, m4.keep x₄' ?_ ?_⟩
  · have t₃ : Tip h₃ er := e₂.tip.keep x₃ (fun hb => by
      rcases List.mem_cons.mp hb with q | q
      · exact hne q
      · exact e₂.tip.off_frames hl₂ q)
    exact t₃.keep x₄' (by simpa using (ner _ (x₂.fresh n2)).symm)
  · simpa using (ne2 _ (x₂.fresh n2)).symm
  · intro b hb hb'
    rw [List.mem_singleton.mp (show b ∈ [T''] from hb), List.mem_singleton] at hb'
    exact m2 hb'
theorem ratio_other (G : G0 w B mg mb) (hB : B.StaysIn s.heap) (hroom : A.depth + 2 < recursionLimit) (hfr : A.frames = some outer) (hl : Frs s.heap outer) (hoff : ∀ a ∈ fr outer, B.get? a = none) (hh : A.handled = none) (T : Thing B x mA) (hv : mA "as_integer_ratio" = some (.ref f)) (F : Ask B f er) (he : Err B s.heap er c a0 b1 b2) (hb : (b1 || b2) = false)
    (h : ∀ h' tk T', s.heap.get? T' = none → Ext (er :: fr outer) s.heap h' → Exc h' er c a0 .none (some (T', .none)) → R (.error (.ref er)) { s with heap := h', toks := tk }) :
    codeAny (model prog w) A (.call (.ref 69) ⟨[.ref x], []⟩) R s := by
  refine ratio_mid G hB hroom hfr hl hoff hh T hv F he fun env A' m h₂ tk T' q1 q2 q3 q4 q5 q6 q7 q8 q9 Q E C k hd hns hx hl₂ off₂ hT' x₂ hB₂ e₂ hQ hE => ?_
  rw [hb] at e₂ ⊢
  simp only [Bool.false_eq_true, if_false] at e₂ ⊢
  refine hE _ _ (ratio_out (s := { s with heap := h₂, toks := tk }) C x₂ hT' e₂ fun h₄ x₄ _ e₄ => ?_)
  exact h h₄ tk T' hT' x₄ e₄
end
end Kq
end
section
open PySem PySem.W PySem.Spec PySem.Calls PyProof.Rows
open Builtin Builtin.ObjectAttr Builtin.Getset_descriptor
set_option maxRecDepth 100000
namespace Kq
variable {prog : Program} {w : World} {A : Around} {E : Value → Shared → Prop} {B : Heap} {mg mb : Str → Option Value} {s : Shared}
theorem sub_Exc_base : isSubtype (.type "Exception") (.type "BaseException") = pure true := by rw [isSubtype_type]; kernel_rfl
theorem nt_Exc : isSubtype (.type ((Manifest.find? "Exception").elim "type" fun x => x.metatype)) (.type "tuple") = pure false := by rw [isSubtype_type]; kernel_rfl
theorem told_TE : isSubtype (.type "TypeError") (.type "Exception") = pure true := by rw [isSubtype_type]; kernel_rfl
theorem told_AsE : isSubtype (.type "AssertionError") (.type "Exception") = pure true := by rw [isSubtype_type]; kernel_rfl
theorem told_KE : isSubtype (.type "KeyError") (.type "Exception") = pure true := by rw [isSubtype_type]; kernel_rfl
section
variable {outer : List Env} {x F : Addr} {R : Result → Shared → Prop}
def Told (B : Heap) (s : Shared) (h₀ : Heap) (env : Env) (outer : List Env) (X : List Addr) (R : Result → Shared → Prop) (r : Result) (s₁ : Shared) : Prop :=
  match r with
  | .ok (.ret v) => R (.ok (.ret v)) s₁
  | .ok _ => False
  | .error e => ∃ e' T' Xc a' c', e = .ref e' ∧ isSubtype (.type Xc) (.type "Exception") = pure true ∧ Exc s₁.heap e' (.type Xc) a' c' (some (T', .none)) ∧ Ext (X ++ fr (env :: outer)) h₀ s₁.heap ∧ h₀.get? T' = none ∧ (∀ b ∈ X, B.get? b = none) ∧ B.get? e' = none ∧ (e' ∈ X ∨ h₀.get? e' = none) ∧
      ∀ h' tk T₂, s.heap.get? T₂ = none → Ext (X ++ fr outer) s.heap h' → Exc h' e' (.type Xc) a' c' (some (T₂, .none)) →
        (∀ b o, s₁.heap.get? b = some o → b ≠ e' → b ≠ T' → b ∉ fr (env :: outer) → h'.get? b = some o) → R (.ok (.ret (.ref e'))) { s₁ with heap := h', toks := tk }
structure KnowsT (env : Env) : Prop where
  call : env.kindOf "call" = some .local
  thing : env.kindOf "thing" = some .local
  error : env.kindOf "error" = some .local
  told : env.kindOf "told" = some .local
  exc : env.kindOf "Exception" = some .globalImplicit
abbrev bodyT (p1 p2 p3 p4 p5 p6 p7 p8 p9 p10 p11 p12 : Pos) : List Stmt :=
  [.Try [.Return (some (.Call (.Name "call" p1) [.Name "thing" p2] [] p3)) p4]
    [.ExceptHandler (some (.Name "Exception" p5)) (some "error") [.Assign [.Name "told" p6] (.Name "error" p7) p8] p9] [] [] p10,
   .Return (some (.Name "told" p11)) p12]
theorem told_body {env : Env} {L : Addr} {m : Str → Option Value} {h₀ : Heap} {p1 p2 p3 p4 p5 p6 p7 p8 p9 p10 p11 p12 : Pos} {oF : Obj} {fd : FuncData} {X : List Addr} {tk : Nat} {E : Value → Shared → Prop} (G : G0 w B mg mb) (hB₀ : B.StaysIn h₀) (C : Act env L A outer) (k : KnowsT env) (hl₀ : Frs h₀ (env :: outer)) (x₀ : Ext [] s.heap h₀) (hL : s.heap.get? L = none) (hBL : B.get? L = none) (hl : Frs s.heap outer)
    (hBf : ∀ a ∈ fr (env :: outer), B.get? a = none) (hF : B.get? F = some oF) (hFd : oF.data = .func fd) (hns : h₀.Ns L m) (hc : m "call" = some (.ref F)) (hx : m "thing" = some (.ref x))
    (h : codeAny (model prog w) A (.call (.ref F) ⟨[.ref x], []⟩) (Told B s h₀ env outer X R) { s with heap := h₀, toks := tk }) :
    wpAny (model prog w) A (execs (bodyT p1 p2 p3 p4 p5 p6 p7 p8 p9 p10 p11 p12) env) (fun f s' => R (.ok (.ret (match f with | .ret v => v | _ => .none))) s') E { s with heap := h₀, toks := tk } := by
  refine wpAny_execs_cons (wpAny_Try_except (wpAny_execs_cons (wpAny_Return_some (Call_Name (trees := [(false, eval (.Name "thing" p2) env)]) rfl ?_))))
  refine name_l (s := { s with heap := h₀, toks := tk }) C hns k.call hc ?_
  refine call1 (name_l (s := { s with heap := h₀, toks := tk }) C hns k.thing hx ⟨⟨hB₀ _ _ hF, hFd⟩, ?_⟩)
  refine codeAny_mono h fun r s₁ hr => ?_
  rcases r with e | fl
  · obtain ⟨e', T', Xc, a', c', rfl, hsub, e₁, x₁, hT', hXB, hBe, hee, hk⟩ := hr
    have hns₁ := x₁.ns hns
    have hl₁ := x₁.frs hl₀
    have hB₁ := x₁.base hB₀ fun b hb => (List.mem_append.mp hb).elim (hXB b) (hBf b)
    have hkl : (env.scope.kind == .class || (env.scope.kind == .module && env.locals != env.globals)) = false := by rw [C.kind]; rfl
    refine note (tb := some (T', .none)) C.frames hl₁ C.frame e₁ (fun p hp => by cases hp; rfl) fun h₂ T₂ hT₂ x₂ e₂ => ?_
    refine flight (s := { s₁ with heap := h₂ }) e₂ fun h₃ x₃ e₃ => ?_
    have x₂₃ := x₂.trans x₃ fun b hb => .inr (List.mem_singleton.mp hb ▸ hT₂)
    have hB₃ : B.StaysIn h₃ := x₂₃.base hB₁ fun b hb => by
      rcases List.mem_append.mp hb with hb | hb
      · rcases List.mem_cons.mp hb with rfl | hb
        · exact hBe
        · exact base_none hB₀ (List.mem_singleton.mp hb ▸ hT')
      · exact hBf b hb
    have hns₃ := x₂₃.ns hns₁
    refine wpAny_handleBy_builtin_as (X := Xc) (T := "Exception") (b := true) sub_Exc_base nt_Exc hsub ?_
    refine name_b (s := { s₁ with heap := h₃ }) (v := .type "Exception") G hB₃ rfl rfl (by decide) ?_ C.kind C.glob C.blt k.exc
    obtain ⟨o₃, ho₃, hc₃⟩ := e₃.there
    refine ⟨rfl, ⟨o₃, ho₃, hc₃⟩, ?_⟩
    simp only [if_true]
    refine flight (s := { s₁ with heap := h₃ }) e₃ fun h₄ x₄ e₄ => ?_
    have hns₄ := x₄.ns hns₃
    refine wpAny_storeName_local (s := { s₁ with heap := h₄ }) k.error (by rw [C.loc]; exact hns₄) (fun h₅ hns₅ hs₅ => ?_) hkl
    rw [C.loc] at hns₅ hs₅
    refine wpAny_execs_cons (wpAny_Assign_Name (name_l (s := { s₁ with heap := h₅, toks := s₁.toks + 1 }) (v := .ref e') C hns₅ k.error (if_pos rfl) ?_))
    refine wpAny_storeName_local (s := { s₁ with heap := h₅, toks := s₁.toks + 1 }) k.told (by rw [C.loc]; exact hns₅) (fun h₆ hns₆ hs₆ => ?_) hkl
    rw [C.loc] at hns₆ hs₆
    refine wpAny_pure ?_
    refine wpAny_nameGoes_keeps (s := { s₁ with heap := h₆, toks := s₁.toks + 1 + 1 }) k.error (by rw [C.loc]; exact hns₆) hkl fun h₇ v₇ hns₇ hs₇ => ?_
    rw [C.loc] at hns₇ hs₇
    refine wpAny_execs_cons (wpAny_Return_some (name_l (s := { s₁ with heap := h₇, toks := s₁.toks + 1 + 1 + 1 }) (v := .ref e') C hns₇ k.told ?_ ?_))
    · show (if ("told" : Str) = "error" then v₇ else if ("told" : Str) = "told" then some (.ref e') else _) = _
      rw [if_neg (by decide), if_pos rfl]
    have hs₇' : Heap.SameBut L h₄ h₇ := hs₅.trans (hs₆.trans hs₇)
    have e1 := cons_fr C
    have ne' : ∀ b o, s.heap.get? b = some o → b ≠ L := fun b o q z => by rw [z, hL] at q; cases q
    have x₀₁ : Ext (X ++ fr outer) s.heap s₁.heap := ext_out C.frame hL x₀ x₁
    have he'₁ : s.heap.get? T₂ = none := x₀₁.fresh hT₂
    have x₀₄ : Ext (X ++ fr outer) s.heap h₄ := by
      refine (x₀₁.trans x₂₃ fun b hb => ?_).trans x₄ fun b hb => .inr (List.mem_singleton.mp hb ▸ he'₁)
      rw [e1] at hb
      rcases List.mem_cons.mp (show b ∈ e' :: T' :: L :: fr outer from hb) with rfl | hb
      · exact hee.elim (fun q => .inl (List.mem_append_left _ q)) fun q => .inr (x₀.fresh q)
      · rcases List.mem_cons.mp hb with rfl | hb
        · exact .inr (x₀.fresh hT')
        · rcases List.mem_cons.mp hb with rfl | hb
          · exact .inr hL
          · exact .inl (List.mem_append_right _ hb)
    have isL : ∀ b o vs, h₄.get? b = some o → o.data = .fields vs → b ≠ L := fun b o vs ho hd z => by
      obtain ⟨o', es, ep, ho', hd', _⟩ := hns₄
      rw [z, ho'] at ho; cases ho; rw [hd'] at hd; cases hd
    refine hk h₇ _ T₂ he'₁ (x₀₄.store hs₇' hL) ?_ fun b o hb n1 n2 n3 => ?_
    · obtain ⟨o, vs, ho, hco, hd, h0, h2, h1, hne, oT, ts, hoT, hdT, h3⟩ := e₄
      exact ⟨o, vs, (hs₇'.2 _ (isL _ _ _ ho hd)).trans ho, hco, hd, h0, h2, h1, hne, oT, ts, (hs₇'.2 _ (isL _ _ _ hoT hdT)).trans hoT, hdT, h3⟩
    · have n4 : b ≠ L := fun z => n3 (by rw [e1, z]; exact .head _)
      refine (hs₇'.2 b n4).trans (x₄.keep _ _ (x₂₃.keep _ _ hb ?_) ?_)
      · intro q
        rcases List.mem_cons.mp (show b ∈ e' :: T' :: fr (env :: outer) from q) with q | q
        · exact n1 q
        · exact (List.mem_cons.mp q).elim n2 n3
      · simp only [tbs, Option.map, Option.toList, List.map_cons, List.map_nil, List.mem_singleton]
        intro q; rw [q, hT₂] at hb; cases hb
  · rcases fl with _ | _ | v | _ <;> first | exact hr.elim | exact hr
theorem told_call {oF : Obj} {fd : FuncData} {X : List Addr} (G : G0 w B mg mb) (hB : B.StaysIn s.heap) (hroom : A.depth < recursionLimit) (hfr : A.frames = some outer) (hl : Frs s.heap outer) (hoff : ∀ a ∈ fr outer, B.get? a = none) (hF : B.get? F = some oF) (hFd : oF.data = .func fd)
    (h : ∀ env A' h₀ tk, Act env s.heap.objs.size A' outer → A'.depth = A.depth + 1 → A'.handled = A.handled → Frs h₀ (env :: outer) → Ext [] s.heap h₀ → (∀ a ∈ fr (env :: outer), B.get? a = none) →
      codeAny (model prog w) A' (.call (.ref F) ⟨[.ref x], []⟩) (Told B s h₀ env outer X R) { s with heap := h₀, toks := tk }) :
    codeAny (model prog w) A (.call (.ref 83) ⟨[.ref F, .ref x], []⟩) R s := by
  have h83 := G.X 83 _ rfl
  refine defcall (binds := [("call", .ref F), ("thing", .ref x)]) G hB hroom hfr hl (hB _ _ h83) rfl ((codeRec_of G.X rfl).keeps hB) rfl rfl (by decide) (fun y hy => by
    rcases List.mem_cons.mp hy with rfl | hy
    · rfl
    · rw [List.mem_singleton.mp hy]; rfl) fun h₀ hns x₀ hl₀ hfr₀ => ?_
  have hL := none_of_ge (Nat.le_refl s.heap.objs.size)
  have hB₀ := x₀.base hB fun b hb => nomatch hb
  have hBL := base_none hB hL
  have C : Act _ s.heap.objs.size _ outer := ⟨rfl, rfl, rfl, rfl, rfl, hfr₀⟩
  exact told_body G hB₀ C ⟨rfl, rfl, rfl, rfl, rfl⟩ hl₀ x₀ hL hBL hl (off_cons0 C.frame hoff hBL) hF hFd hns rfl rfl (h _ _ h₀ _ C rfl rfl hl₀ x₀ (off_cons0 C.frame hoff hBL))
end
end Kq
end
section
open PySem PySem.W PySem.Spec PySem.Calls PyProof.Rows
open Builtin Builtin.ObjectAttr Builtin.Getset_descriptor
set_option maxRecDepth 100000
namespace Kq
variable {prog : Program} {w : World} {A : Around} {E : Value → Shared → Prop} {B : Heap} {mg mb : Str → Option Value} {s : Shared}
theorem newExc_exc {h h' : Heap} {e : Addr} {c : String} (x : Heap.NewExc h h' e c) : Ext [] h h' ∧ ∃ a0, Exc h' e (.type c) a0 .none none := by
  obtain ⟨ob, t, ho, hc, hd⟩ := x.there
  exact ⟨.of x.keeps, t, ob, _, ho, hc, hd, rfl, rfl, rfl⟩
theorem ae_init_slot : Slot "AttributeError" "__init__" "AttributeError.__init__" := .of (owner := "AttributeError") (n := "__init__") (by rw [typeLookup_type, builtinLookup_eq_fast]; kernel_rfl) (by decide +kernel) (by decide +kernel) (by decide +kernel)
    (by first | exact .inl (by decide +kernel) | exact .inr (by decide +kernel)) (by rw [isSubtype_type]; kernel_rfl)
theorem ae_init_entry : entryFor table "AttributeError.__init__" = some Builtin.«AttributeError.__init__» := entryFor_of_tree (by kernel_rfl)
theorem ae_made : Bind.madeBy (.type "AttributeError") = pure (some "Exception.__new__") := by kernel_rfl
theorem ae_notType : (Value.type "AttributeError" == Value.type "type") = false := by decide +kernel
theorem ae_can : ((Manifest.find? "AttributeError").bind fun x => List.findSome? (fun t => (Manifest.find? t).bind fun b =>
    if b.noNew = true then some true else if (b.attrs.any fun x => x.fst == "__new__") = true then some false else none) x.mro).getD false = false := by kernel_rfl
theorem ae_vec (args : Args) : checkTypeCall "AttributeError" args = pure () := by kernel_rfl
theorem ae_mro : mroOf (.type "AttributeError") = pure [.type "AttributeError", .type "Exception", .type "BaseException", .type "object"] := by rw [mroOf_type]; kernel_rfl
theorem ae_newOk (rest : List Value) : checkBuiltinCall "Exception.__new__" ⟨.type "AttributeError" :: rest, []⟩ = pure () := by kernel_rfl
theorem ae_newEntry : entryFor table "Exception.__new__" = some Builtin.«BaseException.__new__» := entryFor_alias (id' := "BaseException.__new__") (by rw [fastTable_eq_tree]; kernel_rfl) (by first | rfl | decide +kernel) (by decide +kernel) (by rw [fastTable_eq_tree]; kernel_rfl)
theorem ae_sub : isSubtype (.type "AttributeError") (.type "Exception") = pure true := by rw [isSubtype_type]; kernel_rfl
theorem ae_here : Bind.madeHere "BaseException.__new__" (.type "AttributeError") = pure () := by kernel_rfl
set_option linter.deprecated false in
theorem ae_drop : "Exception.__new__".dropRight 8 = "Exception" := by decide +kernel
theorem ae_ends : "Exception.__new__".endsWith ".__new__" = true := by decide +kernel
theorem ae_noName : isSubtype (.type "AttributeError") (.type "NameError") = pure false := by rw [isSubtype_type]; kernel_rfl
theorem ae_new {rest : List Value} {R : Result → Shared → Prop} {hp : Heap} {g : Array GenState} {d : Drawn} {tk : Nat} {os : OsState}
    (h : R (.ok (.ret (.ref (hp.objs.size + 1)))) ⟨(hp.push { cls := .type "tuple", data := .seq rest.toArray }).push
      { cls := .type "AttributeError", data := .fields #[.ref hp.objs.size, .none, .none, .none, .bool false, .none, rawInt 0, rawInt 0] }, g, d, tk, os⟩)
    (hrest : rest.length ≤ sizeLine) :
    codeAny (model prog w) A (.builtin "Exception.__new__" ⟨.type "AttributeError" :: rest, []⟩) R ⟨hp, g, d, tk, os⟩ := by
  have f1 := ae_ends
  have f2 := ae_sub
  have f3 := ae_here
  have f4 := sub_AttributeError
  refine codeAny_builtinAt ae_newEntry ?_
  unfold Builtin.«BaseException.__new__»
  refine PySem.wpAt_bind ?_
  show PySem.wpAt _ _ _ (stack >>= _) _ _ _
  refine PySem.wpAt_bind (PySem.wpAt_stack fun p below => PySem.wpAt_of_wpAny ?_)
  wp_walk
  refine PySem.wpAt_of_wpAny ?_
  rw [ae_drop]
  wp_walk
  show R _ _
  rw [Heap.size_push]
  exact h
theorem ae_kind : builtinKind "AttributeError.__init__" = some .slot := by decide +kernel
theorem ae_split : splitId "AttributeError.__init__" = some ("AttributeError", "__init__") := by decide +kernel
theorem ae_sig : Manifest.signature? "AttributeError.__init__" = some ⟨.hand, "wrapper __init__", "", .self, []⟩ := by kernel_rfl
theorem ae_check {M : Model} {self : Value} {rest : List Value} {Q : Unit → Shared → Prop} {hp : Heap} {g : Array GenState} {d : Drawn} {tk : Nat} {os : OsState} (hT : Shared.TypeIs ⟨hp, g, d, tk, os⟩ self "AttributeError") (h : Q () ⟨hp, g, d, tk, os⟩) :
    wpAny M A (checkBuiltinCall "AttributeError.__init__" ⟨self :: rest, []⟩) Q E ⟨hp, g, d, tk, os⟩ := by
  have hsub := sub_AttributeError
  simp only [checkBuiltinCall, ae_kind, ae_split, ae_sig]
  wp_walk
  exact h
end Kq
end
section
open PySem PySem.W PySem.Spec PySem.Calls PyProof.Rows
open Builtin Builtin.ObjectAttr Builtin.Getset_descriptor
set_option maxRecDepth 100000
namespace Kq
variable {prog : Program} {w : World} {A : Around} {E : Value → Shared → Prop} {B : Heap} {mg mb : Str → Option Value} {s : Shared}
theorem put_member {a : Addr} {o : Obj} {vs : Array Value} {i : Nat} {v : Value} {Q : Unit → Shared → Prop} (ho : s.heap.get? a = some o) (hd : o.data = .fields vs) (hi : vs[i]? = some (rawInt 0))
    (h : ∀ h' o', (∀ b ob, b ≠ a → s.heap.get? b = some ob → h'.get? b = some ob) → h'.get? a = some o' → o'.cls = o.cls → o'.data = .fields (vs.setIfInBounds i v) → Q () { s with heap := h' }) :
    wpAny (model prog w) A (do
      let old ← field (.ref a) i
      setField (.ref a) i v
      match old with
      | .ref _ => letGo [old]
      | _ => pure ()) Q E s := by
  refine wpAny_bind (wpAny_field ho hd hi (wpAny_bind (wpAny_setField ho hd (Array.getElem?_eq_some_iff.mp hi).1 ?_)))
  refine wpAny_pure (h _ _ (fun b ob hb q => (Heap.get?_update_other _ _ (Ne.symm hb)).trans q) (Heap.get?_update_self _ ho (Obj.isFreed_of_fields (Obj.data_mapFields hd _))) (Obj.cls_mapFields _ _) (Obj.data_mapFields hd _))
theorem ae_init {e t0 : Addr} {rest : List Value} {Q : Fin → Shared → Prop} {hp : Heap} {g : Array GenState} {d : Drawn} {tk : Nat} {os : OsState} (he : hp.get? e = some { cls := .type "AttributeError", data := .fields #[.ref t0, .none, .none, .none, .bool false, .none, rawInt 0, rawInt 0] })
    (hrest : rest.length ≤ sizeLine)
    (h : ∀ h', (∀ b o, b ≠ e → hp.get? b = some o → h'.get? b = some o) → (∃ a0, Exc h' e (.type "AttributeError") a0 .none none) → Q (.done (.ret .none)) ⟨h', g, d, tk, os⟩) :
    wpAny (model prog w) A (Builtin.«AttributeError.__init__» ⟨.ref e :: rest, []⟩) Q E ⟨hp, g, d, tk, os⟩ := by
  unfold Builtin.«AttributeError.__init__» Exceptions.excInitWithMembers
  dsimp only
  unfold newTuple Exceptions.excPut
  refine wpAny_bind (wpAny_newObj_type ?_ (by show rest.toArray.size ≤ sizeLine; rw [List.size_toArray]; exact hrest))
  have he₁ := Heap.get?_push_of_some { cls := .type "tuple", data := .seq rest.toArray } he
  refine wpAny_bind (wpAny_bind (wpAny_field he₁ rfl rfl (wpAny_bind (wpAny_setField he₁ rfl (by show 0 < 8; decide) ?_))))
  refine wpAny_letGo ?_
  have he₂ := Heap.get?_update_self (Obj.mapFields (·.setIfInBounds 0 (Value.ref hp.objs.size))) he₁ rfl
  unfold Exceptions.excSetOwn Exceptions.excOwnKeywords Exceptions.excPut
  refine wpAny_bind (wpAny_of_eq (a := [rawInt 0, rawInt 0]) rfl ?_)
  refine wpAny_bind (wpAny_bind (wpAny_fieldsOf he₂ rfl ?_))
  rw [if_neg (by simp)]
  simp only [List.zipIdx, List.forIn_cons, List.forIn_nil, Nat.add_zero, Nat.zero_add, Nat.reduceAdd]
  have lit0 : (#[.ref t0, .none, .none, .none, .bool false, .none, rawInt 0, rawInt 0] : Array Value).setIfInBounds 0 (Value.ref hp.objs.size) = #[.ref hp.objs.size, .none, .none, .none, .bool false, .none, rawInt 0, rawInt 0] := by simp [Array.setIfInBounds]
  have lit6 : (#[.ref hp.objs.size, .none, .none, .none, .bool false, .none, rawInt 0, rawInt 0] : Array Value).setIfInBounds 6 (rawInt 0) = #[.ref hp.objs.size, .none, .none, .none, .bool false, .none, rawInt 0, rawInt 0] := by simp [Array.setIfInBounds]
  have lit7 : (#[.ref hp.objs.size, .none, .none, .none, .bool false, .none, rawInt 0, rawInt 0] : Array Value).setIfInBounds 7 (rawInt 0) = #[.ref hp.objs.size, .none, .none, .none, .bool false, .none, rawInt 0, rawInt 0] := by simp [Array.setIfInBounds]
  have d₂ := Obj.data_mapFields (o := { cls := .type "AttributeError", data := .fields #[.ref t0, .none, .none, .none, .bool false, .none, rawInt 0, rawInt 0] }) rfl (·.setIfInBounds 0 (Value.ref hp.objs.size))
  rw [lit0] at d₂
  generalize hh2 : (hp.push { cls := .type "tuple", data := .seq rest.toArray }).update e (Obj.mapFields (·.setIfInBounds 0 (Value.ref hp.objs.size))) = h₂ at he₂ ⊢
  have k₂ : ∀ b ob, b ≠ e → hp.get? b = some ob → h₂.get? b = some ob := fun b ob hb q => by rw [← hh2]; exact (Heap.get?_update_other _ _ (Ne.symm hb)).trans (Heap.get?_push_of_some _ q)
  refine wpAny_bind (wpAny_bind (wpAny_bind (put_member he₂ d₂ rfl fun h₃ o₃ k₃ he₃ c₃ d₃ => ?_)))
  rw [lit6] at d₃
  refine wpAny_pure ?_
  refine wpAny_bind (wpAny_bind (put_member (s := ⟨h₃, g, d, tk, os⟩) he₃ d₃ rfl fun h₄ o₄ k₄ he₄ c₄ d₄ => ?_))
  rw [lit7] at d₄
  refine wpAny_pure ?_
  refine wpAny_pure (wpAny_pure (wpAny_pure ?_))
  exact h _ (fun b o hb q => k₄ b o hb (k₃ b o hb (k₂ b o hb q))) ⟨_, _, _, he₄, c₄.trans (c₃.trans (Obj.cls_mapFields _ _)), d₄, rfl, rfl, rfl⟩
theorem ae_call {rest : List Value} {Q : Value → Shared → Prop} (hrest : rest.length ≤ sizeLine)
    (h : ∀ h' e a0, s.heap.get? e = none → Ext [] s.heap h' → Exc h' e (.type "AttributeError") a0 .none none → Q (.ref e) { s with heap := h' }) :
    wpAny (model prog w) A (call (.type "AttributeError") rest) Q E s := by
  obtain ⟨hp, g, d, tk, os⟩ := s
  have hnt := ae_notType
  have hcan := ae_can
  have hchk := ae_vec ⟨rest, []⟩
  have hmro := ae_mro
  have hmade := ae_made
  refine wpAny_call (codeAny_of_tree ?_)
  show wpAny _ _ (again (.builtin "type.__call__" ⟨.type "AttributeError" :: rest, []⟩)) _ _ _
  refine wpAny_pure ⟨Code.quiet_builtin _ (by decide +kernel), codeAny_builtin entry_typeCall ?_⟩
  wp_walk
  refine codeAny_call_builtin_code (Code.quiet_builtin _ (by decide +kernel)) (wpAny_of_eq (ae_newOk rest) ?_)
  refine ae_new ?_ hrest
  show wpAny _ _ _ _ _ _
  have hget : ((hp.push { cls := .type "tuple", data := .seq rest.toArray }).push
      { cls := .type "AttributeError", data := .fields #[.ref hp.objs.size, .none, .none, .none, .bool false, .none, rawInt 0, rawInt 0] }).get? (hp.objs.size + 1) = some
      { cls := .type "AttributeError", data := .fields #[.ref hp.objs.size, .none, .none, .none, .bool false, .none, rawInt 0, rawInt 0] } := by heap_get
  refine wpAny_bind (wpAny_isInstance ⟨_, hget, rfl⟩ sub_AttributeError ?_)
  wp_step
  refine wpAny_bind (wpAny_holding (wpAny_callSpecial?_slot ⟨_, hget, rfl⟩ ae_init_slot (wpAny_call (codeAny_call_builtin ae_init_slot.plain ae_init_entry (ae_check ⟨_, hget, rfl⟩ ?_)))))
  refine ae_init hget hrest fun h' hk he => ?_
  obtain ⟨a0, he⟩ := he
  have hx : Ext [] hp h' := .of fun b o q => hk b o (Nat.ne_of_lt (Nat.lt_succ_of_lt (Heap.lt_size q))) (Heap.get?_push_of_some _ (Heap.get?_push_of_some _ q))
  wp_walk
  exact h h' _ a0 (Heap.get?_none_of_le (Nat.le_succ _)) hx he
end Kq
end
section
open PySem PySem.W PySem.Spec PySem.Calls PyProof.Rows
open Builtin Builtin.ObjectAttr Builtin.Getset_descriptor
set_option maxRecDepth 100000
namespace Kq
variable {prog : Program} {w : World} {A : Around} {E : Value → Shared → Prop} {B : Heap} {mg mb : Str → Option Value} {s : Shared}
theorem among_snoc {pos : Pos} {a b : Int} {c v : Value} (l : List Value) (h : TriplesOk l) (hv : codeAmong pos (l ++ [rawInt a, rawInt b, c]) = some v) : codeAmong pos l = some v ∨ v = c := by
  fun_induction TriplesOk l with
  | case1 =>
    simp only [List.nil_append, rawInt, codeAmong] at hv
    split at hv
    · cases hv; exact .inr rfl
    · cases hv
  | case2 a' t b' u x rest ih =>
    simp only [List.cons_append, codeAmong] at hv ⊢
    split at hv
    · rename_i hc; rw [if_pos hc]; exact .inl hv
    · rename_i hc; rw [if_neg hc]; exact ih h hv
  | case3 l h1 h2 => exact h.elim
def Tab (h : Heap) (P : Addr) (q : Str) : Prop :=
  ∃ ps, h.get? P = some (tabObj ps) ∧ TriplesOk ps.toList ∧ ∀ pos cv, codeAmong pos ps.toList = some cv → ∃ c', cv = .ref c' ∧ h.CodeRec (.ref c') q ∧ c' ≠ P
theorem rec_keep {h h' : Heap} {c : Addr} {q : Str} (x : h.CodeRec (.ref c) q) (k : ∀ o, h.get? c = some o → h'.get? c = some o) : h'.CodeRec (.ref c) q := x.at k
theorem Tab.empty {h : Heap} {P : Addr} {q : Str} (e : h.get? P = some (tabObj #[])) : Tab h P q := ⟨#[], e, trivial, fun _ _ z => by simp [codeAmong] at z⟩
theorem Tab.keeps {h h' : Heap} {P : Addr} {q : Str} (x : Tab h P q) (k : h.StaysIn h') : Tab h' P q :=
  let ⟨ps, e, t, r⟩ := x; ⟨ps, k _ _ e, t, fun pos cv z => let ⟨c', e', rc, n⟩ := r pos cv z; ⟨c', e', rc.keeps k, n⟩⟩
theorem Tab.grown {h h' : Heap} {P c' : Addr} {q : Str} {pos : Pos} {ps : Array Value} (hP : h.get? P = some (tabObj ps)) (ht : TriplesOk ps.toList) (hr : ∀ pos cv, codeAmong pos ps.toList = some cv → ∃ c', cv = .ref c' ∧ h.CodeRec (.ref c') q ∧ c' ≠ P)
    (k : ∀ b o, b ≠ P → h.get? b = some o → h'.get? b = some o) (hP' : h'.get? P = some (tabObj (ps ++ #[rawInt pos.line, rawInt pos.col, .ref c']))) (hc : h'.CodeRec (.ref c') q) (hn : c' ≠ P) : Tab h' P q := by
  refine ⟨_, hP', ?_, fun pos' cv z => ?_⟩
  · simp only [Array.toList_append]; exact TriplesOk_snoc _ _ _ _ ht
  · simp only [Array.toList_append] at z
    rcases among_snoc ps.toList ht z with z | rfl
    · obtain ⟨c₂, e, rc, n⟩ := hr _ _ z
      exact ⟨c₂, e, rec_keep rc fun o q => k _ _ n q, n⟩
    · exact ⟨c', rfl, hc, hn⟩
theorem builtins_at {h : Heap} {P : Addr} {ps : Array Value} (G : G0 w B mg mb) (hB : B.StaysIn h) (hP : h.get? P = some (tabObj ps)) : h.BuiltinsAt mg P ∧ mainGlobals ≠ P := by
  obtain ⟨bm, ob, h1, h2, h3, h4, h5, h6⟩ := G.bmain
  have e3 := hB _ _ h3
  obtain ⟨o, es, ep, e, hd, _⟩ := G.g.keeps hB
  refine ⟨⟨bm, ob, h1, h2, fun q => ?_, fun q => ?_, e3, h4, h5, h6⟩, fun q => ?_⟩
  · rw [q, e] at e3; cases e3; rw [hd] at h6; cases h6
  · rw [q, hP] at e3; cases e3; cases h4
  · rw [q, hP] at e; cases e; cases hd
theorem ext_made {h h' : Heap} {P : Addr} {ps ps' : Array Value} {o : Obj} (hP : h.get? P = some (tabObj ps)) (k : Heap.ExtBut P h h') (hP' : h'.get? P = some (tabObj ps')) : Ext [P] h (h'.push o) := by
  refine ⟨fun b ob q hb => Heap.get?_push_of_some _ (k b ob (fun z => hb (by simp [z])) q), fun b ob q hn => ⟨ob.slots, Heap.get?_push_of_some _ (k b ob (fun z => ?_) q)⟩, fun b ob q => ?_⟩
  · rw [z, hP] at q; cases q; exact hn ps rfl
  · by_cases z : b = P
    · exact ⟨_, by rw [z]; exact Heap.get?_push_of_some _ hP'⟩
    · exact ⟨ob, Heap.get?_push_of_some _ (k b ob z q)⟩
section
variable {env : Env} {c P cc : Addr} {qual name n : Str} {params : Arguments} {body : List Stmt} {ebody : Expr} {scope : Scope} {pos : Pos} {firstLine : Nat} {clos : List (Str × Addr)} {Q : Value → Shared → Prop} {M : Model}
theorem make_def (G : G0 w B mg mb) (hB : B.StaysIn s.heap) (hge : env.globals = mainGlobals) (hcode : env.code = .ref c) (C : CodeHd s.heap c P) (T : Tab s.heap P qual) (hcl : closureFor scope env = pure clos)
    (h : ∀ f h' tk c' doc pm ctv, Ext [P] s.heap h' → s.heap.get? f = none → h'.get? f = some (fnMade name qual params body scope clos doc pm c' ctv) → h'.CodeRec (.ref c') qual → c' ≠ P → Tab h' P qual → Q (.ref f) { s with heap := h', toks := tk }) :
    wpAny M A (makeFunction name qual params (.stmts body) scope env [] [] [] pos firstLine) Q E s := by
  obtain ⟨ps, hP, ht, hr⟩ := T
  obtain ⟨hb, hgP⟩ := builtins_at G hB hP
  have hPlt := Heap.lt_size hP
  cases hf : codeAmong pos ps.toList with
  | none =>
    refine makeFunction_K hcl hge (G.g.keeps hB) hcode C hP ht hf hgP hb fun c' ctv doc h' tk hx hsz hlt hrec htb => ?_
    have hne : c' ≠ P := Nat.ne_of_gt (Nat.lt_of_lt_of_le hPlt hsz)
    have hrec' := hrec.push (fnMade name qual params body scope clos doc ((mg "__name__").getD .none) c' ctv)
    refine h h'.objs.size _ tk c' doc _ ctv (ext_made hP hx htb) (none_of_ge ?_) (Heap.get?_push_size _ rfl) hrec' hne ?_
    · exact Nat.le_trans hsz (Nat.le_of_lt hlt)
    · exact Tab.grown hP ht hr (fun b o z q => Heap.get?_push_of_some _ (hx b o z q)) (Heap.get?_push_of_some _ htb) hrec' hne
  | some cv =>
    obtain ⟨c', rfl, hrc, hne⟩ := hr _ _ hf
    refine makeFunction_hit hcl hge (G.g.keeps hB) hcode C hP ht hf hb fun ctv doc h' tk hk hsz => ?_
    have k2 : s.heap.StaysIn (h'.push (fnMade name qual params body scope clos doc ((mg "__name__").getD .none) c' ctv)) := fun b o q => Heap.get?_push_of_some _ (hk b o q)
    exact h h'.objs.size _ tk c' doc _ ctv ((Ext.of k2).mono fun b hb => nomatch hb) (none_of_ge hsz) (Heap.get?_push_size _ rfl) (hrc.keeps k2) hne (Tab.keeps ⟨ps, hP, ht, hr⟩ k2)
theorem make_lambda (G : G0 w B mg mb) (hB : B.StaysIn s.heap) (hge : env.globals = mainGlobals) (hcode : env.code = .ref c) (C : CodeHd s.heap c P) (T : Tab s.heap P qual) (hcl : closureFor scope env = pure clos)
    (h : ∀ f h' tk c' pm ctv, Ext [P] s.heap h' → s.heap.get? f = none → h'.get? f = some (kla_obj name qual params ebody scope clos pm c' ctv) → h'.CodeRec (.ref c') qual → c' ≠ P → Tab h' P qual → Q (.ref f) { s with heap := h', toks := tk }) :
    wpAny M A (makeFunction name qual params (.expr ebody) scope env [] [] [] pos firstLine) Q E s := by
  obtain ⟨ps, hP, ht, hr⟩ := T
  obtain ⟨hb, hgP⟩ := builtins_at G hB hP
  have hPlt := Heap.lt_size hP
  cases hf : codeAmong pos ps.toList with
  | none =>
    refine kla_makeFunction hcl hge (G.g.keeps hB) hcode C hP ht hf hgP hb fun c' ctv h' tk hx hsz hlt hrec htb => ?_
    have hne : c' ≠ P := Nat.ne_of_gt (Nat.lt_of_lt_of_le hPlt hsz)
    have hrec' := hrec.push (kla_obj name qual params ebody scope clos ((mg "__name__").getD .none) c' ctv)
    refine h h'.objs.size _ tk c' _ ctv (ext_made hP hx htb) (none_of_ge ?_) (Heap.get?_push_size _ rfl) hrec' hne ?_
    · exact Nat.le_trans hsz (Nat.le_of_lt hlt)
    · exact Tab.grown hP ht hr (fun b o z q => Heap.get?_push_of_some _ (hx b o z q)) (Heap.get?_push_of_some _ htb) hrec' hne
  | some cv =>
    obtain ⟨c', rfl, hrc, hne⟩ := hr _ _ hf
    refine kla_makeFunctionHit hcl hge (G.g.keeps hB) hcode C hP ht hf hb fun ctv h' tk hk hsz => ?_
    have k2 : s.heap.StaysIn (h'.push (kla_obj name qual params ebody scope clos ((mg "__name__").getD .none) c' ctv)) := fun b o q => Heap.get?_push_of_some _ (hk b o q)
    exact h h'.objs.size _ tk c' _ ctv ((Ext.of k2).mono fun b hb => nomatch hb) (none_of_ge hsz) (Heap.get?_push_size _ rfl) (hrc.keeps k2) hne (Tab.keeps ⟨ps, hP, ht, hr⟩ k2)
end
end Kq
end
section
open PySem PySem.W PySem.Spec PySem.Calls PyProof.Rows
open Builtin Builtin.ObjectAttr Builtin.Getset_descriptor
set_option maxRecDepth 100000
namespace Kq
variable {prog : Program} {w : World} {A : Around} {E : Value → Shared → Prop} {B : Heap} {mg mb : Str → Option Value} {s : Shared}
def AskAt (h : Heap) (f cc c' er : Addr) : Prop :=
  ∃ o nm qual n np pos doc pm ct, h.get? f = some o ∧ o.data = .func (fnX nm qual pNone [.Raise (some (.Name n np)) none pos] (sFree n) [(n, cc)] .none .none doc pm none (.ref c') ct) ∧ h.CodeRec (.ref c') qual ∧ h.IsCell cc (some (.ref er)) ∧ FreeName n
theorem AskAt.ask {h : Heap} {f cc c' er : Addr} (x : AskAt h f cc c' er) : Ask h f er :=
  let ⟨o, nm, qual, n, np, pos, doc, pm, ct, e1, e2, e3, e4, e5⟩ := x; ⟨o, nm, qual, n, np, pos, cc, doc, pm, .ref c', ct, e1, e2, e3, e4, e5⟩
theorem AskAt.keep {h h' : Heap} {f cc c' er : Addr} (x : AskAt h f cc c' er) (k : ∀ b o, (b = f ∨ b = cc ∨ b = c') → h.get? b = some o → h'.get? b = some o) : AskAt h' f cc c' er :=
  let ⟨o, nm, qual, n, np, pos, doc, pm, ct, e1, e2, e3, ⟨oc, e4, e4'⟩, e5⟩ := x
  ⟨o, nm, qual, n, np, pos, doc, pm, ct, k _ _ (.inl rfl) e1, e2, rec_keep e3 fun _ q => k _ _ (.inr (.inr rfl)) q, ⟨oc, k _ _ (.inr (.inl rfl)) e4, e4'⟩, e5⟩
def LamAt (h : Heap) (f cc c' : Addr) (v : Value) : Prop :=
  ∃ o nm qual n pos pm ct, h.get? f = some o ∧ o.data = .func (kla_fn nm qual pNone (.Name n pos) (sFree n) [(n, cc)] pm (.ref c') ct) ∧ h.CodeRec (.ref c') qual ∧ h.IsCell cc (some v) ∧ FreeName n
theorem LamAt.lam {h : Heap} {f cc c' : Addr} {v : Value} (x : LamAt h f cc c' v) : Lam h f v :=
  let ⟨o, nm, qual, n, pos, pm, ct, e1, e2, e3, e4, e5⟩ := x; ⟨o, nm, qual, n, pos, cc, pm, .ref c', ct, e1, e2, e3, e4, e5⟩
theorem LamAt.keep {h h' : Heap} {f cc c' : Addr} {v : Value} (x : LamAt h f cc c' v) (k : ∀ b o, (b = f ∨ b = cc ∨ b = c') → h.get? b = some o → h'.get? b = some o) : LamAt h' f cc c' v :=
  let ⟨o, nm, qual, n, pos, pm, ct, e1, e2, e3, ⟨oc, e4, e4'⟩, e5⟩ := x
  ⟨o, nm, qual, n, pos, pm, ct, k _ _ (.inl rfl) e1, e2, rec_keep e3 fun _ q => k _ _ (.inr (.inr rfl)) q, ⟨oc, k _ _ (.inr (.inl rfl)) e4, e4'⟩, e5⟩
abbrev qR : Str := "_law_raise.<locals>._law_ask"
theorem head75 (G : G0 w B mg mb) : CodeHd B 75 71 := ⟨_, _, _, _, _, _, _, _, _, G.X 75 _ rfl, rfl, rfl, rfl, rfl, rfl, rfl, rfl, rfl, by decide⟩
theorem head89 (G : G0 w B mg mb) : CodeHd B 89 85 := ⟨_, _, _, _, _, _, _, _, _, G.X 89 _ rfl, rfl, rfl, rfl, rfl, rfl, rfl, rfl, rfl, by decide⟩
theorem raise_made {e : Addr} {R : Result → Shared → Prop} (G : G0 w B mg mb) (hB : B.StaysIn s.heap) (hroom : A.depth < recursionLimit) (hT : Tab s.heap 71 qR)
    (h : ∀ h' tk f cc c', Ext [71] s.heap h' → s.heap.get? f = none → s.heap.get? cc = none → AskAt h' f cc c' e → c' ≠ 71 → Tab h' 71 qR → R (.ok (.ret (.ref f))) { s with heap := h', toks := tk }) :
    codeAny (model prog w) A (.call (.ref 76) ⟨[.ref e], []⟩) R s := by
  have h76 := G.X 76 _ rfl
  have hL := none_of_ge (Nat.le_refl s.heap.objs.size)
  have hL1 := none_of_ge (Nat.le_succ s.heap.objs.size)
  refine codeAny_call_cells (binds := [("error", .ref e)]) hroom (hB _ _ h76) rfl (G.nolimit.keeps hB) ((codeRec_of G.X rfl).keeps hB) rfl rfl rfl (fun y hy => by rw [List.mem_singleton.mp hy]; exact .inr ⟨rfl, rfl⟩) fun s₁ x => ?_
  obtain ⟨h₁, tk, rfl⟩ := x.toInCall.same
  have k₁ : s.heap.StaysIn h₁ := x.toInCall.keep
  have hcell : h₁.IsCell (s.heap.objs.size + 1) (some (.ref e)) := x.cell "error" _ rfl
  have hns := x.toInCall.ns
  have hB₁ : B.StaysIn h₁ := fun b o q => k₁ b o (hB b o q)
  refine wpAny_execs_cons (nestDef_K rfl rfl rfl (make_def (s := { s with heap := h₁, toks := tk }) (qual := qR) (c := 75) (P := 71) (clos := [("error", s.heap.objs.size + 1)]) G hB₁ rfl rfl ((head75 G).keeps hB₁) (hT.keeps k₁) rfl fun f h₂ tk₂ c' doc pm ctv x₂ hf hfo hrec hne hT₂ => ?_))
  have hns₂ := x₂.ns hns
  refine wpAny_storeName_local rfl hns₂ (fun h₃ hns₃ hs₃ => ?_)
  refine wpAny_execs_cons (wpAny_Return_some (wpAny_Name (wpAny_loadName_local rfl rfl hns₃ (v := .ref f) (if_pos rfl) ?_) (by decide)))
  have x₀₂ : Ext [71] s.heap h₂ := ((Ext.of k₁).mono fun b hb => nomatch hb).trans x₂ fun b hb => .inl hb
  have x₀₃ : Ext [71] s.heap h₃ := x₀₂.store hs₃ hL
  have n71 : s.heap.objs.size + 1 ≠ 71 := fun q => by
    obtain ⟨ps, e, _⟩ := hT.keeps k₁
    obtain ⟨o, ho, hd⟩ := hcell
    rw [q] at ho; rw [e] at ho; cases ho; cases hd
  have hLo : ∀ b o, h₂.get? b = some o → (∀ es ep, o.data ≠ .dict es ep) → h₃.get? b = some o := fun b o ho hd => (hs₃.2 b fun z => by
    obtain ⟨o', es, ep, e, hd', _⟩ := hns₂
    rw [show b = s.heap.objs.size from z] at ho
    rw [show h₂.get? s.heap.objs.size = some o' from e] at ho; cases ho; exact hd _ _ hd').trans ho
  have rec₃ : h₃.CodeRec (.ref c') qR := by
    obtain ⟨c₂, oc, vs, tq, e, hoc, hdc, hq⟩ := hrec
    cases e
    exact ⟨_, oc, vs, tq, rfl, hLo _ _ hoc (fun es ep z => by rw [hdc] at z; cases z), hdc, hq⟩
  have hcell₃ : h₃.IsCell (s.heap.objs.size + 1) (some (.ref e)) := by
    obtain ⟨o, ho, hd⟩ := hcell
    exact ⟨o, hLo _ _ (x₂.keep _ _ ho (by simpa using n71)) (fun es ep z => by rw [hd] at z; cases z), hd⟩
  have hf₀ : s.heap.get? f = none := (Ext.of k₁).fresh hf
  refine h h₃ _ f (s.heap.objs.size + 1) c' x₀₃ hf₀ hL1 ⟨_, _, _, "error", _, _, _, _, _, hLo _ _ hfo (fun es ep z => by cases z), rfl, rec₃, hcell₃, ⟨by decide, by decide⟩⟩ hne ?_
  obtain ⟨ps, e1, e2, e3⟩ := hT₂
  refine ⟨ps, hLo _ _ e1 (fun es ep z => by cases z), e2, fun pos cv z => ?_⟩
  obtain ⟨c₂, e, rc, n⟩ := e3 pos cv z
  refine ⟨c₂, e, ?_, n⟩
  obtain ⟨c₃, oc, vs, tq, e', hoc, hdc, hq⟩ := rc
  cases e'
  exact ⟨_, oc, vs, tq, rfl, hLo _ _ hoc (fun es ep z => by rw [hdc] at z; cases z), hdc, hq⟩
end Kq
end
section
open PySem PySem.W PySem.Spec PySem.Calls PyProof.Rows
open Builtin Builtin.ObjectAttr Builtin.Getset_descriptor
set_option maxRecDepth 100000
namespace Kq
variable {prog : Program} {w : World} {A : Around} {E : Value → Shared → Prop} {B : Heap} {mg mb : Str → Option Value} {s : Shared}
theorem Ext.change {X Z : List Addr} {h h₁ h₂ : Heap} (x : Ext X h h₁) (k : ∀ b o, b ∉ Z → h₁.get? b = some o → h₂.get? b = some o) (hZ : ∀ z ∈ Z, h.get? z = none) : Ext X h h₂ := by
  have ne : ∀ b o, h.get? b = some o → b ∉ Z := fun b o e q => by rw [hZ b q] at e; cases e
  refine ⟨fun b o e hb => k b o (ne b o e) (x.keep b o e hb), fun b o e hn => ?_, fun b o e => ?_⟩
  · obtain ⟨sl, q⟩ := x.up b o e hn; exact ⟨sl, k _ _ (ne b o e) q⟩
  · obtain ⟨o', q⟩ := x.there b o e; exact ⟨o', k _ _ (ne b o e) q⟩
structure Made (h : Heap) (x : Addr) (dx : Option Addr) (mA : Str → Option Value) : Prop where
  obj : ∃ o vs, h.get? x = some o ∧ o.cls = .ref 52 ∧ o.data = .fields vs ∧ vs[1]? = some .none ∧ o.dict = dx
  bare : dx = none → ∀ n, mA n = none
  ns : ∀ d, dx = some d → d ≠ x ∧ h.Ns1 d mA
section
variable {h : Heap} {g : Array GenState} {d : Drawn} {t : Nat} {os : OsState} {x : Addr} {mA : Str → Option Value} {name : Str} {v : Value}
theorem store1 {tk : Tok} {Q : Fin → Shared → Prop} {o : Obj} {vs : Array Value} (G : G0 w B mg mb) (hB : B.StaysIn h) (N : NoName name) (hx : h.get? x = some o) (hc : o.cls = .ref 52) (hd : o.data = .fields vs) (hdn : o.dict = none)
    (hq : ∀ h' tk', h'.Ns1 h.objs.size (fun y => if y = name then some v else none) → h'.get? x = some { cls := o.cls, dict := some h.objs.size, data := o.data, slots := o.slots } → (∀ b ob, b ≠ x → h.get? b = some ob → h'.get? b = some ob) → Q (.done (.ret .none)) ⟨h', g, d, tk', os⟩) :
    wpAny (model prog w) A (Builtin.«object.__setattr__» ⟨[.ref x, .str name tk, v], []⟩) Q E ⟨h, g, d, t, os⟩ := by
  have hC := hB _ _ (se_cls G)
  obtain ⟨mN, hn0, hmN⟩ := se_ns G
  have hn := hn0.keeps hB
  have hna := hmN name N.mem
  have hve := N.ve
  have hpass := F.store_ValueError.passes (.ref x)
  have hlt := Heap.lt_size hx
  have hxs : x ≠ h.objs.size := Nat.ne_of_lt hlt
  unfold Builtin.«object.__setattr__»
  repeat (first | rw [refuse_eq] | (rw [refuseLoop_ref, hpass]) | (with_reducible refine wpAny_loadPart_at hx ?_; rw [hc]) | with_reducible refine wpAny_mroOf_exc hC ?_ | (with_reducible refine wpAny_typeLookup_exc hC hn mro_VE hve ?_; rw [hna]) | wp_step)
  rw [hdn, if_neg (by simp [typeHasDict])]
  split
  · rename_i z; cases z
  split
  · rename_i c z; rw [hd] at z; cases z
  have hx₁ : (h.push { cls := .type "dict", data := .dict #[] }).get? x = some o := Heap.get?_push_of_some _ hx
  refine wpAny_bind (wpAny_alloc' (wpAny_bind (wpAny_update' hx₁ (wpAny_pure ?_))))
  have hx₂ := Heap.get?_update_self (fun o => ({ cls := o.cls, dict := some h.objs.size, data := o.data, slots := o.slots } : Obj)) hx₁ (Obj.isFreed_of_fields (o := { cls := o.cls, dict := some h.objs.size, data := o.data, slots := o.slots }) hd)
  have k₂ : ∀ b ob, b ≠ x → h.get? b = some ob → ((h.push { cls := .type "dict", data := .dict #[] }).update x fun o => ({ cls := o.cls, dict := some h.objs.size, data := o.data, slots := o.slots } : Obj)).get? b = some ob := fun b ob hb q => (Heap.get?_update_other _ _ (Ne.symm hb)).trans (Heap.get?_push_of_some _ q)
  have hgd : ((h.push { cls := .type "dict", data := .dict #[] }).update x fun o => ({ cls := o.cls, dict := some h.objs.size, data := o.data, slots := o.slots } : Obj)).get? h.objs.size = some { cls := .type "dict", data := .dict #[] } :=
    (Heap.get?_update_other _ _ hxs).trans (Heap.get?_push_size _ rfl)
  have hnd : ((h.push { cls := .type "dict", data := .dict #[] }).update x fun o => ({ cls := o.cls, dict := some h.objs.size, data := o.data, slots := o.slots } : Obj)).Ns h.objs.size (fun _ => none) := ⟨_, #[], _, hgd, rfl, fun e he => absurd he (by simp), fun _ => rfl⟩
  show wpAny _ _ (storeInDict h.objs.size (.str name tk) name v) _ _ _
  unfold storeInDict newKeyGuard
  refine wpAny_bind (wpAny_pure (wpAny_bind (wpAny_nsSet1 (Heap.Ns1.of_empty hnd) fun h' hn' hs => ?_)))
  obtain ⟨oD, esD, epD, hoD, hdD, hcD⟩ := hn'.count (Within.cons name v Within.nil)
  refine wpAny_bind (wpAny_lookBehind hoD (by rw [hdD]; exact pastItsLine_dict (Nat.le_trans hcD (Nat.le_add_left _ _))) ?_)
  wp_walk
  exact hq h' _ hn' ((hs.2 x hxs).trans hx₂) fun b ob hb q => (hs.2 b (Nat.ne_of_lt (Heap.lt_size q))).trans (k₂ b ob hb q)
theorem store1_call {sa owner : String} {tk : Tok} {R : Result → Shared → Prop} {o : Obj} {vs : Array Value} (SF : StoreFacts "ValueError" bmV sa owner) (G : G0 w B mg mb) (hB : B.StaysIn h) (N : NoName name) (hx : h.get? x = some o) (hc : o.cls = .ref 52) (hd : o.data = .fields vs) (hdn : o.dict = none)
    (hq : ∀ h' tk', h'.Ns1 h.objs.size (fun y => if y = name then some v else none) → h'.get? x = some { cls := o.cls, dict := some h.objs.size, data := o.data, slots := o.slots } → (∀ b ob, b ≠ x → h.get? b = some ob → h'.get? b = some ob) → R (.ok (.ret .none)) ⟨h', g, d, tk', os⟩) :
    codeAny (model prog w) A (.call (.builtin sa) ⟨[.ref x, .str name tk, v], []⟩) R ⟨h, g, d, t, os⟩ :=
  codeAny_call_builtin SF.slot.plain SF.entry (wpAny_check_sa SF (hB _ _ (se_cls G)) hx hc (store1 G hB N hx hc hd hdn hq))
theorem set_first {sa owner : String} {Q : Unit → Shared → Prop} {o : Obj} {vs : Array Value} (SF : StoreFacts "ValueError" bmV sa owner) (G : G0 w B mg mb) (hB : B.StaysIn h) (N : NoName name) (hx : h.get? x = some o) (hc : o.cls = .ref 52) (hd : o.data = .fields vs) (hdn : o.dict = none)
    (hq : ∀ h' tk', h'.Ns1 h.objs.size (fun y => if y = name then some v else none) → h'.get? x = some { cls := o.cls, dict := some h.objs.size, data := o.data, slots := o.slots } → (∀ b ob, b ≠ x → h.get? b = some ob → h'.get? b = some ob) → Q () ⟨h', g, d, tk', os⟩) :
    wpAny (model prog w) A (setAttr (.ref x) name v) Q E ⟨h, g, d, t, os⟩ := by
  have hC := hB _ _ (se_cls G)
  obtain ⟨mN, hn0, hmN⟩ := se_ns G
  have hn := hn0.keeps hB
  have hs0 := hmN "__setattr__" (by decide +kernel)
  have f3 := SF.slot.bind (.ref x)
  unfold setAttr callSpecial? specialOf
  repeat (any_goals (first | assumption | (with_reducible refine wpAny_loadPart_at hx ?_; rw [hc]) | (with_reducible refine wpAny_typeLookup_exc hC hn SF.mro SF.slot.lookup ?_; rw [hs0]) | wp_step))
  refine store1_call SF G hB N hx hc hd hdn fun h' tk' n' x' k' => ?_
  repeat (any_goals (first | assumption | wp_step))
  exact hq h' tk' n' x' k'
theorem set_attr {dx : Option Addr} {Q : Unit → Shared → Prop} (G : G0 w B mg mb) (hB : B.StaysIn h) (N : NoName name) (T : Made h x dx mA) (hx52 : x ≠ 52) (hw : Within mA attrNames)
    (hq : ∀ h' tk' d', Made h' x (some d') (fun y => if y = name then some v else mA y) → (dx = some d' ∨ (dx = none ∧ h.get? d' = none)) → (∀ b o, b ≠ x → dx ≠ some b → h.get? b = some o → h'.get? b = some o) → Q () ⟨h', g, d, tk', os⟩) :
    wpAny (model prog w) A (setAttr (.ref x) name v) Q E ⟨h, g, d, t, os⟩ := by
  have hC := hB _ _ (se_cls G)
  obtain ⟨mN, hn0, hmN⟩ := se_ns G
  have hn := hn0.keeps hB
  have hs0 := hmN "__setattr__" (by decide +kernel)
  have hna := hmN name N.mem
  obtain ⟨o, vs, hx, hc, hd, h1, hdx⟩ := T.obj
  cases dx with
  | some dd =>
    obtain ⟨hne, hns⟩ := T.ns dd rfl
    refine store_attr F.store_ValueError hC hn hs0 hna N.ve hx52 ⟨o, hx, hc, (fun c z => by rw [hd] at z; cases z), .inr ⟨dd, hdx, hne, hns⟩⟩ (fun h' tk' I' k' same => ?_) hw (by decide +kernel)
    obtain ⟨o₁, ho₁, c₁, d₁, s₁, dk⟩ := same o hx
    refine hq h' tk' dd ⟨⟨o₁, vs, ho₁, c₁.trans hc, d₁.trans hd, h1, dk dd hdx⟩, fun z => (nomatch z), fun d₂ z => ?_⟩ (.inl rfl) fun b ob hb hb' q => k' b ob hb (fun o₀ dx' e₁ e₂ z => ?_) q
    · cases z
      obtain ⟨o₂, ho₂, _, _, hdd⟩ := I'
      rw [ho₁] at ho₂; cases ho₂
      rcases hdd with ⟨z, _⟩ | ⟨d₃, e3, n3, ns3⟩
      · rw [dk dd hdx] at z; cases z
      · rw [dk dd hdx] at e3; cases e3; exact ⟨n3, ns3⟩
    · rw [hx] at e₁; cases e₁; rw [hdx] at e₂; cases e₂; exact hb' (by rw [z])
  | none =>
    refine set_first F.store_ValueError G hB N hx hc hd hdx fun h' tk' hns' hx' k' => ?_
    have hsz := none_of_ge (Nat.le_refl h.objs.size)
    refine hq h' tk' h.objs.size ⟨⟨_, vs, hx', hc, hd, h1, rfl⟩, fun z => (nomatch z), fun d₂ z => ?_⟩ (.inr ⟨rfl, hsz⟩) fun b ob hb _ q => k' b ob hb q
    cases z
    refine ⟨Nat.ne_of_gt (Heap.lt_size hx), ?_⟩
    obtain ⟨o', es, ep, e1, e2, e3, e4, e5⟩ := hns'
    exact ⟨o', es, ep, e1, e2, e3, e4, fun y => by rw [e5 y]; by_cases hy : y = name <;> simp [hy, T.bare rfl y]⟩
end
end Kq
end
section
open PySem PySem.W PySem.Spec PySem.Calls PyProof.Rows
open Builtin Builtin.ObjectAttr Builtin.Getset_descriptor
set_option maxRecDepth 100000
namespace Kq
variable {prog : Program} {w : World} {A : Around} {E : Value → Shared → Prop} {B : Heap} {mg mb : Str → Option Value} {s : Shared}
structure Holds (env : Env) (L : Addr) (A : Around) (outer : List Env) : Prop extends Act env L A outer where
  code : env.code = .ref 89
  qual : env.qual ++ "<lambda>" = ("_law_holds.<locals>.<lambda>" : Str)
  cE : env.cells.lookup ("empty" : Str) = some (L + 1)
  cP : env.cells.lookup ("pair" : Str) = some (L + 2)
  cT : env.cells.lookup ("top" : Str) = some (L + 3)
  kE : env.kindOf "empty" = some .cell
  kP : env.kindOf "pair" = some .cell
  kT : env.kindOf "top" = some .cell
  locs : ∀ n ∈ (["x", "kind", "laid", "low", "error", "other", "thing", "told", "ends"] : List Str), env.kindOf n = some .local
  glos : ∀ n ∈ (["OverflowError", "ValueError", "StatisticsError", "KeyError", "_law_raise", "AttributeError", "_law_told", "_exact_ratio", "_isfinite", "type", "tuple", "len", "TypeError", "AssertionError"] : List Str), env.kindOf n = some .globalImplicit
theorem sub_item {env : Env} {value slice : Expr} {pos : Pos} {Q : Value → Shared → Prop} (hs : ∀ o i, subscripted slice false o i = operate [o, i] (getItem o i))
    (h : wpAny (model prog w) A (eval value env) (fun o s₁ => wpAny (model prog w) A (eval slice env) (fun i s₂ => SubscriptOn (model prog w) A o i Q E s₂) E s₁) E s) :
    wpAny (model prog w) A (eval (.Subscript value slice pos) env) Q E s := by
  rw [PySem.eval_Subscript]
  refine wpAny_bind (wpAny_mono h (fun o s₁ h₁ => wpAny_bind (wpAny_holding (wpAny_mono h₁ (fun i s₂ h₂ => wpAny_bind (wpAny_standAt ?_)) fun _ _ x => x))) fun _ _ x => x)
  obtain ⟨T, id, hl, hT, hg⟩ := h₂
  refine wpAny_bind ?_
  rw [getitemInPython_of_ne hT.not_modules]
  refine wpAny_bind (wpAny_specialOf hT hl (wpAny_pure (wpAny_bind ?_)))
  rw [hs]
  exact wpAny_operating (wpAny_mono hg (fun r s₃ h₃ => wpAny_bind (wpAny_letTemporaryGo (wpAny_pure h₃))) fun _ _ x => x)
structure FB (h₀ : Heap) (L : Addr) (h : Heap) (m : Str → Option Value) (vE vP vT : Option Value) : Prop where
  ext : Ext [] h₀ h
  size : h₀.objs.size ≤ L
  ns : h.Ns L m
  e : h.IsCell (L + 1) vE
  p : h.IsCell (L + 2) vP
  t : h.IsCell (L + 3) vT
def Off (L b : Addr) : Prop := b ≠ L ∧ b ≠ L + 1 ∧ b ≠ L + 2 ∧ b ≠ L + 3
def Kp (L : Addr) (h h' : Heap) : Prop := ∀ b o, h.get? b = some o → Off L b → h'.get? b = some o
theorem Kp.refl (L : Addr) (h : Heap) : Kp L h h := fun _ _ e _ => e
theorem Kp.trans {L : Addr} {h₁ h₂ h₃ : Heap} (x : Kp L h₁ h₂) (y : Kp L h₂ h₃) : Kp L h₁ h₃ := fun b o e hb => y b o (x b o e hb) hb
theorem Kp.of {L : Addr} {h h' : Heap} (k : h.StaysIn h') : Kp L h h' := fun b o e _ => k b o e
theorem Kp.but {L a : Addr} {h h' : Heap} (hs : Heap.SameBut a h h') (ha : a = L ∨ a = L + 1 ∨ a = L + 2 ∨ a = L + 3) : Kp L h h' := fun b o e hb => (hs.2 b (by
  rcases ha with rfl | rfl | rfl | rfl
  · exact hb.1
  · exact hb.2.1
  · exact hb.2.2.1
  · exact hb.2.2.2)).trans e
section
variable {h₀ h h' : Heap} {L : Addr} {m m' : Str → Option Value} {vE vP vT v' : Option Value}
theorem FB.none (x : FB h₀ L h m vE vP vT) {a : Addr} (ha : L ≤ a) : h₀.get? a = none := none_of_ge (Nat.le_trans x.size ha)
theorem FB.big (x : FB h₀ L h m vE vP vT) : L + 4 ≤ h.objs.size := x.t.lt
theorem FB.off (x : FB h₀ L h m vE vP vT) {b : Addr} (hb : h.get? b = Option.none) : Off L b := by
  obtain ⟨o0, _, _, h0, _⟩ := x.ns
  obtain ⟨o1, h1, _⟩ := x.e
  obtain ⟨o2, h2, _⟩ := x.p
  obtain ⟨o3, h3, _⟩ := x.t
  refine ⟨fun q => ?_, fun q => ?_, fun q => ?_, fun q => ?_⟩ <;> rw [q] at hb
  · rw [h0] at hb; cases hb
  · rw [h1] at hb; cases hb
  · rw [h2] at hb; cases hb
  · rw [h3] at hb; cases hb
theorem FB.push (x : FB h₀ L h m vE vP vT) (k : h.StaysIn h') : FB h₀ L h' m vE vP vT :=
  ⟨x.ext.trans (.of k) (fun b hb => nomatch hb), x.size, x.ns.keeps k, x.e.keeps k, x.p.keeps k, x.t.keeps k⟩
theorem FB.setL (x : FB h₀ L h m vE vP vT) (hs : Heap.SameBut L h h') (hn : h'.Ns L m') : FB h₀ L h' m' vE vP vT :=
  ⟨x.ext.store hs (x.none (Nat.le_refl _)), x.size, hn, x.e.sameBut hs (Nat.ne_of_gt (Nat.lt_add_of_pos_right (by decide))), x.p.sameBut hs (Nat.ne_of_gt (Nat.lt_add_of_pos_right (by decide))), x.t.sameBut hs (Nat.ne_of_gt (Nat.lt_add_of_pos_right (by decide)))⟩
theorem FB.setE (x : FB h₀ L h m vE vP vT) (hs : Heap.SameBut (L + 1) h h') (hn : h'.IsCell (L + 1) v') : FB h₀ L h' m v' vP vT :=
  ⟨x.ext.store hs (x.none (Nat.le_add_right _ _)), x.size, x.ns.sameBut hs (Nat.ne_of_lt (Nat.lt_add_of_pos_right (by decide))), hn, x.p.sameBut hs (Nat.ne_of_gt (Nat.add_lt_add_left (by decide) _)), x.t.sameBut hs (Nat.ne_of_gt (Nat.add_lt_add_left (by decide) _))⟩
theorem FB.setP (x : FB h₀ L h m vE vP vT) (hs : Heap.SameBut (L + 2) h h') (hn : h'.IsCell (L + 2) v') : FB h₀ L h' m vE v' vT :=
  ⟨x.ext.store hs (x.none (Nat.le_add_right _ _)), x.size, x.ns.sameBut hs (Nat.ne_of_lt (Nat.lt_add_of_pos_right (by decide))), x.e.sameBut hs (Nat.ne_of_lt (Nat.add_lt_add_left (by decide) _)), hn, x.t.sameBut hs (Nat.ne_of_gt (Nat.add_lt_add_left (by decide) _))⟩
theorem FB.setT (x : FB h₀ L h m vE vP vT) (hs : Heap.SameBut (L + 3) h h') (hn : h'.IsCell (L + 3) v') : FB h₀ L h' m vE vP v' :=
  ⟨x.ext.store hs (x.none (Nat.le_add_right _ _)), x.size, x.ns.sameBut hs (Nat.ne_of_lt (Nat.lt_add_of_pos_right (by decide))), x.e.sameBut hs (Nat.ne_of_lt (Nat.add_lt_add_left (by decide) _)), x.p.sameBut hs (Nat.ne_of_lt (Nat.add_lt_add_left (by decide) _)), hn⟩
end
section
variable {env : Env} {L : Addr} {outer : List Env} {h₀ : Heap} {m : Str → Option Value} {vE vP vT : Option Value}
theorem ld {n : Str} {p : Pos} {v : Value} {Q : Value → Shared → Prop} {A' : Around} {M : Model} (C : Holds env L A outer) (x : FB h₀ L s.heap m vE vP vT) (k : n ∈ (["x", "kind", "laid", "low", "error", "other", "thing", "told", "ends"] : List Str)) (hv : m n = some v) (hq : Q v s) (hd : (n == ("__debug__" : Str)) = false := by decide) :
    wpAny M A' (eval (.Name n p) env) Q E s := name_l C.toAct x.ns (C.locs n k) hv hq hd
theorem st {n : Str} {v : Value} {Q : Unit → Shared → Prop} {A' : Around} {M : Model} (C : Holds env L A outer) (x : FB h₀ L s.heap m vE vP vT) (k : n ∈ (["x", "kind", "laid", "low", "error", "other", "thing", "told", "ends"] : List Str))
    (hq : ∀ h' tk, FB h₀ L h' (fun y => if y = n then some v else m y) vE vP vT → Kp L s.heap h' → Q () { s with heap := h', toks := tk }) : wpAny M A' (storeName env n v) Q E s := by
  refine wpAny_storeName_local (C.locs n k) (by rw [C.toAct.loc]; exact x.ns) (fun h' hn hs => ?_) (by rw [C.toAct.kind]; rfl)
  rw [C.toAct.loc] at hn hs
  exact hq h' _ (x.setL hs hn) (.but hs (.inl rfl))
theorem stE {v : Value} {Q : Unit → Shared → Prop} {A' : Around} {M : Model} (C : Holds env L A outer) (x : FB h₀ L s.heap m vE vP vT)
    (hq : ∀ h', FB h₀ L h' m (some v) vP vT → Kp L s.heap h' → Q () { s with heap := h' }) : wpAny M A' (storeName env "empty" v) Q E s :=
  wpAny_storeName_cell C.toAct.kind C.kE C.cE x.e fun h' hn hs => hq h' (x.setE hs hn) (.but hs (.inr (.inl rfl)))
theorem stP {v : Value} {Q : Unit → Shared → Prop} {A' : Around} {M : Model} (C : Holds env L A outer) (x : FB h₀ L s.heap m vE vP vT)
    (hq : ∀ h', FB h₀ L h' m vE (some v) vT → Kp L s.heap h' → Q () { s with heap := h' }) : wpAny M A' (storeName env "pair" v) Q E s :=
  wpAny_storeName_cell C.toAct.kind C.kP C.cP x.p fun h' hn hs => hq h' (x.setP hs hn) (.but hs (.inr (.inr (.inl rfl))))
theorem stT {v : Value} {Q : Unit → Shared → Prop} {A' : Around} {M : Model} (C : Holds env L A outer) (x : FB h₀ L s.heap m vE vP vT)
    (hq : ∀ h', FB h₀ L h' m vE vP (some v) → Kp L s.heap h' → Q () { s with heap := h' }) : wpAny M A' (storeName env "top" v) Q E s :=
  wpAny_storeName_cell C.toAct.kind C.kT C.cT x.t fun h' hn hs => hq h' (x.setT hs hn) (.but hs (.inr (.inr (.inr rfl))))
end
end Kq
end
section
open PySem PySem.W PySem.Spec PySem.Calls PyProof.Rows
open Builtin Builtin.ObjectAttr Builtin.Getset_descriptor
set_option maxRecDepth 100000
namespace Kq
variable {prog : Program} {w : World} {A : Around} {E : Value → Shared → Prop} {B : Heap} {mg mb : Str → Option Value} {s : Shared}
section
variable {env : Env} {L : Addr} {outer : List Env} {h₀ : Heap} {m : Str → Option Value} {vE vP vT : Option Value} {Q : Flow → Shared → Prop}
variable {p1 p2 p3 p4 p5 p6 p7 p8 p9 p10 p11 p12 p13 p14 p15 p16 p17 p18 p19 p20 p21 p22 p23 p24 p25 : Pos}
theorem sz1 (hp : Heap) (o : Obj) : hp.objs.size ≤ (hp.push o).objs.size := by rw [Heap.size_push]; exact Nat.le_succ _
theorem nolong {b : Int} (hb : ¬ (300 < (if b == 0 then 0 else b.natAbs.log2 / 30 + 1))) (n : Int) : ¬ (Builtin.divisionGoesByPylong n b) = true := by
  unfold Builtin.divisionGoesByPylong
  intro q
  rw [Bool.and_eq_true] at q
  exact hb (of_decide_eq_true q.1)
theorem nolong8 (n : Int) : ¬ (Builtin.divisionGoesByPylong n 8) = true := nolong (by decide +kernel) n
theorem nolong32 (n : Int) : ¬ (Builtin.divisionGoesByPylong n 32) = true := nolong (by decide +kernel) n
abbrev st1 (p1 p2 p3 p4 p5 p6 p7 p8 p9 p10 p11 p12 p13 p14 p15 p16 p17 p18 p19 p20 p21 p22 p23 p24 : Pos) : Stmt :=
  .Assign [.Tuple [.Name "kind" p1, .Name "laid" p2, .Name "top" p3, .Name "low" p4, .Name "pair" p5] 0 p6]
    (.Tuple [.BinOp (.Name "x" p7) .Mod (.Constant (.int 8) 0 p8) p9, .BinOp (.BinOp (.Name "x" p10) .FloorDiv (.Constant (.int 8) 0 p11) p12) .Mod (.Constant (.int 4) 0 p13) p14,
      .List [.Name "x" p15] p16, .List [.Name "x" p17, .Name "x" p18] p19, .List [.Name "x" p20, .Constant (.int 1) 0 p21] p22] 0 p23) p24
theorem run1 {n : Int} {t : Tok} (C : Holds env L A outer) (hh : A.handled = none) (x : FB h₀ L s.heap m none none none) (hx : m "x" = some (.int n t))
    (h : ∀ h' tk m' k d top low pair t1 t2, FB h₀ L h' m' none (some (.ref pair)) (some (.ref top)) → m' "x" = some (.int n t) → m' "kind" = some (.int k t1) → k = n.fmod 8 → m' "laid" = some (.int d t2) → d = (n.fdiv 8).fmod 4 → m' "low" = some (.ref low) →
      Off L top → Off L low → Off L pair → h₀.get? top = none → h₀.get? low = none → h₀.get? pair = none → h'.IsList top #[.int n t] → Q .next { s with heap := h', toks := tk }) :
    wpAny (model prog w) A (exec (st1 p1 p2 p3 p4 p5 p6 p7 p8 p9 p10 p11 p12 p13 p14 p15 p16 p17 p18 p19 p20 p21 p22 p23 p24) env) Q E s := by
  have lx : ∀ {n' : Str} {v : Value} {h' : Heap} {tk : Nat} {p : Pos} {Q' : Value → Shared → Prop}, h'.Ns L m → n' = "x" → v = .int n t → Q' v { s with heap := h', toks := tk } → wpAny (model prog w) A (eval (.Name n' p) env) Q' E { s with heap := h', toks := tk } := fun hn e1 e2 hq => by
    subst e1; subst e2
    exact name_l (s := { s with heap := _, toks := _ }) C.toAct hn (C.locs _ (by decide)) hx hq
  have k1 : ∀ (o₁ o₂ : Obj) (hp : Heap), hp.StaysIn (hp.push o₁) := fun o₁ _ hp b o q => Heap.get?_push_of_some _ q
  refine Assign_Tuple (wpAny_Tuple (args_cons (wpAny_BinOp (ld C x (by decide) hx (wpAny_Constant_int (AutoIntOps.mod_1 (by decide) ?_))))))
  refine args_cons (wpAny_BinOp (wpAny_BinOp (lx x.ns rfl rfl (wpAny_Constant_int (AutoIntOps.floordiv_1 (by decide) (nolong8 n) ?_)))))
  refine wpAny_Constant_int (AutoIntOps.mod_1 (by decide) ?_)
  refine args_cons (wpAny_List (args_cons (lx x.ns rfl rfl (args_nil ⟨by show 1 ≤ sizeLine; decide +kernel, ?_⟩))))
  have x₁ := x.push (k1 { cls := .type "list", data := .seq #[.int n t] } default s.heap)
  refine args_cons (wpAny_List (args_cons (lx x₁.ns rfl rfl (args_cons (lx x₁.ns rfl rfl (args_nil ⟨by show 2 ≤ sizeLine; decide +kernel, ?_⟩))))))
  have x₂ := x₁.push (k1 { cls := .type "list", data := .seq #[.int n t, .int n t] } default _)
  refine args_cons (wpAny_List (args_cons (lx x₂.ns rfl rfl (args_cons (wpAny_Constant_int (args_nil ⟨by show 2 ≤ sizeLine; decide +kernel, ?_⟩))))))
  refine args_nil ⟨by show 5 ≤ sizeLine; decide +kernel, ?_⟩
  refine assign_Tuple_tuple hh (t := _) (items := _) ⟨_, Heap.get?_push_size _ rfl, rfl, 0, rfl⟩ rfl rfl fun h₅ he => ?_
  have k₅ : ((s.heap.push { cls := .type "list", data := .seq #[.int n t] }).push { cls := .type "list", data := .seq #[.int n t, .int n t] }).StaysIn h₅ := fun b o q =>
    he b o (Nat.ne_of_lt (Heap.lt_size (Heap.get?_push_of_some _ (Heap.get?_push_of_some _ q)))) (Heap.get?_push_of_some _ (Heap.get?_push_of_some _ q))
  have x₅ : FB h₀ L h₅ m none none none := x₂.push k₅
  have b0 := x.off (none_of_ge (Nat.le_refl _))
  have tl : h₅.IsList s.heap.objs.size #[.int n t] := ⟨_, k₅ _ _ (Heap.get?_push_of_some _ (Heap.get?_push_size _ rfl)), rfl, 0, rfl⟩
  show wpAny (model prog w) A (assignInOrder [_, _, _, _, _] [_, _, _, _, _]) _ _ _
  refine assignInOrder_cons (assign_Name (st C x₅ (by decide) fun h₆ tk₆ x₆ k₆ => ?_))
  refine assignInOrder_cons (assign_Name (st C x₆ (by decide) fun h₇ tk₇ x₇ k₇ => ?_))
  refine assignInOrder_cons (assign_Name (stT C x₇ fun h₈ x₈ k₈ => ?_))
  refine assignInOrder_cons (assign_Name (st C x₈ (by decide) fun h₉ tk₉ x₉ k₉ => ?_))
  refine assignInOrder_cons (assign_Name (stP C x₉ fun h₁₀ x₁₀ k₁₀ => ?_))
  refine assignInOrder_nil ?_
  have kk : Kp L h₅ h₁₀ := k₆.trans (k₇.trans (k₈.trans (k₉.trans k₁₀)))
  refine h h₁₀ _ _ _ _ _ _ _ _ _ x₁₀ ((if_neg (by decide)).trans ((if_neg (by decide)).trans ((if_neg (by decide)).trans hx))) ((if_neg (by decide)).trans ((if_neg (by decide)).trans (if_pos rfl))) rfl ((if_neg (by decide)).trans (if_pos rfl)) rfl (if_pos rfl) ?_ ?_ ?_ ?_ ?_ ?_ ?_
  · exact b0
  · exact x.off (none_of_ge (sz1 _ _))
  · exact x.off (none_of_ge (Nat.le_trans (sz1 _ _) (sz1 _ _)))
  · exact x.ext.fresh (none_of_ge (Nat.le_refl _))
  · exact x.ext.fresh (none_of_ge (sz1 _ _))
  · exact x.ext.fresh (none_of_ge (Nat.le_trans (sz1 _ _) (sz1 _ _)))
  · obtain ⟨o, ho, r⟩ := tl
    exact ⟨o, kk _ _ ho b0, r⟩
end
end Kq
end
section
open PySem PySem.W PySem.Spec PySem.Calls PyProof.Rows
open Builtin Builtin.ObjectAttr Builtin.Getset_descriptor
set_option maxRecDepth 100000
namespace Kq
variable {prog : Program} {w : World} {A : Around} {E : Value → Shared → Prop} {B : Heap} {mg mb : Str → Option Value} {s : Shared}
structure ErrK (B : Heap) (c : Value) (b1 b2 : Bool) : Prop where
  plain : Plain B c
  base : Sub B c (.type "BaseException") true
  ae : Sub B c (.type "AttributeError") false
  oe : Sub B c (.type "OverflowError") b1
  ve : Sub B c (.type "ValueError") b2
theorem err_OE (B : Heap) : ErrK B (.type "OverflowError") true false :=
  ⟨.type (by decide +kernel), .type (by rw [isSubtype_type]; kernel_rfl), .type (by rw [isSubtype_type]; kernel_rfl), .type (by rw [isSubtype_type]; kernel_rfl), .type (by rw [isSubtype_type]; kernel_rfl)⟩
theorem err_VE (B : Heap) : ErrK B (.type "ValueError") false true :=
  ⟨.type (by decide +kernel), .type (by rw [isSubtype_type]; kernel_rfl), .type (by rw [isSubtype_type]; kernel_rfl), .type (by rw [isSubtype_type]; kernel_rfl), .type (by rw [isSubtype_type]; kernel_rfl)⟩
theorem err_KE (B : Heap) : ErrK B (.type "KeyError") false false :=
  ⟨.type (by decide +kernel), .type (by rw [isSubtype_type]; kernel_rfl), .type (by rw [isSubtype_type]; kernel_rfl), .type (by rw [isSubtype_type]; kernel_rfl), .type (by rw [isSubtype_type]; kernel_rfl)⟩
theorem err_SE (G : G0 w B mg mb) : ErrK B (.ref 52) false true :=
  ⟨.own (se_cls G) rfl, .own (se_cls G) (by decide +kernel), .own (se_cls G) (by decide +kernel), .own (se_cls G) (by decide +kernel), .own (se_cls G) (by decide +kernel)⟩
section
variable {env : Env} {L : Addr} {outer : List Env} {h₀ : Heap} {m : Str → Option Value} {vE vP vT : Option Value}
theorem made_b {X N I : String} {n x : Str} {p1 p2 p3 : Pos} {k : Nat} {Q : Value → Shared → Prop} (hc : ExcClass X N I) (G : G0 w B mg mb) (hB : B.StaysIn s.heap) (C : Act env L A outer) {A' : Around} (kn : env.kindOf n = some .globalImplicit)
    (hn : nsIn (hd.heap_39 w.params) mainGlobals n = some none) (hv : bootBuiltins n = some (.type X)) (hne : n ≠ "__name__")
    (h : ∀ h' tk e a0, s.heap.StaysIn h' → s.heap.get? e = none → Exc h' e (.type X) a0 .none none → Q (.ref e) { s with heap := h', toks := tk }) (hd : (n == ("__debug__" : Str)) = false := by decide) :
    wpAny (model prog w) A' (eval (.Call (.Name n p1) [.Constant (.str x) k p2] [] p3) env) Q E s := by
  refine Call_Name (trees := [(false, eval (.Constant (.str x) k p2) env)]) rfl ?_
  refine name_b (v := .type X) G hB hn hv hne ?_ C.kind C.glob C.blt kn hd
  refine callWith_type1 (wpAny_Constant_str (call_exc hc (fun h' e hm => ?_) (by show 1 ≤ sizeLine; decide +kernel)))
  obtain ⟨_, a0, he⟩ := newExc_exc hm
  exact h h' _ e a0 hm.keeps hm.new he
theorem made_se {x : Str} {p1 p2 p3 : Pos} {k : Nat} {Q : Value → Shared → Prop} (G : G0 w B mg mb) (hB : B.StaysIn s.heap) (C : Act env L A outer) {A' : Around} (kn : env.kindOf "StatisticsError" = some .globalImplicit)
    (h : ∀ h' tk e a0, s.heap.StaysIn h' → s.heap.get? e = none → Exc h' e (.ref 52) a0 .none none → (∃ o, h'.get? e = some o ∧ o.dict = none) → Q (.ref e) { s with heap := h', toks := tk }) :
    wpAny (model prog w) A' (eval (.Call (.Name "StatisticsError" p1) [.Constant (.str x) k p2] [] p3) env) Q E s := by
  refine Call_Name (trees := backTo p3 (starEach [.Constant (.str x) k p2] env)) rfl ?_
  refine name_g (v := .ref 52) G hB (by rfl) ?_ C.kind C.glob kn
  refine callWith_K (G.X.keeps hB) (by kernel_rfl) (args_cons (wpAny_Constant_str (args_nil ⟨G.X.keeps hB, ?_⟩)))
  obtain ⟨mN, hn0, hmN⟩ := se_ns G
  obtain ⟨hp, g, d, t, os⟩ := s
  refine wpAny_call_exc_sub F.excBase_ValueError (hB _ _ (se_cls G)) (hn0.keeps hB) (hmN "__init__" (by decide +kernel)) (fun h' e hm => ?_) (by show 1 ≤ sizeLine; decide +kernel)
  obtain ⟨tt, he, ht, ht'⟩ := hm.there
  exact h h' _ e _ hm.keeps hm.new ⟨_, _, he, rfl, rfl, rfl, rfl, rfl⟩ ⟨_, he, rfl⟩
end
end Kq
end
section
open PySem PySem.W PySem.Spec PySem.Calls PyProof.Rows
open Builtin Builtin.ObjectAttr Builtin.Getset_descriptor
set_option maxRecDepth 100000
namespace Kq
variable {prog : Program} {w : World} {A : Around} {E : Value → Shared → Prop} {B : Heap} {mg mb : Str → Option Value} {s : Shared}
section
variable {env : Env} {L : Addr} {outer : List Env} {h₀ : Heap} {m : Str → Option Value} {vE vP vT : Option Value} {Q : Flow → Shared → Prop}
variable {p1 p2 p3 p4 p5 p6 p7 p8 p9 p10 p11 p12 p13 p14 p15 p16 p17 p18 p19 p20 p21 p22 p23 p24 p25 : Pos}
theorem fdec (n : Int) : (n.fdiv 32).fmod 3 = 0 ∨ (n.fdiv 32).fmod 3 = 1 ∨ (n.fdiv 32).fmod 3 = 2 := by
  have h1 := Int.fmod_nonneg_of_pos (n.fdiv 32) (b := 3) (by decide)
  have h2 := Int.fmod_lt_of_pos (n.fdiv 32) (b := 3) (by decide)
  omega
theorem FB.base (x : FB h₀ L s.heap m vE vP vT) (hB : B.StaysIn h₀) : B.StaysIn s.heap := x.ext.base hB fun b hb => nomatch hb
abbrev st2 (p1 p2 p3 p4 p5 p6 p7 p8 p9 p10 p11 p12 p13 p14 p15 p16 p17 p18 : Pos) : Stmt :=
  .Assign [.Name "error" p1] (.Subscript (.List [.Call (.Name "OverflowError" p2) [.Constant (.str "far") 0 p3] [] p4, .Call (.Name "ValueError" p5) [.Constant (.str "none") 0 p6] [] p7, .Call (.Name "StatisticsError" p8) [.Constant (.str "none") 0 p9] [] p10] p11)
    (.BinOp (.BinOp (.Name "x" p12) .FloorDiv (.Constant (.int 32) 0 p13) p14) .Mod (.Constant (.int 3) 0 p15) p16) p17) p18
theorem run2 {n : Int} {t : Tok} (G : G0 w B mg mb) (hB : B.StaysIn h₀) (C : Holds env L A outer) (x : FB h₀ L s.heap m vE vP vT) (hx : m "x" = some (.int n t))
    (h : ∀ h' tk er c a0 b1 b2, FB h₀ L h' (fun y => if y = "error" then some (.ref er) else m y) vE vP vT → Kp L s.heap h' → Off L er → h₀.get? er = none → Exc h' er c a0 .none none → ErrK B c b1 b2 → (b1 || b2) = true → Q .next { s with heap := h', toks := tk }) :
    wpAny (model prog w) A (exec (st2 p1 p2 p3 p4 p5 p6 p7 p8 p9 p10 p11 p12 p13 p14 p15 p16 p17 p18) env) Q E s := by
  refine wpAny_Assign_Name (sub_item (fun _ _ => rfl) (wpAny_List (args_cons ?_)))
  refine made_b excClass_OverflowError G (x.base hB) C.toAct (C.glos _ (by decide)) rfl rfl (by decide) fun h₁ t₁ e₁ a₁ k₁ n₁ x₁ => ?_
  have f₁ := x.push k₁
  refine args_cons (made_b (s := { s with heap := h₁, toks := t₁ }) excClass_ValueError G (f₁.base (s := { s with heap := h₁, toks := t₁ }) hB) C.toAct (C.glos _ (by decide)) rfl rfl (by decide) fun h₂ t₂ e₂ a₂ k₂ n₂ x₂ => ?_)
  have f₂ := f₁.push k₂
  refine args_cons (made_se (s := { s with heap := h₂, toks := t₂ }) G (f₂.base (s := { s with heap := h₂, toks := t₂ }) hB) C.toAct (C.glos _ (by decide)) fun h₃ t₃ e₃ a₃ k₃ n₃ x₃ _ => ?_)
  have f₃ := f₂.push k₃
  refine args_nil ⟨by show 3 ≤ sizeLine; decide +kernel, ?_⟩
  have k₄ : h₃.StaysIn (h₃.push { cls := .type "list", data := .seq #[.ref e₁, .ref e₂, .ref e₃] }) := fun b o q => Heap.get?_push_of_some _ q
  have f₄ := f₃.push k₄
  refine wpAny_BinOp (wpAny_BinOp (ld (s := { s with heap := h₃.push { cls := .type "list", data := .seq #[.ref e₁, .ref e₂, .ref e₃] }, toks := t₃ }) C f₄ (by decide) hx (wpAny_Constant_int (AutoIntOps.floordiv_1 (by decide) (nolong32 n) ?_))))
  refine wpAny_Constant_int (AutoIntOps.mod_1 (by decide) ?_)
  have hlst : (h₃.push { cls := .type "list", data := .seq #[.ref e₁, .ref e₂, .ref e₃] }).IsList h₃.objs.size #[.ref e₁, .ref e₂, .ref e₃] := ⟨_, Heap.get?_push_size _ rfl, rfl, 0, rfl⟩
  have fin : ∀ (er : Addr) (c a0 : Value) (b1 b2 : Bool), Off L er → h₀.get? er = none → Exc h₃ er c a0 .none none → ErrK B c b1 b2 → (b1 || b2) = true → ∀ tk', wpAny (model prog w) A (storeName env "error" (.ref er)) (fun _ => Q .next) E { s with heap := h₃.push { cls := .type "list", data := .seq #[.ref e₁, .ref e₂, .ref e₃] }, toks := tk' } := fun er c a0 b1 b2 o1 o2 xe ek hb tk' => by
    refine st (s := { s with heap := h₃.push { cls := .type "list", data := .seq #[.ref e₁, .ref e₂, .ref e₃] }, toks := tk' }) C f₄ (by decide) fun h₅ tk₅ f₅ k₅ => ?_
    have kk : Kp L s.heap h₅ := (Kp.of k₁).trans ((Kp.of k₂).trans ((Kp.of k₃).trans ((Kp.of k₄).trans k₅)))
    refine h h₅ tk₅ er c a0 b1 b2 f₅ kk o1 o2 ?_ ek hb
    obtain ⟨o, vs, ho, r⟩ := xe
    exact ⟨o, vs, k₅ _ _ (k₄ _ _ ho) o1, r⟩
  have mv : ∀ {hp : Heap} {e : Addr} {c a0 : Value}, Exc hp e c a0 .none none → hp.StaysIn h₃ → Exc h₃ e c a0 .none none := fun xe k => by
    obtain ⟨o, vs, ho, r⟩ := xe
    exact ⟨o, vs, k _ _ ho, r⟩
  refine ⟨"list", "list.__getitem__", F.slot_list_getitem.lookup, ⟨_, Heap.get?_push_size _ rfl, rfl⟩, ?_⟩
  rcases fdec n with q | q | q <;> rw [q]
  · refine wpAny_getItem_list hlst (by decide) (by decide) rfl ?_
    exact fin e₁ _ a₁ true false (x.off n₁) (x.ext.fresh n₁) (mv x₁ fun b o z => k₃ _ _ (k₂ _ _ z)) (err_OE B) rfl _
  · refine wpAny_getItem_list hlst (by decide) (by decide) rfl ?_
    exact fin e₂ _ a₂ false true (f₁.off n₂) (f₁.ext.fresh n₂) (mv x₂ k₃) (err_VE B) rfl _
  · refine wpAny_getItem_list hlst (by decide) (by decide) rfl ?_
    exact fin e₃ _ a₃ false true (f₂.off n₃) (f₂.ext.fresh n₃) x₃ (err_SE G) rfl _
end
end Kq
end
section
open PySem PySem.W PySem.Spec PySem.Calls PyProof.Rows
open Builtin Builtin.ObjectAttr Builtin.Getset_descriptor
set_option maxRecDepth 100000
namespace Kq
variable {prog : Program} {w : World} {A : Around} {E : Value → Shared → Prop} {B : Heap} {mg mb : Str → Option Value} {s : Shared}
section
variable {env : Env} {L : Addr} {outer : List Env} {h₀ : Heap} {m : Str → Option Value} {vE vP vT : Option Value} {Q : Flow → Shared → Prop}
variable {p1 p2 p3 p4 p5 : Pos}
theorem exc_kp {h h' : Heap} {e : Addr} {c a0 : Value} (x : Exc h e c a0 .none none) (k : Kp L h h') (o : Off L e) : Exc h' e c a0 .none none := by
  obtain ⟨ob, vs, ho, r⟩ := x
  exact ⟨ob, vs, k _ _ ho o, r⟩
theorem list_kp {h h' : Heap} {e : Addr} {items : Array Value} (x : h.IsList e items) (k : Kp L h h') (o : Off L e) : h'.IsList e items := by
  obtain ⟨ob, ho, r⟩ := x
  exact ⟨ob, k _ _ ho o, r⟩
abbrev st3 (p1 p2 p3 p4 p5 : Pos) : Stmt := .Assign [.Name "other" p1] (.Call (.Name "KeyError" p2) [.Constant (.str "other") 0 p3] [] p4) p5
theorem run3 (G : G0 w B mg mb) (hB : B.StaysIn h₀) (C : Holds env L A outer) (x : FB h₀ L s.heap m vE vP vT)
    (h : ∀ h' tk oc a0, FB h₀ L h' (fun y => if y = "other" then some (.ref oc) else m y) vE vP vT → Kp L s.heap h' → Off L oc → h₀.get? oc = none → s.heap.get? oc = none → Exc h' oc (.type "KeyError") a0 .none none → Q .next { s with heap := h', toks := tk }) :
    wpAny (model prog w) A (exec (st3 p1 p2 p3 p4 p5) env) Q E s := by
  refine wpAny_Assign_Name ?_
  refine made_b excClass_KeyError G (x.base hB) C.toAct (C.glos _ (by decide)) rfl rfl (by decide) fun h₁ t₁ e₁ a₁ k₁ n₁ x₁ => ?_
  have f₁ := x.push k₁
  refine st (s := { s with heap := h₁, toks := t₁ }) C f₁ (by decide) fun h₂ t₂ f₂ k₂ => ?_
  exact h h₂ t₂ e₁ a₁ f₂ ((Kp.of k₁).trans k₂) (x.off n₁) (x.ext.fresh n₁) n₁ (exc_kp x₁ k₂ (x.off n₁))
abbrev st4 (p1 p2 p3 : Pos) : Stmt := .Assign [.Name "empty" p1] (.List [] p2) p3
theorem run4 (C : Holds env L A outer) (x : FB h₀ L s.heap m vE vP vT)
    (h : ∀ h' tk el, FB h₀ L h' m (some (.ref el)) vP vT → Kp L s.heap h' → Off L el → h₀.get? el = none → h'.IsList el #[] → Q .next { s with heap := h', toks := tk }) :
    wpAny (model prog w) A (exec (st4 p1 p2 p3) env) Q E s := by
  refine wpAny_Assign_Name (wpAny_List (args_nil ⟨by show 0 ≤ sizeLine; decide +kernel, ?_⟩))
  have k₁ : s.heap.StaysIn (s.heap.push { cls := .type "list", data := .seq #[] }) := fun b o q => Heap.get?_push_of_some _ q
  have n₁ := none_of_ge (Nat.le_refl s.heap.objs.size)
  refine stE (s := { s with heap := s.heap.push { cls := .type "list", data := .seq #[] } }) C (x.push k₁) fun h₂ f₂ k₂ => ?_
  exact h h₂ _ _ f₂ ((Kp.of k₁).trans k₂) (x.off n₁) (x.ext.fresh n₁) (list_kp ⟨_, Heap.get?_push_size _ rfl, rfl, 0, rfl⟩ k₂ (x.off n₁))
abbrev st5 (p1 p2 p3 p4 p5 : Pos) : Stmt := .Assign [.Name "thing" p1] (.Call (.Name "StatisticsError" p2) [.Constant (.str "thing") 0 p3] [] p4) p5
theorem run5 (G : G0 w B mg mb) (hB : B.StaysIn h₀) (C : Holds env L A outer) (x : FB h₀ L s.heap m vE vP vT)
    (h : ∀ h' tk th, FB h₀ L h' (fun y => if y = "thing" then some (.ref th) else m y) vE vP vT → Kp L s.heap h' → Off L th → h₀.get? th = none → s.heap.get? th = none → Made h' th none (fun _ => none) → Q .next { s with heap := h', toks := tk }) :
    wpAny (model prog w) A (exec (st5 p1 p2 p3 p4 p5) env) Q E s := by
  refine wpAny_Assign_Name ?_
  refine made_se G (x.base hB) C.toAct (C.glos _ (by decide)) fun h₁ t₁ e₁ a₁ k₁ n₁ x₁ d₁ => ?_
  have f₁ := x.push k₁
  refine st (s := { s with heap := h₁, toks := t₁ }) C f₁ (by decide) fun h₂ t₂ f₂ k₂ => ?_
  refine h h₂ t₂ e₁ f₂ ((Kp.of k₁).trans k₂) (x.off n₁) (x.ext.fresh n₁) n₁ ⟨?_, fun _ _ => rfl, fun d z => nomatch z⟩
  obtain ⟨o, vs, ho, hc, hd, h0, h2, h1⟩ := x₁
  obtain ⟨o', ho', hdn⟩ := d₁
  rw [ho] at ho'; cases ho'
  exact ⟨o, vs, k₂ _ _ ho (x.off n₁), hc, hd, h1, hdn⟩
end
end Kq
end
section
open PySem PySem.W PySem.Spec PySem.Calls PyProof.Rows
open Builtin Builtin.ObjectAttr Builtin.Getset_descriptor
set_option maxRecDepth 100000
namespace Kq
variable {prog : Program} {w : World} {A : Around} {E : Value → Shared → Prop} {B : Heap} {mg mb : Str → Option Value} {s : Shared}
structure Dt where
  n : Int
  t : Tok
  top : Addr
  low : Addr
  pair : Addr
  el : Addr
  er : Addr
  oc : Addr
  th : Addr
  c : Value
  a0 : Value
  ao : Value
  b1 : Bool
  b2 : Bool
abbrev Dt.kind (D : Dt) : Int := D.n.fmod 8
abbrev Dt.laid (D : Dt) : Int := (D.n.fdiv 8).fmod 4
structure Stat (B h₀ : Heap) (L : Addr) (m : Str → Option Value) (D : Dt) : Prop where
  size : h₀.objs.size ≤ L
  kind : ∃ t, m "kind" = some (.int D.kind t)
  laid : ∃ t, m "laid" = some (.int D.laid t)
  low : m "low" = some (.ref D.low)
  error : m "error" = some (.ref D.er)
  other : m "other" = some (.ref D.oc)
  thing : m "thing" = some (.ref D.th)
  fresh : ∀ a ∈ [D.top, D.low, D.pair, D.el, D.er, D.oc, D.th], h₀.get? a = none
  ne1 : D.th ≠ D.er
  ne2 : D.th ≠ D.oc
  ne3 : D.er ≠ D.oc
  ek : ErrK B D.c D.b1 D.b2
  hb : (D.b1 || D.b2) = true
  t71 : ∃ o, h₀.get? 71 = some o
  t85 : ∃ o, h₀.get? 85 = some o
abbrev qH : Str := "_law_holds.<locals>.<lambda>"
structure LS (h₀ : Heap) (L : Addr) (m : Str → Option Value) (D : Dt) (h : Heap) (dx : Option Addr) (mA : Str → Option Value) : Prop where
  ext : Ext [71, 85] h₀ h
  ns : h.Ns L m
  e : h.IsCell (L + 1) (some (.ref D.el))
  p : h.IsCell (L + 2) (some (.ref D.pair))
  t : h.IsCell (L + 3) (some (.ref D.top))
  ltop : h.IsList D.top #[.int D.n D.t]
  lel : h.IsList D.el #[]
  er : Exc h D.er D.c D.a0 .none none
  oc : Exc h D.oc (.type "KeyError") D.ao .none none
  th : Made h D.th dx mA
  within : Within mA attrNames
  dfresh : ∀ d, dx = some d → h₀.get? d = none ∧ d ≠ L
  t71 : Tab h 71 qR
  t85 : Tab h 85 qH
section
variable {env : Env} {L : Addr} {outer : List Env} {h₀ h h' : Heap} {m : Str → Option Value} {D : Dt} {dx dx' : Option Addr} {mA mA' : Str → Option Value}
def Lk (D : Dt) (dx : Option Addr) (h h' : Heap) : Prop := ∀ b o, h.get? b = some o → b ≠ D.th → dx ≠ some b → b ≠ 71 → b ≠ 85 → h'.get? b = some o
theorem Stat.off (S : Stat B h₀ L m D) {b : Addr} (hb : h₀.get? b = none) : b ≠ 71 ∧ b ≠ 85 := by
  obtain ⟨o, h1⟩ := S.t71
  obtain ⟨o', h2⟩ := S.t85
  exact ⟨(fun q => by rw [q, h1] at hb; cases hb), (fun q => by rw [q, h2] at hb; cases hb)⟩
theorem Stat.above (S : Stat B h₀ L m D) {a : Addr} (ha : L ≤ a) : h₀.get? a = none := none_of_ge (Nat.le_trans S.size ha)
theorem LS.apart (S : LS h₀ L m D h dx mA) {b : Addr} {o : Obj} (ho : h.get? b = some o) (h1 : ∀ vs, o.data = .fields vs → ∃ q t, vs[1]? = some (.str q t)) (h2 : ∀ es ep, o.data ≠ .dict es ep) : b ≠ D.th ∧ dx ≠ some b := by
  refine ⟨fun q => ?_, fun q => ?_⟩
  · obtain ⟨o', vs, ho', _, hd, hv, _⟩ := S.th.obj
    rw [q, ho'] at ho; cases ho
    obtain ⟨q', t', e⟩ := h1 _ hd
    rw [hv] at e; cases e
  · obtain ⟨_, o', es, ep, ho', hd, _⟩ := S.th.ns b q
    rw [ho'] at ho; cases ho; exact h2 _ _ hd
theorem tab_at1 {P : Addr} {q : Str} (T : Tab h P q) {o : Obj} {vs : Array Value} (ho : h.get? P = some o) (hd : o.data = .fields vs) : ¬ ∃ x t, vs[1]? = some (.str x t) := by
  obtain ⟨ps, e, ht, _⟩ := T
  rw [e] at ho; cases ho; cases hd
  rintro ⟨x, t, hx⟩
  rw [← Array.getElem?_toList] at hx
  generalize vs.toList = l at ht hx
  match l, ht, hx with
  | [], _, hx => cases hx
  | .int _ _ :: .int _ _ :: _ :: _, _, hx => cases hx
theorem LS.off_tabs (S : LS h₀ L m D h dx mA) {b : Addr} {o : Obj} (ho : h.get? b = some o) (h1 : ∀ vs, o.data = .fields vs → ∃ q t, vs[1]? = some (.str q t)) : b ≠ 71 ∧ b ≠ 85 := by
  refine ⟨fun q => ?_, fun q => ?_⟩
  · obtain ⟨ps, e, _⟩ := id S.t71
    rw [q] at ho
    have ho' := ho
    rw [e] at ho'; cases ho'
    exact tab_at1 S.t71 ho rfl (h1 _ rfl)
  · obtain ⟨ps, e, _⟩ := id S.t85
    rw [q] at ho
    have ho' := ho
    rw [e] at ho'; cases ho'
    exact tab_at1 S.t85 ho rfl (h1 _ rfl)
theorem ask_lk {f cc c' e : Addr} (S : LS h₀ L m D h dx mA) (F : AskAt h f cc c' e) (k : Lk D dx h h') : AskAt h' f cc c' e := by
  have F' := F
  obtain ⟨o, nm, qual, n, np, pos, doc, pm, ct, e1, e2, ⟨c₂, oc, vs, tq, ec, hoc, hdc, hq⟩, ⟨occ, e4, e4'⟩, e5⟩ := F'
  cases ec
  refine F.keep fun b ob hb ho => ?_
  rcases hb with rfl | rfl | rfl
  · rw [e1] at ho; cases ho
    have a1 := S.apart e1 (fun vs z => by rw [e2] at z; cases z) (fun es ep z => by rw [e2] at z; cases z)
    have a2 := S.off_tabs e1 (fun vs z => by rw [e2] at z; cases z)
    exact k _ _ e1 a1.1 a1.2 a2.1 a2.2
  · rw [e4] at ho; cases ho
    have a1 := S.apart e4 (fun vs z => by rw [e4'] at z; cases z) (fun es ep z => by rw [e4'] at z; cases z)
    have a2 := S.off_tabs e4 (fun vs z => by rw [e4'] at z; cases z)
    exact k _ _ e4 a1.1 a1.2 a2.1 a2.2
  · rw [hoc] at ho; cases ho
    have sh : ∀ vs', oc.data = .fields vs' → ∃ q t, vs'[1]? = some (.str q t) := fun vs' z => by rw [hdc] at z; cases z; exact ⟨_, _, hq⟩
    have a1 := S.apart hoc sh (fun es ep z => by rw [hdc] at z; cases z)
    have a2 := S.off_tabs hoc sh
    exact k _ _ hoc a1.1 a1.2 a2.1 a2.2
theorem lam_lk {f cc c' : Addr} {v : Value} (S : LS h₀ L m D h dx mA) (F : LamAt h f cc c' v) (k : Lk D dx h h') : LamAt h' f cc c' v := by
  have F' := F
  obtain ⟨o, nm, qual, n, pos, pm, ct, e1, e2, ⟨c₂, oc, vs, tq, ec, hoc, hdc, hq⟩, ⟨occ, e4, e4'⟩, e5⟩ := F'
  cases ec
  refine F.keep fun b ob hb ho => ?_
  rcases hb with rfl | rfl | rfl
  · rw [e1] at ho; cases ho
    have a1 := S.apart e1 (fun vs z => by rw [e2] at z; cases z) (fun es ep z => by rw [e2] at z; cases z)
    have a2 := S.off_tabs e1 (fun vs z => by rw [e2] at z; cases z)
    exact k _ _ e1 a1.1 a1.2 a2.1 a2.2
  · rw [e4] at ho; cases ho
    have a1 := S.apart e4 (fun vs z => by rw [e4'] at z; cases z) (fun es ep z => by rw [e4'] at z; cases z)
    have a2 := S.off_tabs e4 (fun vs z => by rw [e4'] at z; cases z)
    exact k _ _ e4 a1.1 a1.2 a2.1 a2.2
  · rw [hoc] at ho; cases ho
    have sh : ∀ vs', oc.data = .fields vs' → ∃ q t, vs'[1]? = some (.str q t) := fun vs' z => by rw [hdc] at z; cases z; exact ⟨_, _, hq⟩
    have a1 := S.apart hoc sh (fun es ep z => by rw [hdc] at z; cases z)
    have a2 := S.off_tabs hoc sh
    exact k _ _ hoc a1.1 a1.2 a2.1 a2.2
theorem LS.keep (T : Stat B h₀ L m D) (S : LS h₀ L m D h dx mA) (k : Lk D dx h h') (ext : Ext [71, 85] h₀ h') (th : Made h' D.th dx' mA') (wi : Within mA' attrNames) (df : ∀ d, dx' = some d → h₀.get? d = none ∧ d ≠ L) (t71 : Tab h' 71 qR) (t85 : Tab h' 85 qH) : LS h₀ L m D h' dx' mA' := by
  have fr := T.fresh
  have cell : ∀ {a : Addr} {v : Option Value}, L ≤ a → h.IsCell a v → h'.IsCell a v := fun {a v} ha hc => by
    obtain ⟨o, ho, hd⟩ := hc
    have a1 := S.apart ho (fun vs z => by rw [hd] at z; cases z) (fun es ep z => by rw [hd] at z; cases z)
    have a2 := T.off (T.above ha)
    exact ⟨o, k _ _ ho a1.1 a1.2 a2.1 a2.2, hd⟩
  have lst : ∀ {a : Addr} {items : Array Value}, h₀.get? a = none → h.IsList a items → h'.IsList a items := fun {a items} ha hc => by
    obtain ⟨o, ho, hcl, n, hd⟩ := hc
    have a1 := S.apart ho (fun vs z => by rw [hd] at z; cases z) (fun es ep z => by rw [hd] at z; cases z)
    have a2 := T.off ha
    exact ⟨o, k _ _ ho a1.1 a1.2 a2.1 a2.2, hcl, n, hd⟩
  have exc : ∀ {a : Addr} {c a0 : Value}, h₀.get? a = none → a ≠ D.th → Exc h a c a0 .none none → Exc h' a c a0 .none none := fun {a c a0} ha hne hc => by
    obtain ⟨o, vs, ho, hcl, hd, r⟩ := hc
    have a2 := T.off ha
    refine ⟨o, vs, k _ _ ho hne (fun q => ?_) a2.1 a2.2, hcl, hd, r⟩
    obtain ⟨_, o', es, ep, ho', hd', _⟩ := S.th.ns a q
    rw [ho'] at ho; cases ho; rw [hd'] at hd; cases hd
  refine ⟨ext, ?_, cell (Nat.le_add_right _ _) S.e, cell (Nat.le_add_right _ _) S.p, cell (Nat.le_add_right _ _) S.t, lst (fr _ (by simp)) S.ltop, lst (fr _ (by simp)) S.lel, exc (fr _ (by simp)) T.ne1.symm S.er, exc (fr _ (by simp)) T.ne2.symm S.oc, th, wi, df, t71, t85⟩
  obtain ⟨o, es, ep, ho, hd, r⟩ := S.ns
  have a2 := T.off (T.above (Nat.le_refl _))
  refine ⟨o, es, ep, k _ _ ho (fun q => ?_) (fun q => (S.dfresh _ q).2 rfl) a2.1 a2.2, hd, r⟩
  obtain ⟨o', vs, ho', _, hd', _⟩ := S.th.obj
  rw [q, ho'] at ho; cases ho; rw [hd] at hd'; cases hd'
end
end Kq
end
section
open PySem PySem.W PySem.Spec PySem.Calls PyProof.Rows
open Builtin Builtin.ObjectAttr Builtin.Getset_descriptor
set_option maxRecDepth 100000
namespace Kq
variable {prog : Program} {w : World} {A : Around} {E : Value → Shared → Prop} {B : Heap} {mg mb : Str → Option Value} {s : Shared}
section
variable {env : Env} {L : Addr} {outer : List Env} {h₀ h h' : Heap} {m : Str → Option Value} {D : Dt} {dx dx' : Option Addr} {mA mA' : Str → Option Value} {Q : Flow → Shared → Prop}
theorem tab_part {P : Addr} {q : Str} (S : LS h₀ L m D h dx mA) (T : Tab h P q) (k : ∀ b o, h.get? b = some o → b ≠ D.th → dx ≠ some b → h'.get? b = some o) : Tab h' P q := by
  obtain ⟨ps, e, ht, hr⟩ := id T
  refine ⟨ps, k _ _ e (fun z => ?_) (fun z => ?_), ht, fun pos cv hc => ?_⟩
  · obtain ⟨o', vs, ho', hcl, _⟩ := S.th.obj
    rw [z, ho'] at e; cases e; cases hcl
  · obtain ⟨_, o', es, ep, ho', hd, _⟩ := S.th.ns P z
    rw [ho'] at e; cases e; cases hd
  · obtain ⟨c', rfl, hrc, hne⟩ := hr pos cv hc
    refine ⟨c', rfl, ?_, hne⟩
    obtain ⟨c₂, oc, vs, tq, ec, hoc, hdc, hq⟩ := hrc
    cases ec
    have sh : ∀ vs', oc.data = .fields vs' → ∃ q t, vs'[1]? = some (.str q t) := fun vs' z => by rw [hdc] at z; cases z; exact ⟨_, _, hq⟩
    have a1 := S.apart hoc sh (fun es ep z => by rw [hdc] at z; cases z)
    exact ⟨_, oc, vs, tq, rfl, k _ _ hoc a1.1 a1.2, hdc, hq⟩
theorem tab_other {P P' : Addr} {q q' : Str} (T : Tab h P q) (T' : Tab h P' q') (hne : P ≠ P') (k : ∀ b o, h.get? b = some o → b ≠ P' → h'.get? b = some o) : Tab h' P q := by
  obtain ⟨ps, e, ht, hr⟩ := id T
  refine ⟨ps, k _ _ e hne, ht, fun pos cv hc => ?_⟩
  obtain ⟨c', rfl, hrc, hne'⟩ := hr pos cv hc
  refine ⟨c', rfl, rec_keep hrc fun o ho => k _ _ ho fun z => ?_, hne'⟩
  obtain ⟨c₂, oc, vs, tq, ec, hoc, hdc, hq⟩ := hrc
  cases ec
  rw [z] at hoc
  exact tab_at1 T' hoc hdc ⟨_, _, hq⟩
theorem made_keep {th : Addr} (M : Made h th dx mA) (k : ∀ b o, (b = th ∨ dx = some b) → h.get? b = some o → h'.get? b = some o) : Made h' th dx mA := by
  obtain ⟨o, vs, ho, r⟩ := M.obj
  refine ⟨⟨o, vs, k _ _ (.inl rfl) ho, r⟩, M.bare, fun d z => ?_⟩
  obtain ⟨hne, hns⟩ := M.ns d z
  exact ⟨hne, hns.at fun o q => k _ _ (.inr z) q⟩
theorem LS.push (T : Stat B h₀ L m D) (S : LS h₀ L m D h dx mA) (k : h.StaysIn h') : LS h₀ L m D h' dx mA :=
  S.keep T (fun b o q _ _ _ _ => k b o q) (S.ext.trans ((Ext.of k).mono fun b hb => nomatch hb) fun b hb => .inl hb) (made_keep S.th fun b o _ q => k b o q) S.within S.dfresh (S.t71.keeps k) (S.t85.keeps k)
theorem LS.made85 (T : Stat B h₀ L m D) (S : LS h₀ L m D h dx mA) (x : Ext [85] h h') (t : Tab h' 85 qH) : LS h₀ L m D h' dx mA ∧ Lk D dx h h' := by
  have k : ∀ b o, h.get? b = some o → b ≠ 85 → h'.get? b = some o := fun b o q hb => x.keep b o q (by simpa using hb)
  have lk : Lk D dx h h' := fun b o q _ _ _ h85 => k b o q h85
  refine ⟨S.keep T lk (S.ext.trans x fun b hb => .inl (by simp at hb; simp [hb])) (made_keep S.th fun b o hb q => k b o q ?_) S.within S.dfresh (tab_other S.t71 S.t85 (by decide) k) t, lk⟩
  rcases hb with rfl | hb
  · exact (T.off (T.fresh _ (by simp))).2
  · exact (T.off (S.dfresh _ hb).1).2
theorem LS.made71 (T : Stat B h₀ L m D) (S : LS h₀ L m D h dx mA) (x : Ext [71] h h') (t : Tab h' 71 qR) : LS h₀ L m D h' dx mA ∧ Lk D dx h h' := by
  have k : ∀ b o, h.get? b = some o → b ≠ 71 → h'.get? b = some o := fun b o q hb => x.keep b o q (by simpa using hb)
  have lk : Lk D dx h h' := fun b o q _ _ h71 _ => k b o q h71
  refine ⟨S.keep T lk (S.ext.trans x fun b hb => .inl (by simp at hb; simp [hb])) (made_keep S.th fun b o hb q => k b o q ?_) S.within S.dfresh t (tab_other S.t85 S.t71 (by decide) k), lk⟩
  rcases hb with rfl | hb
  · exact (T.off (T.fresh _ (by simp))).1
  · exact (T.off (S.dfresh _ hb).1).1
theorem LS.base (S : LS h₀ L m D h dx mA) (hB : B.StaysIn h₀) (h71 : B.get? 71 = none) (h85 : B.get? 85 = none) : B.StaysIn h := S.ext.base hB fun b hb => by
  rcases List.mem_cons.mp hb with rfl | hb
  · exact h71
  · rw [List.mem_singleton.mp hb]; exact h85
theorem run_lay {nm : Str} {val : Expr} {p1 p2 p3 : Pos} (G : G0 w B mg mb) (hB : B.StaysIn h₀) (h71 : B.get? 71 = none) (h85 : B.get? 85 = none) (C : Holds env L A outer) (T : Stat B h₀ L m D) (N : NoName nm)
    (hs : swapsWith val (some (.Attribute (.Name "thing" p1) nm p2)) p3.line env = pure false)
    (hv : wpAny (model prog w) A (eval val env) (fun v s₁ => ∃ dx mA, LS h₀ L m D s₁.heap dx mA ∧ ∀ h' tk d', LS h₀ L m D h' (some d') (fun y => if y = nm then some v else mA y) → Lk D dx s₁.heap h' → Q .next { s₁ with heap := h', toks := tk }) E s) :
    wpAny (model prog w) A (exec (.Assign [.Attribute (.Name "thing" p1) nm p2] val p3) env) Q E s := by
  refine plainObj_wpAny_Assign_Attribute (wpAny_mono hv (fun v s₁ hk => ?_) fun _ _ z => z) hs
  obtain ⟨dx, mA, S, k⟩ := hk
  refine name_l C.toAct S.ns (C.locs _ (by decide)) T.thing ?_
  obtain ⟨hp, g, d, t, os⟩ := s₁
  have hth : h₀.get? D.th = none := T.fresh _ (by simp)
  refine set_attr G (S.base hB h71 h85) N S.th (fun z => ?_) S.within fun h' tk' d' M' hd' k' => ?_
  · rw [z, hB _ _ (se_cls G)] at hth; cases hth
  have lk : Lk D dx hp h' := fun b o q n1 n2 _ _ => k' b o n1 n2 q
  have e1 : Ext [71, 85] h₀ h' := by
    refine S.ext.change (Z := D.th :: dx.toList) (fun b o hb q => k' b o (fun z => hb (by simp [z])) (fun z => hb (by simp [z])) q) fun z hz => ?_
    rcases List.mem_cons.mp hz with rfl | hz
    · exact hth
    · exact (S.dfresh z (by simpa using hz)).1
  refine k h' tk' d' (S.keep T lk e1 M' (fun y hy => ?_) (fun d₂ z => ?_) (tab_part S S.t71 fun b o q n1 n2 => k' b o n1 n2 q) (tab_part S S.t85 fun b o q n1 n2 => k' b o n1 n2 q)) lk
  · by_cases hn : y = nm
    · rw [hn]; exact N.mem
    · rw [if_neg hn] at hy; exact S.within y hy
  · cases z
    rcases hd' with q | ⟨_, q⟩
    · exact S.dfresh _ q
    · refine ⟨S.ext.fresh q, fun z => ?_⟩
      obtain ⟨o, es, ep, ho, _⟩ := S.ns
      rw [z] at q
      rw [show hp.get? L = none from q] at ho; cases ho
end
end Kq
end
section
open PySem PySem.W PySem.Spec PySem.Calls PyProof.Rows
open Builtin Builtin.ObjectAttr Builtin.Getset_descriptor
set_option maxRecDepth 100000
namespace Kq
variable {prog : Program} {w : World} {A : Around} {E : Value → Shared → Prop} {B : Heap} {mg mb : Str → Option Value} {s : Shared}
section
variable {env : Env} {L : Addr} {outer : List Env} {h₀ h h' : Heap} {m : Str → Option Value} {D : Dt} {dx : Option Addr} {mA : Str → Option Value} {Q : Flow → Shared → Prop}
variable {p1 p2 p3 p4 p5 p6 p7 p8 : Pos}
theorem clos_free {n : Str} {cc : Addr} (h : env.cells.lookup n = some cc) : closureFor (sFree n) env = pure [(n, cc)] := by
  unfold closureFor cellOf
  simp [h]
theorem Lk.trans {h₁ h₂ h₃ : Heap} (x : Lk D dx h₁ h₂) (y : Lk D dx h₂ h₃) : Lk D dx h₁ h₃ := fun b o q n1 n2 n3 n4 => y b o (x b o q n1 n2 n3 n4) n1 n2 n3 n4
theorem lay_top {nm : Str} (G : G0 w B mg mb) (hB : B.StaysIn h₀) (h71 : B.get? 71 = none) (h85 : B.get? 85 = none) (C : Holds env L A outer) (T : Stat B h₀ L m D) (N : NoName nm) (S : LS h₀ L m D s.heap dx mA)
    (h : ∀ h' tk d', LS h₀ L m D h' (some d') (fun y => if y = nm then some (.ref D.top) else mA y) → Q .next { s with heap := h', toks := tk }) :
    wpAny (model prog w) A (exec (.Assign [.Attribute (.Name "thing" p1) nm p2] (.Name "top" p3) p4) env) Q E s := by
  refine run_lay G hB h71 h85 C T N rfl (wpAny_Name (wpAny_loadName_cell C.toAct.kind C.kT C.cT S.t ⟨dx, mA, S, fun h' tk d' S' _ => h h' tk d' S'⟩) (by decide))
theorem lay_low {nm : Str} (G : G0 w B mg mb) (hB : B.StaysIn h₀) (h71 : B.get? 71 = none) (h85 : B.get? 85 = none) (C : Holds env L A outer) (T : Stat B h₀ L m D) (N : NoName nm) (S : LS h₀ L m D s.heap dx mA)
    (h : ∀ h' tk d', LS h₀ L m D h' (some d') (fun y => if y = nm then some (.ref D.low) else mA y) → Q .next { s with heap := h', toks := tk }) :
    wpAny (model prog w) A (exec (.Assign [.Attribute (.Name "thing" p1) nm p2] (.Name "low" p3) p4) env) Q E s := by
  refine run_lay G hB h71 h85 C T N rfl (name_l C.toAct S.ns (C.locs _ (by decide)) T.low ⟨dx, mA, S, fun h' tk d' S' _ => h h' tk d' S'⟩)
theorem lay_lambda {nm n : Str} {cc : Addr} {v : Value} (G : G0 w B mg mb) (hB : B.StaysIn h₀) (h71 : B.get? 71 = none) (h85 : B.get? 85 = none) (C : Holds env L A outer) (T : Stat B h₀ L m D) (N : NoName nm) (S : LS h₀ L m D s.heap dx mA)
    (hc : env.cells.lookup n = some cc) (hn : FreeName n) (hv : s.heap.IsCell cc (some v)) (hcc : L ≤ cc)
    (h : ∀ h' tk d' f c', LS h₀ L m D h' (some d') (fun y => if y = nm then some (.ref f) else mA y) → LamAt h' f cc c' v → Lk D dx s.heap h' → h₀.get? f = none → Q .next { s with heap := h', toks := tk }) :
    wpAny (model prog w) A (exec (.Assign [.Attribute (.Name "thing" p1) nm p2] (.Lambda pNone (.Name n p3) (sFree n) p4) p5) env) Q E s := by
  refine run_lay G hB h71 h85 C T N rfl (kla_eval rfl ?_)
  rw [C.qual]
  have hB₀ := S.base hB h71 h85
  refine make_lambda (c := 89) (P := 85) (clos := [(n, cc)]) G hB₀ C.toAct.glob C.code ((head89 G).keeps hB₀) S.t85 (clos_free hc) fun f h₁ tk c' pm ctv x₁ hf hfo hrec hne t₁ => ?_
  obtain ⟨S₁, lk₁⟩ := S.made85 T x₁ t₁
  obtain ⟨oc, ho, hd⟩ := hv
  have F : LamAt h₁ f cc c' v := by
    refine ⟨_, _, _, n, _, _, _, hfo, rfl, hrec, ⟨oc, x₁.keep _ _ ho (fun q => ?_), hd⟩, hn⟩
    exact (T.off (T.above hcc)).2 (List.mem_singleton.mp q)
  exact ⟨dx, mA, S₁, fun h' tk' d' S' lk' => h h' tk' d' f c' S' (lam_lk S₁ F lk') (lk₁.trans lk') (S.ext.fresh hf)⟩
theorem lay_raise {nm : Str} {arg : Expr} {e : Addr} {Φ : Heap → Addr → Prop} (G : G0 w B mg mb) (hB : B.StaysIn h₀) (h71 : B.get? 71 = none) (h85 : B.get? 85 = none) (C : Holds env L A outer) (hroom : A.depth < recursionLimit) (T : Stat B h₀ L m D) (N : NoName nm) (S : LS h₀ L m D s.heap dx mA)
    (ht : backTo p5 (starEach [arg] env) = [(false, eval arg env)])
    (ha : ∀ (Q' : Value → Shared → Prop), (∀ h' tk, s.heap.StaysIn h' → Φ h' e → Q' (.ref e) { s with heap := h', toks := tk }) → wpAny (model prog w) A (eval arg env) Q' E s)
    (h : ∀ h₁ h' tk d' f cc c', LS h₀ L m D h' (some d') (fun y => if y = nm then some (.ref f) else mA y) → AskAt h' f cc c' e → s.heap.StaysIn h₁ → Φ h₁ e → LS h₀ L m D h₁ dx mA → Lk D dx h₁ h' → h₀.get? f = none → h₀.get? cc = none → Q .next { s with heap := h', toks := tk }) :
    wpAny (model prog w) A (exec (.Assign [.Attribute (.Name "thing" p1) nm p2] (.Call (.Name "_law_raise" p3) [arg] [] p5) p6) env) Q E s := by
  refine run_lay G hB h71 h85 C T N rfl (Call_Name ht ?_)
  have hB₀ := S.base hB h71 h85
  refine name_g (v := .ref 76) G hB₀ (by rfl) ?_ C.toAct.kind C.toAct.glob (C.glos _ (by decide))
  obtain ⟨o76, f76, h76, d76⟩ : ∃ o fd, B.get? 76 = some o ∧ o.data = .func fd := ⟨_, _, G.X 76 _ rfl, rfl⟩
  refine call1 (o := o76) (fd := f76) (ha _ fun h₁ tk k₁ ph => ?_)
  have S₁ := S.push T k₁
  have hB₁ := S₁.base hB h71 h85
  refine ⟨⟨hB₁ _ _ h76, d76⟩, raise_made (s := { s with heap := h₁, toks := tk }) G hB₁ hroom S₁.t71 fun h₂ tk₂ f cc c' x₂ hf hcc F hne t₂ => ?_⟩
  obtain ⟨S₂, lk₂⟩ := S₁.made71 T x₂ t₂
  exact ⟨dx, mA, S₂, fun h' tk' d' S' lk' => h h₁ h' tk' d' f cc c' S' (ask_lk S₂ F lk') k₁ ph S₁ (lk₂.trans lk') (S₁.ext.fresh hf) (S₁.ext.fresh hcc)⟩
end
end Kq
end
section
open PySem PySem.W PySem.Spec PySem.Calls PyProof.Rows
open Builtin Builtin.ObjectAttr Builtin.Getset_descriptor
set_option maxRecDepth 100000
namespace Kq
variable {prog : Program} {w : World} {A : Around} {E : Value → Shared → Prop} {B : Heap} {mg mb : Str → Option Value} {s : Shared}
section
variable {env : Env} {L : Addr} {outer : List Env} {m : Str → Option Value} {Q : Flow → Shared → Prop} {body : List Stmt}
variable {p1 p2 p3 p4 p5 p6 p7 p8 : Pos}
theorem if_eq {n : Str} {k c : Int} {t : Tok} (C : Holds env L A outer) (hns : s.heap.Ns L m) (hn : n ∈ (["x", "kind", "laid", "low", "error", "other", "thing", "told", "ends"] : List Str)) (hd : (n == ("__debug__" : Str)) = false) (hm : m n = some (.int k t))
    (hT : k = c → ∀ tk, wpAny (model prog w) A (execs body env) Q E { s with toks := tk }) (hF : k ≠ c → ∀ tk, Q .next { s with toks := tk }) :
    wpAny (model prog w) A (exec (.If (.Compare (.Name n p1) [.Eq] [.Constant (.int c) 0 p2] p3) body [] p4) env) Q E s := by
  refine wpAny_If (wpAny_isTrue_Compare1 (name_l C.toAct hns (C.locs _ hn) hm (wpAny_Constant_int (P.eq_int (wpAny_truthy_bool ?_))) hd))
  by_cases hc : k = c
  · rw [show (k == c) = true from by simp [hc]]; exact hT hc _
  · rw [show (k == c) = false from by simp [hc]]; exact wpAny_pure (hF hc _)
theorem if_ge {n : Str} {k c : Int} {t : Tok} (C : Holds env L A outer) (hns : s.heap.Ns L m) (hn : n ∈ (["x", "kind", "laid", "low", "error", "other", "thing", "told", "ends"] : List Str)) (hd : (n == ("__debug__" : Str)) = false) (hm : m n = some (.int k t))
    (hT : c ≤ k → ∀ tk, wpAny (model prog w) A (execs body env) Q E { s with toks := tk }) (hF : ¬ c ≤ k → ∀ tk, Q .next { s with toks := tk }) :
    wpAny (model prog w) A (exec (.If (.Compare (.Name n p1) [.GtE] [.Constant (.int c) 0 p2] p3) body [] p4) env) Q E s := by
  refine wpAny_If (wpAny_isTrue_Compare1 (name_l C.toAct hns (C.locs _ hn) hm (wpAny_Constant_int (P.ge_int (wpAny_truthy_bool ?_))) hd))
  by_cases hc : c ≤ k
  · rw [show decide (k ≥ c) = true from by simp [hc]]; exact hT hc _
  · rw [show decide (k ≥ c) = false from by simpa using hc]; exact wpAny_pure (hF hc _)
theorem if_odd {n : Str} {k : Int} {t : Tok} (C : Holds env L A outer) (hns : s.heap.Ns L m) (hn : n ∈ (["x", "kind", "laid", "low", "error", "other", "thing", "told", "ends"] : List Str)) (hd : (n == ("__debug__" : Str)) = false) (hm : m n = some (.int k t))
    (hT : k.fmod 2 = 1 → ∀ tk, wpAny (model prog w) A (execs body env) Q E { s with toks := tk }) (hF : k.fmod 2 ≠ 1 → ∀ tk, Q .next { s with toks := tk }) :
    wpAny (model prog w) A (exec (.If (.Compare (.BinOp (.Name n p1) .Mod (.Constant (.int 2) 0 p2) p3) [.Eq] [.Constant (.int 1) 0 p4] p5) body [] p6) env) Q E s := by
  refine wpAny_If (wpAny_isTrue_Compare1 (wpAny_BinOp (name_l C.toAct hns (C.locs _ hn) hm (wpAny_Constant_int (AutoIntOps.mod_1 (by decide) ?_)) hd)))
  refine wpAny_Constant_int (P.eq_int (wpAny_truthy_bool ?_))
  by_cases hc : k.fmod 2 = 1
  · rw [show (k.fmod 2 == 1) = true from by simp [hc]]; exact hT hc _
  · rw [show (k.fmod 2 == 1) = false from by simp [hc]]; exact wpAny_pure (hF hc _)
theorem ints4 (a b c d : Tok) : IntsAre [.int 3 a, .int 4 b, .int 5 c, .int 6 d] [3, 4, 5, 6] := .cons _ _ (.cons _ _ (.cons _ _ (.cons _ _ .nil)))
theorem if_in4 {n : Str} {k : Int} {t : Tok} (C : Holds env L A outer) (hns : s.heap.Ns L m) (hn : n ∈ (["x", "kind", "laid", "low", "error", "other", "thing", "told", "ends"] : List Str)) (hd : (n == ("__debug__" : Str)) = false) (hm : m n = some (.int k t))
    (hT : (k = 3 ∨ k = 4 ∨ k = 5 ∨ k = 6) → ∀ h' tk, s.heap.StaysIn h' → wpAny (model prog w) A (execs body env) Q E { s with heap := h', toks := tk }) (hF : ¬ (k = 3 ∨ k = 4 ∨ k = 5 ∨ k = 6) → ∀ h' tk, s.heap.StaysIn h' → Q .next { s with heap := h', toks := tk }) :
    wpAny (model prog w) A (exec (.If (.Compare (.Name n p1) [.In] [.Tuple [.Constant (.int 3) 0 p2, .Constant (.int 4) 0 p3, .Constant (.int 5) 0 p4, .Constant (.int 6) 0 p5] 0 p6] p7) body [] p8) env) Q E s := by
  refine wpAny_If (wpAny_isTrue_Compare1 (name_l C.toAct hns (C.locs _ hn) hm (wpAny_Tuple (args_cons (wpAny_Constant_int (args_cons (wpAny_Constant_int (args_cons (wpAny_Constant_int (args_cons (wpAny_Constant_int (args_nil ⟨by show 4 ≤ sizeLine; decide +kernel, ?_⟩)))))))))) hd))
  refine in_tuple_ints (items := _) ⟨_, Heap.get?_push_size _ rfl, rfl, 0, rfl⟩ (ints4 _ _ _ _) (wpAny_truthy_bool ?_)
  have kk : ∀ o, s.heap.StaysIn (s.heap.push o) := fun o b ob q => Heap.get?_push_of_some _ q
  by_cases hc : (k = 3 ∨ k = 4 ∨ k = 5 ∨ k = 6)
  · rw [show ([3, 4, 5, 6] : List Int).any (· == k) = true from by rcases hc with rfl | rfl | rfl | rfl <;> decide]; exact hT hc _ _ (kk _)
  · rw [show ([3, 4, 5, 6] : List Int).any (· == k) = false from by
      simp only [not_or] at hc
      simp [Ne.symm hc.1, Ne.symm hc.2.1, Ne.symm hc.2.2.1, Ne.symm hc.2.2.2]]
    exact wpAny_pure (hF hc _ _ (kk _))
end
end Kq
end
section
open PySem PySem.W PySem.Spec PySem.Calls PyProof.Rows
open Builtin Builtin.ObjectAttr Builtin.Getset_descriptor
set_option maxRecDepth 100000
namespace Kq
variable {prog : Program} {w : World} {A : Around} {E : Value → Shared → Prop} {B : Heap} {mg mb : Str → Option Value} {s : Shared}
section
variable {env : Env} {L : Addr} {outer : List Env} {h₀ h h' : Heap} {m : Str → Option Value} {D : Dt} {dx : Option Addr} {mA : Str → Option Value} {Q : Flow → Shared → Prop} {rest : List Stmt}
theorem exc_lk {e : Addr} {c a0 : Value} (S : LS h₀ L m D h dx mA) (T : Stat B h₀ L m D) (x : Exc h e c a0 .none none) (k : Lk D dx h h') (hne : e ≠ D.th) (hf : h₀.get? e = none) : Exc h' e c a0 .none none := by
  obtain ⟨o, vs, ho, hc, hd, r⟩ := x
  have a2 := T.off hf
  refine ⟨o, vs, k _ _ ho hne (fun q => ?_) a2.1 a2.2, hc, hd, r⟩
  obtain ⟨_, o', es, ep, ho', hd', _⟩ := S.th.ns e q
  rw [ho'] at ho; cases ho; rw [hd'] at hd; cases hd
abbrev Air : Str := "as_integer_ratio"
abbrev Fin' : Str := "is_finite"
def AirAsk (h₀ h : Heap) (mA : Str → Option Value) (nm : Str) (e : Addr) : Prop := ∃ f cc c', mA nm = some (.ref f) ∧ AskAt h f cc c' e ∧ h₀.get? f = none ∧ h₀.get? cc = none
def GoneAsk (h₀ h : Heap) (D : Dt) (mA : Str → Option Value) (nm : Str) : Prop := ∃ e a0, AirAsk h₀ h mA nm e ∧ Exc h e (.type "AttributeError") a0 .none none ∧ h₀.get? e = none ∧ e ≠ D.th ∧ e ≠ D.er ∧ e ≠ D.oc
def GiveLam (h₀ h : Heap) (cc : Addr) (mA : Str → Option Value) (nm : Str) (v : Value) : Prop := ∃ f c', mA nm = some (.ref f) ∧ LamAt h f cc c' v ∧ h₀.get? f = none
def Final (h₀ h : Heap) (L : Addr) (D : Dt) (mA : Str → Option Value) : Prop :=
  mA "numerator" = (if D.laid.fmod 2 = 1 then some (.ref D.top) else none) ∧ mA "denominator" = (if 2 ≤ D.laid then some (.ref D.low) else none) ∧
  ((D.kind = 0 ∧ mA Air = none ∧ mA Fin' = none) ∨ (D.kind = 1 ∧ GiveLam h₀ h (L + 2) mA Air (.ref D.pair) ∧ mA Fin' = none) ∨ (D.kind = 2 ∧ GoneAsk h₀ h D mA Air ∧ mA Fin' = none) ∨
   (D.kind = 3 ∧ AirAsk h₀ h mA Air D.er ∧ GiveLam h₀ h (L + 1) mA Fin' (.ref D.el)) ∨ (D.kind = 4 ∧ AirAsk h₀ h mA Air D.er ∧ GiveLam h₀ h (L + 3) mA Fin' (.ref D.top)) ∨
   (D.kind = 5 ∧ AirAsk h₀ h mA Air D.er ∧ mA Fin' = none) ∨ (D.kind = 6 ∧ AirAsk h₀ h mA Air D.er ∧ GoneAsk h₀ h D mA Fin') ∨ (D.kind = 7 ∧ AirAsk h₀ h mA Air D.oc ∧ mA Fin' = none))
theorem kind_cases (n : Int) : n.fmod 8 = 0 ∨ n.fmod 8 = 1 ∨ n.fmod 8 = 2 ∨ n.fmod 8 = 3 ∨ n.fmod 8 = 4 ∨ n.fmod 8 = 5 ∨ n.fmod 8 = 6 ∨ n.fmod 8 = 7 := by
  have h1 := Int.fmod_nonneg_of_pos n (b := 8) (by decide)
  have h2 := Int.fmod_lt_of_pos n (b := 8) (by decide)
  omega
theorem up_ne {x nm : Str} {v : Option Value} {f : Str → Option Value} (h : x ≠ nm) : (if x = nm then v else f x) = f x := if_neg h
variable {p1 p2 p3 p4 p5 p6 p7 p8 p9 p10 p11 p12 : Pos}
theorem lay_gone {nm : Str} (G : G0 w B mg mb) (hB : B.StaysIn h₀) (h71 : B.get? 71 = none) (h85 : B.get? 85 = none) (C : Holds env L A outer) (hroom : A.depth < recursionLimit) (T : Stat B h₀ L m D) (N : NoName nm) (S : LS h₀ L m D s.heap dx mA)
    (h : ∀ h' tk d' f cc c' e a0, LS h₀ L m D h' (some d') (fun y => if y = nm then some (.ref f) else mA y) → AskAt h' f cc c' e → Exc h' e (.type "AttributeError") a0 .none none → Lk D dx s.heap h' → h₀.get? f = none → h₀.get? cc = none → h₀.get? e = none → e ≠ D.th → e ≠ D.er → e ≠ D.oc → Q .next { s with heap := h', toks := tk }) :
    wpAny (model prog w) A (exec (.Assign [.Attribute (.Name "thing" p1) nm p2] (.Call (.Name "_law_raise" p3) [.Call (.Name "AttributeError" p4) [.Constant (.str "gone") 0 p5] [] p6] [] p7) p8) env) Q E s := by
  obtain ⟨ps, -⟩ : ∃ x : Nat, True := ⟨0, trivial⟩
  have hB₀ := S.base hB h71 h85
  refine run_lay G hB h71 h85 C T N rfl (Call_Name (trees := [(false, eval (.Call (.Name "AttributeError" p4) [.Constant (.str "gone") 0 p5] [] p6) env)]) rfl ?_)
  refine name_g (v := .ref 76) G hB₀ (by rfl) ?_ C.toAct.kind C.toAct.glob (C.glos _ (by decide))
  obtain ⟨o76, f76, h76, d76⟩ : ∃ o fd, B.get? 76 = some o ∧ o.data = .func fd := ⟨_, _, G.X 76 _ rfl, rfl⟩
  refine call1 (o := o76) (fd := f76) (Call_Name (trees := [(false, eval (.Constant (.str "gone") 0 p5) env)]) rfl ?_)
  refine name_b (v := .type "AttributeError") G hB₀ rfl rfl (by decide) ?_ C.toAct.kind C.toAct.glob C.toAct.blt (C.glos _ (by decide))
  refine callWith_type1 (wpAny_Constant_str (ae_call (by show 1 ≤ sizeLine; decide +kernel) fun h₁ e a0 hf x₁ e₁ => ?_))
  have k₁ : s.heap.StaysIn h₁ := fun b o q => x₁.keep b o q (by simp)
  have S₁ := S.push T k₁
  have hB₁ := S₁.base hB h71 h85
  refine ⟨⟨hB₁ _ _ h76, d76⟩, raise_made (s := { s with heap := h₁, toks := s.toks + 1 }) G hB₁ hroom S₁.t71 fun h₂ tk₂ f cc c' x₂ hf2 hcc F hne t₂ => ?_⟩
  obtain ⟨S₂, lk₂⟩ := S₁.made71 T x₂ t₂
  have nth : ∀ a o, s.heap.get? a = some o → e ≠ a := fun a o q z => by rw [z] at hf; rw [show s.heap.get? a = none from hf] at q; cases q
  have n1 : e ≠ D.th := by obtain ⟨o, vs, ho, _⟩ := S.th.obj; exact nth _ _ ho
  have n2 : e ≠ D.er := by obtain ⟨o, ho, _⟩ := S.er.there; exact nth _ _ ho
  have n3 : e ≠ D.oc := by obtain ⟨o, ho, _⟩ := S.oc.there; exact nth _ _ ho
  have fe : h₀.get? e = none := S.ext.fresh hf
  refine ⟨dx, mA, S₂, fun h' tk' d' S' lk' => h h' tk' d' f cc c' e a0 S' (ask_lk S₂ F lk') (exc_lk S₂ T (exc_lk S₁ T e₁ lk₂ n1 fe) lk' n1 fe) ?_ (S₁.ext.fresh hf2) (S₁.ext.fresh hcc) fe n1 n2 n3⟩
  exact Lk.trans (h₂ := h₁) (fun b o q _ _ _ _ => k₁ b o q) (lk₂.trans lk')
variable {q0 q1 q2 q3 q4 q5 q6 q7 q8 q9 q10 q11 q12 q13 q14 q15 q16 q17 q18 q19 q20 q21 q22 q23 q24 q25 q26 q27 q28 q29 q30 q31 q32 q33 q34 q35 q36 q37 q38 q39 q40 q41 q42 q43 q44 q45 q46 q47 q48 q49 q50 q51 q52 q53 q54 q55 q56 q57 q58 q59 q60 q61 q62 q63 q64 q65 q66 q67 q68 q69 q70 q71 q72 q73 q74 q75 q76 q77 q78 q79 q80 q81 q82 q83 q84 q85 q86 q87 q88 q89 q90 q91 q92 : Pos}
abbrev kinds (q18 q19 q20 q21 q22 q23 q24 q25 q26 q27 q28 q29 q30 q31 q32 q33 q34 q35 q36 q37 q38 q39 q40 q41 q42 q43 q44 q45 q46 q47 q48 q49 q50 q51 q52 q53 q54 q55 q56 q57 q58 q59 q60 q61 q62 q63 q64 q65 q66 q67 q68 q69 q70 q71 q72 q73 q74 q75 q76 q77 q78 q79 q80 q81 q82 q83 q84 q85 q86 q87 q88 q89 q90 q91 q92 : Pos) (rest : List Stmt) : List Stmt :=
  (.If (.Compare (.Name "kind" q18) [.Eq] [.Constant (.int 1) 0 q19] q20) [.Assign [.Attribute (.Name "thing" q21) Air q22] (.Lambda pNone (.Name "pair" q23) (sFree "pair") q24) q25] [] q26) ::
  (.If (.Compare (.Name "kind" q27) [.Eq] [.Constant (.int 2) 0 q28] q29) [.Assign [.Attribute (.Name "thing" q30) Air q31] (.Call (.Name "_law_raise" q32) [.Call (.Name "AttributeError" q33) [.Constant (.str "gone") 0 q34] [] q35] [] q36) q37] [] q38) ::
  (.If (.Compare (.Name "kind" q39) [.In] [.Tuple [.Constant (.int 3) 0 q40, .Constant (.int 4) 0 q41, .Constant (.int 5) 0 q42, .Constant (.int 6) 0 q43] 0 q44] q45) [.Assign [.Attribute (.Name "thing" q46) Air q47] (.Call (.Name "_law_raise" q48) [.Name "error" q49] [] q50) q51] [] q52) ::
  (.If (.Compare (.Name "kind" q53) [.Eq] [.Constant (.int 3) 0 q54] q55) [.Assign [.Attribute (.Name "thing" q56) Fin' q57] (.Lambda pNone (.Name "empty" q58) (sFree "empty") q59) q60] [] q61) ::
  (.If (.Compare (.Name "kind" q62) [.Eq] [.Constant (.int 4) 0 q63] q64) [.Assign [.Attribute (.Name "thing" q65) Fin' q66] (.Lambda pNone (.Name "top" q67) (sFree "top") q68) q69] [] q70) ::
  (.If (.Compare (.Name "kind" q71) [.Eq] [.Constant (.int 6) 0 q72] q73) [.Assign [.Attribute (.Name "thing" q74) Fin' q75] (.Call (.Name "_law_raise" q76) [.Call (.Name "AttributeError" q77) [.Constant (.str "gone") 0 q78] [] q79] [] q80) q81] [] q82) ::
  (.If (.Compare (.Name "kind" q83) [.Eq] [.Constant (.int 7) 0 q84] q85) [.Assign [.Attribute (.Name "thing" q86) Air q87] (.Call (.Name "_law_raise" q88) [.Name "other" q89] [] q90) q91] [] q92) :: rest
theorem lay_kinds (G : G0 w B mg mb) (hB : B.StaysIn h₀) (h71 : B.get? 71 = none) (h85 : B.get? 85 = none) (C : Holds env L A outer) (hroom : A.depth < recursionLimit) (T : Stat B h₀ L m D) (S : LS h₀ L m D s.heap dx mA)
    (hnum : mA "numerator" = (if D.laid.fmod 2 = 1 then some (.ref D.top) else none)) (hden : mA "denominator" = (if 2 ≤ D.laid then some (.ref D.low) else none)) (hair : mA Air = none) (hfin : mA Fin' = none)
    (h : ∀ h' tk dx' mA', LS h₀ L m D h' dx' mA' → Final h₀ h' L D mA' → wpAny (model prog w) A (execs rest env) Q E { s with heap := h', toks := tk }) :
    wpAny (model prog w) A (execs (kinds q18 q19 q20 q21 q22 q23 q24 q25 q26 q27 q28 q29 q30 q31 q32 q33 q34 q35 q36 q37 q38 q39 q40 q41 q42 q43 q44 q45 q46 q47 q48 q49 q50 q51 q52 q53 q54 q55 q56 q57 q58 q59 q60 q61 q62 q63 q64 q65 q66 q67 q68 q69 q70 q71 q72 q73 q74 q75 q76 q77 q78 q79 q80 q81 q82 q83 q84 q85 q86 q87 q88 q89 q90 q91 q92 rest) env) Q E s := by
  obtain ⟨tkd, hk⟩ := T.kind
  have kc : D.kind = 0 ∨ D.kind = 1 ∨ D.kind = 2 ∨ D.kind = 3 ∨ D.kind = 4 ∨ D.kind = 5 ∨ D.kind = 6 ∨ D.kind = 7 := kind_cases D.n
  have e0 : L ≤ L + 1 := Nat.le_add_right _ _
  have e1 : L ≤ L + 2 := Nat.le_add_right _ _
  have e2 : L ≤ L + 3 := Nat.le_add_right _ _
  rcases kc with q | q | q | q | q | q | q | q
  · refine wpAny_execs_cons (if_eq (s := { s with heap := s.heap, toks := s.toks }) C S.ns (by decide) (by decide) hk (fun z => absurd z (by rw [q]; decide)) fun _ t1 => ?_)
    refine wpAny_execs_cons (if_eq (s := { s with heap := s.heap, toks := t1 }) C S.ns (by decide) (by decide) hk (fun z => absurd z (by rw [q]; decide)) fun _ t2 => ?_)
    refine wpAny_execs_cons (if_in4 (s := { s with heap := s.heap, toks := t2 }) C S.ns (by decide) (by decide) hk (fun z => absurd z (by rw [q]; decide)) fun _ h3 t3 k3 => ?_)
    have S3 := S.push T k3
    have K3 := k3
    refine wpAny_execs_cons (if_eq (s := { s with heap := h3, toks := t3 }) C S3.ns (by decide) (by decide) hk (fun z => absurd z (by rw [q]; decide)) fun _ t4 => ?_)
    refine wpAny_execs_cons (if_eq (s := { s with heap := h3, toks := t4 }) C S3.ns (by decide) (by decide) hk (fun z => absurd z (by rw [q]; decide)) fun _ t5 => ?_)
    refine wpAny_execs_cons (if_eq (s := { s with heap := h3, toks := t5 }) C S3.ns (by decide) (by decide) hk (fun z => absurd z (by rw [q]; decide)) fun _ t6 => ?_)
    refine wpAny_execs_cons (if_eq (s := { s with heap := h3, toks := t6 }) C S3.ns (by decide) (by decide) hk (fun z => absurd z (by rw [q]; decide)) fun _ t7 => ?_)
    exact h _ _ _ _ S3 ⟨hnum, hden, .inl ⟨q, hair, hfin⟩⟩
  · refine wpAny_execs_cons (if_eq (s := { s with heap := s.heap, toks := s.toks }) C S.ns (by decide) (by decide) hk (fun _ t1a => ?_) fun z => absurd q z)
    refine wpAny_execs_cons (lay_lambda (s := { s with heap := s.heap, toks := t1a }) G hB h71 h85 C T no_as_integer_ratio S C.cP ⟨by decide, by decide⟩ S.p e1 fun h1 t1 d1 f1 c1 S1 F1 lk1 n1a => wpAny_pure ?_)
    refine wpAny_execs_cons (if_eq (s := { s with heap := h1, toks := t1 }) C S1.ns (by decide) (by decide) hk (fun z => absurd z (by rw [q]; decide)) fun _ t2 => ?_)
    refine wpAny_execs_cons (if_in4 (s := { s with heap := h1, toks := t2 }) C S1.ns (by decide) (by decide) hk (fun z => absurd z (by rw [q]; decide)) fun _ h3 t3 k3 => ?_)
    have S3 := S1.push T k3
    have K3 := k3
    refine wpAny_execs_cons (if_eq (s := { s with heap := h3, toks := t3 }) C S3.ns (by decide) (by decide) hk (fun z => absurd z (by rw [q]; decide)) fun _ t4 => ?_)
    refine wpAny_execs_cons (if_eq (s := { s with heap := h3, toks := t4 }) C S3.ns (by decide) (by decide) hk (fun z => absurd z (by rw [q]; decide)) fun _ t5 => ?_)
    refine wpAny_execs_cons (if_eq (s := { s with heap := h3, toks := t5 }) C S3.ns (by decide) (by decide) hk (fun z => absurd z (by rw [q]; decide)) fun _ t6 => ?_)
    refine wpAny_execs_cons (if_eq (s := { s with heap := h3, toks := t6 }) C S3.ns (by decide) (by decide) hk (fun z => absurd z (by rw [q]; decide)) fun _ t7 => ?_)
    have F1b := lam_lk S1 F1 (fun b o z _ _ _ _ => k3 b o z)
    exact h _ _ _ _ S3 ⟨((if_neg (by decide)).trans hnum), ((if_neg (by decide)).trans hden), .inr (.inl ⟨q, ⟨f1, c1, (if_pos rfl), F1b, n1a⟩, ((if_neg (by decide)).trans hfin)⟩)⟩
  · refine wpAny_execs_cons (if_eq (s := { s with heap := s.heap, toks := s.toks }) C S.ns (by decide) (by decide) hk (fun z => absurd z (by rw [q]; decide)) fun _ t1 => ?_)
    refine wpAny_execs_cons (if_eq (s := { s with heap := s.heap, toks := t1 }) C S.ns (by decide) (by decide) hk (fun _ t2a => ?_) fun z => absurd q z)
    refine wpAny_execs_cons (lay_gone (s := { s with heap := s.heap, toks := t2a }) G hB h71 h85 C hroom T no_as_integer_ratio S fun h2 t2 d2 f2 cc2 c2 e2 a2 S2 F2 X2 lk2 n2a n2b n2c n2d n2e n2f => wpAny_pure ?_)
    refine wpAny_execs_cons (if_in4 (s := { s with heap := h2, toks := t2 }) C S2.ns (by decide) (by decide) hk (fun z => absurd z (by rw [q]; decide)) fun _ h3 t3 k3 => ?_)
    have S3 := S2.push T k3
    have K3 := k3
    refine wpAny_execs_cons (if_eq (s := { s with heap := h3, toks := t3 }) C S3.ns (by decide) (by decide) hk (fun z => absurd z (by rw [q]; decide)) fun _ t4 => ?_)
    refine wpAny_execs_cons (if_eq (s := { s with heap := h3, toks := t4 }) C S3.ns (by decide) (by decide) hk (fun z => absurd z (by rw [q]; decide)) fun _ t5 => ?_)
    refine wpAny_execs_cons (if_eq (s := { s with heap := h3, toks := t5 }) C S3.ns (by decide) (by decide) hk (fun z => absurd z (by rw [q]; decide)) fun _ t6 => ?_)
    refine wpAny_execs_cons (if_eq (s := { s with heap := h3, toks := t6 }) C S3.ns (by decide) (by decide) hk (fun z => absurd z (by rw [q]; decide)) fun _ t7 => ?_)
    have F2b := ask_lk S2 F2 (fun b o z _ _ _ _ => k3 b o z)
    have X2b := exc_lk S2 T X2 (fun b o z _ _ _ _ => k3 b o z) n2d n2c
    exact h _ _ _ _ S3 ⟨((if_neg (by decide)).trans hnum), ((if_neg (by decide)).trans hden), .inr (.inr (.inl ⟨q, ⟨e2, a2, ⟨f2, cc2, c2, (if_pos rfl), F2b, n2a, n2b⟩, X2b, n2c, n2d, n2e, n2f⟩, ((if_neg (by decide)).trans hfin)⟩))⟩
  · refine wpAny_execs_cons (if_eq (s := { s with heap := s.heap, toks := s.toks }) C S.ns (by decide) (by decide) hk (fun z => absurd z (by rw [q]; decide)) fun _ t1 => ?_)
    refine wpAny_execs_cons (if_eq (s := { s with heap := s.heap, toks := t1 }) C S.ns (by decide) (by decide) hk (fun z => absurd z (by rw [q]; decide)) fun _ t2 => ?_)
    refine wpAny_execs_cons (if_in4 (s := { s with heap := s.heap, toks := t2 }) C S.ns (by decide) (by decide) hk (fun _ h3 t3 k3 => ?_) fun z => absurd (by rw [q]; decide) z)
    have S3a := S.push T k3
    refine wpAny_execs_cons (lay_raise (s := { s with heap := h3, toks := t3 }) (Φ := fun _ _ => True) (e := D.er) G hB h71 h85 C hroom T no_as_integer_ratio S3a rfl (fun Q' hq => name_l (s := { s with heap := h3, toks := t3 }) C.toAct S3a.ns (C.locs _ (by decide)) T.error (hq _ _ (fun _ _ z => z) trivial)) fun g3 h3b t3b d3 f3 cc3 c3 S3 F3 _ _ _ _ n3a n3b => wpAny_pure ?_)
    refine wpAny_execs_cons (if_eq (s := { s with heap := h3b, toks := t3b }) C S3.ns (by decide) (by decide) hk (fun _ t4a => ?_) fun z => absurd q z)
    refine wpAny_execs_cons (lay_lambda (s := { s with heap := h3b, toks := t4a }) G hB h71 h85 C T no_is_finite S3 C.cE ⟨by decide, by decide⟩ S3.e e0 fun h4 t4 d4 f4 c4 S4 F4 lk4 n4a => wpAny_pure ?_)
    refine wpAny_execs_cons (if_eq (s := { s with heap := h4, toks := t4 }) C S4.ns (by decide) (by decide) hk (fun z => absurd z (by rw [q]; decide)) fun _ t5 => ?_)
    refine wpAny_execs_cons (if_eq (s := { s with heap := h4, toks := t5 }) C S4.ns (by decide) (by decide) hk (fun z => absurd z (by rw [q]; decide)) fun _ t6 => ?_)
    refine wpAny_execs_cons (if_eq (s := { s with heap := h4, toks := t6 }) C S4.ns (by decide) (by decide) hk (fun z => absurd z (by rw [q]; decide)) fun _ t7 => ?_)
    have F3b := ask_lk S3 F3 lk4
    exact h _ _ _ _ S4 ⟨((if_neg (by decide)).trans ((if_neg (by decide)).trans hnum)), ((if_neg (by decide)).trans ((if_neg (by decide)).trans hden)), .inr (.inr (.inr (.inl ⟨q, ⟨f3, cc3, c3, ((if_neg (by decide)).trans (if_pos rfl)), F3b, n3a, n3b⟩, ⟨f4, c4, (if_pos rfl), F4, n4a⟩⟩)))⟩
  · refine wpAny_execs_cons (if_eq (s := { s with heap := s.heap, toks := s.toks }) C S.ns (by decide) (by decide) hk (fun z => absurd z (by rw [q]; decide)) fun _ t1 => ?_)
    refine wpAny_execs_cons (if_eq (s := { s with heap := s.heap, toks := t1 }) C S.ns (by decide) (by decide) hk (fun z => absurd z (by rw [q]; decide)) fun _ t2 => ?_)
    refine wpAny_execs_cons (if_in4 (s := { s with heap := s.heap, toks := t2 }) C S.ns (by decide) (by decide) hk (fun _ h3 t3 k3 => ?_) fun z => absurd (by rw [q]; decide) z)
    have S3a := S.push T k3
    refine wpAny_execs_cons (lay_raise (s := { s with heap := h3, toks := t3 }) (Φ := fun _ _ => True) (e := D.er) G hB h71 h85 C hroom T no_as_integer_ratio S3a rfl (fun Q' hq => name_l (s := { s with heap := h3, toks := t3 }) C.toAct S3a.ns (C.locs _ (by decide)) T.error (hq _ _ (fun _ _ z => z) trivial)) fun g3 h3b t3b d3 f3 cc3 c3 S3 F3 _ _ _ _ n3a n3b => wpAny_pure ?_)
    refine wpAny_execs_cons (if_eq (s := { s with heap := h3b, toks := t3b }) C S3.ns (by decide) (by decide) hk (fun z => absurd z (by rw [q]; decide)) fun _ t4 => ?_)
    refine wpAny_execs_cons (if_eq (s := { s with heap := h3b, toks := t4 }) C S3.ns (by decide) (by decide) hk (fun _ t5a => ?_) fun z => absurd q z)
    refine wpAny_execs_cons (lay_lambda (s := { s with heap := h3b, toks := t5a }) G hB h71 h85 C T no_is_finite S3 C.cT ⟨by decide, by decide⟩ S3.t e2 fun h5 t5 d5 f5 c5 S5 F5 lk5 n5a => wpAny_pure ?_)
    refine wpAny_execs_cons (if_eq (s := { s with heap := h5, toks := t5 }) C S5.ns (by decide) (by decide) hk (fun z => absurd z (by rw [q]; decide)) fun _ t6 => ?_)
    refine wpAny_execs_cons (if_eq (s := { s with heap := h5, toks := t6 }) C S5.ns (by decide) (by decide) hk (fun z => absurd z (by rw [q]; decide)) fun _ t7 => ?_)
    have F3b := ask_lk S3 F3 lk5
    exact h _ _ _ _ S5 ⟨((if_neg (by decide)).trans ((if_neg (by decide)).trans hnum)), ((if_neg (by decide)).trans ((if_neg (by decide)).trans hden)), .inr (.inr (.inr (.inr (.inl ⟨q, ⟨f3, cc3, c3, ((if_neg (by decide)).trans (if_pos rfl)), F3b, n3a, n3b⟩, ⟨f5, c5, (if_pos rfl), F5, n5a⟩⟩))))⟩
  · refine wpAny_execs_cons (if_eq (s := { s with heap := s.heap, toks := s.toks }) C S.ns (by decide) (by decide) hk (fun z => absurd z (by rw [q]; decide)) fun _ t1 => ?_)
    refine wpAny_execs_cons (if_eq (s := { s with heap := s.heap, toks := t1 }) C S.ns (by decide) (by decide) hk (fun z => absurd z (by rw [q]; decide)) fun _ t2 => ?_)
    refine wpAny_execs_cons (if_in4 (s := { s with heap := s.heap, toks := t2 }) C S.ns (by decide) (by decide) hk (fun _ h3 t3 k3 => ?_) fun z => absurd (by rw [q]; decide) z)
    have S3a := S.push T k3
    refine wpAny_execs_cons (lay_raise (s := { s with heap := h3, toks := t3 }) (Φ := fun _ _ => True) (e := D.er) G hB h71 h85 C hroom T no_as_integer_ratio S3a rfl (fun Q' hq => name_l (s := { s with heap := h3, toks := t3 }) C.toAct S3a.ns (C.locs _ (by decide)) T.error (hq _ _ (fun _ _ z => z) trivial)) fun g3 h3b t3b d3 f3 cc3 c3 S3 F3 _ _ _ _ n3a n3b => wpAny_pure ?_)
    refine wpAny_execs_cons (if_eq (s := { s with heap := h3b, toks := t3b }) C S3.ns (by decide) (by decide) hk (fun z => absurd z (by rw [q]; decide)) fun _ t4 => ?_)
    refine wpAny_execs_cons (if_eq (s := { s with heap := h3b, toks := t4 }) C S3.ns (by decide) (by decide) hk (fun z => absurd z (by rw [q]; decide)) fun _ t5 => ?_)
    refine wpAny_execs_cons (if_eq (s := { s with heap := h3b, toks := t5 }) C S3.ns (by decide) (by decide) hk (fun z => absurd z (by rw [q]; decide)) fun _ t6 => ?_)
    refine wpAny_execs_cons (if_eq (s := { s with heap := h3b, toks := t6 }) C S3.ns (by decide) (by decide) hk (fun z => absurd z (by rw [q]; decide)) fun _ t7 => ?_)
    exact h _ _ _ _ S3 ⟨((if_neg (by decide)).trans hnum), ((if_neg (by decide)).trans hden), .inr (.inr (.inr (.inr (.inr (.inl ⟨q, ⟨f3, cc3, c3, (if_pos rfl), F3, n3a, n3b⟩, ((if_neg (by decide)).trans hfin)⟩)))))⟩
  · refine wpAny_execs_cons (if_eq (s := { s with heap := s.heap, toks := s.toks }) C S.ns (by decide) (by decide) hk (fun z => absurd z (by rw [q]; decide)) fun _ t1 => ?_)
    refine wpAny_execs_cons (if_eq (s := { s with heap := s.heap, toks := t1 }) C S.ns (by decide) (by decide) hk (fun z => absurd z (by rw [q]; decide)) fun _ t2 => ?_)
    refine wpAny_execs_cons (if_in4 (s := { s with heap := s.heap, toks := t2 }) C S.ns (by decide) (by decide) hk (fun _ h3 t3 k3 => ?_) fun z => absurd (by rw [q]; decide) z)
    have S3a := S.push T k3
    refine wpAny_execs_cons (lay_raise (s := { s with heap := h3, toks := t3 }) (Φ := fun _ _ => True) (e := D.er) G hB h71 h85 C hroom T no_as_integer_ratio S3a rfl (fun Q' hq => name_l (s := { s with heap := h3, toks := t3 }) C.toAct S3a.ns (C.locs _ (by decide)) T.error (hq _ _ (fun _ _ z => z) trivial)) fun g3 h3b t3b d3 f3 cc3 c3 S3 F3 _ _ _ _ n3a n3b => wpAny_pure ?_)
    refine wpAny_execs_cons (if_eq (s := { s with heap := h3b, toks := t3b }) C S3.ns (by decide) (by decide) hk (fun z => absurd z (by rw [q]; decide)) fun _ t4 => ?_)
    refine wpAny_execs_cons (if_eq (s := { s with heap := h3b, toks := t4 }) C S3.ns (by decide) (by decide) hk (fun z => absurd z (by rw [q]; decide)) fun _ t5 => ?_)
    refine wpAny_execs_cons (if_eq (s := { s with heap := h3b, toks := t5 }) C S3.ns (by decide) (by decide) hk (fun _ t6a => ?_) fun z => absurd q z)
    refine wpAny_execs_cons (lay_gone (s := { s with heap := h3b, toks := t6a }) G hB h71 h85 C hroom T no_is_finite S3 fun h6 t6 d6 f6 cc6 c6 e6 a6 S6 F6 X6 lk6 n6a n6b n6c n6d n6e n6f => wpAny_pure ?_)
    refine wpAny_execs_cons (if_eq (s := { s with heap := h6, toks := t6 }) C S6.ns (by decide) (by decide) hk (fun z => absurd z (by rw [q]; decide)) fun _ t7 => ?_)
    have F3b := ask_lk S3 F3 lk6
    exact h _ _ _ _ S6 ⟨((if_neg (by decide)).trans ((if_neg (by decide)).trans hnum)), ((if_neg (by decide)).trans ((if_neg (by decide)).trans hden)), .inr (.inr (.inr (.inr (.inr (.inr (.inl ⟨q, ⟨f3, cc3, c3, ((if_neg (by decide)).trans (if_pos rfl)), F3b, n3a, n3b⟩, ⟨e6, a6, ⟨f6, cc6, c6, (if_pos rfl), F6, n6a, n6b⟩, X6, n6c, n6d, n6e, n6f⟩⟩))))))⟩
  · refine wpAny_execs_cons (if_eq (s := { s with heap := s.heap, toks := s.toks }) C S.ns (by decide) (by decide) hk (fun z => absurd z (by rw [q]; decide)) fun _ t1 => ?_)
    refine wpAny_execs_cons (if_eq (s := { s with heap := s.heap, toks := t1 }) C S.ns (by decide) (by decide) hk (fun z => absurd z (by rw [q]; decide)) fun _ t2 => ?_)
    refine wpAny_execs_cons (if_in4 (s := { s with heap := s.heap, toks := t2 }) C S.ns (by decide) (by decide) hk (fun z => absurd z (by rw [q]; decide)) fun _ h3 t3 k3 => ?_)
    have S3 := S.push T k3
    have K3 := k3
    refine wpAny_execs_cons (if_eq (s := { s with heap := h3, toks := t3 }) C S3.ns (by decide) (by decide) hk (fun z => absurd z (by rw [q]; decide)) fun _ t4 => ?_)
    refine wpAny_execs_cons (if_eq (s := { s with heap := h3, toks := t4 }) C S3.ns (by decide) (by decide) hk (fun z => absurd z (by rw [q]; decide)) fun _ t5 => ?_)
    refine wpAny_execs_cons (if_eq (s := { s with heap := h3, toks := t5 }) C S3.ns (by decide) (by decide) hk (fun z => absurd z (by rw [q]; decide)) fun _ t6 => ?_)
    refine wpAny_execs_cons (if_eq (s := { s with heap := h3, toks := t6 }) C S3.ns (by decide) (by decide) hk (fun _ t7a => ?_) fun z => absurd q z)
    refine wpAny_execs_cons (lay_raise (s := { s with heap := h3, toks := t7a }) (Φ := fun _ _ => True) (e := D.oc) G hB h71 h85 C hroom T no_as_integer_ratio S3 rfl (fun Q' hq => name_l (s := { s with heap := h3, toks := t7a }) C.toAct S3.ns (C.locs _ (by decide)) T.other (hq _ _ (fun _ _ z => z) trivial)) fun g7 h7 t7 d7 f7 cc7 c7 S7 F7 _ _ _ _ n7a n7b => wpAny_pure ?_)
    exact h _ _ _ _ S7 ⟨((if_neg (by decide)).trans hnum), ((if_neg (by decide)).trans hden), .inr (.inr (.inr (.inr (.inr (.inr (.inr ⟨q, ⟨f7, cc7, c7, (if_pos rfl), F7, n7a, n7b⟩, ((if_neg (by decide)).trans hfin)⟩))))))⟩
theorem lay_all (G : G0 w B mg mb) (hB : B.StaysIn h₀) (h71 : B.get? 71 = none) (h85 : B.get? 85 = none) (C : Holds env L A outer) (hroom : A.depth < recursionLimit) (T : Stat B h₀ L m D) (S : LS h₀ L m D s.heap none fun _ => none)
    (h : ∀ h' tk dx' mA', LS h₀ L m D h' dx' mA' → Final h₀ h' L D mA' → wpAny (model prog w) A (execs rest env) Q E { s with heap := h', toks := tk }) :
    wpAny (model prog w) A (execs ((.If (.Compare (.BinOp (.Name "laid" q0) .Mod (.Constant (.int 2) 0 q1) q2) [.Eq] [.Constant (.int 1) 0 q3] q4) [.Assign [.Attribute (.Name "thing" q5) "numerator" q6] (.Name "top" q7) q8] [] q9) :: (.If (.Compare (.Name "laid" q10) [.GtE] [.Constant (.int 2) 0 q11] q12) [.Assign [.Attribute (.Name "thing" q13) "denominator" q14] (.Name "low" q15) q16] [] q17) :: (kinds q18 q19 q20 q21 q22 q23 q24 q25 q26 q27 q28 q29 q30 q31 q32 q33 q34 q35 q36 q37 q38 q39 q40 q41 q42 q43 q44 q45 q46 q47 q48 q49 q50 q51 q52 q53 q54 q55 q56 q57 q58 q59 q60 q61 q62 q63 q64 q65 q66 q67 q68 q69 q70 q71 q72 q73 q74 q75 q76 q77 q78 q79 q80 q81 q82 q83 q84 q85 q86 q87 q88 q89 q90 q91 q92 rest)) env) Q E s := by
  obtain ⟨tl, hl⟩ := T.laid
  have den : ∀ h₁ tk₁ dx₁ mA₁, LS h₀ L m D h₁ dx₁ mA₁ → mA₁ "numerator" = (if D.laid.fmod 2 = 1 then some (.ref D.top) else none) → mA₁ "denominator" = none → mA₁ Air = none → mA₁ Fin' = none → wpAny (model prog w) A (execs ((.If (.Compare (.Name "laid" q10) [.GtE] [.Constant (.int 2) 0 q11] q12) [.Assign [.Attribute (.Name "thing" q13) "denominator" q14] (.Name "low" q15) q16] [] q17) :: (kinds q18 q19 q20 q21 q22 q23 q24 q25 q26 q27 q28 q29 q30 q31 q32 q33 q34 q35 q36 q37 q38 q39 q40 q41 q42 q43 q44 q45 q46 q47 q48 q49 q50 q51 q52 q53 q54 q55 q56 q57 q58 q59 q60 q61 q62 q63 q64 q65 q66 q67 q68 q69 q70 q71 q72 q73 q74 q75 q76 q77 q78 q79 q80 q81 q82 q83 q84 q85 q86 q87 q88 q89 q90 q91 q92 rest)) env) Q E { s with heap := h₁, toks := tk₁ } := fun h₁ tk₁ dx₁ mA₁ S₁ n1 n2 n3 n4 => by
    refine wpAny_execs_cons (if_ge (s := { s with heap := h₁, toks := tk₁ }) C S₁.ns (by decide) (by decide) hl (fun z t₂ => ?_) fun z t₂ => ?_)
    · refine wpAny_execs_cons (lay_low (s := { s with heap := h₁, toks := t₂ }) G hB h71 h85 C T no_denominator S₁ fun h₂ t₃ d₂ S₂ => wpAny_pure ?_)
      exact lay_kinds (s := { s with heap := h₂, toks := t₃ }) G hB h71 h85 C hroom T S₂ ((if_neg (by decide)).trans n1) ((if_pos rfl).trans (by rw [if_pos z])) ((if_neg (by decide)).trans n3) ((if_neg (by decide)).trans n4) h
    · exact lay_kinds (s := { s with heap := h₁, toks := t₂ }) G hB h71 h85 C hroom T S₁ n1 (n2.trans (by rw [if_neg z])) n3 n4 h
  refine wpAny_execs_cons (if_odd C S.ns (by decide) (by decide) hl (fun z t₁ => ?_) fun z t₁ => ?_)
  · refine wpAny_execs_cons (lay_top (s := { s with toks := t₁ }) G hB h71 h85 C T no_numerator S fun h₂ t₃ d₂ S₂ => wpAny_pure ?_)
    exact den h₂ t₃ _ _ S₂ ((if_pos rfl).trans (by rw [if_pos z])) (if_neg (by decide)) (if_neg (by decide)) (if_neg (by decide))
  · exact den s.heap t₁ _ _ S (by rw [if_neg z]) rfl rfl rfl
end
end Kq
end
section
open PySem PySem.W PySem.Spec PySem.Calls PyProof.Rows
open Builtin Builtin.ObjectAttr Builtin.Getset_descriptor
set_option maxRecDepth 100000
namespace Kq
variable {prog : Program} {w : World} {A : Around} {E : Value → Shared → Prop} {B : Heap} {mg mb : Str → Option Value} {s : Shared}
section
variable {env : Env} {L : Addr} {outer : List Env} {h₀ : Heap} {m : Str → Option Value} {Q : Flow → Shared → Prop} {rest : List Stmt}
variable {a1 a2 a3 a4 a5 a6 a7 a8 a9 a10 a11 a12 a13 a14 a15 a16 a17 a18 a19 a20 a21 a22 a23 a24 b1 b2 b3 b4 b5 b6 b7 b8 b9 b10 b11 b12 b13 b14 b15 b16 b17 b18 c1 c2 c3 c4 c5 d1 d2 d3 e1 e2 e3 e4 e5 : Pos}
theorem off_ne {h : Heap} {a b : Addr} {o : Obj} (ha : h.get? a = some o) (hb : h.get? b = none) : b ≠ a := fun q => by rw [q, ha] at hb; cases hb
theorem setup {n : Int} {t : Tok} (G : G0 w B mg mb) (hB : B.StaysIn h₀) (C : Holds env L A outer) (hh : A.handled = none) (x : FB h₀ L s.heap m none none none) (hx : m "x" = some (.int n t)) (t71 : Tab h₀ 71 qR) (t85 : Tab h₀ 85 qH)
    (h : ∀ h' tk m' D, Stat B h₀ L m' D → LS h₀ L m' D h' none (fun _ => none) → wpAny (model prog w) A (execs rest env) Q E { s with heap := h', toks := tk }) :
    wpAny (model prog w) A (execs (st1 a1 a2 a3 a4 a5 a6 a7 a8 a9 a10 a11 a12 a13 a14 a15 a16 a17 a18 a19 a20 a21 a22 a23 a24 :: st2 b1 b2 b3 b4 b5 b6 b7 b8 b9 b10 b11 b12 b13 b14 b15 b16 b17 b18 :: st3 c1 c2 c3 c4 c5 :: st4 d1 d2 d3 :: st5 e1 e2 e3 e4 e5 :: rest) env) Q E s := by
  refine wpAny_execs_cons (run1 C hh x hx fun h₁ tk₁ m₁ k d top low pair u1 u2 x₁ hx₁ hk hke hd hde hlow o1 o2 o3 n1 n2 n3 lt => ?_)
  subst hke; subst hde
  refine wpAny_execs_cons (run2 (s := { s with heap := h₁, toks := tk₁ }) G hB C x₁ hx₁ fun h₂ tk₂ er c a0 b1' b2' x₂ k₂ o4 n4 e4' ek hb => ?_)
  refine wpAny_execs_cons (run3 (s := { s with heap := h₂, toks := tk₂ }) G hB C x₂ fun h₃ tk₃ oc ao x₃ k₃ o5 n5 f5 e5' => ?_)
  refine wpAny_execs_cons (run4 (s := { s with heap := h₃, toks := tk₃ }) C x₃ fun h₄ tk₄ el x₄ k₄ o6 n6 l6 => ?_)
  refine wpAny_execs_cons (run5 (s := { s with heap := h₄, toks := tk₄ }) G hB C x₄ fun h₅ tk₅ th x₅ k₅ o7 n7 f7 mk => ?_)
  have ke2 := k₂
  have er3 := exc_kp e4' k₃ o4
  have er4 := exc_kp er3 k₄ o4
  have er5 := exc_kp er4 k₅ o4
  have oc4 := exc_kp e5' k₄ o5
  have oc5 := exc_kp oc4 k₅ o5
  have lt5 := list_kp (list_kp (list_kp (list_kp lt k₂ o1) k₃ o1) k₄ o1) k₅ o1
  have le5 := list_kp l6 k₅ o6
  have ne1 : th ≠ er := by obtain ⟨o, ho, _⟩ := er4.there; exact off_ne ho f7
  have ne2 : th ≠ oc := by obtain ⟨o, ho, _⟩ := oc4.there; exact off_ne ho f7
  have ne3 : oc ≠ er := by obtain ⟨o, ho, _⟩ := e4'.there; exact off_ne ho f5
  have st := x₅.ext
  have kk : h₀.StaysIn h₅ := fun b o q => st.keep b o q (by simp)
  have S5 : LS h₀ L _ ⟨n, t, top, low, pair, el, er, oc, th, c, a0, ao, b1', b2'⟩ h₅ none (fun _ => none) := ⟨st.mono (fun b hb => nomatch hb), x₅.ns, x₅.e, x₅.p, x₅.t, lt5, le5, er5, oc5, mk, (fun y hy => absurd rfl hy), (fun d z => nomatch z), t71.keeps kk, t85.keeps kk⟩
  refine h h₅ tk₅ _ ⟨n, t, top, low, pair, el, er, oc, th, c, a0, ao, b1', b2'⟩ ?_ S5
  · refine ⟨x₅.size, ⟨u1, ?_⟩, ⟨u2, ?_⟩, ?_, ?_, ?_, if_pos rfl, ?_, ne1, ne2, ne3.symm, ek, hb, ?_, ?_⟩
    · exact (if_neg (by decide)).trans ((if_neg (by decide)).trans ((if_neg (by decide)).trans hk))
    · exact (if_neg (by decide)).trans ((if_neg (by decide)).trans ((if_neg (by decide)).trans hd))
    · exact (if_neg (by decide)).trans ((if_neg (by decide)).trans ((if_neg (by decide)).trans hlow))
    · exact (if_neg (by decide)).trans ((if_neg (by decide)).trans (if_pos rfl))
    · exact (if_neg (by decide)).trans (if_pos rfl)
    · intro a ha
      simp only [List.mem_cons, List.not_mem_nil, or_false] at ha
      rcases ha with rfl | rfl | rfl | rfl | rfl | rfl | rfl <;> assumption
    · obtain ⟨ps, e, _⟩ := t71; exact ⟨_, e⟩
    · obtain ⟨ps, e, _⟩ := t85; exact ⟨_, e⟩
end
end Kq
end
section
open PySem PySem.W PySem.Spec PySem.Calls PyProof.Rows
open Builtin Builtin.ObjectAttr Builtin.Getset_descriptor
set_option maxRecDepth 100000
namespace Kq
variable {prog : Program} {w : World} {A : Around} {E : Value → Shared → Prop} {B : Heap} {mg mb : Str → Option Value} {s : Shared}
theorem G0.keeps {B' : Heap} (G : G0 w B mg mb) (k : B.StaysIn B') : G0 w B' mg mb :=
  ⟨G.X.keeps k, G.g.keeps k, G.b.keeps k, G.nolimit.keeps k, G.builtins, let ⟨bm, ob, h1, h2, h3, r⟩ := G.bmain; ⟨bm, ob, h1, h2, k _ _ h3, r⟩⟩
section
variable {env : Env} {L : Addr} {outer : List Env} {h₀ h : Heap} {m : Str → Option Value} {D : Dt} {dx : Option Addr} {mA : Str → Option Value} {EX : List Addr}
abbrev frz (h : Heap) (L : Addr) (EX : List Addr) (outer : List Env) : Heap := hideAll h (L :: EX ++ fr outer)
def Flier (h : Heap) (e : Addr) : Prop := ∃ o vs, h.get? e = some o ∧ o.data = .fields vs ∧ vs[1]? = some .none
theorem Exc.flier {e : Addr} {c a0 cx : Value} (x : Exc h e c a0 cx none) : Flier h e := let ⟨o, vs, ho, _, hd, _, _, h1⟩ := x; ⟨o, vs, ho, hd, h1⟩
theorem frz_stays : (frz h L EX outer).StaysIn h := fun _ _ q => of_hideAll _ q
theorem frz_none {a : Addr} (ha : a ∈ L :: EX ++ fr outer) : (frz h L EX outer).get? a = none := hideAll_none _ ha
theorem not_frz (hex : ∀ e ∈ EX, Flier h e) (hl0 : Frs h₀ outer) (hl : Frs h outer) {b : Addr} {o : Obj} (ho : h.get? b = some o) (h1 : ∀ vs, o.data = .fields vs → ∃ q t, vs[1]? = some (.str q t)) (h2 : b ≠ L) (h3 : h₀.get? b = none ∨ ∃ vs, o.data = .fields vs) : b ∉ L :: EX ++ fr outer := by
  intro q
  rcases List.mem_append.mp q with q | q
  · rcases List.mem_cons.mp q with q | q
    · exact h2 q
    · obtain ⟨o', vs, ho', hd, hv⟩ := hex b q
      rw [ho] at ho'; cases ho'
      obtain ⟨x, t, e⟩ := h1 _ hd
      rw [hv] at e; cases e
  · rcases h3 with h3 | ⟨vs, hd⟩
    · obtain ⟨_, o', ho', _⟩ := hl0.mem q
      rw [h3] at ho'; cases ho'
    · obtain ⟨_, o', ho', hn⟩ := hl.mem q
      rw [ho] at ho'; cases ho'; exact hn vs hd
structure Frz (h₀ h : Heap) (L : Addr) (m : Str → Option Value) (EX : List Addr) (outer : List Env) : Prop where
  ex : ∀ e ∈ EX, Flier h e
  fresh : ∀ e ∈ EX, h₀.get? e = none
  ns : h.Ns L m
  l0 : Frs h₀ outer
  l : Frs h outer
  size : h₀.objs.size ≤ L
theorem Frz.neL (Z : Frz h₀ h L m EX outer) {b : Addr} {o : Obj} (ho : h.get? b = some o) (h2 : ∀ es ep, o.data ≠ .dict es ep) : b ≠ L := fun q => by
  obtain ⟨o', es, ep, ho', hd, _⟩ := Z.ns
  rw [q, ho'] at ho; cases ho; exact h2 _ _ hd
theorem Frz.base (Z : Frz h₀ h L m EX outer) (hBh : B.StaysIn h) (hB : B.StaysIn h₀) (hoff : ∀ a ∈ fr outer, B.get? a = none) : B.StaysIn (frz h L EX outer) := fun b o q => by
  refine hideAll_get _ (hBh _ _ q) fun hb => ?_
  have h0 := hB _ _ q
  rcases List.mem_append.mp hb with hb | hb
  · rcases List.mem_cons.mp hb with rfl | hb
    · rw [none_of_ge Z.size] at h0; cases h0
    · rw [Z.fresh b hb] at h0; cases h0
  · rw [hoff b hb] at q; cases q
theorem Frz.get (Z : Frz h₀ h L m EX outer) {b : Addr} {o : Obj} (ho : h.get? b = some o) (h1 : ∀ vs, o.data = .fields vs → ∃ q t, vs[1]? = some (.str q t)) (h2 : b ≠ L) (h3 : h₀.get? b = none ∨ ∃ vs, o.data = .fields vs) : (frz h L EX outer).get? b = some o :=
  hideAll_get _ ho (not_frz Z.ex Z.l0 Z.l ho h1 h2 h3)
theorem Frz.cell (Z : Frz h₀ h L m EX outer) {a : Addr} {v : Option Value} (x : h.IsCell a v) (hf : h₀.get? a = none) : (frz h L EX outer).IsCell a v := by
  obtain ⟨o, ho, hd⟩ := x
  exact ⟨o, Z.get ho (fun vs z => by rw [hd] at z; cases z) (Z.neL ho fun es ep z => by rw [hd] at z; cases z) (.inl hf), hd⟩
theorem Frz.list (Z : Frz h₀ h L m EX outer) {a : Addr} {items : Array Value} (x : h.IsList a items) (hf : h₀.get? a = none) : (frz h L EX outer).IsList a items := by
  obtain ⟨o, ho, hc, n, hd⟩ := x
  exact ⟨o, Z.get ho (fun vs z => by rw [hd] at z; cases z) (Z.neL ho fun es ep z => by rw [hd] at z; cases z) (.inl hf), hc, n, hd⟩
theorem Frz.crec (Z : Frz h₀ h L m EX outer) {c : Addr} {q : Str} (x : h.CodeRec (.ref c) q) : (frz h L EX outer).CodeRec (.ref c) q := by
  obtain ⟨c₂, oc, vs, tq, ec, hoc, hdc, hq⟩ := x
  cases ec
  exact ⟨_, oc, vs, tq, rfl, Z.get hoc (fun vs' z => by rw [hdc] at z; cases z; exact ⟨_, _, hq⟩) (Z.neL hoc fun es ep z => by rw [hdc] at z; cases z) (.inr ⟨_, hdc⟩), hdc, hq⟩
theorem Frz.ask (Z : Frz h₀ h L m EX outer) {f cc c' e : Addr} (x : AskAt h f cc c' e) (hf : h₀.get? f = none) (hc : h₀.get? cc = none) : Ask (frz h L EX outer) f e := by
  obtain ⟨o, nm, qual, n, np, pos, doc, pm, ct, e1, e2, e3, e4, e5⟩ := x
  exact ⟨o, nm, qual, n, np, pos, cc, doc, pm, .ref c', ct, Z.get e1 (fun vs z => by rw [e2] at z; cases z) (Z.neL e1 fun es ep z => by rw [e2] at z; cases z) (.inl hf), e2, Z.crec e3, Z.cell e4 hc, e5⟩
theorem Frz.lam (Z : Frz h₀ h L m EX outer) {f cc c' : Addr} {v : Value} (x : LamAt h f cc c' v) (hf : h₀.get? f = none) (hc : h₀.get? cc = none) : Lam (frz h L EX outer) f v := by
  obtain ⟨o, nm, qual, n, pos, pm, ct, e1, e2, e3, e4, e5⟩ := x
  exact ⟨o, nm, qual, n, pos, cc, pm, .ref c', ct, Z.get e1 (fun vs z => by rw [e2] at z; cases z) (Z.neL e1 fun es ep z => by rw [e2] at z; cases z) (.inl hf), e2, Z.crec e3, Z.cell e4 hc, e5⟩
theorem Frz.thing (Z : Frz h₀ h L m EX outer) {th : Addr} (M : Made h th dx mA) (hth : h₀.get? th = none) (hne : th ∉ EX) (hd : ∀ d, dx = some d → h₀.get? d = none ∧ d ≠ L) : Thing (frz h L EX outer) th mA := by
  obtain ⟨o, vs, ho, hc, hdt, h1, hdx⟩ := M.obj
  have g1 : (frz h L EX outer).get? th = some o := by
    refine hideAll_get _ ho fun q => ?_
    rcases List.mem_append.mp q with q | q
    · rcases List.mem_cons.mp q with q | q
      · exact Z.neL ho (fun es ep z => by rw [hdt] at z; cases z) q
      · exact hne q
    · obtain ⟨_, o', ho', _⟩ := Z.l0.mem q
      rw [hth] at ho'; cases ho'
  refine ⟨⟨o, g1, hc, (fun c z => by rw [hdt] at z; cases z), ?_⟩, ⟨o, vs, g1, hc, hdt⟩⟩
  cases dx with
  | none => exact .inl ⟨hdx, M.bare rfl⟩
  | some d =>
    obtain ⟨n1, n2⟩ := M.ns d rfl
    obtain ⟨f1, f2⟩ := hd d rfl
    refine .inr ⟨d, hdx, n1, n2.at fun o' q => ?_⟩
    obtain ⟨od, es, ep, ho', hd', _⟩ := n2
    rw [q] at ho'; cases ho'
    exact Z.get q (fun vs z => by rw [hd'] at z; cases z) f2 (.inl f1)
end
end Kq
end
section
open PySem PySem.W PySem.Spec PySem.Calls PyProof.Rows
open Builtin Builtin.ObjectAttr Builtin.Getset_descriptor
set_option maxRecDepth 100000
namespace Kq
variable {prog : Program} {w : World} {A : Around} {E : Value → Shared → Prop} {B : Heap} {mg mb : Str → Option Value} {s : Shared}
section
variable {outer : List Env} {x f er : Addr} {mA : Str → Option Value} {R : Result → Shared → Prop} {c a0 : Value} {b1 b2 : Bool}
theorem fn62 (G : G0 w B mg mb) : ∃ o fd, B.get? 62 = some o ∧ o.data = .func fd := ⟨_, _, G.X 62 _ rfl, rfl⟩
theorem fn69 (G : G0 w B mg mb) : ∃ o fd, B.get? 69 = some o ∧ o.data = .func fd := ⟨_, _, G.X 69 _ rfl, rfl⟩
theorem fresh_off {h : Heap} {l : List Env} {a : Addr} (hl : Frs h l) (ha : h.get? a = none) : a ∉ fr l := fun q => by
  obtain ⟨_, o, ho, _⟩ := hl.mem q; rw [ha] at ho; cases ho
theorem Exc.shape {h : Heap} {e : Addr} {c a0 cx f : Value} {T : Addr} (x : Exc h e c a0 cx (some (T, f))) : (∃ o vs, h.get? e = some o ∧ o.data = .fields vs) ∧ ∃ o vs, h.get? T = some o ∧ o.data = .fields vs := by
  obtain ⟨o, vs, ho, _, hd, _, _, _, _, oT, ts, hoT, hdT, _⟩ := x
  exact ⟨⟨o, vs, ho, hd⟩, ⟨oT, ts, hoT, hdT⟩⟩
theorem told_ratio_lam {v : Value} (G : G0 w B mg mb) (hB : B.StaysIn s.heap) (hroom : A.depth + 2 < recursionLimit) (hfr : A.frames = some outer) (hl : Frs s.heap outer) (hoff : ∀ a ∈ fr outer, B.get? a = none) (T : Thing B x mA) (hv : mA "as_integer_ratio" = some (.ref f)) (F : Lam B f v)
    (h : ∀ h' tk, Ext [] s.heap h' → R (.ok (.ret v)) { s with heap := h', toks := tk }) : codeAny (model prog w) A (.call (.ref 83) ⟨[.ref 69, .ref x], []⟩) R s := by
  obtain ⟨o, fd, ho, hd⟩ := fn69 G
  refine told_call (X := []) G hB (by omega) hfr hl hoff ho hd fun env A' h₀ tk C hdp hhd hl₀ x₀ hof => ?_
  exact ratio_lam (s := { s with heap := h₀, toks := tk }) G (x₀.base hB fun b hb => nomatch hb) (by omega) C.frames hl₀ T hv F fun h' tk' x₁ => h h' tk' (x₀.trans x₁ fun b hb => nomatch hb)
theorem told_isf_lam {v : Value} (G : G0 w B mg mb) (hB : B.StaysIn s.heap) (hroom : A.depth + 2 < recursionLimit) (hfr : A.frames = some outer) (hl : Frs s.heap outer) (hoff : ∀ a ∈ fr outer, B.get? a = none) (T : Thing B x mA) (hv : mA "is_finite" = some (.ref f)) (F : Lam B f v)
    (h : ∀ h' tk, Ext [] s.heap h' → R (.ok (.ret v)) { s with heap := h', toks := tk }) : codeAny (model prog w) A (.call (.ref 83) ⟨[.ref 62, .ref x], []⟩) R s := by
  obtain ⟨o, fd, ho, hd⟩ := fn62 G
  refine told_call (X := []) G hB (by omega) hfr hl hoff ho hd fun env A' h₀ tk C hdp hhd hl₀ x₀ hof => ?_
  exact isfinite_call_lam (s := { s with heap := h₀, toks := tk }) G (x₀.base hB fun b hb => nomatch hb) (by omega) C.frames hl₀ T hv F fun h' tk' x₁ => h h' tk' (x₀.trans x₁ fun b hb => nomatch hb)
theorem gone_keep {h h' : Heap} {Y : List Addr} (hg : Gone B h mA Y) (x₀ : Ext [] h h') : Gone B h' mA Y := hg.imp id fun ⟨f, er, a0, e1, e2, e3, r⟩ => ⟨f, er, a0, e1, e2, e3.keep x₀ (by simp) (by simp), r⟩
theorem gone_off {h : Heap} {Y : List Addr} (hg : Gone B h mA Y) : ∀ b ∈ Y, B.get? b = none := fun b hb => by
  rcases hg with ⟨_, rfl⟩ | ⟨f, er, a0, _, _, _, hBe, rfl⟩
  · cases hb
  · rw [List.mem_singleton.mp hb]; exact hBe
theorem told_out {env : Env} {A' : Around} {L : Addr} {X : List Addr} {h₀ h' : Heap} (C : Act env L A' outer) (hL : s.heap.get? L = none) (x₀ : Ext [] s.heap h₀) (x : Ext (X ++ fr (env :: outer)) h₀ h') : Ext (X ++ fr outer) s.heap h' := ext_out C.frame hL x₀ x
theorem told_ratio_pair {a b : Addr} {Y : List Addr} (G : G0 w B mg mb) (hB : B.StaysIn s.heap) (hroom : A.depth + 2 < recursionLimit) (hfr : A.frames = some outer) (hl : Frs s.heap outer) (hoff : ∀ a ∈ fr outer, B.get? a = none) (hh : A.handled = none) (T : Thing B x mA) (hg : Gone B s.heap mA Y)
    (ha : mA "numerator" = some (.ref a)) (hb : mA "denominator" = some (.ref b))
    (h : ∀ h' tk t, Ext (Y ++ fr outer) s.heap h' → s.heap.get? t = none → h'.get? t = some { cls := .type "tuple", data := .seq #[.ref a, .ref b] } → R (.ok (.ret (.ref t))) { s with heap := h', toks := tk }) : codeAny (model prog w) A (.call (.ref 83) ⟨[.ref 69, .ref x], []⟩) R s := by
  obtain ⟨o, fd, ho, hd⟩ := fn69 G
  have hL := none_of_ge (Nat.le_refl s.heap.objs.size)
  refine told_call (X := Y) G hB (by omega) hfr hl hoff ho hd fun env A' h₀ tk C hdp hhd hl₀ x₀ hof => ?_
  exact ratio_pair (s := { s with heap := h₀, toks := tk }) G (x₀.base hB fun b hb => nomatch hb) (by omega) C.frames hl₀ hof (hhd.trans hh) T (gone_keep hg x₀) ha hb fun h' tk' t x₁ n1 n2 => h h' tk' t (told_out C hL x₀ x₁) (x₀.fresh n1) n2
theorem told_ratio_lacks {Y : List Addr} (G : G0 w B mg mb) (hB : B.StaysIn s.heap) (hroom : A.depth + 2 < recursionLimit) (hfr : A.frames = some outer) (hl : Frs s.heap outer) (hoff : ∀ a ∈ fr outer, B.get? a = none) (hh : A.handled = none) (T : Thing B x mA) (hg : Gone B s.heap mA Y)
    (hlack : mA "numerator" = none ∨ ((∃ a, mA "numerator" = some (.ref a)) ∧ mA "denominator" = none))
    (h : ∀ h' tk e' c' t T', s.heap.get? e' = none → Ext (Y ++ fr outer) s.heap h' → Exc h' e' (.type "TypeError") (.ref t) c' (some (T', .none)) → s.heap.get? t = none → (∃ u, h'.get? t = some { cls := .type "tuple", data := .seq #[.str sayAll u] }) → R (.ok (.ret (.ref e'))) { s with heap := h', toks := tk }) :
    codeAny (model prog w) A (.call (.ref 83) ⟨[.ref 69, .ref x], []⟩) R s := by
  obtain ⟨o, fd, ho, hd⟩ := fn69 G
  have hL := none_of_ge (Nat.le_refl s.heap.objs.size)
  refine told_call (X := Y) G hB (by omega) hfr hl hoff ho hd fun env A' h₀ tk C hdp hhd hl₀ x₀ hof => ?_
  have hB₀ := x₀.base hB fun b hb => nomatch hb
  refine ratio_lacks (s := { s with heap := h₀, toks := tk }) G hB₀ (by omega) C.frames hl₀ hof (hhd.trans hh) T (gone_keep hg x₀) hlack fun h₁ tk₁ e' c' t T' n1 n2 x₁ e₁ n3 tt => ?_
  refine ⟨e', T', "TypeError", .ref t, c', rfl, told_TE, e₁, x₁, n2, gone_off hg, base_none hB₀ n1, .inr n1, fun h₂ tk₂ T₂ f2 x₂ e₂ k₂ => ?_⟩
  obtain ⟨u, ht⟩ := tt
  obtain ⟨⟨oe, ve, hoe, hde⟩, ⟨oT, vT, hoT, hdT⟩⟩ := e₁.shape
  refine h h₂ tk₂ e' c' t T₂ (x₀.fresh n1) x₂ e₂ (x₀.fresh n3) ⟨u, k₂ _ _ ht (fun q => ?_) (fun q => ?_) (fresh_off hl₀ n3)⟩
  · rw [q] at ht; rw [show h₁.get? e' = some oe from hoe] at ht; cases ht; cases hde
  · rw [q] at ht; rw [show h₁.get? T' = some oT from hoT] at ht; cases ht; cases hdT
theorem Err.keep {h h' : Heap} (he : Err B h er c a0 b1 b2) (x₀ : Ext [] h h') : Err B h' er c a0 b1 b2 := ⟨he.exc.keep x₀ (by simp) (by simp), he.plain, he.base, he.ae, he.oe, he.ve, he.off⟩
theorem told_ratio_infinite {g l : Addr} (G : G0 w B mg mb) (hB : B.StaysIn s.heap) (hroom : A.depth + 3 < recursionLimit) (hfr : A.frames = some outer) (hl : Frs s.heap outer) (hoff : ∀ a ∈ fr outer, B.get? a = none) (hh : A.handled = none) (T : Thing B x mA) (hv : mA "as_integer_ratio" = some (.ref f)) (F : Ask B f er) (he : Err B s.heap er c a0 b1 b2) (hb : (b1 || b2) = true)
    (hw : mA "is_finite" = some (.ref g)) (FL : Lam B g (.ref l)) (hl0 : B.IsList l #[])
    (h : ∀ h' tk t, Ext ([er] ++ fr outer) s.heap h' → s.heap.get? t = none → h'.get? t = some { cls := .type "tuple", data := .seq #[.ref x, .none] } → R (.ok (.ret (.ref t))) { s with heap := h', toks := tk }) :
    codeAny (model prog w) A (.call (.ref 83) ⟨[.ref 69, .ref x], []⟩) R s := by
  obtain ⟨o, fd, ho, hd⟩ := fn69 G
  have hL := none_of_ge (Nat.le_refl s.heap.objs.size)
  refine told_call (X := [er]) G hB (by omega) hfr hl hoff ho hd fun env A' h₀ tk C hdp hhd hl₀ x₀ hof => ?_
  exact ratio_infinite (s := { s with heap := h₀, toks := tk }) G (x₀.base hB fun b hb => nomatch hb) (by omega) C.frames hl₀ hof (hhd.trans hh) T hv F (he.keep x₀) hb hw FL hl0 fun h' tk' t x₁ n1 n2 => h h' tk' t (told_out (X := [er]) C hL x₀ x₁) (x₀.fresh n1) n2
theorem told_ratio_assert {g l : Addr} {items : Array Value} (G : G0 w B mg mb) (hB : B.StaysIn s.heap) (hroom : A.depth + 3 < recursionLimit) (hfr : A.frames = some outer) (hl : Frs s.heap outer) (hoff : ∀ a ∈ fr outer, B.get? a = none) (hh : A.handled = none) (T : Thing B x mA) (hv : mA "as_integer_ratio" = some (.ref f)) (F : Ask B f er) (he : Err B s.heap er c a0 b1 b2) (hb : (b1 || b2) = true)
    (hw : mA "is_finite" = some (.ref g)) (FL : Lam B g (.ref l)) (hl1 : B.IsList l items) (h1 : items.isEmpty = false) (hz : (items.size : Int) < 2 ^ 63)
    (h : ∀ h' tk e' a' c' T', s.heap.get? e' = none → Ext ([er] ++ fr outer) s.heap h' → Exc h' e' (.type "AssertionError") a' c' (some (T', .none)) → R (.ok (.ret (.ref e'))) { s with heap := h', toks := tk }) :
    codeAny (model prog w) A (.call (.ref 83) ⟨[.ref 69, .ref x], []⟩) R s := by
  obtain ⟨o, fd, ho, hd⟩ := fn69 G
  refine told_call (X := [er]) G hB (by omega) hfr hl hoff ho hd fun env A' h₀ tk C hdp hhd hl₀ x₀ hof => ?_
  have hB₀ := x₀.base hB fun b hb => nomatch hb
  refine ratio_assert (s := { s with heap := h₀, toks := tk }) G hB₀ (by omega) C.frames hl₀ hof (hhd.trans hh) T hv F (he.keep x₀) hb hw FL hl1 h1 hz fun h₁ tk₁ e' a' c' T' n1 n2 x₁ e₁ => ?_
  exact ⟨e', T', "AssertionError", a', c', rfl, told_AsE, e₁, x₁, n2, fun b hb => List.mem_singleton.mp hb ▸ he.off, base_none hB₀ n1, .inr n1, fun h₂ tk₂ T₂ f2 x₂ e₂ k₂ => h h₂ tk₂ e' a' c' T₂ (x₀.fresh n1) x₂ e₂⟩
theorem told_ratio_te_none (G : G0 w B mg mb) (hB : B.StaysIn s.heap) (hroom : A.depth + 3 < recursionLimit) (hfr : A.frames = some outer) (hl : Frs s.heap outer) (hoff : ∀ a ∈ fr outer, B.get? a = none) (hh : A.handled = none) (T : Thing B x mA) (hv : mA "as_integer_ratio" = some (.ref f)) (F : Ask B f er) (he : Err B s.heap er c a0 b1 b2) (hb : (b1 || b2) = true) (hw : mA "is_finite" = none)
    (h : ∀ h' tk e' a' c' T', s.heap.get? e' = none → Ext ([er] ++ fr outer) s.heap h' → Exc h' e' (.type "TypeError") a' c' (some (T', .none)) → R (.ok (.ret (.ref e'))) { s with heap := h', toks := tk }) :
    codeAny (model prog w) A (.call (.ref 83) ⟨[.ref 69, .ref x], []⟩) R s := by
  obtain ⟨o, fd, ho, hd⟩ := fn69 G
  refine told_call (X := [er]) G hB (by omega) hfr hl hoff ho hd fun env A' h₀ tk C hdp hhd hl₀ x₀ hof => ?_
  have hB₀ := x₀.base hB fun b hb => nomatch hb
  refine ratio_te_none (s := { s with heap := h₀, toks := tk }) G hB₀ (by omega) C.frames hl₀ hof (hhd.trans hh) T hv F (he.keep x₀) hb hw fun h₁ tk₁ e' a' c' T' n1 n2 x₁ e₁ => ?_
  exact ⟨e', T', "TypeError", a', c', rfl, told_TE, e₁, x₁, n2, fun b hb => List.mem_singleton.mp hb ▸ he.off, base_none hB₀ n1, .inr n1, fun h₂ tk₂ T₂ f2 x₂ e₂ k₂ => h h₂ tk₂ e' a' c' T₂ (x₀.fresh n1) x₂ e₂⟩
theorem told_ratio_te_ask {g e2 : Addr} {a2 : Value} (G : G0 w B mg mb) (hB : B.StaysIn s.heap) (hroom : A.depth + 3 < recursionLimit) (hfr : A.frames = some outer) (hl : Frs s.heap outer) (hoff : ∀ a ∈ fr outer, B.get? a = none) (hh : A.handled = none) (T : Thing B x mA) (hv : mA "as_integer_ratio" = some (.ref f)) (F : Ask B f er) (he : Err B s.heap er c a0 b1 b2) (hb : (b1 || b2) = true)
    (hw : mA "is_finite" = some (.ref g)) (F2 : Ask B g e2) (he2 : Exc s.heap e2 (.type "AttributeError") a2 .none none) (hB2 : B.get? e2 = none) (hne : er ≠ e2)
    (h : ∀ h' tk e' a' c' T', s.heap.get? e' = none → Ext ([er, e2] ++ fr outer) s.heap h' → Exc h' e' (.type "TypeError") a' c' (some (T', .none)) → Tip h' er → (∃ T'', s.heap.get? T'' = none ∧ T'' ≠ er ∧ T'' ≠ e' ∧ Exc h' e2 (.type "AttributeError") a2 (.ref er) (some (T'', .none))) → R (.ok (.ret (.ref e'))) { s with heap := h', toks := tk }) :
    codeAny (model prog w) A (.call (.ref 83) ⟨[.ref 69, .ref x], []⟩) R s := by
  obtain ⟨o, fd, ho, hd⟩ := fn69 G
  refine told_call (X := [er, e2]) G hB (by omega) hfr hl hoff ho hd fun env A' h₀ tk C hdp hhd hl₀ x₀ hof => ?_
  have hB₀ := x₀.base hB fun b hb => nomatch hb
  have he2' := he2.keep x₀ (by simp) (by simp)
  refine ratio_te_ask (s := { s with heap := h₀, toks := tk }) G hB₀ (by omega) C.frames hl₀ hof (hhd.trans hh) T hv F (he.keep x₀) hb hw F2 he2' hB2 hne fun h₁ tk₁ e' a' c' T' n1 n2 x₁ e₁ tip kk => ?_
  obtain ⟨T'', m1, m2, m3, m4, m5⟩ := kk
  have l₁ : Frs h₁ (env :: outer) := x₁.frs hl₀
  have there : ∀ b o, h₀.get? b = some o → b ≠ e' ∧ b ≠ T' := fun b o q => ⟨(fun z => by rw [z, show h₀.get? e' = none from n1] at q; cases q), (fun z => by rw [z, show h₀.get? T' = none from n2] at q; cases q)⟩
  refine ⟨e', T', "TypeError", a', c', rfl, told_TE, e₁, x₁, n2, fun b hb => ?_, base_none hB₀ n1, .inr n1, fun h₂ tk₂ T₂ f2 x₂ e₂ k₂ => ?_⟩
  · rcases List.mem_cons.mp hb with rfl | hb
    · exact he.off
    · rw [List.mem_singleton.mp hb]; exact hB2
  · obtain ⟨oer, hoer, _⟩ := (he.keep x₀).exc.there
    obtain ⟨oe2, hoe2, _⟩ := he2'.there
    refine h h₂ tk₂ e' a' c' T₂ (x₀.fresh n1) x₂ e₂ ?_ ⟨T'', x₀.fresh m1, m2, m3, ?_⟩
    · obtain ⟨o', vs, ho', r⟩ := id tip
      exact ⟨o', vs, k₂ _ _ ho' (there _ _ hoer).1 (there _ _ hoer).2 (tip.off_frames l₁), r⟩
    · obtain ⟨o', vs, ho', c1, d1, q0, q2, q1, ne1, oT, ts, hoT, hdT, q3⟩ := id m5
      refine ⟨o', vs, k₂ _ _ ho' (there _ _ hoe2).1 (there _ _ hoe2).2 (m5.off_frames l₁), c1, d1, q0, q2, q1, ne1, oT, ts, k₂ _ _ hoT m3 m4 (fun q => ?_), hdT, q3⟩
      obtain ⟨_, ob, hob, hn⟩ := l₁.mem q
      rw [show h₁.get? T'' = some oT from hoT] at hob; cases hob; exact hn ts hdT
theorem told_ratio_other (G : G0 w B mg mb) (hB : B.StaysIn s.heap) (hroom : A.depth + 3 < recursionLimit) (hfr : A.frames = some outer) (hl : Frs s.heap outer) (hoff : ∀ a ∈ fr outer, B.get? a = none) (hh : A.handled = none) (T : Thing B x mA) (hv : mA "as_integer_ratio" = some (.ref f)) (F : Ask B f er) (he : Err B s.heap er (.type "KeyError") a0 false false)
    (h : ∀ h' tk, Ext ([er] ++ fr outer) s.heap h' → R (.ok (.ret (.ref er))) { s with heap := h', toks := tk }) :
    codeAny (model prog w) A (.call (.ref 83) ⟨[.ref 69, .ref x], []⟩) R s := by
  obtain ⟨o, fd, ho, hd⟩ := fn69 G
  refine told_call (X := [er]) G hB (by omega) hfr hl hoff ho hd fun env A' h₀ tk C hdp hhd hl₀ x₀ hof => ?_
  have hB₀ := x₀.base hB fun b hb => nomatch hb
  refine ratio_other (s := { s with heap := h₀, toks := tk }) G hB₀ (by omega) C.frames hl₀ hof (hhd.trans hh) T hv F (he.keep x₀) rfl fun h₁ tk₁ T' n2 x₁ e₁ => ?_
  exact ⟨er, T', "KeyError", _, _, rfl, told_KE, e₁, x₁, n2, fun b hb => List.mem_singleton.mp hb ▸ he.off, he.off, .inl (by simp), fun h₂ tk₂ T₂ f2 x₂ e₂ k₂ => h h₂ tk₂ x₂⟩
theorem told_isf_none (G : G0 w B mg mb) (hB : B.StaysIn s.heap) (hroom : A.depth + 2 < recursionLimit) (hfr : A.frames = some outer) (hl : Frs s.heap outer) (hoff : ∀ a ∈ fr outer, B.get? a = none) (hh : A.handled = none) (T : Thing B x mA) (hv : mA "is_finite" = none)
    (h : ∀ h' tk e' a' c' T', s.heap.get? e' = none → Ext ([] ++ fr outer) s.heap h' → Exc h' e' (.type "TypeError") a' c' (some (T', .none)) → R (.ok (.ret (.ref e'))) { s with heap := h', toks := tk }) :
    codeAny (model prog w) A (.call (.ref 83) ⟨[.ref 62, .ref x], []⟩) R s := by
  obtain ⟨o, fd, ho, hd⟩ := fn62 G
  refine told_call (X := []) G hB (by omega) hfr hl hoff ho hd fun env A' h₀ tk C hdp hhd hl₀ x₀ hof => ?_
  have hB₀ := x₀.base hB fun b hb => nomatch hb
  refine isfinite_call_none (s := { s with heap := h₀, toks := tk }) G hB₀ (by omega) C.frames hl₀ hof T hv (.inl (hhd.trans hh)) fun h₁ tk₁ e' a' c' T' n1 n2 x₁ e₁ => ?_
  exact ⟨e', T', "TypeError", a', c', rfl, told_TE, e₁, x₁, n2, (fun b hb => nomatch hb), base_none hB₀ n1, .inr n1, fun h₂ tk₂ T₂ f2 x₂ e₂ k₂ => h h₂ tk₂ e' a' c' T₂ (x₀.fresh n1) x₂ e₂⟩
theorem told_isf_ask {e2 ez : Addr} {a2 : Value} {T2 : Addr} (G : G0 w B mg mb) (hB : B.StaysIn s.heap) (hroom : A.depth + 2 < recursionLimit) (hfr : A.frames = some outer) (hl : Frs s.heap outer) (hoff : ∀ a ∈ fr outer, B.get? a = none) (hh : A.handled = none) (T : Thing B x mA) (hv : mA "is_finite" = some (.ref f)) (F : Ask B f e2)
    (he2 : Exc s.heap e2 (.type "AttributeError") a2 (.ref ez) (some (T2, .none))) (hB2 : B.get? e2 = none) (hBT : B.get? T2 = none) (tip : Tip s.heap ez) (hne : ez ≠ e2) (hne2 : ez ≠ T2)
    (h : ∀ h' tk e' a' c' T', s.heap.get? e' = none → Ext ([e2, T2] ++ fr outer) s.heap h' → Exc h' e' (.type "TypeError") a' c' (some (T', .none)) → R (.ok (.ret (.ref e'))) { s with heap := h', toks := tk }) :
    codeAny (model prog w) A (.call (.ref 83) ⟨[.ref 62, .ref x], []⟩) R s := by
  obtain ⟨o, fd, ho, hd⟩ := fn62 G
  have hX : ∀ b ∈ [e2, T2], B.get? b = none := fun b hb => by
    rcases List.mem_cons.mp hb with rfl | hb
    · exact hB2
    · rw [List.mem_singleton.mp hb]; exact hBT
  refine told_call (X := [e2, T2]) G hB (by omega) hfr hl hoff ho hd fun env A' h₀ tk C hdp hhd hl₀ x₀ hof => ?_
  have hB₀ := x₀.base hB fun b hb => nomatch hb
  have hnn : A'.handled = none := hhd.trans hh
  refine isfinite_call_ask (s := { s with heap := h₀, toks := tk }) (tb := some (T2, .none)) G hB₀ (by omega) C.frames hl₀ (fun b hb => ?_) T hv F (he2.keep x₀ (by simp) (by simp)) (fun p hp => by cases hp; rfl) (.inl hnn) (by rw [hnn]; exact .inr ⟨ez, rfl, tip.keep x₀ (by simp), by simp [tbs]; exact ⟨hne, hne2⟩⟩) fun h₁ tk₁ e' a' c' T' n1 n2 x₁ e₁ _ => ?_
  · rcases List.mem_append.mp (show b ∈ [e2, T2] ++ fr (env :: outer) from hb) with hb | hb
    · exact hX b hb
    · exact hof b hb
  · exact ⟨e', T', "TypeError", a', c', rfl, told_TE, e₁, x₁, n2, hX, base_none hB₀ n1, .inr n1, fun h₂ tk₂ T₂ f2 x₂ e₂ k₂ => h h₂ tk₂ e' a' c' T₂ (x₀.fresh n1) x₂ e₂⟩
end
end Kq
end
section
open PySem PySem.W PySem.Spec PySem.Calls PyProof.Rows
open Builtin Builtin.ObjectAttr Builtin.Getset_descriptor
set_option maxRecDepth 100000
namespace Kq
variable {prog : Program} {w : World} {A : Around} {E : Value → Shared → Prop} {B : Heap} {mg mb : Str → Option Value} {s : Shared}
section
variable {env : Env} {L : Addr} {outer : List Env} {m : Str → Option Value} {D : Dt} {vt ve : Value}
structure Ck (B : Heap) (h : Heap) (L : Addr) (m : Str → Option Value) (D : Dt) (vt ve : Value) : Prop where
  base : B.StaysIn h
  ns : h.Ns L m
  kind : ∃ t, m "kind" = some (.int D.kind t)
  laid : ∃ t, m "laid" = some (.int D.laid t)
  low : m "low" = some (.ref D.low)
  other : m "other" = some (.ref D.oc)
  thing : m "thing" = some (.ref D.th)
  told : m "told" = some vt
  ends : m "ends" = some ve
  e : h.IsCell (L + 1) (some (.ref D.el))
  p : h.IsCell (L + 2) (some (.ref D.pair))
  t : h.IsCell (L + 3) (some (.ref D.top))
theorem Ck.push {h h' : Heap} (K : Ck B h L m D vt ve) (k : h.StaysIn h') : Ck B h' L m D vt ve :=
  ⟨fun b o q => k b o (K.base b o q), K.ns.keeps k, K.kind, K.laid, K.low, K.other, K.thing, K.told, K.ends, K.e.keeps k, K.p.keeps k, K.t.keeps k⟩
section
variable {Q : Bool → Shared → Prop} {V : Value → Shared → Prop} {whole : Sem Value} {p1 p2 p3 p4 p5 p6 : Pos}
theorem stays_push {h : Heap} {o : Obj} : h.StaysIn (h.push o) := fun _ _ q => Heap.get?_push_of_some _ q
theorem q_eq {n : Str} {k c : Int} {t : Tok} (C : Holds env L A outer) (hns : s.heap.Ns L m) (hn : n ∈ (["x", "kind", "laid", "low", "error", "other", "thing", "told", "ends"] : List Str)) (hd : (n == ("__debug__" : Str)) = false) (hm : m n = some (.int k t)) (h : ∀ tk, Q (k == c) { s with toks := tk }) :
    wpAny (model prog w) A (isTrue (.Compare (.Name n p1) [.Eq] [.Constant (.int c) 0 p2] p3) env whole) Q E s :=
  wpAny_isTrue_Compare1 (name_l C.toAct hns (C.locs _ hn) hm (wpAny_Constant_int (P.eq_int (wpAny_truthy_bool (h _)))) hd)
theorem q_ne {n : Str} {k c : Int} {t : Tok} (C : Holds env L A outer) (hns : s.heap.Ns L m) (hn : n ∈ (["x", "kind", "laid", "low", "error", "other", "thing", "told", "ends"] : List Str)) (hd : (n == ("__debug__" : Str)) = false) (hm : m n = some (.int k t)) (h : ∀ tk, Q (k != c) { s with toks := tk }) :
    wpAny (model prog w) A (isTrue (.Compare (.Name n p1) [.NotEq] [.Constant (.int c) 0 p2] p3) env whole) Q E s :=
  wpAny_isTrue_Compare1 (name_l C.toAct hns (C.locs _ hn) hm (wpAny_Constant_int (P.ne_int (wpAny_truthy_bool (h _)))) hd)
theorem ints2 (x y : Int) (a b : Tok) : IntsAre [.int x a, .int y b] [x, y] := .cons _ _ (.cons _ _ .nil)
theorem q_in2 {n : Str} {k x y : Int} {t : Tok} (C : Holds env L A outer) (hns : s.heap.Ns L m) (hn : n ∈ (["x", "kind", "laid", "low", "error", "other", "thing", "told", "ends"] : List Str)) (hd : (n == ("__debug__" : Str)) = false) (hm : m n = some (.int k t)) (h : ∀ h' tk, s.heap.StaysIn h' → Q ([x, y].any (· == k)) { s with heap := h', toks := tk }) :
    wpAny (model prog w) A (isTrue (.Compare (.Name n p1) [.In] [.Tuple [.Constant (.int x) 0 p2, .Constant (.int y) 0 p3] 0 p4] p5) env whole) Q E s := by
  refine wpAny_isTrue_Compare1 (name_l C.toAct hns (C.locs _ hn) hm (wpAny_Tuple (args_cons (wpAny_Constant_int (args_cons (wpAny_Constant_int (args_nil ⟨by show 2 ≤ sizeLine; decide +kernel, ?_⟩)))))) hd)
  exact in_tuple_ints (items := _) ⟨_, Heap.get?_push_size _ rfl, rfl, 0, rfl⟩ (ints2 _ _ _ _) (wpAny_truthy_bool (h _ _ stays_push))
theorem v_type {n : Str} {a : Addr} {o : Obj} {X : String} (G : G0 w B mg mb) (C : Holds env L A outer) (hB : B.StaysIn s.heap) (hns : s.heap.Ns L m) (hn : n ∈ (["x", "kind", "laid", "low", "error", "other", "thing", "told", "ends"] : List Str)) (hd : (n == ("__debug__" : Str)) = false) (hm : m n = some (.ref a)) (ho : s.heap.get? a = some o) (hc : o.cls = .type X) (hX : (Value.type X == .type "builtin_function_or_method") = false) (h : V (.type X) s) :
    wpAny (model prog w) A (eval (.Call (.Name "type" p1) [.Name n p2] [] p3) env) V E s := by
  refine Call_Name (trees := [(false, eval (.Name n p2) env)]) rfl ?_
  refine name_b (v := .type "type") G hB rfl rfl (by decide) ?_ C.toAct.kind C.toAct.glob C.toAct.blt (C.glos _ (by decide))
  refine callWith_type1 (name_l C.toAct hns (C.locs _ hn) hm ?_ hd)
  obtain ⟨hp, g, d, t, os⟩ := s
  exact call_type_obj ho (by rw [hc]; exact hX) (by rw [hc]; exact h)
theorem v_builtin {x : Str} {T : String} (G : G0 w B mg mb) (C : Holds env L A outer) (hB : B.StaysIn s.heap) (hx : x ∈ (["OverflowError", "ValueError", "StatisticsError", "KeyError", "_law_raise", "AttributeError", "_law_told", "_exact_ratio", "_isfinite", "type", "tuple", "len", "TypeError", "AssertionError"] : List Str))
    (hn : nsIn (hd.heap_39 w.params) mainGlobals x = some none) (hv : bootBuiltins x = some (.type T)) (hne : x ≠ "__name__") (hd' : (x == ("__debug__" : Str)) = false) (h : V (.type T) s) : wpAny (model prog w) A (eval (.Name x p1) env) V E s :=
  name_b G hB hn hv hne h C.toAct.kind C.toAct.glob C.toAct.blt (C.glos _ hx) hd'
theorem q_type {n x : Str} {a : Addr} {o : Obj} {X : String} (G : G0 w B mg mb) (C : Holds env L A outer) (hB : B.StaysIn s.heap) (hns : s.heap.Ns L m) (hn : n ∈ (["x", "kind", "laid", "low", "error", "other", "thing", "told", "ends"] : List Str)) (hdb : (n == ("__debug__" : Str)) = false) (hm : m n = some (.ref a)) (ho : s.heap.get? a = some o) (hc : o.cls = .type X) (hX : (Value.type X == .type "builtin_function_or_method") = false)
    (hx : x ∈ (["OverflowError", "ValueError", "StatisticsError", "KeyError", "_law_raise", "AttributeError", "_law_told", "_exact_ratio", "_isfinite", "type", "tuple", "len", "TypeError", "AssertionError"] : List Str)) (hn' : nsIn (hd.heap_39 w.params) mainGlobals x = some none) (hv : bootBuiltins x = some (.type X)) (hne : x ≠ "__name__") (hd' : (x == ("__debug__" : Str)) = false) (h : Q false s) :
    wpAny (model prog w) A (isTrue (.Compare (.Call (.Name "type" p1) [.Name n p2] [] p3) [.IsNot] [.Name x p4] p5) env whole) Q E s :=
  wpAny_isTrue_Compare1 (v_type G C hB hns hn hdb hm ho hc hX (v_builtin G C hB hx hn' hv hne hd' (isnot_type_same (wpAny_truthy_bool h))))
theorem v_is_type {n x : Str} {a : Addr} {o : Obj} {X : String} (G : G0 w B mg mb) (C : Holds env L A outer) (hB : B.StaysIn s.heap) (hns : s.heap.Ns L m) (hn : n ∈ (["x", "kind", "laid", "low", "error", "other", "thing", "told", "ends"] : List Str)) (hdb : (n == ("__debug__" : Str)) = false) (hm : m n = some (.ref a)) (ho : s.heap.get? a = some o) (hc : o.cls = .type X) (hX : (Value.type X == .type "builtin_function_or_method") = false)
    (hx : x ∈ (["OverflowError", "ValueError", "StatisticsError", "KeyError", "_law_raise", "AttributeError", "_law_told", "_exact_ratio", "_isfinite", "type", "tuple", "len", "TypeError", "AssertionError"] : List Str)) (hn' : nsIn (hd.heap_39 w.params) mainGlobals x = some none) (hv : bootBuiltins x = some (.type X)) (hne : x ≠ "__name__") (hd' : (x == ("__debug__" : Str)) = false) (h : V (.bool true) s) :
    wpAny (model prog w) A (eval (.Compare (.Call (.Name "type" p1) [.Name n p2] [] p3) [.Is] [.Name x p4] p5) env) V E s :=
  wpAny_Compare1 (v_type G C hB hns hn hdb hm ho hc hX (v_builtin G C hB hx hn' hv hne hd' (wpAny_is_self rfl h)))
theorem v_cell {n : Str} {cc : Addr} {v : Value} (C : Holds env L A outer) (hk : env.kindOf n = some .cell) (hc : env.cells.lookup n = some cc) (hv : s.heap.IsCell cc (some v)) (h : V v s) (hd : (n == ("__debug__" : Str)) = false := by decide) : wpAny (model prog w) A (eval (.Name n p1) env) V E s :=
  wpAny_Name (wpAny_loadName_cell C.toAct.kind hk hc hv h) hd
theorem v_item {n : Str} {a : Addr} {items : Array Value} {i : Int} {j : Nat} {v : Value} (C : Holds env L A outer) (hns : s.heap.Ns L m) (hn : n ∈ (["x", "kind", "laid", "low", "error", "other", "thing", "told", "ends"] : List Str)) (hd : (n == ("__debug__" : Str)) = false) (hm : m n = some (.ref a)) (ho : s.heap.get? a = some { cls := .type "tuple", data := .seq items }) (hlo : -(2 ^ 63) ≤ i) (hhi : i < 2 ^ 63) (hj : seqIndex? i items.size = some j) (hx : items[j]? = some v)
    (h : ∀ tk, V v { s with toks := tk }) : wpAny (model prog w) A (eval (.Subscript (.Name n p1) (.Constant (.int i) 0 p2) p3) env) V E s := by
  refine sub_item (fun _ _ => rfl) (name_l C.toAct hns (C.locs _ hn) hm (wpAny_Constant_int ?_) hd)
  exact ⟨"tuple", "tuple.__getitem__", F.slot_tuple_getitem.lookup, ⟨_, ho, rfl⟩, PyProof.Rows.getItem_tuple ⟨_, ho, rfl, 0, rfl⟩ hlo hhi hj hx (h _)⟩
theorem v_len {n : Str} {a : Addr} {items : Array Value} (G : G0 w B mg mb) (C : Holds env L A outer) (hB : B.StaysIn s.heap) (hns : s.heap.Ns L m) (hn : n ∈ (["x", "kind", "laid", "low", "error", "other", "thing", "told", "ends"] : List Str)) (hd : (n == ("__debug__" : Str)) = false) (hm : m n = some (.ref a)) (ho : s.heap.get? a = some { cls := .type "tuple", data := .seq items }) (hfit : (items.size : Int) < 2 ^ 63)
    (h : ∀ u tk, V (.int items.size u) { s with toks := tk }) : wpAny (model prog w) A (eval (.Call (.Name "len" p1) [.Name n p2] [] p3) env) V E s := by
  refine Call_Name (trees := [(false, eval (.Name n p2) env)]) rfl ?_
  refine name_b (v := .builtin "len") G hB rfl rfl (by decide) ?_ C.toAct.kind C.toAct.glob C.toAct.blt (C.glos _ (by decide))
  refine callWith_builtin1 (name_l C.toAct hns (C.locs _ hn) hm ?_ hd)
  exact call_function_entry kind_len plain_len entry_len (args_len1 _) (len_entry_tuple ⟨_, ho, rfl, 0, rfl⟩ hfit (h _ _))
theorem q_args {n : Str} {a t0 : Addr} {c' : Value} {T : Addr} {u : Tok} (G : G0 w B mg mb) (C : Holds env L A outer) (hns : s.heap.Ns L m) (hn : n ∈ (["x", "kind", "laid", "low", "error", "other", "thing", "told", "ends"] : List Str)) (hd : (n == ("__debug__" : Str)) = false) (hm : m n = some (.ref a)) (he : Exc s.heap a (.type "TypeError") (.ref t0) c' (some (T, .none))) (ht : s.heap.get? t0 = some { cls := .type "tuple", data := .seq #[.str sayAll u] })
    (hu : A.units + 64 < cLine) (h : ∀ h' tk, s.heap.StaysIn h' → Q false { s with heap := h', toks := tk }) :
    wpAny (model prog w) A (isTrue (.Compare (.Attribute (.Name n p1) "args" p2) [.NotEq] [.Tuple [.Constant (.str sayAll) 0 p3] 0 p4] p5) env whole) Q E s := by
  obtain ⟨o, vs, ho, hc, hdt, h0, _⟩ := he
  obtain ⟨hp, g, d, t, os⟩ := s
  refine wpAny_isTrue_Compare1 (attr_name (name_l C.toAct hns (C.locs _ hn) hm (args_attr F.attr_TypeError ho hc hdt h0 ?_) hd))
  refine wpAny_Tuple (args_cons (wpAny_Constant_str (args_nil ⟨by show 1 ≤ sizeLine; decide +kernel, ?_⟩)))
  have r1 : ∀ v, Reads (hp.push { cls := .type "tuple", data := .seq #[.str sayAll v] }) (.ref t0) (.tuple [.str sayAll]) [] := fun v => .tuple (stays_push _ _ ht) rfl rfl (.cons (.str _ _) .nil)
  have r2 : ∀ v, Reads (hp.push { cls := .type "tuple", data := .seq #[.str sayAll v] }) (.ref hp.objs.size) (.tuple [.str sayAll]) [] := fun v => .tuple (Heap.get?_push_size _ rfl) rfl rfl (.cons (.str _ _) .nil)
  have lay : (PyData.tuple [.str sayAll]).layable0 = true := by decide +kernel
  have eqv : (!PyData.eqv (.tuple [.str sayAll]) (.tuple [.str sayAll])) = false := by decide +kernel
  refine SeqAt.compareNe_layable (r1 _) (r2 _) lay lay hu (wpAny_truthy_bool ?_)
  rw [eqv]
  exact h _ _ stays_push
end
end
end Kq
end
section
open PySem PySem.W PySem.Spec PySem.Calls PyProof.Rows
open Builtin Builtin.ObjectAttr Builtin.Getset_descriptor
set_option maxRecDepth 100000
namespace Kq
variable {prog : Program} {w : World} {A : Around} {E : Value → Shared → Prop} {B : Heap} {mg mb : Str → Option Value} {s : Shared}
section
variable {env : Env} {L : Addr} {outer : List Env} {m : Str → Option Value} {D : Dt} {vt ve : Value} {Q : Flow → Shared → Prop} {body : List Stmt} {e2 : Expr}
variable {p1 p2 p3 p4 p5 p6 p7 p8 : Pos}
theorem sk_and_eq {c : Int} (C : Holds env L A outer) (K : Ck B s.heap L m D vt ve) (hne : (D.kind == c) = false) (h : ∀ tk, Q .next { s with toks := tk }) :
    wpAny (model prog w) A (exec (.If (.BoolOp .And [.Compare (.Name "kind" p1) [.Eq] [.Constant (.int c) 0 p2] p3, e2] p4) body [] p5) env) Q E s := by
  obtain ⟨t, hk⟩ := K.kind
  refine wpAny_If (isTrue_and (q_eq C K.ns (by decide) (by decide) hk fun tk => ?_))
  rw [hne]
  exact wpAny_pure (h tk)
theorem sk_and_in {x y : Int} (C : Holds env L A outer) (K : Ck B s.heap L m D vt ve) (hne : [x, y].any (· == D.kind) = false) (h : ∀ h' tk, s.heap.StaysIn h' → Q .next { s with heap := h', toks := tk }) :
    wpAny (model prog w) A (exec (.If (.BoolOp .And [.Compare (.Name "kind" p1) [.In] [.Tuple [.Constant (.int x) 0 p2, .Constant (.int y) 0 p3] 0 p4] p5, e2] p6) body [] p7) env) Q E s := by
  obtain ⟨t, hk⟩ := K.kind
  refine wpAny_If (isTrue_and (q_in2 C K.ns (by decide) (by decide) hk fun h' tk k => ?_))
  rw [hne]
  exact wpAny_pure (h h' tk k)
theorem sk_eq {c : Int} (C : Holds env L A outer) (K : Ck B s.heap L m D vt ve) (hne : D.kind ≠ c) (h : ∀ tk, Q .next { s with toks := tk }) :
    wpAny (model prog w) A (exec (.If (.Compare (.Name "kind" p1) [.Eq] [.Constant (.int c) 0 p2] p3) body [] p4) env) Q E s := by
  obtain ⟨t, hk⟩ := K.kind
  exact if_eq C K.ns (by decide) (by decide) hk (fun z => absurd z hne) fun _ tk => h tk
theorem sk_and_eq2 {c : Int} (C : Holds env L A outer) (K : Ck B s.heap L m D vt ve) (hne : (D.kind == c) = true) (h2 : ∀ (Q' : Bool → Shared → Prop) tk, (∀ tk', Q' false { s with toks := tk' }) → wpAny (model prog w) A (isTrue e2 env (eval e2 env)) Q' E { s with toks := tk }) (h : ∀ tk, Q .next { s with toks := tk }) :
    wpAny (model prog w) A (exec (.If (.BoolOp .And [.Compare (.Name "kind" p1) [.Eq] [.Constant (.int c) 0 p2] p3, e2] p4) body [] p5) env) Q E s := by
  obtain ⟨t, hk⟩ := K.kind
  refine wpAny_If (isTrue_and (q_eq C K.ns (by decide) (by decide) hk fun tk => ?_))
  rw [hne]
  refine isTrue_and (h2 _ tk fun tk' => ?_)
  exact wpAny_pure (h tk')
theorem sk_and_in2 {x y : Int} (C : Holds env L A outer) (K : Ck B s.heap L m D vt ve) (hne : [x, y].any (· == D.kind) = true) (h2 : ∀ (Q' : Bool → Shared → Prop) h' tk, s.heap.StaysIn h' → (∀ tk', Q' false { s with heap := h', toks := tk' }) → wpAny (model prog w) A (isTrue e2 env (eval e2 env)) Q' E { s with heap := h', toks := tk }) (h : ∀ h' tk, s.heap.StaysIn h' → Q .next { s with heap := h', toks := tk }) :
    wpAny (model prog w) A (exec (.If (.BoolOp .And [.Compare (.Name "kind" p1) [.In] [.Tuple [.Constant (.int x) 0 p2, .Constant (.int y) 0 p3] 0 p4] p5, e2] p6) body [] p7) env) Q E s := by
  obtain ⟨t, hk⟩ := K.kind
  refine wpAny_If (isTrue_and (q_in2 C K.ns (by decide) (by decide) hk fun h' tk k => ?_))
  rw [hne]
  refine isTrue_and (h2 _ h' tk k fun tk' => ?_)
  exact wpAny_pure (h h' tk' k)
theorem go_and_in {x y : Int} (C : Holds env L A outer) (K : Ck B s.heap L m D vt ve) (hne : [x, y].any (· == D.kind) = true) (h2 : ∀ (Q' : Bool → Shared → Prop) h' tk, s.heap.StaysIn h' → (∀ tk', Q' true { s with heap := h', toks := tk' }) → wpAny (model prog w) A (isTrue e2 env (eval e2 env)) Q' E { s with heap := h', toks := tk })
    (h : ∀ h' tk, s.heap.StaysIn h' → wpAny (model prog w) A (execs body env) Q E { s with heap := h', toks := tk }) :
    wpAny (model prog w) A (exec (.If (.BoolOp .And [.Compare (.Name "kind" p1) [.In] [.Tuple [.Constant (.int x) 0 p2, .Constant (.int y) 0 p3] 0 p4] p5, e2] p6) body [] p7) env) Q E s := by
  obtain ⟨t, hk⟩ := K.kind
  refine wpAny_If (isTrue_and (q_in2 C K.ns (by decide) (by decide) hk fun h' tk k => ?_))
  rw [hne]
  refine isTrue_and (h2 _ h' tk k fun tk' => ?_)
  exact isTrue_and_nil (h h' tk' k)
def EndsTE (h : Heap) (ve : Value) : Prop := ∃ a o, ve = .ref a ∧ h.get? a = some o ∧ o.cls = .type "TypeError"
def ToldIs (h : Heap) (vt : Value) (X : String) : Prop := ∃ a o, vt = .ref a ∧ h.get? a = some o ∧ o.cls = .type X
def ToldTup (h : Heap) (vt x y : Value) : Prop := ∃ t, vt = .ref t ∧ h.get? t = some { cls := .type "tuple", data := .seq #[x, y] }
def ToldTE (h : Heap) (vt : Value) : Prop := ∃ a t0 c' T u, vt = .ref a ∧ Exc h a (.type "TypeError") (.ref t0) c' (some (T, .none)) ∧ h.get? t0 = some { cls := .type "tuple", data := .seq #[.str sayAll u] }
def Judge (h : Heap) (D : Dt) (vt ve : Value) : Prop :=
  ((D.kind = 0 ∨ D.kind = 2) ∧ D.laid = 3 ∧ ToldTup h vt (.ref D.top) (.ref D.low) ∧ EndsTE h ve) ∨ ((D.kind = 0 ∨ D.kind = 2) ∧ D.laid ≠ 3 ∧ ToldTE h vt ∧ EndsTE h ve) ∨ (D.kind = 1 ∧ vt = .ref D.pair ∧ EndsTE h ve) ∨
  (D.kind = 3 ∧ ToldTup h vt (.ref D.th) .none ∧ ve = .ref D.el) ∨ (D.kind = 4 ∧ ToldIs h vt "AssertionError" ∧ ve = .ref D.top) ∨ ((D.kind = 5 ∨ D.kind = 6) ∧ ToldIs h vt "TypeError" ∧ EndsTE h ve) ∨ (D.kind = 7 ∧ vt = .ref D.oc ∧ EndsTE h ve)
theorem EndsTE.push {h h' : Heap} (x : EndsTE h ve) (k : h.StaysIn h') : EndsTE h' ve := let ⟨a, o, e, ho, hc⟩ := x; ⟨a, o, e, k _ _ ho, hc⟩
theorem ToldIs.push {h h' : Heap} {X : String} (x : ToldIs h vt X) (k : h.StaysIn h') : ToldIs h' vt X := let ⟨a, o, e, ho, hc⟩ := x; ⟨a, o, e, k _ _ ho, hc⟩
theorem ToldTup.push {h h' : Heap} {x y : Value} (q : ToldTup h vt x y) (k : h.StaysIn h') : ToldTup h' vt x y := let ⟨t, e, ho⟩ := q; ⟨t, e, k _ _ ho⟩
theorem ToldTE.push {h h' : Heap} (q : ToldTE h vt) (k : h.StaysIn h') : ToldTE h' vt :=
  let ⟨a, t0, c', T, u, e, ⟨o, vs, ho, hc, hd, h0, h2, h1, hn, oT, ts, hoT, r⟩, ht⟩ := q; ⟨a, t0, c', T, u, e, ⟨o, vs, k _ _ ho, hc, hd, h0, h2, h1, hn, oT, ts, k _ _ hoT, r⟩, k _ _ ht⟩
theorem ret_ends (G : G0 w B mg mb) (C : Holds env L A outer) (K : Ck B s.heap L m D vt ve) (J : EndsTE s.heap ve) (h : Q (.ret (.bool true)) s) :
    wpAny (model prog w) A (execs [.Return (some (.Compare (.Call (.Name "type" p1) [.Name "ends" p2] [] p3) [.Is] [.Name "TypeError" p4] p5)) p6] env) Q E s := by
  obtain ⟨a, o, rfl, ho, hc⟩ := J
  exact wpAny_execs_cons (wpAny_Return_some (v_is_type G C K.base K.ns (by decide) (by decide) K.ends ho hc (by decide) (by decide) rfl rfl (by decide) (by decide) h))
theorem pair_or {e3 e4 : Expr} {x y : Value} (G : G0 w B mg mb) (C : Holds env L A outer) (K : Ck B s.heap L m D vt ve) (J : ToldTup s.heap vt x y)
    (h3 : ∀ (Q' : Bool → Shared → Prop) tk, (∀ tk', Q' false { s with toks := tk' }) → wpAny (model prog w) A (isTrue e3 env (eval e3 env)) Q' E { s with toks := tk })
    (h4 : ∀ (Q' : Bool → Shared → Prop) tk, (∀ tk', Q' false { s with toks := tk' }) → wpAny (model prog w) A (isTrue e4 env (eval e4 env)) Q' E { s with toks := tk })
    {q1 q2 q3 q4 q5 q6 q7 q8 q9 q10 q11 q12 : Pos} (h : ∀ tk, Q .next { s with toks := tk }) :
    wpAny (model prog w) A (exec (.If (.BoolOp .Or [.Compare (.Call (.Name "type" q1) [.Name "told" q2] [] q3) [.IsNot] [.Name "tuple" q4] q5, .Compare (.Call (.Name "len" q6) [.Name "told" q7] [] q8) [.NotEq] [.Constant (.int 2) 0 q9] q10, e3, e4] q11) body [] q12) env) Q E s := by
  obtain ⟨t, rfl, ho⟩ := J
  refine wpAny_If (isTrue_or (q_type G C K.base K.ns (by decide) (by decide) K.told ho rfl (by decide) (by decide) rfl rfl (by decide) (by decide) ?_))
  refine isTrue_or (wpAny_isTrue_Compare1 (v_len G C K.base K.ns (by decide) (by decide) K.told ho (by show (2 : Int) < 2 ^ 63; decide) fun u tk => wpAny_Constant_int (P.ne_int (wpAny_truthy_bool ?_))))
  rw [show ((((#[x, y] : Array Value).size : Nat) : Int) != 2) = false from rfl]
  refine isTrue_or (h3 _ _ fun tk' => ?_)
  refine isTrue_or (h4 _ _ fun tk'' => ?_)
  exact isTrue_or_nil (wpAny_pure (h _))
theorem item_isnot {a : Addr} {x y : Value} {i : Int} {j : Nat} {b : Expr} {v : Value} (C : Holds env L A outer) (K : Ck B s.heap L m D (.ref a) ve) (ho : s.heap.get? a = some { cls := .type "tuple", data := .seq #[x, y] }) (hlo : -(2 ^ 63) ≤ i) (hhi : i < 2 ^ 63) (hj : seqIndex? i 2 = some j) (hx : (#[x, y] : Array Value)[j]? = some v)
    (hb : ∀ (V : Value → Shared → Prop) tk, V v { s with toks := tk } → wpAny (model prog w) A (eval b env) V E { s with toks := tk }) (hs : ∀ (V : Value → Shared → Prop) (s' : Shared), V (.bool false) s' → wpAny (model prog w) A (compareOp .IsNot v v) V E s') (hm : behindInMarks .IsNot b = false)
    {q1 q2 q3 q4 : Pos} : ∀ (Q' : Bool → Shared → Prop) tk, (∀ tk', Q' false { s with toks := tk' }) → wpAny (model prog w) A (isTrue (.Compare (.Subscript (.Name "told" q1) (.Constant (.int i) 0 q2) q3) [.IsNot] [b] q4) env (eval (.Compare (.Subscript (.Name "told" q1) (.Constant (.int i) 0 q2) q3) [.IsNot] [b] q4) env)) Q' E { s with toks := tk } := fun Q' tk hq =>
  wpAny_isTrue_Compare1 (v_item (s := { s with toks := tk }) C K.ns (by decide) (by decide) K.told ho hlo hhi hj hx fun tk' => hb _ _ (hs _ _ (wpAny_truthy_bool (hq _)))) hm
variable {q0 q1 q2 q3 q4 q5 q6 q7 q8 q9 q10 q11 q12 q13 q14 q15 q16 q17 q18 q19 q20 q21 q22 q23 q24 q25 q26 q27 q28 q29 q30 q31 q32 q33 q34 q35 q36 q37 q38 q39 q40 q41 q42 q43 q44 q45 q46 q47 q48 q49 q50 q51 q52 q53 q54 q55 q56 q57 q58 q59 q60 q61 q62 q63 q64 q65 q66 q67 q68 q69 q70 q71 q72 q73 q74 q75 q76 q77 q78 q79 q80 q81 q82 q83 q84 q85 q86 q87 q88 q89 q90 q91 q92 q93 q94 q95 q96 q97 q98 q99 q100 q101 q102 q103 q104 q105 q106 q107 q108 q109 q110 q111 q112 q113 q114 q115 q116 q117 q118 q119 q120 q121 q122 q123 q124 q125 q126 q127 q128 q129 q130 q131 q132 q133 q134 q135 q136 q137 q138 q139 q140 q141 q142 q143 q144 q145 : Pos}
abbrev checks (q0 q1 q2 q3 q4 q5 q6 q7 q8 q9 q10 q11 q12 q13 q14 q15 q16 q17 q18 q19 q20 q21 q22 q23 q24 q25 q26 q27 q28 q29 q30 q31 q32 q33 q34 q35 q36 q37 q38 q39 q40 q41 q42 q43 q44 q45 q46 q47 q48 q49 q50 q51 q52 q53 q54 q55 q56 q57 q58 q59 q60 q61 q62 q63 q64 q65 q66 q67 q68 q69 q70 q71 q72 q73 q74 q75 q76 q77 q78 q79 q80 q81 q82 q83 q84 q85 q86 q87 q88 q89 q90 q91 q92 q93 q94 q95 q96 q97 q98 q99 q100 q101 q102 q103 q104 q105 q106 q107 q108 q109 q110 q111 q112 q113 q114 q115 q116 q117 q118 q119 q120 q121 q122 q123 q124 q125 q126 q127 q128 q129 q130 q131 q132 q133 q134 q135 q136 q137 q138 q139 q140 q141 q142 q143 q144 q145 : Pos) : List Stmt :=
  [.If (.BoolOp .And [.Compare (.Name "kind" q0) [.Eq] [.Constant (.int 1) 0 q1] q2, .Compare (.Name "told" q3) [.IsNot] [.Name "pair" q4] q5] q6) [.Return (some (.Constant (.bool false) 0 q7)) q8] [] q9,
   .If (.BoolOp .And [.Compare (.Name "kind" q10) [.In] [.Tuple [.Constant (.int 0) 0 q11, .Constant (.int 2) 0 q12] 0 q13] q14, .Compare (.Name "laid" q15) [.Eq] [.Constant (.int 3) 0 q16] q17] q18) [.If (.BoolOp .Or [.Compare (.Call (.Name "type" q19) [.Name "told" q20] [] q21) [.IsNot] [.Name "tuple" q22] q23, .Compare (.Call (.Name "len" q24) [.Name "told" q25] [] q26) [.NotEq] [.Constant (.int 2) 0 q27] q28, .Compare (.Subscript (.Name "told" q29) (.Constant (.int 0) 0 q30) q31) [.IsNot] [.Name "top" q32] q33, .Compare (.Subscript (.Name "told" q34) (.Constant (.int 1) 0 q35) q36) [.IsNot] [.Name "low" q37] q38] q39) [.Return (some (.Constant (.bool false) 0 q40)) q41] [] q42] [] q43,
   .If (.BoolOp .And [.Compare (.Name "kind" q44) [.In] [.Tuple [.Constant (.int 0) 0 q45, .Constant (.int 2) 0 q46] 0 q47] q48, .Compare (.Name "laid" q49) [.NotEq] [.Constant (.int 3) 0 q50] q51] q52) [.If (.Compare (.Call (.Name "type" q53) [.Name "told" q54] [] q55) [.IsNot] [.Name "TypeError" q56] q57) [.Return (some (.Constant (.bool false) 0 q58)) q59] [] q60, .If (.Compare (.Attribute (.Name "told" q61) "args" q62) [.NotEq] [.Tuple [.Constant (.str sayAll) 0 q63] 0 q64] q65) [.Return (some (.Constant (.bool false) 0 q66)) q67] [] q68] [] q69,
   .If (.Compare (.Name "kind" q70) [.Eq] [.Constant (.int 3) 0 q71] q72) [.If (.BoolOp .Or [.Compare (.Call (.Name "type" q73) [.Name "told" q74] [] q75) [.IsNot] [.Name "tuple" q76] q77, .Compare (.Call (.Name "len" q78) [.Name "told" q79] [] q80) [.NotEq] [.Constant (.int 2) 0 q81] q82, .Compare (.Subscript (.Name "told" q83) (.Constant (.int 0) 0 q84) q85) [.IsNot] [.Name "thing" q86] q87, .Compare (.Subscript (.Name "told" q88) (.Constant (.int 1) 0 q89) q90) [.IsNot] [.Constant .none 0 q91] q92] q93) [.Return (some (.Constant (.bool false) 0 q94)) q95] [] q96, .Return (some (.Compare (.Name "ends" q97) [.Is] [.Name "empty" q98] q99)) q100] [] q101,
   .If (.Compare (.Name "kind" q102) [.Eq] [.Constant (.int 4) 0 q103] q104) [.Return (some (.BoolOp .And [.Compare (.Call (.Name "type" q105) [.Name "told" q106] [] q107) [.Is] [.Name "AssertionError" q108] q109, .Compare (.Name "ends" q110) [.Is] [.Name "top" q111] q112] q113)) q114] [] q115,
   .If (.BoolOp .And [.Compare (.Name "kind" q116) [.In] [.Tuple [.Constant (.int 5) 0 q117, .Constant (.int 6) 0 q118] 0 q119] q120, .Compare (.Call (.Name "type" q121) [.Name "told" q122] [] q123) [.IsNot] [.Name "TypeError" q124] q125] q126) [.Return (some (.Constant (.bool false) 0 q127)) q128] [] q129,
   .If (.BoolOp .And [.Compare (.Name "kind" q130) [.Eq] [.Constant (.int 7) 0 q131] q132, .Compare (.Name "told" q133) [.IsNot] [.Name "other" q134] q135] q136) [.Return (some (.Constant (.bool false) 0 q137)) q138] [] q139,
   .Return (some (.Compare (.Call (.Name "type" q140) [.Name "ends" q141] [] q142) [.Is] [.Name "TypeError" q143] q144)) q145]
set_option maxHeartbeats 1000000 in
theorem judged (G : G0 w B mg mb) (C : Holds env L A outer) (K : Ck B s.heap L m D vt ve) (hu : A.units + 64 < cLine) (J : Judge s.heap D vt ve) (h : ∀ h' tk, s.heap.StaysIn h' → Q (.ret (.bool true)) { s with heap := h', toks := tk }) :
    wpAny (model prog w) A (execs (checks q0 q1 q2 q3 q4 q5 q6 q7 q8 q9 q10 q11 q12 q13 q14 q15 q16 q17 q18 q19 q20 q21 q22 q23 q24 q25 q26 q27 q28 q29 q30 q31 q32 q33 q34 q35 q36 q37 q38 q39 q40 q41 q42 q43 q44 q45 q46 q47 q48 q49 q50 q51 q52 q53 q54 q55 q56 q57 q58 q59 q60 q61 q62 q63 q64 q65 q66 q67 q68 q69 q70 q71 q72 q73 q74 q75 q76 q77 q78 q79 q80 q81 q82 q83 q84 q85 q86 q87 q88 q89 q90 q91 q92 q93 q94 q95 q96 q97 q98 q99 q100 q101 q102 q103 q104 q105 q106 q107 q108 q109 q110 q111 q112 q113 q114 q115 q116 q117 q118 q119 q120 q121 q122 q123 q124 q125 q126 q127 q128 q129 q130 q131 q132 q133 q134 q135 q136 q137 q138 q139 q140 q141 q142 q143 q144 q145) env) Q E s := by
  have k0 : s.heap.StaysIn s.heap := fun _ _ q => q
  obtain ⟨tl, hl⟩ := K.laid
  rcases J with ⟨q, ql, J, JE⟩ | ⟨q, ql, J, JE⟩ | ⟨q, J, JE⟩ | ⟨q, J, JE⟩ | ⟨q, J, JE⟩ | ⟨q, J, JE⟩ | ⟨q, J, JE⟩
  · refine wpAny_execs_cons (sk_and_eq (s := { s with heap := s.heap, toks := s.toks }) C K (by rcases q with q | q <;> rw [q] <;> rfl) fun t1 => ?_)
    refine wpAny_execs_cons (go_and_in (s := { s with heap := s.heap, toks := t1 }) C K (by rcases q with q | q <;> rw [q] <;> rfl) (fun Q' h' tk k hq => q_eq (s := { s with heap := h', toks := tk }) C (K.push k).ns (by decide) (by decide) hl fun tk' => by rw [ql]; exact hq _) fun h2 t2 k2 => ?_)
    have K2 := K.push k2
    have JE2 := JE.push k2
    have kk2 : s.heap.StaysIn h2 := fun b o z => k2 b o (k0 b o z)
    have J2 := J.push k2
    obtain ⟨ta, rfl, hta⟩ := id J2
    refine wpAny_execs_cons (pair_or (s := { s with heap := h2, toks := t2 }) G C K2 J2 (item_isnot (s := { s with heap := h2, toks := t2 }) C K2 hta (by decide) (by decide) (j := 0) (by decide) rfl (fun V tk hv => v_cell (s := { s with heap := h2, toks := tk }) C C.kT C.cT K2.t hv) (fun V s' hv => wpAny_isNot_ref_self hv) rfl) (item_isnot (s := { s with heap := h2, toks := t2 }) C K2 hta (by decide) (by decide) (j := 1) (by decide) rfl (fun V tk hv => name_l (s := { s with heap := h2, toks := tk }) C.toAct K2.ns (C.locs _ (by decide)) K2.low hv) (fun V s' hv => wpAny_isNot_ref_self hv) rfl) fun t2b => ?_)
    refine wpAny_pure ?_
    refine wpAny_execs_cons (sk_and_in2 (s := { s with heap := h2, toks := t2b }) C K2 (by rcases q with q | q <;> rw [q] <;> rfl) (fun Q' h' tk k hq => q_ne (s := { s with heap := h', toks := tk }) C (K2.push k).ns (by decide) (by decide) hl fun tk' => by rw [ql]; exact hq _) fun h3 t3 k3 => ?_)
    have K3 := K2.push k3
    have JE3 := JE2.push k3
    have kk3 : s.heap.StaysIn h3 := fun b o z => k3 b o (kk2 b o z)
    refine wpAny_execs_cons (sk_eq (s := { s with heap := h3, toks := t3 }) C K3 (by rcases q with q | q <;> rw [q] <;> decide) fun t5 => ?_)
    refine wpAny_execs_cons (sk_eq (s := { s with heap := h3, toks := t5 }) C K3 (by rcases q with q | q <;> rw [q] <;> decide) fun t6 => ?_)
    refine wpAny_execs_cons (sk_and_in (s := { s with heap := h3, toks := t6 }) C K3 (by rcases q with q | q <;> rw [q] <;> rfl) fun h7 t7 k7 => ?_)
    have K7 := K3.push k7
    have JE7 := JE3.push k7
    have kk7 : s.heap.StaysIn h7 := fun b o z => k7 b o (kk3 b o z)
    refine wpAny_execs_cons (sk_and_eq (s := { s with heap := h7, toks := t7 }) C K7 (by rcases q with q | q <;> rw [q] <;> rfl) fun t8 => ?_)
    exact ret_ends (s := { s with heap := h7, toks := t8 }) G C K7 JE7 (h _ _ kk7)
  · refine wpAny_execs_cons (sk_and_eq (s := { s with heap := s.heap, toks := s.toks }) C K (by rcases q with q | q <;> rw [q] <;> rfl) fun t1 => ?_)
    refine wpAny_execs_cons (sk_and_in2 (s := { s with heap := s.heap, toks := t1 }) C K (by rcases q with q | q <;> rw [q] <;> rfl) (fun Q' h' tk k hq => q_eq (s := { s with heap := h', toks := tk }) C (K.push k).ns (by decide) (by decide) hl fun tk' => by rw [show (D.laid == 3) = false from by simp [ql]]; exact hq _) fun h2 t2 k2 => ?_)
    have K2 := K.push k2
    have JE2 := JE.push k2
    have kk2 : s.heap.StaysIn h2 := fun b o z => k2 b o (k0 b o z)
    refine wpAny_execs_cons (go_and_in (s := { s with heap := h2, toks := t2 }) C K2 (by rcases q with q | q <;> rw [q] <;> rfl) (fun Q' h' tk k hq => q_ne (s := { s with heap := h', toks := tk }) C (K2.push k).ns (by decide) (by decide) hl fun tk' => by rw [show (D.laid != 3) = true from by simp [ql]]; exact hq _) fun h3 t3 k3 => ?_)
    have K3 := K2.push k3
    have JE3 := JE2.push k3
    have kk3 : s.heap.StaysIn h3 := fun b o z => k3 b o (kk2 b o z)
    have J3 := (J.push k2).push k3
    obtain ⟨ta, t0, cx, TT, uu, rfl, hex, htt⟩ := J3
    obtain ⟨oe, hoe, hce⟩ := hex.there
    refine wpAny_execs_cons (wpAny_If (q_type (s := { s with heap := h3, toks := t3 }) G C K3.base K3.ns (by decide) (by decide) K3.told hoe hce (by decide) (by decide) rfl rfl (by decide) (by decide) (wpAny_pure ?_)))
    refine wpAny_execs_cons (wpAny_If (q_args (s := { s with heap := h3, toks := t3 }) G C K3.ns (by decide) (by decide) K3.told hex htt hu fun h4 t4 k4 => wpAny_pure (wpAny_pure ?_)))
    have K4 := K3.push k4
    have JE4 := JE3.push k4
    have kk4 : s.heap.StaysIn h4 := fun b o z => k4 b o (kk3 b o z)
    refine wpAny_execs_cons (sk_eq (s := { s with heap := h4, toks := t4 }) C K4 (by rcases q with q | q <;> rw [q] <;> decide) fun t5 => ?_)
    refine wpAny_execs_cons (sk_eq (s := { s with heap := h4, toks := t5 }) C K4 (by rcases q with q | q <;> rw [q] <;> decide) fun t6 => ?_)
    refine wpAny_execs_cons (sk_and_in (s := { s with heap := h4, toks := t6 }) C K4 (by rcases q with q | q <;> rw [q] <;> rfl) fun h7 t7 k7 => ?_)
    have K7 := K4.push k7
    have JE7 := JE4.push k7
    have kk7 : s.heap.StaysIn h7 := fun b o z => k7 b o (kk4 b o z)
    refine wpAny_execs_cons (sk_and_eq (s := { s with heap := h7, toks := t7 }) C K7 (by rcases q with q | q <;> rw [q] <;> rfl) fun t8 => ?_)
    exact ret_ends (s := { s with heap := h7, toks := t8 }) G C K7 JE7 (h _ _ kk7)
  · subst J
    refine wpAny_execs_cons (sk_and_eq2 (s := { s with heap := s.heap, toks := s.toks }) C K (by rw [q]; rfl) (fun Q' tk hq => wpAny_isTrue_Compare1 (name_l (s := { s with toks := tk }) C.toAct K.ns (C.locs _ (by decide)) K.told (v_cell (s := { s with toks := tk }) C C.kP C.cP K.p (wpAny_isNot_ref_self (wpAny_truthy_bool (hq _)))))) fun t1 => ?_)
    refine wpAny_execs_cons (sk_and_in (s := { s with heap := s.heap, toks := t1 }) C K (by rw [q]; rfl) fun h2 t2 k2 => ?_)
    have K2 := K.push k2
    have JE2 := JE.push k2
    have kk2 : s.heap.StaysIn h2 := fun b o z => k2 b o (k0 b o z)
    refine wpAny_execs_cons (sk_and_in (s := { s with heap := h2, toks := t2 }) C K2 (by rw [q]; rfl) fun h3 t3 k3 => ?_)
    have K3 := K2.push k3
    have JE3 := JE2.push k3
    have kk3 : s.heap.StaysIn h3 := fun b o z => k3 b o (kk2 b o z)
    refine wpAny_execs_cons (sk_eq (s := { s with heap := h3, toks := t3 }) C K3 (by rw [q]; decide) fun t5 => ?_)
    refine wpAny_execs_cons (sk_eq (s := { s with heap := h3, toks := t5 }) C K3 (by rw [q]; decide) fun t6 => ?_)
    refine wpAny_execs_cons (sk_and_in (s := { s with heap := h3, toks := t6 }) C K3 (by rw [q]; rfl) fun h7 t7 k7 => ?_)
    have K7 := K3.push k7
    have JE7 := JE3.push k7
    have kk7 : s.heap.StaysIn h7 := fun b o z => k7 b o (kk3 b o z)
    refine wpAny_execs_cons (sk_and_eq (s := { s with heap := h7, toks := t7 }) C K7 (by rw [q]; rfl) fun t8 => ?_)
    exact ret_ends (s := { s with heap := h7, toks := t8 }) G C K7 JE7 (h _ _ kk7)
  · refine wpAny_execs_cons (sk_and_eq (s := { s with heap := s.heap, toks := s.toks }) C K (by rw [q]; rfl) fun t1 => ?_)
    refine wpAny_execs_cons (sk_and_in (s := { s with heap := s.heap, toks := t1 }) C K (by rw [q]; rfl) fun h2 t2 k2 => ?_)
    have K2 := K.push k2
    have kk2 : s.heap.StaysIn h2 := fun b o z => k2 b o (k0 b o z)
    refine wpAny_execs_cons (sk_and_in (s := { s with heap := h2, toks := t2 }) C K2 (by rw [q]; rfl) fun h3 t3 k3 => ?_)
    have K3 := K2.push k3
    have kk3 : s.heap.StaysIn h3 := fun b o z => k3 b o (kk2 b o z)
    obtain ⟨tk4, hk4⟩ := K3.kind
    refine wpAny_execs_cons (if_eq (s := { s with heap := h3, toks := t3 }) C K3.ns (by decide) (by decide) hk4 (fun _ t5 => ?_) fun z => absurd q z)
    have J4 := (J.push k2).push k3
    obtain ⟨ta, rfl, hta⟩ := id J4
    refine wpAny_execs_cons (pair_or (s := { s with heap := h3, toks := t5 }) G C K3 J4 (item_isnot (s := { s with heap := h3, toks := t5 }) C K3 hta (by decide) (by decide) (j := 0) (by decide) rfl (fun V tk hv => name_l (s := { s with heap := h3, toks := tk }) C.toAct K3.ns (C.locs _ (by decide)) K3.thing hv) (fun V s' hv => wpAny_isNot_ref_self hv) rfl) (item_isnot (s := { s with heap := h3, toks := t5 }) C K3 hta (by decide) (by decide) (j := 1) (by decide) rfl (fun V tk hv => wpAny_Constant_none hv) (fun V s' hv => isNot_none hv) rfl) fun t6 => ?_)
    subst JE
    exact wpAny_execs_cons (wpAny_Return_some (wpAny_Compare1 (name_l (s := { s with heap := h3, toks := t6 }) C.toAct K3.ns (C.locs _ (by decide)) K3.ends (v_cell (s := { s with heap := h3, toks := t6 }) C C.kE C.cE K3.e (wpAny_is_ref_self (h _ _ kk3))))))
  · refine wpAny_execs_cons (sk_and_eq (s := { s with heap := s.heap, toks := s.toks }) C K (by rw [q]; rfl) fun t1 => ?_)
    refine wpAny_execs_cons (sk_and_in (s := { s with heap := s.heap, toks := t1 }) C K (by rw [q]; rfl) fun h2 t2 k2 => ?_)
    have K2 := K.push k2
    have kk2 : s.heap.StaysIn h2 := fun b o z => k2 b o (k0 b o z)
    refine wpAny_execs_cons (sk_and_in (s := { s with heap := h2, toks := t2 }) C K2 (by rw [q]; rfl) fun h3 t3 k3 => ?_)
    have K3 := K2.push k3
    have kk3 : s.heap.StaysIn h3 := fun b o z => k3 b o (kk2 b o z)
    refine wpAny_execs_cons (sk_eq (s := { s with heap := h3, toks := t3 }) C K3 (by rw [q]; decide) fun t5 => ?_)
    obtain ⟨tk4, hk4⟩ := K3.kind
    refine wpAny_execs_cons (if_eq (s := { s with heap := h3, toks := t5 }) C K3.ns (by decide) (by decide) hk4 (fun _ t6 => ?_) fun z => absurd q z)
    obtain ⟨ta, oa, rfl, hta, hca⟩ := (J.push k2).push k3
    subst JE
    refine wpAny_execs_cons (wpAny_Return_some (BoolOp_and (v_is_type (s := { s with heap := h3, toks := t6 }) G C K3.base K3.ns (by decide) (by decide) K3.told hta hca (by decide) (by decide) rfl rfl (by decide) (by decide) (wpAny_truthy_bool ?_))))
    simp only [if_true]
    exact BoolOp_one (wpAny_Compare1 (name_l (s := { s with heap := h3, toks := t6 }) C.toAct K3.ns (C.locs _ (by decide)) K3.ends (v_cell (s := { s with heap := h3, toks := t6 }) C C.kT C.cT K3.t (wpAny_is_ref_self (h _ _ kk3)))))
  · refine wpAny_execs_cons (sk_and_eq (s := { s with heap := s.heap, toks := s.toks }) C K (by rcases q with q | q <;> rw [q] <;> rfl) fun t1 => ?_)
    refine wpAny_execs_cons (sk_and_in (s := { s with heap := s.heap, toks := t1 }) C K (by rcases q with q | q <;> rw [q] <;> rfl) fun h2 t2 k2 => ?_)
    have K2 := K.push k2
    have JE2 := JE.push k2
    have kk2 : s.heap.StaysIn h2 := fun b o z => k2 b o (k0 b o z)
    refine wpAny_execs_cons (sk_and_in (s := { s with heap := h2, toks := t2 }) C K2 (by rcases q with q | q <;> rw [q] <;> rfl) fun h3 t3 k3 => ?_)
    have K3 := K2.push k3
    have JE3 := JE2.push k3
    have kk3 : s.heap.StaysIn h3 := fun b o z => k3 b o (kk2 b o z)
    refine wpAny_execs_cons (sk_eq (s := { s with heap := h3, toks := t3 }) C K3 (by rcases q with q | q <;> rw [q] <;> decide) fun t5 => ?_)
    refine wpAny_execs_cons (sk_eq (s := { s with heap := h3, toks := t5 }) C K3 (by rcases q with q | q <;> rw [q] <;> decide) fun t6 => ?_)
    obtain ⟨ta, oa, rfl, hta, hca⟩ := (J.push k2).push k3
    refine wpAny_execs_cons (sk_and_in2 (s := { s with heap := h3, toks := t6 }) C K3 (by rcases q with q | q <;> rw [q] <;> rfl) (fun Q' h' tk k hq => q_type (s := { s with heap := h', toks := tk }) G C (K3.push k).base (K3.push k).ns (by decide) (by decide) K3.told (k _ _ hta) hca (by decide) (by decide) rfl rfl (by decide) (by decide) (hq _)) fun h7 t7 k7 => ?_)
    have K7 := K3.push k7
    have JE7 := JE3.push k7
    have kk7 : s.heap.StaysIn h7 := fun b o z => k7 b o (kk3 b o z)
    refine wpAny_execs_cons (sk_and_eq (s := { s with heap := h7, toks := t7 }) C K7 (by rcases q with q | q <;> rw [q] <;> rfl) fun t8 => ?_)
    exact ret_ends (s := { s with heap := h7, toks := t8 }) G C K7 JE7 (h _ _ kk7)
  · refine wpAny_execs_cons (sk_and_eq (s := { s with heap := s.heap, toks := s.toks }) C K (by rw [q]; rfl) fun t1 => ?_)
    refine wpAny_execs_cons (sk_and_in (s := { s with heap := s.heap, toks := t1 }) C K (by rw [q]; rfl) fun h2 t2 k2 => ?_)
    have K2 := K.push k2
    have JE2 := JE.push k2
    have kk2 : s.heap.StaysIn h2 := fun b o z => k2 b o (k0 b o z)
    refine wpAny_execs_cons (sk_and_in (s := { s with heap := h2, toks := t2 }) C K2 (by rw [q]; rfl) fun h3 t3 k3 => ?_)
    have K3 := K2.push k3
    have JE3 := JE2.push k3
    have kk3 : s.heap.StaysIn h3 := fun b o z => k3 b o (kk2 b o z)
    refine wpAny_execs_cons (sk_eq (s := { s with heap := h3, toks := t3 }) C K3 (by rw [q]; decide) fun t5 => ?_)
    refine wpAny_execs_cons (sk_eq (s := { s with heap := h3, toks := t5 }) C K3 (by rw [q]; decide) fun t6 => ?_)
    refine wpAny_execs_cons (sk_and_in (s := { s with heap := h3, toks := t6 }) C K3 (by rw [q]; rfl) fun h7 t7 k7 => ?_)
    have K7 := K3.push k7
    have JE7 := JE3.push k7
    have kk7 : s.heap.StaysIn h7 := fun b o z => k7 b o (kk3 b o z)
    subst J
    refine wpAny_execs_cons (sk_and_eq2 (s := { s with heap := h7, toks := t7 }) C K7 (by rw [q]; rfl) (fun Q' tk hq => wpAny_isTrue_Compare1 (name_l (s := { s with heap := h7, toks := tk }) C.toAct K7.ns (C.locs _ (by decide)) K7.told (name_l (s := { s with heap := h7, toks := tk }) C.toAct K7.ns (C.locs _ (by decide)) K7.other (wpAny_isNot_ref_self (wpAny_truthy_bool (hq _)))))) fun t8 => ?_)
    exact ret_ends (s := { s with heap := h7, toks := t8 }) G C K7 JE7 (h _ _ kk7)
end
end Kq
end
section
open PySem PySem.W PySem.Spec PySem.Calls PyProof.Rows
open Builtin Builtin.ObjectAttr Builtin.Getset_descriptor
set_option maxRecDepth 100000
namespace Kq
variable {prog : Program} {w : World} {A : Around} {E : Value → Shared → Prop} {B : Heap} {mg mb : Str → Option Value} {s : Shared}
section
variable {env : Env} {L : Addr} {outer : List Env} {h₀ h h' : Heap} {m : Str → Option Value} {D : Dt} {dx : Option Addr} {mA : Str → Option Value} {Q : Flow → Shared → Prop} {EX : List Addr}
theorem exc_store {e : Addr} {c a0 cx : Value} {tb : Option (Addr × Value)} (x : Exc h e c a0 cx tb) (hs : Heap.SameBut L h h') (hn : h.Ns L m) : Exc h' e c a0 cx tb := by
  have ne : ∀ b o vs, h.get? b = some o → o.data = .fields vs → h'.get? b = some o := fun b o vs ho hd => (hs.2 b fun z => by
    obtain ⟨o', es, ep, ho', hd', _⟩ := hn
    rw [z, ho'] at ho; cases ho; rw [hd'] at hd; cases hd).trans ho
  obtain ⟨o, vs, ho, hc, hd, h0, h2, h1⟩ := x
  refine ⟨o, vs, ne _ _ _ ho hd, hc, hd, h0, h2, ?_⟩
  cases tb with
  | none => exact h1
  | some p =>
    obtain ⟨h1, hne, oT, ts, hT, hdT, h3⟩ := h1
    exact ⟨h1, hne, oT, ts, ne _ _ _ hT hdT, hdT, h3⟩
theorem obj_store {b : Addr} {o : Obj} (ho : h.get? b = some o) (hs : Heap.SameBut L h h') (hn : h.Ns L m) (hd : ∀ es ep, o.data ≠ .dict es ep) : h'.get? b = some o := (hs.2 b fun z => by
  obtain ⟨o', es, ep, ho', hd', _⟩ := hn
  rw [z, ho'] at ho; cases ho; exact hd _ _ hd').trans ho
theorem Tip.store {z : Addr} (x : Tip h z) (hs : Heap.SameBut L h h') (hn : h.Ns L m) : Tip h' z := by
  obtain ⟨o, vs, ho, hd, r⟩ := x
  exact ⟨o, vs, obj_store ho hs hn (fun es ep z => by rw [hd] at z; cases z), hd, r⟩
theorem Frz.tab {P : Addr} {q : Str} (Z : Frz h₀ h L m EX outer) (T : Tab h P q) (h0 : ∃ o, h₀.get? P = some o) : Tab (frz h L EX outer) P q := by
  obtain ⟨ps, e, ht, hr⟩ := T
  refine ⟨ps, hideAll_get _ e fun hb => ?_, ht, fun pos cv hc => ?_⟩
  · obtain ⟨o0, h0⟩ := h0
    rcases List.mem_append.mp hb with hb | hb
    · rcases List.mem_cons.mp hb with rfl | hb
      · exact Z.neL e (fun es ep z => by cases z) rfl
      · rw [Z.fresh _ hb] at h0; cases h0
    · obtain ⟨_, o', ho', hn⟩ := Z.l.mem hb
      rw [e] at ho'; cases ho'; exact hn _ rfl
  · obtain ⟨c', e', rc, n⟩ := hr pos cv hc
    exact ⟨c', e', Z.crec rc, n⟩
theorem grow {A' : Around} {X : List Addr} (C : Act env L A' outer) (hL : h₀.get? L = none) (x : Ext ([71, 85] ++ fr outer) h₀ h) (y : Ext (X ++ fr (env :: outer)) h h') (hX : ∀ b ∈ X, h₀.get? b = none) : Ext ([71, 85] ++ fr outer) h₀ h' := by
  refine x.trans y fun b hb => ?_
  rw [cons_fr C] at hb
  rcases List.mem_append.mp hb with q | q
  · exact .inr (hX b q)
  · rcases List.mem_cons.mp q with rfl | q
    · exact .inr hL
    · exact .inl (List.mem_append_right _ q)
variable {p1 p2 p3 p4 p5 p6 : Pos}
theorem run_told {dst fn : Str} {F th : Addr} (G : G0 w B mg mb) (hB : B.StaysIn s.heap) (C : Holds env L A outer) (hns : s.heap.Ns L m) (hth : m "thing" = some (.ref th)) (hf : nsIn (hd.heap_39 w.params) mainGlobals fn = some (some (.ref F)))
    (hfn : fn ∈ (["OverflowError", "ValueError", "StatisticsError", "KeyError", "_law_raise", "AttributeError", "_law_told", "_exact_ratio", "_isfinite", "type", "tuple", "len", "TypeError", "AssertionError"] : List Str)) (hdf : (fn == ("__debug__" : Str)) = false)
    (hds : dst ∈ (["x", "kind", "laid", "low", "error", "other", "thing", "told", "ends"] : List Str))
    (h : codeAny (model prog w) A (.call (.ref 83) ⟨[.ref F, .ref th], []⟩) (fun r s₁ => ∃ v, r = .ok (.ret v) ∧ s₁.heap.Ns L m ∧ ∀ h' tk, h'.Ns L (fun y => if y = dst then some v else m y) → Heap.SameBut L s₁.heap h' → Q .next { s₁ with heap := h', toks := tk }) s) :
    wpAny (model prog w) A (exec (.Assign [.Name dst p1] (.Call (.Name "_law_told" p2) [.Name fn p3, .Name "thing" p4] [] p5) p6) env) Q E s := by
  refine wpAny_Assign_Name (Call_Name (trees := [(false, eval (.Name fn p3) env), (false, eval (.Name "thing" p4) env)]) rfl ?_)
  obtain ⟨o, fd, ho, hd⟩ : ∃ o fd, B.get? 83 = some o ∧ o.data = .func fd := ⟨_, _, G.X 83 _ rfl, rfl⟩
  refine name_g (v := .ref 83) G hB (by rfl) ?_ C.toAct.kind C.toAct.glob (C.glos _ (by decide))
  refine callWith_function (o := o) (fd := fd) (evalArgs_plain (spliced_cons (name_g G hB hf (spliced_cons (name_l C.toAct hns (C.locs _ (by decide)) hth (spliced_nil ⟨⟨hB _ _ ho, hd⟩, wpAny_call (codeAny_mono h fun r s₁ hr => ?_)⟩))) C.toAct.kind C.toAct.glob (C.glos _ hfn) hdf)))
  obtain ⟨v, rfl, hn₁, hk⟩ := hr
  refine wpAny_storeName_local (C.locs _ hds) (by rw [C.toAct.loc]; exact hn₁) (fun h' hn' hs' => ?_) (by rw [C.toAct.kind]; rfl)
  rw [C.toAct.loc] at hn' hs'
  exact hk h' _ hn' hs'
end
end Kq
end
section
open PySem PySem.W PySem.Spec PySem.Calls PyProof.Rows
open Builtin Builtin.ObjectAttr Builtin.Getset_descriptor
set_option maxRecDepth 100000
namespace Kq
variable {prog : Program} {w : World} {A : Around} {E : Value → Shared → Prop} {B Bz : Heap} {mg mb : Str → Option Value} {s : Shared}
section
variable {env : Env} {L : Addr} {outer : List Env} {h₀ : Heap} {m : Str → Option Value} {D : Dt} {dx : Option Addr} {mA : Str → Option Value} {Q : Flow → Shared → Prop} {EX : List Addr}
variable {a1 a2 a3 a4 a5 a6 b1 b2 b3 b4 b5 b6 : Pos} {q0 q1 q2 q3 q4 q5 q6 q7 q8 q9 q10 q11 q12 q13 q14 q15 q16 q17 q18 q19 q20 q21 q22 q23 q24 q25 q26 q27 q28 q29 q30 q31 q32 q33 q34 q35 q36 q37 q38 q39 q40 q41 q42 q43 q44 q45 q46 q47 q48 q49 q50 q51 q52 q53 q54 q55 q56 q57 q58 q59 q60 q61 q62 q63 q64 q65 q66 q67 q68 q69 q70 q71 q72 q73 q74 q75 q76 q77 q78 q79 q80 q81 q82 q83 q84 q85 q86 q87 q88 q89 q90 q91 q92 q93 q94 q95 q96 q97 q98 q99 q100 q101 q102 q103 q104 q105 q106 q107 q108 q109 q110 q111 q112 q113 q114 q115 q116 q117 q118 q119 q120 q121 q122 q123 q124 q125 q126 q127 q128 q129 q130 q131 q132 q133 q134 q135 q136 q137 q138 q139 q140 q141 q142 q143 q144 q145 : Pos}
abbrev tailS (a1 a2 a3 a4 a5 a6 b1 b2 b3 b4 b5 b6 q0 q1 q2 q3 q4 q5 q6 q7 q8 q9 q10 q11 q12 q13 q14 q15 q16 q17 q18 q19 q20 q21 q22 q23 q24 q25 q26 q27 q28 q29 q30 q31 q32 q33 q34 q35 q36 q37 q38 q39 q40 q41 q42 q43 q44 q45 q46 q47 q48 q49 q50 q51 q52 q53 q54 q55 q56 q57 q58 q59 q60 q61 q62 q63 q64 q65 q66 q67 q68 q69 q70 q71 q72 q73 q74 q75 q76 q77 q78 q79 q80 q81 q82 q83 q84 q85 q86 q87 q88 q89 q90 q91 q92 q93 q94 q95 q96 q97 q98 q99 q100 q101 q102 q103 q104 q105 q106 q107 q108 q109 q110 q111 q112 q113 q114 q115 q116 q117 q118 q119 q120 q121 q122 q123 q124 q125 q126 q127 q128 q129 q130 q131 q132 q133 q134 q135 q136 q137 q138 q139 q140 q141 q142 q143 q144 q145 : Pos) : List Stmt :=
  (.Assign [.Name "told" a1] (.Call (.Name "_law_told" a2) [.Name "_exact_ratio" a3, .Name "thing" a4] [] a5) a6) ::
  (.Assign [.Name "ends" b1] (.Call (.Name "_law_told" b2) [.Name "_isfinite" b3, .Name "thing" b4] [] b5) b6) :: checks q0 q1 q2 q3 q4 q5 q6 q7 q8 q9 q10 q11 q12 q13 q14 q15 q16 q17 q18 q19 q20 q21 q22 q23 q24 q25 q26 q27 q28 q29 q30 q31 q32 q33 q34 q35 q36 q37 q38 q39 q40 q41 q42 q43 q44 q45 q46 q47 q48 q49 q50 q51 q52 q53 q54 q55 q56 q57 q58 q59 q60 q61 q62 q63 q64 q65 q66 q67 q68 q69 q70 q71 q72 q73 q74 q75 q76 q77 q78 q79 q80 q81 q82 q83 q84 q85 q86 q87 q88 q89 q90 q91 q92 q93 q94 q95 q96 q97 q98 q99 q100 q101 q102 q103 q104 q105 q106 q107 q108 q109 q110 q111 q112 q113 q114 q115 q116 q117 q118 q119 q120 q121 q122 q123 q124 q125 q126 q127 q128 q129 q130 q131 q132 q133 q134 q135 q136 q137 q138 q139 q140 q141 q142 q143 q144 q145
theorem two (G : G0 w Bz mg mb) (hz : Bz.StaysIn s.heap) (C : Holds env L A outer) (hu : A.units + 64 < cLine) (T : Stat B h₀ L m D) (ns : s.heap.Ns L m) (x₀ : Ext ([71, 85] ++ fr outer) h₀ s.heap) (hl0 : Frs h₀ outer) (offz : ∀ a ∈ fr (env :: outer), Bz.get? a = none)
    (ce : Bz.IsCell (L + 1) (some (.ref D.el))) (cp : Bz.IsCell (L + 2) (some (.ref D.pair))) (ct : Bz.IsCell (L + 3) (some (.ref D.top))) (t71 : Tab Bz 71 qR) (t85 : Tab Bz 85 qH)
    (PA : Heap → Value → Prop) (PB : Heap → Value → Value → Prop)
    (c1 : ∀ R : Result → Shared → Prop, (∀ h' tk v X, Ext (X ++ fr (env :: outer)) s.heap h' → (∀ b ∈ X, h₀.get? b = none ∧ Bz.get? b = none) → PA h' v → R (.ok (.ret v)) { s with heap := h', toks := tk }) → codeAny (model prog w) A (.call (.ref 83) ⟨[.ref 69, .ref D.th], []⟩) R s)
    (st1 : ∀ h' h'' v, h'.Ns L m → Heap.SameBut L h' h'' → PA h' v → PA h'' v)
    (c2 : ∀ h₂ tk₂ v, Bz.StaysIn h₂ → Frs h₂ (env :: outer) → PA h₂ v → ∀ R : Result → Shared → Prop, (∀ h' tk ve X, Ext (X ++ fr (env :: outer)) h₂ h' → (∀ b ∈ X, h₀.get? b = none ∧ Bz.get? b = none) → PB h' v ve → R (.ok (.ret ve)) { s with heap := h', toks := tk }) → codeAny (model prog w) A (.call (.ref 83) ⟨[.ref 62, .ref D.th], []⟩) R { s with heap := h₂, toks := tk₂ })
    (st2 : ∀ h' h'' v ve m', h'.Ns L m' → Heap.SameBut L h' h'' → PB h' v ve → Judge h'' D v ve)
    (h : ∀ h' tk, Ext ([71, 85] ++ fr outer) h₀ h' → Tab h' 71 qR → Tab h' 85 qH → Q (.ret (.bool true)) { s with heap := h', toks := tk }) :
    wpAny (model prog w) A (execs (tailS a1 a2 a3 a4 a5 a6 b1 b2 b3 b4 b5 b6 q0 q1 q2 q3 q4 q5 q6 q7 q8 q9 q10 q11 q12 q13 q14 q15 q16 q17 q18 q19 q20 q21 q22 q23 q24 q25 q26 q27 q28 q29 q30 q31 q32 q33 q34 q35 q36 q37 q38 q39 q40 q41 q42 q43 q44 q45 q46 q47 q48 q49 q50 q51 q52 q53 q54 q55 q56 q57 q58 q59 q60 q61 q62 q63 q64 q65 q66 q67 q68 q69 q70 q71 q72 q73 q74 q75 q76 q77 q78 q79 q80 q81 q82 q83 q84 q85 q86 q87 q88 q89 q90 q91 q92 q93 q94 q95 q96 q97 q98 q99 q100 q101 q102 q103 q104 q105 q106 q107 q108 q109 q110 q111 q112 q113 q114 q115 q116 q117 q118 q119 q120 q121 q122 q123 q124 q125 q126 q127 q128 q129 q130 q131 q132 q133 q134 q135 q136 q137 q138 q139 q140 q141 q142 q143 q144 q145) env) Q E s := by
  have hL : h₀.get? L = none := T.above (Nat.le_refl _)
  have BL : Bz.get? L = none := offz L (by rw [cons_fr C.toAct]; exact .head _)
  have keepL : ∀ {h' h'' : Heap}, Bz.StaysIn h' → Heap.SameBut L h' h'' → Bz.StaysIn h'' := fun k hs b o q => (hs.2 b fun z => by rw [z, BL] at q; cases q).trans (k b o q)
  have offX : ∀ {X : List Addr}, (∀ b ∈ X, h₀.get? b = none ∧ Bz.get? b = none) → ∀ b ∈ X ++ fr (env :: outer), Bz.get? b = none := fun hX b hb => (List.mem_append.mp hb).elim (fun q => (hX b q).2) (offz b)
  refine wpAny_execs_cons (run_told (dst := "told") G hz C ns T.thing (by rfl) (by decide) (by decide) (by decide) (c1 _ fun h₁ tk₁ v X x₁ hX pa => ⟨v, rfl, x₁.ns ns, fun h₂ tk₂ ns₂ hs₂ => ?_⟩))
  have e₁ := grow C.toAct hL x₀ x₁ fun b hb => (hX b hb).1
  have e₂ : Ext ([71, 85] ++ fr outer) h₀ h₂ := e₁.store hs₂ hL
  have z₂ := keepL (x₁.base hz (offX hX)) hs₂
  have l₂ : Frs h₂ (env :: outer) := C.toAct.frs e₂ hl0 ns₂
  refine wpAny_execs_cons (run_told (s := { s with heap := h₂, toks := tk₂ }) (dst := "ends") G z₂ C ns₂ ((if_neg (by decide)).trans T.thing) (by rfl) (by decide) (by decide) (by decide) (c2 h₂ tk₂ v z₂ l₂ (st1 _ _ _ (x₁.ns ns) hs₂ pa) _ fun h₃ tk₃ ve Y x₃ hY pb => ⟨ve, rfl, x₃.ns ns₂, fun h₄ tk₄ ns₄ hs₄ => ?_⟩))
  have e₃ := grow C.toAct hL e₂ x₃ fun b hb => (hY b hb).1
  have e₄ : Ext ([71, 85] ++ fr outer) h₀ h₄ := e₃.store hs₄ hL
  have z₄ := keepL (x₃.base z₂ (offX hY)) hs₄
  have up : ∀ {x : Str} {r : Option Value}, m x = r → x ≠ "told" → x ≠ "ends" → (fun y => if y = ("ends" : Str) then some ve else (if y = ("told" : Str) then some v else m y)) x = r := fun e n1 n2 => (if_neg n2).trans ((if_neg n1).trans e)
  obtain ⟨tk, hk⟩ := T.kind
  obtain ⟨tl, hl⟩ := T.laid
  refine judged (s := { s with heap := h₄, toks := tk₄ }) (B := Bz) G C ⟨z₄, ns₄, ⟨tk, up hk (by decide) (by decide)⟩, ⟨tl, up hl (by decide) (by decide)⟩, up T.low (by decide) (by decide), up T.other (by decide) (by decide), up T.thing (by decide) (by decide), (if_neg (by decide)).trans (if_pos rfl), if_pos rfl, ce.keeps z₄, cp.keeps z₄, ct.keeps z₄⟩ hu (st2 _ _ _ _ _ (x₃.ns ns₂) hs₄ pb) fun h₅ tk₅ k₅ => ?_
  exact h h₅ tk₅ (e₄.trans (Ext.of k₅) fun b hb => nomatch hb) (t71.keeps fun b o q => k₅ _ _ (z₄ b o q)) (t85.keeps fun b o q => k₅ _ _ (z₄ b o q))
end
end Kq
end
section
open PySem PySem.W PySem.Spec PySem.Calls PyProof.Rows
open Builtin Builtin.ObjectAttr Builtin.Getset_descriptor
set_option maxRecDepth 100000
namespace Kq
variable {prog : Program} {w : World} {A : Around} {E : Value → Shared → Prop} {B : Heap} {mg mb : Str → Option Value} {s : Shared}
section
variable {env : Env} {L : Addr} {outer : List Env} {h₀ : Heap} {m : Str → Option Value} {D : Dt} {dx : Option Addr} {mA : Str → Option Value} {Q : Flow → Shared → Prop}
variable {a1 a2 a3 a4 a5 a6 b1 b2 b3 b4 b5 b6 : Pos} {q0 q1 q2 q3 q4 q5 q6 q7 q8 q9 q10 q11 q12 q13 q14 q15 q16 q17 q18 q19 q20 q21 q22 q23 q24 q25 q26 q27 q28 q29 q30 q31 q32 q33 q34 q35 q36 q37 q38 q39 q40 q41 q42 q43 q44 q45 q46 q47 q48 q49 q50 q51 q52 q53 q54 q55 q56 q57 q58 q59 q60 q61 q62 q63 q64 q65 q66 q67 q68 q69 q70 q71 q72 q73 q74 q75 q76 q77 q78 q79 q80 q81 q82 q83 q84 q85 q86 q87 q88 q89 q90 q91 q92 q93 q94 q95 q96 q97 q98 q99 q100 q101 q102 q103 q104 q105 q106 q107 q108 q109 q110 q111 q112 q113 q114 q115 q116 q117 q118 q119 q120 q121 q122 q123 q124 q125 q126 q127 q128 q129 q130 q131 q132 q133 q134 q135 q136 q137 q138 q139 q140 q141 q142 q143 q144 q145 : Pos}
theorem tup_keep {X : List Addr} {h h' : Heap} {vt x y : Value} (q : ToldTup h vt x y) (k : Ext X h h') (hX : ∀ t, vt = .ref t → t ∉ X) : ToldTup h' vt x y := let ⟨t, e, ho⟩ := q; ⟨t, e, k.keep _ _ ho (hX t e)⟩
theorem told_of {h : Heap} {e : Addr} {X : String} {a c : Value} {tb : Option (Addr × Value)} (x : Exc h e (.type X) a c tb) : ToldIs h (.ref e) X := let ⟨o, ho, hc⟩ := x.there; ⟨e, o, rfl, ho, hc⟩
theorem ends_of {h : Heap} {e : Addr} {a c : Value} {tb : Option (Addr × Value)} (x : Exc h e (.type "TypeError") a c tb) : EndsTE h (.ref e) := let ⟨o, ho, hc⟩ := x.there; ⟨e, o, rfl, ho, hc⟩
def ExcIs (h : Heap) (v : Value) (X : String) : Prop := ∃ e a c T, v = .ref e ∧ Exc h e (.type X) a c (some (T, .none))
theorem ExcIs.told {h : Heap} {v : Value} {X : String} (x : ExcIs h v X) : ToldIs h v X := let ⟨e, a, c, T, hv, hx⟩ := x; hv ▸ told_of hx
theorem ExcIs.ends {h : Heap} {v : Value} (x : ExcIs h v "TypeError") : EndsTE h v := let ⟨e, a, c, T, hv, hx⟩ := x; hv ▸ ends_of hx
theorem ExcIs.store {h h' : Heap} {v : Value} {X : String} {L : Addr} {m : Str → Option Value} (x : ExcIs h v X) (hs : Heap.SameBut L h h') (hn : h.Ns L m) : ExcIs h' v X := let ⟨e, a, c, T, hv, hx⟩ := x; ⟨e, a, c, T, hv, exc_store hx hs hn⟩
theorem ExcIs.over {h h' : Heap} {v : Value} {X : String} {l : List Env} (x : ExcIs h v X) (k : Ext ([] ++ fr l) h h') (hl : Frs h l) : ExcIs h' v X := let ⟨e, a, c, T, hv, hx⟩ := x; ⟨e, a, c, T, hv, hx.over k hl (fun b hb => nomatch hb)⟩
theorem tup_store {h h' : Heap} {vt x y : Value} {L : Addr} {m : Str → Option Value} (q : ToldTup h vt x y) (hs : Heap.SameBut L h h') (hn : h.Ns L m) : ToldTup h' vt x y := let ⟨t, e, ho⟩ := q; ⟨t, e, obj_store ho hs hn (fun es ep z => by cases z)⟩
theorem noX {h₀ bz : Heap} : ∀ b ∈ ([] : List Addr), h₀.get? b = none ∧ bz.get? b = none := fun b hb => nomatch hb
theorem ekz {Bz : Heap} {c : Value} {b1 b2 : Bool} (k : B.StaysIn Bz) (e : ErrK B c b1 b2) : ErrK Bz c b1 b2 := by
  have st : ∀ {h : Heap}, Bz.StaysIn h → B.StaysIn h := fun z b o q => z b o (k b o q)
  exact ⟨fun M A Q E s hB hq => e.plain M A Q E s (st hB) hq, fun M A Q E s hB hq => e.base M A Q E s (st hB) hq, fun M A Q E s hB hq => e.ae M A Q E s (st hB) hq, fun M A Q E s hB hq => e.oe M A Q E s (st hB) hq, fun M A Q E s hB hq => e.ve M A Q E s (st hB) hq⟩
theorem tail_of {EX : List Addr} (G : G0 w B mg mb) (hB : B.StaysIn h₀) (h71 : B.get? 71 = none) (h85 : B.get? 85 = none) (C : Holds env L A outer) (hu : A.units + 64 < cLine) (hl0 : Frs h₀ outer) (hoff : ∀ a ∈ fr outer, B.get? a = none) (T : Stat B h₀ L m D) (S : LS h₀ L m D s.heap dx mA)
    (hex : ∀ e ∈ EX, Flier s.heap e) (hxf : ∀ e ∈ EX, h₀.get? e = none) (hth : D.th ∉ EX)
    (PA : Heap → Value → Prop) (PB : Heap → Value → Value → Prop)
    (c1 : ∀ Z : Frz h₀ s.heap L m EX outer, G0 w (frz s.heap L EX outer) mg mb → (frz s.heap L EX outer).StaysIn s.heap → Frs s.heap (env :: outer) → (∀ a ∈ fr (env :: outer), (frz s.heap L EX outer).get? a = none) → Thing (frz s.heap L EX outer) D.th mA →
      ∀ R : Result → Shared → Prop, (∀ h' tk v X, Ext (X ++ fr (env :: outer)) s.heap h' → (∀ b ∈ X, h₀.get? b = none ∧ (frz s.heap L EX outer).get? b = none) → PA h' v → R (.ok (.ret v)) { s with heap := h', toks := tk }) → codeAny (model prog w) A (.call (.ref 83) ⟨[.ref 69, .ref D.th], []⟩) R s)
    (st1 : ∀ h' h'' v, h'.Ns L m → Heap.SameBut L h' h'' → PA h' v → PA h'' v)
    (c2 : ∀ Z : Frz h₀ s.heap L m EX outer, G0 w (frz s.heap L EX outer) mg mb → (frz s.heap L EX outer).StaysIn s.heap → Frs s.heap (env :: outer) → (∀ a ∈ fr (env :: outer), (frz s.heap L EX outer).get? a = none) → Thing (frz s.heap L EX outer) D.th mA →
      ∀ h₂ tk₂ v, (frz s.heap L EX outer).StaysIn h₂ → Frs h₂ (env :: outer) → PA h₂ v → ∀ R : Result → Shared → Prop, (∀ h' tk ve X, Ext (X ++ fr (env :: outer)) h₂ h' → (∀ b ∈ X, h₀.get? b = none ∧ (frz s.heap L EX outer).get? b = none) → PB h' v ve → R (.ok (.ret ve)) { s with heap := h', toks := tk }) → codeAny (model prog w) A (.call (.ref 83) ⟨[.ref 62, .ref D.th], []⟩) R { s with heap := h₂, toks := tk₂ })
    (st2 : ∀ h' h'' v ve m', h'.Ns L m' → Heap.SameBut L h' h'' → PB h' v ve → Judge h'' D v ve)
    (h : ∀ h' tk, Ext ([71, 85] ++ fr outer) h₀ h' → Tab h' 71 qR → Tab h' 85 qH → Q (.ret (.bool true)) { s with heap := h', toks := tk }) :
    wpAny (model prog w) A (execs (tailS a1 a2 a3 a4 a5 a6 b1 b2 b3 b4 b5 b6 q0 q1 q2 q3 q4 q5 q6 q7 q8 q9 q10 q11 q12 q13 q14 q15 q16 q17 q18 q19 q20 q21 q22 q23 q24 q25 q26 q27 q28 q29 q30 q31 q32 q33 q34 q35 q36 q37 q38 q39 q40 q41 q42 q43 q44 q45 q46 q47 q48 q49 q50 q51 q52 q53 q54 q55 q56 q57 q58 q59 q60 q61 q62 q63 q64 q65 q66 q67 q68 q69 q70 q71 q72 q73 q74 q75 q76 q77 q78 q79 q80 q81 q82 q83 q84 q85 q86 q87 q88 q89 q90 q91 q92 q93 q94 q95 q96 q97 q98 q99 q100 q101 q102 q103 q104 q105 q106 q107 q108 q109 q110 q111 q112 q113 q114 q115 q116 q117 q118 q119 q120 q121 q122 q123 q124 q125 q126 q127 q128 q129 q130 q131 q132 q133 q134 q135 q136 q137 q138 q139 q140 q141 q142 q143 q144 q145) env) Q E s := by
  have l : Frs s.heap outer := S.ext.frs hl0
  have Z : Frz h₀ s.heap L m EX outer := ⟨hex, hxf, S.ns, hl0, l, T.size⟩
  have Gz := G.keeps (Z.base (S.base hB h71 h85) hB hoff)
  have hz : (frz s.heap L EX outer).StaysIn s.heap := frz_stays
  have lz : Frs s.heap (env :: outer) := C.toAct.frs S.ext hl0 S.ns
  have offz : ∀ a ∈ fr (env :: outer), (frz s.heap L EX outer).get? a = none := fun a ha => by
    rw [cons_fr C.toAct] at ha
    refine frz_none ?_
    rcases List.mem_cons.mp ha with rfl | ha
    · simp
    · exact List.mem_append_right _ ha
  have Tz := Z.thing S.th (T.fresh _ (by simp)) hth S.dfresh
  have u : ∀ k, L ≤ L + k := fun k => Nat.le_add_right _ _
  exact two Gz hz C hu T S.ns (S.ext.mono fun b hb => List.mem_append_left _ hb) hl0 offz (Z.cell S.e (T.above (u 1))) (Z.cell S.p (T.above (u 2))) (Z.cell S.t (T.above (u 3))) (Z.tab S.t71 T.t71) (Z.tab S.t85 T.t85) PA PB (c1 Z Gz hz lz offz Tz) st1 (c2 Z Gz hz lz offz Tz) st2 h
section
variable (G : G0 w B mg mb) (hB : B.StaysIn h₀) (h71 : B.get? 71 = none) (h85 : B.get? 85 = none) (C : Holds env L A outer) (hroom : A.depth + 4 < recursionLimit) (hu : A.units + 64 < cLine) (hh : A.handled = none) (hl0 : Frs h₀ outer) (hoff : ∀ a ∈ fr outer, B.get? a = none) (T : Stat B h₀ L m D) (S : LS h₀ L m D s.heap dx mA)
  (h : ∀ h' tk, Ext ([71, 85] ++ fr outer) h₀ h' → Tab h' 71 qR → Tab h' 85 qH → Q (.ret (.bool true)) { s with heap := h', toks := tk })
include G hB h71 h85 C hroom hu hh hl0 hoff T S h
theorem tail_gone {EX : List Addr} (q : D.kind = 0 ∨ D.kind = 2) (hex : ∀ e ∈ EX, Flier s.heap e) (hxf : ∀ e ∈ EX, h₀.get? e = none) (hth : D.th ∉ EX) (hg : ∀ Z : Frz h₀ s.heap L m EX outer, Gone (frz s.heap L EX outer) s.heap mA EX) (hw : mA "is_finite" = none)
    (hnum : mA "numerator" = (if D.laid.fmod 2 = 1 then some (.ref D.top) else none)) (hden : mA "denominator" = (if 2 ≤ D.laid then some (.ref D.low) else none)) :
    wpAny (model prog w) A (execs (tailS a1 a2 a3 a4 a5 a6 b1 b2 b3 b4 b5 b6 q0 q1 q2 q3 q4 q5 q6 q7 q8 q9 q10 q11 q12 q13 q14 q15 q16 q17 q18 q19 q20 q21 q22 q23 q24 q25 q26 q27 q28 q29 q30 q31 q32 q33 q34 q35 q36 q37 q38 q39 q40 q41 q42 q43 q44 q45 q46 q47 q48 q49 q50 q51 q52 q53 q54 q55 q56 q57 q58 q59 q60 q61 q62 q63 q64 q65 q66 q67 q68 q69 q70 q71 q72 q73 q74 q75 q76 q77 q78 q79 q80 q81 q82 q83 q84 q85 q86 q87 q88 q89 q90 q91 q92 q93 q94 q95 q96 q97 q98 q99 q100 q101 q102 q103 q104 q105 q106 q107 q108 q109 q110 q111 q112 q113 q114 q115 q116 q117 q118 q119 q120 q121 q122 q123 q124 q125 q126 q127 q128 q129 q130 q131 q132 q133 q134 q135 q136 q137 q138 q139 q140 q141 q142 q143 q144 q145) env) Q E s := by
  have b1 : 0 ≤ D.laid := Int.fmod_nonneg_of_pos _ (by decide)
  have b2 : D.laid < 4 := Int.fmod_lt_of_pos _ (by decide)
  by_cases ql : D.laid = 3
  · have hn : mA "numerator" = some (.ref D.top) := by rw [hnum, ql]; rfl
    have hd : mA "denominator" = some (.ref D.low) := by rw [hden, ql]; rfl
    refine tail_of G hB h71 h85 C hu hl0 hoff T S hex hxf hth (fun h' v => ToldTup h' v (.ref D.top) (.ref D.low) ∧ ∀ t, v = .ref t → s.heap.get? t = none) (fun h' v ve => ToldTup h' v (.ref D.top) (.ref D.low) ∧ ExcIs h' ve "TypeError")
      (fun Z Gz hz lz offz Tz R k => ?_) (fun h' h'' v n ss x => ⟨tup_store x.1 ss n, x.2⟩) (fun Z Gz hz lz offz Tz h₂ tk₂ v z₂ l₂ x R k => ?_) (fun h' h'' v ve m' n ss x => .inl ⟨q, ql, tup_store x.1 ss n, (x.2.store ss n).ends⟩) h
    · refine told_ratio_pair Gz hz (by omega) C.toAct.frames lz offz hh Tz (hg Z) hn hd fun h' tk t x n1 n2 => k h' tk _ EX x (fun b hb => ⟨hxf b hb, frz_none (by simp [hb])⟩) ⟨⟨t, rfl, n2⟩, fun t' e => by cases e; exact n1⟩
    · refine told_isf_none (s := { s with heap := h₂, toks := tk₂ }) Gz z₂ (by omega) C.toAct.frames l₂ offz hh Tz hw fun h' tk e' a' c' T' n1 x1 e1 => k h' tk _ [] x1 (noX) ⟨tup_keep x.1 x1 fun t e => ?_, ⟨_, _, _, _, rfl, e1⟩⟩
      exact fresh_off lz (x.2 t e)
  · have hlack : mA "numerator" = none ∨ ((∃ a, mA "numerator" = some (.ref a)) ∧ mA "denominator" = none) := by
      have : D.laid = 0 ∨ D.laid = 1 ∨ D.laid = 2 := by omega
      rcases this with z | z | z <;> rw [hnum, hden, z]
      · exact .inl rfl
      · exact .inr ⟨⟨_, rfl⟩, rfl⟩
      · exact .inl rfl
    refine tail_of G hB h71 h85 C hu hl0 hoff T S hex hxf hth (fun h' v => ∃ a t0 c' TT u, v = .ref a ∧ Exc h' a (.type "TypeError") (.ref t0) c' (some (TT, .none)) ∧ h'.get? t0 = some { cls := .type "tuple", data := .seq #[.str sayAll u] } ∧ s.heap.get? t0 = none) (fun h' v ve => ToldTE h' v ∧ ExcIs h' ve "TypeError")
      (fun Z Gz hz lz offz Tz R k => ?_) (fun h' h'' v n ss ⟨a, t0, c', TT, u, e1, e2, e3, e4⟩ => ⟨a, t0, c', TT, u, e1, exc_store e2 ss n, obj_store e3 ss n (fun es ep z => by cases z), e4⟩) (fun Z Gz hz lz offz Tz h₂ tk₂ v z₂ l₂ x R k => ?_)
      (fun h' h'' v ve m' n ss x => .inr (.inl ⟨q, ql, (let ⟨a, t0, c', TT, u, e1, e2, e3⟩ := x.1; ⟨a, t0, c', TT, u, e1, exc_store e2 ss n, obj_store e3 ss n (fun es ep z => by cases z)⟩), (x.2.store ss n).ends⟩)) h
    · refine told_ratio_lacks Gz hz (by omega) C.toAct.frames lz offz hh Tz (hg Z) hlack fun h' tk e' c' t T' n1 x e1 n2 tt => k h' tk _ EX x (fun b hb => ⟨hxf b hb, frz_none (by simp [hb])⟩) ?_
      obtain ⟨u, ht⟩ := tt
      exact ⟨e', t, c', T', u, rfl, e1, ht, n2⟩
    · obtain ⟨a, t0, c', TT, u, e1, e2, e3, e4⟩ := x
      refine told_isf_none (s := { s with heap := h₂, toks := tk₂ }) Gz z₂ (by omega) C.toAct.frames l₂ offz hh Tz hw fun h' tk e' a' c'' T' n1 x1 ex => k h' tk _ [] x1 (noX) ⟨⟨a, t0, c', TT, u, e1, e2.over x1 l₂ (fun b hb => nomatch hb), x1.keep _ _ e3 (fresh_off lz e4)⟩, ⟨_, _, _, _, rfl, ex⟩⟩
theorem tail_1 (q : D.kind = 1) (hg : GiveLam h₀ s.heap (L + 2) mA Air (.ref D.pair)) (hw : mA "is_finite" = none) : wpAny (model prog w) A (execs (tailS a1 a2 a3 a4 a5 a6 b1 b2 b3 b4 b5 b6 q0 q1 q2 q3 q4 q5 q6 q7 q8 q9 q10 q11 q12 q13 q14 q15 q16 q17 q18 q19 q20 q21 q22 q23 q24 q25 q26 q27 q28 q29 q30 q31 q32 q33 q34 q35 q36 q37 q38 q39 q40 q41 q42 q43 q44 q45 q46 q47 q48 q49 q50 q51 q52 q53 q54 q55 q56 q57 q58 q59 q60 q61 q62 q63 q64 q65 q66 q67 q68 q69 q70 q71 q72 q73 q74 q75 q76 q77 q78 q79 q80 q81 q82 q83 q84 q85 q86 q87 q88 q89 q90 q91 q92 q93 q94 q95 q96 q97 q98 q99 q100 q101 q102 q103 q104 q105 q106 q107 q108 q109 q110 q111 q112 q113 q114 q115 q116 q117 q118 q119 q120 q121 q122 q123 q124 q125 q126 q127 q128 q129 q130 q131 q132 q133 q134 q135 q136 q137 q138 q139 q140 q141 q142 q143 q144 q145) env) Q E s := by
  obtain ⟨f, c', hf, F, ff⟩ := hg
  refine tail_of (EX := []) G hB h71 h85 C hu hl0 hoff T S (fun e he => nomatch he) (fun e he => nomatch he) (by simp) (fun h' v => v = .ref D.pair) (fun h' v ve => v = .ref D.pair ∧ ExcIs h' ve "TypeError")
    (fun Z Gz hz lz offz Tz R k => ?_) (fun h' h'' v n ss x => x) (fun Z Gz hz lz offz Tz h₂ tk₂ v z₂ l₂ x R k => ?_) (fun h' h'' v ve m' n ss x => .inr (.inr (.inl ⟨q, x.1, (x.2.store ss n).ends⟩))) h
  · exact told_ratio_lam Gz hz (by omega) C.toAct.frames lz offz Tz hf (Z.lam F ff (T.above (Nat.le_add_right _ _))) fun h' tk x => k h' tk _ [] (x.mono fun b hb => nomatch hb) noX rfl
  · exact told_isf_none (s := { s with heap := h₂, toks := tk₂ }) Gz z₂ (by omega) C.toAct.frames l₂ offz hh Tz hw fun h' tk e' a' c'' T' n1 x1 ex => k h' tk _ [] x1 noX ⟨x, ⟨_, _, _, _, rfl, ex⟩⟩
theorem tail_3 (q : D.kind = 3) (ha : AirAsk h₀ s.heap mA Air D.er) (hg : GiveLam h₀ s.heap (L + 1) mA Fin' (.ref D.el)) : wpAny (model prog w) A (execs (tailS a1 a2 a3 a4 a5 a6 b1 b2 b3 b4 b5 b6 q0 q1 q2 q3 q4 q5 q6 q7 q8 q9 q10 q11 q12 q13 q14 q15 q16 q17 q18 q19 q20 q21 q22 q23 q24 q25 q26 q27 q28 q29 q30 q31 q32 q33 q34 q35 q36 q37 q38 q39 q40 q41 q42 q43 q44 q45 q46 q47 q48 q49 q50 q51 q52 q53 q54 q55 q56 q57 q58 q59 q60 q61 q62 q63 q64 q65 q66 q67 q68 q69 q70 q71 q72 q73 q74 q75 q76 q77 q78 q79 q80 q81 q82 q83 q84 q85 q86 q87 q88 q89 q90 q91 q92 q93 q94 q95 q96 q97 q98 q99 q100 q101 q102 q103 q104 q105 q106 q107 q108 q109 q110 q111 q112 q113 q114 q115 q116 q117 q118 q119 q120 q121 q122 q123 q124 q125 q126 q127 q128 q129 q130 q131 q132 q133 q134 q135 q136 q137 q138 q139 q140 q141 q142 q143 q144 q145) env) Q E s := by
  obtain ⟨f, cc, c', hf, F, ff, fcc⟩ := ha
  obtain ⟨g, c2', hgf, FL, fg⟩ := hg
  have eX : ∀ e ∈ [D.er], Flier s.heap e := fun e he => by rw [List.mem_singleton.mp he]; exact S.er.flier
  have fX : ∀ e ∈ [D.er], h₀.get? e = none := fun e he => by rw [List.mem_singleton.mp he]; exact T.fresh _ (by simp)
  refine tail_of (EX := [D.er]) G hB h71 h85 C hu hl0 hoff T S eX fX (by simpa using T.ne1) (fun h' v => ToldTup h' v (.ref D.th) .none ∧ ∀ t, v = .ref t → s.heap.get? t = none) (fun h' v ve => ToldTup h' v (.ref D.th) .none ∧ ve = .ref D.el)
    (fun Z Gz hz lz offz Tz R k => ?_) (fun h' h'' v n ss x => ⟨tup_store x.1 ss n, x.2⟩) (fun Z Gz hz lz offz Tz h₂ tk₂ v z₂ l₂ x R k => ?_) (fun h' h'' v ve m' n ss x => .inr (.inr (.inr (.inl ⟨q, tup_store x.1 ss n, x.2⟩)))) h
  · have he : Err (frz s.heap L [D.er] outer) s.heap D.er D.c D.a0 D.b1 D.b2 := ⟨S.er, ekz (Z.base (S.base hB h71 h85) hB hoff) T.ek |>.plain, ekz (Z.base (S.base hB h71 h85) hB hoff) T.ek |>.base, ekz (Z.base (S.base hB h71 h85) hB hoff) T.ek |>.ae, ekz (Z.base (S.base hB h71 h85) hB hoff) T.ek |>.oe, ekz (Z.base (S.base hB h71 h85) hB hoff) T.ek |>.ve, frz_none (by simp)⟩
    exact told_ratio_infinite Gz hz (by omega) C.toAct.frames lz offz hh Tz hf (Z.ask F ff fcc) he T.hb hgf (Z.lam FL fg (T.above (Nat.le_add_right _ _))) (Z.list S.lel (T.fresh _ (by simp))) fun h' tk t x n1 n2 => k h' tk _ [D.er] x (fun b hb => ⟨fX b hb, frz_none (by simp at hb; simp [hb])⟩) ⟨⟨t, rfl, n2⟩, fun t' e => by cases e; exact n1⟩
  · exact told_isf_lam (s := { s with heap := h₂, toks := tk₂ }) Gz z₂ (by omega) C.toAct.frames l₂ offz Tz hgf (Z.lam FL fg (T.above (Nat.le_add_right _ _))) fun h' tk x1 => k h' tk _ [] (x1.mono fun b hb => nomatch hb) noX ⟨tup_keep x.1 x1 (by simp), rfl⟩
theorem tail_4 (q : D.kind = 4) (ha : AirAsk h₀ s.heap mA Air D.er) (hg : GiveLam h₀ s.heap (L + 3) mA Fin' (.ref D.top)) : wpAny (model prog w) A (execs (tailS a1 a2 a3 a4 a5 a6 b1 b2 b3 b4 b5 b6 q0 q1 q2 q3 q4 q5 q6 q7 q8 q9 q10 q11 q12 q13 q14 q15 q16 q17 q18 q19 q20 q21 q22 q23 q24 q25 q26 q27 q28 q29 q30 q31 q32 q33 q34 q35 q36 q37 q38 q39 q40 q41 q42 q43 q44 q45 q46 q47 q48 q49 q50 q51 q52 q53 q54 q55 q56 q57 q58 q59 q60 q61 q62 q63 q64 q65 q66 q67 q68 q69 q70 q71 q72 q73 q74 q75 q76 q77 q78 q79 q80 q81 q82 q83 q84 q85 q86 q87 q88 q89 q90 q91 q92 q93 q94 q95 q96 q97 q98 q99 q100 q101 q102 q103 q104 q105 q106 q107 q108 q109 q110 q111 q112 q113 q114 q115 q116 q117 q118 q119 q120 q121 q122 q123 q124 q125 q126 q127 q128 q129 q130 q131 q132 q133 q134 q135 q136 q137 q138 q139 q140 q141 q142 q143 q144 q145) env) Q E s := by
  obtain ⟨f, cc, c', hf, F, ff, fcc⟩ := ha
  obtain ⟨g, c2', hgf, FL, fg⟩ := hg
  have eX : ∀ e ∈ [D.er], Flier s.heap e := fun e he => by rw [List.mem_singleton.mp he]; exact S.er.flier
  have fX : ∀ e ∈ [D.er], h₀.get? e = none := fun e he => by rw [List.mem_singleton.mp he]; exact T.fresh _ (by simp)
  refine tail_of (EX := [D.er]) G hB h71 h85 C hu hl0 hoff T S eX fX (by simpa using T.ne1) (fun h' v => ExcIs h' v "AssertionError") (fun h' v ve => ExcIs h' v "AssertionError" ∧ ve = .ref D.top)
    (fun Z Gz hz lz offz Tz R k => ?_) (fun h' h'' v n ss x => x.store ss n) (fun Z Gz hz lz offz Tz h₂ tk₂ v z₂ l₂ x R k => ?_) (fun h' h'' v ve m' n ss x => .inr (.inr (.inr (.inr (.inl ⟨q, (x.1.store ss n).told, x.2⟩))))) h
  · have ek := ekz (Z.base (S.base hB h71 h85) hB hoff) T.ek
    exact told_ratio_assert Gz hz (by omega) C.toAct.frames lz offz hh Tz hf (Z.ask F ff fcc) ⟨S.er, ek.plain, ek.base, ek.ae, ek.oe, ek.ve, frz_none (by simp)⟩ T.hb hgf (Z.lam FL fg (T.above (Nat.le_add_right _ _))) (Z.list S.ltop (T.fresh _ (by simp))) rfl (by show (1 : Int) < 2 ^ 63; decide) fun h' tk e' a' c'' T' n1 x ex => k h' tk _ [D.er] x (fun b hb => ⟨fX b hb, frz_none (by simp at hb; simp [hb])⟩) ⟨_, _, _, _, rfl, ex⟩
  · exact told_isf_lam (s := { s with heap := h₂, toks := tk₂ }) Gz z₂ (by omega) C.toAct.frames l₂ offz Tz hgf (Z.lam FL fg (T.above (Nat.le_add_right _ _))) fun h' tk x1 => k h' tk _ [] (x1.mono fun b hb => nomatch hb) noX ⟨x.over (x1.mono fun b hb => nomatch hb) l₂, rfl⟩
theorem tail_5 (q : D.kind = 5) (ha : AirAsk h₀ s.heap mA Air D.er) (hw : mA "is_finite" = none) : wpAny (model prog w) A (execs (tailS a1 a2 a3 a4 a5 a6 b1 b2 b3 b4 b5 b6 q0 q1 q2 q3 q4 q5 q6 q7 q8 q9 q10 q11 q12 q13 q14 q15 q16 q17 q18 q19 q20 q21 q22 q23 q24 q25 q26 q27 q28 q29 q30 q31 q32 q33 q34 q35 q36 q37 q38 q39 q40 q41 q42 q43 q44 q45 q46 q47 q48 q49 q50 q51 q52 q53 q54 q55 q56 q57 q58 q59 q60 q61 q62 q63 q64 q65 q66 q67 q68 q69 q70 q71 q72 q73 q74 q75 q76 q77 q78 q79 q80 q81 q82 q83 q84 q85 q86 q87 q88 q89 q90 q91 q92 q93 q94 q95 q96 q97 q98 q99 q100 q101 q102 q103 q104 q105 q106 q107 q108 q109 q110 q111 q112 q113 q114 q115 q116 q117 q118 q119 q120 q121 q122 q123 q124 q125 q126 q127 q128 q129 q130 q131 q132 q133 q134 q135 q136 q137 q138 q139 q140 q141 q142 q143 q144 q145) env) Q E s := by
  obtain ⟨f, cc, c', hf, F, ff, fcc⟩ := ha
  have eX : ∀ e ∈ [D.er], Flier s.heap e := fun e he => by rw [List.mem_singleton.mp he]; exact S.er.flier
  have fX : ∀ e ∈ [D.er], h₀.get? e = none := fun e he => by rw [List.mem_singleton.mp he]; exact T.fresh _ (by simp)
  refine tail_of (EX := [D.er]) G hB h71 h85 C hu hl0 hoff T S eX fX (by simpa using T.ne1) (fun h' v => ExcIs h' v "TypeError") (fun h' v ve => ExcIs h' v "TypeError" ∧ ExcIs h' ve "TypeError")
    (fun Z Gz hz lz offz Tz R k => ?_) (fun h' h'' v n ss x => x.store ss n) (fun Z Gz hz lz offz Tz h₂ tk₂ v z₂ l₂ x R k => ?_) (fun h' h'' v ve m' n ss x => .inr (.inr (.inr (.inr (.inr (.inl ⟨.inl q, (x.1.store ss n).told, (x.2.store ss n).ends⟩)))))) h
  · have ek := ekz (Z.base (S.base hB h71 h85) hB hoff) T.ek
    exact told_ratio_te_none Gz hz (by omega) C.toAct.frames lz offz hh Tz hf (Z.ask F ff fcc) ⟨S.er, ek.plain, ek.base, ek.ae, ek.oe, ek.ve, frz_none (by simp)⟩ T.hb hw fun h' tk e' a' c'' T' n1 x ex => k h' tk _ [D.er] x (fun b hb => ⟨fX b hb, frz_none (by simp at hb; simp [hb])⟩) ⟨_, _, _, _, rfl, ex⟩
  · exact told_isf_none (s := { s with heap := h₂, toks := tk₂ }) Gz z₂ (by omega) C.toAct.frames l₂ offz hh Tz hw fun h' tk e' a' c'' T' n1 x1 ex => k h' tk _ [] x1 noX ⟨x.over x1 l₂, ⟨_, _, _, _, rfl, ex⟩⟩
theorem tail_6 (q : D.kind = 6) (ha : AirAsk h₀ s.heap mA Air D.er) (hg : GoneAsk h₀ s.heap D mA Fin') : wpAny (model prog w) A (execs (tailS a1 a2 a3 a4 a5 a6 b1 b2 b3 b4 b5 b6 q0 q1 q2 q3 q4 q5 q6 q7 q8 q9 q10 q11 q12 q13 q14 q15 q16 q17 q18 q19 q20 q21 q22 q23 q24 q25 q26 q27 q28 q29 q30 q31 q32 q33 q34 q35 q36 q37 q38 q39 q40 q41 q42 q43 q44 q45 q46 q47 q48 q49 q50 q51 q52 q53 q54 q55 q56 q57 q58 q59 q60 q61 q62 q63 q64 q65 q66 q67 q68 q69 q70 q71 q72 q73 q74 q75 q76 q77 q78 q79 q80 q81 q82 q83 q84 q85 q86 q87 q88 q89 q90 q91 q92 q93 q94 q95 q96 q97 q98 q99 q100 q101 q102 q103 q104 q105 q106 q107 q108 q109 q110 q111 q112 q113 q114 q115 q116 q117 q118 q119 q120 q121 q122 q123 q124 q125 q126 q127 q128 q129 q130 q131 q132 q133 q134 q135 q136 q137 q138 q139 q140 q141 q142 q143 q144 q145) env) Q E s := by
  obtain ⟨f, cc, c', hf, F, ff, fcc⟩ := ha
  obtain ⟨e2, a2, ⟨g, cg, cg', hgf, F2, fg, fcg⟩, X2, f2, n1', n2', n3'⟩ := hg
  have eX : ∀ e ∈ [D.er, e2], Flier s.heap e := fun e he => by
    rcases List.mem_cons.mp he with rfl | he
    · exact S.er.flier
    · rw [List.mem_singleton.mp he]; exact X2.flier
  have fX : ∀ e ∈ [D.er, e2], h₀.get? e = none := fun e he => by
    rcases List.mem_cons.mp he with rfl | he
    · exact T.fresh _ (by simp)
    · rw [List.mem_singleton.mp he]; exact f2
  have zX : ∀ e ∈ [D.er, e2], (frz s.heap L [D.er, e2] outer).get? e = none := fun e he => frz_none (List.mem_append_left _ (List.mem_cons_of_mem _ he))
  refine tail_of (EX := [D.er, e2]) G hB h71 h85 C hu hl0 hoff T S eX fX (by simp; exact ⟨T.ne1, n1'.symm⟩)
    (fun h' v => ∃ e' a c T' T'', v = .ref e' ∧ Exc h' e' (.type "TypeError") a c (some (T', .none)) ∧ s.heap.get? e' = none ∧ Tip h' D.er ∧ s.heap.get? T'' = none ∧ T'' ≠ D.er ∧ T'' ≠ e' ∧ Exc h' e2 (.type "AttributeError") a2 (.ref D.er) (some (T'', .none))) (fun h' v ve => (∃ a o vs, v = .ref a ∧ h'.get? a = some o ∧ o.cls = .type "TypeError" ∧ o.data = .fields vs) ∧ ExcIs h' ve "TypeError")
    (fun Z Gz hz lz offz Tz R k => ?_) (fun h' h'' v n ss ⟨e', a, c, T', T'', r1, r2, r3, r4, r5, r6, r7, r8⟩ => ⟨e', a, c, T', T'', r1, exc_store r2 ss n, r3, r4.store ss n, r5, r6, r7, exc_store r8 ss n⟩) (fun Z Gz hz lz offz Tz h₂ tk₂ v z₂ l₂ x R k => ?_)
    (fun h' h'' v ve m' n ss x => .inr (.inr (.inr (.inr (.inr (.inl ⟨.inr q, (let ⟨a, o, vs, e, ho, hc, hd⟩ := x.1; ⟨a, o, e, obj_store ho ss n (fun es ep z => by rw [hd] at z; cases z), hc⟩), (x.2.store ss n).ends⟩)))))) h
  · have ek := ekz (Z.base (S.base hB h71 h85) hB hoff) T.ek
    exact told_ratio_te_ask Gz hz (by omega) C.toAct.frames lz offz hh Tz hf (Z.ask F ff fcc) ⟨S.er, ek.plain, ek.base, ek.ae, ek.oe, ek.ve, zX _ (by simp)⟩ T.hb hgf (Z.ask F2 fg fcg) X2 (zX _ (by simp)) n2'.symm fun h' tk e' a' c'' T' n1 x ex tip kk => k h' tk _ [D.er, e2] x (fun b hb => ⟨fX b hb, zX b hb⟩) (let ⟨T'', m1, m2, m3, m4⟩ := kk; ⟨e', a', c'', T', T'', rfl, ex, n1, tip, m1, m2, m3, m4⟩)
  · obtain ⟨e', a, c, T', T'', rfl, r2, r3, r4, r5, r6, r7, r8⟩ := x
    refine told_isf_ask (s := { s with heap := h₂, toks := tk₂ }) Gz z₂ (by omega) C.toAct.frames l₂ offz hh Tz hgf (Z.ask F2 fg fcg) r8 (zX _ (by simp)) (base_none hz r5) r4 n2'.symm r6.symm fun h' tk e'' a' c'' T₃ n1 x1 ex => k h' tk _ [e2, T''] x1 (fun b hb => ?_) ⟨?_, ⟨_, _, _, _, rfl, ex⟩⟩
    · rcases List.mem_cons.mp hb with rfl | hb
      · exact ⟨f2, zX _ (by simp)⟩
      · rw [List.mem_singleton.mp hb]; exact ⟨S.ext.fresh r5, base_none hz r5⟩
    · obtain ⟨o, vs, ho, hc, hd, _⟩ := r2
      refine ⟨e', o, vs, rfl, x1.keep _ _ ho fun z => ?_, hc, hd⟩
      rcases List.mem_append.mp z with z | z
      · rcases List.mem_cons.mp z with z | z
        · obtain ⟨o2, ho2, _⟩ := X2.there; rw [z, ho2] at r3; cases r3
        · exact r7 (List.mem_singleton.mp z).symm
      · exact fresh_off lz r3 z
theorem tail_7 (q : D.kind = 7) (ha : AirAsk h₀ s.heap mA Air D.oc) (hw : mA "is_finite" = none) : wpAny (model prog w) A (execs (tailS a1 a2 a3 a4 a5 a6 b1 b2 b3 b4 b5 b6 q0 q1 q2 q3 q4 q5 q6 q7 q8 q9 q10 q11 q12 q13 q14 q15 q16 q17 q18 q19 q20 q21 q22 q23 q24 q25 q26 q27 q28 q29 q30 q31 q32 q33 q34 q35 q36 q37 q38 q39 q40 q41 q42 q43 q44 q45 q46 q47 q48 q49 q50 q51 q52 q53 q54 q55 q56 q57 q58 q59 q60 q61 q62 q63 q64 q65 q66 q67 q68 q69 q70 q71 q72 q73 q74 q75 q76 q77 q78 q79 q80 q81 q82 q83 q84 q85 q86 q87 q88 q89 q90 q91 q92 q93 q94 q95 q96 q97 q98 q99 q100 q101 q102 q103 q104 q105 q106 q107 q108 q109 q110 q111 q112 q113 q114 q115 q116 q117 q118 q119 q120 q121 q122 q123 q124 q125 q126 q127 q128 q129 q130 q131 q132 q133 q134 q135 q136 q137 q138 q139 q140 q141 q142 q143 q144 q145) env) Q E s := by
  obtain ⟨f, cc, c', hf, F, ff, fcc⟩ := ha
  have eX : ∀ e ∈ [D.oc], Flier s.heap e := fun e he => by rw [List.mem_singleton.mp he]; exact S.oc.flier
  have fX : ∀ e ∈ [D.oc], h₀.get? e = none := fun e he => by rw [List.mem_singleton.mp he]; exact T.fresh _ (by simp)
  refine tail_of (EX := [D.oc]) G hB h71 h85 C hu hl0 hoff T S eX fX (by simpa using T.ne2) (fun h' v => v = .ref D.oc) (fun h' v ve => v = .ref D.oc ∧ ExcIs h' ve "TypeError")
    (fun Z Gz hz lz offz Tz R k => ?_) (fun h' h'' v n ss x => x) (fun Z Gz hz lz offz Tz h₂ tk₂ v z₂ l₂ x R k => ?_) (fun h' h'' v ve m' n ss x => .inr (.inr (.inr (.inr (.inr (.inr ⟨q, x.1, (x.2.store ss n).ends⟩)))))) h
  · have ek := err_KE (frz s.heap L [D.oc] outer)
    exact told_ratio_other Gz hz (by omega) C.toAct.frames lz offz hh Tz hf (Z.ask F ff fcc) ⟨S.oc, ek.plain, ek.base, ek.ae, ek.oe, ek.ve, frz_none (by simp)⟩ fun h' tk x => k h' tk _ [D.oc] x (fun b hb => ⟨fX b hb, frz_none (by simp at hb; simp [hb])⟩) rfl
  · exact told_isf_none (s := { s with heap := h₂, toks := tk₂ }) Gz z₂ (by omega) C.toAct.frames l₂ offz hh Tz hw fun h' tk e' a' c'' T' n1 x1 ex => k h' tk _ [] x1 noX ⟨x, ⟨_, _, _, _, rfl, ex⟩⟩
theorem tail_all (F : Final h₀ s.heap L D mA) : wpAny (model prog w) A (execs (tailS a1 a2 a3 a4 a5 a6 b1 b2 b3 b4 b5 b6 q0 q1 q2 q3 q4 q5 q6 q7 q8 q9 q10 q11 q12 q13 q14 q15 q16 q17 q18 q19 q20 q21 q22 q23 q24 q25 q26 q27 q28 q29 q30 q31 q32 q33 q34 q35 q36 q37 q38 q39 q40 q41 q42 q43 q44 q45 q46 q47 q48 q49 q50 q51 q52 q53 q54 q55 q56 q57 q58 q59 q60 q61 q62 q63 q64 q65 q66 q67 q68 q69 q70 q71 q72 q73 q74 q75 q76 q77 q78 q79 q80 q81 q82 q83 q84 q85 q86 q87 q88 q89 q90 q91 q92 q93 q94 q95 q96 q97 q98 q99 q100 q101 q102 q103 q104 q105 q106 q107 q108 q109 q110 q111 q112 q113 q114 q115 q116 q117 q118 q119 q120 q121 q122 q123 q124 q125 q126 q127 q128 q129 q130 q131 q132 q133 q134 q135 q136 q137 q138 q139 q140 q141 q142 q143 q144 q145) env) Q E s := by
  obtain ⟨hnum, hden, q | q | q | q | q | q | q | q⟩ := F
  · exact tail_gone (EX := []) G hB h71 h85 C hroom hu hh hl0 hoff T S h (.inl q.1) (fun e he => nomatch he) (fun e he => nomatch he) (by simp) (fun Z => .inl ⟨q.2.1, rfl⟩) q.2.2 hnum hden
  · exact tail_1 G hB h71 h85 C hroom hu hh hl0 hoff T S h q.1 q.2.1 q.2.2
  · obtain ⟨q1, ⟨e, a0, ⟨f, cc, c', hf, F, ff, fcc⟩, X, fe, n1, n2, n3⟩, q3⟩ := q
    refine tail_gone (EX := [e]) G hB h71 h85 C hroom hu hh hl0 hoff T S h (.inr q1) (fun e' he => by rw [List.mem_singleton.mp he]; exact X.flier) (fun e' he => by rw [List.mem_singleton.mp he]; exact fe) (by simpa using n1.symm) (fun Z => .inr ⟨f, e, a0, hf, Z.ask F ff fcc, X, frz_none (by simp), rfl⟩) q3 hnum hden
  · exact tail_3 G hB h71 h85 C hroom hu hh hl0 hoff T S h q.1 q.2.1 q.2.2
  · exact tail_4 G hB h71 h85 C hroom hu hh hl0 hoff T S h q.1 q.2.1 q.2.2
  · exact tail_5 G hB h71 h85 C hroom hu hh hl0 hoff T S h q.1 q.2.1 q.2.2
  · exact tail_6 G hB h71 h85 C hroom hu hh hl0 hoff T S h q.1 q.2.1 q.2.2
  · exact tail_7 G hB h71 h85 C hroom hu hh hl0 hoff T S h q.1 q.2.1 q.2.2
end
end
end Kq
end
section
open PySem PySem.W PySem.Spec PySem.Calls PyProof.Rows
open Builtin Builtin.ObjectAttr Builtin.Getset_descriptor
set_option maxRecDepth 100000
namespace Kq
variable {prog : Program} {w : World} {A : Around} {E : Value → Shared → Prop} {B : Heap} {mg mb : Str → Option Value} {s : Shared}
section
variable {outer : List Env} {R : Result → Shared → Prop}
set_option maxHeartbeats 2000000 in
theorem holds_call {n : Int} {t : Tok} (G : G0 w B mg mb) (hB : B.StaysIn s.heap) (h71 : B.get? 71 = none) (h85 : B.get? 85 = none) (hroom : A.depth + 5 < recursionLimit) (hu : A.units + 67 < cLine) (hh : A.handled = none) (hfr : A.frames = some outer) (hl : Frs s.heap outer) (hoff : ∀ a ∈ fr outer, B.get? a = none)
    (t71 : Tab s.heap 71 qR) (t85 : Tab s.heap 85 qH)
    (h : ∀ h' tk, Ext ([71, 85] ++ fr outer) s.heap h' → Tab h' 71 qR → Tab h' 85 qH → R (.ok (.ret (.bool true))) { s with heap := h', toks := tk }) :
    codeAny (model prog w) A (.call (.ref 90) ⟨[.int n t], []⟩) R s := by
  have h90 := G.X 90 _ rfl
  refine codeAny_call_cells (binds := [("x", .int n t)]) (by omega) (hB _ _ h90) rfl (G.nolimit.keeps hB) ((codeRec_of G.X rfl).keeps hB) rfl rfl rfl (fun y hy => by rw [List.mem_singleton.mp hy]; exact .inl rfl) fun s₁ x => ?_
  obtain ⟨h₁, tk, rfl⟩ := x.toInCall.same
  have k₁ : s.heap.StaysIn h₁ := x.toInCall.keep
  have c1 : h₁.IsCell (s.heap.objs.size + 1) none := x.cell "empty" _ rfl
  have c2 : h₁.IsCell (s.heap.objs.size + 2) none := x.cell "pair" _ rfl
  have c3 : h₁.IsCell (s.heap.objs.size + 3) none := x.cell "top" _ rfl
  have hns := x.toInCall.ns
  have fb : FB s.heap s.heap.objs.size h₁ _ none none none := ⟨.of k₁, Nat.le_refl _, hns, c1, c2, c3⟩
  have e1 : A.depth + 1 < recursionLimit := by omega
  have e2 : A.depth + 1 + 4 < recursionLimit := by omega
  have e3 : A.units + 3 + 64 < cLine := by omega
  refine setup (s := { s with heap := h₁, toks := tk }) G hB ?C hh fb rfl t71 t85 fun h₂ tk₂ m' D T S =>
    lay_all (s := { s with heap := h₂, toks := tk₂ }) G hB h71 h85 ?C e1 T S fun h₃ tk₃ dx' mA' S' F =>
      tail_all (s := { s with heap := h₃, toks := tk₃ }) G hB h71 h85 ?C e2 e3 hh hl hoff T S' (fun h' tk' x' a b => h h' tk' x' a b) F
  exact ⟨⟨rfl, rfl, rfl, rfl, rfl, Around.frames_deeper hfr⟩, rfl, rfl, rfl, rfl, rfl, rfl, rfl, rfl, (fun y hy => by
    simp only [List.mem_cons, List.not_mem_nil, or_false] at hy
    rcases hy with rfl | rfl | rfl | rfl | rfl | rfl | rfl | rfl | rfl <;> rfl), (fun y hy => by
    simp only [List.mem_cons, List.not_mem_nil, or_false] at hy
    rcases hy with rfl | rfl | rfl | rfl | rfl | rfl | rfl | rfl | rfl | rfl | rfl | rfl | rfl | rfl <;> rfl)⟩
end
end Kq
end
section
open PySem PySem.W PySem.Spec PySem.Calls PyProof.Rows
open Builtin Builtin.ObjectAttr Builtin.Getset_descriptor
set_option maxRecDepth 100000
namespace Kq
variable {prog : Program} {w : World} {A : Around} {E : Value → Shared → Prop} {mg mb : Str → Option Value} {s : Shared}
theorem among_mem {pos : Pos} {v : Value} : ∀ (l : List Value), codeAmong pos l = some v → v ∈ l
  | .int _ _ :: .int _ _ :: c :: rest, h => by
    simp only [codeAmong] at h
    split at h
    · cases h; simp
    · have := among_mem rest h; simp [this]
  | [], h => by simp [codeAmong] at h
  | [_], h => by simp [codeAmong] at h
  | [_, _], h => by simp [codeAmong] at h
  | .none :: _ :: _ :: _, h => by simp [codeAmong] at h
  | .bool _ :: _ :: _ :: _, h => by simp [codeAmong] at h
  | .float _ _ :: _ :: _ :: _, h => by simp [codeAmong] at h
  | .str _ _ :: _ :: _ :: _, h => by simp [codeAmong] at h
  | .ref _ :: _ :: _ :: _, h => by simp [codeAmong] at h
  | _ :: _ :: _ :: _, h => by
    unfold codeAmong at h
    split at h
    · rename_i e; cases e
      split at h
      · cases h; simp
      · have := among_mem _ h; simp [this]
    · cases h
section
variable {env : Env} {h₀ : Heap} {Q : Flow → Shared → Prop} {p1 p2 p3 p4 p5 p6 p7 : Pos}
def TabIn (h₀ : Heap) (nx : List (Addr × Obj)) (P : Addr) (q : Str) : Prop :=
  ∃ ps, (P, tabObj ps) ∈ nx ∧ TriplesOk ps.toList ∧ ∀ pos cv, codeAmong pos ps.toList = some cv → ∃ c', cv = .ref c' ∧ c' ≠ P ∧ (h₀.CodeRec (.ref c') q ∨ ∃ oc vs t, (c', oc) ∈ nx ∧ oc.data = .fields vs ∧ vs[1]? = some (.str q t))
theorem TabIn.tab {h : Heap} {nx : List (Addr × Obj)} {P : Addr} {q : Str} (x : TabIn h₀ nx P q) (k : h₀.StaysIn h) (N : ∀ p ∈ nx, h.get? p.1 = some p.2) : Tab h P q := by
  obtain ⟨ps, hm, ht, hr⟩ := x
  refine ⟨ps, N _ hm, ht, fun pos cv z => ?_⟩
  obtain ⟨c', e, hn, hc⟩ := hr pos cv z
  refine ⟨c', e, ?_, hn⟩
  rcases hc with hc | ⟨oc, vs, t, hm', hd, hv⟩
  · exact hc.keeps k
  · exact ⟨c', oc, vs, t, rfl, N _ hm', hd, hv⟩
theorem ledger (h : Heap) (L I : Addr) : ∀ l : List Value, ∃ nx : List (Addr × Obj), (∀ p ∈ nx, h.get? p.1 = some p.2 ∧ p.1 ≠ L ∧ h₀.get? p.1 = none ∧ p.1 ≠ I) ∧ ∀ c o, .ref c ∈ l → h.get? c = some o → c ≠ L → c ≠ I → h₀.get? c = none → (c, o) ∈ nx
  | [] => ⟨[], (fun p hp => nomatch hp), (fun c o hc => nomatch hc)⟩
  | v :: r => by
    obtain ⟨nx, h1, h2⟩ := ledger h L I r
    by_cases hv : ∃ c o, v = .ref c ∧ h.get? c = some o ∧ c ≠ L ∧ c ≠ I ∧ h₀.get? c = none
    · obtain ⟨c, o, rfl, ho, n1, n2, n3⟩ := hv
      refine ⟨(c, o) :: nx, fun p hp => ?_, fun c' o' hc ho' m1 m2 m3 => ?_⟩
      · rcases List.mem_cons.mp hp with rfl | hp
        · exact ⟨ho, n1, n3, n2⟩
        · exact h1 p hp
      · rcases List.mem_cons.mp hc with e | hc
        · cases e; rw [ho] at ho'; cases ho'; exact .head _
        · exact .tail _ (h2 c' o' hc ho' m1 m2 m3)
    · refine ⟨nx, h1, fun c' o' hc ho' m1 m2 m3 => ?_⟩
      rcases List.mem_cons.mp hc with e | hc
      · exact absurd ⟨c', o', e.symm, ho', m1, m2, m3⟩ hv
      · exact h2 c' o' hc ho' m1 m2 m3
theorem TabIn.of {h : Heap} {L I P : Addr} {q : Str} {ps : Array Value} {nx : List (Addr × Obj)} {m : Str → Option Value} {ln : Addr} {i : Nat} (hm : (P, tabObj ps) ∈ nx) (ht : TriplesOk ps.toList) (hr : ∀ pos cv, codeAmong pos ps.toList = some cv → ∃ c', cv = .ref c' ∧ h.CodeRec (.ref c') q ∧ c' ≠ P) (ns : h.Ns L m) (it : h.IsListIter I ln i) (k : h₀.StaysIn h)
    (hc : ∀ c o, .ref c ∈ ps.toList → h.get? c = some o → c ≠ L → c ≠ I → h₀.get? c = none → (c, o) ∈ nx) : TabIn h₀ nx P q := by
  refine ⟨ps, hm, ht, fun pos cv z => ?_⟩
  obtain ⟨c', rfl, rc, hn⟩ := hr pos cv z
  obtain ⟨c₂, oc, vs, t, e, ho, hd, hv⟩ := rc
  cases e
  refine ⟨c', rfl, hn, ?_⟩
  cases h0 : h₀.get? c' with
  | some o =>
    have := k _ _ h0
    rw [ho] at this; cases this
    exact .inl ⟨c', oc, vs, t, rfl, h0, hd, hv⟩
  | none =>
    refine .inr ⟨oc, vs, t, hc c' oc (among_mem _ z) ho (fun q => ?_) (fun q => ?_) h0, hd, hv⟩
    · obtain ⟨o', es, ep, ho', hd', _⟩ := ns
      rw [q, ho'] at ho; cases ho; rw [hd] at hd'; cases hd'
    · obtain ⟨o', ho', hc', hd'⟩ := it
      rw [q, ho'] at ho; cases ho; rw [hd] at hd'; cases hd'; cases hv
abbrev turnS (p1 p2 p3 p4 p5 p6 p7 : Pos) : List Stmt :=
  [.If (.UnaryOp .Not (.Call (.Name "_law_holds" p1) [.Name "x" p2] [] p3) p4) [.Return (some (.Constant (.bool false) 0 p5)) p6] [] p7]
theorem law_loop {D' : Addr} {ws : List Value} {ns : List Int} {m₀ : Str → Option Value} (G : G0 w h₀ mg mb) (C : Act env env.locals A []) (hh : A.handled = none) (hroom : A.depth + 5 < recursionLimit) (hu : A.units + 67 < cLine) (kx : env.kindOf "x" = some .local) (kh : env.kindOf "_law_holds" = some .globalImplicit)
    (F : Fr h₀ env.locals s.heap m₀) (hD : s.heap.get? D' = some (listOf ws.toArray 0) ∧ D' ≠ env.locals ∧ h₀.get? D' = none) (h71 : s.heap.get? 71 = some (tabObj #[]) ∧ 71 ≠ env.locals ∧ h₀.get? 71 = none) (h85 : s.heap.get? 85 = some (tabObj #[]) ∧ 85 ≠ env.locals ∧ h₀.get? 85 = none) (hi : IntsAre ws ns)
    (done : ∀ h' tk m', Fr h₀ env.locals h' m' → GrownAll [(75, 71), (89, 85)] h' → Q .next { s with heap := h', toks := tk }) :
    wpAny (model prog w) A (pyIter (.ref D')) (fun it s₂ => LoopAtV prog w A h₀ env "x" (turnS p1 p2 p3 p4 p5 p6 p7) Q E it s₂) E s := by
  have hls : s.heap.IsList D' ws.toArray := ⟨_, hD.1, rfl, 0, rfl⟩
  have hne : D' ≠ s.heap.objs.size := Nat.ne_of_lt (Heap.lt_size hD.1)
  refine wpAny_pyIter_list hls ?_
  have W := Walks.list (prog := prog) (w := w) hh s.heap.objs.size D' hne ws.toArray
  have Ilt := none_of_ge (Nat.le_refl s.heap.objs.size)
  have offI : ∀ b o, s.heap.get? b = some o → b ≠ s.heap.objs.size := fun b o q z => by rw [z, Ilt] at q; cases q
  have pu : ∀ b o, s.heap.get? b = some o → (s.heap.push { cls := .type "list_iterator", data := .fields #[.ref D', .int 0 0] }).get? b = some o := fun b o q => Heap.get?_push_of_some _ q
  refine ⟨s.heap.objs.size, [s.heap.objs.size, D'], [s.heap.objs.size], ws.toArray.size, _, _, m₀, [(D', listOf ws.toArray 0), (71, tabObj #[]), (85, tabObj #[])], (fun i m nx => (D', listOf ws.toArray 0) ∈ nx ∧ TabIn h₀ nx 71 qR ∧ TabIn h₀ nx 85 qH), rfl, W, ?_, ?_, ?_, ⟨⟨_, Heap.get?_push_size _ rfl, rfl, rfl⟩, hls.at fun o e => Heap.get?_push_of_some _ e⟩, F.push _, ?_, ?_, ?_, ?_⟩
  · intro hm
    rcases List.mem_cons.mp hm with e | hm
    · exact absurd F.ns.lt (e ▸ Nat.lt_irrefl _)
    · exact hD.2.1 ((List.mem_singleton.mp hm).symm)
  · intro b hb
    rw [List.mem_singleton.mp hb]
    exact none_of_ge (Nat.le_trans F.above (Nat.le_of_lt F.ns.lt))
  · intro p hp hI
    have e := List.mem_singleton.mp hI
    simp only [List.mem_cons, List.not_mem_nil, or_false] at hp
    rcases hp with rfl | rfl | rfl
    · exact offI _ _ hD.1 e
    · exact offI _ _ h71.1 e
    · exact offI _ _ h85.1 e
  · intro p hp
    simp only [List.mem_cons, List.not_mem_nil, or_false] at hp
    rcases hp with rfl | rfl | rfl
    · exact ⟨pu _ _ hD.1, hD.2⟩
    · exact ⟨pu _ _ h71.1, h71.2⟩
    · exact ⟨pu _ _ h85.1, h85.2⟩
  · exact ⟨by simp, ⟨#[], by simp, trivial, fun _ _ z => by simp [codeAmong] at z⟩, ⟨#[], by simp, trivial, fun _ _ z => by simp [codeAmong] at z⟩⟩
  · rintro i v m₁ news₁ s₁ own ⟨hp, tk, rfl⟩ hin hP ⟨hDm, T71, T85⟩ hoff hown hget hfp st F₁ N₁
    have st0 : h₀.StaysIn hp := F₁.keep
    have nw : ∀ p ∈ news₁, hp.get? p.1 = some p.2 := fun p hp' => (N₁ p (List.mem_append_right _ hp')).1
    have t71 := T71.tab st0 nw
    have t85 := T85.tab st0 nw
    have hlt' : i < ns.length := by rw [← hi.length]; simpa using hin
    obtain ⟨t, hx⟩ := hi.get i ns[i] (by simp [hlt'])
    have hv : v = .int ns[i] t := by
      have hP' : ws[i]? = some v := by simpa using hP
      rw [hx] at hP'; exact (Option.some.inj hP').symm
    subst hv
    have ef : fr [env] = [env.locals] := by simp [fr, C.frame]
    have l₁ : Frs hp [env] := .cons (by rw [C.kind]; decide) C.frame F₁.ns (empty_get _) trivial
    have hL0 : h₀.get? env.locals = none := none_of_ge F₁.above
    have o90 : ∃ o fd, h₀.get? 90 = some o ∧ o.data = .func fd := ⟨_, _, G.X 90 _ rfl, rfl⟩
    obtain ⟨o90, f90, g90, d90⟩ := o90
    refine wpAny_execs_cons (wpAny_If (wpAny_isTrue_Not (wpAny_isTrue_value (Call_Name (trees := [(false, eval (.Name "x" p2) env)]) rfl ?_))))
    refine name_g (s := { s with heap := hp, toks := tk }) (v := .ref 90) G st0 (by rfl) ?_ C.kind C.glob kh
    refine call1 (o := o90) (fd := f90) (name_l (s := { s with heap := hp, toks := tk }) C F₁.ns kx (if_pos rfl) ⟨⟨st0 _ _ g90, d90⟩, ?_⟩)
    refine holds_call (s := { s with heap := hp, toks := tk }) G st0 h71.2.2 h85.2.2 hroom hu hh C.frames l₁ (fun a ha => by rw [ef] at ha; rw [List.mem_singleton.mp ha]; exact hL0) t71 t85 fun h' tk' x' r71 r85 => ?_
    refine wpAny_truthy_bool ?_
    simp only [Bool.not_true, Bool.false_eq_true, if_false]
    refine wpAny_pure (wpAny_pure (LoopStepV.next ?_))
    have ns' := x'.ns F₁.ns
    have st' : h₀.StaysIn h' := x'.base st0 fun b hb => by
      rcases List.mem_append.mp hb with hb | hb
      · rcases List.mem_cons.mp hb with rfl | hb
        · exact h71.2.2
        · rw [List.mem_singleton.mp hb]; exact h85.2.2
      · rw [ef] at hb; rw [List.mem_singleton.mp hb]; exact hL0
    obtain ⟨ps, a1, a2, a3⟩ := r71
    obtain ⟨ps', c1, c2, c3⟩ := r85
    obtain ⟨nx, q1, q2⟩ := ledger (h₀ := h₀) h' env.locals s.heap.objs.size (ps.toList ++ ps'.toList)
    have o71 : ∃ ps₀, hp.get? 71 = some (tabObj ps₀) := let ⟨q, e, _⟩ := t71; ⟨q, e⟩
    have o85 : ∃ ps₀, hp.get? 85 = some (tabObj ps₀) := let ⟨q, e, _⟩ := t85; ⟨q, e⟩
    obtain ⟨u71, e71⟩ := o71
    obtain ⟨u85, e85⟩ := o85
    have keepo : ∀ b o, hp.get? b = some o → o.cls ≠ .none → b ≠ env.locals → h'.get? b = some o := fun b o ho hc hb => x'.keep b o ho fun z => by
      rcases List.mem_append.mp z with z | z
      · rcases List.mem_cons.mp z with z | z
        · rw [z] at ho; rw [e71] at ho; cases ho; exact hc rfl
        · rw [List.mem_singleton.mp z] at ho; rw [e85] at ho; cases ho; exact hc rfl
      · rw [ef] at z; exact hb (List.mem_singleton.mp z)
    have hDl : hp.get? D' = some (listOf ws.toArray 0) := nw _ hDm
    have D2 : h'.get? D' = some (listOf ws.toArray 0) := keepo _ _ hDl (by show Value.type "list" ≠ Value.none; decide) hD.2.1
    obtain ⟨⟨oI, hoI, hcI, hdI⟩, _⟩ := st
    have I2 : h'.get? s.heap.objs.size = some oI := keepo _ _ hoI (by rw [hcI]; decide) (Nat.ne_of_gt F.ns.lt)
    refine LoopStepU.intro (news₂ := (D', listOf ws.toArray 0) :: (71, tabObj ps) :: (85, tabObj ps') :: nx) (m₂ := fun y => if y = "x" then some (.int ns[i] t) else m₁ y) ⟨ns', st', F₁.above⟩ (fun p hp' => ?_) (fun p hp' hI => ?_) ⟨.head _, ?_, ?_⟩
    · rcases List.mem_append.mp hp' with hp' | hp'
      · obtain ⟨r1, r2, r3⟩ := N₁ p (List.mem_append_left _ hp')
        refine ⟨?_, r2, r3⟩
        rcases List.mem_cons.mp (hown p hp') with e | e
        · rw [e, hoI] at r1; rw [e, ← r1]; exact I2
        · rw [List.mem_singleton.mp e, hDl] at r1; rw [List.mem_singleton.mp e, ← r1]; exact D2
      · simp only [List.mem_cons] at hp'
        rcases hp' with rfl | rfl | rfl | hp'
        · exact ⟨D2, hD.2⟩
        · exact ⟨a1, h71.2⟩
        · exact ⟨c1, h85.2⟩
        · exact ⟨(q1 p hp').1, (q1 p hp').2.1, (q1 p hp').2.2.1⟩
    · have e := List.mem_singleton.mp hI
      simp only [List.mem_cons] at hp'
      rcases hp' with rfl | rfl | rfl | hp'
      · exact offI _ _ hD.1 e
      · exact offI _ _ h71.1 e
      · exact offI _ _ h85.1 e
      · exact (q1 p hp').2.2.2 e
    · exact TabIn.of (ps := ps) (.tail _ (.head _)) a2 a3 ns' ⟨oI, I2, hcI, hdI⟩ st' fun c o m1 m2 m3 m4 m5 => .tail _ (.tail _ (.tail _ (q2 c o (List.mem_append_left _ m1) m2 m3 m4 m5)))
    · exact TabIn.of (ps := ps') (.tail _ (.tail _ (.head _))) c2 c3 ns' ⟨oI, I2, hcI, hdI⟩ st' fun c o m1 m2 m3 m4 m5 => .tail _ (.tail _ (.tail _ (q2 c o (List.mem_append_right _ m1) m2 m3 m4 m5)))
  · rintro h' tk m' news' F' N' _ ⟨_, T71, T85⟩
    obtain ⟨ps, e1, _⟩ := T71
    obtain ⟨ps', e2, _⟩ := T85
    exact done h' tk m' F' ⟨⟨ps, (N' _ e1).1⟩, ⟨ps', (N' _ e2).1⟩, trivial⟩
end
end Kq
end
section
open PySem PySem.W PySem.Spec PySem.Calls PyProof.Rows
namespace Kq
theorem G0.ofTop {w : World} {h : Heap} {p : Program} {loose : List Str} {mean : ExcName → Option Value} {mg mb : Str → Option Value} (X : (hd.heap_39 w.params).In h) (T : Top p loose mean mg mb h) : G0 w h mg mb := ⟨X, T.g, T.b, T.nolimit, T.builtins, T.bmain⟩
end Kq
local macro_rules | `(tactic| walk_at "exec For Name BinOp cons nil") => `(tactic| (k_here; (rename Fr _ _ _ _ => lF'); (with_unfolding_all refine' For_invVF lF' ?k1 ?k2 ?_; (case k1 => exact rfl); (case k2 => exact rfl); k_whole)))
set_option maxRecDepth 100000 in
set_option maxHeartbeats 8000000 in
theorem PySem.Challenge.cw_kq0024_01_holds : PySem.Challenge.rw_kq0024_01.Holds := by
  exact hd (by
  w_strict (k_go0; (all_goals try k_fold); k_steps)
  rename Frag.In _ (ghostOf _ _) => lX
  rename Top _ _ _ _ _ (ghostOf _ _) => lT
  rename Fr _ _ _ _ => lF
  rename News _ _ _ _ => lN
  rename IntsAre _ (_ ++ _) => lI
  rename _ = #[] => lg
  refine Kq.law_loop (Kq.G0.ofTop lX lT) ⟨rfl, rfl, rfl, rfl, rfl, rfl⟩ rfl ?kqroom ?kqunits rfl rfl lF (lN _ (.head _)) (lN _ (.tail _ (.tail _ (.tail _ (.head _))))) (lN _ (.tail _ (.tail _ (.tail _ (.tail _ (.head _)))))) lI fun h' tk m' F' g' => ?_
  case kqroom => show 1 + claimMargin + 1 + 5 < recursionLimit; decide
  case kqunits => show 4 + 3 + 67 < cLine; decide
  refine wpAny_execs_cons (wpAny_Return_some (wpAny_Constant_bool ⟨⟨.inl ⟨.bool true, .bool true, [], rfl, ?kqr, .bool true, ?kqp, ?kqu⟩, F'.keep, rfl, ?kqg⟩, g'⟩))
  case kqr => intro cls; rfl
  case kqp => exact postW_of (by wrow_shape) (w_eq_bool (w_res rfl) w_lit) rfl
  case kqu => exact fun _ => ⟨List.nodup_nil, fun a ha => nomatch ha⟩
  case kqg => exact lg)
end
