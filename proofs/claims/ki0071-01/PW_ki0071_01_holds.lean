import PyProof.Rows.All
import Wide.All
import OpenK.AllK
import Wide.FinOn
import Lean
import PySem.Challenge.RW_ki0071_01
set_option Elab.async false

open PySem PySem.W PyProof.Rows
namespace Mine
set_option maxRecDepth 100000 in
set_option maxHeartbeats 8000000 in
open_top hd for PySem.Challenge.rw_ki0071_01
end Mine

/-- behind the head the walker is turned back for the defs -/
theorem Mine.turned : True := by
  w_top off
  trivial

/- part E1 -/
section
open PySem PySem.W PyProof.Rows PySem.Calls PySem.Spec
namespace Mine
section
/-- an exception object at e: its class, its context, its newest traceback entry (new beside B) with the flight word -/
def Tr (h B : Heap) (e : Addr) (cls ctx fl : Value) : Prop :=
  ∃ oe vs T oT ts, h.get? e = some oe ∧ oe.cls = cls ∧ oe.data = .fields vs ∧ vs[1]? = some (.ref T) ∧ vs[2]? = some ctx ∧ B.get? T = none ∧ T ≠ e ∧ h.get? T = some oT ∧ oT.data = .fields ts ∧ ts[3]? = some fl
/-- the exception e on its way through the frames l over the kept part B -/
def Fl (B : Heap) (l : List Env) (e : Addr) (cls ctx fl : Value) (h : Heap) : Prop := B.StaysIn h ∧ B.get? e = none ∧ h.FunFrames B l ∧ Tr h B e cls ctx fl
theorem Fl.obj {B h : Heap} {l : List Env} {e : Addr} {cls ctx fl : Value} (x : Fl B l e cls ctx fl h) : ∃ oe vs, h.get? e = some oe ∧ oe.cls = cls ∧ oe.data = .fields vs ∧ vs[2]? = some ctx := by
  obtain ⟨_, _, _, oe, vs, _, _, _, a, b, c, _, d, _⟩ := x
  exact ⟨oe, vs, a, b, c, d⟩
theorem Fl.there {B h : Heap} {l : List Env} {e : Addr} {cls ctx fl : Value} (x : Fl B l e cls ctx fl h) : ∃ oe, h.get? e = some oe ∧ oe.cls = cls := by
  obtain ⟨oe, _, a, b, _⟩ := x.obj
  exact ⟨oe, a, b⟩
theorem Fl.tail {B h : Heap} {env : Env} {l : List Env} {e : Addr} {cls ctx fl : Value} (x : Fl B (env :: l) e cls ctx fl h) : Fl B l e cls ctx fl h :=
  ⟨x.1, x.2.1, x.2.2.1.2.2, x.2.2.2⟩

variable {M : Model} {A : Around} {E : Value → Shared → Prop} {s : Shared} {B : Heap} {env : Env} {outer : List Env} {L e : Addr} {cls ctx fl : Value} {Q : Unit → Shared → Prop}

/-- no object that is not a record stands at a record's place -/
theorem off_rec {h : Heap} {a b : Addr} {o oa : Obj} {vs : Array Value} (hb : h.get? b = some o) (hnf : ∀ ws, o.data ≠ .fields ws) (ha : h.get? a = some oa) (hd : oa.data = .fields vs) : b ≠ a := by
  rintro rfl
  rw [hb] at ha
  cases ha
  exact hnf _ hd

/-- a new entry of the traceback -/
theorem entry_new {head : Value} {had : Bool} {oe : Obj} {vs : Array Value} (hfr : A.frames = some (env :: outer)) (hl : s.heap.FunFrames B (env :: outer)) (hf : env.frame = some L)
    (hB : B.StaysIn s.heap) (hen : B.get? e = none) (he : s.heap.get? e = some oe) (hc : oe.cls = cls) (hd : oe.data = .fields vs) (h1 : 1 < vs.size) (h2 : vs[2]? = some ctx)
    (h : ∀ h', Fl B (env :: outer) e cls ctx (rawInt L) h' → s.heap.UpToSlots h' → Q () { s with heap := h' }) :
    wpAny M A (do let a ← frameOf env; let pl ← entryPlaceOf L had; let b ← EntryCells.newEntry head a .none (rawInt L) .none pl; setField (.ref e) 1 b) Q E s := by
  have hne : e ∉ (env :: outer).filterMap (·.frame) := fun q => by
    obtain ⟨_, o, ho, hx⟩ := hl.mem q
    rw [he] at ho
    cases ho
    exact hx _ hd
  refine wpAny_bind (wpAny_frameOf_fun hfr hl hf fun h₁ z => wpAny_bind (wpAny_entryPlaceOf fun pl hpl => ?_))
  obtain ⟨z1, z2, z3⟩ := z
  have he₁ : h₁.get? e = some oe := by rw [z2 e hne]; exact he
  have hB₁ : B.StaysIn h₁ := fun b o q => by
    rw [z2 b (fun m => by rw [(hl.mem m).1] at q; cases q)]
    exact hB b o q
  unfold EntryCells.newEntry newFields
  refine wpAny_bind (wpAny_newObj_type ?_ (hpl.sizeOk5 _ _ _ _ _))
  generalize hoT : ({ cls := .type "traceback", dict := none, data := .fields ([head, .ref L, .none, rawInt L, .none] ++ (if pl.isEmpty then List.replicate 6 Value.none else pl)).toArray } : Obj) = oT
  have hT : (h₁.push oT).get? h₁.objs.size = some oT := Heap.get?_push_size _ (by rw [← hoT]; rfl)
  have he₂ : (h₁.push oT).get? e = some oe := Heap.get?_push_of_some _ he₁
  have hTe : h₁.objs.size ≠ e := Nat.ne_of_gt (Heap.lt_size he₁)
  refine wpAny_setField he₂ hd h1 (h _ ?_ ?_)
  · have he₃ := Heap.get?_update_self (Obj.mapFields (·.setIfInBounds 1 (Value.ref h₁.objs.size))) he₂ (Obj.isFreed_of_fields (Obj.data_mapFields hd (·.setIfInBounds 1 (Value.ref h₁.objs.size))))
    have keep : ∀ b o, b ≠ e → h₁.get? b = some o → ((h₁.push oT).update e (Obj.mapFields (·.setIfInBounds 1 (Value.ref h₁.objs.size)))).get? b = some o := fun b o n q => by
      rw [Heap.get?_update_other _ _ (Ne.symm n)]
      exact Heap.get?_push_of_some _ q
    refine ⟨fun b o q => keep b o (fun n => by rw [n, hen] at q; cases q) (hB₁ b o q), hen, hl.of_keeps fun b o q hnf => ?_, _, _, h₁.objs.size, oT, ([head, .ref L, .none, rawInt L, .none] ++ (if pl.isEmpty then List.replicate 6 Value.none else pl)).toArray, he₃, ?_, Obj.data_mapFields hd _, ?_, ?_, hB₁.fresh, hTe, ?_, ?_, ?_⟩
    · obtain ⟨sl, hs⟩ := z3 b o q
      exact ⟨_, keep b _ (off_rec q hnf he hd) hs, rfl⟩
    · rw [Obj.cls_mapFields]; exact hc
    · simp [h1]
    · rw [Array.getElem?_setIfInBounds_ne (by decide)]; exact h2
    · rw [Heap.get?_update_other _ _ (Ne.symm hTe)]; exact hT
    · rw [← hoT]
    · first | (simp; done) | (rcases hpl with rfl | ⟨_, _, _, _, _, _, _, rfl⟩ <;> simp)
  · intro b o q hnf
    obtain ⟨sl, hs⟩ := z3 b o q
    exact ⟨sl, by rw [Heap.get?_update_other _ _ (Ne.symm (off_rec q hnf he hd))]; exact Heap.get?_push_of_some _ hs⟩

/-- setFlight turns the flight word alone -/
theorem flight_to {l : List Env} {to : Option Addr} (x : Fl B l e cls ctx fl s.heap)
    (h : ∀ h', Fl B l e cls ctx (to.elim .none fun f => rawInt f) h' → s.heap.UpToSlots h' → Q () { s with heap := h' }) : wpAny M A (setFlight (.ref e) to) Q E s := by
  obtain ⟨hB, hen, hl, oe, vs, T, oT, ts, he, hc, hd, h1, h2, hnT, hTe, hT, hdT, h3⟩ := x
  have h3' : 3 < ts.size := (Array.getElem?_eq_some_iff.mp h3).1
  unfold setFlight
  refine wpAny_bind (wpAny_field he hd h1 ?_)
  rw [if_pos (show (Value.ref T != Value.none) = true from by simp)]
  have other : ∀ b o, b ≠ T → s.heap.get? b = some o → (s.heap.update T (Obj.mapFields (·.setIfInBounds 3 (to.elim Value.none fun f => rawInt f)))).get? b = some o := fun b o n q => by
    rw [Heap.get?_update_other _ _ (Ne.symm n)]; exact q
  refine wpAny_setField hT hdT h3' (h _ ⟨fun b o q => other b o (fun n => by rw [n, hnT] at q; cases q) (hB b o q), hen, hl.of_keeps fun b o q hnf => ⟨o, other b o (off_rec q hnf hT hdT) q, rfl⟩, oe, vs, T, _, _, other e oe (Ne.symm hTe) he, hc, hd, h1, h2, hnT, hTe, Heap.get?_update_self _ hT (Obj.isFreed_of_fields (Obj.data_mapFields hdT _)), Obj.data_mapFields hdT _, ?_⟩ fun b o q hnf => ⟨o.slots, other b o (off_rec q hnf hT hdT) q⟩)
  simp [h3']

/-- noteFrame of one that flies: a new entry, held by this frame -/
theorem note_on (hfr : A.frames = some (env :: outer)) (hf : env.frame = some L) (x : Fl B (env :: outer) e cls ctx .none s.heap)
    (h : ∀ h', Fl B (env :: outer) e cls ctx (rawInt L) h' → s.heap.UpToSlots h' → Q () { s with heap := h' }) : wpAny M A (noteFrame (.ref e) env) Q E s := by
  obtain ⟨hB, hen, hl, oe, vs, T, oT, ts, he, hc, hd, h1, h2, hnT, hTe, hT, hdT, h3⟩ := x
  unfold noteFrame
  simp only [hf]
  refine wpAny_bind (wpAny_field he hd h1 ?_)
  rw [if_pos (show (Value.ref T != Value.none) = true from by simp)]
  refine wpAny_bind (wpAny_field hT hdT h3 ?_)
  rw [if_neg (show ¬ ((Value.none == rawInt L) = true) from by simp [rawInt])]
  refine wpAny_bind (wpAny_setField hT hdT (Array.getElem?_eq_some_iff.mp h3).1 ?_)
  have other : ∀ b o, b ≠ T → s.heap.get? b = some o → (s.heap.update T (Obj.mapFields (·.setIfInBounds 3 Value.none))).get? b = some o := fun b o n q => by
    rw [Heap.get?_update_other _ _ (Ne.symm n)]; exact q
  refine entry_new (s := { s with heap := s.heap.update T (Obj.mapFields (·.setIfInBounds 3 Value.none)) }) hfr (hl.of_keeps fun b o q hnf => ⟨o, other b o (off_rec q hnf hT hdT) q, rfl⟩) hf
    (fun b o q => other b o (fun n => by rw [n, hnT] at q; cases q) (hB b o q)) hen (other e oe (Ne.symm hTe) he) hc hd (Array.getElem?_eq_some_iff.mp h1).1 h2 fun h' x u => ?_
  refine h h' x fun b o q hnf => ?_
  exact u b o (other b o (off_rec q hnf hT hdT) q) hnf

/-- noteFrame of one that this frame holds: nothing -/
theorem note_again (hf : env.frame = some L) {l : List Env} (x : Fl B l e cls ctx (rawInt L) s.heap) (h : Q () s) : wpAny M A (noteFrame (.ref e) env) Q E s := by
  obtain ⟨hB, hen, hl, oe, vs, T, oT, ts, he, hc, hd, h1, h2, hnT, hTe, hT, hdT, h3⟩ := x
  unfold noteFrame
  simp only [hf]
  refine wpAny_bind (wpAny_field he hd h1 ?_)
  rw [if_pos (show (Value.ref T != Value.none) = true from by simp)]
  refine wpAny_bind (wpAny_field hT hdT h3 ?_)
  rw [if_pos (show (rawInt L == rawInt L) = true from by simp)]
  exact wpAny_pure h

/-- an exception object just made, with the context that raise gave it -/
structure Made (h h' : Heap) (e : Addr) (cls ctx : Value) : Prop where
  keeps : ∀ b o, h.get? b = some o → h'.get? b = some o
  new : h.get? e = none
  there : ∃ oe t, h'.get? e = some oe ∧ oe.cls = cls ∧ oe.data = .fields #[t, .none, ctx, .none, .bool false, .none]

/-- a new exception leaves the frame it was raised in -/
theorem leave_first {h : Heap} (hfr : A.frames = some (env :: outer)) (hl : h.FunFrames B (env :: outer)) (hf : env.frame = some L) (hB : B.StaysIn h) (hx : Made h s.heap e cls ctx)
    (hQ : ∀ h', Fl B outer e cls ctx .none h' → h.UpToSlots h' → Q () { s with heap := h' }) : wpAny M A (leaving env (.ref e)) Q E s := by
  obtain ⟨oe, t, he, hc, hd⟩ := hx.there
  have hen : B.get? e = none := by
    cases q : B.get? e with
    | none => rfl
    | some o => have := hB e o q; rw [hx.new] at this; cases this
  unfold leaving noteFrame
  simp only [hf]
  refine wpAny_bind (wpAny_bind (wpAny_field (i := 1) (x := Value.none) he hd rfl ?_))
  rw [if_neg (by decide)]
  refine entry_new hfr (hl.of_keeps fun b o q _ => ⟨o, hx.keeps b o q, rfl⟩) hf (fun b o q => hx.keeps b o (hB b o q)) hen he hc hd (by simp) rfl fun h₁ x u => ?_
  refine flight_to (s := { s with heap := h₁ }) x fun h₂ y v => hQ h₂ y.tail ?_
  exact ((Heap.UpToSlots.of_keeps hx.keeps).trans u).trans v
/-- a flying exception leaves a frame -/
theorem leave_next (hfr : A.frames = some (env :: outer)) (hf : env.frame = some L) (x : Fl B (env :: outer) e cls ctx .none s.heap)
    (hQ : ∀ h', Fl B outer e cls ctx .none h' → s.heap.UpToSlots h' → Q () { s with heap := h' }) : wpAny M A (leaving env (.ref e)) Q E s := by
  unfold leaving
  refine wpAny_bind (note_on hfr hf x fun h₁ y u => ?_)
  exact flight_to (s := { s with heap := h₁ }) y fun h₂ z v => hQ h₂ z.tail (u.trans v)
/-- one that the frame holds leaves it -/
theorem leave_held (hf : env.frame = some L) (x : Fl B (env :: outer) e cls ctx (rawInt L) s.heap)
    (hQ : ∀ h', Fl B outer e cls ctx .none h' → s.heap.UpToSlots h' → Q () { s with heap := h' }) : wpAny M A (leaving env (.ref e)) Q E s := by
  unfold leaving
  refine wpAny_bind (note_again hf x ?_)
  exact flight_to x fun h₂ z v => hQ h₂ z.tail v
end
end Mine
end

/- part E2 -/
section
open PySem PySem.W PyProof.Rows PySem.Calls PySem.Spec
set_option maxRecDepth 100000
namespace Mine

theorem se_new_entry : entryFor table "BaseException.__new__" = some Builtin.«BaseException.__new__» := entryFor_of_fast (by kernel_rfl)
theorem se_init_entry : entryFor table "SystemExit.__init__" = some Builtin.«SystemExit.__init__» := entryFor_of_fast (by kernel_rfl)
theorem be_init_entry : entryFor table "BaseException.__init__" = some Builtin.«BaseException.__init__» := entryFor_of_fast (by kernel_rfl)
theorem se_self : isSubtype (.type "SystemExit") (.type "SystemExit") = pure true := by rw [isSubtype_type]; kernel_rfl
theorem se_base : isSubtype (.type "SystemExit") (.type "BaseException") = pure true := by rw [isSubtype_type]; kernel_rfl
theorem se_attr : isSubtype (.type "SystemExit") (.type "AttributeError") = pure false := by rw [isSubtype_type]; kernel_rfl
theorem se_name : isSubtype (.type "SystemExit") (.type "NameError") = pure false := by rw [isSubtype_type]; kernel_rfl
theorem se_meta : (Value.type ((Manifest.find? "SystemExit").elim "type" (·.metatype)) == Value.type "type") = true := by decide +kernel
theorem se_init : Slot "SystemExit" "__init__" "SystemExit.__init__" :=
  .of (owner := "SystemExit") (n := "__init__") (by rw [typeLookup_type, builtinLookup_eq_fast]; kernel_rfl) (by decide +kernel) (by decide +kernel) (by decide +kernel)
    (by first | exact .inl (by decide +kernel) | exact .inr (by decide +kernel)) (by rw [isSubtype_type]; kernel_rfl)
theorem se_mro : (fastBuiltinMro "SystemExit").map (·.isEmpty) = some false := by kernel_rfl
theorem se_typeCall (rest : List Value) : checkTypeCall "SystemExit" ⟨rest, []⟩ = pure () := by kernel_rfl
theorem se_madeBy : Bind.madeBy (.type "SystemExit") = pure (some "BaseException.__new__") := by kernel_rfl
theorem se_newCheck : checkBuiltinCall "BaseException.__new__" ⟨[.type "SystemExit"], []⟩ = pure () := by kernel_rfl
theorem se_madeHere : Bind.madeHere "BaseException.__new__" (.type "SystemExit") = pure () := by kernel_rfl
theorem se_canNew : (((Manifest.find? "SystemExit").bind (·.mro.findSome? fun (t : String) => (Manifest.find? t).bind fun b => if b.noNew then some true else if b.attrs.any (·.1 == "__new__") then some false else none)).getD false) = false := by decide +kernel

section
variable {prog : Program} {w : World} {A : Around} {E : Value → Shared → Prop} {s : Shared}

theorem se_make {Q : Value → Shared → Prop}
    (h : Q (.ref (s.heap.push { cls := .type "tuple", data := .seq #[] }).objs.size) { s with heap := (s.heap.push { cls := .type "tuple", data := .seq #[] }).push { cls := .type "SystemExit", data := .fields #[.ref s.heap.objs.size, .none, .none, .none, .bool false, .none] } }) :
    wpAny (model prog w) A (call (.builtin "BaseException.__new__") [.type "SystemExit"]) Q E s := by
  refine call_builtin_at (by decide +kernel) se_new_entry se_newCheck ?_
  unfold Builtin.«BaseException.__new__»
  refine PyProof.Rows.wpAt_bind (wpAt_owner rfl (by decide +kernel) (wpAt_of_any ?_))
  dsimp only
  refine wpAny_bind (m := isType _) (wpAny_of_eq (a := true) rfl ?_)
  simp only [Bool.not_true, Bool.false_eq_true, if_false]
  refine wpAny_bind (wpAny_of_eq (a := true) (by first | exact se_base | (rw [isSubtype_type]; kernel_rfl)) ?_)
  simp only [Bool.not_true, Bool.false_eq_true, if_false]
  refine wpAny_bind (wpAny_of_eq se_madeHere ?_)
  refine wpAny_bind (wpAny_of_eq (a := 0) ?own ?_)
  case own =>
    show (do
      if ← isSubtype (.type "SystemExit") (.type "AttributeError") then return 2
      if ← isSubtype (.type "SystemExit") (.type "NameError") then return 1
      return 0 : Sem Nat) = pure 0
    simp only [se_attr, se_name, pure_bind, Bool.false_eq_true, if_false]
  unfold newTuple
  refine wpAny_bind (wpAny_newObj_type (wpAny_bind (wpAny_newObj_type (wpAny_pure ⟨_, rfl, ?_⟩) (by size_fits))) (by size_fits))
  first
    | exact h
    | simpa using h

theorem se_checkInit {M : Model} {self : Value} {Q : Unit → Shared → Prop} (hT : s.TypeIs self "SystemExit") (hQ : Q () s) :
    wpAny M A (checkBuiltinCall "SystemExit.__init__" ⟨[self], []⟩) Q E s := by
  have k1 : builtinKind "SystemExit.__init__" = some .slot := by decide +kernel
  have k2 : splitId "SystemExit.__init__" = some ("SystemExit", "__init__") := by decide +kernel
  have k3 : Manifest.signature? "SystemExit.__init__" = some ⟨.positional, "*", "SystemExit", .self, [⟨"args", .varPos, false⟩]⟩ := by kernel_rfl
  simp only [checkBuiltinCall, k1, k2, k3]
  refine wpAny_bind (wpAny_isInstance hT se_self ?_)
  simp only [Bool.not_true, Bool.false_eq_true, if_false]
  unfold Bind.checkArgs
  dsimp only
  refine wpAny_bind (m := Bind.printed "*" true _ _) (printed_star (self := self) rfl hT fun full => ?_)
  refine wpAny_bind (m := Bind.printed "SystemExit" false _ _) (printed_name (by decide) ?_)
  show wpAny M A (Sem.onRaise (Bind.check _ full "SystemExit" _ []) _) Q E s
  rw [check_varPos]
  exact wpAny_pure hQ

theorem se_doInit {e : Addr} {ob : Obj} {vs : Array Value} {t0 : Addr} {Q : Value → Shared → Prop}
    (he : s.heap.get? e = some ob) (hcls : ob.cls = .type "SystemExit") (hd : ob.data = .fields vs) (h0 : vs[0]? = some (.ref t0))
    (h : Q .none { s with heap := (s.heap.push { cls := .type "tuple", data := .seq #[] }).update e (Obj.mapFields (·.setIfInBounds 0 (.ref s.heap.objs.size))) }) :
    wpAny (model prog w) A (call (.builtin "SystemExit.__init__") [.ref e]) Q E s := by
  have hT : s.TypeIs (.ref e) "SystemExit" := ⟨ob, he, hcls⟩
  refine wpAny_call (codeAny_call_builtin se_init.plain se_init_entry (se_checkInit hT ?_))
  unfold Builtin.«SystemExit.__init__»
  dsimp only
  refine wpAny_bind (wpAny_runValue (codeAny_builtin be_init_entry ?_))
  unfold Builtin.«BaseException.__init__»
  dsimp only
  rw [if_neg (by simp)]
  unfold newTuple Builtin.BaseException.bexcPut
  have hsz : 0 < vs.size := (Array.getElem?_eq_some_iff.mp h0).1
  have he₁ := Heap.get?_push_of_some (h := s.heap) { cls := .type "tuple", data := .seq #[] } he
  refine wpAny_bind (wpAny_newObj_type (wpAny_bind (wpAny_bind (wpAny_field he₁ hd h0 (wpAny_bind (wpAny_setField he₁ hd hsz ?_))))) (by size_fits))
  refine wpAny_letGo (wpAny_pure ?_)
  dsimp only
  exact wpAny_bind (wpAny_rule (wpAny_pure h))

theorem se_call {Q : Value → Shared → Prop} (h : ∀ h' e, Heap.NewExc s.heap h' e "SystemExit" → Q (.ref e) { s with heap := h' }) :
    wpAny (model prog w) A (call (.type "SystemExit") []) Q E s := by
  refine wpAny_call (codeAny_of_tree ?_)
  show wpAny _ _ (callAny (.type "SystemExit") ⟨[], []⟩) _ _ s
  simp only [callAny]
  refine wpAny_pure ⟨Code.quiet_builtin _ (by decide +kernel), codeAny_builtin entry_type_call ?_⟩
  rw [Around.under_plain (weight_type_call "SystemExit" _ _) (by first | rfl | kernel_rfl | decide +kernel)]
  unfold Builtin.«type.__call__»
  dsimp only
  rw [if_neg (by decide), if_neg (by rw [se_canNew]; exact Bool.false_ne_true)]
  obtain ⟨l, hl, hle⟩ : ∃ l, mroOf (.type "SystemExit") = pure l ∧ l.isEmpty = false := by
    have h := se_mro
    rw [mroOf_type]
    cases hm : fastBuiltinMro "SystemExit" with
    | none => rw [hm] at h; cases h
    | some l => rw [hm] at h; exact ⟨l, rfl, by simpa using h⟩
  refine wpAny_bind (wpAny_of_eq (se_typeCall []) (wpAny_bind (wpAny_of_eq hl ?_)))
  rw [if_neg (by rw [hle]; exact Bool.false_ne_true)]
  refine wpAny_bind (wpAny_of_eq se_madeBy ?_)
  dsimp only
  refine wpAny_bind (wpAny_pure (wpAny_bind (wpAny_holding (se_make ?_))))
  refine wpAny_bind (wpAny_isInstance (T := "SystemExit") ⟨_, Heap.get?_push_size _ rfl, rfl⟩ se_self ?_)
  simp only [Bool.not_true, Bool.false_eq_true, if_false]
  refine wpAny_bind (wpAny_holding (wpAny_callSpecial?_slot (name := Str.ofString "__init__") (T := "SystemExit") ⟨_, Heap.get?_push_size _ rfl, rfl⟩ se_init
    (se_doInit (Heap.get?_push_size _ rfl) rfl rfl rfl ?_)))
  dsimp only
  rw [if_neg (by simp)]
  refine wpAny_pure (h _ _ ⟨fun b o hb => ?_, Heap.get?_none_of_le (by simp), _, _,
    Heap.get?_update_self _ (Heap.get?_push_of_some _ (Heap.get?_push_size _ rfl)) (Obj.isFreed_of_fields (Obj.data_mapFields rfl _)), Obj.cls_mapFields _ _, by rw [Obj.data_mapFields rfl]; rfl⟩)
  rw [Heap.get?_update_other _ _ (Nat.ne_of_gt (Nat.lt_of_lt_of_le (Heap.lt_size hb) (by simp)))]
  exact Heap.get?_push_of_some _ (Heap.get?_push_of_some _ (Heap.get?_push_of_some _ hb))
end

/-- what a raise of a class asks of it -/
structure Exc (X : String) : Prop where
  base : isSubtype (.type X) (.type "BaseException") = pure true
  self : isSubtype (.type X) (.type X) = pure true
  meta_ : (Value.type ((Manifest.find? X).elim "type" (·.metatype)) == Value.type "type") = true
  call : ∀ {prog : Program} {w : World} {A : Around} {E : Value → Shared → Prop} {s : Shared} {Q : Value → Shared → Prop},
    (∀ h' e, Heap.NewExc s.heap h' e X → Q (.ref e) { s with heap := h' }) → wpAny (model prog w) A (PySem.call (.type X) []) Q E s
theorem Exc.of {X N I : String} (hc : ExcClass X N I) : Exc X := ⟨hc.base, hc.self, hc.metaType, fun h => call_exc hc h⟩
theorem exc1 : Exc "SystemExit" := ⟨se_base, se_self, se_meta, fun h => se_call h⟩
theorem exc2 : Exc "KeyError" := .of excClass_KeyError
theorem exc3 : Exc "ValueError" := .of excClass_ValueError
theorem exc4 : Exc "IndexError" := .of excClass_IndexError

section
variable {prog : Program} {w : World} {A : Around} {E : Value → Shared → Prop} {s : Shared} {env : Env} {X : String}

theorem issub_nested {k : Value} {dep : Int} {tk : Tok} {Q : Fin → Shared → Prop} (hk : k = .int dep tk) (hc : Exc X)
    (hq : Q (.done (.ret (.bool true))) s) : wpAny (model prog w) A (Builtin.«issubclass.nested» ⟨[.type X, .type X, k], []⟩) Q E s := by
  subst hk
  have hm := hc.meta_
  have hself := hc.self
  repeat (any_goals (first | assumption | (rw [if_pos hm]) | (rw [hself]) | wp_step))
theorem issub_self (hc : Exc X) : Meets (Builtin.«issubclass» ⟨[.type X, .type X], []⟩) (fun _ R s => R (.ok (.ret (.bool true))) s) :=
  fun _ _ _ _ _ hs => issubclass_outer (issub_nested rfl hc hs)

/-- the exception that is being handled, if there is one: an object whose own context is empty -/
def Held (A : Around) (h : Heap) : Prop := A.handled = none ∨ ∃ e' oe vs, A.handled = some (.ref e') ∧ h.get? e' = some oe ∧ oe.data = .fields vs ∧ vs[2]? = some .none
def ctxOf (A : Around) : Value := A.handled.getD .none

theorem unchain_entry : entryFor table "proto.unchain" = some Builtin.«proto.unchain» := entryFor_of_fast (by kernel_rfl)

theorem raise_new {α : Type} {h₁ : Heap} {e : Addr} {Q : α → Shared → Prop} (hn : Heap.NewExc h₁ s.heap e X) (hh : Held A s.heap) (hold : ∀ e', A.handled = some (.ref e') → ∃ o, h₁.get? e' = some o)
    (h : ∀ h', Made h₁ h' e (.type X) (ctxOf A) → E (.ref e) { s with heap := h' }) : wpAny (model prog w) A (raiseNew (.ref e) : Sem α) Q E s := by
  obtain ⟨ob, t, he, hcls, hd⟩ := hn.there
  unfold raiseNew
  refine wpAny_bind (wpAny_handled ?_)
  rcases hh with hz | ⟨e', oe, vs, hz, ho, hod, h2⟩
  · rw [hz]
    have m : Made h₁ s.heap e (.type X) (ctxOf A) := ⟨hn.keeps, hn.new, ob, t, he, hcls, by rw [hd]; unfold ctxOf; rw [hz]; rfl⟩
    first
      | exact wpAny_throw (h _ m)
      | exact wpAny_bind (wpAny_pure (wpAny_throw (h _ m)))
  · rw [hz]
    obtain ⟨o', ho'⟩ := hold e' hz
    have ne : e' ≠ e := by
      rintro rfl
      rw [hn.new] at ho'
      cases ho'
    dsimp only
    rw [if_pos (show (Value.ref e' != Value.ref e) = true by simp [ne])]
    refine wpAny_bind (wpAny_holding (wpAny_runValue (codeAny_builtin unchain_entry ?_)))
    unfold Builtin.«proto.unchain»
    dsimp only
    refine wpAny_bind (wpAny_field ho hod h2 ?_)
    rw [if_pos (by decide)]
    refine wpAny_bind (wpAny_pure (wpAny_pure ?_))
    dsimp only
    have m : Made h₁ (s.heap.update e (Obj.mapFields (·.setIfInBounds 2 (Value.ref e')))) e (.type X) (ctxOf A) := by
      refine ⟨fun b o q => ?_, hn.new, _, t, Heap.get?_update_self _ he (Obj.isFreed_of_fields (Obj.data_mapFields hd _)), by rw [Obj.cls_mapFields]; exact hcls, ?_⟩
      · have nb : e ≠ b := by
          rintro rfl
          rw [hn.new] at q
          cases q
        rw [Heap.get?_update_other _ _ nb]
        exact hn.keeps b o q
      · rw [Obj.data_mapFields hd]; unfold ctxOf; rw [hz]; rfl
    refine wpAny_bind (wpAny_setField (a := e) (i := 2) (x := Value.ref e') he hd (by simp) ?_)
    exact wpAny_throw (h _ m)
end
end Mine
end

/- part E3 -/
section
open PySem PySem.W PyProof.Rows PySem.Calls PySem.Spec
set_option maxRecDepth 100000
namespace Mine
section
variable {prog : Program} {w : World} {A : Around} {E : Value → Shared → Prop} {s : Shared} {env : Env} {X : String}

/-- raise X, X the name of a built-in class; what is being handled becomes the context -/
theorem Raise_of {x : Str} {np pos : Pos} {Q : Flow → Shared → Prop} (hh : Held A s.heap) (hc : Exc X)
    (hx : wpAny (model prog w) A (eval (.Name x np) env) (fun v s₁ => v = .type X ∧ s₁ = s) E s)
    (h : ∀ h' e, Made s.heap h' e (.type X) (ctxOf A) → E (.ref e) { s with heap := h' }) :
    wpAny (model prog w) A (exec (.Raise (some (.Name x np)) none pos) env) Q E s := by
  show wpAny (model prog w) A (do standAt pos; raiseStmt env (some (do let v ← eval (.Name x np) env; standAt pos; pure v)) none) Q E s
  refine wpAny_bind (wpAny_standAt ?_)
  unfold raiseStmt
  dsimp only
  refine wpAny_bind (wpAny_bind (wpAny_mono hx (fun v s₁ h₁ => wpAny_bind (wpAny_standAt (wpAny_pure ?_))) fun _ _ e => e))
  obtain ⟨rfl, hs₁⟩ := h₁
  subst s₁
  refine wpAny_bind (wpAny_pure ?_)
  dsimp only
  refine wpAny_bind (wpAny_holding ?_)
  unfold excFromValue isExcClass
  refine wpAny_bind (wpAny_bind (wpAny_pure ?_))
  simp only [if_true]
  rw [hc.base]
  refine wpAny_pure ?_
  simp only [if_true]
  refine wpAny_bind (hc.call fun h' e hn => ?_)
  obtain ⟨ob, t, he, hcls, hd⟩ := hn.there
  have hT : ({ s with heap := h' } : Shared).TypeIs (.ref e) X := ⟨ob, he, hcls⟩
  refine wpAny_bind (wpAny_isInstance hT hc.base ?_)
  simp only [Bool.not_true, Bool.false_eq_true, if_false]
  refine wpAny_pure ?_
  first | (refine wpAny_bind (m := isType (.type X)) (wpAny_pure ?_)) | (refine wpAny_bind (wpAny_pure ?_))
  first | (rw [if_pos rfl]) | (simp only [if_true]) | dsimp only
  refine wpAny_bind (wpAny_holding ?_)
  unfold raisedFor
  first | (simp only [Bool.false_eq_true, if_false]) | (rw [if_neg (by decide)]) | skip
  first | (refine wpAny_bind (wpAny_typeOf hT ?_)) | (refine wpAny_bind ?_; refine wpAny_bind (wpAny_typeOf hT ?_))
  refine wpAny_bind (call_issubclass (issub_self hc) ?_)
  first | (refine wpAny_bind (wpAny_truthy_bool ?_)) | (refine wpAny_truthy_bool ?_) | (dsimp only [wants]; first | (refine wpAny_bind (wpAny_truthy_bool ?_)) | (refine wpAny_truthy_bool ?_))
  first | (rw [if_pos rfl]) | (simp only [if_true]) | skip
  refine wpAny_pure ?_
  unfold setFlight
  refine wpAny_bind (wpAny_bind (wpAny_field (i := 1) (x := Value.none) he hd rfl ?_))
  rw [if_neg (by decide)]
  refine wpAny_pure ?_
  refine raise_new (s := { s with heap := h' }) hn ?_ ?_ fun h₂ m => h h₂ e m
  · rcases hh with hz | ⟨e', oe, vs, hz, ho, r⟩
    · exact .inl hz
    · exact .inr ⟨e', oe, vs, hz, hn.keeps _ _ ho, r⟩
  · intro e' q
    rcases hh with hz | ⟨e₂, oe, vs, hz, ho, r⟩
    · rw [hz] at q; cases q
    · rw [hz] at q; cases q; exact ⟨_, ho⟩
end
end Mine
end

/- part E4 -/
section
open PySem PySem.W PyProof.Rows PySem.Calls PySem.Spec
set_option maxRecDepth 100000
namespace Mine
abbrev frs (l : List Env) : List Addr := l.filterMap (·.frame)
theorem frs_cons {env : Env} {l : List Env} {L : Addr} (hf : env.frame = some L) : frs (env :: l) = L :: frs l := by simp [frs, hf]

/-- the exception e flies (or is held) in the frames l: the ground G and the ledger stand but for the frames' slots -/
def Rz (base G : Heap) (l : List Env) (e : Addr) (cls ctx fl : Value) (news : List (Addr × Obj)) (h : Heap) : Prop :=
  G.UpToSlots h ∧ ∃ B, base.StaysIn B ∧ (∀ b o, G.get? b = some o → b ∉ frs l → B.get? b = some o) ∧ (∀ q ∈ news, B.get? q.1 = some q.2 ∧ G.get? q.1 = none ∧ base.get? q.1 = none) ∧ Fl B l e cls ctx fl h

section
variable {M : Model} {A A₀ : Around} {E : Value → Shared → Prop} {s : Shared} {base g G h : Heap} {env : Env} {outer l : List Env} {L e : Addr} {m : Str → Option Value} {cls ctx fl : Value} {news news' : List (Addr × Obj)} {Q : Unit → Shared → Prop}

theorem Rz.sub (x : Rz base G l e cls ctx fl news h) (hs : ∀ p ∈ news', p ∈ news) : Rz base G l e cls ctx fl news' h := by
  obtain ⟨u, B, b1, b2, b3, b4⟩ := x
  exact ⟨u, B, b1, b2, fun q hq => b3 q (hs q hq), b4⟩

theorem Rz.note (x : Rz base G (env :: outer) e cls ctx .none news s.heap) (hfr : A.frames = some (env :: outer)) (hf : env.frame = some L)
    (hQ : ∀ h', Rz base G (env :: outer) e cls ctx (rawInt L) news h' → Q () { s with heap := h' }) : wpAny M A (noteFrame (.ref e) env) Q E s := by
  obtain ⟨u, B, b1, b2, b3, b4⟩ := x
  exact note_on hfr hf b4 fun h' y v => hQ h' ⟨u.trans v, B, b1, b2, b3, y⟩
theorem Rz.again (x : Rz base G l e cls ctx (rawInt L) news s.heap) (hf : env.frame = some L) (hQ : Q () s) : wpAny M A (noteFrame (.ref e) env) Q E s := by
  obtain ⟨u, B, b1, b2, b3, b4⟩ := x
  exact note_again hf b4 hQ
theorem Rz.flight {to : Option Addr} (x : Rz base G l e cls ctx fl news s.heap)
    (hQ : ∀ h', Rz base G l e cls ctx (to.elim .none fun f => rawInt f) news h' → Q () { s with heap := h' }) : wpAny M A (setFlight (.ref e) to) Q E s := by
  obtain ⟨u, B, b1, b2, b3, b4⟩ := x
  exact flight_to b4 fun h' y v => hQ h' ⟨u.trans v, B, b1, b2, b3, y⟩
theorem Rz.tb {α : Type} {f : Value → Sem α} {Q : α → Shared → Prop} (x : Rz base G l e cls ctx fl news s.heap) (hQ : ∀ T, wpAny M A (f (.ref T)) Q E s) : wpAny M A (field (.ref e) 1 >>= f) Q E s := by
  obtain ⟨_, B, _, _, _, _, _, _, oe, vs, T, _, _, he, hc, hd, h1, _⟩ := x
  exact wpAny_bind (wpAny_field he hd h1 (hQ T))

theorem self_none {g h : Heap} {L : Addr} {m : Str → Option Value} (F : Fr g L h m) : g.get? L = none := kts_self F

/-- down to the caller's ground -/
theorem rz_down {B : Heap} (hf : env.frame = some L) (F : Fr g L G m) (u : G.UpToSlots h) (b1 : base.StaysIn B) (b2 : ∀ b o, G.get? b = some o → b ∉ frs (env :: outer) → B.get? b = some o)
    (b3 : ∀ q ∈ news, B.get? q.1 = some q.2 ∧ G.get? q.1 = none ∧ base.get? q.1 = none) (y : Fl B outer e cls ctx fl h) : Rz base g outer e cls ctx fl news h := by
  refine ⟨(Heap.UpToSlots.of_keeps F.keep).trans u, B, b1, fun b o q nm => b2 b o (F.keep b o q) fun z => ?_, fun q hq => ⟨(b3 q hq).1, kts_none F.keep (b3 q hq).2.1, (b3 q hq).2.2⟩, y⟩
  rw [frs_cons hf] at z
  rcases List.mem_cons.mp z with z | z
  · rw [z, kts_self F] at q; cases q
  · exact nm z
theorem Rz.leave (x : Rz base G (env :: outer) e cls ctx .none news s.heap) (hfr : A.frames = some (env :: outer)) (hf : env.frame = some L) (F : Fr g L G m)
    (hQ : ∀ h', Rz base g outer e cls ctx .none news h' → Q () { s with heap := h' }) : wpAny M A (leaving env (.ref e)) Q E s := by
  obtain ⟨u, B, b1, b2, b3, b4⟩ := x
  exact leave_next hfr hf b4 fun h' y v => hQ h' (rz_down hf F (u.trans v) b1 b2 b3 y)
theorem Rz.leaveHeld (x : Rz base G (env :: outer) e cls ctx (rawInt L) news s.heap) (hf : env.frame = some L) (F : Fr g L G m)
    (hQ : ∀ h', Rz base g outer e cls ctx .none news h' → Q () { s with heap := h' }) : wpAny M A (leaving env (.ref e)) Q E s := by
  obtain ⟨u, B, b1, b2, b3, b4⟩ := x
  exact leave_held hf b4 fun h' y v => hQ h' (rz_down hf F (u.trans v) b1 b2 b3 y)

/-- the first frame: where it was raised -/
theorem leave_raise (K : Below A₀ base outer g) (hfr : A.frames = some (env :: outer)) (hf : env.frame = some L) (hk : env.scope.kind = .function) (F : Fr g L h m) (N : News g L h news) (hx : Made h s.heap e cls ctx)
    (hQ : ∀ h', Rz base g outer e cls ctx .none news h' → Q () { s with heap := h' }) : wpAny M A (leaving env (.ref e)) Q E s := by
  have K' := pushX K F hf hk
  have hin : ∀ e' ∈ (env :: outer), ∀ b, e'.frame = some b → b ∈ frs (env :: outer) := fun e' he b hb => List.mem_filterMap.mpr ⟨e', he, hb⟩
  have st : base.StaysIn (hideAll h (frs (env :: outer))) := fun b o q => hideAll_get _ (K'.stays b o q) fun hm => by
    rw [(K'.frames.mem hm).1] at q; cases q
  refine leave_first (B := hideAll h (frs (env :: outer))) hfr (funFrames_hide K'.frames hin) hf (fun b o q => of_hideAll _ q) hx fun h' y u => hQ h' ⟨(Heap.UpToSlots.of_keeps F.keep).trans u, _, st, fun b o q nm => ?_, fun q hq => ?_, y⟩
  · refine hideAll_get _ (F.keep b o q) fun z => ?_
    rw [frs_cons hf] at z
    rcases List.mem_cons.mp z with z | z
    · rw [z, kts_self F] at q; cases q
    · exact nm z
  · refine ⟨hideAll_get _ (N q hq).1 fun z => ?_, (N q hq).2.2, fresh_of_stays K.stays (N q hq).2.2⟩
    rw [frs_cons hf] at z
    rcases List.mem_cons.mp z with z | z
    · exact (N q hq).2.1 z
    · obtain ⟨o, ho, _⟩ := (K.frames.mem z).2
      rw [(N q hq).2.2] at ho; cases ho

/-- caught: the frame's own facts again, the outer frames' slots turned -/
theorem Rz.land (x : Rz base G (env :: outer) e cls ctx fl news h) (hf : env.frame = some L) (K : Below A₀ base outer g) (F : Fr g L G m) :
    ∃ g' oe vs, KtsTurn (frs outer) g g' ∧ Fr g' L h m ∧ Below A₀ base outer g' ∧ News g' L h ((e, oe) :: news) ∧ oe.cls = cls ∧ oe.data = .fields vs ∧ vs[2]? = some ctx ∧ (∀ p ∈ news, p.1 ≠ e) := by
  obtain ⟨u, B, b1, b2, b3, b4⟩ := x
  have b4' := b4
  obtain ⟨hB, hen, hl, oe, vs, T, oT, ts, he, hc, hd, h1, h2, hnT, hTe, hT, hdT, h3⟩ := b4'
  have hL : B.get? L = none := by
    obtain ⟨_, ⟨L', _, hf', hn, _⟩, _⟩ := hl
    rw [hf] at hf'
    cases hf'
    exact hn
  obtain ⟨T0, S⟩ := kts_turn_at (h := h) (fs := frs outer) (g := g)
    (fun b hb => by
      obtain ⟨_, o, ho, _⟩ := K.frames.mem hb
      exact ⟨o, ho⟩)
    (fun b o q nm => hB b o (b2 b o (F.keep b o q) fun z => by
      rw [frs_cons hf] at z
      rcases List.mem_cons.mp z with z | z
      · rw [z, kts_self F] at q; cases q
      · exact nm z))
    (fun b o q hm => by
      obtain ⟨_, o', ho', hx⟩ := K.frames.mem hm
      rw [q] at ho'
      cases ho'
      exact u b o (F.keep b o q) hx)
  have hge : ∀ b, B.get? b = none → (∀ o, h.get? b = some o → ∀ sl, (∀ ws, ({ o with slots := sl } : Obj).data ≠ .fields ws) → False) → g.get? b = none := fun b hb hr => by
    cases q : g.get? b with
    | none => rfl
    | some o =>
      exfalso
      by_cases hm : b ∈ frs (env :: outer)
      · rw [frs_cons hf] at hm
        rcases List.mem_cons.mp hm with z | z
        · rw [z, kts_self F] at q; cases q
        · obtain ⟨_, o', ho', hx⟩ := K.frames.mem z
          rw [q] at ho'
          cases ho'
          obtain ⟨sl, hs⟩ := u b o (F.keep b o q) hx
          exact hr _ hs o.slots fun ws z => hx ws z
      · rw [b2 b o (F.keep b o q) hm] at hb; cases hb
  refine ⟨_, oe, vs, T0, ⟨u.ns F.ns, S, by rw [T0.size]; exact F.above⟩, ⟨K.stack, fun b o q => T0.other b o (K.stays b o q) (fun hm => by rw [(K.frames.mem hm).1] at q; cases q), K.frames.of_keeps fun b o q _ => ?_⟩, fun q hq => ?_, hc, hd, h2, fun q hq z => ?_⟩
  · obtain ⟨sl, hs⟩ := T0.up q
    exact ⟨_, hs, rfl⟩
  · rcases List.mem_cons.mp hq with rfl | hq
    · refine ⟨he, fun z => ?_, T0.none_ _ (hge e hen fun o ho sl hx => ?_)⟩
      · obtain ⟨_, ⟨L', o', hf', _, ho', hx⟩, _⟩ := hl
        rw [hf] at hf'
        cases hf'
        have z' : e = L := z
        rw [← z', he] at ho'
        cases ho'
        exact hx _ hd
      · rw [he] at ho
        cases ho
        exact hx _ hd
    · refine ⟨hB _ _ (b3 q hq).1, fun z => ?_, T0.none_ _ (kts_none F.keep (b3 q hq).2.1)⟩
      have w := (b3 q hq).1
      rw [z, hL] at w
      cases w
  · have := (b3 q hq).1
    rw [z, hen] at this
    cases this
end
end Mine
end

/- part E5 -/
section
open PySem PySem.W PyProof.Rows PySem.Calls PySem.Spec
set_option maxRecDepth 100000
namespace Mine
section
variable {prog : Program} {w : World} {A A₀ : Around} {base g g' h₀ h' : Heap} {env : Env} {outer : List Env} {L L' : Addr} {m m' mg mb : Str → Option Value} {news news' : List (Addr × Obj)} {s : Shared} {R : Result → Shared → Prop}

/-- back in the caller's frame, behind a callee that caught: the outer frames' slots have turned -/
theorem leaveT (FG : Fr h₀ L g m) (K : Below A₀ base outer h₀) (hf : env.frame = some L) (T : KtsTurn (frs (env :: outer)) g g') (F' : Fr g' L' h' m') (N' : News g' L' h' news') :
    ∃ h₁, KtsTurn (frs outer) h₀ h₁ ∧ Fr h₁ L h' m ∧ News h₁ L h' news' ∧ Below A₀ base outer h₁ := by
  have hLm : L ∈ frs (env :: outer) := by rw [frs_cons hf]; exact .head _
  obtain ⟨T0, S⟩ := kts_turn_at (h := h') (fs := frs outer) (g := h₀)
    (fun b hb => by
      obtain ⟨_, o, ho, _⟩ := K.frames.mem hb
      exact ⟨o, ho⟩)
    (fun b o q nm => F'.keep b o (T.other b o (FG.keep b o q) fun z => by
      rw [frs_cons hf] at z
      rcases List.mem_cons.mp z with z | z
      · rw [z, kts_self FG] at q; cases q
      · exact nm z))
    (fun b o q hm => by
      obtain ⟨sl, hs⟩ := T.up (FG.keep b o q)
      exact ⟨sl, F'.keep _ _ hs⟩)
  obtain ⟨oL, es, ep, hL, hd, r⟩ := FG.ns
  obtain ⟨sl, hs⟩ := T.frame L oL hL hLm
  refine ⟨_, T0, ⟨⟨_, es, ep, F'.keep _ _ hs, hd, r⟩, S, by rw [T0.size]; exact FG.above⟩, fun p hp => ⟨(N' p hp).1, fun z => ?_, T0.none_ _ ?_⟩, ⟨K.stack, fun b o q => T0.other b o (K.stays b o q) (fun hm => by rw [(K.frames.mem hm).1] at q; cases q), K.frames.of_keeps fun b o q _ => ?_⟩⟩
  · have w := (N' p hp).2.2
    rw [z, hs] at w
    cases w
  · cases q : h₀.get? p.1 with
    | none => rfl
    | some o =>
      obtain ⟨sl, hs⟩ := T.up (FG.keep _ _ q)
      have w := (N' p hp).2.2
      rw [hs] at w
      cases w
  · obtain ⟨sl, hs⟩ := T0.up q
    exact ⟨_, hs, rfl⟩

theorem turn_nil_fr (T : KtsTurn [] h₀ g) (F : Fr g L h' m) : Fr h₀ L h' m := ⟨F.ns, fun b o q => F.keep b o (T.other b o q List.not_mem_nil), by rw [← T.size]; exact F.above⟩
theorem turn_nil_news (T : KtsTurn [] h₀ g) (N : News g L h' news) : News h₀ L h' news := fun p hp => ⟨(N p hp).1, (N p hp).2.1, by
  cases q : h₀.get? p.1 with
  | none => rfl
  | some o => have w := (N p hp).2.2; rw [T.other _ _ q List.not_mem_nil] at w; cases w⟩
theorem turn_nil_rz {l : List Env} {e : Addr} {cls ctx fl : Value} (T : KtsTurn [] h₀ g) (x : Rz base g l e cls ctx fl news h') : Rz base h₀ l e cls ctx fl news h' := by
  obtain ⟨u, B, b1, b2, b3, b4⟩ := x
  refine ⟨fun b o q hn => u b o (T.other b o q List.not_mem_nil) hn, B, b1, fun b o q nm => b2 b o (T.other b o q List.not_mem_nil) nm, fun p hp => ⟨(b3 p hp).1, ?_, (b3 p hp).2.2⟩, b4⟩
  cases q : h₀.get? p.1 with
  | none => rfl
  | some o => have w := (b3 p hp).2.1; rw [T.other _ _ q List.not_mem_nil] at w; cases w
end
section
variable {prog : Program} {w : World} {A₀ A : Around} {s : Shared} {base h₀ : Heap} {outer : List Env} {L : Addr} {m mg mb : Str → Option Value} {env : Env} {news : List (Addr × Obj)} {K : Frag} {p : Program} {loose : List Str} {mean : ExcName → Option Value}
  {R : Result → Shared → Prop} {name qual : Str} {params : Arguments} {body : List Stmt} {scope : Scope} {cl : List (Str × Addr)} {dV kV doc pm cdv ct oc : Value} {an od : Option Addr} {osl : Array (Option Value)} {fo : Obj} {f : Addr} {args : Args} {binds : List (Str × Value)}

/-- a def is entered; nothing is said of how it leaves -/
theorem enterX (B : Below A₀ base outer h₀) (F : Fr h₀ L s.heap m) (N : News h₀ L s.heap news) (hlim : h₀.NoLimit) (hA : A.frames = some (env :: outer)) (hf : env.frame = some L) (hke : env.scope.kind = .function)
    (ho : s.heap.get? f = some fo) (hd : fo.data = .func (fnX name qual params body scope cl dV kV doc pm an cdv ct)) (hcd : s.heap.CodeRec cdv qual) (hroom : A.depth < recursionLimit)
    (hbind : BindsTo s (fnX name qual params body scope cl dV kV doc pm an cdv ct) args binds) (hloc : ∀ y ∈ binds, scope.names.lookup y.1 = some .local)
    (h : ∀ g L' h₁, Fr h₀ L g m → Fr g L' h₁ (fun y => binds.reverse.lookup y) → News g L' h₁ news → Below A base (env :: outer) g → h₀.StaysIn g → ((∀ p ∈ news, p.1 < L') ∧ ∀ b o, s.heap.get? b = some o → b ∉ news.map (·.1) → g.get? b = some o) →
      wpAny (model prog w) (A.deeper (envX qual scope L' f cdv cl)) (execs body (envX qual scope L' f cdv cl))
        (fun fl s' => R (.ok (.ret (match fl with | .ret v => v | _ => .none))) s')
        (fun e s' => wpAny (model prog w) (A.deeper (envX qual scope L' f cdv cl)) (leaving (envX qual scope L' f cdv cl) e) (fun _ s'' => R (.error e) s'') (fun e' s'' => R (.error e') s'') s')
        { s with heap := h₁, toks := s.toks + binds.length })
    (hcell : ∀ x ∈ scope.names, x.2 ≠ .cell) (hco : scope.isCoroutine = false := by rfl) (hgen : scope.isGenerator = false := by rfl) (hk : scope.kind = .function := by rfl) : codeAny (model prog w) A (.call (.ref f) args) R s := by
  obtain ⟨FG, BG, st, _⟩ := groundX (R := R) B F N hA hf hke
  refine codeAny_call_def (fd := fnX name qual params body scope cl dV kV doc pm an cdv ct) (body := body) (binds := binds) hroom ho hd (hlim.keeps F.keep) hcd rfl hbind hcell hloc (fun h₁ hns hk₁ => ?_) hco hgen hk
  exact h _ s.heap.objs.size h₁ FG ⟨hns, fun b o e => hk₁ b o (of_hideAll _ e), Nat.le_of_eq (hideAll_size _ _)⟩
    (fun p hp => ⟨hk₁ _ _ (N p hp).1, Nat.ne_of_lt (Heap.lt_size (N p hp).1), hideAll_none _ (List.mem_map_of_mem hp)⟩) BG st ⟨fun p hp => Heap.lt_size (N p hp).1, fun b o e hn => hideAll_get _ e hn⟩

theorem enterK (B : Below A₀ base outer h₀) (F : Fr h₀ L s.heap m) (X₀ : K.In h₀) (N : News h₀ L s.heap news) (T : Top p loose mean mg mb h₀) (hA : A.frames = some (env :: outer)) (hf : env.frame = some L) (hke : env.scope.kind = .function)
    (ho : K.lookup f = some ⟨oc, od, .func (fnOf name qual params body scope dV kV doc pm an cdv ct), osl⟩) (hcd : codeIn K cdv qual = true) (hroom : A.depth < recursionLimit)
    (hbind : BindsTo s (fnOf name qual params body scope dV kV doc pm an cdv ct) args binds) (hloc : ∀ y ∈ binds, scope.names.lookup y.1 = some .local)
    (h : ∀ g L' h₁, Fr h₀ L g m → Fr g L' h₁ (fun y => binds.reverse.lookup y) → News g L' h₁ news → Below A base (env :: outer) g → K.In g → Top p loose mean mg mb g → ((∀ p ∈ news, p.1 < L') ∧ ∀ b o, s.heap.get? b = some o → b ∉ news.map (·.1) → g.get? b = some o) →
      wpAny (model prog w) (A.deeper (envOf qual scope L' f cdv)) (execs body (envOf qual scope L' f cdv))
        (fun fl s' => R (.ok (.ret (match fl with | .ret v => v | _ => .none))) s')
        (fun e s' => wpAny (model prog w) (A.deeper (envOf qual scope L' f cdv)) (leaving (envOf qual scope L' f cdv) e) (fun _ s'' => R (.error e) s'') (fun e' s'' => R (.error e') s'') s')
        { s with heap := h₁, toks := s.toks + binds.length })
    (hco : scope.isCoroutine = false) (hgen : scope.isGenerator = false) (hk : scope.kind = .function)
    (hcell : ∀ x ∈ scope.names, x.2 ≠ .cell) : codeAny (model prog w) A (.call (.ref f) args) R s :=
  enterX (cl := []) B F N T.nolimit hA hf hke ((X₀.keeps F.keep) _ _ ho) rfl (codeRec_of (X₀.keeps F.keep) hcd) hroom hbind hloc (fun g L' h₁ FG F' N' B' st l => h g L' h₁ FG F' N' B' (X₀.keeps st) (T.keeps st) l) hcell hco hgen hk
end
end Mine
end

/- part F1 -/
section
open PySem PySem.W PyProof.Rows PySem.Calls PySem.Spec
namespace Mine
/-- the class that _law_raise(k) raises -/
def excOf (k : Int) : Option String := if k = 1 then some "SystemExit" else if k = 2 then some "KeyError" else if k = 3 then some "ValueError" else if k = 4 then some "IndexError" else none
/-- what is being handled, if anything, is an exception of the ledger whose context is empty -/
def HeldN (A : Around) (news : List (Addr × Obj)) : Prop := A.handled = none ∨ ∃ e' oe vs, A.handled = some (.ref e') ∧ (e', oe) ∈ news ∧ oe.data = .fields vs ∧ vs[2]? = some .none
theorem HeldN.at {A : Around} {news : List (Addr × Obj)} {h₀ h : Heap} {L : Addr} (x : HeldN A news) (N : News h₀ L h news) : Held A h := by
  rcases x with z | ⟨e', oe, vs, a, b, c⟩
  · exact .inl z
  · exact .inr ⟨e', oe, vs, a, (N _ b).1, c⟩
section
variable {w : World} {A A₀ : Around} {base h₀ : Heap} {env : Env} {outer : List Env} {L : Addr} {m mg mb : Str → Option Value} {news : List (Addr × Obj)} {s : Shared} {R : Result → Shared → Prop} {p : Program} {loose : List Str} {mean : ExcName → Option Value}
local macro_rules | `(tactic| k_room) => `(tactic| ((try simp only [depth_under_make, depth_under_kw, depth_in1, depth_deeper, depth_caller]); omega))

set_option maxRecDepth 100000 in
set_option maxHeartbeats 8000000 in
theorem law_raise (B : Below A₀ base outer h₀) (F : Fr h₀ L s.heap m) (X : (Mine.hd.heap_39 w.params).In h₀) (N : News h₀ L s.heap news) (T : Top p loose mean mg mb h₀)
    (hA : A.frames = some (env :: outer)) (hf : env.frame = some L) (hke : env.scope.kind = .function) (hroom : A.depth + 10 < recursionLimit) (hh : HeldN A news) {k : Int} {t : Tok}
    (ok : excOf k = none → ∀ h' tk, Fr h₀ L h' m → News h₀ L h' news → R (.ok (.ret .none)) { s with heap := h', toks := tk })
    (er : ∀ C, excOf k = some C → ∀ G e h' tk, Fr h₀ L G m → Rz base G (env :: outer) e (.type C) (ctxOf A) .none news h' → R (.error (.ref e)) { s with heap := h', toks := tk }) :
    codeAny (model PySem.Challenge.rw_ki0071_01.row.prog w) A (.call (.ref 63) ⟨[.int k t], []⟩) R s := by
  revert X
  k_fill
  intro X
  refine' code_def ?k1 ?k2 ?k3 ?k4 ?k5 ?kA ?kF ?kK ?k6 ?k7 ?k8 ?k9 ?kB ?_ ?c2 ?c3 ?c4 ?c5
  (case kA => exact hA); (case kF => exact hf); (case kK => exact hke); (case k1 => k_asm); (case k2 => k_asm); (case k3 => k_asm); (case k4 => k_asm); (case k5 => k_asm); (case k6 => k_is); (case k7 => k_is); (case k8 => k_room); (case k9 => exact BindsTo.of_eq rfl); (case c5 => decide); (case kB => exact locs rfl); (case c2 => exact rfl); (case c3 => exact rfl); (case c4 => exact rfl)
  intro g' L' h' FG' F' N' B' X' T'
  (try dsimp only)
  (try k_fold)
  k_steps
  all_goals first
    | (subst k; first
      | (refine Raise_of (X := "SystemExit") (hh.at (A := A) N') exc1 ?nm0 (fun h₂ e hm => ?ra0); (case nm0 => ((k_dflt (refine' name_B F' X' (topRead_of T') ?q30 ?q40 ?q50 ?_; (case q30 => k_is); (case q40 => boot_by_name); (case q50 => decide))); exact ⟨rfl, rfl⟩)); (case ra0 => (k_unfold; (refine leave_raise B' (Around.frames_deeper hA) rfl rfl F' N' hm fun h₃ x => ?_); exact er _ rfl _ _ _ _ FG' x)))
      | (refine Raise_of (X := "KeyError") (hh.at (A := A) N') exc2 ?nm1 (fun h₂ e hm => ?ra1); (case nm1 => ((k_dflt (refine' name_B F' X' (topRead_of T') ?q31 ?q41 ?q51 ?_; (case q31 => k_is); (case q41 => boot_by_name); (case q51 => decide))); exact ⟨rfl, rfl⟩)); (case ra1 => (k_unfold; (refine leave_raise B' (Around.frames_deeper hA) rfl rfl F' N' hm fun h₃ x => ?_); exact er _ rfl _ _ _ _ FG' x)))
      | (refine Raise_of (X := "ValueError") (hh.at (A := A) N') exc3 ?nm2 (fun h₂ e hm => ?ra2); (case nm2 => ((k_dflt (refine' name_B F' X' (topRead_of T') ?q32 ?q42 ?q52 ?_; (case q32 => k_is); (case q42 => boot_by_name); (case q52 => decide))); exact ⟨rfl, rfl⟩)); (case ra2 => (k_unfold; (refine leave_raise B' (Around.frames_deeper hA) rfl rfl F' N' hm fun h₃ x => ?_); exact er _ rfl _ _ _ _ FG' x)))
      | (refine Raise_of (X := "IndexError") (hh.at (A := A) N') exc4 ?nm3 (fun h₂ e hm => ?ra3); (case nm3 => ((k_dflt (refine' name_B F' X' (topRead_of T') ?q33 ?q43 ?q53 ?_; (case q33 => k_is); (case q43 => boot_by_name); (case q53 => decide))); exact ⟨rfl, rfl⟩)); (case ra3 => (k_unfold; (refine leave_raise B' (Around.frames_deeper hA) rfl rfl F' N' hm fun h₃ x => ?_); exact er _ rfl _ _ _ _ FG' x))))
    | (refine ok ?_ _ _ (by assumption) (by assumption); unfold excOf; simp only [*, if_false])
end
end Mine
end

/- part F2 -/
section
open PySem PySem.W PyProof.Rows PySem.Calls PySem.Spec
namespace Mine
/- the parts of the text, by their places -/
def hdS : List Stmt → Stmt | [] => .Pass ⟨0, 0, 0, 0⟩ | x :: _ => x
def tlS : List Stmt → List Stmt | [] => [] | _ :: r => r
def sBody : Stmt → List Stmt | .FunctionDef _ _ b _ _ _ _ _ _ _ => b | _ => []
def sArgs : Stmt → Arguments | .FunctionDef _ a _ _ _ _ _ _ _ _ => a | _ => default
def sScope : Stmt → Scope | .FunctionDef _ _ _ _ _ _ s _ _ _ => s | _ => default
def sVal : Stmt → PySem.Expr | .Assign _ v _ => v | _ => .Constant .none 0 ⟨0, 0, 0, 0⟩
def lArgs : PySem.Expr → Arguments | .Lambda a _ _ _ => a | _ => default
def lBody : PySem.Expr → PySem.Expr | .Lambda _ b _ _ => b | e => e
def lScope : PySem.Expr → Scope | .Lambda _ _ s _ => s | _ => default
def mkStmts : List Stmt := sBody (hdS (tlS (tlS (tlS (tlS PySem.Challenge.pw_ki0071_01.main.body)))))
def dAsked : Stmt := hdS mkStmts
def dMaker : Stmt := hdS (tlS mkStmts)
abbrev askedObj (qA : Str) (cRow : Addr) (doc pm : Value) (cA : Addr) (ctv : Value) : Obj :=
  fnMade (Str.ofString "asked") qA (sArgs dAsked) (sBody dAsked) (sScope dAsked) [(Str.ofString "row", cRow)] doc pm cA ctv
/-- the ledger as a function of the one object that turns -/
def RowIn (row : Addr) (nf : Obj → List (Addr × Obj)) : Prop := ∀ o o', Upd row o o' (nf o) (nf o')
/-- a code object of the ledger -/
structure CodeAt (q : Str) (c : Addr) (ns : List (Addr × Obj)) : Prop where
  there : ∃ oc vs t, (c, oc) ∈ ns ∧ oc.data = .fields vs ∧ vs[1]? = some (.str q t)
/-- the closure asked, its cell and its code, in the ledger -/
structure AskedIn (fa row : Addr) (nf : Obj → List (Addr × Obj)) : Prop where
  there : ∃ qA cRow doc pm cA ctv oc sl vs t oA, (∀ o, (fa, askedObj qA cRow doc pm cA ctv) ∈ nf o) ∧ (∀ o, (cRow, oc) ∈ nf o) ∧ oc.data = .cell (some (.ref row)) ∧ (∀ o, (cA, oA) ∈ nf o) ∧ oA.data = .fields vs ∧ vs[1]? = some (.str qA t) ∧ sl = oc.slots

section
variable {w : World} {A A₀ : Around} {base h₀ : Heap} {env : Env} {outer : List Env} {L : Addr} {m mg mb : Str → Option Value} {nf : Obj → List (Addr × Obj)} {s : Shared} {R : Result → Shared → Prop} {p : Program} {loose : List Str} {mean : ExcName → Option Value}
local macro_rules | `(tactic| k_room) => `(tactic| ((try simp only [depth_under_make, depth_under_kw, depth_in1, depth_deeper, depth_caller]); omega))
local macro_rules | `(tactic| k_upd) => `(tactic| with_reducible assumption)
local macro_rules | `(tactic| k_mem) => `(tactic| with_reducible assumption)

set_option maxRecDepth 100000 in
set_option maxHeartbeats 8000000 in
theorem asked_spec {row fa : Addr} {its : Array Value} {n : Nat} (U : RowIn row nf) (K : AskedIn fa row nf) (_C : CodeHd base 69 65) (hz : its.size ≤ 16777216)
    (B : Below A₀ base outer h₀) (F : Fr h₀ L s.heap m) (X : (Mine.hd.heap_39 w.params).In h₀) (N : News h₀ L s.heap (nf (listOf its n))) (T : Top p loose mean mg mb h₀)
    (hA : A.frames = some (env :: outer)) (hf : env.frame = some L) (hke : env.scope.kind = .function) (hroom : A.depth + 20 < recursionLimit) (hh : ∀ o, HeldN A (nf o)) {k : Int} {t : Tok} {th : Value}
    (ok : excOf k = none → ∀ h' tk, Fr h₀ L h' m → News h₀ L h' (nf (listOf (its.push th) (n + 1))) → R (.ok (.ret .none)) { s with heap := h', toks := tk })
    (er : ∀ C, excOf k = some C → ∀ G e h' tk, Fr h₀ L G m → Rz base G (env :: outer) e (.type C) (ctxOf A) .none (nf (listOf (its.push th) (n + 1))) h' → R (.error (.ref e)) { s with heap := h', toks := tk }) :
    codeAny (model PySem.Challenge.rw_ki0071_01.row.prog w) A (.call (.ref fa) ⟨[.int k t, th], []⟩) R s := by
  revert X
  k_fill
  intro X
  obtain ⟨qA, cRow, doc, pm, cA, ctv, oc, sl, vs, tq, oA, k1, k2, k3, k4, k5, k6, k7⟩ := K.there
  have m1 := k1 (listOf its n)
  have m2 := k2 (listOf its n)
  have m4 := k4 (listOf its n)
  have u1 := U (listOf its n) (listOf (its.push th) (n + 1))
  have mr : (row, listOf its n) ∈ nf (listOf its n) := by
    obtain ⟨pre, post, e1, _⟩ := u1.split
    rw [e1]
    exact List.mem_append.mpr (.inr (.head _))
  dsimp only [askedObj, dAsked, mkStmts, hdS, tlS, sBody, sArgs, sScope, PySem.Challenge.pw_ki0071_01] at m1
  refine' code_nest ?k1 ?k2 ?k3 ?k4 ?k5 ?kA ?kF ?kK ?k6 ?k7 ?k8 ?k9 ?kB ?_ ?c2 ?c3 ?c4 ?c5
  (case kA => exact hA); (case kF => exact hf); (case kK => exact hke); (case k1 => k_asm); (case k2 => k_asm); (case k3 => k_asm); (case k4 => k_asm); (case k5 => k_asm); (case k6 => exact m1); (case k7 => exact codeRec_news N m4 k5 k6); (case k8 => k_room); (case k9 => exact BindsTo.of_eq rfl); (case c5 => decide); (case kB => exact locs rfl); (case c2 => exact rfl); (case c3 => exact rfl); (case c4 => exact rfl)
  intro g' L' h' FG' F' N' B' X' T'
  (try dsimp only)
  (try k_fold)
  k_steps
  rename Fr g' L' _ _ => F2
  rename News g' L' _ _ => N2
  have hA2 := Around.frames_deeper (env := envX qA (sScope dAsked) L' fa (Value.ref cA) [(Str.ofString "row", cRow)]) hA
  refine wpAny_call (law_raise B' F2 X' N2 T' hA2 rfl rfl ?hr (hh _) ?ok ?er)
  case hr => k_room
  case ok =>
    intro ho h2 tk2 F3 N3
    (try dsimp only)
    clear F2 N2
    k_steps
    exact ok ho _ _ (by assumption) (by assumption)
  case er =>
    intro D hD G e h2 tk2 FG2 x2
    (try dsimp only)
    k_unfold
    refine Rz.leave x2 hA2 rfl FG2 fun h3 x3 => ?_
    exact er D hD _ _ _ _ FG' x3
end
end Mine
end

/- part F3 -/
section
open PySem PySem.W PyProof.Rows PySem.Calls PySem.Spec
namespace Mine
theorem RowIn.cons {row : Addr} {nf : Obj → List (Addr × Obj)} (U : RowIn row nf) {p : Addr × Obj} (h : p.1 ≠ row) : RowIn row (fun o => p :: nf o) := fun o o' => .tail h (U o o')
theorem RowIn.mem {row : Addr} {nf : Obj → List (Addr × Obj)} (U : RowIn row nf) (o : Obj) : (row, o) ∈ nf o := by
  obtain ⟨pre, post, e1, _⟩ := (U o o).split
  rw [e1]
  exact List.mem_append.mpr (.inr (.head _))
theorem AskedIn.mono {fa row : Addr} {nf nf' : Obj → List (Addr × Obj)} (K : AskedIn fa row nf) (h : ∀ o, ∀ q ∈ nf o, q ∈ nf' o) : AskedIn fa row nf' := by
  obtain ⟨qA, cRow, doc, pm, cA, ctv, oc, sl, vs, tq, oA, k1, k2, k3, k4, k5⟩ := K.there
  exact ⟨qA, cRow, doc, pm, cA, ctv, oc, sl, vs, tq, oA, fun o => h o _ (k1 o), fun o => h o _ (k2 o), k3, fun o => h o _ (k4 o), k5⟩
theorem HeldN.mono {A : Around} {ns ns' : List (Addr × Obj)} (x : HeldN A ns) (h : ∀ q ∈ ns, q ∈ ns') : HeldN A ns' := by
  rcases x with z | ⟨e', oe, vs, a, b, c⟩
  · exact .inl z
  · exact .inr ⟨e', oe, vs, a, h _ b, c⟩
theorem HeldN.eqA {A A' : Around} {ns : List (Addr × Obj)} (x : HeldN A ns) (e : A'.handled = A.handled) : HeldN A' ns := by
  rcases x with z | ⟨e', oe, vs, a, b, c⟩
  · exact .inl (e.trans z)
  · exact .inr ⟨e', oe, vs, e.trans a, b, c⟩
theorem AskedIn.fn {fa row : Addr} {nf : Obj → List (Addr × Obj)} (K : AskedIn fa row nf) : ∃ oc od fd sl, ∀ o, (fa, (⟨oc, od, .func fd, sl⟩ : Obj)) ∈ nf o := by
  obtain ⟨qA, cRow, doc, pm, cA, ctv, oc, sl, vs, tq, oA, k1, _⟩ := K.there
  exact ⟨_, _, _, _, k1⟩
/- the four lambdas of maker -/
def lamRun : PySem.Expr := sVal (hdS (tlS (tlS (sBody dMaker))))
def lamCtx : PySem.Expr := sVal (hdS (tlS (tlS (tlS (sBody dMaker)))))
def lamDump : PySem.Expr := sVal (hdS (tlS (tlS (tlS (tlS (sBody dMaker))))))
def lamPrint : PySem.Expr := sVal (hdS (tlS (tlS (tlS (tlS (tlS (sBody dMaker)))))))
abbrev lamObj (e : PySem.Expr) (q : Str) (cl : List (Str × Addr)) (pm : Value) (c : Addr) (ctv : Value) : Obj := kla_obj (Str.ofString "<lambda>") q (lArgs e) (lBody e) (lScope e) cl pm c ctv
/-- a lambda of maker's in the ledger: it holds asked, and the cell bn with the int kind -/
def LamIn (e : PySem.Expr) (bn : String) (kind : Int) (fl fa : Addr) (nf : Obj → List (Addr × Obj)) : Prop :=
  ∃ qL cAs cB pm cL ctv oAs oB oL vs t tk, (∀ o, (fl, lamObj e qL [(Str.ofString bn, cB), (Str.ofString "asked", cAs)] pm cL ctv) ∈ nf o) ∧ (∀ o, (cAs, oAs) ∈ nf o) ∧ oAs.data = .cell (some (.ref fa)) ∧ (∀ o, (cB, oB) ∈ nf o) ∧ oB.data = .cell (some (.int kind tk)) ∧
    (∀ o, (cL, oL) ∈ nf o) ∧ oL.data = .fields vs ∧ vs[1]? = some (.str qL t)
theorem LamIn.mono {e : PySem.Expr} {bn : String} {kind : Int} {fl fa : Addr} {nf nf' : Obj → List (Addr × Obj)} (K : LamIn e bn kind fl fa nf) (h : ∀ o, ∀ q ∈ nf o, q ∈ nf' o) : LamIn e bn kind fl fa nf' := by
  obtain ⟨qL, cAs, cB, pm, cL, ctv, oAs, oB, oL, vs, t, tk, k1, k2, k3, k4, k5, k6, k7⟩ := K
  exact ⟨qL, cAs, cB, pm, cL, ctv, oAs, oB, oL, vs, t, tk, fun o => h o _ (k1 o), fun o => h o _ (k2 o), k3, fun o => h o _ (k4 o), k5, fun o => h o _ (k6 o), k7⟩

section
variable {w : World} {A A₀ : Around} {base h₀ : Heap} {env : Env} {outer : List Env} {L : Addr} {m mg mb : Str → Option Value} {nf : Obj → List (Addr × Obj)} {s : Shared} {R : Result → Shared → Prop} {p : Program} {loose : List Str} {mean : ExcName → Option Value}
local macro_rules | `(tactic| k_room) => `(tactic| ((try simp only [depth_under_make, depth_under_kw, depth_in1, depth_deeper, depth_caller]); omega))
local macro_rules | `(tactic| k_mem) => `(tactic| first | with_reducible assumption | (refine List.mem_cons_of_mem _ ?_; with_reducible assumption))


set_option maxRecDepth 100000 in
set_option maxHeartbeats 8000000 in
theorem run_lam {row fa fl : Addr} {its : Array Value} {n : Nat} (U : RowIn row nf) (K : AskedIn fa row nf) {k : Int} (Z : LamIn lamRun "bad_run" k fl fa nf) (C : CodeHd base 69 65) (hz : its.size ≤ 16777216)
    (B : Below A₀ base outer h₀) (F : Fr h₀ L s.heap m) (X : (Mine.hd.heap_39 w.params).In h₀) (N : News h₀ L s.heap (nf (listOf its n))) (T : Top p loose mean mg mb h₀)
    (hA : A.frames = some (env :: outer)) (hf : env.frame = some L) (hke : env.scope.kind = .function) (hroom : A.depth + 30 < recursionLimit) (hh : ∀ o, HeldN A (nf o)) {v : Value}
    (ok : excOf k = none → ∀ h' tk th t, Fr h₀ L h' m → News h₀ L h' ((th, listOf #[.str (Str.ofString "run") t, v] 0) :: nf (listOf (its.push (.ref th)) (n + 1))) → (∀ q ∈ nf (listOf its n), q.1 < th) → R (.ok (.ret .none)) { s with heap := h', toks := tk })
    (er : ∀ C, excOf k = some C → ∀ G e h' tk th t, Fr h₀ L G m → Rz base G (env :: outer) e (.type C) (ctxOf A) .none ((th, listOf #[.str (Str.ofString "run") t, v] 0) :: nf (listOf (its.push (.ref th)) (n + 1))) h' → (∀ q ∈ nf (listOf its n), q.1 < th) → R (.error (.ref e)) { s with heap := h', toks := tk }) :
    codeAny (model PySem.Challenge.rw_ki0071_01.row.prog w) A (.call (.ref fl) ⟨[v], []⟩) R s := by
  revert X
  k_fill
  intro X
  obtain ⟨qL, cAs, cB, pm, cL, ctv, oAs, oB, oL, vs, t, tk, k1, k2, k3, k4, k5, k6, k7, k8⟩ := Z
  have m1 := k1 (listOf its n)
  have m2 := k2 (listOf its n)
  have m4 := k4 (listOf its n)
  have m6 := k6 (listOf its n)
  obtain ⟨xc, xd, xf, xs, hfn⟩ := K.fn
  have mf := hfn (listOf its n)
  dsimp only [lamObj, lamRun, lamCtx, lamDump, lamPrint, lArgs, lBody, lScope, sVal, dMaker, mkStmts, hdS, tlS, sBody, sArgs, sScope, PySem.Challenge.pw_ki0071_01] at m1
  refine' kla_code ?k1 ?k2 ?k3 ?k4 ?k5 ?kA ?kF ?kK ?k6 ?k7 ?k8 ?k9 ?kB ?_ ?c2 ?c3 ?c4 ?c5
  (case kA => exact hA); (case kF => exact hf); (case kK => exact hke); (case k1 => k_asm); (case k2 => k_asm); (case k3 => k_asm); (case k4 => k_asm); (case k5 => k_asm); (case k6 => exact m1); (case k7 => exact codeRec_news N m6 k7 k8); (case k8 => k_room); (case k9 => exact rfl); (case c5 => decide); (case kB => exact locs rfl); (case c2 => exact rfl); (case c3 => exact rfl); (case c4 => exact rfl)
  intro g' L' h' FG' F' N' B' X' T'
  (try dsimp only)
  (try k_fold)
  k_steps
  rename Fr g' L' _ _ => F2
  rename News g' L' _ _ => N2
  rename ∀ q ∈ nf (listOf its n), q.1 < _ => l2
  have ne2 := Nat.ne_of_gt (l2 _ (U.mem _))
  have hA2 := Around.frames_deeper (env := envX qL (lScope lamRun) L' fl (Value.ref cL) [(Str.ofString "bad_run", cB), (Str.ofString "asked", cAs)]) hA
  refine wpAny_call (asked_spec (U.cons ne2) (K.mono fun _ _ q => List.mem_cons_of_mem _ q) C hz B' F2 X' N2 T' hA2 rfl rfl ?hr (fun o => (hh o).mono fun _ q => List.mem_cons_of_mem _ q) ?ok ?er)
  case hr => k_room
  case ok =>
    intro ho h2 tk2 F3 N3
    (try dsimp only)
    clear F2 N2
    k_steps
    exact ok ho _ _ _ _ (by assumption) (by assumption) l2
  case er =>
    intro D hD G e h2 tk2 FG2 x2
    (try dsimp only)
    k_unfold
    refine Rz.leave x2 hA2 rfl FG2 fun h3 x3 => ?_
    exact er D hD _ _ _ _ _ _ FG' x3 l2

set_option maxRecDepth 100000 in
set_option maxHeartbeats 8000000 in
theorem ctx_lam {row fa fl : Addr} {its : Array Value} {n : Nat} (U : RowIn row nf) (K : AskedIn fa row nf) {k : Int} (Z : LamIn lamCtx "bad_run" k fl fa nf) (C : CodeHd base 69 65) (hz : its.size ≤ 16777216)
    (B : Below A₀ base outer h₀) (F : Fr h₀ L s.heap m) (X : (Mine.hd.heap_39 w.params).In h₀) (N : News h₀ L s.heap (nf (listOf its n))) (T : Top p loose mean mg mb h₀)
    (hA : A.frames = some (env :: outer)) (hf : env.frame = some L) (hke : env.scope.kind = .function) (hroom : A.depth + 30 < recursionLimit) (hh : ∀ o, HeldN A (nf o)) {v v2 v3 : Value}
    (ok : excOf k = none → ∀ h' tk th t, Fr h₀ L h' m → News h₀ L h' ((th, listOf #[.str (Str.ofString "runctx") t, v, v2, v3] 0) :: nf (listOf (its.push (.ref th)) (n + 1))) → (∀ q ∈ nf (listOf its n), q.1 < th) → R (.ok (.ret .none)) { s with heap := h', toks := tk })
    (er : ∀ C, excOf k = some C → ∀ G e h' tk th t, Fr h₀ L G m → Rz base G (env :: outer) e (.type C) (ctxOf A) .none ((th, listOf #[.str (Str.ofString "runctx") t, v, v2, v3] 0) :: nf (listOf (its.push (.ref th)) (n + 1))) h' → (∀ q ∈ nf (listOf its n), q.1 < th) → R (.error (.ref e)) { s with heap := h', toks := tk }) :
    codeAny (model PySem.Challenge.rw_ki0071_01.row.prog w) A (.call (.ref fl) ⟨[v, v2, v3], []⟩) R s := by
  revert X
  k_fill
  intro X
  obtain ⟨qL, cAs, cB, pm, cL, ctv, oAs, oB, oL, vs, t, tk, k1, k2, k3, k4, k5, k6, k7, k8⟩ := Z
  have m1 := k1 (listOf its n)
  have m2 := k2 (listOf its n)
  have m4 := k4 (listOf its n)
  have m6 := k6 (listOf its n)
  obtain ⟨xc, xd, xf, xs, hfn⟩ := K.fn
  have mf := hfn (listOf its n)
  dsimp only [lamObj, lamRun, lamCtx, lamDump, lamPrint, lArgs, lBody, lScope, sVal, dMaker, mkStmts, hdS, tlS, sBody, sArgs, sScope, PySem.Challenge.pw_ki0071_01] at m1
  refine' kla_code ?k1 ?k2 ?k3 ?k4 ?k5 ?kA ?kF ?kK ?k6 ?k7 ?k8 ?k9 ?kB ?_ ?c2 ?c3 ?c4 ?c5
  (case kA => exact hA); (case kF => exact hf); (case kK => exact hke); (case k1 => k_asm); (case k2 => k_asm); (case k3 => k_asm); (case k4 => k_asm); (case k5 => k_asm); (case k6 => exact m1); (case k7 => exact codeRec_news N m6 k7 k8); (case k8 => k_room); (case k9 => exact rfl); (case c5 => decide); (case kB => exact locs rfl); (case c2 => exact rfl); (case c3 => exact rfl); (case c4 => exact rfl)
  intro g' L' h' FG' F' N' B' X' T'
  (try dsimp only)
  (try k_fold)
  k_steps
  rename Fr g' L' _ _ => F2
  rename News g' L' _ _ => N2
  rename ∀ q ∈ nf (listOf its n), q.1 < _ => l2
  have ne2 := Nat.ne_of_gt (l2 _ (U.mem _))
  have hA2 := Around.frames_deeper (env := envX qL (lScope lamCtx) L' fl (Value.ref cL) [(Str.ofString "bad_run", cB), (Str.ofString "asked", cAs)]) hA
  refine wpAny_call (asked_spec (U.cons ne2) (K.mono fun _ _ q => List.mem_cons_of_mem _ q) C hz B' F2 X' N2 T' hA2 rfl rfl ?hr (fun o => (hh o).mono fun _ q => List.mem_cons_of_mem _ q) ?ok ?er)
  case hr => k_room
  case ok =>
    intro ho h2 tk2 F3 N3
    (try dsimp only)
    clear F2 N2
    k_steps
    exact ok ho _ _ _ _ (by assumption) (by assumption) l2
  case er =>
    intro D hD G e h2 tk2 FG2 x2
    (try dsimp only)
    k_unfold
    refine Rz.leave x2 hA2 rfl FG2 fun h3 x3 => ?_
    exact er D hD _ _ _ _ _ _ FG' x3 l2

set_option maxRecDepth 100000 in
set_option maxHeartbeats 8000000 in
theorem dump_lam {row fa fl : Addr} {its : Array Value} {n : Nat} (U : RowIn row nf) (K : AskedIn fa row nf) {k : Int} (Z : LamIn lamDump "bad_show" k fl fa nf) (C : CodeHd base 69 65) (hz : its.size ≤ 16777216)
    (B : Below A₀ base outer h₀) (F : Fr h₀ L s.heap m) (X : (Mine.hd.heap_39 w.params).In h₀) (N : News h₀ L s.heap (nf (listOf its n))) (T : Top p loose mean mg mb h₀)
    (hA : A.frames = some (env :: outer)) (hf : env.frame = some L) (hke : env.scope.kind = .function) (hroom : A.depth + 30 < recursionLimit) (hh : ∀ o, HeldN A (nf o)) {v : Value}
    (ok : excOf k = none → ∀ h' tk th t, Fr h₀ L h' m → News h₀ L h' ((th, listOf #[.str (Str.ofString "dump") t, v] 0) :: nf (listOf (its.push (.ref th)) (n + 1))) → (∀ q ∈ nf (listOf its n), q.1 < th) → R (.ok (.ret .none)) { s with heap := h', toks := tk })
    (er : ∀ C, excOf k = some C → ∀ G e h' tk th t, Fr h₀ L G m → Rz base G (env :: outer) e (.type C) (ctxOf A) .none ((th, listOf #[.str (Str.ofString "dump") t, v] 0) :: nf (listOf (its.push (.ref th)) (n + 1))) h' → (∀ q ∈ nf (listOf its n), q.1 < th) → R (.error (.ref e)) { s with heap := h', toks := tk }) :
    codeAny (model PySem.Challenge.rw_ki0071_01.row.prog w) A (.call (.ref fl) ⟨[v], []⟩) R s := by
  revert X
  k_fill
  intro X
  obtain ⟨qL, cAs, cB, pm, cL, ctv, oAs, oB, oL, vs, t, tk, k1, k2, k3, k4, k5, k6, k7, k8⟩ := Z
  have m1 := k1 (listOf its n)
  have m2 := k2 (listOf its n)
  have m4 := k4 (listOf its n)
  have m6 := k6 (listOf its n)
  obtain ⟨xc, xd, xf, xs, hfn⟩ := K.fn
  have mf := hfn (listOf its n)
  dsimp only [lamObj, lamRun, lamCtx, lamDump, lamPrint, lArgs, lBody, lScope, sVal, dMaker, mkStmts, hdS, tlS, sBody, sArgs, sScope, PySem.Challenge.pw_ki0071_01] at m1
  refine' kla_code ?k1 ?k2 ?k3 ?k4 ?k5 ?kA ?kF ?kK ?k6 ?k7 ?k8 ?k9 ?kB ?_ ?c2 ?c3 ?c4 ?c5
  (case kA => exact hA); (case kF => exact hf); (case kK => exact hke); (case k1 => k_asm); (case k2 => k_asm); (case k3 => k_asm); (case k4 => k_asm); (case k5 => k_asm); (case k6 => exact m1); (case k7 => exact codeRec_news N m6 k7 k8); (case k8 => k_room); (case k9 => exact rfl); (case c5 => decide); (case kB => exact locs rfl); (case c2 => exact rfl); (case c3 => exact rfl); (case c4 => exact rfl)
  intro g' L' h' FG' F' N' B' X' T'
  (try dsimp only)
  (try k_fold)
  k_steps
  rename Fr g' L' _ _ => F2
  rename News g' L' _ _ => N2
  rename ∀ q ∈ nf (listOf its n), q.1 < _ => l2
  have ne2 := Nat.ne_of_gt (l2 _ (U.mem _))
  have hA2 := Around.frames_deeper (env := envX qL (lScope lamDump) L' fl (Value.ref cL) [(Str.ofString "bad_show", cB), (Str.ofString "asked", cAs)]) hA
  refine wpAny_call (asked_spec (U.cons ne2) (K.mono fun _ _ q => List.mem_cons_of_mem _ q) C hz B' F2 X' N2 T' hA2 rfl rfl ?hr (fun o => (hh o).mono fun _ q => List.mem_cons_of_mem _ q) ?ok ?er)
  case hr => k_room
  case ok =>
    intro ho h2 tk2 F3 N3
    (try dsimp only)
    clear F2 N2
    k_steps
    exact ok ho _ _ _ _ (by assumption) (by assumption) l2
  case er =>
    intro D hD G e h2 tk2 FG2 x2
    (try dsimp only)
    k_unfold
    refine Rz.leave x2 hA2 rfl FG2 fun h3 x3 => ?_
    exact er D hD _ _ _ _ _ _ FG' x3 l2

set_option maxRecDepth 100000 in
set_option maxHeartbeats 8000000 in
theorem print_lam {row fa fl : Addr} {its : Array Value} {n : Nat} (U : RowIn row nf) (K : AskedIn fa row nf) {k : Int} (Z : LamIn lamPrint "bad_show" k fl fa nf) (C : CodeHd base 69 65) (hz : its.size ≤ 16777216)
    (B : Below A₀ base outer h₀) (F : Fr h₀ L s.heap m) (X : (Mine.hd.heap_39 w.params).In h₀) (N : News h₀ L s.heap (nf (listOf its n))) (T : Top p loose mean mg mb h₀)
    (hA : A.frames = some (env :: outer)) (hf : env.frame = some L) (hke : env.scope.kind = .function) (hroom : A.depth + 30 < recursionLimit) (hh : ∀ o, HeldN A (nf o)) {v : Value}
    (ok : excOf k = none → ∀ h' tk th t, Fr h₀ L h' m → News h₀ L h' ((th, listOf #[.str (Str.ofString "print") t, v] 0) :: nf (listOf (its.push (.ref th)) (n + 1))) → (∀ q ∈ nf (listOf its n), q.1 < th) → R (.ok (.ret .none)) { s with heap := h', toks := tk })
    (er : ∀ C, excOf k = some C → ∀ G e h' tk th t, Fr h₀ L G m → Rz base G (env :: outer) e (.type C) (ctxOf A) .none ((th, listOf #[.str (Str.ofString "print") t, v] 0) :: nf (listOf (its.push (.ref th)) (n + 1))) h' → (∀ q ∈ nf (listOf its n), q.1 < th) → R (.error (.ref e)) { s with heap := h', toks := tk }) :
    codeAny (model PySem.Challenge.rw_ki0071_01.row.prog w) A (.call (.ref fl) ⟨[v], []⟩) R s := by
  revert X
  k_fill
  intro X
  obtain ⟨qL, cAs, cB, pm, cL, ctv, oAs, oB, oL, vs, t, tk, k1, k2, k3, k4, k5, k6, k7, k8⟩ := Z
  have m1 := k1 (listOf its n)
  have m2 := k2 (listOf its n)
  have m4 := k4 (listOf its n)
  have m6 := k6 (listOf its n)
  obtain ⟨xc, xd, xf, xs, hfn⟩ := K.fn
  have mf := hfn (listOf its n)
  dsimp only [lamObj, lamRun, lamCtx, lamDump, lamPrint, lArgs, lBody, lScope, sVal, dMaker, mkStmts, hdS, tlS, sBody, sArgs, sScope, PySem.Challenge.pw_ki0071_01] at m1
  refine' kla_code ?k1 ?k2 ?k3 ?k4 ?k5 ?kA ?kF ?kK ?k6 ?k7 ?k8 ?k9 ?kB ?_ ?c2 ?c3 ?c4 ?c5
  (case kA => exact hA); (case kF => exact hf); (case kK => exact hke); (case k1 => k_asm); (case k2 => k_asm); (case k3 => k_asm); (case k4 => k_asm); (case k5 => k_asm); (case k6 => exact m1); (case k7 => exact codeRec_news N m6 k7 k8); (case k8 => k_room); (case k9 => exact rfl); (case c5 => decide); (case kB => exact locs rfl); (case c2 => exact rfl); (case c3 => exact rfl); (case c4 => exact rfl)
  intro g' L' h' FG' F' N' B' X' T'
  (try dsimp only)
  (try k_fold)
  k_steps
  rename Fr g' L' _ _ => F2
  rename News g' L' _ _ => N2
  rename ∀ q ∈ nf (listOf its n), q.1 < _ => l2
  have ne2 := Nat.ne_of_gt (l2 _ (U.mem _))
  have hA2 := Around.frames_deeper (env := envX qL (lScope lamPrint) L' fl (Value.ref cL) [(Str.ofString "bad_show", cB), (Str.ofString "asked", cAs)]) hA
  refine wpAny_call (asked_spec (U.cons ne2) (K.mono fun _ _ q => List.mem_cons_of_mem _ q) C hz B' F2 X' N2 T' hA2 rfl rfl ?hr (fun o => (hh o).mono fun _ q => List.mem_cons_of_mem _ q) ?ok ?er)
  case hr => k_room
  case ok =>
    intro ho h2 tk2 F3 N3
    (try dsimp only)
    clear F2 N2
    k_steps
    exact ok ho _ _ _ _ (by assumption) (by assumption) l2
  case er =>
    intro D hD G e h2 tk2 FG2 x2
    (try dsimp only)
    k_unfold
    refine Rz.leave x2 hA2 rfl FG2 fun h3 x3 => ?_
    exact er D hD _ _ _ _ _ _ FG' x3 l2
end
end Mine
end

/- part E6 -/
section
open PySem PySem.W PyProof.Rows PySem.Calls PySem.Spec
set_option maxRecDepth 100000
namespace Mine
/-- the object made for a def or a lambda that closes over something -/
abbrev fobj (name qual : Str) (params : Arguments) (fb : FuncBody) (scope : Scope) (clos : List (Str × Addr)) (doc pm : Value) (c : Addr) (ctv : Value) : Obj :=
  { cls := .type "function", data := .func { name, qualname := qual, params, body := fb, scope, globals := mainGlobals, closure := clos, defaults := .none, kwdefaults := .none, doc, pyModule := pm, annotations := none, code := .ref c, closureTuple := ctv, builtins := builtinsNs } }
/-- what a code object must say so that others can be made under it; its table is at P -/
def CodeObj (oc : Obj) (c P : Addr) : Prop :=
  ∃ vs file tf flags tg inF text tt, oc.cls = .type "code" ∧ oc.data = .fields vs ∧ vs[11]? = some (.ref P) ∧ vs.getD 11 .none = .ref P ∧ vs.getD 18 .none = .str file tf ∧
    vs.getD 7 .none = .int flags tg ∧ vs.getD 9 .none = .bool inF ∧ vs.getD 10 .none = .int text tt ∧ c ≠ P
theorem CodeObj.hd {oc : Obj} {c P : Addr} {h : Heap} (x : CodeObj oc c P) (e : h.get? c = some oc) : CodeHd h c P :=
  let ⟨vs, file, tf, flags, tg, inF, text, tt, r⟩ := x
  ⟨oc, vs, file, tf, flags, tg, inF, text, tt, e, r⟩
theorem CodeObj.of {c P : Addr} {h : Heap} (x : CodeHd h c P) : ∃ oc, h.get? c = some oc ∧ CodeObj oc c P :=
  let ⟨oc, vs, file, tf, flags, tg, inF, text, tt, e, r⟩ := x
  ⟨oc, e, vs, file, tf, flags, tg, inF, text, tt, r⟩

section
variable {M : Model} {A : Around} {E : Value → Shared → Prop} {s : Shared} {name qual : Str} {params : Arguments} {fb : FuncBody} {scope : Scope} {env : Env} {c P : Addr} {ps : Array Value} {pos : Pos} {firstLine : Nat} {mg : Str → Option Value}
  {q : Str × Addr} {r : List (Str × Addr)} {Q : Value → Shared → Prop}

theorem tail_new (hcl : closureFor scope env = pure (q :: r)) (hge0 : env.globals = mainGlobals) (hg : s.heap.Ns mainGlobals mg) (hcode : env.code = .ref c) (C : CodeHd s.heap c P) (hP : s.heap.get? P = some (tabObj ps)) (ht : TriplesOk ps.toList)
    (hnf : codeAmong pos ps.toList = none) (hgP : mainGlobals ≠ P) (hb : s.heap.BuiltinsAt mg P)
    (h : ∀ c' P' ctv doc h' tk, Heap.ExtBut P s.heap h' → s.heap.objs.size ≤ c' → c' < h'.objs.size → s.heap.objs.size ≤ P' → h'.CodeRec (.ref c') qual → CodeHd h' c' P' → h'.get? P' = some (tabObj #[]) →
      h'.get? P = some (tabObj (ps ++ #[rawInt pos.line, rawInt pos.col, .ref c'])) → (∀ e, fb = .expr e → doc = .none) →
      Q (.ref h'.objs.size) { s with heap := h'.push (fobj name qual params fb scope (q :: r) doc ((mg "__name__").getD .none) c' ctv), toks := tk }) :
    wpAny M A (makeFunction name qual params fb scope env [] [] [] pos firstLine) Q E s := by
  rw [makeFunction_eq]
  simp only [List.zip_nil_right, List.filterMap_nil, List.isEmpty_nil, if_true, pure_bind]
  obtain ⟨bm, ob, hbm, hne0, _, hneP, hbo, hcls, hdict, hdata⟩ := hb
  unfold makeTail
  rw [hcl, hge0]
  refine wpAny_bind (wpAny_pure ?_)
  simp only [List.isEmpty_cons, Bool.false_eq_true, if_false]
  refine wpAny_bind (wpAny_newTextTuple ?_)
  refine wpAny_bind (wpAny_functionCodeX hcode ((C.keeps fun b o e => Heap.get?_push_of_some _ e).code (Heap.get?_push_of_some _ hP) ht) ((C.keeps fun b o e => Heap.get?_push_of_some _ e).tab (Heap.get?_push_of_some _ hP)) hnf fun c' h' tk hx hge hlt _ hrec htb hown => ?_)
  obtain ⟨P', hP', hcode', htab'⟩ := hown
  have hg' := (hg.push _).extBut hx hgP
  have hx' : Heap.ExtBut P s.heap h' := fun b o hb' e => hx b o hb' (Heap.get?_push_of_some _ e)
  have hge' : s.heap.objs.size ≤ c' := Nat.le_trans (by rw [Heap.size_push]; omega) hge
  have hPs : s.heap.objs.size ≤ P' := Nat.le_trans (by rw [Heap.size_push]; omega) hP'
  refine wpAny_bind (wpAny_builtinsFor hg' hbm hne0 (hx' _ _ hneP hbo) hcls hdict hdata ?_)
  refine wpAny_bind (wpAny_nsGet hg' ?_)
  cases fb with
  | expr e => exact wpAny_bind (wpAny_pure (wpAny_newObj_type (h c' P' _ .none h' tk hx' hge' hlt hPs hrec (CodeHd.of hcode' htab') htab'.2 htb.2 (fun _ _ => rfl)) (by size_fits)))
  | stmts body =>
    dsimp only
    cases hdoc : docOf body with
    | none => exact wpAny_bind (wpAny_pure (wpAny_newObj_type (h c' P' _ .none h' tk hx' hge' hlt hPs hrec (CodeHd.of hcode' htab') htab'.2 htb.2 (fun _ q => by cases q)) (by size_fits)))
    | some t => exact wpAny_bind (wpAny_mkText (wpAny_newObj_type (h c' P' _ _ h' _ hx' hge' hlt hPs hrec (CodeHd.of hcode' htab') htab'.2 htb.2 (fun _ q => by cases q)) (by size_fits)))

theorem tail_hit {cv : Addr} (hcl : closureFor scope env = pure (q :: r)) (hge0 : env.globals = mainGlobals) (hg : s.heap.Ns mainGlobals mg) (hcode : env.code = .ref c) (C : CodeHd s.heap c P) (hP : s.heap.get? P = some (tabObj ps)) (ht : TriplesOk ps.toList)
    (hf : codeAmong pos ps.toList = some (.ref cv)) (hb : s.heap.BuiltinsAt mg P)
    (h : ∀ (ctv doc : Value) (h' : Heap) (tk : Tok), (∀ b o, s.heap.get? b = some o → h'.get? b = some o) → s.heap.objs.size ≤ h'.objs.size → (∀ e, fb = .expr e → doc = .none) →
      Q (.ref h'.objs.size) { s with heap := h'.push (fobj name qual params fb scope (q :: r) doc ((mg "__name__").getD .none) cv ctv), toks := tk }) :
    wpAny M A (makeFunction name qual params fb scope env [] [] [] pos firstLine) Q E s := by
  rw [makeFunction_eq]
  simp only [List.zip_nil_right, List.filterMap_nil, List.isEmpty_nil, if_true, pure_bind]
  obtain ⟨bm, ob, hbm, hne0, _, hneP, hbo, hcls, hdict, hdata⟩ := hb
  unfold makeTail
  rw [hcl, hge0]
  refine wpAny_bind (wpAny_pure ?_)
  simp only [List.isEmpty_cons, Bool.false_eq_true, if_false]
  refine wpAny_bind (wpAny_newTextTuple ?_)
  refine wpAny_bind (wpAny_functionCode_hit hcode ((C.keeps fun b o e => Heap.get?_push_of_some _ e).code (Heap.get?_push_of_some _ hP) ht) hf ?_)
  refine wpAny_bind (wpAny_builtinsFor (hg.push _) hbm hne0 (Heap.get?_push_of_some _ hbo) hcls hdict hdata ?_)
  refine wpAny_bind (wpAny_nsGet (hg.push _) ?_)
  have hsz : ∀ oT : Obj, s.heap.objs.size ≤ (s.heap.push oT).objs.size := fun oT => by rw [Heap.size_push]; omega
  cases fb with
  | expr e => exact wpAny_bind (wpAny_pure (wpAny_newObj_type (h _ .none _ s.toks (fun b o e => Heap.get?_push_of_some _ e) (hsz _) (fun _ _ => rfl)) (by size_fits)))
  | stmts body =>
    dsimp only
    cases hdoc : docOf body with
    | none => exact wpAny_bind (wpAny_pure (wpAny_newObj_type (h _ .none _ s.toks (fun b o e => Heap.get?_push_of_some _ e) (hsz _) (fun _ q => by cases q)) (by size_fits)))
    | some t => exact wpAny_bind (wpAny_mkText (wpAny_newObj_type (h _ _ _ _ (fun b o e => Heap.get?_push_of_some _ e) (hsz _) (fun _ q => by cases q)) (by size_fits)))
end

section
variable {M : Model} {A : Around} {E : Value → Shared → Prop} {s : Shared} {h₀ : Heap} {L a c P : Addr} {m mg mb : Str → Option Value} {cn : Str} {cs : Scope} {ccd : Value} {cl : List (Str × Addr)} {news : List (Addr × Obj)} {g : Obj → List (Addr × Obj)}
  {p : Program} {loose : List Str} {mean : ExcName → Option Value} {name qual : Str} {params : Arguments} {fb : FuncBody} {scope : Scope} {ps : Array Value} {pos : Pos} {firstLine : Nat} {q : Str × Addr} {r : List (Str × Addr)}

theorem fn_new {Q : Value → Shared → Prop} (F : Fr h₀ L s.heap m) (N : News h₀ L s.heap news) (T : Top p loose mean mg mb h₀) (C : CodeHd s.heap c P) (hcd : ccd = .ref c) (U : UpdF P (tabObj ps) news g) (ht : TriplesOk ps.toList) (hnf : codeAmong pos ps.toList = none)
    (hcl : closureFor scope (envX cn cs L a ccd cl) = pure (q :: r))
    (h : ∀ f c' P' oc vs t ctv doc h' tk, Fr h₀ L h' m →
      News h₀ L h' ((f, fobj name qual params fb scope (q :: r) doc ((mg "__name__").getD .none) c' ctv) :: (c', oc) :: (P', tabObj #[]) :: g (tabObj (ps ++ #[rawInt pos.line, rawInt pos.col, .ref c']))) →
      oc.data = .fields vs → vs[1]? = some (.str qual t) → CodeObj oc c' P' → (∀ q ∈ news, q.1 < c') → (∀ q ∈ news, q.1 < P') → c' < f → P' < f → (∀ e, fb = .expr e → doc = .none) → Q (.ref f) { s with heap := h', toks := tk }) :
    wpAny M A (makeFunction name qual params fb scope (envX cn cs L a ccd cl) [] [] [] pos firstLine) Q E s := by
  obtain ⟨own, rest, rfl, hgr, h1, h2⟩ := U.split
  have hm := N (P, tabObj ps) (List.mem_append_right _ (.head _))
  have hgs := T.g.keeps F.keep
  obtain ⟨bm, ob, b1, b2, b3, b4, b5, b6⟩ := T.bmain
  have hgP : mainGlobals ≠ P := fun q => by
    obtain ⟨o, es, ep, e, hd, _⟩ := hgs
    rw [q, hm.1] at e; cases e; cases hd
  have hbP : bm ≠ P := fun q => by
    have e := F.keep _ _ b3
    rw [q, hm.1] at e; cases e; cases b4
  have hbG : bm ≠ mainGlobals := fun q => by
    obtain ⟨o, es, ep, e, hd, _⟩ := T.g
    rw [q, e] at b3; cases b3; rw [hd] at b6; cases b6
  refine tail_new (mg := mg) hcl rfl hgs hcd C hm.1 ht hnf hgP ⟨bm, ob, b1, b2, hbG, hbP, F.keep _ _ b3, b4, b5, b6⟩ fun c' P' ctv doc h' tk hx hge hlt hPg hrec hC hPt htb hdc => ?_
  obtain ⟨c₂, oc₂, vs, t, e2, hoc₂, hd, hv⟩ := hrec
  cases e2
  obtain ⟨oc, hoc, hco⟩ := CodeObj.of hC
  have e3 : oc₂ = oc := Option.some.inj (hoc₂.symm.trans hoc)
  rw [e3] at hd
  have hPl := Heap.lt_size hPt
  have hLs : L < s.heap.objs.size := F.ns.lt
  have hLc : L < c' := Nat.lt_of_lt_of_le hLs hge
  have hLP : L < P' := Nat.lt_of_lt_of_le hLs hPg
  have old : ∀ b o, h₀.get? b = some o → h'.get? b = some o := fun b o e => hx b o (fun q => by rw [q, hm.2.2] at e; cases e) (F.keep b o e)
  have fresh : ∀ b, L < b → h₀.get? b = none := fun b hb => Heap.get?_none_of_le (Nat.le_trans F.above (Nat.le_of_lt hb))
  refine h h'.objs.size c' P' oc vs t ctv doc _ tk ⟨(F.ns.extBut hx hm.2.1.symm).push _, fun b o e => Heap.get?_push_of_some _ (old b o e), F.above⟩ (fun q hq => ?_) hd hv hco
    (fun q hq => Nat.lt_of_lt_of_le (Heap.lt_size (N q hq).1) hge) (fun q hq => Nat.lt_of_lt_of_le (Heap.lt_size (N q hq).1) hPg) hlt hPl hdc
  rcases List.mem_cons.mp hq with rfl | hq
  · exact ⟨Heap.get?_push_size _ rfl, Nat.ne_of_gt (Nat.lt_trans hLc hlt), fresh _ (Nat.lt_trans hLc hlt)⟩
  · rcases List.mem_cons.mp hq with rfl | hq
    · exact ⟨Heap.get?_push_of_some _ hoc, Nat.ne_of_gt hLc, fresh _ hLc⟩
    · rcases List.mem_cons.mp hq with rfl | hq
      · exact ⟨Heap.get?_push_of_some _ hPt, Nat.ne_of_gt hLP, fresh _ hLP⟩
      · rw [hgr] at hq
        rcases List.mem_append.mp hq with hq | hq
        · have n := N q (List.mem_append_left _ hq)
          exact ⟨Heap.get?_push_of_some _ (hx _ _ (h1 q hq) n.1), n.2⟩
        · rcases List.mem_cons.mp hq with rfl | hq
          · exact ⟨Heap.get?_push_of_some _ htb, hm.2⟩
          · have n := N q (List.mem_append_right _ (.tail _ hq))
            exact ⟨Heap.get?_push_of_some _ (hx _ _ (h2 q hq) n.1), n.2⟩

theorem fn_hit {Q : Value → Shared → Prop} {c' : Addr} (F : Fr h₀ L s.heap m) (N : News h₀ L s.heap news) (T : Top p loose mean mg mb h₀) (C : CodeHd s.heap c P) (hcd : ccd = .ref c) (hmem : (P, tabObj ps) ∈ news) (ht : TriplesOk ps.toList) (hf : codeAmong pos ps.toList = some (.ref c'))
    (hcl : closureFor scope (envX cn cs L a ccd cl) = pure (q :: r))
    (h : ∀ f ctv doc h' tk, Fr h₀ L h' m → News h₀ L h' ((f, fobj name qual params fb scope (q :: r) doc ((mg "__name__").getD .none) c' ctv) :: news) → (∀ q ∈ news, q.1 < f) → (∀ e, fb = .expr e → doc = .none) → Q (.ref f) { s with heap := h', toks := tk }) :
    wpAny M A (makeFunction name qual params fb scope (envX cn cs L a ccd cl) [] [] [] pos firstLine) Q E s := by
  have hm := N (P, tabObj ps) hmem
  have hgs := T.g.keeps F.keep
  obtain ⟨bm, ob, b1, b2, b3, b4, b5, b6⟩ := T.bmain
  have hbP : bm ≠ P := fun q => by
    have e := F.keep _ _ b3
    rw [q, hm.1] at e; cases e; cases b4
  have hbG : bm ≠ mainGlobals := fun q => by
    obtain ⟨o, es, ep, e, hd, _⟩ := T.g
    rw [q, e] at b3; cases b3; rw [hd] at b6; cases b6
  refine tail_hit (mg := mg) hcl rfl hgs hcd C hm.1 ht hf ⟨bm, ob, b1, b2, hbG, hbP, F.keep _ _ b3, b4, b5, b6⟩ fun ctv doc h' tk hk hsz hdc => ?_
  have hLs : L < h'.objs.size := Nat.lt_of_lt_of_le F.ns.lt hsz
  have fresh : ∀ b, L < b → h₀.get? b = none := fun b hb => Heap.get?_none_of_le (Nat.le_trans F.above (Nat.le_of_lt hb))
  refine h h'.objs.size ctv doc _ tk ⟨(F.ns.keeps hk).push _, fun b o e => Heap.get?_push_of_some _ (hk b o (F.keep b o e)), F.above⟩ (fun q hq => ?_) (fun q hq => Nat.lt_of_lt_of_le (Heap.lt_size (N q hq).1) hsz) hdc
  rcases List.mem_cons.mp hq with rfl | hq
  · exact ⟨Heap.get?_push_size _ rfl, Nat.ne_of_gt hLs, fresh _ hLs⟩
  · exact ⟨Heap.get?_push_of_some _ (hk _ _ (N q hq).1), (N q hq).2⟩
end
end Mine
end

/- part F4 -/
section
open PySem PySem.W PyProof.Rows PySem.Calls PySem.Spec
namespace Mine
/-- from here on: what is where -/
def sPos : Stmt → Pos | .FunctionDef _ _ _ _ _ _ _ _ _ p => p | _ => ⟨0, 0, 0, 0⟩
def lPos : PySem.Expr → Pos | .Lambda _ _ _ p => p | _ => ⟨0, 0, 0, 0⟩
def qAsked : Str := Str.ofString "_law_maker" ++ Str.ofString ".<locals>." ++ Str.ofString "asked"
def qMaker : Str := Str.ofString "_law_maker" ++ Str.ofString ".<locals>." ++ Str.ofString "maker"
def qLam : Str := qMaker ++ Str.ofString ".<locals>." ++ Str.ofString "<lambda>"
def full2 (cA cM : Addr) : Array Value := #[rawInt (sPos dAsked).line, rawInt (sPos dAsked).col, .ref cA, rawInt (sPos dMaker).line, rawInt (sPos dMaker).col, .ref cM]
def full4 (c1 c2 c3 c4 : Addr) : Array Value := #[rawInt (lPos lamRun).line, rawInt (lPos lamRun).col, .ref c1, rawInt (lPos lamCtx).line, rawInt (lPos lamCtx).col, .ref c2, rawInt (lPos lamDump).line, rawInt (lPos lamDump).col, .ref c3, rawInt (lPos lamPrint).line, rawInt (lPos lamPrint).col, .ref c4]
abbrev Keep := List (Addr × Obj)
def TabSt (PM : Addr) (tab : Array Value) (keep : Keep) : Prop :=
  (tab = #[] ∧ OwnOff keep [PM]) ∨ ∃ c1 c2 c3 c4, tab = full4 c1 c2 c3 c4 ∧ CodeAt qLam c1 keep ∧ CodeAt qLam c2 keep ∧ CodeAt qLam c3 keep ∧ CodeAt qLam c4 keep
/-- the code of maker, its table at PM -/
def CodeM (cM PM : Addr) (keep : Keep) : Prop := ∃ oM vs t, (cM, oM) ∈ keep ∧ oM.data = .fields vs ∧ vs[1]? = some (.str qMaker t) ∧ CodeObj oM cM PM
/-- the closure maker -/
def MakerIn (fm fa row : Addr) (kb ks : Int) (cM : Addr) (keep : Keep) : Prop :=
  ∃ cRow cAs cBr cBs doc pm ctv oRow oAs oBr oBs tkb tks,
    (fm, fobj (Str.ofString "maker") qMaker (sArgs dMaker) (.stmts (sBody dMaker)) (sScope dMaker) [(Str.ofString "row", cRow), (Str.ofString "bad_show", cBs), (Str.ofString "bad_run", cBr), (Str.ofString "asked", cAs)] doc pm cM ctv) ∈ keep ∧
    (cRow, oRow) ∈ keep ∧ oRow.data = .cell (some (.ref row)) ∧ (cAs, oAs) ∈ keep ∧ oAs.data = .cell (some (.ref fa)) ∧ (cBr, oBr) ∈ keep ∧ oBr.data = .cell (some (.int kb tkb)) ∧ (cBs, oBs) ∈ keep ∧ oBs.data = .cell (some (.int ks tks))
/-- the profiler that stands in -/
def StandIn (x f1 f2 f3 f4 : Addr) (keep : Keep) : Prop :=
  ∃ dx es k, (x, instObj 52 dx) ∈ keep ∧ (dx, dictOf es k) ∈ keep ∧ getL (Str.ofString "run") es = some (some (.ref f1)) ∧ getL (Str.ofString "runctx") es = some (some (.ref f2)) ∧ getL (Str.ofString "dump_stats") es = some (some (.ref f3)) ∧ getL (Str.ofString "print_stats") es = some (some (.ref f4))

theorem LamIn.of {e : PySem.Expr} {bn : String} {kind : Int} {fl fa : Addr} {keep : Keep} {qL : Str} {cAs cB cL : Addr} {pm ctv : Value} {oAs oB oL : Obj} {vs : Array Value} {t tk : Tok}
    (k1 : (fl, lamObj e qL [(Str.ofString bn, cB), (Str.ofString "asked", cAs)] pm cL ctv) ∈ keep) (k2 : (cAs, oAs) ∈ keep) (k3 : oAs.data = .cell (some (.ref fa))) (k4 : (cB, oB) ∈ keep) (k5 : oB.data = .cell (some (.int kind tk)))
    (k6 : (cL, oL) ∈ keep) (k7 : oL.data = .fields vs) (k8 : vs[1]? = some (.str qL t)) : LamIn e bn kind fl fa (fun _ => keep) :=
  ⟨qL, cAs, cB, pm, cL, ctv, oAs, oB, oL, vs, t, tk, fun _ => k1, fun _ => k2, k3, fun _ => k4, k5, fun _ => k6, k7, k8⟩
theorem News.less {h₀ h : Heap} {L : Addr} {ns ns' : List (Addr × Obj)} (N : News h₀ L h ns) (hs : ∀ p ∈ ns', p ∈ ns) : News h₀ L h ns' := fun p hp => N p (hs p hp)
theorem full4_ne {c1 c2 c3 c4 : Addr} : full4 c1 c2 c3 c4 ≠ #[] := fun e => by
  have := congrArg Array.size e
  simp [full4] at this
theorem full4_eq (c1 c2 c3 c4 : Addr) : (#[] ++ #[rawInt (lPos lamRun).line, rawInt (lPos lamRun).col, .ref c1] ++ #[rawInt (lPos lamCtx).line, rawInt (lPos lamCtx).col, .ref c2] ++ #[rawInt (lPos lamDump).line, rawInt (lPos lamDump).col, .ref c3] ++ #[rawInt (lPos lamPrint).line, rawInt (lPos lamPrint).col, .ref c4] : Array Value) = full4 c1 c2 c3 c4 := by
  simp [full4]
theorem CodeAt.mono {q : Str} {c : Addr} {ns ns' : List (Addr × Obj)} (x : CodeAt q c ns) (h : ∀ p ∈ ns, p ∈ ns') : CodeAt q c ns' := by
  obtain ⟨oc, vs, t, a, b⟩ := x.there
  exact ⟨oc, vs, t, h _ a, b⟩

/-- how maker ends, in words of the ledger -/
abbrev MakerOk (h₀ : Heap) (L : Addr) (m : Str → Option Value) (row fa PM : Addr) (kb ks : Int) (its : Array Value) (n : Nat) (keep : Keep) (R : Result → Shared → Prop) (s : Shared) : Prop :=
  ∀ h' tk x mk t f1 f2 f3 f4 tab' keep', Fr h₀ L h' m → News h₀ L h' ((row, listOf (its.push (.ref mk)) (n + 1)) :: (PM, tabObj tab') :: keep') → (∀ q ∈ keep, q ∈ keep') → TabSt PM tab' keep' → tab' ≠ #[] → OwnOff keep' [row] → (mk, listOf #[.str (Str.ofString "made") t] 0) ∈ keep' →
    StandIn x f1 f2 f3 f4 keep' → LamIn lamRun "bad_run" kb f1 fa (fun _ => keep') → LamIn lamCtx "bad_run" kb f2 fa (fun _ => keep') → LamIn lamDump "bad_show" ks f3 fa (fun _ => keep') → LamIn lamPrint "bad_show" ks f4 fa (fun _ => keep') →
    R (.ok (.ret (.ref x))) { s with heap := h', toks := tk }

theorem maker_end_new {h₀ h' : Heap} {L : Addr} {m : Str → Option Value} {row fa PM : Addr} {kb ks : Int} {its : Array Value} {n : Nat} {keep : Keep} {R : Result → Shared → Prop} {s : Shared} (ok : MakerOk h₀ L m row fa PM kb ks its n keep R s)
    {tk : Nat} {x dx mk f1 f2 f3 f4 c1 c2 c3 c4 P1 P2 P3 P4 cBs cBr cAs : Addr} {o1 o2 o3 o4 oBs oBr oAs : Obj} {v1 v2 v3 v4 : Array Value} {t t1 t2 t3 t4 tkb tks : Tok} {pm y1 y2 y3 y4 : Value} {es : List DictEntry} {k : Nat}
    (F : Fr h₀ L h' m)
    (N : News h₀ L h' ((f4, fobj (Str.ofString "<lambda>") qLam (lArgs lamPrint) (.expr (lBody lamPrint)) (lScope lamPrint) [(Str.ofString "bad_show", cBs), (Str.ofString "asked", cAs)] .none pm c4 y4) :: (c4, o4) :: (P4, tabObj #[]) ::
      (f3, fobj (Str.ofString "<lambda>") qLam (lArgs lamDump) (.expr (lBody lamDump)) (lScope lamDump) [(Str.ofString "bad_show", cBs), (Str.ofString "asked", cAs)] .none pm c3 y3) :: (c3, o3) :: (P3, tabObj #[]) ::
      (f2, fobj (Str.ofString "<lambda>") qLam (lArgs lamCtx) (.expr (lBody lamCtx)) (lScope lamCtx) [(Str.ofString "bad_run", cBr), (Str.ofString "asked", cAs)] .none pm c2 y2) :: (c2, o2) :: (P2, tabObj #[]) ::
      (f1, fobj (Str.ofString "<lambda>") qLam (lArgs lamRun) (.expr (lBody lamRun)) (lScope lamRun) [(Str.ofString "bad_run", cBr), (Str.ofString "asked", cAs)] .none pm c1 y1) :: (c1, o1) :: (P1, tabObj #[]) ::
      (x, instObj 52 dx) :: (dx, dictOf es k) :: (mk, listOf #[.str (Str.ofString "made") t] 0) :: (row, listOf (its.push (.ref mk)) (n + 1)) ::
      (PM, tabObj (#[] ++ #[rawInt (lPos lamRun).line, rawInt (lPos lamRun).col, .ref c1] ++ #[rawInt (lPos lamCtx).line, rawInt (lPos lamCtx).col, .ref c2] ++ #[rawInt (lPos lamDump).line, rawInt (lPos lamDump).col, .ref c3] ++ #[rawInt (lPos lamPrint).line, rawInt (lPos lamPrint).col, .ref c4])) :: keep))
    (a1 : o1.data = .fields v1) (b1 : v1[1]? = some (.str qLam t1)) (a2 : o2.data = .fields v2) (b2 : v2[1]? = some (.str qLam t2)) (a3 : o3.data = .fields v3) (b3 : v3[1]? = some (.str qLam t3)) (a4 : o4.data = .fields v4) (b4 : v4[1]? = some (.str qLam t4))
    (z4 : (cAs, oAs) ∈ keep) (z5 : oAs.data = .cell (some (.ref fa))) (z6 : (cBr, oBr) ∈ keep) (z7 : oBr.data = .cell (some (.int kb tkb))) (z8 : (cBs, oBs) ∈ keep) (z9 : oBs.data = .cell (some (.int ks tks)))
    (g1 : getL (Str.ofString "run") es = some (some (.ref f1))) (g2 : getL (Str.ofString "runctx") es = some (some (.ref f2))) (g3 : getL (Str.ofString "dump_stats") es = some (some (.ref f3))) (g4 : getL (Str.ofString "print_stats") es = some (some (.ref f4)))
    (hoff : OwnOff keep [row]) (l : ∀ a ∈ [f1, f2, f3, f4, c1, c2, c3, c4, P1, P2, P3, P4, x, dx, mk], a ≠ row) :
    R (.ok (.ret (.ref x))) { s with heap := h', toks := tk } := by
  rw [full4_eq] at N
  let new : Keep := [(f4, fobj (Str.ofString "<lambda>") qLam (lArgs lamPrint) (.expr (lBody lamPrint)) (lScope lamPrint) [(Str.ofString "bad_show", cBs), (Str.ofString "asked", cAs)] .none pm c4 y4), (c4, o4), (P4, tabObj #[]),
      (f3, fobj (Str.ofString "<lambda>") qLam (lArgs lamDump) (.expr (lBody lamDump)) (lScope lamDump) [(Str.ofString "bad_show", cBs), (Str.ofString "asked", cAs)] .none pm c3 y3), (c3, o3), (P3, tabObj #[]),
      (f2, fobj (Str.ofString "<lambda>") qLam (lArgs lamCtx) (.expr (lBody lamCtx)) (lScope lamCtx) [(Str.ofString "bad_run", cBr), (Str.ofString "asked", cAs)] .none pm c2 y2), (c2, o2), (P2, tabObj #[]),
      (f1, fobj (Str.ofString "<lambda>") qLam (lArgs lamRun) (.expr (lBody lamRun)) (lScope lamRun) [(Str.ofString "bad_run", cBr), (Str.ofString "asked", cAs)] .none pm c1 y1), (c1, o1), (P1, tabObj #[]),
      (x, instObj 52 dx), (dx, dictOf es k), (mk, listOf #[.str (Str.ofString "made") t] 0)]
  have hk : ∀ q ∈ keep, q ∈ new ++ keep := fun q hq => List.mem_append_right _ hq
  have hn : ∀ q ∈ new, q ∈ new ++ keep := fun q hq => List.mem_append_left _ hq
  have N' : News h₀ L h' ((row, listOf (its.push (.ref mk)) (n + 1)) :: (PM, tabObj (full4 c1 c2 c3 c4)) :: (new ++ keep)) := News.less N fun p hp => by
    simp only [new, List.cons_append, List.nil_append, List.mem_cons] at hp ⊢
    rcases hp with hp | hp | hp
    · simp [hp]
    · simp [hp]
    · rcases hp with hp | hp | hp | hp | hp | hp | hp | hp | hp | hp | hp | hp | hp | hp | hp | hp <;> simp [hp]
  have hoff' : OwnOff (new ++ keep) [row] := by
    intro p hp b hb
    rw [List.mem_singleton.mp hb]
    rcases List.mem_append.mp hp with hp | hp
    · have : p.1 ∈ new.map (·.1) := List.mem_map_of_mem hp
      refine l p.1 ?_
      simp only [new, List.map_cons, List.map_nil, List.mem_cons, List.not_mem_nil, or_false] at this ⊢
      rcases this with h | h | h | h | h | h | h | h | h | h | h | h | h | h | h <;> simp [h]
    · exact hoff p hp _ (List.mem_singleton.mpr rfl)
  refine ok h' tk x mk t f1 f2 f3 f4 (full4 c1 c2 c3 c4) (new ++ keep) F N' hk (.inr ⟨c1, c2, c3, c4, rfl, ⟨o1, v1, t1, hn _ (by simp [new]), a1, b1⟩, ⟨o2, v2, t2, hn _ (by simp [new]), a2, b2⟩, ⟨o3, v3, t3, hn _ (by simp [new]), a3, b3⟩, ⟨o4, v4, t4, hn _ (by simp [new]), a4, b4⟩⟩) full4_ne hoff' (hn _ (by simp [new]))
    ⟨dx, es, k, hn _ (by simp [new]), hn _ (by simp [new]), g1, g2, g3, g4⟩ (LamIn.of (pm := pm) (ctv := y1) (hn _ ?_) (hk _ z4) z5 (hk _ z6) z7 (hn (c1, o1) ?_) a1 b1) (LamIn.of (pm := pm) (ctv := y2) (hn _ ?_) (hk _ z4) z5 (hk _ z6) z7 (hn (c2, o2) ?_) a2 b2) (LamIn.of (pm := pm) (ctv := y3) (hn _ ?_) (hk _ z4) z5 (hk _ z8) z9 (hn (c3, o3) ?_) a3 b3) (LamIn.of (pm := pm) (ctv := y4) (hn _ ?_) (hk _ z4) z5 (hk _ z8) z9 (hn (c4, o4) ?_) a4 b4)
  all_goals simp [new]

theorem maker_end_hit {h₀ h' : Heap} {L : Addr} {m : Str → Option Value} {row fa PM : Addr} {kb ks : Int} {its : Array Value} {n : Nat} {keep : Keep} {R : Result → Shared → Prop} {s : Shared} (ok : MakerOk h₀ L m row fa PM kb ks its n keep R s)
    {tk : Nat} {x dx mk f1 f2 f3 f4 c1 c2 c3 c4 cBs cBr cAs : Addr} {oBs oBr oAs : Obj} {t tkb tks : Tok} {pm y1 y2 y3 y4 : Value} {es : List DictEntry} {k : Nat}
    (F : Fr h₀ L h' m)
    (N : News h₀ L h' ((f4, fobj (Str.ofString "<lambda>") qLam (lArgs lamPrint) (.expr (lBody lamPrint)) (lScope lamPrint) [(Str.ofString "bad_show", cBs), (Str.ofString "asked", cAs)] .none pm c4 y4) ::
      (f3, fobj (Str.ofString "<lambda>") qLam (lArgs lamDump) (.expr (lBody lamDump)) (lScope lamDump) [(Str.ofString "bad_show", cBs), (Str.ofString "asked", cAs)] .none pm c3 y3) ::
      (f2, fobj (Str.ofString "<lambda>") qLam (lArgs lamCtx) (.expr (lBody lamCtx)) (lScope lamCtx) [(Str.ofString "bad_run", cBr), (Str.ofString "asked", cAs)] .none pm c2 y2) ::
      (f1, fobj (Str.ofString "<lambda>") qLam (lArgs lamRun) (.expr (lBody lamRun)) (lScope lamRun) [(Str.ofString "bad_run", cBr), (Str.ofString "asked", cAs)] .none pm c1 y1) ::
      (x, instObj 52 dx) :: (dx, dictOf es k) :: (mk, listOf #[.str (Str.ofString "made") t] 0) :: (row, listOf (its.push (.ref mk)) (n + 1)) :: (PM, tabObj (full4 c1 c2 c3 c4)) :: keep))
    (a1 : CodeAt qLam c1 keep) (a2 : CodeAt qLam c2 keep) (a3 : CodeAt qLam c3 keep) (a4 : CodeAt qLam c4 keep)
    (z4 : (cAs, oAs) ∈ keep) (z5 : oAs.data = .cell (some (.ref fa))) (z6 : (cBr, oBr) ∈ keep) (z7 : oBr.data = .cell (some (.int kb tkb))) (z8 : (cBs, oBs) ∈ keep) (z9 : oBs.data = .cell (some (.int ks tks)))
    (g1 : getL (Str.ofString "run") es = some (some (.ref f1))) (g2 : getL (Str.ofString "runctx") es = some (some (.ref f2))) (g3 : getL (Str.ofString "dump_stats") es = some (some (.ref f3))) (g4 : getL (Str.ofString "print_stats") es = some (some (.ref f4)))
    (hoff : OwnOff keep [row]) (l : ∀ a ∈ [f1, f2, f3, f4, x, dx, mk], a ≠ row) :
    R (.ok (.ret (.ref x))) { s with heap := h', toks := tk } := by
  let new : Keep := [(f4, fobj (Str.ofString "<lambda>") qLam (lArgs lamPrint) (.expr (lBody lamPrint)) (lScope lamPrint) [(Str.ofString "bad_show", cBs), (Str.ofString "asked", cAs)] .none pm c4 y4),
      (f3, fobj (Str.ofString "<lambda>") qLam (lArgs lamDump) (.expr (lBody lamDump)) (lScope lamDump) [(Str.ofString "bad_show", cBs), (Str.ofString "asked", cAs)] .none pm c3 y3),
      (f2, fobj (Str.ofString "<lambda>") qLam (lArgs lamCtx) (.expr (lBody lamCtx)) (lScope lamCtx) [(Str.ofString "bad_run", cBr), (Str.ofString "asked", cAs)] .none pm c2 y2),
      (f1, fobj (Str.ofString "<lambda>") qLam (lArgs lamRun) (.expr (lBody lamRun)) (lScope lamRun) [(Str.ofString "bad_run", cBr), (Str.ofString "asked", cAs)] .none pm c1 y1),
      (x, instObj 52 dx), (dx, dictOf es k), (mk, listOf #[.str (Str.ofString "made") t] 0)]
  have hk : ∀ q ∈ keep, q ∈ new ++ keep := fun q hq => List.mem_append_right _ hq
  have hn : ∀ q ∈ new, q ∈ new ++ keep := fun q hq => List.mem_append_left _ hq
  have N' : News h₀ L h' ((row, listOf (its.push (.ref mk)) (n + 1)) :: (PM, tabObj (full4 c1 c2 c3 c4)) :: (new ++ keep)) := News.less N fun p hp => by
    simp only [new, List.cons_append, List.nil_append, List.mem_cons] at hp ⊢
    rcases hp with hp | hp | hp
    · simp [hp]
    · simp [hp]
    · rcases hp with hp | hp | hp | hp | hp | hp | hp | hp <;> simp [hp]
  have hoff' : OwnOff (new ++ keep) [row] := by
    intro p hp b hb
    rw [List.mem_singleton.mp hb]
    rcases List.mem_append.mp hp with hp | hp
    · have : p.1 ∈ new.map (·.1) := List.mem_map_of_mem hp
      refine l p.1 ?_
      simp only [new, List.map_cons, List.map_nil, List.mem_cons, List.not_mem_nil, or_false] at this ⊢
      rcases this with h | h | h | h | h | h | h <;> simp [h]
    · exact hoff p hp _ (List.mem_singleton.mpr rfl)
  obtain ⟨o1, v1, t1, q1, r1, p1⟩ := a1.there
  obtain ⟨o2, v2, t2, q2, r2, p2⟩ := a2.there
  obtain ⟨o3, v3, t3, q3, r3, p3⟩ := a3.there
  obtain ⟨o4, v4, t4, q4, r4, p4⟩ := a4.there
  refine ok h' tk x mk t f1 f2 f3 f4 (full4 c1 c2 c3 c4) (new ++ keep) F N' hk (.inr ⟨c1, c2, c3, c4, rfl, a1.mono hk, a2.mono hk, a3.mono hk, a4.mono hk⟩) full4_ne hoff' (hn _ (by simp [new]))
    ⟨dx, es, k, hn _ (by simp [new]), hn _ (by simp [new]), g1, g2, g3, g4⟩ (LamIn.of (pm := pm) (ctv := y1) (hn _ ?_) (hk _ z4) z5 (hk _ z6) z7 (hk _ q1) r1 p1) (LamIn.of (pm := pm) (ctv := y2) (hn _ ?_) (hk _ z4) z5 (hk _ z6) z7 (hk _ q2) r2 p2) (LamIn.of (pm := pm) (ctv := y3) (hn _ ?_) (hk _ z4) z5 (hk _ z8) z9 (hk _ q3) r3 p3) (LamIn.of (pm := pm) (ctv := y4) (hn _ ?_) (hk _ z4) z5 (hk _ z8) z9 (hk _ q4) r4 p4)
  all_goals simp [new]

section
variable {w : World} {A A₀ : Around} {base h₀ : Heap} {env : Env} {outer : List Env} {L : Addr} {m mg mb : Str → Option Value} {keep : Keep} {s : Shared} {R : Result → Shared → Prop} {p : Program} {loose : List Str} {mean : ExcName → Option Value}
local macro_rules | `(tactic| k_room) => `(tactic| ((try simp only [depth_under_make, depth_under_kw, depth_in1, depth_deeper, depth_caller]); omega))
local macro_rules | `(tactic| kn_code) => `(tactic| exact CodeObj.hd (by assumption) (News.get (by k_asm) (by k_mem)))
local macro_rules | `(tactic| walk_at "eval Lambda") => `(tactic| (k_here; k_dflt (refine' kla_eval ?d0 ?_; (case d0 => exact rfl)); first
  | ((k_dflt (refine' fn_new ?F ?N ?T ?C ?cd ?U ?t ?n ?cl ?_; (case F => k_asm); (case N => k_asm); (case T => k_asm); (case cd => exact rfl); (case C => kn_code); (case U => k_updF); (case t => kn_triples); (case n => kn_among); (case cl => exact rfl); k_whole)); intro f' c' P' oc' vs' t' ct' dc' h' tk' F' N' d1' d2' d3' l1 l2 l3 l4 d4'; (have d5' := d4' _ rfl); subst d5'; clear d4'; (try dsimp only at N'); (try k_lt l1); (try k_lt l2); (try k_lt2 l3); (try k_lt2 l4))
  | ((k_dflt (refine' fn_hit ?F ?N ?T ?C ?cd ?mem ?t ?n ?cl ?_; (case F => k_asm); (case N => k_asm); (case T => k_asm); (case cd => exact rfl); (case C => kn_code); (case mem => k_mem); (case t => kn_triples); (case n => kn_hit); (case cl => exact rfl); k_whole)); intro f' ct' dc' h' tk' F' N' l1 d4'; (have d5' := d4' _ rfl); subst d5'; clear d4'; (try dsimp only at N'); (try k_lt l1))))
local macro_rules | `(tactic| k_enter) => `(tactic| (refine' code_def ?k1 ?k2 ?k3 ?k4 ?k5 ?kA ?kF ?kK ?k6 ?k7 ?k8 ?k9 ?kB ?_ ?c2 ?c3 ?c4 ?c5; (case kA => exact Around.frames_deeper (by assumption)); (case kF => exact rfl); (case kK => exact rfl); (case k1 => k_asm); (case k2 => k_asm); (case k3 => k_asm); (case k4 => k_asm); (case k5 => k_asm); (case k6 => k_is); (case k7 => k_is); (case k8 => k_room); (case k9 => first | exact BindsTo.of_eq rfl | exact binds_K (by k_in) rfl (by k_is) rfl rfl rfl | fail "k_enter: no rule for these arguments"); (case c5 => decide); (case kB => exact locs rfl); (case c2 => exact rfl); (case c3 => exact rfl); (case c4 => exact rfl); k_whole; intro g' L' h' FG' F' N' B' X' T'; (try dsimp only); (try k_lift B'); (try k_fold)))

set_option maxRecDepth 100000 in
set_option maxHeartbeats 8000000 in
theorem maker_new {row fm fa cM PM : Addr} {kb ks : Int} {its : Array Value} {n : Nat} (_C : CodeHd base 69 65) (Z : MakerIn fm fa row kb ks cM keep) (ZC : CodeM cM PM keep) (hrow : OwnOff keep [row]) (hpm : OwnOff keep [PM]) (hne : PM ≠ row) (hz : its.size ≤ 16777216)
    (B : Below A₀ base outer h₀) (F : Fr h₀ L s.heap m) (X : (Mine.hd.heap_39 w.params).In h₀) (N : News h₀ L s.heap ((row, listOf its n) :: (PM, tabObj #[]) :: keep)) (T : Top p loose mean mg mb h₀)
    (hA : A.frames = some (env :: outer)) (hf : env.frame = some L) (hke : env.scope.kind = .function) (hroom : A.depth + 20 < recursionLimit) (ok : MakerOk h₀ L m row fa PM kb ks its n keep R s) :
    codeAny (model PySem.Challenge.rw_ki0071_01.row.prog w) A (.call (.ref fm) ⟨[], []⟩) R s := by
  revert X
  k_fill
  intro X
  have okk := ok
  clear ok
  obtain ⟨cRow, cAs, cBr, cBs, doc, pm, ctv, oRow, oAs, oBr, oBs, tkb, tks, z1, z2, z3, z4, z5, z6, z7, z8, z9⟩ := Z
  obtain ⟨oM, vsM, tM, y1, y2, y3, y4⟩ := ZC
  dsimp only [dMaker, mkStmts, hdS, tlS, sBody, sArgs, sScope, PySem.Challenge.pw_ki0071_01] at z1
  refine' code_nest ?k1 ?k2 ?k3 ?k4 ?k5 ?kA ?kF ?kK ?k6 ?k7 ?k8 ?k9 ?kB ?_ ?c2 ?c3 ?c4 ?c5
  (case kA => exact hA); (case kF => exact hf); (case kK => exact hke); (case k1 => k_asm); (case k2 => k_asm); (case k3 => k_asm); (case k4 => k_asm); (case k5 => k_asm); (case k6 => exact .tail _ (.tail _ z1)); (case k7 => exact codeRec_news N (.tail _ (.tail _ y1)) y2 y3); (case k8 => k_room); (case k9 => exact BindsTo.of_eq rfl); (case c5 => decide); (case kB => exact locs rfl); (case c2 => exact rfl); (case c3 => exact rfl); (case c4 => exact rfl)
  intro g' L' h' FG' F' N' B' X' T'
  (try dsimp only)
  (try k_fold)
  have hK9 := kdMark
  have hne2 : @Ne Nat PM row := hne
  have hne3 : @Ne Nat row PM := fun e => hne e.symm
  k_steps
  rename Fr h₀ L _ _ => kF
  rename News h₀ L _ _ => kN
  refine maker_end_new okk kF kN (by assumption) (by assumption) (by assumption) (by assumption) (by assumption) (by assumption) (by assumption) (by assumption) z4 z5 z6 z7 z8 z9 (by k_get) (by k_get) (by k_get) (by k_get) hrow ?_
  intro a ha
  simp only [List.mem_cons, List.not_mem_nil, or_false] at ha
  rcases ha with h | h | h | h | h | h | h | h | h | h | h | h | h | h | h <;> (rw [h]; refine neN ?_; omega)

set_option maxRecDepth 100000 in
set_option maxHeartbeats 8000000 in
theorem maker_hit {row fm fa cM PM : Addr} {kb ks : Int} {its : Array Value} {n : Nat} {c1 c2 c3 c4 : Addr} (a1 : CodeAt qLam c1 keep) (a2 : CodeAt qLam c2 keep) (a3 : CodeAt qLam c3 keep) (a4 : CodeAt qLam c4 keep) (_C : CodeHd base 69 65) (Z : MakerIn fm fa row kb ks cM keep) (ZC : CodeM cM PM keep) (hrow : OwnOff keep [row]) (hne : PM ≠ row) (hz : its.size ≤ 16777216)
    (B : Below A₀ base outer h₀) (F : Fr h₀ L s.heap m) (X : (Mine.hd.heap_39 w.params).In h₀) (N : News h₀ L s.heap ((row, listOf its n) :: (PM, tabObj (full4 c1 c2 c3 c4)) :: keep)) (T : Top p loose mean mg mb h₀)
    (hA : A.frames = some (env :: outer)) (hf : env.frame = some L) (hke : env.scope.kind = .function) (hroom : A.depth + 20 < recursionLimit) (ok : MakerOk h₀ L m row fa PM kb ks its n keep R s) :
    codeAny (model PySem.Challenge.rw_ki0071_01.row.prog w) A (.call (.ref fm) ⟨[], []⟩) R s := by
  revert X
  k_fill
  intro X
  have okk := ok
  clear ok
  obtain ⟨cRow, cAs, cBr, cBs, doc, pm, ctv, oRow, oAs, oBr, oBs, tkb, tks, z1, z2, z3, z4, z5, z6, z7, z8, z9⟩ := Z
  obtain ⟨oM, vsM, tM, y1, y2, y3, y4⟩ := ZC
  dsimp only [dMaker, mkStmts, hdS, tlS, sBody, sArgs, sScope, PySem.Challenge.pw_ki0071_01] at z1
  dsimp only [full4, lPos, lamRun, lamCtx, lamDump, lamPrint, sVal, dMaker, mkStmts, hdS, tlS, sBody, sArgs, sScope, PySem.Challenge.pw_ki0071_01] at N
  refine' code_nest ?k1 ?k2 ?k3 ?k4 ?k5 ?kA ?kF ?kK ?k6 ?k7 ?k8 ?k9 ?kB ?_ ?c2 ?c3 ?c4 ?c5
  (case kA => exact hA); (case kF => exact hf); (case kK => exact hke); (case k1 => k_asm); (case k2 => k_asm); (case k3 => k_asm); (case k4 => k_asm); (case k5 => k_asm); (case k6 => exact .tail _ (.tail _ z1)); (case k7 => exact codeRec_news N (.tail _ (.tail _ y1)) y2 y3); (case k8 => k_room); (case k9 => exact BindsTo.of_eq rfl); (case c5 => decide); (case kB => exact locs rfl); (case c2 => exact rfl); (case c3 => exact rfl); (case c4 => exact rfl)
  intro g' L' h' FG' F' N' B' X' T'
  (try dsimp only)
  (try k_fold)
  have hK9 := kdMark
  have hne2 : @Ne Nat PM row := hne
  have hne3 : @Ne Nat row PM := fun e => hne e.symm
  k_steps
  rename Fr h₀ L _ _ => kF
  rename News h₀ L _ _ => kN
  refine maker_end_hit okk kF kN a1 a2 a3 a4 z4 z5 z6 z7 z8 z9 (by k_get) (by k_get) (by k_get) (by k_get) hrow ?_
  intro a ha
  simp only [List.mem_cons, List.not_mem_nil, or_false] at ha
  rcases ha with h | h | h | h | h | h | h <;> (rw [h]; refine neN ?_; omega)

/-- a call of maker -/
theorem maker_spec {row fm fa cM PM : Addr} {kb ks : Int} {its tab : Array Value} {n : Nat} (C : CodeHd base 69 65) (Z : MakerIn fm fa row kb ks cM keep) (ZC : CodeM cM PM keep) (hrow : OwnOff keep [row]) (ht : TabSt PM tab keep) (hne : PM ≠ row) (hz : its.size ≤ 16777216)
    (B : Below A₀ base outer h₀) (F : Fr h₀ L s.heap m) (X : (Mine.hd.heap_39 w.params).In h₀) (N : News h₀ L s.heap ((row, listOf its n) :: (PM, tabObj tab) :: keep)) (T : Top p loose mean mg mb h₀)
    (hA : A.frames = some (env :: outer)) (hf : env.frame = some L) (hke : env.scope.kind = .function) (hroom : A.depth + 20 < recursionLimit) (ok : MakerOk h₀ L m row fa PM kb ks its n keep R s) :
    codeAny (model PySem.Challenge.rw_ki0071_01.row.prog w) A (.call (.ref fm) ⟨[], []⟩) R s := by
  rcases ht with ⟨rfl, hpm⟩ | ⟨c1, c2, c3, c4, rfl, a1, a2, a3, a4⟩
  · exact maker_new C Z ZC hrow hpm hne hz B F X N T hA hf hke hroom ok
  · exact maker_hit a1 a2 a3 a4 C Z ZC hrow hne hz B F X N T hA hf hke hroom ok
end
end Mine
end

/- part F5 -/
section
open PySem PySem.W PyProof.Rows PySem.Calls PySem.Spec
namespace Mine

theorem CodeObj.ne {oc : Obj} {c P : Addr} (x : CodeObj oc c P) : c ≠ P := let ⟨_, _, _, _, _, _, _, _, _, _, _, _, _, _, _, _, e⟩ := x; e
theorem full2_eq (cA cM : Addr) : (#[] ++ #[rawInt (sPos dAsked).line, rawInt (sPos dAsked).col, .ref cA] ++ #[rawInt (sPos dMaker).line, rawInt (sPos dMaker).col, .ref cM] : Array Value) = full2 cA cM := by
  simp [full2]
theorem AskedIn.of {fa row : Addr} {keep : Keep} {qA : Str} {cRow cA : Addr} {doc pm ctv : Value} {oc oA : Obj} {vs : Array Value} {t : Tok} (k1 : (fa, askedObj qA cRow doc pm cA ctv) ∈ keep) (k2 : (cRow, oc) ∈ keep) (k3 : oc.data = .cell (some (.ref row)))
    (k4 : (cA, oA) ∈ keep) (k5 : oA.data = .fields vs) (k6 : vs[1]? = some (.str qA t)) : AskedIn fa row (fun _ => keep) :=
  ⟨qA, cRow, doc, pm, cA, ctv, oc, _, vs, t, oA, fun _ => k1, fun _ => k2, k3, fun _ => k4, k5, k6, rfl⟩
/-- how _law_maker ends, in words of the ledger -/
abbrev LawMakerOk (h₀ : Heap) (L : Addr) (m : Str → Option Value) (row : Addr) (kb ks : Int) (rest tl0 : Keep) (D : Addr → Addr → Addr → Array Value → Prop) (R : Result → Shared → Prop) (s : Shared) : Prop :=
  ∀ h' tk fm fa cA cM PM tab new, Fr h₀ L h' m → News h₀ L h' ((65, tabObj (full2 cA cM)) :: (PM, tabObj tab) :: (new ++ rest)) → (∀ p ∈ new, ∀ q ∈ rest, q.1 < p.1) → OwnOff new [65] → OwnOff new [PM] →
    CodeAt qAsked cA (new ++ tl0) → CodeM cM PM (new ++ tl0) → MakerIn fm fa row kb ks cM new → AskedIn fa row (fun _ => new ++ tl0) → D cA cM PM tab → R (.ok (.ret (.ref fm))) { s with heap := h', toks := tk }
abbrev DNew (rest : Keep) : Addr → Addr → Addr → Array Value → Prop := fun _ _ PM tab => tab = #[] ∧ ∀ q ∈ rest, q.1 < PM
abbrev DHit (cA cM PM c1 c2 c3 c4 : Addr) : Addr → Addr → Addr → Array Value → Prop := fun cA' cM' PM' tab' => cA' = cA ∧ cM' = cM ∧ PM' = PM ∧ tab' = full4 c1 c2 c3 c4

theorem law_maker_end_new {h₀ h' : Heap} {L : Addr} {m : Str → Option Value} {row : Addr} {kb ks : Int} {rest tl0 : Keep} {R : Result → Shared → Prop} {s : Shared} (ok : LawMakerOk h₀ L m row kb ks rest tl0 (DNew rest) R s)
    {tk : Nat} {fm fa cM PM cA PA cAs cBs cBr cRow : Addr} {oM oA oAs oBs oBr oRow : Obj} {vM vA : Array Value} {tM tA tkb tks : Tok} {pm y1 y2 d1 d2 : Value}
    (F : Fr h₀ L h' m)
    (N : News h₀ L h' ((fm, fobj (Str.ofString "maker") qMaker (sArgs dMaker) (.stmts (sBody dMaker)) (sScope dMaker) [(Str.ofString "row", cRow), (Str.ofString "bad_show", cBs), (Str.ofString "bad_run", cBr), (Str.ofString "asked", cAs)] d1 pm cM y1) :: (cM, oM) :: (PM, tabObj #[]) ::
      (fa, fobj (Str.ofString "asked") qAsked (sArgs dAsked) (.stmts (sBody dAsked)) (sScope dAsked) [(Str.ofString "row", cRow)] d2 pm cA y2) :: (cA, oA) :: (PA, tabObj #[]) ::
      (cAs, oAs) :: (cBs, oBs) :: (cBr, oBr) :: (cRow, oRow) :: (65, tabObj (#[] ++ #[rawInt (sPos dAsked).line, rawInt (sPos dAsked).col, .ref cA] ++ #[rawInt (sPos dMaker).line, rawInt (sPos dMaker).col, .ref cM])) :: rest))
    {q1 q2 : Str} (aM : oM.data = .fields vM) (bM : vM[1]? = some (.str q1 tM)) (eM : CodeObj oM cM PM) (aA : oA.data = .fields vA) (bA : vA[1]? = some (.str q2 tA)) (eq1 : q1 = qMaker) (eq2 : q2 = qAsked)
    (z5 : oAs.data = .cell (some (.ref fa))) (z7 : oBr.data = .cell (some (.int kb tkb))) (z9 : oBs.data = .cell (some (.int ks tks))) (z3 : oRow.data = .cell (some (.ref row)))
    (l : ∀ a ∈ [fm, cM, fa, cA, PA, cAs, cBs, cBr, cRow], (∀ q ∈ rest, q.1 < a) ∧ a ≠ 65 ∧ a ≠ PM) (lP : ∀ q ∈ rest, q.1 < PM) :
    R (.ok (.ret (.ref fm))) { s with heap := h', toks := tk } := by
  subst eq1 eq2
  rw [full2_eq] at N
  let new : Keep := [(fm, fobj (Str.ofString "maker") qMaker (sArgs dMaker) (.stmts (sBody dMaker)) (sScope dMaker) [(Str.ofString "row", cRow), (Str.ofString "bad_show", cBs), (Str.ofString "bad_run", cBr), (Str.ofString "asked", cAs)] d1 pm cM y1), (cM, oM),
      (fa, fobj (Str.ofString "asked") qAsked (sArgs dAsked) (.stmts (sBody dAsked)) (sScope dAsked) [(Str.ofString "row", cRow)] d2 pm cA y2), (cA, oA), (PA, tabObj #[]), (cAs, oAs), (cBs, oBs), (cBr, oBr), (cRow, oRow)]
  have hn : ∀ q ∈ new, q ∈ new ++ tl0 := fun q hq => List.mem_append_left _ hq
  have N' : News h₀ L h' ((65, tabObj (full2 cA cM)) :: (PM, tabObj #[]) :: (new ++ rest)) := News.less N fun p hp => by
    simp only [new, List.cons_append, List.nil_append, List.mem_cons] at hp ⊢
    rcases hp with hp | hp | hp
    · simp [hp]
    · simp [hp]
    · rcases hp with hp | hp | hp | hp | hp | hp | hp | hp | hp | hp <;> simp [hp]
  have l' : ∀ p ∈ new, (∀ q ∈ rest, q.1 < p.1) ∧ p.1 ≠ 65 ∧ p.1 ≠ PM := by
    intro p hp
    have : p.1 ∈ new.map (·.1) := List.mem_map_of_mem hp
    refine l p.1 ?_
    simp only [new, List.map_cons, List.map_nil, List.mem_cons, List.not_mem_nil, or_false] at this ⊢
    rcases this with h | h | h | h | h | h | h | h | h <;> simp [h]
  refine ok h' tk fm fa cA cM PM #[] new F N' (fun p hp => (l' p hp).1) (fun p hp b hb => by rw [List.mem_singleton.mp hb]; exact (l' p hp).2.1) (fun p hp b hb => by rw [List.mem_singleton.mp hb]; exact (l' p hp).2.2) ⟨oA, vA, tA, hn _ (by simp [new]), aA, bA⟩ ⟨oM, vM, tM, hn _ (by simp [new]), aM, bM, eM⟩
    ⟨cRow, cAs, cBr, cBs, d1, pm, y1, oRow, oAs, oBr, oBs, tkb, tks, ?_, ?_, z3, ?_, z5, ?_, z7, ?_, z9⟩ (AskedIn.of (doc := d2) (pm := pm) (ctv := y2) (hn _ ?_) (hn (cRow, oRow) ?_) z3 (hn (cA, oA) ?_) aA bA) ⟨rfl, lP⟩
  all_goals simp [new]

theorem law_maker_end_hit {h₀ h' : Heap} {L : Addr} {m : Str → Option Value} {row : Addr} {kb ks : Int} {rest tl0 : Keep} {cM PM cA c1 c2 c3 c4 : Addr} {R : Result → Shared → Prop} {s : Shared} (ok : LawMakerOk h₀ L m row kb ks rest tl0 (DHit cA cM PM c1 c2 c3 c4) R s)
    {tk : Nat} {fm fa cAs cBs cBr cRow : Addr} {oAs oBs oBr oRow : Obj} {tkb tks : Tok} {pm y1 y2 d1 d2 : Value}
    (F : Fr h₀ L h' m)
    (N : News h₀ L h' ((fm, fobj (Str.ofString "maker") qMaker (sArgs dMaker) (.stmts (sBody dMaker)) (sScope dMaker) [(Str.ofString "row", cRow), (Str.ofString "bad_show", cBs), (Str.ofString "bad_run", cBr), (Str.ofString "asked", cAs)] d1 pm cM y1) ::
      (fa, fobj (Str.ofString "asked") qAsked (sArgs dAsked) (.stmts (sBody dAsked)) (sScope dAsked) [(Str.ofString "row", cRow)] d2 pm cA y2) ::
      (cAs, oAs) :: (cBs, oBs) :: (cBr, oBr) :: (cRow, oRow) :: (65, tabObj (full2 cA cM)) :: rest))
    (eA : CodeAt qAsked cA tl0) (eM : CodeM cM PM tl0) (hP : (PM, tabObj (full4 c1 c2 c3 c4)) ∈ rest)
    (z5 : oAs.data = .cell (some (.ref fa))) (z7 : oBr.data = .cell (some (.int kb tkb))) (z9 : oBs.data = .cell (some (.int ks tks))) (z3 : oRow.data = .cell (some (.ref row)))
    (l : ∀ a ∈ [fm, fa, cAs, cBs, cBr, cRow], (∀ q ∈ rest, q.1 < a) ∧ a ≠ 65) :
    R (.ok (.ret (.ref fm))) { s with heap := h', toks := tk } := by
  let new : Keep := [(fm, fobj (Str.ofString "maker") qMaker (sArgs dMaker) (.stmts (sBody dMaker)) (sScope dMaker) [(Str.ofString "row", cRow), (Str.ofString "bad_show", cBs), (Str.ofString "bad_run", cBr), (Str.ofString "asked", cAs)] d1 pm cM y1),
      (fa, fobj (Str.ofString "asked") qAsked (sArgs dAsked) (.stmts (sBody dAsked)) (sScope dAsked) [(Str.ofString "row", cRow)] d2 pm cA y2), (cAs, oAs), (cBs, oBs), (cBr, oBr), (cRow, oRow)]
  have hn : ∀ q ∈ new, q ∈ new ++ tl0 := fun q hq => List.mem_append_left _ hq
  have hk : ∀ q ∈ tl0, q ∈ new ++ tl0 := fun q hq => List.mem_append_right _ hq
  have N' : News h₀ L h' ((65, tabObj (full2 cA cM)) :: (PM, tabObj (full4 c1 c2 c3 c4)) :: (new ++ rest)) := News.less N fun p hp => by
    simp only [new, List.cons_append, List.nil_append, List.mem_cons] at hp ⊢
    rcases hp with hp | hp | hp
    · simp [hp]
    · rw [hp]; exact .inr (.inr (.inr (.inr (.inr (.inr (.inr hP))))))
    · rcases hp with hp | hp | hp | hp | hp | hp | hp <;> simp [hp]
  have l' : ∀ p ∈ new, (∀ q ∈ rest, q.1 < p.1) ∧ p.1 ≠ 65 := by
    intro p hp
    have : p.1 ∈ new.map (·.1) := List.mem_map_of_mem hp
    refine l p.1 ?_
    simp only [new, List.map_cons, List.map_nil, List.mem_cons, List.not_mem_nil, or_false] at this ⊢
    rcases this with h | h | h | h | h | h <;> simp [h]
  obtain ⟨oA, vA, tA, q1, r1, p1⟩ := eA.there
  obtain ⟨oM, vM, tM, q2, r2, p2, w2⟩ := eM
  refine ok h' tk fm fa cA cM PM _ new F N' (fun p hp => (l' p hp).1) (fun p hp b hb => by rw [List.mem_singleton.mp hb]; exact (l' p hp).2) (fun p hp b hb => by rw [List.mem_singleton.mp hb]; exact Nat.ne_of_gt ((l' p hp).1 _ hP)) (eA.mono hk) ⟨oM, vM, tM, hk _ q2, r2, p2, w2⟩
    ⟨cRow, cAs, cBr, cBs, d1, pm, y1, oRow, oAs, oBr, oBs, tkb, tks, ?_, ?_, z3, ?_, z5, ?_, z7, ?_, z9⟩ (AskedIn.of (doc := d2) (pm := pm) (ctv := y2) (hn _ ?_) (hn (cRow, oRow) ?_) z3 (hk _ q1) r1 p1) ⟨rfl, rfl, rfl, rfl⟩
  all_goals simp [new]

section
variable {w : World} {A A₀ : Around} {base h₀ : Heap} {env : Env} {outer : List Env} {L : Addr} {m mg mb : Str → Option Value} {rest : Keep} {s : Shared} {R : Result → Shared → Prop} {p : Program} {loose : List Str} {mean : ExcName → Option Value}
local macro_rules | `(tactic| k_room) => `(tactic| ((try simp only [depth_under_make, depth_under_kw, depth_in1, depth_deeper, depth_caller]); omega))
local macro_rules | `(tactic| kn_code) => `(tactic| exact CodeHd.keeps (by assumption) (fun b o e => Fr.keep (by k_asm) b o (Below.stays (by assumption) b o e)))
local macro_rules | `(tactic| walk_at "mine none") => `(tactic| fail)
local macro_rules | `(tactic| walk_at "exec FunctionDef") => `(tactic| (k_here; k_dflt (refine' nestDef_K ?d0 ?k0 ?a0 ?_; (case d0 => exact rfl); (case k0 => exact rfl); (case a0 => exact rfl)); first
  | ((k_dflt (refine' fn_new ?F ?N ?T ?C ?cd ?U ?t ?n ?cl ?_; (case F => k_asm); (case N => k_asm); (case T => k_asm); (case cd => exact rfl); (case C => kn_code); (case U => k_updF); (case t => kn_triples); (case n => kn_among); (case cl => exact rfl); k_whole)); intro f' c' P' oc' vs' t' ct' dc' h' tk' F' N' d1' d2' d3' l1 l2 l3 l4 d4'; clear d4'; (try dsimp only at N'); (try k_lt l1); (try k_lt l2); (try k_lt2 l3); (try k_lt2 l4))
  | ((k_dflt (refine' fn_hit ?F ?N ?T ?C ?cd ?mem ?t ?n ?cl ?_; (case F => k_asm); (case N => k_asm); (case T => k_asm); (case cd => exact rfl); (case C => kn_code); (case mem => k_mem); (case t => kn_triples); (case n => kn_hit); (case cl => exact rfl); k_whole)); intro f' ct' dc' h' tk' F' N' l1 d4'; clear d4'; (try dsimp only at N'); (try k_lt l1))))

set_option maxRecDepth 100000 in
set_option maxHeartbeats 8000000 in
theorem law_maker_new {tl0 : Keep} (C : CodeHd base 69 65) (_hoff : OwnOff rest [65])
    (B : Below A₀ base outer h₀) (F : Fr h₀ L s.heap m) (X : (Mine.hd.heap_39 w.params).In h₀) (N : News h₀ L s.heap ((65, tabObj #[]) :: rest)) (T : Top p loose mean mg mb h₀)
    (hA : A.frames = some (env :: outer)) (hf : env.frame = some L) (hke : env.scope.kind = .function) (hroom : A.depth + 10 < recursionLimit) {row : Addr} {br bs : Int} {t1 t2 : Tok} (ok : LawMakerOk h₀ L m row br bs rest tl0 (DNew rest) R s) :
    codeAny (model PySem.Challenge.rw_ki0071_01.row.prog w) A (.call (.ref 70) ⟨[.ref row, .int br t1, .int bs t2], []⟩) R s := by
  revert X
  k_fill
  intro X
  have okk := ok
  clear ok
  refine' code_defC ?k1 ?k2 ?k3 ?k4 ?k5 ?kA ?kF ?kK ?k6 ?k7 ?k8 ?k9 ?kB ?kD ?_ ?c2 ?c3 ?c4
  (case kA => exact hA); (case kF => exact hf); (case kK => exact hke); (case k1 => k_asm); (case k2 => k_asm); (case k3 => k_asm); (case k4 => k_asm); (case k5 => k_asm); (case k6 => k_is); (case k7 => k_is); (case k8 => k_room); (case k9 => first | exact BindsTo.of_eq rfl | exact binds_K (by k_in) rfl (by k_is) rfl rfl rfl | fail "k_enter: no rule for these arguments"); (case kB => exact rfl); (case kD => decide +kernel); (case c2 => exact rfl); (case c3 => exact rfl); (case c4 => exact rfl)
  intro g' L' h' tk' cells' FG' F' N' Y' B' X' T' l1
  (try k_lt l1); k_cells Y'; (try simp only [List.cons_append, List.nil_append] at N'); (try dsimp only); (try k_lift B'); (try k_fold)
  have hK9 := kdMark
  have lc4 : AllLt (L' + 1 + 1 + 1 + 1) rest := allLt_of fun p hp => Nat.lt_of_lt_of_le (tb_ltOf l1.2 p hp) (by omega)
  k_steps
  rename Fr h₀ L _ _ => kF
  rename News h₀ L _ _ => kN
  have lrest : ∀ q ∈ rest, @LT.lt Nat _ q.1 L' := tb_ltOf l1.2
  have l65 := l1.1
  rename CodeObj _ _ _ => dM
  have hcp : @Ne Nat _ _ := dM.ne
  refine law_maker_end_new okk kF kN (by assumption) (by assumption) (by assumption) (by assumption) (by assumption) (by with_unfolding_all rfl) (by with_unfolding_all rfl) (by assumption) (by assumption) (by assumption) (by assumption) ?_ ?_
  · intro a ha
    simp only [List.mem_cons, List.not_mem_nil, or_false] at ha
    rcases ha with h | h | h | h | h | h | h | h | h <;> (rw [h]; refine ⟨fun q hq => ltN (Nat.lt_trans (lrest q hq) ?_), neN ?_, neN ?_⟩ <;> omega)
  · intro q hq
    refine ltN ?_
    have := lrest q hq
    omega

set_option maxRecDepth 100000 in
set_option maxHeartbeats 8000000 in
theorem law_maker_hit {tl0 : Keep} {cA cM PM c1 c2 c3 c4 : Addr} (eA : CodeAt qAsked cA tl0) (eM : CodeM cM PM tl0) (hP : (PM, tabObj (full4 c1 c2 c3 c4)) ∈ tl0) (hsub : ∀ q ∈ tl0, q ∈ rest) (C : CodeHd base 69 65) (_hoff : OwnOff rest [65])
    (B : Below A₀ base outer h₀) (F : Fr h₀ L s.heap m) (X : (Mine.hd.heap_39 w.params).In h₀) (N : News h₀ L s.heap ((65, tabObj (full2 cA cM)) :: rest)) (T : Top p loose mean mg mb h₀)
    (hA : A.frames = some (env :: outer)) (hf : env.frame = some L) (hke : env.scope.kind = .function) (hroom : A.depth + 10 < recursionLimit) {row : Addr} {br bs : Int} {t1 t2 : Tok} (ok : LawMakerOk h₀ L m row br bs rest tl0 (DHit cA cM PM c1 c2 c3 c4) R s) :
    codeAny (model PySem.Challenge.rw_ki0071_01.row.prog w) A (.call (.ref 70) ⟨[.ref row, .int br t1, .int bs t2], []⟩) R s := by
  revert X
  k_fill
  intro X
  have okk := ok
  clear ok
  dsimp only [full2, sPos, dAsked, dMaker, mkStmts, hdS, tlS, sBody, sArgs, sScope, PySem.Challenge.pw_ki0071_01] at N
  refine' code_defC ?k1 ?k2 ?k3 ?k4 ?k5 ?kA ?kF ?kK ?k6 ?k7 ?k8 ?k9 ?kB ?kD ?_ ?c2 ?c3 ?c4
  (case kA => exact hA); (case kF => exact hf); (case kK => exact hke); (case k1 => k_asm); (case k2 => k_asm); (case k3 => k_asm); (case k4 => k_asm); (case k5 => k_asm); (case k6 => k_is); (case k7 => k_is); (case k8 => k_room); (case k9 => first | exact BindsTo.of_eq rfl | exact binds_K (by k_in) rfl (by k_is) rfl rfl rfl | fail "k_enter: no rule for these arguments"); (case kB => exact rfl); (case kD => decide +kernel); (case c2 => exact rfl); (case c3 => exact rfl); (case c4 => exact rfl)
  intro g' L' h' tk' cells' FG' F' N' Y' B' X' T' l1
  (try k_lt l1); k_cells Y'; (try simp only [List.cons_append, List.nil_append] at N'); (try dsimp only); (try k_lift B'); (try k_fold)
  have hK9 := kdMark
  have lc4 : AllLt (L' + 1 + 1 + 1 + 1) rest := allLt_of fun p hp => Nat.lt_of_lt_of_le (tb_ltOf l1.2 p hp) (by omega)
  k_steps
  rename Fr h₀ L _ _ => kF
  rename News h₀ L _ _ => kN
  have lrest : ∀ q ∈ rest, @LT.lt Nat _ q.1 L' := tb_ltOf l1.2
  have l65 := l1.1
  refine law_maker_end_hit okk kF kN eA eM (hsub _ hP) (by assumption) (by assumption) (by assumption) (by assumption) ?_
  · intro a ha
    simp only [List.mem_cons, List.not_mem_nil, or_false] at ha
    rcases ha with h | h | h | h | h | h <;> (rw [h]; refine ⟨fun q hq => ltN (Nat.lt_trans (lrest q hq) ?_), neN ?_⟩ <;> omega)
end
end Mine
end

/- part E7 -/
section
open PySem PySem.W PyProof.Rows PySem.Calls PySem.Spec
set_option maxRecDepth 100000
namespace Mine
section
variable {prog : Program} {w : World} {A : Around} {E : Value → Shared → Prop} {s : Shared} {K : Frag} {x C dx f L : Addr} {ox : Obj} {name : Str} {h₀ : Heap} {m : Str → Option Value} {es : List DictEntry} {n : Nat} {pl : Sem Bool} {v g : Value} {Q : Value × List Value → Shared → Prop}

/-- the instance's own value stands before a plain function of its class -/
theorem find_shadow (hh : hasDictIn K C = true) (ha : findIn K (.ref C) name = some (some (.ref f))) (hg : specialIn K (.ref f) "__get__" = some (some g)) (ht : takesIn K (.ref f) = some false) (hl : getL name es = some (some v)) :
    findObj K C (some (dictOf es n)) name = some (.value v) := by
  obtain ⟨cd, hc, hd⟩ := any_some hh
  unfold findObj
  rw [hc, Option.bind_some, ha, Option.bind_some]
  have ho : PySem.W.ownOf cd (some (dictOf es n)) name = some (some v) := by
    unfold PySem.W.ownOf
    rw [if_pos hd]
    exact (lookIn_dict name es n).trans hl
  simp [hg, ht, ho]

/-- x.name(..) where the instance holds name and its class has a plain function of that name -/
theorem meth_shadow (F : Fr h₀ L s.heap m) (X₀ : K.In h₀) (I : InstAt s.heap x ox C (some (dictOf es n))) (hd : ox.dict = some dx) (hp : plainGet K C name = true) (hh : hasDictIn K C = true) (ha : findIn K (.ref C) name = some (some (.ref f))) (hty : typeIn K (.ref f) = some (.type "function"))
    (hg : specialIn K (.ref f) "__get__" = some (some g)) (ht : takesIn K (.ref f) = some false) (hl : getL name es = some (some v)) (hv : handedIn v = true) (h : Q (v, []) { s with toks := s.toks + 1 }) : wpAny (model prog w) A (getMethod (.ref x) name pl) Q E s := by
  have X := X₀.keeps F.keep
  have hga := (plainGet_of hp).1
  have hk := (plainGet_of hp).2
  have hcan := PySem.F.canon_object_ga
  have u : wpAny (model prog w) A (do return (← getAttr (.ref x) name, ([] : List Value))) Q E s :=
    wpAny_bind (wpAny_mono (get_value X I hga (find_shadow hh ha hg ht hl) hv (Q := fun v => Q (v, [])) h) (fun _ _ z => wpAny_pure z) fun _ _ z => z)
  unfold getMethod specialOf
  refine wpAny_bind (wpAny_bind (I.type.here ((looks_findIn X hga).here ?_)))
  dsimp only
  rw [hcan, if_neg (by decide)]
  refine wpAny_bind (wpAny_bind (I.type.here ((looks_findIn X hk).here ?_)))
  refine wpAny_bind (wpAny_bind (I.type.here ((looks_findIn X ha).here (wpAny_bind ((looks_typeIn X hty).here ?_)))))
  rw [if_neg (by decide +kernel)]
  refine wpAny_bind (wpAny_loadPart I.at_ ?_)
  have hi := I.dict
  rw [hd] at hi
  rw [hd]
  refine wpAny_bind (wpAny_bind (wpAny_loadPart hi ?_))
  rw [nsLook_of ((lookIn_dict name es n).trans hl)]
  refine wpAny_pure ?_
  exact u

/-- x.name(..) where the instance alone holds name -/
theorem meth_own (F : Fr h₀ L s.heap m) (X₀ : K.In h₀) (I : InstAt s.heap x ox C (some (dictOf es n))) (hp : plainGet K C name = true) (hh : hasDictIn K C = true) (ha : findIn K (.ref C) name = some none)
    (hl : getL name es = some (some v)) (hv : handedIn v = true) (h : Q (v, []) { s with toks := s.toks + 1 }) : wpAny (model prog w) A (getMethod (.ref x) name pl) Q E s :=
  kmu_own F X₀ I hp ha (get_own F X₀ I hp hh ha rfl hl hv h)
end
end Mine
end

/- part F6 -/
section
open PySem PySem.W PyProof.Rows PySem.Calls PySem.Spec
namespace Mine

/-- what holds of row, maker's table and the rest of the ledger between the calls -/
structure St (row PM : Addr) (tab : Array Value) (keep : Keep) : Prop where
  hrow : OwnOff keep [row]
  hne : PM ≠ row
  ht : TabSt PM tab keep
theorem St.cons {row PM : Addr} {tab : Array Value} {keep : Keep} (S : St row PM tab keep) {p : Addr × Obj} (h1 : p.1 ≠ row) (h2 : p.1 ≠ PM) : St row PM tab (p :: keep) := by
  refine ⟨fun q hq b hb => ?_, S.hne, ?_⟩
  · rcases List.mem_cons.mp hq with rfl | hq
    · rw [List.mem_singleton.mp hb]; exact h1
    · exact S.hrow q hq b hb
  · rcases S.ht with ⟨e, o⟩ | ⟨c1, c2, c3, c4, e, a1, a2, a3, a4⟩
    · refine .inl ⟨e, fun q hq b hb => ?_⟩
      rcases List.mem_cons.mp hq with rfl | hq
      · rw [List.mem_singleton.mp hb]; exact h2
      · exact o q hq b hb
    · exact .inr ⟨c1, c2, c3, c4, e, a1.mono fun _ q => .tail _ q, a2.mono fun _ q => .tail _ q, a3.mono fun _ q => .tail _ q, a4.mono fun _ q => .tail _ q⟩
theorem St.rowIn {row PM : Addr} {tab : Array Value} {keep : Keep} (S : St row PM tab keep) : RowIn row (fun o => (row, o) :: (PM, tabObj tab) :: keep) := fun o o' =>
  .head fun p hp => by
    rcases List.mem_cons.mp hp with rfl | hp
    · exact S.hne
    · exact S.hrow p hp _ (List.mem_singleton.mpr rfl)
theorem LamIn.fn {e : PySem.Expr} {bn : String} {kind : Int} {fl fa : Addr} {keep : Keep} (K : LamIn e bn kind fl fa (fun _ => keep)) : ∃ oc od fd sl, (fl, (⟨oc, od, .func fd, sl⟩ : Obj)) ∈ keep := by
  obtain ⟨qL, cAs, cB, pm, cL, ctv, oAs, oB, oL, vs, t, tk, k1, _⟩ := K
  exact ⟨_, _, _, _, k1 (listOf #[] 0)⟩

section
variable {w : World} {A A₀ : Around} {base h₀ : Heap} {env : Env} {outer : List Env} {L : Addr} {m mg mb : Str → Option Value} {keep : Keep} {s : Shared} {R : Result → Shared → Prop} {p : Program} {loose : List Str} {mean : ExcName → Option Value}
local macro_rules | `(tactic| k_room) => `(tactic| ((try simp only [depth_under_make, depth_under_kw, depth_in1, depth_deeper, depth_caller]); omega))
local macro_rules | `(tactic| walk_at "mine none") => `(tactic| fail)
local macro_rules | `(tactic| walk_at "mine none") => `(tactic| fail)
local macro_rules | `(tactic| walk_at "getMethod ref") => `(tactic| (k_here; k_dflt (refine' meth_own ?k1 ?k2 ?k3 ?k4 ?k5 ?k6 ?k7 ?k8 ?_; (case k1 => k_asm); (case k2 => k_asm); (case k3 => k_inst); (case k4 => k_is); (case k5 => k_is); (case k6 => k_is); (case k7 => with_reducible assumption); (case k8 => k_handed); k_whole)))

set_option maxRecDepth 100000 in
set_option maxHeartbeats 8000000 in
theorem show_print {row fa PM x f1 f2 f3 f4 : Addr} {ks : Int} {its tab : Array Value} {n : Nat} (S : St row PM tab keep) (K : AskedIn fa row (fun _ => keep)) (SI : StandIn x f1 f2 f3 f4 keep) (Z : LamIn lamPrint "bad_show" ks f4 fa (fun _ => keep)) (C : CodeHd base 69 65) (hz : its.size ≤ 16777216)
    (B : Below A₀ base outer h₀) (F : Fr h₀ L s.heap m) (X : (Mine.hd.heap_39 w.params).In h₀) (N : News h₀ L s.heap ((row, listOf its n) :: (PM, tabObj tab) :: keep)) (T : Top p loose mean mg mb h₀)
    (hA : A.frames = some (env :: outer)) (hf : env.frame = some L) (hke : env.scope.kind = .function) (hroom : A.depth + 40 < recursionLimit) (hh : HeldN A keep) {u sv : Value} 
    (ok : excOf ks = none → ∀ h' tk th t, Fr h₀ L h' m → News h₀ L h' ((row, listOf (its.push (.ref th)) (n + 1)) :: (PM, tabObj tab) :: (th, listOf #[.str (Str.ofString "print") t, sv] 0) :: keep) → St row PM tab ((th, listOf #[.str (Str.ofString "print") t, sv] 0) :: keep) → R (.ok (.ret .none)) { s with heap := h', toks := tk })
    (er : ∀ D, excOf ks = some D → ∀ G e h' tk th t, Fr h₀ L G m → Rz base G (env :: outer) e (.type D) (ctxOf A) .none ((row, listOf (its.push (.ref th)) (n + 1)) :: (PM, tabObj tab) :: (th, listOf #[.str (Str.ofString "print") t, sv] 0) :: keep) h' → St row PM tab ((th, listOf #[.str (Str.ofString "print") t, sv] 0) :: keep) → R (.error (.ref e)) { s with heap := h', toks := tk }) :
    codeAny (model PySem.Challenge.rw_ki0071_01.row.prog w) A (.call (.ref 49) ⟨[u, .ref x, .none, sv], []⟩) R s := by
  revert X
  k_fill
  intro X
  obtain ⟨dx, es, kn, e1, e2, e3, e4, e5, e6⟩ := SI
  obtain ⟨xc, xd, xf, xs, mf⟩ := Z.fn
  have hne2 : @Ne Nat PM row := S.hne
  have hrow := S.hrow
  refine' code_def ?k1 ?k2 ?k3 ?k4 ?k5 ?kA ?kF ?kK ?k6 ?k7 ?k8 ?k9 ?kB ?_ ?c2 ?c3 ?c4 ?c5
  (case kA => exact hA); (case kF => exact hf); (case kK => exact hke); (case k1 => k_asm); (case k2 => k_asm); (case k3 => k_asm); (case k4 => k_asm); (case k5 => k_asm); (case k6 => k_is); (case k7 => k_is); (case k8 => k_room); (case k9 => exact BindsTo.of_eq rfl); (case c5 => decide); (case kB => exact locs rfl); (case c2 => exact rfl); (case c3 => exact rfl); (case c4 => exact rfl)
  intro g' L' h' FG' F' N' B' X' T'
  (try dsimp only)
  (try k_fold)
  have hK9 := kdMark
  k_steps
  rename Fr g' L' _ _ => F2
  rename News g' L' _ _ => N2
  have tl2 : ∀ o : Obj, ∀ q ∈ keep, q ∈ ((row, o) :: (PM, tabObj tab) :: keep) := fun _ _ q => .tail _ (.tail _ q)
  refine wpAny_call (print_lam (nf := fun o => (row, o) :: (PM, tabObj tab) :: keep) S.rowIn (K.mono fun o => tl2 o) (Z.mono fun o => tl2 o) C hz B' F2 X' N2 T' (Around.frames_deeper hA) rfl rfl ?hr (fun o => HeldN.mono (HeldN.eqA hh rfl) (tl2 o)) ?ok ?er)
  case hr => k_room
  case ok =>
    intro ho h2 tk2 th t F3 N3 l3
    have S' := S.cons (p := (th, listOf #[.str (Str.ofString "print") t, sv] 0)) (Nat.ne_of_gt (l3 _ (.head _))) (Nat.ne_of_gt (l3 _ (.tail _ (.head _))))
    have N4 := News.less N3 (ns' := (row, listOf (its.push (.ref th)) (n + 1)) :: (PM, tabObj tab) :: (th, listOf #[.str (Str.ofString "print") t, sv] 0) :: keep) (by
      intro p hp
      simp only [List.mem_cons] at hp ⊢
      rcases hp with hp | hp | hp | hp <;> simp [hp])
    clear N3 F2 N2
    (try dsimp only)
    k_steps
    exact ok ho _ _ _ _ (by assumption) (by assumption) S'
  case er =>
    intro D hD G e h2 tk2 th t FG2 x2 l3
    have S' := S.cons (p := (th, listOf #[.str (Str.ofString "print") t, sv] 0)) (Nat.ne_of_gt (l3 _ (.head _))) (Nat.ne_of_gt (l3 _ (.tail _ (.head _))))
    (try dsimp only)
    (try k_unfold)
    (try dsimp only)
    refine Rz.leave x2 (Around.frames_deeper hA) rfl FG2 fun h3 x3 => ?_
    refine er D hD _ _ _ _ _ _ FG' (x3.sub ?_) S'
    intro p hp
    simp only [List.mem_cons] at hp ⊢
    rcases hp with hp | hp | hp | hp <;> simp [hp]

set_option maxRecDepth 100000 in
set_option maxHeartbeats 8000000 in
theorem show_dump {row fa PM x f1 f2 f3 f4 : Addr} {ks : Int} {its tab : Array Value} {n : Nat} (S : St row PM tab keep) (K : AskedIn fa row (fun _ => keep)) (SI : StandIn x f1 f2 f3 f4 keep) (Z : LamIn lamDump "bad_show" ks f3 fa (fun _ => keep)) (C : CodeHd base 69 65) (hz : its.size ≤ 16777216)
    (B : Below A₀ base outer h₀) (F : Fr h₀ L s.heap m) (X : (Mine.hd.heap_39 w.params).In h₀) (N : News h₀ L s.heap ((row, listOf its n) :: (PM, tabObj tab) :: keep)) (T : Top p loose mean mg mb h₀)
    (hA : A.frames = some (env :: outer)) (hf : env.frame = some L) (hke : env.scope.kind = .function) (hroom : A.depth + 40 < recursionLimit) (hh : HeldN A keep) {u sv : Value} {z : Str} {tz : Tok}
    (ok : excOf ks = none → ∀ h' tk th t, Fr h₀ L h' m → News h₀ L h' ((row, listOf (its.push (.ref th)) (n + 1)) :: (PM, tabObj tab) :: (th, listOf #[.str (Str.ofString "dump") t, .str z tz] 0) :: keep) → St row PM tab ((th, listOf #[.str (Str.ofString "dump") t, .str z tz] 0) :: keep) → R (.ok (.ret .none)) { s with heap := h', toks := tk })
    (er : ∀ D, excOf ks = some D → ∀ G e h' tk th t, Fr h₀ L G m → Rz base G (env :: outer) e (.type D) (ctxOf A) .none ((row, listOf (its.push (.ref th)) (n + 1)) :: (PM, tabObj tab) :: (th, listOf #[.str (Str.ofString "dump") t, .str z tz] 0) :: keep) h' → St row PM tab ((th, listOf #[.str (Str.ofString "dump") t, .str z tz] 0) :: keep) → R (.error (.ref e)) { s with heap := h', toks := tk }) :
    codeAny (model PySem.Challenge.rw_ki0071_01.row.prog w) A (.call (.ref 49) ⟨[u, .ref x, .str z tz, sv], []⟩) R s := by
  revert X
  k_fill
  intro X
  obtain ⟨dx, es, kn, e1, e2, e3, e4, e5, e6⟩ := SI
  obtain ⟨xc, xd, xf, xs, mf⟩ := Z.fn
  have hne2 : @Ne Nat PM row := S.hne
  have hrow := S.hrow
  refine' code_def ?k1 ?k2 ?k3 ?k4 ?k5 ?kA ?kF ?kK ?k6 ?k7 ?k8 ?k9 ?kB ?_ ?c2 ?c3 ?c4 ?c5
  (case kA => exact hA); (case kF => exact hf); (case kK => exact hke); (case k1 => k_asm); (case k2 => k_asm); (case k3 => k_asm); (case k4 => k_asm); (case k5 => k_asm); (case k6 => k_is); (case k7 => k_is); (case k8 => k_room); (case k9 => exact BindsTo.of_eq rfl); (case c5 => decide); (case kB => exact locs rfl); (case c2 => exact rfl); (case c3 => exact rfl); (case c4 => exact rfl)
  intro g' L' h' FG' F' N' B' X' T'
  (try dsimp only)
  (try k_fold)
  have hK9 := kdMark
  k_steps
  rename Fr g' L' _ _ => F2
  rename News g' L' _ _ => N2
  have tl2 : ∀ o : Obj, ∀ q ∈ keep, q ∈ ((row, o) :: (PM, tabObj tab) :: keep) := fun _ _ q => .tail _ (.tail _ q)
  refine wpAny_call (dump_lam (nf := fun o => (row, o) :: (PM, tabObj tab) :: keep) S.rowIn (K.mono fun o => tl2 o) (Z.mono fun o => tl2 o) C hz B' F2 X' N2 T' (Around.frames_deeper hA) rfl rfl ?hr (fun o => HeldN.mono (HeldN.eqA hh rfl) (tl2 o)) ?ok ?er)
  case hr => k_room
  case ok =>
    intro ho h2 tk2 th t F3 N3 l3
    have S' := S.cons (p := (th, listOf #[.str (Str.ofString "dump") t, .str z tz] 0)) (Nat.ne_of_gt (l3 _ (.head _))) (Nat.ne_of_gt (l3 _ (.tail _ (.head _))))
    have N4 := News.less N3 (ns' := (row, listOf (its.push (.ref th)) (n + 1)) :: (PM, tabObj tab) :: (th, listOf #[.str (Str.ofString "dump") t, .str z tz] 0) :: keep) (by
      intro p hp
      simp only [List.mem_cons] at hp ⊢
      rcases hp with hp | hp | hp | hp <;> simp [hp])
    clear N3 F2 N2
    (try dsimp only)
    k_steps
    exact ok ho _ _ _ _ (by assumption) (by assumption) S'
  case er =>
    intro D hD G e h2 tk2 th t FG2 x2 l3
    have S' := S.cons (p := (th, listOf #[.str (Str.ofString "dump") t, .str z tz] 0)) (Nat.ne_of_gt (l3 _ (.head _))) (Nat.ne_of_gt (l3 _ (.tail _ (.head _))))
    (try dsimp only)
    (try k_unfold)
    (try dsimp only)
    refine Rz.leave x2 (Around.frames_deeper hA) rfl FG2 fun h3 x3 => ?_
    refine er D hD _ _ _ _ _ _ FG' (x3.sub ?_) S'
    intro p hp
    simp only [List.mem_cons] at hp ⊢
    rcases hp with hp | hp | hp | hp <;> simp [hp]
end
end Mine
end

/- part F7 -/
section
open PySem PySem.W PyProof.Rows PySem.Calls PySem.Spec
namespace Mine

def Stop (p : Prop) : Prop := p
theorem Stop.intro {p : Prop} (h : Stop p) : p := h
theorem Stop.of {p : Prop} (h : p) : Stop p := h
def cBody : Stmt → List Stmt | .ClassDef _ _ _ b _ _ _ _ _ _ _ => b | _ => []
def tFin : Stmt → List Stmt | .Try _ _ _ f _ => f | _ => []
def uStmts : List Stmt := cBody (hdS (tlS PySem.Challenge.pw_ki0071_01.main.body))
def dRun : Stmt := hdS (tlS uStmts)
def dCtx : Stmt := hdS (tlS (tlS uStmts))
def dTold : Stmt := hdS (tlS (tlS (tlS (tlS (tlS PySem.Challenge.pw_ki0071_01.main.body)))))
/-- the object of _Utils under test: it holds maker -/
def UtilsIn (u fm : Addr) (keep : Keep) : Prop :=
  ∃ du eu ku, (u, instObj 52 du) ∈ keep ∧ (du, dictOf eu ku) ∈ keep ∧ getL (Str.ofString "profiler") eu = some (some (.ref fm)) ∧ getL (Str.ofString "_show") eu = some none ∧ getL (Str.ofString "run") eu = some none ∧ getL (Str.ofString "runctx") eu = some none
theorem UtilsIn.mono {u fm : Addr} {ns ns' : Keep} (x : UtilsIn u fm ns) (h : ∀ p ∈ ns, p ∈ ns') : UtilsIn u fm ns' := by
  obtain ⟨du, eu, ku, a, b, r⟩ := x
  exact ⟨du, eu, ku, h _ a, h _ b, r⟩
/-- the entry that a showing leaves: its word and what it was told -/
def ShowO (fnv sv : Value) (o : Obj) : Prop :=
  (fnv = .none ∧ ∃ t, o = listOf #[.str (Str.ofString "print") t, sv] 0) ∨ ∃ z tz t, fnv = .str z tz ∧ o = listOf #[.str (Str.ofString "dump") t, .str z tz] 0
theorem ShowO.list {fnv sv : Value} {o : Obj} (x : ShowO fnv sv o) : ∃ vs, o = listOf vs 0 := by
  rcases x with ⟨_, t, rfl⟩ | ⟨_, _, _, _, rfl⟩ <;> exact ⟨_, rfl⟩
def FnOk (fnv : Value) : Prop := fnv = .none ∨ ∃ z tz, fnv = .str z tz

section
variable {w : World} {A A₀ : Around} {base h₀ : Heap} {env : Env} {outer : List Env} {L : Addr} {m mg mb : Str → Option Value} {keep : Keep} {s : Shared} {p : Program} {loose : List Str} {mean : ExcName → Option Value}
local macro_rules | `(tactic| k_room) => `(tactic| ((try simp only [depth_under_make, depth_under_kw, depth_in1, depth_deeper, depth_caller]); omega))
local macro_rules | `(tactic| walk_at "mine none") => `(tactic| fail)
local macro_rules | `(tactic| walk_at "getMethod ref") => `(tactic| (k_here; k_dflt (refine' method_inst ?k1 ?k2 ?k3 ?k4 ?k5 ?k6 ?k7 ?_; (case k1 => k_asm); (case k2 => k_asm); (case k3 => k_inst); (case k4 => k_is); (case k5 => k_is); (case k6 => k_is); (case k7 => with_reducible assumption); k_whole)))
local macro_rules | `(tactic| walk_at "eval Name") => `(tactic| (k_here; k_dflt (refine' ld ?k1 ?k2 ?_; (case k1 => k_asm); (case k2 => with_reducible assumption); k_whole)))
local macro_rules | `(tactic| walk_at "call ref") => `(tactic| ((with_reducible show wpAny _ _ (call (Value.ref 49) _) _ _ _); refine Stop.intro ?_))

set_option maxRecDepth 100000 in
set_option maxHeartbeats 8000000 in
/-- the finally block: self._show(prof, filename, sort) -/
theorem fin_run {row fa fm PM x u f1 f2 f3 f4 : Addr} {ks : Int} {its tab : Array Value} {n : Nat} {Q : Flow → Shared → Prop} {E : Value → Shared → Prop} (S : St row PM tab keep) (K : AskedIn fa row (fun _ => keep)) (SI : StandIn x f1 f2 f3 f4 keep) (Z3 : LamIn lamDump "bad_show" ks f3 fa (fun _ => keep)) (Z4 : LamIn lamPrint "bad_show" ks f4 fa (fun _ => keep)) (UI : UtilsIn u fm keep)
    (C : CodeHd base 69 65) (hz : its.size ≤ 16777216) (env : Env) (henv : env = envOf (Str.ofString "_Utils.run") (sScope dRun) L 35 (.ref 34))
    (B : Below A₀ base outer h₀) (F : Fr h₀ L s.heap m) (X : (Mine.hd.heap_39 w.params).In h₀) (N : News h₀ L s.heap ((row, listOf its n) :: (PM, tabObj tab) :: keep)) (T : Top p loose mean mg mb h₀)
    (hA : A.frames = some (env :: outer)) (hroom : A.depth + 50 < recursionLimit) (hh : HeldN A keep) {fnv sv : Value} (hfn : FnOk fnv)
    (m1 : m (Str.ofString "self") = some (.ref u)) (m2 : m (Str.ofString "prof") = some (.ref x)) (m3 : m (Str.ofString "filename") = some fnv) (m4 : m (Str.ofString "sort") = some sv)
    (ok : excOf ks = none → ∀ h' tk th o, Fr h₀ L h' m → News h₀ L h' ((row, listOf (its.push (.ref th)) (n + 1)) :: (PM, tabObj tab) :: (th, o) :: keep) → St row PM tab ((th, o) :: keep) → ShowO fnv sv o → Q .next { s with heap := h', toks := tk })
    (er : ∀ D, excOf ks = some D → ∀ G e h' tk th o, Fr h₀ L G m → Rz base G (env :: outer) e (.type D) (ctxOf A) .none ((row, listOf (its.push (.ref th)) (n + 1)) :: (PM, tabObj tab) :: (th, o) :: keep) h' → St row PM tab ((th, o) :: keep) → ShowO fnv sv o → E (.ref e) { s with heap := h', toks := tk }) :
    wpAny (model PySem.Challenge.rw_ki0071_01.row.prog w) A (execs (tFin (hdS (tlS (sBody dRun)))) env) Q E s := by
  revert X
  k_fill
  intro X
  obtain ⟨du, eu, ku, u1, u2, u3, u4, u5, u6⟩ := UI
  have hA2 := hA
  have er2 := er
  have ok2 := ok
  clear er ok
  subst henv
  dsimp only [dRun, uStmts, cBody, tFin, hdS, tlS, sBody, sArgs, sScope, PySem.Challenge.pw_ki0071_01]
  have hK9 := kdMark
  k_steps
  refine Stop.of ?_
  rename Fr h₀ L _ _ => F2
  rename News h₀ L _ _ => N2
  rcases hfn with rfl | ⟨z, tz, rfl⟩
  · refine wpAny_call (show_print S K SI Z4 C hz B F2 X N2 T hA2 rfl rfl ?hr hh ?ok ?er)
    case hr => k_room
    case ok =>
      intro ho h2 tk2 th t F3 N3 S'
      clear F2 N2
      (try dsimp only)
      k_steps
      exact ok2 ho _ _ _ _ (by assumption) (by assumption) S' (.inl ⟨rfl, t, rfl⟩)
    case er =>
      intro D hD G e h2 tk2 th t FG2 x2 S'
      exact er2 D hD _ _ _ _ _ _ FG2 x2 S' (.inl ⟨rfl, t, rfl⟩)
  · refine wpAny_call (show_dump S K SI Z3 C hz B F2 X N2 T hA2 rfl rfl ?hr hh ?ok ?er)
    case hr => k_room
    case ok =>
      intro ho h2 tk2 th t F3 N3 S'
      clear F2 N2
      (try dsimp only)
      k_steps
      exact ok2 ho _ _ _ _ (by assumption) (by assumption) S' (.inr ⟨z, tz, t, rfl, rfl⟩)
    case er =>
      intro D hD G e h2 tk2 th t FG2 x2 S'
      exact er2 D hD _ _ _ _ _ _ FG2 x2 S' (.inr ⟨z, tz, t, rfl, rfl⟩)

set_option maxRecDepth 100000 in
set_option maxHeartbeats 8000000 in
/-- the finally block: self._show(prof, filename, sort) -/
theorem fin_ctx {row fa fm PM x u f1 f2 f3 f4 : Addr} {ks : Int} {its tab : Array Value} {n : Nat} {Q : Flow → Shared → Prop} {E : Value → Shared → Prop} (S : St row PM tab keep) (K : AskedIn fa row (fun _ => keep)) (SI : StandIn x f1 f2 f3 f4 keep) (Z3 : LamIn lamDump "bad_show" ks f3 fa (fun _ => keep)) (Z4 : LamIn lamPrint "bad_show" ks f4 fa (fun _ => keep)) (UI : UtilsIn u fm keep)
    (C : CodeHd base 69 65) (hz : its.size ≤ 16777216) (env : Env) (henv : env = envOf (Str.ofString "_Utils.runctx") (sScope dCtx) L 42 (.ref 41))
    (B : Below A₀ base outer h₀) (F : Fr h₀ L s.heap m) (X : (Mine.hd.heap_39 w.params).In h₀) (N : News h₀ L s.heap ((row, listOf its n) :: (PM, tabObj tab) :: keep)) (T : Top p loose mean mg mb h₀)
    (hA : A.frames = some (env :: outer)) (hroom : A.depth + 50 < recursionLimit) (hh : HeldN A keep) {fnv sv : Value} (hfn : FnOk fnv)
    (m1 : m (Str.ofString "self") = some (.ref u)) (m2 : m (Str.ofString "prof") = some (.ref x)) (m3 : m (Str.ofString "filename") = some fnv) (m4 : m (Str.ofString "sort") = some sv)
    (ok : excOf ks = none → ∀ h' tk th o, Fr h₀ L h' m → News h₀ L h' ((row, listOf (its.push (.ref th)) (n + 1)) :: (PM, tabObj tab) :: (th, o) :: keep) → St row PM tab ((th, o) :: keep) → ShowO fnv sv o → Q .next { s with heap := h', toks := tk })
    (er : ∀ D, excOf ks = some D → ∀ G e h' tk th o, Fr h₀ L G m → Rz base G (env :: outer) e (.type D) (ctxOf A) .none ((row, listOf (its.push (.ref th)) (n + 1)) :: (PM, tabObj tab) :: (th, o) :: keep) h' → St row PM tab ((th, o) :: keep) → ShowO fnv sv o → E (.ref e) { s with heap := h', toks := tk }) :
    wpAny (model PySem.Challenge.rw_ki0071_01.row.prog w) A (execs (tFin (hdS (tlS (sBody dCtx)))) env) Q E s := by
  revert X
  k_fill
  intro X
  obtain ⟨du, eu, ku, u1, u2, u3, u4, u5, u6⟩ := UI
  have hA2 := hA
  have er2 := er
  have ok2 := ok
  clear er ok
  subst henv
  dsimp only [dCtx, uStmts, cBody, tFin, hdS, tlS, sBody, sArgs, sScope, PySem.Challenge.pw_ki0071_01]
  have hK9 := kdMark
  k_steps
  refine Stop.of ?_
  rename Fr h₀ L _ _ => F2
  rename News h₀ L _ _ => N2
  rcases hfn with rfl | ⟨z, tz, rfl⟩
  · refine wpAny_call (show_print S K SI Z4 C hz B F2 X N2 T hA2 rfl rfl ?hr hh ?ok ?er)
    case hr => k_room
    case ok =>
      intro ho h2 tk2 th t F3 N3 S'
      clear F2 N2
      (try dsimp only)
      k_steps
      exact ok2 ho _ _ _ _ (by assumption) (by assumption) S' (.inl ⟨rfl, t, rfl⟩)
    case er =>
      intro D hD G e h2 tk2 th t FG2 x2 S'
      exact er2 D hD _ _ _ _ _ _ FG2 x2 S' (.inl ⟨rfl, t, rfl⟩)
  · refine wpAny_call (show_dump S K SI Z3 C hz B F2 X N2 T hA2 rfl rfl ?hr hh ?ok ?er)
    case hr => k_room
    case ok =>
      intro ho h2 tk2 th t F3 N3 S'
      clear F2 N2
      (try dsimp only)
      k_steps
      exact ok2 ho _ _ _ _ (by assumption) (by assumption) S' (.inr ⟨z, tz, t, rfl, rfl⟩)
    case er =>
      intro D hD G e h2 tk2 th t FG2 x2 S'
      exact er2 D hD _ _ _ _ _ _ FG2 x2 S' (.inr ⟨z, tz, t, rfl, rfl⟩)
end
end Mine
end

/- part E8 -/
section
open PySem PySem.W PyProof.Rows PySem.Calls PySem.Spec
set_option maxRecDepth 100000
namespace Mine
/-- an exception that was caught: its object and the newest entry of its traceback, both in the ledger -/
structure Caught (e T : Addr) (oe oT : Obj) (cls ctx fl : Value) : Prop where
  cls : oe.cls = cls
  there : ∃ vs ts, oe.data = .fields vs ∧ vs[1]? = some (.ref T) ∧ vs[2]? = some ctx ∧ oT.data = .fields ts ∧ ts[3]? = some fl
  ne : T ≠ e

section
variable {M : Model} {A A₀ : Around} {E : Value → Shared → Prop} {s : Shared} {base g g' G h h₀ : Heap} {env : Env} {outer l : List Env} {L e T : Addr} {m : Str → Option Value} {cls ctx fl : Value} {oe oT : Obj} {news news' : List (Addr × Obj)}

/-- caught: the frame's own facts again, the outer frames' slots turned; the exception and its entry go into the ledger -/
theorem Rz.land2 (x : Rz base G (env :: outer) e cls ctx fl news h) (hf : env.frame = some L) (K : Below A₀ base outer g) (F : Fr g L G m) :
    ∃ g' oe T oT, KtsTurn (frs outer) g g' ∧ Fr g' L h m ∧ Below A₀ base outer g' ∧ News g' L h ((e, oe) :: (T, oT) :: news) ∧ Caught e T oe oT cls ctx fl ∧ (∀ p ∈ news, p.1 ≠ e ∧ p.1 ≠ T) := by
  obtain ⟨u, B, b1, b2, b3, b4⟩ := x
  have b4' := b4
  obtain ⟨hB, hen, hl, oe, vs, T, oT, ts, he, hc, hd, h1, h2, hnT, hTe, hT, hdT, h3⟩ := b4'
  have hL : B.get? L = none := by
    obtain ⟨_, ⟨L', _, hf', hn, _⟩, _⟩ := hl
    rw [hf] at hf'
    cases hf'
    exact hn
  obtain ⟨T0, S⟩ := kts_turn_at (h := h) (fs := frs outer) (g := g)
    (fun b hb => by
      obtain ⟨_, o, ho, _⟩ := K.frames.mem hb
      exact ⟨o, ho⟩)
    (fun b o q nm => hB b o (b2 b o (F.keep b o q) fun z => by
      rw [frs_cons hf] at z
      rcases List.mem_cons.mp z with z | z
      · rw [z, kts_self F] at q; cases q
      · exact nm z))
    (fun b o q hm => by
      obtain ⟨_, o', ho', hx⟩ := K.frames.mem hm
      rw [q] at ho'
      cases ho'
      exact u b o (F.keep b o q) hx)
  have hge : ∀ b, B.get? b = none → (∀ o, h.get? b = some o → ∀ sl, (∀ ws, ({ o with slots := sl } : Obj).data ≠ .fields ws) → False) → g.get? b = none := fun b hb hr => by
    cases q : g.get? b with
    | none => rfl
    | some o =>
      exfalso
      by_cases hm : b ∈ frs (env :: outer)
      · rw [frs_cons hf] at hm
        rcases List.mem_cons.mp hm with z | z
        · rw [z, kts_self F] at q; cases q
        · obtain ⟨_, o', ho', hx⟩ := K.frames.mem z
          rw [q] at ho'
          cases ho'
          obtain ⟨sl, hs⟩ := u b o (F.keep b o q) hx
          exact hr _ hs o.slots fun ws z => hx ws z
      · rw [b2 b o (F.keep b o q) hm] at hb; cases hb
  have rec_ne : ∀ b ob ws, h.get? b = some ob → ob.data = .fields ws → b ≠ L := fun b ob ws hb hdb z => by
    obtain ⟨_, ⟨L', o', hf', _, ho', hx⟩, _⟩ := hl
    rw [hf] at hf'
    cases hf'
    rw [← z, hb] at ho'
    cases ho'
    exact hx _ hdb
  refine ⟨_, oe, T, oT, T0, ⟨u.ns F.ns, S, by rw [T0.size]; exact F.above⟩, ⟨K.stack, fun b o q => T0.other b o (K.stays b o q) (fun hm => by rw [(K.frames.mem hm).1] at q; cases q), K.frames.of_keeps fun b o q _ => ?_⟩, fun q hq => ?_, ⟨hc, ⟨vs, ts, hd, h1, h2, hdT, h3⟩, hTe⟩, fun q hq => ⟨fun z => ?_, fun z => ?_⟩⟩
  · obtain ⟨sl, hs⟩ := T0.up q
    exact ⟨_, hs, rfl⟩
  · rcases List.mem_cons.mp hq with rfl | hq
    · refine ⟨he, rec_ne _ _ _ he hd, T0.none_ _ (hge e hen fun o ho sl hx => ?_)⟩
      rw [he] at ho
      cases ho
      exact hx _ hd
    · rcases List.mem_cons.mp hq with rfl | hq
      · refine ⟨hT, rec_ne _ _ _ hT hdT, T0.none_ _ (hge T hnT fun o ho sl hx => ?_)⟩
        rw [hT] at ho
        cases ho
        exact hx _ hdT
      · refine ⟨hB _ _ (b3 q hq).1, fun z => ?_, T0.none_ _ (kts_none F.keep (b3 q hq).2.1)⟩
        have w := (b3 q hq).1
        rw [z, hL] at w
        cases w
  · have := (b3 q hq).1
    rw [z, hen] at this
    cases this
  · have := (b3 q hq).1
    rw [z, hnT] at this
    cases this

/-- an exception of the ledger takes off again -/
theorem Rz.again' (K : Below A₀ base outer g) (F : Fr g L h m) (hf : env.frame = some L) (hk : env.scope.kind = .function) (c : Caught e T oe oT cls ctx fl) (N : News g L h ((e, oe) :: (T, oT) :: news)) (hne : ∀ p ∈ news, p.1 ≠ e ∧ p.1 ≠ T) :
    ∃ G', Fr g L G' m ∧ Rz base G' (env :: outer) e cls ctx fl news h := by
  obtain ⟨hc, ⟨vs, ts, hd, h1, h2, hdT, h3⟩, hTe⟩ := c
  have K' := pushX K F hf hk
  have ne := N _ (.head _)
  have nT := N _ (.tail _ (.head _))
  have hfr : ∀ b ob ws, h.get? b = some ob → ob.data = .fields ws → b ∉ frs (env :: outer) := fun b ob ws hb hdb hm => by
    obtain ⟨_, o, ho, hx⟩ := K'.frames.mem hm
    rw [hb] at ho
    cases ho
    exact hx _ hdb
  have hin : ∀ e' ∈ (env :: outer), ∀ b, e'.frame = some b → b ∈ e :: T :: frs (env :: outer) := fun e' he b hb => .tail _ (.tail _ (List.mem_filterMap.mpr ⟨e', he, hb⟩))
  have gone : ∀ b o, g.get? b = some o → b ∉ (e :: T :: news.map (·.1)) := fun b o q hm => by
    rcases List.mem_cons.mp hm with z | hm
    · rw [z, ne.2.2] at q; cases q
    · rcases List.mem_cons.mp hm with z | hm
      · rw [z, nT.2.2] at q; cases q
      · obtain ⟨p, hp, rfl⟩ := List.mem_map.mp hm
        rw [(N p (.tail _ (.tail _ hp))).2.2] at q; cases q
  obtain ⟨oL, es, ep, hLo, r⟩ := F.ns
  refine ⟨hideAll h (e :: T :: news.map (·.1)), ⟨⟨oL, es, ep, hideAll_get _ hLo ?_, r⟩, fun b o q => hideAll_get _ (F.keep b o q) (gone b o q), F.above⟩, fun b o q _ => ⟨o.slots, of_hideAll _ q⟩, hideAll h (e :: T :: frs (env :: outer)), fun b o q => hideAll_get _ (K'.stays b o q) ?_, fun b o q nm => hideAll_get _ (of_hideAll _ q) ?_, fun p hp => ⟨hideAll_get _ (N p (.tail _ (.tail _ hp))).1 ?_, hideAll_none _ (.tail _ (.tail _ (List.mem_map_of_mem hp))), fresh_of_stays K.stays (N p (.tail _ (.tail _ hp))).2.2⟩, fun b o q => of_hideAll _ q, hideAll_none _ (.head _), funFrames_hide K'.frames hin, oe, vs, T, oT, ts, ne.1, hc, hd, h1, h2, hideAll_none _ (.tail _ (.head _)), hTe, nT.1, hdT, h3⟩
  · intro hm
    rcases List.mem_cons.mp hm with z | hm
    · exact ne.2.1 z.symm
    · rcases List.mem_cons.mp hm with z | hm
      · exact nT.2.1 z.symm
      · obtain ⟨p, hp, z⟩ := List.mem_map.mp hm
        exact (N p (.tail _ (.tail _ hp))).2.1 z
  · intro hm
    rcases List.mem_cons.mp hm with z | hm
    · rw [z, fresh_of_stays K.stays ne.2.2] at q; cases q
    · rcases List.mem_cons.mp hm with z | hm
      · rw [z, fresh_of_stays K.stays nT.2.2] at q; cases q
      · rw [(K'.frames.mem hm).1] at q; cases q
  · intro hm
    rcases List.mem_cons.mp hm with z | hm
    · rw [z, hideAll_none _ (.head _)] at q; cases q
    · rcases List.mem_cons.mp hm with z | hm
      · rw [z, hideAll_none _ (.tail _ (.head _))] at q; cases q
      · exact nm hm
  · intro hm
    rcases List.mem_cons.mp hm with z | hm
    · exact (hne p hp).1 z
    · rcases List.mem_cons.mp hm with z | hm
      · exact (hne p hp).2 z
      · rw [frs_cons hf] at hm
        rcases List.mem_cons.mp hm with z | z
        · exact (N p (.tail _ (.tail _ hp))).2.1 z
        · obtain ⟨o, ho, _⟩ := (K.frames.mem z).2
          rw [(N p (.tail _ (.tail _ hp))).2.2] at ho; cases ho

/-- behind a callee that ends in an exception: the caller's ground has turned -/
theorem leaveT0 (FG : Fr h₀ L g m) (K : Below A₀ base outer h₀) (hf : env.frame = some L) (T : KtsTurn (frs (env :: outer)) g g') :
    ∃ h₁, KtsTurn (frs outer) h₀ h₁ ∧ Fr h₁ L g' m ∧ Below A₀ base outer h₁ := by
  have hLm : L ∈ frs (env :: outer) := by rw [frs_cons hf]; exact .head _
  obtain ⟨T0, S⟩ := kts_turn_at (h := g') (fs := frs outer) (g := h₀)
    (fun b hb => by
      obtain ⟨_, o, ho, _⟩ := K.frames.mem hb
      exact ⟨o, ho⟩)
    (fun b o q nm => T.other b o (FG.keep b o q) fun z => by
      rw [frs_cons hf] at z
      rcases List.mem_cons.mp z with z | z
      · rw [z, kts_self FG] at q; cases q
      · exact nm z)
    (fun b o q hm => T.up (FG.keep b o q))
  obtain ⟨oL, es, ep, hL, hd, r⟩ := FG.ns
  obtain ⟨sl, hs⟩ := T.frame L oL hL hLm
  refine ⟨_, T0, ⟨⟨_, es, ep, hs, hd, r⟩, S, by rw [T0.size]; exact FG.above⟩, ⟨K.stack, fun b o q => T0.other b o (K.stays b o q) (fun hm => by rw [(K.frames.mem hm).1] at q; cases q), K.frames.of_keeps fun b o q _ => ?_⟩⟩
  obtain ⟨sl, hs⟩ := T0.up q
  exact ⟨_, hs, rfl⟩

/-- passed on by its frame -/
theorem Rz.passOn {α : Type} {what : String} {Q : α → Shared → Prop} (x : Rz base G l e cls ctx fl news s.heap) (hf : env.frame = some L)
    (hQ : ∀ h', Rz base G l e cls ctx (rawInt L) news h' → E (.ref e) { s with heap := h' }) : wpAny M A (PySem.passOn what (.ref e) env : Sem α) Q E s := by
  unfold PySem.passOn
  refine x.tb fun T => ?_
  rw [if_neg (by simp)]
  rw [hf]
  exact wpAny_bind (x.flight fun h' y => wpAny_throw (hQ h' y))
/-- noted behind a block of its own -/
theorem Rz.noted (x : Rz base G (env :: outer) e cls ctx .none news s.heap) (hfr : A.frames = some (env :: outer)) (hf : env.frame = some L) {A' : Around}
    (hQ : ∀ h', Rz base G (env :: outer) e cls ctx (rawInt L) news h' → E (.ref e) { s with heap := h' }) : notedBy M A env (cameBackBy M A' env E) (.ref e) s := by
  unfold notedBy cameBackBy
  refine x.note hfr hf fun h' y => ?_
  refine Rz.tb (s := { s with heap := h' }) y fun T => ?_
  rw [if_neg (by simp)]
  rw [hf]
  exact Rz.flight (s := { s with heap := h' }) y fun h'' z => hQ h'' z
end
end Mine
end

/- part F8 -/
section
open PySem PySem.W PyProof.Rows PySem.Calls PySem.Spec
namespace Mine
/-- what comes out of run and runctx -/
def resOf (kb ks : Int) : Option String :=
  match excOf ks with
  | some D => some D
  | none => match excOf kb with
    | some D => if D = "SystemExit" then none else some D
    | none => none
abbrev Led (row PM : Addr) (tab its : Array Value) (n : Nat) (keep : Keep) : Keep := (row, listOf its n) :: (PM, tabObj tab) :: keep
theorem St.swap {row PM th : Addr} {tab : Array Value} {o : Obj} {k1 k2 : Keep} (S1 : St row PM tab k1) (S2 : St row PM tab ((th, o) :: k2)) : St row PM tab ((th, o) :: k1) := by
  refine ⟨fun q hq b hb => ?_, S1.hne, ?_⟩
  · rcases List.mem_cons.mp hq with rfl | hq
    · exact S2.hrow _ (.head _) b hb
    · exact S1.hrow q hq b hb
  · rcases S1.ht with ⟨e, off⟩ | ⟨c1, c2, c3, c4, e, a1, a2, a3, a4⟩
    · rcases S2.ht with ⟨_, off2⟩ | ⟨c1, c2, c3, c4, e', _⟩
      · refine .inl ⟨e, fun q hq b hb => ?_⟩
        rcases List.mem_cons.mp hq with rfl | hq
        · exact off2 _ (.head _) b hb
        · exact off q hq b hb
      · rw [e] at e'
        have := congrArg Array.size e'
        simp [full4] at this
    · exact .inr ⟨c1, c2, c3, c4, e, a1.mono fun _ q => .tail _ q, a2.mono fun _ q => .tail _ q, a3.mono fun _ q => .tail _ q, a4.mono fun _ q => .tail _ q⟩
theorem excOf_cases {k : Int} {D : String} (h : excOf k = some D) : D = "SystemExit" ∨ D = "KeyError" ∨ D = "ValueError" ∨ D = "IndexError" := by
  unfold excOf at h
  split at h
  · cases h; simp
  · split at h
    · cases h; simp
    · split at h
      · cases h; simp
      · split at h
        · cases h; simp
        · cases h
theorem sub_se {D : String} (h : D = "SystemExit" ∨ D = "KeyError" ∨ D = "ValueError" ∨ D = "IndexError") : isSubtype (.type D) (.type "SystemExit") = pure (D == "SystemExit") := by
  rcases h with rfl | rfl | rfl | rfl <;> (rw [isSubtype_type]; kernel_rfl)
theorem se_nt : isSubtype (.type ((Manifest.find? "SystemExit").elim "type" fun x => x.metatype)) (.type "tuple") = pure false := by rw [isSubtype_type]; kernel_rfl

section
variable {prog : Program} {w : World} {A A₀ : Around} {base g : Heap} {env : Env} {outer : List Env} {L : Addr} {m mg mb : Str → Option Value} {keep : Keep} {s : Shared} {p : Program} {loose : List Str} {mean : ExcName → Option Value} {K : Frag}
/-- try: body; except SystemExit: pass; finally: the showing -/
theorem try_core {row PM : Addr} {tab its : Array Value} {n : Nat} {kb ks : Int} {f₀ : Stmt} {fs body : List Stmt} {t : PySem.Expr} {pp hp tp : Pos} {Q : Flow → Shared → Prop} {E : Value → Shared → Prop} {fnv sv : Value} {RunO : Obj → Prop}
    (XB : K.In base) (TB : Top p loose mean mg mb base) (hsz : its.size + 2 ≤ 16777216) (hfr : A.frames = some (env :: outer)) (hf : env.frame = some L) (hk : env.scope.kind = .function) (hh : A.handled = none)
    (hname : ∀ g' (s' : Shared) (A' : Around) (Q : Value → Shared → Prop) E, Fr g' L s'.heap m → K.In g' → Top p loose mean mg mb g' → Q (.type "SystemExit") s' → wpAny (model prog w) A' (eval t env) Q E s')
    (B : Below A₀ base outer g) (_F : Fr g L s.heap m)
    (hb : ∀ (Q₁ : Flow → Shared → Prop) (E₁ : Value → Shared → Prop),
      (excOf kb = none → ∀ h' tk th o, Fr g L h' m → News g L h' (Led row PM tab (its.push (.ref th)) (n + 1) ((th, o) :: keep)) → St row PM tab ((th, o) :: keep) → RunO o → Q₁ .next { s with heap := h', toks := tk }) →
      (∀ D, excOf kb = some D → ∀ G e h' tk th o, Fr g L G m → Rz base G (env :: outer) e (.type D) (ctxOf A) .none (Led row PM tab (its.push (.ref th)) (n + 1) ((th, o) :: keep)) h' → St row PM tab ((th, o) :: keep) → RunO o → E₁ (.ref e) { s with heap := h', toks := tk }) →
      wpAny (model prog w) A (execs body env) Q₁ E₁ s)
    (hfin : ∀ (A' : Around) g' (s' : Shared) its' n' keep' (Q₁ : Flow → Shared → Prop) (E₁ : Value → Shared → Prop), (∀ q ∈ keep, q ∈ keep') → St row PM tab keep' → its'.size ≤ 16777216 → Below A₀ base outer g' → Fr g' L s'.heap m → K.In g' → News g' L s'.heap (Led row PM tab its' n' keep') → Top p loose mean mg mb g' →
      A'.frames = some (env :: outer) → A'.depth = A.depth → HeldN A' keep' →
      (excOf ks = none → ∀ h' tk th o, Fr g' L h' m → News g' L h' (Led row PM tab (its'.push (.ref th)) (n' + 1) ((th, o) :: keep')) → St row PM tab ((th, o) :: keep') → ShowO fnv sv o → Q₁ .next { s' with heap := h', toks := tk }) →
      (∀ D, excOf ks = some D → ∀ G e h' tk th o, Fr g' L G m → Rz base G (env :: outer) e (.type D) (ctxOf A') .none (Led row PM tab (its'.push (.ref th)) (n' + 1) ((th, o) :: keep')) h' → St row PM tab ((th, o) :: keep') → ShowO fnv sv o → E₁ (.ref e) { s' with heap := h', toks := tk }) →
      wpAny (model prog w) A' (execs (f₀ :: fs) env) Q₁ E₁ s')
    (ok : resOf kb ks = none → ∀ g' h' tk th1 o1 th2 o2, KtsTurn (frs outer) g g' → Below A₀ base outer g' → Fr g' L h' m → News g' L h' (Led row PM tab ((its.push (.ref th1)).push (.ref th2)) (n + 2) ((th2, o2) :: (th1, o1) :: keep)) → St row PM tab ((th2, o2) :: (th1, o1) :: keep) → RunO o1 → ShowO fnv sv o2 → Q .next { s with heap := h', toks := tk })
    (er : ∀ D, resOf kb ks = some D → ∀ g' G e ctx h' tk th1 o1 th2 o2, KtsTurn (frs outer) g g' → Below A₀ base outer g' → Fr g' L G m → Rz base G (env :: outer) e (.type D) ctx (rawInt L) (Led row PM tab ((its.push (.ref th1)).push (.ref th2)) (n + 2) ((th2, o2) :: (th1, o1) :: keep)) h' → St row PM tab ((th2, o2) :: (th1, o1) :: keep) → RunO o1 → ShowO fnv sv o2 → E (.ref e) { s with heap := h', toks := tk }) :
    wpAny (model prog w) A (exec (.Try body [.ExceptHandler (some t) none [.Pass pp] hp] [] (f₀ :: fs) tp) env) Q E s := by
  have hc : ctxOf A = .none := by unfold ctxOf; rw [hh]; rfl
  have hs1 : ∀ th : Addr, (its.push (.ref th)).size ≤ 16777216 := fun th => by rw [Array.size_push]; omega
  refine wpAny_Try_except_finally (hb _ _ ?bok ?ber)
  case bok =>
    intro hkb h₁ tk th o F₁ N₁ S₁ r₁
    refine wpAny_execs_nil ?_
    refine hfin A g { s with heap := h₁, toks := tk } _ _ ((th, o) :: keep) _ _ (fun _ q => .tail _ q) S₁ (hs1 _) B F₁ (XB.keeps B.stays) N₁ (TB.keeps B.stays) hfr rfl (.inl hh) ?fok ?fer
    case fok =>
      intro hks h₂ tk2 th2 o2 F₂ N₂ S₂ r₂
      exact ok (by unfold resOf; rw [hks, hkb]) g h₂ tk2 th o th2 o2 .refl B F₂ N₂ S₂ r₁ r₂
    case fer =>
      intro D hD G e h₂ tk2 th2 o2 FG x S₂ r₂
      refine x.noted (s := { s with heap := h₂, toks := tk2 }) hfr hf fun h₃ y => ?_
      exact er D (by unfold resOf; rw [hD]) g G e _ h₃ tk2 th o th2 o2 .refl B FG y S₂ r₁ r₂
  case ber =>
    intro D hD G e h₁ tk th o FG x S₁ r₁
    rw [hc] at x
    have hcs := excOf_cases hD
    refine x.note (s := { s with heap := h₁, toks := tk }) hfr hf fun h₂ y => ?_
    refine Rz.flight (s := { s with heap := h₂, toks := tk }) (to := none) y fun h₃ z => ?_
    have z : Rz base G (env :: outer) e (.type D) .none .none (Led row PM tab (its.push (.ref th)) (n + 1) ((th, o) :: keep)) h₃ := z
    obtain ⟨g₁, oe, T, oT, T₁, F₁, B₁, N₁, c₁, ne₁⟩ := z.land2 hf B FG
    obtain ⟨vs, ts, q1, q2, q3, q4, q5⟩ := c₁.there
    refine wpAny_handleBy_builtin (X := D) (T := "SystemExit") (b := D == "SystemExit") se_base se_nt (sub_se hcs) (hname g₁ { s with heap := h₃, toks := tk } _ _ _ F₁ (XB.keeps B₁.stays) (TB.keeps B₁.stays) ⟨rfl, ⟨oe, (N₁ _ (.head _)).1, c₁.cls⟩, ?_⟩)
    by_cases hDs : D = "SystemExit"
    · subst hDs
      rw [if_pos (by decide)]
      refine Rz.flight (s := { s with heap := h₃, toks := tk }) (to := none) z fun h₄ z₄ => ?_
      have z₄ : Rz base G (env :: outer) e (.type "SystemExit") .none .none (Led row PM tab (its.push (.ref th)) (n + 1) ((th, o) :: keep)) h₄ := z₄
      obtain ⟨g₂, oe2, T2, oT2, T₂, F₂, B₂, N₂, c₂, ne₂⟩ := z₄.land2 hf B FG
      refine wpAny_execs_cons (wpAny_Pass (wpAny_execs_nil ?_))
      have N₂' : News g₂ L h₄ (Led row PM tab (its.push (.ref th)) (n + 1) ((th, o) :: keep)) := News.less N₂ fun _ q => .tail _ (.tail _ q)
      refine hfin A g₂ { s with heap := h₄, toks := tk } _ _ ((th, o) :: keep) _ _ (fun _ q => .tail _ q) S₁ (hs1 _) B₂ F₂ (XB.keeps B₂.stays) N₂' (TB.keeps B₂.stays) hfr rfl (.inl hh) ?gok ?ger
      case gok =>
        intro hks h₅ tk2 th2 o2 F₅ N₅ S₅ r₂
        exact ok (by unfold resOf; rw [hks, hD]; simp) g₂ h₅ tk2 th o th2 o2 T₂ B₂ F₅ N₅ S₅ r₁ r₂
      case ger =>
        intro D2 hD2 G2 e2 h₅ tk2 th2 o2 FG2 x2 S₅ r₂
        refine x2.noted (s := { s with heap := h₅, toks := tk2 }) hfr hf fun h₆ y2 => ?_
        exact er D2 (by unfold resOf; rw [hD2]) g₂ G2 e2 _ h₆ tk2 th o th2 o2 T₂ B₂ FG2 y2 S₅ r₁ r₂
    · rw [if_neg (by simpa using hDs)]
      refine wpAny_handleBy_nil (z.passOn (s := { s with heap := h₃, toks := tk }) hf fun h₄ z₄ => ?_)
      refine ⟨ref_ne_byPass e, ?_⟩
      refine z₄.again (s := { s with heap := h₄, toks := tk }) hf ?_
      refine Rz.flight (s := { s with heap := h₄, toks := tk }) (to := none) z₄ fun h₅ z₅ => ?_
      have z₅ : Rz base G (env :: outer) e (.type D) .none .none (Led row PM tab (its.push (.ref th)) (n + 1) ((th, o) :: keep)) h₅ := z₅
      obtain ⟨g₂, oe2, T2, oT2, T₂, F₂, B₂, N₂, c₂, ne₂⟩ := z₅.land2 hf B FG
      have nr := ne₂ _ (.head _)
      have nP := ne₂ _ (.tail _ (.head _))
      obtain ⟨vs2, ts2, v1, v2, v3, v4, v5⟩ := c₂.there
      have S₂ : St row PM tab ((e, oe2) :: (T2, oT2) :: (th, o) :: keep) := (S₁.cons (p := (T2, oT2)) (fun q => nr.2 q.symm) (fun q => nP.2 q.symm)).cons (fun q => nr.1 q.symm) (fun q => nP.1 q.symm)
      have N₂' : News g₂ L h₅ (Led row PM tab (its.push (.ref th)) (n + 1) ((e, oe2) :: (T2, oT2) :: (th, o) :: keep)) := News.less N₂ fun q hq => by
        simp only [Led, List.mem_cons] at hq ⊢
        rcases hq with hq | hq | hq | hq | hq | hq <;> simp [hq]
      refine hfin (A.mark (some (.ref e))) g₂ { s with heap := h₅, toks := tk } _ _ ((e, oe2) :: (T2, oT2) :: (th, o) :: keep) _ _ (fun _ q => .tail _ (.tail _ (.tail _ q))) S₂ (hs1 _) B₂ F₂ (XB.keeps B₂.stays) N₂' (TB.keeps B₂.stays) hfr rfl (.inr ⟨e, oe2, vs2, rfl, .head _, v1, v3⟩) ?mok ?mer
      case mok =>
        intro hks h₆ tk2 th2 o2 F₆ N₆ S₆ r₂
        obtain ⟨ws, ho2⟩ := r₂.list
        have a2 := N₆ (th2, o2) (.tail _ (.tail _ (.head _)))
        have ae := N₆ (e, oe2) (.tail _ (.tail _ (.tail _ (.head _))))
        have aT := N₆ (T2, oT2) (.tail _ (.tail _ (.tail _ (.tail _ (.head _)))))
        have te : th2 ≠ e := fun q => by
          have u := a2.1
          rw [show th2 = e from q, ae.1] at u
          cases u
          rw [ho2] at v1
          cases v1
        have tT : th2 ≠ T2 := fun q => by
          have u := a2.1
          rw [show th2 = T2 from q, aT.1] at u
          cases u
          rw [ho2] at v4
          cases v4
        have N₇ : News g₂ L h₆ ((e, oe2) :: (T2, oT2) :: Led row PM tab ((its.push (.ref th)).push (.ref th2)) (n + 2) ((th2, o2) :: (th, o) :: keep)) := News.less N₆ fun q hq => by
          simp only [Led, List.mem_cons] at hq ⊢
          rcases hq with hq | hq | hq | hq | hq | hq | hq <;> simp [hq]
        obtain ⟨G', FG', x'⟩ := Rz.again' B₂ F₆ hf hk c₂ N₇ (fun q hq => by
          simp only [Led, List.mem_cons] at hq
          rcases hq with rfl | rfl | rfl | rfl | hq
          · exact nr
          · exact nP
          · exact ⟨te, tT⟩
          · exact ne₂ _ (.tail _ (.tail _ (.head _)))
          · exact ne₂ _ (.tail _ (.tail _ (.tail _ hq))))
        refine x'.passOn (s := { s with heap := h₆, toks := tk2 }) hf fun h₈ x₈ => ?_
        exact er D (by unfold resOf; rw [hks, hD]; simp [hDs]) g₂ G' e _ h₈ tk2 th o th2 o2 T₂ B₂ FG' x₈ (S₁.swap S₆) r₁ r₂
      case mer =>
        intro D2 hD2 G2 e2 h₆ tk2 th2 o2 FG2 x2 S₆ r₂
        refine x2.noted (A := A.mark (some (.ref e))) (s := { s with heap := h₆, toks := tk2 }) hfr hf fun h₇ y2 => ?_
        refine er D2 (by unfold resOf; rw [hD2]) g₂ G2 e2 _ h₇ tk2 th o th2 o2 T₂ B₂ FG2 (y2.sub fun q hq => ?_) (S₁.swap S₆) r₁ r₂
        simp only [Led, List.mem_cons] at hq ⊢
        rcases hq with hq | hq | hq | hq | hq <;> simp [hq]
end
end Mine
end

/- part F9 -/
section
open PySem PySem.W PyProof.Rows PySem.Calls PySem.Spec
namespace Mine

def tBody : Stmt → List Stmt | .Try b _ _ _ _ => b | _ => []
def RunO (v : Value) (o : Obj) : Prop := ∃ t, o = listOf #[.str (Str.ofString "run") t, v] 0
def CtxO (v v2 v3 : Value) (o : Obj) : Prop := ∃ t, o = listOf #[.str (Str.ofString "runctx") t, v, v2, v3] 0
section
variable {w : World} {A A₀ : Around} {base h₀ : Heap} {env : Env} {outer : List Env} {L : Addr} {m mg mb : Str → Option Value} {keep : Keep} {s : Shared} {p : Program} {loose : List Str} {mean : ExcName → Option Value}
local macro_rules | `(tactic| k_room) => `(tactic| ((try simp only [depth_under_make, depth_under_kw, depth_in1, depth_deeper, depth_caller]); omega))
local macro_rules | `(tactic| walk_at "mine none") => `(tactic| fail)
local macro_rules | `(tactic| walk_at "mine none") => `(tactic| fail)
local macro_rules | `(tactic| walk_at "mine none") => `(tactic| fail)
local macro_rules | `(tactic| walk_at "getMethod ref") => `(tactic| (k_here; k_dflt (refine' meth_shadow ?k1 ?k2 ?k3 ?k9 ?k4 ?k5 ?k6 ?k10 ?k11 ?k12 ?k7 ?k8 ?_; (case k1 => k_asm); (case k2 => k_asm); (case k3 => k_inst); (case k9 => exact rfl); (case k4 => k_is); (case k5 => k_is); (case k6 => k_is); (case k10 => k_is); (case k11 => k_is); (case k12 => k_is); (case k7 => with_reducible assumption); (case k8 => k_handed); k_whole)))
local macro_rules | `(tactic| walk_at "eval Name") => `(tactic| (k_here; k_dflt (refine' ld ?k1 ?k2 ?_; (case k1 => k_asm); (case k2 => with_reducible assumption); k_whole)))

set_option maxRecDepth 100000 in
set_option maxHeartbeats 8000000 in
/-- the try's body -/
theorem body_run {row fa PM x f1 f2 f3 f4 : Addr} {kb : Int} {its tab : Array Value} {n : Nat} {Q : Flow → Shared → Prop} {E : Value → Shared → Prop} (S : St row PM tab keep) (K : AskedIn fa row (fun _ => keep)) (SI : StandIn x f1 f2 f3 f4 keep) (Z : LamIn lamRun "bad_run" kb f1 fa (fun _ => keep))
    (C : CodeHd base 69 65) (hz : its.size ≤ 16777216) (env : Env) (henv : env = envOf (Str.ofString "_Utils.run") (sScope dRun) L 35 (.ref 34))
    (B : Below A₀ base outer h₀) (F : Fr h₀ L s.heap m) (X : (Mine.hd.heap_39 w.params).In h₀) (N : News h₀ L s.heap (Led row PM tab its n keep)) (T : Top p loose mean mg mb h₀)
    (hA : A.frames = some (env :: outer)) (hroom : A.depth + 50 < recursionLimit) (hh : HeldN A keep) {v : Value}
    (m2 : m (Str.ofString "prof") = some (.ref x)) (m3 : m (Str.ofString "statement") = some v)
    (ok : excOf kb = none → ∀ h' tk th o, Fr h₀ L h' m → News h₀ L h' (Led row PM tab (its.push (.ref th)) (n + 1) ((th, o) :: keep)) → St row PM tab ((th, o) :: keep) → RunO v o → Q .next { s with heap := h', toks := tk })
    (er : ∀ D, excOf kb = some D → ∀ G e h' tk th o, Fr h₀ L G m → Rz base G (env :: outer) e (.type D) (ctxOf A) .none (Led row PM tab (its.push (.ref th)) (n + 1) ((th, o) :: keep)) h' → St row PM tab ((th, o) :: keep) → RunO v o → E (.ref e) { s with heap := h', toks := tk }) :
    wpAny (model PySem.Challenge.rw_ki0071_01.row.prog w) A (execs (tBody (hdS (tlS (sBody dRun)))) env) Q E s := by
  revert X
  k_fill
  intro X
  dsimp only [Led] at N
  obtain ⟨dx, es, kn, e1, e2, e3, e4, e5, e6⟩ := SI
  obtain ⟨xc, xd, xf, xs, mf⟩ := Z.fn
  have hne2 : @Ne Nat PM row := S.hne
  have hrow := S.hrow
  have hA2 := hA
  have er2 := er
  have ok2 := ok
  clear er ok
  subst henv
  dsimp only [dRun, uStmts, cBody, tBody, hdS, tlS, sBody, sArgs, sScope, PySem.Challenge.pw_ki0071_01]
  have hK9 := kdMark
  k_steps
  rename Fr h₀ L _ _ => F2
  rename News h₀ L _ _ => N2
  have tl2 : ∀ o : Obj, ∀ q ∈ keep, q ∈ ((row, o) :: (PM, tabObj tab) :: keep) := fun _ _ q => .tail _ (.tail _ q)
  refine wpAny_call (run_lam (s := { s with toks := s.toks + 1 }) (nf := fun o => (row, o) :: (PM, tabObj tab) :: keep) S.rowIn (K.mono fun o => tl2 o) (Z.mono fun o => tl2 o) C hz B F2 X N2 T hA2 rfl rfl ?hr (fun o => HeldN.mono hh (tl2 o)) ?ok ?er)
  case hr => k_room
  case ok =>
    intro ho h2 tk2 th t F3 N3 l3
    have S' := S.cons (p := (th, listOf #[.str (Str.ofString "run") t, v] 0)) (Nat.ne_of_gt (l3 _ (.head _))) (Nat.ne_of_gt (l3 _ (.tail _ (.head _))))
    have N4 := News.less N3 (ns' := (row, listOf (its.push (.ref th)) (n + 1)) :: (PM, tabObj tab) :: (th, listOf #[.str (Str.ofString "run") t, v] 0) :: keep) (by
      intro p hp
      simp only [List.mem_cons] at hp ⊢
      rcases hp with hp | hp | hp | hp <;> simp [hp])
    clear N3 F2 N2
    (try dsimp only)
    k_steps
    exact ok2 ho _ _ _ _ (by assumption) (by assumption) S' ⟨t, rfl⟩
  case er =>
    intro D hD G e h2 tk2 th t FG2 x2 l3
    have S' := S.cons (p := (th, listOf #[.str (Str.ofString "run") t, v] 0)) (Nat.ne_of_gt (l3 _ (.head _))) (Nat.ne_of_gt (l3 _ (.tail _ (.head _))))
    refine er2 D hD _ _ _ _ _ _ FG2 (x2.sub ?_) S' ⟨t, rfl⟩
    intro p hp
    simp only [Led, List.mem_cons] at hp ⊢
    rcases hp with hp | hp | hp | hp <;> simp [hp]

set_option maxRecDepth 100000 in
set_option maxHeartbeats 8000000 in
/-- the try's body -/
theorem body_ctx {row fa PM x f1 f2 f3 f4 : Addr} {kb : Int} {its tab : Array Value} {n : Nat} {Q : Flow → Shared → Prop} {E : Value → Shared → Prop} (S : St row PM tab keep) (K : AskedIn fa row (fun _ => keep)) (SI : StandIn x f1 f2 f3 f4 keep) (Z : LamIn lamCtx "bad_run" kb f2 fa (fun _ => keep))
    (C : CodeHd base 69 65) (hz : its.size ≤ 16777216) (env : Env) (henv : env = envOf (Str.ofString "_Utils.runctx") (sScope dCtx) L 42 (.ref 41))
    (B : Below A₀ base outer h₀) (F : Fr h₀ L s.heap m) (X : (Mine.hd.heap_39 w.params).In h₀) (N : News h₀ L s.heap (Led row PM tab its n keep)) (T : Top p loose mean mg mb h₀)
    (hA : A.frames = some (env :: outer)) (hroom : A.depth + 50 < recursionLimit) (hh : HeldN A keep) {v v2 v3 : Value}
    (m2 : m (Str.ofString "prof") = some (.ref x)) (m3 : m (Str.ofString "statement") = some v) (m4 : m (Str.ofString "globals") = some v2) (m5 : m (Str.ofString "locals") = some v3)
    (ok : excOf kb = none → ∀ h' tk th o, Fr h₀ L h' m → News h₀ L h' (Led row PM tab (its.push (.ref th)) (n + 1) ((th, o) :: keep)) → St row PM tab ((th, o) :: keep) → CtxO v v2 v3 o → Q .next { s with heap := h', toks := tk })
    (er : ∀ D, excOf kb = some D → ∀ G e h' tk th o, Fr h₀ L G m → Rz base G (env :: outer) e (.type D) (ctxOf A) .none (Led row PM tab (its.push (.ref th)) (n + 1) ((th, o) :: keep)) h' → St row PM tab ((th, o) :: keep) → CtxO v v2 v3 o → E (.ref e) { s with heap := h', toks := tk }) :
    wpAny (model PySem.Challenge.rw_ki0071_01.row.prog w) A (execs (tBody (hdS (tlS (sBody dCtx)))) env) Q E s := by
  revert X
  k_fill
  intro X
  dsimp only [Led] at N
  obtain ⟨dx, es, kn, e1, e2, e3, e4, e5, e6⟩ := SI
  obtain ⟨xc, xd, xf, xs, mf⟩ := Z.fn
  have hne2 : @Ne Nat PM row := S.hne
  have hrow := S.hrow
  have hA2 := hA
  have er2 := er
  have ok2 := ok
  clear er ok
  subst henv
  dsimp only [dCtx, uStmts, cBody, tBody, hdS, tlS, sBody, sArgs, sScope, PySem.Challenge.pw_ki0071_01]
  have hK9 := kdMark
  k_steps
  rename Fr h₀ L _ _ => F2
  rename News h₀ L _ _ => N2
  have tl2 : ∀ o : Obj, ∀ q ∈ keep, q ∈ ((row, o) :: (PM, tabObj tab) :: keep) := fun _ _ q => .tail _ (.tail _ q)
  refine wpAny_call (ctx_lam (s := { s with toks := s.toks + 1 }) (nf := fun o => (row, o) :: (PM, tabObj tab) :: keep) S.rowIn (K.mono fun o => tl2 o) (Z.mono fun o => tl2 o) C hz B F2 X N2 T hA2 rfl rfl ?hr (fun o => HeldN.mono hh (tl2 o)) ?ok ?er)
  case hr => k_room
  case ok =>
    intro ho h2 tk2 th t F3 N3 l3
    have S' := S.cons (p := (th, listOf #[.str (Str.ofString "runctx") t, v, v2, v3] 0)) (Nat.ne_of_gt (l3 _ (.head _))) (Nat.ne_of_gt (l3 _ (.tail _ (.head _))))
    have N4 := News.less N3 (ns' := (row, listOf (its.push (.ref th)) (n + 1)) :: (PM, tabObj tab) :: (th, listOf #[.str (Str.ofString "runctx") t, v, v2, v3] 0) :: keep) (by
      intro p hp
      simp only [List.mem_cons] at hp ⊢
      rcases hp with hp | hp | hp | hp <;> simp [hp])
    clear N3 F2 N2
    (try dsimp only)
    k_steps
    exact ok2 ho _ _ _ _ (by assumption) (by assumption) S' ⟨t, rfl⟩
  case er =>
    intro D hD G e h2 tk2 th t FG2 x2 l3
    have S' := S.cons (p := (th, listOf #[.str (Str.ofString "runctx") t, v, v2, v3] 0)) (Nat.ne_of_gt (l3 _ (.head _))) (Nat.ne_of_gt (l3 _ (.tail _ (.head _))))
    refine er2 D hD _ _ _ _ _ _ FG2 (x2.sub ?_) S' ⟨t, rfl⟩
    intro p hp
    simp only [Led, List.mem_cons] at hp ⊢
    rcases hp with hp | hp | hp | hp <;> simp [hp]
end
end Mine
end

/- part F10 -/
section
open PySem PySem.W PyProof.Rows PySem.Calls PySem.Spec
namespace Mine

theorem MakerIn.fn {fm fa row : Addr} {kb ks : Int} {cM : Addr} {keep : Keep} (Z : MakerIn fm fa row kb ks cM keep) : ∃ oc od fd sl, (fm, (⟨oc, od, .func fd, sl⟩ : Obj)) ∈ keep := by
  obtain ⟨cRow, cAs, cBr, cBs, doc, pm, ctv, oRow, oAs, oBr, oBs, tkb, tks, z1, _⟩ := Z
  exact ⟨_, _, _, _, z1⟩
theorem StandIn.mono {x f1 f2 f3 f4 : Addr} {ns ns' : Keep} (X : StandIn x f1 f2 f3 f4 ns) (h : ∀ p ∈ ns, p ∈ ns') : StandIn x f1 f2 f3 f4 ns' := by
  obtain ⟨dx, es, k, a, b, r⟩ := X
  exact ⟨dx, es, k, h _ a, h _ b, r⟩
theorem nextKeep {row PM : Addr} {tab its : Array Value} {n : Nat} {k1 : Keep} : ∀ q ∈ k1, q ∈ Led row PM tab its n k1 := fun _ q => .tail _ (.tail _ q)
section
variable {w : World} {A A₀ : Around} {base h₀ : Heap} {env : Env} {outer : List Env} {L : Addr} {m mg mb : Str → Option Value} {keep : Keep} {s : Shared} {R : Result → Shared → Prop} {p : Program} {loose : List Str} {mean : ExcName → Option Value}
local macro_rules | `(tactic| k_room) => `(tactic| ((try simp only [depth_under_make, depth_under_kw, depth_in1, depth_deeper, depth_caller]); omega))
local macro_rules | `(tactic| walk_at "mine none") => `(tactic| fail)
local macro_rules | `(tactic| walk_at "mine none") => `(tactic| fail)
local macro_rules | `(tactic| walk_at "mine none") => `(tactic| fail)
local macro_rules | `(tactic| walk_at "mine none") => `(tactic| fail)
local macro_rules | `(tactic| walk_at "getMethod ref") => `(tactic| (k_here; k_dflt (refine' meth_own ?k1 ?k2 ?k3 ?k4 ?k5 ?k6 ?k7 ?k8 ?_; (case k1 => k_asm); (case k2 => k_asm); (case k3 => k_inst); (case k4 => k_is); (case k5 => k_is); (case k6 => k_is); (case k7 => with_reducible assumption); (case k8 => k_handed); k_whole)))
local macro_rules | `(tactic| walk_at "exec Try cons cons nil cons") => `(tactic| refine Stop.intro ?_)

set_option maxRecDepth 100000 in
set_option maxHeartbeats 8000000 in
theorem run_spec {row fm fa cM PM u : Addr} {kb ks : Int} {its tab : Array Value} {n : Nat} (C : CodeHd base 69 65) (Z : MakerIn fm fa row kb ks cM keep) (ZC : CodeM cM PM keep) (K : AskedIn fa row (fun _ => keep)) (UI : UtilsIn u fm keep) (S : St row PM tab keep) (hz : its.size + 3 ≤ 16777216)
    (XB : (Mine.hd.heap_39 w.params).In base) (TB : Top p loose mean mg mb base)
    (B : Below A₀ base outer h₀) (F : Fr h₀ L s.heap m) (X : (Mine.hd.heap_39 w.params).In h₀) (N : News h₀ L s.heap (Led row PM tab its n keep)) (T : Top p loose mean mg mb h₀)
    (hA : A.frames = some (env :: outer)) (hf : env.frame = some L) (hke : env.scope.kind = .function) (hroom : A.depth + 80 < recursionLimit) (hh : A.handled = none) {v fnv sv : Value} (hfn : FnOk fnv)
    (ok : resOf kb ks = none → ∀ h₁ h' tk tab' keep' mk tm th1 o1 th2 o2, KtsTurn (frs outer) h₀ h₁ → Fr h₁ L h' m → News h₁ L h' (Led row PM tab' (((its.push (.ref mk)).push (.ref th1)).push (.ref th2)) (n + 3) ((th2, o2) :: (th1, o1) :: keep')) → Below A₀ base outer h₁ → (∀ q ∈ keep, q ∈ keep') → St row PM tab' ((th2, o2) :: (th1, o1) :: keep') → tab' ≠ #[] →
      (mk, listOf #[.str (Str.ofString "made") tm] 0) ∈ keep' → RunO v o1 → ShowO fnv sv o2 → R (.ok (.ret .none)) { s with heap := h', toks := tk })
    (er : ∀ D, resOf kb ks = some D → ∀ h₁ G e ctx h' tk tab' keep' mk tm th1 o1 th2 o2, KtsTurn (frs outer) h₀ h₁ → Fr h₁ L G m → Rz base G (env :: outer) e (.type D) ctx .none (Led row PM tab' (((its.push (.ref mk)).push (.ref th1)).push (.ref th2)) (n + 3) ((th2, o2) :: (th1, o1) :: keep')) h' → Below A₀ base outer h₁ → (∀ q ∈ keep, q ∈ keep') → St row PM tab' ((th2, o2) :: (th1, o1) :: keep') → tab' ≠ #[] →
      (mk, listOf #[.str (Str.ofString "made") tm] 0) ∈ keep' → RunO v o1 → ShowO fnv sv o2 → R (.error (.ref e)) { s with heap := h', toks := tk }) :
    codeAny (model PySem.Challenge.rw_ki0071_01.row.prog w) A (.call (.ref 35) ⟨[.ref u, v, fnv, sv], []⟩) R s := by
  revert X XB
  k_fill
  intro XB X
  dsimp only [Led] at N
  have UI2 := UI
  obtain ⟨du, eu, ku, u1, u2, u3, u4, u5, u6⟩ := UI
  obtain ⟨xc, xd, xf, xs, mf⟩ := Z.fn
  have er2 := er
  have ok2 := ok
  clear er ok
  refine' enterK ?k1 ?k2 ?k3 ?k4 ?k5 ?kA ?kF ?kK ?k6 ?k7 ?k8 ?k9 ?kB ?_ ?c2 ?c3 ?c4 ?c5
  (case kA => exact hA); (case kF => exact hf); (case kK => exact hke); (case k1 => k_asm); (case k2 => k_asm); (case k3 => k_asm); (case k4 => k_asm); (case k5 => k_asm); (case k6 => k_is); (case k7 => k_is); (case k8 => k_room); (case k9 => exact BindsTo.of_eq rfl); (case c5 => decide); (case kB => exact locs rfl); (case c2 => exact rfl); (case c3 => exact rfl); (case c4 => exact rfl)
  intro g' L' h' FG' F' N' B' X' T' lN
  (try dsimp only)
  (try k_fold)
  have hK9 := kdMark
  k_steps
  rename Fr g' L' _ _ => F2
  rename News g' L' _ _ => N2
  refine wpAny_call (maker_spec C Z ZC S.hrow S.ht S.hne (by omega) B' F2 X' N2 T' (Around.frames_deeper hA) rfl rfl ?hr ?ok)
  case hr => k_room
  case ok =>
    intro h3 tk3 x mk tm f1 f2 f3 f4 tab' keep' F3 N3 hk3 ht3 hne3 hoff3 hmk SI L1 L2 L3 L4
    clear F2 N2
    (try dsimp only)
    k_steps
    refine Stop.of ?_
    rename Fr g' L' _ _ => F4
    rename News g' L' _ _ => N4
    clear lN
    have S4 : St row PM tab' keep' := ⟨hoff3, S.hne, ht3⟩
    have UI4 := UI2.mono hk3
    have K4 : AskedIn fa row (fun _ => keep') := K.mono fun _ => hk3
    refine try_core (kb := kb) (ks := ks) (fnv := fnv) (sv := sv) (RunO := RunO v) (its := its.push (.ref mk)) (n := n + 1) (tab := tab') (PM := PM) (row := row) (keep := keep') (g := g') XB TB (by simp only [Array.size_push]; omega) (Around.frames_deeper hA) rfl rfl hh ?hname B' F4 ?hb ?hfin ?tok ?ter
    case hname =>
      intro g5 s5 A5 Q5 E5 F5 X5 T5 hq
      (k_dflt (refine' name_B F5 X5 (topRead_of T5) ?q31 ?q41 ?q51 ?_; (case q31 => k_is); (case q41 => boot_by_name); (case q51 => decide)))
      exact hq
    case hb =>
      intro Q1 E1 ok1 er1
      exact body_run (s := { s with heap := _, toks := _ }) S4 K4 SI L1 C (by simp only [Array.size_push]; omega) _ rfl B' F4 X' N4 T' (Around.frames_deeper hA) (by k_room) (.inl hh) rfl rfl ok1 er1
    case hfin =>
      intro A5 g5 s5 its5 n5 keep5 Q1 E1 hk5 S5 hz5 B5 F5 X5 N5 T5 hA5 hd5 hh5 ok1 er1
      exact fin_run S5 (K4.mono fun _ => hk5) (SI.mono hk5) (L3.mono fun _ => hk5) (L4.mono fun _ => hk5) (UI4.mono hk5) C hz5 _ rfl B5 F5 X5 N5 T5 hA5 (by rw [hd5]; k_room) hh5 hfn rfl rfl rfl rfl ok1 er1
    case tok =>
      intro hres g7 h7 tk7 th1 o1 th2 o2 T7 B7 F7 N7 S7 r1 r2
      refine wpAny_execs_nil ?_
      k_unfold
      obtain ⟨h₁, Ta, Fa, Na, Ba⟩ := leaveT FG' B hf T7 F7 N7
      exact ok2 hres h₁ h7 tk7 tab' keep' mk tm th1 o1 th2 o2 Ta Fa Na Ba hk3 S7 hne3 hmk r1 r2
    case ter =>
      intro D hD g7 G e ctx h7 tk7 th1 o1 th2 o2 T7 B7 FG7 x7 S7 r1 r2
      k_unfold
      refine x7.leaveHeld (s := { s with heap := h7, toks := tk7 }) rfl FG7 fun h8 y8 => ?_
      obtain ⟨h₁, Ta, Fa, Ba⟩ := leaveT0 FG' B hf T7
      exact er2 D hD h₁ g7 e ctx h8 tk7 tab' keep' mk tm th1 o1 th2 o2 Ta Fa y8 Ba hk3 S7 hne3 hmk r1 r2

set_option maxRecDepth 100000 in
set_option maxHeartbeats 8000000 in
theorem runctx_spec {row fm fa cM PM u : Addr} {kb ks : Int} {its tab : Array Value} {n : Nat} (C : CodeHd base 69 65) (Z : MakerIn fm fa row kb ks cM keep) (ZC : CodeM cM PM keep) (K : AskedIn fa row (fun _ => keep)) (UI : UtilsIn u fm keep) (S : St row PM tab keep) (hz : its.size + 3 ≤ 16777216)
    (XB : (Mine.hd.heap_39 w.params).In base) (TB : Top p loose mean mg mb base)
    (B : Below A₀ base outer h₀) (F : Fr h₀ L s.heap m) (X : (Mine.hd.heap_39 w.params).In h₀) (N : News h₀ L s.heap (Led row PM tab its n keep)) (T : Top p loose mean mg mb h₀)
    (hA : A.frames = some (env :: outer)) (hf : env.frame = some L) (hke : env.scope.kind = .function) (hroom : A.depth + 80 < recursionLimit) (hh : A.handled = none) {v v2 v3 fnv sv : Value} (hfn : FnOk fnv)
    (ok : resOf kb ks = none → ∀ h₁ h' tk tab' keep' mk tm th1 o1 th2 o2, KtsTurn (frs outer) h₀ h₁ → Fr h₁ L h' m → News h₁ L h' (Led row PM tab' (((its.push (.ref mk)).push (.ref th1)).push (.ref th2)) (n + 3) ((th2, o2) :: (th1, o1) :: keep')) → Below A₀ base outer h₁ → (∀ q ∈ keep, q ∈ keep') → St row PM tab' ((th2, o2) :: (th1, o1) :: keep') → tab' ≠ #[] →
      (mk, listOf #[.str (Str.ofString "made") tm] 0) ∈ keep' → CtxO v v2 v3 o1 → ShowO fnv sv o2 → R (.ok (.ret .none)) { s with heap := h', toks := tk })
    (er : ∀ D, resOf kb ks = some D → ∀ h₁ G e ctx h' tk tab' keep' mk tm th1 o1 th2 o2, KtsTurn (frs outer) h₀ h₁ → Fr h₁ L G m → Rz base G (env :: outer) e (.type D) ctx .none (Led row PM tab' (((its.push (.ref mk)).push (.ref th1)).push (.ref th2)) (n + 3) ((th2, o2) :: (th1, o1) :: keep')) h' → Below A₀ base outer h₁ → (∀ q ∈ keep, q ∈ keep') → St row PM tab' ((th2, o2) :: (th1, o1) :: keep') → tab' ≠ #[] →
      (mk, listOf #[.str (Str.ofString "made") tm] 0) ∈ keep' → CtxO v v2 v3 o1 → ShowO fnv sv o2 → R (.error (.ref e)) { s with heap := h', toks := tk }) :
    codeAny (model PySem.Challenge.rw_ki0071_01.row.prog w) A (.call (.ref 42) ⟨[.ref u, v, v2, v3, fnv, sv], []⟩) R s := by
  revert X XB
  k_fill
  intro XB X
  dsimp only [Led] at N
  have UI2 := UI
  obtain ⟨du, eu, ku, u1, u2, u3, u4, u5, u6⟩ := UI
  obtain ⟨xc, xd, xf, xs, mf⟩ := Z.fn
  have er2 := er
  have ok2 := ok
  clear er ok
  refine' enterK ?k1 ?k2 ?k3 ?k4 ?k5 ?kA ?kF ?kK ?k6 ?k7 ?k8 ?k9 ?kB ?_ ?c2 ?c3 ?c4 ?c5
  (case kA => exact hA); (case kF => exact hf); (case kK => exact hke); (case k1 => k_asm); (case k2 => k_asm); (case k3 => k_asm); (case k4 => k_asm); (case k5 => k_asm); (case k6 => k_is); (case k7 => k_is); (case k8 => k_room); (case k9 => exact BindsTo.of_eq rfl); (case c5 => decide); (case kB => exact locs rfl); (case c2 => exact rfl); (case c3 => exact rfl); (case c4 => exact rfl)
  intro g' L' h' FG' F' N' B' X' T' lN
  (try dsimp only)
  (try k_fold)
  have hK9 := kdMark
  k_steps
  rename Fr g' L' _ _ => F2
  rename News g' L' _ _ => N2
  refine wpAny_call (maker_spec C Z ZC S.hrow S.ht S.hne (by omega) B' F2 X' N2 T' (Around.frames_deeper hA) rfl rfl ?hr ?ok)
  case hr => k_room
  case ok =>
    intro h3 tk3 x mk tm f1 f2 f3 f4 tab' keep' F3 N3 hk3 ht3 hne3 hoff3 hmk SI L1 L2 L3 L4
    clear F2 N2
    (try dsimp only)
    k_steps
    refine Stop.of ?_
    rename Fr g' L' _ _ => F4
    rename News g' L' _ _ => N4
    clear lN
    have S4 : St row PM tab' keep' := ⟨hoff3, S.hne, ht3⟩
    have UI4 := UI2.mono hk3
    have K4 : AskedIn fa row (fun _ => keep') := K.mono fun _ => hk3
    refine try_core (kb := kb) (ks := ks) (fnv := fnv) (sv := sv) (RunO := CtxO v v2 v3) (its := its.push (.ref mk)) (n := n + 1) (tab := tab') (PM := PM) (row := row) (keep := keep') (g := g') XB TB (by simp only [Array.size_push]; omega) (Around.frames_deeper hA) rfl rfl hh ?hname B' F4 ?hb ?hfin ?tok ?ter
    case hname =>
      intro g5 s5 A5 Q5 E5 F5 X5 T5 hq
      (k_dflt (refine' name_B F5 X5 (topRead_of T5) ?q31 ?q41 ?q51 ?_; (case q31 => k_is); (case q41 => boot_by_name); (case q51 => decide)))
      exact hq
    case hb =>
      intro Q1 E1 ok1 er1
      exact body_ctx (s := { s with heap := _, toks := _ }) S4 K4 SI L2 C (by simp only [Array.size_push]; omega) _ rfl B' F4 X' N4 T' (Around.frames_deeper hA) (by k_room) (.inl hh) rfl rfl rfl rfl ok1 er1
    case hfin =>
      intro A5 g5 s5 its5 n5 keep5 Q1 E1 hk5 S5 hz5 B5 F5 X5 N5 T5 hA5 hd5 hh5 ok1 er1
      exact fin_ctx S5 (K4.mono fun _ => hk5) (SI.mono hk5) (L3.mono fun _ => hk5) (L4.mono fun _ => hk5) (UI4.mono hk5) C hz5 _ rfl B5 F5 X5 N5 T5 hA5 (by rw [hd5]; k_room) hh5 hfn rfl rfl rfl rfl ok1 er1
    case tok =>
      intro hres g7 h7 tk7 th1 o1 th2 o2 T7 B7 F7 N7 S7 r1 r2
      refine wpAny_execs_nil ?_
      k_unfold
      obtain ⟨h₁, Ta, Fa, Na, Ba⟩ := leaveT FG' B hf T7 F7 N7
      exact ok2 hres h₁ h7 tk7 tab' keep' mk tm th1 o1 th2 o2 Ta Fa Na Ba hk3 S7 hne3 hmk r1 r2
    case ter =>
      intro D hD g7 G e ctx h7 tk7 th1 o1 th2 o2 T7 B7 FG7 x7 S7 r1 r2
      k_unfold
      refine x7.leaveHeld (s := { s with heap := h7, toks := tk7 }) rfl FG7 fun h8 y8 => ?_
      obtain ⟨h₁, Ta, Fa, Ba⟩ := leaveT0 FG' B hf T7
      exact er2 D hD h₁ g7 e ctx h8 tk7 tab' keep' mk tm th1 o1 th2 o2 Ta Fa y8 Ba hk3 S7 hne3 hmk r1 r2
end
end Mine
end

/- part E9 -/
section
open PySem PySem.W PyProof.Rows PySem.Calls PySem.Spec
set_option maxRecDepth 100000
namespace Mine
/-- a dict with one entry: a text and an int -/
def OneD (o : Obj) (x : Str) (n : Int) : Prop := o.ExactDict ∧ ∃ e ep, o.data = .dict #[e] ep ∧ (∃ t, e.key = .str x t) ∧ ∃ t, e.val = .int n t
theorem OneD.of {prog : Program} {w : World} {o : Obj} {x : Str} {n : Int} {t : Tok} (h : o.IsDictOf (PySem.strKind prog w) [(x, .int n t)]) : OneD o x n := by
  obtain ⟨es, ep, hx, hd, hk, hp, hn⟩ := h
  obtain ⟨l⟩ := es
  cases hp with
  | cons h1 h2 h3 =>
    cases h3
    obtain ⟨t', q⟩ := Value.isStrOf_shape h1
    exact ⟨hx, _, ep, hd, ⟨t', q⟩, t, h2⟩

section
variable {A : Around} {s : Shared}
theorem one_rc {a b : Addr} {oa ob : Obj} {x : Str} {n : Int} (ha : s.heap.get? a = some oa) (hb : s.heap.get? b = some ob) (da : OneD oa x n) (db : OneD ob x n) (la : (a == sysModules) = false) (lb : (b == sysModules) = false) (hu : A.units < cLine) :
    SeqAt.RcAt A s (.ref a) (.ref b) true := fun prog w E Q h => by
  obtain ⟨xa, ea, epa, hda, ⟨ta, ka⟩, va, wa⟩ := da
  obtain ⟨xb, eb, epb, hdb, ⟨tb, kb⟩, vb, wb⟩ := db
  have tya : s.TypeIs (.ref a) "dict" := ⟨oa, ha, xa.1⟩
  have tyb : s.TypeIs (.ref b) "dict" := ⟨ob, hb, xb.1⟩
  refine wpAny_richCompare_same_room (op := .Eq) tya tyb PySem.F.slot_dict_eq (wpAny_call_entry PySem.F.slot_dict_eq tya PySem.F.entry_dict_eq ?_ (PySem.F.args_dict_eq_2 _ _)) hu
  show wpAny _ _ (Builtin.Dict.dictSlotArgs "__eq__" ⟨[.ref a, .ref b], []⟩ >>= _) _ _ s
  refine wpAny_bind ?_
  unfold Builtin.Dict.dictSlotArgs
  refine wpAny_bind (wpAny_notOrdered_dict tya ?_)
  show wpAny _ _ (pure (Value.ref a, Value.ref b)) _ _ s
  refine wpAny_pure ?_
  refine wpAny_bind (wpAny_isInstance (T := "dict") tyb PySem.F.sub_dict_dict ?_)
  simp only [Bool.not_true, Bool.false_eq_true, if_false]
  refine wpAny_bind (wpAny_pure (wpAny_bind (wpAny_pure ?_)))
  refine wpAny_bind (wpAny_mono (Q := fun r s' => r = true ∧ s' = s) ?_ (fun r s' q => by
    obtain ⟨rfl, rfl⟩ := q
    refine wpAny_pure ⟨_, rfl, ?_, ?_⟩
    · exact fun x => nomatch x
    · simpa using h) (fun _ _ z => z))
  unfold Builtin.Dict.samePairs Builtin.Dict.showsAll
  rw [if_neg (show ¬ (a == sysModules) = true by rw [la]; exact Bool.false_ne_true), if_neg (show ¬ (b == sysModules) = true by rw [lb]; exact Bool.false_ne_true)]
  refine wpAny_bind (wpAny_pure (wpAny_bind (wpAny_pure ?_)))
  refine wpAny_bind (wpAny_dictEntries ha hda ?_)
  dsimp only
  refine wpAny_bind (wpAny_dictEntries hb hdb ?_)
  rw [if_neg (by simp)]
  refine wpAny_bind (wpAny_dictEpoch ha hda ?_)
  refine wpAny_bind ?_
  rw [Std.Legacy.Range.forIn_eq_forIn_range']
  simp only [Std.Legacy.Range.size, Nat.sub_zero, Nat.add_sub_cancel, Nat.div_one]
  refine wpAny_forIn_list _ (fun rest q s' => s' = s ∧ q = (none, ()) ∧ (rest = [0] ∨ rest = [])) _ ?_ ?_ _ _ ⟨rfl, rfl, .inl rfl⟩
  · rintro i rest q s' ⟨rfl, rfl, hr⟩
    have hr : i = 0 ∧ rest = [] := by
      rcases hr with hr | hr
      · injection hr with h1 h2; exact ⟨h1, h2⟩
      · cases hr
    obtain ⟨rfl, rfl⟩ := hr
    refine wpAny_bind (wpAny_dictEntries ha hda ?_)
    rw [show (#[ea] : Array DictEntry)[0]? = some ea from rfl]
    dsimp only
    rw [ka]
    refine wpAny_bind (wpAny_holding (wpAny_bind (PyProof.Rows.KTD.kt_dictFind_strs hb hdb (by simp [kb, isExactStrKey]) ?_)))
    have hf : (#[eb] : Array DictEntry).findIdx? (fun e => e.key.isStr x) = some 0 := by
      refine Array.findIdx?_eq_some_iff_getElem.mpr ⟨by simp, by simp [kb, Value.isStr], fun j hj => absurd hj (Nat.not_lt_zero _)⟩
    rw [hf]
    refine wpAny_bind (wpAny_dictEntries hb hdb ?_)
    rw [show (#[eb] : Array DictEntry)[0]? = some eb from rfl]
    dsimp only
    rw [wa, wb]
    refine wpAny_holding (SeqAt.EqAt.int_int n va n vb prog w E _ ?_)
    rw [beq_self_eq_true]
    show wpAny _ _ (if (!true) = true then _ else _) _ _ _
    rw [if_neg (by decide)]
    refine wpAny_bind (wpAny_dictEpoch ha hda ?_)
    rw [if_neg (by simp)]
    exact wpAny_pure ⟨rfl, rfl, .inr rfl⟩
  · rintro q s' ⟨rfl, rfl, hr⟩
    exact wpAny_pure ⟨rfl, rfl⟩
end

inductive All2 {α β : Type} (R : α → β → Prop) : List α → List β → Prop
  | nil : All2 R [] []
  | cons {a : α} {b : β} {l : List α} {k : List β} : R a b → All2 R l k → All2 R (a :: l) (b :: k)
/-- two values alike, by the ledger -/
inductive Leaf (tl : List (Addr × Obj)) : Value → Value → Prop
  | none : Leaf tl .none .none
  | str (x : Str) (t u : Tok) : Leaf tl (.str x t) (.str x u)
  | int (n : Int) (t u : Tok) : Leaf tl (.int n t) (.int n u)
  | dict {a b : Addr} {oa ob : Obj} {x : Str} {n : Int} : (a, oa) ∈ tl → (b, ob) ∈ tl → OneD oa x n → OneD ob x n → (a == sysModules) = false → (b == sysModules) = false → Leaf tl (.ref a) (.ref b)
/-- two lists of such -/
def Ent (tl : List (Addr × Obj)) (v y : Value) : Prop := ∃ a b xs ys, v = .ref a ∧ y = .ref b ∧ (a, listOf (List.toArray xs) 0) ∈ tl ∧ (b, listOf (List.toArray ys) 0) ∈ tl ∧ All2 (Leaf tl) xs ys
theorem Leaf.mono {tl tl' : List (Addr × Obj)} {v y : Value} (h : Leaf tl v y) (hs : ∀ p ∈ tl, p ∈ tl') : Leaf tl' v y := by
  cases h with
  | none => exact .none
  | str x t u => exact .str x t u
  | int n t u => exact .int n t u
  | dict a b c d e f => exact .dict (hs _ a) (hs _ b) c d e f
theorem forall2_mono {α β : Type} {R S : α → β → Prop} (h : ∀ a b, R a b → S a b) : ∀ {l : List α} {k : List β}, All2 R l k → All2 S l k
  | _, _, .nil => .nil
  | _, _, .cons a b => .cons (h _ _ a) (forall2_mono h b)
theorem Ent.mono {tl tl' : List (Addr × Obj)} {v y : Value} (h : Ent tl v y) (hs : ∀ p ∈ tl, p ∈ tl') : Ent tl' v y := by
  obtain ⟨a, b, xs, ys, e1, e2, m1, m2, f⟩ := h
  exact ⟨a, b, xs, ys, e1, e2, hs _ m1, hs _ m2, forall2_mono (fun _ _ z => z.mono hs) f⟩
theorem forall2_len {α β : Type} {R : α → β → Prop} : ∀ {l : List α} {k : List β}, All2 R l k → l.length = k.length
  | _, _, .nil => rfl
  | _, _, .cons _ b => by simp [forall2_len b]
theorem forall2_get {α β : Type} {R : α → β → Prop} : ∀ {l : List α} {k : List β}, All2 R l k → ∀ j (h1 : j < l.length) (h2 : j < k.length), R l[j] k[j]
  | _, _, .nil, _, h1, _ => absurd h1 (Nat.not_lt_zero _)
  | _, _, .cons a _, 0, _, _ => a
  | _, _, .cons _ b, j + 1, h1, h2 => forall2_get b j (Nat.lt_of_succ_lt_succ h1) (Nat.lt_of_succ_lt_succ h2)
theorem forall2_append {α β : Type} {R : α → β → Prop} : ∀ {l l' : List α} {k k' : List β}, All2 R l k → All2 R l' k' → All2 R (l ++ l') (k ++ k')
  | _, _, _, _, .nil, h => h
  | _, _, _, _, .cons a b, h => .cons a (forall2_append b h)

section
variable {A : Around} {s : Shared} {h₀ : Heap} {L : Addr} {ns tl : List (Addr × Obj)}
theorem Leaf.eqAt {v y : Value} (N : News h₀ L s.heap ns) (hs : ∀ p ∈ tl, p ∈ ns) (h : Leaf tl v y) (hu : A.units < cLine) : SeqAt.EqAt A s v y true := by
  cases h with
  | none => exact SeqAt.EqAt.same _
  | str x t u => have := SeqAt.EqAt.str_str (A := A) (s := s) x t x u; rwa [beq_self_eq_true] at this
  | int n t u => have := SeqAt.EqAt.int_int (A := A) (s := s) n t n u; rwa [beq_self_eq_true] at this
  | @dict a b _ _ _ _ m1 m2 d1 d2 l1 l2 =>
    by_cases e : a = b
    · rw [e]; exact SeqAt.EqAt.same _
    · exact SeqAt.EqAt.of_refs e (one_rc (N _ (hs _ m1)).1 (N _ (hs _ m2)).1 d1 d2 l1 l2 hu)
theorem isList_of {h : Heap} {a : Addr} {xs : Array Value} {n : Nat} (e : h.get? a = some (listOf xs n)) : h.IsList a xs := ⟨_, e, rfl, n, rfl⟩
theorem all_true (n : Nat) : ((List.range n).all fun _ => true) = true := by simp
theorem Ent.eqAt {v y : Value} (N : News h₀ L s.heap ns) (hs : ∀ p ∈ tl, p ∈ ns) (h : Ent tl v y) (hu : A.units + 1 < cLine) : SeqAt.EqAt A s v y true := by
  obtain ⟨a, b, xs, ys, rfl, rfl, m1, m2, f⟩ := h
  by_cases e : a = b
  · rw [e]; exact SeqAt.EqAt.same _
  · have := SeqAt.RcAt.lists (A := A) (e := fun _ => true) (isList_of (N _ (hs _ m1)).1) (isList_of (N _ (hs _ m2)).1) (by simpa using forall2_len f) (by omega)
      (fun j h1 h2 => (forall2_get f j (by simpa using h1) (by simpa using h2)).eqAt N hs (by rw [units_in1]; omega))
    rw [all_true] at this
    exact SeqAt.EqAt.of_refs e this
/-- row != due says False -/
theorem rows_ne {prog : Program} {w : World} {E : Value → Shared → Prop} {Q : Value → Shared → Prop} {row due : Addr} {its jts : List Value} {n k : Nat} (N : News h₀ L s.heap ns) (hs : ∀ p ∈ tl, p ∈ ns) (m1 : (row, listOf its.toArray n) ∈ ns) (m2 : (due, listOf jts.toArray k) ∈ ns)
    (f : All2 (Ent tl) its jts) (hu : A.units + 2 < cLine) (h : Q (.bool false) s) : wpAny (model prog w) A (compareOp .NotEq (.ref row) (.ref due)) Q E s := by
  have := SeqAt.RcNeAt.lists (A := A) (e := fun _ => true) (isList_of (N _ m1).1) (isList_of (N _ m2).1) (by simpa using forall2_len f) (by omega)
    (fun j h1 h2 => (forall2_get f j (by simpa using h1) (by simpa using h2)).eqAt N hs (by rw [units_in1]; omega))
  rw [all_true] at this
  exact this prog w E Q h
end
end Mine
end

/- part F11 -/
section
open PySem PySem.W PyProof.Rows PySem.Calls PySem.Spec
namespace Mine

def tHands : Stmt → List ExceptHandler | .Try _ h _ _ _ => h | _ => []
def codeOf : Option String → Int
  | none => 0
  | some D => if D = "KeyError" then 2 else if D = "ValueError" then 3 else if D = "IndexError" then 4 else 1
theorem ke_base : isSubtype (.type "KeyError") (.type "BaseException") = pure true := by rw [isSubtype_type]; kernel_rfl
theorem ve_base : isSubtype (.type "ValueError") (.type "BaseException") = pure true := by rw [isSubtype_type]; kernel_rfl
theorem ie_base : isSubtype (.type "IndexError") (.type "BaseException") = pure true := by rw [isSubtype_type]; kernel_rfl
theorem ke_nt : isSubtype (.type ((Manifest.find? "KeyError").elim "type" fun x => x.metatype)) (.type "tuple") = pure false := by rw [isSubtype_type]; kernel_rfl
theorem ve_nt : isSubtype (.type ((Manifest.find? "ValueError").elim "type" fun x => x.metatype)) (.type "tuple") = pure false := by rw [isSubtype_type]; kernel_rfl
theorem ie_nt : isSubtype (.type ((Manifest.find? "IndexError").elim "type" fun x => x.metatype)) (.type "tuple") = pure false := by rw [isSubtype_type]; kernel_rfl
theorem resOf_cases {kb ks : Int} {D : String} (h : resOf kb ks = some D) : D = "SystemExit" ∨ D = "KeyError" ∨ D = "ValueError" ∨ D = "IndexError" := by
  unfold resOf at h
  split at h
  · rename_i D' e; cases h; exact excOf_cases e
  · split at h
    · rename_i D' e
      split at h
      · cases h
      · cases h; exact excOf_cases e
    · cases h
theorem MakerIn.mono {fm fa row : Addr} {kb ks : Int} {cM : Addr} {ns ns' : Keep} (X : MakerIn fm fa row kb ks cM ns) (h : ∀ p ∈ ns, p ∈ ns') : MakerIn fm fa row kb ks cM ns' := by
  obtain ⟨cRow, cAs, cBr, cBs, doc, pm, ctv, oRow, oAs, oBr, oBs, tkb, tks, z1, z2, z3, z4, z5, z6, z7, z8, z9⟩ := X
  exact ⟨cRow, cAs, cBr, cBs, doc, pm, ctv, oRow, oAs, oBr, oBs, tkb, tks, h _ z1, h _ z2, z3, h _ z4, z5, h _ z6, z7, h _ z8, z9⟩
theorem CodeM.mono {cM PM : Addr} {ns ns' : Keep} (X : CodeM cM PM ns) (h : ∀ p ∈ ns, p ∈ ns') : CodeM cM PM ns' := by
  obtain ⟨oM, vs, t, a, r⟩ := X
  exact ⟨oM, vs, t, h _ a, r⟩
/-- what the run left in the row -/
def ToldO (num : Int) (o1 : Obj) (keep : Keep) : Prop :=
  (num.fmod 2 = 0 ∧ ∃ t t', o1 = listOf #[.str (Str.ofString "run") t, .str (Str.ofString "a = 1") t'] 0) ∨
  (num.fmod 2 ≠ 0 ∧ ∃ t t' d1 d2 ob1 ob2, o1 = listOf #[.str (Str.ofString "runctx") t, .str (Str.ofString "b = 2") t', .ref d1, .ref d2] 0 ∧ (d1, ob1) ∈ keep ∧ OneD ob1 (Str.ofString "x") num ∧ (d1 == sysModules) = false ∧ (d2, ob2) ∈ keep ∧ OneD ob2 (Str.ofString "y") 3 ∧ (d2 == sysModules) = false)
theorem reorder2 {g h : Heap} {L d1 d2 row PM : Addr} {o1 o2 r p : Obj} {keep : Keep} (N : News g L h ((d2, o2) :: (d1, o1) :: (row, r) :: (PM, p) :: keep)) : News g L h ((row, r) :: (PM, p) :: (d2, o2) :: (d1, o1) :: keep) := News.less N fun q hq => by
  simp only [List.mem_cons] at hq ⊢
  rcases hq with hq | hq | hq | hq | hq <;> simp [hq]
section
variable {w : World} {A A₀ : Around} {base h₀ : Heap} {env : Env} {outer : List Env} {L : Addr} {m mg mb : Str → Option Value} {keep : Keep} {s : Shared} {R : Result → Shared → Prop} {p : Program} {loose : List Str} {mean : ExcName → Option Value}
local macro_rules | `(tactic| k_room) => `(tactic| ((try simp only [depth_under_make, depth_under_kw, depth_in1, depth_deeper, depth_caller]); omega))
local macro_rules | `(tactic| walk_at "mine none") => `(tactic| fail)
local macro_rules | `(tactic| walk_at "mine none") => `(tactic| fail)
local macro_rules | `(tactic| walk_at "mine none") => `(tactic| fail)
local macro_rules | `(tactic| walk_at "getMethod ref") => `(tactic| (k_here; k_dflt (refine' method_inst ?k1 ?k2 ?k3 ?k4 ?k5 ?k6 ?k7 ?_; (case k1 => k_asm); (case k2 => k_asm); (case k3 => k_inst); (case k4 => k_is); (case k5 => k_is); (case k6 => k_is); (case k7 => with_reducible assumption); k_whole)))
local macro_rules | `(tactic| walk_at "exec Try cons cons nil nil") => `(tactic| refine Stop.intro ?_)
local macro_rules | `(tactic| walk_at "call ref") => `(tactic| ((with_reducible show wpAny _ _ (call (Value.ref 35) _) _ _ _); refine Stop.intro ?_))
local macro_rules | `(tactic| walk_at "call ref") => `(tactic| ((with_reducible show wpAny _ _ (call (Value.ref 42) _) _ _ _); refine Stop.intro ?_))

set_option maxRecDepth 100000 in
set_option maxHeartbeats 8000000 in
theorem told_catch {G h₂ : Heap} {e : Addr} {D : String} {ctx : Value} {led : Keep} {Q : Flow → Shared → Prop} {E : Value → Shared → Prop} {tk₂ : Nat} (env : Env) (henv : env = envOf (Str.ofString "_law_told") (sScope dTold) L 77 (.ref 76))
    (XB : (Mine.hd.heap_39 w.params).In base) (TB : Top p loose mean mg mb base) (hD : D = "SystemExit" ∨ D = "KeyError" ∨ D = "ValueError" ∨ D = "IndexError")
    (x : Rz base G (env :: outer) e (.type D) ctx .none led h₂) (B : Below A₀ base outer h₀) (FG : Fr h₀ L G m) (hA : A.frames = some (env :: outer))
    (fin : ∀ g5 h5 tk t, KtsTurn (frs outer) h₀ g5 → Fr g5 L h5 m → News g5 L h5 led → Below A₀ base outer g5 → Q (.ret (.int (codeOf (some D)) t)) { s with heap := h5, toks := tk }) :
    wpAny (model PySem.Challenge.rw_ki0071_01.row.prog w) A (noteFrame (.ref e) env) (fun _ s₂ => wpAny (model PySem.Challenge.rw_ki0071_01.row.prog w) A (setFlight (.ref e) none) (fun _ s₃ => wpAny (model PySem.Challenge.rw_ki0071_01.row.prog w) A (handleBy (.ref e) env (tHands (hdS (sBody dTold)))) Q E s₃) E s₂) E { s with heap := h₂, toks := tk₂ } := by
  revert XB
  k_fill
  intro XB
  have fin2 := fin
  clear fin
  subst henv
  refine Rz.note (s := { s with heap := h₂, toks := tk₂ }) x hA rfl fun h3 y3 => ?_
  refine Rz.flight (s := { s with heap := h3, toks := tk₂ }) (to := none) y3 fun h4 z => ?_
  have z : Rz base G (_ :: outer) e (.type D) ctx .none led h4 := z
  obtain ⟨g4, oe, T4, oT, Tu4, F4, B4, N4, c4, ne4⟩ := z.land2 rfl B FG
  have X4 := XB.keeps B4.stays
  have P4 := TB.keeps B4.stays
  have tyE : ({ s with heap := h4, toks := tk₂ } : Shared).TypeIs (.ref e) D := ⟨oe, (N4 _ (.head _)).1, c4.cls⟩
  have hK9 := kdMark
  dsimp only [dTold, tHands, hdS, tlS, sBody, sArgs, sScope, PySem.Challenge.pw_ki0071_01] at z ⊢
  rcases hD with rfl | rfl | rfl | rfl
  · refine wpAny_handleBy_builtin (X := "SystemExit") (T := "KeyError") (b := false) ke_base ke_nt (by rw [isSubtype_type]; kernel_rfl) ?_
    (k_dflt (refine' name_B F4 X4 (topRead_of P4) ?q31 ?q41 ?q51 ?_; (case q31 => k_is); (case q41 => boot_by_name); (case q51 => decide)))
    refine ⟨rfl, tyE, ?_⟩
    rw [if_neg (by decide)]
    refine wpAny_handleBy_builtin (X := "SystemExit") (T := "ValueError") (b := false) ve_base ve_nt (by rw [isSubtype_type]; kernel_rfl) ?_
    (k_dflt (refine' name_B F4 X4 (topRead_of P4) ?q31 ?q41 ?q51 ?_; (case q31 => k_is); (case q41 => boot_by_name); (case q51 => decide)))
    refine ⟨rfl, tyE, ?_⟩
    rw [if_neg (by decide)]
    refine wpAny_handleBy_builtin (X := "SystemExit") (T := "IndexError") (b := false) ie_base ie_nt (by rw [isSubtype_type]; kernel_rfl) ?_
    (k_dflt (refine' name_B F4 X4 (topRead_of P4) ?q31 ?q41 ?q51 ?_; (case q31 => k_is); (case q41 => boot_by_name); (case q51 => decide)))
    refine ⟨rfl, tyE, ?_⟩
    rw [if_neg (by decide)]
    refine wpAny_handleBy_builtin (X := "SystemExit") (T := "SystemExit") (b := true) se_base se_nt (by rw [isSubtype_type]; kernel_rfl) ?_
    (k_dflt (refine' name_B F4 X4 (topRead_of P4) ?q31 ?q41 ?q51 ?_; (case q31 => k_is); (case q41 => boot_by_name); (case q51 => decide)))
    refine ⟨rfl, tyE, ?_⟩
    rw [if_pos (by decide)]
    refine Rz.flight (s := { s with heap := h4, toks := tk₂ }) (to := none) z fun h5 z5 => ?_
    have z5 : Rz base G (_ :: outer) e (.type "SystemExit") ctx .none led h5 := z5
    obtain ⟨g5, oe5, T5, oT5, Tu5, F5, B5, N5, c5, ne5⟩ := z5.land2 rfl B FG
    have N6 : News g5 L h5 led := News.less N5 fun _ q => .tail _ (.tail _ q)
    have X5 := XB.keeps B5.stays
    have P5 := TB.keeps B5.stays
    clear F4 B4 N4 X4 P4 tyE c4 ne4 Tu4 N5 y3 x z5 z
    k_steps
    first
    | exact fin2 g5 h5 _ _ Tu5 F5 N6 B5
    | (refine fin2 _ _ _ _ Tu5 ?_ ?_ B5 <;> assumption)
  · refine wpAny_handleBy_builtin (X := "KeyError") (T := "KeyError") (b := true) ke_base ke_nt (by rw [isSubtype_type]; kernel_rfl) ?_
    (k_dflt (refine' name_B F4 X4 (topRead_of P4) ?q31 ?q41 ?q51 ?_; (case q31 => k_is); (case q41 => boot_by_name); (case q51 => decide)))
    refine ⟨rfl, tyE, ?_⟩
    rw [if_pos (by decide)]
    refine Rz.flight (s := { s with heap := h4, toks := tk₂ }) (to := none) z fun h5 z5 => ?_
    have z5 : Rz base G (_ :: outer) e (.type "KeyError") ctx .none led h5 := z5
    obtain ⟨g5, oe5, T5, oT5, Tu5, F5, B5, N5, c5, ne5⟩ := z5.land2 rfl B FG
    have N6 : News g5 L h5 led := News.less N5 fun _ q => .tail _ (.tail _ q)
    have X5 := XB.keeps B5.stays
    have P5 := TB.keeps B5.stays
    clear F4 B4 N4 X4 P4 tyE c4 ne4 Tu4 N5 y3 x z5 z
    k_steps
    first
    | exact fin2 g5 h5 _ _ Tu5 F5 N6 B5
    | (refine fin2 _ _ _ _ Tu5 ?_ ?_ B5 <;> assumption)
  · refine wpAny_handleBy_builtin (X := "ValueError") (T := "KeyError") (b := false) ke_base ke_nt (by rw [isSubtype_type]; kernel_rfl) ?_
    (k_dflt (refine' name_B F4 X4 (topRead_of P4) ?q31 ?q41 ?q51 ?_; (case q31 => k_is); (case q41 => boot_by_name); (case q51 => decide)))
    refine ⟨rfl, tyE, ?_⟩
    rw [if_neg (by decide)]
    refine wpAny_handleBy_builtin (X := "ValueError") (T := "ValueError") (b := true) ve_base ve_nt (by rw [isSubtype_type]; kernel_rfl) ?_
    (k_dflt (refine' name_B F4 X4 (topRead_of P4) ?q31 ?q41 ?q51 ?_; (case q31 => k_is); (case q41 => boot_by_name); (case q51 => decide)))
    refine ⟨rfl, tyE, ?_⟩
    rw [if_pos (by decide)]
    refine Rz.flight (s := { s with heap := h4, toks := tk₂ }) (to := none) z fun h5 z5 => ?_
    have z5 : Rz base G (_ :: outer) e (.type "ValueError") ctx .none led h5 := z5
    obtain ⟨g5, oe5, T5, oT5, Tu5, F5, B5, N5, c5, ne5⟩ := z5.land2 rfl B FG
    have N6 : News g5 L h5 led := News.less N5 fun _ q => .tail _ (.tail _ q)
    have X5 := XB.keeps B5.stays
    have P5 := TB.keeps B5.stays
    clear F4 B4 N4 X4 P4 tyE c4 ne4 Tu4 N5 y3 x z5 z
    k_steps
    first
    | exact fin2 g5 h5 _ _ Tu5 F5 N6 B5
    | (refine fin2 _ _ _ _ Tu5 ?_ ?_ B5 <;> assumption)
  · refine wpAny_handleBy_builtin (X := "IndexError") (T := "KeyError") (b := false) ke_base ke_nt (by rw [isSubtype_type]; kernel_rfl) ?_
    (k_dflt (refine' name_B F4 X4 (topRead_of P4) ?q31 ?q41 ?q51 ?_; (case q31 => k_is); (case q41 => boot_by_name); (case q51 => decide)))
    refine ⟨rfl, tyE, ?_⟩
    rw [if_neg (by decide)]
    refine wpAny_handleBy_builtin (X := "IndexError") (T := "ValueError") (b := false) ve_base ve_nt (by rw [isSubtype_type]; kernel_rfl) ?_
    (k_dflt (refine' name_B F4 X4 (topRead_of P4) ?q31 ?q41 ?q51 ?_; (case q31 => k_is); (case q41 => boot_by_name); (case q51 => decide)))
    refine ⟨rfl, tyE, ?_⟩
    rw [if_neg (by decide)]
    refine wpAny_handleBy_builtin (X := "IndexError") (T := "IndexError") (b := true) ie_base ie_nt (by rw [isSubtype_type]; kernel_rfl) ?_
    (k_dflt (refine' name_B F4 X4 (topRead_of P4) ?q31 ?q41 ?q51 ?_; (case q31 => k_is); (case q41 => boot_by_name); (case q51 => decide)))
    refine ⟨rfl, tyE, ?_⟩
    rw [if_pos (by decide)]
    refine Rz.flight (s := { s with heap := h4, toks := tk₂ }) (to := none) z fun h5 z5 => ?_
    have z5 : Rz base G (_ :: outer) e (.type "IndexError") ctx .none led h5 := z5
    obtain ⟨g5, oe5, T5, oT5, Tu5, F5, B5, N5, c5, ne5⟩ := z5.land2 rfl B FG
    have N6 : News g5 L h5 led := News.less N5 fun _ q => .tail _ (.tail _ q)
    have X5 := XB.keeps B5.stays
    have P5 := TB.keeps B5.stays
    clear F4 B4 N4 X4 P4 tyE c4 ne4 Tu4 N5 y3 x z5 z
    k_steps
    first
    | exact fin2 g5 h5 _ _ Tu5 F5 N6 B5
    | (refine fin2 _ _ _ _ Tu5 ?_ ?_ B5 <;> assumption)
end
end Mine
end

/- part F12 -/
section
open PySem PySem.W PyProof.Rows PySem.Calls PySem.Spec
namespace Mine

theorem stayX {sh g g1 h' : Heap} {L' : Addr} {m' : Str → Option Value} {fs l : List Addr} (a : ∀ b o, sh.get? b = some o → b ∉ l → g.get? b = some o) (T : KtsTurn fs g g1) (F : Fr g1 L' h' m') : ∀ b o, sh.get? b = some o → b ∉ l → b ∉ fs → h'.get? b = some o :=
  fun b o e1 e2 e3 => F.keep b o (T.other b o (a b o e1 e2) e3)
theorem newX {sh g g1 h' : Heap} {L' : Addr} {ns : List (Addr × Obj)} {fs l : List Addr} (a : ∀ b o, sh.get? b = some o → b ∉ l → g.get? b = some o) (T : KtsTurn fs g g1) (N : News g1 L' h' ns) : ∀ q ∈ ns, ∀ o, sh.get? q.1 = some o → q.1 ∈ l := fun q hq o e => by
  by_cases hm : q.1 ∈ l
  · exact hm
  · obtain ⟨sl, hs⟩ := T.up (a _ _ e hm)
    rw [(N q hq).2.2] at hs
    cases hs
section
variable {w : World} {A A₀ : Around} {base h₀ : Heap} {env : Env} {outer : List Env} {L : Addr} {m mg mb : Str → Option Value} {keep : Keep} {s : Shared} {R : Result → Shared → Prop} {p : Program} {loose : List Str} {mean : ExcName → Option Value}
local macro_rules | `(tactic| k_room) => `(tactic| ((try simp only [depth_under_make, depth_under_kw, depth_in1, depth_deeper, depth_caller]); omega))
local macro_rules | `(tactic| walk_at "mine none") => `(tactic| fail)
local macro_rules | `(tactic| walk_at "mine none") => `(tactic| fail)
local macro_rules | `(tactic| walk_at "mine none") => `(tactic| fail)
local macro_rules | `(tactic| walk_at "mine none") => `(tactic| fail)
local macro_rules | `(tactic| walk_at "getMethod ref") => `(tactic| (k_here; k_dflt (refine' method_inst ?k1 ?k2 ?k3 ?k4 ?k5 ?k6 ?k7 ?_; (case k1 => k_asm); (case k2 => k_asm); (case k3 => k_inst); (case k4 => k_is); (case k5 => k_is); (case k6 => k_is); (case k7 => with_reducible assumption); k_whole)))
local macro_rules | `(tactic| walk_at "exec Try cons cons nil nil") => `(tactic| refine Stop.intro ?_)
local macro_rules | `(tactic| walk_at "call ref") => `(tactic| ((with_reducible show wpAny _ _ (call (Value.ref 35) _) _ _ _); refine Stop.intro ?_))
local macro_rules | `(tactic| walk_at "call ref") => `(tactic| ((with_reducible show wpAny _ _ (call (Value.ref 42) _) _ _ _); refine Stop.intro ?_))

set_option maxRecDepth 100000 in
set_option maxHeartbeats 8000000 in
theorem told_spec {row fm fa cM PM u : Addr} {kb ks : Int} {its tab : Array Value} {n : Nat} (C : CodeHd base 69 65) (Z : MakerIn fm fa row kb ks cM keep) (ZC : CodeM cM PM keep) (K : AskedIn fa row (fun _ => keep)) (UI : UtilsIn u fm keep) (S : St row PM tab keep) (hz : its.size + 3 ≤ 16777216)
    (XB : (Mine.hd.heap_39 w.params).In base) (TB : Top p loose mean mg mb base)
    (B : Below A₀ base outer h₀) (F : Fr h₀ L s.heap m) (X : (Mine.hd.heap_39 w.params).In h₀) (N : News h₀ L s.heap (Led row PM tab its n keep)) (T : Top p loose mean mg mb h₀)
    (hA : A.frames = some (env :: outer)) (hf : env.frame = some L) (hke : env.scope.kind = .function) (hroom : A.depth + 100 < recursionLimit) (hh : A.handled = none) {num : Int} {tn : Tok} {nm : Value} (hfn : FnOk nm)
    (ok : ∀ h₁ h' tk t tab' keep' mk tm th1 o1 th2 o2, KtsTurn (frs outer) h₀ h₁ → Fr h₁ L h' m → News h₁ L h' (Led row PM tab' (((its.push (.ref mk)).push (.ref th1)).push (.ref th2)) (n + 3) ((th2, o2) :: (th1, o1) :: keep')) → Below A₀ base outer h₁ → (∀ q ∈ keep, q ∈ keep') → St row PM tab' ((th2, o2) :: (th1, o1) :: keep') → tab' ≠ #[] →
      (∀ b o, s.heap.get? b = some o → b ∉ (Led row PM tab its n keep).map (·.1) → b ∉ frs (env :: outer) → h'.get? b = some o) → (∀ q ∈ Led row PM tab' (((its.push (.ref mk)).push (.ref th1)).push (.ref th2)) (n + 3) ((th2, o2) :: (th1, o1) :: keep'), ∀ o, s.heap.get? q.1 = some o → q.1 ∈ (Led row PM tab its n keep).map (·.1)) →
      (mk, listOf #[.str (Str.ofString "made") tm] 0) ∈ keep' → ToldO num o1 keep' → ShowO nm (.int num tn) o2 → R (.ok (.ret (.int (codeOf (resOf kb ks)) t))) { s with heap := h', toks := tk }) :
    codeAny (model PySem.Challenge.rw_ki0071_01.row.prog w) A (.call (.ref 77) ⟨[.ref u, .int num tn, nm], []⟩) R s := by
  revert XB X
  k_fill
  intro XB X
  dsimp only [Led] at N
  have ok2 := ok
  clear ok
  have UI2 := UI
  obtain ⟨du, eu, ku, u1, u2, u3, u4, u5, u6⟩ := UI
  refine' enterK ?k1 ?k2 ?k3 ?k4 ?k5 ?kA ?kF ?kK ?k6 ?k7 ?k8 ?k9 ?kB ?_ ?c2 ?c3 ?c4 ?c5
  (case kA => exact hA); (case kF => exact hf); (case kK => exact hke); (case k1 => k_asm); (case k2 => k_asm); (case k3 => k_asm); (case k4 => k_asm); (case k5 => k_asm); (case k6 => k_is); (case k7 => k_is); (case k8 => k_room); (case k9 => exact BindsTo.of_eq rfl); (case c5 => decide); (case kB => exact locs rfl); (case c2 => exact rfl); (case c3 => exact rfl); (case c4 => exact rfl)
  intro g' L' h' FG' F' N' B' X' T' lN
  (try dsimp only)
  (try k_fold)
  have hK9 := kdMark
  k_steps
  refine Stop.of (wpAny_Try_except ?_)
  k_steps
  · refine Stop.of ?_
    rename num.fmod 2 = 0 => hpar
    rename Fr g' L' _ _ => F2
    rename News g' L' _ _ => N2
    refine wpAny_call (run_spec C Z ZC K UI2 S hz XB TB B' F2 X' N2 T' (Around.frames_deeper hA) rfl rfl ?hr hh hfn ?ok ?er)
    case hr => k_room
    case ok =>
      intro hres h₁ h2 tk2 tab' keep' mk tm th1 o1 th2 o2 T1 F3 N3 B3 hk3 S3 hne3 hmk r1 r2
      (obtain ⟨t1, r1q⟩ := r1)
      have X3 := XB.keeps B3.stays
      have P3 := TB.keeps B3.stays
      clear B' X' T'
      (try dsimp only)
      k_steps
      rename Fr h₁ L' _ _ => F9
      rename News h₁ L' _ _ => N9
      obtain ⟨h₁', Ta, Fa, Na, Ba⟩ := leaveT FG' B hf T1 F9 N9
      have fin := fun tk t => ok2 h₁' _ tk t tab' keep' mk tm th1 o1 th2 o2 Ta Fa Na Ba hk3 S3 hne3 (stayX lN.2 T1 F9) (newX lN.2 T1 N9) hmk (.inl ⟨hpar, _, _, r1q⟩) r2
      simp only [hres] at fin
      exact fin _ _
    case er =>
      intro D hD h₁ G e ctx h2 tk2 tab' keep' mk tm th1 o1 th2 o2 T1 FG3 x3 B3 hk3 S3 hne3 hmk r1 r2
      (obtain ⟨t1, r1q⟩ := r1)
      (try dsimp only)
      refine told_catch (s := { s with heap := h2, toks := tk2 }) _ rfl XB TB (resOf_cases hD) x3 B3 FG3 (Around.frames_deeper hA) fun g5 h5 tk5 t5 Tu5 F5 N5 B5 => ?_
      obtain ⟨h₁', Ta, Fa, Na, Ba⟩ := leaveT FG' B hf (T1.trans Tu5) F5 N5
      have fin := ok2 h₁' h5 tk5 t5 tab' keep' mk tm th1 o1 th2 o2 Ta Fa Na Ba hk3 S3 hne3 (stayX lN.2 (T1.trans Tu5) F5) (newX lN.2 (T1.trans Tu5) N5) hmk (.inl ⟨hpar, _, _, r1q⟩) r2
      rw [hD] at fin
      (try k_unfold)
      exact fin
  · refine Stop.of ?_
    rename num.fmod 2 ≠ 0 => hpar
    rename Fr g' L' _ _ => F2
    rename Obj.IsDictOf _ _ _ => hdY
    have e2 := OneD.of hdY
    clear hdY
    rename Obj.IsDictOf _ _ _ => hdX
    have e1 := OneD.of hdX
    clear hdX
    rename (_ == sysModules) = false => loY
    revert loY
    rename (_ == sysModules) = false => loX
    intro loY
    rename News g' L' _ ((_, _) :: (_, _) :: (row, _) :: _) => N2
    rename ((_ : Addr) < _ ∧ row < _ ∧ _) => l2
    rename (row < _ ∧ _) => l1
    have N3 := reorder2 N2
    refine wpAny_call (runctx_spec C (Z.mono fun _ q => .tail _ (.tail _ q)) (ZC.mono fun _ q => .tail _ (.tail _ q)) (K.mono fun _ _ q => .tail _ (.tail _ q)) (UI2.mono fun _ q => .tail _ (.tail _ q)) ((S.cons (p := (_, _)) (Nat.ne_of_gt l1.1) (Nat.ne_of_gt l1.2.1)).cons (p := (_, _)) (Nat.ne_of_gt l2.2.1) (Nat.ne_of_gt l2.2.2.1)) hz XB TB B' F2 X' N3 T' (Around.frames_deeper hA) rfl rfl ?hr hh hfn ?ok ?er)
    case hr => k_room
    case ok =>
      intro hres h₁ h2 tk2 tab' keep' mk tm th1 o1 th2 o2 T1 F3 N3 B3 hk3 S3 hne3 hmk r1 r2
      (obtain ⟨t1, r1q⟩ := r1)
      have X3 := XB.keeps B3.stays
      have P3 := TB.keeps B3.stays
      clear B' X' T'
      (try dsimp only)
      k_steps
      rename Fr h₁ L' _ _ => F9
      rename News h₁ L' _ _ => N9
      obtain ⟨h₁', Ta, Fa, Na, Ba⟩ := leaveT FG' B hf T1 F9 N9
      have fin := fun tk t => ok2 h₁' _ tk t tab' keep' mk tm th1 o1 th2 o2 Ta Fa Na Ba (fun q hq => hk3 q (.tail _ (.tail _ hq))) S3 hne3 (stayX lN.2 T1 F9) (newX lN.2 T1 N9) hmk (.inr ⟨hpar, _, _, _, _, _, _, r1q, hk3 _ (.tail _ (.head _)), e1, loX, hk3 _ (.head _), e2, loY⟩) r2
      simp only [hres] at fin
      exact fin _ _
    case er =>
      intro D hD h₁ G e ctx h2 tk2 tab' keep' mk tm th1 o1 th2 o2 T1 FG3 x3 B3 hk3 S3 hne3 hmk r1 r2
      (obtain ⟨t1, r1q⟩ := r1)
      (try dsimp only)
      refine told_catch (s := { s with heap := h2, toks := tk2 }) _ rfl XB TB (resOf_cases hD) x3 B3 FG3 (Around.frames_deeper hA) fun g5 h5 tk5 t5 Tu5 F5 N5 B5 => ?_
      obtain ⟨h₁', Ta, Fa, Na, Ba⟩ := leaveT FG' B hf (T1.trans Tu5) F5 N5
      have fin := ok2 h₁' h5 tk5 t5 tab' keep' mk tm th1 o1 th2 o2 Ta Fa Na Ba (fun q hq => hk3 q (.tail _ (.tail _ hq))) S3 hne3 (stayX lN.2 (T1.trans Tu5) F5) (newX lN.2 (T1.trans Tu5) N5) hmk (.inr ⟨hpar, _, _, _, _, _, _, r1q, hk3 _ (.tail _ (.head _)), e1, loX, hk3 _ (.head _), e2, loY⟩) r2
      rw [hD] at fin
      (try k_unfold)
      exact fin
end
end Mine
end

/- part G1 -/
section
open PySem PySem.W PyProof.Rows PySem.Calls PySem.Spec
namespace Mine

def fBody : Stmt → List Stmt | .For _ _ b _ _ => b | _ => []
def dLaw : Stmt := hdS (tlS (tlS (tlS (tlS (tlS (tlS PySem.Challenge.pw_ki0071_01.main.body))))))
def bStmts : List Stmt := fBody (hdS (tlS (tlS (sBody dLaw))))
abbrev lawEnv (L fa : Addr) (cd : Value) : Env := envOf (Str.ofString "law") (sScope dLaw) L fa cd
abbrev put (x : Str) (v : Value) (m : Str → Option Value) : Str → Option Value := fun y => if y = x then some v else m y
theorem put_self (x : Str) (v : Value) (m : Str → Option Value) : put x v m x = some v := if_pos rfl
theorem put_ne {x y : Str} {v : Value} {m : Str → Option Value} {r : Option Value} (h : y ≠ x) (e : m y = r) : put x v m y = r := (if_neg h).trans e

section
variable {prog : Program} {w : World} {A : Around} {E : Value → Shared → Prop} {s : Shared} {h₀ : Heap} {L l : Addr}
theorem item3 {value slice : PySem.Expr} {news : List (Addr × Obj)} {a b c : Value} {n : Nat} {k : Int} {u : Tok} {Q : Value → Shared → Prop} (N : News h₀ L s.heap news) (hm : (l, listOf #[a, b, c] n) ∈ news)
    (h0 : 0 ≤ k) (h1 : k < 3) (h : ∀ v, v = a ∨ v = b ∨ v = c → Q v s)
    (hs : subscripted slice false (.ref l) (.int k u) = operate [.ref l, .int k u] (getItem (.ref l) (.int k u)) := by with_unfolding_all rfl) :
    wpAny (model prog w) A (subscriptTail value slice (.ref l) (.int k u)) Q E s := by
  have hl : s.heap.IsList l #[a, b, c] := isList_of (N _ hm).1
  have hk : k = 0 ∨ k = 1 ∨ k = 2 := by omega
  refine tail_any hl.typeIs slot_list_getitem.lookup ?_ hs
  rcases hk with rfl | rfl | rfl
  · exact wpAny_getItem_list hl (by decide) (by decide) (by rfl) (h _ (.inl rfl))
  · exact wpAny_getItem_list hl (by decide) (by decide) (by rfl) (h _ (.inr (.inl rfl)))
  · exact wpAny_getItem_list hl (by decide) (by decide) (by rfl) (h _ (.inr (.inr rfl)))
end
theorem code_a {kb ks : Int} (h : ks = 0 ∨ ks = 4) (h0 : ks ≠ 0) : ks = codeOf (resOf kb ks) := by
  rcases h with rfl | rfl
  · exact absurd rfl h0
  · simp [resOf, excOf, codeOf]
theorem code_b {kb ks : Int} (h : ks = 0) (h1 : kb = 1) : 0 = codeOf (resOf kb ks) := by
  subst h h1
  simp [resOf, excOf, codeOf]
theorem code_c {kb ks : Int} (h : ks = 0) (hb : kb = 0 ∨ kb = 1 ∨ kb = 2 ∨ kb = 3) (h1 : kb ≠ 1) : kb = codeOf (resOf kb ks) := by
  subst h
  rcases hb with rfl | rfl | rfl | rfl
  · simp [resOf, excOf, codeOf]
  · exact absurd rfl h1
  · simp [resOf, excOf, codeOf]
  · simp [resOf, excOf, codeOf]
theorem mod3 (x : Int) : 0 ≤ x.fmod 3 ∧ x.fmod 3 < 3 := by
  rw [Int.fmod_eq_emod_of_nonneg _ (by decide)]; omega
section
variable {w : World} {A A₀ : Around} {base h₀ : Heap} {outer : List Env} {L fa : Addr} {cd : Value} {m mg mb : Str → Option Value} {keep : Keep} {s : Shared} {p : Program} {loose : List Str} {mean : ExcName → Option Value} {Q : Flow → Shared → Prop} {E : Value → Shared → Prop}
local macro_rules | `(tactic| k_room) => `(tactic| ((try simp only [depth_under_make, depth_under_kw, depth_in1, depth_deeper, depth_caller]); omega))
local macro_rules | `(tactic| walk_at "mine none") => `(tactic| fail)
local macro_rules | `(tactic| walk_at "mine none") => `(tactic| fail)
local macro_rules | `(tactic| walk_at "mine none") => `(tactic| fail)
local macro_rules | `(tactic| walk_at "mine none") => `(tactic| fail)
local macro_rules | `(tactic| walk_at "mine none") => `(tactic| fail)
local macro_rules | `(tactic| walk_at "mine none") => `(tactic| fail)
local macro_rules | `(tactic| walk_at "mine none") => `(tactic| fail)
local macro_rules | `(tactic| walk_at "mine none") => `(tactic| fail)
local macro_rules | `(tactic| walk_at "eval Name") => `(tactic| (k_here; k_dflt (refine' ld ?k1 ?k2 ?_; (case k1 => k_asm); (case k2 => first | with_reducible assumption | exact if_pos rfl); k_whole)))

set_option maxRecDepth 100000 in
set_option maxHeartbeats 8000000 in
theorem s1_spec {news : Keep} (B : Below A₀ base outer h₀) (F : Fr h₀ L s.heap m) (X : (Mine.hd.heap_39 w.params).In h₀) (N : News h₀ L s.heap news) (T : Top p loose mean mg mb h₀) (hA : A.frames = some (lawEnv L fa cd :: outer)) (hroom : A.depth + 10 < recursionLimit) {num : Int} {tn : Tok} (mn : m (Str.ofString "number") = some (.int num tn))
    (ok : ∀ h' tk t, Fr h₀ L h' (put (Str.ofString "bad_run") (.int ((num.fdiv 2).fmod 4) t) m) → News h₀ L h' news → Q .next { s with heap := h', toks := tk }) :
    wpAny (model PySem.Challenge.rw_ki0071_01.row.prog w) A (exec (hdS (bStmts)) (lawEnv L fa cd)) Q E s := by
  revert X
  k_fill
  intro X
  have ok2 := ok
  clear ok
  have hK9 := kdMark
  dsimp only [lawEnv, dLaw, bStmts, fBody, hdS, tlS, sBody, sArgs, sScope, PySem.Challenge.pw_ki0071_01] at hA ⊢
  k_steps
  exact ok2 _ _ _ (by assumption) (by assumption)

set_option maxRecDepth 100000 in
set_option maxHeartbeats 8000000 in
theorem s2_spec {news : Keep} (B : Below A₀ base outer h₀) (F : Fr h₀ L s.heap m) (X : (Mine.hd.heap_39 w.params).In h₀) (N : News h₀ L s.heap news) (T : Top p loose mean mg mb h₀) (hA : A.frames = some (lawEnv L fa cd :: outer)) (hroom : A.depth + 10 < recursionLimit) {num : Int} {tn : Tok} (mn : m (Str.ofString "number") = some (.int num tn))
    (ok : ∀ h' tk t, Fr h₀ L h' (put (Str.ofString "bad_show") (.int ((num.fdiv 8).fmod 2 * 4) t) m) → News h₀ L h' news → Q .next { s with heap := h', toks := tk }) :
    wpAny (model PySem.Challenge.rw_ki0071_01.row.prog w) A (exec (hdS (tlS bStmts)) (lawEnv L fa cd)) Q E s := by
  revert X
  k_fill
  intro X
  have ok2 := ok
  clear ok
  have hK9 := kdMark
  dsimp only [lawEnv, dLaw, bStmts, fBody, hdS, tlS, sBody, sArgs, sScope, PySem.Challenge.pw_ki0071_01] at hA ⊢
  k_steps
  exact ok2 _ _ _ (by assumption) (by assumption)

set_option maxRecDepth 100000 in
set_option maxHeartbeats 8000000 in
theorem s3_spec {news : Keep} (B : Below A₀ base outer h₀) (F : Fr h₀ L s.heap m) (X : (Mine.hd.heap_39 w.params).In h₀) (N : News h₀ L s.heap news) (T : Top p loose mean mg mb h₀) (hA : A.frames = some (lawEnv L fa cd :: outer)) (hroom : A.depth + 10 < recursionLimit) {num : Int} {tn : Tok} (mn : m (Str.ofString "number") = some (.int num tn))
    (ok : ∀ h' tk nm, FnOk nm → Fr h₀ L h' (put (Str.ofString "name") nm m) → News h₀ L h' news → Q .next { s with heap := h', toks := tk }) :
    wpAny (model PySem.Challenge.rw_ki0071_01.row.prog w) A (exec (hdS (tlS (tlS bStmts))) (lawEnv L fa cd)) Q E s := by
  revert X
  k_fill
  intro X
  have ok2 := ok
  clear ok
  have hK9 := kdMark
  dsimp only [lawEnv, dLaw, bStmts, fBody, hdS, tlS, sBody, sArgs, sScope, PySem.Challenge.pw_ki0071_01] at hA ⊢
  k_steps
  rename News h₀ L _ _ => N2
  refine item3 N2 (.head _) (mod3 _).1 (mod3 _).2 fun v hv => ?_
  have hfn : FnOk v := by
    rcases hv with rfl | rfl | rfl
    · exact .inl rfl
    · exact .inr ⟨_, _, rfl⟩
    · exact .inr ⟨_, _, rfl⟩
  k_steps
  exact ok2 _ _ _ hfn (by assumption) (News.less (by assumption) fun _ q => .tail _ q)

set_option maxRecDepth 100000 in
set_option maxHeartbeats 8000000 in
theorem s7_spec {news : Keep} (B : Below A₀ base outer h₀) (F : Fr h₀ L s.heap m) (X : (Mine.hd.heap_39 w.params).In h₀) (N : News h₀ L s.heap news) (T : Top p loose mean mg mb h₀) (hA : A.frames = some (lawEnv L fa cd :: outer)) (hroom : A.depth + 10 < recursionLimit) {kb ks : Int} {tb ts : Tok} (hb : kb = 0 ∨ kb = 1 ∨ kb = 2 ∨ kb = 3) (hs : ks = 0 ∨ ks = 4) (mb : m (Str.ofString "bad_run") = some (.int kb tb)) (ms : m (Str.ofString "bad_show") = some (.int ks ts))
    (ok : ∀ h' tk v t, v = codeOf (resOf kb ks) → Fr h₀ L h' (put (Str.ofString "out") (.int v t) m) → News h₀ L h' news → Q .next { s with heap := h', toks := tk }) :
    wpAny (model PySem.Challenge.rw_ki0071_01.row.prog w) A (exec (hdS (tlS (tlS (tlS (tlS (tlS (tlS bStmts))))))) (lawEnv L fa cd)) Q E s := by
  revert X
  k_fill
  intro X
  have ok2 := ok
  clear ok
  have hK9 := kdMark
  dsimp only [lawEnv, dLaw, bStmts, fBody, hdS, tlS, sBody, sArgs, sScope, PySem.Challenge.pw_ki0071_01] at hA ⊢
  k_steps
  all_goals first
    | exact ok2 _ _ _ _ (code_a hs (by assumption)) (by assumption) (by assumption)
    | exact ok2 _ _ _ _ (code_b (by assumption) (by assumption)) (by assumption) (by assumption)
    | exact ok2 _ _ _ _ (code_c (by assumption) hb (by assumption)) (by assumption) (by assumption)
end
end Mine
end

/- part E10 -/
section
open PySem PySem.W PyProof.Rows PySem.Calls PySem.Spec
set_option maxRecDepth 100000
namespace Mine
section
variable {prog : Program} {w : World} {A : Around} {E : Value → Shared → Prop} {s : Shared} {h₀ : Heap} {L D b : Addr} {m : Str → Option Value} {news news' : List (Addr × Obj)} {its its2 : Array Value} {n n2 : Nat} {l : List Value}
theorem seq_list_iadd : seqSlot? (.type "list") (dunderI "add") = pure (some (.builtin "list.__iadd__")) := PySem.seqSlot_of PySem.F.slot_list_iadd.lookup (by decide +kernel)
theorem noFillI : fillsInplaceSlot (.type "list") "add" (Operator.Add == .Add) = pure false := by
  unfold fillsInplaceSlot
  show (typeLookup (.type "list") (dunderI "add") >>= fun fi => pure (fi.isSome && !isSeqSlot fi)) = pure false
  rw [PySem.F.slot_list_iadd.lookup, pure_bind]
  rfl
/-- x += y, both lists of the ledger -/
theorem iaddL {Q : Value → Shared → Prop} (F : Fr h₀ L s.heap m) (N : News h₀ L s.heap news) (hb : (b, listOf its2 n2) ∈ news) (e : its.toList ++ its2.toList = l) (hne : its2.toList.length ≠ 0)
    (U : Upd D (listOf its n) (listOf l.toArray (n + 1)) news news') (hz : its.size + its2.size ≤ 16777216)
    (h : ∀ h', Fr h₀ L h' m → News h₀ L h' news' → Q (.ref D) { s with heap := h' }) : wpAny (model prog w) A (inplaceOp .Add (.ref D) (.ref b)) Q E s := by
  obtain ⟨pre, post, rfl, rfl, a, c⟩ := U.split
  have z := N (D, listOf its n) (List.mem_append.mpr (.inr (.head _)))
  have tD : s.TypeIs (.ref D) "list" := ⟨_, z.1, rfl⟩
  have tb : s.TypeIs (.ref b) "list" := ⟨_, (N _ hb).1, rfl⟩
  unfold inplaceOp
  refine wpAny_holding ?_
  refine wpAny_bind (wpAny_typeOf tD (wpAny_bind (wpAny_of_eq noFillI ?_)))
  show wpAny _ A (if false = true then _ else _) Q E s
  rw [if_neg Bool.false_ne_true]
  refine wpAny_bind (binaryOp1_none (nm := "add") tD tb noFill_list_add ?_)
  refine wpAny_bind (wpAny_of_eq seq_list_iadd ?_)
  refine wpAny_bind (wpAny_rule ?_)
  refine call_meets PySem.F.slot_list_iadd tD PySem.F.entry_list_iadd (PySem.F.args_list_iadd_2 _ _) (PySem.AutoSeq1.list___iadd___list_list_0 D its n b its2 n2 ?_ ?_ ?_) ⟨z.1, (N _ hb).1, h _ (F.change (Heap.SameBut.update ..) z.2.1 z.2.2) (kl_turn _ N a c ?_ ?_)⟩
  · intro q
    rw [Bool.and_eq_true] at q
    have := of_decide_eq_true q.2
    have hl : sizeLine = 16777216 := by decide
    omega
  · have hl : sizeLine = 16777216 := by decide
    omega
  · have hl : sizeLine = 16777216 := by decide
    omega
  · subst e
    apply Array.toList_inj.mp
    simp
  · subst e
    simp at hne ⊢
    exact hne
theorem iaddA {js ks : List Value} {Q : Value → Shared → Prop} (F : Fr h₀ L s.heap m) (N : News h₀ L s.heap news) (hb : (b, listOf ks.toArray n2) ∈ news) (hne : ks.length ≠ 0)
    (U : Upd D (listOf js.toArray n) (listOf (js ++ ks).toArray (n + 1)) news news') (hz : js.length + ks.length ≤ 16777216)
    (h : ∀ h', Fr h₀ L h' m → News h₀ L h' news' → Q (.ref D) { s with heap := h' }) : wpAny (model prog w) A (inplaceOp .Add (.ref D) (.ref b)) Q E s :=
  iaddL F N hb (by simp) (by simpa using hne) U (by simpa using hz) h
end
end Mine
end

/- part G2 -/
section
open PySem PySem.W PyProof.Rows PySem.Calls PySem.Spec
namespace Mine


theorem reorderMid {g h : Heap} {L : Addr} {a b : Keep} {x : Addr × Obj} (N : News g L h (a ++ x :: b)) : News g L h (x :: (a ++ b)) := News.less N fun q hq => by
  simp only [List.mem_cons, List.mem_append] at hq ⊢
  rcases hq with hq | hq | hq <;> simp [hq]
section
variable {w : World} {A A₀ : Around} {base h₀ : Heap} {outer : List Env} {L fa : Addr} {cd : Value} {m mg mb : Str → Option Value} {keep : Keep} {s : Shared} {p : Program} {loose : List Str} {mean : ExcName → Option Value} {Q : Flow → Shared → Prop} {E : Value → Shared → Prop}
local macro_rules | `(tactic| k_room) => `(tactic| ((try simp only [depth_under_make, depth_under_kw, depth_in1, depth_deeper, depth_caller]); omega))
local macro_rules | `(tactic| walk_at "mine none") => `(tactic| fail)
local macro_rules | `(tactic| walk_at "mine none") => `(tactic| fail)
local macro_rules | `(tactic| walk_at "mine none") => `(tactic| fail)
local macro_rules | `(tactic| walk_at "mine none") => `(tactic| fail)
local macro_rules | `(tactic| walk_at "mine none") => `(tactic| fail)
local macro_rules | `(tactic| walk_at "mine none") => `(tactic| fail)
local macro_rules | `(tactic| walk_at "mine none") => `(tactic| fail)
local macro_rules | `(tactic| walk_at "eval Name") => `(tactic| (k_here; k_dflt (refine' ld ?k1 ?k2 ?_; (case k1 => k_asm); (case k2 => first | with_reducible assumption | exact if_pos rfl); k_whole)))
local macro_rules | `(tactic| walk_at "loadName") => `(tactic| (k_here; k_dflt (refine' ldn ?k1 ?k2 ?_; (case k1 => k_asm); (case k2 => first | with_reducible assumption | exact if_pos rfl); k_whole)))
local macro_rules | `(tactic| walk_at "inplaceOp Add ref ref") => `(tactic| (k_here; k_dflt (refine' iaddA ?F ?N ?b ?n ?U ?z ?_; (case F => k_asm); (case N => k_asm); (case b => k_mem); (case n => decide); (case U => k_upd); (case z => (simp only [List.length_cons, List.length_nil]; omega)); k_whole); intro h' F' N'))

set_option maxRecDepth 100000 in
set_option maxHeartbeats 8000000 in
theorem s5_spec {news : Keep} (B : Below A₀ base outer h₀) (F : Fr h₀ L s.heap m) (X : (Mine.hd.heap_39 w.params).In h₀) (N : News h₀ L s.heap news) (T : Top p loose mean mg mb h₀) (hA : A.frames = some (lawEnv L fa cd :: outer)) (hroom : A.depth + 10 < recursionLimit) {num : Int} {tn : Tok} (mn : m (Str.ofString "number") = some (.int num tn)) {due : Addr} {jts : List Value} {kk : Nat} (md : m (Str.ofString "due") = some (.ref due)) (hnews : news = (due, listOf jts.toArray kk) :: keep) (hoff : OwnOff keep [due]) (hz : jts.length + 3 ≤ 16777216)
    (ok : ∀ h' tk a1 a2 o2 t new, Fr h₀ L h' (put (Str.ofString "due") (.ref due) m) → News h₀ L h' ((due, listOf (jts ++ [Value.ref a1, Value.ref a2]).toArray (kk + 1)) :: (new ++ keep)) → (∀ p ∈ new, (∀ q ∈ keep, q.1 < p.1) ∧ due < p.1) → (a1, listOf #[.str (Str.ofString "made") t] 0) ∈ new → (a2, o2) ∈ new → ToldO num o2 new → Q .next { s with heap := h', toks := tk }) :
    wpAny (model PySem.Challenge.rw_ki0071_01.row.prog w) A (exec (hdS (tlS (tlS (tlS (tlS bStmts))))) (lawEnv L fa cd)) Q E s := by
  revert X
  k_fill
  intro X
  have ok2 := ok
  clear ok
  have hK9 := kdMark
  subst hnews
  dsimp only [lawEnv, dLaw, bStmts, fBody, hdS, tlS, sBody, sArgs, sScope, PySem.Challenge.pw_ki0071_01] at hA ⊢
  k_steps
  · rename num.fmod 2 = 0 => hpar
    rename News h₀ L _ _ => N2
    rename Fr h₀ L _ _ => F2
    refine' iaddA (js := jts) (n := kk) F2 N2 (.head _) ?Y ?U ?Z ?W
    case Y => simp
    case Z => (simp only [List.length_cons, List.length_nil]; omega)
    case U => k_upd
    intro h9 F9 N9
    clear F2 N2
    k_steps
    rename News h₀ L _ _ => N4
    rename Fr h₀ L _ _ => F4
    exact ok2 _ _ _ _ _ _ [(_, _), (_, _), (_, _)] F4 (reorderMid (a := [_, _, _]) N4) (by
      intro p hp
      simp only [List.mem_cons, List.not_mem_nil, or_false] at hp
      (repeat (rename _ ∧ _ => hc; obtain ⟨_, _⟩ := hc))
      rcases hp with rfl | rfl | rfl <;> exact ⟨fun q hq => tb_ltOf (by assumption) q hq, by assumption⟩) (.tail _ (.tail _ (.head _))) (.tail _ (.head _)) (.inl ⟨hpar, _, _, rfl⟩)
  · rename num.fmod 2 ≠ 0 => hpar
    rename News h₀ L _ _ => N2
    rename Fr h₀ L _ _ => F2
    rename Obj.IsDictOf _ _ _ => hdY
    have e2 := OneD.of hdY
    clear hdY
    rename Obj.IsDictOf _ _ _ => hdX
    have e1 := OneD.of hdX
    clear hdX
    rename (_ == sysModules) = false => loY
    revert loY
    rename (_ == sysModules) = false => loX
    intro loY
    refine' iaddA (js := jts) (n := kk) F2 N2 (.head _) ?Y2 ?U2 ?Z2 ?W2
    case Y2 => simp
    case Z2 => (simp only [List.length_cons, List.length_nil]; omega)
    case U2 => k_upd
    intro h9 F9 N9
    clear F2 N2
    k_steps
    rename News h₀ L _ _ => N4
    rename Fr h₀ L _ _ => F4
    exact ok2 _ _ _ _ _ _ [(_, _), (_, _), (_, _), (_, _), (_, _)] F4 (reorderMid (a := [_, _, _, _, _]) N4) (by
      intro p hp
      simp only [List.mem_cons, List.not_mem_nil, or_false] at hp
      (repeat (rename _ ∧ _ => hc; obtain ⟨_, _⟩ := hc))
      rcases hp with rfl | rfl | rfl | rfl | rfl <;> exact ⟨fun q hq => tb_ltOf (by assumption) q hq, by assumption⟩) (.tail _ (.tail _ (.tail _ (.tail _ (.head _))))) (.tail _ (.head _)) (.inr ⟨hpar, _, _, _, _, _, _, rfl, .tail _ (.tail _ (.tail _ (.head _))), e1, loX, .tail _ (.tail _ (.head _)), e2, loY⟩)

set_option maxRecDepth 100000 in
set_option maxHeartbeats 8000000 in
theorem s6a {news : Keep} (B : Below A₀ base outer h₀) (F : Fr h₀ L s.heap m) (X : (Mine.hd.heap_39 w.params).In h₀) (N : News h₀ L s.heap news) (T : Top p loose mean mg mb h₀) (hA : A.frames = some (lawEnv L fa cd :: outer)) (hroom : A.depth + 10 < recursionLimit) {num : Int} {tn : Tok} (mn : m (Str.ofString "number") = some (.int num tn)) {due : Addr} {jts : List Value} {kk : Nat} (md : m (Str.ofString "due") = some (.ref due)) (hnews : news = (due, listOf jts.toArray kk) :: keep) (hoff : OwnOff keep [due]) (hz : jts.length + 3 ≤ 16777216) (mm : m (Str.ofString "name") = some .none)
    (ok : ∀ h' tk a3 o3 new, Fr h₀ L h' (put (Str.ofString "due") (.ref due) m) → News h₀ L h' ((due, listOf (jts ++ [Value.ref a3]).toArray (kk + 1)) :: (new ++ keep)) → (∀ p ∈ new, (∀ q ∈ keep, q.1 < p.1) ∧ due < p.1) → (a3, o3) ∈ new → ShowO .none (.int num tn) o3 → Q .next { s with heap := h', toks := tk }) :
    wpAny (model PySem.Challenge.rw_ki0071_01.row.prog w) A (exec (hdS (tlS (tlS (tlS (tlS (tlS bStmts)))))) (lawEnv L fa cd)) Q E s := by
  revert X
  k_fill
  intro X
  have ok2 := ok
  clear ok
  have hK9 := kdMark
  subst hnews
  dsimp only [lawEnv, dLaw, bStmts, fBody, hdS, tlS, sBody, sArgs, sScope, PySem.Challenge.pw_ki0071_01] at hA ⊢
  k_steps
  rename News h₀ L _ _ => N2
  rename Fr h₀ L _ _ => F2
  refine' iaddA (js := jts) (n := kk) F2 N2 (.head _) ?Y ?U ?Z ?W
  case Y => simp
  case Z => (simp only [List.length_cons, List.length_nil]; omega)
  case U => k_upd
  intro h9 F9 N9
  clear F2 N2
  k_steps
  rename News h₀ L _ _ => N4
  rename Fr h₀ L _ _ => F4
  exact ok2 _ _ _ _ [(_, _), (_, _)] F4 (reorderMid (a := [_, _]) N4) (by
      intro p hp
      simp only [List.mem_cons, List.not_mem_nil, or_false] at hp
      (repeat (rename _ ∧ _ => hc; obtain ⟨_, _⟩ := hc))
      rcases hp with rfl | rfl <;> exact ⟨fun q hq => tb_ltOf (by assumption) q hq, by assumption⟩) (.tail _ (.head _)) (.inl ⟨rfl, _, rfl⟩)

set_option maxRecDepth 100000 in
set_option maxHeartbeats 8000000 in
theorem s6b {news : Keep} (B : Below A₀ base outer h₀) (F : Fr h₀ L s.heap m) (X : (Mine.hd.heap_39 w.params).In h₀) (N : News h₀ L s.heap news) (T : Top p loose mean mg mb h₀) (hA : A.frames = some (lawEnv L fa cd :: outer)) (hroom : A.depth + 10 < recursionLimit) {num : Int} {tn : Tok} (mn : m (Str.ofString "number") = some (.int num tn)) {due : Addr} {jts : List Value} {kk : Nat} (md : m (Str.ofString "due") = some (.ref due)) (hnews : news = (due, listOf jts.toArray kk) :: keep) (hoff : OwnOff keep [due]) (hz : jts.length + 3 ≤ 16777216) {z : Str} {tz : Tok} (mm : m (Str.ofString "name") = some (.str z tz))
    (ok : ∀ h' tk a3 o3 new, Fr h₀ L h' (put (Str.ofString "due") (.ref due) m) → News h₀ L h' ((due, listOf (jts ++ [Value.ref a3]).toArray (kk + 1)) :: (new ++ keep)) → (∀ p ∈ new, (∀ q ∈ keep, q.1 < p.1) ∧ due < p.1) → (a3, o3) ∈ new → ShowO (.str z tz) (.int num tn) o3 → Q .next { s with heap := h', toks := tk }) :
    wpAny (model PySem.Challenge.rw_ki0071_01.row.prog w) A (exec (hdS (tlS (tlS (tlS (tlS (tlS bStmts)))))) (lawEnv L fa cd)) Q E s := by
  revert X
  k_fill
  intro X
  have ok2 := ok
  clear ok
  have hK9 := kdMark
  subst hnews
  dsimp only [lawEnv, dLaw, bStmts, fBody, hdS, tlS, sBody, sArgs, sScope, PySem.Challenge.pw_ki0071_01] at hA ⊢
  k_steps
  rename News h₀ L _ _ => N2
  rename Fr h₀ L _ _ => F2
  refine' iaddA (js := jts) (n := kk) F2 N2 (.head _) ?Y ?U ?Z ?W
  case Y => simp
  case Z => (simp only [List.length_cons, List.length_nil]; omega)
  case U => k_upd
  intro h9 F9 N9
  clear F2 N2
  k_steps
  rename News h₀ L _ _ => N4
  rename Fr h₀ L _ _ => F4
  exact ok2 _ _ _ _ [(_, _), (_, _)] F4 (reorderMid (a := [_, _]) N4) (by
      intro p hp
      simp only [List.mem_cons, List.not_mem_nil, or_false] at hp
      (repeat (rename _ ∧ _ => hc; obtain ⟨_, _⟩ := hc))
      rcases hp with rfl | rfl <;> exact ⟨fun q hq => tb_ltOf (by assumption) q hq, by assumption⟩) (.tail _ (.head _)) (.inr ⟨_, _, _, rfl, rfl⟩)

set_option maxRecDepth 100000 in
set_option maxHeartbeats 8000000 in
theorem s6_spec {news : Keep} (B : Below A₀ base outer h₀) (F : Fr h₀ L s.heap m) (X : (Mine.hd.heap_39 w.params).In h₀) (N : News h₀ L s.heap news) (T : Top p loose mean mg mb h₀) (hA : A.frames = some (lawEnv L fa cd :: outer)) (hroom : A.depth + 10 < recursionLimit) {num : Int} {tn : Tok} (mn : m (Str.ofString "number") = some (.int num tn)) {due : Addr} {jts : List Value} {kk : Nat} (md : m (Str.ofString "due") = some (.ref due)) (hnews : news = (due, listOf jts.toArray kk) :: keep) (hoff : OwnOff keep [due]) (hz : jts.length + 3 ≤ 16777216) {nm : Value} (mm : m (Str.ofString "name") = some nm) (hfn : FnOk nm)
    (ok : ∀ h' tk a3 o3 new, Fr h₀ L h' (put (Str.ofString "due") (.ref due) m) → News h₀ L h' ((due, listOf (jts ++ [Value.ref a3]).toArray (kk + 1)) :: (new ++ keep)) → (∀ p ∈ new, (∀ q ∈ keep, q.1 < p.1) ∧ due < p.1) → (a3, o3) ∈ new → ShowO nm (.int num tn) o3 → Q .next { s with heap := h', toks := tk }) :
    wpAny (model PySem.Challenge.rw_ki0071_01.row.prog w) A (exec (hdS (tlS (tlS (tlS (tlS (tlS bStmts)))))) (lawEnv L fa cd)) Q E s := by
  rcases hfn with rfl | ⟨z, tz, rfl⟩
  · exact s6a B F X N T hA hroom mn md hnews hoff hz mm ok
  · exact s6b B F X N T hA hroom mn md hnews hoff hz mm ok
end
end Mine
end

/- part G3 -/
section
open PySem PySem.W PyProof.Rows PySem.Calls PySem.Spec
namespace Mine


/-- how the making of the profiler's maker and of the object under test ends -/
abbrev UtilsOk (h₀ : Heap) (L : Addr) (m : Str → Option Value) (row : Addr) (kb ks : Int) (keep tl0 : Keep) (D : Addr → Addr → Addr → Array Value → Prop) (Q : Flow → Shared → Prop) (s : Shared) : Prop :=
  ∀ h' tk u fm fa cA cM PM tab new, Fr h₀ L h' (put (Str.ofString "utils") (.ref u) m) → News h₀ L h' ((65, tabObj (full2 cA cM)) :: (PM, tabObj tab) :: (new ++ keep)) → (∀ p ∈ new, ∀ q ∈ keep, q.1 < p.1) → OwnOff new [65] → OwnOff new [PM] →
    CodeAt qAsked cA (new ++ tl0) → CodeM cM PM (new ++ tl0) → MakerIn fm fa row kb ks cM new → AskedIn fa row (fun _ => new ++ tl0) → UtilsIn u fm new → D cA cM PM tab → Q .next { s with heap := h', toks := tk }
theorem utils_end {h₀ h' : Heap} {L : Addr} {m : Str → Option Value} {row : Addr} {kb ks : Int} {keep tl0 : Keep} {D : Addr → Addr → Addr → Array Value → Prop} {Q : Flow → Shared → Prop} {s : Shared} (ok : UtilsOk h₀ L m row kb ks keep tl0 D Q s) {tk u du fm fa cA cM PM kk : Nat} {tab : Array Value} {new : Keep} {eu : List DictEntry}
    (F : Fr h₀ L h' (put (Str.ofString "utils") (.ref u) m)) (N : News h₀ L h' ((u, instObj 52 du) :: (du, dictOf eu kk) :: (65, tabObj (full2 cA cM)) :: (PM, tabObj tab) :: (new ++ keep)))
    (lu : 65 < u ∧ PM < u ∧ AllLt u (new ++ keep)) (ld : 65 < du ∧ PM < du ∧ AllLt du (new ++ keep))
    (l : ∀ p ∈ new, ∀ q ∈ keep, q.1 < p.1) (o65 : OwnOff new [65]) (oPM : OwnOff new [PM]) (a1 : CodeAt qAsked cA (new ++ tl0)) (a2 : CodeM cM PM (new ++ tl0)) (a3 : MakerIn fm fa row kb ks cM new) (a4 : AskedIn fa row (fun _ => new ++ tl0))
    (d : D cA cM PM tab) (g1 : getL (Str.ofString "profiler") eu = some (some (.ref fm))) (g2 : getL (Str.ofString "_show") eu = some none) (g3 : getL (Str.ofString "run") eu = some none) (g4 : getL (Str.ofString "runctx") eu = some none) : Q .next { s with heap := h', toks := tk } := by
  have big : ∀ q ∈ new ++ tl0, q ∈ ((u, instObj 52 du) :: (du, dictOf eu kk) :: new) ++ tl0 := fun q hq => .tail _ (.tail _ hq)
  have inn : ∀ q ∈ new, q ∈ (u, instObj 52 du) :: (du, dictOf eu kk) :: new := fun q hq => .tail _ (.tail _ hq)
  have off : ∀ x : Nat, x < u → x < du → OwnOff new [x] → OwnOff ((u, instObj 52 du) :: (du, dictOf eu kk) :: new) [x] := fun x hu hd o p hp b hb => by
    rw [List.mem_singleton.mp hb]
    rcases List.mem_cons.mp hp with rfl | hp
    · exact Nat.ne_of_gt hu
    · rcases List.mem_cons.mp hp with rfl | hp
      · exact Nat.ne_of_gt hd
      · exact o p hp x (List.mem_singleton.mpr rfl)
  refine ok h' tk u fm fa cA cM PM tab ((u, instObj 52 du) :: (du, dictOf eu kk) :: new) F (News.less N fun q hq => ?_) (fun p hp q hq => ?_) (off 65 lu.1 ld.1 o65) (off PM lu.2.1 ld.2.1 oPM) (a1.mono big) (a2.mono big) (a3.mono inn) (a4.mono fun _ => big) ⟨du, eu, kk, .head _, .tail _ (.head _), g1, g2, g3, g4⟩ d
  · simp only [List.cons_append, List.mem_cons] at hq ⊢
    rcases hq with hq | hq | hq | hq | hq <;> simp [hq]
  · rcases List.mem_cons.mp hp with rfl | hp
    · exact tb_ltOf lu.2.2 q (List.mem_append_right _ hq)
    · rcases List.mem_cons.mp hp with rfl | hp
      · exact tb_ltOf ld.2.2 q (List.mem_append_right _ hq)
      · exact l p hp q hq
section
variable {w : World} {A A₀ : Around} {base h₀ : Heap} {outer : List Env} {L fa : Addr} {cd : Value} {m mg mb : Str → Option Value} {keep : Keep} {s : Shared} {p : Program} {loose : List Str} {mean : ExcName → Option Value} {Q : Flow → Shared → Prop} {E : Value → Shared → Prop}
local macro_rules | `(tactic| k_room) => `(tactic| ((try simp only [depth_under_make, depth_under_kw, depth_in1, depth_deeper, depth_caller]); omega))
local macro_rules | `(tactic| walk_at "mine none") => `(tactic| fail)
local macro_rules | `(tactic| walk_at "mine none") => `(tactic| fail)
local macro_rules | `(tactic| walk_at "mine none") => `(tactic| fail)
local macro_rules | `(tactic| walk_at "mine none") => `(tactic| fail)
local macro_rules | `(tactic| walk_at "mine none") => `(tactic| fail)
local macro_rules | `(tactic| walk_at "mine none") => `(tactic| fail)
local macro_rules | `(tactic| walk_at "mine none") => `(tactic| fail)
local macro_rules | `(tactic| walk_at "eval Name") => `(tactic| (k_here; k_dflt (refine' ld ?k1 ?k2 ?_; (case k1 => k_asm); (case k2 => first | with_reducible assumption | exact if_pos rfl); k_whole)))
local macro_rules | `(tactic| walk_at "loadName") => `(tactic| (k_here; k_dflt (refine' ldn ?k1 ?k2 ?_; (case k1 => k_asm); (case k2 => first | with_reducible assumption | exact if_pos rfl); k_whole)))
local macro_rules | `(tactic| walk_at "inplaceOp Add ref ref") => `(tactic| (k_here; k_dflt (refine' iaddA ?F ?N ?b ?n ?U ?z ?_; (case F => k_asm); (case N => k_asm); (case b => k_mem); (case n => decide); (case U => k_upd); (case z => (simp only [List.length_cons, List.length_nil]; omega)); k_whole); intro h' F' N'))
local macro_rules | `(tactic| walk_at "call ref") => `(tactic| ((with_reducible show wpAny _ _ (call (Value.ref 70) _) _ _ _); refine Stop.intro ?_))
local macro_rules | `(tactic| k_enter) => `(tactic| (refine' code_def ?k1 ?k2 ?k3 ?k4 ?k5 ?kA ?kF ?kK ?k6 ?k7 ?k8 ?k9 ?kB ?_ ?c2 ?c3 ?c4 ?c5; (case kA => first | assumption | exact Around.frames_deeper (by assumption)); (case kF => exact rfl); (case kK => exact rfl); (case k1 => k_asm); (case k2 => k_asm); (case k3 => k_asm); (case k4 => k_asm); (case k5 => k_asm); (case k6 => k_is); (case k7 => k_is); (case k8 => k_room); (case k9 => first | exact BindsTo.of_eq rfl | exact binds_K (by k_in) rfl (by k_is) rfl rfl rfl | fail "k_enter: no rule for these arguments"); (case c5 => decide); (case kB => exact locs rfl); (case c2 => exact rfl); (case c3 => exact rfl); (case c4 => exact rfl); k_whole; intro g' L' h' FG' F' N' B' X' T'; (try dsimp only); (try k_lift B'); (try k_fold)))

set_option maxRecDepth 100000 in
set_option maxHeartbeats 8000000 in
theorem s4_new {news : Keep} (B : Below A₀ base outer h₀) (F : Fr h₀ L s.heap m) (X : (Mine.hd.heap_39 w.params).In h₀) (N : News h₀ L s.heap news) (T : Top p loose mean mg mb h₀) (hA : A.frames = some (lawEnv L fa cd :: outer)) (hroom : A.depth + 20 < recursionLimit) {row : Addr} {kb ks : Int} {tb ts : Tok} (C : CodeHd base 69 65) (mr : m (Str.ofString "row") = some (.ref row)) (mb : m (Str.ofString "bad_run") = some (.int kb tb)) (ms : m (Str.ofString "bad_show") = some (.int ks ts)) (hoff : OwnOff keep [65]) {tl0 : Keep} (hnews : news = (65, tabObj #[]) :: keep)
    (ok : UtilsOk h₀ L m row kb ks keep tl0 (DNew keep) Q s) :
    wpAny (model PySem.Challenge.rw_ki0071_01.row.prog w) A (exec (hdS (tlS (tlS (tlS bStmts)))) (lawEnv L fa cd)) Q E s := by
  revert X
  k_fill
  intro X
  have ok2 := ok
  clear ok
  have hK9 := kdMark
  subst hnews
  have hA2 := hA
  have B2 := B
  have T2 := T
  have X2 := X
  dsimp only [lawEnv, dLaw, bStmts, fBody, hdS, tlS, sBody, sArgs, sScope, PySem.Challenge.pw_ki0071_01] at hA ⊢
  k_steps
  refine Stop.of ?_
  rename News h₀ L _ _ => N2
  rename Fr h₀ L _ _ => F2
  refine wpAny_call (law_maker_new (tl0 := tl0) C hoff B2 F2 X2 N2 T2 hA2 rfl rfl ?hr ?ok)
  case hr => k_room
  case ok =>
    intro h3 tk3 fm fa cA cM PM tab new F3 N3 l3 o3 oP3 a1 a2 a3 a4 d3
    obtain ⟨xc, xd, xf, xs, mf⟩ := a3.fn
    have mf2 := List.mem_append_left keep mf
    clear F2 N2
    (try dsimp only)
    k_steps
    rename (65 < _ ∧ PM < _ ∧ AllLt _ (new ++ keep)) => l1
    rename News h₀ L _ _ => N5
    rename Fr h₀ L _ _ => F5
    rename ((_ : Nat) < _) => l2
    refine utils_end ok2 F5 N5 ⟨Nat.lt_trans l1.1 l2, Nat.lt_trans l1.2.1 l2, allLt_of fun p hp => Nat.lt_trans (tb_ltOf l1.2.2 p hp) l2⟩ l1 l3 o3 oP3 a1 a2 a3 a4 d3 ?_ ?_ ?_ ?_ <;> k_get

set_option maxRecDepth 100000 in
set_option maxHeartbeats 8000000 in
theorem s4_hit {news : Keep} (B : Below A₀ base outer h₀) (F : Fr h₀ L s.heap m) (X : (Mine.hd.heap_39 w.params).In h₀) (N : News h₀ L s.heap news) (T : Top p loose mean mg mb h₀) (hA : A.frames = some (lawEnv L fa cd :: outer)) (hroom : A.depth + 20 < recursionLimit) {row : Addr} {kb ks : Int} {tb ts : Tok} (C : CodeHd base 69 65) (mr : m (Str.ofString "row") = some (.ref row)) (mb : m (Str.ofString "bad_run") = some (.int kb tb)) (ms : m (Str.ofString "bad_show") = some (.int ks ts)) (hoff : OwnOff keep [65]) {tl0 : Keep} {cA0 cM0 PM0 c1 c2 c3 c4 : Addr} (eA : CodeAt qAsked cA0 tl0) (eM : CodeM cM0 PM0 tl0) (hP : (PM0, tabObj (full4 c1 c2 c3 c4)) ∈ tl0) (hsub : ∀ q ∈ tl0, q ∈ keep) (hnews : news = (65, tabObj (full2 cA0 cM0)) :: keep)
    (ok : UtilsOk h₀ L m row kb ks keep tl0 (DHit cA0 cM0 PM0 c1 c2 c3 c4) Q s) :
    wpAny (model PySem.Challenge.rw_ki0071_01.row.prog w) A (exec (hdS (tlS (tlS (tlS bStmts)))) (lawEnv L fa cd)) Q E s := by
  revert X
  k_fill
  intro X
  have ok2 := ok
  clear ok
  have hK9 := kdMark
  subst hnews
  have hA2 := hA
  have B2 := B
  have T2 := T
  have X2 := X
  dsimp only [lawEnv, dLaw, bStmts, fBody, hdS, tlS, sBody, sArgs, sScope, PySem.Challenge.pw_ki0071_01] at hA ⊢
  k_steps
  refine Stop.of ?_
  rename News h₀ L _ _ => N2
  rename Fr h₀ L _ _ => F2
  refine wpAny_call (law_maker_hit eA eM hP hsub C hoff B2 F2 X2 N2 T2 hA2 rfl rfl ?hr ?ok)
  case hr => k_room
  case ok =>
    intro h3 tk3 fm fa cA cM PM tab new F3 N3 l3 o3 oP3 a1 a2 a3 a4 d3
    obtain ⟨xc, xd, xf, xs, mf⟩ := a3.fn
    have mf2 := List.mem_append_left keep mf
    clear F2 N2
    (try dsimp only)
    k_steps
    rename (65 < _ ∧ PM < _ ∧ AllLt _ (new ++ keep)) => l1
    rename News h₀ L _ _ => N5
    rename Fr h₀ L _ _ => F5
    rename ((_ : Nat) < _) => l2
    refine utils_end ok2 F5 N5 ⟨Nat.lt_trans l1.1 l2, Nat.lt_trans l1.2.1 l2, allLt_of fun p hp => Nat.lt_trans (tb_ltOf l1.2.2 p hp) l2⟩ l1 l3 o3 oP3 a1 a2 a3 a4 d3 ?_ ?_ ?_ ?_ <;> k_get
end
end Mine
end

/- part G4 -/
section
open PySem PySem.W PyProof.Rows PySem.Calls PySem.Spec
namespace Mine


theorem ToldO.mono {num : Int} {o : Obj} {ns ns' : Keep} (X : ToldO num o ns) (h : ∀ p ∈ ns, p ∈ ns') : ToldO num o ns' := by
  rcases X with x | ⟨a, t, t', d1, d2, ob1, ob2, e, m1, e1, l1, m2, e2, l2⟩
  · exact .inl x
  · exact .inr ⟨a, t, t', d1, d2, ob1, ob2, e, h _ m1, e1, l1, h _ m2, e2, l2⟩
theorem ent_made {tl : Keep} {a b : Addr} {t u : Tok} (m1 : (a, listOf #[.str (Str.ofString "made") t] 0) ∈ tl) (m2 : (b, listOf #[.str (Str.ofString "made") u] 0) ∈ tl) : Ent tl (.ref a) (.ref b) :=
  ⟨a, b, [_], [_], rfl, rfl, m1, m2, .cons (.str _ _ _) .nil⟩
theorem ent_told {tl : Keep} {a b : Addr} {num : Int} {o1 o2 : Obj} (h1 : ToldO num o1 tl) (h2 : ToldO num o2 tl) (m1 : (a, o1) ∈ tl) (m2 : (b, o2) ∈ tl) : Ent tl (.ref a) (.ref b) := by
  rcases h1 with ⟨p1, t1, u1, rfl⟩ | ⟨p1, t1, u1, d1, d2, ob1, ob2, rfl, q1, q2, q3, q4, q5, q6⟩
  · rcases h2 with ⟨p2, t2, u2, rfl⟩ | ⟨p2, _⟩
    · exact ⟨a, b, [_, _], [_, _], rfl, rfl, m1, m2, .cons (.str _ _ _) (.cons (.str _ _ _) .nil)⟩
    · exact absurd p1 p2
  · rcases h2 with ⟨p2, _⟩ | ⟨p2, t2, u2, e1, e2, oc1, oc2, rfl, r1, r2, r3, r4, r5, r6⟩
    · exact absurd p2 p1
    · exact ⟨a, b, [_, _, _, _], [_, _, _, _], rfl, rfl, m1, m2, .cons (.str _ _ _) (.cons (.str _ _ _) (.cons (.dict q1 r1 q2 r2 q3 r3) (.cons (.dict q4 r4 q5 r5 q6 r6) .nil)))⟩
theorem ent_show {tl : Keep} {a b : Addr} {num : Int} {tn : Tok} {nm : Value} {o1 o2 : Obj} (h1 : ShowO nm (.int num tn) o1) (h2 : ShowO nm (.int num tn) o2) (m1 : (a, o1) ∈ tl) (m2 : (b, o2) ∈ tl) : Ent tl (.ref a) (.ref b) := by
  rcases h1 with ⟨p1, t1, rfl⟩ | ⟨z, tz, t1, p1, rfl⟩
  · rcases h2 with ⟨p2, t2, rfl⟩ | ⟨z2, tz2, t2, p2, rfl⟩
    · exact ⟨a, b, [_, _], [_, _], rfl, rfl, m1, m2, .cons (.str _ _ _) (.cons (.int _ _ _) .nil)⟩
    · rw [p1] at p2; cases p2
  · rcases h2 with ⟨p2, t2, rfl⟩ | ⟨z2, tz2, t2, p2, rfl⟩
    · rw [p1] at p2; cases p2
    · rw [p1] at p2
      cases p2
      exact ⟨a, b, [_, _], [_, _], rfl, rfl, m1, m2, .cons (.str _ _ _) (.cons (.str _ _ _) .nil)⟩
section
variable {w : World} {A A₀ : Around} {base h₀ : Heap} {outer : List Env} {L fa : Addr} {cd : Value} {m mg mb : Str → Option Value} {keep : Keep} {s : Shared} {p : Program} {loose : List Str} {mean : ExcName → Option Value} {Q : Flow → Shared → Prop} {E : Value → Shared → Prop}
local macro_rules | `(tactic| k_room) => `(tactic| ((try simp only [depth_under_make, depth_under_kw, depth_in1, depth_deeper, depth_caller]); omega))
local macro_rules | `(tactic| walk_at "mine none") => `(tactic| fail)
local macro_rules | `(tactic| walk_at "mine none") => `(tactic| fail)
local macro_rules | `(tactic| walk_at "mine none") => `(tactic| fail)
local macro_rules | `(tactic| walk_at "mine none") => `(tactic| fail)
local macro_rules | `(tactic| walk_at "mine none") => `(tactic| fail)
local macro_rules | `(tactic| walk_at "mine none") => `(tactic| fail)
local macro_rules | `(tactic| walk_at "mine none") => `(tactic| fail)
local macro_rules | `(tactic| walk_at "mine none") => `(tactic| fail)
local macro_rules | `(tactic| walk_at "mine none") => `(tactic| fail)
local macro_rules | `(tactic| walk_at "eval Name") => `(tactic| (k_here; k_dflt (refine' ld ?k1 ?k2 ?_; (case k1 => k_asm); (case k2 => first | with_reducible assumption | exact if_pos rfl); k_whole)))
local macro_rules | `(tactic| walk_at "call ref") => `(tactic| ((with_reducible show wpAny _ _ (call (Value.ref 77) _) _ _ _); refine Stop.intro ?_))
local macro_rules | `(tactic| walk_at "compareOp NotEq ref ref") => `(tactic| refine Stop.intro ?_)

set_option maxRecDepth 100000 in
set_option maxHeartbeats 8000000 in
theorem s8_spec {row fm fk cM PM u due a1 a2 a3 : Addr} {kb ks num v : Int} {its js : List Value} {tab : Array Value} {n kk : Nat} {o2 o3 : Obj} {t1 tn tv : Tok} {nm : Value} {others : Keep} (C : CodeHd base 69 65) (Z : MakerIn fm fk row kb ks cM keep) (ZC : CodeM cM PM keep) (K : AskedIn fk row (fun _ => keep)) (UI : UtilsIn u fm keep) (S : St row PM tab keep) (hz : its.length + 3 ≤ 16777216)
    (XB : (Mine.hd.heap_39 w.params).In base) (TB : Top p loose mean mg mb base)
    (B : Below A₀ base [] h₀) (F : Fr h₀ L s.heap m) (X : (Mine.hd.heap_39 w.params).In h₀) (T : Top p loose mean mg mb h₀)
    (hA : A.frames = some [lawEnv L fa cd]) (hroom : A.depth + 100 < recursionLimit) (hu : A.units + 10 < cLine) (hh : A.handled = none) (hfn : FnOk nm)
    (N : News h₀ L s.heap (Led row PM tab its.toArray n keep ++ others)) (sep : ∀ q ∈ Led row PM tab its.toArray n keep, ∀ p ∈ others, p.1 ≠ q.1)
    (hd : (due, listOf (js ++ [Value.ref a1, Value.ref a2, Value.ref a3]).toArray kk) ∈ others) (hE : All2 (Ent keep) its js) (d1 : (a1, listOf #[.str (Str.ofString "made") t1] 0) ∈ keep) (d2 : (a2, o2) ∈ keep) (e2 : ToldO num o2 keep) (d3 : (a3, o3) ∈ keep) (e3 : ShowO nm (.int num tn) o3)
    (mu : m (Str.ofString "utils") = some (.ref u)) (mn : m (Str.ofString "number") = some (.int num tn)) (mm : m (Str.ofString "name") = some nm) (mo : m (Str.ofString "out") = some (.int v tv)) (hv : v = codeOf (resOf kb ks)) (mr : m (Str.ofString "row") = some (.ref row)) (md : m (Str.ofString "due") = some (.ref due))
    (ok : ∀ h' tk tab' keep' mk tm th1 o1 th2 o4, Fr h₀ L h' m → News h₀ L h' (Led row PM tab' (its ++ [Value.ref mk, Value.ref th1, Value.ref th2]).toArray (n + 3) ((th2, o4) :: (th1, o1) :: keep') ++ others) → (∀ q ∈ keep, q ∈ keep') → St row PM tab' ((th2, o4) :: (th1, o1) :: keep') → tab' ≠ #[] →
      (∀ q ∈ Led row PM tab' (its ++ [Value.ref mk, Value.ref th1, Value.ref th2]).toArray (n + 3) ((th2, o4) :: (th1, o1) :: keep'), ∀ p ∈ others, p.1 ≠ q.1) → (mk, listOf #[.str (Str.ofString "made") tm] 0) ∈ keep' →
      All2 (Ent ((th2, o4) :: (th1, o1) :: keep')) (its ++ [Value.ref mk, Value.ref th1, Value.ref th2]) (js ++ [Value.ref a1, Value.ref a2, Value.ref a3]) → Q .next { s with heap := h', toks := tk }) :
    wpAny (model PySem.Challenge.rw_ki0071_01.row.prog w) A (exec (hdS (tlS (tlS (tlS (tlS (tlS (tlS (tlS bStmts)))))))) (lawEnv L fa cd)) Q E s := by
  revert XB X
  k_fill
  intro XB X
  subst hv
  have ok2 := ok
  clear ok
  have hA2 := hA
  have B2 := B
  have T2 := T
  have X2 := X
  have N2 : News h₀ L s.heap (Led row PM tab its.toArray n keep) := News.less N fun q hq => List.mem_append_left _ hq
  have hK9 := kdMark
  dsimp only [lawEnv, dLaw, bStmts, fBody, hdS, tlS, sBody, sArgs, sScope, PySem.Challenge.pw_ki0071_01] at hA ⊢
  have N0 := N
  clear N
  k_steps
  refine Stop.of ?_
  refine wpAny_call (told_spec (its := its.toArray) C Z ZC K UI S (by simpa using hz) XB TB B2 F X2 N2 T2 hA2 rfl rfl ?hr hh hfn ?ok)
  case hr => k_room
  case ok =>
    intro h₁ h2 tk2 t2 tab' keep' mk tm th1 o1 th2 o4 T1 F3 N3 B3 hk3 S3 hne3 hst hnw hmk r1 r2
    have el : ((its.toArray.push (.ref mk)).push (.ref th1)).push (.ref th2) = (its ++ [Value.ref mk, Value.ref th1, Value.ref th2]).toArray := by simp
    rw [el] at N3 hnw
    have F4 := turn_nil_fr T1 F3
    have N4 := turn_nil_news T1 N3
    have sep' : ∀ q ∈ Led row PM tab' (its ++ [Value.ref mk, Value.ref th1, Value.ref th2]).toArray (n + 3) ((th2, o4) :: (th1, o1) :: keep'), ∀ r ∈ others, r.1 ≠ q.1 := fun q hq r hr e => by
      have hp' := (N0 r (List.mem_append_right _ hr)).1
      have hm := hnw q hq r.2 (by rw [← e]; exact hp')
      obtain ⟨x, hx, ex⟩ := List.mem_map.mp hm
      exact sep x hx r hr (by rw [ex]; exact e)
    have N5 : News h₀ L h2 (Led row PM tab' (its ++ [Value.ref mk, Value.ref th1, Value.ref th2]).toArray (n + 3) ((th2, o4) :: (th1, o1) :: keep') ++ others) := fun q hq => by
      rcases List.mem_append.mp hq with hq | hq
      · exact N4 q hq
      · have h := N0 q (List.mem_append_right _ hq)
        refine ⟨hst q.1 q.2 h.1 (fun hm => ?_) (fun hm => ?_), h.2.1, h.2.2⟩
        · obtain ⟨x, hx, ex⟩ := List.mem_map.mp hm
          exact sep x hx q hq ex.symm
        · rw [frs_cons (L := L) rfl] at hm
          rcases List.mem_cons.mp hm with z | z
          · exact h.2.1 z
          · simp [frs] at z
    have up : ∀ q ∈ keep, q ∈ (th2, o4) :: (th1, o1) :: keep' := fun q hq => .tail _ (.tail _ (hk3 q hq))
    have up' : ∀ q ∈ keep', q ∈ (th2, o4) :: (th1, o1) :: keep' := fun q hq => .tail _ (.tail _ hq)
    have hE' : All2 (Ent ((th2, o4) :: (th1, o1) :: keep')) (its ++ [Value.ref mk, Value.ref th1, Value.ref th2]) (js ++ [Value.ref a1, Value.ref a2, Value.ref a3]) :=
      forall2_append (forall2_mono (fun _ _ z => z.mono up) hE) (.cons (ent_made (up' _ hmk) (up _ d1)) (.cons (ent_told (r1.mono up') (e2.mono up) (.tail _ (.head _)) (up _ d2)) (.cons (ent_show r2 e3 (.head _) (up _ d3)) .nil)))
    have fin := ok2 h2
    clear F3 N3 B3 T1 hst hnw F N2 ok2
    (try dsimp only)
    k_steps
    · exact absurd rfl (by assumption)
    · refine Stop.of (rows_ne (tl := (th2, o4) :: (th1, o1) :: keep') N5 (fun q hq => List.mem_append_left _ (.tail _ (.tail _ hq))) (.head _) (List.mem_append_right _ hd) hE' (by omega) ?_)
      k_steps
      exact fin _ tab' keep' mk tm th1 o1 th2 o4 F4 N5 hk3 S3 hne3 sep' hmk hE'
end
end Mine
end

/- part G5 -/
section
open PySem PySem.W PyProof.Rows PySem.Calls PySem.Spec
namespace Mine

theorem bStmts_eq : bStmts = [hdS bStmts, hdS (tlS bStmts), hdS (tlS (tlS bStmts)), hdS (tlS (tlS (tlS bStmts))), hdS (tlS (tlS (tlS (tlS bStmts)))), hdS (tlS (tlS (tlS (tlS (tlS bStmts))))), hdS (tlS (tlS (tlS (tlS (tlS (tlS bStmts)))))), hdS (tlS (tlS (tlS (tlS (tlS (tlS (tlS bStmts)))))))] := rfl
/-- the table of _law_maker's code: empty, or filled once for all -/
def T65 (t : Array Value) (tl : Keep) : Prop :=
  t = #[] ∨ ∃ cA cM PM c1 c2 c3 c4, t = full2 cA cM ∧ CodeAt qAsked cA tl ∧ CodeM cM PM tl ∧ (PM, tabObj (full4 c1 c2 c3 c4)) ∈ tl ∧ CodeAt qLam c1 tl ∧ CodeAt qLam c2 tl ∧ CodeAt qLam c3 tl ∧ CodeAt qLam c4 tl
theorem T65.mono {t : Array Value} {ns ns' : Keep} (x : T65 t ns) (h : ∀ p ∈ ns, p ∈ ns') : T65 t ns' := by
  rcases x with e | ⟨cA, cM, PM, c1, c2, c3, c4, e, a, b, c, d1, d2, d3, d4⟩
  · exact .inl e
  · exact .inr ⟨cA, cM, PM, c1, c2, c3, c4, e, a.mono h, b.mono h, h _ c, d1.mono h, d2.mono h, d3.mono h, d4.mono h⟩
def stNames : List Str := [Str.ofString "bad_run", Str.ofString "bad_show", Str.ofString "name", Str.ofString "utils", Str.ofString "due", Str.ofString "out"]
theorem kb_cases (x : Int) : x.fmod 4 = 0 ∨ x.fmod 4 = 1 ∨ x.fmod 4 = 2 ∨ x.fmod 4 = 3 := by
  rw [Int.fmod_eq_emod_of_nonneg _ (by decide)]; omega
theorem ks_cases (x : Int) : x.fmod 2 * 4 = 0 ∨ x.fmod 2 * 4 = 4 := by
  rw [Int.fmod_eq_emod_of_nonneg _ (by decide)]; omega
theorem news_inj {g h : Heap} {L a b : Addr} {o o' : Obj} {ns : Keep} (N : News g L h ns) (m1 : (a, o) ∈ ns) (m2 : (b, o') ∈ ns) (e : a = b) : o = o' := by
  have u := (N _ m1).1
  have v := (N _ m2).1
  have u : h.get? a = some o := u
  have v : h.get? b = some o' := v
  rw [e, v] at u
  exact (Option.some.inj u).symm

section
variable {w : World} {A A₀ : Around} {base h₀ : Heap} {L fa : Addr} {cd : Value} {m mg mb : Str → Option Value} {s : Shared} {p : Program} {loose : List Str} {mean : ExcName → Option Value} {Q : Flow → Shared → Prop} {E : Value → Shared → Prop}
set_option maxHeartbeats 4000000 in
/-- one turn of the loop -/
theorem body_spec {row due : Addr} {its js : List Value} {n kk : Nat} {t65 : Array Value} {tl own : Keep} {num : Int} {tn : Tok} (C : CodeHd base 69 65) (XB : (Mine.hd.heap_39 w.params).In base) (TB : Top p loose mean mg mb base)
    (B : Below A₀ base [] h₀) (F : Fr h₀ L s.heap m) (X : (Mine.hd.heap_39 w.params).In h₀) (T : Top p loose mean mg mb h₀)
    (hA : A.frames = some [lawEnv L fa cd]) (hroom : A.depth + 100 < recursionLimit) (hu : A.units + 10 < cLine) (hh : A.handled = none)
    (N : News h₀ L s.heap ((row, listOf its.toArray n) :: (due, listOf js.toArray kk) :: (65, tabObj t65) :: (tl ++ own))) (n1 : row ≠ due) (n2 : row ≠ 65) (n3 : due ≠ 65)
    (off : ∀ q ∈ tl ++ own, q.1 ≠ row ∧ q.1 ≠ due ∧ q.1 ≠ 65) (sep0 : ∀ q ∈ tl, ∀ r ∈ own, r.1 ≠ q.1) (hz : its.length + 3 ≤ 16777216) (hz2 : js.length + 6 ≤ 16777216) (hE : All2 (Ent tl) its js) (hT : T65 t65 tl)
    (mn : m (Str.ofString "number") = some (.int num tn)) (mr : m (Str.ofString "row") = some (.ref row)) (md : m (Str.ofString "due") = some (.ref due))
    (ok : ∀ h' tk m' its' js' n' kk' t65' all, Fr h₀ L h' m' → News h₀ L h' ((row, listOf (List.toArray its') n') :: (due, listOf (List.toArray js') kk') :: (65, tabObj t65') :: (all ++ own)) → (∀ q ∈ tl, q ∈ all) → All2 (Ent all) its' js' → T65 t65' all →
      its'.length = its.length + 3 → js'.length = js.length + 3 → (∀ q ∈ all, q.1 ≠ row ∧ q.1 ≠ due ∧ q.1 ≠ 65 ∧ ∀ r ∈ own, r.1 ≠ q.1) → m' (Str.ofString "due") = some (.ref due) → (∀ z, z ∉ stNames → m' z = m z) → Q .next { s with heap := h', toks := tk }) :
    wpAny (model PySem.Challenge.rw_ki0071_01.row.prog w) A (execs bStmts (lawEnv L fa cd)) Q E s := by
  rw [bStmts_eq]
  have hr10 : A.depth + 10 < recursionLimit := by omega
  have hr20 : A.depth + 20 < recursionLimit := by omega
  refine wpAny_execs_cons (s1_spec B F X N T hA hr10 mn fun h1 tk1 t1 F1 N1 => ?_)
  refine wpAny_execs_cons (s2_spec B F1 X N1 T hA hr10 (put_ne (by decide) mn) fun h2 tk2 t2 F2 N2 => ?_)
  refine wpAny_execs_cons (s3_spec B F2 X N2 T hA hr10 (put_ne (by decide) (put_ne (by decide) mn)) fun h3 tk3 nm hfn F3 N3 => ?_)
  generalize hkb : (num.fdiv 2).fmod 4 = kb at F1 F2 F3
  generalize hks : (num.fdiv 8).fmod 2 * 4 = ks at F2 F3
  have ckb : kb = 0 ∨ kb = 1 ∨ kb = 2 ∨ kb = 3 := by rw [← hkb]; exact kb_cases _
  have cks : ks = 0 ∨ ks = 4 := by rw [← hks]; exact ks_cases _
  have key : ∀ h4 tk4 u fm fk cA cM PM tab new, Fr h₀ L h4 (put (Str.ofString "utils") (.ref u) (put (Str.ofString "name") nm (put (Str.ofString "bad_show") (.int ks t2) (put (Str.ofString "bad_run") (.int kb t1) m)))) →
      News h₀ L h4 ((65, tabObj (full2 cA cM)) :: (PM, tabObj tab) :: (new ++ ((row, listOf its.toArray n) :: (due, listOf js.toArray kk) :: (tl ++ own)))) → (∀ x ∈ new, ∀ q ∈ ((row, listOf its.toArray n) :: (due, listOf js.toArray kk) :: (tl ++ own)), q.1 < x.1) → OwnOff new [65] → OwnOff new [PM] →
      CodeAt qAsked cA (new ++ tl) → CodeM cM PM (new ++ tl) → MakerIn fm fk row kb ks cM new → AskedIn fk row (fun _ => new ++ tl) → UtilsIn u fm new →
      ((tab = #[] ∧ OwnOff tl [PM]) ∨ ∃ c1 c2 c3 c4, tab = full4 c1 c2 c3 c4 ∧ CodeAt qLam c1 tl ∧ CodeAt qLam c2 tl ∧ CodeAt qLam c3 tl ∧ CodeAt qLam c4 tl) → PM ≠ row → PM ≠ due → PM ≠ 65 → (∀ r ∈ own, r.1 ≠ PM) →
      wpAny (model PySem.Challenge.rw_ki0071_01.row.prog w) A (execs [hdS (tlS (tlS (tlS (tlS bStmts)))), hdS (tlS (tlS (tlS (tlS (tlS bStmts))))), hdS (tlS (tlS (tlS (tlS (tlS (tlS bStmts)))))), hdS (tlS (tlS (tlS (tlS (tlS (tlS (tlS bStmts)))))))] (lawEnv L fa cd)) Q E { s with heap := h4, toks := tk4 } := by
    intro h4 tk4 u fm fk cA cM PM tab new F4 N4 l4 o65 oPM eA eM zM zA zU dT pr pd p65 po
    have lr : ∀ x ∈ new, row < x.1 := fun x hx => l4 x hx _ (.head _)
    have ld : ∀ x ∈ new, due < x.1 := fun x hx => l4 x hx _ (.tail _ (.head _))
    have N5a : News h₀ L h4 ((due, listOf js.toArray kk) :: ((row, listOf its.toArray n) :: (65, tabObj (full2 cA cM)) :: (PM, tabObj tab) :: (new ++ (tl ++ own)))) := News.less N4 fun q hq => by
      simp only [List.mem_cons, List.mem_append] at hq ⊢
      rcases hq with hq | hq | hq | hq | hq | hq | hq <;> simp [hq]
    have off5 : OwnOff ((row, listOf its.toArray n) :: (65, tabObj (full2 cA cM)) :: (PM, tabObj tab) :: (new ++ (tl ++ own))) [due] := fun q hq b hb => by
      rw [List.mem_singleton.mp hb]
      simp only [List.mem_cons, List.mem_append] at hq
      rcases hq with rfl | rfl | rfl | hq | hq | hq
      · exact n1
      · exact fun e => n3 e.symm
      · exact pd
      · exact Nat.ne_of_gt (ld q hq)
      · exact (off q (List.mem_append_left _ hq)).2.1
      · exact (off q (List.mem_append_right _ hq)).2.1
    refine wpAny_execs_cons (s5_spec (keep := (row, listOf its.toArray n) :: (65, tabObj (full2 cA cM)) :: (PM, tabObj tab) :: (new ++ (tl ++ own))) B F4 X N5a T hA hr10 (put_ne (by decide) (put_ne (by decide) (put_ne (by decide) (put_ne (by decide) mn)))) (put_ne (by decide) (put_ne (by decide) (put_ne (by decide) (put_ne (by decide) md)))) rfl off5 (by omega) fun h5 tk5 a1 a2 o2 t5 new5 F5 N5 l5 d1 d2 e2 => ?_)
    have off6 : OwnOff (new5 ++ ((row, listOf its.toArray n) :: (65, tabObj (full2 cA cM)) :: (PM, tabObj tab) :: (new ++ (tl ++ own)))) [due] := fun q hq b hb => by
      rcases List.mem_append.mp hq with hq | hq
      · rw [List.mem_singleton.mp hb]; exact Nat.ne_of_gt (l5 q hq).2
      · exact off5 q hq b hb
    refine wpAny_execs_cons (s6_spec (keep := new5 ++ ((row, listOf its.toArray n) :: (65, tabObj (full2 cA cM)) :: (PM, tabObj tab) :: (new ++ (tl ++ own)))) B F5 X N5 T hA hr10 (put_ne (by decide) (put_ne (by decide) (put_ne (by decide) (put_ne (by decide) (put_ne (by decide) mn))))) (put_self _ _ _) rfl off6 (by simp only [List.length_append, List.length_cons, List.length_nil]; omega) (put_ne (by decide) (put_ne (by decide) (put_self _ _ _))) hfn fun h6 tk6 a3 o3 new6 F6 N6 l6 d3 e3 => ?_)
    refine wpAny_execs_cons (s7_spec B F6 X N6 T hA hr10 ckb cks (put_ne (by decide) (put_ne (by decide) (put_ne (by decide) (put_ne (by decide) (put_ne (by decide) (put_self _ _ _)))))) (put_ne (by decide) (put_ne (by decide) (put_ne (by decide) (put_ne (by decide) (put_self _ _ _))))) fun h7 tk7 v tv hv F7 N7 => ?_)
    -- the ledger for the telling
    have g6 : ∀ x ∈ new6, x.1 ≠ row ∧ x.1 ≠ due ∧ x.1 ≠ 65 ∧ x.1 ≠ PM ∧ ∀ r ∈ own, r.1 ≠ x.1 := fun x hx => by
      have l := (l6 x hx).1
      refine ⟨Nat.ne_of_gt (l (row, listOf its.toArray n) ?_), Nat.ne_of_gt (l6 x hx).2, Nat.ne_of_gt (l (65, tabObj (full2 cA cM)) ?_), Nat.ne_of_gt (l (PM, tabObj tab) ?_), fun r hr => Nat.ne_of_lt (l r ?_)⟩
      all_goals simp [List.mem_append]
      exact .inr (.inr (.inr (.inr (.inr (.inr hr)))))
    have g5 : ∀ x ∈ new5, x.1 ≠ row ∧ x.1 ≠ due ∧ x.1 ≠ 65 ∧ x.1 ≠ PM ∧ ∀ r ∈ own, r.1 ≠ x.1 := fun x hx => by
      have l := (l5 x hx).1
      refine ⟨Nat.ne_of_gt (l (row, listOf its.toArray n) ?_), Nat.ne_of_gt (l5 x hx).2, Nat.ne_of_gt (l (65, tabObj (full2 cA cM)) ?_), Nat.ne_of_gt (l (PM, tabObj tab) ?_), fun r hr => Nat.ne_of_lt (l r ?_)⟩
      all_goals simp [List.mem_append]
      exact .inr (.inr (.inr (.inr (.inr hr))))
    have g4 : ∀ x ∈ new, x.1 ≠ row ∧ x.1 ≠ due ∧ x.1 ≠ 65 ∧ x.1 ≠ PM ∧ ∀ r ∈ own, r.1 ≠ x.1 := fun x hx => by
      have l := l4 x hx
      refine ⟨Nat.ne_of_gt (lr x hx), Nat.ne_of_gt (ld x hx), o65 x hx _ (List.mem_singleton.mpr rfl), oPM x hx _ (List.mem_singleton.mpr rfl), fun r hr => Nat.ne_of_lt (l r ?_)⟩
      simp [List.mem_append, hr]
    have g3 : ∀ x ∈ tl, x.1 ≠ row ∧ x.1 ≠ due ∧ x.1 ≠ 65 ∧ ∀ r ∈ own, r.1 ≠ x.1 := fun x hx => by
      have o := off x (List.mem_append_left _ hx)
      exact ⟨o.1, o.2.1, o.2.2, fun r hr => sep0 x hx r hr⟩
    have gk : ∀ x ∈ new6 ++ (new5 ++ (new ++ tl)), x.1 ≠ row ∧ x.1 ≠ due ∧ x.1 ≠ 65 ∧ ∀ r ∈ own, r.1 ≠ x.1 := fun x hx => by
      simp only [List.mem_append] at hx
      rcases hx with hx | hx | hx | hx
      · exact ⟨(g6 x hx).1, (g6 x hx).2.1, (g6 x hx).2.2.1, (g6 x hx).2.2.2.2⟩
      · exact ⟨(g5 x hx).1, (g5 x hx).2.1, (g5 x hx).2.2.1, (g5 x hx).2.2.2.2⟩
      · exact ⟨(g4 x hx).1, (g4 x hx).2.1, (g4 x hx).2.2.1, (g4 x hx).2.2.2.2⟩
      · exact g3 x hx
    have inT : ∀ x ∈ tl, x ∈ new6 ++ (new5 ++ (new ++ tl)) := fun x hx => by simp [hx]
    have inN : ∀ x ∈ new, x ∈ new6 ++ (new5 ++ (new ++ tl)) := fun x hx => by simp [hx]
    have inNT : ∀ x ∈ new ++ tl, x ∈ new6 ++ (new5 ++ (new ++ tl)) := fun x hx => List.mem_append_right _ (List.mem_append_right _ hx)
    have in5 : ∀ x ∈ new5, x ∈ new6 ++ (new5 ++ (new ++ tl)) := fun x hx => by simp [hx]
    have in6 : ∀ x ∈ new6, x ∈ new6 ++ (new5 ++ (new ++ tl)) := fun x hx => by simp [hx]
    have S8 : St row PM tab (new6 ++ (new5 ++ (new ++ tl))) := ⟨fun q hq b hb => by rw [List.mem_singleton.mp hb]; exact (gk q hq).1, pr, by
      rcases dT with ⟨e, o⟩ | ⟨c1, c2, c3, c4, e, q1, q2, q3, q4⟩
      · refine .inl ⟨e, fun q hq b hb => ?_⟩
        rw [List.mem_singleton.mp hb]
        simp only [List.mem_append] at hq
        rcases hq with hq | hq | hq | hq
        · exact (g6 q hq).2.2.2.1
        · exact (g5 q hq).2.2.2.1
        · exact (g4 q hq).2.2.2.1
        · exact o q hq _ (List.mem_singleton.mpr rfl)
      · exact .inr ⟨c1, c2, c3, c4, e, q1.mono inT, q2.mono inT, q3.mono inT, q4.mono inT⟩⟩
    have N8 : News h₀ L h7 (Led row PM tab its.toArray n (new6 ++ (new5 ++ (new ++ tl))) ++ ((due, listOf (js ++ [Value.ref a1, Value.ref a2, Value.ref a3]).toArray (kk + 1 + 1)) :: (65, tabObj (full2 cA cM)) :: own)) := News.less N7 fun q hq => by
      simp only [Led, List.cons_append, List.nil_append, List.append_assoc, List.mem_cons, List.mem_append] at hq ⊢
      rcases hq with hq | hq | hq | hq | hq | hq | hq | hq | hq <;> simp [hq]
    have sep8 : ∀ q ∈ Led row PM tab its.toArray n (new6 ++ (new5 ++ (new ++ tl))), ∀ r ∈ ((due, listOf (js ++ [Value.ref a1, Value.ref a2, Value.ref a3]).toArray (kk + 1 + 1)) :: (65, tabObj (full2 cA cM)) :: own), r.1 ≠ q.1 := fun q hq r hr => by
      rcases List.mem_cons.mp hq with rfl | hq
      · rcases List.mem_cons.mp hr with rfl | hr
        · exact fun e => n1 e.symm
        · rcases List.mem_cons.mp hr with rfl | hr
          · exact fun e => n2 e.symm
          · exact (off r (List.mem_append_right _ hr)).1
      · rcases List.mem_cons.mp hq with rfl | hq
        · rcases List.mem_cons.mp hr with rfl | hr
          · exact fun e => pd e.symm
          · rcases List.mem_cons.mp hr with rfl | hr
            · exact fun e => p65 e.symm
            · exact po r hr
        · have g := gk q hq
          rcases List.mem_cons.mp hr with rfl | hr
          · exact fun e => g.2.1 e.symm
          · rcases List.mem_cons.mp hr with rfl | hr
            · exact fun e => g.2.2.1 e.symm
            · exact g.2.2.2 r hr
    refine wpAny_execs_cons (s8_spec C (zM.mono inN) (eM.mono inNT) (zA.mono fun _ => inNT) (zU.mono inN) S8 hz XB TB B F7 X T hA hroom hu hh hfn N8 sep8 (.head _) (forall2_mono (fun _ _ z => z.mono inT) hE) (in5 _ d1) (in5 _ d2) (e2.mono in5) (in6 _ d3) e3
      (put_ne (by decide) (put_ne (by decide) (put_ne (by decide) (put_self _ _ _)))) (put_ne (by decide) (put_ne (by decide) (put_ne (by decide) (put_ne (by decide) (put_ne (by decide) (put_ne (by decide) (put_ne (by decide) mn))))))) (put_ne (by decide) (put_ne (by decide) (put_ne (by decide) (put_ne (by decide) (put_self _ _ _))))) (put_self _ _ _) hv
      (put_ne (by decide) (put_ne (by decide) (put_ne (by decide) (put_ne (by decide) (put_ne (by decide) (put_ne (by decide) (put_ne (by decide) mr))))))) (put_ne (by decide) (put_self _ _ _)) fun h8 tk8 tab' keep' mk tm th1 o1 th2 o4 F8 N9 hk St' hne sep' hmk hE' => ?_)
    refine wpAny_execs_nil ?_
    refine ok h8 tk8 _ _ _ (n + 3) (kk + 1 + 1) (full2 cA cM) ((PM, tabObj tab') :: (th2, o4) :: (th1, o1) :: keep') F8 (News.less N9 fun q hq => ?_) (fun q hq => ?_) (forall2_mono (fun _ _ z => z.mono fun q hq => .tail _ hq) hE') (.inr ?_) (by simp) (by simp) (fun q hq => ?_) (put_ne (by decide) (put_self _ _ _)) (fun z hz => ?_)
    · simp only [Led, List.cons_append, List.nil_append, List.append_assoc, List.mem_cons, List.mem_append] at hq ⊢
      rcases hq with hq | hq | hq | hq | hq | hq | hq | hq <;> simp [hq]
    · exact .tail _ (.tail _ (.tail _ (hk _ (inT _ hq))))
    · have big : ∀ q ∈ new ++ tl, q ∈ (PM, tabObj tab') :: (th2, o4) :: (th1, o1) :: keep' := fun q hq => .tail _ (.tail _ (.tail _ (hk _ (inNT _ hq))))
      rcases St'.ht with ⟨e, _⟩ | ⟨c1, c2, c3, c4, e, q1, q2, q3, q4⟩
      · exact absurd e hne
      · refine ⟨cA, cM, PM, c1, c2, c3, c4, rfl, eA.mono big, eM.mono big, ?_, q1.mono fun _ q => .tail _ q, q2.mono fun _ q => .tail _ q, q3.mono fun _ q => .tail _ q, q4.mono fun _ q => .tail _ q⟩
        rw [← e]; exact .head _
    · have hs := sep' q (.tail _ hq)
      refine ⟨?_, fun e => hs _ (.head _) e.symm, fun e => hs _ (.tail _ (.head _)) e.symm, fun r hr => hs r (.tail _ (.tail _ hr))⟩
      rcases List.mem_cons.mp hq with rfl | hq
      · exact pr
      · exact St'.hrow q hq _ (List.mem_singleton.mpr rfl)
    · simp only [stNames, List.mem_cons, List.not_mem_nil, or_false, not_or] at hz
      obtain ⟨z1, z2, z3, z4, z5, z6⟩ := hz
      simp [put, z1, z2, z3, z4, z5, z6]
  have N4a : News h₀ L h3 ((65, tabObj t65) :: ((row, listOf its.toArray n) :: (due, listOf js.toArray kk) :: (tl ++ own))) := News.less N3 fun q hq => by
    simp only [List.mem_cons, List.mem_append] at hq ⊢
    rcases hq with hq | hq | hq | hq | hq <;> simp [hq]
  have off4 : OwnOff ((row, listOf its.toArray n) :: (due, listOf js.toArray kk) :: (tl ++ own)) [65] := fun q hq b hb => by
    rw [List.mem_singleton.mp hb]
    rcases List.mem_cons.mp hq with rfl | hq
    · exact n2
    · rcases List.mem_cons.mp hq with rfl | hq
      · exact n3
      · exact (off q hq).2.2
  rcases hT with e | ⟨cA, cM, PM, c1, c2, c3, c4, e, eA, eM, hP, d1, d2, d3, d4⟩
  · rw [e] at N4a
    refine wpAny_execs_cons (s4_new (tl0 := tl) (keep := (row, listOf its.toArray n) :: (due, listOf js.toArray kk) :: (tl ++ own)) B F3 X N4a T hA hr20 C (put_ne (by decide) (put_ne (by decide) (put_ne (by decide) mr))) (put_ne (by decide) (put_ne (by decide) (put_self _ _ _))) (put_ne (by decide) (put_self _ _ _)) off4 rfl fun h4 tk4 u fm fk cA cM PM tab new F4 N4 l4 o65 oPM eA eM zM zA zU hD => ?_)
    obtain ⟨e1, lP⟩ := hD
    refine key h4 tk4 u fm fk cA cM PM tab new F4 N4 l4 o65 oPM eA eM zM zA zU (.inl ⟨e1, fun q hq b hb => ?_⟩) (Nat.ne_of_gt (lP _ (.head _))) (Nat.ne_of_gt (lP _ (.tail _ (.head _)))) (fun e => ?_) (fun r hr => Nat.ne_of_lt (lP r ?_))
    · rw [List.mem_singleton.mp hb]
      exact Nat.ne_of_lt (lP q (by simp [hq]))
    · have := news_inj N4 (.tail _ (.head _)) (.head _) e
      rw [e1] at this
      simp [tabObj, full2] at this
    · simp [hr]
  · rw [e] at N4a
    have gP := off _ (List.mem_append_left own hP)
    refine wpAny_execs_cons (s4_hit (tl0 := tl) (keep := (row, listOf its.toArray n) :: (due, listOf js.toArray kk) :: (tl ++ own)) B F3 X N4a T hA hr20 C (put_ne (by decide) (put_ne (by decide) (put_ne (by decide) mr))) (put_ne (by decide) (put_ne (by decide) (put_self _ _ _))) (put_ne (by decide) (put_self _ _ _)) off4 eA eM hP (fun q hq => by simp [hq]) rfl fun h4 tk4 u fm fk cA' cM' PM' tab new F4 N4 l4 o65 oPM eA' eM' zM zA zU hD => ?_)
    obtain ⟨r1, r2, r3, r4⟩ := hD
    rw [r3] at N4 oPM eM'
    exact key h4 tk4 u fm fk cA' cM' PM tab new F4 N4 l4 o65 oPM eA' eM' zM zA zU (.inr ⟨c1, c2, c3, c4, r4, d1, d2, d3, d4⟩) gP.1 gP.2.1 gP.2.2 (fun r hr => sep0 _ hP r hr)
end
end Mine
end

/- part G6 -/
section
open PySem PySem.W PyProof.Rows PySem.Calls PySem.Spec
namespace Mine

abbrev Cs := List Value × Nat × List Value × Nat × Array Value
section
variable {w : World} {A A₀ : Around} {base : Heap} {L fa : Addr} {cd : Value} {m₀ mg mb : Str → Option Value} {s : Shared} {p : Program} {loose : List Str} {mean : ExcName → Option Value} {Q : Flow → Shared → Prop} {E : Value → Shared → Prop}
set_option maxHeartbeats 4000000 in
/-- the loop -/
theorem loop_spec {row due D : Addr} {ws : List Value} {ns : List Int} {news : Keep} (C : CodeHd base 69 65) (X : (Mine.hd.heap_39 w.params).In base) (T : Top p loose mean mg mb base) (B : Below A₀ base [] base)
    (F : Fr base L s.heap m₀) (N : News base L s.heap news) (e1 : (row, listOf #[] 0) ∈ news) (e2 : (due, listOf #[] 0) ∈ news) (e3 : (65, tabObj #[]) ∈ news) (e4 : (D, listOf ws.toArray 0) ∈ news)
    (o1 : @LT.lt Nat _ 65 row) (o2 : @LT.lt Nat _ row due) (o3 : @LT.lt Nat _ due D) (hi : IntsAre ws ns) (hlen : ns.length ≤ 25)
    (mr : m₀ (Str.ofString "row") = some (.ref row)) (md : m₀ (Str.ofString "due") = some (.ref due))
    (hA : A.frames = some [lawEnv L fa cd]) (hroom : A.depth + 100 < recursionLimit) (hu : A.units + 10 < cLine) (hh : A.handled = none)
    (done : ∀ h' tk m' t, Fr base L h' m' → News base L h' [(65, tabObj t)] → Q .next { s with heap := h', toks := tk }) :
    wpAny (model PySem.Challenge.rw_ki0071_01.row.prog w) A (pyIter (.ref D)) (fun it s₂ => LoopAtV PySem.Challenge.rw_ki0071_01.row.prog w A base (lawEnv L fa cd) (Str.ofString "number") bStmts Q E it s₂) E s := by
  have r1 : row ≠ due := Nat.ne_of_lt o2
  have r2 : row ≠ 65 := Nat.ne_of_gt o1
  have r3 : due ≠ 65 := Nat.ne_of_gt (Nat.lt_trans o1 o2)
  have r4 : D ≠ row := Nat.ne_of_gt (Nat.lt_trans o2 o3)
  have r5 : D ≠ due := Nat.ne_of_gt o3
  have r6 : D ≠ 65 := Nat.ne_of_gt (Nat.lt_trans o1 (Nat.lt_trans o2 o3))
  refine kd_listI (σ := Cs) (nn := 0) (fun c => [(row, listOf c.1.toArray c.2.1), (due, listOf c.2.2.1.toArray c.2.2.2.1), (65, tabObj c.2.2.2.2)]) [(D, listOf ws.toArray 0)] (fun _ => [(Str.ofString "due", .ref due)]) (fun tl c => All2 (Ent tl) c.1 c.2.2.1 ∧ T65 c.2.2.2.2 tl)
    stNames (fun pre c => c.1.length = 3 * pre.length ∧ c.2.2.1.length = 3 * pre.length) [row, due, 65, D] ([], 0, [], 0, #[]) hh (.head _) hi F N ?_ (fun _ => rfl) ⟨.nil, .inl rfl⟩ ?_ ⟨rfl, rfl⟩ ?turn ?done
  · intro q hq
    simp only [List.cons_append, List.nil_append, List.append_nil, List.mem_cons, List.not_mem_nil, or_false] at hq
    rcases hq with rfl | rfl | rfl | rfl
    · exact e1
    · exact e2
    · exact e3
    · exact e4
  · intro q hq
    rw [List.mem_singleton.mp hq]
    exact md
  case done =>
    intro c tl u h tk ho hf hp F' N'
    exact done h tk _ c.2.2.2.2 F' (News.less N' fun q hq => by rw [List.mem_singleton.mp hq]; exact .tail _ (.tail _ (.head _)))
  case turn =>
    intro c tl pre post n t u h tk own hns hmem hsep hoff hf hp F1 N1
    obtain ⟨its, n0, js, k0, t65⟩ := c
    obtain ⟨hE, hT⟩ := hf
    obtain ⟨p1, p2⟩ := hp
    dsimp only at hE hT p1 p2 N1
    dsimp only [kstB] at F1
    have hpre : pre.length + 1 ≤ 25 := by
      rw [hns] at hlen
      simp only [List.length_append, List.length_cons] at hlen
      omega
    refine body_spec (s := { s with heap := h, toks := tk }) (tl := (D, listOf ws.toArray 0) :: tl) (own := own) (num := n) (tn := t) C X T B F1 X T hA hroom hu hh N1 r1 r2 r3 (fun q hq => ?_) (fun q hq r hr => ?_) (by omega) (by omega) hE hT ?_ ?_ ?_ ?_
    · rcases List.mem_cons.mp hq with rfl | hq
      · exact ⟨r4, r5, r6⟩
      · have z := hoff q hq
        exact ⟨z _ (.head _), z _ (.tail _ (.head _)), z _ (.tail _ (.tail _ (.head _)))⟩
    · rcases List.mem_cons.mp hq with rfl | hq
      · exact hsep.one r hr D (by simp)
      · exact hsep.two r hr q.1 (List.mem_map_of_mem hq)
    · exact if_pos rfl
    · refine (if_neg (by decide)).trans ((if_neg (by decide)).trans ((if_neg (by decide)).trans mr))
    · exact (if_neg (by decide)).trans (if_pos rfl)
    · intro h' tk' m' its' js' n' kk' t65' all F' N' hk hE' hT' l1 l2 hall hdue hm'
      have hD : (D, listOf ws.toArray 0) ∈ all := hk _ (.head _)
      have inA : ∀ q ∈ all, q ∈ (row, listOf its'.toArray n') :: (due, listOf js'.toArray kk') :: (65, tabObj t65') :: (all ++ own) := fun q hq => .tail _ (.tail _ (.tail _ (List.mem_append_left _ hq)))
      have cover : ∀ q ∈ all, q ∈ [(D, listOf ws.toArray 0)] ++ (all.filter (fun q => decide (q.1 ≠ D)) ++ tl) := fun q hq => by
        by_cases e : q.1 = D
        · have : q = (D, listOf ws.toArray 0) := by
            obtain ⟨qa, qo⟩ := q
            have e : qa = D := e
            rw [news_inj N' (inA _ hq) (inA _ hD) e, e]
          rw [this]
          simp
        · refine List.mem_append_right _ (List.mem_append_left _ (List.mem_filter.mpr ⟨hq, by simpa using e⟩))
      refine kd_end (Led := fun c : Cs => [(row, listOf c.1.toArray c.2.1), (due, listOf c.2.2.1.toArray c.2.2.2.1), (65, tabObj c.2.2.2.2)]) (cst := [(D, listOf ws.toArray 0)]) (its', n', js', kk', t65') (all.filter fun q => decide (q.1 ≠ D)) hsep F' N' ?_ ?_ rfl ?_ ?_ ?_ ?_ ?_ ?_
      · intro q hq
        simp only [List.cons_append, List.nil_append, List.mem_cons, List.mem_append, List.mem_filter] at hq
        rcases hq with rfl | rfl | rfl | rfl | hq | hq
        · exact .head _
        · exact .tail _ (.head _)
        · exact .tail _ (.tail _ (.head _))
        · exact inA _ hD
        · exact inA _ hq.1
        · exact inA _ (hk _ (.tail _ hq))
      · exact fun q hq => .tail _ (.tail _ (.tail _ (List.mem_append_right _ hq)))
      · intro q hq b hb
        have hq := List.mem_filter.mp hq
        have g := hall q hq.1
        simp only [List.mem_cons, List.not_mem_nil, or_false] at hb
        rcases hb with rfl | rfl | rfl | rfl
        · exact fun e => g.1 e.symm
        · exact fun e => g.2.1 e.symm
        · exact fun e => g.2.2.1 e.symm
        · exact fun e => (by simpa using hq.2 : q.1 ≠ _) e.symm
      · intro q hq r hr
        exact (hall q (List.mem_filter.mp hq).1).2.2.2 r hr
      · intro q hq
        rw [List.mem_singleton.mp hq]
        exact hdue
      · intro z z1 z2 z3
        have z4 : z ≠ Str.ofString "due" := z2 _ (.head _)
        have z5 : z ∉ stNames := fun hm => by
          have : stNames.contains z = true := List.contains_iff_mem.mpr hm
          rw [this] at z3
          cases z3
        rw [hm' z z5]
        exact (if_neg z1).trans ((if_neg z4).trans (if_neg (by rw [z3]; decide)))
      · exact ⟨forall2_mono (fun _ _ z => z.mono cover) hE', hT'.mono cover⟩
      · refine ⟨?_, ?_⟩ <;> simp only [List.length_append, List.length_cons, List.length_nil] <;> omega
end
end Mine
end

open PySem.Calls PySem.Spec
local macro_rules | `(tactic| walk_at "mine none") => `(tactic| fail)
local macro_rules | `(tactic| walk_at "mine none") => `(tactic| fail)
local macro_rules | `(tactic| walk_at "mine none") => `(tactic| fail)
local macro_rules | `(tactic| walk_at "mine none") => `(tactic| fail)
local macro_rules | `(tactic| walk_at "mine none") => `(tactic| fail)
local macro_rules | `(tactic| walk_at "mine none") => `(tactic| fail)
local macro_rules | `(tactic| walk_at "mine none") => `(tactic| fail)
local macro_rules | `(tactic| walk_at "mine none") => `(tactic| fail)
local macro_rules | `(tactic| walk_at "mine none") => `(tactic| fail)
local macro_rules | `(tactic| walk_at "mine none") => `(tactic| fail)
local macro_rules | `(tactic| walk_at "mine none") => `(tactic| fail)
local macro_rules | `(tactic| walk_at "mine none") => `(tactic| fail)
local macro_rules | `(tactic| walk_at "exec For Name BinOp cons nil") => `(tactic| (k_here; (rename Fr _ _ _ _ => lF'); (with_unfolding_all refine' For_invVF lF' ?k1 ?k2 ?_; (case k1 => exact rfl); (case k2 => exact rfl); k_whole)))
set_option maxRecDepth 100000 in
set_option maxHeartbeats 8000000 in
theorem PySem.Challenge.cw_ki0071_01_holds : PySem.Challenge.rw_ki0071_01.Holds := by
  refine Mine.hd ?hd
  case hd =>
    k_go0
    (all_goals try k_fold)
    k_steps
    rename IntsAre _ (_ ++ [11]) => hI
    rename Fr _ _ _ _ => F9
    rename News _ _ _ _ => N9
    rename Below callerA _ [] _ => B9
    rename Frag.In _ _ => X9
    rename CodeHd _ _ _ => C9
    rename (_ < _ ∧ _ < _ ∧ _ < _ ∧ _ < _ ∧ 65 < _) => l9
    rename (_ < _ ∧ 65 < _) => l8
    refine Mine.loop_spec C9 X9 (by assumption) B9 F9 N9 (.tail _ (.tail _ (.tail _ (.tail _ (.head _))))) (.tail _ (.tail _ (.tail _ (.head _)))) (.tail _ (.tail _ (.tail _ (.tail _ (.tail _ (.head _)))))) (.head _) ?o1 l8.1 l9.2.2.1 hI ?hlen ?mr ?md rfl ?hroom ?hu rfl ?done
    case o1 => assumption
    case hlen => simp only [List.length_append, List.length_take, List.length_cons, List.length_nil]; omega
    case mr => exact (if_neg (by decide)).trans (if_pos rfl)
    case md => exact if_pos rfl
    case hroom => simp only [depth_deeper, depth_caller]; decide
    case hu => simp only [units_deeper, units_caller]; decide
    case done =>
      intro h2 tk2 m2 t2 F2 N2
      clear F9 N9
      (try dsimp only)
      k_steps
